/-
  The multiReader over a bytes.Reader and a failing reader is such a reader.
-/
import Derived.Test.Qxb6613323aDoorDoW
namespace Go.Proofs.Qxb6613323aDoor.Do
open Go.ChangeShapes Go.WideShapes Go.ChangeAt Go.RowKit

/-- the multiReader in block mb, its readers' row rr: the bytes.Reader in rb, the failing reader in eb, its error in xb. -/
structure MR (mb rr rb eb xb : Nat) (a : Option Addr) (l : List Int) (c : Nat) (E : Value) (s : ByteArray) (w : World) (rest : List Int) : Prop where
  br : BR rb a l c E w rest
  c0 : w.heap[mb]? = some (.cells #[.slice (some ⟨rr, 0, none⟩) 2 2] 69 (0, 0))
  row : w.heap[rr]? = some (.cells #[.iface 46 (.pointer (some ⟨rb, 0, none⟩)), .iface 70 (.pointer (some ⟨eb, 0, none⟩))] 54 (0, 0))
  ex : w.heap[eb]? = some (.cells #[.iface 73 (.pointer (some ⟨xb, 0, none⟩))] 72 (0, 0))
  xx : w.heap[xb]? = some (.cells #[.string s] 75 (0, 0))
  nb : ∀ k o, a = some ⟨k, o, none⟩ → l ≠ [] → k ≠ mb ∧ k ≠ rr ∧ k ≠ eb ∧ k ≠ xb

/-- her own blocks. -/
def MD (mb rr rb eb xb : Nat) (a : Option Addr) (l : List Int) (k : Nat) : Prop := BD rb a l k ∨ k = mb ∨ k = rr ∨ k = eb ∨ k = xb

/-- the blocks are different ones. -/
structure Apart (mb rr rb eb xb : Nat) : Prop where
  h1 : mb ≠ rr
  h2 : mb ≠ rb
  h3 : mb ≠ eb
  h4 : mb ≠ xb
  h5 : rr ≠ rb
  h6 : rr ≠ eb
  h7 : rr ≠ xb
  h8 : rb ≠ eb
  h9 : rb ≠ xb
  h10 : eb ≠ xb
  o1 : mb ≠ 1
  o2 : rr ≠ 1
  o3 : rb ≠ 1
  o4 : eb ≠ 1
  o5 : xb ≠ 1

theorem cell_of_block {w : World} {b i : Nat} {cs : Array Value} {t : TypeId} {v : Value} (h : w.heap[b]? = some (.cells cs t (0, 0))) (hv : cs[i]? = some v) : w.cell? ⟨b, i, none⟩ = some v := by
  simp [World.cell?, h, hv]
theorem free_of_block {w : World} {b i : Nat} {cs : Array Value} {t : TypeId} (h : w.heap[b]? = some (.cells cs t (0, 0))) : w.frozen? ⟨b, i, none⟩ = false := by
  simp [World.frozen?, h]

/-- X's block and io.EOF's, as they are. -/
theorem eql_other {W : World} {aE : Addr} {xb : Nat} {ca cx : Array Value} {ta tx : TypeId} (hne : (⟨xb, 0, none⟩ : Addr) ≠ aE) (hx : W.heap[xb]? = some (.cells cx tx (0, 0))) (ha : W.heap[aE.block]? = some (.cells ca ta (0, 0))) :
    (binOp .eql 34 (.iface 73 (.pointer (some ⟨xb, 0, none⟩))) (.iface 73 (.pointer (some aE)))).run Tryd.prog W = .ok (.bool false) W ∧ (binOp .neq 34 (.iface 73 (.pointer (some ⟨xb, 0, none⟩))) (.iface 73 (.pointer (some aE)))).run Tryd.prog W = .ok (.bool true) W := by
  have h1 : (Tryd.prog.info? 73).map (·.comparable) = some true := by kernel_rfl
  have h2 : (Tryd.prog.info? 75).map (·.size) = some 1 := by kernel_rfl
  cases hi : Tryd.prog.info? 73 with
  | none => rw [hi] at h1; cases h1
  | some i =>
    rw [hi] at h1
    cases hj : Tryd.prog.info? 75 with
    | none => rw [hj] at h2; cases h2
    | some j =>
      rw [hj] at h2
      have hs : j.size ≠ 0 := by
        have : j.size = 1 := by simpa using h2
        omega
      exact ⟨run_eql_iface_ptr_other W Tryd.underlying34 Tryd.underlying73 hi (by simpa using h1) hj hs hne hx ha, run_neq_iface_ptr_other W Tryd.underlying34 Tryd.underlying73 hi (by simpa using h1) hj hs hne hx ha⟩
theorem same_other {aE : Addr} (W : World) : (binOp .eql 34 (.iface 73 (.pointer (some aE))) (.iface 73 (.pointer (some aE)))).run Tryd.prog W = .ok (.bool true) W ∧ (binOp .neq 34 (.iface 73 (.pointer (some aE))) (.iface 73 (.pointer (some aE)))).run Tryd.prog W = .ok (.bool false) W := by
  have h1 : (Tryd.prog.info? 73).map (·.comparable) = some true := by kernel_rfl
  have h2 : (Tryd.prog.info? 75).isSome = true := by kernel_rfl
  cases hi : Tryd.prog.info? 73 with
  | none => rw [hi] at h1; cases h1
  | some i =>
    rw [hi] at h1
    cases hj : Tryd.prog.info? 75 with
    | none => rw [hj] at h2; cases h2
    | some j => exact ⟨run_eql_iface_ptr_same W aE Tryd.underlying34 Tryd.underlying73 hi (by simpa using h1) hj, run_neq_iface_ptr_same W aE Tryd.underlying34 Tryd.underlying73 hi (by simpa using h1) hj⟩

theorem readsF51 (mb rr rb eb xb : Nat) (a : Option Addr) (l : List Int) (c : Nat) (aE : Addr) (s : ByteArray) (ca : Array Value) (ta : TypeId) (hA : Apart mb rr rb eb xb) (hae : aE.block ≠ mb ∧ aE.block ≠ rr) (hne : (⟨xb, 0, none⟩ : Addr) ≠ aE)
    (hq2 : ∀ W, (binOp .eql 34 .nilIface (.iface 73 (.pointer (some aE)))).run Tryd.prog W = .ok (.bool false) W) :
    ReadsF 51 (.pointer (some ⟨mb, 0, none⟩)) (.iface 73 (.pointer (some ⟨xb, 0, none⟩))) (.iface 73 (.pointer (some aE))) (MR mb rr rb eb xb a l c (.iface 73 (.pointer (some aE))) s) (MD mb rr rb eb xb a l)
      (fun w => w.heap[aE.block]? = some (.cells ca ta (0, 0))) (fun w => w.heap[xb]? = some (.cells #[.string s] 75 (0, 0))) := by
  have R := reads47 rb a l c (.iface 73 (.pointer (some aE)))
  have hBD : ∀ w rest k, MR mb rr rb eb xb a l c (.iface 73 (.pointer (some aE))) s w rest → (k = mb ∨ k = rr ∨ k = eb ∨ k = xb) → ¬ BD rb a l k := by
    rintro w rest k h hk (rfl | ⟨hl, o, e⟩)
    · rcases hk with hk | hk | hk | hk
      · exact hA.h2 hk.symm
      · exact hA.h5 hk.symm
      · exact hA.h8 hk
      · exact hA.h9 hk
    · have := h.nb k o e hl
      rcases hk with hk | hk | hk | hk
      · exact this.1 hk
      · exact this.2.1 hk
      · exact this.2.2.1 hk
      · exact this.2.2.2 hk
  refine ⟨?_, ?_, ?_, ?_, ?_⟩
  · intro w w' rest h hk
    refine ⟨R.stab w w' rest h.br (fun k hk2 => hk k ?_), (hk mb (.inl (.inr (.inl rfl)))).trans h.c0, (hk rr (.inl (.inr (.inr (.inl rfl))))).trans h.row, (hk eb (.inl (.inr (.inr (.inr (.inl rfl)))))).trans h.ex, (hk xb (.inl (.inr (.inr (.inr (.inr rfl)))))).trans h.xx, h.nb⟩
    rcases hk2 with hk2 | hk2
    · exact .inl (.inl hk2)
    · exact .inr hk2
  · intro w rest k h hk
    rcases hk with hk | rfl | rfl | rfl | rfl
    · exact R.low w rest k h.br hk
    · exact (Array.getElem?_eq_some_iff.1 h.c0).1
    · exact (Array.getElem?_eq_some_iff.1 h.row).1
    · exact (Array.getElem?_eq_some_iff.1 h.ex).1
    · exact (Array.getElem?_eq_some_iff.1 h.xx).1
  · intro w rest h
    exact R.eof w rest h.br
  · intro w g o dl dc cur h hok hD hg1 hg hfit hdl hcm
    have hE := R.eof w [] h.br
    refine Calls.mono (multi_last mb rr rb eb g o dl dc 73 aE ⟨xb, 0, none⟩ w (cell_of_block h.c0 rfl) (free_of_block h.c0) (cell_of_block h.row rfl) (cell_of_block h.row rfl) (free_of_block h.row) (cell_of_block h.ex rfl) hE hA.h1 (Ne.symm hA.h6) (Ne.symm hA.h3) hA.o2 hA.o1 (fun W => (same_other W).1) (fun W => (same_other W).2) ?_ ?_) ?_
    · intro W hK
      exact eql_other hne ((hK.block xb ⟨Ne.symm hA.h4, Ne.symm hA.h7⟩).trans h.xx) ((hK.block aE.block hae).trans hok)
    · obtain ⟨i, pr, h1, h2, h3, h4, h5, h6, h7, h8, h9⟩ := h.br
      have hle : l.length ≤ i := by
        have := congrArg List.length h2
        rw [List.length_drop, List.length_nil] at this
        omega
      exact read_eof rb a l.length c i pr _ _ w h3 h6 hle
    · rintro e w' ⟨he, hK⟩
      refine ⟨he, (World.cell?_of_block (w := w) (hK.block 1 ⟨Ne.symm hA.o1, Ne.symm hA.o2⟩)).trans hE, (hK.block xb ⟨Ne.symm hA.h4, Ne.symm hA.h7⟩).trans h.xx, hK.mono fun k hk => ⟨fun e => hk.2 (.inr (.inl e)), fun e => hk.2 (.inr (.inr (.inl e)))⟩⟩
  · intro w rest g o dl dc cur h hne2 hD hg1 hg hfit hdl hcm
    have hE := R.eof w rest h.br
    have C47 := R.more w rest g o dl dc cur h.br hne2 (fun hd => hD (.inl hd)) hg1 hg hfit hdl hcm
    refine Calls.mono (multi_more mb rr rb g o dl dc 73 aE w (fun m w' => 1 ≤ m ∧ m ≤ dl ∧ m ≤ rest.length ∧ BR rb a l c (.iface 73 (.pointer (some aE))) w' (rest.drop m) ∧ w'.heap[g]? = some (.cells (cur.toList.take o ++ U (rest.take m) ++ cur.toList.drop (o + m)).toArray 5 (0, 0)) ∧ Kp (fun k => k < w.heap.size ∧ ¬ BD rb a l k ∧ k ≠ g) w w') (cell_of_block h.c0 rfl) (cell_of_block h.row rfl) hq2 ?_) ?_
    · refine Calls.mono C47 ?_
      rintro e w' ⟨m, he, h1, h2, h3, h4, h5, h6⟩
      exact ⟨m, he, h1, ⟨h1, h2, h3, h4, h5, h6⟩, R.eof _ _ h4⟩
    · rintro e w' ⟨m, he, h1, h2, h3, h4, h5, h6⟩
      have keep : ∀ k, k = mb ∨ k = rr ∨ k = eb ∨ k = xb → k < w.heap.size → w'.heap[k]? = w.heap[k]? := by
        intro k hk hlt
        refine h6.block k ⟨hlt, hBD w rest k h hk, ?_⟩
        rintro rfl
        exact hD (.inr hk)
      refine ⟨m, he, h1, h2, h3, ⟨h4, (keep mb (.inl rfl) (Array.getElem?_eq_some_iff.1 h.c0).1).trans h.c0, (keep rr (.inr (.inl rfl)) (Array.getElem?_eq_some_iff.1 h.row).1).trans h.row, (keep eb (.inr (.inr (.inl rfl))) (Array.getElem?_eq_some_iff.1 h.ex).1).trans h.ex, (keep xb (.inr (.inr (.inr rfl))) (Array.getElem?_eq_some_iff.1 h.xx).1).trans h.xx, h.nb⟩, h5, h6.mono fun k hk => ⟨hk.1, fun hd => hk.2.1 (.inl hd), hk.2.2⟩⟩

end Go.Proofs.Qxb6613323aDoor.Do
