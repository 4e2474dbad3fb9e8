/-
  ZZaddBytes (8): NewReader (18), then Add.
-/
import Derived.Test.Qxb6613323aDoorDoK
import Derived.Test.Qxb6613323aDoorDoL
namespace Go.Proofs.Qxb6613323aDoor.Do
open Go.ChangeShapes Go.WideShapes Go.ChangeAt Go.RowKit

set_option maxHeartbeats 400000 in
theorem newReader18 (a : Option Addr) (n c : Nat) (w : World) :
    Calls Tryd.prog 18 #[.slice a n c] w fun e w' => e = .returned (.pointer (some ⟨w.heap.size, 0, none⟩)) ∧ w.alloc (.cells #[.slice a n c, .int .i64 0, .int .i64 (-1)] 64) = w' := by
  go_enter Tryd.func18, Tryd.ntmps18
  go_wp2
  go_ret
  exact ⟨rfl, rfl⟩

theorem alloc_new (w : World) (o : Obj) : (w.alloc o).heap[w.heap.size]? = some o := heap_alloc_new w o
theorem alloc_old (w : World) (o : Obj) {k : Nat} (hk : k < w.heap.size) : (w.alloc o).heap[k]? = w.heap[k]? := Below.heap_alloc _ _ _ hk
theorem alloc_size (w : World) (o : Obj) : (w.alloc o).heap.size = w.heap.size + 1 := by
  show (w.heap.push o).size = _
  simp

theorem AD.row_lt {N sb : Nat} {w : World} {S : List Int} {g : Option Nat} {fs : Value} {n : Nat} {xs : List Value} (h : AD N w sb S g fs n xs) (k : Nat) (hk : g = some k) : k < w.heap.size := by
  subst hk; exact h.sk.row_lt

theorem AD.alloc {N sb : Nat} {w : World} {S : List Int} {g : Option Nat} {fs : Value} {n : Nat} {xs : List Value} (h : AD N w sb S g fs n xs) (o : Obj) : AD N (w.alloc o) sb S g fs n xs :=
  ⟨h.sk.same (alloc_old w o h.sk.lt) (fun k hk => alloc_old w o (h.row_lt k hk)), h.own.alloc o, h.nsb, h.gN, h.ns, Nat.le_trans h.low (alloc_le w o)⟩

/-- in another world that has her blocks as they were. -/
theorem AD.same {N sb : Nat} {w w' : World} {S : List Int} {g : Option Nat} {fs : Value} {n : Nat} {xs : List Value} (h : AD N w sb S g fs n xs) (hz : w.heap.size ≤ w'.heap.size) (hk : ∀ k, k = sb ∨ g = some k ∨ fs.ownBlock = some k → w'.heap[k]? = w.heap[k]?) : AD N w' sb S g fs n xs := by
  refine ⟨h.sk.same (hk sb (.inl rfl)) (fun k e => hk k (.inr (.inl e))), ⟨h.own.1, ?_⟩, h.nsb, h.gN, h.ns, Nat.le_trans h.low hz⟩
  rcases h.own.2 with e | ⟨fb, cap, cur, e1, e2, e3, e4⟩
  · exact .inl e
  · exact .inr ⟨fb, cap, cur, e1, e2, (hk fb (.inr (.inr (by rw [e1]; rfl)))).trans e3, e4⟩

/-- what an Add leaves. -/
def Added (N : Nat) (w : World) (sb : Nat) (S : List Int) (g : Option Nat) (fs : Value) (n : Nat) (xs : List Value) (s : Nat) (name rest : List Int) (K : Nat → Prop) (w' : World) : Prop :=
  ∃ g' fs', AD N w' sb (S ++ name ++ rest) g' fs' (n + 1) (xs ++ F4 S.length (S.length + s) (S.length + s) (S.length + s + rest.length)) ∧
      (g' = g ∨ ∃ k, g' = some k ∧ w.heap.size ≤ k) ∧ (fs'.ownBlock = fs.ownBlock ∨ ∃ k, fs'.ownBlock = some k ∧ w.heap.size ≤ k) ∧ Kp K w w'

set_option maxHeartbeats 1000000 in
theorem addBytes8 {N sb : Nat} {w : World} {S : List Int} {g : Option Nat} {fs : Value} {n : Nat} {xs : List Value} (h : AD N w sb S g fs n xs) (s : ByteArray) (a : Option Addr) (l : List Int) (c : Nat) (hrd : Rd w a l) (hN1 : 1 < N) (hlc : l.length ≤ c)
    (hab : ∀ b o, a = some ⟨b, o, none⟩ → l ≠ [] → b ≠ sb ∧ g ≠ some b ∧ fs.ownBlock ≠ some b ∧ b ≠ 1)
    (tE : TypeId) (aE : Addr) (hE : w.cell? ⟨1, 0, none⟩ = some (.iface tE (.pointer (some aE))))
    (hq1 : ∀ W, (binOp .eql 34 (.iface tE (.pointer (some aE))) (.iface tE (.pointer (some aE)))).run Tryd.prog W = .ok (.bool true) W)
    (hq2 : ∀ W, (binOp .eql 34 .nilIface (.iface tE (.pointer (some aE)))).run Tryd.prog W = .ok (.bool false) W)
    (hn : n ≤ 1000) (hlim : S.length + s.size + l.length ≤ 1048576) (K : Nat → Prop) (hK : ∀ k, K k → k < w.heap.size ∧ k ≠ sb ∧ g ≠ some k ∧ fs.ownBlock ≠ some k ∧ ∀ o, a = some ⟨k, o, none⟩ → l = []) :
    Calls Tryd.prog 8 #[.pointer (some ⟨sb, 0, none⟩), .string s, .slice a l.length c] w fun e w' => e = .returned .nilIface ∧ Added N w sb S g fs n xs s.size (bl s) l K w' := by
  obtain ⟨o64, ho⟩ : ∃ o, o = Obj.cells #[.slice a l.length c, .int .i64 0, .int .i64 (-1)] 64 (0, 0) := ⟨_, rfl⟩
  have h1 : AD N (w.alloc o64) sb S g fs n xs := h.alloc o64
  have hz : (w.alloc o64).heap.size = w.heap.size + 1 := alloc_size w o64
  have hsl := h.sk.lt
  have hE1 := one_lt hE
  have hlow := h.low
  have hBR : BR w.heap.size a l c (.iface tE (.pointer (some aE))) (w.alloc o64) l := by
    refine ⟨0, -1, Nat.zero_le _, rfl, ?_, hrd.same (fun k o e hl => alloc_old w o64 (by subst e; exact hrd.lt hl)), ?_, (World.cell?_of_block (w := w) (alloc_old w o64 hE1)).trans hE, hlc, by omega, by omega⟩
    · unfold Rr; rw [alloc_new, ho]; rfl
    · intro b o e hl
      subst e
      have := hrd.lt hl
      omega
  have hD : ∀ k, k < w.heap.size → (∀ o, a = some ⟨k, o, none⟩ → l = []) → ¬ BD w.heap.size a l k := by
    rintro k hk h2 (rfl | ⟨hl, o, e⟩)
    · omega
    · exact hl (h2 o e)
  have hDs : ¬ BD w.heap.size a l sb := hD sb hsl (fun o e => by
    by_cases hl : l = []
    · exact hl
    · exact absurd rfl (hab sb o e hl).1)
  have CA : Hid (Calls Tryd.prog 17 #[.pointer (some ⟨sb, 0, none⟩), .string s, .iface 46 (.pointer (some ⟨w.heap.size, 0, none⟩))] (w.alloc o64) fun e w' => e = .returned .nilIface ∧ Added N w sb S g fs n xs s.size (bl s) l K w') := by
    refine Calls.mono (add17 (rest := l) h1 s K hn hlim (fun k hk => ⟨by have := (hK k hk).1; omega, (hK k hk).2.1, (hK k hk).2.2.1, (hK k hk).2.2.2.1⟩) ?_) ?_
    · intro W g1 hSk hg1 hM
      have hkeep : ∀ k, BD w.heap.size a l k ∨ k = 1 → W.heap[k]? = (w.alloc o64).heap[k]? := by
        intro k hk
        refine hM.block k ?_ ?_ ?_
        · rcases hk with hk | rfl
          · exact (reads47 _ a l c _).low _ _ k hBR hk
          · omega
        · rcases hk with hk | rfl
          · rintro rfl; exact hDs hk
          · have := h.nsb; omega
        · intro e
          have hkl := h.row_lt k e.symm
          rcases hk with hk | rfl
          · refine hD k hkl (fun o e2 => ?_) hk
            by_cases hl : l = []
            · exact hl
            · exact absurd e.symm (hab k o e2 hl).2.1
          · have := (h.gN 1 e.symm).1; omega
      refine rf25 sb w.heap.size tE aE _ (BD w.heap.size a l) (fun k => K k ∨ fs.ownBlock = some k) (reads47 w.heap.size a l c _) hq1 hq2 g1 (S ++ bl s) l fs W hSk ((reads47 _ a l c _).stab _ _ _ hBR hkeep) hDs (by have := h.nsb; omega) ?_ (by rw [List.length_append, bl_length]; exact hlim) ?_ ?_ ?_
      · intro k hk
        rcases hg1 with e | ⟨k2, e, hk2⟩
        · rw [e] at hk
          have hkl := h.row_lt k hk
          refine ⟨hD k hkl (fun o e2 => ?_), by have := (h.gN k hk).1; omega, ?_⟩
          · by_cases hl : l = []
            · exact hl
            · exact absurd hk (hab k o e2 hl).2.1
          · rintro (h2 | h2)
            · exact (hK k h2).2.2.1 hk
            · exact (h.gN k hk).2 h2
        · rw [e] at hk
          cases hk
          refine ⟨?_, by omega, ?_⟩
          · intro hd
            have := (reads47 _ a l c _).low _ _ k hBR hd
            omega
          · rintro (h2 | h2)
            · have := (hK k h2).1; omega
            · have := (h.own.lt k h2).2; omega
      · rintro (h2 | h2)
        · exact (hK sb h2).2.1 rfl
        · exact h.ns h2
      · rintro k (h2 | h2)
        · have := (hK k h2).1; have := hM.size; omega
        · have := (h.own.lt k h2).2; have := hM.size; omega
      · rintro k (h2 | h2)
        · exact hD k (hK k h2).1 (hK k h2).2.2.2.2
        · refine hD k (h.own.lt k h2).2 (fun o e2 => ?_)
          by_cases hl : l = []
          · exact hl
          · exact absurd h2 (hab k o e2 hl).2.2.1
    · rintro e w' ⟨he, g', fs', hAD, hg, hf, hKp⟩
      refine ⟨he, g', fs', hAD, ?_, ?_, ?_⟩
      · rcases hg with e | ⟨k, e, hk⟩
        · exact .inl e
        · exact .inr ⟨k, e, by omega⟩
      · rcases hf with e | ⟨k, e, hk⟩
        · exact .inl e
        · exact .inr ⟨k, e, by omega⟩
      · exact Kp.trans (w2 := w.alloc o64) ⟨rfl, rfl, rfl, by omega, fun k hk => alloc_old w o64 (hK k hk).1⟩ hKp
  rw [ho] at CA
  clear hBR hD hDs h1 hK hab hrd h hE hz
  go_enter Tryd.func8, Tryd.ntmps8
  go_wp2_with fail
  refine Calls.mono (newReader18 _ _ _ _) ?_
  rintro e W1 ⟨rfl, rfl⟩
  go_wp2_with fail
  refine Calls.mono CA.out ?_
  rintro e W2 ⟨rfl, hA⟩
  go_wp2_with fail
  go_ret
  exact ⟨rfl, hA⟩

end Go.Proofs.Qxb6613323aDoor.Do
