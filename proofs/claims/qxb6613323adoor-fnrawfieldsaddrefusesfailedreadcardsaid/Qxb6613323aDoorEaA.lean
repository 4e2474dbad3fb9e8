/-
  ZZaddFailing (15); 'St' behind it; zzb1Clone (14), zzb1SpanIs (16), ZZrawCount where there is one field, the length test (13).
-/
import Derived.Test.Qxb6613323aDoorDoO
import Derived.Test.Qxb6613323aDoorDoZ
namespace Go.Proofs.Qxb6613323aDoor.Do
open Go.ChangeShapes Go.WideShapes Go.ChangeAt Go.RowKit

/-- a call that lays one new block. -/
def Laid (n : Nat) (o : Obj) (w w' : World) : Prop := w'.heap[n]? = some o ∧ w'.heap.size = n + 1 ∧ Below n w w'
theorem laid_alloc {w : World} {n : Nat} (h : w.heap.size = n) (o : Obj) : Laid n o w (w.alloc o) := by
  subst h
  exact ⟨heap_alloc_new w o, alloc_size w o, (Below.refl _ _).alloc (Nat.le_refl _) _⟩

theorem new18 (n : Nat) (a : Option Addr) (m c : Nat) (w : World) (h : w.heap.size = n) :
    Calls Tryd.prog 18 #[.slice a m c] w fun e w' => e = .returned (.pointer (some ⟨n, 0, none⟩)) ∧ Laid n (.cells #[.slice a m c, .int .i64 0, .int .i64 (-1)] 64 (0, 0)) w w' := by
  refine (newReader18 a m c w).mono ?_
  rintro e w' ⟨rfl, rfl⟩
  exact ⟨by rw [h], laid_alloc h _⟩
theorem new22 (n : Nat) (s : ByteArray) (w : World) (h : w.heap.size = n) :
    Calls Tryd.prog 22 #[.string s] w fun e w' => e = .returned (.iface 73 (.pointer (some ⟨n, 0, none⟩))) ∧ Laid n (.cells #[.string s] 75 (0, 0)) w w' := by
  refine (newErr22 s w).mono ?_
  rintro e w' ⟨rfl, rfl⟩
  exact ⟨by rw [h], laid_alloc h _⟩
theorem new21 (n : Nat) (x : Addr) (w : World) (h : w.heap.size = n) :
    Calls Tryd.prog 21 #[.iface 73 (.pointer (some x))] w fun e w' => e = .returned (.iface 70 (.pointer (some ⟨n, 0, none⟩))) ∧ Laid n (.cells #[.iface 73 (.pointer (some x))] 72 (0, 0)) w w' := by
  refine (errReader21 x w).mono ?_
  rintro e w' ⟨rfl, rfl⟩
  exact ⟨by rw [h], laid_alloc h _⟩
theorem new20 (n m : Nat) (w : World) (ab : Nat) (x y : Addr) (hn : w.heap.size = n) (hm : n + 1 = m) (h : w.heap[ab]? = some (.cells #[.iface 46 (.pointer (some x)), .iface 70 (.pointer (some y))] 54 (0, 0))) :
    Calls Tryd.prog 20 #[.slice (some ⟨ab, 0, none⟩) 2 2] w fun e w' => e = .returned (.iface 67 (.pointer (some ⟨m, 0, none⟩))) ∧
      w'.heap[n]? = some (.cells #[.iface 46 (.pointer (some x)), .iface 70 (.pointer (some y))] 54 (0, 0)) ∧ w'.heap[m]? = some (.cells #[.slice (some ⟨n, 0, none⟩) 2 2] 69 (0, 0)) ∧ w'.heap.size = m + 1 ∧ Below n w w' := by
  subst hn hm
  exact multi20 w ab _ _ h rfl rfl

set_option maxHeartbeats 2000000 in
theorem addFailing15 {N sb : Nat} {w : World} {S : List Int} {g : Option Nat} {fs : Value} {n : Nat} {xs : List Value} (h : AD N w sb S g fs n xs) (s : ByteArray) (a : Option Addr) (l : List Int) (m c : Nat) (hm : l.length = m) (hrd : Rd w a l) (hN1 : 1 < N) (hlc : l.length ≤ c)
    (hab : ∀ b o, a = some ⟨b, o, none⟩ → l ≠ [] → b ≠ sb ∧ g ≠ some b ∧ fs.ownBlock ≠ some b ∧ N ≤ b)
    (aE : Addr) (ca : Array Value) (ta : TypeId) (hE : w.cell? ⟨1, 0, none⟩ = some (.iface 73 (.pointer (some aE)))) (hee : w.heap[aE.block]? = some (.cells ca ta (0, 0))) (hae : aE.block < N)
    (hq2 : ∀ W, (binOp .eql 34 .nilIface (.iface 73 (.pointer (some aE)))).run Tryd.prog W = .ok (.bool false) W)
    (hlim : S.length + s.size + l.length ≤ 1048576) (K : Nat → Prop) (hK : ∀ k, K k → k < w.heap.size ∧ k ≠ sb ∧ g ≠ some k ∧ fs.ownBlock ≠ some k ∧ ∀ o, a = some ⟨k, o, none⟩ → l = []) :
    Calls Tryd.prog 15 #[.pointer (some ⟨sb, 0, none⟩), .string s, .slice a m c] w fun e w' => (∃ x : Addr, e = .returned (.iface 73 (.pointer (some x)))) ∧ AddedF N w sb S g fs n xs (bl s) l K w' := by
  subst hm
  have CA : Hid (∀ (W5 : World) (e5 : ByteArray), Below w.heap.size w W5 → W5.heap.size = w.heap.size + 6 → W5.heap[w.heap.size]? = some (.cells #[.slice a l.length c, .int .i64 0, .int .i64 (-1)] 64 (0, 0)) → W5.heap[w.heap.size + 1]? = some (.cells #[.string e5] 75 (0, 0)) →
      W5.heap[w.heap.size + 2]? = some (.cells #[.iface 73 (.pointer (some ⟨w.heap.size + 1, 0, none⟩))] 72 (0, 0)) → W5.heap[w.heap.size + 4]? = some (.cells #[.iface 46 (.pointer (some ⟨w.heap.size, 0, none⟩)), .iface 70 (.pointer (some ⟨w.heap.size + 2, 0, none⟩))] 54 (0, 0)) →
      W5.heap[w.heap.size + 5]? = some (.cells #[.slice (some ⟨w.heap.size + 4, 0, none⟩) 2 2] 69 (0, 0)) → Calls Tryd.prog 17 #[.pointer (some ⟨sb, 0, none⟩), .string s, .iface 67 (.pointer (some ⟨w.heap.size + 5, 0, none⟩))] W5 fun e w' => e = .returned (.iface 73 (.pointer (some ⟨w.heap.size + 1, 0, none⟩))) ∧ AddedF N w sb S g fs n xs (bl s) l K w') :=
    fun W5 e5 b5 z5 m0 m1 m2 m4 m5 => addMulti h s e5 a l c hrd hN1 hlc hab aE ca ta hE hee hae hq2 hlim K hK b5 z5 m0 m1 m2 m4 m5
  clear h hrd hab hE hee hK
  go_enter Tryd.func15, Tryd.ntmps15
  go_wp2_with fail
  refine Calls.mono (new18 w.heap.size _ _ _ _ rfl) ?_
  rintro e W1 ⟨rfl, l1⟩
  have L1 : Hid (Laid w.heap.size (.cells #[.slice a l.length c, .int .i64 0, .int .i64 (-1)] 64 (0, 0)) w W1) := l1
  clear l1
  go_wp2_with fail
  refine Calls.mono (new22 (w.heap.size + 1) _ _ L1.out.2.1) ?_
  rintro e W2 ⟨rfl, l2⟩
  have L2 : Hid (Laid (w.heap.size + 1) (.cells #[.string _] 75 (0, 0)) W1 W2) := l2
  clear l2
  go_wp2_with fail
  refine Calls.mono (new21 (w.heap.size + 2) _ _ L2.out.2.1) ?_
  rintro e W3 ⟨rfl, l3⟩
  have L3 : Hid (Laid (w.heap.size + 2) (.cells #[.iface 73 (.pointer (some ⟨w.heap.size + 1, 0, none⟩))] 72 (0, 0)) W2 W3) := l3
  clear l3
  go_wp2_with fail
  refine Calls.mono (new20 (w.heap.size + 4) (w.heap.size + 5) _ W3.heap.size ⟨w.heap.size, 0, none⟩ ⟨w.heap.size + 2, 0, none⟩ (by rw [alloc_size, L3.out.2.1]) rfl (heap_alloc_new W3 _)) ?_
  rintro e W5 ⟨rfl, h4, h5, z5, b5⟩
  have HF : Hid (Calls Tryd.prog 17 #[.pointer (some ⟨sb, 0, none⟩), .string s, .iface 67 (.pointer (some ⟨w.heap.size + 5, 0, none⟩))] W5 fun e w' => e = .returned (.iface 73 (.pointer (some ⟨w.heap.size + 1, 0, none⟩))) ∧ AddedF N w sb S g fs n xs (bl s) l K w') := by
    have z3 := L3.out.2.1
    have b34 : Below (w.heap.size + 3) W3 W5 := by
      have ha : Below (w.heap.size + 3) W3 (W3.alloc (.cells #[.iface 46 (.pointer (some ⟨w.heap.size, 0, none⟩)), .iface 70 (.pointer (some ⟨w.heap.size + 2, 0, none⟩))] 54)) := (Below.refl _ _).alloc (by omega) _
      exact ha.trans (b5.mono (by omega))
    have b2 := L3.out.2.2
    have b1 := L2.out.2.2
    have b0 := L1.out.2.2
    refine CA.out W5 { data := #[122, 122, 58, 32, 114, 101, 97, 100, 32, 102, 97, 105, 108, 101, 100] } (b0.trans ((b1.mono (by omega)).trans ((b2.mono (by omega)).trans (b34.mono (by omega))))) z5 ?_ ?_ ?_ h4 h5
    · exact (b34.block _ (by omega)).trans ((b2.block _ (by omega)).trans ((b1.block _ (by omega)).trans L1.out.1))
    · exact (b34.block _ (by omega)).trans ((b2.block _ (by omega)).trans L2.out.1)
    · exact (b34.block _ (by omega)).trans L3.out.1
  clear h4 h5 z5 b5 CA
  go_wp2_with fail
  refine Calls.mono HF.out ?_
  rintro e W6 ⟨rfl, hA⟩
  go_wp2_with fail
  go_ret
  exact ⟨⟨_, rfl⟩, hA⟩

theorem St.addFailing {N : Nat} {w W : World} {sb : Nat} {S : List Int} {n : Nat} {xs : List Value} {aE : Addr} {rs : List (Option Addr × List Int)} {a : Option Addr} {l : List Int} {ca : Array Value} {ta : TypeId} (h : St N w sb S n xs (.iface 73 (.pointer (some aE))) ((a, l) :: rs) W) (s : ByteArray) (m c : Nat) (hm : l.length = m) (hmc : m ≤ c) (hN1 : 1 < N)
    (hee : w.heap[aE.block]? = some (.cells ca ta (0, 0))) (hae : aE.block < N)
    (hdis : ∀ r ∈ rs, ∀ b o o', a = some ⟨b, o, none⟩ → r.1 = some ⟨b, o', none⟩ → l = [] ∨ r.2 = [])
    (hq2 : ∀ W, (binOp .eql 34 .nilIface (.iface 73 (.pointer (some aE)))).run Tryd.prog W = .ok (.bool false) W)
    (hlim : S.length + s.size + m ≤ 1048576) :
    Calls Tryd.prog 15 #[.pointer (some ⟨sb, 0, none⟩), .string s, .slice a m c] W fun e w' => (∃ x : Addr, e = .returned (.iface 73 (.pointer (some x)))) ∧ St N w sb (S ++ bl s ++ l) n xs (.iface 73 (.pointer (some aE))) rs w' := by
  subst hm
  obtain ⟨g, fs, h1, h2, h3, h4, h5⟩ := h
  have ha := h3 (a, l) (List.mem_cons_self)
  have hnsb := h1.nsb
  have hsl := h1.sk.lt
  refine Calls.mono (addFailing15 h1 s a l _ c rfl ha.1 hN1 hmc ?_ aE ca ta h4 ((h5.block _ hae).trans hee) hae hq2 hlim (fun k => k < sb ∧ ∀ o, a = some ⟨k, o, none⟩ → l = []) ?_) ?_
  · intro b o e hl
    have hb := ha.2 b o e hl
    refine ⟨by omega, fun e2 => ?_, fun e2 => ?_, hb.1⟩
    · have := h2 b (.inl e2); omega
    · have := h2 b (.inr e2); omega
  · intro k hk
    refine ⟨by omega, by omega, fun e2 => ?_, fun e2 => ?_, hk.2⟩
    · have := h2 k (.inl e2); omega
    · have := h2 k (.inr e2); omega
  · rintro e w' ⟨he, g', hAD, hg, hKp⟩
    refine ⟨he, g', fs, hAD, ?_, ?_, ?_, ?_⟩
    · rintro k (e2 | e2)
      · rcases hg with e | ⟨k', e, hk⟩
        · exact h2 k (.inl (e.symm.trans e2))
        · rw [e] at e2; cases e2; omega
      · exact h2 k (.inr e2)
    · intro r hm
      have hr := h3 r (List.mem_cons_of_mem _ hm)
      refine ⟨hr.1.same (fun k o e hl => hKp.block k ⟨(hr.2 k o e hl).2, fun o' e' => ?_⟩), hr.2⟩
      rcases hdis r hm k o' o e' e with h | h
      · exact h
      · exact absurd h hl
    · refine (World.cell?_of_block (w := W) (hKp.block 1 ⟨by omega, fun o e => ?_⟩)).trans h4
      by_cases hl : l = []
      · exact hl
      · have := (ha.2 1 o e hl).1; omega
    · refine h5.trans ⟨hKp.os, hKp.tape, hKp.output, hKp.size, fun k hk => hKp.block k ⟨by omega, fun o e => ?_⟩⟩
      by_cases hl : l = []
      · exact hl
      · have := (ha.2 k o e hl).1; omega

end Go.Proofs.Qxb6613323aDoor.Do
