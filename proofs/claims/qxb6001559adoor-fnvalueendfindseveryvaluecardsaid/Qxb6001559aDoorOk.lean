import Derived.Test.Qxb6001559aDoorSteps
/-! WHAT HOLDS OF A STATE on the road, and the steps that keep it. -/
namespace Go.Proofs.Qxb6001559aDoor
open Go.RowKit Plain

structure Ok (strs : List ByteArray) (N : Nat) (P : Prop) (st : St) : Prop where
  inv : Inv P st
  sz : Sz N st
  nx : st.next ≤ strs.length

theorem Sz.mono {N M : Nat} {st : St} (h : Sz N st) (hm : N ≤ M) : Sz M st :=
  ⟨Nat.le_trans h.o hm, Nat.le_trans h.s hm, Nat.le_trans h.e hm, Nat.le_trans h.k hm, Nat.le_trans h.c hm, Nat.le_trans h.l hm, fun c hc => Nat.le_trans (h.b c hc) hm⟩
theorem Ok.mono {strs : List ByteArray} {N M : Nat} {P P' : Prop} {st : St} (h : Ok strs N P st) (hm : N ≤ M) (hP : P → P') : Ok strs M P' st := ⟨h.inv.weak hP, h.sz.mono hm, h.nx⟩
theorem Sz.write {N : Nat} {st : St} (h : Sz N st) (x : Plain.Bs) : Sz (N + x.length) (st.write x) :=
  ⟨by have := h.o; simp [St.write]; omega, Nat.le_trans h.s (by omega), Nat.le_trans h.e (by omega), Nat.le_trans h.k (by omega), Nat.le_trans h.c (by omega), Nat.le_trans h.l (by omega), fun c hc => Nat.le_trans (h.b c hc) (by omega)⟩
theorem Sz.whole {N : Nat} {st : St} (h : Sz N st) (x : Plain.Bs) : Sz (N + x.length + 1) (st.whole x) :=
  ⟨by have := h.o; simp [St.whole]; omega, by have := h.s; simp [St.whole]; omega, by have := h.e; simp [St.whole]; omega, Nat.le_trans h.k (by omega), Nat.le_trans h.c (by omega), Nat.le_trans h.l (by omega), fun c hc => Nat.le_trans (h.b c hc) (by omega)⟩
theorem Ok.dl {strs : List ByteArray} {N : Nat} {P : Prop} {st : St} (h : Ok strs N P st) {c : UInt8} (hc : dl c) (hp : plain c) : Ok strs (N + 1) False (st.write [c]) := ⟨h.inv.dl hc hp, h.sz.write [c], h.nx⟩
theorem Ok.byte {strs : List ByteArray} {N : Nat} {st : St} (h : Ok strs N False st) {c : UInt8} (hp : plain c) : Ok strs (N + 1) False (st.write [c]) := ⟨h.inv.bal (fun _ hB => hB.byte hp), h.sz.write [c], h.nx⟩
theorem Ok.counts {strs : List ByteArray} {N : Nat} {P : Prop} {st : St} (h : Ok strs N P st) {cs : List Nat} (hc : cs.length = st.counts.length) (hb : ∀ c ∈ cs, c ≤ N) : Ok strs N P { st with counts := cs } :=
  ⟨h.inv.counts hc, ⟨h.sz.o, h.sz.s, h.sz.e, h.sz.k, by show cs.length ≤ _; rw [hc]; exact h.sz.c, h.sz.l, hb⟩, h.nx⟩
theorem Ok.bump {strs : List ByteArray} {N : Nat} {P : Prop} {st : St} (h : Ok strs N P st) : Ok strs N P (bump strs st) :=
  ⟨h.inv.nexts _, ⟨h.sz.o, h.sz.s, h.sz.e, h.sz.k, h.sz.c, h.sz.l, h.sz.b⟩, by unfold Proofs.Qxb6001559aDoor.bump; have := h.nx; simp only; split <;> omega⟩
theorem took_size {strs : List ByteArray} (hs : ∀ s ∈ strs, s.size ≤ 4096) (st : St) : (took strs st).size ≤ 4096 := by
  unfold took
  cases e : strs[st.next]? with
  | none => simp
  | some s => exact hs s (List.mem_of_getElem? e)
theorem Ok.enc {strs : List ByteArray} {N : Nat} {st : St} (h : Ok strs N False st) (sl : Bool) (s : ByteArray) (hs : s.size ≤ 4096) : Ok strs (N + 25000) False (st.whole (enc sl s.data.toList)) := by
  have hl := enc_len sl s.data.toList
  have hz : s.data.toList.length = s.size := by rw [Array.length_toList]; rfl
  exact ⟨h.inv.whole (fix_str (enc_str sl _)) (fun _ hB => hB.str (enc_str sl _)), (h.sz.whole _).mono (by omega), h.nx⟩
theorem Ok.scal {strs : List ByteArray} {N : Nat} {st : St} (h : Ok strs N False st) (s : ByteArray) (hs : Scal s) : Ok strs (N + 25000) True (st.whole s.data.toList) := by
  have hz : s.data.toList.length = s.size := by rw [Array.length_toList]; rfl
  obtain ⟨h1, h2, _, h4⟩ := hs
  exact ⟨h.inv.scal h1 h2, (h.sz.whole _).mono (by omega), h.nx⟩
theorem Ok.push {strs : List ByteArray} {N : Nat} {st : St} (h : Ok strs N False st) {o k : UInt8} (ho : opn o) (hk : cls k) : Ok strs (N + 25000) False (st.push o k) :=
  ⟨h.inv.push ho hk, ⟨by have := h.sz.o; simp [St.push]; omega, by have := h.sz.s; simp [St.push]; omega, by have := h.sz.e; simp [St.push]; omega, by have := h.sz.k; simp [St.push]; omega, by have := h.sz.c; simp [St.push]; omega, by have := h.sz.l; simp [St.push]; omega, fun c hc => (List.mem_append.1 hc).elim (fun hc => Nat.le_trans (h.sz.b c hc) (by omega)) (fun hc => by rw [List.mem_singleton.1 hc]; omega)⟩, h.nx⟩
theorem Ok.pop {strs : List ByteArray} {N : Nat} {P : Prop} {st : St} (h : Ok strs N P st) {k : UInt8} {slot : Nat} {ks : Plain.Bs} {ss : List Nat} (hk : st.kinds = ks ++ [k]) (hs : st.slots = ss ++ [slot]) : Ok strs (N + 1) False (st.pop k slot) :=
  ⟨h.inv.pop hk hs, ⟨by have := h.sz.o; simp [St.pop]; omega, by have := h.sz.s; show st.starts.length ≤ _; omega, by have := h.sz.e; simp [St.pop]; omega, by have := h.sz.k; simp [St.pop]; omega, by have := h.sz.c; simp [St.pop]; omega, by have := h.sz.l; simp [St.pop]; omega, fun c hc => by have := h.sz.b c (List.dropLast_subset _ hc); omega⟩, h.nx⟩
theorem list_last {α : Type} {l : List α} (h : l ≠ []) : ∃ a x, l = a ++ [x] := ⟨l.dropLast, l.getLast h, (List.dropLast_concat_getLast h).symm⟩
end Go.Proofs.Qxb6001559aDoor
