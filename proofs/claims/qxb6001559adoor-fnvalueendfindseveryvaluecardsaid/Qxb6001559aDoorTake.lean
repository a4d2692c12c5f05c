import Derived.Test.Qxb6001559aDoorEnc
/-! SLICES OF STRINGS; THE WALK of takeString. -/
namespace Go.Proofs.Qxb6001559aDoor
open Go.RowKit Plain

def AtS (w : World) (b o : Nat) (L : List ByteArray) : Prop := ∀ (j : Nat) (h : j < L.length), w.cell? ⟨b, o + j, none⟩ = some (.string L[j])
/-- A slice of strings that reads as L. -/
def Ss (w : World) (v : Value) (L : List ByteArray) : Prop :=
  (v = .slice none 0 0 ∧ L = []) ∨ (∃ a c, v = .slice (some a) 0 c ∧ L = []) ∨
  (∃ b o c, v = .slice (some ⟨b, o, none⟩) L.length c ∧ 0 < L.length ∧ L.length ≤ c ∧ c ≤ maxLen ∧ AtS w b o L ∧ b < w.heap.size)

theorem Ss.form {w : World} {v : Value} {L : List ByteArray} (h : Ss w v L) : ∃ ao c, v = .slice ao L.length c ∧ L.length ≤ c := by
  rcases h with ⟨rfl, rfl⟩ | ⟨a, c, rfl, rfl⟩ | ⟨b, o, c, rfl, _, h, _⟩
  · exact ⟨none, 0, rfl, Nat.le_refl _⟩
  · exact ⟨some a, c, rfl, Nat.zero_le _⟩
  · exact ⟨_, c, rfl, h⟩
/-- At a slice written out. -/
theorem Ss.at {w : World} {ao : Option Addr} {n c : Nat} {L : List ByteArray} (h : Ss w (.slice ao n c) L) (hp : 0 < n) : ∃ b o, ao = some ⟨b, o, none⟩ ∧ n = L.length ∧ AtS w b o L ∧ b < w.heap.size := by
  rcases h with ⟨h, _⟩ | ⟨a, d, h, _⟩ | ⟨b, o, d, h, _, _, _, ha, hb⟩
  · injection h with e1 e2 e3; omega
  · injection h with e1 e2 e3; omega
  · injection h with e1 e2 e3
    exact ⟨b, o, e1, e2, ha, hb⟩
theorem Ss.len {w : World} {ao : Option Addr} {n c : Nat} {L : List ByteArray} (h : Ss w (.slice ao n c) L) : n = L.length := by
  rcases h with ⟨h, rfl⟩ | ⟨a, d, h, rfl⟩ | ⟨b, o, d, h, _⟩
  · injection h with e1 e2 e3
  · injection h with e1 e2 e3
  · injection h with e1 e2 e3
theorem Ss.later {w w' : World} {v : Value} {L : List ByteArray} (h : Ss w v L) (hb : Below w.heap.size w w') : Ss w' v L := by
  rcases h with h | h | ⟨b, o, c, rfl, h1, h2, h3, ha, h4⟩
  · exact .inl h
  · exact .inr (.inl h)
  · exact .inr (.inr ⟨b, o, c, rfl, h1, h2, h3, fun j hj => (hb.cell (p := ⟨b, o + j, none⟩) h4).trans (ha j hj), Nat.lt_of_lt_of_le h4 hb.size⟩)
theorem Ss.nil {w : World} {L : List ByteArray} (h : Ss w (.slice none 0 0) L) : L = [] := by
  rcases h with ⟨_, h⟩ | ⟨a, c, h, _⟩ | ⟨b, o, c, h, _⟩
  · exact h
  · cases h
  · cases h
theorem Ss.none_nil {w : World} {n c : Nat} {L : List ByteArray} (h : Ss w (.slice none n c) L) : L = [] := by
  rcases h with ⟨_, h⟩ | ⟨a, c, h, _⟩ | ⟨b, o, c, h, _⟩
  · exact h
  · cases h
  · cases h
theorem below2 {B : Nat} {w w1 w2 : World} (h : Below B w w1) (h2 : Below w1.heap.size w1 w2) (hB : B ≤ w.heap.size := by simp) : Below B w w2 :=
  h.trans (h2.mono (Nat.le_trans hB h.size))
theorem Ss.drawn {w : World} {v : Value} {L : List ByteArray} (h : Ss w v L) (q : Nat) : Ss (w.drewN q) v L := h.later (below_drewN (Below.refl _ _) q)

/-- A slice of strings that lies below block B. -/
def SB (w : World) (B : Nat) (v : Value) (L : List ByteArray) : Prop :=
  (∃ ao c, v = .slice ao 0 c ∧ L = []) ∨ (∃ b o c, v = .slice (some ⟨b, o, none⟩) L.length c ∧ 0 < L.length ∧ AtS w b o L ∧ b < B)
theorem SB.later {w w' : World} {B : Nat} {v : Value} {L : List ByteArray} (h : SB w B v L) (hb : Below B w w') : SB w' B v L := by
  rcases h with h | ⟨b, o, c, e, h0, ha, hlt⟩
  · exact .inl h
  · exact .inr ⟨b, o, c, e, h0, fun j hj => (hb.cell (p := ⟨b, o + j, none⟩) hlt).trans (ha j hj), hlt⟩
theorem SB.of {w : World} {B : Nat} {v : Value} {L : List ByteArray} (h : Ss w v L) (hB : w.heap.size ≤ B) : SB w B v L := by
  rcases h with ⟨rfl, rfl⟩ | ⟨a, c, rfl, rfl⟩ | ⟨b, o, c, rfl, h1, _, _, ha, h4⟩
  · exact .inl ⟨none, 0, rfl, rfl⟩
  · exact .inl ⟨some a, c, rfl, rfl⟩
  · exact .inr ⟨b, o, c, rfl, h1, ha, by omega⟩
theorem SB.form {w : World} {B : Nat} {v : Value} {L : List ByteArray} (h : SB w B v L) : ∃ ao c, v = .slice ao L.length c := by
  rcases h with ⟨ao, c, rfl, rfl⟩ | ⟨b, o, c, rfl, _⟩
  · exact ⟨ao, c, rfl⟩
  · exact ⟨_, c, rfl⟩
theorem SB.at {w : World} {B : Nat} {ao : Option Addr} {n c : Nat} {L : List ByteArray} (h : SB w B (.slice ao n c) L) {k : Nat} (hk : k < L.length) : ∃ b o, ao = some ⟨b, o, none⟩ ∧ AtS w b o L ∧ b < B := by
  rcases h with ⟨ao, c, e, rfl⟩ | ⟨b, o, c, e, _, ha, hb⟩
  · simp at hk
  · injection e with e1 _ _
    exact ⟨b, o, e1, ha, hb⟩

/-- What takeString hands out, and the next state. -/
def took (strs : List ByteArray) (st : St) : ByteArray := strs[st.next]?.getD ByteArray.empty
def bump (strs : List ByteArray) (st : St) : St := { st with next := if st.next < strs.length then st.next + 1 else st.next }
theorem X_next (st : St) (n : Nat) : X { st with next := n } = X st := by
  funext i
  unfold X
  rfl
theorem JB.nexts {w : World} {B : Nat} {R : Nat → Value} {sv : Value} {st : St} (h : JB w B R sv st) (n : Nat) : JB (w.setCell ⟨B, 7, none⟩ (.int .i64 (n : Int))) B R sv { st with next := n } := by
  have hset := grownBy_setCell w ⟨B, 7, none⟩ (.int .i64 (n : Int))
  refine ⟨by simpa using h.lt, fun i hi => ?_, ?_, World.cell?_setCell_same _ _ _ h.c7, fun i => ?_, fun i hi => ?_, h.dis⟩
  · rw [World.cell?_setCell_other _ _ _ _ (by simp <;> omega), h.cell i hi]
  · rw [World.cell?_setCell_other _ _ _ _ (by simp), h.c6]
  · rw [World.frozen?_setCell, h.fr]
  · rw [X_next]
    exact (h.row i hi).kept hset (.inr (fun e => h.off hi e.symm))
theorem JB.drawn {w : World} {B : Nat} {R : Nat → Value} {sv : Value} {st : St} (h : JB w B R sv st) (q : Nat) : JB (w.drewN q) B R sv st := h.later (fun _ _ => rfl) (Nat.le_refl _)

set_option maxHeartbeats 400000 in
theorem take_walk (B : Nat) (R : Nat → Value) (sv : Value) (st : St) (strs : List ByteArray) (w : World) (h : JB w B R sv st) (hs : SB w B sv strs) (hl : strs.length ≤ 1048576) (hn : st.next ≤ strs.length) :
    Calls Tryd.prog 16 #[.pointer (some ⟨B, 0, none⟩)] w fun e w' => e = .returned (.string (took strs st)) ∧ JB w' B R sv (bump strs st) ∧ w.grownBy w' (some B) := by
  obtain ⟨ao, c, rfl⟩ := hs.form
  have c6 := h.c6
  have c7 := h.c7
  have f7 := h.fr 7
  have HJ : Hid (JB w B R (.slice ao strs.length c) st) := h
  by_cases hlt : st.next < strs.length
  · obtain ⟨b, of, rfl, hA, hb⟩ := hs.at hlt
    have hcell := hA st.next hlt
    have HT : Hid (took strs st = strs[st.next]) := by show took strs st = _; unfold took; rw [List.getElem?_eq_getElem hlt]; rfl
    have HB : Hid (bump strs st = { st with next := st.next + 1 }) := by show bump strs st = _; unfold bump; rw [if_pos hlt]
    have hltz : decide ((st.next : Int) < (strs.length : Int)) = true := decide_eq_true (by omega)
    have hne : ¬ B = b := by omega
    obtain ⟨n, hnn⟩ : ∃ n, n = st.next := ⟨_, rfl⟩
    obtain ⟨x, hx⟩ : ∃ x, x = strs[st.next] := ⟨_, rfl⟩
    have HX : Hid (x = strs[st.next]) := hx
    have HNN : Hid (n = st.next) := hnn
    rw [← hx] at hcell
    rw [← hnn] at c7 hcell hltz hlt
    clear h hs hA hx hnn hn
    go_enter Tryd.func16, Tryd.ntmps16
    go_wp2_with fail
    go_quiet (fail)
    go_wp2_with fail
    go_quiet (fail)
    go_wp2_with fail
    go_ret
    have hv : Value.int .i64 ((n : Int) + 1) = .int .i64 ((st.next + 1 : Nat) : Int) := by rw [HNN.out]; rfl
    rw [hv]
    refine ⟨by rw [HT.out, ← HX.out]; rfl, by rw [HB.out]; exact (HJ.out.drawn _).nexts (st.next + 1), ?_⟩
    exact ⟨rfl, rfl, rfl, by simp, fun k _ hk => heap_setCell_other _ ⟨B, 7, none⟩ k _ (fun e => hk (by simp [e]))⟩
  · have HT : Hid (took strs st = ByteArray.empty) := by show took strs st = _; unfold took; rw [List.getElem?_eq_none (by omega)]; rfl
    have HB : Hid (bump strs st = st) := by show bump strs st = _; unfold bump; rw [if_neg hlt]
    have hltz : decide ((st.next : Int) < (strs.length : Int)) = false := decide_eq_false (by omega)
    obtain ⟨n, hnn⟩ : ∃ n, n = st.next := ⟨_, rfl⟩
    rw [← hnn] at c7 hltz hlt
    have hltn : decide (n < strs.length) = false := decide_eq_false hlt
    clear h hs hnn hn
    go_enter Tryd.func16, Tryd.ntmps16
    go_wp2_with fail
    go_quiet (fail)
    go_wp2_with fail
    go_ret
    refine ⟨by rw [HT.out]; rfl, by rw [HB.out]; exact HJ.out.drawn _, ⟨rfl, rfl, rfl, Nat.le_refl _, fun _ _ _ => rfl⟩⟩
end Go.Proofs.Qxb6001559aDoor
