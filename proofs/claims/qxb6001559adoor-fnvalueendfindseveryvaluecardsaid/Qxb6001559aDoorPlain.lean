/-! THE PLAIN LAW of FnValueEndFindsEveryValue: no Go in sight. -/
namespace Go.Proofs.Qxb6001559aDoor
namespace Plain

abbrev Bs := List UInt8

/-- From inside a string: l opens with n bytes, the closing quote the last of them. -/
inductive SE : Bs → Nat → Prop
  | quote {l : Bs} : SE (34 :: l) 1
  | esc {l : Bs} {c : UInt8} {n : Nat} : SE l n → SE (92 :: c :: l) (n + 2)
  | other {l : Bs} {c : UInt8} {n : Nat} : c ≠ 34 → c ≠ 92 → SE l n → SE (c :: l) (n + 1)
theorem SE.le {l : Bs} {n : Nat} (h : SE l n) : n ≤ l.length ∧ 0 < n := by
  induction h with
  | quote => simp
  | esc _ ih => simp; omega
  | other _ _ _ ih => simp; omega

def opn (c : UInt8) : Prop := c = 123 ∨ c = 91
def cls (c : UInt8) : Prop := c = 125 ∨ c = 93
/-- Neither quote nor bracket. -/
def plain (c : UInt8) : Prop := c ≠ 34 ∧ c ≠ 123 ∧ c ≠ 91 ∧ c ≠ 125 ∧ c ≠ 93
/-- One of IndexAny's set. -/
def dl (c : UInt8) : Prop := c = 44 ∨ c = 125 ∨ c = 93 ∨ c = 32 ∨ c = 9 ∨ c = 10 ∨ c = 13
/-- A byte of a number or a literal. -/
def sc (c : UInt8) : Prop := plain c ∧ ¬ dl c ∧ c < 128

/-- valueEnd from depth d at the head of l: it ends behind n bytes. -/
inductive VE : Nat → Bs → Nat → Prop
  | str0 {l : Bs} {n : Nat} : SE l n → VE 0 (34 :: l) (n + 1)
  | strS {l : Bs} {k n m : Nat} : SE l n → VE (k + 1) (l.drop n) m → VE (k + 1) (34 :: l) (n + 1 + m)
  | op {l : Bs} {k m : Nat} {c : UInt8} : opn c → VE (k + 1) l m → VE k (c :: l) (m + 1)
  | cl1 {l : Bs} {c : UInt8} : cls c → VE 1 (c :: l) 1
  | clS {l : Bs} {k m : Nat} {c : UInt8} : cls c → VE (k + 1) l m → VE (k + 2) (c :: l) (m + 1)
  | other {l : Bs} {k m : Nat} {c : UInt8} : plain c → VE (k + 1) l m → VE (k + 1) (c :: l) (m + 1)
  | scal {t r : Bs} : t ≠ [] → (∀ c ∈ t, sc c) → (r = [] ∨ ∃ c r', r = c :: r' ∧ dl c) → VE 0 (t ++ r) t.length

/-- Whole JSON strings: whatever follows, the scan ends with them. -/
def IsStr (e : Bs) : Prop := ∃ b, e = 34 :: b ∧ ∀ r, SE (b ++ r) b.length
/-- Content within brackets. -/
inductive Bal : Bs → Prop
  | nil : Bal []
  | byte {l : Bs} {c : UInt8} : Bal l → plain c → Bal (l ++ [c])
  | str {l e : Bs} : Bal l → IsStr e → Bal (l ++ e)
  | box {l m : Bs} {o c : UInt8} : Bal l → Bal m → opn o → cls c → Bal (l ++ (o :: m ++ [c]))
theorem Bal.scan {m : Bs} (h : Bal m) : ∀ {k n : Nat} {r : Bs}, VE (k + 1) r n → VE (k + 1) (m ++ r) (m.length + n) := by
  induction h with
  | nil => intro k n r hr; simpa using hr
  | @byte l c _ hc ih =>
    intro k n r hr
    have := ih (VE.other hc hr)
    rw [List.append_assoc, List.length_append]
    simpa [Nat.add_assoc, Nat.add_comm, Nat.add_left_comm] using this
  | @str l e _ he ih =>
    intro k n r hr
    obtain ⟨b, rfl, hb⟩ := he
    have h1 : VE (k + 1) (34 :: (b ++ r)) (b.length + 1 + n) := VE.strS (hb r) (by rw [List.drop_left]; exact hr)
    have := ih h1
    rw [List.append_assoc, List.length_append]
    simpa [Nat.add_assoc, Nat.add_comm, Nat.add_left_comm] using this
  | @box l m o c _ _ ho hc ihl ihm =>
    intro k n r hr
    have h1 : VE (k + 2) (m ++ c :: r) (m.length + (n + 1)) := ihm (VE.clS hc hr)
    have := ihl (VE.op ho h1)
    rw [List.append_assoc, List.length_append]
    simpa [Nat.add_assoc, Nat.add_comm, Nat.add_left_comm] using this
theorem Bal.scal {l t : Bs} (h : Bal l) (ht : ∀ c ∈ t, plain c) : Bal (l ++ t) := by
  induction t generalizing l with
  | nil => simpa using h
  | cons c t ih =>
    have := ih (h.byte (ht c (List.mem_cons_self ..))) (fun d hd => ht d (List.mem_cons_of_mem _ hd))
    simpa using this

/-- A value that ends by itself. -/
def Fix (v : Bs) : Prop := ∀ r, VE 0 (v ++ r) v.length
theorem fix_str {e : Bs} (h : IsStr e) : Fix e := by
  obtain ⟨b, rfl, hb⟩ := h
  intro r
  exact VE.str0 (hb r)
theorem fix_box {o c : UInt8} {m : Bs} (ho : opn o) (hc : cls c) (h : Bal m) : Fix (o :: m ++ [c]) := by
  intro r
  have h1 : VE 1 (m ++ c :: r) (m.length + 1) := h.scan (k := 0) (VE.cl1 hc)
  have := VE.op ho h1
  simpa [Nat.add_assoc, Nat.add_comm, Nat.add_left_comm] using this

/-! THE ENCODER -/
def hexd (v : UInt8) : UInt8 := if v < 10 then 48 + v else 97 + v - 10
def escB (sl : Bool) (c : UInt8) : Bs :=
  if c = 34 ∨ c = 92 then [92, c]
  else if c = 47 ∧ sl = true then [92, 47]
  else if c = 10 then [92, 110]
  else if c = 13 then [92, 114]
  else if c = 9 then [92, 116]
  else if c = 8 then [92, 98]
  else if c = 12 then [92, 102]
  else if c < 32 then [92, 117, 48, 48, hexd (c >>> 4), hexd (c &&& 15)]
  else [c]
/-- What encodeString appends behind the opening quote. -/
def body (sl : Bool) (s : Bs) : Bs := s.flatMap (escB sl)
def enc (sl : Bool) (s : Bs) : Bs := 34 :: (body sl s ++ [34])

theorem all_u8 {P : UInt8 → Prop} (h : ∀ n : Fin 256, P (UInt8.ofNat n.val)) (c : UInt8) : P c := by
  have := h ⟨c.toNat, c.toNat_lt⟩
  simpa using this
theorem hexd_hi (c : UInt8) : hexd (c >>> 4) ≠ 34 ∧ hexd (c >>> 4) ≠ 92 := all_u8 (P := fun c => hexd (c >>> 4) ≠ 34 ∧ hexd (c >>> 4) ≠ 92) (by decide +kernel) c
theorem hexd_lo (c : UInt8) : hexd (c &&& 15) ≠ 34 ∧ hexd (c &&& 15) ≠ 92 := all_u8 (P := fun c => hexd (c &&& 15) ≠ 34 ∧ hexd (c &&& 15) ≠ 92) (by decide +kernel) c
theorem esc_scan (sl : Bool) (c : UInt8) {r : Bs} {n : Nat} (h : SE r n) : SE (escB sl c ++ r) ((escB sl c).length + n) := by
  have two : ∀ d : UInt8, SE ([92, d] ++ r) (2 + n) := fun d => by rw [Nat.add_comm]; exact SE.esc h
  unfold escB
  split
  · exact two _
  · split
    · exact two _
    · split
      · exact two _
      · split
        · exact two _
        · split
          · exact two _
          · split
            · exact two _
            · split
              · exact two _
              · split
                · have h1 : SE ([48, 48, hexd (c >>> 4), hexd (c &&& 15)] ++ r) (n + 4) :=
                    SE.other (by decide) (by decide) (SE.other (by decide) (by decide) (SE.other (hexd_hi c).1 (hexd_hi c).2 (SE.other (hexd_lo c).1 (hexd_lo c).2 h)))
                  have h2 := SE.esc (c := 117) h1
                  show SE _ (6 + n)
                  rw [show 6 + n = n + 4 + 2 by omega]
                  exact h2
                · rename_i h34 _ _ _ _ _ _ _
                  have := SE.other (c := c) (fun e => h34 (.inl e)) (fun e => h34 (.inr e)) h
                  simpa [Nat.add_comm] using this
theorem body_scan (sl : Bool) (s : Bs) (r : Bs) : SE (body sl s ++ 34 :: r) ((body sl s).length + 1) := by
  induction s with
  | nil => exact SE.quote
  | cons c s ih =>
    have := esc_scan sl c ih
    simpa [body, List.flatMap_cons, Nat.add_assoc, Nat.add_comm, Nat.add_left_comm] using this
theorem enc_str (sl : Bool) (s : Bs) : IsStr (enc sl s) := by
  refine ⟨body sl s ++ [34], rfl, fun r => ?_⟩
  have := body_scan sl s r
  simpa using this
theorem esc_len (sl : Bool) (c : UInt8) : (escB sl c).length ≤ 6 := by
  unfold escB
  repeat' split
  all_goals simp
theorem body_len (sl : Bool) (s : Bs) : (body sl s).length ≤ 6 * s.length := by
  induction s with
  | nil => simp [body]
  | cons c s ih =>
    have := esc_len sl c
    simp only [body, List.flatMap_cons, List.length_append, List.length_cons] at *
    omega
theorem enc_len (sl : Bool) (s : Bs) : (enc sl s).length ≤ 6 * s.length + 2 := by
  have := body_len sl s
  simp only [enc, List.length_cons, List.length_append, List.length_nil]
  omega
end Plain
end Go.Proofs.Qxb6001559aDoor
