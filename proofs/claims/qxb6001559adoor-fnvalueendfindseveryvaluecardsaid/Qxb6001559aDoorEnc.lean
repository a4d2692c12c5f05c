import Derived.Test.Qxb6001559aDoorSmall
/-! THE WALK of encodeString. -/
namespace Go.Proofs.Qxb6001559aDoor
open Go.RowKit Plain

theorem Tryd.info5 : (Tryd.prog.info? 5).map (fun i => (i.zero, i.size, i.bytes)) = some (some (.int .u8 0), 1, 1) := by kernel_rfl
theorem cells_new (w : World) (cs : Array Value) (t : TypeId) : ∀ j u, cs.toList[j]? = some u → (w.alloc (.cells cs t)).cell? ((⟨w.heap.size, 0, none⟩ : Addr).add j) = some u := by
  intro j u hj
  rw [WideShapes.add_plain, Nat.zero_add, World.cell?_alloc_at _ _ _ _ rfl]
  simpa using hj
theorem vb_app (a b : List UInt8) : vb (a ++ b) = vb a ++ vb b := by simp [vb]
theorem vb_len (a : List UInt8) : (vb a).length = a.length := by simp [vb]
theorem vb_one (a : List UInt8) : ∀ u ∈ vb a, u.oneCell' = true := by
  intro u hu; simp [vb] at hu; obtain ⟨b, _, rfl⟩ := hu; rfl

/-- What a callee does to a row of bytes that it is handed: it comes back with more, and nothing else has turned. -/
structure Wrote (w : World) (base : Nat) (v0 : Value) (w' : World) (v : Value) (l : List UInt8) : Prop where
  own : w'.ownsRow base 5 1 v l.length (vb l)
  grown : w.grownBy w' v0.ownBlock
  near : Near w v0 v
theorem Wrote.step {w w1 w2 : World} {base : Nat} {v0 v v' : Value} {l x : List UInt8} {o : Obj} (h : Wrote w base v0 w1 v l) (ho : w2.ownsRow base 5 1 v' (l.length + x.length) (vb l ++ vb x)) (hg : (w1.alloc o).grownBy w2 v.ownBlock) (hn : Near (w1.alloc o) v v') :
    Wrote w base v0 w2 v' (l ++ x) := by
  have hs := h.grown.size
  refine ⟨by rw [vb_app, List.length_append]; exact ho, ?_, h.near.trans (by simp; omega) hn⟩
  have h1 : w.grownBy (w1.alloc o) v0.ownBlock := h.grown.trans (World.grownBy_alloc w1 o _)
  refine h1.andThen hg (fun j hj => ?_)
  rcases h.near with e | e
  · exact .inr (e ▸ hj)
  · exact .inl (e j hj)
theorem body_step {sl : Bool} {s : Plain.Bs} {k : Nat} {c : UInt8} (hc : s[k]? = some c) : body sl (s.take (k + 1)) = body sl (s.take k) ++ escB sl c := by
  rw [List.take_add_one, hc]
  simp [body, List.flatMap_append]

theorem lt32 {c : UInt8} (h : c < 32) : (c.toNat : Int) < 32 := by
  have h2 : c.toNat < (32 : UInt8).toNat := UInt8.lt_iff_toNat_lt.1 h
  have e : (32 : UInt8).toNat = 32 := rfl
  omega
theorem ge32 {c : UInt8} (h : ¬ c < 32) : ¬ ((c.toNat : Int) < 32) := by
  intro hc
  apply h
  apply UInt8.lt_iff_toNat_lt.2
  have e : (32 : UInt8).toNat = 32 := rfl
  omega
theorem shr4 (c : UInt8) : ((c.toNat : Int) / (16 : Int)) = ((c >>> 4).toNat : Int) := all_u8 (P := fun c => ((c.toNat : Int) / (16 : Int)) = ((c >>> 4).toNat : Int)) (by decide +kernel) c
theorem and15 (c : UInt8) : bits .and .u8 (c.toNat : Int) 15 = ((c &&& 15).toNat : Int) := all_u8 (P := fun c => bits .and .u8 (c.toNat : Int) 15 = ((c &&& 15).toNat : Int)) (by decide +kernel) c
theorem shr4_lt (c : UInt8) : (c >>> 4).toNat < 16 := all_u8 (P := fun c => (c >>> 4).toNat < 16) (by decide +kernel) c
theorem and15_lt (c : UInt8) : (c &&& 15).toNat < 16 := all_u8 (P := fun c => (c &&& 15).toNat < 16) (by decide +kernel) c
theorem alloc_le {base : Nat} {w wr : World} (hb : base ≤ w.heap.size) (h : w.heap.size ≤ wr.heap.size) (o : Obj) : base ≤ (wr.alloc o).heap.size := by simp; omega

set_option maxHeartbeats 4000000 in
set_option maxRecDepth 100000 in
/-- encodeString. -/
theorem encode_walk (v0 : Value) (base : Nat) (out : List UInt8) (s : ByteArray) (sl : Bool) (w : World) (h0 : w.ownsRow base 5 1 v0 out.length (vb out)) (hb : base ≤ w.heap.size) (hout : out.length ≤ 1099511627776) (hs : s.size ≤ 1048576) :
    Calls Tryd.prog 15 #[v0, .string s, .bool sl] w fun e w' => ∃ v, e = .returned v ∧ Wrote w base v0 w' v (out ++ enc sl s.data.toList) := by
  obtain ⟨i0, hi, hz0, hz1, hz2⟩ := info_parts Tryd.info5
  have hlen : s.data.toList.length = s.size := by rw [Array.length_toList]; rfl
  have HL : Hid (s.data.toList.length = s.size) := hlen
  have HB : Hid (∀ k, (out ++ 34 :: body sl (s.data.toList.take k)).length ≤ 1099511627776 + 1 + 6 * s.size) := fun k => by
    have := body_len sl (s.data.toList.take k)
    have h2 : (s.data.toList.take k).length ≤ s.size := by rw [List.length_take, hlen]; omega
    simp only [List.length_append, List.length_cons]
    omega
  clear hlen
  have hW0 : Wrote w base v0 w v0 out := ⟨h0, World.grownBy.refl _ _, Near.refl _ _⟩
  have hb1 : out.length + 1 ≤ maxLen := by unfold maxLen; omega
  have hb2 : (out.length + 1) * 1 ≤ 140737488355328 := by omega
  have hb3 := fun o => alloc_le hb (Nat.le_refl w.heap.size) o
  go_enter Tryd.func15, Tryd.ntmps15
  go_wp2_with (at_builtin; refine wpList_append2 rfl (.tmp 9) (.tmp 10) 22 rfl base 5 i0 (.int .u8 0) 1 Tryd.underlying22 hi hz0 hz1 hz2 rfl v0 _ _ rfl (h0.alloc _) ⟨w.heap.size, 0, none⟩ 1 1 (vb [34]) rfl rfl (cells_new w #[.int .u8 34] 5) (vb_one _) hb1 hb2 (hb3 _) ?_; intro v1 w1 r1 r2 r3)
  have hW1 : Wrote w base v0 w1 v1 (out ++ 34 :: body sl (s.data.toList.take 0)) := by
    have := hW0.step (x := [34]) r1 r2 r3
    simpa [body] using this
  clear r1 r2 r3 hW0 h0 hb1 hb2 hb3
  go_loopw [0, 7, 8] (fun v i _ wr => ∃ k : Nat, k ≤ s.size ∧ i = .int .i64 k ∧ Wrote w base v0 wr v (out ++ 34 :: body sl (s.data.toList.take k))) (fun _ i _ _ => s.size - (intOf i).toNat)
  case atStart => exact ⟨0, Nat.zero_le _, rfl, hW1⟩
  case round =>
    clear hW1
    obtain ⟨k, hk, rfl, hW⟩ := hrel
    have hB3 := fun o => alloc_le hb hW.grown.size o
    have hB1 : ∀ m, m ≤ 6 → (out ++ 34 :: body sl (s.data.toList.take k)).length + m ≤ maxLen := fun m hm => by have := HB.out k; unfold maxLen; omega
    have hB2 : ∀ m, m ≤ 6 → ((out ++ 34 :: body sl (s.data.toList.take k)).length + m) * 1 ≤ 140737488355328 := fun m hm => by have := HB.out k; omega
    have HK : Hid (∀ c, s.data.toList[k]? = some c → out ++ 34 :: body sl (s.data.toList.take (k + 1)) = (out ++ 34 :: body sl (s.data.toList.take k)) ++ escB sl c) := fun c hc => by rw [body_step hc]; simp
    by_cases hlt : k < s.size
    · obtain ⟨c, hc⟩ : ∃ c : UInt8, s[k]'hlt = c := ⟨_, rfl⟩
      have HC : Hid (s.data.toList[k]? = some c) := by rw [← hc]; exact Lib.data_getElem? s k hlt
      by_cases q1 : c = 34 ∨ c = 92
      · have HE : Hid (escB sl c = [92, c]) := by show escB sl c = _; unfold escB; rw [if_pos q1]
        rcases q1 with rfl | rfl
        · have c1 : (((34 : UInt8).toNat : Int) == 34) = true := rfl
          go_wp2_with (at_builtin; refine wpList_append2 rfl (.tmp 32) (.tmp 34) 22 rfl base 5 i0 (.int .u8 0) 1 Tryd.underlying22 hi hz0 hz1 hz2 rfl u0 _ _ rfl (hW.own.alloc _) ⟨wr.heap.size, 0, none⟩ 2 2 (vb [92, 34]) rfl rfl (cells_new wr #[.int .u8 92, .int .u8 34] 5) (vb_one _) (hB1 2 (by decide)) (hB2 2 (by decide)) (hB3 _) ?_; intro v1 w1 r1 r2 r3)
          go_roundw
          case measure => simp [intOf]; omega
          case rel =>
            refine ⟨k + 1, by omega, by go_num, ?_⟩
            rw [HK.out _ HC.out, HE.out]
            exact hW.step (x := [92, 34]) r1 r2 r3
        · have c1 : (((92 : UInt8).toNat : Int) == 34) = false := rfl
          have c2 : (((92 : UInt8).toNat : Int) == 92) = true := rfl
          go_wp2_with (at_builtin; refine wpList_append2 rfl (.tmp 32) (.tmp 34) 22 rfl base 5 i0 (.int .u8 0) 1 Tryd.underlying22 hi hz0 hz1 hz2 rfl u0 _ _ rfl (hW.own.alloc _) ⟨wr.heap.size, 0, none⟩ 2 2 (vb [92, 92]) rfl rfl (cells_new wr #[.int .u8 92, .int .u8 92] 5) (vb_one _) (hB1 2 (by decide)) (hB2 2 (by decide)) (hB3 _) ?_; intro v1 w1 r1 r2 r3)
          go_roundw
          case measure => simp [intOf]; omega
          case rel =>
            refine ⟨k + 1, by omega, by go_num, ?_⟩
            rw [HK.out _ HC.out, HE.out]
            exact hW.step (x := [92, 92]) r1 r2 r3
      · have d34 : ¬ c = 34 := fun e => q1 (.inl e)
        have d92 : ¬ c = 92 := fun e => q1 (.inr e)
        by_cases q2 : c = 47
        · subst q2
          have c1 : (((47 : UInt8).toNat : Int) == 34) = false := rfl
          cases sl with
          | true =>
            have HE : Hid (escB true 47 = [92, 47]) := by show escB true 47 = _; decide
            go_wp2_with (at_builtin; refine wpList_append2 rfl (.tmp 42) (.tmp 43) 22 rfl base 5 i0 (.int .u8 0) 1 Tryd.underlying22 hi hz0 hz1 hz2 rfl u0 _ _ rfl (hW.own.alloc _) ⟨wr.heap.size, 0, none⟩ 2 2 (vb [92, 47]) rfl rfl (cells_new wr #[.int .u8 92, .int .u8 47] 5) (vb_one _) (hB1 2 (by decide)) (hB2 2 (by decide)) (hB3 _) ?_; intro v1 w1 r1 r2 r3)
            go_roundw
            case measure => simp [intOf]; omega
            case rel =>
              refine ⟨k + 1, by omega, by go_num, ?_⟩
              rw [HK.out _ HC.out, HE.out]
              exact hW.step (x := [92, 47]) r1 r2 r3
          | false =>
            have HE : Hid (escB false 47 = [47]) := by show escB false 47 = _; decide
            go_wp2_with (at_builtin; refine wpList_append2 rfl (.tmp 21) (.tmp 23) 22 rfl base 5 i0 (.int .u8 0) 1 Tryd.underlying22 hi hz0 hz1 hz2 rfl u0 _ _ rfl (hW.own.alloc _) ⟨wr.heap.size, 0, none⟩ 1 1 (vb [47]) rfl rfl (cells_new wr #[.int .u8 47] 5) (vb_one _) (hB1 1 (by decide)) (hB2 1 (by decide)) (hB3 _) ?_; intro v1 w1 r1 r2 r3)
            go_roundw
            case measure => simp [intOf]; omega
            case rel =>
              refine ⟨k + 1, by omega, by go_num, ?_⟩
              rw [HK.out _ HC.out, HE.out]
              exact hW.step (x := [47]) r1 r2 r3
        · by_cases q3 : c = 10
          · subst q3
            have HE : Hid (escB sl 10 = [92, 110]) := by show escB sl 10 = _; simp [escB]
            clear q1 q2 d34 d92
            go_wp2_with (at_builtin; refine wpList_append2 rfl (.tmp 48) (.tmp 49) 22 rfl base 5 i0 (.int .u8 0) 1 Tryd.underlying22 hi hz0 hz1 hz2 rfl u0 _ _ rfl (hW.own.alloc _) ⟨wr.heap.size, 0, none⟩ 2 2 (vb [92, 110]) rfl rfl (cells_new wr #[.int .u8 92, .int .u8 110] 5) (vb_one _) (hB1 2 (by decide)) (hB2 2 (by decide)) (hB3 _) ?_; intro v1 w1 r1 r2 r3)
            go_roundw
            case measure => simp [intOf]; omega
            case rel =>
              refine ⟨k + 1, by omega, by go_num, ?_⟩
              rw [HK.out _ HC.out, HE.out]
              exact hW.step (x := [92, 110]) r1 r2 r3
          · by_cases q4 : c = 13
            · subst q4
              have HE : Hid (escB sl 13 = [92, 114]) := by show escB sl 13 = _; simp [escB]
              clear q1 q2 d34 d92
              go_wp2_with (at_builtin; refine wpList_append2 rfl (.tmp 54) (.tmp 55) 22 rfl base 5 i0 (.int .u8 0) 1 Tryd.underlying22 hi hz0 hz1 hz2 rfl u0 _ _ rfl (hW.own.alloc _) ⟨wr.heap.size, 0, none⟩ 2 2 (vb [92, 114]) rfl rfl (cells_new wr #[.int .u8 92, .int .u8 114] 5) (vb_one _) (hB1 2 (by decide)) (hB2 2 (by decide)) (hB3 _) ?_; intro v1 w1 r1 r2 r3)
              go_roundw
              case measure => simp [intOf]; omega
              case rel =>
                refine ⟨k + 1, by omega, by go_num, ?_⟩
                rw [HK.out _ HC.out, HE.out]
                exact hW.step (x := [92, 114]) r1 r2 r3
            · by_cases q5 : c = 9
              · subst q5
                have HE : Hid (escB sl 9 = [92, 116]) := by show escB sl 9 = _; simp [escB]
                clear q1 q2 d34 d92
                go_wp2_with (at_builtin; refine wpList_append2 rfl (.tmp 60) (.tmp 61) 22 rfl base 5 i0 (.int .u8 0) 1 Tryd.underlying22 hi hz0 hz1 hz2 rfl u0 _ _ rfl (hW.own.alloc _) ⟨wr.heap.size, 0, none⟩ 2 2 (vb [92, 116]) rfl rfl (cells_new wr #[.int .u8 92, .int .u8 116] 5) (vb_one _) (hB1 2 (by decide)) (hB2 2 (by decide)) (hB3 _) ?_; intro v1 w1 r1 r2 r3)
                go_roundw
                case measure => simp [intOf]; omega
                case rel =>
                  refine ⟨k + 1, by omega, by go_num, ?_⟩
                  rw [HK.out _ HC.out, HE.out]
                  exact hW.step (x := [92, 116]) r1 r2 r3
              · by_cases q6 : c = 8
                · subst q6
                  have HE : Hid (escB sl 8 = [92, 98]) := by show escB sl 8 = _; simp [escB]
                  clear q1 q2 d34 d92
                  go_wp2_with (at_builtin; refine wpList_append2 rfl (.tmp 66) (.tmp 67) 22 rfl base 5 i0 (.int .u8 0) 1 Tryd.underlying22 hi hz0 hz1 hz2 rfl u0 _ _ rfl (hW.own.alloc _) ⟨wr.heap.size, 0, none⟩ 2 2 (vb [92, 98]) rfl rfl (cells_new wr #[.int .u8 92, .int .u8 98] 5) (vb_one _) (hB1 2 (by decide)) (hB2 2 (by decide)) (hB3 _) ?_; intro v1 w1 r1 r2 r3)
                  go_roundw
                  case measure => simp [intOf]; omega
                  case rel =>
                    refine ⟨k + 1, by omega, by go_num, ?_⟩
                    rw [HK.out _ HC.out, HE.out]
                    exact hW.step (x := [92, 98]) r1 r2 r3
                · by_cases q7 : c = 12
                  · subst q7
                    have HE : Hid (escB sl 12 = [92, 102]) := by show escB sl 12 = _; simp [escB]
                    clear q1 q2 d34 d92
                    go_wp2_with (at_builtin; refine wpList_append2 rfl (.tmp 72) (.tmp 73) 22 rfl base 5 i0 (.int .u8 0) 1 Tryd.underlying22 hi hz0 hz1 hz2 rfl u0 _ _ rfl (hW.own.alloc _) ⟨wr.heap.size, 0, none⟩ 2 2 (vb [92, 102]) rfl rfl (cells_new wr #[.int .u8 92, .int .u8 102] 5) (vb_one _) (hB1 2 (by decide)) (hB2 2 (by decide)) (hB3 _) ?_; intro v1 w1 r1 r2 r3)
                    go_roundw
                    case measure => simp [intOf]; omega
                    case rel =>
                      refine ⟨k + 1, by omega, by go_num, ?_⟩
                      rw [HK.out _ HC.out, HE.out]
                      exact hW.step (x := [92, 102]) r1 r2 r3
                  · have e1 : ((c.toNat : Int) == 34) = false := byte_neq 34 d34
                    have e2 : ((c.toNat : Int) == 92) = false := byte_neq 92 d92
                    have e3 : ((c.toNat : Int) == 47) = false := byte_neq 47 q2
                    have e4 : ((c.toNat : Int) == 10) = false := byte_neq 10 q3
                    have e5 : ((c.toNat : Int) == 13) = false := byte_neq 13 q4
                    have e6 : ((c.toNat : Int) == 9) = false := byte_neq 9 q5
                    have e7 : ((c.toNat : Int) == 8) = false := byte_neq 8 q6
                    have e8 : ((c.toNat : Int) == 12) = false := byte_neq 12 q7
                    by_cases q8 : c < 32
                    · have HE : Hid (escB sl c = [92, 117, 48, 48, hexd (c >>> 4), hexd (c &&& 15)]) := by show escB sl c = _; simp [escB, d34, d92, q2, q3, q4, q5, q6, q7, q8]
                      have hn : (c.toNat : Int) < 32 := lt32 q8
                      clear q1 q2 q3 q4 q5 q6 q7 q8 d34 d92
                      have hqa := shr4 c
                      have hqb := and15 c
                      have ca := hex_walk (c >>> 4) (shr4_lt c) wr
                      have cb := hex_walk (c &&& 15) (and15_lt c) wr
                      obtain ⟨a, ha⟩ : ∃ a, a = c >>> 4 := ⟨_, rfl⟩
                      obtain ⟨b, hb'⟩ : ∃ b, b = c &&& 15 := ⟨_, rfl⟩
                      rw [← ha] at hqa ca HE
                      rw [← hb'] at hqb cb HE
                      obtain ⟨h1, hh1⟩ : ∃ h1, h1 = hexd a := ⟨_, rfl⟩
                      obtain ⟨h2, hh2⟩ : ∃ h2, h2 = hexd b := ⟨_, rfl⟩
                      rw [← hh1] at ca HE
                      rw [← hh2] at cb HE
                      clear hh1 hh2 ha hb'
                      go_wp2_with (first
                        | (go_at_call_of 21 a; refine ca.mono ?_; rintro e w' ⟨rfl, hw'⟩; obtain rfl := hw'.symm)
                        | (go_at_call_of 21 b; refine cb.mono ?_; rintro e w' ⟨rfl, hw'⟩; obtain rfl := hw'.symm)
                        | (at_builtin; refine wpList_append2 rfl (.tmp 78) (.tmp 85) 22 rfl base 5 i0 (.int .u8 0) 1 Tryd.underlying22 hi hz0 hz1 hz2 rfl u0 _ _ rfl (hW.own.alloc _) ⟨wr.heap.size, 0, none⟩ 6 6 (vb [92, 117, 48, 48, h1, h2]) rfl rfl (cells_new wr #[.int .u8 92, .int .u8 117, .int .u8 48, .int .u8 48, .int .u8 (h1.toNat : Int), .int .u8 (h2.toNat : Int)] 5) (vb_one _) (hB1 6 (by decide)) (hB2 6 (by decide)) (hB3 _) ?_; intro v1 w1 r1 r2 r3))
                      go_roundw
                      case measure => simp [intOf]; omega
                      case rel =>
                        refine ⟨k + 1, by omega, by go_num, ?_⟩
                        rw [HK.out _ HC.out, HE.out]
                        exact hW.step (x := [92, 117, 48, 48, h1, h2]) r1 r2 r3
                    · have HE : Hid (escB sl c = [c]) := by show escB sl c = _; simp [escB, d34, d92, q2, q3, q4, q5, q6, q7, q8]
                      have hn : ¬ ((c.toNat : Int) < 32) := ge32 q8
                      clear q1 q2 q3 q4 q5 q6 q7 q8 d34 d92
                      go_wp2_with (at_builtin; refine wpList_append2 rfl (.tmp 21) (.tmp 23) 22 rfl base 5 i0 (.int .u8 0) 1 Tryd.underlying22 hi hz0 hz1 hz2 rfl u0 _ _ rfl (hW.own.alloc _) ⟨wr.heap.size, 0, none⟩ 1 1 (vb [c]) rfl rfl (cells_new wr #[.int .u8 (c.toNat : Int)] 5) (vb_one _) (hB1 1 (by decide)) (hB2 1 (by decide)) (hB3 _) ?_; intro v1 w1 r1 r2 r3)
                      go_roundw
                      case measure => simp [intOf]; omega
                      case rel =>
                        refine ⟨k + 1, by omega, by go_num, ?_⟩
                        rw [HK.out _ HC.out, HE.out]
                        exact hW.step (x := [c]) r1 r2 r3
    · have hke : k = s.size := by omega
      subst hke
      go_wp2_with (at_builtin; refine wpList_append2 rfl (.tmp 87) (.tmp 88) 22 rfl base 5 i0 (.int .u8 0) 1 Tryd.underlying22 hi hz0 hz1 hz2 rfl u0 _ _ rfl (hW.own.alloc _) ⟨wr.heap.size, 0, none⟩ 1 1 (vb [34]) rfl rfl (cells_new wr #[.int .u8 34] 5) (vb_one _) (hB1 1 (by decide)) (hB2 1 (by decide)) (hB3 _) ?_; intro v1 w1 r1 r2 r3)
      go_ret
      refine ⟨v1, rfl, ?_⟩
      have := hW.step (x := [34]) r1 r2 r3
      rw [show s.data.toList.take s.size = s.data.toList from List.take_of_length_le (by rw [HL.out]; exact Nat.le_refl _)] at this
      simpa [enc] using this
end Go.Proofs.Qxb6001559aDoor
