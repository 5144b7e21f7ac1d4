/-
  FnParseIDMatchesNumeralGrammar: the walk (Scan) put together with the plain laws (Grammar).
-/
import Derived.Test.Qxb6614734aDoorScan
import Derived.Test.Qxb6614734aDoorItoa
set_option linter.unusedVariables false
namespace Go.Proofs.Qxb6614734aDoor
open Go.RowKit

theorem getD_mid (p a t : List UInt8) (m : Nat) (h1 : p.length ≤ m) (h2 : m < p.length + a.length) : (p ++ (a ++ t)).getD m 0 ∈ a := by
  rw [List.getD_eq_getElem?_getD, List.getElem?_append_right h1, List.getElem?_append_left (by omega), List.getElem?_eq_getElem (by omega), Option.getD_some]
  exact List.getElem_mem _
theorem getD_at (p q : List UInt8) (x : UInt8) : (p ++ x :: q).getD p.length 0 = x := by
  rw [List.getD_eq_getElem?_getD, List.getElem?_append_right (Nat.le_refl _), Nat.sub_self]
  rfl

theorem bytes_back (s : ByteArray) : s = ⟨s.data.toList.toArray⟩ := by
  cases s; simp

theorem cut_is (s : ByteArray) (p d t : List UInt8) (h : s.data.toList = p ++ (d ++ t)) (W : World) :
    (Instr.slice 9 (.string s) (some (.int .i64 (p.length : Nat))) (some (.int .i64 ((p.length + d.length : Nat) : Int))) none).run Tryd.prog W = .ok (.string ⟨d.toArray⟩) W := by
  have hsz : s.size = (p ++ (d ++ t)).length := by rw [← h, Array.length_toList]; rfl
  simp only [List.length_append] at hsz
  rw [run_slice_string (P := Tryd.prog) W 9 s .i64 .i64 (p.length : Nat) ((p.length + d.length : Nat) : Int) Tryd.underlying9 (by omega) (by omega) (by omega)]
  rw [bytes_back s, h, ByteArray.extract_mk]
  simp only [Int.toNat_natCast]
  rw [List.drop_left, Nat.add_sub_cancel_left, List.take_left]

theorem sign_at (s : ByteArray) (r : List UInt8) (neg : Bool) (h : D.Signed s.data.toList r neg) (h0 : 1 ≤ s.size) :
    ∃ p, s.data.toList = p ++ r ∧ SignAt s s.size p.length neg := by
  have hx := idx s 0 (by omega)
  have hx0 : ∀ W, (Instr.index 9 (.string s) (.int .i64 0)).run Tryd.prog W = .ok (.int .u8 (bt s.data.toList 0)) W := hx
  rcases h with ⟨rfl, e, h⟩ | ⟨rfl, e⟩ | ⟨rfl, e⟩
  · refine ⟨[], e, .inl ⟨h0, ⟨_, hx0, ?_, ?_⟩, rfl, rfl⟩⟩
    all_goals
      rcases h with rfl | ⟨c, q, rfl, h1, h2⟩
      · have : s.data.toList.length = s.size := Array.length_toList
        rw [e] at this; simp at this; omega
      · rw [e]
        unfold bt
        rw [beq_eq_false_iff_ne]
        show ((c.toNat : Nat) : Int) ≠ _
        omega
  · refine ⟨[43], e, .inr (.inl ⟨h0, ?_, rfl, rfl⟩)⟩
    intro W
    rw [hx0 W, e]; rfl
  · refine ⟨[45], e, .inr (.inr ⟨h0, ?_, rfl, rfl⟩)⟩
    intro W
    rw [hx0 W, e]; rfl

theorem v20 : D.dval 0 c20.data.toList = 18446744073709551615 := by decide +kernel
theorem v8 : D.dval 0 c8.data.toList = 9223372036854775808 := by decide +kernel
theorem v7 : D.dval 0 c7.data.toList = 9223372036854775807 := by decide +kernel
theorem canon_lit (c : UInt8) (r : List UInt8) (h : ∀ x ∈ c :: r, D.isDig x) (hc : c ≠ 48) : D.Canon (c :: r) := ⟨h, .inr ⟨c, r, rfl, hc⟩⟩
theorem k20 : D.Canon c20.data.toList := canon_lit 49 _ (by unfold D.isDig; decide) (by decide)
theorem k8 : D.Canon c8.data.toList := canon_lit 57 _ (by unfold D.isDig; decide) (by decide)
theorem k7 : D.Canon c7.data.toList := canon_lit 57 _ (by unfold D.isDig; decide) (by decide)

theorem g_of (d : List UInt8) (B : ByteArray) (hd : D.Canon d) (hB : D.Canon B.data.toList) (hl : d.length ≤ 65536) (hs : B.size ≤ 65536) (v : Nat) (hv : D.dval 0 B.data.toList = v) (r : Bool) (hr : decide (v < D.dval 0 d) = r) :
    G ⟨d.toArray⟩ B r := by
  intro W
  have := greater_any ⟨d.toArray⟩ B W (by show d.toArray.size ≤ 65536; simpa using hl) hs
  rw [show (⟨d.toArray⟩ : ByteArray).data.toList = d from rfl, D.greater_val d _ hd hB, hv, hr] at this
  exact this

theorem canon_zero (d : List UInt8) (h : D.Canon d) : (D.dval 0 d = 0 → d = [48]) ∧ (D.dval 0 d ≠ 0 → d ≠ [48]) := by
  constructor
  · intro hv
    rcases h.2 with ⟨c, rfl⟩ | ⟨c, r, rfl, hc⟩
    · have hc := h.1 c (List.mem_cons_self ..)
      rw [D.dval_cons, D.dval_nil] at hv
      have h0 := hc.1
      have : c.toNat = 48 := by omega
      rw [show c = 48 from UInt8.toNat_inj.1 this]
    · have := D.dval_pos c r (h.1 c (List.mem_cons_self ..)) hc
      omega
  · rintro hv rfl
    exact hv (by decide +kernel)

/-! ### what parseID answers -/
theorem answers_range (s : ByteArray) (w : World) (hl : Laid w) (hlim : s.size ≤ 281474976710656) (h : Lib.atoiAll s.data.toList = .range) :
    Calls Tryd.prog 6 #[.string s] w fun e w' => e = .returned (.tuple #[.int .i64 (Lib.atoiSat s.data.toList), .bool false]) ∧ Below w.heap.size w w' := by
  refine zzparse_of s _ false w (parse_no s _ w ?_ hl)
  intro w hl
  obtain ⟨tp, p, hv⟩ := hl.range
  exact atoi_range s hlim h tp p w hv
theorem answers_bad (s : ByteArray) (w : World) (hl : Laid w) (hlim : s.size ≤ 281474976710656) (h : Lib.atoiAll s.data.toList = Lib.atoiAll []) :
    Calls Tryd.prog 6 #[.string s] w fun e w' => e = .returned (.tuple #[.int .i64 0, .bool false]) ∧ Below w.heap.size w w' := by
  refine zzparse_of s _ false w (parse_no s _ w ?_ hl)
  intro w hl
  obtain ⟨tp, p, hv⟩ := hl.bad
  exact atoi_bad s hlim h tp p w hv
theorem answers_ok (s : ByteArray) (w : World) (hlim : s.size ≤ 281474976710656) (v : Int) (h : Lib.atoiAll s.data.toList = .ok v) (v0 : -9223372036854775808 ≤ v) (v1 : v ≤ 9223372036854775807) :
    Calls Tryd.prog 6 #[.string s] w fun e w' => e = .returned (.tuple #[.int .i64 v, .bool (decide (0 ≤ v))]) ∧ Below w.heap.size w w' :=
  zzparse_of s v _ w (parse_yes s v w hlim h v0 v1)
theorem usr_of (w : World) (hl : Laid w) (v : Int) (v0 : -9223372036854775808 ≤ v) (v1 : v ≤ 9223372036854775807) : Usr w v ⟨(Lib.itoa v).toArray⟩ :=
  fun W hb => user_any v W v0 v1 (hl.below hb) _ rfl

/-- parseID's answer and the law's own reading of s, together. -/
theorem tail_of (s : ByteArray) (w : World) (hl : Laid w) (hs : s.size ≤ 65536) (r : List UInt8) (neg : Bool) (hsig : D.Signed s.data.toList r neg) (p zs d t : List UInt8)
    (hp : s.data.toList = p ++ r) (hr : r = (zs ++ d) ++ t) (hz : ∀ c ∈ zs, c = 48) (hc : D.Canon d) (ht : t = [] ∨ ∃ x q, t = x :: q ∧ ¬ D.isDig x) :
    ∃ id ok, (Calls Tryd.prog 6 #[.string s] w fun e w' => e = .returned (.tuple #[.int .i64 id, .bool ok]) ∧ Below w.heap.size w w') ∧
      Tail w s.size p.length (p.length + zs.length + d.length) neg ⟨d.toArray⟩ id ok := by
  have hlim : s.size ≤ 281474976710656 := by omega
  have hsz : s.size = p.length + zs.length + d.length + t.length := by
    have : s.data.toList.length = s.size := Array.length_toList
    rw [← this, hp, hr]; simp only [List.length_append]; omega
  have hdl : d.length ≤ 65536 := by omega
  have hd1 : 1 ≤ d.length := by cases d with | nil => exact absurd rfl hc.ne | cons _ _ => simp
  have hdig : ∀ c ∈ zs ++ d, D.isDig c := by
    intro c h
    rcases List.mem_append.1 h with h | h
    · rw [hz c h]; unfold D.isDig; decide
    · exact hc.1 c h
  have hne : zs ++ d ≠ [] := by simp [hc.ne]
  have hv := D.dval_zeros zs d hz
  have hiN : p.length < p.length + zs.length + d.length := by omega
  have g20 := fun b h => g_of d c20 hc k20 hdl (by decide) _ v20 b h
  have g8 := fun b h => g_of d c8 hc k8 hdl (by decide) _ v8 b h
  have g7 := fun b h => g_of d c7 hc k7 hdl (by decide) _ v7 b h
  have hdec := D.canon_dec d.length d rfl hc
  have hzero := canon_zero d hc
  have hsat := D.sat_signed hsig
  by_cases hbig : 18446744073709551616 ≤ D.dval 0 d
  · have ha := D.atoi_signed_range hsig (by rw [hr]; exact D.mag_range (zs ++ d) t hdig (by rw [hv]; exact hbig))
    refine ⟨_, false, answers_range s w hl hlim ha, .inl ⟨hiN, g20 true (decide_eq_true (by omega)), rfl, ?_⟩⟩
    rw [hsat]
    cases neg
    · exact .inr ⟨rfl, rfl⟩
    · exact .inl ⟨rfl, rfl⟩
  have h20 := g20 false (decide_eq_false (by omega))
  rcases ht with rfl | ⟨x, q, rfl, hx⟩
  · have hjn : p.length + zs.length + d.length = s.size := by simp at hsz; omega
    have ha := D.atoi_signed_ok hsig (D.dval 0 d) (by rw [hr, List.append_nil, ← hv]; exact D.mag_ok (zs ++ d) hdig hne (by rw [hv]; omega))
    generalize D.dval 0 d = v at *
    cases neg
    · simp only [true_and, Bool.false_eq_true, false_and, if_false] at ha
      by_cases hb : 9223372036854775808 ≤ v
      · rw [if_pos hb] at ha
        refine ⟨_, false, answers_range s w hl hlim ha, .inr (.inr (.inr (.inr (.inr (.inr (.inl ⟨hiN, h20, hjn, rfl, g7 true (decide_eq_true (by omega)), rfl, ?_⟩))))))⟩
        rw [hsat]; rfl
      · rw [if_neg hb] at ha
        refine ⟨_, _, answers_ok s w hlim _ ha (by omega) (by omega), .inr (.inr (.inr (.inr (.inr (.inr (.inr ⟨hiN, h20, hjn, rfl, g7 false (decide_eq_false (by omega)), decide_eq_true (by omega), _, usr_of w hl _ (by omega) (by omega), ?_⟩))))))⟩
        rw [ByteArray.toList_mk, ByteArray.toList_mk, Lib.itoa_nonneg, hdec]
        exact beq_self_eq_true d
    · simp only [Bool.true_eq_false, false_and, if_false, true_and, if_true] at ha
      by_cases hb : 9223372036854775808 < v
      · rw [if_pos hb] at ha
        refine ⟨_, false, answers_range s w hl hlim ha, .inr (.inr (.inr (.inr (.inl ⟨hiN, h20, hjn, rfl, ?_, g8 true (decide_eq_true (by omega)), rfl, ?_⟩))))⟩
        · rw [ByteArray.toList_mk, beq_eq_false_iff_ne]; exact hzero.2 (by omega)
        · rw [hsat]; rfl
      · rw [if_neg hb] at ha
        by_cases h0 : v = 0
        · refine ⟨_, _, answers_ok s w hlim _ ha (by omega) (by omega), .inr (.inr (.inr (.inl ⟨hiN, h20, hjn, rfl, ?_, decide_eq_true (by omega), by omega⟩)))⟩
          rw [ByteArray.toList_mk, beq_iff_eq]; exact hzero.1 h0
        · refine ⟨_, _, answers_ok s w hlim _ ha (by omega) (by omega), .inr (.inr (.inr (.inr (.inr (.inl ⟨hiN, h20, hjn, rfl, ?_, g8 false (decide_eq_false (by omega)), decide_eq_false (by omega), _, usr_of w hl _ (by omega) (by omega), ?_⟩)))))⟩
          · rw [ByteArray.toList_mk, beq_eq_false_iff_ne]; exact hzero.2 h0
          · rw [ByteArray.toList_mk, Lib.itoa_neg v (by omega), hdec, ByteArray.toList_eq]
            simp
  · have hjn : p.length + zs.length + d.length < s.size := by simp at hsz; omega
    have ha := D.atoi_signed_bad hsig (by rw [hr]; exact D.mag_bad (zs ++ d) q x hdig hx (by rw [hv]; omega))
    exact ⟨0, false, answers_bad s w hl hlim ha, .inr (.inr (.inl ⟨hiN, h20, hjn, rfl, rfl⟩))⟩

theorem law4_any (s : ByteArray) (w : World) (hl : Laid w) (hlim : s.size ≤ 281474976710656) :
    Calls Tryd.prog 4 #[.string s] w fun e w' => e = .returned (.bool true) ∧ Below w.heap.size w w' := by
  by_cases hs : 65536 < s.size
  · exact law4_long s w hlim hs
  by_cases h0 : s.size = 0
  · have e : s.data.toList = [] := by
      have : s.data.toList.length = s.size := Array.length_toList
      rw [h0] at this
      exact List.length_eq_zero_iff.1 this
    exact law4_empty s w h0 (bytes8_ok s w (by omega)) (answers_bad s w hl hlim (by rw [e]))
  obtain ⟨r, neg, hsig⟩ := D.signed_some s.data.toList
  obtain ⟨p, hp, hsg⟩ := sign_at s r neg hsig (by omega)
  obtain ⟨ds, t, hr, hd, ht⟩ := D.lead_split r
  have hlen : s.data.toList.length = s.size := Array.length_toList
  by_cases hne : ds = []
  · subst hne
    have hr' : r = t := hr
    have hbad : Lib.parseMag r = Lib.parseMag [] := by
      rw [hr']
      rcases ht with rfl | ⟨x, q, rfl, hx⟩
      · rfl
      · exact D.mag_bad [] q x (fun _ h => by cases h) hx (by rw [D.dval_nil]; omega)
    have ha := D.atoi_signed_bad hsig hbad
    have hpl : p.length ≤ s.size := by rw [← hlen, hp]; simp
    refine law4_walk s w s.size rfl (by omega) 0 false (bytes8_ok s w (by omega)) (answers_bad s w hl hlim ha) p.length p.length p.length neg hsg (Nat.le_refl _) hpl (Nat.le_refl _) (Nat.le_refl _) ?_ ?_ ?_ ?_ ⟨([] : List UInt8).toArray⟩ (by decide) ?_ ?_
    · intro m h1 h2; omega
    · intro hlt hh
      rcases ht with rfl | ⟨x, q, rfl, hx⟩
      · rw [hr', List.append_nil] at hp
        rw [← hlen, hp] at hlt
        omega
      · apply hx
        have : bt s.data.toList p.length = (x.toNat : Int) := by
          unfold bt
          rw [hp, hr', getD_at]
        rw [this] at hh
        exact ⟨by omega, by omega⟩
    · intro m h1 h2; omega
    · intro h; omega
    · intro W
      have := cut_is s p [] r (by rw [hp]; rfl) W
      simpa using this
    · exact Or.inr (.inl ⟨Int.le_refl _, rfl, rfl⟩)
  · obtain ⟨zs, d, rfl, hz, hc⟩ := D.zero_split ds hne hd
    obtain ⟨id, ok, hP, hT⟩ := tail_of s w hl (by omega) r neg hsig p zs d t hp hr hz hc ht
    have hd1 : 1 ≤ d.length := by cases d with | nil => exact absurd rfl hc.ne | cons _ _ => simp
    have hsz : s.size = p.length + zs.length + d.length + t.length := by
      rw [← hlen, hp, hr]; simp only [List.length_append]; omega
    refine law4_walk s w s.size rfl (by omega) id ok (bytes8_ok s w (by omega)) hP p.length (p.length + zs.length + d.length) (p.length + zs.length) neg hsg (by omega) (by omega) (by omega) (by omega) ?_ ?_ ?_ ?_ ⟨d.toArray⟩ (by show d.toArray.size ≤ 65536; simp; omega) ?_ hT
    · intro m h1 h2
      have hm : s.data.toList.getD m 0 ∈ zs ++ d := by
        rw [hp, hr]; exact getD_mid p (zs ++ d) t m h1 (by simp only [List.length_append]; omega)
      have := hd _ hm
      unfold bt
      exact ⟨by have := this.1; omega, by have := this.2; omega⟩
    · intro hlt hh
      rcases ht with rfl | ⟨x, q, rfl, hx⟩
      · simp at hsz; omega
      · apply hx
        have : bt s.data.toList (p.length + zs.length + d.length) = (x.toNat : Int) := by
          unfold bt
          rw [hp, hr, ← List.append_assoc, show p.length + zs.length + d.length = (p ++ (zs ++ d)).length by simp only [List.length_append]; omega, getD_at]
        rw [this] at hh
        exact ⟨by omega, by omega⟩
    · intro m h1 h2
      refine ⟨by omega, ?_⟩
      have hm : s.data.toList.getD m 0 ∈ zs := by
        rw [hp, hr, List.append_assoc]; exact getD_mid p zs (d ++ t) m h1 h2
      unfold bt
      rw [hz _ hm]; rfl
    · intro h
      rcases hc.2 with ⟨c, rfl⟩ | ⟨c, q, rfl, h48⟩
      · simp at h
      · have : bt s.data.toList (p.length + zs.length) = (c.toNat : Int) := by
          unfold bt
          rw [hp, hr, List.append_assoc, List.cons_append, ← List.append_assoc, show p.length + zs.length = (p ++ zs).length by simp, getD_at]
        rw [this]
        intro e
        exact h48 (UInt8.toNat_inj.1 (by show c.toNat = 48; omega))
    · intro W
      have := cut_is s (p ++ zs) d t (by rw [hp, hr]; simp) W
      rw [List.length_append] at this
      exact this
end Go.Proofs.Qxb6614734aDoor
