import Derived.Test.Qxb6614734aDoorNames
import Derived.Test.Qxb6614734aDoorGrammar
set_option linter.unusedVariables false
namespace Go.Proofs.Qxb6614734aDoor
open Go.RowKit

/-- the byte at k -/
def bt (l : List UInt8) (k : Nat) : Int := ((l.getD k 0).toNat : Int)

theorem idx (s : ByteArray) (k : Nat) (h : k < s.size) (W : World) : (Instr.index 9 (.string s) (.int .i64 k)).run Tryd.prog W = .ok (.int .u8 (bt s.data.toList k)) W := by
  rw [run_index_string (P := Tryd.prog) W 9 s .i64 k Tryd.underlying9]
  rw [dif_pos (by omega)]
  have h' : k < s.data.toList.length := by rw [Array.length_toList]; exact h
  have : bt s.data.toList k = ((s[(k : Int).toNat]'(by simpa using h)).toNat : Int) := by
    unfold bt
    rw [List.getD_eq_getElem?_getD, List.getElem?_eq_getElem h', Option.getD_some]
    simp only [Int.toNat_natCast]
    rfl
  rw [this]

theorem below_drewN {m : Nat} {w wr : World} (h : Below m w wr) (n : Nat) : Below m w (wr.drewN n) := ⟨h.os, h.tape, h.output, h.size, h.block⟩

theorem drop_bt (l : List UInt8) (k : Nat) (h : k < l.length) : l.drop k = l.getD k 0 :: l.drop (k + 1) := by
  rw [List.getD_eq_getElem?_getD, List.getElem?_eq_getElem h, Option.getD_some]
  exact List.drop_eq_getElem_cons h

set_option maxHeartbeats 400000 in
theorem greater_same (a b : ByteArray) (w : World) (n : Nat) (ha : a.size = n) (hb : b.size = n) (hn : n ≤ 65536) :
    Calls Tryd.prog 9 #[.string a, .string b] w fun e w' => e = .returned (.bool (D.gt a.data.toList b.data.toList)) ∧ Below w.heap.size w w' := by
  go_enter Tryd.func9, Tryd.ntmps9
  go_wp2
  go_loopw [5] (fun t wr => ∃ k : Nat, k ≤ n ∧ t = .int .i64 k ∧ Hid (D.gt a.data.toList b.data.toList = D.gt (a.data.toList.drop k) (b.data.toList.drop k)) ∧ Hid (Below w.heap.size w wr)) (fun t _ => n - (intOf t).toNat)
  case atStart => exact ⟨0, Nat.zero_le _, rfl, rfl, Below.refl _ _⟩
  case round =>
    obtain ⟨k, hk, rfl, hg, hbel⟩ := hrel
    by_cases hlt : k < n
    · have i1 := idx a k (by omega)
      have i2 := idx b k (by omega)
      have hda := drop_bt a.data.toList k (by rw [Array.length_toList]; show k < a.size; omega)
      have hdb := drop_bt b.data.toList k (by rw [Array.length_toList]; show k < b.size; omega)
      obtain ⟨x, hx⟩ : ∃ x, Hid (x = a.data.toList.getD k 0) := ⟨_, rfl⟩
      obtain ⟨y, hy⟩ : ∃ y, Hid (y = b.data.toList.getD k 0) := ⟨_, rfl⟩
      have i1' : ∀ W, (Instr.index 9 (.string a) (.int .i64 k)).run Tryd.prog W = .ok (.int .u8 (x.toNat : Int)) W := fun W => by rw [i1 W]; unfold bt; rw [hx.out]
      have i2' : ∀ W, (Instr.index 9 (.string b) (.int .i64 k)).run Tryd.prog W = .ok (.int .u8 (y.toNat : Int)) W := fun W => by rw [i2 W]; unfold bt; rw [hy.out]
      rw [← hx.out] at hda
      rw [← hy.out] at hdb
      have G : Hid (D.gt a.data.toList b.data.toList = if x = y then D.gt (a.data.toList.drop (k + 1)) (b.data.toList.drop (k + 1)) else decide (y.toNat < x.toNat)) := by
        show _ = _
        rw [hg.out, hda, hdb, D.gt]
      clear hda hdb i1 i2 hg
      by_cases hxy : x = y
      · have he : ((x.toNat : Int) != (y.toNat : Int)) = false := by rw [bne_eq_false_iff_eq, hxy]
        go_wp2
        go_quiet (fail)
        go_wp2
        refine ⟨⟨k + 1, by omega, by go_num, (by show _ = _; rw [G.out, if_pos hxy]), ?_⟩, ?_⟩
        · exact below_drewN hbel.out _
        · simp [intOf]; omega
      · have he : ((x.toNat : Int) != (y.toNat : Int)) = true := by rw [bne_iff_ne]; intro h; exact hxy (UInt8.toNat_inj.1 (by omega))
        go_wp2
        go_quiet (fail)
        go_wp2
        go_quiet (fail)
        go_wp2
        go_ret
        rw [G.out, if_neg hxy]
        refine ⟨?_, below_drewN (below_drewN hbel.out _) _⟩
        simp
    · have hkn : k = n := by omega
      have e1 : a.data.toList.drop k = [] := List.drop_eq_nil_of_le (by rw [Array.length_toList]; show a.size ≤ k; omega)
      have G : Hid (D.gt a.data.toList b.data.toList = false) := by
        show _ = _
        rw [hg.out, e1, D.gt]
        intro _ _ _ _ h; cases h
      clear e1
      go_wp2
      go_ret
      rw [G.out]
      exact ⟨rfl, hbel.out⟩

set_option maxHeartbeats 400000 in
theorem greater_len (a b : ByteArray) (w : World) (m n : Nat) (ha : a.size = m) (hb : b.size = n) (hm : m ≤ 65536) (hn : n ≤ 65536) (h : ((m : Int) != (n : Int)) = true) :
    Calls Tryd.prog 9 #[.string a, .string b] w fun e w' => e = .returned (.bool (decide (n < m))) ∧ Below w.heap.size w w' := by
  go_enter Tryd.func9, Tryd.ntmps9
  go_wp2
  go_ret
  refine ⟨?_, Below.refl _ _⟩
  simp

theorem greater_any (a b : ByteArray) (w : World) (hm : a.size ≤ 65536) (hn : b.size ≤ 65536) :
    Calls Tryd.prog 9 #[.string a, .string b] w fun e w' => e = .returned (.bool (D.greater a.data.toList b.data.toList)) ∧ Below w.heap.size w w' := by
  have la : a.data.toList.length = a.size := Array.length_toList
  have lb : b.data.toList.length = b.size := Array.length_toList
  unfold D.greater
  rw [la, lb]
  by_cases h : a.size = b.size
  · rw [if_pos h]
    exact greater_same a b w b.size h rfl hn
  · rw [if_neg h]
    exact greater_len a b w a.size b.size rfl rfl hm hn (by rw [bne_iff_ne]; omega)
end Go.Proofs.Qxb6614734aDoor
