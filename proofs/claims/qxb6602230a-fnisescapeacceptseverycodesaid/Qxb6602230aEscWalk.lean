import Derived.Test.Qxb6602230aEscape
import Derived.Room.AppendFits
namespace Go.Proofs.Qxb6602230a
open Go.RowKit

theorem Try.info5 : (Try.prog.info? 5).map (fun i => (i.zero, i.size, i.bytes)) = some (some (.int .u8 0), 1, 1) := by kernel_rfl

/-- The cells of bytes given as numbers. -/
def byteVals (l : List Nat) : List Value := l.map fun n : Nat => Value.int .u8 (n : Int)

theorem two_new (w : World) (a b : Value) (t : TypeId) : ∀ j u, [a, b][j]? = some u → (w.alloc (.cells #[a, b] t)).cell? ((⟨w.heap.size, 0, none⟩ : Addr).add j) = some u := by
  intro j u hj
  match j, hj with
  | 0, hj => simp at hj; subst hj; simp [Addr.add]
  | 1, hj => simp at hj; subst hj; simp [Addr.add]
theorem one_new (w : World) (a : Value) (t : TypeId) : ∀ j u, [a][j]? = some u → (w.alloc (.cells #[a] t)).cell? ((⟨w.heap.size, 0, none⟩ : Addr).add j) = some u := by
  intro j u hj
  match j, hj with
  | 0, hj => simp at hj; subst hj; simp [Addr.add]

/-- Four bits of a 16-bit number. -/
theorem nibble (v : Int) (k : Nat) (h0 : 0 ≤ v) (h1 : v < 65536) : 0 ≤ bits BinOp.and IntKind.u16 (v / 2 ^ k) 15 % 256 ∧ bits BinOp.and IntKind.u16 (v / 2 ^ k) 15 % 256 < 16 := by
  have hp : (0 : Int) < 2 ^ k := Int.pow_pos (by omega)
  have g0 : 0 ≤ v / 2 ^ k := Int.ediv_nonneg h0 (by omega)
  have g1 : v / 2 ^ k ≤ v := Int.ediv_le_self _ h0
  rw [u16_and (v / 2 ^ k) 15 g0 (by omega) (by omega) (by omega)]
  have : (v / 2 ^ k).toNat &&& (15 : Int).toNat ≤ 15 := Nat.and_le_right
  omega

theorem row_step {B n k cap : Nat} {l : List Nat} {w1 : World} (h : w1.ownsRow B 5 1 (.slice (some ⟨B, 0, none⟩) (2 + k + 1) cap) (2 + k + 1) ([.int .u8 95, .int .u8 120] ++ byteVals l ++ [.int .u8 (n : Int)])) :
    w1.ownsRow B 5 1 (.slice (some ⟨B, 0, none⟩) (2 + (k + 1)) cap) (2 + (k + 1)) ([.int .u8 95, .int .u8 120] ++ byteVals (l ++ [n])) := by
  simpa [byteVals, Nat.add_assoc] using h

/-- The bytes laid read back as a string that is an escape. -/
theorem conv_row {w4 : World} {B : Nat} {t : ByteArray} {l : List Nat} (hown : w4.ownsRow B 5 1 (.slice (some ⟨B, 0, none⟩) (7 + t.size) (7 + t.size)) (7 + t.size) ([.int .u8 95, .int .u8 120] ++ byteVals l ++ [.int .u8 95] ++ Lib.strCells t))
    (hl : l.length = 4) (hx : ∀ n ∈ l, hexB n) :
    ∃ (S : ByteArray) (hs : 7 ≤ S.size), (convert 28 9 (.slice (some ⟨B, 0, none⟩) (7 + t.size) (7 + t.size))).run Try.prog w4 = .ok (.string S) w4 ∧ (S[1]'(by omega)).toNat = 120 ∧ (S[6]'(by omega)).toNat = 95 ∧
      ∀ j (h : 2 ≤ j ∧ j < 6), hexB (S[j]'(by omega)).toNat := by
  match l, hl with
  | [a, b, c, d], _ =>
    have ha := hx a (by simp)
    have hb := hx b (by simp)
    have hc := hx c (by simp)
    have hd := hx d (by simp)
    have e : ∀ n, hexB n → (UInt8.ofNat n).toNat = n := by intro n hn; unfold hexB at hn; simp; omega
    have hsz : (⟨([95, 120, UInt8.ofNat a, UInt8.ofNat b, UInt8.ofNat c, UInt8.ofNat d, 95] ++ t.data.toList).toArray⟩ : ByteArray).size = 7 + t.size := by
      change (List.toArray _).size = _
      rw [List.size_toArray, List.length_append, Array.length_toList]
      rfl
    refine ⟨⟨([95, 120, UInt8.ofNat a, UInt8.ofNat b, UInt8.ofNat c, UInt8.ofNat d, 95] ++ t.data.toList).toArray⟩, by omega, ?_, rfl, rfl, ?_⟩
    · have h7 : ([95, 120, UInt8.ofNat a, UInt8.ofNat b, UInt8.ofNat c, UInt8.ofNat d, 95] ++ t.data.toList).length = 7 + t.size := by
        rw [List.length_append, Array.length_toList]
        rfl
      have := run_convert_bytes_back (P := Try.prog) w4 28 9 5 ⟨B, 0, none⟩ (7 + t.size) ([95, 120, UInt8.ofNat a, UInt8.ofNat b, UInt8.ofNat c, UInt8.ofNat d, 95] ++ t.data.toList) Try.underlying28 Try.underlying5 Try.underlying9 ?_
      · rw [h7] at this
        exact this
      · intro j hj
        rw [Addr.add_lit, Nat.zero_add, hown.cellAt j (by omega)]
        have key : [Value.int .u8 95, .int .u8 120] ++ byteVals [a, b, c, d] ++ [.int .u8 95] ++ Lib.strCells t = ([95, 120, UInt8.ofNat a, UInt8.ofNat b, UInt8.ofNat c, UInt8.ofNat d, 95] ++ t.data.toList).map fun x : UInt8 => Value.int .u8 (x.toNat : Int) := by
          simp only [byteVals, Lib.strCells, List.map_append, List.map_cons, List.map_nil, e a ha, e b hb, e c hc, e d hd]
          rfl
        rw [key, List.getElem?_map, List.getElem?_eq_getElem hj]
        rfl
    · intro j hj
      match j, hj with
      | 2, _ => change hexB (UInt8.ofNat a).toNat; rw [e a ha]; exact ha
      | 3, _ => change hexB (UInt8.ofNat b).toNat; rw [e b hb]; exact hb
      | 4, _ => change hexB (UInt8.ofNat c).toNat; rw [e c hc]; exact hc
      | 5, _ => change hexB (UInt8.ofNat d).toNat; rw [e d hd]; exact hd

set_option maxHeartbeats 1000000 in
theorem esc_walk (v u : Int) (t : ByteArray) (w : World) (hv0 : 0 ≤ v) (hv1 : v < 65536) (_hu0 : 0 ≤ u) (_hu1 : u < 256) (ht : t.size ≤ 1048576) :
    Calls Try.prog 6 #[.int .u16 v, .int .u8 u, .string t] w fun e w' => e = .returned (.bool true) ∧ Below w.heap.size w w' := by
  obtain ⟨i0, hi, hz0, hz1, hz2⟩ := info_parts Try.info5
  go_enter Try.func6, Try.ntmps6
  go_wp2_with (first
    | (at_make; refine wpList_make_own _ rfl _ _ 28 rfl w.heap.size 5 i0 (.int .u8 0) 1 Try.underlying28 hi hz0 hz1 _ _ _ (7 + t.size) rfl rfl (by omega) (by rw [hz2]; omega) (by unfold maxLen; omega) (Nat.le_refl _) ?_; intro w1 hown1 hgrow1)
    | (at_builtin; refine wpList_append_fits _ rfl (.tmp 22) (.tmp 23) 28 rfl w.heap.size 5 i0 1 Try.underlying28 hi hz1 w.heap.size 0 (7 + t.size) [] rfl (hown1.alloc _) ⟨w1.heap.size, 0, none⟩ 2 2 [.int .u8 95, .int .u8 120] rfl rfl (two_new _ _ _ _) (by simp [Value.oneCell']) (by omega) ?_; intro w2 hown2 hgrow2; simp only [Nat.zero_add, List.nil_append] at hown2)
    | go_in)
  have B1 : Below w.heap.size w w1 := (Below.refl _ _).grown hgrow1 (Nat.le_refl _) (by simp)
  have B2 : Below w.heap.size w w2 := (B1.alloc B1.size _).grown hgrow2 (by have := B1.size; simp; omega) (by simp)
  clear hown1 hgrow1 hgrow2 B1
  go_loopw [7, 8] (fun b i wr => ∃ (k : Nat) (l : List Nat), k ≤ 4 ∧ i = .int .i64 (3 - (k : Int)) ∧ b = .slice (some ⟨w.heap.size, 0, none⟩) (2 + k) (7 + t.size) ∧ l.length = k ∧ (∀ n ∈ l, hexB n) ∧
      wr.ownsRow w.heap.size 5 1 (.slice (some ⟨w.heap.size, 0, none⟩) (2 + k) (7 + t.size)) (2 + k) ([.int .u8 95, .int .u8 120] ++ byteVals l) ∧ Below w.heap.size w wr) (fun _ i _ => (intOf i + 1).toNat)
  case atStart => exact ⟨0, [], by omega, rfl, rfl, rfl, by simp, by simpa [byteVals] using hown2, B2⟩
  case round =>
    obtain ⟨k, l, hk, rfl, rfl, hl, hx, hown, hb⟩ := hrel
    have HX : Hid (∀ n ∈ l, hexB n) := hx
    clear hx B2 hown2
    by_cases hlt : k < 4
    · have hnb := nibble v (4 * (3 - k)) hv0 hv1
      go_wp2_with (first
        | (go_at_call 13; refine (hexDigit_any _ _ _ hnb.1 hnb.2).mono ?_; rintro e w' ⟨n, rfl, hn, rfl⟩; have HN : Hid (hexB n) := hn; clear hn)
        | (at_builtin; refine wpList_append_fits _ rfl (.tmp 36) (.tmp 45) 28 rfl w.heap.size 5 i0 1 Try.underlying28 hi hz1 w.heap.size (2 + k) (7 + t.size) _ rfl (hown.alloc _) ⟨_, 0, none⟩ 1 1 [.int .u8 (n : Int)] rfl rfl (one_new _ _ _) (by simp [Value.oneCell']) (by omega) ?_; intro w3 hown3 hgrow3))
      have R := row_step hown3
      have hb3 : Below w.heap.size w w3 := (hb.alloc hb.size _).grown hgrow3 (by have := hb.size; simp; omega) (by simp)
      clear hown3 hgrow3 hown hb hnb
      go_roundw
      case rel => exact ⟨k + 1, l ++ [n], by omega, by go_num, by simp [Nat.add_assoc], by simp [hl], by intro m hm; rcases List.mem_append.1 hm with h | h; exact HX.out m h; simp at h; subst h; exact HN.out, R, hb3⟩
      case measure => simp [intOf]; omega
    · obtain rfl : k = 4 := by omega
      go_wp2_with (first
        | (at_builtin; refine wpList_append_fits _ rfl (.tmp 47) (.tmp 48) 28 rfl w.heap.size 5 i0 1 Try.underlying28 hi hz1 w.heap.size 6 (7 + t.size) _ rfl (hown.alloc _) ⟨_, 0, none⟩ 1 1 [.int .u8 95] rfl rfl (one_new _ _ _) (by simp [Value.oneCell']) (by omega) ?_; intro w3 hown3 hgrow3)
        | (at_builtin; refine Lib.wpList_append_fits_string _ rfl (.tmp 50) (.tmp 51) 28 9 rfl w.heap.size 5 i0 Try.underlying28 Try.underlying9 hi hz1 _ 7 (7 + t.size) _ rfl hown3 t rfl (by omega) (by omega) ?_; intro w4 hown4 hgrow4; obtain ⟨S, hS, hcv, hSx⟩ := conv_row hown4 hl HX.out; have HS : Hid ((S[1]'(by omega)).toNat = 120 ∧ (S[6]'(by omega)).toNat = 95 ∧ ∀ j (h : 2 ≤ j ∧ j < 6), hexB (S[j]'(by omega)).toNat) := hSx; clear hSx))
      have hb4 : Below w.heap.size w w4 := ((hb.alloc hb.size _).grown hgrow3 (by have := hb.size; simp; omega) (by simp)).grown hgrow4 (by have h1 := hb.size; have h2 := hgrow3.size; simp at h2; omega) (by simp [Value.ownBlock])
      clear hown4 hgrow4 hown3 hgrow3 hown hb HX hcv
      go_wp2_with (first
        | (go_at_call 18; refine (isEscape_any S _ hS HS.out.1 HS.out.2.1 HS.out.2.2).mono ?_; rintro e w5 ⟨rfl, hb5⟩)
        | go_in)
      go_ret
      exact ⟨rfl, hb4.trans (hb5.mono hb4.size)⟩
end Go.Proofs.Qxb6602230a
