/-
  THE GRAPH AS IT COMES IN: read, and no more.
-/
import Derived.Test.Qxb6602148aTk
attribute [local go_sem] Go.Proofs.Qxb6602148a.yTo Go.Proofs.Qxb6602148a.yUpon
namespace Go.Proofs.Qxb6602148a
open Go.RowKit
set_option linter.unusedVariables false
set_option linter.unusedSimpArgs false

structure RG (w : World) (a : Option Addr) (n : Nat) (A : Nat → Option Addr) (d C : Nat → Nat) (z : Nat → Nat → Int) : Prop where
  hd : ∀ r, r < n → ∃ ad, a = some ad ∧ w.cell? (ad.add r) = some (.slice (A r) (d r) (C r))
  nn : n ≤ 9223372036854775807
  dn : ∀ r, r < n → d r ≤ C r ∧ C r ≤ 9223372036854775807
  ent : ∀ r c, r < n → c < d r → ∃ a', A r = some a' ∧ w.cell? (a'.add c) = some (.int .i64 (z r c))
  nil : ∀ r, r < n → A r = none → d r = 0 ∧ C r = 0

def RetB (w : World) (e : Ending) (w' : World) : Prop := (∃ b, e = .returned (.bool b)) ∧ w' = w
def BRel (n : Nat) (w : World) (t i : Value) (wr : World) : Prop := ∃ tt ii : Nat, t = .int .i64 (tt : Int) ∧ i = .int .i64 (ii : Int) ∧ tt ≤ 1048576 ∧ ii ≤ n ∧ w = wr

set_option maxHeartbeats 2000000 in
theorem bytes6_calls (w : World) (a : Option Addr) (n k : Nat) (A : Nat → Option Addr) (d C : Nat → Nat) (z : Nat → Nat → Int) (h : RG w a n A d C z) :
    Calls Try.prog 6 #[.slice a n k] w (RetB w) := by
  have hn := h.nn
  have HG : Hid (RG w a n A d C z) := h
  clear h
  by_cases h0 : n ≤ 1048576
  · have h0i : ¬ (1048576 : Int) < (n : Int) := by omega
    go_enter Try.func6, Try.ntmps6
    go_wp2
    go_loopw [3, 4] (fun t i wr => BRel n w t i wr) (fun _ i _ => n - (intOf i).toNat)
    case atStart => exact ⟨n, 0, rfl, rfl, h0, Nat.zero_le _, rfl⟩
    case round =>
      obtain ⟨tt, ii, rfl, rfl, h1, h2, rfl⟩ := hrel
      by_cases hi : ii < n
      · obtain ⟨ad, rfl, hc⟩ := HG.out.hd ii hi
        have hd := HG.out.dn ii hi
        have hii : (ii : Int) < (n : Int) := by omega
        by_cases h3 : d ii ≤ 1048576
        · have h3i : ¬ (1048576 : Int) < ((d ii : Nat) : Int) := by omega
          by_cases h4 : tt + d ii ≤ 1048576
          · have h4i : ¬ (1048576 : Int) < (tt : Int) + ((d ii : Nat) : Int) := by omega
            go_wp2
            go_roundw
            case rel => exact ⟨tt + d ii, ii + 1, by simp, by simp, h4, by omega, rfl⟩
            case measure => simp [intOf]; omega
          · have h4i : (1048576 : Int) < (tt : Int) + ((d ii : Nat) : Int) := by omega
            go_wp2
            go_ret
            exact ⟨⟨_, rfl⟩, rfl⟩
        · have h3i : (1048576 : Int) < ((d ii : Nat) : Int) := by omega
          go_wp2
          go_ret
          exact ⟨⟨_, rfl⟩, rfl⟩
      · have hii : ¬ (ii : Int) < (n : Int) := by omega
        go_wp2
        go_ret
        exact ⟨⟨_, rfl⟩, rfl⟩
  · have h0i : (1048576 : Int) < (n : Int) := by omega
    go_enter Try.func6, Try.ntmps6
    go_wp2
    go_ret
    exact ⟨⟨_, rfl⟩, rfl⟩
set_option maxHeartbeats 2000000 in
theorem bytes14_calls (w : World) (a : Option Addr) (n k : Nat) (A : Nat → Option Addr) (d C : Nat → Nat) (z : Nat → Nat → Int) (c : Int) (h : RG w a n A d C z) :
    Calls Try.prog 14 #[.slice a n k, .int .i64 c] w (RetB w) := by
  have hn := h.nn
  have HG : Hid (RG w a n A d C z) := h
  clear h
  by_cases h0 : n ≤ 1048576
  · have h0i : ¬ (1048576 : Int) < (n : Int) := by omega
    go_enter Try.func14, Try.ntmps14
    go_wp2
    go_loopw [5, 6] (fun t i wr => BRel n w t i wr) (fun _ i _ => n - (intOf i).toNat)
    case atStart => exact ⟨n, 0, rfl, rfl, h0, Nat.zero_le _, rfl⟩
    case round =>
      obtain ⟨tt, ii, rfl, rfl, h1, h2, rfl⟩ := hrel
      by_cases hi : ii < n
      · obtain ⟨ad, rfl, hc⟩ := HG.out.hd ii hi
        have hd := HG.out.dn ii hi
        have hii : (ii : Int) < (n : Int) := by omega
        by_cases h3 : d ii ≤ 1048576
        · have h3i : ¬ (1048576 : Int) < ((d ii : Nat) : Int) := by omega
          by_cases h4 : tt + d ii ≤ 1048576
          · have h4i : ¬ (1048576 : Int) < (tt : Int) + ((d ii : Nat) : Int) := by omega
            go_wp2
            go_roundw
            case rel => exact ⟨tt + d ii, ii + 1, by simp, by simp, h4, by omega, rfl⟩
            case measure => simp [intOf]; omega
          · have h4i : (1048576 : Int) < (tt : Int) + ((d ii : Nat) : Int) := by omega
            go_wp2
            go_ret
            exact ⟨⟨_, rfl⟩, rfl⟩
        · have h3i : (1048576 : Int) < ((d ii : Nat) : Int) := by omega
          go_wp2
          go_ret
          exact ⟨⟨_, rfl⟩, rfl⟩
      · have hii : ¬ (ii : Int) < (n : Int) := by omega
        go_wp2
        go_ret
        exact ⟨⟨_, rfl⟩, rfl⟩
  · have h0i : (1048576 : Int) < (n : Int) := by omega
    go_enter Try.func14, Try.ntmps14
    go_wp2
    go_ret
    exact ⟨⟨_, rfl⟩, rfl⟩
set_option maxHeartbeats 2000000 in
theorem bytes18_calls (w : World) (a : Option Addr) (n k : Nat) (A : Nat → Option Addr) (d C : Nat → Nat) (z : Nat → Nat → Int) (c : Int) (ax : Option Addr) (m ks : Nat) (hm : m ≤ 9223372036854775807) (h : RG w a n A d C z) :
    Calls Try.prog 18 #[.slice a n k, .int .i64 c, .slice ax m ks] w (RetB w) := by
  have hn := h.nn
  have HG : Hid (RG w a n A d C z) := h
  clear h
  by_cases h0 : n ≤ 1048576
  · have h0i : ¬ (1048576 : Int) < (n : Int) := by omega
    go_enter Try.func18, Try.ntmps18
    go_wp2
    go_loopw [7, 8] (fun t i wr => BRel n w t i wr) (fun _ i _ => n - (intOf i).toNat)
    case atStart => exact ⟨n, 0, rfl, rfl, h0, Nat.zero_le _, rfl⟩
    case round =>
      obtain ⟨tt, ii, rfl, rfl, h1, h2, rfl⟩ := hrel
      by_cases hi : ii < n
      · obtain ⟨ad, rfl, hc⟩ := HG.out.hd ii hi
        have hd := HG.out.dn ii hi
        have hii : (ii : Int) < (n : Int) := by omega
        by_cases h3 : d ii ≤ 1048576
        · have h3i : ¬ (1048576 : Int) < ((d ii : Nat) : Int) := by omega
          by_cases h4 : tt + d ii ≤ 1048576
          · have h4i : ¬ (1048576 : Int) < (tt : Int) + ((d ii : Nat) : Int) := by omega
            go_wp2
            go_roundw
            case rel => exact ⟨tt + d ii, ii + 1, by simp, by simp, h4, by omega, rfl⟩
            case measure => simp [intOf]; omega
          · have h4i : (1048576 : Int) < (tt : Int) + ((d ii : Nat) : Int) := by omega
            go_wp2
            go_ret
            exact ⟨⟨_, rfl⟩, rfl⟩
        · have h3i : (1048576 : Int) < ((d ii : Nat) : Int) := by omega
          go_wp2
          go_ret
          exact ⟨⟨_, rfl⟩, rfl⟩
      · have hii : ¬ (ii : Int) < (n : Int) := by omega
        by_cases h5 : m ≤ 1048576
        · have h5i : ¬ (1048576 : Int) < (m : Int) := by omega
          by_cases h6 : tt + m ≤ 1048576
          · have h6i : ¬ (1048576 : Int) < (tt : Int) + (m : Int) := by omega
            go_wp2
            go_ret
            exact ⟨⟨_, rfl⟩, rfl⟩
          · have h6i : (1048576 : Int) < (tt : Int) + (m : Int) := by omega
            go_wp2
            go_ret
            exact ⟨⟨_, rfl⟩, rfl⟩
        · have h5i : (1048576 : Int) < (m : Int) := by omega
          go_wp2
          go_ret
          exact ⟨⟨_, rfl⟩, rfl⟩
  · have h0i : (1048576 : Int) < (n : Int) := by omega
    go_enter Try.func18, Try.ntmps18
    go_wp2
    go_ret
    exact ⟨⟨_, rfl⟩, rfl⟩

def RetF (w : World) (n : Nat) (d : Nat → Nat) (e : Ending) (w' : World) : Prop := (∃ b : Bool, e = .returned (.bool b) ∧ (b = true → ∀ r, r < n → d r ≤ 131072)) ∧ w' = w
def BRelF (n : Nat) (d : Nat → Nat) (w : World) (t i : Value) (wr : World) : Prop := ∃ tt ii : Nat, t = .int .i64 (tt : Int) ∧ i = .int .i64 (ii : Int) ∧ tt ≤ 1048576 ∧ ii ≤ n ∧ (∀ r, r < ii → d r ≤ 131072) ∧ w = wr
set_option maxHeartbeats 2000000 in
theorem bytesFit_calls (w : World) (a : Option Addr) (n k x : Nat) (A : Nat → Option Addr) (d C : Nat → Nat) (z : Nat → Nat → Int) (h : RG w a n A d C z) :
    Calls Try.prog 7 #[.slice a n k, .int .i64 (x : Int)] w (RetF w n d) := by
  have hn := h.nn
  have HG : Hid (RG w a n A d C z) := h
  clear h
  have hx0 : ¬ (x : Int) < 0 := by omega
  by_cases h0 : n ≤ 131072
  · have h0i : ¬ (131072 : Int) < (n : Int) := by omega
    by_cases hx : x ≤ 131072
    · have hxi : ¬ (131072 : Int) < (x : Int) := by omega
      by_cases hs : 8 * n + 8 * x ≤ 1048576
      · have hsi : ¬ (1048576 : Int) < 8 * (n : Int) + 8 * (x : Int) := by omega
        go_enter Try.func7, Try.ntmps7
        go_wp2
        go_loopw [5, 6] (fun t i wr => BRelF n d w t i wr) (fun _ i _ => n - (intOf i).toNat)
        case atStart => exact ⟨8 * n + 8 * x, 0, by simp, rfl, hs, Nat.zero_le _, fun r hr => by omega, rfl⟩
        case round =>
          obtain ⟨tt, ii, rfl, rfl, h1, h2, hf, rfl⟩ := hrel
          have HF : Hid (∀ r, r < ii → d r ≤ 131072) := hf
          clear hf
          by_cases hi : ii < n
          · obtain ⟨ad, rfl, hc⟩ := HG.out.hd ii hi
            have hd := HG.out.dn ii hi
            have hii : (ii : Int) < (n : Int) := by omega
            by_cases h3 : d ii ≤ 131072
            · have h3i : ¬ (131072 : Int) < ((d ii : Nat) : Int) := by omega
              by_cases h4 : tt + 8 * d ii ≤ 1048576
              · have h4i : ¬ (1048576 : Int) < (tt : Int) + 8 * ((d ii : Nat) : Int) := by omega
                go_wp2
                go_roundw
                case rel => exact ⟨tt + 8 * d ii, ii + 1, by simp, by simp, h4, by omega, fun r hr => by
                  by_cases e : r = ii
                  · subst e; exact h3
                  · exact HF.out r (by omega), rfl⟩
                case measure => simp [intOf]; omega
              · have h4i : (1048576 : Int) < (tt : Int) + 8 * ((d ii : Nat) : Int) := by omega
                go_wp2
                go_ret
                exact ⟨⟨_, rfl, fun h => by cases h⟩, rfl⟩
            · have h3i : (131072 : Int) < ((d ii : Nat) : Int) := by omega
              go_wp2
              go_ret
              exact ⟨⟨_, rfl, fun h => by cases h⟩, rfl⟩
          · have hii : ¬ (ii : Int) < (n : Int) := by omega
            have hin : ii = n := by omega
            have HF2 : Hid (∀ r, r < n → d r ≤ 131072) := by rw [← hin]; exact HF.out
            clear hin
            go_wp2
            go_ret
            exact ⟨⟨_, rfl, fun _ => HF2.out⟩, rfl⟩
      · have hsi : (1048576 : Int) < 8 * (n : Int) + 8 * (x : Int) := by omega
        go_enter Try.func7, Try.ntmps7
        go_wp2
        go_ret
        exact ⟨⟨_, rfl, fun h => by cases h⟩, rfl⟩
    · have hxi : (131072 : Int) < (x : Int) := by omega
      go_enter Try.func7, Try.ntmps7
      go_wp2
      go_ret
      exact ⟨⟨_, rfl, fun h => by cases h⟩, rfl⟩
  · have h0i : (131072 : Int) < (n : Int) := by omega
    go_enter Try.func7, Try.ntmps7
    go_wp2
    go_ret
    exact ⟨⟨_, rfl, fun h => by cases h⟩, rfl⟩

/-- The graph that is read. -/
def rgG (n : Nat) (d : Nat → Nat) (z : Nat → Nat → Int) : GR := ⟨n, d, fun r c => (z r c).toNat⟩
def RetG (w : World) (n : Nat) (d : Nat → Nat) (z : Nat → Nat → Int) (e : Ending) (w' : World) : Prop := (∃ b : Bool, e = .returned (.bool b) ∧ (b = true → (rgG n d z).Ok ∧ ∀ r c, r < n → c < d r → 0 ≤ z r c)) ∧ w' = w
def GRel (n : Nat) (d : Nat → Nat) (z : Nat → Nat → Int) (w : World) (t i : Value) (wr : World) : Prop := ∃ ii : Nat, t = .int .i64 (((rgG n d z).fst ii : Nat) : Int) ∧ i = .int .i64 (ii : Int) ∧ (rgG n d z).fst ii ≤ 4096 ∧ ii ≤ n ∧ (∀ r c, r < ii → c < d r → 0 ≤ z r c ∧ z r c < n) ∧ w = wr
def GRelI (d : Nat → Nat) (z : Nat → Nat → Int) (n ii : Nat) (w : World) (i : Value) (wr : World) : Prop := ∃ kk : Nat, i = .int .i64 (kk : Int) ∧ kk ≤ d ii ∧ (∀ c, c < kk → 0 ≤ z ii c ∧ z ii c < n) ∧ w = wr

set_option maxHeartbeats 4000000 in
theorem graphFits_calls (w : World) (a : Option Addr) (n k : Nat) (A : Nat → Option Addr) (d C : Nat → Nat) (z : Nat → Nat → Int) (h : RG w a n A d C z) (hb : ∀ r, r < n → d r ≤ 131072) :
    Calls Try.prog 8 #[.slice a n k] w (RetG w n d z) := by
  have hn := h.nn
  have HG : Hid (RG w a n A d C z) := h
  have HB : Hid (∀ r, r < n → d r ≤ 131072) := hb
  clear h hb
  by_cases h0 : n ≤ 4096
  · have h0i : ¬ (4096 : Int) < (n : Int) := by omega
    go_enter Try.func8, Try.ntmps8
    go_wp2
    go_loopw [3, 4] (fun t i wr => GRel n d z w t i wr) (fun _ i _ => n - (intOf i).toNat)
    case atStart => exact ⟨0, rfl, rfl, Nat.zero_le _, Nat.zero_le _, fun r c hr => by omega, rfl⟩
    case round =>
      obtain ⟨ii, rfl, rfl, h1, h2, h3, rfl⟩ := hrel
      have HZ : Hid (∀ r c, r < ii → c < d r → 0 ≤ z r c ∧ z r c < n) := h3
      clear h3
      by_cases hi : ii < n
      · obtain ⟨ad, rfl, hc⟩ := HG.out.hd ii hi
        have hd := HG.out.dn ii hi
        have hii : (ii : Int) < (n : Int) := by omega
        have hb := HB.out ii hi
        have hfs : (rgG n d z).fst (ii + 1) = (rgG n d z).fst ii + d ii := rfl
        have HFS : Hid ((rgG n d z).fst (ii + 1) = (rgG n d z).fst ii + d ii) := hfs
        generalize (rgG n d z).fst ii = ff at *
        clear hfs
        by_cases h4 : ff + d ii ≤ 4096
        · have h4i : ¬ (4096 : Int) < (ff : Int) + ((d ii : Nat) : Int) := by omega
          go_wp2
          go_loopw [5] (fun i wr => GRelI d z n ii w i wr) (fun i _ => d ii - (intOf i).toNat)
          case atStart => exact ⟨0, rfl, Nat.zero_le _, fun c hc => by omega, rfl⟩
          case round =>
            obtain ⟨kk, rfl, k1, k2, rfl⟩ := hrel
            have HK2 : Hid (∀ c, c < kk → 0 ≤ z ii c ∧ z ii c < n) := k2
            clear k2
            by_cases hk : kk < d ii
            · obtain ⟨a', ha', hc'⟩ := HG.out.ent ii kk hi hk
              have hki : (kk : Int) < ((d ii : Nat) : Int) := by omega
              rw [ha'] at hc
              by_cases hz : 0 ≤ z ii kk ∧ z ii kk < n
              · obtain ⟨z1, z2⟩ := hz
                have z1' : ¬ z ii kk < 0 := by omega
                go_wp2
                go_roundw
                case rel => exact ⟨kk + 1, by simp, by omega, fun c hc => by
                  by_cases e : c = kk
                  · subst e; exact ⟨z1, z2⟩
                  · exact HK2.out c (by omega), rfl⟩
                case measure => simp [intOf]; omega
              · by_cases z1 : z ii kk < 0
                · go_wp2
                  go_ret
                  exact ⟨⟨_, rfl, fun h => by cases h⟩, rfl⟩
                · have z2 : ¬ z ii kk < n := fun h => hz ⟨by omega, h⟩
                  clear hz
                  go_wp2
                  go_ret
                  exact ⟨⟨_, rfl, fun h => by cases h⟩, rfl⟩
            · have hki : ¬ (kk : Int) < ((d ii : Nat) : Int) := by omega
              go_wp2
              go_roundw
              case rel => exact ⟨ii + 1, by rw [HFS.out]; simp, by simp, by rw [HFS.out]; exact h4, by omega, fun r c hr hc => by
                  by_cases e : r = ii
                  · subst e; exact HK2.out c (by omega)
                  · exact HZ.out r c (by omega) hc, rfl⟩
              case measure => simp [intOf]; omega
        · have h4i : (4096 : Int) < (ff : Int) + ((d ii : Nat) : Int) := by omega
          go_wp2
          go_ret
          exact ⟨⟨_, rfl, fun h => by cases h⟩, rfl⟩
      · have hii : ¬ (ii : Int) < (n : Int) := by omega
        obtain rfl : n = ii := by omega
        have fin : Hid ((rgG n d z).Ok ∧ ∀ r c, r < n → c < d r → 0 ≤ z r c) := by
          refine ⟨⟨h0, h1, fun v k hv hk => ?_⟩, fun r c hr hc => (HZ.out r c hr hc).1⟩
          have := HZ.out v k hv hk
          show (z v k).toNat < n
          omega
        go_wp2
        go_ret
        exact ⟨⟨_, rfl, fun _ => fin.out⟩, rfl⟩
  · have h0i : (4096 : Int) < (n : Int) := by omega
    go_enter Try.func8, Try.ntmps8
    go_wp2
    go_ret
    exact ⟨⟨_, rfl, fun h => by cases h⟩, rfl⟩
end Go.Proofs.Qxb6602148a
