/-
  Package server: the codings, the table that both functions compute, and the walk of zzs1651ccoding.
-/
import Derived.Test.YbulkaheaRows
import Derived.Test.YbulkaheaFr
import Derived.WalkKit
import Derived.WalkSpells
import Derived.WalkLawsBesides
import Derived.OwnWalk
import Derived.Outline
import Derived.Deep.LoopGhost
import Derived.Deep.AppendLies
import Derived.BigQuiet
import Derived.Deep.QuietTactic
namespace Go.Proofs.Ybulkahea
open Go.RowKit Go.Deep

def sChunked : ByteArray := ⟨#[99, 104, 117, 110, 107, 101, 100]⟩
def cod (z : Nat) : ByteArray := if z % 4 = 0 then ⟨#[99, 104, 117, 110, 107, 101, 100]⟩ else if z % 4 = 1 then ⟨#[103, 122, 105, 112]⟩ else if z % 4 = 2 then ⟨#[100, 101, 102, 108, 97, 116, 101]⟩ else ⟨#[105, 100, 101, 110, 116, 105, 116, 121]⟩
theorem cod0 (z : Nat) (h : z % 4 = 0) : cod z = ⟨#[99, 104, 117, 110, 107, 101, 100]⟩ := by simp [cod, h]
theorem cod1 (z : Nat) (h : z % 4 = 1) : cod z = ⟨#[103, 122, 105, 112]⟩ := by simp [cod, h]
theorem cod2 (z : Nat) (h : z % 4 = 2) : cod z = ⟨#[100, 101, 102, 108, 97, 116, 101]⟩ := by simp [cod, h]
theorem cod3 (z : Nat) (h : z % 4 = 3) : cod z = ⟨#[105, 100, 101, 110, 116, 105, 116, 121]⟩ := by simp [cod, h]

/-- zzs1651ccoding. -/
theorem coding_any (z : Nat) (hz : z < 256) (w : World) : Calls Yba.prog 6 #[.int .u8 z] w fun e w' => e = .returned (.string (cod z)) ∧ w' = w := by
  rcases (show z % 4 = 0 ∨ z % 4 = 1 ∨ z % 4 = 2 ∨ z % 4 = 3 from by omega) with h | h | h | h
  · rw [cod0 z h]
    have h' : (z : Int) % 4 = 0 := by omega
    go_enter Yba.func6, Yba.ntmps6
    go_wp2
    go_ret
    exact ⟨rfl, rfl⟩
  · rw [cod1 z h]
    have h' : (z : Int) % 4 = 1 := by omega
    go_enter Yba.func6, Yba.ntmps6
    go_wp2
    go_ret
    exact ⟨rfl, rfl⟩
  · rw [cod2 z h]
    have h' : (z : Int) % 4 = 2 := by omega
    go_enter Yba.func6, Yba.ntmps6
    go_wp2
    go_ret
    exact ⟨rfl, rfl⟩
  · rw [cod3 z h]
    have h' : (z : Int) % 4 = 3 := by omega
    go_enter Yba.func6, Yba.ntmps6
    go_wp2
    go_ret
    exact ⟨rfl, rfl⟩

/-- A slice of bytes as a walk is told of it. -/
def Row8 (w : World) (a : Option Addr) (len : Nat) (Z : Nat → Nat) : Prop :=
  (∀ i, Z i < 256) ∧ (len = 0 ∨ ∃ b off, a = some ⟨b, off, none⟩ ∧ b < w.heap.size ∧ ∀ i, i < len → w.cell? ⟨b, off + i, none⟩ = some (.int .u8 (Z i : Nat)))
theorem Row8.below {w w' : World} {a : Option Addr} {len : Nat} {Z : Nat → Nat} (h : Row8 w a len Z) (hb : Below w.heap.size w w') : Row8 w' a len Z := by
  obtain ⟨hz, h⟩ := h
  refine ⟨hz, ?_⟩
  rcases h with h | ⟨b, off, ha, hlt, hc⟩
  · exact .inl h
  · exact .inr ⟨b, off, ha, Nat.lt_of_lt_of_le hlt hb.size, fun i hi => by rw [hb.cell (p := ⟨b, off + i, none⟩) hlt]; exact hc i hi⟩

/-- The codings in memory: a slice of len strings, the i-th the coding of Z i. -/
def RowS (w : World) (g len cap : Nat) (Z : Nat → Nat) : Prop :=
  g < w.heap.size ∧ len ≤ cap ∧ len ≤ 1024 ∧ ∀ i, i < len → w.cell? ⟨g, i, none⟩ = some (.string (cod (Z i)))

/-- how many of the first k are chunked -/
def nch (Z : Nat → Nat) : Nat → Nat
  | 0 => 0
  | k + 1 => nch Z k + (if Z k % 4 = 0 then 1 else 0)
theorem nch_le (Z : Nat → Nat) (k : Nat) : nch Z k ≤ k := by
  induction k with
  | zero => exact Nat.le_refl _
  | succ k ih => unfold nch; split <;> omega
theorem nch_succ (Z : Nat → Nat) (k : Nat) : nch Z (k + 1) = nch Z k + (if Z k % 4 = 0 then 1 else 0) := rfl
/-- the last of the first k is chunked -/
def lch (Z : Nat → Nat) (k : Nat) : Bool := decide (0 < k) && decide (Z (k - 1) % 4 = 0)

theorem lch_succ (Z : Nat → Nat) (k : Nat) : lch Z (k + 1) = decide (Z k % 4 = 0) := by simp [lch]

/-- the six reasons -/
def r1 : ByteArray := ⟨#[109, 111, 114, 101, 32, 116, 104, 97, 110, 32, 111, 110, 101, 32, 72, 111, 115, 116, 32, 102, 105, 101, 108, 100]⟩
def r2 : ByteArray := ⟨#[110, 111, 32, 72, 111, 115, 116, 32, 102, 105, 101, 108, 100]⟩
def r3 : ByteArray := ⟨#[98, 111, 116, 104, 32, 67, 111, 110, 116, 101, 110, 116, 45, 76, 101, 110, 103, 116, 104, 32, 97, 110, 100, 32, 84, 114, 97, 110, 115, 102, 101, 114, 45, 69, 110, 99, 111, 100, 105, 110, 103]⟩
def r4 : ByteArray := ⟨#[84, 114, 97, 110, 115, 102, 101, 114, 45, 69, 110, 99, 111, 100, 105, 110, 103, 32, 105, 110, 32, 97, 110, 32, 72, 84, 84, 80, 47, 49, 46, 48, 32, 114, 101, 113, 117, 101, 115, 116]⟩
def r5 : ByteArray := ⟨#[84, 114, 97, 110, 115, 102, 101, 114, 45, 69, 110, 99, 111, 100, 105, 110, 103, 32, 100, 111, 101, 115, 32, 110, 111, 116, 32, 101, 110, 100, 32, 119, 105, 116, 104, 32, 99, 104, 117, 110, 107, 101, 100]⟩
def r6 : ByteArray := ⟨#[99, 104, 117, 110, 107, 101, 100, 32, 97, 112, 112, 108, 105, 101, 100, 32, 109, 111, 114, 101, 32, 116, 104, 97, 110, 32, 111, 110, 99, 101]⟩
def r0 : ByteArray := ⟨#[]⟩

/-- what zzs1651cwant hands back where it refuses, where it does not -/
def refused (r : ByteArray) (e : Ending) : Prop := e = .returned (.tuple #[.bool false, .int .i64 0, .bool true, .string r])
def framed (ch : Bool) (n : Int) (e : Ending) : Prop := e = .returned (.tuple #[.bool ch, .int .i64 n, .bool false, .string r0])

theorem nil_slice (a : Addr) (n c : Nat) (w : World) : (binOp .eql 31 (.slice (some a) n c) (.slice none 0 0)).run Yba.prog w = .ok (.bool false) w := Lib.run_eql_slice_nil w 31 9 (some a) n c 0 0 Yba.underlying31
theorem nil_slice0 (w : World) : (binOp .eql 31 (.slice none 0 0) (.slice none 0 0)).run Yba.prog w = .ok (.bool true) w := Lib.run_eql_slice_nil w 31 9 none 0 0 0 0 Yba.underlying31

set_option maxHeartbeats 1600000 in
/-- the end of zzs1651cwant: the loop -/
theorem want_loop (hosts L : Int) (g len cap : Nat) (Z : Nat → Nat) (w : World) (hr : RowS w g len cap Z) (h1 : ¬ 1 < hosts) (h2 : ¬ hosts = 0) :
    Calls Yba.prog 8 #[.bool false, .int .i64 hosts, .int .i64 L, .bool false, .slice (some ⟨g, 0, none⟩) len cap] w fun e w' =>
      (if lch Z len = false then refused r5 e else if 1 < nch Z len then refused r6 e else framed true 0 e) ∧ w' = w := by
  obtain ⟨_, hlc, hc, hcell⟩ := hr
  have hne := nil_slice
  have h2' : (hosts == 0) = false := beq_eq_false_iff_ne.2 h2
  have HC : Hid (∀ i, i < len → w.cell? ⟨g, i, none⟩ = some (.string (cod (Z i)))) := hcell
  clear hcell
  go_enter Yba.func8, Yba.ntmps8
  go_wp2
  go_loop [14, 15, 16] (fun c l i => ∃ k : Nat, k ≤ len ∧ i = .int .i64 k ∧ c = .int .i64 (nch Z k : Nat) ∧ l = .bool (lch Z k)) (fun _ _ i => len - (intOf i).toNat)
  case atStart => exact ⟨0, by omega, rfl, rfl, rfl⟩
  case round =>
    obtain ⟨k, hk, rfl, rfl, rfl⟩ := hrel
    have hnl := nch_le Z k
    by_cases hlt : k < len
    · have hck := HC.out k hlt
      have HS : Hid (nch Z (k + 1) = nch Z k + (if Z k % 4 = 0 then 1 else 0)) := nch_succ Z k
      have HL : Hid (lch Z (k + 1) = decide (Z k % 4 = 0)) := lch_succ Z k
      have hk0 : (0 : Int) ≤ (k : Int) := by omega
      have hk1 : (k : Int) < (len : Int) := by omega
      rcases (show Z k % 4 = 0 ∨ Z k % 4 = 1 ∨ Z k % 4 = 2 ∨ Z k % 4 = 3 from by omega) with h | h | h | h
      · rw [cod0 _ h] at hck
        go_wp2
        go_round
        case rel => exact ⟨k + 1, by omega, by go_num, by rw [HS.out, if_pos h]; go_num, by rw [HL.out]; simp [h]⟩
        case measure => simp [intOf]; omega
      · rw [cod1 _ h] at hck
        go_wp2
        go_round
        case rel => exact ⟨k + 1, by omega, by go_num, by rw [HS.out, if_neg (by omega)]; rfl, by rw [HL.out]; simp [h]⟩
        case measure => simp [intOf]; omega
      · rw [cod2 _ h] at hck
        go_wp2
        go_round
        case rel => exact ⟨k + 1, by omega, by go_num, by rw [HS.out, if_neg (by omega)]; rfl, by rw [HL.out]; simp [h]⟩
        case measure => simp [intOf]; omega
      · rw [cod3 _ h] at hck
        go_wp2
        go_round
        case rel => exact ⟨k + 1, by omega, by go_num, by rw [HS.out, if_neg (by omega)]; rfl, by rw [HL.out]; simp [h]⟩
        case measure => simp [intOf]; omega
    · obtain rfl : k = len := by omega
      cases hl : lch Z k with
      | false =>
        go_wp2
        exact bodyPost_ret (v := .tuple #[.bool false, .int .i64 0, .bool true, .string r5]) (by simp [results, Yba.results8, go_sem, r5]) rfl ⟨rfl, rfl⟩
      | true =>
        by_cases hm : 1 < nch Z k
        · go_wp2
          exact bodyPost_ret (v := .tuple #[.bool false, .int .i64 0, .bool true, .string r6]) (by simp [results, Yba.results8, go_sem, r6]) rfl ⟨rfl, rfl⟩
        · go_wp2
          exact bodyPost_ret (v := .tuple #[.bool true, .int .i64 0, .bool false, .string r0]) (by simp [results, Yba.results8, go_sem, r0]) rfl ⟨rfl, rfl⟩

/-- the codings as a value: nil, or a slice of strings -/
def Cods (w : World) (v : Value) (nilc : Bool) (len : Nat) (Z : Nat → Nat) : Prop :=
  (nilc = true ∧ v = .slice none 0 0) ∨ (nilc = false ∧ ∃ g cap, v = .slice (some ⟨g, 0, none⟩) len cap ∧ RowS w g len cap Z)

/-- the table: chunked, the length, the reason of a refusal -/
def spec (b10 : Bool) (hosts L : Int) (hl nilc : Bool) (len : Nat) (Z : Nat → Nat) : Bool × Int × Option ByteArray :=
  if 1 < hosts then (false, 0, some r1) else if hosts = 0 ∧ b10 = false then (false, 0, some r2) else if nilc = true then (false, L, none) else if hl = true then (false, 0, some r3)
  else if b10 = true then (false, 0, some r4) else if lch Z len = false then (false, 0, some r5) else if 1 < nch Z len then (false, 0, some r6) else (true, 0, none)

/-- what zzs1651cwant hands back -/
def Wants (o : Bool × Int × Option ByteArray) (e : Ending) : Prop := e = .returned (.tuple #[.bool o.1, .int .i64 o.2.1, .bool o.2.2.isSome, .string (o.2.2.getD r0)])

set_option maxHeartbeats 1600000 in
/-- zzs1651cwant. -/
theorem want_any (b10 : Bool) (hosts L : Int) (hl nilc : Bool) (len : Nat) (Z : Nat → Nat) (v : Value) (w : World) (hv : Cods w v nilc len Z) :
    Calls Yba.prog 8 #[.bool b10, .int .i64 hosts, .int .i64 L, .bool hl, v] w fun e w' => Wants (spec b10 hosts L hl nilc len Z) e ∧ w' = w := by
  by_cases h1 : 1 < hosts
  · rw [show spec b10 hosts L hl nilc len Z = (false, 0, some r1) from by simp [spec, h1]]
    go_enter Yba.func8, Yba.ntmps8
    go_wp2
    exact bodyPost_ret (v := .tuple #[.bool false, .int .i64 0, .bool true, .string r1]) (by simp [results, Yba.results8, go_sem, r1]) rfl ⟨rfl, rfl⟩
  have hnn := nil_slice
  have hn0 := nil_slice0
  have ladder : ∀ (b : Bool), b10 = b → ¬ (hosts = 0 ∧ b = false) → Calls Yba.prog 8 #[.bool b10, .int .i64 hosts, .int .i64 L, .bool hl, v] w fun e w' => Wants (spec b10 hosts L hl nilc len Z) e ∧ w' = w := by
    intro b hb hg
    subst hb
    rcases hv with ⟨rfl, rfl⟩ | ⟨rfl, g, cap, rfl, hr⟩
    · rw [show spec b10 hosts L hl true len Z = (false, L, none) from by simp only [spec, if_neg h1, if_neg hg]; rfl]
      cases b10 with
      | true =>
        go_enter Yba.func8, Yba.ntmps8
        go_wp2
        all_goals exact bodyPost_ret (v := .tuple #[.bool false, .int .i64 L, .bool false, .string r0]) (by simp [results, Yba.results8, go_sem, r0]) rfl ⟨rfl, rfl⟩
      | false =>
        have h2 : (hosts == 0) = false := beq_eq_false_iff_ne.2 (fun e => hg ⟨e, rfl⟩)
        go_enter Yba.func8, Yba.ntmps8
        go_wp2
        all_goals exact bodyPost_ret (v := .tuple #[.bool false, .int .i64 L, .bool false, .string r0]) (by simp [results, Yba.results8, go_sem, r0]) rfl ⟨rfl, rfl⟩
    · cases hl with
      | true =>
        rw [show spec b10 hosts L true false len Z = (false, 0, some r3) from by simp only [spec, if_neg h1, if_neg hg]; rfl]
        clear hr
        cases b10 with
        | true =>
          go_enter Yba.func8, Yba.ntmps8
          go_wp2
          all_goals exact bodyPost_ret (v := .tuple #[.bool false, .int .i64 0, .bool true, .string r3]) (by simp [results, Yba.results8, go_sem, r3]) rfl ⟨rfl, rfl⟩
        | false =>
          have h2 : (hosts == 0) = false := beq_eq_false_iff_ne.2 (fun e => hg ⟨e, rfl⟩)
          go_enter Yba.func8, Yba.ntmps8
          go_wp2
          all_goals exact bodyPost_ret (v := .tuple #[.bool false, .int .i64 0, .bool true, .string r3]) (by simp [results, Yba.results8, go_sem, r3]) rfl ⟨rfl, rfl⟩
      | false =>
        cases b10 with
        | true =>
          rw [show spec true hosts L false false len Z = (false, 0, some r4) from by simp only [spec, if_neg h1, if_neg hg]; rfl]
          clear hr
          go_enter Yba.func8, Yba.ntmps8
          go_wp2
          all_goals exact bodyPost_ret (v := .tuple #[.bool false, .int .i64 0, .bool true, .string r4]) (by simp [results, Yba.results8, go_sem, r4]) rfl ⟨rfl, rfl⟩
        | false =>
          refine (want_loop hosts L g len cap Z w hr h1 (fun e => hg ⟨e, rfl⟩)).mono ?_
          rintro e w' ⟨h, rfl⟩
          refine ⟨?_, rfl⟩
          have h0 : ¬ hosts = 0 := fun e => hg ⟨e, rfl⟩
          by_cases hl : lch Z len = false
          · rw [if_pos hl] at h
            rw [show spec false hosts L false false len Z = (false, 0, some r5) from by simp [spec, h1, h0, hl]]
            exact h
          · rw [if_neg hl] at h
            by_cases hm : 1 < nch Z len
            · rw [if_pos hm] at h
              rw [show spec false hosts L false false len Z = (false, 0, some r6) from by simp [spec, h1, h0, hl, hm]]
              exact h
            · rw [if_neg hm] at h
              rw [show spec false hosts L false false len Z = (true, 0, none) from by simp [spec, h1, h0, hl, hm]]
              exact h
  by_cases hg : hosts = 0 ∧ b10 = false
  · obtain ⟨rfl, rfl⟩ := hg
    clear ladder
    rw [show spec false 0 L hl nilc len Z = (false, 0, some r2) from by simp [spec]]
    go_enter Yba.func8, Yba.ntmps8
    go_wp2
    exact bodyPost_ret (v := .tuple #[.bool false, .int .i64 0, .bool true, .string r2]) (by simp [results, Yba.results8, go_sem, r2]) rfl ⟨rfl, rfl⟩
  · exact ladder _ rfl hg
end Go.Proofs.Ybulkahea
