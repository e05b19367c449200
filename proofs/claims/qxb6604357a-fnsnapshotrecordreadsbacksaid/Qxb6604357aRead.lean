/-
  readCanon (function 6): reads back what 'Lib.uvarint' spells.
-/
import Derived.Test.Qxb6604357aSnap
import Derived.Lib.VarintBits
import Derived.Laws.Closers25b
namespace Go.Proofs.Qxb6604357a
open Go.RowKit

/-- A row of bytes that is owned: its shape, and its cells. -/
theorem own_shape {w : World} {base n : Nat} {v : Value} {l : List UInt8} (h : w.ownsRow base 5 1 v n (Lib.byteCells l)) (hl : l.length = n) (hn : 1 ≤ n) :
    ∃ g cap, v = .slice (some ⟨g, 0, none⟩) n cap ∧ ∀ j (hj : j < l.length), w.cell? ⟨g, j, none⟩ = some (.int .u8 (l[j]).toNat) := by
  rcases h.2 with ⟨_, hz⟩ | ⟨g, cap, cur, hv, hr⟩
  · omega
  · refine ⟨g, cap, hv, fun j hj => ?_⟩
    subst hv
    rw [h.cellAt j (by omega)]
    simp [Lib.byteCells, hj]

theorem ret_read {a b x : Int} (h : a = b) : Ending.returned (.tuple #[.int .u64 x, .int .i64 a, .bool true]) = Ending.returned (.tuple #[.int .u64 x, .int .i64 b, .bool true]) := by rw [h]

set_option maxHeartbeats 4000000 in
set_option maxRecDepth 100000 in
theorem read_any (g n c p x : Nat) (l rest : List UInt8) (w : World) (hx : x < 18446744073709551616) (hl : l.length = n) (hn : n ≤ 1000)
    (hcell : ∀ j (hj : j < l.length), w.cell? ⟨g, j, none⟩ = some (.int .u8 (l[j]).toNat)) (hdrop : l.drop p = Lib.uvarint x ++ rest) :
    Calls Try.prog 6 #[.slice (some ⟨g, 0, none⟩) n c, .int .i64 p] w fun e w' => e = .returned (.tuple #[.int .u64 x, .int .i64 ((p + (Lib.uvarint x).length : Nat) : Int), .bool true]) ∧ w' = w := by
  have HD : Hid (l.drop p = Lib.uvarint x ++ rest) := hdrop
  have HL : Hid (l.length = n) := hl
  have HC : Hid (∀ j (hj : j < l.length), w.cell? ⟨g, j, none⟩ = some (.int .u8 (l[j]).toNat)) := hcell
  clear hdrop hl hcell
  go_enter Try.func6, Try.ntmps6
  go_wp2
  go_loop [1, 7, 8] (fun vp vv vi => ∃ k acc y : Nat, vi = .int .i64 k ∧ vp = .int .i64 ((p + k : Nat) : Int) ∧ vv = .int .u64 acc ∧ k ≤ 9 ∧ acc < 2 ^ (7 * k) ∧ x = acc + y * 2 ^ (7 * k) ∧ l.drop (p + k) = Lib.uvarint y ++ rest ∧ (0 < k → 0 < y) ∧ (Lib.uvarint x).length = k + (Lib.uvarint y).length)
    (fun _ _ vi => 10 - (intOf vi).toNat)
  case atStart => exact ⟨0, 0, x, rfl, rfl, rfl, by omega, by decide, by simp, HD.out, by omega, by omega⟩
  case round =>
    obtain ⟨k, acc, y, rfl, rfl, rfl, hk9, hacc, hxe, hdr, hpos, hlen⟩ := hrel
    have hyp := Lib.uvarint_pos y
    have hpk : p + k < l.length := by
      have := congrArg List.length hdr
      simp only [List.length_drop, List.length_append] at this
      omega
    have hc : w.cell? ⟨g, p + k, none⟩ = some (.int .u8 (l[p + k]).toNat) := HC.out (p + k) hpk
    have hd2 : l.drop (p + k) = l[p + k] :: l.drop (p + k + 1) := List.drop_eq_getElem_cons hpk
    generalize l[p + k] = b at hc hd2
    rw [hd2] at hdr
    have hpn : p + k < n := by have := HL.out; omega
    clear hd2 hpk hyp
    have hks : k = 0 ∨ k = 1 ∨ k = 2 ∨ k = 3 ∨ k = 4 ∨ k = 5 ∨ k = 6 ∨ k = 7 ∨ k = 8 ∨ k = 9 := by omega
    by_cases h128 : 128 ≤ y
    · rw [Lib.uvarint_big h128] at hdr
      obtain ⟨hbe, hrest⟩ := List.cons.inj hdr
      have hb : b.toNat = y % 128 + 128 := by rw [hbe]; exact Lib.toUInt8_toNat (by omega)
      rw [Lib.uvarint_big h128, List.length_cons] at hlen
      obtain ⟨z, hz⟩ : ∃ z, z = y % 128 + 128 := ⟨_, rfl⟩
      rw [hb, ← hz] at hc
      have hz1 : 128 ≤ z := by omega
      have hz2 : z < 256 := by omega
      have HR : Hid (l.drop (p + k + 1) = Lib.uvarint (y / 128) ++ rest) := hrest
      have HLN : Hid ((Lib.uvarint x).length = k + ((Lib.uvarint (y / 128)).length + 1)) := hlen
      clear hrest hdr hb hbe hlen
      rcases hks with rfl | rfl | rfl | rfl | rfl | rfl | rfl | rfl | rfl | rfl
      · have e1 : (2 : Nat) ^ (7 * 0) = 1 := by decide
        have e2 : (2 : Nat) ^ (7 * (0 + 1)) = 128 := by decide
        rw [e1] at hacc hxe
        obtain ⟨a', ha⟩ : ∃ a', a' = acc + (y % 128) * 1 := ⟨_, rfl⟩
        obtain rfl : acc = 0 := by omega
        have hc0 : w.cell? ⟨g, p, none⟩ = some (.int .u8 (z : Int)) := hc
        have hv : bits .or .u64 0 (IntKind.u64.wrap (IntKind.u64.wrap (bits .and .u8 (z : Int) 127))) = (a' : Int) := by
          simp (disch := omega) only [u8_and127, u64_wrap_id, u64_orv0]
          omega
        have R2 : Hid (a' < 2 ^ (7 * (0 + 1))) := by show a' < 2 ^ (7 * (0 + 1)); rw [e2]; omega
        have R3 : Hid (x = a' + y / 128 * 2 ^ (7 * (0 + 1))) := by show x = a' + y / 128 * 2 ^ (7 * (0 + 1)); rw [e2]; omega
        clear e1 e2 hxe hacc ha hz
        go_wp2
        go_round
        case rel => exact ⟨0 + 1, a', y / 128, by go_num, by go_num, rfl, by omega, R2.out, R3.out, HR.out, by omega, by have := HLN.out; omega⟩
        case measure => simp [intOf]
      · have e1 : (2 : Nat) ^ (7 * 1) = 128 := by decide
        have e2 : (2 : Nat) ^ (7 * (1 + 1)) = 16384 := by decide
        rw [e1] at hacc hxe
        obtain ⟨a', ha⟩ : ∃ a', a' = acc + (y % 128) * 128 := ⟨_, rfl⟩
        have hv : bits .or .u64 (acc : Int) (IntKind.u64.wrap (IntKind.u64.wrap (bits .and .u8 (z : Int) 127) * 128)) = (a' : Int) := by
          simp (disch := omega) only [u8_and127, u64_wrap_id, u64_orv7]
          omega
        have R2 : Hid (a' < 2 ^ (7 * (1 + 1))) := by show a' < 2 ^ (7 * (1 + 1)); rw [e2]; omega
        have R3 : Hid (x = a' + y / 128 * 2 ^ (7 * (1 + 1))) := by show x = a' + y / 128 * 2 ^ (7 * (1 + 1)); rw [e2]; omega
        clear e1 e2 hxe hacc ha hz
        go_wp2
        go_round
        case rel => exact ⟨1 + 1, a', y / 128, by go_num, by go_num, rfl, by omega, R2.out, R3.out, HR.out, by omega, by have := HLN.out; omega⟩
        case measure => simp [intOf]
      · have e1 : (2 : Nat) ^ (7 * 2) = 16384 := by decide
        have e2 : (2 : Nat) ^ (7 * (2 + 1)) = 2097152 := by decide
        rw [e1] at hacc hxe
        obtain ⟨a', ha⟩ : ∃ a', a' = acc + (y % 128) * 16384 := ⟨_, rfl⟩
        have hv : bits .or .u64 (acc : Int) (IntKind.u64.wrap (IntKind.u64.wrap (bits .and .u8 (z : Int) 127) * 16384)) = (a' : Int) := by
          simp (disch := omega) only [u8_and127, u64_wrap_id, u64_orv14]
          omega
        have R2 : Hid (a' < 2 ^ (7 * (2 + 1))) := by show a' < 2 ^ (7 * (2 + 1)); rw [e2]; omega
        have R3 : Hid (x = a' + y / 128 * 2 ^ (7 * (2 + 1))) := by show x = a' + y / 128 * 2 ^ (7 * (2 + 1)); rw [e2]; omega
        clear e1 e2 hxe hacc ha hz
        go_wp2
        go_round
        case rel => exact ⟨2 + 1, a', y / 128, by go_num, by go_num, rfl, by omega, R2.out, R3.out, HR.out, by omega, by have := HLN.out; omega⟩
        case measure => simp [intOf]
      · have e1 : (2 : Nat) ^ (7 * 3) = 2097152 := by decide
        have e2 : (2 : Nat) ^ (7 * (3 + 1)) = 268435456 := by decide
        rw [e1] at hacc hxe
        obtain ⟨a', ha⟩ : ∃ a', a' = acc + (y % 128) * 2097152 := ⟨_, rfl⟩
        have hv : bits .or .u64 (acc : Int) (IntKind.u64.wrap (IntKind.u64.wrap (bits .and .u8 (z : Int) 127) * 2097152)) = (a' : Int) := by
          simp (disch := omega) only [u8_and127, u64_wrap_id, u64_orv21]
          omega
        have R2 : Hid (a' < 2 ^ (7 * (3 + 1))) := by show a' < 2 ^ (7 * (3 + 1)); rw [e2]; omega
        have R3 : Hid (x = a' + y / 128 * 2 ^ (7 * (3 + 1))) := by show x = a' + y / 128 * 2 ^ (7 * (3 + 1)); rw [e2]; omega
        clear e1 e2 hxe hacc ha hz
        go_wp2
        go_round
        case rel => exact ⟨3 + 1, a', y / 128, by go_num, by go_num, rfl, by omega, R2.out, R3.out, HR.out, by omega, by have := HLN.out; omega⟩
        case measure => simp [intOf]
      · have e1 : (2 : Nat) ^ (7 * 4) = 268435456 := by decide
        have e2 : (2 : Nat) ^ (7 * (4 + 1)) = 34359738368 := by decide
        rw [e1] at hacc hxe
        obtain ⟨a', ha⟩ : ∃ a', a' = acc + (y % 128) * 268435456 := ⟨_, rfl⟩
        have hv : bits .or .u64 (acc : Int) (IntKind.u64.wrap (IntKind.u64.wrap (bits .and .u8 (z : Int) 127) * 268435456)) = (a' : Int) := by
          simp (disch := omega) only [u8_and127, u64_wrap_id, u64_orv28]
          omega
        have R2 : Hid (a' < 2 ^ (7 * (4 + 1))) := by show a' < 2 ^ (7 * (4 + 1)); rw [e2]; omega
        have R3 : Hid (x = a' + y / 128 * 2 ^ (7 * (4 + 1))) := by show x = a' + y / 128 * 2 ^ (7 * (4 + 1)); rw [e2]; omega
        clear e1 e2 hxe hacc ha hz
        go_wp2
        go_round
        case rel => exact ⟨4 + 1, a', y / 128, by go_num, by go_num, rfl, by omega, R2.out, R3.out, HR.out, by omega, by have := HLN.out; omega⟩
        case measure => simp [intOf]
      · have e1 : (2 : Nat) ^ (7 * 5) = 34359738368 := by decide
        have e2 : (2 : Nat) ^ (7 * (5 + 1)) = 4398046511104 := by decide
        rw [e1] at hacc hxe
        obtain ⟨a', ha⟩ : ∃ a', a' = acc + (y % 128) * 34359738368 := ⟨_, rfl⟩
        have hv : bits .or .u64 (acc : Int) (IntKind.u64.wrap (IntKind.u64.wrap (bits .and .u8 (z : Int) 127) * 34359738368)) = (a' : Int) := by
          simp (disch := omega) only [u8_and127, u64_wrap_id, u64_orv35]
          omega
        have R2 : Hid (a' < 2 ^ (7 * (5 + 1))) := by show a' < 2 ^ (7 * (5 + 1)); rw [e2]; omega
        have R3 : Hid (x = a' + y / 128 * 2 ^ (7 * (5 + 1))) := by show x = a' + y / 128 * 2 ^ (7 * (5 + 1)); rw [e2]; omega
        clear e1 e2 hxe hacc ha hz
        go_wp2
        go_round
        case rel => exact ⟨5 + 1, a', y / 128, by go_num, by go_num, rfl, by omega, R2.out, R3.out, HR.out, by omega, by have := HLN.out; omega⟩
        case measure => simp [intOf]
      · have e1 : (2 : Nat) ^ (7 * 6) = 4398046511104 := by decide
        have e2 : (2 : Nat) ^ (7 * (6 + 1)) = 562949953421312 := by decide
        rw [e1] at hacc hxe
        obtain ⟨a', ha⟩ : ∃ a', a' = acc + (y % 128) * 4398046511104 := ⟨_, rfl⟩
        have hv : bits .or .u64 (acc : Int) (IntKind.u64.wrap (IntKind.u64.wrap (bits .and .u8 (z : Int) 127) * 4398046511104)) = (a' : Int) := by
          simp (disch := omega) only [u8_and127, u64_wrap_id, u64_orv42]
          omega
        have R2 : Hid (a' < 2 ^ (7 * (6 + 1))) := by show a' < 2 ^ (7 * (6 + 1)); rw [e2]; omega
        have R3 : Hid (x = a' + y / 128 * 2 ^ (7 * (6 + 1))) := by show x = a' + y / 128 * 2 ^ (7 * (6 + 1)); rw [e2]; omega
        clear e1 e2 hxe hacc ha hz
        go_wp2
        go_round
        case rel => exact ⟨6 + 1, a', y / 128, by go_num, by go_num, rfl, by omega, R2.out, R3.out, HR.out, by omega, by have := HLN.out; omega⟩
        case measure => simp [intOf]
      · have e1 : (2 : Nat) ^ (7 * 7) = 562949953421312 := by decide
        have e2 : (2 : Nat) ^ (7 * (7 + 1)) = 72057594037927936 := by decide
        rw [e1] at hacc hxe
        obtain ⟨a', ha⟩ : ∃ a', a' = acc + (y % 128) * 562949953421312 := ⟨_, rfl⟩
        have hv : bits .or .u64 (acc : Int) (IntKind.u64.wrap (IntKind.u64.wrap (bits .and .u8 (z : Int) 127) * 562949953421312)) = (a' : Int) := by
          simp (disch := omega) only [u8_and127, u64_wrap_id, u64_orv49]
          omega
        have R2 : Hid (a' < 2 ^ (7 * (7 + 1))) := by show a' < 2 ^ (7 * (7 + 1)); rw [e2]; omega
        have R3 : Hid (x = a' + y / 128 * 2 ^ (7 * (7 + 1))) := by show x = a' + y / 128 * 2 ^ (7 * (7 + 1)); rw [e2]; omega
        clear e1 e2 hxe hacc ha hz
        go_wp2
        go_round
        case rel => exact ⟨7 + 1, a', y / 128, by go_num, by go_num, rfl, by omega, R2.out, R3.out, HR.out, by omega, by have := HLN.out; omega⟩
        case measure => simp [intOf]
      · have e1 : (2 : Nat) ^ (7 * 8) = 72057594037927936 := by decide
        have e2 : (2 : Nat) ^ (7 * (8 + 1)) = 9223372036854775808 := by decide
        rw [e1] at hacc hxe
        obtain ⟨a', ha⟩ : ∃ a', a' = acc + (y % 128) * 72057594037927936 := ⟨_, rfl⟩
        have hv : bits .or .u64 (acc : Int) (IntKind.u64.wrap (IntKind.u64.wrap (bits .and .u8 (z : Int) 127) * 72057594037927936)) = (a' : Int) := by
          simp (disch := omega) only [u8_and127, u64_wrap_id, u64_orv56]
          omega
        have R2 : Hid (a' < 2 ^ (7 * (8 + 1))) := by show a' < 2 ^ (7 * (8 + 1)); rw [e2]; omega
        have R3 : Hid (x = a' + y / 128 * 2 ^ (7 * (8 + 1))) := by show x = a' + y / 128 * 2 ^ (7 * (8 + 1)); rw [e2]; omega
        clear e1 e2 hxe hacc ha hz
        go_wp2
        go_round
        case rel => exact ⟨8 + 1, a', y / 128, by go_num, by go_num, rfl, by omega, R2.out, R3.out, HR.out, by omega, by have := HLN.out; omega⟩
        case measure => simp [intOf]
      · have e1 : (2 : Nat) ^ (7 * 9) = 9223372036854775808 := by decide
        rw [e1] at hxe
        omega
    · rw [Lib.uvarint_small (by omega)] at hdr
      obtain ⟨rfl, hrest⟩ := List.cons.inj hdr
      have hb : (y.toUInt8).toNat = y := Lib.toUInt8_toNat (by omega)
      rw [hb] at hc
      have hlen1 : (Lib.uvarint y).length = 1 := by rw [Lib.uvarint_small (by omega)]; rfl
      rw [hlen1] at hlen
      have HLN : Hid ((Lib.uvarint x).length = k + 1) := hlen
      clear hlen hrest hdr hb hlen1
      rcases hks with rfl | rfl | rfl | rfl | rfl | rfl | rfl | rfl | rfl | rfl
      · have e1 : (2 : Nat) ^ (7 * 0) = 1 := by decide
        rw [e1] at hacc hxe
        obtain rfl : acc = 0 := by omega
        have hc0 : w.cell? ⟨g, p, none⟩ = some (.int .u8 (y : Int)) := hc
        have hv : bits .or .u64 0 (IntKind.u64.wrap (IntKind.u64.wrap (bits .and .u8 (y : Int) 127))) = (x : Int) := by
          simp (disch := omega) only [u8_and127, u64_wrap_id, u64_orv0]
          omega
        clear e1 hxe hacc hpos
        go_wp2
        go_ret3
        exact ⟨ret_read (by have := HLN.out; omega), rfl⟩
      · have e1 : (2 : Nat) ^ (7 * 1) = 128 := by decide
        rw [e1] at hacc hxe
        have hy0 : 0 < y := hpos (by omega)
        have hv : bits .or .u64 (acc : Int) (IntKind.u64.wrap (IntKind.u64.wrap (bits .and .u8 (y : Int) 127) * 128)) = (x : Int) := by
          simp (disch := omega) only [u8_and127, u64_wrap_id, u64_orv7]
          omega
        clear e1 hxe hacc hpos
        go_wp2
        go_ret3
        exact ⟨ret_read (by have := HLN.out; omega), rfl⟩
      · have e1 : (2 : Nat) ^ (7 * 2) = 16384 := by decide
        rw [e1] at hacc hxe
        have hy0 : 0 < y := hpos (by omega)
        have hv : bits .or .u64 (acc : Int) (IntKind.u64.wrap (IntKind.u64.wrap (bits .and .u8 (y : Int) 127) * 16384)) = (x : Int) := by
          simp (disch := omega) only [u8_and127, u64_wrap_id, u64_orv14]
          omega
        clear e1 hxe hacc hpos
        go_wp2
        go_ret3
        exact ⟨ret_read (by have := HLN.out; omega), rfl⟩
      · have e1 : (2 : Nat) ^ (7 * 3) = 2097152 := by decide
        rw [e1] at hacc hxe
        have hy0 : 0 < y := hpos (by omega)
        have hv : bits .or .u64 (acc : Int) (IntKind.u64.wrap (IntKind.u64.wrap (bits .and .u8 (y : Int) 127) * 2097152)) = (x : Int) := by
          simp (disch := omega) only [u8_and127, u64_wrap_id, u64_orv21]
          omega
        clear e1 hxe hacc hpos
        go_wp2
        go_ret3
        exact ⟨ret_read (by have := HLN.out; omega), rfl⟩
      · have e1 : (2 : Nat) ^ (7 * 4) = 268435456 := by decide
        rw [e1] at hacc hxe
        have hy0 : 0 < y := hpos (by omega)
        have hv : bits .or .u64 (acc : Int) (IntKind.u64.wrap (IntKind.u64.wrap (bits .and .u8 (y : Int) 127) * 268435456)) = (x : Int) := by
          simp (disch := omega) only [u8_and127, u64_wrap_id, u64_orv28]
          omega
        clear e1 hxe hacc hpos
        go_wp2
        go_ret3
        exact ⟨ret_read (by have := HLN.out; omega), rfl⟩
      · have e1 : (2 : Nat) ^ (7 * 5) = 34359738368 := by decide
        rw [e1] at hacc hxe
        have hy0 : 0 < y := hpos (by omega)
        have hv : bits .or .u64 (acc : Int) (IntKind.u64.wrap (IntKind.u64.wrap (bits .and .u8 (y : Int) 127) * 34359738368)) = (x : Int) := by
          simp (disch := omega) only [u8_and127, u64_wrap_id, u64_orv35]
          omega
        clear e1 hxe hacc hpos
        go_wp2
        go_ret3
        exact ⟨ret_read (by have := HLN.out; omega), rfl⟩
      · have e1 : (2 : Nat) ^ (7 * 6) = 4398046511104 := by decide
        rw [e1] at hacc hxe
        have hy0 : 0 < y := hpos (by omega)
        have hv : bits .or .u64 (acc : Int) (IntKind.u64.wrap (IntKind.u64.wrap (bits .and .u8 (y : Int) 127) * 4398046511104)) = (x : Int) := by
          simp (disch := omega) only [u8_and127, u64_wrap_id, u64_orv42]
          omega
        clear e1 hxe hacc hpos
        go_wp2
        go_ret3
        exact ⟨ret_read (by have := HLN.out; omega), rfl⟩
      · have e1 : (2 : Nat) ^ (7 * 7) = 562949953421312 := by decide
        rw [e1] at hacc hxe
        have hy0 : 0 < y := hpos (by omega)
        have hv : bits .or .u64 (acc : Int) (IntKind.u64.wrap (IntKind.u64.wrap (bits .and .u8 (y : Int) 127) * 562949953421312)) = (x : Int) := by
          simp (disch := omega) only [u8_and127, u64_wrap_id, u64_orv49]
          omega
        clear e1 hxe hacc hpos
        go_wp2
        go_ret3
        exact ⟨ret_read (by have := HLN.out; omega), rfl⟩
      · have e1 : (2 : Nat) ^ (7 * 8) = 72057594037927936 := by decide
        rw [e1] at hacc hxe
        have hy0 : 0 < y := hpos (by omega)
        have hv : bits .or .u64 (acc : Int) (IntKind.u64.wrap (IntKind.u64.wrap (bits .and .u8 (y : Int) 127) * 72057594037927936)) = (x : Int) := by
          simp (disch := omega) only [u8_and127, u64_wrap_id, u64_orv56]
          omega
        clear e1 hxe hacc hpos
        go_wp2
        go_ret3
        exact ⟨ret_read (by have := HLN.out; omega), rfl⟩
      · have e1 : (2 : Nat) ^ (7 * 9) = 9223372036854775808 := by decide
        rw [e1] at hacc hxe
        have hy1 : y ≤ 1 := by omega
        have hy0 : 0 < y := hpos (by omega)
        have hv : bits .or .u64 (acc : Int) (IntKind.u64.wrap (IntKind.u64.wrap (bits .and .u8 (y : Int) 127) * 9223372036854775808)) = (x : Int) := by
          simp (disch := omega) only [u8_and127, u64_wrap_id, u64_orv63]
          omega
        clear e1 hxe hacc hpos
        go_wp2
        go_ret3
        exact ⟨ret_read (by have := HLN.out; omega), rfl⟩
end Go.Proofs.Qxb6604357a
