/-
  stif.token: at a token that decodes it hands back its kind, its text's length and where the next one starts.
-/
import Derived.Test.Qxb6618677aProg
import Derived.Test.Qxb6618677aStif
import Derived.WalkKit
import Derived.WalkSpells
import Derived.WalkLawsBesides
import Derived.Laws.Bits64
import Derived.Laws.BitsAllLaws
namespace Go.Proofs.Qxb6618677a
open Go.RowKit

theorem acc_spell (x : Nat) (b : UInt8) (s : Nat) (hx : x < Stif.U64) :
    bits BinOp.or IntKind.u64 (x : Int) (IntKind.u64.wrap (IntKind.u64.wrap (bits BinOp.and IntKind.u8 (b.toNat : Int) 127) * 2 ^ s)) = (Stif.acc x b s : Int) := by
  have hb : b.toNat < 256 := b.toNat_lt
  have h1 : bits BinOp.and IntKind.u8 (b.toNat : Int) 127 = ((b.toNat % 128 : Nat) : Int) := by
    have := u8_and_nat b.toNat 127 hb (by decide)
    rw [nat_mask7] at this
    exact this
  rw [h1, IntKind.wrap_u64, IntKind.wrap_u64]
  have h2 : ((b.toNat % 128 : Nat) : Int) % 18446744073709551616 = ((b.toNat % 128 : Nat) : Int) := by omega
  rw [h2]
  have h3 : ((b.toNat % 128 : Nat) : Int) * 2 ^ s % 18446744073709551616 = (((b.toNat % 128) * 2 ^ s % Stif.U64 : Nat) : Int) := by
    simp [Stif.U64]
  rw [h3]
  exact u64_or_nat x _ hx (Nat.mod_lt _ (by decide))

theorem kind_spell (x : Nat) (hx : x < Stif.U64) : wrap64 (bits BinOp.and IntKind.u64 (x : Int) 3) = ((x % 4 : Nat) : Int) := by
  have := u64_and_nat x 3 hx (by decide)
  rw [nat_mask2] at this
  have e : bits BinOp.and IntKind.u64 (x : Int) 3 = ((x % 4 : Nat) : Int) := this
  rw [e]
  unfold wrap64
  omega
theorem n_spell (x : Nat) (hx : x < Stif.U64) : wrap64 ((x : Int) / 4) = ((x / 4 : Nat) : Int) := by
  unfold Stif.U64 at hx
  unfold wrap64
  omega

set_option maxRecDepth 100000 in
set_option maxHeartbeats 400000 in
theorem token_dec (T : ByteArray) (i y n : Nat) (w : World) (hT : T.size ≤ 1048576) (hd : Stif.dec T 9 i 0 0 = some (y, n)) :
    Calls Try.prog 41 #[.string T, .int .i64 i] w fun e w' => e = .returned (.tuple #[.int .i64 ((y % 4 : Nat) : Int), .int .i64 ((y / 4 : Nat) : Int), .int .i64 (n : Int)]) ∧ w' = w := by
  have HD : Hid (Stif.dec T 9 i 0 0 = some (y, n)) := hd
  have hi : i < T.size := by
    have := Stif.dec_some T 9 i 0 0 y n hd (by decide)
    omega
  clear hd
  go_enter Try.func41, Try.ntmps41
  go_wp2
  go_loop [1, 7, 8] (fun p x s => ∃ (k z c f : Nat), p = .int .i64 k ∧ x = .int .u64 z ∧ s = .int .i64 c ∧ c + 7 * f = 63 ∧ Hid (Stif.dec T f k z c = some (y, n) ∧ z < Stif.U64)) (fun _ _ s => 100 - (intOf s).toNat)
  case atStart => exact ⟨i, 0, 0, 9, rfl, rfl, rfl, by omega, HD.out, by decide⟩
  case round =>
    obtain ⟨k, z, c, f, rfl, rfl, rfl, hc, HR⟩ := hrel
    cases f with
    | zero =>
      have := HR.out.1
      simp [Stif.dec] at this
    | succ f =>
      have hk : k < T.size := by
        rcases Nat.lt_or_ge k T.size with h | h
        · exact h
        · have := HR.out.1
          unfold Stif.dec at this
          rw [if_neg (by omega)] at this
          cases this
      clear HD hi
      go_wp2
      · have hb : (Stif.byte T k).toNat < 128 := by rw [Stif.byte_eq hk]; omega
        have h1 := HR.out.1
        unfold Stif.dec at h1
        rw [if_pos hk, if_pos hb, Stif.byte_eq hk] at h1
        simp only [Option.some.injEq, Prod.mk.injEq] at h1
        obtain ⟨rfl, rfl⟩ := h1
        have hz := HR.out.2
        go_ret3
        refine ⟨?_, rfl⟩
        rw [acc_spell z _ c hz, kind_spell _ (Stif.acc_lt _ _ _ hz), n_spell _ (Stif.acc_lt _ _ _ hz)]
        rfl
      · have hb : ¬ (Stif.byte T k).toNat < 128 := by rw [Stif.byte_eq hk]; omega
        have h1 := HR.out.1
        unfold Stif.dec at h1
        rw [if_pos hk, if_neg hb, Stif.byte_eq hk] at h1
        have hz := HR.out.2
        go_round
        case rel => exact ⟨k + 1, Stif.acc z T[k] c, c + 7, f, by go_num, by rw [acc_spell z _ c hz], by go_num, by omega, h1, Stif.acc_lt _ _ _ hz⟩
        case measure => simp [intOf]; omega

end Go.Proofs.Qxb6618677a
