/-
  Walks: DecodedLen, assemble, BEPut.
-/
import Derived.Test.YtmbglgepomeilaaLK
import Derived.Test.YtmbglgepomeilaaDq
namespace Go.Proofs.Ytmbglgepomeilaa
open Go.RowKit
theorem ent47 : Enters Try.prog 47 := enters_of Try.func47 (by kernel_rfl) rfl

theorem decodedLen0_ret {w : World} {n : Nat} {pad : Int} (hN : n ≤ 281474976710656) :
    Ret Try.prog 47 #[.int .i64 (n : Int), .int .i32 pad] w fun v w' => v = .int .i64 ((decLen pad n : Nat) : Int) ∧ w = w' := by
  by_cases hp : pad = -1
  · refine ret_of Try.func47 rfl Try.ntmps47 (Nat.le_of_ble_eq_true rfl) ?_
    refine C.seq ?_
    refine C.reg ?_
    refine W.y (y_assign rfl) rfl ?_
    refine W.fin ?_
    refine E.next ?_
    refine C.seq ?_
    refine C.seq ?_
    refine C.reg ?_
    refine W.y (y_move rfl) rfl ?_
    refine W.y (y_eqlT rfl rfl (by omega)) rfl ?_
    refine W.fin ?_
    refine E.next ?_
    refine C.yes rfl ?_
    refine C.seq ?_
    refine C.reg ?_
    refine W.y (y_move rfl) rfl ?_
    refine W.y (y_quo rfl rfl (by omega) (by omega) (by omega)) rfl ?_
    refine W.y (Does.as (y_mul rfl rfl (wi64 (by omega) (by omega))) (vint (b := ((n / 4 * 3 : Nat) : Int)) (by omega))) rfl ?_
    refine W.y (y_move rfl) rfl ?_
    refine W.y (y_rem rfl rfl (by omega) (by omega)) rfl ?_
    refine W.y (Does.as (y_mul rfl rfl (wi64 (by omega) (by omega))) (vint (b := ((n % 4 * 6 : Nat) : Int)) (by omega))) rfl ?_
    refine W.y (Does.as (y_quo rfl rfl (by omega) (by omega) (by omega)) (vint (b := ((n % 4 * 6 / 8 : Nat) : Int)) (by omega))) rfl ?_
    refine W.y (Does.as (y_add rfl rfl (wi64 (by omega) (by omega))) (vint (b := ((n / 4 * 3 + n % 4 * 6 / 8 : Nat) : Int)) (by omega))) rfl ?_
    refine W.y (y_assign rfl) rfl ?_
    refine W.fin ?_
    refine E.next ?_
    refine C.ret ?_
    refine E.thenRet ?_
    exact E.ret1 rfl rfl ⟨by unfold decLen; rw [if_pos hp], rfl⟩
  refine ret_of Try.func47 rfl Try.ntmps47 (Nat.le_of_ble_eq_true rfl) ?_
  refine C.seq ?_
  refine C.reg ?_
  refine W.y (y_assign rfl) rfl ?_
  refine W.fin ?_
  refine E.next ?_
  refine C.seq ?_
  refine C.seq ?_
  refine C.reg ?_
  refine W.y (y_move rfl) rfl ?_
  refine W.y (y_eqlF rfl rfl (by omega)) rfl ?_
  refine W.fin ?_
  refine E.next ?_
  refine C.no rfl ?_
  refine C.skip ?_
  refine E.next ?_
  refine C.seq ?_
  refine C.reg ?_
  refine W.y (y_move rfl) rfl ?_
  refine W.y (y_quo rfl rfl (by omega) (by omega) (by omega)) rfl ?_
  refine W.y (Does.as (y_mul rfl rfl (wi64 (by omega) (by omega))) (vint (b := ((n / 4 * 3 : Nat) : Int)) (by omega))) rfl ?_
  refine W.y (y_assign rfl) rfl ?_
  refine W.fin ?_
  refine E.next ?_
  refine C.ret ?_
  exact E.ret1 rfl rfl ⟨by unfold decLen; rw [if_neg hp], rfl⟩
theorem decodedLen64_ret {w : World} {ge n : Nat} {cs : Array Value} {te : TypeId} {fz : Nat × Nat} {al : List UInt8} {pad : Int} (hE : Bk w ge cs te fz) (he : EncC 64 cs al pad) (hN : n ≤ 281474976710656) :
    Ret Try.prog 43 #[.pointer (some ⟨ge, 0, none⟩), .int .i64 (n : Int)] w fun v w' => v = .int .i64 ((decLen pad n : Nat) : Int) ∧ w = w' := by
  refine ret_of Try.func43 rfl Try.ntmps43 (Nat.le_of_ble_eq_true rfl) ?_
  refine C.seq ?_
  refine C.reg ?_
  refine W.y (y_assign rfl) rfl ?_
  refine W.fin ?_
  refine E.next ?_
  refine C.seq ?_
  refine C.reg ?_
  refine W.y (y_move rfl) rfl ?_
  refine W.y (y_move rfl) rfl ?_
  refine W.y (y_nilp rfl) rfl ?_
  refine W.y (y_field rfl fld85_2) rfl ?_
  refine W.y (y_load rfl pl21 (Bk.at_ hE he.pad_)) rfl ?_
  refine W.call ent47 rfl (decodedLen0_ret hN) rfl ?_
  rintro _ _ ⟨rfl, rfl⟩
  refine W.y (y_assign rfl) rfl ?_
  refine W.fin ?_
  refine E.next ?_
  refine C.ret ?_
  exact E.ret1 rfl rfl ⟨rfl, rfl⟩
set_option maxRecDepth 4000 in
theorem assemble32_ret {w : World} {v0 v1 v2 v3 : Nat} (h0 : v0 < 64) (h1 : v1 < 64) (h2 : v2 < 64) (h3 : v3 < 64) :
    Ret Try.prog 51 #[.int .u8 (v0 : Int), .int .u8 (v1 : Int), .int .u8 (v2 : Int), .int .u8 (v3 : Int)] w fun v w' => v = .tuple #[.int .u32 ((v0 * 2 ^ 26 + v1 * 2 ^ 20 + v2 * 2 ^ 14 + v3 * 2 ^ 8 : Nat) : Int), .bool true] ∧ w = w' := by
  obtain ⟨o1, e1, l1⟩ : ∃ o : Nat, o = v0 ||| v1 ∧ o < 64 := ⟨_, rfl, Nat.or_lt_two_pow (n := 6) h0 h1⟩
  obtain ⟨o2, e2, l2⟩ : ∃ o : Nat, o = o1 ||| v2 ∧ o < 64 := ⟨_, rfl, Nat.or_lt_two_pow (n := 6) l1 h2⟩
  obtain ⟨o3, e3, l3⟩ : ∃ o : Nat, o = o2 ||| v3 ∧ o < 64 := ⟨_, rfl, Nat.or_lt_two_pow (n := 6) l2 h3⟩
  refine ret_of Try.func51 rfl Try.ntmps51 (Nat.le_of_ble_eq_true rfl) ?_
  refine C.seq ?_
  refine C.reg ?_
  refine W.y (y_assign rfl) rfl ?_
  refine W.y (y_assign rfl) rfl ?_
  refine W.fin ?_
  refine E.next ?_
  refine C.seq ?_
  refine C.seq ?_
  refine C.reg ?_
  refine W.y (y_move rfl) rfl ?_
  refine W.y (y_move rfl) rfl ?_
  refine W.y (Does.as (y_or uk8 rfl rfl (by omega) (by omega)) (vint (b := (o1 : Int)) (by rw [e1]))) rfl ?_
  refine W.y (y_move rfl) rfl ?_
  refine W.y (Does.as (y_or uk8 rfl rfl (by omega) (by omega)) (vint (b := (o2 : Int)) (by rw [e2]))) rfl ?_
  refine W.y (y_move rfl) rfl ?_
  refine W.y (Does.as (y_or uk8 rfl rfl (by omega) (by omega)) (vint (b := (o3 : Int)) (by rw [e3]))) rfl ?_
  refine W.y (y_eqlF rfl rfl (by omega)) rfl ?_
  refine W.fin ?_
  refine E.next ?_
  refine C.no rfl ?_
  refine C.skip ?_
  refine E.next ?_
  refine C.seq ?_
  refine C.reg ?_
  refine W.y (y_move rfl) rfl ?_
  refine W.y (y_convN uk32 rfl Try.underlying5 Try.underlying93 (by omega)) rfl ?_
  refine W.y (y_shl uk32 (s := 26) rfl rfl (by omega) (by omega)) rfl ?_
  refine W.y (y_move rfl) rfl ?_
  refine W.y (y_convN uk32 rfl Try.underlying5 Try.underlying93 (by omega)) rfl ?_
  refine W.y (y_shl uk32 (s := 20) rfl rfl (by omega) (by omega)) rfl ?_
  refine W.y (y_join uk32 26 rfl rfl (by omega) (by omega) (by omega) (by omega)) rfl ?_
  refine W.y (y_move rfl) rfl ?_
  refine W.y (y_convN uk32 rfl Try.underlying5 Try.underlying93 (by omega)) rfl ?_
  refine W.y (y_shl uk32 (s := 14) rfl rfl (by omega) (by omega)) rfl ?_
  refine W.y (y_join uk32 20 rfl rfl (by omega) (by omega) (by omega) (by omega)) rfl ?_
  refine W.y (y_move rfl) rfl ?_
  refine W.y (y_convN uk32 rfl Try.underlying5 Try.underlying93 (by omega)) rfl ?_
  refine W.y (y_shl uk32 (s := 8) rfl rfl (by omega) (by omega)) rfl ?_
  refine W.y (y_join uk32 14 rfl rfl (by omega) (by omega) (by omega) (by omega)) rfl ?_
  refine W.y (y_assign rfl) rfl ?_
  refine W.y (y_assign rfl) rfl ?_
  refine W.fin ?_
  refine E.next ?_
  refine C.ret ?_
  exact E.ret2 rfl rfl rfl ⟨rfl, rfl⟩
set_option maxRecDepth 4000 in
theorem assemble64_ret {w : World} {v0 v1 v2 v3 v4 v5 v6 v7 : Nat} (h0 : v0 < 64) (h1 : v1 < 64) (h2 : v2 < 64) (h3 : v3 < 64) (h4 : v4 < 64) (h5 : v5 < 64) (h6 : v6 < 64) (h7 : v7 < 64) :
    Ret Try.prog 48 #[.int .u8 (v0 : Int), .int .u8 (v1 : Int), .int .u8 (v2 : Int), .int .u8 (v3 : Int), .int .u8 (v4 : Int), .int .u8 (v5 : Int), .int .u8 (v6 : Int), .int .u8 (v7 : Int)] w fun v w' => v = .tuple #[.int .u64 ((v0 * 2 ^ 58 + v1 * 2 ^ 52 + v2 * 2 ^ 46 + v3 * 2 ^ 40 + v4 * 2 ^ 34 + v5 * 2 ^ 28 + v6 * 2 ^ 22 + v7 * 2 ^ 16 : Nat) : Int), .bool true] ∧ w = w' := by
  obtain ⟨o1, e1, l1⟩ : ∃ o : Nat, o = v0 ||| v1 ∧ o < 64 := ⟨_, rfl, Nat.or_lt_two_pow (n := 6) h0 h1⟩
  obtain ⟨o2, e2, l2⟩ : ∃ o : Nat, o = o1 ||| v2 ∧ o < 64 := ⟨_, rfl, Nat.or_lt_two_pow (n := 6) l1 h2⟩
  obtain ⟨o3, e3, l3⟩ : ∃ o : Nat, o = o2 ||| v3 ∧ o < 64 := ⟨_, rfl, Nat.or_lt_two_pow (n := 6) l2 h3⟩
  obtain ⟨o4, e4, l4⟩ : ∃ o : Nat, o = o3 ||| v4 ∧ o < 64 := ⟨_, rfl, Nat.or_lt_two_pow (n := 6) l3 h4⟩
  obtain ⟨o5, e5, l5⟩ : ∃ o : Nat, o = o4 ||| v5 ∧ o < 64 := ⟨_, rfl, Nat.or_lt_two_pow (n := 6) l4 h5⟩
  obtain ⟨o6, e6, l6⟩ : ∃ o : Nat, o = o5 ||| v6 ∧ o < 64 := ⟨_, rfl, Nat.or_lt_two_pow (n := 6) l5 h6⟩
  obtain ⟨o7, e7, l7⟩ : ∃ o : Nat, o = o6 ||| v7 ∧ o < 64 := ⟨_, rfl, Nat.or_lt_two_pow (n := 6) l6 h7⟩
  refine ret_of Try.func48 rfl Try.ntmps48 (Nat.le_of_ble_eq_true rfl) ?_
  refine C.seq ?_
  refine C.reg ?_
  refine W.y (y_assign rfl) rfl ?_
  refine W.y (y_assign rfl) rfl ?_
  refine W.fin ?_
  refine E.next ?_
  refine C.seq ?_
  refine C.seq ?_
  refine C.reg ?_
  refine W.y (y_move rfl) rfl ?_
  refine W.y (y_move rfl) rfl ?_
  refine W.y (Does.as (y_or uk8 rfl rfl (by omega) (by omega)) (vint (b := (o1 : Int)) (by rw [e1]))) rfl ?_
  refine W.y (y_move rfl) rfl ?_
  refine W.y (Does.as (y_or uk8 rfl rfl (by omega) (by omega)) (vint (b := (o2 : Int)) (by rw [e2]))) rfl ?_
  refine W.y (y_move rfl) rfl ?_
  refine W.y (Does.as (y_or uk8 rfl rfl (by omega) (by omega)) (vint (b := (o3 : Int)) (by rw [e3]))) rfl ?_
  refine W.y (y_move rfl) rfl ?_
  refine W.y (Does.as (y_or uk8 rfl rfl (by omega) (by omega)) (vint (b := (o4 : Int)) (by rw [e4]))) rfl ?_
  refine W.y (y_move rfl) rfl ?_
  refine W.y (Does.as (y_or uk8 rfl rfl (by omega) (by omega)) (vint (b := (o5 : Int)) (by rw [e5]))) rfl ?_
  refine W.y (y_move rfl) rfl ?_
  refine W.y (Does.as (y_or uk8 rfl rfl (by omega) (by omega)) (vint (b := (o6 : Int)) (by rw [e6]))) rfl ?_
  refine W.y (y_move rfl) rfl ?_
  refine W.y (Does.as (y_or uk8 rfl rfl (by omega) (by omega)) (vint (b := (o7 : Int)) (by rw [e7]))) rfl ?_
  refine W.y (y_eqlF rfl rfl (by omega)) rfl ?_
  refine W.fin ?_
  refine E.next ?_
  refine C.no rfl ?_
  refine C.skip ?_
  refine E.next ?_
  refine C.seq ?_
  refine C.reg ?_
  refine W.y (y_move rfl) rfl ?_
  refine W.y (y_convN uk64 rfl Try.underlying5 Try.underlying87 (by omega)) rfl ?_
  refine W.y (y_shl uk64 (s := 58) rfl rfl (by omega) (by omega)) rfl ?_
  refine W.y (y_move rfl) rfl ?_
  refine W.y (y_convN uk64 rfl Try.underlying5 Try.underlying87 (by omega)) rfl ?_
  refine W.y (y_shl uk64 (s := 52) rfl rfl (by omega) (by omega)) rfl ?_
  refine W.y (y_join uk64 58 rfl rfl (by omega) (by omega) (by omega) (by omega)) rfl ?_
  refine W.y (y_move rfl) rfl ?_
  refine W.y (y_convN uk64 rfl Try.underlying5 Try.underlying87 (by omega)) rfl ?_
  refine W.y (y_shl uk64 (s := 46) rfl rfl (by omega) (by omega)) rfl ?_
  refine W.y (y_join uk64 52 rfl rfl (by omega) (by omega) (by omega) (by omega)) rfl ?_
  refine W.y (y_move rfl) rfl ?_
  refine W.y (y_convN uk64 rfl Try.underlying5 Try.underlying87 (by omega)) rfl ?_
  refine W.y (y_shl uk64 (s := 40) rfl rfl (by omega) (by omega)) rfl ?_
  refine W.y (y_join uk64 46 rfl rfl (by omega) (by omega) (by omega) (by omega)) rfl ?_
  refine W.y (y_move rfl) rfl ?_
  refine W.y (y_convN uk64 rfl Try.underlying5 Try.underlying87 (by omega)) rfl ?_
  refine W.y (y_shl uk64 (s := 34) rfl rfl (by omega) (by omega)) rfl ?_
  refine W.y (y_join uk64 40 rfl rfl (by omega) (by omega) (by omega) (by omega)) rfl ?_
  refine W.y (y_move rfl) rfl ?_
  refine W.y (y_convN uk64 rfl Try.underlying5 Try.underlying87 (by omega)) rfl ?_
  refine W.y (y_shl uk64 (s := 28) rfl rfl (by omega) (by omega)) rfl ?_
  refine W.y (y_join uk64 34 rfl rfl (by omega) (by omega) (by omega) (by omega)) rfl ?_
  refine W.y (y_move rfl) rfl ?_
  refine W.y (y_convN uk64 rfl Try.underlying5 Try.underlying87 (by omega)) rfl ?_
  refine W.y (y_shl uk64 (s := 22) rfl rfl (by omega) (by omega)) rfl ?_
  refine W.y (y_join uk64 28 rfl rfl (by omega) (by omega) (by omega) (by omega)) rfl ?_
  refine W.y (y_move rfl) rfl ?_
  refine W.y (y_convN uk64 rfl Try.underlying5 Try.underlying87 (by omega)) rfl ?_
  refine W.y (y_shl uk64 (s := 16) rfl rfl (by omega) (by omega)) rfl ?_
  refine W.y (y_join uk64 22 rfl rfl (by omega) (by omega) (by omega) (by omega)) rfl ?_
  refine W.y (y_assign rfl) rfl ?_
  refine W.y (y_assign rfl) rfl ?_
  refine W.fin ?_
  refine E.next ?_
  refine C.ret ?_
  exact E.ret2 rfl rfl rfl ⟨rfl, rfl⟩
theorem bePut32_ret {w : World} {g o m c X : Nat} {A : Option Addr} {ds : Array Value} {td : TypeId} {fd : Nat × Nat} (hA : A = some ⟨g, o, none⟩) (hD : Bk w g ds td fd) (hm : 4 ≤ m) (ho : o + 4 ≤ ds.size) (hf : o + 4 ≤ fd.1 ∨ fd.2 ≤ o) :
    Ret Try.prog 52 #[.slice A m c, .int .u32 (X : Int)] w fun _ w' => Bk w' g (splice ds o [.int .u8 ((X / 2 ^ 24 % 256 : Nat) : Int), .int .u8 ((X / 2 ^ 16 % 256 : Nat) : Int), .int .u8 ((X / 2 ^ 8 % 256 : Nat) : Int), .int .u8 ((X % 256 : Nat) : Int)]) td fd ∧ Kp (· = g) w w' := by
  subst hA
  refine ret_of Try.func52 rfl Try.ntmps52 (Nat.le_of_ble_eq_true rfl) ?_
  refine C.seq ?_
  refine C.reg ?_
  refine W.y (y_move rfl) rfl ?_
  refine W.y (y_ixn (i := 3) rfl rfl Try.underlying24 siz5 (by omega)) rfl ?_
  refine W.y (y_load rfl pl5 (Bk.some hD (by omega))) rfl ?_
  refine W.fin ?_
  refine E.next ?_
  refine C.seq ?_
  refine C.reg ?_
  refine W.y (y_move rfl) rfl ?_
  refine W.y (y_move rfl) rfl ?_
  refine W.y (y_shr uk32 (s := 24) rfl rfl (by omega)) rfl ?_
  refine W.y (y_convM uk8 rfl Try.underlying93 Try.underlying5) rfl ?_
  refine W.y (y_ixn (i := 0) rfl rfl Try.underlying24 siz5 (by omega)) rfl ?_
  refine W.s (s_store rfl rfl rfl siz5 (Bk.some hD (by omega)) (Bk.frozen hD (by omega))) ?_
  refine W.fin ?_
  refine E.next ?_
  refine C.seq ?_
  refine C.reg ?_
  refine W.y (y_move rfl) rfl ?_
  refine W.y (y_move rfl) rfl ?_
  refine W.y (y_shr uk32 (s := 16) rfl rfl (by omega)) rfl ?_
  refine W.y (y_convM uk8 rfl Try.underlying93 Try.underlying5) rfl ?_
  refine W.y (y_ixn (i := 1) rfl rfl Try.underlying24 siz5 (by omega)) rfl ?_
  refine W.s (s_store rfl rfl rfl siz5 (Bk.some (Bk.set hD _ _) (by simp only [Array.size_setIfInBounds]; omega)) (Bk.frozen (Bk.set hD _ _) (by omega))) ?_
  refine W.fin ?_
  refine E.next ?_
  refine C.seq ?_
  refine C.reg ?_
  refine W.y (y_move rfl) rfl ?_
  refine W.y (y_move rfl) rfl ?_
  refine W.y (y_shr uk32 (s := 8) rfl rfl (by omega)) rfl ?_
  refine W.y (y_convM uk8 rfl Try.underlying93 Try.underlying5) rfl ?_
  refine W.y (y_ixn (i := 2) rfl rfl Try.underlying24 siz5 (by omega)) rfl ?_
  refine W.s (s_store rfl rfl rfl siz5 (Bk.some (Bk.set (Bk.set hD _ _) _ _) (by simp only [Array.size_setIfInBounds]; omega)) (Bk.frozen (Bk.set (Bk.set hD _ _) _ _) (by omega))) ?_
  refine W.fin ?_
  refine E.next ?_
  refine C.reg ?_
  refine W.y (y_move rfl) rfl ?_
  refine W.y (y_move rfl) rfl ?_
  refine W.y (y_convM uk8 rfl Try.underlying93 Try.underlying5) rfl ?_
  refine W.y (y_ixn (i := 3) rfl rfl Try.underlying24 siz5 (by omega)) rfl ?_
  refine W.s (s_store rfl rfl rfl siz5 (Bk.some (Bk.set (Bk.set (Bk.set hD _ _) _ _) _ _) (by simp only [Array.size_setIfInBounds]; omega)) (Bk.frozen (Bk.set (Bk.set (Bk.set hD _ _) _ _) _ _) (by omega))) ?_
  refine W.fin ?_
  exact E.end0 rfl ⟨Bk.set (Bk.set (Bk.set (Bk.set hD _ _) _ _) _ _) _ _, Kp.set (Kp.set (Kp.set (Kp.set (Kp.refl (· = g) w) (.inl rfl) _) (.inl rfl) _) (.inl rfl) _) (.inl rfl) _⟩
theorem bePut64_ret {w : World} {g o m c X : Nat} {A : Option Addr} {ds : Array Value} {td : TypeId} {fd : Nat × Nat} (hA : A = some ⟨g, o, none⟩) (hD : Bk w g ds td fd) (hm : 8 ≤ m) (ho : o + 8 ≤ ds.size) (hf : o + 8 ≤ fd.1 ∨ fd.2 ≤ o) :
    Ret Try.prog 49 #[.slice A m c, .int .u64 (X : Int)] w fun _ w' => Bk w' g (splice ds o [.int .u8 ((X / 2 ^ 56 % 256 : Nat) : Int), .int .u8 ((X / 2 ^ 48 % 256 : Nat) : Int), .int .u8 ((X / 2 ^ 40 % 256 : Nat) : Int), .int .u8 ((X / 2 ^ 32 % 256 : Nat) : Int), .int .u8 ((X / 2 ^ 24 % 256 : Nat) : Int), .int .u8 ((X / 2 ^ 16 % 256 : Nat) : Int), .int .u8 ((X / 2 ^ 8 % 256 : Nat) : Int), .int .u8 ((X % 256 : Nat) : Int)]) td fd ∧ Kp (· = g) w w' := by
  subst hA
  refine ret_of Try.func49 rfl Try.ntmps49 (Nat.le_of_ble_eq_true rfl) ?_
  refine C.seq ?_
  refine C.reg ?_
  refine W.y (y_move rfl) rfl ?_
  refine W.y (y_ixn (i := 7) rfl rfl Try.underlying24 siz5 (by omega)) rfl ?_
  refine W.y (y_load rfl pl5 (Bk.some hD (by omega))) rfl ?_
  refine W.fin ?_
  refine E.next ?_
  refine C.seq ?_
  refine C.reg ?_
  refine W.y (y_move rfl) rfl ?_
  refine W.y (y_move rfl) rfl ?_
  refine W.y (y_shr uk64 (s := 56) rfl rfl (by omega)) rfl ?_
  refine W.y (y_convM uk8 rfl Try.underlying87 Try.underlying5) rfl ?_
  refine W.y (y_ixn (i := 0) rfl rfl Try.underlying24 siz5 (by omega)) rfl ?_
  refine W.s (s_store rfl rfl rfl siz5 (Bk.some hD (by omega)) (Bk.frozen hD (by omega))) ?_
  refine W.fin ?_
  refine E.next ?_
  refine C.seq ?_
  refine C.reg ?_
  refine W.y (y_move rfl) rfl ?_
  refine W.y (y_move rfl) rfl ?_
  refine W.y (y_shr uk64 (s := 48) rfl rfl (by omega)) rfl ?_
  refine W.y (y_convM uk8 rfl Try.underlying87 Try.underlying5) rfl ?_
  refine W.y (y_ixn (i := 1) rfl rfl Try.underlying24 siz5 (by omega)) rfl ?_
  refine W.s (s_store rfl rfl rfl siz5 (Bk.some (Bk.set hD _ _) (by simp only [Array.size_setIfInBounds]; omega)) (Bk.frozen (Bk.set hD _ _) (by omega))) ?_
  refine W.fin ?_
  refine E.next ?_
  refine C.seq ?_
  refine C.reg ?_
  refine W.y (y_move rfl) rfl ?_
  refine W.y (y_move rfl) rfl ?_
  refine W.y (y_shr uk64 (s := 40) rfl rfl (by omega)) rfl ?_
  refine W.y (y_convM uk8 rfl Try.underlying87 Try.underlying5) rfl ?_
  refine W.y (y_ixn (i := 2) rfl rfl Try.underlying24 siz5 (by omega)) rfl ?_
  refine W.s (s_store rfl rfl rfl siz5 (Bk.some (Bk.set (Bk.set hD _ _) _ _) (by simp only [Array.size_setIfInBounds]; omega)) (Bk.frozen (Bk.set (Bk.set hD _ _) _ _) (by omega))) ?_
  refine W.fin ?_
  refine E.next ?_
  refine C.seq ?_
  refine C.reg ?_
  refine W.y (y_move rfl) rfl ?_
  refine W.y (y_move rfl) rfl ?_
  refine W.y (y_shr uk64 (s := 32) rfl rfl (by omega)) rfl ?_
  refine W.y (y_convM uk8 rfl Try.underlying87 Try.underlying5) rfl ?_
  refine W.y (y_ixn (i := 3) rfl rfl Try.underlying24 siz5 (by omega)) rfl ?_
  refine W.s (s_store rfl rfl rfl siz5 (Bk.some (Bk.set (Bk.set (Bk.set hD _ _) _ _) _ _) (by simp only [Array.size_setIfInBounds]; omega)) (Bk.frozen (Bk.set (Bk.set (Bk.set hD _ _) _ _) _ _) (by omega))) ?_
  refine W.fin ?_
  refine E.next ?_
  refine C.seq ?_
  refine C.reg ?_
  refine W.y (y_move rfl) rfl ?_
  refine W.y (y_move rfl) rfl ?_
  refine W.y (y_shr uk64 (s := 24) rfl rfl (by omega)) rfl ?_
  refine W.y (y_convM uk8 rfl Try.underlying87 Try.underlying5) rfl ?_
  refine W.y (y_ixn (i := 4) rfl rfl Try.underlying24 siz5 (by omega)) rfl ?_
  refine W.s (s_store rfl rfl rfl siz5 (Bk.some (Bk.set (Bk.set (Bk.set (Bk.set hD _ _) _ _) _ _) _ _) (by simp only [Array.size_setIfInBounds]; omega)) (Bk.frozen (Bk.set (Bk.set (Bk.set (Bk.set hD _ _) _ _) _ _) _ _) (by omega))) ?_
  refine W.fin ?_
  refine E.next ?_
  refine C.seq ?_
  refine C.reg ?_
  refine W.y (y_move rfl) rfl ?_
  refine W.y (y_move rfl) rfl ?_
  refine W.y (y_shr uk64 (s := 16) rfl rfl (by omega)) rfl ?_
  refine W.y (y_convM uk8 rfl Try.underlying87 Try.underlying5) rfl ?_
  refine W.y (y_ixn (i := 5) rfl rfl Try.underlying24 siz5 (by omega)) rfl ?_
  refine W.s (s_store rfl rfl rfl siz5 (Bk.some (Bk.set (Bk.set (Bk.set (Bk.set (Bk.set hD _ _) _ _) _ _) _ _) _ _) (by simp only [Array.size_setIfInBounds]; omega)) (Bk.frozen (Bk.set (Bk.set (Bk.set (Bk.set (Bk.set hD _ _) _ _) _ _) _ _) _ _) (by omega))) ?_
  refine W.fin ?_
  refine E.next ?_
  refine C.seq ?_
  refine C.reg ?_
  refine W.y (y_move rfl) rfl ?_
  refine W.y (y_move rfl) rfl ?_
  refine W.y (y_shr uk64 (s := 8) rfl rfl (by omega)) rfl ?_
  refine W.y (y_convM uk8 rfl Try.underlying87 Try.underlying5) rfl ?_
  refine W.y (y_ixn (i := 6) rfl rfl Try.underlying24 siz5 (by omega)) rfl ?_
  refine W.s (s_store rfl rfl rfl siz5 (Bk.some (Bk.set (Bk.set (Bk.set (Bk.set (Bk.set (Bk.set hD _ _) _ _) _ _) _ _) _ _) _ _) (by simp only [Array.size_setIfInBounds]; omega)) (Bk.frozen (Bk.set (Bk.set (Bk.set (Bk.set (Bk.set (Bk.set hD _ _) _ _) _ _) _ _) _ _) _ _) (by omega))) ?_
  refine W.fin ?_
  refine E.next ?_
  refine C.reg ?_
  refine W.y (y_move rfl) rfl ?_
  refine W.y (y_move rfl) rfl ?_
  refine W.y (y_convM uk8 rfl Try.underlying87 Try.underlying5) rfl ?_
  refine W.y (y_ixn (i := 7) rfl rfl Try.underlying24 siz5 (by omega)) rfl ?_
  refine W.s (s_store rfl rfl rfl siz5 (Bk.some (Bk.set (Bk.set (Bk.set (Bk.set (Bk.set (Bk.set (Bk.set hD _ _) _ _) _ _) _ _) _ _) _ _) _ _) (by simp only [Array.size_setIfInBounds]; omega)) (Bk.frozen (Bk.set (Bk.set (Bk.set (Bk.set (Bk.set (Bk.set (Bk.set hD _ _) _ _) _ _) _ _) _ _) _ _) _ _) (by omega))) ?_
  refine W.fin ?_
  exact E.end0 rfl ⟨Bk.set (Bk.set (Bk.set (Bk.set (Bk.set (Bk.set (Bk.set (Bk.set hD _ _) _ _) _ _) _ _) _ _) _ _) _ _) _ _, Kp.set (Kp.set (Kp.set (Kp.set (Kp.set (Kp.set (Kp.set (Kp.set (Kp.refl (· = g) w) (.inl rfl) _) (.inl rfl) _) (.inl rfl) _) (.inl rfl) _) (.inl rfl) _) (.inl rfl) _) (.inl rfl) _) (.inl rfl) _⟩
end Go.Proofs.Ytmbglgepomeilaa
