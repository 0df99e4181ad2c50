/- Contracts of slices.stableCmpFunc and slices.SortStableFunc: the row sorted stably, so far as the relation is an order of its elements; a permutation in any case. -/
import Derived.Test.YtnjnphoidjachaaSymAll
import Derived.Test.YtnjnphoidjachaaStIns
namespace Go.Proofs.Ytnjnphoidjachaa
open Go.RowKit

section
variable {α : Type}
/-- The first a elements are sorted blocks. -/
def Ph1 (lt : α → α → Bool) (Z : List α) (a : Nat) (L : List α) : Prop := ∃ Zd Zr Ld, Z = Zd ++ Zr ∧ Zd.length = a ∧ Full lt 20 Zd Ld ∧ L = Ld ++ Zr
/-- The first a elements are sorted blocks of twice the size. -/
def Ph2 (lt : α → α → Bool) (Z : List α) (bs a : Nat) (L : List α) : Prop := ∃ Zd Zr Ld Lr, Z = Zd ++ Zr ∧ Zd.length = a ∧ Full lt (2 * bs) Zd Ld ∧ Runs lt bs Zr Lr ∧ L = Ld ++ Lr
theorem Ph2.length {lt : α → α → Bool} {Z L : List α} {bs a : Nat} (h : Ph2 lt Z bs a L) : L.length = Z.length := by
  obtain ⟨Zd, Zr, Ld, Lr, rfl, _, h1, h2, rfl⟩ := h
  rw [List.length_append, List.length_append, h1.length, h2.length]
theorem Ph2.start {lt : α → α → Bool} {Z L : List α} {bs : Nat} (h : Runs lt bs Z L) : Ph2 lt Z bs 0 L := ⟨[], Z, [], L, rfl, rfl, .nil, h, rfl⟩
/-- What one round merges. -/
theorem Ph2.next {lt : α → α → Bool} {Z L : List α} {bs a b : Nat} (h : Ph2 lt Z bs a L) (hab : a + 2 * bs = b) (hb : b ≤ Z.length) :
    ∃ p u v s, L = p ++ (u ++ (v ++ s)) ∧ p.length = a ∧ u.length = bs ∧ v.length = bs ∧ ∀ z, Merged lt u v z → Ph2 lt Z bs b (p ++ (z ++ s)) := by
  obtain ⟨Zd, Zr, Ld, Lr, rfl, rfl, h1, h2, rfl⟩ := h
  simp at hb
  obtain ⟨Z1, L1, Z2, L2, rfl, rfl, k1, k2, k3⟩ := h2.first (by omega)
  obtain ⟨Z3, L3, Z4, L4, rfl, rfl, q1, q2, q3⟩ := k3.first (by simp at hb; omega)
  refine ⟨Ld, L1, L3, L4, rfl, h1.length, by rw [k2.length, k1], by rw [q2.length, q1], fun z hz => ?_⟩
  refine ⟨Zd ++ (Z1 ++ Z3), Z4, Ld ++ z, L4, by simp, by simp; omega, h1.snoc (by simp; omega) (k2.merge q2 hz), q3, by simp⟩
/-- The last round's merge. -/
theorem Ph2.last {lt : α → α → Bool} {Z L : List α} {bs a : Nat} (h : Ph2 lt Z bs a L) (hn : Z.length < a + 2 * bs) (hm : a + bs < Z.length) :
    ∃ p u v, L = p ++ (u ++ (v ++ [])) ∧ p.length = a ∧ u.length = bs ∧ a + bs + v.length = Z.length ∧ ∀ z, Merged lt u v z → Runs lt (2 * bs) Z (p ++ (z ++ [])) := by
  obtain ⟨Zd, Zr, Ld, Lr, rfl, rfl, h1, h2, rfl⟩ := h
  simp at hn hm
  obtain ⟨Z1, L1, Z2, L2, rfl, rfl, k1, k2, k3⟩ := h2.first (by omega)
  simp at hn hm
  have k4 := k3.so (by omega)
  refine ⟨Ld, L1, L2, by simp, h1.length, by rw [k2.length, k1], by simp; rw [k4.length]; omega, fun z hz => ?_⟩
  rw [List.append_nil]
  exact h1.runs (.last (by simp; omega) (k2.merge k4 hz))
theorem Ph2.rest {lt : α → α → Bool} {Z L : List α} {bs a : Nat} (h : Ph2 lt Z bs a L) (hm : ¬ a + bs < Z.length) : Runs lt (2 * bs) Z L := by
  obtain ⟨Zd, Zr, Ld, Lr, rfl, rfl, h1, h2, rfl⟩ := h
  simp at hm
  exact h1.runs (.last (by omega) (h2.so (by omega)))
end

set_option maxHeartbeats 8000000 in
set_option maxRecDepth 1000000 in
theorem stable_calls {g : Nat} {cb : Array Value} {cf : Int × Int → Int × Int → Int} {blk off n : Nat} {w0 : World} (E0 : SEnv g cb cf blk off n w0) (cap : Nat) (Z : List (Int × Int)) (w : World) (hZ : Z.length = n) (S : St w0 blk off Z w) :
    Calls Try.prog 51 #[.slice (some ⟨blk, off, none⟩) n cap, .int .i64 n, .func (.func g) #[] cb] w fun e w' => e = .returned (.tuple #[]) ∧ ∃ z, SO (ltOf cf) Z z ∧ St w0 blk off z w' := by
  have mixed : Try.prog.follows .mixedOrders = true := by kernel_rfl
  have eg := E0.enters
  have hsm := E0.small
  have E := Lib.hid E0
  have HZ := Lib.hid hZ
  have P0 : Aside (∃ L, Ph1 (ltOf cf) Z 0 L ∧ St w0 blk off L w) := ⟨Z, ⟨[], Z, [], rfl, rfl, .nil, rfl⟩, S⟩
  clear E0 S hZ
  go_enter Try.func51, Try.ntmps51
  go_wp2
  go_loopg [7, 8] n (fun kx s7 s8 wr => ∃ a b : Nat, s7 = .int .i64 a ∧ s8 = .int .i64 b ∧ a + 20 = b ∧ a ≤ n ∧ n - a ≤ kx ∧ Aside (∃ L, Ph1 (ltOf cf) Z a L ∧ St w0 blk off L wr))
  case atStart => exact ⟨0, 20, rfl, rfl, rfl, Nat.zero_le _, Nat.sub_le _ _, P0⟩
  case round =>
    clear P0
    obtain ⟨a, b, rfl, rfl, hab, han, hkx, P1⟩ := hrel
    by_cases hlt : b ≤ n
    · have hltz : (b : Int) ≤ (n : Int) := by omega
      have hc : Calls Try.prog 52 #[.slice (some ⟨blk, off, none⟩) n cap, .int .i64 a, .int .i64 b, .func (.func g) #[] cb] wr fun e w' => e = .returned (.tuple #[]) ∧ ∃ L, Ph1 (ltOf cf) Z b L ∧ St w0 blk off L w' := by
        obtain ⟨L, ⟨Zd, Zr, Ld, h1, h2, h3, rfl⟩, hS⟩ := P1.out
        have hl := congrArg List.length h1
        simp at hl
        have hz := HZ.out
        have hd := h3.length
        have e : Ld ++ Zr = Ld ++ (Zr.take 20 ++ Zr.drop 20) := by rw [List.take_append_drop]
        rw [e] at hS
        refine (insSort_calls E.out cap a b Ld (Zr.take 20) (Zr.drop 20) wr (by rw [← e]; simp; omega) (by omega) (by simp; omega) hS).mono ?_
        rintro e w' ⟨rfl, z, hz, hS'⟩
        exact ⟨rfl, _, ⟨Zd ++ Zr.take 20, Zr.drop 20, Ld ++ z, by rw [h1]; simp, by simp; omega, h3.snoc (by simp; omega) hz, by simp⟩, hS'⟩
      clear P1
      go_wp2_with fail
      refine hc.mono ?_
      rintro e w1 ⟨rfl, hP⟩
      clear hc
      go_wp2
      go_roundg (n - b)
      case measure => omega
      case rel => exact ⟨b, b + 20, rfl, by simp, rfl, hlt, Nat.le_refl _, hP⟩
    · have hltz : ¬ (b : Int) ≤ (n : Int) := by omega
      have hc : Calls Try.prog 52 #[.slice (some ⟨blk, off, none⟩) n cap, .int .i64 a, .int .i64 n, .func (.func g) #[] cb] wr fun e w' => e = .returned (.tuple #[]) ∧ ∃ L, Runs (ltOf cf) 20 Z L ∧ St w0 blk off L w' := by
        obtain ⟨L, ⟨Zd, Zr, Ld, h1, h2, h3, rfl⟩, hS⟩ := P1.out
        have hl := congrArg List.length h1
        simp at hl
        have hz := HZ.out
        have hd := h3.length
        have e : Ld ++ Zr = Ld ++ (Zr ++ []) := by simp
        rw [e] at hS
        refine (insSort_calls E.out cap a n Ld Zr [] wr (by rw [← e]; simp; omega) (by omega) (by omega) hS).mono ?_
        rintro e w' ⟨rfl, z, hz, hS'⟩
        rw [List.append_nil] at hS'
        refine ⟨rfl, _, ?_, hS'⟩
        rw [h1]
        exact h3.runs (.last (by omega) hz)
      clear P1
      go_wp2_with fail
      refine hc.mono ?_
      rintro e w1 ⟨rfl, hP⟩
      have P2 : Aside (∃ L, Runs (ltOf cf) 20 Z L ∧ St w0 blk off L w1) := hP
      clear hc hltz hkx hlt hab han hP
      go_wp2
      go_loopg [6] n (fun kx s6 wr => ∃ bs : Nat, s6 = .int .i64 bs ∧ 0 < bs ∧ bs ≤ 2 * n + 20 ∧ n - bs ≤ kx ∧ Aside (∃ L, Runs (ltOf cf) bs Z L ∧ St w0 blk off L wr))
      case atStart => exact ⟨20, rfl, by omega, by omega, Nat.sub_le _ _, P2⟩
      case round =>
        clear P2
        obtain ⟨bs, rfl, hbs, hbn, hkx, P3⟩ := hrel
        by_cases hlt : bs < n
        · have hltz : (bs : Int) < (n : Int) := by omega
          have P4 : Aside (∃ L, Ph2 (ltOf cf) Z bs 0 L ∧ St w0 blk off L wr) := by
            obtain ⟨L, h1, h2⟩ := P3.out
            exact ⟨L, Ph2.start h1, h2⟩
          clear P3
          have hkx0 := Lib.hid hkx
          clear hkx
          generalize wr = wA at P4 ⊢
          rename_i gk0
          go_wp2
          go_loopg [7, 8] n (fun kx s7 s8 wr => ∃ a b : Nat, s7 = .int .i64 a ∧ s8 = .int .i64 b ∧ a + 2 * bs = b ∧ a ≤ n ∧ n - a ≤ kx ∧ Aside (∃ L, Ph2 (ltOf cf) Z bs a L ∧ St w0 blk off L wr))
          case atStart => exact ⟨0, 2 * bs, rfl, by simp, by omega, Nat.zero_le _, Nat.sub_le _ _, P4⟩
          case round =>
            clear P4
            obtain ⟨a, b, rfl, rfl, hab, han, hkx, P5⟩ := hrel
            by_cases hle : b ≤ n
            · have hlez : (b : Int) ≤ (n : Int) := by omega
              have hc : Calls Try.prog 71 #[.slice (some ⟨blk, off, none⟩) n cap, .int .i64 a, .int .i64 ((a : Int) + (bs : Int)), .int .i64 b, .func (.func g) #[] cb] wr fun e w' => e = .returned (.tuple #[]) ∧ ∃ L, Ph2 (ltOf cf) Z bs b L ∧ St w0 blk off L w' := by
                obtain ⟨L, hP, hS⟩ := P5.out
                have hz := HZ.out
                have hlL := hP.length
                obtain ⟨p, u, v, s, rfl, h1, h2, h3, h4⟩ := hP.next hab (by omega)
                rw [show (a : Int) + (bs : Int) = ((a + bs : Nat) : Int) by simp]
                refine (symMerge_calls E.out cap (b - a + 1) a (a + bs) b p u v s wr (by omega) (by omega) h1.symm (by omega) (by omega) (by omega) (by omega) hS).mono ?_
                rintro e w' ⟨rfl, z, hz, hS'⟩
                exact ⟨rfl, _, h4 z hz, hS'⟩
              clear P5
              have wab : IntKind.i64.wrap ((a : Int) + (bs : Int)) = (a : Int) + (bs : Int) := by rw [IntKind.wrap_i64]; omega
              have wb2 : IntKind.i64.wrap (2 * (bs : Int)) = 2 * (bs : Int) := by rw [IntKind.wrap_i64]; omega
              have wbb : IntKind.i64.wrap ((b : Int) + 2 * (bs : Int)) = (b : Int) + 2 * (bs : Int) := by rw [IntKind.wrap_i64]; omega
              go_wp2_with fail
              refine hc.mono ?_
              rintro e w2 ⟨rfl, hP⟩
              clear hc
              go_wp2
              go_roundg (n - b)
              case measure => omega
              case rel => exact ⟨b, b + 2 * bs, rfl, by simp, rfl, hle, Nat.le_refl _, hP⟩
            · have hlez : ¬ (b : Int) ≤ (n : Int) := by omega
              have wab : IntKind.i64.wrap ((a : Int) + (bs : Int)) = (a : Int) + (bs : Int) := by rw [IntKind.wrap_i64]; omega
              have wb2 : IntKind.i64.wrap ((bs : Int) * 2) = (bs : Int) * 2 := by rw [IntKind.wrap_i64]; omega
              by_cases hmn : a + bs < n
              · have hmz : (a : Int) + (bs : Int) < (n : Int) := by omega
                have hc : Calls Try.prog 71 #[.slice (some ⟨blk, off, none⟩) n cap, .int .i64 a, .int .i64 ((a : Int) + (bs : Int)), .int .i64 n, .func (.func g) #[] cb] wr fun e w' => e = .returned (.tuple #[]) ∧ ∃ L, Runs (ltOf cf) (bs * 2) Z L ∧ St w0 blk off L w' := by
                  obtain ⟨L, hP, hS⟩ := P5.out
                  have hz := HZ.out
                  have hlL := hP.length
                  obtain ⟨p, u, v, rfl, h1, h2, h3, h4⟩ := hP.last (by omega) (by omega)
                  rw [show (a : Int) + (bs : Int) = ((a + bs : Nat) : Int) by simp]
                  refine (symMerge_calls E.out cap (n - a + 1) a (a + bs) n p u v [] wr (by omega) (by omega) h1.symm (by omega) (by omega) (by omega) (by omega) hS).mono ?_
                  rintro e w' ⟨rfl, z, hz, hS'⟩
                  rw [Nat.mul_comm]
                  exact ⟨rfl, _, h4 z hz, hS'⟩
                clear P5
                go_wp2_with fail
                refine hc.mono ?_
                rintro e w2 ⟨rfl, hP⟩
                clear hc
                go_wp2
                go_roundg (n - bs * 2)
                case measure => have := hkx0.out; omega
                case rel => exact ⟨bs * 2, by simp, by omega, by omega, Nat.le_refl _, hP⟩
              · have hmz : ¬ (a : Int) + (bs : Int) < (n : Int) := by omega
                have hP : Aside (∃ L, Runs (ltOf cf) (bs * 2) Z L ∧ St w0 blk off L wr) := by
                  obtain ⟨L, hP, hS⟩ := P5.out
                  have hz := HZ.out
                  show ∃ L, Runs (ltOf cf) (bs * 2) Z L ∧ St w0 blk off L wr
                  rw [Nat.mul_comm]
                  exact ⟨L, hP.rest (by omega), hS⟩
                clear P5
                go_wp2
                go_roundg (n - bs * 2)
                case measure => have := hkx0.out; omega
                case rel => exact ⟨bs * 2, by simp, by omega, by omega, Nat.le_refl _, hP⟩
        · have hltz : ¬ (bs : Int) < (n : Int) := by omega
          have hP : Aside (∃ z, SO (ltOf cf) Z z ∧ St w0 blk off z wr) := by
            obtain ⟨L, h1, h2⟩ := P3.out
            exact ⟨L, h1.so (by have := HZ.out; omega), h2⟩
          clear P3
          go_wp2
          go_end0
          exact ⟨rfl, hP.out⟩

set_option maxHeartbeats 4000000 in
theorem sortStableFunc_calls {g : Nat} {cb : Array Value} {cf : Int × Int → Int × Int → Int} {blk off n : Nat} {w0 : World} (E0 : SEnv g cb cf blk off n w0) (cap : Nat) (Z : List (Int × Int)) (w : World) (hZ : Z.length = n) (S : St w0 blk off Z w) :
    Calls Try.prog 42 #[.slice (some ⟨blk, off, none⟩) n cap, .func (.func g) #[] cb] w fun e w' => e = .returned (.tuple #[]) ∧ ∃ z, SO (ltOf cf) Z z ∧ St w0 blk off z w' := by
  have hc := stable_calls E0 cap Z w hZ S
  clear E0 S
  go_enter Try.func42, Try.ntmps42
  go_wp2_with fail
  refine hc.mono ?_
  rintro e w1 ⟨rfl, hP⟩
  go_wp2
  go_end0
  exact ⟨rfl, hP⟩

set_option maxHeartbeats 4000000 in
set_option maxRecDepth 1000000 in
theorem insSort_none (A : Option Addr) (c : Nat) (f : Fn) (rs cb : Array Value) (w : World) :
    Calls Try.prog 52 #[.slice A 0 c, .int .i64 0, .int .i64 0, .func f rs cb] w fun e w' => e = .returned (.tuple #[]) ∧ w' = w := by
  go_enter Try.func52, Try.ntmps52
  go_wp2
  refine wp_loop_rounds 1 ?_
  rw [rounds_succ]
  go_wp2
  go_end0
  exact ⟨rfl, rfl⟩
set_option maxHeartbeats 4000000 in
set_option maxRecDepth 1000000 in
theorem sortStableFunc_none (A : Option Addr) (c : Nat) (f : Fn) (rs cb : Array Value) (w : World) :
    Calls Try.prog 42 #[.slice A 0 c, .func f rs cb] w fun e w' => e = .returned (.tuple #[]) ∧ w' = w := by
  have hs : Calls Try.prog 51 #[.slice A 0 c, .int .i64 0, .func f rs cb] w fun e w' => e = .returned (.tuple #[]) ∧ w' = w := by
    have hc := insSort_none A c f rs cb w
    go_enter Try.func51, Try.ntmps51
    go_wp2
    refine wp_loop_rounds 1 ?_
    rw [rounds_succ]
    go_wp2_with fail
    refine hc.mono ?_
    rintro e w1 ⟨rfl, rfl⟩
    go_wp2
    refine wp_loop_rounds 1 ?_
    rw [rounds_succ]
    go_wp2
    go_end0
    exact ⟨rfl, rfl⟩
  go_enter Try.func42, Try.ntmps42
  go_wp2_with fail
  refine hs.mono ?_
  rintro e w1 ⟨rfl, rfl⟩
  go_wp2
  go_end0
  exact ⟨rfl, rfl⟩
end Go.Proofs.Ytnjnphoidjachaa
