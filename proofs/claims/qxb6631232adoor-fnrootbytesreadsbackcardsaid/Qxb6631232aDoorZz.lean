import Derived.Test.Qxb6631232aDoorCount
namespace Go.Proofs.Qxb6631232aDoor
open Go.RowKit

/-- Every name is short. -/
def Sh (G : List (ByteArray × Int)) (n : Nat) : Prop := ∀ k, k < n → (nm G k).size ≤ 1048576

/-- A count's answer: where it is 'true', p holds. -/
def Zz (p : Prop) (w : World) (e : Ending) (w' : World) : Prop := ∃ q : Bool, e = .returned (.bool q) ∧ (q = true → p) ∧ w' = w

set_option maxHeartbeats 1000000 in
/-- zzBytes_FnRootBytesReadsBack. -/
theorem zz11 (s : Int) (a : Option Addr) (n cap : Nat) (G : List (ByteArray × Int)) (w : World) (hn : G.length = n) (hG : Gs w a G) :
    Calls Tryd.prog 11 #[.int .i64 s, .slice a n cap] w (Zz (n ≤ 1048576 ∧ Sh G n) w) := by
  subst hn
  by_cases hl : G.length ≤ 1048576
  · go_enter Tryd.func11, Tryd.ntmps11
    go_wp2
    go_loop [5, 6] (fun zv iv => ∃ (k : Nat) (z : Int), k ≤ G.length ∧ iv = .int .i64 k ∧ zv = .int .i64 z ∧ 0 ≤ z ∧ z ≤ 1048576 ∧ Sh G k) (fun _ iv => G.length - (intOf iv).toNat)
    case atStart => exact ⟨0, G.length, Nat.zero_le _, rfl, by go_num, by omega, by omega, fun k hk => by omega⟩
    case round =>
      obtain ⟨k, z, hk, rfl, rfl, z1, z2, hsh⟩ := hrel
      by_cases hlt : k < G.length
      · obtain ⟨g, off, rfl, hg, hc⟩ := hG (by omega)
        obtain ⟨x, hx⟩ : ∃ x, x = nm G k := ⟨_, rfl⟩
        have e1 := (hc k hlt).1
        rw [← hx] at e1
        have HX := hidden hx
        have HSH := hidden hsh
        clear hc hG hx hsh
        by_cases hxs : x.size ≤ 1048576
        · by_cases hov : z + (x.size : Int) ≤ 1048576
          · go_wp2
            go_round
            case rel => exact ⟨k + 1, _, by omega, by go_num, rfl, by omega, by omega, fun j hj => by
              rcases Nat.lt_or_eq_of_le (Nat.le_of_lt_succ hj) with h | h
              · exact HSH.out j h
              · subst h; rw [← HX.out]; exact hxs⟩
            case measure => simp [intOf]; omega
          · go_wp2
            go_ret
            exact ⟨false, rfl, by simp, rfl⟩
        · go_wp2
          go_ret
          exact ⟨false, rfl, by simp, rfl⟩
      · obtain rfl : k = G.length := by omega
        go_wp2
        go_ret
        exact ⟨true, rfl, fun _ => by first | trivial | exact ⟨hl, hsh⟩, rfl⟩
  · go_enter Tryd.func11, Tryd.ntmps11
    go_wp2
    go_ret
    exact ⟨false, rfl, by simp, rfl⟩

set_option maxHeartbeats 2000000 in
/-- zzBytes_FnRootBytesSplitsAtAnyCut. -/
theorem zz5 (s t u : Int) (a b : Option Addr) (n cap m cbp : Nat) (G H : List (ByteArray × Int)) (y : ByteArray) (w : World) (hn : G.length = n) (hm : H.length = m) (hG : Gs w a G) (hH : Gs w b H) :
    Calls Tryd.prog 5 #[.int .i64 s, .int .i64 t, .slice a n cap, .slice b m cbp, .string y, .int .i64 u] w (Zz ((n ≤ 1048576 ∧ Sh G n) ∧ (m ≤ 1048576 ∧ Sh H m) ∧ y.size ≤ 1048576) w) := by
  subst hn hm
  by_cases hl : G.length ≤ 1048576
  · go_enter Tryd.func5, Tryd.ntmps5
    go_wp2
    go_loop [13, 14] (fun zv iv => ∃ (k : Nat) (z : Int), k ≤ G.length ∧ iv = .int .i64 k ∧ zv = .int .i64 z ∧ 0 ≤ z ∧ z ≤ 1048576 ∧ Sh G k) (fun _ iv => G.length - (intOf iv).toNat)
    case atStart => exact ⟨0, G.length, Nat.zero_le _, rfl, by go_num, by omega, by omega, fun k hk => by omega⟩
    case round =>
      obtain ⟨k, z, hk, rfl, rfl, z1, z2, hsh⟩ := hrel
      by_cases hlt : k < G.length
      · obtain ⟨g, off, rfl, hg, hc⟩ := hG (by omega)
        obtain ⟨x, hx⟩ : ∃ x, x = nm G k := ⟨_, rfl⟩
        have e1 := (hc k hlt).1
        rw [← hx] at e1
        have HX := hidden hx
        have HSH := hidden hsh
        clear hc hG hx hsh
        by_cases hxs : x.size ≤ 1048576
        · by_cases hov : z + (x.size : Int) ≤ 1048576
          · go_wp2
            go_round
            case rel => exact ⟨k + 1, _, by omega, by go_num, rfl, by omega, by omega, fun j hj => by
              rcases Nat.lt_or_eq_of_le (Nat.le_of_lt_succ hj) with h | h
              · exact HSH.out j h
              · subst h; rw [← HX.out]; exact hxs⟩
            case measure => simp [intOf]; omega
          · go_wp2
            go_ret
            exact ⟨false, rfl, by simp, rfl⟩
        · go_wp2
          go_ret
          exact ⟨false, rfl, by simp, rfl⟩
      · obtain rfl : k = G.length := by omega
        clear hlt
        by_cases hm : H.length ≤ 1048576
        · by_cases hov : z + (H.length : Int) ≤ 1048576
          · go_wp2
            go_loop [13, 15] (fun zv iv => ∃ (k : Nat) (z : Int), k ≤ H.length ∧ iv = .int .i64 k ∧ zv = .int .i64 z ∧ 0 ≤ z ∧ z ≤ 1048576 ∧ Sh H k) (fun _ iv => H.length - (intOf iv).toNat)
            case atStart => exact ⟨0, z + H.length, Nat.zero_le _, rfl, rfl, by omega, by omega, fun k hk => by omega⟩
            case round =>
              obtain ⟨k, z', hk, rfl, rfl, z1', z2', hsh'⟩ := hrel
              by_cases hlt : k < H.length
              · obtain ⟨g, off, rfl, hg, hc⟩ := hH (by omega)
                obtain ⟨x, hx⟩ : ∃ x, x = nm H k := ⟨_, rfl⟩
                have e1 := (hc k hlt).1
                rw [← hx] at e1
                have HX := hidden hx
                have HSH := hidden hsh'
                clear hc hH hx hsh'
                by_cases hxs : x.size ≤ 1048576
                · by_cases hov : z' + (x.size : Int) ≤ 1048576
                  · go_wp2
                    go_round
                    case rel => exact ⟨k + 1, _, by omega, by go_num, rfl, by omega, by omega, fun j hj => by
                      rcases Nat.lt_or_eq_of_le (Nat.le_of_lt_succ hj) with h | h
                      · exact HSH.out j h
                      · subst h; rw [← HX.out]; exact hxs⟩
                    case measure => simp [intOf]; omega
                  · go_wp2
                    go_ret
                    exact ⟨false, rfl, by simp, rfl⟩
                · go_wp2
                  go_ret
                  exact ⟨false, rfl, by simp, rfl⟩
              · obtain rfl : k = H.length := by omega
                clear hlt
                by_cases hys : y.size ≤ 1048576
                · by_cases hov : z' + (y.size : Int) ≤ 1048576
                  · go_wp2
                    go_ret
                    exact ⟨true, rfl, fun _ => by first | trivial | exact ⟨⟨hl, hsh⟩, ⟨hm, hsh'⟩, hys⟩, rfl⟩
                  · go_wp2
                    go_ret
                    exact ⟨false, rfl, by simp, rfl⟩
                · go_wp2
                  go_ret
                  exact ⟨false, rfl, by simp, rfl⟩
          · go_wp2
            go_ret
            exact ⟨false, rfl, by simp, rfl⟩
        · go_wp2
          go_ret
          exact ⟨false, rfl, by simp, rfl⟩
  · go_enter Tryd.func5, Tryd.ntmps5
    go_wp2
    go_ret
    exact ⟨false, rfl, by simp, rfl⟩
end Go.Proofs.Qxb6631232aDoor
