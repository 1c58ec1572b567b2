/-
  zzSpaceLen's, zzSkipSpace's and zzFieldEnd's contracts.
-/
import Derived.Test.Qxb6629140aFmtRows
import Derived.Test.Qxb6629140aFmtAutPlain
import Derived.WalkKit
import Derived.WalkSpells
import Derived.BigCall
namespace Go.Proofs.Qxb6629140aFmt
open Go.RowKit Go.Lib
theorem hid {p : Prop} (h : p) : Hid p := h
def Sp (s : ByteArray) (i n : Nat) (w : World) : Prop :=
    Calls Tryf.prog 15 #[.string s, .int .i64 (i : Int)] w fun e w' => e = .returned (.int .i64 (n : Int)) ∧ w' = w
set_option maxHeartbeats 1000000 in
theorem sp_one (s : ByteArray) (i : Nat) (w : World) (h : i < s.size) (hk : k1 s[i].toNat) : Sp s i 1 w := by
  have h' : s[i].toNat = 32 ∨ s[i].toNat = 9 ∨ s[i].toNat = 10 ∨ s[i].toNat = 11 ∨ s[i].toNat = 12 ∨ s[i].toNat = 13 := by unfold k1 at hk; omega
  clear hk
  unfold Sp
  rcases h' with hx | hx | hx | hx | hx | hx
  all_goals
    go_enter Tryf.func15, Tryf.ntmps15
    go_wp2
    go_ret
    exact ⟨rfl, rfl⟩
set_option maxHeartbeats 1000000 in
theorem sp_two (s : ByteArray) (i : Nat) (w : World) (hs : s.size ≤ 1048576) (h : i + 1 < s.size) (hk : k2 s[i].toNat s[i + 1].toNat) : Sp s i 2 w := by
  obtain ⟨hx, hy⟩ := hk
  unfold Sp
  rcases hy with hy | hy
  all_goals
    go_enter Tryf.func15, Tryf.ntmps15
    go_wp2
    go_ret
    exact ⟨rfl, rfl⟩
set_option maxHeartbeats 1000000 in
theorem sp_three (s : ByteArray) (i : Nat) (w : World) (hs : s.size ≤ 1048576) (h : i + 2 < s.size) (hk : k3 s[i].toNat s[i + 1].toNat s[i + 2].toNat) : Sp s i 3 w := by
  unfold Sp
  unfold k3 at hk
  rcases hk with ⟨hx, hy, hz⟩ | ⟨hx, hy, hz | hz | hz | hz⟩ | ⟨hx, hy, hz⟩ | ⟨hx, hy, hz⟩
  all_goals
    go_enter Tryf.func15, Tryf.ntmps15
    go_wp2
    go_ret
    exact ⟨rfl, rfl⟩
theorem nb {x : Nat} {c : Int} (h : (x : Int) ≠ c) : ((x : Int) == c) = false := by simpa using h
set_option maxHeartbeats 2000000 in
theorem sp_194 (s : ByteArray) (i : Nat) (w : World) (hs : s.size ≤ 1048576) (h : i < s.size) (hx : s[i].toNat = 194) (hk : ∀ (h : i + 1 < s.size), ¬ (s[i + 1].toNat = 133 ∨ s[i + 1].toNat = 160)) : Sp s i 0 w := by
  unfold Sp
  by_cases h1 : i + 1 < s.size
  · have hy := hk h1
    have q1 : ((s[i + 1].toNat : Int) == 133) = false := nb (by omega)
    have q2 : ((s[i + 1].toNat : Int) == 160) = false := nb (by omega)
    clear hk hy
    by_cases h2 : i + 2 < s.size
    all_goals
      go_enter Tryf.func15, Tryf.ntmps15
      go_wp2
      go_ret
      exact ⟨rfl, rfl⟩
  · clear hk
    go_enter Tryf.func15, Tryf.ntmps15
    go_wp2
    go_ret
    exact ⟨rfl, rfl⟩
set_option maxHeartbeats 2000000 in
theorem sp_short (s : ByteArray) (i : Nat) (w : World) (hs : s.size ≤ 1048576) (h : i < s.size) (h2 : s.size ≤ i + 2) (h0 : ¬ k1 s[i].toNat) (hx : s[i].toNat ≠ 194) : Sp s i 0 w := by
  unfold k1 at h0
  have q032 : ((s[i].toNat : Int) == 32) = false := nb (by omega)
  have q09 : ((s[i].toNat : Int) == 9) = false := nb (by omega)
  have q010 : ((s[i].toNat : Int) == 10) = false := nb (by omega)
  have q011 : ((s[i].toNat : Int) == 11) = false := nb (by omega)
  have q012 : ((s[i].toNat : Int) == 12) = false := nb (by omega)
  have q013 : ((s[i].toNat : Int) == 13) = false := nb (by omega)
  have q0194 : ((s[i].toNat : Int) == 194) = false := nb (by omega)
  clear h0 hx
  unfold Sp
  go_enter Tryf.func15, Tryf.ntmps15
  go_wp2
  go_ret
  exact ⟨rfl, rfl⟩
set_option maxHeartbeats 2000000 in
theorem sp_other (s : ByteArray) (i : Nat) (w : World) (hs : s.size ≤ 1048576) (h : i + 2 < s.size) (h0 : ¬ k1 s[i].toNat) (hx : s[i].toNat ≠ 194) (hx2 : s[i].toNat < 225 ∨ 227 < s[i].toNat) : Sp s i 0 w := by
  unfold k1 at h0
  have q032 : ((s[i].toNat : Int) == 32) = false := nb (by omega)
  have q09 : ((s[i].toNat : Int) == 9) = false := nb (by omega)
  have q010 : ((s[i].toNat : Int) == 10) = false := nb (by omega)
  have q011 : ((s[i].toNat : Int) == 11) = false := nb (by omega)
  have q012 : ((s[i].toNat : Int) == 12) = false := nb (by omega)
  have q013 : ((s[i].toNat : Int) == 13) = false := nb (by omega)
  have q0194 : ((s[i].toNat : Int) == 194) = false := nb (by omega)
  have q0225 : ((s[i].toNat : Int) == 225) = false := nb (by omega)
  have q0226 : ((s[i].toNat : Int) == 226) = false := nb (by omega)
  have q0227 : ((s[i].toNat : Int) == 227) = false := nb (by omega)
  clear h0 hx hx2
  unfold Sp
  go_enter Tryf.func15, Tryf.ntmps15
  go_wp2
  go_ret
  exact ⟨rfl, rfl⟩
set_option maxHeartbeats 2000000 in
theorem sp_225 (s : ByteArray) (i : Nat) (w : World) (hs : s.size ≤ 1048576) (h : i + 2 < s.size) (hx : s[i].toNat = 225) (hk : ¬ (s[i + 1].toNat = 154 ∧ s[i + 2].toNat = 128)) : Sp s i 0 w := by
  unfold Sp
  by_cases hy : s[i + 1].toNat = 154
  · have hz : ¬ s[i + 2].toNat = 128 := fun e => hk ⟨hy, e⟩
    have q2128 : ((s[i + 2].toNat : Int) == 128) = false := nb (by omega)
    clear hk hz
    go_enter Tryf.func15, Tryf.ntmps15
    go_wp2
    go_ret
    exact ⟨rfl, rfl⟩
  · clear hk
    have q1154 : ((s[i + 1].toNat : Int) == 154) = false := nb (by omega)
    clear hy
    go_enter Tryf.func15, Tryf.ntmps15
    go_wp2
    go_ret
    exact ⟨rfl, rfl⟩
set_option maxHeartbeats 2000000 in
theorem sp_227 (s : ByteArray) (i : Nat) (w : World) (hs : s.size ≤ 1048576) (h : i + 2 < s.size) (hx : s[i].toNat = 227) (hk : ¬ (s[i + 1].toNat = 128 ∧ s[i + 2].toNat = 128)) : Sp s i 0 w := by
  unfold Sp
  by_cases hy : s[i + 1].toNat = 128
  · have hz : ¬ s[i + 2].toNat = 128 := fun e => hk ⟨hy, e⟩
    have q2128 : ((s[i + 2].toNat : Int) == 128) = false := nb (by omega)
    clear hk hz
    go_enter Tryf.func15, Tryf.ntmps15
    go_wp2
    go_ret
    exact ⟨rfl, rfl⟩
  · clear hk
    have q1128 : ((s[i + 1].toNat : Int) == 128) = false := nb (by omega)
    clear hy
    go_enter Tryf.func15, Tryf.ntmps15
    go_wp2
    go_ret
    exact ⟨rfl, rfl⟩
set_option maxHeartbeats 2000000 in
theorem sp_226 (s : ByteArray) (i : Nat) (w : World) (hs : s.size ≤ 1048576) (h : i + 2 < s.size) (hx : s[i].toNat = 226) (hk : ¬ k3 226 s[i + 1].toNat s[i + 2].toNat) : Sp s i 0 w := by
  unfold Sp
  by_cases hy : s[i + 1].toNat = 128
  · have hz : ¬ ((128 ≤ s[i + 2].toNat ∧ s[i + 2].toNat ≤ 138) ∨ s[i + 2].toNat = 168 ∨ s[i + 2].toNat = 169 ∨ s[i + 2].toNat = 175) := fun e => hk (Or.inr (Or.inl ⟨rfl, hy, e⟩))
    have hz1 : s[i + 2].toNat < 128 ∨ 138 < s[i + 2].toNat := by omega
    have q2168 : ((s[i + 2].toNat : Int) == 168) = false := nb (by omega)
    have q2169 : ((s[i + 2].toNat : Int) == 169) = false := nb (by omega)
    have q2175 : ((s[i + 2].toNat : Int) == 175) = false := nb (by omega)
    clear hk hz
    rcases hz1 with hz | hz
    all_goals
      go_enter Tryf.func15, Tryf.ntmps15
      go_wp2
      go_ret
      exact ⟨rfl, rfl⟩
  · by_cases hy2 : s[i + 1].toNat = 129
    · have hz : ¬ s[i + 2].toNat = 159 := fun e => hk (Or.inr (Or.inr (Or.inl ⟨rfl, hy2, e⟩)))
      have q2159 : ((s[i + 2].toNat : Int) == 159) = false := nb (by omega)
      clear hk hz hy
      go_enter Tryf.func15, Tryf.ntmps15
      go_wp2
      go_ret
      exact ⟨rfl, rfl⟩
    · clear hk
      have q1128 : ((s[i + 1].toNat : Int) == 128) = false := nb (by omega)
      have q1129 : ((s[i + 1].toNat : Int) == 129) = false := nb (by omega)
      clear hy hy2
      go_enter Tryf.func15, Tryf.ntmps15
      go_wp2
      go_ret
      exact ⟨rfl, rfl⟩
/-- zzSpaceLen: how many bytes the white-space character at i takes. -/
theorem space_walk (s : ByteArray) (i : Nat) (w : World) (hs : s.size ≤ 1048576) (h : i < s.size) : Sp s i (headSpace (rest s i)) w := by
  by_cases h1 : k1 s[i].toNat
  · rw [rA s i h h1]; exact sp_one s i w h h1
  · by_cases hx : s[i].toNat = 194
    · by_cases hb : ∃ (h : i + 1 < s.size), s[i + 1].toNat = 133 ∨ s[i + 1].toNat = 160
      · obtain ⟨hb, hy⟩ := hb
        rw [rB s i hb ⟨hx, hy⟩]; exact sp_two s i w hs hb ⟨hx, hy⟩
      · rw [rZ s i h h1 (fun h2 k => hb ⟨h2, k.2⟩) (fun _ k => by unfold k3 at k; omega)]
        exact sp_194 s i w hs h hx (fun h2 k => hb ⟨h2, k⟩)
    · by_cases h2 : i + 2 < s.size
      · by_cases h3 : k3 s[i].toNat s[i + 1].toNat s[i + 2].toNat
        · rw [rC s i h2 h3]; exact sp_three s i w hs h2 h3
        · rw [rZ s i h h1 (fun _ k => hx k.1) (fun _ => h3)]
          by_cases e1 : s[i].toNat = 225
          · exact sp_225 s i w hs h2 e1 (fun k => h3 (Or.inl ⟨e1, k⟩))
          · by_cases e2 : s[i].toNat = 226
            · rw [e2] at h3; exact sp_226 s i w hs h2 e2 h3
            · by_cases e3 : s[i].toNat = 227
              · exact sp_227 s i w hs h2 e3 (fun k => h3 (Or.inr (Or.inr (Or.inr ⟨e3, k⟩))))
              · exact sp_other s i w hs h2 h1 hx (by omega)
      · rw [rZ s i h h1 (fun _ k => hx k.1) (fun h3 => absurd h3 h2)]
        exact sp_short s i w hs h (by omega) h1 hx
end Go.Proofs.Qxb6629140aFmt
