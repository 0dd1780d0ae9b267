/- Contract of jsWord. -/
import Derived.Test.Qxb6000076aSmall
set_option linter.unusedVariables false
namespace Go.Proofs.Qxb6000076a
open Go.RowKit
open JS (Flat Bal StrOK ValOK ObjOK ArrAt ObjAt Ins sEnd)

theorem flat_run {b : List Int} {i : Nat} : ∀ (m : Nat), i + m ≤ b.length → (∀ t, t < m → JS.plain (b.getD (i + t) 0)) → Flat b i (i + m)
  | 0, _, _ => Flat.refl _ _
  | m + 1, h, hp => (flat_run m (by omega) (fun t ht => hp t (by omega))).trans (Flat.plain (by omega) (hp m (by omega)))

set_option maxHeartbeats 1600000 in
set_option maxRecDepth 100000 in
theorem word_any (g n i : Nat) (bs : List Int) (s : ByteArray) (w : World) (hT : Hid (Txt w g n bs)) (hi : i < n) (hs0 : 0 < s.size) (hs1 : s.size ≤ 5)
    (hs : Hid (∀ k (h : k < s.size), JS.plain ((s[k]'h).toNat : Int))) :
    Calls Try.prog 25 #[.slice (some ⟨g, 0, none⟩) n n, .int .i64 i, .string s] w fun e w' => Ret2 (ValOK bs i) w e w' := by
  have hn := hT.out.2.1
  have hlen : Hid (bs.length = n) := hT.out.1
  by_cases hf : i + s.size ≤ n
  · go_enter Try.func25, Try.ntmps25
    go_wp2_with fail
    go_loopw [8] (fun t wr => ∃ k : Nat, k ≤ s.size ∧ t = .int .i64 k ∧ Hid (∀ t, t < k → JS.plain (bs.getD (i + t) 0)) ∧ ∃ m, wr = w.drewN m) (fun t _ => s.size - (RowKit.intOf t).toNat)
    case atStart => exact ⟨0, Nat.zero_le _, rfl, fun t h => by omega, 0, rfl⟩
    case round =>
      obtain ⟨k, hk, rfl, HK, m, rfl⟩ := hrel
      by_cases hks : k < s.size
      · have hc := hT.out.2.2 (i + k) (by omega)
        generalize hcc : bs.getD (i + k) 0 = c at hc
        have HC : Hid (bs.getD (i + k) 0 = c) := hcc
        clear hcc
        have q1 : (0 : Int) ≤ (i : Int) + (k : Int) := by omega
        have q2 : (i : Int) + (k : Int) < (n : Int) := by omega
        have q3 : (0 : Int) ≤ (k : Int) := by omega
        have q4 : (k : Int) < (s.size : Int) := by omega
        have q5 : IntKind.i64.wrap ((i : Int) + (k : Int)) = (i : Int) + (k : Int) := by rw [IntKind.wrap_i64]; omega
        by_cases e : c = ((s[k]'hks).toNat : Int)
        · have HK' : Hid (∀ t, t < k + 1 → JS.plain (bs.getD (i + t) 0)) := fun t ht => by
            by_cases h : t = k
            · rw [h, HC.out, e]; exact hs.out k hks
            · exact HK.out t (by omega)
          have b1 : (c != ((s[k]'hks).toNat : Int)) = false := by rw [e]; simp
          clear e HK
          go_wp2_with fail
          go_quiet (fail)
          go_wp2_with fail
          go_roundw
          case rel => exact ⟨k + 1, by omega, by go_num, HK', _, rfl⟩
          case measure => simp [RowKit.intOf]; omega
        · have b1 : (c != ((s[k]'hks).toNat : Int)) = true := by rw [bne_iff_ne]; exact e
          clear e HK
          go_wp2_with fail
          go_quiet (fail)
          go_wp2_with fail
          go_ret2
          exact ⟨0, false, rfl, (fun h => by cases h), _, World.drewN_drewN _ _ _⟩
      · have hks' : k = s.size := by omega
        have HV : Hid (ValOK bs i (i + s.size)) := by
          have hl := hlen.out
          exact ⟨by omega, by omega, (flat_run s.size (by omega) (fun t ht => HK.out t (by omega))).bal⟩
        clear HK
        go_wp2_with fail
        go_ret2
        exact Ret2.yes w _ (i + s.size) _ HV.out (by omega)
  · go_enter Try.func25, Try.ntmps25
    go_wp2_with fail
    go_ret2
    exact Ret2.no _ _ 0
end Go.Proofs.Qxb6000076a
