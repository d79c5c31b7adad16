/-
  spec.RunUint64, the reference: its answers and its number at last are what 'ans' and 'fin' say (RunPost); spec.SameUint64 of two equal lists is true. Conditions: the script is a slice of at most 2^43 steps.
-/
import Derived.Test.YtabipgjebbmpgaaAfter
namespace Go.Proofs.Ytabipgjebbmpgaa
open Go.RowKit
/-- append of one number onto a slice that the call gathers. -/
theorem wp_num {ops : Array Oper} {rest : List Oper} {o : Oper} {a : Act} {Q : Exit → Act → World → Prop} (hgd : o.guard = none) (s x : Operand)
    (ho : o.op = .call { callee := .builtin .append, args := #[s, x], argTypes := #[23, 23] })
    {B : Nat} {r : Int} {v : Value} {n sz : Nat} {cs : List Value} {w wm : World} (hm : Gath B 24 1 v n cs w wm) (hs : a.eval s = v)
    (hx : a.eval x = .slice (some ⟨sz, 0, none⟩) 1 1) (hsz : sz = wm.heap.size) (hn : n ≤ 8796093022208)
    (h : ∀ v' w1, Gath B 24 1 v' (n + 1) (cs ++ [.int .u64 r]) w w1 → wpList Try.prog ops Q rest (a.put o.dst v') w1) : wpList Try.prog ops Q (o :: rest) a (wm.alloc (.cells #[.int .u64 r] 24)) := by
  obtain ⟨i0, hi, hz0, hz1, hz2⟩ := info_parts infoE
  subst hsz
  refine wpList_append_own_at _ hgd s x 23 ho B 24 i0 (.int .u64 0) 1 8 Try.underlying23 hi hz0 hz1 hz2 rfl (by decide) v n _ hs (hm.own.alloc _) ⟨wm.heap.size, 0, none⟩ 1 1 [.int .u64 r] hx rfl (cell_one_new _ _ _) (by intro u hu; simp at hu; subst hu; rfl) (by unfold maxLen; omega) (by omega)
    (by have := hm.lo; simp; omega) ?_
  intro v' w1 hown hg _ _
  exact h v' w1 ((hm.alloc _).append hown hg)

set_option maxHeartbeats 1000000 in
theorem spec_any (A : Option Addr) (n c : Nat) (L : List Step) (w : World) (hn : n ≤ 8796093022208) (hL : Steps .u64 w A n L) :
    Calls Try.prog 16 #[.slice A n c] w (RunPost .u64 n L w) := by
  go_enter Try.func16, Try.ntmps16
  go_wp2
  go_loopw [4, 5, 6] (fun v x i wr => ∃ j : Nat, j ≤ n ∧ i = .int .i64 j ∧ x = .int .u64 (fin .u64 0 (L.take j)) ∧ Gath w.heap.size 24 1 v j ((ans .u64 0 (L.take j)).map (Value.int .u64)) w wr) (fun _ _ i _ => n - (intOf i).toNat)
  case atStart => exact ⟨0, Nat.zero_le _, rfl, rfl, Gath.start w _ _⟩
  case round =>
    obtain ⟨j, hj, rfl, rfl, hm⟩ := hrel
    by_cases hlt : j < n
    · obtain ⟨⟨d, y, z⟩, hs⟩ : ∃ s, L[j]? = some s := ⟨_, List.getElem?_eq_getElem (by rw [hL.1]; exact hlt)⟩
      obtain ⟨b, off, rfl, c0, c1, c2⟩ := hL.2 j _ hs
      replace c0 := cell_kept hm.below c0
      replace c1 := cell_kept hm.below c1
      replace c2 := cell_kept hm.below c2
      generalize hx : fin .u64 0 (L.take j) = x
      generalize hzs : ans .u64 0 (L.take j) = zs at hm
      have HS := Lib.hid hs; clear hs
      have HX := Lib.hid hx; clear hx
      have HZ := Lib.hid hzs; clear hzs
      go_wp2_with fail
      refine (after_any x d y z _).mono ?_
      rintro e w1 ⟨rfl, hb1⟩
      replace hm := hm.keep hb1
      clear c0 c1 c2
      generalize ha : after .u64 x (d, y, z) = p
      obtain ⟨r, x'⟩ := p
      have HA := Lib.hid ha; clear ha
      go_wp2_with (at_builtin; refine wp_num rfl (.tmp 25) (.tmp 27) rfl hm rfl rfl (by simp) (by omega) ?_; intro v1 w2 hm1)
      go_roundw
      case rel => exact ⟨j + 1, by omega, by go_num, by rw [fin_snoc .u64 0 L j _ HS.out, HX.out, HA.out], ref_next HS.out HX.out HZ.out (by rw [HA.out]; exact hm1)⟩
      case measure => simp [intOf]; omega
    · have hjn : j = n := by omega
      subst hjn
      rw [List.take_of_length_le (by rw [hL.1]; exact Nat.le_refl _)] at hm ⊢
      obtain ⟨A', c', rfl, hc', hI⟩ := hm.ints
      go_wp2
      go_ret2
      exact ⟨A', c', rfl, hc', hI, hm.below⟩

set_option maxHeartbeats 1000000 in
theorem same_any (A A' : Option Addr) (n c c' : Nat) (zs : List Int) (w : World) (hn : n ≤ 9223372036854775807) (hz : Ints .u64 w A n zs) (hz' : Ints .u64 w A' n zs) :
    Calls Try.prog 17 #[.slice A n c, .slice A' n c'] w fun e w' => e = .returned (.bool true) ∧ ∃ m, w' = w.drewN m := by
  go_enter Try.func17, Try.ntmps17
  go_wp2
  go_loopw [5] (fun i wr => ∃ j m : Nat, j ≤ n ∧ i = .int .i64 j ∧ wr = w.drewN m) (fun i _ => n - (intOf i).toNat)
  case atStart => exact ⟨0, 0, Nat.zero_le _, rfl, rfl⟩
  case round =>
    obtain ⟨j, m, hj, rfl, rfl⟩ := hrel
    by_cases hlt : j < n
    · obtain ⟨z, hs⟩ : ∃ s, zs[j]? = some s := ⟨_, List.getElem?_eq_getElem (by rw [hz.1]; exact hlt)⟩
      obtain ⟨b, off, rfl, c0⟩ := hz.2 j _ hs
      obtain ⟨b', off', rfl, c1⟩ := hz'.2 j _ hs
      clear hs
      go_wp2
      go_quiet (fail)
      go_wp2
      go_roundw
      case rel => exact ⟨j + 1, _, by omega, by go_num, rfl⟩
      case measure => simp [intOf]; omega
    · go_wp2
      go_ret
      exact ⟨rfl, m, rfl⟩
end Go.Proofs.Ytabipgjebbmpgaa
