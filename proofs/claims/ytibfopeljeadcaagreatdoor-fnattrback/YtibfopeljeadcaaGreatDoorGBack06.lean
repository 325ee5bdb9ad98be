/- Texts that the proof of the card of FnAttrBack rests on, part 6. -/
import Derived.Test.YtibfopeljeadcaaGreatDoorGBack01
import Derived.Test.YtibfopeljeadcaaGreatDoorGBack05
import Derived.Test.YtibfopeljeadcaaGreatDoorGBack02
/-! The package: values are told. Printed by a program of ours (wip/tools/gM13.py) out of the steps of the code. -/
namespace Go.Sx
open Go Go.Proofs Go.RowKit

theorem asl222 {R : Frag} {s : Value} {es : List (List Value)} (h : SlR R 1 s es) (hlen : es.length ≤ 1000000) (hsz : ∀ c ∈ es, c.length = 1) (hones : ∀ c ∈ es, ones c = true) :
    Pure Tryz.prog 222 [.iface 186 s] R (fun R' r => SlR R' 1 r es) := by
  obtain ⟨p, cap, rfl, hp⟩ := id h
  intro E As
  refine Tri_enter Tryz.func222 (by rfl) (by rfl) (by rfl) _ _ ?_
  refine HC_seq ?_
  refine HC_region ?_
  refine HL_assign (by rfl) (by rfl) ?_
  refine HL_nil ?_
  refine HQ_then ?_
  refine HC_seq ?_
  refine HC_region ?_
  refine HL_move (by rfl) (by rfl) ?_
  refine HL_assert_yes (by rfl) Tryz.underlying186 (by rfl) ?_
  refine HL_move (by rfl) (by rfl) ?_
  refine HL_extract (by rfl) (by rfl) (by rfl) ?_
  refine HL_extract (by rfl) (by rfl) (by rfl) ?_
  refine HL_assign (by rfl) (by rfl) ?_
  refine HL_assign (by rfl) (by rfl) ?_
  refine HL_nil ?_
  refine HQ_then ?_
  refine HC_seq ?_
  refine HC_seq ?_
  refine HC_region ?_
  refine HL_move (by rfl) (by rfl) ?_
  refine HL_not (by rfl) (by rfl) ?_
  refine HL_nil ?_
  refine HQ_then ?_
  refine HC_cond_f (by rfl) ?_
  refine HC_skip ?_
  refine HQ_then ?_
  refine HC_seq ?_
  rcases Classical.em (es = []) with rfl | hne
  · skip
    refine HC_region ?_
    refine HL_buildSlice0 (by rfl) Tryz.underlying186 ty4 z4 (fun b12 => ?_)
    refine HL_move (by rfl) (by rfl) ?_
    refine HL_append0 (by rfl) Tryz.underlying186 ty4 (by rfl) (Nat.le_refl _) (by rfl) ?_
    have hown3 : OwnS 4 1 (.slice (some ⟨b12, 0, none⟩) 0 0) ([] : List (List Value)).length ([] : List (List Value)).flatten (blk b12 [] 4) := ⟨by simp, .inr ⟨b12, 0, [], rfl, rfl, by simp, by simp [maxLen], by simp, by simp⟩⟩
    refine HL_assign (by rfl) (by rfl) ?_
    refine HL_nil ?_
    refine HQ_then ?_
    refine HC_ret ?_
    refine HQ_sealS (by repeat (first | exact Out.here | apply Out.there)) hown3 rfl hsz (fun R₂ hle2 hsl => ?_)
    refine HQ_ret (.inl rfl) _ (fun a w ha hs => run_results_tmp (by rfl) (by rfl) a w ha) ?_
    exact fun w hs => ret_pure hs (by repeat (first | exact Tail.refl | apply Tail.cons)) hle2 hsl
  · obtain ⟨b, off, cap', he, hrd⟩ := SlR.all h hne
    injection he with he _ _
    subst he
    have hof : ones es.flatten = true := by
      unfold ones at hones ⊢
      rw [List.all_eq_true]
      intro x hx
      obtain ⟨c, hc, hxc⟩ := List.mem_flatten.1 hx
      exact List.all_eq_true.1 (hones c hc) x hxc
    have hown0 : ∀ b5, OwnS 4 1 (.slice (some ⟨b5, 0, none⟩) 0 0) 0 [] (blk b5 [] 4) := fun b5 => ⟨by simp, .inr ⟨b5, 0, [], rfl, rfl, by omega, by simp [maxLen], by simp, by simp⟩⟩
    refine HC_region ?_
    refine HL_buildSlice0 (by rfl) Tryz.underlying186 ty4 z4 (fun b12 => ?_)
    refine HL_move (by rfl) (by rfl) ?_
    refine HL_append (by rfl) Tryz.underlying186 ty4 z4 by4 (by rfl) (by rfl) (by rfl) (hown0 b12) (by repeat (first | exact Pl.here | apply Pl.there)) (by rfl) (m := es.length) hrd.rd hof (maxLen_big _ (by omega)) (by omega) ?_
    intro o' e' hown'
    have hown3 : OwnS 4 1 o' es.length es.flatten e' := by simpa using hown'
    refine HL_assign (by rfl) (by rfl) ?_
    refine HL_nil ?_
    refine HQ_then ?_
    refine HC_ret ?_
    refine HQ_sealS (by repeat (first | exact Out.here | apply Out.there)) hown3 rfl hsz (fun R₂ hle2 hsl => ?_)
    refine HQ_ret (.inl rfl) _ (fun a w ha hs => run_results_tmp (by rfl) (by rfl) a w ha) ?_
    exact fun w hs => ret_pure hs (by repeat (first | exact Tail.refl | apply Tail.cons)) hle2 hsl
theorem asl224 {R : Frag} {s : Value} {es : List (List Value)} (h : SlR R 1 s es) (hlen : es.length ≤ 1000000) (hsz : ∀ c ∈ es, c.length = 1) (hones : ∀ c ∈ es, ones c = true) :
    Pure Tryz.prog 224 [.iface 188 s] R (fun R' r => SlR R' 1 r es) := by
  obtain ⟨p, cap, rfl, hp⟩ := id h
  intro E As
  refine Tri_enter Tryz.func224 (by rfl) (by rfl) (by rfl) _ _ ?_
  refine HC_seq ?_
  refine HC_region ?_
  refine HL_assign (by rfl) (by rfl) ?_
  refine HL_nil ?_
  refine HQ_then ?_
  refine HC_seq ?_
  refine HC_region ?_
  refine HL_move (by rfl) (by rfl) ?_
  refine HL_assert_yes (by rfl) Tryz.underlying188 (by rfl) ?_
  refine HL_move (by rfl) (by rfl) ?_
  refine HL_extract (by rfl) (by rfl) (by rfl) ?_
  refine HL_extract (by rfl) (by rfl) (by rfl) ?_
  refine HL_assign (by rfl) (by rfl) ?_
  refine HL_assign (by rfl) (by rfl) ?_
  refine HL_nil ?_
  refine HQ_then ?_
  refine HC_seq ?_
  refine HC_seq ?_
  refine HC_region ?_
  refine HL_move (by rfl) (by rfl) ?_
  refine HL_not (by rfl) (by rfl) ?_
  refine HL_nil ?_
  refine HQ_then ?_
  refine HC_cond_f (by rfl) ?_
  refine HC_skip ?_
  refine HQ_then ?_
  refine HC_seq ?_
  rcases Classical.em (es = []) with rfl | hne
  · skip
    refine HC_region ?_
    refine HL_buildSlice0 (by rfl) Tryz.underlying188 ty2 z2 (fun b12 => ?_)
    refine HL_move (by rfl) (by rfl) ?_
    refine HL_append0 (by rfl) Tryz.underlying188 ty2 (by rfl) (Nat.le_refl _) (by rfl) ?_
    have hown3 : OwnS 2 1 (.slice (some ⟨b12, 0, none⟩) 0 0) ([] : List (List Value)).length ([] : List (List Value)).flatten (blk b12 [] 2) := ⟨by simp, .inr ⟨b12, 0, [], rfl, rfl, by simp, by simp [maxLen], by simp, by simp⟩⟩
    refine HL_assign (by rfl) (by rfl) ?_
    refine HL_nil ?_
    refine HQ_then ?_
    refine HC_ret ?_
    refine HQ_sealS (by repeat (first | exact Out.here | apply Out.there)) hown3 rfl hsz (fun R₂ hle2 hsl => ?_)
    refine HQ_ret (.inl rfl) _ (fun a w ha hs => run_results_tmp (by rfl) (by rfl) a w ha) ?_
    exact fun w hs => ret_pure hs (by repeat (first | exact Tail.refl | apply Tail.cons)) hle2 hsl
  · obtain ⟨b, off, cap', he, hrd⟩ := SlR.all h hne
    injection he with he _ _
    subst he
    have hof : ones es.flatten = true := by
      unfold ones at hones ⊢
      rw [List.all_eq_true]
      intro x hx
      obtain ⟨c, hc, hxc⟩ := List.mem_flatten.1 hx
      exact List.all_eq_true.1 (hones c hc) x hxc
    have hown0 : ∀ b5, OwnS 2 1 (.slice (some ⟨b5, 0, none⟩) 0 0) 0 [] (blk b5 [] 2) := fun b5 => ⟨by simp, .inr ⟨b5, 0, [], rfl, rfl, by omega, by simp [maxLen], by simp, by simp⟩⟩
    refine HC_region ?_
    refine HL_buildSlice0 (by rfl) Tryz.underlying188 ty2 z2 (fun b12 => ?_)
    refine HL_move (by rfl) (by rfl) ?_
    refine HL_append (by rfl) Tryz.underlying188 ty2 z2 by2 (by rfl) (by rfl) (by rfl) (hown0 b12) (by repeat (first | exact Pl.here | apply Pl.there)) (by rfl) (m := es.length) hrd.rd hof (maxLen_big _ (by omega)) (by omega) ?_
    intro o' e' hown'
    have hown3 : OwnS 2 1 o' es.length es.flatten e' := by simpa using hown'
    refine HL_assign (by rfl) (by rfl) ?_
    refine HL_nil ?_
    refine HQ_then ?_
    refine HC_ret ?_
    refine HQ_sealS (by repeat (first | exact Out.here | apply Out.there)) hown3 rfl hsz (fun R₂ hle2 hsl => ?_)
    refine HQ_ret (.inl rfl) _ (fun a w ha hs => run_results_tmp (by rfl) (by rfl) a w ha) ?_
    exact fun w hs => ret_pure hs (by repeat (first | exact Tail.refl | apply Tail.cons)) hle2 hsl
theorem asl225 {R : Frag} {s : Value} {es : List (List Value)} (h : SlR R 1 s es) (hlen : es.length ≤ 1000000) (hsz : ∀ c ∈ es, c.length = 1) (hones : ∀ c ∈ es, ones c = true) :
    Pure Tryz.prog 225 [.iface 190 s] R (fun R' r => SlR R' 1 r es) := by
  obtain ⟨p, cap, rfl, hp⟩ := id h
  intro E As
  refine Tri_enter Tryz.func225 (by rfl) (by rfl) (by rfl) _ _ ?_
  refine HC_seq ?_
  refine HC_region ?_
  refine HL_assign (by rfl) (by rfl) ?_
  refine HL_nil ?_
  refine HQ_then ?_
  refine HC_seq ?_
  refine HC_region ?_
  refine HL_move (by rfl) (by rfl) ?_
  refine HL_assert_yes (by rfl) Tryz.underlying190 (by rfl) ?_
  refine HL_move (by rfl) (by rfl) ?_
  refine HL_extract (by rfl) (by rfl) (by rfl) ?_
  refine HL_extract (by rfl) (by rfl) (by rfl) ?_
  refine HL_assign (by rfl) (by rfl) ?_
  refine HL_assign (by rfl) (by rfl) ?_
  refine HL_nil ?_
  refine HQ_then ?_
  refine HC_seq ?_
  refine HC_seq ?_
  refine HC_region ?_
  refine HL_move (by rfl) (by rfl) ?_
  refine HL_not (by rfl) (by rfl) ?_
  refine HL_nil ?_
  refine HQ_then ?_
  refine HC_cond_f (by rfl) ?_
  refine HC_skip ?_
  refine HQ_then ?_
  refine HC_seq ?_
  rcases Classical.em (es = []) with rfl | hne
  · skip
    refine HC_region ?_
    refine HL_buildSlice0 (by rfl) Tryz.underlying190 ty143 z143 (fun b12 => ?_)
    refine HL_move (by rfl) (by rfl) ?_
    refine HL_append0 (by rfl) Tryz.underlying190 ty143 (by rfl) (Nat.le_refl _) (by rfl) ?_
    have hown3 : OwnS 143 1 (.slice (some ⟨b12, 0, none⟩) 0 0) ([] : List (List Value)).length ([] : List (List Value)).flatten (blk b12 [] 143) := ⟨by simp, .inr ⟨b12, 0, [], rfl, rfl, by simp, by simp [maxLen], by simp, by simp⟩⟩
    refine HL_assign (by rfl) (by rfl) ?_
    refine HL_nil ?_
    refine HQ_then ?_
    refine HC_ret ?_
    refine HQ_sealS (by repeat (first | exact Out.here | apply Out.there)) hown3 rfl hsz (fun R₂ hle2 hsl => ?_)
    refine HQ_ret (.inl rfl) _ (fun a w ha hs => run_results_tmp (by rfl) (by rfl) a w ha) ?_
    exact fun w hs => ret_pure hs (by repeat (first | exact Tail.refl | apply Tail.cons)) hle2 hsl
  · obtain ⟨b, off, cap', he, hrd⟩ := SlR.all h hne
    injection he with he _ _
    subst he
    have hof : ones es.flatten = true := by
      unfold ones at hones ⊢
      rw [List.all_eq_true]
      intro x hx
      obtain ⟨c, hc, hxc⟩ := List.mem_flatten.1 hx
      exact List.all_eq_true.1 (hones c hc) x hxc
    have hown0 : ∀ b5, OwnS 143 1 (.slice (some ⟨b5, 0, none⟩) 0 0) 0 [] (blk b5 [] 143) := fun b5 => ⟨by simp, .inr ⟨b5, 0, [], rfl, rfl, by omega, by simp [maxLen], by simp, by simp⟩⟩
    refine HC_region ?_
    refine HL_buildSlice0 (by rfl) Tryz.underlying190 ty143 z143 (fun b12 => ?_)
    refine HL_move (by rfl) (by rfl) ?_
    refine HL_append (by rfl) Tryz.underlying190 ty143 z143 by143 (by rfl) (by rfl) (by rfl) (hown0 b12) (by repeat (first | exact Pl.here | apply Pl.there)) (by rfl) (m := es.length) hrd.rd hof (maxLen_big _ (by omega)) (by omega) ?_
    intro o' e' hown'
    have hown3 : OwnS 143 1 o' es.length es.flatten e' := by simpa using hown'
    refine HL_assign (by rfl) (by rfl) ?_
    refine HL_nil ?_
    refine HQ_then ?_
    refine HC_ret ?_
    refine HQ_sealS (by repeat (first | exact Out.here | apply Out.there)) hown3 rfl hsz (fun R₂ hle2 hsl => ?_)
    refine HQ_ret (.inl rfl) _ (fun a w ha hs => run_results_tmp (by rfl) (by rfl) a w ha) ?_
    exact fun w hs => ret_pure hs (by repeat (first | exact Tail.refl | apply Tail.cons)) hle2 hsl
theorem asl229 {R : Frag} {s : Value} {es : List (List Value)} (h : SlR R 1 s es) (hlen : es.length ≤ 1000000) (hsz : ∀ c ∈ es, c.length = 1) (hones : ∀ c ∈ es, ones c = true) :
    Pure Tryz.prog 229 [.iface 31 s] R (fun R' r => SlR R' 1 r es) := by
  obtain ⟨p, cap, rfl, hp⟩ := id h
  intro E As
  refine Tri_enter Tryz.func229 (by rfl) (by rfl) (by rfl) _ _ ?_
  refine HC_seq ?_
  refine HC_region ?_
  refine HL_assign (by rfl) (by rfl) ?_
  refine HL_nil ?_
  refine HQ_then ?_
  refine HC_seq ?_
  refine HC_region ?_
  refine HL_move (by rfl) (by rfl) ?_
  refine HL_assert_yes (by rfl) Tryz.underlying31 (by rfl) ?_
  refine HL_move (by rfl) (by rfl) ?_
  refine HL_extract (by rfl) (by rfl) (by rfl) ?_
  refine HL_extract (by rfl) (by rfl) (by rfl) ?_
  refine HL_assign (by rfl) (by rfl) ?_
  refine HL_assign (by rfl) (by rfl) ?_
  refine HL_nil ?_
  refine HQ_then ?_
  refine HC_seq ?_
  refine HC_seq ?_
  refine HC_region ?_
  refine HL_move (by rfl) (by rfl) ?_
  refine HL_not (by rfl) (by rfl) ?_
  refine HL_nil ?_
  refine HQ_then ?_
  refine HC_cond_f (by rfl) ?_
  refine HC_skip ?_
  refine HQ_then ?_
  refine HC_seq ?_
  rcases Classical.em (es = []) with rfl | hne
  · skip
    refine HC_region ?_
    refine HL_buildSlice0 (by rfl) Tryz.underlying31 ty9 z9 (fun b12 => ?_)
    refine HL_move (by rfl) (by rfl) ?_
    refine HL_append0 (by rfl) Tryz.underlying31 ty9 (by rfl) (Nat.le_refl _) (by rfl) ?_
    have hown3 : OwnS 9 1 (.slice (some ⟨b12, 0, none⟩) 0 0) ([] : List (List Value)).length ([] : List (List Value)).flatten (blk b12 [] 9) := ⟨by simp, .inr ⟨b12, 0, [], rfl, rfl, by simp, by simp [maxLen], by simp, by simp⟩⟩
    refine HL_assign (by rfl) (by rfl) ?_
    refine HL_nil ?_
    refine HQ_then ?_
    refine HC_ret ?_
    refine HQ_sealS (by repeat (first | exact Out.here | apply Out.there)) hown3 rfl hsz (fun R₂ hle2 hsl => ?_)
    refine HQ_ret (.inl rfl) _ (fun a w ha hs => run_results_tmp (by rfl) (by rfl) a w ha) ?_
    exact fun w hs => ret_pure hs (by repeat (first | exact Tail.refl | apply Tail.cons)) hle2 hsl
  · obtain ⟨b, off, cap', he, hrd⟩ := SlR.all h hne
    injection he with he _ _
    subst he
    have hof : ones es.flatten = true := by
      unfold ones at hones ⊢
      rw [List.all_eq_true]
      intro x hx
      obtain ⟨c, hc, hxc⟩ := List.mem_flatten.1 hx
      exact List.all_eq_true.1 (hones c hc) x hxc
    have hown0 : ∀ b5, OwnS 9 1 (.slice (some ⟨b5, 0, none⟩) 0 0) 0 [] (blk b5 [] 9) := fun b5 => ⟨by simp, .inr ⟨b5, 0, [], rfl, rfl, by omega, by simp [maxLen], by simp, by simp⟩⟩
    refine HC_region ?_
    refine HL_buildSlice0 (by rfl) Tryz.underlying31 ty9 z9 (fun b12 => ?_)
    refine HL_move (by rfl) (by rfl) ?_
    refine HL_append (by rfl) Tryz.underlying31 ty9 z9 by9 (by rfl) (by rfl) (by rfl) (hown0 b12) (by repeat (first | exact Pl.here | apply Pl.there)) (by rfl) (m := es.length) hrd.rd hof (maxLen_big _ (by omega)) (by omega) ?_
    intro o' e' hown'
    have hown3 : OwnS 9 1 o' es.length es.flatten e' := by simpa using hown'
    refine HL_assign (by rfl) (by rfl) ?_
    refine HL_nil ?_
    refine HQ_then ?_
    refine HC_ret ?_
    refine HQ_sealS (by repeat (first | exact Out.here | apply Out.there)) hown3 rfl hsz (fun R₂ hle2 hsl => ?_)
    refine HQ_ret (.inl rfl) _ (fun a w ha hs => run_results_tmp (by rfl) (by rfl) a w ha) ?_
    exact fun w hs => ret_pure hs (by repeat (first | exact Tail.refl | apply Tail.cons)) hle2 hsl
theorem asl236 {R : Frag} {c0 c1 c2 : Value} {s : Value} {es : List (List Value)} (h : SlR R 4 s es) (hlen : es.length ≤ 1000000) (hsz : ∀ c ∈ es, c.length = 4) (hones : ∀ c ∈ es, ones c = true) :
    Pure Tryz.prog 236 [.agg [c0, c1, c2, .iface 194 s].toArray] R (fun R' r => SlR R' 4 r es) := by
  obtain ⟨p, cap, rfl, hp⟩ := id h
  intro E As
  refine Tri_enter Tryz.func236 (by rfl) (by rfl) (by rfl) _ _ ?_
  refine HC_seq ?_
  refine HC_region ?_
  refine HL_box (by rfl) (by rfl) (vs := [c0, c1, c2, .iface 194 (.slice p es.length cap)]) (by rfl) (fun b1 => ?_)
  refine HL_assign (by rfl) (by rfl) ?_
  refine HL_nil ?_
  refine HQ_then ?_
  refine HC_seq ?_
  refine HC_region ?_
  refine HL_fieldAddr (by rfl) f95_3 (by rfl) ?_
  refine HL_load_one (by rfl) ty20 (by rfl) (by first | exact Rd.own (by repeat (first | exact Mem.here | apply Mem.there)) (by rfl) | exact RdR.rd (by assumption)) ?_
  refine HL_assert_yes (by rfl) Tryz.underlying194 (by rfl) ?_
  refine HL_move (by rfl) (by rfl) ?_
  refine HL_extract (by rfl) (by rfl) (by rfl) ?_
  refine HL_extract (by rfl) (by rfl) (by rfl) ?_
  refine HL_assign (by rfl) (by rfl) ?_
  refine HL_assign (by rfl) (by rfl) ?_
  refine HL_nil ?_
  refine HQ_then ?_
  refine HC_seq ?_
  refine HC_seq ?_
  refine HC_region ?_
  refine HL_move (by rfl) (by rfl) ?_
  refine HL_not (by rfl) (by rfl) ?_
  refine HL_nil ?_
  refine HQ_then ?_
  refine HC_cond_f (by rfl) ?_
  refine HC_skip ?_
  refine HQ_then ?_
  refine HC_seq ?_
  rcases Classical.em (es = []) with rfl | hne
  · skip
    refine HC_region ?_
    refine HL_buildSlice0 (by rfl) Tryz.underlying194 ty95 z95 (fun b13 => ?_)
    refine HL_move (by rfl) (by rfl) ?_
    refine HL_append0 (by rfl) Tryz.underlying194 ty95 (by rfl) (Nat.le_refl _) (by rfl) ?_
    have hown3 : OwnS 95 4 (.slice (some ⟨b13, 0, none⟩) 0 0) ([] : List (List Value)).length ([] : List (List Value)).flatten (blk b13 [] 95) := ⟨by simp, .inr ⟨b13, 0, [], rfl, rfl, by simp, by simp [maxLen], by simp, by simp⟩⟩
    refine HL_assign (by rfl) (by rfl) ?_
    refine HL_nil ?_
    refine HQ_then ?_
    refine HC_ret ?_
    refine HQ_sealS (by repeat (first | exact Out.here | apply Out.there)) hown3 rfl hsz (fun R₂ hle2 hsl => ?_)
    refine HQ_ret (.inl rfl) _ (fun a w ha hs => run_results_tmp (by rfl) (by rfl) a w ha) ?_
    exact fun w hs => ret_pure hs (by repeat (first | exact Tail.refl | apply Tail.cons)) hle2 hsl
  · obtain ⟨b, off, cap', he, hrd⟩ := SlR.all h hne
    injection he with he _ _
    subst he
    have hof : ones es.flatten = true := by
      unfold ones at hones ⊢
      rw [List.all_eq_true]
      intro x hx
      obtain ⟨c, hc, hxc⟩ := List.mem_flatten.1 hx
      exact List.all_eq_true.1 (hones c hc) x hxc
    have hown0 : ∀ b5, OwnS 95 4 (.slice (some ⟨b5, 0, none⟩) 0 0) 0 [] (blk b5 [] 95) := fun b5 => ⟨by simp, .inr ⟨b5, 0, [], rfl, rfl, by omega, by simp [maxLen], by simp, by simp⟩⟩
    refine HC_region ?_
    refine HL_buildSlice0 (by rfl) Tryz.underlying194 ty95 z95 (fun b13 => ?_)
    refine HL_move (by rfl) (by rfl) ?_
    refine HL_append (by rfl) Tryz.underlying194 ty95 z95 by95 (by rfl) (by rfl) (by rfl) (hown0 b13) (by repeat (first | exact Pl.here | apply Pl.there)) (by rfl) (m := es.length) hrd.rd hof (maxLen_big _ (by omega)) (by omega) ?_
    intro o' e' hown'
    have hown3 : OwnS 95 4 o' es.length es.flatten e' := by simpa using hown'
    refine HL_assign (by rfl) (by rfl) ?_
    refine HL_nil ?_
    refine HQ_then ?_
    refine HC_ret ?_
    refine HQ_sealS (by repeat (first | exact Out.here | apply Out.there)) hown3 rfl hsz (fun R₂ hle2 hsl => ?_)
    refine HQ_ret (.inl rfl) _ (fun a w ha hs => run_results_tmp (by rfl) (by rfl) a w ha) ?_
    exact fun w hs => ret_pure hs (by repeat (first | exact Tail.refl | apply Tail.cons)) hle2 hsl
theorem asl237 {R : Frag} {c0 c1 c2 : Value} {s : Value} {es : List (List Value)} (h : SlR R 5 s es) (hlen : es.length ≤ 1000000) (hsz : ∀ c ∈ es, c.length = 5) (hones : ∀ c ∈ es, ones c = true) :
    Pure Tryz.prog 237 [.agg [c0, c1, c2, .iface 84 s].toArray] R (fun R' r => SlR R' 5 r es) := by
  obtain ⟨p, cap, rfl, hp⟩ := id h
  intro E As
  refine Tri_enter Tryz.func237 (by rfl) (by rfl) (by rfl) _ _ ?_
  refine HC_seq ?_
  refine HC_region ?_
  refine HL_box (by rfl) (by rfl) (vs := [c0, c1, c2, .iface 84 (.slice p es.length cap)]) (by rfl) (fun b1 => ?_)
  refine HL_assign (by rfl) (by rfl) ?_
  refine HL_nil ?_
  refine HQ_then ?_
  refine HC_seq ?_
  refine HC_region ?_
  refine HL_fieldAddr (by rfl) f95_3 (by rfl) ?_
  refine HL_load_one (by rfl) ty20 (by rfl) (by first | exact Rd.own (by repeat (first | exact Mem.here | apply Mem.there)) (by rfl) | exact RdR.rd (by assumption)) ?_
  refine HL_assert_yes (by rfl) Tryz.underlying84 (by rfl) ?_
  refine HL_move (by rfl) (by rfl) ?_
  refine HL_extract (by rfl) (by rfl) (by rfl) ?_
  refine HL_extract (by rfl) (by rfl) (by rfl) ?_
  refine HL_assign (by rfl) (by rfl) ?_
  refine HL_assign (by rfl) (by rfl) ?_
  refine HL_nil ?_
  refine HQ_then ?_
  refine HC_seq ?_
  refine HC_seq ?_
  refine HC_region ?_
  refine HL_move (by rfl) (by rfl) ?_
  refine HL_not (by rfl) (by rfl) ?_
  refine HL_nil ?_
  refine HQ_then ?_
  refine HC_cond_f (by rfl) ?_
  refine HC_skip ?_
  refine HQ_then ?_
  refine HC_seq ?_
  rcases Classical.em (es = []) with rfl | hne
  · skip
    refine HC_region ?_
    refine HL_buildSlice0 (by rfl) Tryz.underlying84 ty97 z97 (fun b13 => ?_)
    refine HL_move (by rfl) (by rfl) ?_
    refine HL_append0 (by rfl) Tryz.underlying84 ty97 (by rfl) (Nat.le_refl _) (by rfl) ?_
    have hown3 : OwnS 97 5 (.slice (some ⟨b13, 0, none⟩) 0 0) ([] : List (List Value)).length ([] : List (List Value)).flatten (blk b13 [] 97) := ⟨by simp, .inr ⟨b13, 0, [], rfl, rfl, by simp, by simp [maxLen], by simp, by simp⟩⟩
    refine HL_assign (by rfl) (by rfl) ?_
    refine HL_nil ?_
    refine HQ_then ?_
    refine HC_ret ?_
    refine HQ_sealS (by repeat (first | exact Out.here | apply Out.there)) hown3 rfl hsz (fun R₂ hle2 hsl => ?_)
    refine HQ_ret (.inl rfl) _ (fun a w ha hs => run_results_tmp (by rfl) (by rfl) a w ha) ?_
    exact fun w hs => ret_pure hs (by repeat (first | exact Tail.refl | apply Tail.cons)) hle2 hsl
  · obtain ⟨b, off, cap', he, hrd⟩ := SlR.all h hne
    injection he with he _ _
    subst he
    have hof : ones es.flatten = true := by
      unfold ones at hones ⊢
      rw [List.all_eq_true]
      intro x hx
      obtain ⟨c, hc, hxc⟩ := List.mem_flatten.1 hx
      exact List.all_eq_true.1 (hones c hc) x hxc
    have hown0 : ∀ b5, OwnS 97 5 (.slice (some ⟨b5, 0, none⟩) 0 0) 0 [] (blk b5 [] 97) := fun b5 => ⟨by simp, .inr ⟨b5, 0, [], rfl, rfl, by omega, by simp [maxLen], by simp, by simp⟩⟩
    refine HC_region ?_
    refine HL_buildSlice0 (by rfl) Tryz.underlying84 ty97 z97 (fun b13 => ?_)
    refine HL_move (by rfl) (by rfl) ?_
    refine HL_append (by rfl) Tryz.underlying84 ty97 z97 by97 (by rfl) (by rfl) (by rfl) (hown0 b13) (by repeat (first | exact Pl.here | apply Pl.there)) (by rfl) (m := es.length) hrd.rd hof (maxLen_big _ (by omega)) (by omega) ?_
    intro o' e' hown'
    have hown3 : OwnS 97 5 o' es.length es.flatten e' := by simpa using hown'
    refine HL_assign (by rfl) (by rfl) ?_
    refine HL_nil ?_
    refine HQ_then ?_
    refine HC_ret ?_
    refine HQ_sealS (by repeat (first | exact Out.here | apply Out.there)) hown3 rfl hsz (fun R₂ hle2 hsl => ?_)
    refine HQ_ret (.inl rfl) _ (fun a w ha hs => run_results_tmp (by rfl) (by rfl) a w ha) ?_
    exact fun w hs => ret_pure hs (by repeat (first | exact Tail.refl | apply Tail.cons)) hle2 hsl
theorem asl159 {R : Frag} {c0 c1 c2 : Value} {s : Value} {es : List (List Value)} (h : SlR R 1 s es) (hlen : es.length ≤ 1000000) (hsz : ∀ c ∈ es, c.length = 1) (hones : ∀ c ∈ es, ones c = true) :
    Pure Tryz.prog 159 [.agg [c0, c1, c2, .iface 186 s].toArray] R (fun R' r => SlR R' 1 r es) := by
  intro E As
  refine Tri_enter Tryz.func159 (by rfl) (by rfl) (by rfl) _ _ ?_
  refine HC_seq ?_
  refine HC_region ?_
  refine HL_box (by rfl) (by rfl) (vs := [c0, c1, c2, .iface 186 s]) (by rfl) (fun b1 => ?_)
  refine HL_assign (by rfl) (by rfl) ?_
  refine HL_nil ?_
  refine HQ_then ?_
  refine HC_seq ?_
  refine HC_region ?_
  refine HL_fieldAddr (by rfl) f95_3 (by rfl) ?_
  refine HL_load_one (by rfl) ty20 (by rfl) (by first | exact Rd.own (by repeat (first | exact Mem.here | apply Mem.there)) (by rfl) | exact RdR.rd (by assumption)) ?_
  refine HL_call (by rfl) is222 (by rfl) (asl222 h hlen hsz hones _ _) ?_
  rintro v R₂ As1 ⟨rfl, hle, hsl⟩
  refine HL_assign (by rfl) (by rfl) ?_
  refine HL_nil ?_
  refine HQ_then ?_
  refine HC_ret ?_
  refine HQ_ret (.inl rfl) _ (fun a w ha hs => run_results_tmp (by rfl) (by rfl) a w ha) ?_
  exact fun w hs => ret_pure hs (by repeat (first | exact Tail.refl | apply Tail.cons)) hle hsl
theorem asl161 {R : Frag} {c0 c1 c2 : Value} {s : Value} {es : List (List Value)} (h : SlR R 1 s es) (hlen : es.length ≤ 1000000) (hsz : ∀ c ∈ es, c.length = 1) (hones : ∀ c ∈ es, ones c = true) :
    Pure Tryz.prog 161 [.agg [c0, c1, c2, .iface 188 s].toArray] R (fun R' r => SlR R' 1 r es) := by
  intro E As
  refine Tri_enter Tryz.func161 (by rfl) (by rfl) (by rfl) _ _ ?_
  refine HC_seq ?_
  refine HC_region ?_
  refine HL_box (by rfl) (by rfl) (vs := [c0, c1, c2, .iface 188 s]) (by rfl) (fun b1 => ?_)
  refine HL_assign (by rfl) (by rfl) ?_
  refine HL_nil ?_
  refine HQ_then ?_
  refine HC_seq ?_
  refine HC_region ?_
  refine HL_fieldAddr (by rfl) f95_3 (by rfl) ?_
  refine HL_load_one (by rfl) ty20 (by rfl) (by first | exact Rd.own (by repeat (first | exact Mem.here | apply Mem.there)) (by rfl) | exact RdR.rd (by assumption)) ?_
  refine HL_call (by rfl) is224 (by rfl) (asl224 h hlen hsz hones _ _) ?_
  rintro v R₂ As1 ⟨rfl, hle, hsl⟩
  refine HL_assign (by rfl) (by rfl) ?_
  refine HL_nil ?_
  refine HQ_then ?_
  refine HC_ret ?_
  refine HQ_ret (.inl rfl) _ (fun a w ha hs => run_results_tmp (by rfl) (by rfl) a w ha) ?_
  exact fun w hs => ret_pure hs (by repeat (first | exact Tail.refl | apply Tail.cons)) hle hsl
theorem asl163 {R : Frag} {c0 c1 c2 : Value} {s : Value} {es : List (List Value)} (h : SlR R 1 s es) (hlen : es.length ≤ 1000000) (hsz : ∀ c ∈ es, c.length = 1) (hones : ∀ c ∈ es, ones c = true) :
    Pure Tryz.prog 163 [.agg [c0, c1, c2, .iface 190 s].toArray] R (fun R' r => SlR R' 1 r es) := by
  intro E As
  refine Tri_enter Tryz.func163 (by rfl) (by rfl) (by rfl) _ _ ?_
  refine HC_seq ?_
  refine HC_region ?_
  refine HL_box (by rfl) (by rfl) (vs := [c0, c1, c2, .iface 190 s]) (by rfl) (fun b1 => ?_)
  refine HL_assign (by rfl) (by rfl) ?_
  refine HL_nil ?_
  refine HQ_then ?_
  refine HC_seq ?_
  refine HC_region ?_
  refine HL_fieldAddr (by rfl) f95_3 (by rfl) ?_
  refine HL_load_one (by rfl) ty20 (by rfl) (by first | exact Rd.own (by repeat (first | exact Mem.here | apply Mem.there)) (by rfl) | exact RdR.rd (by assumption)) ?_
  refine HL_call (by rfl) is225 (by rfl) (asl225 h hlen hsz hones _ _) ?_
  rintro v R₂ As1 ⟨rfl, hle, hsl⟩
  refine HL_assign (by rfl) (by rfl) ?_
  refine HL_nil ?_
  refine HQ_then ?_
  refine HC_ret ?_
  refine HQ_ret (.inl rfl) _ (fun a w ha hs => run_results_tmp (by rfl) (by rfl) a w ha) ?_
  exact fun w hs => ret_pure hs (by repeat (first | exact Tail.refl | apply Tail.cons)) hle hsl
theorem asl166 {R : Frag} {c0 c1 c2 : Value} {s : Value} {es : List (List Value)} (h : SlR R 1 s es) (hlen : es.length ≤ 1000000) (hsz : ∀ c ∈ es, c.length = 1) (hones : ∀ c ∈ es, ones c = true) :
    Pure Tryz.prog 166 [.agg [c0, c1, c2, .iface 31 s].toArray] R (fun R' r => SlR R' 1 r es) := by
  intro E As
  refine Tri_enter Tryz.func166 (by rfl) (by rfl) (by rfl) _ _ ?_
  refine HC_seq ?_
  refine HC_region ?_
  refine HL_box (by rfl) (by rfl) (vs := [c0, c1, c2, .iface 31 s]) (by rfl) (fun b1 => ?_)
  refine HL_assign (by rfl) (by rfl) ?_
  refine HL_nil ?_
  refine HQ_then ?_
  refine HC_seq ?_
  refine HC_region ?_
  refine HL_fieldAddr (by rfl) f95_3 (by rfl) ?_
  refine HL_load_one (by rfl) ty20 (by rfl) (by first | exact Rd.own (by repeat (first | exact Mem.here | apply Mem.there)) (by rfl) | exact RdR.rd (by assumption)) ?_
  refine HL_call (by rfl) is229 (by rfl) (asl229 h hlen hsz hones _ _) ?_
  rintro v R₂ As1 ⟨rfl, hle, hsl⟩
  refine HL_assign (by rfl) (by rfl) ?_
  refine HL_nil ?_
  refine HQ_then ?_
  refine HC_ret ?_
  refine HQ_ret (.inl rfl) _ (fun a w ha hs => run_results_tmp (by rfl) (by rfl) a w ha) ?_
  exact fun w hs => ret_pure hs (by repeat (first | exact Tail.refl | apply Tail.cons)) hle hsl
theorem asl179 {R : Frag} {c1 c2 : Value} {s : Value} {es : List (List Value)} (ho : ones [c1, c2] = true) (h : SlR R 1 s es) (hlen : es.length ≤ 1000000) (hsz : ∀ c ∈ es, c.length = 1) (hones : ∀ c ∈ es, ones c = true) :
    Pure Tryz.prog 179 [.agg [.int .i64 5, c1, c2, .iface 186 s].toArray] R (fun R' r => SlR R' 1 r es) := by
  intro E As
  refine Tri_enter Tryz.func179 (by rfl) (by rfl) (by rfl) _ _ ?_
  refine HC_seq ?_
  refine HC_region ?_
  refine HL_box (by rfl) (by rfl) (vs := [.int .i64 5, c1, c2, .iface 186 s]) (by rfl) (fun b1 => ?_)
  refine HL_assign (by rfl) (by rfl) ?_
  refine HL_nil ?_
  refine HQ_then ?_
  refine HC_seq ?_
  refine HC_seq ?_
  refine HC_region ?_
  refine HL_fieldAddr (by rfl) f95_0 (by rfl) ?_
  refine HL_load_one (by rfl) ty93 (by rfl) (by first | exact Rd.own (by repeat (first | exact Mem.here | apply Mem.there)) (by rfl) | exact RdR.rd (by assumption)) ?_
  refine HL_neq_int (by rfl) (by rfl) (by rfl) ?_
  refine HL_nil ?_
  refine HQ_then ?_
  refine HC_cond_f (by rfl) ?_
  refine HC_skip ?_
  refine HQ_then ?_
  refine HC_seq ?_
  refine HC_region ?_
  refine HL_load_agg (by rfl) ty95 (by rfl) (vs := [_, _, _, _]) (by first | exact Rd.own (by repeat (first | exact Mem.here | apply Mem.there)) (by rfl) | exact RdR.rd (by assumption)) ?_
  refine HL_call (by rfl) is159 (by rfl) (asl159 h hlen hsz hones _ _) ?_
  rintro v R₂ As1 ⟨rfl, hle, hsl⟩
  refine HL_assign (by rfl) (by rfl) ?_
  refine HL_nil ?_
  refine HQ_then ?_
  refine HC_ret ?_
  refine HQ_ret (.inl rfl) _ (fun a w ha hs => run_results_tmp (by rfl) (by rfl) a w ha) ?_
  exact fun w hs => ret_pure hs (by repeat (first | exact Tail.refl | apply Tail.cons)) hle hsl
theorem asl180 {R : Frag} {c1 c2 : Value} {s : Value} {es : List (List Value)} (ho : ones [c1, c2] = true) (h : SlR R 1 s es) (hlen : es.length ≤ 1000000) (hsz : ∀ c ∈ es, c.length = 1) (hones : ∀ c ∈ es, ones c = true) :
    Pure Tryz.prog 180 [.agg [.int .i64 6, c1, c2, .iface 188 s].toArray] R (fun R' r => SlR R' 1 r es) := by
  intro E As
  refine Tri_enter Tryz.func180 (by rfl) (by rfl) (by rfl) _ _ ?_
  refine HC_seq ?_
  refine HC_region ?_
  refine HL_box (by rfl) (by rfl) (vs := [.int .i64 6, c1, c2, .iface 188 s]) (by rfl) (fun b1 => ?_)
  refine HL_assign (by rfl) (by rfl) ?_
  refine HL_nil ?_
  refine HQ_then ?_
  refine HC_seq ?_
  refine HC_seq ?_
  refine HC_region ?_
  refine HL_fieldAddr (by rfl) f95_0 (by rfl) ?_
  refine HL_load_one (by rfl) ty93 (by rfl) (by first | exact Rd.own (by repeat (first | exact Mem.here | apply Mem.there)) (by rfl) | exact RdR.rd (by assumption)) ?_
  refine HL_neq_int (by rfl) (by rfl) (by rfl) ?_
  refine HL_nil ?_
  refine HQ_then ?_
  refine HC_cond_f (by rfl) ?_
  refine HC_skip ?_
  refine HQ_then ?_
  refine HC_seq ?_
  refine HC_region ?_
  refine HL_load_agg (by rfl) ty95 (by rfl) (vs := [_, _, _, _]) (by first | exact Rd.own (by repeat (first | exact Mem.here | apply Mem.there)) (by rfl) | exact RdR.rd (by assumption)) ?_
  refine HL_call (by rfl) is161 (by rfl) (asl161 h hlen hsz hones _ _) ?_
  rintro v R₂ As1 ⟨rfl, hle, hsl⟩
  refine HL_assign (by rfl) (by rfl) ?_
  refine HL_nil ?_
  refine HQ_then ?_
  refine HC_ret ?_
  refine HQ_ret (.inl rfl) _ (fun a w ha hs => run_results_tmp (by rfl) (by rfl) a w ha) ?_
  exact fun w hs => ret_pure hs (by repeat (first | exact Tail.refl | apply Tail.cons)) hle hsl
theorem asl181 {R : Frag} {c1 c2 : Value} {s : Value} {es : List (List Value)} (ho : ones [c1, c2] = true) (h : SlR R 1 s es) (hlen : es.length ≤ 1000000) (hsz : ∀ c ∈ es, c.length = 1) (hones : ∀ c ∈ es, ones c = true) :
    Pure Tryz.prog 181 [.agg [.int .i64 7, c1, c2, .iface 190 s].toArray] R (fun R' r => SlR R' 1 r es) := by
  intro E As
  refine Tri_enter Tryz.func181 (by rfl) (by rfl) (by rfl) _ _ ?_
  refine HC_seq ?_
  refine HC_region ?_
  refine HL_box (by rfl) (by rfl) (vs := [.int .i64 7, c1, c2, .iface 190 s]) (by rfl) (fun b1 => ?_)
  refine HL_assign (by rfl) (by rfl) ?_
  refine HL_nil ?_
  refine HQ_then ?_
  refine HC_seq ?_
  refine HC_seq ?_
  refine HC_region ?_
  refine HL_fieldAddr (by rfl) f95_0 (by rfl) ?_
  refine HL_load_one (by rfl) ty93 (by rfl) (by first | exact Rd.own (by repeat (first | exact Mem.here | apply Mem.there)) (by rfl) | exact RdR.rd (by assumption)) ?_
  refine HL_neq_int (by rfl) (by rfl) (by rfl) ?_
  refine HL_nil ?_
  refine HQ_then ?_
  refine HC_cond_f (by rfl) ?_
  refine HC_skip ?_
  refine HQ_then ?_
  refine HC_seq ?_
  refine HC_region ?_
  refine HL_load_agg (by rfl) ty95 (by rfl) (vs := [_, _, _, _]) (by first | exact Rd.own (by repeat (first | exact Mem.here | apply Mem.there)) (by rfl) | exact RdR.rd (by assumption)) ?_
  refine HL_call (by rfl) is163 (by rfl) (asl163 h hlen hsz hones _ _) ?_
  rintro v R₂ As1 ⟨rfl, hle, hsl⟩
  refine HL_assign (by rfl) (by rfl) ?_
  refine HL_nil ?_
  refine HQ_then ?_
  refine HC_ret ?_
  refine HQ_ret (.inl rfl) _ (fun a w ha hs => run_results_tmp (by rfl) (by rfl) a w ha) ?_
  exact fun w hs => ret_pure hs (by repeat (first | exact Tail.refl | apply Tail.cons)) hle hsl
theorem asl182 {R : Frag} {c1 c2 : Value} {s : Value} {es : List (List Value)} (ho : ones [c1, c2] = true) (h : SlR R 1 s es) (hlen : es.length ≤ 1000000) (hsz : ∀ c ∈ es, c.length = 1) (hones : ∀ c ∈ es, ones c = true) :
    Pure Tryz.prog 182 [.agg [.int .i64 8, c1, c2, .iface 31 s].toArray] R (fun R' r => SlR R' 1 r es) := by
  intro E As
  refine Tri_enter Tryz.func182 (by rfl) (by rfl) (by rfl) _ _ ?_
  refine HC_seq ?_
  refine HC_region ?_
  refine HL_box (by rfl) (by rfl) (vs := [.int .i64 8, c1, c2, .iface 31 s]) (by rfl) (fun b1 => ?_)
  refine HL_assign (by rfl) (by rfl) ?_
  refine HL_nil ?_
  refine HQ_then ?_
  refine HC_seq ?_
  refine HC_seq ?_
  refine HC_region ?_
  refine HL_fieldAddr (by rfl) f95_0 (by rfl) ?_
  refine HL_load_one (by rfl) ty93 (by rfl) (by first | exact Rd.own (by repeat (first | exact Mem.here | apply Mem.there)) (by rfl) | exact RdR.rd (by assumption)) ?_
  refine HL_neq_int (by rfl) (by rfl) (by rfl) ?_
  refine HL_nil ?_
  refine HQ_then ?_
  refine HC_cond_f (by rfl) ?_
  refine HC_skip ?_
  refine HQ_then ?_
  refine HC_seq ?_
  refine HC_region ?_
  refine HL_load_agg (by rfl) ty95 (by rfl) (vs := [_, _, _, _]) (by first | exact Rd.own (by repeat (first | exact Mem.here | apply Mem.there)) (by rfl) | exact RdR.rd (by assumption)) ?_
  refine HL_call (by rfl) is166 (by rfl) (asl166 h hlen hsz hones _ _) ?_
  rintro v R₂ As1 ⟨rfl, hle, hsl⟩
  refine HL_assign (by rfl) (by rfl) ?_
  refine HL_nil ?_
  refine HQ_then ?_
  refine HC_ret ?_
  refine HQ_ret (.inl rfl) _ (fun a w ha hs => run_results_tmp (by rfl) (by rfl) a w ha) ?_
  exact fun w hs => ret_pure hs (by repeat (first | exact Tail.refl | apply Tail.cons)) hle hsl
theorem asl184 {R : Frag} {c1 c2 : Value} {s : Value} {es : List (List Value)} (ho : ones [c1, c2] = true) (h : SlR R 4 s es) (hlen : es.length ≤ 1000000) (hsz : ∀ c ∈ es, c.length = 4) (hones : ∀ c ∈ es, ones c = true) :
    Pure Tryz.prog 184 [.agg [.int .i64 10, c1, c2, .iface 194 s].toArray] R (fun R' r => SlR R' 4 r es) := by
  intro E As
  refine Tri_enter Tryz.func184 (by rfl) (by rfl) (by rfl) _ _ ?_
  refine HC_seq ?_
  refine HC_region ?_
  refine HL_box (by rfl) (by rfl) (vs := [.int .i64 10, c1, c2, .iface 194 s]) (by rfl) (fun b1 => ?_)
  refine HL_assign (by rfl) (by rfl) ?_
  refine HL_nil ?_
  refine HQ_then ?_
  refine HC_seq ?_
  refine HC_seq ?_
  refine HC_region ?_
  refine HL_fieldAddr (by rfl) f95_0 (by rfl) ?_
  refine HL_load_one (by rfl) ty93 (by rfl) (by first | exact Rd.own (by repeat (first | exact Mem.here | apply Mem.there)) (by rfl) | exact RdR.rd (by assumption)) ?_
  refine HL_neq_int (by rfl) (by rfl) (by rfl) ?_
  refine HL_nil ?_
  refine HQ_then ?_
  refine HC_cond_f (by rfl) ?_
  refine HC_skip ?_
  refine HQ_then ?_
  refine HC_seq ?_
  refine HC_region ?_
  refine HL_load_agg (by rfl) ty95 (by rfl) (vs := [_, _, _, _]) (by first | exact Rd.own (by repeat (first | exact Mem.here | apply Mem.there)) (by rfl) | exact RdR.rd (by assumption)) ?_
  refine HL_call (by rfl) is236 (by rfl) (asl236 h hlen hsz hones _ _) ?_
  rintro v R₂ As1 ⟨rfl, hle, hsl⟩
  refine HL_assign (by rfl) (by rfl) ?_
  refine HL_nil ?_
  refine HQ_then ?_
  refine HC_ret ?_
  refine HQ_ret (.inl rfl) _ (fun a w ha hs => run_results_tmp (by rfl) (by rfl) a w ha) ?_
  exact fun w hs => ret_pure hs (by repeat (first | exact Tail.refl | apply Tail.cons)) hle hsl
theorem asl185 {R : Frag} {c1 c2 : Value} {s : Value} {es : List (List Value)} (ho : ones [c1, c2] = true) (h : SlR R 5 s es) (hlen : es.length ≤ 1000000) (hsz : ∀ c ∈ es, c.length = 5) (hones : ∀ c ∈ es, ones c = true) :
    Pure Tryz.prog 185 [.agg [.int .i64 11, c1, c2, .iface 84 s].toArray] R (fun R' r => SlR R' 5 r es) := by
  intro E As
  refine Tri_enter Tryz.func185 (by rfl) (by rfl) (by rfl) _ _ ?_
  refine HC_seq ?_
  refine HC_region ?_
  refine HL_box (by rfl) (by rfl) (vs := [.int .i64 11, c1, c2, .iface 84 s]) (by rfl) (fun b1 => ?_)
  refine HL_assign (by rfl) (by rfl) ?_
  refine HL_nil ?_
  refine HQ_then ?_
  refine HC_seq ?_
  refine HC_seq ?_
  refine HC_region ?_
  refine HL_fieldAddr (by rfl) f95_0 (by rfl) ?_
  refine HL_load_one (by rfl) ty93 (by rfl) (by first | exact Rd.own (by repeat (first | exact Mem.here | apply Mem.there)) (by rfl) | exact RdR.rd (by assumption)) ?_
  refine HL_neq_int (by rfl) (by rfl) (by rfl) ?_
  refine HL_nil ?_
  refine HQ_then ?_
  refine HC_cond_f (by rfl) ?_
  refine HC_skip ?_
  refine HQ_then ?_
  refine HC_seq ?_
  refine HC_region ?_
  refine HL_load_agg (by rfl) ty95 (by rfl) (vs := [_, _, _, _]) (by first | exact Rd.own (by repeat (first | exact Mem.here | apply Mem.there)) (by rfl) | exact RdR.rd (by assumption)) ?_
  refine HL_call (by rfl) is237 (by rfl) (asl237 h hlen hsz hones _ _) ?_
  rintro v R₂ As1 ⟨rfl, hle, hsl⟩
  refine HL_assign (by rfl) (by rfl) ?_
  refine HL_nil ?_
  refine HQ_then ?_
  refine HC_ret ?_
  refine HQ_ret (.inl rfl) _ (fun a w ha hs => run_results_tmp (by rfl) (by rfl) a w ha) ?_
  exact fun w hs => ret_pure hs (by repeat (first | exact Tail.refl | apply Tail.cons)) hle hsl
theorem asType (R : Frag) (k : Int) (c1 c2 c3 : Value) : Pure Tryz.prog 147 [.agg #[.int .i64 k, c1, c2, c3]] R (fun _ r => r = .int .i64 k) := by
  intro E As
  refine Tri_enter Tryz.func147 (by rfl) (by rfl) (by rfl) _ _ ?_
  refine HC_seq ?_
  refine HC_region ?_
  refine HL_box (by rfl) (by rfl) (vs := [_, _, _, _]) (by rfl) (fun b1 => ?_)
  refine HL_assign (by rfl) (by rfl) ?_
  refine HL_nil ?_
  refine HQ_then ?_
  refine HC_seq ?_
  refine HC_region ?_
  refine HL_fieldAddr (by rfl) f95_0 (by rfl) ?_
  refine HL_load_one (by rfl) ty93 (by rfl) (by first | exact Rd.own (by repeat (first | exact Mem.here | apply Mem.there)) (by rfl) | exact RdR.rd (by assumption)) ?_
  refine HL_assign (by rfl) (by rfl) ?_
  refine HL_nil ?_
  refine HQ_then ?_
  refine HC_ret ?_
  refine HQ_ret (.inl rfl) _ (fun a w ha hs => run_results_tmp (by rfl) (by rfl) a w ha) ?_
  exact fun w hs => ret_pure hs (by repeat (first | exact Tail.refl | apply Tail.cons)) (Frag.le_refl _) rfl
theorem rawToBool (R : Frag) (n : Int) : Pure Tryz.prog 212 [.int .u64 n] R (fun _ r => r = .bool (n != 0)) := by
  intro E As
  refine Tri_enter Tryz.func212 (by rfl) (by rfl) (by rfl) _ _ ?_
  refine HC_seq ?_
  refine HC_region ?_
  refine HL_assign (by rfl) (by rfl) ?_
  refine HL_nil ?_
  refine HQ_then ?_
  refine HC_seq ?_
  refine HC_region ?_
  refine HL_move (by rfl) (by rfl) ?_
  refine HL_neq_int (by rfl) (by rfl) (by rfl) ?_
  refine HL_assign (by rfl) (by rfl) ?_
  refine HL_nil ?_
  refine HQ_then ?_
  refine HC_ret ?_
  refine HQ_ret (.inl rfl) _ (fun a w ha hs => run_results_tmp (by rfl) (by rfl) a w ha) ?_
  exact fun w hs => ret_pure hs .refl (Frag.le_refl _) rfl
theorem rawToInt64 (R : Frag) (n : Int) : Pure Tryz.prog 214 [.int .u64 n] R (fun _ r => r = .int .i64 (IntKind.i64.wrap n)) := by
  intro E As
  refine Tri_enter Tryz.func214 (by rfl) (by rfl) (by rfl) _ _ ?_
  refine HC_seq ?_
  refine HC_region ?_
  refine HL_assign (by rfl) (by rfl) ?_
  refine HL_nil ?_
  refine HQ_then ?_
  refine HC_seq ?_
  refine HC_region ?_
  refine HL_move (by rfl) (by rfl) ?_
  refine HL_conv (by rfl) ⟨_, Tryz.underlying48⟩ Tryz.underlying2 (by rfl) rfl ?_
  refine HL_assign (by rfl) (by rfl) ?_
  refine HL_nil ?_
  refine HQ_then ?_
  refine HC_ret ?_
  refine HQ_ret (.inl rfl) _ (fun a w ha hs => run_results_tmp (by rfl) (by rfl) a w ha) ?_
  exact fun w hs => ret_pure hs .refl (Frag.le_refl _) rfl
theorem rawToFloat64 (R : Frag) (n : Int) : Pure Tryz.prog 217 [.int .u64 n] R (fun _ r => r = .float .f64 n.toNat) := by
  intro E As
  refine Tri_enter Tryz.func217 (by rfl) (by rfl) (by rfl) _ _ ?_
  refine HC_seq ?_
  refine HC_region ?_
  refine HL_assign (by rfl) (by rfl) ?_
  refine HL_nil ?_
  refine HQ_then ?_
  refine HC_seq ?_
  refine HC_region ?_
  refine HL_move (by rfl) (by rfl) ?_
  refine HL_extern (vs := [.int .u64 n]) (by rfl) (by rfl) (fun w => run97 n w) ?_
  refine HL_assign (by rfl) (by rfl) ?_
  refine HL_nil ?_
  refine HQ_then ?_
  refine HC_ret ?_
  refine HQ_ret (.inl rfl) _ (fun a w ha hs => run_results_tmp (by rfl) (by rfl) a w ha) ?_
  exact fun w hs => ret_pure hs .refl (Frag.le_refl _) rfl
theorem asBool (R : Frag) (n : Int) (c0 c2 c3 : Value) : Pure Tryz.prog 148 [.agg #[c0, .int .u64 n, c2, c3]] R (fun _ r => r = .bool (n != 0)) := by
  intro E As
  refine Tri_enter Tryz.func148 (by rfl) (by rfl) (by rfl) _ _ ?_
  refine HC_seq ?_
  refine HC_region ?_
  refine HL_box (by rfl) (by rfl) (vs := [_, _, _, _]) (by rfl) (fun b1 => ?_)
  refine HL_assign (by rfl) (by rfl) ?_
  refine HL_nil ?_
  refine HQ_then ?_
  refine HC_seq ?_
  refine HC_region ?_
  refine HL_fieldAddr (by rfl) f95_1 (by rfl) ?_
  refine HL_load_one (by rfl) ty48 (by rfl) (by first | exact Rd.own (by repeat (first | exact Mem.here | apply Mem.there)) (by rfl) | exact RdR.rd (by assumption)) ?_
  refine HL_call (by rfl) is212 (by rfl) (rawToBool R n _ _) ?_
  rintro v R₂ As1 ⟨rfl, hle, rfl⟩
  refine HL_assign (by rfl) (by rfl) ?_
  refine HL_nil ?_
  refine HQ_then ?_
  refine HC_ret ?_
  refine HQ_ret (.inl rfl) _ (fun a w ha hs => run_results_tmp (by rfl) (by rfl) a w ha) ?_
  exact fun w hs => ret_pure hs (by repeat (first | exact Tail.refl | apply Tail.cons)) hle rfl
theorem asInt64 (R : Frag) (n : Int) (c0 c2 c3 : Value) : Pure Tryz.prog 150 [.agg #[c0, .int .u64 n, c2, c3]] R (fun _ r => r = .int .i64 (IntKind.i64.wrap n)) := by
  intro E As
  refine Tri_enter Tryz.func150 (by rfl) (by rfl) (by rfl) _ _ ?_
  refine HC_seq ?_
  refine HC_region ?_
  refine HL_box (by rfl) (by rfl) (vs := [_, _, _, _]) (by rfl) (fun b1 => ?_)
  refine HL_assign (by rfl) (by rfl) ?_
  refine HL_nil ?_
  refine HQ_then ?_
  refine HC_seq ?_
  refine HC_region ?_
  refine HL_fieldAddr (by rfl) f95_1 (by rfl) ?_
  refine HL_load_one (by rfl) ty48 (by rfl) (by first | exact Rd.own (by repeat (first | exact Mem.here | apply Mem.there)) (by rfl) | exact RdR.rd (by assumption)) ?_
  refine HL_call (by rfl) is214 (by rfl) (rawToInt64 R n _ _) ?_
  rintro v R₂ As1 ⟨rfl, hle, rfl⟩
  refine HL_assign (by rfl) (by rfl) ?_
  refine HL_nil ?_
  refine HQ_then ?_
  refine HC_ret ?_
  refine HQ_ret (.inl rfl) _ (fun a w ha hs => run_results_tmp (by rfl) (by rfl) a w ha) ?_
  exact fun w hs => ret_pure hs (by repeat (first | exact Tail.refl | apply Tail.cons)) hle rfl
theorem asFloat64 (R : Frag) (n : Int) (c0 c2 c3 : Value) : Pure Tryz.prog 153 [.agg #[c0, .int .u64 n, c2, c3]] R (fun _ r => r = .float .f64 n.toNat) := by
  intro E As
  refine Tri_enter Tryz.func153 (by rfl) (by rfl) (by rfl) _ _ ?_
  refine HC_seq ?_
  refine HC_region ?_
  refine HL_box (by rfl) (by rfl) (vs := [_, _, _, _]) (by rfl) (fun b1 => ?_)
  refine HL_assign (by rfl) (by rfl) ?_
  refine HL_nil ?_
  refine HQ_then ?_
  refine HC_seq ?_
  refine HC_region ?_
  refine HL_fieldAddr (by rfl) f95_1 (by rfl) ?_
  refine HL_load_one (by rfl) ty48 (by rfl) (by first | exact Rd.own (by repeat (first | exact Mem.here | apply Mem.there)) (by rfl) | exact RdR.rd (by assumption)) ?_
  refine HL_call (by rfl) is217 (by rfl) (rawToFloat64 R n _ _) ?_
  rintro v R₂ As1 ⟨rfl, hle, rfl⟩
  refine HL_assign (by rfl) (by rfl) ?_
  refine HL_nil ?_
  refine HQ_then ?_
  refine HC_ret ?_
  refine HQ_ret (.inl rfl) _ (fun a w ha hs => run_results_tmp (by rfl) (by rfl) a w ha) ?_
  exact fun w hs => ret_pure hs (by repeat (first | exact Tail.refl | apply Tail.cons)) hle rfl
theorem asString (R : Frag) (s : ByteArray) (c0 c1 c3 : Value) : Pure Tryz.prog 178 [.agg #[c0, c1, .string s, c3]] R (fun _ r => r = .string s) := by
  intro E As
  refine Tri_enter Tryz.func178 (by rfl) (by rfl) (by rfl) _ _ ?_
  refine HC_seq ?_
  refine HC_region ?_
  refine HL_box (by rfl) (by rfl) (vs := [_, _, _, _]) (by rfl) (fun b1 => ?_)
  refine HL_assign (by rfl) (by rfl) ?_
  refine HL_nil ?_
  refine HQ_then ?_
  refine HC_seq ?_
  refine HC_region ?_
  refine HL_fieldAddr (by rfl) f95_2 (by rfl) ?_
  refine HL_load_one (by rfl) ty9 (by rfl) (by first | exact Rd.own (by repeat (first | exact Mem.here | apply Mem.there)) (by rfl) | exact RdR.rd (by assumption)) ?_
  refine HL_assign (by rfl) (by rfl) ?_
  refine HL_nil ?_
  refine HQ_then ?_
  refine HC_ret ?_
  refine HQ_ret (.inl rfl) _ (fun a w ha hs => run_results_tmp (by rfl) (by rfl) a w ha) ?_
  exact fun w hs => ret_pure hs (by repeat (first | exact Tail.refl | apply Tail.cons)) (Frag.le_refl _) rfl
theorem bit (R : Frag) (b : Bool) : Pure Tryz.prog 176 [.bool b] R (fun _ r => r = .int .u64 (bif b then 1 else 0)) := by
  intro E As
  refine Tri_enter Tryz.func176 (by rfl) (by rfl) (by rfl) _ _ ?_
  refine HC_seq ?_
  refine HC_region ?_
  refine HL_assign (by rfl) (by rfl) ?_
  refine HL_nil ?_
  refine HQ_then ?_
  refine HC_seq ?_
  refine HC_seq ?_
  refine HC_region ?_
  refine HL_move (by rfl) (by rfl) ?_
  refine HL_nil ?_
  refine HQ_then ?_
  refine HC_cond (by rfl) (fun ht3 => ?_) (fun ht3 => ?_)
  · subst ht3
    refine HC_seq ?_
    refine HC_region ?_
    refine HL_assign (by rfl) (by rfl) ?_
    refine HL_nil ?_
    refine HQ_then ?_
    refine HC_ret ?_
    refine HQ_then_ret ?_
    refine HQ_ret (.inl rfl) _ (fun a w ha hs => run_results_tmp (by rfl) (by rfl) a w ha) ?_
    exact fun w hs => ret_pure hs .refl (Frag.le_refl _) rfl
  · subst ht3
    refine HC_skip ?_
    refine HQ_then ?_
    refine HC_seq ?_
    refine HC_region ?_
    refine HL_assign (by rfl) (by rfl) ?_
    refine HL_nil ?_
    refine HQ_then ?_
    refine HC_ret ?_
    refine HQ_ret (.inl rfl) _ (fun a w ha hs => run_results_tmp (by rfl) (by rfl) a w ha) ?_
    exact fun w hs => ret_pure hs .refl (Frag.le_refl _) rfl
theorem asByteSlice0 (R : Frag) (s : ByteArray) (c0 c1 c3 : Value) : Pure Tryz.prog 235 [.agg #[c0, c1, .string s, c3]] R (fun R' r => ∃ b cap, r = .slice (some ⟨b, 0, none⟩) s.size cap ∧ RdR R' b 0 s.size (bcells (kb s))) := by
  intro E As
  refine Tri_enter Tryz.func235 (by rfl) (by rfl) (by rfl) _ _ ?_
  refine HC_seq ?_
  refine HC_region ?_
  refine HL_box (by rfl) (by rfl) (vs := [_, _, _, _]) (by rfl) (fun b1 => ?_)
  refine HL_assign (by rfl) (by rfl) ?_
  refine HL_nil ?_
  refine HQ_then ?_
  refine HC_seq ?_
  refine HC_region ?_
  refine HL_fieldAddr (by rfl) f95_2 (by rfl) ?_
  refine HL_load_one (by rfl) ty9 (by rfl) (by first | exact Rd.own (by repeat (first | exact Mem.here | apply Mem.there)) (by rfl) | exact RdR.rd (by assumption)) ?_
  refine HL_strBytes (by rfl) Tryz.underlying9 Tryz.underlying55 Tryz.underlying5 (by rfl) (fun b5 cap R₂ hle2 hrdb => ?_)
  refine HL_assign (by rfl) (by rfl) ?_
  refine HL_nil ?_
  refine HQ_then ?_
  refine HC_ret ?_
  refine HQ_ret (.inl rfl) _ (fun a w ha hs => run_results_tmp (by rfl) (by rfl) a w ha) ?_
  exact fun w hs => ret_pure hs (by repeat (first | exact Tail.refl | apply Tail.cons)) hle2 ⟨_, _, rfl, hrdb⟩
theorem asByteSlice (R : Frag) (s : ByteArray) (c1 c3 : Value) : Pure Tryz.prog 183 [.agg #[.int .i64 9, c1, .string s, c3]] R (fun R' r => ∃ b cap, r = .slice (some ⟨b, 0, none⟩) s.size cap ∧ RdR R' b 0 s.size (bcells (kb s))) := by
  intro E As
  refine Tri_enter Tryz.func183 (by rfl) (by rfl) (by rfl) _ _ ?_
  refine HC_seq ?_
  refine HC_region ?_
  refine HL_box (by rfl) (by rfl) (vs := [_, _, _, _]) (by rfl) (fun b1 => ?_)
  refine HL_assign (by rfl) (by rfl) ?_
  refine HL_nil ?_
  refine HQ_then ?_
  refine HC_seq ?_
  refine HC_seq ?_
  refine HC_region ?_
  refine HL_fieldAddr (by rfl) f95_0 (by rfl) ?_
  refine HL_load_one (by rfl) ty93 (by rfl) (by first | exact Rd.own (by repeat (first | exact Mem.here | apply Mem.there)) (by rfl) | exact RdR.rd (by assumption)) ?_
  refine HL_neq_int (by rfl) (by rfl) (by rfl) ?_
  refine HL_nil ?_
  refine HQ_then ?_
  refine HC_cond_f (by rfl) ?_
  refine HC_skip ?_
  refine HQ_then ?_
  refine HC_seq ?_
  refine HC_region ?_
  refine HL_load_agg (by rfl) ty95 (by rfl) (vs := [_, _, _, _]) (by first | exact Rd.own (by repeat (first | exact Mem.here | apply Mem.there)) (by rfl) | exact RdR.rd (by assumption)) ?_
  refine HL_call (by rfl) is235 (by rfl) (asByteSlice0 R s _ _ _ _ _) ?_
  rintro v R₂ As1 ⟨rfl, hle, b, cap, rfl, hrdb⟩
  refine HL_assign (by rfl) (by rfl) ?_
  refine HL_nil ?_
  refine HQ_then ?_
  refine HC_ret ?_
  refine HQ_ret (.inl rfl) _ (fun a w ha hs => run_results_tmp (by rfl) (by rfl) a w ha) ?_
  exact fun w hs => ret_pure hs (by repeat (first | exact Tail.refl | apply Tail.cons)) hle ⟨_, _, rfl, hrdb⟩
end Go.Sx

/-! The thin package tells values. Printed by a program of ours (wip/tools/gM14.py) out of the steps of the code. -/
namespace Go.Sx
open Go Go.Proofs Go.RowKit

theorem RepA.parts {R : Frag} {k n : Int} {t : ByteArray} {nums : List Int} {texts : List ByteArray} {kids : List V} {pairs : List Pr} {cs : List Value} (h : RepA R (.mk k n t nums texts kids pairs) cs) :
    ∃ f, cs = [.int .i64 k, .int .u64 n, .string t, f] ∧ ones [f] = true ∧ (k = 5 → ∃ s, f = .iface 186 s ∧ SlR R 1 s (bolCells nums)) ∧ (k = 6 → ∃ s, f = .iface 188 s ∧ SlR R 1 s (i64Cells nums)) ∧ (k = 7 → ∃ s, f = .iface 190 s ∧ SlR R 1 s (fltCells nums)) ∧
      (k = 8 → ∃ s, f = .iface 31 s ∧ SlR R 1 s (txtCells texts)) ∧ (k = 10 → ∃ s es, f = .iface 194 s ∧ SlR R 4 s es ∧ es.length = kids.length ∧ (∀ (i : Nat) e v, es[i]? = some e → kids[i]? = some v → RepA R v e)) ∧
      (k = 11 → ∃ s Z, f = .iface 84 s ∧ RepQ R s Z ∧ Z.map (·.1) = pairs) ∧ (k ≤ 4 ∨ k = 9 → f = .nilIface) := by
  cases h with
  | one h => exact ⟨_, rfl, rfl, by omega, by omega, by omega, by omega, by omega, by omega, fun _ => rfl⟩
  | bools h => exact ⟨_, rfl, rfl, fun _ => ⟨_, rfl, h⟩, by omega, by omega, by omega, by omega, by omega, by omega⟩
  | ints h => exact ⟨_, rfl, rfl, by omega, fun _ => ⟨_, rfl, h⟩, by omega, by omega, by omega, by omega, by omega⟩
  | floats h => exact ⟨_, rfl, rfl, by omega, by omega, fun _ => ⟨_, rfl, h⟩, by omega, by omega, by omega, by omega⟩
  | texts h => exact ⟨_, rfl, rfl, by omega, by omega, by omega, fun _ => ⟨_, rfl, h⟩, by omega, by omega, by omega⟩
  | list h1 h2 h3 => exact ⟨_, rfl, rfl, by omega, by omega, by omega, by omega, fun _ => ⟨_, _, rfl, h1, h2, h3⟩, by omega, by omega⟩
  | @map pairs s es h1 h2 h3 =>
    refine ⟨_, rfl, rfl, by omega, by omega, by omega, by omega, by omega, fun _ => ?_, by omega⟩
    obtain ⟨Z, rfl, rfl⟩ := zip_of h2
    refine ⟨_, Z, rfl, ⟨by rw [← prCells_zip]; exact h1, fun z hz => ?_⟩, rfl⟩
    obtain ⟨i, hi, rfl⟩ := List.getElem_of_mem hz
    exact h3 i Z[i].2 Z[i].1 (by simp [hi]) (by simp [hi])
/-- What valueOf does with a value. -/
def ToldC (v : V) : Prop := ∀ R cs, RepA R v cs → ∀ R', Frag.le R R' → Pure Tryz.prog 106 [.agg cs.toArray] R' (fun R'' r => ∃ cs', r = .agg cs'.toArray ∧ RepV R'' v cs')
theorem RepL.nil0 (R : Frag) : RepL R (.slice none 0 0) [] := ⟨[], SlR.nil R 7 none 0, rfl, by simp⟩
theorem RepP.nil0 (R : Frag) : RepP R (.slice none 0 0) [] := ⟨[], SlR.nil R 8 none 0, rfl, by simp⟩
theorem num0 (R : Frag) : SlR R 1 (.slice none 0 0) (numCells []) := SlR.nil R 1 none 0
theorem txt0 (R : Frag) : SlR R 1 (.slice none 0 0) (txtCells []) := SlR.nil R 1 none 0
theorem kb_back (t : ByteArray) : (⟨(kb t).toArray⟩ : ByteArray) = t := by
  cases t with | mk d => simp [kb]
theorem pairOf_of {R : Frag} {z : Pr × List Value} (hz : RepA R z.1.2 z.2) (hp : ToldC z.1.2) : Pure Tryz.prog 55 [.agg (zc z).toArray] R (fun R' r => ∃ cs, r = .agg (.string z.1.1 :: cs).toArray ∧ RepV R' z.1.2 cs) := by
  obtain ⟨p, e⟩ := z
  obtain ⟨c0, c1, c2, c3, he, hoc⟩ := hz.four
  simp only at he hz hp
  subst he
  intro E As
  refine Tri_enter Tryz.func55 (by rfl) (by rfl) (by rfl) _ _ ?_
  refine HC_seq ?_
  refine HC_region ?_
  refine HL_box (by rfl) (by rfl) (vs := [.string p.1, c0, c1, c2, c3]) (by rfl) (fun b1 => ?_)
  refine HL_alloc (by rfl) z67 (by rfl) (fun b2 => ?_)
  refine HL_nil ?_
  refine HQ_then ?_
  refine HC_seq ?_
  refine HC_drawH 5 3 (fun jj R v => match jj with | 0 => v = .pointer (some ⟨b1, 0, none⟩) | 1 => v = .string p.1 | 2 => v = .pointer (some ⟨b1, 1, none⟩) | 3 => v = .agg [c0, c1, c2, c3].toArray | 4 => ∃ cs, v = .agg cs.toArray ∧ RepV R p.2 cs | _ => True) [(0, []), (1, [(0, 3)]), (2, []), (3, [(2, 5)]), (4, [(3, 6)])] [(0, 3), (1, 4), (2, 5), (3, 6), (4, 7)] (by kernel_rfl) (by kernel_rfl) (by kernel_rfl) (by rfl) (by decide) (by rfl) (by kernel_rfl) (by kernel_rfl) (by kernel_rfl) (by kernel_rfl) (by intro c d v a w h; cases d <;> exact h) ?_ ?_ ?_
  · intro j R R' v hle h; match j, h with | 0, h => exact h | 1, h => exact h | 2, h => exact h | 3, h => exact h | 4, ⟨cs, e, hr⟩ => exact ⟨cs, e, hr.mono hle⟩ | _ + 5, h => exact h
  · refine ⟨?_, ?_, ?_, ?_, ?_, trivial⟩
    · intro R1 G hle
      refine HL_fieldAddr (by rfl) f97_0 (by rfl) ?_
      refine HL_nil ?_
      exact HQ_dq1 (Frag.le_refl _) rfl .refl
    · intro R1 G hle; rintro _ rfl
      refine HL_load_one (by rfl) ty92 (by rfl) (by first | exact Rd.own (by repeat (first | exact Mem.here | apply Mem.there)) (by rfl) | exact RdR.rd (by assumption)) ?_
      refine HL_nil ?_
      exact HQ_dq1 (Frag.le_refl _) rfl .refl
    · intro R1 G hle
      refine HL_fieldAddr (by rfl) f97_1 (by rfl) ?_
      refine HL_nil ?_
      exact HQ_dq1 (Frag.le_refl _) rfl .refl
    · intro R1 G hle; rintro _ rfl
      refine HL_load_agg (by rfl) ty95 (by rfl) (vs := [_, _, _, _]) (by first | exact Rd.own (by repeat (first | exact Mem.here | apply Mem.there)) (by rfl) | exact RdR.rd (by assumption)) ?_
      refine HL_nil ?_
      exact HQ_dq1 (Frag.le_refl _) rfl .refl
    · intro R1 G hle; rintro _ rfl
      refine HL_call (by rfl) is106 (by rfl) (hp _ _ hz R1 hle _ _) ?_
      rintro v R' As' ⟨rfl, hle', cs, rfl, hr⟩
      refine HL_nil ?_
      exact HQ_dq1 hle' ⟨cs, rfl, hr⟩ .refl
  · intro R1 hle; rintro _ rfl _ rfl _ rfl _ rfl _ ⟨cs5, rfl, hr5⟩
    obtain ⟨d0, d1, d2, d3, d4, d5, d6, rfl, hod⟩ := hr5.seven
    refine HL_build (by rfl) z67 pl67 (by rfl) (qs := [[_], [_, _, _, _, _, _, _]]) (by rfl) (cs := [_, _, _, _, _, _, _, _]) (by rfl) ?_
    refine HL_store (vs := [_, _, _, _, _, _, _, _]) ty67 (by rfl) (by rfl) (by rfl) hod (by repeat (first | exact Sel.here | apply Sel.there)) (by rfl) ?_
    refine HL_nil ?_
    refine HQ_then ?_
    refine HC_ret ?_
    refine HQ_ret_cell (.inl rfl) (by rfl) (by rfl) ty67 (vs := [_, _, _, _, _, _, _, _]) (by first | exact Rd.own (by repeat (first | exact Mem.here | apply Mem.there)) (by rfl) | exact RdR.rd (by assumption)) ?_
    exact fun w hs => ret_pure hs (by repeat (first | exact Tail.refl | apply Tail.cons)) hle ⟨_, rfl, hr5⟩
/-- pairsOf. -/
theorem pairsOf_of {R : Frag} {v : Value} {Z : List (Pr × List Value)} (h : RepQ R v Z) (hlen : Z.length ≤ 1000) (hp : ∀ z ∈ Z, ToldC z.1.2) : Pure Tryz.prog 63 [v] R (fun R' r => RepP R' r (Z.map (·.1))) := by
  obtain ⟨hsl, hZ⟩ := h
  obtain ⟨p, cap, rfl, hp0⟩ := id hsl
  simp only [List.length_map] at hsl ⊢
  intro E As
  refine Tri_enter Tryz.func63 (by rfl) (by rfl) (by rfl) _ _ ?_
  refine HC_seq ?_
  refine HC_region ?_
  refine HL_assign (by rfl) (by rfl) ?_
  refine HL_nil ?_
  refine HQ_then ?_
  refine HC_seq ?_
  refine HC_region ?_
  refine HL_assign (by rfl) (by rfl) ?_
  refine HL_nil ?_
  refine HQ_then ?_
  refine HC_seq ?_
  refine HC_seq ?_
  refine HC_region ?_
  refine HL_move (by rfl) (by rfl) ?_
  refine HL_len_slice (by rfl) Tryz.underlying84 (by rfl) ?_
  refine HL_move (by rfl) (by rfl) ?_
  refine HL_nil ?_
  refine HQ_then ?_
  refine HC_emp ?_
  refine HC_block ?_
  refine HC_loop (fun F' R' As' m => ∃ (i : Nat) (o : Value) (e : Ent) (Y : List (Pr × List Value)), i ≤ Z.length ∧ Z.length - i = m ∧ F' = [(6, .slice p Z.length cap), (7, .int .i64 (Z.length : Int)), (8, .int .i64 ((i : Int))), (3, o)] ∧ As' = e :: As ∧ Y.length = i ∧ Y.map (·.1) = (Z.map (·.1)).take i ∧ OwnS 67 8 o i (Y.map zc).flatten e ∧ Frag.le R R' ∧ (∀ z ∈ Y, RepV R' z.1.2 z.2)) [(6, .slice p Z.length cap), (7, .int .i64 (Z.length : Int)), (8, .int .i64 (0)), (3, .slice none 0 0)] (.emp :: As) Z.length ⟨rfl, rfl, rfl, rfl, trivial⟩ (.refl _) ⟨0, _, _, [], by omega, by omega, rfl, rfl, rfl, by simp, OwnS.nil _ _, Frag.le_refl _, by simp⟩ ?_
  rintro F' R₂ As' m ⟨i, o, e, Y, hi, rfl, rfl, rfl, hYl, hY, hown, hle2, hrep⟩
  refine HC_seq ?_
  refine HC_region ?_
  refine HL_lss (by rfl) (by rfl) (by rfl) ?_
  refine HL_nil ?_
  refine HQ_then ?_
  refine HC_seq ?_
  refine HC_cond (by rfl) (fun ht9 => ?_) (fun ht9 => ?_)
  · have hlt : i < Z.length := by simpa using ht9
    obtain ⟨z, hzi⟩ : ∃ z, Z[i]? = some z := ⟨_, List.getElem?_eq_getElem hlt⟩
    have hzm := List.mem_of_getElem? hzi
    obtain ⟨b, off, rfl, hrd⟩ := SlR.at hsl (i := i) (by simpa using hlt)
    rw [List.getElem_map, (List.getElem?_eq_some_iff.1 hzi).2] at hrd
    have hel := zcA_el (hZ z hzm)
    have hcall := pairOf_of ((hZ z hzm).mono hle2) (hp z hzm)
    generalize zc z = c at hrd hel hcall
    obtain ⟨c0, c1, c2, c3, c4, rfl⟩ := cells5 hel.1
    have hrd2 := hrd.mono hle2
    refine HC_skip ?_
    refine HQ_then ?_
    refine HC_seq ?_
    refine HC_block ?_
    refine HC_seq ?_
    refine HC_region ?_
    refine HL_indexAddr (by rfl) Tryz.underlying84 ty97 (by rfl) (by rfl) hlt ?_
    refine HL_load_agg (by rfl) ty97 (by rfl) (vs := [c0, c1, c2, c3, c4]) hrd2.rd ?_
    refine HL_alloc (by rfl) z97 (by rfl) (fun b5 => ?_)
    refine HL_store (vs := [c0, c1, c2, c3, c4]) ty97 (by rfl) (by rfl) (by rfl) hel.2.2 (by repeat (first | exact Sel.here | apply Sel.there)) (by rfl) ?_
    refine HL_nil ?_
    refine HQ_then ?_
    refine HC_region ?_
    refine HL_move (by rfl) (by rfl) ?_
    refine HL_load_agg (by rfl) ty97 (by rfl) (vs := [c0, c1, c2, c3, c4]) (.own (by repeat (first | exact Mem.here | apply Mem.there)) (by rfl)) ?_
    refine HL_call (by rfl) is55 (by rfl) (hcall _ _) ?_
    rintro v R₃ As1 ⟨rfl, hle3, cs, rfl, hrepv⟩
    obtain ⟨d0, d1, d2, d3, d4, d5, d6, rfl, hod⟩ := hrepv.seven
    refine HL_buildSlice1 (by rfl) Tryz.underlying27 ty67 z67 (by rfl) (by rfl) (vs := [_, _, _, _, _, _, _, _]) (by rfl) (by rfl) (fun bn => ?_)
    refine HL_append (by rfl) Tryz.underlying27 ty67 z67 by67 (by rfl) (by rfl) (by rfl) hown (by repeat (first | exact Pl.here | apply Pl.there)) (by rfl) (m := 1) (ys := [_, _, _, _, _, _, _, _]) (.own (by repeat (first | exact Mem.here | apply Mem.there)) (by rfl)) hod (maxLen_big _ (by omega)) (by omega) ?_
    intro o' e' hown'
    obtain ⟨cs', hcs'⟩ : ∃ cs', cs' = [d0, d1, d2, d3, d4, d5, d6] := ⟨_, rfl⟩
    rw [← hcs'] at hrepv hown'
    refine HL_assign (by rfl) (by rfl) ?_
    refine HL_nil ?_
    refine HQ_block ?_
    refine HQ_then ?_
    refine HC_region ?_
    refine HL_add (by rfl) (by rfl) (by rfl) (by omega) (by omega) ?_
    refine HL_move (by rfl) (by rfl) ?_
    refine HL_nil ?_
    refine HQ_drop .here ?_
    refine HQ_drop .here ?_
    refine HQ_loop [(6, .slice _ Z.length cap), (7, .int .i64 (Z.length : Int)), (8, .int .i64 (((i + 1 : Nat) : Int))), (3, _)] _ (Z.length - (i + 1)) (by omega) ⟨rfl, rfl, rfl, rfl, trivial⟩ (.refl _) ⟨i + 1, _, _, Y ++ [(z.1, cs')], by omega, rfl, rfl, rfl, by simp [hYl], ?_, by simpa [zc] using hown', Frag.le_trans hle2 hle3, ?_⟩
    · rw [List.take_add_one, ← hY, List.getElem?_map, hzi]
      simp
    · intro y hy
      rcases List.mem_append.1 hy with hy | hy
      · exact (hrep y hy).mono hle3
      · simp at hy; subst hy; exact hrepv
  · have hge : i = Z.length := by simp at ht9; omega
    subst hge
    refine HC_exit ?_
    refine HQ_then_exit ?_
    refine HQ_then_exit ?_
    refine HQ_block_same ?_
    refine HQ_then ?_
    refine HC_seq ?_
    refine HC_region ?_
    refine HL_move (by rfl) (by rfl) ?_
    refine HL_assign (by rfl) (by rfl) ?_
    refine HL_nil ?_
    refine HQ_then ?_
    refine HC_ret ?_
    refine HQ_sealS (by repeat (first | exact Out.here | apply Out.there)) hown (by simp [hYl]) (zc_len hrep) (fun R₃ hle3 hsl3 => ?_)
    refine HQ_ret (.inl rfl) _ (fun a w ha hs => run_results_tmp (by rfl) (by rfl) a w ha) ?_
    exact fun w hs => ret_pure hs (by repeat (first | exact Tail.refl | apply Tail.cons)) (Frag.le_trans hle2 hle3) (by rw [show Z.map (·.1) = Y.map (·.1) by rw [hY, List.take_of_length_le (by simp)]]; exact RepP.of_zip hsl3 (fun z hz => (hrep z hz).mono hle3))
end Go.Sx

/-! The thin package tells values: the whole. Printed by a program of ours (wip/tools/gM15.py) out of the steps of the code. -/
namespace Go.Sx
open Go Go.Proofs Go.RowKit

theorem wrap_u8 {k : Int} (h : 0 ≤ k ∧ k ≤ 11) : IntKind.u8.wrap k = k := by
  simp [IntKind.wrap, IntKind.bits, IntKind.signed]
  omega
set_option maxHeartbeats 4000000 in
/-- valueOf, the parts being. -/
theorem told_of {R : Frag} {k n : Int} {t : ByteArray} {nums : List Int} {texts : List ByteArray} {kids : List V} {pairs : List Pr} {f : Value}
    (hk0 : 0 ≤ k ∧ k ≤ 11) (hn0 : 0 ≤ n ∧ n ≤ 18446744073709551615) (hnl : nums.length ≤ 100) (hnr : ∀ x ∈ nums, 0 ≤ x ∧ x ≤ 18446744073709551615) (htl : texts.length ≤ 100) (hkl : kids.length ≤ 100) (hpl : pairs.length ≤ 100)
    (g1 : (k = 1 ∨ k = 2 ∨ k = 3) ∨ n = 0) (g2 : (k = 4 ∨ k = 9) ∨ t.size = 0) (g3 : (k = 5 ∨ k = 6 ∨ k = 7) ∨ nums = []) (g4 : k = 8 ∨ texts = []) (g5 : k = 10 ∨ kids = []) (g6 : k = 11 ∨ pairs = []) (g7 : k = 1 → n ≤ 1) (g8 : k = 5 → ∀ x ∈ nums, x ≤ 1)
    (hof : ones [f] = true) (p5 : k = 5 → ∃ s, f = .iface 186 s ∧ SlR R 1 s (bolCells nums)) (p6 : k = 6 → ∃ s, f = .iface 188 s ∧ SlR R 1 s (i64Cells nums)) (p7 : k = 7 → ∃ s, f = .iface 190 s ∧ SlR R 1 s (fltCells nums))
    (p8 : k = 8 → ∃ s, f = .iface 31 s ∧ SlR R 1 s (txtCells texts)) (p10 : k = 10 → ∃ s es, f = .iface 194 s ∧ SlR R 4 s es ∧ es.length = kids.length ∧ (∀ (i : Nat) e v, es[i]? = some e → kids[i]? = some v → RepA R v e))
    (p11 : k = 11 → ∃ s Z, f = .iface 84 s ∧ RepQ R s Z ∧ Z.map (·.1) = pairs)
    (hkids : ∀ v ∈ kids, ToldC v) (hpairs : ∀ p ∈ pairs, ToldC p.2) :
    ∀ R', Frag.le R R' → Pure Tryz.prog 106 [.agg [.int .i64 k, .int .u64 n, .string t, f].toArray] R' (fun R'' r => ∃ cs, r = .agg cs.toArray ∧ RepV R'' (.mk k n t nums texts kids pairs) cs) := by
  intro R₁ hle1 E As
  refine Tri_enter Tryz.func106 (by rfl) (by rfl) (by rfl) _ _ ?_
  refine HC_seq ?_
  refine HC_region ?_
  refine HL_box (by rfl) (by rfl) (vs := [.int .i64 k, .int .u64 n, .string t, f]) (by rfl) (fun b1 => ?_)
  refine HL_alloc (by rfl) z65 (by rfl) (fun b2 => ?_)
  refine HL_nil ?_
  refine HQ_then ?_
  refine HC_seq ?_
  refine HC_region ?_
  refine HL_load_agg (by rfl) ty95 (by rfl) (vs := [_, _, _, _]) (.own (by repeat (first | exact Mem.here | apply Mem.there)) (by rfl)) ?_
  refine HL_call (by rfl) is147 (by rfl) (asType R₁ k _ _ _ _ _) ?_
  rintro v R₂ As1 ⟨rfl, hle2, rfl⟩
  refine HL_conv (by rfl) ⟨_, Tryz.underlying93⟩ Tryz.underlying5 (by rfl) (wrap_u8 hk0) ?_
  refine HL_build (by rfl) z65 pl65 (by rfl) (qs := [[_]]) (by rfl) (cs := [_, _, _, _, _, _, _]) (by rfl) ?_
  refine HL_alloc (by rfl) z65 (by rfl) (fun b3 => ?_)
  refine HL_store (vs := [_, _, _, _, _, _, _]) ty65 (by rfl) (by rfl) (by rfl) (by rfl) (by repeat (first | exact Sel.here | apply Sel.there)) (by rfl) ?_
  refine HL_nil ?_
  refine HQ_then ?_
  refine HC_seq ?_
  refine HC_seq ?_
  refine HC_region ?_
  refine HL_fieldAddr (by rfl) f65_0 (by rfl) ?_
  refine HL_load_one (by rfl) ty5 (by rfl) (by first | exact Rd.own (by repeat (first | exact Mem.here | apply Mem.there)) (by rfl) | exact RdR.rd (by assumption)) ?_
  refine HL_nil ?_
  refine HQ_then ?_
  refine HC_block ?_
  refine HC_seq ?_
  refine HC_region ?_
  refine HL_eql_int (by rfl) (by rfl) (by rfl) ?_
  refine HL_assign (by rfl) (by rfl) ?_
  refine HL_nil ?_
  refine HQ_then ?_
  refine HC_cond (by rfl) (fun ht18 => ?_) (fun ht18 => ?_)
  · have hk1 : k = 1 := by simpa using ht18
    subst hk1
    have et : t.size = 0 := by simpa using g2
    have enums : nums = [] := by simpa using g3
    have etexts : texts = [] := by simpa using g4
    have ekids : kids = [] := by simpa using g5
    have epairs : pairs = [] := by simpa using g6
    skip
    refine HC_region ?_
    refine HL_load_agg (by rfl) ty95 (by rfl) (vs := [_, _, _, _]) (.own (by repeat (first | exact Mem.here | apply Mem.there)) (by rfl)) ?_
    refine HL_call (by rfl) is148 (by rfl) (asBool R₂ n _ _ _ _ _) ?_
    rintro v R₃ As1 ⟨rfl, hle3, rfl⟩
    refine HL_call (by rfl) is176 (by rfl) (bit R₃ _ _ _) ?_
    rintro v R₄ As1 ⟨rfl, hle4, rfl⟩
    refine HL_fieldAddr (by rfl) f65_1 (by rfl) ?_
    refine HL_store (vs := [_]) ty48 (by rfl) (by rfl) (by rfl) (by rfl) (by repeat (first | exact Sel.here | apply Sel.there)) (by rfl) ?_
    refine HL_nil ?_
    refine HQ_block ?_
    refine HQ_then ?_
    refine HC_seq ?_
    refine HC_region ?_
    refine HL_load_agg (by rfl) ty65 (by rfl) (vs := [_, _, _, _, _, _, _]) (by first | exact Rd.own (by repeat (first | exact Mem.here | apply Mem.there)) (by rfl) | exact RdR.rd (by assumption)) ?_
    refine HL_store (vs := [_, _, _, _, _, _, _]) ty65 (by rfl) (by rfl) (by rfl) (by rfl) (by repeat (first | exact Sel.here | apply Sel.there)) (by rfl) ?_
    refine HL_nil ?_
    refine HQ_then ?_
    refine HC_ret ?_
    refine HQ_ret_cell (.inl rfl) (by rfl) (by rfl) ty65 (vs := [_, _, _, _, _, _, _]) (by first | exact Rd.own (by repeat (first | exact Mem.here | apply Mem.there)) (by rfl) | exact RdR.rd (by assumption)) ?_
    exact fun w hs => ret_pure hs (by repeat (first | exact Tail.refl | apply Tail.cons)) (Frag.le_trans hle2 (Frag.le_trans hle3 hle4)) ⟨_, rfl, by
      subst enums
      subst etexts
      subst ekids
      subst epairs
      have et2 := size0 et; subst et2
      have : (bif (n != 0) then (1 : Int) else 0) = n := by
        have := g7 rfl
        rcases Classical.em (n = 0) with h | h
        · subst h; rfl
        · have h1 : n = 1 := by omega
          subst h1; rfl
      rw [this]
      exact .of (num0 _) (txt0 _) (.nil0 _) (.nil0 _)⟩
  · have hn1 : k ≠ 1 := by simpa using ht18
    refine HC_seq ?_
    refine HC_region ?_
    refine HL_eql_int (by rfl) (by rfl) (by rfl) ?_
    refine HL_assign (by rfl) (by rfl) ?_
    refine HL_nil ?_
    refine HQ_then ?_
    refine HC_cond (by rfl) (fun ht24 => ?_) (fun ht24 => ?_)
    · have hk2 : k = 2 := by simpa using ht24
      subst hk2
      have et : t.size = 0 := by simpa using g2
      have enums : nums = [] := by simpa using g3
      have etexts : texts = [] := by simpa using g4
      have ekids : kids = [] := by simpa using g5
      have epairs : pairs = [] := by simpa using g6
      skip
      refine HC_region ?_
      refine HL_load_agg (by rfl) ty95 (by rfl) (vs := [_, _, _, _]) (.own (by repeat (first | exact Mem.here | apply Mem.there)) (by rfl)) ?_
      refine HL_call (by rfl) is150 (by rfl) (asInt64 R₂ n _ _ _ _ _) ?_
      rintro v R₃ As1 ⟨rfl, hle3, rfl⟩
      refine HL_conv (by rfl) ⟨_, Tryz.underlying2⟩ Tryz.underlying48 (by rfl) (wrap_back hn0) ?_
      refine HL_fieldAddr (by rfl) f65_1 (by rfl) ?_
      refine HL_store (vs := [_]) ty48 (by rfl) (by rfl) (by rfl) (by rfl) (by repeat (first | exact Sel.here | apply Sel.there)) (by rfl) ?_
      refine HL_nil ?_
      refine HQ_block ?_
      refine HQ_then ?_
      refine HC_seq ?_
      refine HC_region ?_
      refine HL_load_agg (by rfl) ty65 (by rfl) (vs := [_, _, _, _, _, _, _]) (by first | exact Rd.own (by repeat (first | exact Mem.here | apply Mem.there)) (by rfl) | exact RdR.rd (by assumption)) ?_
      refine HL_store (vs := [_, _, _, _, _, _, _]) ty65 (by rfl) (by rfl) (by rfl) (by rfl) (by repeat (first | exact Sel.here | apply Sel.there)) (by rfl) ?_
      refine HL_nil ?_
      refine HQ_then ?_
      refine HC_ret ?_
      refine HQ_ret_cell (.inl rfl) (by rfl) (by rfl) ty65 (vs := [_, _, _, _, _, _, _]) (by first | exact Rd.own (by repeat (first | exact Mem.here | apply Mem.there)) (by rfl) | exact RdR.rd (by assumption)) ?_
      exact fun w hs => ret_pure hs (by repeat (first | exact Tail.refl | apply Tail.cons)) (Frag.le_trans hle2 hle3) ⟨_, rfl, by
        subst enums
        subst etexts
        subst ekids
        subst epairs
        have et2 := size0 et; subst et2
        exact .of (num0 _) (txt0 _) (.nil0 _) (.nil0 _)⟩
    · have hn2 : k ≠ 2 := by simpa using ht24
      refine HC_seq ?_
      refine HC_region ?_
      refine HL_eql_int (by rfl) (by rfl) (by rfl) ?_
      refine HL_assign (by rfl) (by rfl) ?_
      refine HL_nil ?_
      refine HQ_then ?_
      refine HC_cond (by rfl) (fun ht30 => ?_) (fun ht30 => ?_)
      · have hk3 : k = 3 := by simpa using ht30
        subst hk3
        have et : t.size = 0 := by simpa using g2
        have enums : nums = [] := by simpa using g3
        have etexts : texts = [] := by simpa using g4
        have ekids : kids = [] := by simpa using g5
        have epairs : pairs = [] := by simpa using g6
        skip
        refine HC_region ?_
        refine HL_load_agg (by rfl) ty95 (by rfl) (vs := [_, _, _, _]) (.own (by repeat (first | exact Mem.here | apply Mem.there)) (by rfl)) ?_
        refine HL_call (by rfl) is153 (by rfl) (asFloat64 R₂ n _ _ _ _ _) ?_
        rintro v R₃ As1 ⟨rfl, hle3, rfl⟩
        refine HL_extern (vs := [.float .f64 n.toNat]) (by rfl) (by rfl) (fun w => run177 n.toNat w) ?_
        refine HL_fieldAddr (by rfl) f65_1 (by rfl) ?_
        refine HL_store (vs := [_]) ty48 (by rfl) (by rfl) (by rfl) (by rfl) (by repeat (first | exact Sel.here | apply Sel.there)) (by rfl) ?_
        refine HL_nil ?_
        refine HQ_block ?_
        refine HQ_then ?_
        refine HC_seq ?_
        refine HC_region ?_
        refine HL_load_agg (by rfl) ty65 (by rfl) (vs := [_, _, _, _, _, _, _]) (by first | exact Rd.own (by repeat (first | exact Mem.here | apply Mem.there)) (by rfl) | exact RdR.rd (by assumption)) ?_
        refine HL_store (vs := [_, _, _, _, _, _, _]) ty65 (by rfl) (by rfl) (by rfl) (by rfl) (by repeat (first | exact Sel.here | apply Sel.there)) (by rfl) ?_
        refine HL_nil ?_
        refine HQ_then ?_
        refine HC_ret ?_
        refine HQ_ret_cell (.inl rfl) (by rfl) (by rfl) ty65 (vs := [_, _, _, _, _, _, _]) (by first | exact Rd.own (by repeat (first | exact Mem.here | apply Mem.there)) (by rfl) | exact RdR.rd (by assumption)) ?_
        exact fun w hs => ret_pure hs (by repeat (first | exact Tail.refl | apply Tail.cons)) (Frag.le_trans hle2 hle3) ⟨_, rfl, by
          subst enums
          subst etexts
          subst ekids
          subst epairs
          have et2 := size0 et; subst et2
          rw [show ((n.toNat : Nat) : Int) = n by omega]
          exact .of (num0 _) (txt0 _) (.nil0 _) (.nil0 _)⟩
      · have hn3 : k ≠ 3 := by simpa using ht30
        refine HC_seq ?_
        refine HC_region ?_
        refine HL_eql_int (by rfl) (by rfl) (by rfl) ?_
        refine HL_assign (by rfl) (by rfl) ?_
        refine HL_nil ?_
        refine HQ_then ?_
        refine HC_cond (by rfl) (fun ht36 => ?_) (fun ht36 => ?_)
        · have hk4 : k = 4 := by simpa using ht36
          subst hk4
          have en : n = 0 := by simpa using g1
          have enums : nums = [] := by simpa using g3
          have etexts : texts = [] := by simpa using g4
          have ekids : kids = [] := by simpa using g5
          have epairs : pairs = [] := by simpa using g6
          skip
          refine HC_region ?_
          refine HL_load_agg (by rfl) ty95 (by rfl) (vs := [_, _, _, _]) (.own (by repeat (first | exact Mem.here | apply Mem.there)) (by rfl)) ?_
          refine HL_call (by rfl) is178 (by rfl) (asString R₂ t _ _ _ _ _) ?_
          rintro v R₃ As1 ⟨rfl, hle3, rfl⟩
          refine HL_fieldAddr (by rfl) f65_2 (by rfl) ?_
          refine HL_store (vs := [_]) ty9 (by rfl) (by rfl) (by rfl) (by rfl) (by repeat (first | exact Sel.here | apply Sel.there)) (by rfl) ?_
          refine HL_nil ?_
          refine HQ_block ?_
          refine HQ_then ?_
          refine HC_seq ?_
          refine HC_region ?_
          refine HL_load_agg (by rfl) ty65 (by rfl) (vs := [_, _, _, _, _, _, _]) (by first | exact Rd.own (by repeat (first | exact Mem.here | apply Mem.there)) (by rfl) | exact RdR.rd (by assumption)) ?_
          refine HL_store (vs := [_, _, _, _, _, _, _]) ty65 (by rfl) (by rfl) (by rfl) (by rfl) (by repeat (first | exact Sel.here | apply Sel.there)) (by rfl) ?_
          refine HL_nil ?_
          refine HQ_then ?_
          refine HC_ret ?_
          refine HQ_ret_cell (.inl rfl) (by rfl) (by rfl) ty65 (vs := [_, _, _, _, _, _, _]) (by first | exact Rd.own (by repeat (first | exact Mem.here | apply Mem.there)) (by rfl) | exact RdR.rd (by assumption)) ?_
          exact fun w hs => ret_pure hs (by repeat (first | exact Tail.refl | apply Tail.cons)) (Frag.le_trans hle2 hle3) ⟨_, rfl, by
            subst en
            subst enums
            subst etexts
            subst ekids
            subst epairs
            exact .of (num0 _) (txt0 _) (.nil0 _) (.nil0 _)⟩
        · have hn4 : k ≠ 4 := by simpa using ht36
          refine HC_seq ?_
          refine HC_region ?_
          refine HL_eql_int (by rfl) (by rfl) (by rfl) ?_
          refine HL_assign (by rfl) (by rfl) ?_
          refine HL_nil ?_
          refine HQ_then ?_
          refine HC_cond (by rfl) (fun ht41 => ?_) (fun ht41 => ?_)
          · have hk5 : k = 5 := by simpa using ht41
            subst hk5
            have en : n = 0 := by simpa using g1
            have et : t.size = 0 := by simpa using g2
            have etexts : texts = [] := by simpa using g4
            have ekids : kids = [] := by simpa using g5
            have epairs : pairs = [] := by simpa using g6
            obtain ⟨s, rfl, hs0⟩ := p5 rfl
            refine HC_seq ?_
            refine HC_region ?_
            refine HL_load_agg (by rfl) ty95 (by rfl) (vs := [_, _, _, _]) (.own (by repeat (first | exact Mem.here | apply Mem.there)) (by rfl)) ?_
            refine HL_call (by rfl) is179 (by rfl) (asl179 (by rfl) ((hs0.mono hle1).mono hle2) (by simp [bolCells]; omega) (by simp [bolCells]) (by simp [bolCells, ones, Value.oneCell']) _ _) ?_
            rintro v R₃ As1 ⟨rfl, hle3, hl3⟩
            obtain ⟨q0, k0, rfl, _⟩ := id hl3
            rw [show (bolCells nums).length = nums.length by simp [bolCells]] at hl3 ⊢
            refine HL_len_slice (by rfl) Tryz.underlying186 (by rfl) ?_
            refine HL_move (by rfl) (by rfl) ?_
            refine HL_nil ?_
            refine HQ_then ?_
            refine HC_emp ?_
            refine HC_block ?_
            refine HC_loop (fun F' R' As' m => ∃ (i : Nat) (o : Value) (e : Ent), i ≤ nums.length ∧ nums.length - i = m ∧ F' = [(44, .slice q0 nums.length k0), (45, .int .i64 (nums.length : Int)), (46, .int .i64 ((i : Int))), (1, .pointer (some ⟨b1, 0, none⟩)), (2, .pointer (some ⟨b2, 0, none⟩)), (3, .pointer (some ⟨b3, 0, none⟩))] ∧ As' = e :: blk b3 [.int .u8 5, .int .u64 0, .string ⟨#[]⟩, o, .slice none 0 0, .slice none 0 0, .slice none 0 0] 65 :: blk b2 [.int .u8 0, .int .u64 0, .string ⟨#[]⟩, .slice none 0 0, .slice none 0 0, .slice none 0 0, .slice none 0 0] 65 :: blk b1 [.int .i64 5, .int .u64 n, .string t, .iface 186 s] 95 :: As ∧ OwnS 48 1 o i (numCells (nums.take i)).flatten e ∧ Frag.le R₃ R') [(44, .slice q0 nums.length k0), (45, .int .i64 (nums.length : Int)), (46, .int .i64 (0)), (1, .pointer (some ⟨b1, 0, none⟩)), (2, .pointer (some ⟨b2, 0, none⟩)), (3, .pointer (some ⟨b3, 0, none⟩))] (.emp :: blk b3 [.int .u8 5, .int .u64 0, .string ⟨#[]⟩, .slice none 0 0, .slice none 0 0, .slice none 0 0, .slice none 0 0] 65 :: blk b2 [.int .u8 0, .int .u64 0, .string ⟨#[]⟩, .slice none 0 0, .slice none 0 0, .slice none 0 0, .slice none 0 0] 65 :: blk b1 [.int .i64 5, .int .u64 n, .string t, .iface 186 s] 95 :: As) nums.length ⟨rfl, rfl, rfl, rfl, rfl, rfl, trivial⟩ (.refl _) ⟨0, _, _, by omega, by omega, rfl, rfl, OwnS.nil _ _, Frag.le_refl _⟩ ?_
            rintro F' R₄ As' m ⟨i, o, e, hi, rfl, rfl, rfl, hown, hle4⟩
            refine HC_seq ?_
            refine HC_region ?_
            refine HL_lss (by rfl) (by rfl) (by rfl) ?_
            refine HL_nil ?_
            refine HQ_then ?_
            refine HC_seq ?_
            refine HC_cond (by rfl) (fun ht47 => ?_) (fun ht47 => ?_)
            · have hlt : i < nums.length := by simpa using ht47
              obtain ⟨b, off, rfl, hrd⟩ := SlR.at hl3 (i := i) (by simpa [bolCells] using hlt)
              simp only [bolCells, List.getElem_map] at hrd
              have hrd2 := hrd.mono hle4
              have hbk : (bif (nums[i] != 0) then (1 : Int) else 0) = nums[i] := by
                have ha := g8 rfl _ (List.getElem_mem hlt)
                have hb := hnr _ (List.getElem_mem hlt)
                rcases Classical.em (nums[i] = 0) with h | h
                · rw [h]; rfl
                · have h1 : nums[i] = 1 := by omega
                  rw [h1]; rfl
              refine HC_skip ?_
              refine HQ_then ?_
              refine HC_seq ?_
              refine HC_block ?_
              refine HC_seq ?_
              refine HC_region ?_
              refine HL_indexAddr (by rfl) Tryz.underlying186 ty4 (by rfl) (by rfl) hlt ?_
              refine HL_load_one (by rfl) ty4 (by rfl) (by first | exact Rd.own (by repeat (first | exact Mem.here | apply Mem.there)) (by rfl) | exact RdR.rd (by assumption)) ?_
              refine HL_assign (by rfl) (by rfl) ?_
              refine HL_nil ?_
              refine HQ_then ?_
              refine HC_drawH 5 2 (fun jj R v => match jj with | 0 => v = .pointer (some ⟨b3, 3, none⟩) | 1 => v = o | 2 => v = .bool (nums[i] != 0) | 3 => v = .int .u64 nums[i] | 4 => ∃ bn, v = .slice (some ⟨bn, 0, none⟩) 1 1 ∧ RdR R bn 0 1 [.int .u64 nums[i]] | _ => True) [(0, []), (1, [(0, 50)]), (2, []), (3, [(2, 52)]), (4, [(3, 53)])] [(0, 50), (1, 51), (2, 52), (3, 53), (4, 54)] (by kernel_rfl) (by kernel_rfl) (by kernel_rfl) (by rfl) (by decide) (by rfl) (by kernel_rfl) (by kernel_rfl) (by kernel_rfl) (by kernel_rfl) (by intro c d v a w h; cases d <;> exact h) ?_ ?_ ?_
              · intro j R R' v hle h; match j, h with | 0, h => exact h | 1, h => exact h | 2, h => exact h | 3, h => exact h | 4, ⟨bn, e, hd⟩ => exact ⟨bn, e, hd.mono hle⟩ | _ + 5, h => exact h
              · refine ⟨?_, ?_, ?_, ?_, ?_, trivial⟩
                · intro R1 G hle
                  refine HL_fieldAddr (by rfl) f65_3 (by rfl) ?_
                  refine HL_nil ?_
                  exact HQ_dq1 (Frag.le_refl _) rfl .refl
                · intro R1 G hle; rintro _ rfl
                  refine HL_load_one (by rfl) ty49 (by rfl) (by first | exact Rd.own (by repeat (first | exact Mem.here | apply Mem.there)) (by rfl) | exact RdR.rd (by assumption)) ?_
                  refine HL_nil ?_
                  exact HQ_dq1 (Frag.le_refl _) rfl .refl
                · intro R1 G hle
                  refine HL_move (by rfl) (by rfl) ?_
                  refine HL_nil ?_
                  exact HQ_dq1 (Frag.le_refl _) rfl .refl
                · intro R1 G hle; rintro _ rfl
                  refine HL_call (by rfl) is176 (by rfl) (bit R1 _ _ _) ?_
                  rintro v R' As' ⟨rfl, hle', rfl⟩
                  rw [hbk]
                  refine HL_nil ?_
                  exact HQ_dq1 hle' rfl .refl
                · intro R1 G hle; rintro _ rfl
                  refine HL_buildSlice1 (by rfl) Tryz.underlying49 ty48 z48 (by rfl) (by rfl) (vs := [_]) (by rfl) (by rfl) (fun bn => ?_)
                  refine HL_nil ?_
                  refine HQ_seal .here (fun R' hle' hb => ?_)
                  exact HQ_dq1 hle' ⟨bn, rfl, _, _, _, hb, by rfl⟩ .refl
              · intro R1 hle; rintro _ rfl _ rfl _ rfl _ rfl _ ⟨bn, rfl, hrdn⟩
                refine HL_append (by rfl) Tryz.underlying49 ty48 z48 by48 (by rfl) (by rfl) (by rfl) hown (by repeat (first | exact Pl.here | apply Pl.there)) (by rfl) (m := 1) (ys := [.int .u64 nums[i]]) hrdn.rd (by rfl) (maxLen_big _ (by omega)) (by omega) ?_
                intro o' e' hown'
                have hone' : ones [o'] = true := hown'.one
                refine HL_fieldAddr (by rfl) f65_3 (by rfl) ?_
                refine HL_store (vs := [o']) ty49 (by rfl) (by rfl) hown'.cells hone' (by repeat (first | exact Sel.here | apply Sel.there)) (by rfl) ?_
                refine HL_nil ?_
                refine HQ_block ?_
                refine HQ_then ?_
                refine HC_region ?_
                refine HL_add (by rfl) (by rfl) (by rfl) (by omega) (by omega) ?_
                refine HL_move (by rfl) (by rfl) ?_
                refine HL_nil ?_
                refine HQ_loop [(44, .slice _ nums.length k0), (45, .int .i64 (nums.length : Int)), (46, .int .i64 (((i + 1 : Nat) : Int))), (1, .pointer (some ⟨b1, 0, none⟩)), (2, .pointer (some ⟨b2, 0, none⟩)), (3, .pointer (some ⟨b3, 0, none⟩))] _ (nums.length - (i + 1)) (by omega) ⟨rfl, rfl, rfl, rfl, rfl, rfl, trivial⟩ (.refl _) ⟨i + 1, o', e', by omega, rfl, rfl, rfl, ?_, Frag.le_trans hle4 hle⟩
                rw [List.take_add_one, List.getElem?_eq_getElem hlt]
                simp only [Option.toList, numCells, List.map_append, List.map_cons, List.map_nil, List.flatten_append, List.flatten_cons, List.flatten_nil, List.append_nil] at hown' ⊢
                exact hown'
            · have hge : i = nums.length := by simp at ht47; omega
              subst hge
              refine HC_exit ?_
              refine HQ_then_exit ?_
              refine HQ_then_exit ?_
              refine HQ_block_same ?_
              rw [List.take_of_length_le (Nat.le_refl _)] at hown
              refine HQ_sealS (by repeat (first | exact Out.here | apply Out.there)) hown (by simp [numCells]) (by simp [numCells]) (fun R₅ hle5 hsl => ?_)
              obtain ⟨q5, c5, rfl, _⟩ := id hsl
              refine HQ_block ?_
              refine HQ_then ?_
              refine HC_seq ?_
              refine HC_region ?_
              refine HL_load_agg (by rfl) ty65 (by rfl) (vs := [_, _, _, _, _, _, _]) (by first | exact Rd.own (by repeat (first | exact Mem.here | apply Mem.there)) (by rfl) | exact RdR.rd (by assumption)) ?_
              refine HL_store (vs := [_, _, _, _, _, _, _]) ty65 (by rfl) (by rfl) (by rfl) (by rfl) (by repeat (first | exact Sel.here | apply Sel.there)) (by rfl) ?_
              refine HL_nil ?_
              refine HQ_then ?_
              refine HC_ret ?_
              refine HQ_ret_cell (.inl rfl) (by rfl) (by rfl) ty65 (vs := [_, _, _, _, _, _, _]) (by first | exact Rd.own (by repeat (first | exact Mem.here | apply Mem.there)) (by rfl) | exact RdR.rd (by assumption)) ?_
              exact fun w hs => ret_pure hs (by repeat (first | exact Tail.refl | apply Tail.cons)) (Frag.le_trans hle2 (Frag.le_trans hle3 (Frag.le_trans hle4 hle5))) ⟨_, rfl, by
                subst en
                subst etexts
                subst ekids
                subst epairs
                have et2 := size0 et; subst et2
                exact .of hsl (txt0 _) (.nil0 _) (.nil0 _)⟩
          · have hn5 : k ≠ 5 := by simpa using ht41
            refine HC_seq ?_
            refine HC_region ?_
            refine HL_eql_int (by rfl) (by rfl) (by rfl) ?_
            refine HL_assign (by rfl) (by rfl) ?_
            refine HL_nil ?_
            refine HQ_then ?_
            refine HC_cond (by rfl) (fun ht58 => ?_) (fun ht58 => ?_)
            · have hk6 : k = 6 := by simpa using ht58
              subst hk6
              have en : n = 0 := by simpa using g1
              have et : t.size = 0 := by simpa using g2
              have etexts : texts = [] := by simpa using g4
              have ekids : kids = [] := by simpa using g5
              have epairs : pairs = [] := by simpa using g6
              obtain ⟨s, rfl, hs0⟩ := p6 rfl
              refine HC_seq ?_
              refine HC_region ?_
              refine HL_load_agg (by rfl) ty95 (by rfl) (vs := [_, _, _, _]) (.own (by repeat (first | exact Mem.here | apply Mem.there)) (by rfl)) ?_
              refine HL_call (by rfl) is180 (by rfl) (asl180 (by rfl) ((hs0.mono hle1).mono hle2) (by simp [i64Cells]; omega) (by simp [i64Cells]) (by simp [i64Cells, ones, Value.oneCell']) _ _) ?_
              rintro v R₃ As1 ⟨rfl, hle3, hl3⟩
              obtain ⟨q0, k0, rfl, _⟩ := id hl3
              rw [show (i64Cells nums).length = nums.length by simp [i64Cells]] at hl3 ⊢
              refine HL_len_slice (by rfl) Tryz.underlying188 (by rfl) ?_
              refine HL_move (by rfl) (by rfl) ?_
              refine HL_nil ?_
              refine HQ_then ?_
              refine HC_emp ?_
              refine HC_block ?_
              refine HC_loop (fun F' R' As' m => ∃ (i : Nat) (o : Value) (e : Ent), i ≤ nums.length ∧ nums.length - i = m ∧ F' = [(61, .slice q0 nums.length k0), (62, .int .i64 (nums.length : Int)), (63, .int .i64 ((i : Int))), (1, .pointer (some ⟨b1, 0, none⟩)), (2, .pointer (some ⟨b2, 0, none⟩)), (3, .pointer (some ⟨b3, 0, none⟩))] ∧ As' = e :: blk b3 [.int .u8 6, .int .u64 0, .string ⟨#[]⟩, o, .slice none 0 0, .slice none 0 0, .slice none 0 0] 65 :: blk b2 [.int .u8 0, .int .u64 0, .string ⟨#[]⟩, .slice none 0 0, .slice none 0 0, .slice none 0 0, .slice none 0 0] 65 :: blk b1 [.int .i64 6, .int .u64 n, .string t, .iface 188 s] 95 :: As ∧ OwnS 48 1 o i (numCells (nums.take i)).flatten e ∧ Frag.le R₃ R') [(61, .slice q0 nums.length k0), (62, .int .i64 (nums.length : Int)), (63, .int .i64 (0)), (1, .pointer (some ⟨b1, 0, none⟩)), (2, .pointer (some ⟨b2, 0, none⟩)), (3, .pointer (some ⟨b3, 0, none⟩))] (.emp :: blk b3 [.int .u8 6, .int .u64 0, .string ⟨#[]⟩, .slice none 0 0, .slice none 0 0, .slice none 0 0, .slice none 0 0] 65 :: blk b2 [.int .u8 0, .int .u64 0, .string ⟨#[]⟩, .slice none 0 0, .slice none 0 0, .slice none 0 0, .slice none 0 0] 65 :: blk b1 [.int .i64 6, .int .u64 n, .string t, .iface 188 s] 95 :: As) nums.length ⟨rfl, rfl, rfl, rfl, rfl, rfl, trivial⟩ (.refl _) ⟨0, _, _, by omega, by omega, rfl, rfl, OwnS.nil _ _, Frag.le_refl _⟩ ?_
              rintro F' R₄ As' m ⟨i, o, e, hi, rfl, rfl, rfl, hown, hle4⟩
              refine HC_seq ?_
              refine HC_region ?_
              refine HL_lss (by rfl) (by rfl) (by rfl) ?_
              refine HL_nil ?_
              refine HQ_then ?_
              refine HC_seq ?_
              refine HC_cond (by rfl) (fun ht64 => ?_) (fun ht64 => ?_)
              · have hlt : i < nums.length := by simpa using ht64
                obtain ⟨b, off, rfl, hrd⟩ := SlR.at hl3 (i := i) (by simpa [i64Cells] using hlt)
                simp only [i64Cells, List.getElem_map] at hrd
                have hrd2 := hrd.mono hle4
                skip
                refine HC_skip ?_
                refine HQ_then ?_
                refine HC_seq ?_
                refine HC_block ?_
                refine HC_seq ?_
                refine HC_region ?_
                refine HL_indexAddr (by rfl) Tryz.underlying188 ty2 (by rfl) (by rfl) hlt ?_
                refine HL_load_one (by rfl) ty2 (by rfl) (by first | exact Rd.own (by repeat (first | exact Mem.here | apply Mem.there)) (by rfl) | exact RdR.rd (by assumption)) ?_
                refine HL_assign (by rfl) (by rfl) ?_
                refine HL_nil ?_
                refine HQ_then ?_
                refine HC_region ?_
                refine HL_fieldAddr (by rfl) f65_3 (by rfl) ?_
                refine HL_load_one (by rfl) ty49 (by rfl) (.own (by repeat (first | exact Mem.here | apply Mem.there)) (by rfl)) ?_
                refine HL_move (by rfl) (by rfl) ?_
                refine HL_conv (by rfl) ⟨_, Tryz.underlying2⟩ Tryz.underlying48 (by rfl) (wrap_back (hnr _ (List.getElem_mem hlt))) ?_
                refine HL_buildSlice1 (by rfl) Tryz.underlying49 ty48 z48 (by rfl) (by rfl) (vs := [_]) (by rfl) (by rfl) (fun bn => ?_)
                refine HL_append (by rfl) Tryz.underlying49 ty48 z48 by48 (by rfl) (by rfl) (by rfl) hown (by repeat (first | exact Pl.here | apply Pl.there)) (by rfl) (m := 1) (ys := [.int .u64 nums[i]]) (.own (by repeat (first | exact Mem.here | apply Mem.there)) (by rfl)) (by rfl) (maxLen_big _ (by omega)) (by omega) ?_
                intro o' e' hown'
                have hone' : ones [o'] = true := hown'.one
                refine HL_fieldAddr (by rfl) f65_3 (by rfl) ?_
                refine HL_store (vs := [o']) ty49 (by rfl) (by rfl) hown'.cells hone' (by repeat (first | exact Sel.here | apply Sel.there)) (by rfl) ?_
                refine HL_nil ?_
                refine HQ_block ?_
                refine HQ_then ?_
                refine HC_region ?_
                refine HL_add (by rfl) (by rfl) (by rfl) (by omega) (by omega) ?_
                refine HL_move (by rfl) (by rfl) ?_
                refine HL_nil ?_
                refine HQ_drop .here ?_
                refine HQ_loop [(61, .slice _ nums.length k0), (62, .int .i64 (nums.length : Int)), (63, .int .i64 (((i + 1 : Nat) : Int))), (1, .pointer (some ⟨b1, 0, none⟩)), (2, .pointer (some ⟨b2, 0, none⟩)), (3, .pointer (some ⟨b3, 0, none⟩))] _ (nums.length - (i + 1)) (by omega) ⟨rfl, rfl, rfl, rfl, rfl, rfl, trivial⟩ (.refl _) ⟨i + 1, o', e', by omega, rfl, rfl, rfl, ?_, hle4⟩
                rw [List.take_add_one, List.getElem?_eq_getElem hlt]
                simp only [Option.toList, numCells, List.map_append, List.map_cons, List.map_nil, List.flatten_append, List.flatten_cons, List.flatten_nil, List.append_nil] at hown' ⊢
                exact hown'
              · have hge : i = nums.length := by simp at ht64; omega
                subst hge
                refine HC_exit ?_
                refine HQ_then_exit ?_
                refine HQ_then_exit ?_
                refine HQ_block_same ?_
                rw [List.take_of_length_le (Nat.le_refl _)] at hown
                refine HQ_sealS (by repeat (first | exact Out.here | apply Out.there)) hown (by simp [numCells]) (by simp [numCells]) (fun R₅ hle5 hsl => ?_)
                obtain ⟨q5, c5, rfl, _⟩ := id hsl
                refine HQ_block ?_
                refine HQ_then ?_
                refine HC_seq ?_
                refine HC_region ?_
                refine HL_load_agg (by rfl) ty65 (by rfl) (vs := [_, _, _, _, _, _, _]) (by first | exact Rd.own (by repeat (first | exact Mem.here | apply Mem.there)) (by rfl) | exact RdR.rd (by assumption)) ?_
                refine HL_store (vs := [_, _, _, _, _, _, _]) ty65 (by rfl) (by rfl) (by rfl) (by rfl) (by repeat (first | exact Sel.here | apply Sel.there)) (by rfl) ?_
                refine HL_nil ?_
                refine HQ_then ?_
                refine HC_ret ?_
                refine HQ_ret_cell (.inl rfl) (by rfl) (by rfl) ty65 (vs := [_, _, _, _, _, _, _]) (by first | exact Rd.own (by repeat (first | exact Mem.here | apply Mem.there)) (by rfl) | exact RdR.rd (by assumption)) ?_
                exact fun w hs => ret_pure hs (by repeat (first | exact Tail.refl | apply Tail.cons)) (Frag.le_trans hle2 (Frag.le_trans hle3 (Frag.le_trans hle4 hle5))) ⟨_, rfl, by
                  subst en
                  subst etexts
                  subst ekids
                  subst epairs
                  have et2 := size0 et; subst et2
                  exact .of hsl (txt0 _) (.nil0 _) (.nil0 _)⟩
            · have hn6 : k ≠ 6 := by simpa using ht58
              refine HC_seq ?_
              refine HC_region ?_
              refine HL_eql_int (by rfl) (by rfl) (by rfl) ?_
              refine HL_assign (by rfl) (by rfl) ?_
              refine HL_nil ?_
              refine HQ_then ?_
              refine HC_cond (by rfl) (fun ht75 => ?_) (fun ht75 => ?_)
              · have hk7 : k = 7 := by simpa using ht75
                subst hk7
                have en : n = 0 := by simpa using g1
                have et : t.size = 0 := by simpa using g2
                have etexts : texts = [] := by simpa using g4
                have ekids : kids = [] := by simpa using g5
                have epairs : pairs = [] := by simpa using g6
                obtain ⟨s, rfl, hs0⟩ := p7 rfl
                refine HC_seq ?_
                refine HC_region ?_
                refine HL_load_agg (by rfl) ty95 (by rfl) (vs := [_, _, _, _]) (.own (by repeat (first | exact Mem.here | apply Mem.there)) (by rfl)) ?_
                refine HL_call (by rfl) is181 (by rfl) (asl181 (by rfl) ((hs0.mono hle1).mono hle2) (by simp [fltCells]; omega) (by simp [fltCells]) (by simp [fltCells, ones, Value.oneCell']) _ _) ?_
                rintro v R₃ As1 ⟨rfl, hle3, hl3⟩
                obtain ⟨q0, k0, rfl, _⟩ := id hl3
                rw [show (fltCells nums).length = nums.length by simp [fltCells]] at hl3 ⊢
                refine HL_len_slice (by rfl) Tryz.underlying190 (by rfl) ?_
                refine HL_move (by rfl) (by rfl) ?_
                refine HL_nil ?_
                refine HQ_then ?_
                refine HC_emp ?_
                refine HC_block ?_
                refine HC_loop (fun F' R' As' m => ∃ (i : Nat) (o : Value) (e : Ent), i ≤ nums.length ∧ nums.length - i = m ∧ F' = [(78, .slice q0 nums.length k0), (79, .int .i64 (nums.length : Int)), (80, .int .i64 ((i : Int))), (1, .pointer (some ⟨b1, 0, none⟩)), (2, .pointer (some ⟨b2, 0, none⟩)), (3, .pointer (some ⟨b3, 0, none⟩))] ∧ As' = e :: blk b3 [.int .u8 7, .int .u64 0, .string ⟨#[]⟩, o, .slice none 0 0, .slice none 0 0, .slice none 0 0] 65 :: blk b2 [.int .u8 0, .int .u64 0, .string ⟨#[]⟩, .slice none 0 0, .slice none 0 0, .slice none 0 0, .slice none 0 0] 65 :: blk b1 [.int .i64 7, .int .u64 n, .string t, .iface 190 s] 95 :: As ∧ OwnS 48 1 o i (numCells (nums.take i)).flatten e ∧ Frag.le R₃ R') [(78, .slice q0 nums.length k0), (79, .int .i64 (nums.length : Int)), (80, .int .i64 (0)), (1, .pointer (some ⟨b1, 0, none⟩)), (2, .pointer (some ⟨b2, 0, none⟩)), (3, .pointer (some ⟨b3, 0, none⟩))] (.emp :: blk b3 [.int .u8 7, .int .u64 0, .string ⟨#[]⟩, .slice none 0 0, .slice none 0 0, .slice none 0 0, .slice none 0 0] 65 :: blk b2 [.int .u8 0, .int .u64 0, .string ⟨#[]⟩, .slice none 0 0, .slice none 0 0, .slice none 0 0, .slice none 0 0] 65 :: blk b1 [.int .i64 7, .int .u64 n, .string t, .iface 190 s] 95 :: As) nums.length ⟨rfl, rfl, rfl, rfl, rfl, rfl, trivial⟩ (.refl _) ⟨0, _, _, by omega, by omega, rfl, rfl, OwnS.nil _ _, Frag.le_refl _⟩ ?_
                rintro F' R₄ As' m ⟨i, o, e, hi, rfl, rfl, rfl, hown, hle4⟩
                refine HC_seq ?_
                refine HC_region ?_
                refine HL_lss (by rfl) (by rfl) (by rfl) ?_
                refine HL_nil ?_
                refine HQ_then ?_
                refine HC_seq ?_
                refine HC_cond (by rfl) (fun ht81 => ?_) (fun ht81 => ?_)
                · have hlt : i < nums.length := by simpa using ht81
                  obtain ⟨b, off, rfl, hrd⟩ := SlR.at hl3 (i := i) (by simpa [fltCells] using hlt)
                  simp only [fltCells, List.getElem_map] at hrd
                  have hrd2 := hrd.mono hle4
                  have hbk : ((nums[i].toNat : Nat) : Int) = nums[i] := by
                    have hb := hnr _ (List.getElem_mem hlt)
                    omega
                  refine HC_skip ?_
                  refine HQ_then ?_
                  refine HC_seq ?_
                  refine HC_block ?_
                  refine HC_seq ?_
                  refine HC_region ?_
                  refine HL_indexAddr (by rfl) Tryz.underlying190 ty143 (by rfl) (by rfl) hlt ?_
                  refine HL_load_one (by rfl) ty143 (by rfl) (by first | exact Rd.own (by repeat (first | exact Mem.here | apply Mem.there)) (by rfl) | exact RdR.rd (by assumption)) ?_
                  refine HL_assign (by rfl) (by rfl) ?_
                  refine HL_nil ?_
                  refine HQ_then ?_
                  refine HC_drawH 5 2 (fun jj R v => match jj with | 0 => v = .pointer (some ⟨b3, 3, none⟩) | 1 => v = o | 2 => v = .float .f64 nums[i].toNat | 3 => v = .int .u64 nums[i] | 4 => ∃ bn, v = .slice (some ⟨bn, 0, none⟩) 1 1 ∧ RdR R bn 0 1 [.int .u64 nums[i]] | _ => True) [(0, []), (1, [(0, 84)]), (2, []), (3, [(2, 86)]), (4, [(3, 87)])] [(0, 84), (1, 85), (2, 86), (3, 87), (4, 88)] (by kernel_rfl) (by kernel_rfl) (by kernel_rfl) (by rfl) (by decide) (by rfl) (by kernel_rfl) (by kernel_rfl) (by kernel_rfl) (by kernel_rfl) (by intro c d v a w h; cases d <;> exact h) ?_ ?_ ?_
                  · intro j R R' v hle h; match j, h with | 0, h => exact h | 1, h => exact h | 2, h => exact h | 3, h => exact h | 4, ⟨bn, e, hd⟩ => exact ⟨bn, e, hd.mono hle⟩ | _ + 5, h => exact h
                  · refine ⟨?_, ?_, ?_, ?_, ?_, trivial⟩
                    · intro R1 G hle
                      refine HL_fieldAddr (by rfl) f65_3 (by rfl) ?_
                      refine HL_nil ?_
                      exact HQ_dq1 (Frag.le_refl _) rfl .refl
                    · intro R1 G hle; rintro _ rfl
                      refine HL_load_one (by rfl) ty49 (by rfl) (by first | exact Rd.own (by repeat (first | exact Mem.here | apply Mem.there)) (by rfl) | exact RdR.rd (by assumption)) ?_
                      refine HL_nil ?_
                      exact HQ_dq1 (Frag.le_refl _) rfl .refl
                    · intro R1 G hle
                      refine HL_move (by rfl) (by rfl) ?_
                      refine HL_nil ?_
                      exact HQ_dq1 (Frag.le_refl _) rfl .refl
                    · intro R1 G hle; rintro _ rfl
                      refine HL_extern (vs := [.float .f64 nums[i].toNat]) (by rfl) (by rfl) (fun w => run177 nums[i].toNat w) ?_
                      refine HL_eq (show Value.int .u64 ((nums[i].toNat : Nat) : Int) = .int .u64 nums[i] by rw [hbk]) ?_
                      refine HL_nil ?_
                      exact HQ_dq1 (Frag.le_refl _) rfl .refl
                    · intro R1 G hle; rintro _ rfl
                      refine HL_buildSlice1 (by rfl) Tryz.underlying49 ty48 z48 (by rfl) (by rfl) (vs := [_]) (by rfl) (by rfl) (fun bn => ?_)
                      refine HL_nil ?_
                      refine HQ_seal .here (fun R' hle' hb => ?_)
                      exact HQ_dq1 hle' ⟨bn, rfl, _, _, _, hb, by rfl⟩ .refl
                  · intro R1 hle; rintro _ rfl _ rfl _ rfl _ rfl _ ⟨bn, rfl, hrdn⟩
                    refine HL_append (by rfl) Tryz.underlying49 ty48 z48 by48 (by rfl) (by rfl) (by rfl) hown (by repeat (first | exact Pl.here | apply Pl.there)) (by rfl) (m := 1) (ys := [.int .u64 nums[i]]) hrdn.rd (by rfl) (maxLen_big _ (by omega)) (by omega) ?_
                    intro o' e' hown'
                    have hone' : ones [o'] = true := hown'.one
                    refine HL_fieldAddr (by rfl) f65_3 (by rfl) ?_
                    refine HL_store (vs := [o']) ty49 (by rfl) (by rfl) hown'.cells hone' (by repeat (first | exact Sel.here | apply Sel.there)) (by rfl) ?_
                    refine HL_nil ?_
                    refine HQ_block ?_
                    refine HQ_then ?_
                    refine HC_region ?_
                    refine HL_add (by rfl) (by rfl) (by rfl) (by omega) (by omega) ?_
                    refine HL_move (by rfl) (by rfl) ?_
                    refine HL_nil ?_
                    refine HQ_loop [(78, .slice _ nums.length k0), (79, .int .i64 (nums.length : Int)), (80, .int .i64 (((i + 1 : Nat) : Int))), (1, .pointer (some ⟨b1, 0, none⟩)), (2, .pointer (some ⟨b2, 0, none⟩)), (3, .pointer (some ⟨b3, 0, none⟩))] _ (nums.length - (i + 1)) (by omega) ⟨rfl, rfl, rfl, rfl, rfl, rfl, trivial⟩ (.refl _) ⟨i + 1, o', e', by omega, rfl, rfl, rfl, ?_, Frag.le_trans hle4 hle⟩
                    rw [List.take_add_one, List.getElem?_eq_getElem hlt]
                    simp only [Option.toList, numCells, List.map_append, List.map_cons, List.map_nil, List.flatten_append, List.flatten_cons, List.flatten_nil, List.append_nil] at hown' ⊢
                    exact hown'
                · have hge : i = nums.length := by simp at ht81; omega
                  subst hge
                  refine HC_exit ?_
                  refine HQ_then_exit ?_
                  refine HQ_then_exit ?_
                  refine HQ_block_same ?_
                  rw [List.take_of_length_le (Nat.le_refl _)] at hown
                  refine HQ_sealS (by repeat (first | exact Out.here | apply Out.there)) hown (by simp [numCells]) (by simp [numCells]) (fun R₅ hle5 hsl => ?_)
                  obtain ⟨q5, c5, rfl, _⟩ := id hsl
                  refine HQ_block ?_
                  refine HQ_then ?_
                  refine HC_seq ?_
                  refine HC_region ?_
                  refine HL_load_agg (by rfl) ty65 (by rfl) (vs := [_, _, _, _, _, _, _]) (by first | exact Rd.own (by repeat (first | exact Mem.here | apply Mem.there)) (by rfl) | exact RdR.rd (by assumption)) ?_
                  refine HL_store (vs := [_, _, _, _, _, _, _]) ty65 (by rfl) (by rfl) (by rfl) (by rfl) (by repeat (first | exact Sel.here | apply Sel.there)) (by rfl) ?_
                  refine HL_nil ?_
                  refine HQ_then ?_
                  refine HC_ret ?_
                  refine HQ_ret_cell (.inl rfl) (by rfl) (by rfl) ty65 (vs := [_, _, _, _, _, _, _]) (by first | exact Rd.own (by repeat (first | exact Mem.here | apply Mem.there)) (by rfl) | exact RdR.rd (by assumption)) ?_
                  exact fun w hs => ret_pure hs (by repeat (first | exact Tail.refl | apply Tail.cons)) (Frag.le_trans hle2 (Frag.le_trans hle3 (Frag.le_trans hle4 hle5))) ⟨_, rfl, by
                    subst en
                    subst etexts
                    subst ekids
                    subst epairs
                    have et2 := size0 et; subst et2
                    exact .of hsl (txt0 _) (.nil0 _) (.nil0 _)⟩
              · have hn7 : k ≠ 7 := by simpa using ht75
                refine HC_seq ?_
                refine HC_region ?_
                refine HL_eql_int (by rfl) (by rfl) (by rfl) ?_
                refine HL_assign (by rfl) (by rfl) ?_
                refine HL_nil ?_
                refine HQ_then ?_
                refine HC_cond (by rfl) (fun ht92 => ?_) (fun ht92 => ?_)
                · have hk8 : k = 8 := by simpa using ht92
                  subst hk8
                  have en : n = 0 := by simpa using g1
                  have et : t.size = 0 := by simpa using g2
                  have enums : nums = [] := by simpa using g3
                  have ekids : kids = [] := by simpa using g5
                  have epairs : pairs = [] := by simpa using g6
                  obtain ⟨s, rfl, hs0⟩ := p8 rfl
                  refine HC_region ?_
                  refine HL_load_agg (by rfl) ty95 (by rfl) (vs := [_, _, _, _]) (.own (by repeat (first | exact Mem.here | apply Mem.there)) (by rfl)) ?_
                  refine HL_call (by rfl) is182 (by rfl) (asl182 (by rfl) ((hs0.mono hle1).mono hle2) (by simp [txtCells]; omega) (by simp [txtCells]) (by simp [txtCells, ones, Value.oneCell']) _ _) ?_
                  rintro v R₃ As1 ⟨rfl, hle3, hl3⟩
                  obtain ⟨q0, k0, rfl, _⟩ := id hl3
                  refine HL_fieldAddr (by rfl) f65_4 (by rfl) ?_
                  refine HL_store (vs := [_]) ty31 (by rfl) (by rfl) (by rfl) (by rfl) (by repeat (first | exact Sel.here | apply Sel.there)) (by rfl) ?_
                  refine HL_nil ?_
                  refine HQ_block ?_
                  refine HQ_then ?_
                  refine HC_seq ?_
                  refine HC_region ?_
                  refine HL_load_agg (by rfl) ty65 (by rfl) (vs := [_, _, _, _, _, _, _]) (by first | exact Rd.own (by repeat (first | exact Mem.here | apply Mem.there)) (by rfl) | exact RdR.rd (by assumption)) ?_
                  refine HL_store (vs := [_, _, _, _, _, _, _]) ty65 (by rfl) (by rfl) (by rfl) (by rfl) (by repeat (first | exact Sel.here | apply Sel.there)) (by rfl) ?_
                  refine HL_nil ?_
                  refine HQ_then ?_
                  refine HC_ret ?_
                  refine HQ_ret_cell (.inl rfl) (by rfl) (by rfl) ty65 (vs := [_, _, _, _, _, _, _]) (by first | exact Rd.own (by repeat (first | exact Mem.here | apply Mem.there)) (by rfl) | exact RdR.rd (by assumption)) ?_
                  exact fun w hs => ret_pure hs (by repeat (first | exact Tail.refl | apply Tail.cons)) (Frag.le_trans hle2 hle3) ⟨_, rfl, by
                    subst en
                    subst enums
                    subst ekids
                    subst epairs
                    have et2 := size0 et; subst et2
                    exact .of (num0 _) hl3 (.nil0 _) (.nil0 _)⟩
                · have hn8 : k ≠ 8 := by simpa using ht92
                  refine HC_seq ?_
                  refine HC_region ?_
                  refine HL_eql_int (by rfl) (by rfl) (by rfl) ?_
                  refine HL_assign (by rfl) (by rfl) ?_
                  refine HL_nil ?_
                  refine HQ_then ?_
                  refine HC_cond (by rfl) (fun ht97 => ?_) (fun ht97 => ?_)
                  · have hk9 : k = 9 := by simpa using ht97
                    subst hk9
                    have en : n = 0 := by simpa using g1
                    have enums : nums = [] := by simpa using g3
                    have etexts : texts = [] := by simpa using g4
                    have ekids : kids = [] := by simpa using g5
                    have epairs : pairs = [] := by simpa using g6
                    skip
                    refine HC_region ?_
                    refine HL_load_agg (by rfl) ty95 (by rfl) (vs := [_, _, _, _]) (.own (by repeat (first | exact Mem.here | apply Mem.there)) (by rfl)) ?_
                    refine HL_call (by rfl) is183 (by rfl) (asByteSlice R₂ t _ _ _ _) ?_
                    rintro v R₃ As1 ⟨rfl, hle3, b, cap, rfl, hrdb⟩
                    refine HL_bytesStr (by rfl) Tryz.underlying55 Tryz.underlying5 Tryz.underlying9 (by rfl) hrdb.rd ?_
                    refine HL_eq (show Value.string ⟨(kb t).toArray⟩ = .string t by rw [kb_back]) ?_
                    refine HL_fieldAddr (by rfl) f65_2 (by rfl) ?_
                    refine HL_store (vs := [_]) ty9 (by rfl) (by rfl) (by rfl) (by rfl) (by repeat (first | exact Sel.here | apply Sel.there)) (by rfl) ?_
                    refine HL_nil ?_
                    refine HQ_block ?_
                    refine HQ_then ?_
                    refine HC_seq ?_
                    refine HC_region ?_
                    refine HL_load_agg (by rfl) ty65 (by rfl) (vs := [_, _, _, _, _, _, _]) (by first | exact Rd.own (by repeat (first | exact Mem.here | apply Mem.there)) (by rfl) | exact RdR.rd (by assumption)) ?_
                    refine HL_store (vs := [_, _, _, _, _, _, _]) ty65 (by rfl) (by rfl) (by rfl) (by rfl) (by repeat (first | exact Sel.here | apply Sel.there)) (by rfl) ?_
                    refine HL_nil ?_
                    refine HQ_then ?_
                    refine HC_ret ?_
                    refine HQ_ret_cell (.inl rfl) (by rfl) (by rfl) ty65 (vs := [_, _, _, _, _, _, _]) (by first | exact Rd.own (by repeat (first | exact Mem.here | apply Mem.there)) (by rfl) | exact RdR.rd (by assumption)) ?_
                    exact fun w hs => ret_pure hs (by repeat (first | exact Tail.refl | apply Tail.cons)) (Frag.le_trans hle2 hle3) ⟨_, rfl, by
                      subst en
                      subst enums
                      subst etexts
                      subst ekids
                      subst epairs
                      exact .of (num0 _) (txt0 _) (.nil0 _) (.nil0 _)⟩
                  · have hn9 : k ≠ 9 := by simpa using ht97
                    refine HC_seq ?_
                    refine HC_region ?_
                    refine HL_eql_int (by rfl) (by rfl) (by rfl) ?_
                    refine HL_assign (by rfl) (by rfl) ?_
                    refine HL_nil ?_
                    refine HQ_then ?_
                    refine HC_cond (by rfl) (fun ht103 => ?_) (fun ht103 => ?_)
                    · have hk10 : k = 10 := by simpa using ht103
                      subst hk10
                      have en : n = 0 := by simpa using g1
                      have et : t.size = 0 := by simpa using g2
                      have enums : nums = [] := by simpa using g3
                      have etexts : texts = [] := by simpa using g4
                      have epairs : pairs = [] := by simpa using g6
                      obtain ⟨s, es, rfl, hs0, hesl, hesr⟩ := p10 rfl
                      refine HC_seq ?_
                      refine HC_region ?_
                      refine HL_load_agg (by rfl) ty95 (by rfl) (vs := [_, _, _, _]) (.own (by repeat (first | exact Mem.here | apply Mem.there)) (by rfl)) ?_
                      refine HL_call (by rfl) is184 (by rfl) (asl184 (by rfl) ((hs0.mono hle1).mono hle2) (by omega) (fun c hc => (repA_ones hesl hesr c hc).1) (fun c hc => (repA_ones hesl hesr c hc).2) _ _) ?_
                      rintro v R₃ As1 ⟨rfl, hle3, hl3⟩
                      obtain ⟨q0, k0, rfl, _⟩ := id hl3
                      rw [hesl] at hl3 ⊢
                      refine HL_len_slice (by rfl) Tryz.underlying194 (by rfl) ?_
                      refine HL_move (by rfl) (by rfl) ?_
                      refine HL_nil ?_
                      refine HQ_then ?_
                      refine HC_emp ?_
                      refine HC_block ?_
                      refine HC_loop (fun F' R' As' m => ∃ (i : Nat) (o : Value) (e : Ent) (fs : List (List Value)), i ≤ kids.length ∧ kids.length - i = m ∧ F' = [(106, .slice q0 kids.length k0), (107, .int .i64 (kids.length : Int)), (108, .int .i64 ((i : Int))), (1, .pointer (some ⟨b1, 0, none⟩)), (2, .pointer (some ⟨b2, 0, none⟩)), (3, .pointer (some ⟨b3, 0, none⟩))] ∧ As' = e :: blk b3 [.int .u8 10, .int .u64 0, .string ⟨#[]⟩, .slice none 0 0, .slice none 0 0, o, .slice none 0 0] 65 :: blk b2 [.int .u8 0, .int .u64 0, .string ⟨#[]⟩, .slice none 0 0, .slice none 0 0, .slice none 0 0, .slice none 0 0] 65 :: blk b1 [.int .i64 10, .int .u64 n, .string t, .iface 194 s] 95 :: As ∧ fs.length = i ∧ OwnS 65 7 o i fs.flatten e ∧ Frag.le R₃ R' ∧ (∀ (j : Nat) c q, fs[j]? = some c → kids[j]? = some q → RepV R' q c)) [(106, .slice q0 kids.length k0), (107, .int .i64 (kids.length : Int)), (108, .int .i64 (0)), (1, .pointer (some ⟨b1, 0, none⟩)), (2, .pointer (some ⟨b2, 0, none⟩)), (3, .pointer (some ⟨b3, 0, none⟩))] (.emp :: blk b3 [.int .u8 10, .int .u64 0, .string ⟨#[]⟩, .slice none 0 0, .slice none 0 0, .slice none 0 0, .slice none 0 0] 65 :: blk b2 [.int .u8 0, .int .u64 0, .string ⟨#[]⟩, .slice none 0 0, .slice none 0 0, .slice none 0 0, .slice none 0 0] 65 :: blk b1 [.int .i64 10, .int .u64 n, .string t, .iface 194 s] 95 :: As) kids.length ⟨rfl, rfl, rfl, rfl, rfl, rfl, trivial⟩ (.refl _) ⟨0, _, _, [], by omega, by omega, rfl, rfl, rfl, OwnS.nil _ _, Frag.le_refl _, by simp⟩ ?_
                      rintro F' R₄ As' m ⟨i, o, e, fs, hi, rfl, rfl, rfl, hfs, hown, hle4, hrep⟩
                      refine HC_seq ?_
                      refine HC_region ?_
                      refine HL_lss (by rfl) (by rfl) (by rfl) ?_
                      refine HL_nil ?_
                      refine HQ_then ?_
                      refine HC_seq ?_
                      refine HC_cond (by rfl) (fun ht109 => ?_) (fun ht109 => ?_)
                      · have hlt : i < kids.length := by simpa using ht109
                        have hki : kids[i]? = some kids[i] := by simp [hlt]
                        obtain ⟨b, off, rfl, hrd⟩ := SlR.at hl3 (i := i) (by omega)
                        have hke := hesr i _ _ (List.getElem?_eq_getElem (by omega)) hki
                        have hcall := hkids _ (List.getElem_mem hlt) _ _ hke
                        have hel := hke.four
                        generalize es[i] = ce at hrd hcall hel
                        obtain ⟨c0, c1, c2, c3, rfl, hones⟩ := hel
                        have hrd2 := hrd.mono hle4
                        refine HC_skip ?_
                        refine HQ_then ?_
                        refine HC_seq ?_
                        refine HC_block ?_
                        refine HC_seq ?_
                        refine HC_region ?_
                        refine HL_indexAddr (by rfl) Tryz.underlying194 ty95 (by rfl) (by rfl) hlt ?_
                        refine HL_load_agg (by rfl) ty95 (by rfl) (vs := [c0, c1, c2, c3]) hrd2.rd ?_
                        refine HL_alloc (by rfl) z95 (by rfl) (fun b11 => ?_)
                        refine HL_store (vs := [c0, c1, c2, c3]) ty95 (by rfl) (by rfl) (by rfl) hones (by repeat (first | exact Sel.here | apply Sel.there)) (by rfl) ?_
                        refine HL_nil ?_
                        refine HQ_then ?_
                        refine HC_drawH 5 2 (fun jj R v => match jj with | 0 => v = .pointer (some ⟨b3, 5, none⟩) | 1 => v = o | 2 => v = .agg [c0, c1, c2, c3].toArray | 3 => ∃ cs, v = .agg cs.toArray ∧ RepV R kids[i] cs | 4 => ∃ bn cs, v = .slice (some ⟨bn, 0, none⟩) 1 1 ∧ RdR R bn 0 7 cs ∧ RepV R kids[i] cs | _ => True) [(0, []), (1, [(0, 112)]), (2, []), (3, [(2, 114)]), (4, [(3, 115)])] [(0, 112), (1, 113), (2, 114), (3, 115), (4, 116)] (by kernel_rfl) (by kernel_rfl) (by kernel_rfl) (by rfl) (by decide) (by rfl) (by kernel_rfl) (by kernel_rfl) (by kernel_rfl) (by kernel_rfl) (by intro c d v a w h; cases d <;> exact h) ?_ ?_ ?_
                        · intro j R R' v hle h; match j, h with | 0, h => exact h | 1, h => exact h | 2, h => exact h | 3, ⟨cs, e, hr⟩ => exact ⟨cs, e, hr.mono hle⟩ | 4, ⟨bn, cs, e, hd, hr⟩ => exact ⟨bn, cs, e, hd.mono hle, hr.mono hle⟩ | _ + 5, h => exact h
                        · refine ⟨?_, ?_, ?_, ?_, ?_, trivial⟩
                          · intro R1 G hle
                            refine HL_fieldAddr (by rfl) f65_5 (by rfl) ?_
                            refine HL_nil ?_
                            exact HQ_dq1 (Frag.le_refl _) rfl .refl
                          · intro R1 G hle; rintro _ rfl
                            refine HL_load_one (by rfl) ty63 (by rfl) (by first | exact Rd.own (by repeat (first | exact Mem.here | apply Mem.there)) (by rfl) | exact RdR.rd (by assumption)) ?_
                            refine HL_nil ?_
                            exact HQ_dq1 (Frag.le_refl _) rfl .refl
                          · intro R1 G hle
                            refine HL_load_agg (by rfl) ty95 (by rfl) (vs := [_, _, _, _]) (by first | exact Rd.own (by repeat (first | exact Mem.here | apply Mem.there)) (by rfl) | exact RdR.rd (by assumption)) ?_
                            refine HL_nil ?_
                            exact HQ_dq1 (Frag.le_refl _) rfl .refl
                          · intro R1 G hle; rintro _ rfl
                            refine HL_call (by rfl) is106 (by rfl) (hcall R1 (Frag.le_trans hle1 (Frag.le_trans hle2 (Frag.le_trans hle3 (Frag.le_trans hle4 hle)))) _ _) ?_
                            rintro v R' As' ⟨rfl, hle', cs, rfl, hr⟩
                            refine HL_nil ?_
                            exact HQ_dq1 hle' ⟨cs, rfl, hr⟩ .refl
                          · intro R1 G hle; rintro _ ⟨cs5, rfl, hr5⟩
                            obtain ⟨d0, d1, d2, d3, d4, d5, d6, rfl, hod⟩ := hr5.seven
                            refine HL_buildSlice1 (by rfl) Tryz.underlying63 ty65 z65 (by rfl) (by rfl) (vs := [_, _, _, _, _, _, _]) (by rfl) (by rfl) (fun bn => ?_)
                            refine HL_nil ?_
                            refine HQ_seal .here (fun R' hle' hb => ?_)
                            exact HQ_dq1 hle' ⟨bn, _, rfl, ⟨_, _, _, hb, by rfl⟩, hr5.mono hle'⟩ .refl
                        · intro R1 hle; rintro _ rfl _ rfl _ rfl _ ⟨cs5, rfl, hr5⟩ _ ⟨bn, cs', rfl, hrdn, hrepv⟩
                          have hle6 := hle
                          obtain ⟨d0, d1, d2, d3, d4, d5, d6, rfl, hod⟩ := hrepv.seven
                          obtain ⟨cs', hcs'⟩ : ∃ cs', cs' = [d0, d1, d2, d3, d4, d5, d6] := ⟨_, rfl⟩
                          rw [← hcs'] at hrepv
                          refine HL_append (by rfl) Tryz.underlying63 ty65 z65 by65 (by rfl) (by rfl) (by rfl) hown (by repeat (first | exact Pl.here | apply Pl.there)) (by rfl) (m := 1) (hrdn.rd) hod (maxLen_big _ (by omega)) (by omega) ?_
                          intro o' e' hown'
                          rw [← hcs'] at hown'
                          have hone' : ones [o'] = true := hown'.one
                          refine HL_fieldAddr (by rfl) f65_5 (by rfl) ?_
                          refine HL_store (vs := [o']) ty63 (by rfl) (by rfl) hown'.cells hone' (by repeat (first | exact Sel.here | apply Sel.there)) (by rfl) ?_
                          refine HL_nil ?_
                          refine HQ_block ?_
                          refine HQ_then ?_
                          refine HC_region ?_
                          refine HL_add (by rfl) (by rfl) (by rfl) (by omega) (by omega) ?_
                          refine HL_move (by rfl) (by rfl) ?_
                          refine HL_nil ?_
                          refine HQ_drop .here ?_
                          refine HQ_loop [(106, .slice _ kids.length k0), (107, .int .i64 (kids.length : Int)), (108, .int .i64 (((i + 1 : Nat) : Int))), (1, .pointer (some ⟨b1, 0, none⟩)), (2, .pointer (some ⟨b2, 0, none⟩)), (3, .pointer (some ⟨b3, 0, none⟩))] _ (kids.length - (i + 1)) (by omega) ⟨rfl, rfl, rfl, rfl, rfl, rfl, trivial⟩ (.refl _) ⟨i + 1, o', e', fs ++ [cs'], by omega, rfl, rfl, rfl, by simp [hfs], hown'.snoc, Frag.le_trans hle4 hle6, ?_⟩
                          intro j c q hc hq
                          rcases getElem?_snoc hfs hc with ⟨_, h⟩ | ⟨rfl, rfl⟩
                          · exact (hrep j c q h hq).mono hle6
                          · rw [hki] at hq; injection hq with hq; subst hq; exact hrepv
                      · have hge : i = kids.length := by simp at ht109; omega
                        subst hge
                        refine HC_exit ?_
                        refine HQ_then_exit ?_
                        refine HQ_then_exit ?_
                        refine HQ_block_same ?_
                        refine HQ_sealS (by repeat (first | exact Out.here | apply Out.there)) hown hfs.symm (rep_len hfs hrep) (fun R₅ hle5 hsl => ?_)
                        obtain ⟨q5, c5, rfl, _⟩ := id hsl
                        refine HQ_block ?_
                        refine HQ_then ?_
                        refine HC_seq ?_
                        refine HC_region ?_
                        refine HL_load_agg (by rfl) ty65 (by rfl) (vs := [_, _, _, _, _, _, _]) (by first | exact Rd.own (by repeat (first | exact Mem.here | apply Mem.there)) (by rfl) | exact RdR.rd (by assumption)) ?_
                        refine HL_store (vs := [_, _, _, _, _, _, _]) ty65 (by rfl) (by rfl) (by rfl) (by rfl) (by repeat (first | exact Sel.here | apply Sel.there)) (by rfl) ?_
                        refine HL_nil ?_
                        refine HQ_then ?_
                        refine HC_ret ?_
                        refine HQ_ret_cell (.inl rfl) (by rfl) (by rfl) ty65 (vs := [_, _, _, _, _, _, _]) (by first | exact Rd.own (by repeat (first | exact Mem.here | apply Mem.there)) (by rfl) | exact RdR.rd (by assumption)) ?_
                        exact fun w hs => ret_pure hs (by repeat (first | exact Tail.refl | apply Tail.cons)) (Frag.le_trans hle2 (Frag.le_trans hle3 (Frag.le_trans hle4 hle5))) ⟨_, rfl, by
                          subst en
                          subst enums
                          subst etexts
                          subst epairs
                          have et2 := size0 et; subst et2
                          exact .of (num0 _) (txt0 _) ⟨fs, hsl, hfs, fun j c q a b => (hrep j c q a b).mono hle5⟩ (.nil0 _)⟩
                    · have hn10 : k ≠ 10 := by simpa using ht103
                      refine HC_seq ?_
                      refine HC_region ?_
                      refine HL_eql_int (by rfl) (by rfl) (by rfl) ?_
                      refine HL_assign (by rfl) (by rfl) ?_
                      refine HL_nil ?_
                      refine HQ_then ?_
                      refine HC_cond (by rfl) (fun ht120 => ?_) (fun ht120 => ?_)
                      · have hk11 : k = 11 := by simpa using ht120
                        subst hk11
                        have en : n = 0 := by simpa using g1
                        have et : t.size = 0 := by simpa using g2
                        have enums : nums = [] := by simpa using g3
                        have etexts : texts = [] := by simpa using g4
                        have ekids : kids = [] := by simpa using g5
                        obtain ⟨s, Z, rfl, hs0, hZp⟩ := p11 rfl
                        refine HC_region ?_
                        refine HL_load_agg (by rfl) ty95 (by rfl) (vs := [_, _, _, _]) (.own (by repeat (first | exact Mem.here | apply Mem.there)) (by rfl)) ?_
                        have hZl : Z.length = pairs.length := by have := congrArg List.length hZp; simpa using this
                        refine HL_call (by rfl) is185 (by rfl) (asl185 (by rfl) ((hs0.1.mono hle1).mono hle2) (by simp; omega) (zcA_len hs0.2) (fun c hc => by
                          obtain ⟨z, hz, rfl⟩ := List.mem_map.1 hc
                          exact (zcA_el (hs0.2 z hz)).2.2) _ _) ?_
                        rintro v R₃ As1 ⟨rfl, hle3, hl3⟩
                        refine HL_call (by rfl) is63 (by rfl) (pairsOf_of (R := R₃) (Z := Z) ⟨hl3, fun z hz => ((hs0.2 z hz).mono hle1).mono (Frag.le_trans hle2 hle3)⟩ (by omega) (fun z hz => hpairs z.1 (by rw [← hZp]; exact List.mem_map.2 ⟨z, hz, rfl⟩)) _ _) ?_
                        rintro v R₄ As1 ⟨rfl, hle4, hrp⟩
                        obtain ⟨q0, k0, rfl⟩ := hrp.slice
                        refine HL_fieldAddr (by rfl) f65_6 (by rfl) ?_
                        refine HL_store (vs := [_]) ty27 (by rfl) (by rfl) (by rfl) (by rfl) (by repeat (first | exact Sel.here | apply Sel.there)) (by rfl) ?_
                        refine HL_nil ?_
                        refine HQ_block ?_
                        refine HQ_then ?_
                        refine HC_seq ?_
                        refine HC_region ?_
                        refine HL_load_agg (by rfl) ty65 (by rfl) (vs := [_, _, _, _, _, _, _]) (by first | exact Rd.own (by repeat (first | exact Mem.here | apply Mem.there)) (by rfl) | exact RdR.rd (by assumption)) ?_
                        refine HL_store (vs := [_, _, _, _, _, _, _]) ty65 (by rfl) (by rfl) (by rfl) (by rfl) (by repeat (first | exact Sel.here | apply Sel.there)) (by rfl) ?_
                        refine HL_nil ?_
                        refine HQ_then ?_
                        refine HC_ret ?_
                        refine HQ_ret_cell (.inl rfl) (by rfl) (by rfl) ty65 (vs := [_, _, _, _, _, _, _]) (by first | exact Rd.own (by repeat (first | exact Mem.here | apply Mem.there)) (by rfl) | exact RdR.rd (by assumption)) ?_
                        exact fun w hs => ret_pure hs (by repeat (first | exact Tail.refl | apply Tail.cons)) (Frag.le_trans hle2 (Frag.le_trans hle3 hle4)) ⟨_, rfl, by
                          subst en
                          subst enums
                          subst etexts
                          subst ekids
                          have et2 := size0 et; subst et2
                          rw [hZp] at hrp ⊢
                          exact .of (num0 _) (txt0 _) (.nil0 _) hrp⟩
                      · have hn11 : k ≠ 11 := by simpa using ht120
                        refine HC_skip ?_
                        refine HQ_block ?_
                        refine HQ_then ?_
                        refine HC_seq ?_
                        refine HC_region ?_
                        refine HL_load_agg (by rfl) ty65 (by rfl) (vs := [_, _, _, _, _, _, _]) (by first | exact Rd.own (by repeat (first | exact Mem.here | apply Mem.there)) (by rfl) | exact RdR.rd (by assumption)) ?_
                        refine HL_store (vs := [_, _, _, _, _, _, _]) ty65 (by rfl) (by rfl) (by rfl) (by rfl) (by repeat (first | exact Sel.here | apply Sel.there)) (by rfl) ?_
                        refine HL_nil ?_
                        refine HQ_then ?_
                        refine HC_ret ?_
                        refine HQ_ret_cell (.inl rfl) (by rfl) (by rfl) ty65 (vs := [_, _, _, _, _, _, _]) (by first | exact Rd.own (by repeat (first | exact Mem.here | apply Mem.there)) (by rfl) | exact RdR.rd (by assumption)) ?_
                        exact fun w hs => ret_pure hs (by repeat (first | exact Tail.refl | apply Tail.cons)) hle2 ⟨_, rfl, by
                          have hk1 : k = 0 := by omega
                          subst hk1
                          have en : n = 0 := by simpa using g1
                          have et : t.size = 0 := by simpa using g2
                          have enums : nums = [] := by simpa using g3
                          have etexts : texts = [] := by simpa using g4
                          have ekids : kids = [] := by simpa using g5
                          have epairs : pairs = [] := by simpa using g6
                          subst en
                          subst enums
                          subst etexts
                          subst ekids
                          subst epairs
                          have et2 := size0 et; subst et2
                          exact .of (num0 _) (txt0 _) (.nil0 _) (.nil0 _)⟩
/-- valueOf. -/
theorem told {v : V} (hok : Ok v) : ToldC v := by
  induction hok with
  | mk hk hn _ hnl hnr htl _ hkl hpl _ _ _ g1 g2 g3 g4 g5 g6 g7 g8 ihk ihp =>
    intro R cs h
    obtain ⟨f, rfl, hof, p5, p6, p7, p8, p10, p11, _⟩ := h.parts
    exact told_of hk hn hnl hnr htl hkl hpl g1 g2 g3 g4 g5 g6 g7 g8 hof p5 p6 p7 p8 p10 p11 ihk ihp
/-- pairsOf: what goes in comes out. -/
theorem pairsOf {R : Frag} {v : Value} {Z : List (Pr × List Value)} (h : RepQ R v Z) (hok : OkP (Z.map (·.1))) : Pure Tryz.prog 63 [v] R (fun R' r => RepP R' r (Z.map (·.1))) :=
  pairsOf_of h (by have := hok.1; simp at this; omega) (fun z hz => told (hok.2 z.1 (List.mem_map.2 ⟨z, hz, rfl⟩)).2)
end Go.Sx

/-! The package: the digest takes bytes in. Printed by a program of ours (wip/tools/gM16.py) out of the steps of the code. -/
namespace Go.Sx
open Go Go.Proofs Go.RowKit

/-- A digest of the call's own, that has taken some bytes in. -/
def Dig (dg : Nat) (bs : List UInt8) (As As0 : List Ent) : Prop := ∃ o e, As = e :: blk dg [o] 276 :: As0 ∧ OwnS 5 1 o bs.length (bcells bs) e
theorem pl276 : Plc Tryz.prog 276 [(0, 1)] := ⟨_, Tryz.underlying276, by kernel_rfl⟩
theorem pl168 : Plc Tryz.prog 168 [(0, 1)] := ⟨_, Tryz.underlying168, by kernel_rfl⟩
theorem bcells_append (a b : List UInt8) : bcells a ++ bcells b = bcells (a ++ b) := by simp [bcells]
theorem kb_len (s : ByteArray) : (kb s).length = s.size := rfl
theorem zzNew (E : Env) (R : Frag) (As : List Ent) : Tri Tryz.prog 191 [] E R As (fun r R' As' => Frag.le R R' ∧ ∃ dg, r = .pointer (some ⟨dg, 0, none⟩) ∧ Dig dg [] As' As) := by
  refine Tri_enter Tryz.func191 (by rfl) (by rfl) (by rfl) _ _ ?_
  refine HC_seq ?_
  refine HC_region ?_
  refine HL_assign (by rfl) (by rfl) ?_
  refine HL_nil ?_
  refine HQ_then ?_
  refine HC_seq ?_
  refine HC_region ?_
  refine HL_build (by rfl) z276 pl276 (by rfl) (qs := []) (by rfl) (cs := [_]) (by rfl) ?_
  refine HL_box (by rfl) (by rfl) (vs := [_]) (by rfl) (fun b2 => ?_)
  refine HL_assign (by rfl) (by rfl) ?_
  refine HL_nil ?_
  refine HQ_then ?_
  refine HC_ret ?_
  refine HQ_ret (.inl rfl) _ (fun a w ha hs => run_results_tmp (by rfl) (by rfl) a w ha) ?_
  exact fun w hs => ⟨_, _, _, rfl, hs.emp, Frag.le_refl _, b2, rfl, _, _, rfl, OwnS.nil _ _⟩
theorem hashNew (E : Env) (R : Frag) (As : List Ent) : Tri Tryz.prog 124 [] E R As (fun r R' As' => Frag.le R R' ∧ ∃ dg, r = .agg #[.pointer (some ⟨dg, 0, none⟩)] ∧ Dig dg [] As' As) := by
  refine Tri_enter Tryz.func124 (by rfl) (by rfl) (by rfl) _ _ ?_
  refine HC_seq ?_
  refine HC_region ?_
  refine HL_alloc (by rfl) z168 (by rfl) (fun b0 => ?_)
  refine HL_nil ?_
  refine HQ_then ?_
  refine HC_seq ?_
  refine HC_region ?_
  refine HL_call (by rfl) is191 (by rfl) (zzNew E R _) ?_
  rintro v R₂ As1 ⟨hle, dg, rfl, o, e, rfl, hown⟩
  refine HL_build (by rfl) z168 pl168 (by rfl) (qs := [[_]]) (by rfl) (cs := [_]) (by rfl) ?_
  refine HL_store (vs := [_]) ty168 (by rfl) (by rfl) (by rfl) (by rfl) (by repeat (first | exact Sel.here | apply Sel.there)) (by rfl) ?_
  refine HL_nil ?_
  refine HQ_then ?_
  refine HC_ret ?_
  refine HQ_ret_cell (.inl rfl) (by rfl) (by rfl) ty168 (vs := [_]) (by first | exact Rd.own (by repeat (first | exact Mem.here | apply Mem.there)) (by rfl) | exact RdR.rd (by assumption)) ?_
  exact fun w hs => ⟨_, _, _, rfl, hs.drop (.there (.there .here)), hle, dg, rfl, o, e, rfl, hown⟩
theorem writeString {dg : Nat} {bs : List UInt8} {s : ByteArray} (hs : s.size ≤ 100000000) {o : Value} {e : Ent} (hown : OwnS 5 1 o bs.length (bcells bs) e) (hl : bs.length ≤ 100000000) (E : Env) (R : Frag) (As : List Ent) :
    Tri Tryz.prog 240 [.pointer (some ⟨dg, 0, none⟩), .string s] E R (e :: blk dg [o] 276 :: As) (fun r R' As' => Frag.le R R' ∧ r = .tuple #[.int .i64 (s.size : Int), .nilIface] ∧ Dig dg (bs ++ kb s) As' As) := by
  refine Tri_enter Tryz.func240 (by rfl) (by rfl) (by rfl) _ _ ?_
  refine HC_seq ?_
  refine HC_region ?_
  refine HL_assign (by rfl) (by rfl) ?_
  refine HL_assign (by rfl) (by rfl) ?_
  refine HL_nil ?_
  refine HQ_then ?_
  refine HC_seq ?_
  refine HC_region ?_
  refine HL_move (by rfl) (by rfl) ?_
  refine HL_move (by rfl) (by rfl) ?_
  refine HL_nilCheck (by rfl) (by rfl) ?_
  refine HL_fieldAddr (by rfl) f276_0 (by rfl) ?_
  refine HL_load_one (by rfl) ty55 (by rfl) (by first | exact Rd.own (by repeat (first | exact Mem.here | apply Mem.there)) (by rfl) | exact RdR.rd (by assumption)) ?_
  refine HL_move (by rfl) (by rfl) ?_
  refine HL_appendS (by rfl) Tryz.underlying55 Tryz.underlying9 ty5 z5 by5 (by rfl) hown (by repeat (first | exact Pl.here | apply Pl.there)) (by rfl) (by omega) ?_
  intro o' e' hown'
  refine HL_nilCheck (by rfl) (by rfl) ?_
  refine HL_fieldAddr (by rfl) f276_0 (by rfl) ?_
  refine HL_store (vs := [o']) ty55 (by rfl) (by rfl) hown'.cells hown'.one (by repeat (first | exact Sel.here | apply Sel.there)) (by rfl) ?_
  refine HL_nil ?_
  refine HQ_then ?_
  refine HC_seq ?_
  refine HC_region ?_
  refine HL_move (by rfl) (by rfl) ?_
  refine HL_len_string (by rfl) Tryz.underlying9 (by rfl) ?_
  refine HL_assign (by rfl) (by rfl) ?_
  refine HL_assign (by rfl) (by rfl) ?_
  refine HL_nil ?_
  refine HQ_then ?_
  refine HC_ret ?_
  refine HQ_ret (.inl rfl) _ (fun a w ha hs => run_results_list (by rfl) (.tmp (by rfl) (.tmp (by rfl) .nil)) (by simp) ha hs) ?_
  exact fun w hs => ⟨_, _, _, rfl, hs, Frag.le_refl _, rfl, _, _, rfl, by simpa [bcells_append, kb_len, *] using hown'⟩
theorem writeBytes {dg : Nat} {bs : List UInt8} {b off n cap : Nat} {s : List UInt8} (hs : n ≤ 100000000) (hn : s.length = n) {o : Value} {e : Ent} (hown : OwnS 5 1 o bs.length (bcells bs) e) (hl : bs.length ≤ 100000000) (E : Env) (R : Frag) (As : List Ent) (hrd : RdR R b off n (bcells s)) :
    Tri Tryz.prog 275 [.pointer (some ⟨dg, 0, none⟩), .slice (some ⟨b, off, none⟩) n cap] E R (e :: blk dg [o] 276 :: As) (fun r R' As' => Frag.le R R' ∧ r = .tuple #[.int .i64 (n : Int), .nilIface] ∧ Dig dg (bs ++ s) As' As) := by
  refine Tri_enter Tryz.func275 (by rfl) (by rfl) (by rfl) _ _ ?_
  refine HC_seq ?_
  refine HC_region ?_
  refine HL_assign (by rfl) (by rfl) ?_
  refine HL_assign (by rfl) (by rfl) ?_
  refine HL_nil ?_
  refine HQ_then ?_
  refine HC_seq ?_
  refine HC_region ?_
  refine HL_move (by rfl) (by rfl) ?_
  refine HL_move (by rfl) (by rfl) ?_
  refine HL_nilCheck (by rfl) (by rfl) ?_
  refine HL_fieldAddr (by rfl) f276_0 (by rfl) ?_
  refine HL_load_one (by rfl) ty55 (by rfl) (by first | exact Rd.own (by repeat (first | exact Mem.here | apply Mem.there)) (by rfl) | exact RdR.rd (by assumption)) ?_
  refine HL_move (by rfl) (by rfl) ?_
  refine HL_append (by rfl) Tryz.underlying55 ty5 z5 by5 (by rfl) (by rfl) (by rfl) hown (by repeat (first | exact Pl.here | apply Pl.there)) (by rfl) (m := n) (ys := bcells s) (by simpa using hrd.rd) (bcells_ones s) (maxLen_big _ (by omega)) (by omega) ?_
  intro o' e' hown'
  refine HL_nilCheck (by rfl) (by rfl) ?_
  refine HL_fieldAddr (by rfl) f276_0 (by rfl) ?_
  refine HL_store (vs := [o']) ty55 (by rfl) (by rfl) hown'.cells hown'.one (by repeat (first | exact Sel.here | apply Sel.there)) (by rfl) ?_
  refine HL_nil ?_
  refine HQ_then ?_
  refine HC_seq ?_
  refine HC_region ?_
  refine HL_move (by rfl) (by rfl) ?_
  refine HL_len_slice (by rfl) Tryz.underlying55 (by rfl) ?_
  refine HL_assign (by rfl) (by rfl) ?_
  refine HL_assign (by rfl) (by rfl) ?_
  refine HL_nil ?_
  refine HQ_then ?_
  refine HC_ret ?_
  refine HQ_ret (.inl rfl) _ (fun a w ha hs => run_results_list (by rfl) (.tmp (by rfl) (.tmp (by rfl) .nil)) (by simp) ha hs) ?_
  exact fun w hs => ⟨_, _, _, rfl, hs, Frag.le_refl _, rfl, _, _, rfl, by simpa [bcells_append, kb_len, *] using hown'⟩
end Go.Sx

/-! Go's library: strings.Builder. Printed by a program of ours (wip/tools/gM28.py) out of the steps of the code. -/
namespace Go.Sx
open Go Go.Proofs Go.RowKit

/-- A builder of the call's own, that has taken some bytes in. -/
def Bld (bb : Nat) (bs : List UInt8) (As As0 : List Ent) : Prop := ∃ p o e, As = e :: blk bb [p, o] 245 :: As0 ∧ (p = .pointer none ∨ p = .pointer (some ⟨bb, 0, none⟩)) ∧ OwnS 5 1 o bs.length (bcells bs) e
theorem lies245 : liesAt Tryz.prog Tryz.prog.depth 245 (2 / Tryz.prog.cellsOf 245) 0 245 1 = true := by kernel_rfl
theorem cellsOf5 : Tryz.prog.cellsOf 5 = 1 := by kernel_rfl
theorem run299 (x : Value) (w : World) : (callFunc 299 #[x]).run Tryz.prog w = .ok (.value x) w := by
  rw [run_callFunc_extern (e := Extern.AbiNoEscape.same) Tryz.func299 (by kernel_rfl) (by kernel_rfl) (by kernel_rfl) (by kernel_rfl)]
  rfl
theorem run303 (n : Nat) (hn : n ≤ 281474976710656) (w : World) : ∃ cs : Array Value, (callFunc 303 #[.int .i64 (n : Int)]).run Tryz.prog w = .ok (.value (.slice (some ⟨w.heap.size, 0, none⟩) n cs.size)) (w.drew.drew.alloc (.cells cs 5)) ∧ n ≤ cs.size ∧ (n ≤ maxLen → cs.size ≤ maxLen) := by
  obtain ⟨cs, h1, h2, h3⟩ := Lib.run_makeNoZero (P := Tryz.prog) w #[3] 55 5 Tryz.underlying55 n hn
  refine ⟨cs, ?_, h2, h3⟩
  rw [run_callFunc_extern (e := Extern.BytealgMakeNoZero.makeNoZero #[3] #[55]) Tryz.func303 (by kernel_rfl) (by kernel_rfl) (by kernel_rfl) (by kernel_rfl), h1]
  rfl
/-- copyCheck. -/
theorem copyCheck {bb : Nat} {p o : Value} (hp : p = .pointer none ∨ p = .pointer (some ⟨bb, 0, none⟩)) (E : Env) (R : Frag) (As : List Ent) : Tri Tryz.prog 267 [.pointer (some ⟨bb, 0, none⟩)] E R (blk bb [p, o] 245 :: As) (fun _ R' As' => Frag.le R R' ∧ As' = blk bb [.pointer (some ⟨bb, 0, none⟩), o] 245 :: As) := by
  obtain ⟨i245, hi245, hs245⟩ := ty245.info
  refine Tri_enter Tryz.func267 (by rfl) (by rfl) (by rfl) _ _ ?_
  refine HC_seq ?_
  rcases hp with rfl | rfl
  · skip
    refine HC_region ?_
    refine HL_move (by rfl) (by rfl) ?_
    refine HL_nilCheck (by rfl) (by rfl) ?_
    refine HL_fieldAddr (by rfl) f245_0 (by rfl) ?_
    refine HL_load_one (by rfl) ty243 (by rfl) (.own (by repeat (first | exact Mem.here | apply Mem.there)) (by rfl)) ?_
    refine HL_eql_ptrNil Tryz.underlying243 (by rfl) (by rfl) (by rfl) ?_
    refine HL_nil ?_
    refine HQ_then ?_
    refine HC_cond_t (by rfl) ?_
    refine HC_region ?_
    refine HL_move (by rfl) (by rfl) ?_
    refine HL_move (by rfl) (by rfl) ?_
    refine HL_toUnsafe (by rfl) Tryz.underlying243 Tryz.underlying331 hi245 (by omega) (by rfl) (.here) (by simp) ?_
    refine HL_extern (vs := [_]) (by rfl) (by rfl) (fun w => run299 _ w) ?_
    refine HL_fromUnsafe (by rfl) Tryz.underlying331 Tryz.underlying243 hi245 (by rfl) (.here) lies245 ?_
    refine HL_nilCheck (by rfl) (by rfl) ?_
    refine HL_fieldAddr (by rfl) f245_0 (by rfl) ?_
    refine HL_store (vs := [_]) ty243 (by rfl) (by rfl) (by rfl) (by rfl) (by repeat (first | exact Sel.here | apply Sel.there)) (by rfl) ?_
    refine HL_nil ?_
    refine HQ_ret (.inr rfl) (.tuple #[]) (fun a w ha hs => run_results_none (by rfl) a w) ?_
    exact fun w hs => ⟨_, _, _, rfl, hs, Frag.le_refl _, rfl⟩
  · skip
    refine HC_region ?_
    refine HL_move (by rfl) (by rfl) ?_
    refine HL_nilCheck (by rfl) (by rfl) ?_
    refine HL_fieldAddr (by rfl) f245_0 (by rfl) ?_
    refine HL_load_one (by rfl) ty243 (by rfl) (.own (by repeat (first | exact Mem.here | apply Mem.there)) (by rfl)) ?_
    refine HL_eql_ptr Tryz.underlying243 (by rfl) (by rfl) (by rfl) ?_
    refine HL_nil ?_
    refine HQ_then ?_
    refine HC_cond_f (by rfl) ?_
    refine HC_seq ?_
    refine HC_region ?_
    refine HL_move (by rfl) (by rfl) ?_
    refine HL_nilCheck (by rfl) (by rfl) ?_
    refine HL_fieldAddr (by rfl) f245_0 (by rfl) ?_
    refine HL_load_one (by rfl) ty243 (by rfl) (.own (by repeat (first | exact Mem.here | apply Mem.there)) (by rfl)) ?_
    refine HL_move (by rfl) (by rfl) ?_
    refine HL_neq_ptrSame Tryz.underlying243 hi245 (by rfl) (by rfl) (by rfl) ?_
    refine HL_nil ?_
    refine HQ_then ?_
    refine HC_cond_f (by rfl) ?_
    refine HC_skip ?_
    refine HQ_ret (.inr rfl) (.tuple #[]) (fun a w ha hs => run_results_none (by rfl) a w) ?_
    exact fun w hs => ⟨_, _, _, rfl, hs, Frag.le_refl _, rfl⟩
theorem bldByte {bb : Nat} {bs : List UInt8} {c : UInt8} {As As0 : List Ent} (hB : Bld bb bs As As0) (hl : bs.length ≤ 100000000) (E : Env) (R : Frag) :
    Tri Tryz.prog 227 [.pointer (some ⟨bb, 0, none⟩), .int .u8 (c.toNat : Int)] E R As (fun r R' As' => Frag.le R R' ∧ r = .nilIface ∧ Bld bb (bs ++ [c]) As' As0) := by
  obtain ⟨p, o, e, rfl, hp, hown⟩ := hB
  refine Tri_enter Tryz.func227 (by rfl) (by rfl) (by rfl) _ _ ?_
  refine HC_seq ?_
  refine HC_region ?_
  refine HL_assign (by rfl) (by rfl) ?_
  refine HL_nil ?_
  refine HQ_then ?_
  refine HC_seq ?_
  refine HC_region ?_
  refine HL_move (by rfl) (by rfl) ?_
  refine HL_perm _ (.swap _ _ _) ?_
  refine HL_call (by rfl) is267 (by rfl) (copyCheck hp E _ _) ?_
  rintro v R₂ As1 ⟨hle2, rfl⟩
  refine HL_perm _ (.swap _ _ _) ?_
  refine HL_nil ?_
  refine HQ_then ?_
  refine HC_seq ?_
  refine HC_region ?_
  refine HL_move (by rfl) (by rfl) ?_
  refine HL_move (by rfl) (by rfl) ?_
  refine HL_nilCheck (by rfl) (by rfl) ?_
  refine HL_fieldAddr (by rfl) f245_1 (by rfl) ?_
  refine HL_load_one (by rfl) ty55 (by rfl) (.own (by repeat (first | exact Mem.here | apply Mem.there)) (by rfl)) ?_
  refine HL_move (by rfl) (by rfl) ?_
  refine HL_buildSlice1 (by rfl) Tryz.underlying55 ty5 z5 (by rfl) (by rfl) (vs := [_]) (by rfl) (by rfl) (fun bn => ?_)
  refine HL_append (by rfl) Tryz.underlying55 ty5 z5 by5 (by rfl) (by rfl) (by rfl) hown (by repeat (first | exact Pl.here | apply Pl.there)) (by rfl) (m := 1) (ys := bcells [c]) (.own (by repeat (first | exact Mem.here | apply Mem.there)) (by rfl)) (bcells_ones _) (maxLen_big _ (by omega)) (by omega) ?_
  intro o' e' hown'
  refine HL_nilCheck (by rfl) (by rfl) ?_
  refine HL_fieldAddr (by rfl) f245_1 (by rfl) ?_
  refine HL_store (vs := [o']) ty55 (by rfl) (by rfl) hown'.cells hown'.one (by repeat (first | exact Sel.here | apply Sel.there)) (by rfl) ?_
  refine HL_nil ?_
  refine HQ_then ?_
  refine HC_seq ?_
  refine HC_region ?_
  refine HL_assign (by rfl) (by rfl) ?_
  refine HL_nil ?_
  refine HQ_then ?_
  refine HC_ret ?_
  refine HQ_ret (.inl rfl) _ (fun a w ha hs => run_results_tmp (by rfl) (by rfl) a w ha) ?_
  exact fun w hs => ⟨_, _, _, rfl, hs.drop .here, hle2, rfl, _, o', e', rfl, .inr rfl, by simpa [bcells_append] using hown'⟩
theorem bldStr {bb : Nat} {bs : List UInt8} {s : ByteArray} (hs0 : s.size ≤ 100000000) {As As0 : List Ent} (hB : Bld bb bs As As0) (hl : bs.length ≤ 100000000) (E : Env) (R : Frag) :
    Tri Tryz.prog 228 [.pointer (some ⟨bb, 0, none⟩), .string s] E R As (fun r R' As' => Frag.le R R' ∧ r = .tuple #[.int .i64 (s.size : Int), .nilIface] ∧ Bld bb (bs ++ kb s) As' As0) := by
  obtain ⟨p, o, e, rfl, hp, hown⟩ := hB
  refine Tri_enter Tryz.func228 (by rfl) (by rfl) (by rfl) _ _ ?_
  refine HC_seq ?_
  refine HC_region ?_
  refine HL_assign (by rfl) (by rfl) ?_
  refine HL_assign (by rfl) (by rfl) ?_
  refine HL_nil ?_
  refine HQ_then ?_
  refine HC_seq ?_
  refine HC_region ?_
  refine HL_move (by rfl) (by rfl) ?_
  refine HL_perm _ (.swap _ _ _) ?_
  refine HL_call (by rfl) is267 (by rfl) (copyCheck hp E _ _) ?_
  rintro v R₂ As1 ⟨hle2, rfl⟩
  refine HL_perm _ (.swap _ _ _) ?_
  refine HL_nil ?_
  refine HQ_then ?_
  refine HC_seq ?_
  refine HC_region ?_
  refine HL_move (by rfl) (by rfl) ?_
  refine HL_move (by rfl) (by rfl) ?_
  refine HL_nilCheck (by rfl) (by rfl) ?_
  refine HL_fieldAddr (by rfl) f245_1 (by rfl) ?_
  refine HL_load_one (by rfl) ty55 (by rfl) (.own (by repeat (first | exact Mem.here | apply Mem.there)) (by rfl)) ?_
  refine HL_move (by rfl) (by rfl) ?_
  refine HL_appendS (by rfl) Tryz.underlying55 Tryz.underlying9 ty5 z5 by5 (by rfl) hown (by repeat (first | exact Pl.here | apply Pl.there)) (by rfl) (by omega) ?_
  intro o' e' hown'
  refine HL_nilCheck (by rfl) (by rfl) ?_
  refine HL_fieldAddr (by rfl) f245_1 (by rfl) ?_
  refine HL_store (vs := [o']) ty55 (by rfl) (by rfl) hown'.cells hown'.one (by repeat (first | exact Sel.here | apply Sel.there)) (by rfl) ?_
  refine HL_nil ?_
  refine HQ_then ?_
  refine HC_seq ?_
  refine HC_region ?_
  refine HL_move (by rfl) (by rfl) ?_
  refine HL_len_string (by rfl) Tryz.underlying9 (by rfl) ?_
  refine HL_assign (by rfl) (by rfl) ?_
  refine HL_assign (by rfl) (by rfl) ?_
  refine HL_nil ?_
  refine HQ_then ?_
  refine HC_ret ?_
  refine HQ_ret (.inl rfl) _ (fun a w ha hs => run_results_list (by rfl) (.tmp (by rfl) (.tmp (by rfl) .nil)) (by simp) ha hs) ?_
  exact fun w hs => ⟨_, _, _, rfl, hs, hle2, rfl, _, o', e', rfl, .inr rfl, by simpa [bcells_append, kb_len] using hown'⟩
theorem bldWrite {bb : Nat} {bs : List UInt8} {b off n cap : Nat} {s : List UInt8} (hs0 : n ≤ 100000000) (hn : s.length = n) {As As0 : List Ent} (hB : Bld bb bs As As0) (hl : bs.length ≤ 100000000) (E : Env) (R : Frag) (hrd : RdR R b off n (bcells s)) :
    Tri Tryz.prog 264 [.pointer (some ⟨bb, 0, none⟩), .slice (some ⟨b, off, none⟩) n cap] E R As (fun r R' As' => Frag.le R R' ∧ r = .tuple #[.int .i64 (n : Int), .nilIface] ∧ Bld bb (bs ++ s) As' As0) := by
  obtain ⟨p, o, e, rfl, hp, hown⟩ := hB
  refine Tri_enter Tryz.func264 (by rfl) (by rfl) (by rfl) _ _ ?_
  refine HC_seq ?_
  refine HC_region ?_
  refine HL_assign (by rfl) (by rfl) ?_
  refine HL_assign (by rfl) (by rfl) ?_
  refine HL_nil ?_
  refine HQ_then ?_
  refine HC_seq ?_
  refine HC_region ?_
  refine HL_move (by rfl) (by rfl) ?_
  refine HL_perm _ (.swap _ _ _) ?_
  refine HL_call (by rfl) is267 (by rfl) (copyCheck hp E _ _) ?_
  rintro v R₂ As1 ⟨hle2, rfl⟩
  refine HL_perm _ (.swap _ _ _) ?_
  refine HL_nil ?_
  refine HQ_then ?_
  refine HC_seq ?_
  refine HC_region ?_
  refine HL_move (by rfl) (by rfl) ?_
  refine HL_move (by rfl) (by rfl) ?_
  refine HL_nilCheck (by rfl) (by rfl) ?_
  refine HL_fieldAddr (by rfl) f245_1 (by rfl) ?_
  refine HL_load_one (by rfl) ty55 (by rfl) (.own (by repeat (first | exact Mem.here | apply Mem.there)) (by rfl)) ?_
  refine HL_move (by rfl) (by rfl) ?_
  refine HL_append (by rfl) Tryz.underlying55 ty5 z5 by5 (by rfl) (by rfl) (by rfl) hown (by repeat (first | exact Pl.here | apply Pl.there)) (by rfl) (m := n) (ys := bcells s) (by simpa using (hrd.mono hle2).rd) (bcells_ones s) (maxLen_big _ (by omega)) (by omega) ?_
  intro o' e' hown'
  refine HL_nilCheck (by rfl) (by rfl) ?_
  refine HL_fieldAddr (by rfl) f245_1 (by rfl) ?_
  refine HL_store (vs := [o']) ty55 (by rfl) (by rfl) hown'.cells hown'.one (by repeat (first | exact Sel.here | apply Sel.there)) (by rfl) ?_
  refine HL_nil ?_
  refine HQ_then ?_
  refine HC_seq ?_
  refine HC_region ?_
  refine HL_move (by rfl) (by rfl) ?_
  refine HL_len_slice (by rfl) Tryz.underlying55 (by rfl) ?_
  refine HL_assign (by rfl) (by rfl) ?_
  refine HL_assign (by rfl) (by rfl) ?_
  refine HL_nil ?_
  refine HQ_then ?_
  refine HC_ret ?_
  refine HQ_ret (.inl rfl) _ (fun a w ha hs => run_results_list (by rfl) (.tmp (by rfl) (.tmp (by rfl) .nil)) (by simp) ha hs) ?_
  exact fun w hs => ⟨_, _, _, rfl, hs, hle2, rfl, _, o', e', rfl, .inr rfl, by simpa [bcells_append, hn] using hown'⟩
/-- Builder.String: the builder is let go. -/
theorem bldString {bb : Nat} {bs : List UInt8} {As As0 : List Ent} (hB : Bld bb bs As As0) (hne : bs ≠ []) (hl : bs.length ≤ 100000000) (E : Env) (R : Frag) :
    Tri Tryz.prog 211 [.pointer (some ⟨bb, 0, none⟩)] E R As (fun r R' As' => Frag.le R R' ∧ r = .string ⟨bs.toArray⟩ ∧ As' = As0) := by
  obtain ⟨p, o, e, rfl, hp, hown⟩ := hB
  have hpos : 0 < bs.length := List.length_pos_iff.2 hne
  rw [← ucells_flat] at hown
  obtain ⟨g, cap, rest, rfl, rfl, hcap, _, _⟩ := hown.arr hpos
  rw [ucells_flat]
  refine Tri_enter Tryz.func211 (by rfl) (by rfl) (by rfl) _ _ ?_
  refine HC_seq ?_
  refine HC_region ?_
  refine HL_assign (by rfl) (by rfl) ?_
  refine HL_nil ?_
  refine HQ_then ?_
  refine HC_seq ?_
  refine HC_drawH 10 5 (fun jj R v => match jj with | 0 => v = .pointer (some ⟨bb, 0, none⟩) | 1 => v = .pointer (some ⟨bb, 0, none⟩) | 2 => v = .pointer (some ⟨bb, 1, none⟩) | 3 => v = .slice (some ⟨g, 0, none⟩) bs.length cap | 4 => v = .pointer (some ⟨g, 0, none⟩) | 5 => v = .pointer (some ⟨bb, 0, none⟩) | 6 => v = .pointer (some ⟨bb, 0, none⟩) | 7 => v = .pointer (some ⟨bb, 1, none⟩) | 8 => v = .slice (some ⟨g, 0, none⟩) bs.length cap | 9 => v = .int .i64 (bs.length : Int) | _ => True) [(0, []), (1, [(0, 3)]), (2, [(1, 4)]), (3, [(2, 5)]), (4, [(3, 6)]), (5, []), (6, [(5, 8)]), (7, [(6, 9)]), (8, [(7, 10)]), (9, [(8, 11)])] [(0, 3), (1, 4), (2, 5), (3, 6), (4, 7), (5, 8), (6, 9), (7, 10), (8, 11), (9, 12)] (by kernel_rfl) (by kernel_rfl) (by kernel_rfl) (by rfl) (by decide) (by rfl) (by kernel_rfl) (by kernel_rfl) (by kernel_rfl) (by kernel_rfl) (by intro c d v a w h; cases d <;> exact h) ?_ ?_ ?_
  · intro j R R' v hle h; match j, h with | 0, h => exact h | 1, h => exact h | 2, h => exact h | 3, h => exact h | 4, h => exact h | 5, h => exact h | 6, h => exact h | 7, h => exact h | 8, h => exact h | 9, h => exact h | _ + 10, h => exact h
  · refine ⟨?_, ?_, ?_, ?_, ?_, ?_, ?_, ?_, ?_, ?_, trivial⟩
    · intro R1 G hle
      refine HL_move (by rfl) (by rfl) ?_
      refine HL_nil ?_
      exact HQ_dq1 (Frag.le_refl _) rfl .refl
    · intro R1 G hle; rintro _ rfl
      refine HL_nilCheck (by rfl) (by rfl) ?_
      refine HL_nil ?_
      exact HQ_dq1 (Frag.le_refl _) rfl .refl
    · intro R1 G hle; rintro _ rfl
      refine HL_fieldAddr (by rfl) f245_1 (by rfl) ?_
      refine HL_nil ?_
      exact HQ_dq1 (Frag.le_refl _) rfl .refl
    · intro R1 G hle; rintro _ rfl
      refine HL_load_one (by rfl) ty55 (by rfl) (.own (by repeat (first | exact Mem.here | apply Mem.there)) (by rfl)) ?_
      refine HL_nil ?_
      exact HQ_dq1 (Frag.le_refl _) rfl .refl
    · intro R1 G hle; rintro _ rfl
      refine HL_sliceData (by rfl) (by rfl) (by omega) ?_
      refine HL_nil ?_
      exact HQ_dq1 (Frag.le_refl _) rfl .refl
    · intro R1 G hle
      refine HL_move (by rfl) (by rfl) ?_
      refine HL_nil ?_
      exact HQ_dq1 (Frag.le_refl _) rfl .refl
    · intro R1 G hle; rintro _ rfl
      refine HL_nilCheck (by rfl) (by rfl) ?_
      refine HL_nil ?_
      exact HQ_dq1 (Frag.le_refl _) rfl .refl
    · intro R1 G hle; rintro _ rfl
      refine HL_fieldAddr (by rfl) f245_1 (by rfl) ?_
      refine HL_nil ?_
      exact HQ_dq1 (Frag.le_refl _) rfl .refl
    · intro R1 G hle; rintro _ rfl
      refine HL_load_one (by rfl) ty55 (by rfl) (.own (by repeat (first | exact Mem.here | apply Mem.there)) (by rfl)) ?_
      refine HL_nil ?_
      exact HQ_dq1 (Frag.le_refl _) rfl .refl
    · intro R1 G hle; rintro _ rfl
      refine HL_len_slice (by rfl) Tryz.underlying55 (by rfl) ?_
      refine HL_nil ?_
      exact HQ_dq1 (Frag.le_refl _) rfl .refl
  · intro R1 hle; rintro _ rfl _ rfl _ rfl _ rfl _ rfl _ rfl _ rfl _ rfl _ rfl _ rfl
    have hlez := hle
    refine HL_unsafeStr (by rfl) Tryz.underlying293 cellsOf5 (by rfl) (by rfl) (by repeat (first | exact Out.here | apply Out.there)) hne (by omega) ?_
    refine HL_assign (by rfl) (by rfl) ?_
    refine HL_nil ?_
    refine HQ_then ?_
    refine HC_ret ?_
    refine HQ_ret (.inl rfl) _ (fun a w ha hs => run_results_tmp (by rfl) (by rfl) a w ha) ?_
    exact fun w hs => ⟨_, _, _, rfl, hs.drop .here, hlez, rfl, rfl⟩
end Go.Sx

/-! Go's library: a builder grows ahead of its use; small numbers as texts. Printed by a program of ours (wip/tools/gM29.py) out of the steps of the code. -/
namespace Go.Sx
open Go Go.Proofs Go.RowKit

theorem bldGrow0 {bb n : Nat} {p : Value} (hp : p = .pointer none ∨ p = .pointer (some ⟨bb, 0, none⟩)) (hn : n ≤ 1000000) (E : Env) (R : Frag) (As : List Ent) :
    Tri Tryz.prog 278 [.pointer (some ⟨bb, 0, none⟩), .int .i64 (n : Int)] E R (.emp :: blk bb [p, .slice none 0 0] 245 :: As) (fun _ R' As' => Frag.le R R' ∧ ∃ b cs, As' = blk b cs 5 :: blk bb [p, .slice (some ⟨b, 0, none⟩) 0 cs.length] 245 :: As ∧ n ≤ cs.length ∧ cs.length ≤ maxLen) := by
  obtain ⟨R₀, hR₀⟩ : ∃ R₀, R₀ = R := ⟨_, rfl⟩
  subst hR₀
  refine Tri_enter Tryz.func278 (by rfl) (by rfl) (by rfl) _ _ ?_
  refine HC_seq ?_
  refine HC_drawH 15 1 (fun jj R v => match jj with | 0 => v = .pointer (some ⟨bb, 0, none⟩) | 1 => v = .pointer (some ⟨bb, 0, none⟩) | 2 => v = .pointer (some ⟨bb, 1, none⟩) | 3 => v = .slice none 0 0 | 4 => v = .int .i64 ((0 : Nat) : Int) | 5 => v = .int .i64 ((0 : Nat) : Int) | 6 => v = .int .i64 (n : Int) | 7 => v = .int .i64 (n : Int) | 8 => ∃ b cs, v = .slice (some ⟨b, 0, none⟩) n cs.length ∧ R b = some (.cells ⟨cs⟩ 5 (0, 0)) ∧ R₀ b = none ∧ n ≤ cs.length ∧ cs.length ≤ maxLen | 9 => v = .pointer (some ⟨bb, 0, none⟩) | 10 => v = .pointer (some ⟨bb, 0, none⟩) | 11 => v = .pointer (some ⟨bb, 1, none⟩) | 12 => v = .slice none 0 0 | 13 => v = .int .i64 ((0 : Nat) : Int) | 14 => ∃ b cs, v = .slice (some ⟨b, 0, none⟩) 0 cs.length ∧ R b = some (.cells ⟨cs⟩ 5 (0, 0)) ∧ R₀ b = none ∧ n ≤ cs.length ∧ cs.length ≤ maxLen | _ => True) [(0, []), (1, [(0, 5)]), (2, [(1, 6)]), (3, [(2, 7)]), (4, [(3, 8)]), (5, [(4, 9)]), (6, []), (7, [(5, 10), (6, 11)]), (8, [(7, 12)]), (9, []), (10, [(9, 14)]), (11, [(10, 15)]), (12, [(11, 16)]), (13, [(12, 17)]), (14, [(8, 13), (13, 18)])] [(0, 5), (1, 6), (2, 7), (3, 8), (4, 9), (5, 10), (6, 11), (7, 12), (8, 13), (9, 14), (10, 15), (11, 16), (12, 17), (13, 18), (14, 19)] (by kernel_rfl) (by kernel_rfl) (by kernel_rfl) (by rfl) (by decide) (by rfl) (by kernel_rfl) (by kernel_rfl) (by kernel_rfl) (by kernel_rfl) (by intro c d v a w h; cases d <;> exact h) ?_ ?_ ?_
  · intro j R R' v hle h; match j, h with | 0, h => exact h | 1, h => exact h | 2, h => exact h | 3, h => exact h | 4, h => exact h | 5, h => exact h | 6, h => exact h | 7, h => exact h | 8, ⟨b, cs, e, hb, r⟩ => exact ⟨b, cs, e, hle _ _ hb, r⟩ | 9, h => exact h | 10, h => exact h | 11, h => exact h | 12, h => exact h | 13, h => exact h | 14, ⟨b, cs, e, hb, r⟩ => exact ⟨b, cs, e, hle _ _ hb, r⟩ | _ + 15, h => exact h
  · refine ⟨?_, ?_, ?_, ?_, ?_, ?_, ?_, ?_, ?_, ?_, ?_, ?_, ?_, ?_, ?_, trivial⟩
    · intro R1 G hle
      refine HL_move (by rfl) (by rfl) ?_
      refine HL_nil ?_
      exact HQ_dq1 (Frag.le_refl _) rfl .refl
    · intro R1 G hle; rintro _ rfl
      refine HL_nilCheck (by rfl) (by rfl) ?_
      refine HL_nil ?_
      exact HQ_dq1 (Frag.le_refl _) rfl .refl
    · intro R1 G hle; rintro _ rfl
      refine HL_fieldAddr (by rfl) f245_1 (by rfl) ?_
      refine HL_nil ?_
      exact HQ_dq1 (Frag.le_refl _) rfl .refl
    · intro R1 G hle; rintro _ rfl
      refine HL_load_one (by rfl) ty55 (by rfl) (.own (by repeat (first | exact Mem.here | apply Mem.there)) (by rfl)) ?_
      refine HL_nil ?_
      exact HQ_dq1 (Frag.le_refl _) rfl .refl
    · intro R1 G hle; rintro _ rfl
      refine HL_cap_slice (by rfl) Tryz.underlying55 (by rfl) ?_
      refine HL_nil ?_
      exact HQ_dq1 (Frag.le_refl _) rfl .refl
    · intro R1 G hle; rintro _ rfl
      refine HL_mulN (c := 0) (by rfl) (by rfl) (by rfl) (by omega) (by omega) ?_
      refine HL_nil ?_
      exact HQ_dq1 (Frag.le_refl _) rfl .refl
    · intro R1 G hle
      refine HL_move (by rfl) (by rfl) ?_
      refine HL_nil ?_
      exact HQ_dq1 (Frag.le_refl _) rfl .refl
    · intro R1 G hle; rintro _ rfl _ rfl
      refine HL_addN (c := n) (by rfl) (by rfl) (by rfl) (by omega) (by omega) ?_
      refine HL_nil ?_
      exact HQ_dq1 (Frag.le_refl _) rfl .refl
    · intro R1 G hle; rintro _ rfl
      refine HL_rowNew (by rfl) (by rfl) (fun w => run303 n (by omega) w) (by unfold maxLen; omega) (fun b8 cs8 hl8 hm8 => ?_)
      refine HL_nil ?_
      refine HQ_sealN .here (fun R' hle' hb hno => ?_)
      exact HQ_dq1 hle' ⟨b8, cs8, rfl, hb, Frag.none_of_le hle hno, hl8, hm8⟩ .refl
    · intro R1 G hle
      refine HL_move (by rfl) (by rfl) ?_
      refine HL_nil ?_
      exact HQ_dq1 (Frag.le_refl _) rfl .refl
    · intro R1 G hle; rintro _ rfl
      refine HL_nilCheck (by rfl) (by rfl) ?_
      refine HL_nil ?_
      exact HQ_dq1 (Frag.le_refl _) rfl .refl
    · intro R1 G hle; rintro _ rfl
      refine HL_fieldAddr (by rfl) f245_1 (by rfl) ?_
      refine HL_nil ?_
      exact HQ_dq1 (Frag.le_refl _) rfl .refl
    · intro R1 G hle; rintro _ rfl
      refine HL_load_one (by rfl) ty55 (by rfl) (.own (by repeat (first | exact Mem.here | apply Mem.there)) (by rfl)) ?_
      refine HL_nil ?_
      exact HQ_dq1 (Frag.le_refl _) rfl .refl
    · intro R1 G hle; rintro _ rfl
      refine HL_len_slice (by rfl) Tryz.underlying55 (by rfl) ?_
      refine HL_nil ?_
      exact HQ_dq1 (Frag.le_refl _) rfl .refl
    · intro R1 G hle; rintro _ ⟨b8, cs8, rfl, hb8, hn8, hl8, hm8⟩ _ rfl
      refine HL_slice_hi (by rfl) Tryz.underlying55 ty5 (by rfl) (by rfl) (hi := 0) rfl (by omega) ?_
      rw [slp_zero]
      refine HL_nil ?_
      exact HQ_dq1 (Frag.le_refl _) ⟨b8, cs8, rfl, hb8, hn8, hl8, hm8⟩ .refl
  · intro R1 hle; rintro _ rfl _ rfl _ rfl _ rfl _ rfl _ rfl _ rfl _ rfl _ ⟨b8, cs8, rfl, hb8, hn8, hl8, hm8⟩ _ rfl _ rfl _ rfl _ rfl _ rfl _ ⟨b, cs, rfl, hb, hnb, hlc, hmc⟩
    refine HL_unseal hb ?_
    have hle1 := Frag.le_del hle hnb
    refine HL_assign (by rfl) (by rfl) ?_
    refine HL_nil ?_
    refine HQ_then ?_
    refine HC_seq ?_
    refine HC_region ?_
    refine HL_move (by rfl) (by rfl) ?_
    refine HL_move (by rfl) (by rfl) ?_
    refine HL_nilCheck (by rfl) (by rfl) ?_
    refine HL_fieldAddr (by rfl) f245_1 (by rfl) ?_
    refine HL_load_one (by rfl) ty55 (by rfl) (.own (by repeat (first | exact Mem.here | apply Mem.there)) (by rfl)) ?_
    refine HL_copy0 (by rfl) Tryz.underlying55 ty5 (by rfl) (by rfl) (by rfl) ?_
    refine HL_nil ?_
    refine HQ_then ?_
    refine HC_region ?_
    refine HL_move (by rfl) (by rfl) ?_
    refine HL_move (by rfl) (by rfl) ?_
    refine HL_nilCheck (by rfl) (by rfl) ?_
    refine HL_fieldAddr (by rfl) f245_1 (by rfl) ?_
    refine HL_store (vs := [_]) ty55 (by rfl) (by rfl) (by rfl) (by rfl) (by repeat (first | exact Sel.here | apply Sel.there)) (by rfl) ?_
    refine HL_nil ?_
    refine HQ_ret (.inr rfl) (.tuple #[]) (fun a w ha hs => run_results_none (by rfl) a w) ?_
    exact fun w hs => ⟨_, _, _, rfl, hs.drop (.there .here), hle1, b, cs, rfl, hlc, hmc⟩
/-- Grow of a new builder. -/
theorem bldGrow {bb n : Nat} {p : Value} (hp : p = .pointer none ∨ p = .pointer (some ⟨bb, 0, none⟩)) (hn : n ≤ 1000000) (hn0 : 0 < n) (E : Env) (R : Frag) (As : List Ent) :
    Tri Tryz.prog 256 [.pointer (some ⟨bb, 0, none⟩), .int .i64 (n : Int)] E R (.emp :: blk bb [p, .slice none 0 0] 245 :: As) (fun _ R' As' => Frag.le R R' ∧ Bld bb [] As' As) := by
  refine Tri_enter Tryz.func256 (by rfl) (by rfl) (by rfl) _ _ ?_
  refine HC_seq ?_
  refine HC_region ?_
  refine HL_move (by rfl) (by rfl) ?_
  refine HL_perm _ (.swap _ _ _) ?_
  refine HL_call (by rfl) is267 (by rfl) (copyCheck hp E _ _) ?_
  rintro v R₂ As1 ⟨hle2, rfl⟩
  refine HL_perm _ (.swap _ _ _) ?_
  refine HL_nil ?_
  refine HQ_then ?_
  refine HC_seq ?_
  refine HC_seq ?_
  refine HC_region ?_
  refine HL_move (by rfl) (by rfl) ?_
  refine HL_lss (by rfl) (by rfl) (by rfl) ?_
  refine HL_boolE (b' := false) (by simp) ?_
  refine HL_nil ?_
  refine HQ_then ?_
  refine HC_cond_f (by rfl) ?_
  refine HC_skip ?_
  refine HQ_then ?_
  refine HC_seq ?_
  refine HC_drawH 12 6 (fun jj R v => match jj with | 0 => v = .pointer (some ⟨bb, 0, none⟩) | 1 => v = .pointer (some ⟨bb, 0, none⟩) | 2 => v = .pointer (some ⟨bb, 1, none⟩) | 3 => v = .slice none 0 0 | 4 => v = .int .i64 ((0 : Nat) : Int) | 5 => v = .pointer (some ⟨bb, 0, none⟩) | 6 => v = .pointer (some ⟨bb, 0, none⟩) | 7 => v = .pointer (some ⟨bb, 1, none⟩) | 8 => v = .slice none 0 0 | 9 => v = .int .i64 ((0 : Nat) : Int) | 10 => v = .int .i64 ((0 : Nat) : Int) | 11 => v = .int .i64 (n : Int) | _ => True) [(0, []), (1, [(0, 9)]), (2, [(1, 10)]), (3, [(2, 11)]), (4, [(3, 12)]), (5, []), (6, [(5, 14)]), (7, [(6, 15)]), (8, [(7, 16)]), (9, [(8, 17)]), (10, [(4, 13), (9, 18)]), (11, [])] [(0, 9), (1, 10), (2, 11), (3, 12), (4, 13), (5, 14), (6, 15), (7, 16), (8, 17), (9, 18), (10, 19), (11, 20)] (by kernel_rfl) (by kernel_rfl) (by kernel_rfl) (by rfl) (by decide) (by rfl) (by kernel_rfl) (by kernel_rfl) (by kernel_rfl) (by kernel_rfl) (by intro c d v a w h; cases d <;> exact h) ?_ ?_ ?_
  · intro j R R' v hle h; match j, h with | 0, h => exact h | 1, h => exact h | 2, h => exact h | 3, h => exact h | 4, h => exact h | 5, h => exact h | 6, h => exact h | 7, h => exact h | 8, h => exact h | 9, h => exact h | 10, h => exact h | 11, h => exact h | _ + 12, h => exact h
  · refine ⟨?_, ?_, ?_, ?_, ?_, ?_, ?_, ?_, ?_, ?_, ?_, ?_, trivial⟩
    · intro R1 G hle
      refine HL_move (by rfl) (by rfl) ?_
      refine HL_nil ?_
      exact HQ_dq1 (Frag.le_refl _) rfl .refl
    · intro R1 G hle; rintro _ rfl
      refine HL_nilCheck (by rfl) (by rfl) ?_
      refine HL_nil ?_
      exact HQ_dq1 (Frag.le_refl _) rfl .refl
    · intro R1 G hle; rintro _ rfl
      refine HL_fieldAddr (by rfl) f245_1 (by rfl) ?_
      refine HL_nil ?_
      exact HQ_dq1 (Frag.le_refl _) rfl .refl
    · intro R1 G hle; rintro _ rfl
      refine HL_load_one (by rfl) ty55 (by rfl) (.own (by repeat (first | exact Mem.here | apply Mem.there)) (by rfl)) ?_
      refine HL_nil ?_
      exact HQ_dq1 (Frag.le_refl _) rfl .refl
    · intro R1 G hle; rintro _ rfl
      refine HL_cap_slice (by rfl) Tryz.underlying55 (by rfl) ?_
      refine HL_nil ?_
      exact HQ_dq1 (Frag.le_refl _) rfl .refl
    · intro R1 G hle
      refine HL_move (by rfl) (by rfl) ?_
      refine HL_nil ?_
      exact HQ_dq1 (Frag.le_refl _) rfl .refl
    · intro R1 G hle; rintro _ rfl
      refine HL_nilCheck (by rfl) (by rfl) ?_
      refine HL_nil ?_
      exact HQ_dq1 (Frag.le_refl _) rfl .refl
    · intro R1 G hle; rintro _ rfl
      refine HL_fieldAddr (by rfl) f245_1 (by rfl) ?_
      refine HL_nil ?_
      exact HQ_dq1 (Frag.le_refl _) rfl .refl
    · intro R1 G hle; rintro _ rfl
      refine HL_load_one (by rfl) ty55 (by rfl) (.own (by repeat (first | exact Mem.here | apply Mem.there)) (by rfl)) ?_
      refine HL_nil ?_
      exact HQ_dq1 (Frag.le_refl _) rfl .refl
    · intro R1 G hle; rintro _ rfl
      refine HL_len_slice (by rfl) Tryz.underlying55 (by rfl) ?_
      refine HL_nil ?_
      exact HQ_dq1 (Frag.le_refl _) rfl .refl
    · intro R1 G hle; rintro _ rfl _ rfl
      refine HL_subN (c := 0) (by rfl) (by rfl) (by rfl) (by omega) (by omega) ?_
      refine HL_nil ?_
      exact HQ_dq1 (Frag.le_refl _) rfl .refl
    · intro R1 G hle
      refine HL_move (by rfl) (by rfl) ?_
      refine HL_nil ?_
      exact HQ_dq1 (Frag.le_refl _) rfl .refl
  · intro R1 hle; rintro _ rfl _ rfl _ rfl _ rfl _ rfl _ rfl _ rfl _ rfl _ rfl _ rfl _ rfl _ rfl
    have hle3 := hle
    refine HL_lss (by rfl) (by rfl) (by rfl) ?_
    refine HL_boolE (b' := true) (by simp; omega) ?_
    refine HL_nil ?_
    refine HQ_then ?_
    refine HC_cond_t (by rfl) ?_
    refine HC_region ?_
    refine HL_move (by rfl) (by rfl) ?_
    refine HL_move (by rfl) (by rfl) ?_
    refine HL_call (by rfl) is278 (by rfl) (bldGrow0 (.inr rfl) hn E _ _) ?_
    rintro v R₄ As1 ⟨hle4, b, cs, rfl, hlc, hmc⟩
    refine HL_nil ?_
    refine HQ_ret (.inr rfl) (.tuple #[]) (fun a w ha hs => run_results_none (by rfl) a w) ?_
    exact fun w hs => ⟨_, _, _, rfl, hs, Frag.le_trans hle2 (Frag.le_trans hle3 hle4), _, _, _, rfl, .inr rfl, ⟨rfl, .inr ⟨b, cs.length, cs, rfl, rfl, by simp, hmc, by simp, by simp [bcells]⟩⟩⟩
/-- small, at 2. -/
theorem small2 (R : Frag) : Pure Tryz.prog 230 [.int .i64 2] R (fun _ r => r = .string ⟨#[50]⟩) := by
  intro E As
  refine Tri_enter Tryz.func230 (by rfl) (by rfl) (by rfl) _ _ ?_
  refine HC_seq ?_
  refine HC_region ?_
  refine HL_assign (by rfl) (by rfl) ?_
  refine HL_nil ?_
  refine HQ_then ?_
  refine HC_seq ?_
  refine HC_seq ?_
  refine HC_region ?_
  refine HL_move (by rfl) (by rfl) ?_
  refine HL_lss (by rfl) (by rfl) (by rfl) ?_
  refine HL_boolE (b' := true) (by rfl) ?_
  refine HL_nil ?_
  refine HQ_then ?_
  refine HC_cond_t (by rfl) ?_
  refine HC_seq ?_
  refine HC_region ?_
  refine HL_move (by rfl) (by rfl) ?_
  refine HL_move (by rfl) (by rfl) ?_
  refine HL_addN (c := 3) (by rfl) (by rfl) (by rfl) (by omega) (by omega) ?_
  refine HL_sliceS (by rfl) Tryz.underlying9 (by rfl) (by rfl) (by rfl) (lo := 2) (hi := 3) rfl rfl (by omega) (by decide) ?_
  refine HL_assign (by rfl) (by rfl) ?_
  refine HL_nil ?_
  refine HQ_then ?_
  refine HC_ret ?_
  refine HQ_then_ret ?_
  refine HQ_ret (.inl rfl) _ (fun a w ha hs => run_results_tmp (by rfl) (by rfl) a w ha) ?_
  exact fun w hs => ret_pure hs (by repeat (first | exact Tail.refl | apply Tail.cons)) (Frag.le_refl _) (congrArg Value.string (by decide))
end Go.Sx

/-! Rules: a text's bytes behind others where there is room; a method by an interface. Generic: no program is named. -/
namespace Go.Sx
open Go Go.RowKit Go.Lib
section
variable {P : Program} {ops : Array Oper} {Q : Exit → Act → World → Prop} {N : Nat} {F : List (Nat × Value)} {E : Env} {R : Frag} {As As' : List Ent}
variable {d : Nat} {ty : TypeId} {pos : String} {af : Array Edge} {l : List Oper} {x y z : Operand} {T yT : TypeId}
theorem HL_appendS_room {t u te TT g n cap : Nat} {s : Operand} {str : ByteArray} {cs : List Value} {agg : Bool} (hd : Nat.blt d N = true) (hT : P.underlying t = some (.slice te)) (hu : P.underlying u = some .string) (hte : Ty P te agg 1)
    (hsv : ev F s = some (.slice (some ⟨g, 0, none⟩) n cap)) (hx : ev F x = some (.string str)) (hs : Sel As (blk g cs TT) (blk g (cs.take n ++ bcells (kb str) ++ cs.drop (n + str.size)) TT) As') (hroom : n + str.size ≤ cap) (hfit : n + str.size ≤ cs.length)
    (k : HL P ops Q N ((d, .slice (some ⟨g, 0, none⟩) (n + str.size) cap) :: F) E R As' l) :
    HL P ops Q N F E R As (⟨some d, .call ⟨.builtin .append, #[s, x], #[t, u]⟩, ty, pos, af, none⟩ :: l) := fun a w ha hst => by
  obtain ⟨i, hi, hisz⟩ := hte.info
  have hown := hst.own g _ hs.mem
  have hf := run_firstCells_string (P := P) w 1 str
  have hst2 := run_storeCells_at P g n TT (strCells str) 0 cs.toArray w hown (by simpa [strCells_length] using hfit) (strCells_oneCell str)
  simp only [Nat.add_zero, strCells_length] at hst2
  have hr : (Builtin.append_ #[t, u] ty #[.slice (some ⟨g, 0, none⟩) n cap, .string str]).run P w =
      .ok (.slice (some ⟨g, 0, none⟩) (n + str.size) cap) (w.setRow g (cs.toArray.toList.take n ++ strCells str ++ cs.toArray.toList.drop (n + str.size)).toArray) := by
    simp [Builtin.append_, run_underlying' hT, run_underlying' hu, sizeOf, typeInfo, hi, hisz, Builtin.lenOf, hroom, hf, Addr.add_lit, hst2]
  refine wp_value rfl (v := .slice (some ⟨g, 0, none⟩) (n + str.size) cap) (w' := w.setRow g (cs.take n ++ bcells (kb str) ++ cs.drop (n + str.size)).toArray) ?_ (k _ _ (ha.put hd) (hst.turn hs ?_ ?_ ?_ ?_ ?_))
  · rw [strCells_bcells] at hr
    simp [execOp, resolve, invoke, builtin, ha.eval hsv, ha.eval hx]
    simp only [List.append_assoc] at hr ⊢
    rw [hr]
    simp
  · simp [World.setRow]
  · simp [World.setRow]
  · simp [World.setRow]
  · simp [World.setRow, Array.getElem?_modify, hown]
  · intro k hk
    simp [World.setRow, Array.getElem?_modify, Ne.symm hk]
/-- A slice of an array, of no length. -/
theorem HL_sliceArr0 {n te sz : Nat} {agg : Bool} {b : Nat} {kd : IntKind} (hd : Nat.blt d N = true) (hT : P.underlying T = some (.array n te)) (he : Ty P te agg sz) (hn : Nat.blt 0 n = true) (hx : ev F x = some (.pointer (some ⟨b, 0, none⟩))) (hy : ev F y = some (.int kd 0))
    (k : HL P ops Q N ((d, .slice (some ⟨b, 0, none⟩) 0 n) :: F) E R As l) : HL P ops Q N F E R As (⟨some d, .slice T x none (some y) none, ty, pos, af, none⟩ :: l) :=
  HL_same hd (fun q w ha _ => by
    have hn' : ¬ n = 0 := by simp at hn; omega
    simp [execOp, ha.eval hx, ha.eval hy, Instr.sliceAt, Instr.sureAddr, asAddr, run_underlying' hT, Instr.sliceBounds, Instr.sliceBound, asIntOf, he.run_sizeOf, hn', Addr.add_mk]) k
/-- A slice made, with a length and room. -/
theorem HL_makeN {te sz bytes n c : Nat} {agg : Bool} {z : Value} {kl kc : IntKind} (hd : Nat.blt d N = true) (hT : P.underlying T = some (.slice te)) (hte : Ty P te agg sz) (hz : TyZ P te z) (hby : TyB P te bytes)
    (hx : ev F x = some (.int kl (n : Int))) (hy : ev F y = some (.int kc (c : Int))) (hn : n ≤ c) (hb : bytes * c ≤ 281474976710656) (hc : c ≤ maxLen)
    (k : ∀ b cs, cs.length = c * sz → HL P ops Q N ((d, .slice (some ⟨b, 0, none⟩) n c) :: F) E R (blk b cs te :: As) l) :
    HL P ops Q N F E R As (⟨some d, .makeSlice T x y, ty, pos, af, none⟩ :: l) := fun a w ha hs => by
  obtain ⟨i, hi, hisz⟩ := hte.info
  obtain ⟨i', hi', hiz⟩ := hz
  obtain ⟨i'', hi'', hib⟩ := hby
  rw [hi] at hi' hi''
  injection hi' with hi'
  injection hi'' with hi''
  subst hi' hi'' hisz hib
  have h63' : (c : Int) ≤ 9223372036854775807 := by
    have h := hc
    simp [maxLen] at h
    omega
  have hb' : (i.bytes : Int) * (c : Int) ≤ 281474976710656 := by
    have h : ((i.bytes * c : Nat) : Int) ≤ 281474976710656 := by omega
    rwa [Int.natCast_mul] at h
  have hr := run_make (P := P) w T te i z hT hi hiz kl kc n c (by omega) (by omega) hb' h63'
  simp only [Int.toNat_natCast] at hr
  refine wp_value rfl (v := .slice (some ⟨w.heap.size, 0, none⟩) n c) (w' := { w with heap := w.heap.push (.cells (madeCells z.cells (c * i.size)) te (0, 0)) }) ?_
    (k w.heap.size (madeCells z.cells (c * i.size)).toList (by simp [size_madeCells]) _ _ (ha.put hd) (hs.push _))
  simp only [execOp, ha.eval hx, ha.eval hy]
  rw [Sem.run_bind, hr]
  rfl
end
end Go.Sx

/-! The package: the digest takes texts and numbers in. Printed by a program of ours (wip/tools/gM17.py) out of the steps of the code. -/
namespace Go.Sx
open Go Go.Proofs Go.RowKit

theorem perm22 {α : Type} (a b c d : α) (l : List α) : (a :: b :: c :: d :: l).Perm (c :: d :: a :: b :: l) := (List.perm_append_comm (l₁ := [a, b]) (l₂ := [c, d])).append_right l
theorem hashString {dg : Nat} {bs : List UInt8} {s : ByteArray} {As As0 : List Ent} (hs0 : s.size ≤ 100000000) (hD : Dig dg bs As As0) (hl : bs.length ≤ 100000000) (E : Env) (R : Frag) :
    Tri Tryz.prog 192 [.agg #[.pointer (some ⟨dg, 0, none⟩)], .string s] E R As (fun r R' As' => Frag.le R R' ∧ r = .agg #[.pointer (some ⟨dg, 0, none⟩)] ∧ Dig dg (bs ++ kb s) As' As0) := by
  obtain ⟨o, e, rfl, hown⟩ := hD
  refine Tri_enter Tryz.func192 (by rfl) (by rfl) (by rfl) _ _ ?_
  refine HC_seq ?_
  refine HC_region ?_
  refine HL_box (by rfl) (by rfl) (vs := [.pointer (some ⟨dg, 0, none⟩)]) (by rfl) (fun b2 => ?_)
  refine HL_alloc (by rfl) z168 (by rfl) (fun b4 => ?_)
  refine HL_nil ?_
  refine HQ_then ?_
  refine HC_seq ?_
  refine HC_region ?_
  refine HL_fieldAddr (by rfl) f168_0 (by rfl) ?_
  refine HL_load_one (by rfl) ty166 (by rfl) (by first | exact Rd.own (by repeat (first | exact Mem.here | apply Mem.there)) (by rfl) | exact RdR.rd (by assumption)) ?_
  refine HL_move (by rfl) (by rfl) ?_
  refine HL_perm _ (perm22 _ _ _ _ _) ?_
  refine HL_call (by rfl) is240 (by rfl) (writeString hs0 hown hl E R _) ?_
  rintro v R₂ As1 ⟨hle, rfl, o', e', rfl, hown'⟩
  refine HL_move (by rfl) (by rfl) ?_
  refine HL_extract (by rfl) (by rfl) (by rfl) ?_
  refine HL_extract (by rfl) (by rfl) (by rfl) ?_
  refine HL_assign (by rfl) (by rfl) ?_
  refine HL_assign (by rfl) (by rfl) ?_
  refine HL_nil ?_
  refine HQ_then ?_
  refine HC_seq ?_
  refine HC_seq ?_
  refine HC_region ?_
  refine HL_move (by rfl) (by rfl) ?_
  refine HL_neq_nilIface Tryz.underlying263 (by rfl) (by rfl) ?_
  refine HL_nil ?_
  refine HQ_then ?_
  refine HC_cond_f (by rfl) ?_
  refine HC_skip ?_
  refine HQ_then ?_
  refine HC_seq ?_
  refine HC_region ?_
  refine HL_load_agg (by rfl) ty168 (by rfl) (vs := [_]) (.own (by repeat (first | exact Mem.here | apply Mem.there)) (by rfl)) ?_
  refine HL_store (vs := [_]) ty168 (by rfl) (by rfl) (by rfl) (by rfl) (by repeat (first | exact Sel.here | apply Sel.there)) (by rfl) ?_
  refine HL_nil ?_
  refine HQ_then ?_
  refine HC_ret ?_
  refine HQ_ret_cell (.inl rfl) (by rfl) (by rfl) ty168 (vs := [_]) (by first | exact Rd.own (by repeat (first | exact Mem.here | apply Mem.there)) (by rfl) | exact RdR.rd (by assumption)) ?_
  exact fun w hs => ⟨_, _, _, rfl, (hs.drop (.there (.there .here))).drop (.there (.there .here)), hle, rfl, o', e', rfl, hown'⟩
theorem byte_shift0 (m : Nat) : IntKind.u8.wrap (m : Int) = ((byteAt (m : Int) 0).toNat : Int) := by
  have := byte_shift m 0
  simpa using this
theorem shr_nat (m k : Nat) (hk : k < 8) : ((m : Int)).fdiv (2 ^ (min ((8 * k : Nat) : Int).toNat IntKind.u64.bits)) = ((m / 2 ^ (8 * k) : Nat) : Int) := by
  have h1 : min ((8 * k : Nat) : Int).toNat IntKind.u64.bits = 8 * k := by
    simp [IntKind.bits]; omega
  rw [h1, Int.fdiv_eq_ediv_of_nonneg _ (by exact Int.le_of_lt (Int.pow_pos (by omega)))]
  simp
theorem putUint64 {bb m : Nat} {c0 c1 c2 c3 c4 c5 c6 c7 : Value} (E : Env) (R : Frag) (As : List Ent) :
    Tri Tryz.prog 274 [.agg #[], .slice (some ⟨bb, 0, none⟩) 8 8, .int .u64 (m : Int)] E R (blk bb [c0, c1, c2, c3, c4, c5, c6, c7] 313 :: As) (fun _ R' As' => Frag.le R R' ∧ As' = blk bb (bcells (le8 (m : Int))) 313 :: As) := by
  refine Tri_enter Tryz.func274 (by rfl) (by rfl) (by rfl) _ _ ?_
  refine HC_seq ?_
  refine HC_region ?_
  refine HL_box (by rfl) (by rfl) (vs := []) (by rfl) (fun b3 => ?_)
  refine HL_nil ?_
  refine HQ_then ?_
  refine HC_seq ?_
  refine HC_region ?_
  refine HL_move (by rfl) (by rfl) ?_
  refine HL_indexAddrI (by rfl) Tryz.underlying55 ty5 (by rfl) (by rfl) (j := 7) (by omega) (by omega) ?_
  refine HL_load_one (by rfl) ty5 (by rfl) (.own (by repeat (first | exact Mem.here | apply Mem.there)) (by rfl)) ?_
  refine HL_nil ?_
  refine HQ_then ?_
  refine HC_seq ?_
  refine HC_region ?_
  refine HL_move (by rfl) (by rfl) ?_
  refine HL_move (by rfl) (by rfl) ?_
  refine HL_conv (by rfl) ⟨_, Tryz.underlying48⟩ Tryz.underlying5 (by rfl) (byte_shift0 m) ?_
  refine HL_indexAddrI (by rfl) Tryz.underlying55 ty5 (by rfl) (by rfl) (j := 0) (by omega) (by omega) ?_
  refine HL_store (vs := [_]) ty5 (by rfl) (by rfl) (by rfl) (by rfl) (by repeat (first | exact Sel.here | apply Sel.there)) (by rfl) ?_
  refine HL_nil ?_
  refine HQ_then ?_
  refine HC_seq ?_
  refine HC_region ?_
  refine HL_move (by rfl) (by rfl) ?_
  refine HL_move (by rfl) (by rfl) ?_
  refine HL_shr (by rfl) (by rfl) (by rfl) (by omega) (shr_nat m 1 (by omega)) ?_
  refine HL_conv (by rfl) ⟨_, Tryz.underlying48⟩ Tryz.underlying5 (by rfl) (byte_shift m 1) ?_
  refine HL_indexAddrI (by rfl) Tryz.underlying55 ty5 (by rfl) (by rfl) (j := 1) (by omega) (by omega) ?_
  refine HL_store (vs := [_]) ty5 (by rfl) (by rfl) (by rfl) (by rfl) (by repeat (first | exact Sel.here | apply Sel.there)) (by rfl) ?_
  refine HL_nil ?_
  refine HQ_then ?_
  refine HC_seq ?_
  refine HC_region ?_
  refine HL_move (by rfl) (by rfl) ?_
  refine HL_move (by rfl) (by rfl) ?_
  refine HL_shr (by rfl) (by rfl) (by rfl) (by omega) (shr_nat m 2 (by omega)) ?_
  refine HL_conv (by rfl) ⟨_, Tryz.underlying48⟩ Tryz.underlying5 (by rfl) (byte_shift m 2) ?_
  refine HL_indexAddrI (by rfl) Tryz.underlying55 ty5 (by rfl) (by rfl) (j := 2) (by omega) (by omega) ?_
  refine HL_store (vs := [_]) ty5 (by rfl) (by rfl) (by rfl) (by rfl) (by repeat (first | exact Sel.here | apply Sel.there)) (by rfl) ?_
  refine HL_nil ?_
  refine HQ_then ?_
  refine HC_seq ?_
  refine HC_region ?_
  refine HL_move (by rfl) (by rfl) ?_
  refine HL_move (by rfl) (by rfl) ?_
  refine HL_shr (by rfl) (by rfl) (by rfl) (by omega) (shr_nat m 3 (by omega)) ?_
  refine HL_conv (by rfl) ⟨_, Tryz.underlying48⟩ Tryz.underlying5 (by rfl) (byte_shift m 3) ?_
  refine HL_indexAddrI (by rfl) Tryz.underlying55 ty5 (by rfl) (by rfl) (j := 3) (by omega) (by omega) ?_
  refine HL_store (vs := [_]) ty5 (by rfl) (by rfl) (by rfl) (by rfl) (by repeat (first | exact Sel.here | apply Sel.there)) (by rfl) ?_
  refine HL_nil ?_
  refine HQ_then ?_
  refine HC_seq ?_
  refine HC_region ?_
  refine HL_move (by rfl) (by rfl) ?_
  refine HL_move (by rfl) (by rfl) ?_
  refine HL_shr (by rfl) (by rfl) (by rfl) (by omega) (shr_nat m 4 (by omega)) ?_
  refine HL_conv (by rfl) ⟨_, Tryz.underlying48⟩ Tryz.underlying5 (by rfl) (byte_shift m 4) ?_
  refine HL_indexAddrI (by rfl) Tryz.underlying55 ty5 (by rfl) (by rfl) (j := 4) (by omega) (by omega) ?_
  refine HL_store (vs := [_]) ty5 (by rfl) (by rfl) (by rfl) (by rfl) (by repeat (first | exact Sel.here | apply Sel.there)) (by rfl) ?_
  refine HL_nil ?_
  refine HQ_then ?_
  refine HC_seq ?_
  refine HC_region ?_
  refine HL_move (by rfl) (by rfl) ?_
  refine HL_move (by rfl) (by rfl) ?_
  refine HL_shr (by rfl) (by rfl) (by rfl) (by omega) (shr_nat m 5 (by omega)) ?_
  refine HL_conv (by rfl) ⟨_, Tryz.underlying48⟩ Tryz.underlying5 (by rfl) (byte_shift m 5) ?_
  refine HL_indexAddrI (by rfl) Tryz.underlying55 ty5 (by rfl) (by rfl) (j := 5) (by omega) (by omega) ?_
  refine HL_store (vs := [_]) ty5 (by rfl) (by rfl) (by rfl) (by rfl) (by repeat (first | exact Sel.here | apply Sel.there)) (by rfl) ?_
  refine HL_nil ?_
  refine HQ_then ?_
  refine HC_seq ?_
  refine HC_region ?_
  refine HL_move (by rfl) (by rfl) ?_
  refine HL_move (by rfl) (by rfl) ?_
  refine HL_shr (by rfl) (by rfl) (by rfl) (by omega) (shr_nat m 6 (by omega)) ?_
  refine HL_conv (by rfl) ⟨_, Tryz.underlying48⟩ Tryz.underlying5 (by rfl) (byte_shift m 6) ?_
  refine HL_indexAddrI (by rfl) Tryz.underlying55 ty5 (by rfl) (by rfl) (j := 6) (by omega) (by omega) ?_
  refine HL_store (vs := [_]) ty5 (by rfl) (by rfl) (by rfl) (by rfl) (by repeat (first | exact Sel.here | apply Sel.there)) (by rfl) ?_
  refine HL_nil ?_
  refine HQ_then ?_
  refine HC_region ?_
  refine HL_move (by rfl) (by rfl) ?_
  refine HL_move (by rfl) (by rfl) ?_
  refine HL_shr (by rfl) (by rfl) (by rfl) (by omega) (shr_nat m 7 (by omega)) ?_
  refine HL_conv (by rfl) ⟨_, Tryz.underlying48⟩ Tryz.underlying5 (by rfl) (byte_shift m 7) ?_
  refine HL_indexAddrI (by rfl) Tryz.underlying55 ty5 (by rfl) (by rfl) (j := 7) (by omega) (by omega) ?_
  refine HL_store (vs := [_]) ty5 (by rfl) (by rfl) (by rfl) (by rfl) (by repeat (first | exact Sel.here | apply Sel.there)) (by rfl) ?_
  refine HL_nil ?_
  refine HQ_ret (.inr rfl) (.tuple #[]) (fun a w ha hs => run_results_none (by rfl) a w) ?_
  exact fun w hs => ⟨_, _, _, rfl, hs.drop .here, Frag.le_refl _, rfl⟩
end Go.Sx

/-! The package: the digest takes numbers in. Printed by a program of ours (wip/tools/gM18.py) out of the steps of the code. -/
namespace Go.Sx
open Go Go.Proofs Go.RowKit

theorem u64_nonneg (n : Int) : 0 ≤ IntKind.u64.wrap n := by
  simp [IntKind.wrap, IntKind.bits, IntKind.signed]
  exact Int.emod_nonneg _ (by omega)
theorem perm12 {α : Type} (a b c : α) (l : List α) : (a :: b :: c :: l).Perm (b :: c :: a :: l) := (List.perm_append_comm (l₁ := [a]) (l₂ := [b, c])).append_right l
theorem perm32 {α : Type} (a b c d e : α) (l : List α) : (a :: b :: c :: d :: e :: l).Perm (d :: e :: a :: b :: c :: l) := (List.perm_append_comm (l₁ := [a, b, c]) (l₂ := [d, e])).append_right l
theorem hashUint64 {dg : Nat} {bs : List UInt8} {n : Int} (hn : 0 ≤ n) {As As0 : List Ent} (hD : Dig dg bs As As0) (hl : bs.length ≤ 100000000) (E : Env) (R : Frag) :
    Tri Tryz.prog 241 [.agg #[.pointer (some ⟨dg, 0, none⟩)], .int .u64 n] E R As (fun r R' As' => Frag.le R R' ∧ r = .agg #[.pointer (some ⟨dg, 0, none⟩)] ∧ Dig dg (bs ++ le8 n) As' As0) := by
  obtain ⟨o, e, rfl, hown⟩ := hD
  obtain ⟨m, rfl⟩ := Int.eq_ofNat_of_zero_le hn
  refine Tri_enter Tryz.func241 (by rfl) (by rfl) (by rfl) _ _ ?_
  refine HC_seq ?_
  refine HC_region ?_
  refine HL_box (by rfl) (by rfl) (vs := [.pointer (some ⟨dg, 0, none⟩)]) (by rfl) (fun b2 => ?_)
  refine HL_alloc (by rfl) z168 (by rfl) (fun b4 => ?_)
  refine HL_nil ?_
  refine HQ_then ?_
  refine HC_seq ?_
  refine HC_region ?_
  refine HL_alloc (by rfl) z313 (by rfl) (fun b5 => ?_)
  refine HL_nil ?_
  refine HQ_then ?_
  refine HC_seq ?_
  refine HC_drawH 3 1 (fun jj R v => match jj with | 0 => v = .agg #[] | 1 => v = .slice (some ⟨b5, 0, none⟩) 8 8 | 2 => v = .int .u64 (m : Int) | _ => True) [(0, []), (1, []), (2, [])] [(0, 8), (1, 9), (2, 10)] (by kernel_rfl) (by kernel_rfl) (by kernel_rfl) (by rfl) (by decide) (by rfl) (by kernel_rfl) (by kernel_rfl) (by kernel_rfl) (by kernel_rfl) (by intro c d v a w h; cases d <;> exact h) ?_ ?_ ?_
  · intro j R R' v hle h; match j, h with | 0, h => exact h | 1, h => exact h | 2, h => exact h | _ + 3, h => exact h
  · refine ⟨?_, ?_, ?_, trivial⟩
    · intro R1 G hle
      refine HL_load0 (by rfl) ty286 (by rfl) ?_
      refine HL_nil ?_
      exact HQ_dq1 (Frag.le_refl _) rfl .refl
    · intro R1 G hle
      refine HL_sliceArr (by rfl) Tryz.underlying313 ty5 (by rfl) (by rfl) ?_
      refine HL_nil ?_
      exact HQ_dq1 (Frag.le_refl _) rfl .refl
    · intro R1 G hle
      refine HL_move (by rfl) (by rfl) ?_
      refine HL_nil ?_
      exact HQ_dq1 (Frag.le_refl _) rfl .refl
  · intro R1 hle; rintro _ rfl _ rfl _ rfl
    have hle1 := hle
    refine HL_call (by rfl) is274 (by rfl) (putUint64 E R1 _) ?_
    rintro v R₂ As1 ⟨hle2, rfl⟩
    refine HL_nil ?_
    refine HQ_then ?_
    refine HC_seq ?_
    refine HC_seal .here (fun R₃ hle3 hb5 => ?_)
    refine HC_perm _ (perm22 _ _ _ _ _) ?_
    refine HC_drawH 3 4 (fun jj R v => match jj with | 0 => v = .pointer (some ⟨b2, 0, none⟩) | 1 => v = .pointer (some ⟨dg, 0, none⟩) | 2 => v = .slice (some ⟨b5, 0, none⟩) 8 8 | _ => True) [(0, []), (1, [(0, 13)]), (2, [])] [(0, 13), (1, 14), (2, 15)] (by kernel_rfl) (by kernel_rfl) (by kernel_rfl) (by rfl) (by decide) (by rfl) (by kernel_rfl) (by kernel_rfl) (by kernel_rfl) (by kernel_rfl) (by intro c d v a w h; cases d <;> exact h) ?_ ?_ ?_
    · intro j R R' v hle h; match j, h with | 0, h => exact h | 1, h => exact h | 2, h => exact h | _ + 3, h => exact h
    · refine ⟨?_, ?_, ?_, trivial⟩
      · intro R1 G hle
        refine HL_fieldAddr (by rfl) f168_0 (by rfl) ?_
        refine HL_nil ?_
        exact HQ_dq1 (Frag.le_refl _) rfl .refl
      · intro R1 G hle; rintro _ rfl
        refine HL_load_one (by rfl) ty166 (by rfl) (by first | exact Rd.own (by repeat (first | exact Mem.here | apply Mem.there)) (by rfl) | exact RdR.rd (by assumption)) ?_
        refine HL_nil ?_
        exact HQ_dq1 (Frag.le_refl _) rfl .refl
      · intro R1 G hle
        refine HL_sliceArr (by rfl) Tryz.underlying313 ty5 (by rfl) (by rfl) ?_
        refine HL_nil ?_
        exact HQ_dq1 (Frag.le_refl _) rfl .refl
    · intro R1 hle; rintro _ rfl _ rfl _ rfl
      have hle4 := hle
      refine HL_call (by rfl) is275 (by rfl) (writeBytes (n := 8) (s := le8 (m : Int)) (by omega) rfl hown hl E R1 _ (RdR.mono hle4 ⟨_, _, _, hb5, by rfl⟩)) ?_
      rintro v R₅ As1 ⟨hle5, rfl, o', e', rfl, hown'⟩
      refine HL_move (by rfl) (by rfl) ?_
      refine HL_extract (by rfl) (by rfl) (by rfl) ?_
      refine HL_extract (by rfl) (by rfl) (by rfl) ?_
      refine HL_assign (by rfl) (by rfl) ?_
      refine HL_assign (by rfl) (by rfl) ?_
      refine HL_nil ?_
      refine HQ_then ?_
      refine HC_seq ?_
      refine HC_seq ?_
      refine HC_region ?_
      refine HL_move (by rfl) (by rfl) ?_
      refine HL_neq_nilIface Tryz.underlying263 (by rfl) (by rfl) ?_
      refine HL_nil ?_
      refine HQ_then ?_
      refine HC_cond_f (by rfl) ?_
      refine HC_skip ?_
      refine HQ_then ?_
      refine HC_seq ?_
      refine HC_region ?_
      refine HL_load_agg (by rfl) ty168 (by rfl) (vs := [_]) (.own (by repeat (first | exact Mem.here | apply Mem.there)) (by rfl)) ?_
      refine HL_store (vs := [_]) ty168 (by rfl) (by rfl) (by rfl) (by rfl) (by repeat (first | exact Sel.here | apply Sel.there)) (by rfl) ?_
      refine HL_nil ?_
      refine HQ_then ?_
      refine HC_ret ?_
      refine HQ_ret_cell (.inl rfl) (by rfl) (by rfl) ty168 (vs := [_]) (by first | exact Rd.own (by repeat (first | exact Mem.here | apply Mem.there)) (by rfl) | exact RdR.rd (by assumption)) ?_
      exact fun w hs => ⟨_, _, _, rfl, (hs.drop (.there (.there .here))).drop (.there (.there .here)), Frag.le_trans hle1 (Frag.le_trans hle2 (Frag.le_trans hle3 (Frag.le_trans hle4 hle5))), rfl, o', e', rfl, hown'⟩
theorem hashBool {dg : Nat} {bs : List UInt8} {b : Bool} {As As0 : List Ent} (hD : Dig dg bs As As0) (hl : bs.length ≤ 100000000) (E : Env) (R : Frag) :
    Tri Tryz.prog 242 [.agg #[.pointer (some ⟨dg, 0, none⟩)], .bool b] E R As (fun r R' As' => Frag.le R R' ∧ r = .agg #[.pointer (some ⟨dg, 0, none⟩)] ∧ Dig dg (bs ++ le8 (bif b then 1 else 0)) As' As0) := by
  obtain ⟨o, e, rfl, hown⟩ := hD
  refine Tri_enter Tryz.func242 (by rfl) (by rfl) (by rfl) _ _ ?_
  refine HC_seq ?_
  refine HC_region ?_
  refine HL_box (by rfl) (by rfl) (vs := [.pointer (some ⟨dg, 0, none⟩)]) (by rfl) (fun b2 => ?_)
  refine HL_alloc (by rfl) z168 (by rfl) (fun b4 => ?_)
  refine HL_nil ?_
  refine HQ_then ?_
  refine HC_seq ?_
  refine HC_seq ?_
  refine HC_region ?_
  refine HL_move (by rfl) (by rfl) ?_
  refine HL_nil ?_
  refine HQ_then ?_
  refine HC_cond (by rfl) (fun ht5 => ?_) (fun ht5 => ?_)
  · subst ht5
    refine HC_seq ?_
    refine HC_region ?_
    refine HL_load_agg (by rfl) ty168 (by rfl) (vs := [_]) (.own (by repeat (first | exact Mem.here | apply Mem.there)) (by rfl)) ?_
    refine HL_perm _ (perm22 _ _ _ _ _) ?_
    refine HL_call (by rfl) is241 (by rfl) (hashUint64 (n := 1) (by omega) ⟨o, e, rfl, hown⟩ hl E _) ?_
    rintro v R₂ As1 ⟨hle2, rfl, o', e', rfl, hown'⟩
    refine HL_store (vs := [_]) ty168 (by rfl) (by rfl) (by rfl) (by rfl) (by repeat (first | exact Sel.here | apply Sel.there)) (by rfl) ?_
    refine HL_nil ?_
    refine HQ_then ?_
    refine HC_ret ?_
    refine HQ_then_ret ?_
    refine HQ_ret_cell (.inl rfl) (by rfl) (by rfl) ty168 (vs := [_]) (by first | exact Rd.own (by repeat (first | exact Mem.here | apply Mem.there)) (by rfl) | exact RdR.rd (by assumption)) ?_
    exact fun w hs => ⟨_, _, _, rfl, (hs.drop (.there (.there .here))).drop (.there (.there .here)), hle2, rfl, o', e', rfl, hown'⟩
  · subst ht5
    refine HC_skip ?_
    refine HQ_then ?_
    refine HC_seq ?_
    refine HC_region ?_
    refine HL_load_agg (by rfl) ty168 (by rfl) (vs := [_]) (.own (by repeat (first | exact Mem.here | apply Mem.there)) (by rfl)) ?_
    refine HL_perm _ (perm22 _ _ _ _ _) ?_
    refine HL_call (by rfl) is241 (by rfl) (hashUint64 (n := 0) (by omega) ⟨o, e, rfl, hown⟩ hl E _) ?_
    rintro v R₂ As1 ⟨hle2, rfl, o', e', rfl, hown'⟩
    refine HL_store (vs := [_]) ty168 (by rfl) (by rfl) (by rfl) (by rfl) (by repeat (first | exact Sel.here | apply Sel.there)) (by rfl) ?_
    refine HL_nil ?_
    refine HQ_then ?_
    refine HC_ret ?_
    refine HQ_ret_cell (.inl rfl) (by rfl) (by rfl) ty168 (vs := [_]) (by first | exact Rd.own (by repeat (first | exact Mem.here | apply Mem.there)) (by rfl) | exact RdR.rd (by assumption)) ?_
    exact fun w hs => ⟨_, _, _, rfl, (hs.drop (.there (.there .here))).drop (.there (.there .here)), hle2, rfl, o', e', rfl, hown'⟩
theorem hashInt64 {dg : Nat} {bs : List UInt8} {n : Int} {As As0 : List Ent} (hD : Dig dg bs As As0) (hl : bs.length ≤ 100000000) (E : Env) (R : Frag) :
    Tri Tryz.prog 243 [.agg #[.pointer (some ⟨dg, 0, none⟩)], .int .i64 n] E R As (fun r R' As' => Frag.le R R' ∧ r = .agg #[.pointer (some ⟨dg, 0, none⟩)] ∧ Dig dg (bs ++ le8 (IntKind.u64.wrap n)) As' As0) := by
  obtain ⟨o, e, rfl, hown⟩ := hD
  refine Tri_enter Tryz.func243 (by rfl) (by rfl) (by rfl) _ _ ?_
  refine HC_seq ?_
  refine HC_region ?_
  refine HL_box (by rfl) (by rfl) (vs := [.pointer (some ⟨dg, 0, none⟩)]) (by rfl) (fun b2 => ?_)
  refine HL_alloc (by rfl) z168 (by rfl) (fun b4 => ?_)
  refine HL_nil ?_
  refine HQ_then ?_
  refine HC_seq ?_
  refine HC_region ?_
  refine HL_load_agg (by rfl) ty168 (by rfl) (vs := [_]) (.own (by repeat (first | exact Mem.here | apply Mem.there)) (by rfl)) ?_
  refine HL_move (by rfl) (by rfl) ?_
  refine HL_conv (by rfl) ⟨_, Tryz.underlying2⟩ Tryz.underlying48 (by rfl) (by rfl) ?_
  refine HL_perm _ (perm22 _ _ _ _ _) ?_
  refine HL_call (by rfl) is241 (by rfl) (hashUint64 (n := IntKind.u64.wrap n) (u64_nonneg n) ⟨o, e, rfl, hown⟩ hl E _) ?_
  rintro v R₂ As1 ⟨hle2, rfl, o', e', rfl, hown'⟩
  refine HL_store (vs := [_]) ty168 (by rfl) (by rfl) (by rfl) (by rfl) (by repeat (first | exact Sel.here | apply Sel.there)) (by rfl) ?_
  refine HL_nil ?_
  refine HQ_then ?_
  refine HC_ret ?_
  refine HQ_ret_cell (.inl rfl) (by rfl) (by rfl) ty168 (vs := [_]) (by first | exact Rd.own (by repeat (first | exact Mem.here | apply Mem.there)) (by rfl) | exact RdR.rd (by assumption)) ?_
  exact fun w hs => ⟨_, _, _, rfl, (hs.drop (.there (.there .here))).drop (.there (.there .here)), hle2, rfl, o', e', rfl, hown'⟩
theorem hashFloat64 {dg : Nat} {bs : List UInt8} {n : Nat} {As As0 : List Ent} (hD : Dig dg bs As As0) (hl : bs.length ≤ 100000000) (E : Env) (R : Frag) :
    Tri Tryz.prog 244 [.agg #[.pointer (some ⟨dg, 0, none⟩)], .float .f64 n] E R As (fun r R' As' => Frag.le R R' ∧ r = .agg #[.pointer (some ⟨dg, 0, none⟩)] ∧ Dig dg (bs ++ le8 (n : Int)) As' As0) := by
  obtain ⟨o, e, rfl, hown⟩ := hD
  refine Tri_enter Tryz.func244 (by rfl) (by rfl) (by rfl) _ _ ?_
  refine HC_seq ?_
  refine HC_region ?_
  refine HL_box (by rfl) (by rfl) (vs := [.pointer (some ⟨dg, 0, none⟩)]) (by rfl) (fun b2 => ?_)
  refine HL_alloc (by rfl) z168 (by rfl) (fun b4 => ?_)
  refine HL_nil ?_
  refine HQ_then ?_
  refine HC_seq ?_
  refine HC_drawH 3 1 (fun jj R v => match jj with | 0 => v = .agg #[.pointer (some ⟨dg, 0, none⟩)] | 1 => v = .float .f64 n | 2 => v = .int .u64 (n : Int) | _ => True) [(0, []), (1, []), (2, [(1, 6)])] [(0, 5), (1, 6), (2, 7)] (by kernel_rfl) (by kernel_rfl) (by kernel_rfl) (by rfl) (by decide) (by rfl) (by kernel_rfl) (by kernel_rfl) (by kernel_rfl) (by kernel_rfl) (by intro c d v a w h; cases d <;> exact h) ?_ ?_ ?_
  · intro j R R' v hle h; match j, h with | 0, h => exact h | 1, h => exact h | 2, h => exact h | _ + 3, h => exact h
  · refine ⟨?_, ?_, ?_, trivial⟩
    · intro R1 G hle
      refine HL_load_agg (by rfl) ty168 (by rfl) (vs := [_]) (.own (by repeat (first | exact Mem.here | apply Mem.there)) (by rfl)) ?_
      refine HL_nil ?_
      exact HQ_dq1 (Frag.le_refl _) rfl .refl
    · intro R1 G hle
      refine HL_move (by rfl) (by rfl) ?_
      refine HL_nil ?_
      exact HQ_dq1 (Frag.le_refl _) rfl .refl
    · intro R1 G hle; rintro _ rfl
      refine HL_extern (vs := [.float .f64 n]) (by rfl) (by rfl) (fun w => run177 n w) ?_
      refine HL_nil ?_
      exact HQ_dq1 (Frag.le_refl _) rfl .refl
  · intro R1 hle; rintro _ rfl _ rfl _ rfl
    have hle1 := hle
    refine HL_perm _ (perm22 _ _ _ _ _) ?_
    refine HL_call (by rfl) is241 (by rfl) (hashUint64 (n := (n : Int)) (by omega) ⟨o, e, rfl, hown⟩ hl E _) ?_
    rintro v R₂ As1 ⟨hle2, rfl, o', e', rfl, hown'⟩
    refine HL_store (vs := [_]) ty168 (by rfl) (by rfl) (by rfl) (by rfl) (by repeat (first | exact Sel.here | apply Sel.there)) (by rfl) ?_
    refine HL_nil ?_
    refine HQ_then ?_
    refine HC_ret ?_
    refine HQ_ret_cell (.inl rfl) (by rfl) (by rfl) ty168 (vs := [_]) (by first | exact Rd.own (by repeat (first | exact Mem.here | apply Mem.there)) (by rfl) | exact RdR.rd (by assumption)) ?_
    exact fun w hs => ⟨_, _, _, rfl, (hs.drop (.there (.there .here))).drop (.there (.there .here)), Frag.le_trans hle1 hle2, rfl, o', e', rfl, hown'⟩
end Go.Sx

/-! The package writes JSON: texts that need no escape, a small number. Printed by a program of ours (wip/tools/gM30.py) out of the steps of the code. -/
namespace Go.Sx
open Go Go.Proofs Go.RowKit

/-- AppendUint, at 2. -/
theorem appendUint2 {g cap TT : Nat} {cs : List Value} (hcap : 1 ≤ cap) (hcs : 1 ≤ cs.length) (E : Env) (R : Frag) (As : List Ent) : Tri Tryz.prog 305 [.slice (some ⟨g, 0, none⟩) 0 cap, .int .u64 2, .int .i64 10] E R (blk g cs TT :: As) (fun r R' As' => Frag.le R R' ∧ r = .slice (some ⟨g, 0, none⟩) 1 cap ∧ As' = blk g (.int .u8 50 :: cs.drop 1) TT :: As) := by
  refine Tri_enter Tryz.func305 (by rfl) (by rfl) (by rfl) _ _ ?_
  refine HC_seq ?_
  refine HC_region ?_
  refine HL_assign (by rfl) (by rfl) ?_
  refine HL_nil ?_
  refine HQ_then ?_
  refine HC_seq ?_
  refine HC_seq ?_
  refine HC_region ?_
  refine HL_move (by rfl) (by rfl) ?_
  refine HL_eql_int (by rfl) (by rfl) (by rfl) ?_
  refine HL_nil ?_
  refine HQ_then ?_
  refine HC_cond_t (by rfl) ?_
  refine HC_seq ?_
  refine HC_seq ?_
  refine HC_region ?_
  refine HL_move (by rfl) (by rfl) ?_
  refine HL_lss (by rfl) (by rfl) (by rfl) ?_
  refine HL_nil ?_
  refine HQ_then ?_
  refine HC_cond_t (by rfl) ?_
  refine HC_seq ?_
  refine HC_region ?_
  refine HL_move (by rfl) (by rfl) ?_
  refine HL_move (by rfl) (by rfl) ?_
  refine HL_conv (by rfl) ⟨_, Tryz.underlying48⟩ Tryz.underlying3 (by rfl) (z := 2) (by decide) ?_
  refine HL_call (by rfl) is230 (by rfl) (small2 R _ _) ?_
  rintro v R₂ As1 ⟨rfl, hle2, rfl⟩
  refine HL_appendS_room (by rfl) Tryz.underlying55 Tryz.underlying9 ty5 (by rfl) (by rfl) (by repeat (first | exact Sel.here | apply Sel.there)) (by show 0 + 1 ≤ cap; omega) (by show 0 + 1 ≤ cs.length; omega) ?_
  refine HL_assign (by rfl) (by rfl) ?_
  refine HL_nil ?_
  refine HQ_then ?_
  refine HC_ret ?_
  refine HQ_then_ret ?_
  refine HQ_then_ret ?_
  refine HQ_ret (.inl rfl) _ (fun a w ha hs => run_results_tmp (by rfl) (by rfl) a w ha) ?_
  exact fun w hs => ⟨_, _, _, rfl, hs, hle2, rfl, rfl⟩
theorem appendInt2i {g cap TT : Nat} {cs : List Value} (hcap : 1 ≤ cap) (hcs : 1 ≤ cs.length) (E : Env) (R : Frag) (As : List Ent) : Tri Tryz.prog 286 [.slice (some ⟨g, 0, none⟩) 0 cap, .int .i64 2, .int .i64 10] E R (blk g cs TT :: As) (fun r R' As' => Frag.le R R' ∧ r = .slice (some ⟨g, 0, none⟩) 1 cap ∧ As' = blk g (.int .u8 50 :: cs.drop 1) TT :: As) := by
  refine Tri_enter Tryz.func286 (by rfl) (by rfl) (by rfl) _ _ ?_
  refine HC_seq ?_
  refine HC_region ?_
  refine HL_assign (by rfl) (by rfl) ?_
  refine HL_nil ?_
  refine HQ_then ?_
  refine HC_seq ?_
  refine HC_region ?_
  refine HL_move (by rfl) (by rfl) ?_
  refine HL_conv (by rfl) ⟨_, Tryz.underlying2⟩ Tryz.underlying48 (by rfl) (z := 2) (by decide) ?_
  refine HL_assign (by rfl) (by rfl) ?_
  refine HL_nil ?_
  refine HQ_then ?_
  refine HC_seq ?_
  refine HC_seq ?_
  refine HC_region ?_
  refine HL_move (by rfl) (by rfl) ?_
  refine HL_lss (by rfl) (by rfl) (by rfl) ?_
  refine HL_nil ?_
  refine HQ_then ?_
  refine HC_cond_f (by rfl) ?_
  refine HC_skip ?_
  refine HQ_then ?_
  refine HC_seq ?_
  refine HC_region ?_
  refine HL_move (by rfl) (by rfl) ?_
  refine HL_move (by rfl) (by rfl) ?_
  refine HL_move (by rfl) (by rfl) ?_
  refine HL_call (by rfl) is305 (by rfl) (appendUint2 hcap hcs E R As) ?_
  rintro v R₂ As1 ⟨hle2, rfl, rfl⟩
  refine HL_assign (by rfl) (by rfl) ?_
  refine HL_nil ?_
  refine HQ_then ?_
  refine HC_ret ?_
  refine HQ_ret (.inl rfl) _ (fun a w ha hs => run_results_tmp (by rfl) (by rfl) a w ha) ?_
  exact fun w hs => ⟨_, _, _, rfl, hs, hle2, rfl, rfl⟩
theorem appendInt2 {g cap TT : Nat} {cs : List Value} (hcap : 1 ≤ cap) (hcs : 1 ≤ cs.length) (E : Env) (R : Frag) (As : List Ent) : Tri Tryz.prog 263 [.slice (some ⟨g, 0, none⟩) 0 cap, .int .i64 2, .int .i64 10] E R (blk g cs TT :: As) (fun r R' As' => Frag.le R R' ∧ r = .slice (some ⟨g, 0, none⟩) 1 cap ∧ As' = blk g (.int .u8 50 :: cs.drop 1) TT :: As) := by
  refine Tri_enter Tryz.func263 (by rfl) (by rfl) (by rfl) _ _ ?_
  refine HC_seq ?_
  refine HC_region ?_
  refine HL_assign (by rfl) (by rfl) ?_
  refine HL_nil ?_
  refine HQ_then ?_
  refine HC_seq ?_
  refine HC_region ?_
  refine HL_move (by rfl) (by rfl) ?_
  refine HL_move (by rfl) (by rfl) ?_
  refine HL_move (by rfl) (by rfl) ?_
  refine HL_call (by rfl) is286 (by rfl) (appendInt2i hcap hcs E R As) ?_
  rintro v R₂ As1 ⟨hle2, rfl, hAs⟩
  rw [hAs]
  clear hAs As1
  refine HL_assign (by rfl) (by rfl) ?_
  refine HL_nil ?_
  refine HQ_then ?_
  refine HC_ret ?_
  refine HQ_ret (.inl rfl) _ (fun a w ha hs => run_results_tmp (by rfl) (by rfl) a w ha) ?_
  exact fun w hs => ⟨_, _, _, rfl, hs, hle2, rfl, rfl⟩
theorem formatInt2i (R : Frag) : Pure Tryz.prog 168 [.int .i64 2, .int .i64 10] R (fun _ r => r = .string ⟨#[50]⟩) := by
  intro E As
  refine Tri_enter Tryz.func168 (by rfl) (by rfl) (by rfl) _ _ ?_
  refine HC_seq ?_
  refine HC_region ?_
  refine HL_assign (by rfl) (by rfl) ?_
  refine HL_nil ?_
  refine HQ_then ?_
  refine HC_seq ?_
  refine HC_seq ?_
  refine HC_region ?_
  refine HL_move (by rfl) (by rfl) ?_
  refine HL_eql_int (by rfl) (by rfl) (by rfl) ?_
  refine HL_nil ?_
  refine HQ_then ?_
  refine HC_cond_t (by rfl) ?_
  refine HC_seq ?_
  refine HC_seq ?_
  refine HC_region ?_
  refine HL_move (by rfl) (by rfl) ?_
  refine HL_leq (by rfl) (by rfl) (by rfl) ?_
  refine HL_boolE (b' := true) (by rfl) ?_
  refine HL_move (by rfl) (by rfl) ?_
  first | (refine HL_guard_no (by rfl) (by rfl) (by rfl) (by rfl) ?_) | (refine HL_guard_yes (by rfl) (by rfl) ?_; refine HL_move (by rfl) (by rfl) ?_)
  refine HL_guard_yes (by rfl) (by rfl) ?_
  refine HL_lss (by rfl) (by rfl) (by rfl) ?_
  refine HL_boolE (b' := true) (by rfl) ?_
  refine HL_pick (by rfl) (by rfl) (by rfl) ?_
  refine HL_nil ?_
  refine HQ_then ?_
  refine HC_cond_t (by rfl) ?_
  refine HC_seq ?_
  refine HC_region ?_
  refine HL_move (by rfl) (by rfl) ?_
  refine HL_call (by rfl) is230 (by rfl) (small2 R _ _) ?_
  rintro v R₂ As1 ⟨rfl, hle2, rfl⟩
  refine HL_assign (by rfl) (by rfl) ?_
  refine HL_nil ?_
  refine HQ_then ?_
  refine HC_ret ?_
  refine HQ_then_ret ?_
  refine HQ_then_ret ?_
  refine HQ_ret (.inl rfl) _ (fun a w ha hs => run_results_tmp (by rfl) (by rfl) a w ha) ?_
  exact fun w hs => ret_pure hs (by repeat (first | exact Tail.refl | apply Tail.cons)) hle2 rfl
theorem formatInt2 (R : Frag) : Pure Tryz.prog 90 [.int .i64 2, .int .i64 10] R (fun _ r => r = .string ⟨#[50]⟩) := by
  intro E As
  refine Tri_enter Tryz.func90 (by rfl) (by rfl) (by rfl) _ _ ?_
  refine HC_seq ?_
  refine HC_region ?_
  refine HL_assign (by rfl) (by rfl) ?_
  refine HL_nil ?_
  refine HQ_then ?_
  refine HC_seq ?_
  refine HC_region ?_
  refine HL_move (by rfl) (by rfl) ?_
  refine HL_move (by rfl) (by rfl) ?_
  refine HL_call (by rfl) is168 (by rfl) (formatInt2i R _ _) ?_
  rintro v R₂ As1 ⟨rfl, hle2, rfl⟩
  refine HL_assign (by rfl) (by rfl) ?_
  refine HL_nil ?_
  refine HQ_then ?_
  refine HC_ret ?_
  refine HQ_ret (.inl rfl) _ (fun a w ha hs => run_results_tmp (by rfl) (by rfl) a w ha) ?_
  exact fun w hs => ret_pure hs (by repeat (first | exact Tail.refl | apply Tail.cons)) hle2 rfl
/-- Emit, at the number 2. -/
theorem emit2 (R : Frag) : Pure Tryz.prog 88 [.agg [.int .i64 2, .int .u64 2, .string ⟨#[]⟩, .nilIface].toArray] R (fun _ r => r = .string ⟨#[50]⟩) := by
  intro E As
  refine Tri_enter Tryz.func88 (by rfl) (by rfl) (by rfl) _ _ ?_
  refine HC_seq ?_
  refine HC_region ?_
  refine HL_box (by rfl) (by rfl) (vs := [.int .i64 2, .int .u64 2, .string ⟨#[]⟩, .nilIface]) (by rfl) (fun b1 => ?_)
  refine HL_assign (by rfl) (by rfl) ?_
  refine HL_nil ?_
  refine HQ_then ?_
  refine HC_seq ?_
  refine HC_region ?_
  refine HL_load_agg (by rfl) ty95 (by rfl) (vs := [_, _, _, _]) (by first | exact Rd.own (by repeat (first | exact Mem.here | apply Mem.there)) (by rfl) | exact RdR.rd (by assumption)) ?_
  refine HL_call (by rfl) is147 (by rfl) (asType R 2 _ _ _ _ _) ?_
  rintro v R₂ As1 ⟨rfl, hle2, rfl⟩
  refine HL_nil ?_
  refine HQ_then ?_
  refine HC_block ?_
  refine HC_seq ?_
  refine HC_region ?_
  refine HL_eql_int (by rfl) (by rfl) (by rfl) ?_
  refine HL_assign (by rfl) (by rfl) ?_
  refine HL_nil ?_
  refine HQ_then ?_
  refine HC_cond_f (by rfl) ?_
  refine HC_seq ?_
  refine HC_region ?_
  refine HL_eql_int (by rfl) (by rfl) (by rfl) ?_
  refine HL_assign (by rfl) (by rfl) ?_
  refine HL_nil ?_
  refine HQ_then ?_
  refine HC_cond_f (by rfl) ?_
  refine HC_seq ?_
  refine HC_region ?_
  refine HL_eql_int (by rfl) (by rfl) (by rfl) ?_
  refine HL_assign (by rfl) (by rfl) ?_
  refine HL_nil ?_
  refine HQ_then ?_
  refine HC_cond_f (by rfl) ?_
  refine HC_seq ?_
  refine HC_region ?_
  refine HL_eql_int (by rfl) (by rfl) (by rfl) ?_
  refine HL_assign (by rfl) (by rfl) ?_
  refine HL_nil ?_
  refine HQ_then ?_
  refine HC_cond_t (by rfl) ?_
  refine HC_seq ?_
  refine HC_region ?_
  refine HL_load_agg (by rfl) ty95 (by rfl) (vs := [_, _, _, _]) (by first | exact Rd.own (by repeat (first | exact Mem.here | apply Mem.there)) (by rfl) | exact RdR.rd (by assumption)) ?_
  refine HL_call (by rfl) is150 (by rfl) (asInt64 R₂ 2 _ _ _ _ _) ?_
  rintro v R₃ As1 ⟨rfl, hle3, rfl⟩
  refine HL_eq (show Value.int .i64 (IntKind.i64.wrap 2) = .int .i64 2 from congrArg (Value.int .i64) (by decide)) ?_
  refine HL_call (by rfl) is90 (by rfl) (formatInt2 R₃ _ _) ?_
  rintro v R₄ As1 ⟨rfl, hle4, rfl⟩
  refine HL_assign (by rfl) (by rfl) ?_
  refine HL_nil ?_
  refine HQ_then ?_
  refine HC_ret ?_
  refine HQ_block_ret ?_
  refine HQ_ret (.inl rfl) _ (fun a w ha hs => run_results_tmp (by rfl) (by rfl) a w ha) ?_
  exact fun w hs => ret_pure hs (by repeat (first | exact Tail.refl | apply Tail.cons)) (Frag.le_trans hle2 (Frag.le_trans hle3 hle4)) rfl
/-- A byte that JSON needs no escape for. -/
def safe (c : UInt8) : Prop := 32 ≤ c.toNat ∧ c.toNat < 128 ∧ c.toNat ≠ 34 ∧ c.toNat ≠ 92
theorem kb_get {s : ByteArray} {i : Nat} (h : i < s.size) : s[i]? = some ((kb s)[i]'h) := by
  rw [getElem?_pos s i h]; rfl
/-- appendJSONString, at a text that needs no escape. -/
theorem jsonSafe {bb : Nat} {bs : List UInt8} {s : ByteArray} {As As0 : List Ent} (hB : Bld bb bs As As0) (hl : bs.length ≤ 10000000) (hs0 : s.size ≤ 1000) (hpos : 0 < s.size) (hsafe : ∀ c ∈ kb s, safe c) (E : Env) (R : Frag) :
    Tri Tryz.prog 257 [.pointer (some ⟨bb, 0, none⟩), .string s] E R As (fun _ R' As' => Frag.le R R' ∧ Bld bb (bs ++ [34] ++ kb s ++ [34]) As' As0) := by
  refine Tri_enter Tryz.func257 (by rfl) (by rfl) (by rfl) _ _ ?_
  refine HC_seq ?_
  refine HC_region ?_
  refine HL_move (by rfl) (by rfl) ?_
  refine HL_call (by rfl) is227 (by rfl) (bldByte (c := 34) hB (by omega) E R) ?_
  rintro v R₁ As1 ⟨hle1, rfl, hB1⟩
  refine HL_nil ?_
  refine HQ_then ?_
  refine HC_seq ?_
  refine HC_region ?_
  refine HL_assign (by rfl) (by rfl) ?_
  refine HL_nil ?_
  refine HQ_then ?_
  refine HC_seq ?_
  refine HC_seq ?_
  refine HC_region ?_
  refine HL_assign (by rfl) (by rfl) ?_
  refine HL_nil ?_
  refine HQ_then ?_
  refine HC_block ?_
  refine HC_loop (fun F' R' As' m => ∃ i : Nat, i ≤ s.size ∧ s.size - i = m ∧ F' = [(0, .pointer (some ⟨bb, 0, none⟩)), (1, .string s), (4, .int .i64 0), (5, .int .i64 ((i : Int)))] ∧ As' = As1 ∧ Frag.le R₁ R') [(0, .pointer (some ⟨bb, 0, none⟩)), (1, .string s), (4, .int .i64 0), (5, .int .i64 (0))] As1 s.size ⟨rfl, rfl, rfl, rfl, trivial⟩ (.refl _) ⟨0, by omega, by omega, rfl, rfl, Frag.le_refl _⟩ ?_
  rintro F' R₂ As' m ⟨i, hi, rfl, rfl, hAs, hle2⟩
  rw [hAs]
  clear hAs As'
  refine HC_seq ?_
  refine HC_seq ?_
  refine HC_region ?_
  refine HL_move (by rfl) (by rfl) ?_
  refine HL_move (by rfl) (by rfl) ?_
  refine HL_len_string (by rfl) Tryz.underlying9 (by rfl) ?_
  refine HL_lss (by rfl) (by rfl) (by rfl) ?_
  refine HL_nil ?_
  refine HQ_then ?_
  refine HC_cond (by rfl) (fun ht14 => ?_) (fun ht14 => ?_)
  · have hlt : i < s.size := by simpa using ht14
    obtain ⟨h32, h128, h34, h92⟩ := hsafe _ (List.getElem_mem (l := kb s) (n := i) hlt)
    refine HC_skip ?_
    refine HQ_then ?_
    refine HC_block ?_
    refine HC_seq ?_
    refine HC_seq ?_
    refine HC_region ?_
    refine HL_move (by rfl) (by rfl) ?_
    refine HL_move (by rfl) (by rfl) ?_
    refine HL_indexS (i := i) (by rfl) Tryz.underlying9 (by rfl) (by rfl) rfl (kb_get hlt) ?_
    refine HL_assign (by rfl) (by rfl) ?_
    refine HL_nil ?_
    refine HQ_then ?_
    refine HC_seq ?_
    refine HC_region ?_
    refine HL_move (by rfl) (by rfl) ?_
    refine HL_lss (by rfl) (by rfl) (by rfl) ?_
    refine HL_boolE (b' := true) (by simp; omega) ?_
    refine HL_nil ?_
    refine HQ_then ?_
    refine HC_cond_t (by rfl) ?_
    refine HC_seq ?_
    refine HC_seq ?_
    refine HC_region ?_
    refine HL_move (by rfl) (by rfl) ?_
    refine HL_geq (by rfl) (by rfl) (by rfl) ?_
    refine HL_boolE (b' := true) (by simp; omega) ?_
    refine HL_move (by rfl) (by rfl) ?_
    first | (refine HL_guard_no (by rfl) (by rfl) (by rfl) (by rfl) ?_) | (refine HL_guard_yes (by rfl) (by rfl) ?_; refine HL_move (by rfl) (by rfl) ?_)
    refine HL_guard_yes (by rfl) (by rfl) ?_
    refine HL_neq_int (by rfl) (by rfl) (by rfl) ?_
    refine HL_boolE (b' := true) (by simp; omega) ?_
    refine HL_pick (by rfl) (by rfl) (by rfl) ?_
    refine HL_move (by rfl) (by rfl) ?_
    first | (refine HL_guard_no (by rfl) (by rfl) (by rfl) (by rfl) ?_) | (refine HL_guard_yes (by rfl) (by rfl) ?_; refine HL_move (by rfl) (by rfl) ?_)
    refine HL_guard_yes (by rfl) (by rfl) ?_
    refine HL_neq_int (by rfl) (by rfl) (by rfl) ?_
    refine HL_boolE (b' := true) (by simp; omega) ?_
    refine HL_pick (by rfl) (by rfl) (by rfl) ?_
    refine HL_nil ?_
    refine HQ_then ?_
    refine HC_cond_t (by rfl) ?_
    refine HC_seq ?_
    refine HC_region ?_
    refine HL_move (by rfl) (by rfl) ?_
    refine HL_addN (c := i + 1) (by rfl) (by rfl) (by rfl) (by omega) (by omega) ?_
    refine HL_assign (by rfl) (by rfl) ?_
    refine HL_nil ?_
    refine HQ_then ?_
    refine HC_exit ?_
    refine HQ_then_exit ?_
    refine HQ_then_exit ?_
    refine HQ_block_same ?_
    refine HQ_loop [(0, .pointer (some ⟨bb, 0, none⟩)), (1, .string s), (4, .int .i64 0), (5, .int .i64 (((i + 1 : Nat) : Int)))] _ (s.size - (i + 1)) (by omega) ⟨rfl, rfl, rfl, rfl, trivial⟩ (.refl _) ⟨i + 1, by omega, rfl, rfl, rfl, hle2⟩
  · have hge : i = s.size := by simp at ht14; omega
    subst hge
    refine HC_exit ?_
    refine HQ_then_exit ?_
    refine HQ_then_exit ?_
    refine HQ_block_same ?_
    refine HQ_then ?_
    refine HC_seq ?_
    refine HC_seq ?_
    refine HC_region ?_
    refine HL_move (by rfl) (by rfl) ?_
    refine HL_move (by rfl) (by rfl) ?_
    refine HL_len_string (by rfl) Tryz.underlying9 (by rfl) ?_
    refine HL_lss (by rfl) (by rfl) (by rfl) ?_
    refine HL_boolE (b' := true) (by simp; omega) ?_
    refine HL_nil ?_
    refine HQ_then ?_
    refine HC_cond_t (by rfl) ?_
    refine HC_region ?_
    refine HL_move (by rfl) (by rfl) ?_
    refine HL_move (by rfl) (by rfl) ?_
    refine HL_move (by rfl) (by rfl) ?_
    refine HL_sliceS_lo (by rfl) Tryz.underlying9 (by rfl) (by rfl) (lo := 0) rfl (by omega) ?_
    refine HL_eq (show Value.string (s.extract 0 s.size) = .string s from congrArg Value.string (by simp)) ?_
    refine HL_call (by rfl) is228 (by rfl) (bldStr (s := s) (by omega) hB1 (by simp; omega) E R₂) ?_
    rintro v R₃ As2 ⟨hle3, rfl, hB2⟩
    refine HL_move (by rfl) (by rfl) ?_
    refine HL_extract (by rfl) (by rfl) (by rfl) ?_
    refine HL_extract (by rfl) (by rfl) (by rfl) ?_
    refine HL_nil ?_
    refine HQ_then ?_
    refine HC_region ?_
    refine HL_move (by rfl) (by rfl) ?_
    refine HL_call (by rfl) is227 (by rfl) (bldByte (c := 34) hB2 (by simp [kb_len]; omega) E R₃) ?_
    rintro v R₄ As3 ⟨hle4, rfl, hB3⟩
    refine HL_nil ?_
    refine HQ_ret (.inr rfl) (.tuple #[]) (fun a w ha hs => run_results_none (by rfl) a w) ?_
    exact fun w hs => ⟨_, _, _, rfl, hs, Frag.le_trans hle1 (Frag.le_trans hle2 (Frag.le_trans hle3 hle4)), hB3⟩
/-- appendJSONValue, at a text that needs no escape. -/
theorem jsonValueSafe {bb : Nat} {bs : List UInt8} {s : ByteArray} {As As0 : List Ent} (hB : Bld bb bs As As0) (hl : bs.length ≤ 10000000) (hs0 : s.size ≤ 1000) (hpos : 0 < s.size) (hsafe : ∀ c ∈ kb s, safe c) (E : Env) (R : Frag) :
    Tri Tryz.prog 258 [.pointer (some ⟨bb, 0, none⟩), .agg [.int .i64 4, .int .u64 0, .string s, .nilIface].toArray] E R As (fun _ R' As' => Frag.le R R' ∧ Bld bb (bs ++ [34] ++ kb s ++ [34]) As' As0) := by
  refine Tri_enter Tryz.func258 (by rfl) (by rfl) (by rfl) _ _ ?_
  refine HC_seq ?_
  refine HC_region ?_
  refine HL_box (by rfl) (by rfl) (vs := [.int .i64 4, .int .u64 0, .string s, .nilIface]) (by rfl) (fun b3 => ?_)
  refine HL_nil ?_
  refine HQ_then ?_
  refine HC_seq ?_
  refine HC_region ?_
  refine HL_load_agg (by rfl) ty95 (by rfl) (vs := [_, _, _, _]) (by first | exact Rd.own (by repeat (first | exact Mem.here | apply Mem.there)) (by rfl) | exact RdR.rd (by assumption)) ?_
  refine HL_call (by rfl) is147 (by rfl) (asType R 4 _ _ _ _ _) ?_
  rintro v R₂ As1 ⟨rfl, hle2, rfl⟩
  refine HL_nil ?_
  refine HQ_then ?_
  refine HC_block ?_
  refine HC_seq ?_
  refine HC_region ?_
  refine HL_eql_int (by rfl) (by rfl) (by rfl) ?_
  refine HL_assign (by rfl) (by rfl) ?_
  refine HL_nil ?_
  refine HQ_then ?_
  refine HC_cond_f (by rfl) ?_
  refine HC_seq ?_
  refine HC_region ?_
  refine HL_eql_int (by rfl) (by rfl) (by rfl) ?_
  refine HL_assign (by rfl) (by rfl) ?_
  refine HL_nil ?_
  refine HQ_then ?_
  refine HC_cond_f (by rfl) ?_
  refine HC_seq ?_
  refine HC_region ?_
  refine HL_eql_int (by rfl) (by rfl) (by rfl) ?_
  refine HL_assign (by rfl) (by rfl) ?_
  refine HL_nil ?_
  refine HQ_then ?_
  refine HC_cond_f (by rfl) ?_
  refine HC_seq ?_
  refine HC_region ?_
  refine HL_eql_int (by rfl) (by rfl) (by rfl) ?_
  refine HL_assign (by rfl) (by rfl) ?_
  refine HL_nil ?_
  refine HQ_then ?_
  refine HC_cond_f (by rfl) ?_
  refine HC_seq ?_
  refine HC_region ?_
  refine HL_eql_int (by rfl) (by rfl) (by rfl) ?_
  refine HL_assign (by rfl) (by rfl) ?_
  refine HL_nil ?_
  refine HQ_then ?_
  refine HC_cond_f (by rfl) ?_
  refine HC_seq ?_
  refine HC_region ?_
  refine HL_eql_int (by rfl) (by rfl) (by rfl) ?_
  refine HL_assign (by rfl) (by rfl) ?_
  refine HL_nil ?_
  refine HQ_then ?_
  refine HC_cond_f (by rfl) ?_
  refine HC_seq ?_
  refine HC_region ?_
  refine HL_eql_int (by rfl) (by rfl) (by rfl) ?_
  refine HL_assign (by rfl) (by rfl) ?_
  refine HL_nil ?_
  refine HQ_then ?_
  refine HC_cond_t (by rfl) ?_
  refine HC_region ?_
  refine HL_move (by rfl) (by rfl) ?_
  refine HL_fieldAddr (by rfl) f95_2 (by rfl) ?_
  refine HL_load_one (by rfl) ty9 (by rfl) (.own (by repeat (first | exact Mem.here | apply Mem.there)) (by rfl)) ?_
  obtain ⟨p, o, e, rfl, hp, hown⟩ := hB
  refine HL_perm _ (perm12 _ _ _ _) ?_
  refine HL_call (by rfl) is257 (by rfl) (jsonSafe ⟨p, o, e, rfl, hp, hown⟩ hl hs0 hpos hsafe E R₂) ?_
  rintro v R₃ As2 ⟨hle3, p', o', e', rfl, hp', hown'⟩
  refine HL_nil ?_
  refine HQ_block ?_
  refine HQ_ret (.inr rfl) (.tuple #[]) (fun a w ha hs => run_results_none (by rfl) a w) ?_
  exact fun w hs => ⟨_, _, _, rfl, hs.drop (.there (.there .here)), Frag.le_trans hle2 hle3, p', o', e', rfl, hp', hown'⟩
/-- appendJSONValue, at the number 2. -/
theorem jsonValue2 {bb : Nat} {bs : List UInt8} {As As0 : List Ent} (hB : Bld bb bs As As0) (hl : bs.length ≤ 10000000) (E : Env) (R : Frag) :
    Tri Tryz.prog 258 [.pointer (some ⟨bb, 0, none⟩), .agg [.int .i64 2, .int .u64 2, .string ⟨#[]⟩, .nilIface].toArray] E R As (fun _ R' As' => Frag.le R R' ∧ Bld bb (bs ++ [50]) As' As0) := by
  refine Tri_enter Tryz.func258 (by rfl) (by rfl) (by rfl) _ _ ?_
  refine HC_seq ?_
  refine HC_region ?_
  refine HL_box (by rfl) (by rfl) (vs := [.int .i64 2, .int .u64 2, .string ⟨#[]⟩, .nilIface]) (by rfl) (fun b3 => ?_)
  refine HL_nil ?_
  refine HQ_then ?_
  refine HC_seq ?_
  refine HC_region ?_
  refine HL_load_agg (by rfl) ty95 (by rfl) (vs := [_, _, _, _]) (by first | exact Rd.own (by repeat (first | exact Mem.here | apply Mem.there)) (by rfl) | exact RdR.rd (by assumption)) ?_
  refine HL_call (by rfl) is147 (by rfl) (asType R 2 _ _ _ _ _) ?_
  rintro v R₂ As1 ⟨rfl, hle2, rfl⟩
  refine HL_nil ?_
  refine HQ_then ?_
  refine HC_block ?_
  refine HC_seq ?_
  refine HC_region ?_
  refine HL_eql_int (by rfl) (by rfl) (by rfl) ?_
  refine HL_assign (by rfl) (by rfl) ?_
  refine HL_nil ?_
  refine HQ_then ?_
  refine HC_cond_f (by rfl) ?_
  refine HC_seq ?_
  refine HC_region ?_
  refine HL_eql_int (by rfl) (by rfl) (by rfl) ?_
  refine HL_assign (by rfl) (by rfl) ?_
  refine HL_nil ?_
  refine HQ_then ?_
  refine HC_cond_f (by rfl) ?_
  refine HC_seq ?_
  refine HC_region ?_
  refine HL_eql_int (by rfl) (by rfl) (by rfl) ?_
  refine HL_assign (by rfl) (by rfl) ?_
  refine HL_nil ?_
  refine HQ_then ?_
  refine HC_cond_t (by rfl) ?_
  refine HC_seq ?_
  refine HC_region ?_
  refine HL_alloc (by rfl) z298 (by rfl) (fun b4 => ?_)
  refine HL_nil ?_
  refine HQ_then ?_
  refine HC_seq ?_
  refine HC_drawH 3 2 (fun jj R v => match jj with | 0 => v = .slice (some ⟨b4, 0, none⟩) 0 20 | 1 => v = .agg [.int .i64 2, .int .u64 2, .string ⟨#[]⟩, .nilIface].toArray | 2 => v = .int .i64 2 | _ => True) [(0, []), (1, []), (2, [(1, 36)])] [(0, 35), (1, 36), (2, 37)] (by kernel_rfl) (by kernel_rfl) (by kernel_rfl) (by rfl) (by decide) (by rfl) (by kernel_rfl) (by kernel_rfl) (by kernel_rfl) (by kernel_rfl) (by intro c d v a w h; cases d <;> exact h) ?_ ?_ ?_
  · intro j R R' v hle h; match j, h with | 0, h => exact h | 1, h => exact h | 2, h => exact h | _ + 3, h => exact h
  · refine ⟨?_, ?_, ?_, trivial⟩
    · intro R1 G hle
      refine HL_sliceArr0 (by rfl) Tryz.underlying298 ty5 (by rfl) (by rfl) (by rfl) ?_
      refine HL_nil ?_
      exact HQ_dq1 (Frag.le_refl _) rfl .refl
    · intro R1 G hle
      refine HL_load_agg (by rfl) ty95 (by rfl) (vs := [_, _, _, _]) (.own (by repeat (first | exact Mem.here | apply Mem.there)) (by rfl)) ?_
      refine HL_nil ?_
      exact HQ_dq1 (Frag.le_refl _) rfl .refl
    · intro R1 G hle; rintro _ rfl
      refine HL_call (by rfl) is150 (by rfl) (asInt64 R1 2 _ _ _ _ _) ?_
      rintro v R' As' ⟨rfl, hle', rfl⟩
      refine HL_eq (show Value.int .i64 (IntKind.i64.wrap 2) = .int .i64 2 from congrArg (Value.int .i64) (by decide)) ?_
      refine HL_nil ?_
      exact HQ_dq1 hle' rfl .refl
  · intro R1 hle; rintro _ rfl _ rfl _ rfl
    have hle3 := hle
    refine HL_call (by rfl) is263 (by rfl) (appendInt2 (g := b4) (cap := 20) (by omega) (by simp) E R1 _) ?_
    rintro v R₄ As1 ⟨hle4, rfl, rfl⟩
    refine HL_assign (by rfl) (by rfl) ?_
    refine HL_nil ?_
    refine HQ_then ?_
    refine HC_seal .here (fun R₅ hle5 hb4 => ?_)
    obtain ⟨p, o, e, rfl, hp, hown⟩ := hB
    refine HC_perm _ (perm12 _ _ _ _) ?_
    refine HC_region ?_
    refine HL_move (by rfl) (by rfl) ?_
    refine HL_move (by rfl) (by rfl) ?_
    refine HL_call (by rfl) is264 (by rfl) (bldWrite (n := 1) (s := [50]) (by omega) rfl ⟨p, o, e, rfl, hp, hown⟩ (by omega) E R₅ ⟨_, _, _, hb4, by rfl⟩) ?_
    rintro v R₆ As2 ⟨hle6, rfl, p', o', e', rfl, hp', hown'⟩
    refine HL_move (by rfl) (by rfl) ?_
    refine HL_extract (by rfl) (by rfl) (by rfl) ?_
    refine HL_extract (by rfl) (by rfl) (by rfl) ?_
    refine HL_nil ?_
    refine HQ_block ?_
    refine HQ_ret (.inr rfl) (.tuple #[]) (fun a w ha hs => run_results_none (by rfl) a w) ?_
    exact fun w hs => ⟨_, _, _, rfl, hs.drop (.there (.there .here)), Frag.le_trans hle2 (Frag.le_trans hle3 (Frag.le_trans hle4 (Frag.le_trans hle5 hle6))), p', o', e', rfl, hp', hown'⟩
end Go.Sx
