/- jsonschema.equals at any two values; impl.JEquals. -/
import Derived.Test.YtdleegmdpgefmaaJZ
import Derived.Test.YtdleegmdpgefmaaJQ
namespace Go.Proofs.Ytdleegmdpgefmaa.J
open Go.RowKit Go.Proofs.YtdleegmdpgefmaaW.PrintWords Go.Proofs.YtdleegmdpgefmaaW.PrintLast Go.Proofs.YtdleegmdpgefmaaW.PrintMore Go.Proofs.Ytdleegmdpgefmaa.PJ Go.Proofs.Ytdleegmdpgefmaa.K Go.Maps
set_option linter.unusedVariables false
set_option linter.unusedSimpArgs false
attribute [local go_sem] eql_nil as_yes_b as_yes_i as_yes_s as_yes_a as_yes_m as_no_0 as_nil_0 as_no_1 as_nil_1 as_no_2 as_nil_2 as_no_3 as_nil_3 as_no_4 as_nil_4 as_no_5 as_nil_5 as_no_6 as_nil_6 as_no_7 as_nil_7 as_no_8 as_nil_8 as_no_9 as_nil_9 as_no_10 as_nil_10 as_no_11 as_nil_11 as_no_12 as_nil_12 as_no_13 as_nil_13 as_no_14 as_nil_14 as_no_15 as_nil_15 neq_err eql_nn

theorem NoNum.map_inv {es : List (Lit × D0)} (h : NoNum (.map es)) : ∀ k, Maps.has (.map es) k = true → NoNum ((DataW.map es).atKey k .nil) := by
  cases h with
  | map _ h => exact h
theorem NoNum.slice_inv {l sp : List D0} (h : NoNum (.slice l sp)) : ∀ e ∈ l, NoNum e := by
  cases h with
  | slice _ _ h => exact h
set_option maxHeartbeats 8000000 in
set_option maxRecDepth 100000 in
theorem eq_slice_no (w : World) (A : Option Addr) (n c : Nat) (l : List D0) (v : Value) (d : D0) (m : Nat) (ok : Nat → Prop) (h : Rep m ok w v d) (hne : ∀ A2 c2 l2, v = .iface 42 (.slice A2 l2.length c2) → d = .slice l2 [] → l2.length ≠ l.length) : Calls Try.prog 21 #[.iface 42 (.slice A l.length c), v] w (EqP (.slice l []) d w) := by
  obtain ⟨m, rfl⟩ := h.pos
  rcases h with ⟨rfl, rfl⟩ | ⟨b, rfl, rfl⟩ | ⟨k, rfl, rfl⟩ | ⟨s, rfl, rfl⟩ | ⟨A2, c2, l2, rfl, rfl, _⟩ | ⟨b, D, rfl, hc, _⟩
  case inr.inr.inr.inr.inr => obtain ⟨es, rfl, _⟩ := hc; clear hne; (go_enter Try.func21, Try.ntmps21; go_wp2_with fail; go_ret2; exact eq_no (by simp) (Below.refl _ _))
  case inr.inr.inr.inr.inl =>
    have hn := hne A2 c2 l2 rfl rfl
    have hd : ((l.length : Int) != (l2.length : Int)) = true := by rw [bne_iff_ne]; omega
    have HN := Lib.hid hn
    clear hn hne
    go_enter Try.func21, Try.ntmps21
    go_wp2_with fail
    go_ret2
    exact eq_no (fun e => HN.out (by injection e with e _; rw [e])) (Below.refl _ _)
  all_goals (clear hne; (go_enter Try.func21, Try.ntmps21; go_wp2_with fail; go_ret2; exact eq_no (by simp) (Below.refl _ _)))
set_option maxHeartbeats 8000000 in
set_option maxRecDepth 100000 in
theorem eq_map_no (w : World) (b1 : Nat) (d1 : D0) (hc1 : CanonS d1) (v : Value) (d : D0) (m : Nat) (ok : Nat → Prop) (h : Rep m ok w v d) (hne : ∀ b2, v ≠ .iface 44 (.map (some b2))) : Calls Try.prog 21 #[.iface 44 (.map (some b1)), v] w (EqP d1 d w) := by
  obtain ⟨m, rfl⟩ := h.pos
  obtain ⟨es1, rfl, _⟩ := hc1
  rcases h with ⟨rfl, rfl⟩ | ⟨b, rfl, rfl⟩ | ⟨k, rfl, rfl⟩ | ⟨s, rfl, rfl⟩ | ⟨A2, c2, l2, rfl, rfl, _⟩ | ⟨b, D, rfl, hc, _⟩
  case inr.inr.inr.inr.inr => exact absurd rfl (hne b)
  all_goals (clear hne; (go_enter Try.func21, Try.ntmps21; go_wp2_with fail; go_ret2; exact eq_no (by simp) (Below.refl _ _)))
theorem equals : ∀ n, EqI n
  | 0 => fun u1 u2 e1 e2 m ok1 ok2 w h1 _ _ => h1.elim
  | n + 1 => fun u1 u2 e1 e2 m ok1 ok2 w h1 hn h2 => by
    have hI := equals n
    rcases h1 with ⟨rfl, rfl⟩ | ⟨b, rfl, rfl⟩ | ⟨k, rfl, rfl⟩ | ⟨s, rfl, rfl⟩ | ⟨A, c, l, rfl, rfl, hc, hl, hrow⟩ | ⟨b, D, rfl, hcan, _, ⟨n1, hn1, o1⟩, hsame⟩
    · exact eq_nil h2
    · exact eq_bool b h2
    · cases hn
    · exact eq_str s h2
    · by_cases hex : ∃ A2 c2 l2, u2 = .iface 42 (.slice A2 l2.length c2) ∧ e2 = .slice l2 [] ∧ l2.length = l.length
      · obtain ⟨A2, c2, l2, rfl, rfl, hlen⟩ := hex
        obtain ⟨m, rfl⟩ := h2.pos
        rcases h2 with ⟨h, _⟩ | ⟨b, h, _⟩ | ⟨k, h, _⟩ | ⟨s, h, _⟩ | ⟨A3, c3, l3, h, h', hc3, hl3, hrow3⟩ | ⟨b, D, h, _⟩
        all_goals (try (simp at h; done))
        injection h' with h' _
        subst h'
        injection h with _ h
        injection h with e1 _ e3
        subst e1 e3
        rw [hlen]
        exact eq_slices n hI m ok1 ok2 w A A2 c c2 l l2 hc hl hrow hn.slice_inv hc3 hrow3 hlen
      · exact eq_slice_no w A n c l u2 e2 m ok2 h2 fun A2 c2 l2 e e' hlen => hex ⟨A2, c2, l2, e, e', hlen⟩
    · by_cases hex : ∃ b2, u2 = .iface 44 (.map (some b2))
      · obtain ⟨b2, rfl⟩ := hex
        obtain ⟨m, rfl⟩ := h2.pos
        rcases h2 with ⟨h, _⟩ | ⟨b, h, _⟩ | ⟨k, h, _⟩ | ⟨s, h, _⟩ | ⟨A3, c3, l3, h, _⟩ | ⟨b', D', h, hcan2, _, ⟨n2, hn2, o2⟩, hsame2⟩
        all_goals (try (simp at h; done))
        injection h with _ h
        injection h with h
        injection h with h
        subst h
        by_cases hs : Maps.size e1 = Maps.size e2
        · obtain ⟨es, rfl, hp⟩ := hcan
          exact eq_maps n hI m ok1 ok2 w b b2 n1 n2 D D' _ e2 o1 o2 hsame hsame2 ⟨es, rfl, hp⟩ hcan2 hn.map_inv hs
        · exact eq_maps_len w b b2 n1 n2 D D' e1 e2 o1 o2 hsame.1 hsame2.1 hs
      · exact eq_map_no w b e1 hcan u2 e2 m ok2 h2 fun b2 e => hex ⟨b2, e⟩
set_option maxHeartbeats 1000000 in
theorem equalsD {n m : Nat} {ok1 ok2 : Nat → Prop} {w : World} {u1 u2 : Value} {e1 e2 : D0} (h1 : Rep n ok1 w u1 e1) (hn : NoNum e1) (h2 : Rep m ok2 w u2 e2) : Calls Try.prog 16 #[u1, u2] w fun e w' => e = .returned (.tuple #[.bool (eqB e1 e2), .nilIface]) ∧ Below w.heap.size w w' := by
  have C := Lib.hid (show CallIn w u1 u2 (eqB e1 e2) from fun W hb => (equals n).at_ (h1.kept hb) hn (h2.kept hb) rfl)
  obtain ⟨b, hb⟩ : ∃ b, eqB e1 e2 = b := ⟨_, rfl⟩
  rw [hb] at C ⊢
  clear h1 h2 hn hb
  go_enter Try.func16, Try.ntmps16
  go_wp2_with fail
  refine (C.out.at_ (Below.refl _ _)).mono ?_
  rintro e w1 ⟨rfl, hbl⟩
  have HB := Lib.hid hbl
  clear hbl
  go_wp2_with fail
  go_ret2
  exact ⟨rfl, HB.out⟩
end Go.Proofs.Ytdleegmdpgefmaa.J
