/-
  FnIstext: what the call comes to.
-/
import Derived.Test.YtnkhpkpcjijpeaaGreatDoorPIt
import Derived.Test.YtnkhpkpcjijpeaaGreatDoorIt
namespace Go.Proofs.YtnkhpkpcjijpeaaGreatDoor
set_option linter.unusedSimpArgs false
set_option linter.unusedVariables false
open Go Go.RowKit
set_option maxRecDepth 100000

theorem pack_istext (u : Iv) (v : Array Value) (r : Nat) (b c : Nat) (w : World) (hl : LieI w b 0 [u])
    (hin : ∀ w', Calls Tryz.prog 47 #[u.val] w' (Gives w' (.agg v)))
    (hfn : ∀ w' fb p B, Ext w w' → ArgsAt w' p B [v] → Calls Tryz.prog 26 #[ptr fb, ptr p] w' (Gives w' (fbool r))) :
    Calls Tryz.prog 6 #[.slice (some ⟨b, 0, none⟩) 1 c] w (Gives w (Iv.val ⟨3, r, ⟨#[]⟩⟩)) := by
  refine impl_ISTEXT [u] ⟨3, r, ⟨#[]⟩⟩ b c w (by simp) (by simp) hl fun w2 b2 c2 hw2 hl2 => ?_
  refine door_ISTEXT (fun _ => v) [u] (fbool r) ⟨3, r, ⟨#[]⟩⟩ b2 0 c2 w2 (by simp) hl2 (fun y w3 hy => ?_) (fun w3 fb p B hw3 ha2 => hfn w3 fb p B (hw2.tr hw3) ha2) (fun w3 => doorArg_bool r w3)
  have e : y = u := by simpa using hy
  subst e; exact hin w3

theorem Any1.k5 {x : Sc} (h : Any1 x) : x.k ≠ 5 := by
  rcases h with (h | h | h | h) | ⟨h, _⟩ <;> omega

theorem of_logSc (r : Bool) (w : World) : Calls Tryz.prog 23 #[(logSc r).val] w (Gives w (Iv.val ⟨3, oneW r, ⟨#[]⟩⟩)) := by
  cases r
  · exact of_truth_no w
  · exact of_truth_yes w

theorem order_oneW (r : Bool) : FloatKind.f64.format.order (oneW r) (oneW r) = some Ordering.eq := by
  cases r <;> decide +kernel

theorem agrees_it (x : Sc) (u : Iv) (v : Array Value) (r : Bool) (b c : Nat) (w : World) (hx : Lie w b 0 [x]) (h : Any1 x) (hok : itOk x = true) (hr : (x.k == 2) = r)
    (hg : ∀ w', Calls Tryz.prog 23 #[x.val] w' (Gives w' u.val))
    (hin : ∀ w', Calls Tryz.prog 47 #[u.val] w' (Gives w' (.agg v)))
    (hfn : ∀ w' fb p B, Ext w w' → ArgsAt w' p B [v] → Calls Tryz.prog 26 #[ptr fb, ptr p] w' (Gives w' (fbool (oneW r)))) :
    Calls Tryz.prog 5 #[.func (.func 6) #[] #[], .string ⟨#[73, 83, 84, 69, 88, 84]⟩, .slice (some ⟨b, 0, none⟩) 1 c] w (Gives w (.bool true)) := by
  have h6 : x.k ≠ 6 := by
    intro h6; unfold itOk at hok; rw [if_pos h6] at hok; cases hok
  refine agrees_okx 6 (fun args w => Tryz.call6 args w) (fun _ => u) ⟨3, oneW r, ⟨#[]⟩⟩ ⟨#[73, 83, 84, 69, 88, 84]⟩ [x] (logSc r) b 0 c w hx
      (by simp) (by simp) (by simpa using h.k5) (by simpa using h6) (by simp) (by simp) ?_ ?_ ?_ (fun w' => of_logSc r w') (order_oneW r)
  · intro w' hw
    refine call_of _ _ _ _ (logSc r) w' fun w2 hw2 => ?_
    have hq := callOver_istext x b 0 c w2 h hok (hx.ext (hw.tr hw2))
    rwa [hr] at hq
  · intro y w' hm
    have e : y = x := by simpa using hm
    subst e
    exact hg w'
  · exact fun w' b' c' hw hl => pack_istext u v (oneW r) b' c' w' hl hin fun w2 fb p B hw2 ha => hfn w2 fb p B (hw.tr hw2) ha

theorem agrees_itno (x : Sc) (b c : Nat) (w : World) (hx : Lie w b 0 [x]) (h : Any1 x) (h6 : x.k ≠ 6) (hok : itOk x = false) :
    Calls Tryz.prog 5 #[.func (.func 6) #[] #[], .string ⟨#[73, 83, 84, 69, 88, 84]⟩, .slice (some ⟨b, 0, none⟩) 1 c] w (Gives w (.bool true)) := by
  refine agrees_unsure_want _ _ [x] ⟨6, 0, 0, ⟨#[]⟩⟩ b 0 c w hx (by simp) (by simp) (by simpa using h.k5) (by simpa using h6) rfl
      fun w' hw => call_of _ _ _ _ ⟨6, 0, 0, ⟨#[]⟩⟩ w' fun w2 hw2 => callOver_no _ _ _ _ w2 fun w3 hw3 => ?_
  have hq := fits_istext x b 0 c w3 (Or.inl h) (hx.ext ((hw.tr hw2).tr hw3))
  rwa [hok] at hq

theorem agrees_istext (s : ByteArray) (x : Sc) (b c : Nat) (w : World) (hs : s.size ≤ 1000000000) (hv : SynAt w) (hx : Lie w b 0 [x]) (hm : MadeOk s x) :
    Calls Tryz.prog 5 #[.func (.func 6) #[] #[], .string ⟨#[73, 83, 84, 69, 88, 84]⟩, .slice (some ⟨b, 0, none⟩) 1 c] w (Gives w (.bool true)) := by
  rcases hm with rfl | ⟨Z, ⟨hn, ht, hZ⟩ | rfl⟩ | rfl | ⟨r, rfl⟩ | ⟨t, rfl⟩
  · exact agrees_it _ ⟨0, 0, ⟨#[]⟩⟩ femptyC false b c w hx (Or.inl (Or.inl rfl)) rfl rfl (fun w' => of_empty w') (fun w' => innerArg_empty w')
      (fun w' fb p B _ ha => fn_istext_no 0 ⟨#[]⟩ ⟨#[]⟩ false 6 0 fb p B w' (fun w2 => toNumber_other femptyC w2 ⟨0, ⟨#[]⟩, ⟨#[]⟩, false, 6, rfl, Or.inr rfl⟩) ha)
  · have hb := hn.bound
    have htm : Tame (f16 (x.n * (16 / x.d))) := tame_f16 (by omega) (by omega)
    have hok : itOk x = true := by unfold itOk; rw [if_neg (by rw [hn.k]; decide), if_neg (by rw [hn.k]; decide)]
    exact agrees_it x (gnum x) (fnumC (f16 (x.n * (16 / x.d)))) false b c w hx (Or.inl (Or.inr (Or.inl hn.k))) hok (by rw [hn.k]; rfl) (fun w' => of_numK x hn ht w') (fun w' => innerArg_num _ w' htm)
      (fun w' fb p B _ ha => fn_istext_no _ ⟨#[]⟩ ⟨#[]⟩ false 1 _ fb p B w' (fun w2 => toNumber_num _ false w2 htm) ha)
  · exact agrees_unsure_arg _ _ [⟨6, 0, 0, ⟨#[]⟩⟩] ⟨6, 0, 0, ⟨#[]⟩⟩ b 0 c w hx (by simp) (by simp) (by simp) (by simp)
      fun w' hw => call_of _ _ _ _ ⟨6, 0, 0, ⟨#[]⟩⟩ w' fun w2 hw2 => callOver_no _ _ _ _ w2 fun w3 hw3 =>
        fits_istext ⟨6, 0, 0, ⟨#[]⟩⟩ b 0 c w3 (Or.inr rfl) (hx.ext ((hw.tr hw2).tr hw3))
  · have ha1 : Any1 ⟨2, 0, 0, s⟩ := Or.inr ⟨rfl, hs⟩
    by_cases hw : wordT s = true
    · exact agrees_it ⟨2, 0, 0, s⟩ (ivt s) (fstrC s) true b c w hx ha1 hw rfl (fun w' => of_text s w') (fun w' => innerArg_text s w')
        (fun w' fb p B hb ha => fn_istext_word s fb p B w' hs hw (hv.ext hb) ha)
    · exact agrees_itno ⟨2, 0, 0, s⟩ b c w hx ha1 (by simp) (by simpa [itOk] using hw)
  · cases r
    · exact agrees_it _ ⟨3, 0, ⟨#[]⟩⟩ (fboolC 0) false b c w hx (Or.inl (Or.inr (Or.inr (Or.inl rfl)))) rfl rfl (fun w' => of_truth_no w') (fun w' => innerArg_truth_no w')
        (fun w' fb p B _ ha => fn_istext_no 0 ⟨#[]⟩ ⟨#[]⟩ true 1 0 fb p B w' (fun w2 => toNumber_num 0 true w2 tame0) ha)
    · exact agrees_it _ ⟨3, 4607182418800017408, ⟨#[]⟩⟩ (fboolC 4607182418800017408) false b c w hx (Or.inl (Or.inr (Or.inr (Or.inl rfl)))) rfl rfl (fun w' => of_truth_yes w') (fun w' => innerArg_truth_yes w')
        (fun w' fb p B _ ha => fn_istext_no 4607182418800017408 ⟨#[]⟩ ⟨#[]⟩ true 1 4607182418800017408 fb p B w' (fun w2 => toNumber_num 4607182418800017408 true w2 tame1) ha)
  · exact agrees_it _ ⟨4, 0, t⟩ (ferrC t t) false b c w hx (Or.inl (Or.inr (Or.inr (Or.inr rfl)))) rfl rfl (fun w' => of_err t w') (fun w' => innerArg_err t w')
      (fun w' fb p B _ ha => fn_istext_no 0 t t false 5 0 fb p B w' (fun w2 => toNumber_other (ferrC t t) w2 ⟨0, t, t, false, 5, rfl, Or.inl rfl⟩) ha)

set_option maxHeartbeats 800000 in
theorem FnIstext.law_of (k n : Int) (s : ByteArray) (w : World) (hk : 0 ≤ k ∧ k ≤ 255) (hn : -9223372036854775808 ≤ n ∧ n ≤ 9223372036854775807) (_ : s.size ≤ maxLen) (hv : SynAt w) :
    Calls Tryz.prog 3 #[.int .u8 k, .int .i64 n, .string s] w fun e w' => e = .returned (.bool true) ∧ Below w.heap.size w w' := by
  by_cases hz : s.size ≤ 1000
  · have HG := Lib.hid (fun (x : Sc) w' b (hv' : SynAt w') (h : Lie w' b 0 [x]) (hm : MadeOk s x) => agrees_istext s x b 1 w' (by omega) hv' h hm)
    have HM := Lib.hid (fun w' => argMade_ok k n s w' hk hn)
    have HV := Lib.hid hv; clear hv
    have hsh := fun b c w' h => short_one s b c w' h
    rw [decide_eq_true hz] at hsh
    have HS := Lib.hid hsh; clear hsh
    have hbig : ¬ (2147483647 : Int) < (s.size : Int) := by omega
    clear hk hn
    go_enter Tryz.func3, Tryz.ntmps3
    go_wp2_with fail
    refine (HS.out w.heap.size 1 _ (World.cell?_alloc_at _ _ _ _ rfl)).mono ?_
    rintro e w1 ⟨rfl, hb1⟩
    go_wp2_with fail
    refine (HM.out _).mono ?_
    rintro e w2 ⟨x, rfl, hx, hb2⟩
    have HX := Lib.hid hx; clear hx
    have hwv : Ext w w2 := (by repeat (first | with_reducible exact Below.refl _ _ | with_reducible assumption | ((with_reducible refine Below.setCell ?_ ?_ _); rotate_left; (simp; try omega)) | (with_reducible refine Ext.tr ?_ (by with_reducible assumption)) | (with_reducible refine Ext.al ?_ _) | (with_reducible refine below_drewN ?_ _) | (with_reducible refine Below.drew ?_)))
    have HV2 := Lib.hid (HV.out.ext (hwv.al (.cells #[.int .i64 x.k, .int .i64 x.n, .int .i64 x.d, .string x.t, .slice none 0 0] 27)))
    obtain ⟨xk, xn, xd, xt⟩ := x
    go_wp2_with fail
    refine (HG.out _ _ w2.heap.size HV2.out (lie_one w2 ⟨xk, xn, xd, xt⟩) HX.out).mono ?_
    rintro e w3 ⟨rfl, hb3⟩
    go_wp2
    go_ret
    exact ⟨rfl, (by repeat (first | with_reducible exact Below.refl _ _ | with_reducible assumption | ((with_reducible refine Below.setCell ?_ ?_ _); rotate_left; (simp; try omega)) | (with_reducible refine Ext.tr ?_ (by with_reducible assumption)) | (with_reducible refine Ext.al ?_ _) | (with_reducible refine below_drewN ?_ _) | (with_reducible refine Below.drew ?_)))⟩
  · by_cases hz2 : (2147483647 : Int) < (s.size : Int)
    · go_enter Tryz.func3, Tryz.ntmps3
      go_wp2
      go_ret
      exact ⟨rfl, (by repeat (first | with_reducible exact Below.refl _ _ | with_reducible assumption | ((with_reducible refine Below.setCell ?_ ?_ _); rotate_left; (simp; try omega)) | (with_reducible refine Ext.tr ?_ (by with_reducible assumption)) | (with_reducible refine Ext.al ?_ _) | (with_reducible refine below_drewN ?_ _) | (with_reducible refine Below.drew ?_)))⟩
    · have hsh := fun b c w' h => short_one s b c w' h
      rw [decide_eq_false hz] at hsh
      have HS := Lib.hid hsh; clear hsh
      go_enter Tryz.func3, Tryz.ntmps3
      go_wp2_with fail
      refine (HS.out w.heap.size 1 _ (World.cell?_alloc_at _ _ _ _ rfl)).mono ?_
      rintro e w1 ⟨rfl, hb1⟩
      go_wp2
      go_ret
      exact ⟨rfl, (by repeat (first | with_reducible exact Below.refl _ _ | with_reducible assumption | ((with_reducible refine Below.setCell ?_ ?_ _); rotate_left; (simp; try omega)) | (with_reducible refine Ext.tr ?_ (by with_reducible assumption)) | (with_reducible refine Ext.al ?_ _) | (with_reducible refine below_drewN ?_ _) | (with_reducible refine Below.drew ?_)))⟩
end Go.Proofs.YtnkhpkpcjijpeaaGreatDoor
