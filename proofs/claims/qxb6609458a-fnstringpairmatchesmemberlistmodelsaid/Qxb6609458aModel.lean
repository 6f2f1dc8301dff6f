import Derived.Test.Qxb6609458aCount
namespace Go.Proofs.Qxb6609458a
open Go.RowKit Go.Maps

theorem At.alloc {w : World} {b off : Nat} {ms : List Mem} (h : At w b off ms) (hb : b < w.heap.size) (o : Obj) : At (w.alloc o) b off ms := by
  have key : ∀ off, (w.alloc o).cell? ⟨b, off, none⟩ = w.cell? ⟨b, off, none⟩ := fun off => World.cell?_of_block (w := w) (Below.heap_alloc w o b hb)
  intro i hi
  rw [key, key, key]
  exact h i hi

theorem model_empty (a : Option Addr) (cap : Nat) (x y : ByteArray) (w : World) :
    Calls Try.prog 5 #[.slice a 0 cap, .string x, .string y] w fun e w' => e = .returned (answer none) ∧ Below w.heap.size w w' := by
  go_enter Try.func5, Try.ntmps5
  go_wp2
  exact bodyPost_ret (v := .tuple #[.agg #[.string ⟨#[]⟩, .string ⟨#[]⟩], .bool false]) (by simp [results, Try.results5, go_sem]) rfl ⟨rfl, ((Below.refl _ _).alloc (Nat.le_refl _) _).alloc (by simp) _⟩

set_option maxHeartbeats 1000000 in
theorem model_any (ms : List Mem) (b off cap : Nat) (x y : ByteArray) (w : World) (hn : ms.length ≤ 1048576) (h1 : 0 < ms.length) (hb : b < w.heap.size) (hat : At w b off ms) :
    Calls Try.prog 5 #[.slice (some ⟨b, off, none⟩) ms.length cap, .string x, .string y] w fun e w' => e = .returned (answer (pairOf (datum ms) x y)) ∧ Below w.heap.size w w' := by
  obtain ⟨n, hN⟩ : ∃ n, n = ms.length := ⟨_, rfl⟩
  have hat2 : At ((w.alloc (.cells #[.string ⟨#[]⟩, .string ⟨#[]⟩] 24)).alloc (.cells #[.string ⟨#[]⟩, .string ⟨#[]⟩] 24)) b off ms := (hat.alloc hb _).alloc (by simp; omega) _
  have hbel : Below w.heap.size w ((w.alloc (.cells #[.string ⟨#[]⟩, .string ⟨#[]⟩] 24)).alloc (.cells #[.string ⟨#[]⟩, .string ⟨#[]⟩] 24)) := ((Below.refl _ _).alloc (Nat.le_refl _) _).alloc (by simp) _
  have HB : Hid _ := hbel
  clear hat hbel
  have H2 : Hid (At ((w.alloc (.cells #[.string ⟨#[]⟩, .string ⟨#[]⟩] 24)).alloc (.cells #[.string ⟨#[]⟩, .string ⟨#[]⟩] 24)) b off ms) := hat2
  clear hat2
  rw [← hN]
  have HN : Hid (n = ms.length) := hN
  rw [← hN] at hn h1
  clear hN
  have H8 : Hid (∀ z, Calls Try.prog 8 #[.slice (some ⟨b, off, none⟩) n cap, .string z] ((w.alloc (.cells #[.string ⟨#[]⟩, .string ⟨#[]⟩] 24)).alloc (.cells #[.string ⟨#[]⟩, .string ⟨#[]⟩] 24)) fun e w' => e = .returned (asr (strAt (datum ms) z)) ∧ w' = ((w.alloc (.cells #[.string ⟨#[]⟩, .string ⟨#[]⟩] 24)).alloc (.cells #[.string ⟨#[]⟩, .string ⟨#[]⟩] 24))) := by
    intro z
    rw [HN.out]
    exact last_any ms b off cap z _ (by rw [← HN.out]; exact hn) H2.out
  have e0 : ((n : Int) == 0) = false := beq_eq_false_iff_ne.2 (by omega)
  have z0 := (H2.out 0 (by rw [← HN.out]; exact h1)).1
  simp only [Nat.zero_mul, Nat.add_zero] at z0
  obtain ⟨k0, hk0⟩ : ∃ k0, k0 = (ms.getD 0 Mem.zero).key := ⟨_, rfl⟩
  rw [← hk0] at z0
  have K0 : Hid (k0 = (ms.getD 0 Mem.zero).key) := hk0
  clear hk0
  go_enter Try.func5, Try.ntmps5
  go_wp2
  go_loop [10] (fun j => ∃ k : Nat, 1 ≤ k ∧ k ≤ n ∧ j = .int .i64 k ∧ ∀ i, i < k → (ms.getD i Mem.zero).key = k0) (fun j => n - (intOf j).toNat)
  case atStart => exact ⟨1, Nat.le_refl _, h1, rfl, fun i hi => by rw [K0.out]; congr; omega⟩
  case round =>
    obtain ⟨k, hk1, hk, rfl, hall⟩ := hrel
    have HA : Hid (∀ i, i < k → (ms.getD i Mem.zero).key = k0) := hall
    clear hall
    by_cases hlt : k < n
    · have hkl : k < ms.length := by rw [← HN.out]; exact hlt
      have zk := (H2.out k hkl).1
      obtain ⟨kk, hkk⟩ : ∃ kk, kk = (ms.getD k Mem.zero).key := ⟨_, rfl⟩
      rw [← hkk] at zk
      have KK : Hid (kk = (ms.getD k Mem.zero).key) := hkk
      clear hkk hkl
      have dlt : decide ((k : Int) < (n : Int)) = true := by simp; omega
      cases heq : (kk.toList == k0.toList)
      · clear zk
        have HQ : Hid ((kk.toList == k0.toList) = false) := heq
        clear heq
        have HQ' : (kk.toList == k0.toList) = false := HQ.out
        have zk := (H2.out k (by rw [← HN.out]; exact hlt)).1
        rw [← KK.out] at zk
        have ekn : ((k : Int) == (n : Int)) = false := beq_eq_false_iff_ne.2 (by omega)
        go_wp2
        clear zk z0 dlt ekn
        go_loop [12] (fun j => ∃ l : Nat, k + 1 ≤ l ∧ l ≤ n ∧ j = .int .i64 l ∧ ∀ i, i < l → (ms.getD i Mem.zero).key = k0 ∨ (ms.getD i Mem.zero).key = kk) (fun j => n - (intOf j).toNat)
        case atStart => exact ⟨k + 1, Nat.le_refl _, by omega, by go_num, fun i hi => by
          by_cases hik : i < k
          · exact .inl (HA.out i hik)
          · have : i = k := by omega
            subst this
            exact .inr KK.out.symm⟩
        case round =>
          obtain ⟨l, hl1, hl, rfl, hall⟩ := hrel
          have HL : Hid (∀ i, i < l → (ms.getD i Mem.zero).key = k0 ∨ (ms.getD i Mem.zero).key = kk) := hall
          clear hall
          by_cases hll : l < n
          · have zl := (H2.out l (by rw [← HN.out]; exact hll)).1
            obtain ⟨kl, hkl⟩ : ∃ kl, kl = (ms.getD l Mem.zero).key := ⟨_, rfl⟩
            rw [← hkl] at zl
            have KL : Hid (kl = (ms.getD l Mem.zero).key) := hkl
            clear hkl
            cases q0 : (kl.toList == k0.toList)
            · cases q1 : (kl.toList == kk.toList)
              · have hp : pairOf (datum ms) x y = none := by
                  refine case_three ms x y 0 k l (by rw [← HN.out]; exact h1) (by rw [← HN.out]; exact hlt) (by rw [← HN.out]; exact hll) ?_ ?_ ?_
                  · rw [← K0.out, ← KK.out]; intro e; rw [e] at HQ'; simp at HQ'
                  · rw [← K0.out, ← KL.out]; intro e; rw [e] at q0; simp at q0
                  · rw [← KK.out, ← KL.out]; intro e; rw [e] at q1; simp at q1
                have HP : Hid (pairOf (datum ms) x y = none) := hp
                clear hp
                go_wp2
                exact bodyPost_ret (v := .tuple #[.agg #[.string ⟨#[]⟩, .string ⟨#[]⟩], .bool false]) (by simp [results, Try.results5, go_sem]) rfl ⟨by rw [HP.out]; rfl, HB.out⟩
              · go_wp2
                go_round
                case rel => exact ⟨l + 1, by omega, by omega, by go_num, fun i hi => by
                  by_cases hik : i < l
                  · exact HL.out i hik
                  · have : i = l := by omega
                    subst this
                    exact .inr (by rw [← KL.out]; exact str_eq q1)⟩
                case measure => simp [intOf]; omega
            · go_wp2
              go_round
              case rel => exact ⟨l + 1, by omega, by omega, by go_num, fun i hi => by
                by_cases hik : i < l
                · exact HL.out i hik
                · have : i = l := by omega
                  subst this
                  exact .inl (by rw [← KL.out]; exact str_eq q0)⟩
              case measure => simp [intOf]; omega
          · have hln : l = n := by omega
            subst hln
            have hp := case_two ms x y 0 k (by rw [← HN.out]; exact h1) (by rw [← HN.out]; exact hlt) (by rw [← K0.out, ← KK.out]; intro e; rw [e] at HQ'; simp at HQ') (fun i hi => by rw [← K0.out, ← KK.out]; exact HL.out i (by rw [HN.out]; exact hi))
            have HP : Hid _ := hp
            clear hp
            go_wp2_with fail
            refine (H8.out x).mono ?_
            rintro e w1 ⟨rfl, rfl⟩
            cases sx : strAt (datum ms) x with
            | none =>
              have HX : Hid (strAt (datum ms) x = none) := sx
              clear sx
              simp only [asr]
              go_wp2_with fail
              refine (H8.out y).mono ?_
              rintro e w1 ⟨rfl, rfl⟩
              cases sy : strAt (datum ms) y with
              | none =>
                clear sy
                simp only [asr]
                go_wp2_with fail
                exact bodyPost_ret (v := .tuple #[.agg #[.string ⟨#[]⟩, .string ⟨#[]⟩], .bool false]) (by simp [results, Try.results5, go_sem]) rfl ⟨by rw [HP.out, HX.out]; rfl, HB.out⟩
              | some sb =>
                clear sy
                simp only [asr]
                go_wp2_with fail
                exact bodyPost_ret (v := .tuple #[.agg #[.string ⟨#[]⟩, .string ⟨#[]⟩], .bool false]) (by simp [results, Try.results5, go_sem]) rfl ⟨by rw [HP.out, HX.out]; rfl, HB.out⟩
            | some sa =>
              have HX : Hid (strAt (datum ms) x = some sa) := sx
              clear sx
              simp only [asr]
              go_wp2_with fail
              refine (H8.out y).mono ?_
              rintro e w1 ⟨rfl, rfl⟩
              cases sy : strAt (datum ms) y with
              | none =>
                have HY : Hid (strAt (datum ms) y = none) := sy
                clear sy
                simp only [asr]
                go_wp2_with fail
                exact bodyPost_ret (v := .tuple #[.agg #[.string ⟨#[]⟩, .string ⟨#[]⟩], .bool false]) (by simp [results, Try.results5, go_sem]) rfl ⟨by rw [HP.out, HX.out, HY.out]; rfl, HB.out⟩
              | some sb =>
                have HY : Hid (strAt (datum ms) y = some sb) := sy
                clear sy
                simp only [asr]
                go_wp2_with fail
                exact bodyPost_ret (v := .tuple #[.agg #[.string sa, .string sb], .bool true]) (by simp [results, Try.results5, go_sem]) rfl ⟨by rw [HP.out, HX.out, HY.out]; rfl, ((Below.refl _ _).alloc (Nat.le_refl _) _).alloc (by simp) _⟩
      · go_wp2
        go_round
        case rel => exact ⟨k + 1, by omega, by omega, by go_num, fun i hi => by
          by_cases hik : i < k
          · exact HA.out i hik
          · have : i = k := by omega
            subst this
            rw [← KK.out]; exact str_eq heq⟩
        case measure => simp [intOf]; omega
    · have hkn : k = n := by omega
      subst hkn
      have ekn : ((k : Int) == (k : Int)) = true := by simp
      have hp : pairOf (datum ms) x y = none := case_one ms x y k0 (fun i hi => HA.out i (by rw [HN.out]; exact hi))
      have HP : Hid (pairOf (datum ms) x y = none) := hp
      clear hp
      go_wp2
      exact bodyPost_ret (v := .tuple #[.agg #[.string ⟨#[]⟩, .string ⟨#[]⟩], .bool false]) (by simp [results, Try.results5, go_sem]) rfl ⟨by rw [HP.out]; rfl, HB.out⟩
end Go.Proofs.Qxb6609458a
