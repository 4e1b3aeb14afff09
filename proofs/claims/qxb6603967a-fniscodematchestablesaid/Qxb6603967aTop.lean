import Derived.Test.Qxb6603967aCode
namespace Go.Proofs.Qxb6603967a
open Go.RowKit

theorem row_of_cs (w : World) (cs : Array Value) (T : Int → Bool) (hs : cs.size = 256) (hc : ∀ c : Nat, c < 256 → cs[c]? = some (.bool (T (c : Int)))) : (w.alloc (.cells cs 23)).rowIs w.heap.size 23 256 (fun c => .bool (T (c : Int))) := by
  have := World.rowIs_alloc w cs 23 (fun c => .bool (T (c : Int))) (fun i hi => hc i (by omega))
  rw [hs] at this
  exact this

theorem one_of_cs (cs : Array Value) (T : Int → Bool) (hs : cs.size = 256) (hc : ∀ c : Nat, c < 256 → cs[c]? = some (.bool (T (c : Int)))) : cs.all (·.oneCell') = true := by
  rw [Array.all_eq_true]
  intro j hj
  have := hc j (by omega)
  rw [Array.getElem?_eq_getElem hj] at this
  injection this with this
  rw [this]
  rfl

set_option maxHeartbeats 1000000 in
set_option maxRecDepth 100000 in
theorem walk_in (s o : ByteArray) (most : Int) (w : World) (hs : s.size ≤ 262144) (ho : o.size ≤ 262144) :
    Calls Try.prog 3 #[.string s, .int .i64 most, .string o] w fun e w' => e = .returned (.bool true) ∧ Below w.heap.size w w' := by
  have hz := z23.1
  have hY := zzBytes_yes s o most w hs ho
  have HT : Hid (∀ w', Calls Try.prog 6 #[.string o] w' fun e w'' => (∃ cs : Array Value, e = .returned (.agg cs) ∧ cs.size = 256 ∧ ∀ c : Nat, c < 256 → cs[c]? = some (.bool (tab o (c : Int)))) ∧ Below w'.heap.size w' w'') := fun w' => table_any o w' ho
  have HZ : Hid (∀ w', Calls Try.prog 7 #[.string s, .int .i64 most, .string o] w' fun e w'' => e = .returned (.bool (isCodeF s most o)) ∧ Below w'.heap.size w' w'') := fun w' => zzIsCode_any s o most w' hs
  have HR : Hid (isCodeF s most o = (decide (1 ≤ s.size) && (decide ((s.size : Int) ≤ most) && decide (∀ i, i < s.size → tab o (bt s i) = true)))) := rfl
  generalize isCodeF s most o = R at HZ HR
  by_cases h1 : 1 ≤ s.size
  · by_cases h2 : (s.size : Int) ≤ most
    · have H0 : Hid (R = decide (∀ i, i < s.size → tab o (bt s i) = true)) := by rw [HR.out, decide_eq_true h1, decide_eq_true h2]; rfl
      go_enter Try.func3, Try.ntmps3
      go_wp2_with fail
      refine hY.mono ?_
      rintro _ w' ⟨rfl, hw⟩
      subst w'
      go_wp2_with fail
      refine (HT.out _).mono ?_
      rintro _ w1 ⟨⟨cs, rfl, hcs, hct⟩, hb1⟩
      have hone := one_of_cs cs (tab o) hcs hct
      have hi : (Try.prog.info? 23).map (·.size) = some cs.size := by rw [hcs]; exact z23.2
      have HI : Hid ((Try.prog.info? 23).map (·.size) = some cs.size) := hi
      have hrow := row_of_cs w1 cs (tab o) hcs hct
      have hset := World.setRow_alloc_new w1 (Array.replicate 256 (.bool false)) cs 23
      have hb2 : Below w.heap.size w (w1.alloc (.cells cs 23)) := hb1.alloc hb1.4 _
      have HSET : Hid ((w1.alloc (.cells (Array.replicate 256 (.bool false)) 23)).setRow w1.heap.size cs = w1.alloc (.cells cs 23)) := hset
      clear hi hct hset hY
      go_wp2_with (refine wpList_store_row rfl 23 _ _ rfl w1.heap.size cs rfl rfl 23 (Array.replicate 256 (.bool false)) (heap_alloc_last w1 _) HI.out (by rw [hcs]; simp) hone ?_; rw [HSET.out])
      generalize w1.alloc (.cells cs 23) = w2 at hrow hb2 ⊢
      go_loop [8, 9] (fun wt v => ∃ (b : Bool) (k : Nat), k ≤ s.size ∧ wt = .bool b ∧ v = .int .i64 k ∧ Hid (b = true → R = decide (∀ i, i < s.size → tab o (bt s i) = true)) ∧ Hid (b = true → ∀ j, j < k → tab o (bt s j) = true) ∧ Hid (b = false → R = false)) (fun wt v => s.size + 1 - (intOf v).toNat)
      case atStart => exact ⟨true, 0, by omega, rfl, rfl, (fun _ => H0.out), (fun _ j hj => absurd hj (by omega)), (fun h => Bool.noConfusion h)⟩
      case round =>
        clear H0
        obtain ⟨b, k, hk, rfl, rfl, J0, J1, J2⟩ := hrel
        cases b with
        | false =>
          have hR := J2.out rfl
          have HZ2 : Hid (∀ w', Calls Try.prog 7 #[.string s, .int .i64 most, .string o] w' fun e w'' => e = .returned (.bool false) ∧ Below w'.heap.size w' w'') := by rw [← hR]; exact HZ.out
          clear hR
          go_wp2_with fail
          refine (HZ2.out _).mono ?_
          rintro _ w3 ⟨rfl, hb3⟩
          go_wp2
          go_ret
          exact ⟨rfl, hb2.trans (hb3.mono hb2.4)⟩
        | true =>
          by_cases hlt : k < s.size
          · have hz3 : (k : Int) < (s.size : Int) := by omega
            have hx256 : ((s[k]'hlt).toNat : Int) < 256 := by have := UInt8.toNat_lt (s[k]'hlt); omega
            have hcell := hrow.cell (i := (s[k]'hlt).toNat) (by omega)
            rcases Bool.eq_false_or_eq_true (tab o ((s[k]'hlt).toNat : Int)) with y | y
            · have JG : Hid (true = true → ∀ j, j < k + 1 → tab o (bt s j) = true) := fun _ j hj => by
                by_cases e : j = k
                · subst e; rw [← bt_eq s j hlt]; exact y
                · exact J1.out rfl j (by omega)
              rw [y] at hcell
              go_wp2
              go_round
              case rel => exact ⟨true, k + 1, by omega, rfl, by go_num, J0, JG, fun h => Bool.noConfusion h⟩
              case measure => simp [intOf]; omega
            · have JF : Hid (false = false → R = false) := fun _ => by
                rw [J0.out rfl]
                apply decide_eq_false
                intro h
                have := h k hlt
                rw [← bt_eq s k hlt, y] at this
                exact Bool.noConfusion this
              rw [y] at hcell
              go_wp2
              go_round
              case rel => exact ⟨false, k + 1, by omega, rfl, by go_num, fun h => Bool.noConfusion h, fun h => Bool.noConfusion h, JF⟩
              case measure => simp [intOf]; omega
          · have hz3 : ¬ (k : Int) < (s.size : Int) := by omega
            have hR : R = true := (J0.out rfl).trans (decide_eq_true (fun j hj => J1.out rfl j (by omega)))
            have HZ2 : Hid (∀ w', Calls Try.prog 7 #[.string s, .int .i64 most, .string o] w' fun e w'' => e = .returned (.bool true) ∧ Below w'.heap.size w' w'') := by rw [← hR]; exact HZ.out
            clear hR
            go_wp2_with fail
            refine (HZ2.out _).mono ?_
            rintro _ w3 ⟨rfl, hb3⟩
            go_wp2
            go_ret
            exact ⟨rfl, hb2.trans (hb3.mono hb2.4)⟩
    · have H0 : Hid (R = false) := HR.out.trans (by rw [decide_eq_false h2]; simp)
      have h2d : decide ((s.size : Int) ≤ most) = false := decide_eq_false h2
      go_enter Try.func3, Try.ntmps3
      go_wp2_with fail
      refine hY.mono ?_
      rintro _ w' ⟨rfl, hw⟩
      subst w'
      go_wp2_with fail
      refine (HT.out _).mono ?_
      rintro _ w1 ⟨⟨cs, rfl, hcs, hct⟩, hb1⟩
      have hone := one_of_cs cs (tab o) hcs hct
      have hi : (Try.prog.info? 23).map (·.size) = some cs.size := by rw [hcs]; exact z23.2
      have HI : Hid ((Try.prog.info? 23).map (·.size) = some cs.size) := hi
      have hrow := row_of_cs w1 cs (tab o) hcs hct
      have hset := World.setRow_alloc_new w1 (Array.replicate 256 (.bool false)) cs 23
      have hb2 : Below w.heap.size w (w1.alloc (.cells cs 23)) := hb1.alloc hb1.4 _
      have HSET : Hid ((w1.alloc (.cells (Array.replicate 256 (.bool false)) 23)).setRow w1.heap.size cs = w1.alloc (.cells cs 23)) := hset
      clear hi hct hset hY
      go_wp2_with (refine wpList_store_row rfl 23 _ _ rfl w1.heap.size cs rfl rfl 23 (Array.replicate 256 (.bool false)) (heap_alloc_last w1 _) HI.out (by rw [hcs]; simp) hone ?_; rw [HSET.out])
      generalize w1.alloc (.cells cs 23) = w2 at hrow hb2 ⊢
      go_loop [8, 9] (fun wt v => ∃ (b : Bool) (k : Nat), k ≤ s.size ∧ wt = .bool b ∧ v = .int .i64 k ∧ Hid (b = true → R = decide (∀ i, i < s.size → tab o (bt s i) = true)) ∧ Hid (b = true → ∀ j, j < k → tab o (bt s j) = true) ∧ Hid (b = false → R = false)) (fun wt v => s.size + 1 - (intOf v).toNat)
      case atStart => exact ⟨false, 0, by omega, rfl, rfl, (fun h => Bool.noConfusion h), (fun h => Bool.noConfusion h), (fun _ => H0.out)⟩
      case round =>
        clear H0
        obtain ⟨b, k, hk, rfl, rfl, J0, J1, J2⟩ := hrel
        cases b with
        | false =>
          have hR := J2.out rfl
          have HZ2 : Hid (∀ w', Calls Try.prog 7 #[.string s, .int .i64 most, .string o] w' fun e w'' => e = .returned (.bool false) ∧ Below w'.heap.size w' w'') := by rw [← hR]; exact HZ.out
          clear hR
          go_wp2_with fail
          refine (HZ2.out _).mono ?_
          rintro _ w3 ⟨rfl, hb3⟩
          go_wp2
          go_ret
          exact ⟨rfl, hb2.trans (hb3.mono hb2.4)⟩
        | true =>
          by_cases hlt : k < s.size
          · have hz3 : (k : Int) < (s.size : Int) := by omega
            have hx256 : ((s[k]'hlt).toNat : Int) < 256 := by have := UInt8.toNat_lt (s[k]'hlt); omega
            have hcell := hrow.cell (i := (s[k]'hlt).toNat) (by omega)
            rcases Bool.eq_false_or_eq_true (tab o ((s[k]'hlt).toNat : Int)) with y | y
            · have JG : Hid (true = true → ∀ j, j < k + 1 → tab o (bt s j) = true) := fun _ j hj => by
                by_cases e : j = k
                · subst e; rw [← bt_eq s j hlt]; exact y
                · exact J1.out rfl j (by omega)
              rw [y] at hcell
              go_wp2
              go_round
              case rel => exact ⟨true, k + 1, by omega, rfl, by go_num, J0, JG, fun h => Bool.noConfusion h⟩
              case measure => simp [intOf]; omega
            · have JF : Hid (false = false → R = false) := fun _ => by
                rw [J0.out rfl]
                apply decide_eq_false
                intro h
                have := h k hlt
                rw [← bt_eq s k hlt, y] at this
                exact Bool.noConfusion this
              rw [y] at hcell
              go_wp2
              go_round
              case rel => exact ⟨false, k + 1, by omega, rfl, by go_num, fun h => Bool.noConfusion h, fun h => Bool.noConfusion h, JF⟩
              case measure => simp [intOf]; omega
          · have hz3 : ¬ (k : Int) < (s.size : Int) := by omega
            have hR : R = true := (J0.out rfl).trans (decide_eq_true (fun j hj => J1.out rfl j (by omega)))
            have HZ2 : Hid (∀ w', Calls Try.prog 7 #[.string s, .int .i64 most, .string o] w' fun e w'' => e = .returned (.bool true) ∧ Below w'.heap.size w' w'') := by rw [← hR]; exact HZ.out
            clear hR
            go_wp2_with fail
            refine (HZ2.out _).mono ?_
            rintro _ w3 ⟨rfl, hb3⟩
            go_wp2
            go_ret
            exact ⟨rfl, hb2.trans (hb3.mono hb2.4)⟩
  · have H0 : Hid (R = false) := HR.out.trans (by rw [decide_eq_false h1]; simp)
    go_enter Try.func3, Try.ntmps3
    go_wp2_with fail
    refine hY.mono ?_
    rintro _ w' ⟨rfl, hw⟩
    subst w'
    go_wp2_with fail
    refine (HT.out _).mono ?_
    rintro _ w1 ⟨⟨cs, rfl, hcs, hct⟩, hb1⟩
    have hone := one_of_cs cs (tab o) hcs hct
    have hi : (Try.prog.info? 23).map (·.size) = some cs.size := by rw [hcs]; exact z23.2
    have HI : Hid ((Try.prog.info? 23).map (·.size) = some cs.size) := hi
    have hrow := row_of_cs w1 cs (tab o) hcs hct
    have hset := World.setRow_alloc_new w1 (Array.replicate 256 (.bool false)) cs 23
    have hb2 : Below w.heap.size w (w1.alloc (.cells cs 23)) := hb1.alloc hb1.4 _
    have HSET : Hid ((w1.alloc (.cells (Array.replicate 256 (.bool false)) 23)).setRow w1.heap.size cs = w1.alloc (.cells cs 23)) := hset
    clear hi hct hset hY
    go_wp2_with (refine wpList_store_row rfl 23 _ _ rfl w1.heap.size cs rfl rfl 23 (Array.replicate 256 (.bool false)) (heap_alloc_last w1 _) HI.out (by rw [hcs]; simp) hone ?_; rw [HSET.out])
    generalize w1.alloc (.cells cs 23) = w2 at hrow hb2 ⊢
    go_loop [8, 9] (fun wt v => ∃ (b : Bool) (k : Nat), k ≤ s.size ∧ wt = .bool b ∧ v = .int .i64 k ∧ Hid (b = true → R = decide (∀ i, i < s.size → tab o (bt s i) = true)) ∧ Hid (b = true → ∀ j, j < k → tab o (bt s j) = true) ∧ Hid (b = false → R = false)) (fun wt v => s.size + 1 - (intOf v).toNat)
    case atStart => exact ⟨false, 0, by omega, rfl, rfl, (fun h => Bool.noConfusion h), (fun h => Bool.noConfusion h), (fun _ => H0.out)⟩
    case round =>
      clear H0
      obtain ⟨b, k, hk, rfl, rfl, J0, J1, J2⟩ := hrel
      cases b with
      | false =>
        have hR := J2.out rfl
        have HZ2 : Hid (∀ w', Calls Try.prog 7 #[.string s, .int .i64 most, .string o] w' fun e w'' => e = .returned (.bool false) ∧ Below w'.heap.size w' w'') := by rw [← hR]; exact HZ.out
        clear hR
        go_wp2_with fail
        refine (HZ2.out _).mono ?_
        rintro _ w3 ⟨rfl, hb3⟩
        go_wp2
        go_ret
        exact ⟨rfl, hb2.trans (hb3.mono hb2.4)⟩
      | true =>
        by_cases hlt : k < s.size
        · have hz3 : (k : Int) < (s.size : Int) := by omega
          have hx256 : ((s[k]'hlt).toNat : Int) < 256 := by have := UInt8.toNat_lt (s[k]'hlt); omega
          have hcell := hrow.cell (i := (s[k]'hlt).toNat) (by omega)
          rcases Bool.eq_false_or_eq_true (tab o ((s[k]'hlt).toNat : Int)) with y | y
          · have JG : Hid (true = true → ∀ j, j < k + 1 → tab o (bt s j) = true) := fun _ j hj => by
              by_cases e : j = k
              · subst e; rw [← bt_eq s j hlt]; exact y
              · exact J1.out rfl j (by omega)
            rw [y] at hcell
            go_wp2
            go_round
            case rel => exact ⟨true, k + 1, by omega, rfl, by go_num, J0, JG, fun h => Bool.noConfusion h⟩
            case measure => simp [intOf]; omega
          · have JF : Hid (false = false → R = false) := fun _ => by
              rw [J0.out rfl]
              apply decide_eq_false
              intro h
              have := h k hlt
              rw [← bt_eq s k hlt, y] at this
              exact Bool.noConfusion this
            rw [y] at hcell
            go_wp2
            go_round
            case rel => exact ⟨false, k + 1, by omega, rfl, by go_num, fun h => Bool.noConfusion h, fun h => Bool.noConfusion h, JF⟩
            case measure => simp [intOf]; omega
        · have hz3 : ¬ (k : Int) < (s.size : Int) := by omega
          have hR : R = true := (J0.out rfl).trans (decide_eq_true (fun j hj => J1.out rfl j (by omega)))
          have HZ2 : Hid (∀ w', Calls Try.prog 7 #[.string s, .int .i64 most, .string o] w' fun e w'' => e = .returned (.bool true) ∧ Below w'.heap.size w' w'') := by rw [← hR]; exact HZ.out
          clear hR
          go_wp2_with fail
          refine (HZ2.out _).mono ?_
          rintro _ w3 ⟨rfl, hb3⟩
          go_wp2
          go_ret
          exact ⟨rfl, hb2.trans (hb3.mono hb2.4)⟩


set_option maxHeartbeats 1000000 in
set_option maxRecDepth 100000 in
theorem walk_out (a0 a2 : ByteArray) (a1 : Int) (w0 : a0.size ≤ maxLen) (w1 : a2.size ≤ maxLen) (w : World) (h : 262144 < a0.size ∨ 262144 < a2.size) :
    Calls Try.prog 3 #[.string a0, .int .i64 a1, .string a2] w fun e w' => e = .returned (.bool true) ∧ w' = w := by
  have hY := zzBytes_any a0 a2 a1 w w0 w1
  unfold maxLen at w0 w1
  by_cases h0 : 262144 < a0.size
  · clear h
    go_enter Try.func3, Try.ntmps3
    go_wp2_with fail
    refine hY.mono ?_
    rintro _ w' ⟨⟨b, rfl⟩, hw⟩
    subst w'
    cases b <;> (go_wp2; go_ret; exact ⟨rfl, rfl⟩)
  have h3 : 262144 < a2.size := by omega
  clear h
  go_enter Try.func3, Try.ntmps3
  go_wp2_with fail
  refine hY.mono ?_
  rintro _ w' ⟨⟨b, rfl⟩, hw⟩
  subst w'
  cases b <;> (go_wp2; go_ret; exact ⟨rfl, rfl⟩)

theorem walk_all (a0 : ByteArray) (a1 : Int) (a2 : ByteArray) (w0 : a0.size ≤ maxLen) (w2 : a2.size ≤ maxLen) (w : World) :
    Calls Try.prog 3 #[.string a0, .int .i64 a1, .string a2] w fun e w' => e = .returned (.bool true) ∧ Below w.heap.size w w' := by
  by_cases h : 262144 < a0.size ∨ 262144 < a2.size
  · refine (walk_out a0 a2 a1 w0 w2 w h).mono ?_
    rintro e w' ⟨rfl, rfl⟩
    exact ⟨rfl, Below.refl _ _⟩
  · exact walk_in a0 a2 a1 w (by omega) (by omega)
end Go.Proofs.Qxb6603967a
