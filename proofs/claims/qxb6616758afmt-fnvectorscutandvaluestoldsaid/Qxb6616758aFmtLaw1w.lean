import Derived.Test.Qxb6616758aFmtLaw1
namespace Go.Proofs.Qxb6616758aFmt
open Go.RowKit Go.Stop

set_option maxHeartbeats 1600000 in
set_option maxRecDepth 100000 in
theorem law1_some (F : Interp) (a b : ByteArray) (x : Addr) (len cap : Nat) (zs : List Int) (w : World) (hF : F.told.answers w.tape) (htab : TabOk w) (ha : a.size ≤ 262144) (hb : b.size ≤ 262144) (hl : len ≤ 65536) (hz : Ints w (some x) len zs) :
    Calls Tryf.prog 3 #[.string a, .string b, .slice (some x) len cap] w fun e w' => e = .returned (.bool true) ∧ Below w.heap.size w w' := by
  have q1 : ∀ (w : World) (x : Addr) (n c : Nat), (binOp .neq 22 (.slice (some x) n c) (.slice none 0 0)).run Tryf.prog w = .ok (.bool true) w := fun w x n c => run_neq_slice_nil_any w _ _ (some x) n c 0 0 Tryf.underlying22
  obtain ⟨w1, w2, hm1, hp1, k2, b2⟩ := clone_ints (c := cap) hz hl
  have ht2 := htab.below b2
  have hF2 : F.told.answers w2.tape := by rw [b2.tape]; exact hF
  clear hz htab hF
  go_enter Tryf.func3, Tryf.ntmps3
  go_wp2_with fail
  refine (bytes6_any a b (some x) len cap _).mono ?_
  rintro e w' ⟨t, rfl, hw⟩
  subst hw
  cases t
  · go_wp2_with fail
    go_ret
    exact ⟨rfl, Below.refl _ _⟩
  go_wp2_with fail
  refine (zznpy_any F a (some ⟨w'.heap.size, 0, none⟩) len len zs _ hF2 ht2 (by omega) hl k2).mono ?_
  rintro e w3 ⟨g3, c3, rfl, y3, b3⟩
  have ht3 := ht2.below b3
  have hF3 : F.told.answers w3.tape := by rw [b3.tape]; exact hF2
  have k3 := k2.below b3
  clear k2 ht2 hF2
  go_wp2_with fail
  refine (zznpy_any F b (some ⟨w'.heap.size, 0, none⟩) len len zs _ hF3 ht3 (by omega) hl k3).mono ?_
  rintro e w4 ⟨g4, c4, rfl, y4, b4⟩
  have x4 := y3.below b4
  have hB4 : Below w'.heap.size w' w4 := b2.trans ((b3.trans (b4.mono b3.size)).mono b2.size)
  have hbd : ∀ s : ByteArray, s.size ≤ 262144 → (hdr s.data.toList zs).length ≤ 1000000000 := fun s hs => by
    have h1 := tup_length zs k3.2.2.2
    rw [k3.1] at h1
    rw [hdr_length, size_list]
    omega
  have la1 := hbd a ha
  have lb1 := hbd b hb
  have hmono : (a.size ≤ b.size → (hdr a.data.toList zs).length ≤ (hdr b.data.toList zs).length) ∧ (b.size ≤ a.size → (hdr b.data.toList zs).length ≤ (hdr a.data.toList zs).length) := ⟨fun h => hdr_mono _ _ _ (by rw [size_list, size_list]; exact h), fun h => hdr_mono _ _ _ (by rw [size_list, size_list]; exact h)⟩
  have A1 : Hid (21 + a.size ≤ (hdr a.data.toList zs).length) := by have := (hdr_descr a.data.toList zs).le; rw [size_list] at this; exact this
  have B1 : Hid (21 + b.size ≤ (hdr b.data.toList zs).length) := by have := (hdr_descr b.data.toList zs).le; rw [size_list] at this; exact this
  clear hbd k3 y3 ht3 hF3
  obtain ⟨la, hla⟩ : ∃ la, (hdr a.data.toList zs).length = la := ⟨_, rfl⟩
  obtain ⟨lb, hlb⟩ : ∃ lb, (hdr b.data.toList zs).length = lb := ⟨_, rfl⟩
  rw [hla] at la1 hmono A1
  rw [hlb] at lb1 hmono B1
  rw [hla, hlb]
  have HLA : Hid ((hdr a.data.toList zs).length = la) := hla
  have HLB : Hid ((hdr b.data.toList zs).length = lb) := hlb
  clear hla hlb
  go_wp2_with fail
  refine (has_any g3 la c3 (hdr a.data.toList zs) 0 0 ⟨#[147, 78, 85, 77, 80, 89, 1, 0]⟩ _ (by exact x4) HLA.out rfl (hdr_magic _ _) la1).mono ?_
  rintro e w10 ⟨rfl, q0, hw0⟩
  subst hw0
  go_wp2_with fail
  refine (has_any g4 lb c4 (hdr b.data.toList zs) 0 0 ⟨#[147, 78, 85, 77, 80, 89, 1, 0]⟩ _ (by exact y4) HLB.out rfl (hdr_magic _ _) lb1).mono ?_
  rintro e w11 ⟨rfl, q1, hw1⟩
  subst hw1
  go_wp2_with fail
  refine (has_any g3 la c3 (hdr a.data.toList zs) 10 10 ⟨#[123, 39, 100, 101, 115, 99, 114, 39, 58, 32, 39]⟩ _ (by exact x4) HLA.out rfl (hdr_head _ _) la1).mono ?_
  rintro e w12 ⟨rfl, q2, hw2⟩
  subst hw2
  go_wp2_with fail
  refine (has_any g4 lb c4 (hdr b.data.toList zs) 10 10 ⟨#[123, 39, 100, 101, 115, 99, 114, 39, 58, 32, 39]⟩ _ (by exact y4) HLB.out rfl (hdr_head _ _) lb1).mono ?_
  rintro e w13 ⟨rfl, q3, hw3⟩
  subst hw3
  go_wp2_with fail
  refine (has_any g3 la c3 (hdr a.data.toList zs) 21 21 a _ (by exact x4) HLA.out rfl (hdr_descr _ _) la1).mono ?_
  rintro e w14 ⟨rfl, q4, hw4⟩
  subst hw4
  go_wp2_with fail
  refine (has_any g4 lb c4 (hdr b.data.toList zs) 21 21 b _ (by exact y4) HLB.out rfl (hdr_descr _ _) lb1).mono ?_
  rintro e w15 ⟨rfl, q5, hw5⟩
  subst hw5
  rcases Nat.lt_trichotomy a.size b.size with h | h | h
  · have hne : ((a.size : Int) == (b.size : Int)) = false := beq_eq_false_iff_ne.2 (by omega)
    have hle := hmono.1 (by omega)
    have hnle : ¬ b.size ≤ a.size := by omega
    clear hmono
    go_wp2_with fail
    go_ret
    exact ⟨rfl, below_drewN hB4 _⟩
  · have heq : ((a.size : Int) == (b.size : Int)) = true := beq_iff_eq.2 (by omega)
    have hll : la = lb := by have h1 := hmono.1 (by omega); have h2 := hmono.2 (by omega); omega
    have HAG : Hid (∀ i, i < 21 ∨ 21 + a.size ≤ i → (hdr a.data.toList zs)[i]? = (hdr b.data.toList zs)[i]?) := fun i hi => hdr_agree _ _ _ (by rw [size_list, size_list]; exact h) i (by rw [size_list]; exact hi)
    subst hll
    have hs1 : a.size ≤ b.size := by omega
    have hs2 : b.size ≤ a.size := by omega
    clear hmono h
    go_wp2_with fail
    go_loopw [10] (fun i wr => ∃ m : Nat, m ≤ la ∧ i = .int .i64 m ∧ ∃ q, wr = w4.drewN q) (fun i _ => la - (intOf i).toNat)
    case atStart => exact ⟨0, Nat.zero_le _, rfl, _, rfl⟩
    case round =>
      obtain ⟨m, hm, rfl, q, rfl⟩ := hrel
      by_cases hlt : m < la
      · by_cases hin : 21 ≤ m ∧ m < 21 + a.size
        · obtain ⟨hi1, hi2⟩ := hin
          go_wp2_with fail
          go_roundw
          case rel => exact ⟨m + 1, by omega, by go_num, _, rfl⟩
          case measure => simp [intOf]; omega
        · obtain ⟨c, hca, hcb⟩ : ∃ c : UInt8, w4.cell? ⟨g3, m, none⟩ = some (.int .u8 (c.toNat : Int)) ∧ w4.cell? ⟨g4, m, none⟩ = some (.int .u8 (c.toNat : Int)) := by
            have e1 : (hdr a.data.toList zs)[m]? = some ((hdr a.data.toList zs)[m]'(by rw [HLA.out]; exact hlt)) := List.getElem?_eq_getElem _
            have e2 := (HAG.out m (by omega)).symm.trans e1
            have c1 := x4 m _ e1
            have c2 := y4 m _ e2
            rw [add_at, Nat.zero_add] at c1 c2
            exact ⟨_, c1, c2⟩
          have hl1 : (m : Int) < (la : Int) := by omega
          rcases (show m < 21 ∨ (21 ≤ m ∧ 21 + a.size ≤ m) by omega) with hi1 | ⟨hi1, hi2⟩
          all_goals
            clear hin
            go_wp2_with fail
            go_quiet (fail)
            go_wp2_with fail
            go_roundw
            case rel => exact ⟨m + 1, by omega, by go_num, _, rfl⟩
            case measure => simp [intOf]; omega
      · go_wp2_with fail
        go_ret
        exact ⟨rfl, below_drewN hB4 _⟩
  · have hne : ((a.size : Int) == (b.size : Int)) = false := beq_eq_false_iff_ne.2 (by omega)
    have hle := hmono.2 (by omega)
    have hnle : ¬ a.size ≤ b.size := by omega
    clear hmono
    go_wp2_with fail
    go_ret
    exact ⟨rfl, below_drewN hB4 _⟩

set_option maxHeartbeats 1600000 in
set_option maxRecDepth 100000 in
theorem law1_none (F : Interp) (a b : ByteArray) (zs : List Int) (w : World) (hF : F.told.answers w.tape) (htab : TabOk w) (ha : a.size ≤ 262144) (hb : b.size ≤ 262144) (hz : Ints w none 0 zs) :
    Calls Tryf.prog 3 #[.string a, .string b, .slice none 0 0] w fun e w' => e = .returned (.bool true) ∧ Below w.heap.size w w' := by
  have q1 : ∀ (w : World), (binOp .neq 22 (.slice none 0 0) (.slice none 0 0)).run Tryf.prog w = .ok (.bool false) w := fun w => run_neq_slice_nil_any w _ _ none 0 0 0 0 Tryf.underlying22
  have b2 : Below w.heap.size w w := Below.refl _ _
  have ht2 := htab
  have hF2 := hF
  have k2 := hz
  clear hz htab hF
  go_enter Tryf.func3, Tryf.ntmps3
  go_wp2_with fail
  refine (bytes6_any a b none 0 0 _).mono ?_
  rintro e w' ⟨t, rfl, hw⟩
  subst hw
  cases t
  · go_wp2_with fail
    go_ret
    exact ⟨rfl, Below.refl _ _⟩
  go_wp2_with fail
  refine (zznpy_any F a none 0 0 zs _ hF2 ht2 (by omega) (by omega) k2).mono ?_
  rintro e w3 ⟨g3, c3, rfl, y3, b3⟩
  have ht3 := ht2.below b3
  have hF3 : F.told.answers w3.tape := by rw [b3.tape]; exact hF2
  have k3 := k2.below b3
  clear k2 ht2 hF2
  go_wp2_with fail
  refine (zznpy_any F b none 0 0 zs _ hF3 ht3 (by omega) (by omega) k3).mono ?_
  rintro e w4 ⟨g4, c4, rfl, y4, b4⟩
  have x4 := y3.below b4
  have hB4 : Below w'.heap.size w' w4 := b2.trans ((b3.trans (b4.mono b3.size)).mono b2.size)
  have hbd : ∀ s : ByteArray, s.size ≤ 262144 → (hdr s.data.toList zs).length ≤ 1000000000 := fun s hs => by
    have h1 := tup_length zs k3.2.2.2
    rw [k3.1] at h1
    rw [hdr_length, size_list]
    omega
  have la1 := hbd a ha
  have lb1 := hbd b hb
  have hmono : (a.size ≤ b.size → (hdr a.data.toList zs).length ≤ (hdr b.data.toList zs).length) ∧ (b.size ≤ a.size → (hdr b.data.toList zs).length ≤ (hdr a.data.toList zs).length) := ⟨fun h => hdr_mono _ _ _ (by rw [size_list, size_list]; exact h), fun h => hdr_mono _ _ _ (by rw [size_list, size_list]; exact h)⟩
  have A1 : Hid (21 + a.size ≤ (hdr a.data.toList zs).length) := by have := (hdr_descr a.data.toList zs).le; rw [size_list] at this; exact this
  have B1 : Hid (21 + b.size ≤ (hdr b.data.toList zs).length) := by have := (hdr_descr b.data.toList zs).le; rw [size_list] at this; exact this
  clear hbd k3 y3 ht3 hF3
  obtain ⟨la, hla⟩ : ∃ la, (hdr a.data.toList zs).length = la := ⟨_, rfl⟩
  obtain ⟨lb, hlb⟩ : ∃ lb, (hdr b.data.toList zs).length = lb := ⟨_, rfl⟩
  rw [hla] at la1 hmono A1
  rw [hlb] at lb1 hmono B1
  rw [hla, hlb]
  have HLA : Hid ((hdr a.data.toList zs).length = la) := hla
  have HLB : Hid ((hdr b.data.toList zs).length = lb) := hlb
  clear hla hlb
  go_wp2_with fail
  refine (has_any g3 la c3 (hdr a.data.toList zs) 0 0 ⟨#[147, 78, 85, 77, 80, 89, 1, 0]⟩ _ (by exact x4) HLA.out rfl (hdr_magic _ _) la1).mono ?_
  rintro e w10 ⟨rfl, q0, hw0⟩
  subst hw0
  go_wp2_with fail
  refine (has_any g4 lb c4 (hdr b.data.toList zs) 0 0 ⟨#[147, 78, 85, 77, 80, 89, 1, 0]⟩ _ (by exact y4) HLB.out rfl (hdr_magic _ _) lb1).mono ?_
  rintro e w11 ⟨rfl, q1, hw1⟩
  subst hw1
  go_wp2_with fail
  refine (has_any g3 la c3 (hdr a.data.toList zs) 10 10 ⟨#[123, 39, 100, 101, 115, 99, 114, 39, 58, 32, 39]⟩ _ (by exact x4) HLA.out rfl (hdr_head _ _) la1).mono ?_
  rintro e w12 ⟨rfl, q2, hw2⟩
  subst hw2
  go_wp2_with fail
  refine (has_any g4 lb c4 (hdr b.data.toList zs) 10 10 ⟨#[123, 39, 100, 101, 115, 99, 114, 39, 58, 32, 39]⟩ _ (by exact y4) HLB.out rfl (hdr_head _ _) lb1).mono ?_
  rintro e w13 ⟨rfl, q3, hw3⟩
  subst hw3
  go_wp2_with fail
  refine (has_any g3 la c3 (hdr a.data.toList zs) 21 21 a _ (by exact x4) HLA.out rfl (hdr_descr _ _) la1).mono ?_
  rintro e w14 ⟨rfl, q4, hw4⟩
  subst hw4
  go_wp2_with fail
  refine (has_any g4 lb c4 (hdr b.data.toList zs) 21 21 b _ (by exact y4) HLB.out rfl (hdr_descr _ _) lb1).mono ?_
  rintro e w15 ⟨rfl, q5, hw5⟩
  subst hw5
  rcases Nat.lt_trichotomy a.size b.size with h | h | h
  · have hne : ((a.size : Int) == (b.size : Int)) = false := beq_eq_false_iff_ne.2 (by omega)
    have hle := hmono.1 (by omega)
    have hnle : ¬ b.size ≤ a.size := by omega
    clear hmono
    go_wp2_with fail
    go_ret
    exact ⟨rfl, below_drewN hB4 _⟩
  · have heq : ((a.size : Int) == (b.size : Int)) = true := beq_iff_eq.2 (by omega)
    have hll : la = lb := by have h1 := hmono.1 (by omega); have h2 := hmono.2 (by omega); omega
    have HAG : Hid (∀ i, i < 21 ∨ 21 + a.size ≤ i → (hdr a.data.toList zs)[i]? = (hdr b.data.toList zs)[i]?) := fun i hi => hdr_agree _ _ _ (by rw [size_list, size_list]; exact h) i (by rw [size_list]; exact hi)
    subst hll
    have hs1 : a.size ≤ b.size := by omega
    have hs2 : b.size ≤ a.size := by omega
    clear hmono h
    go_wp2_with fail
    go_loopw [10] (fun i wr => ∃ m : Nat, m ≤ la ∧ i = .int .i64 m ∧ ∃ q, wr = w4.drewN q) (fun i _ => la - (intOf i).toNat)
    case atStart => exact ⟨0, Nat.zero_le _, rfl, _, rfl⟩
    case round =>
      obtain ⟨m, hm, rfl, q, rfl⟩ := hrel
      by_cases hlt : m < la
      · by_cases hin : 21 ≤ m ∧ m < 21 + a.size
        · obtain ⟨hi1, hi2⟩ := hin
          go_wp2_with fail
          go_roundw
          case rel => exact ⟨m + 1, by omega, by go_num, _, rfl⟩
          case measure => simp [intOf]; omega
        · obtain ⟨c, hca, hcb⟩ : ∃ c : UInt8, w4.cell? ⟨g3, m, none⟩ = some (.int .u8 (c.toNat : Int)) ∧ w4.cell? ⟨g4, m, none⟩ = some (.int .u8 (c.toNat : Int)) := by
            have e1 : (hdr a.data.toList zs)[m]? = some ((hdr a.data.toList zs)[m]'(by rw [HLA.out]; exact hlt)) := List.getElem?_eq_getElem _
            have e2 := (HAG.out m (by omega)).symm.trans e1
            have c1 := x4 m _ e1
            have c2 := y4 m _ e2
            rw [add_at, Nat.zero_add] at c1 c2
            exact ⟨_, c1, c2⟩
          have hl1 : (m : Int) < (la : Int) := by omega
          rcases (show m < 21 ∨ (21 ≤ m ∧ 21 + a.size ≤ m) by omega) with hi1 | ⟨hi1, hi2⟩
          all_goals
            clear hin
            go_wp2_with fail
            go_quiet (fail)
            go_wp2_with fail
            go_roundw
            case rel => exact ⟨m + 1, by omega, by go_num, _, rfl⟩
            case measure => simp [intOf]; omega
      · go_wp2_with fail
        go_ret
        exact ⟨rfl, below_drewN hB4 _⟩
  · have hne : ((a.size : Int) == (b.size : Int)) = false := beq_eq_false_iff_ne.2 (by omega)
    have hle := hmono.2 (by omega)
    have hnle : ¬ a.size ≤ b.size := by omega
    clear hmono
    go_wp2_with fail
    go_ret
    exact ⟨rfl, below_drewN hB4 _⟩

end Go.Proofs.Qxb6616758aFmt
