/-
  bytes.EqualFold (19) at whatever bytes: it ends and answers a bool.
-/
import Derived.Test.Qxb6602824aDoorFold
import Derived.Test.Qxb6602824aDoorSimple
import Derived.Shelf.Spec.BytesIndexFunc
import Derived.Shelf.Strings.CaseAny
import Derived.ScopeJumps
import Derived.WalkMore
import Derived.Deep.LoopGhost
namespace Go
theorem wp_scope_once {P : Program} {a : Act} {w : World} {Q : Exit → Act → World → Prop} {c rest : Code} (l : Nat) (hf : findLabel c l = some rest)
    (first : c.wp P (Exit.jump l (fun a w => rest.wp P (Exit.noGoto Q) a w) Q) a w) : (Code.scope c).wp P Q a w :=
  wp_scope_jumps l (fun a w => rest.wp P (Exit.noGoto Q) a w) (fun _ _ => 0) hf first fun a w h b k cs => by
    obtain ⟨e, a', w', hq, harr⟩ := h b k cs
    refine ⟨e, a', w', ?_, harr⟩
    cases e <;> first | exact hq | exact hq.elim
section
variable {Q : Exit → Act → World → Prop} {J : Act → World → Prop} {a : Act} {w : World} {l : Nat}
theorem Exit.jump_normal : Exit.jump l J Q .normal a w = Q .normal a w := rfl
theorem Exit.jump_exit (id : Nat) : Exit.jump l J Q (.exit id) a w = Q (.exit id) a w := rfl
theorem Exit.jump_ret : Exit.jump l J Q .ret a w = Q .ret a w := rfl
theorem Exit.jump_goto (h : J a w) : Exit.jump l J Q (.goto l) a w := ⟨rfl, h⟩
end
end Go
namespace Go.Proofs.Qxb6602824aDoor
open Go.RowKit Go.PlainAid Go.Lib Go.Deep
attribute [local go_sem] Exit.jump_normal Exit.jump_exit Exit.jump_ret

/-- Go's tables of the folding, as they lie. -/
def Tabs (w : World) : Prop := Lib.Utf8Tabs 3 4 w ∧ FoldTab w ∧ OrbVar w ∧ CaseVar 2 caseA w
theorem Tabs.below {w w' : World} (h : Tabs w) (hb : Below w.heap.size w w') : Tabs w' := by
  obtain ⟨h1, h2, ⟨R, oR, cap, h3, h4⟩, h5⟩ := h
  exact ⟨Utf8Tabs_below h1 hb, fun i hi => cell_below hb (h2 i hi), ⟨R, oR, cap, cell_below hb h3, fun i hi => ⟨cell_below hb (h4 i hi).1, cell_below hb (h4 i hi).2⟩⟩, Lib.CaseVar_below h5 hb⟩

theorem decode21 (s : ByteArray) (b off cap : Nat) (w : World) (hT : Tabs w) (hB : BytesAt s b off w) :
    Calls Tryd.prog 21 #[.slice (some ⟨b, off, none⟩) s.size cap] w fun e w' => e = .returned (.tuple #[.int .i32 (Lib.decodeGo s).1, .int .i64 (Lib.decodeGo s).2]) ∧ Below w.heap.size w w' :=
  Any7.utf8_DecodeRune Tryd.lays32 s b off cap w hT.1 hB

theorem dec_facts (s : ByteArray) (h : 0 < s.size) : ∃ R K : Nat, 1 ≤ K ∧ K ≤ s.size ∧ R ≤ 1114111 ∧ ∀ (b off cap : Nat) (w : World), Tabs w → BytesAt s b off w →
    Calls Tryd.prog 21 #[.slice (some ⟨b, off, none⟩) s.size cap] w fun e w' => e = .returned (.tuple #[.int .i32 (R : Int), .int .i64 (K : Int)]) ∧ Below w.heap.size w w' := by
  have e : Lib.decodeGo s = Utf8.decode s 0 := by
    unfold Lib.decodeGo
    rw [if_neg (by omega)]
  refine ⟨(Lib.decodeGo s).1, (Lib.decodeGo s).2, ?_, Lib.decodeGo_le_size s, ?_, fun b off cap w hT hB => decode21 s b off cap w hT hB⟩
  · rw [e]; exact Lib.width_pos s 0
  · rw [e]; exact Lib.rune_le s 0

/-- sf, k times. -/
def it (r : Int) : Nat → Int
  | 0 => r
  | k + 1 => sf (it r k)
theorem it_back (r : Int) : ∃ n, 1 ≤ n ∧ n ≤ 4 ∧ it r n = r := by
  rcases sf_back r with h | h | h | h
  · exact ⟨1, by omega, by omega, h⟩
  · exact ⟨2, by omega, by omega, h⟩
  · exact ⟨3, by omega, by omega, h⟩
  · exact ⟨4, by omega, by omega, h⟩

/-- It answers a bool; what lay, lies. -/
def IsBool (w : World) (e : Ending) (w' : World) : Prop := ∃ b, e = .returned (.bool b) ∧ Below w.heap.size w w'

theorem bytesAt_of {w : World} {s : ByteArray} {b o : Nat} (h : ∀ i, i < s.size → w.cell? ⟨b, o + i, none⟩ = some (.int .u8 (bt s i))) : BytesAt s b o w := fun j hj => by
  rw [h j hj, ← get_bt s j hj]
  have : s.get! j = s[j]'hj := Utf8W.get!_of_lt s j hj
  rw [this]
theorem empty_at {s : ByteArray} {b x K : Nat} {w : World} (h : (s.extract K s.size).size = s.size - K) (hs : s.size ≤ K) : BytesAt (s.extract K s.size) b x w := fun j hj => by omega
theorem simple_at {w W : World} (hT : Tabs w) (hW : Below w.heap.size w W) (v : Int) : Calls Tryd.prog 22 #[.int .i32 v] W fun e w' => e = .returned (.int .i32 (sf v)) ∧ Below W.heap.size W w' :=
  simple22 v W (hT.below hW).2.1 (hT.below hW).2.2.1 (hT.below hW).2.2.2

set_option maxHeartbeats 8000000 in
set_option maxRecDepth 100000 in
theorem equal19 (p q : ByteArray) (a a' : Option Addr) (c c' : Nat) (w : World) (hT : Tabs w) (hp : Rb w a p) (hq : Rb w a' q) (sp : p.size ≤ 1048576) (sq : q.size ≤ 1048576) (hc : p.size ≤ c) (hc' : q.size ≤ c') (h0 : 0 < p.size) (h1 : 0 < q.size) :
    Calls Tryd.prog 19 #[.slice a p.size c, .slice a' q.size c'] w fun e w' => IsBool w e w' := by
  obtain ⟨b, o, rfl, hcp⟩ := hp.resolve_left (by omega)
  obtain ⟨b', o', rfl, hcq⟩ := hq.resolve_left (by omega)
  obtain ⟨M, hM, hM1, hM2⟩ : ∃ M : Nat, min (p.size : Int) (q.size : Int) = (M : Int) ∧ M ≤ p.size ∧ M ≤ q.size := ⟨min p.size q.size, by omega, by omega, by omega⟩
  have HT : Hid (Tabs w) := hT
  have HP : Hid (BytesAt p b o w) := bytesAt_of hcp
  have HQ : Hid (BytesAt q b' o' w) := bytesAt_of hcq
  go_enter Tryd.func19, Tryd.ntmps19
  go_wp2
  refine wp_scope_once 0 rfl ?_
  generalize hJJ : (fun a w => Code.wp Tryd.prog _ (Exit.noGoto _) a w) = JJ
  have HJ : Hid _ := hJJ
  clear hJJ hT hp hq
  go_wp2
  go_loopw [5] (fun i wr => ∃ k : Nat, k ≤ M ∧ i = .int .i64 k ∧ Hid (Below w.heap.size w wr)) (fun i _ => M - (intOf i).toNat)
  case atStart => exact ⟨0, Nat.zero_le _, rfl, Below.refl _ _⟩
  case round =>
    obtain ⟨k, hk, rfl, HB⟩ := hrel
    by_cases hkm : k < M
    · have hkp : k < p.size := by omega
      have hkq : k < q.size := by omega
      have hkz : (k : Int) < (M : Int) := by omega
      have c1 := cell_below HB.out (hcp k hkp)
      have c2 := cell_below HB.out (hcq k hkq)
      have hki : (k : Int) < (p.size : Int) := by omega
      have hkj : (k : Int) < (q.size : Int) := by omega
      have x0 := bt_nonneg p k
      have y0 := bt_nonneg q k
      clear hcp hcq
      generalize bt p k = x at *
      generalize bt q k = y at *
      by_cases hor : 128 ≤ bits BinOp.or IntKind.u8 x y
      · go_wp2
        go_step3
        refine ⟨rfl, ?_⟩
        rw [← HJ.out]
        clear HJ
        have e1 : (k : Int) ≤ (p.size : Int) := by omega
        have e2 : (k : Int) ≤ (q.size : Int) := by omega
        have e3 : ¬ (c = k) := by omega
        have e4 : ¬ (c' = k) := by omega
        show Code.wp _ _ _ _ _
        go_wp2
        have H0 : Hid _ := HB.out
        clear HB hor c1 c2 x0 y0 hki hkj hM
        go_loopg [0, 1] (p.size + 1) (fun g s0 s1 wx => Hid (Below w.heap.size w wx) ∧ ∃ (s t : ByteArray) (x y m n : Nat), s0 = .slice (some ⟨b, x, none⟩) s.size m ∧ s1 = .slice (some ⟨b', y, none⟩) t.size n ∧ s.size ≤ m ∧ t.size ≤ n ∧ s.size ≤ 1048576 ∧ t.size ≤ 1048576 ∧ s.size < g ∧ Hid (BytesAt s b x wx) ∧ Hid (BytesAt t b' y wx))
        case atStart =>
          refine ⟨H0.out, p.extract k p.size, q.extract k q.size, o + k, o' + k, c - k, c' - k, ?_, ?_, ?_, ?_, ?_, ?_, ?_, (BytesAt.below HP.out H0.out).tail k, (BytesAt.below HQ.out H0.out).tail k⟩
          · rw [Lib.tail_size]
          · rw [Lib.tail_size]
          · rw [Lib.tail_size]; omega
          · rw [Lib.tail_size]; omega
          · rw [Lib.tail_size]; omega
          · rw [Lib.tail_size]; omega
          · rw [Lib.tail_size]; omega
        case round =>
          obtain ⟨HB, s, t, x, y, m, n, rfl, rfl, hsm, htn, hs20, ht20, hg, HS, HTt⟩ := hrel
          clear HP HQ H0 sp sq hc hc' h0 h1 hk hkm hkp hkq e1 e2 e3 e4 hkz hM1 hM2
          by_cases hz : 0 < s.size ∧ 0 < t.size
          · obtain ⟨hz1, hz2⟩ := hz
            obtain ⟨g', rfl⟩ : ∃ g', gk = g' + 1 := ⟨gk - 1, by omega⟩
            obtain ⟨R1, K1, k1, k1', r1, D1⟩ := dec_facts s hz1
            obtain ⟨R2, K2, k2, k2', r2, D2⟩ := dec_facts t hz2
            have HD1 : Hid _ := fun (_ : Unit) => D1 b x m wr (Tabs.below HT.out HB.out) HS.out
            have HD2 : Hid _ := fun (W : World) (hW : Below wr.heap.size wr W) => D2 b' y n W (Tabs.below (Tabs.below HT.out HB.out) hW) (BytesAt.below HTt.out hW)
            clear D1 D2
            have z1 : ¬ ((s.size : Int) = 0) := by omega
            have z2 : ¬ ((t.size : Int) = 0) := by omega
            have z3 : ((s.size : Int) == 0) = false := beq_eq_false_iff_ne.2 (by omega)
            have z4 : ((t.size : Int) == 0) = false := beq_eq_false_iff_ne.2 (by omega)
            have z5 : ¬ (s.size = 0) := by omega
            have z6 : ¬ (t.size = 0) := by omega
            have z7 : ((s.size : Int) != 0) = true := bne_iff_ne.2 (by omega)
            have z8 : ((t.size : Int) != 0) = true := bne_iff_ne.2 (by omega)
            have i1 : (K1 : Int) ≤ (s.size : Int) := by omega
            have i2 : (K2 : Int) ≤ (t.size : Int) := by omega
            have ts1 : (s.extract K1 s.size).size = s.size - K1 := Lib.tail_size s K1
            have ts2 : (t.extract K2 t.size).size = t.size - K2 := Lib.tail_size t K2
            have HTS : Hid _ := And.intro ts1 ts2
            clear ts1 ts2
            by_cases hm : m = K1
            · by_cases hn : n = K2
              · have hm2 := hm.symm; subst hm2
                have hn2 := hn.symm; subst hn2
                rcases Nat.lt_trichotomy R1 R2 with hR | hR | hR
                · have d1 : ((R2 : Int) == (R1 : Int)) = false := beq_eq_false_iff_ne.2 (by omega)
                  have d2 : ¬ ((R2 : Int) < (R1 : Int)) := by omega
                  by_cases h128 : R2 < 128
                  · have d3 : (R2 : Int) < 128 := by omega
                    go_wp2_with (go_at_call 21; first | (refine (HD2.out _ hb1).mono ?_; rintro e w2 ⟨rfl, hb2⟩) | (refine (HD1.out ()).mono ?_; rintro e w1 ⟨rfl, hb1⟩))
                    all_goals
                      first
                        | (go_roundg g'
                           case measure => omega
                           case rel => exact ⟨HB.out.trans ((hb1.trans (hb2.mono hb1.size)).mono HB.out.size), s.extract K1 s.size, t.extract K2 t.size, x, y, 0, 0, (by rw [HTS.out.1]; try (congr 1; omega)), (by rw [HTS.out.2]; try (congr 1; omega)), by have := HTS.out.1; omega, by have := HTS.out.2; omega, by have := HTS.out.1; omega, by have := HTS.out.2; omega, by have := HTS.out.1; omega, empty_at HTS.out.1 (by omega), empty_at HTS.out.2 (by omega)⟩)
                        | ((try rw [Exit.noGoto_ret]); go_ret; exact ⟨_, rfl, HB.out.trans ((hb1.trans (hb2.mono hb1.size)).mono HB.out.size)⟩)
                  · have d3 : ¬ ((R2 : Int) < 128) := by omega
                    go_wp2_with (go_at_call 21; first | (refine (HD2.out _ hb1).mono ?_; rintro e w2 ⟨rfl, hb2⟩) | (refine (HD1.out ()).mono ?_; rintro e w1 ⟨rfl, hb1⟩))
                    obtain ⟨nn, nn1, nn4, hback⟩ := it_back ((R1 : Nat) : Int)
                    have HBk : Hid _ := hback
                    clear hback
                    have HS2 : Hid _ := fun (_ : Unit) => simple_at (HT.out) (HB.out.trans ((hb1.trans (hb2.mono hb1.size)).mono HB.out.size)) ((R1 : Nat) : Int)
                    refine (HS2.out ()).mono ?_
                    rintro e w3 ⟨rfl, hb3⟩
                    go_wp2
                    go_loopg [12] 5 (fun g s12 wx => Hid (Below wr.heap.size wr wx) ∧ ∃ j : Nat, s12 = .int .i32 (it ((R1 : Nat) : Int) j) ∧ j ≤ nn ∧ nn < j + g)
                    case atStart => exact ⟨(hb1.trans (hb2.mono hb1.size)).trans (hb3.mono (hb1.trans (hb2.mono hb1.size)).size), 1, rfl, nn1, by omega⟩
                    case round =>
                      obtain ⟨HBi, j, rfl, hj1, hj2⟩ := hrel
                      by_cases hv : it ((R1 : Nat) : Int) j = ((R1 : Nat) : Int)
                      · rw [hv]
                        go_wp2
                        all_goals
                          first
                            | (go_roundg g'
                               case measure => omega
                               case rel => exact ⟨HB.out.trans ((HBi.out).mono HB.out.size), s.extract K1 s.size, t.extract K2 t.size, x, y, 0, 0, (by rw [HTS.out.1]; try (congr 1; omega)), (by rw [HTS.out.2]; try (congr 1; omega)), by have := HTS.out.1; omega, by have := HTS.out.2; omega, by have := HTS.out.1; omega, by have := HTS.out.2; omega, by have := HTS.out.1; omega, empty_at HTS.out.1 (by omega), empty_at HTS.out.2 (by omega)⟩)
                            | ((try rw [Exit.noGoto_ret]); go_ret; exact ⟨_, rfl, HB.out.trans ((HBi.out).mono HB.out.size)⟩)
                      · have hjn : j ≠ nn := fun h => hv (h ▸ HBk.out)
                        have HS3 : Hid _ := fun (_ : Unit) => simple_at (HT.out) (HB.out.trans (HBi.out.mono HB.out.size)) (it ((R1 : Nat) : Int) j)
                        have HN : Hid (it ((R1 : Nat) : Int) (j + 1) = sf (it ((R1 : Nat) : Int) j)) := rfl
                        generalize it ((R1 : Nat) : Int) j = v at *
                        have hvb : (v == ((R1 : Nat) : Int)) = false := beq_eq_false_iff_ne.2 hv
                        by_cases hlt : v < ((R2 : Nat) : Int)
                        · obtain ⟨g2, rfl⟩ : ∃ g2, gk = g2 + 1 := ⟨gk - 1, by omega⟩
                          go_wp2_with (go_at_call 22; refine (HS3.out ()).mono ?_; rintro e w4 ⟨rfl, hb4⟩)
                          go_roundg g2
                          case measure => omega
                          case rel => exact ⟨HBi.out.trans (hb4.mono HBi.out.size), j + 1, by rw [HN.out], by omega, by omega⟩
                        · go_wp2
                          all_goals
                            first
                              | (go_roundg g'
                                 case measure => omega
                                 case rel => exact ⟨HB.out.trans ((HBi.out).mono HB.out.size), s.extract K1 s.size, t.extract K2 t.size, x, y, 0, 0, (by rw [HTS.out.1]; try (congr 1; omega)), (by rw [HTS.out.2]; try (congr 1; omega)), by have := HTS.out.1; omega, by have := HTS.out.2; omega, by have := HTS.out.1; omega, by have := HTS.out.2; omega, by have := HTS.out.1; omega, empty_at HTS.out.1 (by omega), empty_at HTS.out.2 (by omega)⟩)
                              | ((try rw [Exit.noGoto_ret]); go_ret; exact ⟨_, rfl, HB.out.trans ((HBi.out).mono HB.out.size)⟩)
                · subst hR
                  go_wp2_with (go_at_call 21; first | (refine (HD2.out _ hb1).mono ?_; rintro e w2 ⟨rfl, hb2⟩) | (refine (HD1.out ()).mono ?_; rintro e w1 ⟨rfl, hb1⟩))
                  all_goals
                    first
                      | (go_roundg g'
                         case measure => omega
                         case rel => exact ⟨HB.out.trans ((hb1.trans (hb2.mono hb1.size)).mono HB.out.size), s.extract K1 s.size, t.extract K2 t.size, x, y, 0, 0, (by rw [HTS.out.1]; try (congr 1; omega)), (by rw [HTS.out.2]; try (congr 1; omega)), by have := HTS.out.1; omega, by have := HTS.out.2; omega, by have := HTS.out.1; omega, by have := HTS.out.2; omega, by have := HTS.out.1; omega, empty_at HTS.out.1 (by omega), empty_at HTS.out.2 (by omega)⟩)
                      | ((try rw [Exit.noGoto_ret]); go_ret; exact ⟨_, rfl, HB.out.trans ((hb1.trans (hb2.mono hb1.size)).mono HB.out.size)⟩)
                · have d1 : ((R2 : Int) == (R1 : Int)) = false := beq_eq_false_iff_ne.2 (by omega)
                  have d2 : (R2 : Int) < (R1 : Int) := by omega
                  by_cases h128 : R1 < 128
                  · have d3 : (R1 : Int) < 128 := by omega
                    go_wp2_with (go_at_call 21; first | (refine (HD2.out _ hb1).mono ?_; rintro e w2 ⟨rfl, hb2⟩) | (refine (HD1.out ()).mono ?_; rintro e w1 ⟨rfl, hb1⟩))
                    all_goals
                      first
                        | (go_roundg g'
                           case measure => omega
                           case rel => exact ⟨HB.out.trans ((hb1.trans (hb2.mono hb1.size)).mono HB.out.size), s.extract K1 s.size, t.extract K2 t.size, x, y, 0, 0, (by rw [HTS.out.1]; try (congr 1; omega)), (by rw [HTS.out.2]; try (congr 1; omega)), by have := HTS.out.1; omega, by have := HTS.out.2; omega, by have := HTS.out.1; omega, by have := HTS.out.2; omega, by have := HTS.out.1; omega, empty_at HTS.out.1 (by omega), empty_at HTS.out.2 (by omega)⟩)
                        | ((try rw [Exit.noGoto_ret]); go_ret; exact ⟨_, rfl, HB.out.trans ((hb1.trans (hb2.mono hb1.size)).mono HB.out.size)⟩)
                  · have d3 : ¬ ((R1 : Int) < 128) := by omega
                    go_wp2_with (go_at_call 21; first | (refine (HD2.out _ hb1).mono ?_; rintro e w2 ⟨rfl, hb2⟩) | (refine (HD1.out ()).mono ?_; rintro e w1 ⟨rfl, hb1⟩))
                    obtain ⟨nn, nn1, nn4, hback⟩ := it_back ((R2 : Nat) : Int)
                    have HBk : Hid _ := hback
                    clear hback
                    have HS2 : Hid _ := fun (_ : Unit) => simple_at (HT.out) (HB.out.trans ((hb1.trans (hb2.mono hb1.size)).mono HB.out.size)) ((R2 : Nat) : Int)
                    refine (HS2.out ()).mono ?_
                    rintro e w3 ⟨rfl, hb3⟩
                    go_wp2
                    go_loopg [12] 5 (fun g s12 wx => Hid (Below wr.heap.size wr wx) ∧ ∃ j : Nat, s12 = .int .i32 (it ((R2 : Nat) : Int) j) ∧ j ≤ nn ∧ nn < j + g)
                    case atStart => exact ⟨(hb1.trans (hb2.mono hb1.size)).trans (hb3.mono (hb1.trans (hb2.mono hb1.size)).size), 1, rfl, nn1, by omega⟩
                    case round =>
                      obtain ⟨HBi, j, rfl, hj1, hj2⟩ := hrel
                      by_cases hv : it ((R2 : Nat) : Int) j = ((R2 : Nat) : Int)
                      · rw [hv]
                        go_wp2
                        all_goals
                          first
                            | (go_roundg g'
                               case measure => omega
                               case rel => exact ⟨HB.out.trans ((HBi.out).mono HB.out.size), s.extract K1 s.size, t.extract K2 t.size, x, y, 0, 0, (by rw [HTS.out.1]; try (congr 1; omega)), (by rw [HTS.out.2]; try (congr 1; omega)), by have := HTS.out.1; omega, by have := HTS.out.2; omega, by have := HTS.out.1; omega, by have := HTS.out.2; omega, by have := HTS.out.1; omega, empty_at HTS.out.1 (by omega), empty_at HTS.out.2 (by omega)⟩)
                            | ((try rw [Exit.noGoto_ret]); go_ret; exact ⟨_, rfl, HB.out.trans ((HBi.out).mono HB.out.size)⟩)
                      · have hjn : j ≠ nn := fun h => hv (h ▸ HBk.out)
                        have HS3 : Hid _ := fun (_ : Unit) => simple_at (HT.out) (HB.out.trans (HBi.out.mono HB.out.size)) (it ((R2 : Nat) : Int) j)
                        have HN : Hid (it ((R2 : Nat) : Int) (j + 1) = sf (it ((R2 : Nat) : Int) j)) := rfl
                        generalize it ((R2 : Nat) : Int) j = v at *
                        have hvb : (v == ((R2 : Nat) : Int)) = false := beq_eq_false_iff_ne.2 hv
                        by_cases hlt : v < ((R1 : Nat) : Int)
                        · obtain ⟨g2, rfl⟩ : ∃ g2, gk = g2 + 1 := ⟨gk - 1, by omega⟩
                          go_wp2_with (go_at_call 22; refine (HS3.out ()).mono ?_; rintro e w4 ⟨rfl, hb4⟩)
                          go_roundg g2
                          case measure => omega
                          case rel => exact ⟨HBi.out.trans (hb4.mono HBi.out.size), j + 1, by rw [HN.out], by omega, by omega⟩
                        · go_wp2
                          all_goals
                            first
                              | (go_roundg g'
                                 case measure => omega
                                 case rel => exact ⟨HB.out.trans ((HBi.out).mono HB.out.size), s.extract K1 s.size, t.extract K2 t.size, x, y, 0, 0, (by rw [HTS.out.1]; try (congr 1; omega)), (by rw [HTS.out.2]; try (congr 1; omega)), by have := HTS.out.1; omega, by have := HTS.out.2; omega, by have := HTS.out.1; omega, by have := HTS.out.2; omega, by have := HTS.out.1; omega, empty_at HTS.out.1 (by omega), empty_at HTS.out.2 (by omega)⟩)
                              | ((try rw [Exit.noGoto_ret]); go_ret; exact ⟨_, rfl, HB.out.trans ((HBi.out).mono HB.out.size)⟩)
              · have hm2 := hm.symm; subst hm2
                rcases Nat.lt_trichotomy R1 R2 with hR | hR | hR
                · have d1 : ((R2 : Int) == (R1 : Int)) = false := beq_eq_false_iff_ne.2 (by omega)
                  have d2 : ¬ ((R2 : Int) < (R1 : Int)) := by omega
                  by_cases h128 : R2 < 128
                  · have d3 : (R2 : Int) < 128 := by omega
                    go_wp2_with (go_at_call 21; first | (refine (HD2.out _ hb1).mono ?_; rintro e w2 ⟨rfl, hb2⟩) | (refine (HD1.out ()).mono ?_; rintro e w1 ⟨rfl, hb1⟩))
                    all_goals
                      first
                        | (go_roundg g'
                           case measure => omega
                           case rel => exact ⟨HB.out.trans ((hb1.trans (hb2.mono hb1.size)).mono HB.out.size), s.extract K1 s.size, t.extract K2 t.size, x, y + K2, 0, n - K2, (by rw [HTS.out.1]; try (congr 1; omega)), (by rw [HTS.out.2]; try (congr 1; omega)), by have := HTS.out.1; omega, by have := HTS.out.2; omega, by have := HTS.out.1; omega, by have := HTS.out.2; omega, by have := HTS.out.1; omega, empty_at HTS.out.1 (by omega), (BytesAt.below HTt.out (hb1.trans (hb2.mono hb1.size))).tail K2⟩)
                        | ((try rw [Exit.noGoto_ret]); go_ret; exact ⟨_, rfl, HB.out.trans ((hb1.trans (hb2.mono hb1.size)).mono HB.out.size)⟩)
                  · have d3 : ¬ ((R2 : Int) < 128) := by omega
                    go_wp2_with (go_at_call 21; first | (refine (HD2.out _ hb1).mono ?_; rintro e w2 ⟨rfl, hb2⟩) | (refine (HD1.out ()).mono ?_; rintro e w1 ⟨rfl, hb1⟩))
                    obtain ⟨nn, nn1, nn4, hback⟩ := it_back ((R1 : Nat) : Int)
                    have HBk : Hid _ := hback
                    clear hback
                    have HS2 : Hid _ := fun (_ : Unit) => simple_at (HT.out) (HB.out.trans ((hb1.trans (hb2.mono hb1.size)).mono HB.out.size)) ((R1 : Nat) : Int)
                    refine (HS2.out ()).mono ?_
                    rintro e w3 ⟨rfl, hb3⟩
                    go_wp2
                    go_loopg [12] 5 (fun g s12 wx => Hid (Below wr.heap.size wr wx) ∧ ∃ j : Nat, s12 = .int .i32 (it ((R1 : Nat) : Int) j) ∧ j ≤ nn ∧ nn < j + g)
                    case atStart => exact ⟨(hb1.trans (hb2.mono hb1.size)).trans (hb3.mono (hb1.trans (hb2.mono hb1.size)).size), 1, rfl, nn1, by omega⟩
                    case round =>
                      obtain ⟨HBi, j, rfl, hj1, hj2⟩ := hrel
                      by_cases hv : it ((R1 : Nat) : Int) j = ((R1 : Nat) : Int)
                      · rw [hv]
                        go_wp2
                        all_goals
                          first
                            | (go_roundg g'
                               case measure => omega
                               case rel => exact ⟨HB.out.trans ((HBi.out).mono HB.out.size), s.extract K1 s.size, t.extract K2 t.size, x, y + K2, 0, n - K2, (by rw [HTS.out.1]; try (congr 1; omega)), (by rw [HTS.out.2]; try (congr 1; omega)), by have := HTS.out.1; omega, by have := HTS.out.2; omega, by have := HTS.out.1; omega, by have := HTS.out.2; omega, by have := HTS.out.1; omega, empty_at HTS.out.1 (by omega), (BytesAt.below HTt.out (HBi.out)).tail K2⟩)
                            | ((try rw [Exit.noGoto_ret]); go_ret; exact ⟨_, rfl, HB.out.trans ((HBi.out).mono HB.out.size)⟩)
                      · have hjn : j ≠ nn := fun h => hv (h ▸ HBk.out)
                        have HS3 : Hid _ := fun (_ : Unit) => simple_at (HT.out) (HB.out.trans (HBi.out.mono HB.out.size)) (it ((R1 : Nat) : Int) j)
                        have HN : Hid (it ((R1 : Nat) : Int) (j + 1) = sf (it ((R1 : Nat) : Int) j)) := rfl
                        generalize it ((R1 : Nat) : Int) j = v at *
                        have hvb : (v == ((R1 : Nat) : Int)) = false := beq_eq_false_iff_ne.2 hv
                        by_cases hlt : v < ((R2 : Nat) : Int)
                        · obtain ⟨g2, rfl⟩ : ∃ g2, gk = g2 + 1 := ⟨gk - 1, by omega⟩
                          go_wp2_with (go_at_call 22; refine (HS3.out ()).mono ?_; rintro e w4 ⟨rfl, hb4⟩)
                          go_roundg g2
                          case measure => omega
                          case rel => exact ⟨HBi.out.trans (hb4.mono HBi.out.size), j + 1, by rw [HN.out], by omega, by omega⟩
                        · go_wp2
                          all_goals
                            first
                              | (go_roundg g'
                                 case measure => omega
                                 case rel => exact ⟨HB.out.trans ((HBi.out).mono HB.out.size), s.extract K1 s.size, t.extract K2 t.size, x, y + K2, 0, n - K2, (by rw [HTS.out.1]; try (congr 1; omega)), (by rw [HTS.out.2]; try (congr 1; omega)), by have := HTS.out.1; omega, by have := HTS.out.2; omega, by have := HTS.out.1; omega, by have := HTS.out.2; omega, by have := HTS.out.1; omega, empty_at HTS.out.1 (by omega), (BytesAt.below HTt.out (HBi.out)).tail K2⟩)
                              | ((try rw [Exit.noGoto_ret]); go_ret; exact ⟨_, rfl, HB.out.trans ((HBi.out).mono HB.out.size)⟩)
                · subst hR
                  go_wp2_with (go_at_call 21; first | (refine (HD2.out _ hb1).mono ?_; rintro e w2 ⟨rfl, hb2⟩) | (refine (HD1.out ()).mono ?_; rintro e w1 ⟨rfl, hb1⟩))
                  all_goals
                    first
                      | (go_roundg g'
                         case measure => omega
                         case rel => exact ⟨HB.out.trans ((hb1.trans (hb2.mono hb1.size)).mono HB.out.size), s.extract K1 s.size, t.extract K2 t.size, x, y + K2, 0, n - K2, (by rw [HTS.out.1]; try (congr 1; omega)), (by rw [HTS.out.2]; try (congr 1; omega)), by have := HTS.out.1; omega, by have := HTS.out.2; omega, by have := HTS.out.1; omega, by have := HTS.out.2; omega, by have := HTS.out.1; omega, empty_at HTS.out.1 (by omega), (BytesAt.below HTt.out (hb1.trans (hb2.mono hb1.size))).tail K2⟩)
                      | ((try rw [Exit.noGoto_ret]); go_ret; exact ⟨_, rfl, HB.out.trans ((hb1.trans (hb2.mono hb1.size)).mono HB.out.size)⟩)
                · have d1 : ((R2 : Int) == (R1 : Int)) = false := beq_eq_false_iff_ne.2 (by omega)
                  have d2 : (R2 : Int) < (R1 : Int) := by omega
                  by_cases h128 : R1 < 128
                  · have d3 : (R1 : Int) < 128 := by omega
                    go_wp2_with (go_at_call 21; first | (refine (HD2.out _ hb1).mono ?_; rintro e w2 ⟨rfl, hb2⟩) | (refine (HD1.out ()).mono ?_; rintro e w1 ⟨rfl, hb1⟩))
                    all_goals
                      first
                        | (go_roundg g'
                           case measure => omega
                           case rel => exact ⟨HB.out.trans ((hb1.trans (hb2.mono hb1.size)).mono HB.out.size), s.extract K1 s.size, t.extract K2 t.size, x, y + K2, 0, n - K2, (by rw [HTS.out.1]; try (congr 1; omega)), (by rw [HTS.out.2]; try (congr 1; omega)), by have := HTS.out.1; omega, by have := HTS.out.2; omega, by have := HTS.out.1; omega, by have := HTS.out.2; omega, by have := HTS.out.1; omega, empty_at HTS.out.1 (by omega), (BytesAt.below HTt.out (hb1.trans (hb2.mono hb1.size))).tail K2⟩)
                        | ((try rw [Exit.noGoto_ret]); go_ret; exact ⟨_, rfl, HB.out.trans ((hb1.trans (hb2.mono hb1.size)).mono HB.out.size)⟩)
                  · have d3 : ¬ ((R1 : Int) < 128) := by omega
                    go_wp2_with (go_at_call 21; first | (refine (HD2.out _ hb1).mono ?_; rintro e w2 ⟨rfl, hb2⟩) | (refine (HD1.out ()).mono ?_; rintro e w1 ⟨rfl, hb1⟩))
                    obtain ⟨nn, nn1, nn4, hback⟩ := it_back ((R2 : Nat) : Int)
                    have HBk : Hid _ := hback
                    clear hback
                    have HS2 : Hid _ := fun (_ : Unit) => simple_at (HT.out) (HB.out.trans ((hb1.trans (hb2.mono hb1.size)).mono HB.out.size)) ((R2 : Nat) : Int)
                    refine (HS2.out ()).mono ?_
                    rintro e w3 ⟨rfl, hb3⟩
                    go_wp2
                    go_loopg [12] 5 (fun g s12 wx => Hid (Below wr.heap.size wr wx) ∧ ∃ j : Nat, s12 = .int .i32 (it ((R2 : Nat) : Int) j) ∧ j ≤ nn ∧ nn < j + g)
                    case atStart => exact ⟨(hb1.trans (hb2.mono hb1.size)).trans (hb3.mono (hb1.trans (hb2.mono hb1.size)).size), 1, rfl, nn1, by omega⟩
                    case round =>
                      obtain ⟨HBi, j, rfl, hj1, hj2⟩ := hrel
                      by_cases hv : it ((R2 : Nat) : Int) j = ((R2 : Nat) : Int)
                      · rw [hv]
                        go_wp2
                        all_goals
                          first
                            | (go_roundg g'
                               case measure => omega
                               case rel => exact ⟨HB.out.trans ((HBi.out).mono HB.out.size), s.extract K1 s.size, t.extract K2 t.size, x, y + K2, 0, n - K2, (by rw [HTS.out.1]; try (congr 1; omega)), (by rw [HTS.out.2]; try (congr 1; omega)), by have := HTS.out.1; omega, by have := HTS.out.2; omega, by have := HTS.out.1; omega, by have := HTS.out.2; omega, by have := HTS.out.1; omega, empty_at HTS.out.1 (by omega), (BytesAt.below HTt.out (HBi.out)).tail K2⟩)
                            | ((try rw [Exit.noGoto_ret]); go_ret; exact ⟨_, rfl, HB.out.trans ((HBi.out).mono HB.out.size)⟩)
                      · have hjn : j ≠ nn := fun h => hv (h ▸ HBk.out)
                        have HS3 : Hid _ := fun (_ : Unit) => simple_at (HT.out) (HB.out.trans (HBi.out.mono HB.out.size)) (it ((R2 : Nat) : Int) j)
                        have HN : Hid (it ((R2 : Nat) : Int) (j + 1) = sf (it ((R2 : Nat) : Int) j)) := rfl
                        generalize it ((R2 : Nat) : Int) j = v at *
                        have hvb : (v == ((R2 : Nat) : Int)) = false := beq_eq_false_iff_ne.2 hv
                        by_cases hlt : v < ((R1 : Nat) : Int)
                        · obtain ⟨g2, rfl⟩ : ∃ g2, gk = g2 + 1 := ⟨gk - 1, by omega⟩
                          go_wp2_with (go_at_call 22; refine (HS3.out ()).mono ?_; rintro e w4 ⟨rfl, hb4⟩)
                          go_roundg g2
                          case measure => omega
                          case rel => exact ⟨HBi.out.trans (hb4.mono HBi.out.size), j + 1, by rw [HN.out], by omega, by omega⟩
                        · go_wp2
                          all_goals
                            first
                              | (go_roundg g'
                                 case measure => omega
                                 case rel => exact ⟨HB.out.trans ((HBi.out).mono HB.out.size), s.extract K1 s.size, t.extract K2 t.size, x, y + K2, 0, n - K2, (by rw [HTS.out.1]; try (congr 1; omega)), (by rw [HTS.out.2]; try (congr 1; omega)), by have := HTS.out.1; omega, by have := HTS.out.2; omega, by have := HTS.out.1; omega, by have := HTS.out.2; omega, by have := HTS.out.1; omega, empty_at HTS.out.1 (by omega), (BytesAt.below HTt.out (HBi.out)).tail K2⟩)
                              | ((try rw [Exit.noGoto_ret]); go_ret; exact ⟨_, rfl, HB.out.trans ((HBi.out).mono HB.out.size)⟩)
            · by_cases hn : n = K2
              · have hn2 := hn.symm; subst hn2
                rcases Nat.lt_trichotomy R1 R2 with hR | hR | hR
                · have d1 : ((R2 : Int) == (R1 : Int)) = false := beq_eq_false_iff_ne.2 (by omega)
                  have d2 : ¬ ((R2 : Int) < (R1 : Int)) := by omega
                  by_cases h128 : R2 < 128
                  · have d3 : (R2 : Int) < 128 := by omega
                    go_wp2_with (go_at_call 21; first | (refine (HD2.out _ hb1).mono ?_; rintro e w2 ⟨rfl, hb2⟩) | (refine (HD1.out ()).mono ?_; rintro e w1 ⟨rfl, hb1⟩))
                    all_goals
                      first
                        | (go_roundg g'
                           case measure => omega
                           case rel => exact ⟨HB.out.trans ((hb1.trans (hb2.mono hb1.size)).mono HB.out.size), s.extract K1 s.size, t.extract K2 t.size, x + K1, y, m - K1, 0, (by rw [HTS.out.1]; try (congr 1; omega)), (by rw [HTS.out.2]; try (congr 1; omega)), by have := HTS.out.1; omega, by have := HTS.out.2; omega, by have := HTS.out.1; omega, by have := HTS.out.2; omega, by have := HTS.out.1; omega, (BytesAt.below HS.out (hb1.trans (hb2.mono hb1.size))).tail K1, empty_at HTS.out.2 (by omega)⟩)
                        | ((try rw [Exit.noGoto_ret]); go_ret; exact ⟨_, rfl, HB.out.trans ((hb1.trans (hb2.mono hb1.size)).mono HB.out.size)⟩)
                  · have d3 : ¬ ((R2 : Int) < 128) := by omega
                    go_wp2_with (go_at_call 21; first | (refine (HD2.out _ hb1).mono ?_; rintro e w2 ⟨rfl, hb2⟩) | (refine (HD1.out ()).mono ?_; rintro e w1 ⟨rfl, hb1⟩))
                    obtain ⟨nn, nn1, nn4, hback⟩ := it_back ((R1 : Nat) : Int)
                    have HBk : Hid _ := hback
                    clear hback
                    have HS2 : Hid _ := fun (_ : Unit) => simple_at (HT.out) (HB.out.trans ((hb1.trans (hb2.mono hb1.size)).mono HB.out.size)) ((R1 : Nat) : Int)
                    refine (HS2.out ()).mono ?_
                    rintro e w3 ⟨rfl, hb3⟩
                    go_wp2
                    go_loopg [12] 5 (fun g s12 wx => Hid (Below wr.heap.size wr wx) ∧ ∃ j : Nat, s12 = .int .i32 (it ((R1 : Nat) : Int) j) ∧ j ≤ nn ∧ nn < j + g)
                    case atStart => exact ⟨(hb1.trans (hb2.mono hb1.size)).trans (hb3.mono (hb1.trans (hb2.mono hb1.size)).size), 1, rfl, nn1, by omega⟩
                    case round =>
                      obtain ⟨HBi, j, rfl, hj1, hj2⟩ := hrel
                      by_cases hv : it ((R1 : Nat) : Int) j = ((R1 : Nat) : Int)
                      · rw [hv]
                        go_wp2
                        all_goals
                          first
                            | (go_roundg g'
                               case measure => omega
                               case rel => exact ⟨HB.out.trans ((HBi.out).mono HB.out.size), s.extract K1 s.size, t.extract K2 t.size, x + K1, y, m - K1, 0, (by rw [HTS.out.1]; try (congr 1; omega)), (by rw [HTS.out.2]; try (congr 1; omega)), by have := HTS.out.1; omega, by have := HTS.out.2; omega, by have := HTS.out.1; omega, by have := HTS.out.2; omega, by have := HTS.out.1; omega, (BytesAt.below HS.out (HBi.out)).tail K1, empty_at HTS.out.2 (by omega)⟩)
                            | ((try rw [Exit.noGoto_ret]); go_ret; exact ⟨_, rfl, HB.out.trans ((HBi.out).mono HB.out.size)⟩)
                      · have hjn : j ≠ nn := fun h => hv (h ▸ HBk.out)
                        have HS3 : Hid _ := fun (_ : Unit) => simple_at (HT.out) (HB.out.trans (HBi.out.mono HB.out.size)) (it ((R1 : Nat) : Int) j)
                        have HN : Hid (it ((R1 : Nat) : Int) (j + 1) = sf (it ((R1 : Nat) : Int) j)) := rfl
                        generalize it ((R1 : Nat) : Int) j = v at *
                        have hvb : (v == ((R1 : Nat) : Int)) = false := beq_eq_false_iff_ne.2 hv
                        by_cases hlt : v < ((R2 : Nat) : Int)
                        · obtain ⟨g2, rfl⟩ : ∃ g2, gk = g2 + 1 := ⟨gk - 1, by omega⟩
                          go_wp2_with (go_at_call 22; refine (HS3.out ()).mono ?_; rintro e w4 ⟨rfl, hb4⟩)
                          go_roundg g2
                          case measure => omega
                          case rel => exact ⟨HBi.out.trans (hb4.mono HBi.out.size), j + 1, by rw [HN.out], by omega, by omega⟩
                        · go_wp2
                          all_goals
                            first
                              | (go_roundg g'
                                 case measure => omega
                                 case rel => exact ⟨HB.out.trans ((HBi.out).mono HB.out.size), s.extract K1 s.size, t.extract K2 t.size, x + K1, y, m - K1, 0, (by rw [HTS.out.1]; try (congr 1; omega)), (by rw [HTS.out.2]; try (congr 1; omega)), by have := HTS.out.1; omega, by have := HTS.out.2; omega, by have := HTS.out.1; omega, by have := HTS.out.2; omega, by have := HTS.out.1; omega, (BytesAt.below HS.out (HBi.out)).tail K1, empty_at HTS.out.2 (by omega)⟩)
                              | ((try rw [Exit.noGoto_ret]); go_ret; exact ⟨_, rfl, HB.out.trans ((HBi.out).mono HB.out.size)⟩)
                · subst hR
                  go_wp2_with (go_at_call 21; first | (refine (HD2.out _ hb1).mono ?_; rintro e w2 ⟨rfl, hb2⟩) | (refine (HD1.out ()).mono ?_; rintro e w1 ⟨rfl, hb1⟩))
                  all_goals
                    first
                      | (go_roundg g'
                         case measure => omega
                         case rel => exact ⟨HB.out.trans ((hb1.trans (hb2.mono hb1.size)).mono HB.out.size), s.extract K1 s.size, t.extract K2 t.size, x + K1, y, m - K1, 0, (by rw [HTS.out.1]; try (congr 1; omega)), (by rw [HTS.out.2]; try (congr 1; omega)), by have := HTS.out.1; omega, by have := HTS.out.2; omega, by have := HTS.out.1; omega, by have := HTS.out.2; omega, by have := HTS.out.1; omega, (BytesAt.below HS.out (hb1.trans (hb2.mono hb1.size))).tail K1, empty_at HTS.out.2 (by omega)⟩)
                      | ((try rw [Exit.noGoto_ret]); go_ret; exact ⟨_, rfl, HB.out.trans ((hb1.trans (hb2.mono hb1.size)).mono HB.out.size)⟩)
                · have d1 : ((R2 : Int) == (R1 : Int)) = false := beq_eq_false_iff_ne.2 (by omega)
                  have d2 : (R2 : Int) < (R1 : Int) := by omega
                  by_cases h128 : R1 < 128
                  · have d3 : (R1 : Int) < 128 := by omega
                    go_wp2_with (go_at_call 21; first | (refine (HD2.out _ hb1).mono ?_; rintro e w2 ⟨rfl, hb2⟩) | (refine (HD1.out ()).mono ?_; rintro e w1 ⟨rfl, hb1⟩))
                    all_goals
                      first
                        | (go_roundg g'
                           case measure => omega
                           case rel => exact ⟨HB.out.trans ((hb1.trans (hb2.mono hb1.size)).mono HB.out.size), s.extract K1 s.size, t.extract K2 t.size, x + K1, y, m - K1, 0, (by rw [HTS.out.1]; try (congr 1; omega)), (by rw [HTS.out.2]; try (congr 1; omega)), by have := HTS.out.1; omega, by have := HTS.out.2; omega, by have := HTS.out.1; omega, by have := HTS.out.2; omega, by have := HTS.out.1; omega, (BytesAt.below HS.out (hb1.trans (hb2.mono hb1.size))).tail K1, empty_at HTS.out.2 (by omega)⟩)
                        | ((try rw [Exit.noGoto_ret]); go_ret; exact ⟨_, rfl, HB.out.trans ((hb1.trans (hb2.mono hb1.size)).mono HB.out.size)⟩)
                  · have d3 : ¬ ((R1 : Int) < 128) := by omega
                    go_wp2_with (go_at_call 21; first | (refine (HD2.out _ hb1).mono ?_; rintro e w2 ⟨rfl, hb2⟩) | (refine (HD1.out ()).mono ?_; rintro e w1 ⟨rfl, hb1⟩))
                    obtain ⟨nn, nn1, nn4, hback⟩ := it_back ((R2 : Nat) : Int)
                    have HBk : Hid _ := hback
                    clear hback
                    have HS2 : Hid _ := fun (_ : Unit) => simple_at (HT.out) (HB.out.trans ((hb1.trans (hb2.mono hb1.size)).mono HB.out.size)) ((R2 : Nat) : Int)
                    refine (HS2.out ()).mono ?_
                    rintro e w3 ⟨rfl, hb3⟩
                    go_wp2
                    go_loopg [12] 5 (fun g s12 wx => Hid (Below wr.heap.size wr wx) ∧ ∃ j : Nat, s12 = .int .i32 (it ((R2 : Nat) : Int) j) ∧ j ≤ nn ∧ nn < j + g)
                    case atStart => exact ⟨(hb1.trans (hb2.mono hb1.size)).trans (hb3.mono (hb1.trans (hb2.mono hb1.size)).size), 1, rfl, nn1, by omega⟩
                    case round =>
                      obtain ⟨HBi, j, rfl, hj1, hj2⟩ := hrel
                      by_cases hv : it ((R2 : Nat) : Int) j = ((R2 : Nat) : Int)
                      · rw [hv]
                        go_wp2
                        all_goals
                          first
                            | (go_roundg g'
                               case measure => omega
                               case rel => exact ⟨HB.out.trans ((HBi.out).mono HB.out.size), s.extract K1 s.size, t.extract K2 t.size, x + K1, y, m - K1, 0, (by rw [HTS.out.1]; try (congr 1; omega)), (by rw [HTS.out.2]; try (congr 1; omega)), by have := HTS.out.1; omega, by have := HTS.out.2; omega, by have := HTS.out.1; omega, by have := HTS.out.2; omega, by have := HTS.out.1; omega, (BytesAt.below HS.out (HBi.out)).tail K1, empty_at HTS.out.2 (by omega)⟩)
                            | ((try rw [Exit.noGoto_ret]); go_ret; exact ⟨_, rfl, HB.out.trans ((HBi.out).mono HB.out.size)⟩)
                      · have hjn : j ≠ nn := fun h => hv (h ▸ HBk.out)
                        have HS3 : Hid _ := fun (_ : Unit) => simple_at (HT.out) (HB.out.trans (HBi.out.mono HB.out.size)) (it ((R2 : Nat) : Int) j)
                        have HN : Hid (it ((R2 : Nat) : Int) (j + 1) = sf (it ((R2 : Nat) : Int) j)) := rfl
                        generalize it ((R2 : Nat) : Int) j = v at *
                        have hvb : (v == ((R2 : Nat) : Int)) = false := beq_eq_false_iff_ne.2 hv
                        by_cases hlt : v < ((R1 : Nat) : Int)
                        · obtain ⟨g2, rfl⟩ : ∃ g2, gk = g2 + 1 := ⟨gk - 1, by omega⟩
                          go_wp2_with (go_at_call 22; refine (HS3.out ()).mono ?_; rintro e w4 ⟨rfl, hb4⟩)
                          go_roundg g2
                          case measure => omega
                          case rel => exact ⟨HBi.out.trans (hb4.mono HBi.out.size), j + 1, by rw [HN.out], by omega, by omega⟩
                        · go_wp2
                          all_goals
                            first
                              | (go_roundg g'
                                 case measure => omega
                                 case rel => exact ⟨HB.out.trans ((HBi.out).mono HB.out.size), s.extract K1 s.size, t.extract K2 t.size, x + K1, y, m - K1, 0, (by rw [HTS.out.1]; try (congr 1; omega)), (by rw [HTS.out.2]; try (congr 1; omega)), by have := HTS.out.1; omega, by have := HTS.out.2; omega, by have := HTS.out.1; omega, by have := HTS.out.2; omega, by have := HTS.out.1; omega, (BytesAt.below HS.out (HBi.out)).tail K1, empty_at HTS.out.2 (by omega)⟩)
                              | ((try rw [Exit.noGoto_ret]); go_ret; exact ⟨_, rfl, HB.out.trans ((HBi.out).mono HB.out.size)⟩)
              · skip
                rcases Nat.lt_trichotomy R1 R2 with hR | hR | hR
                · have d1 : ((R2 : Int) == (R1 : Int)) = false := beq_eq_false_iff_ne.2 (by omega)
                  have d2 : ¬ ((R2 : Int) < (R1 : Int)) := by omega
                  by_cases h128 : R2 < 128
                  · have d3 : (R2 : Int) < 128 := by omega
                    go_wp2_with (go_at_call 21; first | (refine (HD2.out _ hb1).mono ?_; rintro e w2 ⟨rfl, hb2⟩) | (refine (HD1.out ()).mono ?_; rintro e w1 ⟨rfl, hb1⟩))
                    all_goals
                      first
                        | (go_roundg g'
                           case measure => omega
                           case rel => exact ⟨HB.out.trans ((hb1.trans (hb2.mono hb1.size)).mono HB.out.size), s.extract K1 s.size, t.extract K2 t.size, x + K1, y + K2, m - K1, n - K2, (by rw [HTS.out.1]; try (congr 1; omega)), (by rw [HTS.out.2]; try (congr 1; omega)), by have := HTS.out.1; omega, by have := HTS.out.2; omega, by have := HTS.out.1; omega, by have := HTS.out.2; omega, by have := HTS.out.1; omega, (BytesAt.below HS.out (hb1.trans (hb2.mono hb1.size))).tail K1, (BytesAt.below HTt.out (hb1.trans (hb2.mono hb1.size))).tail K2⟩)
                        | ((try rw [Exit.noGoto_ret]); go_ret; exact ⟨_, rfl, HB.out.trans ((hb1.trans (hb2.mono hb1.size)).mono HB.out.size)⟩)
                  · have d3 : ¬ ((R2 : Int) < 128) := by omega
                    go_wp2_with (go_at_call 21; first | (refine (HD2.out _ hb1).mono ?_; rintro e w2 ⟨rfl, hb2⟩) | (refine (HD1.out ()).mono ?_; rintro e w1 ⟨rfl, hb1⟩))
                    obtain ⟨nn, nn1, nn4, hback⟩ := it_back ((R1 : Nat) : Int)
                    have HBk : Hid _ := hback
                    clear hback
                    have HS2 : Hid _ := fun (_ : Unit) => simple_at (HT.out) (HB.out.trans ((hb1.trans (hb2.mono hb1.size)).mono HB.out.size)) ((R1 : Nat) : Int)
                    refine (HS2.out ()).mono ?_
                    rintro e w3 ⟨rfl, hb3⟩
                    go_wp2
                    go_loopg [12] 5 (fun g s12 wx => Hid (Below wr.heap.size wr wx) ∧ ∃ j : Nat, s12 = .int .i32 (it ((R1 : Nat) : Int) j) ∧ j ≤ nn ∧ nn < j + g)
                    case atStart => exact ⟨(hb1.trans (hb2.mono hb1.size)).trans (hb3.mono (hb1.trans (hb2.mono hb1.size)).size), 1, rfl, nn1, by omega⟩
                    case round =>
                      obtain ⟨HBi, j, rfl, hj1, hj2⟩ := hrel
                      by_cases hv : it ((R1 : Nat) : Int) j = ((R1 : Nat) : Int)
                      · rw [hv]
                        go_wp2
                        all_goals
                          first
                            | (go_roundg g'
                               case measure => omega
                               case rel => exact ⟨HB.out.trans ((HBi.out).mono HB.out.size), s.extract K1 s.size, t.extract K2 t.size, x + K1, y + K2, m - K1, n - K2, (by rw [HTS.out.1]; try (congr 1; omega)), (by rw [HTS.out.2]; try (congr 1; omega)), by have := HTS.out.1; omega, by have := HTS.out.2; omega, by have := HTS.out.1; omega, by have := HTS.out.2; omega, by have := HTS.out.1; omega, (BytesAt.below HS.out (HBi.out)).tail K1, (BytesAt.below HTt.out (HBi.out)).tail K2⟩)
                            | ((try rw [Exit.noGoto_ret]); go_ret; exact ⟨_, rfl, HB.out.trans ((HBi.out).mono HB.out.size)⟩)
                      · have hjn : j ≠ nn := fun h => hv (h ▸ HBk.out)
                        have HS3 : Hid _ := fun (_ : Unit) => simple_at (HT.out) (HB.out.trans (HBi.out.mono HB.out.size)) (it ((R1 : Nat) : Int) j)
                        have HN : Hid (it ((R1 : Nat) : Int) (j + 1) = sf (it ((R1 : Nat) : Int) j)) := rfl
                        generalize it ((R1 : Nat) : Int) j = v at *
                        have hvb : (v == ((R1 : Nat) : Int)) = false := beq_eq_false_iff_ne.2 hv
                        by_cases hlt : v < ((R2 : Nat) : Int)
                        · obtain ⟨g2, rfl⟩ : ∃ g2, gk = g2 + 1 := ⟨gk - 1, by omega⟩
                          go_wp2_with (go_at_call 22; refine (HS3.out ()).mono ?_; rintro e w4 ⟨rfl, hb4⟩)
                          go_roundg g2
                          case measure => omega
                          case rel => exact ⟨HBi.out.trans (hb4.mono HBi.out.size), j + 1, by rw [HN.out], by omega, by omega⟩
                        · go_wp2
                          all_goals
                            first
                              | (go_roundg g'
                                 case measure => omega
                                 case rel => exact ⟨HB.out.trans ((HBi.out).mono HB.out.size), s.extract K1 s.size, t.extract K2 t.size, x + K1, y + K2, m - K1, n - K2, (by rw [HTS.out.1]; try (congr 1; omega)), (by rw [HTS.out.2]; try (congr 1; omega)), by have := HTS.out.1; omega, by have := HTS.out.2; omega, by have := HTS.out.1; omega, by have := HTS.out.2; omega, by have := HTS.out.1; omega, (BytesAt.below HS.out (HBi.out)).tail K1, (BytesAt.below HTt.out (HBi.out)).tail K2⟩)
                              | ((try rw [Exit.noGoto_ret]); go_ret; exact ⟨_, rfl, HB.out.trans ((HBi.out).mono HB.out.size)⟩)
                · subst hR
                  go_wp2_with (go_at_call 21; first | (refine (HD2.out _ hb1).mono ?_; rintro e w2 ⟨rfl, hb2⟩) | (refine (HD1.out ()).mono ?_; rintro e w1 ⟨rfl, hb1⟩))
                  all_goals
                    first
                      | (go_roundg g'
                         case measure => omega
                         case rel => exact ⟨HB.out.trans ((hb1.trans (hb2.mono hb1.size)).mono HB.out.size), s.extract K1 s.size, t.extract K2 t.size, x + K1, y + K2, m - K1, n - K2, (by rw [HTS.out.1]; try (congr 1; omega)), (by rw [HTS.out.2]; try (congr 1; omega)), by have := HTS.out.1; omega, by have := HTS.out.2; omega, by have := HTS.out.1; omega, by have := HTS.out.2; omega, by have := HTS.out.1; omega, (BytesAt.below HS.out (hb1.trans (hb2.mono hb1.size))).tail K1, (BytesAt.below HTt.out (hb1.trans (hb2.mono hb1.size))).tail K2⟩)
                      | ((try rw [Exit.noGoto_ret]); go_ret; exact ⟨_, rfl, HB.out.trans ((hb1.trans (hb2.mono hb1.size)).mono HB.out.size)⟩)
                · have d1 : ((R2 : Int) == (R1 : Int)) = false := beq_eq_false_iff_ne.2 (by omega)
                  have d2 : (R2 : Int) < (R1 : Int) := by omega
                  by_cases h128 : R1 < 128
                  · have d3 : (R1 : Int) < 128 := by omega
                    go_wp2_with (go_at_call 21; first | (refine (HD2.out _ hb1).mono ?_; rintro e w2 ⟨rfl, hb2⟩) | (refine (HD1.out ()).mono ?_; rintro e w1 ⟨rfl, hb1⟩))
                    all_goals
                      first
                        | (go_roundg g'
                           case measure => omega
                           case rel => exact ⟨HB.out.trans ((hb1.trans (hb2.mono hb1.size)).mono HB.out.size), s.extract K1 s.size, t.extract K2 t.size, x + K1, y + K2, m - K1, n - K2, (by rw [HTS.out.1]; try (congr 1; omega)), (by rw [HTS.out.2]; try (congr 1; omega)), by have := HTS.out.1; omega, by have := HTS.out.2; omega, by have := HTS.out.1; omega, by have := HTS.out.2; omega, by have := HTS.out.1; omega, (BytesAt.below HS.out (hb1.trans (hb2.mono hb1.size))).tail K1, (BytesAt.below HTt.out (hb1.trans (hb2.mono hb1.size))).tail K2⟩)
                        | ((try rw [Exit.noGoto_ret]); go_ret; exact ⟨_, rfl, HB.out.trans ((hb1.trans (hb2.mono hb1.size)).mono HB.out.size)⟩)
                  · have d3 : ¬ ((R1 : Int) < 128) := by omega
                    go_wp2_with (go_at_call 21; first | (refine (HD2.out _ hb1).mono ?_; rintro e w2 ⟨rfl, hb2⟩) | (refine (HD1.out ()).mono ?_; rintro e w1 ⟨rfl, hb1⟩))
                    obtain ⟨nn, nn1, nn4, hback⟩ := it_back ((R2 : Nat) : Int)
                    have HBk : Hid _ := hback
                    clear hback
                    have HS2 : Hid _ := fun (_ : Unit) => simple_at (HT.out) (HB.out.trans ((hb1.trans (hb2.mono hb1.size)).mono HB.out.size)) ((R2 : Nat) : Int)
                    refine (HS2.out ()).mono ?_
                    rintro e w3 ⟨rfl, hb3⟩
                    go_wp2
                    go_loopg [12] 5 (fun g s12 wx => Hid (Below wr.heap.size wr wx) ∧ ∃ j : Nat, s12 = .int .i32 (it ((R2 : Nat) : Int) j) ∧ j ≤ nn ∧ nn < j + g)
                    case atStart => exact ⟨(hb1.trans (hb2.mono hb1.size)).trans (hb3.mono (hb1.trans (hb2.mono hb1.size)).size), 1, rfl, nn1, by omega⟩
                    case round =>
                      obtain ⟨HBi, j, rfl, hj1, hj2⟩ := hrel
                      by_cases hv : it ((R2 : Nat) : Int) j = ((R2 : Nat) : Int)
                      · rw [hv]
                        go_wp2
                        all_goals
                          first
                            | (go_roundg g'
                               case measure => omega
                               case rel => exact ⟨HB.out.trans ((HBi.out).mono HB.out.size), s.extract K1 s.size, t.extract K2 t.size, x + K1, y + K2, m - K1, n - K2, (by rw [HTS.out.1]; try (congr 1; omega)), (by rw [HTS.out.2]; try (congr 1; omega)), by have := HTS.out.1; omega, by have := HTS.out.2; omega, by have := HTS.out.1; omega, by have := HTS.out.2; omega, by have := HTS.out.1; omega, (BytesAt.below HS.out (HBi.out)).tail K1, (BytesAt.below HTt.out (HBi.out)).tail K2⟩)
                            | ((try rw [Exit.noGoto_ret]); go_ret; exact ⟨_, rfl, HB.out.trans ((HBi.out).mono HB.out.size)⟩)
                      · have hjn : j ≠ nn := fun h => hv (h ▸ HBk.out)
                        have HS3 : Hid _ := fun (_ : Unit) => simple_at (HT.out) (HB.out.trans (HBi.out.mono HB.out.size)) (it ((R2 : Nat) : Int) j)
                        have HN : Hid (it ((R2 : Nat) : Int) (j + 1) = sf (it ((R2 : Nat) : Int) j)) := rfl
                        generalize it ((R2 : Nat) : Int) j = v at *
                        have hvb : (v == ((R2 : Nat) : Int)) = false := beq_eq_false_iff_ne.2 hv
                        by_cases hlt : v < ((R1 : Nat) : Int)
                        · obtain ⟨g2, rfl⟩ : ∃ g2, gk = g2 + 1 := ⟨gk - 1, by omega⟩
                          go_wp2_with (go_at_call 22; refine (HS3.out ()).mono ?_; rintro e w4 ⟨rfl, hb4⟩)
                          go_roundg g2
                          case measure => omega
                          case rel => exact ⟨HBi.out.trans (hb4.mono HBi.out.size), j + 1, by rw [HN.out], by omega, by omega⟩
                        · go_wp2
                          all_goals
                            first
                              | (go_roundg g'
                                 case measure => omega
                                 case rel => exact ⟨HB.out.trans ((HBi.out).mono HB.out.size), s.extract K1 s.size, t.extract K2 t.size, x + K1, y + K2, m - K1, n - K2, (by rw [HTS.out.1]; try (congr 1; omega)), (by rw [HTS.out.2]; try (congr 1; omega)), by have := HTS.out.1; omega, by have := HTS.out.2; omega, by have := HTS.out.1; omega, by have := HTS.out.2; omega, by have := HTS.out.1; omega, (BytesAt.below HS.out (HBi.out)).tail K1, (BytesAt.below HTt.out (HBi.out)).tail K2⟩)
                              | ((try rw [Exit.noGoto_ret]); go_ret; exact ⟨_, rfl, HB.out.trans ((HBi.out).mono HB.out.size)⟩)
          · by_cases hz1 : s.size = 0
            · have z1 : ((s.size : Int) == 0) = true := beq_iff_eq.2 (by omega)
              go_wp2
              all_goals ((try rw [Exit.noGoto_ret]); go_ret; exact ⟨_, rfl, HB.out⟩)
            · have hz2 : t.size = 0 := by omega
              have z1 : ((s.size : Int) == 0) = false := beq_eq_false_iff_ne.2 (by omega)
              have z2 : ((t.size : Int) == 0) = true := beq_iff_eq.2 (by omega)
              go_wp2
              all_goals ((try rw [Exit.noGoto_ret]); go_ret; exact ⟨_, rfl, HB.out⟩)
      · have hor2 : bits BinOp.or IntKind.u8 x y < 128 := by omega
        go_wp2
        all_goals first
          | (go_roundw
             case rel => exact ⟨k + 1, by omega, by go_num, HB.out⟩
             case measure => simp [intOf]; omega)
          | (go_ret; exact ⟨_, rfl, HB.out⟩)
    · have hkz : ¬ ((k : Int) < (M : Int)) := by omega
      go_wp2
      first | rw [Exit.jump_ret] | skip
      go_ret
      exact ⟨_, rfl, HB.out⟩

/-- bytes.EqualFold at whatever bytes. -/
theorem equal_any (p q : ByteArray) (a a' : Option Addr) (c c' : Nat) (w : World) (hT : Tabs w) (hp : Rb w a p) (hq : Rb w a' q) (sp : p.size ≤ 1048576) (sq : q.size ≤ 1048576) (hc : p.size ≤ c) (hc' : q.size ≤ c') :
    Calls Tryd.prog 19 #[.slice a p.size c, .slice a' q.size c'] w fun e w' => IsBool w e w' := by
  by_cases h0 : p.size = 0 ∨ q.size = 0
  · exact (fold19z p q a a' c c' w sp sq h0).mono fun e w' h => ⟨_, h.1, h.2⟩
  · exact equal19 p q a a' c c' w hT hp hq sp sq hc hc' (by omega) (by omega)
end Go.Proofs.Qxb6602824aDoor
