/-
  zzb1LikeMatch: the full matcher, walked.
-/
import Derived.Test.Qxb6602631aDoorMatchParts
import Derived.BigRegion
namespace Go.Proofs.Qxb6602631aDoor
open Go.RowKit Go.PlainAid

theorem toks_start {w w1 w2 : World} {n : Nat} (h1 : w1.ownsRow w.heap.size 5 1 (.slice (some ⟨w.heap.size, 0, none⟩) 0 n) 0 []) (g1 : w.grownBy w1 none)
    (h2 : w2.ownsRow w.heap.size 5 1 (.slice (some ⟨w1.heap.size, 0, none⟩) 0 n) 0 []) (g2 : w1.grownBy w2 none) : Toks w w2 w.heap.size w1.heap.size n [] := by
  have hlt := (h1.lt w.heap.size rfl).2
  refine ⟨h1.kept g2 (.inr (by simp [Value.ownBlock])), h2, by omega, ?_⟩
  exact ((Below.refl _ w).grown g1 (Nat.le_refl _) (fun k hk => by cases hk)).grown g2 (by omega) (fun k hk => by cases hk)

theorem four_start {w wr w1 w2 : World} {gk gl cap : Nat} {ts : List (UInt8 × UInt8)} (T : Toks w wr gk gl cap ts)
    (h1 : w1.ownsRow w.heap.size 4 1 (.slice (some ⟨wr.heap.size, 0, none⟩) (ts.length + 1) (ts.length + 1)) (ts.length + 1) (madeCells #[Value.bool false] ((ts.length + 1) * 1)).toList) (g1 : wr.grownBy w1 none)
    (h2 : w2.ownsRow w.heap.size 4 1 (.slice (some ⟨w1.heap.size, 0, none⟩) (ts.length + 1) (ts.length + 1)) (ts.length + 1) (madeCells #[Value.bool false] ((ts.length + 1) * 1)).toList) (g2 : w1.grownBy w2 none) :
    Four w w2 gk gl wr.heap.size w1.heap.size cap ts.length ts (fun _ => false) (fun _ => false) := by
  rw [rowC_made] at h1 h2
  have hlt := (h1.lt wr.heap.size rfl).2
  have a := T.k_lt
  have b := T.l_lt
  have hb := T.bel.size
  refine ⟨⟨(T.hk.kept g1 (.inr (by simp [Value.ownBlock]))).kept g2 (.inr (by simp [Value.ownBlock])), (T.hl.kept g1 (.inr (by simp [Value.ownBlock]))).kept g2 (.inr (by simp [Value.ownBlock])), T.ne, ?_⟩,
    h1.kept g2 (.inr (by simp [Value.ownBlock])), h2, by omega, by omega, by omega, by omega, by omega⟩
  exact (T.bel.grown g1 hb (fun k hk => by cases hk)).grown g2 (by omega) (fun k hk => by cases hk)

theorem upd_start (kd : Nat → Int) : ∀ i, i < 1 → upd (fun _ => false) 0 true i = row0 kd i := fun i hi => by
  have : i = 0 := by omega
  subst this; rfl

theorem row0_step {kd : Nat → Int} {f : Nat → Bool} {n : Nat} {b : Bool} (hn : 1 ≤ n) (H : ∀ i, i < n → f i = row0 kd i) (hb : b = (f (n - 1) && (kd (n - 1) == 37))) : ∀ i, i < n + 1 → upd f n b i = row0 kd i := fun i hi => by
  by_cases e : i = n
  · subst e
    rw [upd_at, hb, H _ (by omega)]
    obtain ⟨m, rfl⟩ : ∃ m, i = m + 1 := ⟨i - 1, by omega⟩
    rfl
  · rw [upd_ne _ _ _ _ e]; exact H i (by omega)
theorem rowS_start (kd lt : Nat → Int) (x : Int) (pv g : Nat → Bool) : ∀ i, i < 1 → upd g 0 false i = rowS kd lt x pv i := fun i hi => by
  have : i = 0 := by omega
  subst this; rfl
theorem rowS_step {kd lt : Nat → Int} {x : Int} {pv f g : Nat → Bool} {n t : Nat} {b : Bool} (hn : 1 ≤ n) (hnt : n ≤ t) (HP : ∀ i, i ≤ t → f i = pv i) (H : ∀ i, i < n → g i = rowS kd lt x pv i)
    (hb : b = if kd (n - 1) == 37 then g (n - 1) || f n else f (n - 1) && (kd (n - 1) == 95 || lt (n - 1) == x)) : ∀ i, i < n + 1 → upd g n b i = rowS kd lt x pv i := fun i hi => by
  by_cases e : i = n
  · subst e
    rw [upd_at, hb, H _ (by omega), HP i hnt, HP (i - 1) (by omega)]
    obtain ⟨m, rfl⟩ : ∃ m, i = m + 1 := ⟨i - 1, by omega⟩
    rfl
  · rw [upd_ne _ _ _ _ e]; exact H i (by omega)

theorem bt_byL (s : ByteArray) : bt s = byL s.data.toList := by
  funext i
  unfold bt byL
  split
  · rename_i h
    rw [List.getD_eq_getElem?_getD, at_bt s i h]; rfl
  · rename_i h
    rw [List.getD_eq_getElem?_getD, List.getElem?_eq_none (by rw [← Lib.size_eq]; omega)]; rfl
theorem match_end {s p : ByteArray} {ts : List (UInt8 × UInt8)} {a : Nat} {f : Nat → Bool} (ht : tokL p.data.toList = some ts) (ha : a = s.size) (H : ∀ i, i ≤ ts.length → f i = rows (kdL ts) (ltL ts) (bt s) a i) : f ts.length = matchL s.data.toList p.data.toList := by
  unfold matchL
  rw [ht, H _ (Nat.le_refl _), bt_byL, ha, Lib.size_eq]

set_option maxRecDepth 100000 in
set_option maxHeartbeats 2000000 in
theorem match19 (s p : ByteArray) (w : World) (hs : s.size ≤ 4096) (hp : p.size ≤ 4096) :
    Calls Tryd.prog 19 #[.string s, .string p] w fun e w' => e = .returned (.bool (matchL s.data.toList p.data.toList)) ∧ Below w.heap.size w w' := by
  have hb := get_bt p
  have hbs := get_bt s
  obtain ⟨i0, hi, hz0, hz1, hz2⟩ := info_parts Tryd.info5
  obtain ⟨i4, hi4, hy0, hy1, hy2⟩ := info_parts Tryd.info4
  go_enter Tryd.func19, Tryd.ntmps19
  go_wp2_with (first
    | (at_make; refine wpList_make_own _ rfl (.const (.int .i64 0)) (.tmp 17) 37 rfl w.heap.size 5 i0 (.int .u8 0) 1 Tryd.underlying37 hi hz0 hz1 .i64 .i64 _ p.size rfl rfl rfl (by rw [hz2]; omega) (by unfold maxLen; omega) (Nat.le_refl _) ?_; intro w1 how1 hg1)
    | (at_make; refine wpList_make_own _ rfl (.const (.int .i64 0)) (.tmp 20) 37 rfl w.heap.size 5 i0 (.int .u8 0) 1 Tryd.underlying37 hi hz0 hz1 .i64 .i64 _ p.size rfl rfl rfl (by rw [hz2]; omega) (by unfold maxLen; omega) hg1.size ?_; intro w2 how2 hg2))
  have T0 := toks_start how1 hg1 how2 hg2
  generalize hgl : w1.heap.size = gl at T0 ⊢
  generalize hgk : (⟨w.heap.size, 0, none⟩ : Addr) = ak
  clear how1 hg1 how2 hg2 hgl
  subst hgk
  go_loopw [5, 6, 7] (fun vk vl i wr => ∃ (k : Nat) (ts : List (UInt8 × UInt8)), k ≤ p.size ∧ i = .int .i64 k ∧ vk = .slice (some ⟨w.heap.size, 0, none⟩) ts.length p.size ∧ vl = .slice (some ⟨gl, 0, none⟩) ts.length p.size ∧ Toks w wr w.heap.size gl p.size ts ∧ Hid (TokInv p.data.toList k ts)) (fun _ _ i _ => p.size - (intOf i).toNat)
  case atStart => exact ⟨0, [], Nat.zero_le _, rfl, rfl, rfl, T0, ti_start _⟩
  case round =>
    clear T0
    obtain ⟨k, ts, hk, rfl, rfl, rfl, T, H⟩ := hrel
    have htk := H.out.2
    by_cases hlt : k < p.size
    · by_cases h92 : (bt p k == 92) = true
      · by_cases hend : k + 1 = p.size
        · have he : ((k : Int) + 1 == (p.size : Int)) = true := by rw [beq_iff_eq]; omega
          have HB : Hid _ := ti_bad p k ts H.out hend h92
          have HE : Hid _ := hend
          clear hend
          go_wp2
          go_ret
          exact ⟨ret_bool (by unfold matchL; rw [HB.out]), T.bel⟩
        have he : ((k : Int) + 1 == (p.size : Int)) = false := by rw [Bool.eq_false_iff]; simp; omega
        have hk1 : (k : Int) + 1 < (p.size : Int) := by omega
        go_wp2_with (first
          | (at_builtin; refine wpList_append_fits _ rfl (.tmp 36) (.tmp 37) 37 rfl w.heap.size 5 i0 1 Tryd.underlying37 hi hz1 _ _ _ _ rfl (T.hk.alloc _) ⟨wr.heap.size, 0, none⟩ 1 1 [.int .u8 76] rfl rfl (cell_one_new _ _ _) (by intro u hu; simp at hu; subst hu; rfl) (by omega) ?_; intro w1 ho1 hg1)
          | (at_builtin; refine wpList_append_fits _ rfl (.tmp 39) (.tmp 44) 37 rfl w.heap.size 5 i0 1 Tryd.underlying37 hi hz1 _ _ _ _ rfl ((T.l_mid hg1).alloc _) ⟨w1.heap.size, 0, none⟩ 1 1 [.int .u8 (bt p (k + 1))] rfl rfl (cell_one_new _ _ _) (by intro u hu; simp at hu; subst hu; rfl) (by omega) ?_; intro w2 ho2 hg2))
        have R := T.push (a := 76) (b := p[k + 1]) (by rfl) (bt_get p (k + 1) (by omega)) ho1 hg1 ho2 hg2
        clear ho1 hg1 ho2 hg2 T
        go_wp2
        go_roundw
        case rel => exact ⟨k + 2, ts ++ [(76, p[k + 1])], by omega, by go_num, by simp, by simp, R, ti_esc p k ts H.out (by omega) h92⟩
        case measure => simp [intOf]; omega
      rw [Bool.not_eq_true] at h92
      by_cases h37 : (bt p k == 37) = true
      · have hq := (bt_eq p k hlt 37).1 h37
        have HQ : Hid _ := hq
        clear hq
        go_wp2_with (first
          | (at_builtin; refine wpList_append_fits _ rfl (.tmp 54) (.tmp 56) 37 rfl w.heap.size 5 i0 1 Tryd.underlying37 hi hz1 _ _ _ _ rfl (T.hk.alloc _) ⟨wr.heap.size, 0, none⟩ 1 1 [.int .u8 (bt p k)] rfl rfl (cell_one_new _ _ _) (by intro u hu; simp at hu; subst hu; rfl) (by omega) ?_; intro w1 ho1 hg1)
          | (at_builtin; refine wpList_append_fits _ rfl (.tmp 61) (.tmp 63) 37 rfl w.heap.size 5 i0 1 Tryd.underlying37 hi hz1 _ _ _ _ rfl ((T.l_mid hg1).alloc _) ⟨w1.heap.size, 0, none⟩ 1 1 [.int .u8 (bt p k)] rfl rfl (cell_one_new _ _ _) (by intro u hu; simp at hu; subst hu; rfl) (by omega) ?_; intro w2 ho2 hg2))
        have R := T.push (a := p[k]) (b := p[k]) (bt_get p k hlt) (bt_get p k hlt) ho1 hg1 ho2 hg2
        clear ho1 hg1 ho2 hg2 T
        go_wp2
        go_roundw
        case rel => exact ⟨k + 1, ts ++ [(p[k], p[k])], by omega, by go_num, by simp, by simp, R, ti_wild p k ts H.out hlt (.inl h37)⟩
        case measure => simp [intOf]; omega
      rw [Bool.not_eq_true] at h37
      by_cases h95 : (bt p k == 95) = true
      · skip
        go_wp2_with (first
          | (at_builtin; refine wpList_append_fits _ rfl (.tmp 54) (.tmp 56) 37 rfl w.heap.size 5 i0 1 Tryd.underlying37 hi hz1 _ _ _ _ rfl (T.hk.alloc _) ⟨wr.heap.size, 0, none⟩ 1 1 [.int .u8 (bt p k)] rfl rfl (cell_one_new _ _ _) (by intro u hu; simp at hu; subst hu; rfl) (by omega) ?_; intro w1 ho1 hg1)
          | (at_builtin; refine wpList_append_fits _ rfl (.tmp 61) (.tmp 63) 37 rfl w.heap.size 5 i0 1 Tryd.underlying37 hi hz1 _ _ _ _ rfl ((T.l_mid hg1).alloc _) ⟨w1.heap.size, 0, none⟩ 1 1 [.int .u8 (bt p k)] rfl rfl (cell_one_new _ _ _) (by intro u hu; simp at hu; subst hu; rfl) (by omega) ?_; intro w2 ho2 hg2))
        have R := T.push (a := p[k]) (b := p[k]) (bt_get p k hlt) (bt_get p k hlt) ho1 hg1 ho2 hg2
        clear ho1 hg1 ho2 hg2 T
        go_wp2
        go_roundw
        case rel => exact ⟨k + 1, ts ++ [(p[k], p[k])], by omega, by go_num, by simp, by simp, R, ti_wild p k ts H.out hlt (.inr h95)⟩
        case measure => simp [intOf]; omega
      · rw [Bool.not_eq_true] at h95
        go_wp2_with (first
          | (at_builtin; refine wpList_append_fits _ rfl (.tmp 58) (.tmp 59) 37 rfl w.heap.size 5 i0 1 Tryd.underlying37 hi hz1 _ _ _ _ rfl (T.hk.alloc _) ⟨wr.heap.size, 0, none⟩ 1 1 [.int .u8 76] rfl rfl (cell_one_new _ _ _) (by intro u hu; simp at hu; subst hu; rfl) (by omega) ?_; intro w1 ho1 hg1)
          | (at_builtin; refine wpList_append_fits _ rfl (.tmp 61) (.tmp 63) 37 rfl w.heap.size 5 i0 1 Tryd.underlying37 hi hz1 _ _ _ _ rfl ((T.l_mid hg1).alloc _) ⟨w1.heap.size, 0, none⟩ 1 1 [.int .u8 (bt p k)] rfl rfl (cell_one_new _ _ _) (by intro u hu; simp at hu; subst hu; rfl) (by omega) ?_; intro w2 ho2 hg2))
        have R := T.push (a := 76) (b := p[k]) (rfl) (bt_get p k hlt) ho1 hg1 ho2 hg2
        clear ho1 hg1 ho2 hg2 T
        go_wp2
        go_roundw
        case rel => exact ⟨k + 1, ts ++ [(76, p[k])], by omega, by go_num, by simp, by simp, R, ti_lit p k ts H.out hlt h37 h95 h92⟩
        case measure => simp [intOf]; omega
    · have HT : Hid _ := ti_end p k ts H.out hlt
      have hts : ts.length ≤ 4096 := by omega
      clear hb
      go_wp2_with (first
        | (at_make; refine wpList_make_full _ rfl (.tmp 70) (.tmp 70) 48 rfl w.heap.size 4 i4 (.bool false) 1 Tryd.underlying48 hi4 hy0 hy1 .i64 .i64 _ _ (ts.length + 1) rfl rfl (by simp) (by simp) (by rw [hy2]; omega) (by unfold maxLen; omega) T.bel.size ?_; intro w1 ho1 hg1)
        | (at_make; refine wpList_make_full _ rfl (.tmp 73) (.tmp 73) 48 rfl w.heap.size 4 i4 (.bool false) 1 Tryd.underlying48 hi4 hy0 hy1 .i64 .i64 _ _ (ts.length + 1) rfl rfl (by simp) (by simp) (by rw [hy2]; omega) (by unfold maxLen; omega) (Nat.le_trans T.bel.size hg1.size) ?_; intro w2 ho2 hg2; have F := four_start T ho1 hg1 ho2 hg2; have cp := F.cellP 0 (Nat.zero_le _); have fp := F.frozenP 0; clear ho1 hg1 ho2 hg2))
      have F1 := F.setP 0 true
      clear F cp fp T hk htk H hlt
      generalize wr.heap.size = gp at F1 ⊢
      generalize w1.heap.size = gc at F1 ⊢
      have F0 : Hid (∀ i, i < 1 → upd (fun _ => false) 0 true i = row0 (kdL ts) i) := upd_start (kdL ts)
      generalize upd (fun _ => false) 0 true = f0 at F1 F0
      generalize (fun _ => false : Nat → Bool) = g0 at F1
      have htp : ts.length ≤ 4096 := hts
      go_loopw [12] (fun j wz => ∃ (n : Nat) (f : Nat → Bool), 1 ≤ n ∧ n ≤ ts.length + 1 ∧ j = .int .i64 n ∧ Four w wz w.heap.size gl gp gc p.size ts.length ts f g0 ∧ Hid (∀ i, i < n → f i = row0 (kdL ts) i)) (fun j _ => ts.length + 1 - (intOf j).toNat)
      case atStart => exact ⟨1, f0, Nat.le_refl _, by omega, rfl, F1, F0⟩
      case round =>
        clear F1 F0
        obtain ⟨n, f, hn1, hnt, rfl, F, H⟩ := hrel
        by_cases hle : n ≤ ts.length
        · have cp := F.cellP (n - 1) (by omega)
          have cq := F.cellP n hle
          have fq := F.frozenP n
          have ck := F.cellK (n - 1) (by omega)
          cases hf : f (n - 1)
          · rw [hf] at cp
            have HF : Hid _ := hf
            clear hf
            go_wp2
            go_roundw
            case rel => exact ⟨n + 1, upd f n false, by omega, by omega, by go_num, F.setP n false, row0_step hn1 H.out (by rw [HF.out]; rfl)⟩
            case measure => simp [intOf]; omega
          · rw [hf] at cp
            have HF : Hid _ := hf
            clear hf
            go_wp2
            go_roundw
            case rel => exact ⟨n + 1, upd f n (kdL ts (n - 1) == 37), by omega, by omega, by go_num, F.setP n _, row0_step hn1 H.out (by rw [HF.out]; rfl)⟩
            case measure => simp [intOf]; omega
        · have HR : Hid (∀ i, i ≤ ts.length → f i = rows (kdL ts) (ltL ts) (bt s) 0 i) := fun i hi => H.out i (by omega)
          clear H
          go_wp2
          clear hle hn1 hnt
          go_loopw [10, 11, 13] (fun vp vc i wz => ∃ (a gp gc : Nat) (f g : Nat → Bool), a ≤ s.size ∧ i = .int .i64 a ∧ vp = .slice (some ⟨gp, 0, none⟩) (ts.length + 1) (ts.length + 1) ∧ vc = .slice (some ⟨gc, 0, none⟩) (ts.length + 1) (ts.length + 1) ∧ Four w wz w.heap.size gl gp gc p.size ts.length ts f g ∧ Hid (∀ i, i ≤ ts.length → f i = rows (kdL ts) (ltL ts) (bt s) a i)) (fun _ _ i _ => s.size - (intOf i).toNat)
          case atStart => exact ⟨0, gp, gc, f, g0, Nat.zero_le _, rfl, rfl, rfl, F, HR⟩
          case round =>
            clear F HR
            obtain ⟨a, gp, gc, f, g, ha, rfl, rfl, rfl, F, H⟩ := hrel
            by_cases hlt : a < s.size
            · have cc := F.cellC 0 (Nat.zero_le _)
              have fc := F.frozenC 0
              go_wp2
              have F1 := F.setC 0 false
              have HS : Hid (∀ i, i < 1 → upd g 0 false i = rowS (kdL ts) (ltL ts) (bt s a) (rows (kdL ts) (ltL ts) (bt s) a) i) := rowS_start _ _ _ _ _
              clear F cc fc
              go_loopw [14] (fun j wz => ∃ (n : Nat) (g : Nat → Bool), 1 ≤ n ∧ n ≤ ts.length + 1 ∧ j = .int .i64 n ∧ Four w wz w.heap.size gl gp gc p.size ts.length ts f g ∧ Hid (∀ i, i < n → g i = rowS (kdL ts) (ltL ts) (bt s a) (rows (kdL ts) (ltL ts) (bt s) a) i)) (fun j _ => ts.length + 1 - (intOf j).toNat)
              case atStart => exact ⟨1, _, Nat.le_refl _, by omega, rfl, F1, HS⟩
              case round =>
                clear F1 HS
                obtain ⟨n, g, hn1, hnt, rfl, F, HG⟩ := hrel
                by_cases hle : n ≤ ts.length
                · have cp1 := F.cellP (n - 1) (by omega)
                  have cp2 := F.cellP n hle
                  have cg1 := F.cellC (n - 1) (by omega)
                  have cg2 := F.cellC n hle
                  have fg := F.frozenC n
                  have ck := F.cellK (n - 1) (by omega)
                  have cl := F.cellL (n - 1) (by omega)
                  by_cases h37 : (kdL ts (n - 1) == 37) = true
                  · cases hg : g (n - 1)
                    · rw [hg] at cg1
                      have HF : Hid _ := hg
                      clear hg
                      go_wp2
                      go_roundw
                      case rel => exact ⟨n + 1, upd g n (f n), by omega, by omega, by go_num, F.setC n _, rowS_step hn1 hle H.out HG.out (by rw [if_pos h37, HF.out]; rfl)⟩
                      case measure => simp [intOf]; omega
                    · rw [hg] at cg1
                      have HF : Hid _ := hg
                      clear hg
                      go_wp2
                      go_roundw
                      case rel => exact ⟨n + 1, upd g n true, by omega, by omega, by go_num, F.setC n _, rowS_step hn1 hle H.out HG.out (by rw [if_pos h37, HF.out]; rfl)⟩
                      case measure => simp [intOf]; omega
                  · rw [Bool.not_eq_true] at h37
                    have hai : (a : Int) < (s.size : Int) := by omega
                    have hni : (n : Int) ≤ (ts.length : Int) := by omega
                    cases hg : f (n - 1)
                    · rw [hg] at cp1
                      have HF : Hid _ := hg
                      clear hg
                      go_wp2
                      go_region
                      all_goals go_wp2
                      all_goals go_roundw
                      case rel => exact ⟨n + 1, upd g n false, by omega, by omega, by go_num, (F.setC n _).drew, rowS_step hn1 hle H.out HG.out (by rw [if_neg (by rw [h37]; decide), HF.out]; rfl)⟩
                      case measure => simp [intOf]; omega
                    · rw [hg] at cp1
                      have HF : Hid _ := hg
                      clear hg
                      by_cases h95 : (kdL ts (n - 1) == 95) = true
                      · go_wp2
                        go_region
                        all_goals go_wp2
                        all_goals go_roundw
                        case rel => exact ⟨n + 1, upd g n true, by omega, by omega, by go_num, (F.setC n _).drew, rowS_step hn1 hle H.out HG.out (by rw [if_neg (by rw [h37]; decide), HF.out]; rw [h95]; rfl)⟩
                        case measure => simp [intOf]; omega
                      · rw [Bool.not_eq_true] at h95
                        go_wp2
                        go_region
                        all_goals go_wp2
                        all_goals go_roundw
                        case rel => exact ⟨n + 1, upd g n (ltL ts (n - 1) == bt s a), by omega, by omega, by go_num, (F.setC n _).drew, rowS_step hn1 hle H.out HG.out (by rw [if_neg (by rw [h37]; decide), HF.out]; rw [h95]; rfl)⟩
                        case measure => simp [intOf]; omega
                · go_wp2
                  go_roundw
                  case rel => exact ⟨a + 1, gc, gp, g, f, by omega, by go_num, rfl, rfl, F.swap, fun i hi => HG.out i (by omega)⟩
                  case measure => simp [intOf]; omega
            · have cp := F.cellP ts.length (Nat.le_refl _)
              go_wp2
              go_ret
              exact ⟨ret_bool (match_end HT.out (by omega) H.out), F.tk.bel⟩
end Go.Proofs.Qxb6602631aDoor
