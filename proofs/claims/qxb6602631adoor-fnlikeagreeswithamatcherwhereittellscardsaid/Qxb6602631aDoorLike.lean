/-
  like, walked.
-/
import Derived.Test.Qxb6602631aDoorLikeParts
namespace Go.Proofs.Qxb6602631aDoor
open Go.RowKit Go.PlainAid
attribute [local go_sem] run_store_float field40

set_option maxRecDepth 100000 in
set_option maxHeartbeats 16000000 in
theorem like22 (n : Int) (s1 e1 s2 e2 : ByteArray) (c1 x1 y1 c2 x2 y2 : Bool) (w : World) (h2 : s2.size ≤ 4096) (h3 : (padT n s2).size ≤ 4096) (hx : exactB c1 x1 c2 x2 = true) :
    Calls Tryd.prog 22 #[dat 0 s1 e1 c1 x1 y1, dat n s2 e2 c2 x2 y2] w fun e w' => e = .returned (.tuple #[.bool (likeR s1.data.toList (padT n s2).data.toList (alikeB e1 e2)).1, .bool (likeR s1.data.toList (padT n s2).data.toList (alikeB e1 e2)).2]) ∧ Below w.heap.size w w' := by
  obtain ⟨i0, hi, hz0, hz1, hz2⟩ := info_parts Tryd.info5
  have hc := coll28 0 n s1 e1 s2 e2 c1 x1 y1 c2 x2 y2
  rw [hx] at hc
  have HC : Hid _ := hc
  have HU : Hid _ := fun W => unpad29 n s2 e2 c2 x2 y2 W (by omega)
  clear hc hx
  generalize padT n s2 = P at h3 HU ⊢
  go_enter Tryd.func22, Tryd.ntmps22
  go_wp2_with (first
    | (go_at_call 28; refine (HC.out _).mono ?_; rintro e w1 ⟨⟨a, b, rfl⟩, hb⟩; obtain ⟨hbc, hbf⟩ := bcell hb; have hz : w.heap.size + 1 < w1.heap.size := (by have := hb.size; simp at this; omega))
    | (go_at_call 29; refine (HU.out _).mono ?_; rintro e w2 ⟨rfl, hb2⟩; obtain ⟨hbc2, hbf2⟩ := bcell hb2; have hz2 : w.heap.size + 1 < w2.heap.size := (by have := hb2.size; omega)))
  change Code.wp _ _ _ _ (w2.setCells (w.heap.size + 1) 0 [.int .i64 0, .int .u32 n, .bool false, .int .i64 0, .int .i64 0, .float .f64 0, .int .i8 0, .bool false, .string ⟨#[]⟩, .int .i64 0, .string P, .string e2, .bool c2, .bool x2, .bool y2])
  have M := mid_facts (vs := [.int .i64 0, .int .u32 n, .bool false, .int .i64 0, .int .i64 0, .float .f64 0, .int .i8 0, .bool false, .string ⟨#[]⟩, .int .i64 0, .string P, .string e2, .bool c2, .bool x2, .bool y2]) hb hb2 rfl rfl
  generalize w2.setCells (w.heap.size + 1) 0 [.int .i64 0, .int .u32 n, .bool false, .int .i64 0, .int .i64 0, .float .f64 0, .int .i8 0, .bool false, .string ⟨#[]⟩, .int .i64 0, .string P, .string e2, .bool c2, .bool x2, .bool y2] = w3 at M ⊢
  clear hb hb2 HU HC hbc hbf hbc2 hbf2 hz hz2
  go_loopw [6, 7] (fun v q wr => ∃ (r : ByteArray) (l : List UInt8), q = .string r ∧ wr.ownsRow (w.heap.size + 2) 5 1 v l.length (cellsL l) ∧ Boxes w wr #[.int .i64 0, .int .u32 0, .bool false, .int .i64 0, .int .i64 0, .float .f64 0, .int .i8 0, .bool false, .string ⟨#[]⟩, .int .i64 0, .string s1, .string e1, .bool c1, .bool x1, .bool y1] e2 ∧ Hid (RInv P.data.toList r l)) (fun _ q _ => strLen q)
  case atStart => exact ⟨P, [], rfl, World.ownsRow_nil _ _ _ _, M, ri_start P⟩
  case round =>
    clear M
    obtain ⟨r, l, rfl, hown, M, H⟩ := hrel
    have hlk := H.out.2
    have hP := Lib.size_eq P
    have hwz := M.size
    have hlr : l.length + r.size ≤ 4096 := by omega
    clear hP hlk
    have hb := get_bt r
    by_cases h0 : 0 < r.size
    · have hf := r_full r h0
      have hr0 : (0 : Int) < (r.size : Int) := by omega
      by_cases h37 : (bt r 0 == 37) = true
      · have n37 : (bt r 0 != 37) = false := by simp [bne, h37]
        have HH : Hid _ := ri_stop H.out h0 (.inl h37)
        have hcv := conv_own hown
        have hcc := M.ha
        have hce := M.hp
        have hlt1 : w.heap.size < wr.heap.size := by omega
        have hlt2 : w.heap.size + 1 < wr.heap.size := by omega
        have HL := likeR_some (s := s1.data.toList) (k := alikeB e1 e2) HH.out
        have hE : r.data.toList.isEmpty = false := by rw [← Lib.toList_data]; exact r_full r h0
        rw [hE] at HL
        have HQ : Hid _ := HL
        clear HL hE
        have h30 := fun W => ascii30 ⟨l.toArray⟩ W (by show l.toArray.size ≤ _; simp; omega)
        have h31 := fun W => spelled31 0 0 s1 e1 ⟨l.toArray⟩ e2 c1 x1 y1 false false false W
        have h32 := fun W => Tryd.strings_HasPrefix s1 ⟨l.toArray⟩ W
        have h33 := fun W => Tryd.strings_Trim_one r 37 (by decide) W (by omega)
        have ht := trimB_pct r.data.toList
        generalize (Lib.trimB r.data.toList 37) = tb at h33 ht
        have H30 : Hid _ := h30
        have H31 : Hid _ := h31
        have H32 : Hid _ := h32
        have H33 : Hid _ := h33
        clear h30 h31 h32 h33 hown
        cases hA : asciiL l
        · rw [hA] at H30
          cases hK : alikeB e1 e2
          · rw [hK] at H31
            go_wp2_with (first
              | (go_at_call 30; refine (H30.out _).mono ?_; rintro e w' ⟨rfl, rfl⟩)
              | (go_at_call 31; refine (H31.out _).mono ?_; rintro e w5 ⟨rfl, hb5⟩; obtain ⟨hbc5, hbf5⟩ := bcell hb5; have hz5 : w.heap.size + 1 < w5.heap.size := (by have := hb5.size; simp at this; omega); have hz6 : wr.heap.size < w5.heap.size := (by have := hb5.size; simp at this; omega))
              | (go_at_call 32; refine (H32.out _).mono ?_; rintro e w' ⟨rfl, rfl⟩)
              | (go_at_call 33; refine (H33.out _).mono ?_; rintro e w7 ⟨rfl, hw7⟩))
            all_goals
              go_ret2
              refine ⟨ret2_pair ?_, ?_⟩
              · (rw [HQ.out]; simp_all [Lib.toList_data])
              · first
                | exact ((M.bel.alloc (by omega) _).trans (hb5.mono (by simp; omega)))
                | (rcases hw7 with rfl | rfl <;> first | exact ((M.bel.alloc (by omega) _).trans (hb5.mono (by simp; omega))) | exact ((M.bel.alloc (by omega) _).trans (hb5.mono (by simp; omega))).drew)
          · rw [hK] at H31
            go_wp2_with (first
              | (go_at_call 30; refine (H30.out _).mono ?_; rintro e w' ⟨rfl, rfl⟩)
              | (go_at_call 31; refine (H31.out _).mono ?_; rintro e w5 ⟨rfl, hb5⟩; obtain ⟨hbc5, hbf5⟩ := bcell hb5; have hz5 : w.heap.size + 1 < w5.heap.size := (by have := hb5.size; simp at this; omega); have hz6 : wr.heap.size < w5.heap.size := (by have := hb5.size; simp at this; omega))
              | (go_at_call 32; refine (H32.out _).mono ?_; rintro e w' ⟨rfl, rfl⟩)
              | (go_at_call 33; refine (H33.out _).mono ?_; rintro e w7 ⟨rfl, hw7⟩))
            all_goals
              go_ret2
              refine ⟨ret2_pair ?_, ?_⟩
              · (rw [HQ.out]; simp_all [Lib.toList_data])
              · first
                | exact ((M.bel.alloc (by omega) _).trans (hb5.mono (by simp; omega)))
                | (rcases hw7 with rfl | rfl <;> first | exact ((M.bel.alloc (by omega) _).trans (hb5.mono (by simp; omega))) | exact ((M.bel.alloc (by omega) _).trans (hb5.mono (by simp; omega))).drew)
        · rw [hA] at H30
          go_wp2_with (first
            | (go_at_call 30; refine (H30.out _).mono ?_; rintro e w' ⟨rfl, rfl⟩)
            | (go_at_call 31; refine (H31.out _).mono ?_; rintro e w5 ⟨rfl, hb5⟩; obtain ⟨hbc5, hbf5⟩ := bcell hb5; have hz5 : w.heap.size + 1 < w5.heap.size := (by have := hb5.size; simp at this; omega); have hz6 : wr.heap.size < w5.heap.size := (by have := hb5.size; simp at this; omega))
            | (go_at_call 32; refine (H32.out _).mono ?_; rintro e w' ⟨rfl, rfl⟩)
            | (go_at_call 33; refine (H33.out _).mono ?_; rintro e w7 ⟨rfl, hw7⟩))
          all_goals
            go_ret2
            refine ⟨ret2_pair ?_, ?_⟩
            · (rw [HQ.out]; simp_all [Lib.toList_data])
            · first
              | exact (M.bel.alloc (by omega) _)
              | (rcases hw7 with rfl | rfl <;> first | exact (M.bel.alloc (by omega) _) | exact (M.bel.alloc (by omega) _).drew)
      rw [Bool.not_eq_true] at h37
      have n37 : (bt r 0 != 37) = true := by simp [bne, h37]
      by_cases h95 : (bt r 0 == 95) = true
      · have n95 : (bt r 0 != 95) = false := by simp [bne, h95]
        have HH : Hid _ := ri_stop H.out h0 (.inr h95)
        have hcv := conv_own hown
        have hcc := M.ha
        have hce := M.hp
        have hlt1 : w.heap.size < wr.heap.size := by omega
        have hlt2 : w.heap.size + 1 < wr.heap.size := by omega
        have HL := likeR_some (s := s1.data.toList) (k := alikeB e1 e2) HH.out
        have hE : r.data.toList.isEmpty = false := by rw [← Lib.toList_data]; exact r_full r h0
        rw [hE] at HL
        have HQ : Hid _ := HL
        clear HL hE
        have h30 := fun W => ascii30 ⟨l.toArray⟩ W (by show l.toArray.size ≤ _; simp; omega)
        have h31 := fun W => spelled31 0 0 s1 e1 ⟨l.toArray⟩ e2 c1 x1 y1 false false false W
        have h32 := fun W => Tryd.strings_HasPrefix s1 ⟨l.toArray⟩ W
        have h33 := fun W => Tryd.strings_Trim_one r 37 (by decide) W (by omega)
        have ht := trimB_pct r.data.toList
        generalize (Lib.trimB r.data.toList 37) = tb at h33 ht
        have H30 : Hid _ := h30
        have H31 : Hid _ := h31
        have H32 : Hid _ := h32
        have H33 : Hid _ := h33
        clear h30 h31 h32 h33 hown
        cases hA : asciiL l
        · rw [hA] at H30
          cases hK : alikeB e1 e2
          · rw [hK] at H31
            go_wp2_with (first
              | (go_at_call 30; refine (H30.out _).mono ?_; rintro e w' ⟨rfl, rfl⟩)
              | (go_at_call 31; refine (H31.out _).mono ?_; rintro e w5 ⟨rfl, hb5⟩; obtain ⟨hbc5, hbf5⟩ := bcell hb5; have hz5 : w.heap.size + 1 < w5.heap.size := (by have := hb5.size; simp at this; omega); have hz6 : wr.heap.size < w5.heap.size := (by have := hb5.size; simp at this; omega))
              | (go_at_call 32; refine (H32.out _).mono ?_; rintro e w' ⟨rfl, rfl⟩)
              | (go_at_call 33; refine (H33.out _).mono ?_; rintro e w7 ⟨rfl, hw7⟩))
            all_goals
              go_ret2
              refine ⟨ret2_pair ?_, ?_⟩
              · (rw [HQ.out]; simp_all [Lib.toList_data])
              · first
                | exact ((M.bel.alloc (by omega) _).trans (hb5.mono (by simp; omega)))
                | (rcases hw7 with rfl | rfl <;> first | exact ((M.bel.alloc (by omega) _).trans (hb5.mono (by simp; omega))) | exact ((M.bel.alloc (by omega) _).trans (hb5.mono (by simp; omega))).drew)
          · rw [hK] at H31
            go_wp2_with (first
              | (go_at_call 30; refine (H30.out _).mono ?_; rintro e w' ⟨rfl, rfl⟩)
              | (go_at_call 31; refine (H31.out _).mono ?_; rintro e w5 ⟨rfl, hb5⟩; obtain ⟨hbc5, hbf5⟩ := bcell hb5; have hz5 : w.heap.size + 1 < w5.heap.size := (by have := hb5.size; simp at this; omega); have hz6 : wr.heap.size < w5.heap.size := (by have := hb5.size; simp at this; omega))
              | (go_at_call 32; refine (H32.out _).mono ?_; rintro e w' ⟨rfl, rfl⟩)
              | (go_at_call 33; refine (H33.out _).mono ?_; rintro e w7 ⟨rfl, hw7⟩))
            all_goals
              go_ret2
              refine ⟨ret2_pair ?_, ?_⟩
              · (rw [HQ.out]; simp_all [Lib.toList_data])
              · first
                | exact ((M.bel.alloc (by omega) _).trans (hb5.mono (by simp; omega)))
                | (rcases hw7 with rfl | rfl <;> first | exact ((M.bel.alloc (by omega) _).trans (hb5.mono (by simp; omega))) | exact ((M.bel.alloc (by omega) _).trans (hb5.mono (by simp; omega))).drew)
        · rw [hA] at H30
          go_wp2_with (first
            | (go_at_call 30; refine (H30.out _).mono ?_; rintro e w' ⟨rfl, rfl⟩)
            | (go_at_call 31; refine (H31.out _).mono ?_; rintro e w5 ⟨rfl, hb5⟩; obtain ⟨hbc5, hbf5⟩ := bcell hb5; have hz5 : w.heap.size + 1 < w5.heap.size := (by have := hb5.size; simp at this; omega); have hz6 : wr.heap.size < w5.heap.size := (by have := hb5.size; simp at this; omega))
            | (go_at_call 32; refine (H32.out _).mono ?_; rintro e w' ⟨rfl, rfl⟩)
            | (go_at_call 33; refine (H33.out _).mono ?_; rintro e w7 ⟨rfl, hw7⟩))
          all_goals
            go_ret2
            refine ⟨ret2_pair ?_, ?_⟩
            · (rw [HQ.out]; simp_all [Lib.toList_data])
            · first
              | exact (M.bel.alloc (by omega) _)
              | (rcases hw7 with rfl | rfl <;> first | exact (M.bel.alloc (by omega) _) | exact (M.bel.alloc (by omega) _).drew)
      rw [Bool.not_eq_true] at h95
      have n95 : (bt r 0 != 95) = true := by simp [bne, h95]
      by_cases h92 : (bt r 0 == 92) = true
      · by_cases hone : r.size = 1
        · have he : ((r.size : Int) == 1) = true := by rw [beq_iff_eq]; omega
          have HB : Hid _ := ri_bad H.out hone h92
          clear hone
          go_wp2
          go_ret2
          exact ⟨ret2_pair (likeR_bad HB.out), M.bel⟩
        have he : ((r.size : Int) == 1) = false := by rw [Bool.eq_false_iff]; simp; omega
        have hr1 : (1 : Int) < (r.size : Int) := by omega
        have h01 : 0 < (r.extract 1 r.size).size := by rw [r_size]; omega
        have HS : Hid ((r.extract 1 r.size).size = r.size - 1) := r_size r
        go_wp2
        generalize hre : r.extract 1 r.size = r1 at h01 HS ⊢
        have HR : Hid (r1 = r.extract 1 r.size) := hre.symm
        clear hre hb
        have hb1 := get_bt r1
        have hq0 : (0 : Int) < (r1.size : Int) := by omega
        have hq1 : (1 : Int) ≤ (r1.size : Int) := by omega
        go_region_held3 (fun _ => True) (trivial)
          ((refine step_append_lies _ (by rfl) _ _ _ (by rfl) (w.heap.size + 2) 5 i0 _ 1 1 Tryd.underlying37 hi hz0 hz1 hz2 rfl (by omega) u6 l.length (cellsL l) (by rfl) ((hown.alloc _).drew) ⟨wr.heap.size, 0, none⟩ 1 1 [.int .u8 (bt r1 0)] (by rfl) (by rfl) (World.news_of_block (cs := #[.int .u8 (bt r1 0)]) (t := 5) (fr := (0, 0)) (heap_alloc_new wr _)) (by simp [Value.oneCell']) (by omega) (by unfold maxLen; omega) (by omega) (by simp; omega) (wr.heap.size + 1) (by simp) ?_; intro gg cap w4 hown1 hgrow hat hlt))
        have M4 := M.grow hown hgrow
        have O4 := row_grow hown1 (bt_get r1 0 h01)
        clear hown1 hgrow hat hlt M hown
        go_wp2
        go_roundw
        case rel => exact ⟨_, l ++ [r1[0]], rfl, O4, M4, ri_esc H.out (by omega) h92 HR.out h01⟩
        case measure => have := HS.out; simp [strLen]; omega
      · rw [Bool.not_eq_true] at h92
        have hr1 : (1 : Int) ≤ (r.size : Int) := by omega
        go_wp2
        go_region_held3 (fun _ => True) (trivial)
          ((refine step_append_lies _ (by rfl) _ _ _ (by rfl) (w.heap.size + 2) 5 i0 _ 1 1 Tryd.underlying37 hi hz0 hz1 hz2 rfl (by omega) u6 l.length (cellsL l) (by rfl) ((hown.alloc _).drew) ⟨wr.heap.size, 0, none⟩ 1 1 [.int .u8 (bt r 0)] (by rfl) (by rfl) (World.news_of_block (cs := #[.int .u8 (bt r 0)]) (t := 5) (fr := (0, 0)) (heap_alloc_new wr _)) (by simp [Value.oneCell']) (by omega) (by unfold maxLen; omega) (by omega) (by simp; omega) (wr.heap.size + 1) (by simp) ?_; intro gg cap w4 hown1 hgrow hat hlt))
        have M4 := M.grow hown hgrow
        have O4 := row_grow hown1 (bt_get r 0 h0)
        clear hown1 hgrow hat hlt M hown
        go_wp2
        go_roundw
        case rel => exact ⟨_, l ++ [r[0]], rfl, O4, M4, ri_lit H.out h0 h37 h95 h92⟩
        case measure => simp [strLen]; omega
    · have he := r_empty r (by omega)
      have HH : Hid _ := ri_end H.out (by omega)
      have hcv := conv_own hown
      have hcc := M.ha
      have hce := M.hp
      have hlt1 : w.heap.size < wr.heap.size := by omega
      have hlt2 : w.heap.size + 1 < wr.heap.size := by omega
      have HL := likeR_some (s := s1.data.toList) (k := alikeB e1 e2) HH.out
      have hE : r.data.toList.isEmpty = true := by rw [← Lib.toList_data]; exact r_empty r (by omega)
      rw [hE] at HL
      have HQ : Hid _ := HL
      clear HL hE
      have h30 := fun W => ascii30 ⟨l.toArray⟩ W (by show l.toArray.size ≤ _; simp; omega)
      have h31 := fun W => spelled31 0 0 s1 e1 ⟨l.toArray⟩ e2 c1 x1 y1 false false false W
      have h32 := fun W => Tryd.strings_HasPrefix s1 ⟨l.toArray⟩ W
      have h33 := fun W => Tryd.strings_Trim_one r 37 (by decide) W (by omega)
      have ht := trimB_pct r.data.toList
      generalize (Lib.trimB r.data.toList 37) = tb at h33 ht
      have H30 : Hid _ := h30
      have H31 : Hid _ := h31
      have H32 : Hid _ := h32
      have H33 : Hid _ := h33
      clear h30 h31 h32 h33 hown
      cases hA : asciiL l
      · rw [hA] at H30
        cases hK : alikeB e1 e2
        · rw [hK] at H31
          go_wp2_with (first
            | (go_at_call 30; refine (H30.out _).mono ?_; rintro e w' ⟨rfl, rfl⟩)
            | (go_at_call 31; refine (H31.out _).mono ?_; rintro e w5 ⟨rfl, hb5⟩; obtain ⟨hbc5, hbf5⟩ := bcell hb5; have hz5 : w.heap.size + 1 < w5.heap.size := (by have := hb5.size; simp at this; omega); have hz6 : wr.heap.size < w5.heap.size := (by have := hb5.size; simp at this; omega))
            | (go_at_call 32; refine (H32.out _).mono ?_; rintro e w' ⟨rfl, rfl⟩)
            | (go_at_call 33; refine (H33.out _).mono ?_; rintro e w7 ⟨rfl, hw7⟩))
          all_goals
            go_ret2
            refine ⟨ret2_pair ?_, ?_⟩
            · (rw [HQ.out]; simp_all [Lib.toList_data])
            · first
              | exact ((M.bel.alloc (by omega) _).trans (hb5.mono (by simp; omega)))
              | (rcases hw7 with rfl | rfl <;> first | exact ((M.bel.alloc (by omega) _).trans (hb5.mono (by simp; omega))) | exact ((M.bel.alloc (by omega) _).trans (hb5.mono (by simp; omega))).drew)
        · rw [hK] at H31
          go_wp2_with (first
            | (go_at_call 30; refine (H30.out _).mono ?_; rintro e w' ⟨rfl, rfl⟩)
            | (go_at_call 31; refine (H31.out _).mono ?_; rintro e w5 ⟨rfl, hb5⟩; obtain ⟨hbc5, hbf5⟩ := bcell hb5; have hz5 : w.heap.size + 1 < w5.heap.size := (by have := hb5.size; simp at this; omega); have hz6 : wr.heap.size < w5.heap.size := (by have := hb5.size; simp at this; omega))
            | (go_at_call 32; refine (H32.out _).mono ?_; rintro e w' ⟨rfl, rfl⟩)
            | (go_at_call 33; refine (H33.out _).mono ?_; rintro e w7 ⟨rfl, hw7⟩))
          all_goals
            go_ret2
            refine ⟨ret2_pair ?_, ?_⟩
            · (rw [HQ.out]; simp_all [Lib.toList_data])
            · first
              | exact ((M.bel.alloc (by omega) _).trans (hb5.mono (by simp; omega)))
              | (rcases hw7 with rfl | rfl <;> first | exact ((M.bel.alloc (by omega) _).trans (hb5.mono (by simp; omega))) | exact ((M.bel.alloc (by omega) _).trans (hb5.mono (by simp; omega))).drew)
      · rw [hA] at H30
        go_wp2_with (first
          | (go_at_call 30; refine (H30.out _).mono ?_; rintro e w' ⟨rfl, rfl⟩)
          | (go_at_call 31; refine (H31.out _).mono ?_; rintro e w5 ⟨rfl, hb5⟩; obtain ⟨hbc5, hbf5⟩ := bcell hb5; have hz5 : w.heap.size + 1 < w5.heap.size := (by have := hb5.size; simp at this; omega); have hz6 : wr.heap.size < w5.heap.size := (by have := hb5.size; simp at this; omega))
          | (go_at_call 32; refine (H32.out _).mono ?_; rintro e w' ⟨rfl, rfl⟩)
          | (go_at_call 33; refine (H33.out _).mono ?_; rintro e w7 ⟨rfl, hw7⟩))
        all_goals
          go_ret2
          refine ⟨ret2_pair ?_, ?_⟩
          · (rw [HQ.out]; simp_all [Lib.toList_data])
          · first
            | exact (M.bel.alloc (by omega) _)
            | (rcases hw7 with rfl | rfl <;> first | exact (M.bel.alloc (by omega) _) | exact (M.bel.alloc (by omega) _).drew)
end Go.Proofs.Qxb6602631aDoor
