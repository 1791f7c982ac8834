/-
  The walk of 'FnInversion'.
-/
import Derived.Test.YtgdfaicdpefocaaJoin
import Derived.Deep.RegionWith
namespace Go.Proofs.Ytgdfaicdpefocaa
open Go.RowKit

set_option maxRecDepth 100000 in
theorem lawA_great (a : Option Addr) (len cap : Nat) (g c s : Int) (w : World) (h : 2147483647 < len) :
    Calls Try.prog 3 #[.slice a len cap, .int .u8 g, .int .u8 c, .int .u8 s] w (TrueEnd w) := by
  have hd : decide ((2147483647 : Int) < len) = true := by simp; omega
  clear h
  go_enter Try.func3, Try.ntmps3
  go_wp2_with fail
  go_ret
  exact ⟨rfl, Below.refl _ _⟩

set_option maxRecDepth 100000 in
theorem lawA_many (a : Option Addr) (len cap : Nat) (g c s : Int) (w : World) (h0 : len ≤ 2147483647) (h : 1000 < len) :
    Calls Try.prog 3 #[.slice a len cap, .int .u8 g, .int .u8 c, .int .u8 s] w (TrueEnd w) := by
  have hd : decide ((2147483647 : Int) < len) = false := by simp; omega
  have H := hide h
  clear h0 h
  go_enter Try.func3, Try.ntmps3
  go_wp2_with (go_at_call 5; refine (few_no _ _ _ _ H.out).mono ?_; rintro e w1 ⟨rfl, rfl⟩)
  go_ret
  exact ⟨rfl, Below.refl _ _⟩

set_option maxHeartbeats 2000000 in
set_option maxRecDepth 100000 in
theorem lawA_main (a : Option Addr) (len cap : Nat) (zs : List Int) (g0 c0 s : Int) (w : World) (hrow : IsRow .i8 w a len cap zs) (h : len ≤ 1000)
    (gb : 0 ≤ g0 ∧ g0 ≤ 255) (cb : 0 ≤ c0 ∧ c0 ≤ 255) (sb : 0 ≤ s ∧ s ≤ 255) :
    Calls Try.prog 3 #[.slice a len cap, .int .u8 g0, .int .u8 c0, .int .u8 s] w (TrueEnd w) := by
  have hd : decide ((2147483647 : Int) < len) = false := by simp; omega
  obtain ⟨g, hg, g2⟩ : ∃ g : Nat, g0 % 2 = (g : Int) ∧ g < 2 := ⟨(g0 % 2).toNat, by omega, by omega⟩
  obtain ⟨c, hc, c2⟩ : ∃ c : Nat, c0 % 2 = (c : Int) ∧ c < 2 := ⟨(c0 % 2).toNat, by omega, by omega⟩
  obtain ⟨hz35, hi35⟩ := zero_of_info zinfo35
  have hz35' : ∀ w, (zeroValue 35).run Try.prog w = .ok (.agg main0) w := hz35
  have hb0 : Try.prog.built 35 [] = some main0 := built35
  have hi : (Try.prog.info? 35).map (·.size) = some main0.size := by rw [main0_size]; exact hi35
  have H := hide h
  clear h hz35
  go_enter Try.func3, Try.ntmps3
  go_wp2_with (first | (go_at_call 5; refine (few_yes _ _ _ _ H.out).mono ?_; rintro e w1 ⟨rfl, rfl⟩) | (refine wpList_built rfl 35 #[] rfl [] ?d1 main0 hb0 ?_) | (refine wpList_store_row rfl 35 _ _ rfl w.heap.size main0 rfl rfl 35 main0 ?d2 hi rfl ?d3 ?_))
  case d2 => exact heap_alloc_new w _
  case d3 => exact Array.all_eq_true_iff_forall_mem.2 main0_one
  rw [World.setRow_alloc_new]
  obtain ⟨W1, hW⟩ : ∃ W1, W1 = w.alloc (.cells main0 35) := ⟨_, rfl⟩
  have hM : W1.heap[w.heap.size]? = some (.cells main0 35 (0, 0)) := by rw [hW]; exact heap_alloc_new w _
  have hlt : w.heap.size < W1.heap.size := by rw [hW]; simp
  have hb1 : Below w.heap.size w W1 := by rw [hW]; exact (Below.refl _ _).alloc (Nat.le_refl _) _
  have hrow1 := hrow.below hb1
  have hcv : main0[244 + g * 2 + c]? = some (.slice none 0 0) := by
    rw [show 244 + g * 2 + c = 244 + (g * 2 + c) by omega]; exact main0_lines _ (by omega)
  rw [← hW]
  have SB := hide sb
  have HROW := hide hrow1
  have HM := hide hM
  have HCV := hide hcv
  have gi : (g : Int) < 2 := by omega
  have ci : (c : Int) < 2 := by omega
  clear hW sb hrow hrow1 gb cb hM hcv hb0 hi hz35' hg hc
  go_region_with ((go_at_call 6; refine (spread_any a len cap zs s _ ?_ H.out SB.out.1 SB.out.2).mono ?_; exact HROW.out; rintro e w2 ⟨b, x, rfl, hbs, hx, hgood, hb⟩; obtain ⟨hcl, hfz, hh⟩ := lines_cell (w := W1.drew) (show W1.drew.heap[w.heap.size]? = _ from HM.out) hlt hb _ _ HCV.out; have HX := hide (And.intro hbs (And.intro hx (And.intro hgood (And.intro hb hh)))); clear hbs hx hgood hb hh))
  obtain ⟨hbs, hx, hgood, hb, hh⟩ := HX.out
  clear HX HROW HM HCV hcl hfz
  have hx3 := hx.other ⟨w.heap.size, 244 + g * 2 + c, none⟩ (.slice (some ⟨b, 0, none⟩) 576 576) (by show b ≠ w.heap.size; have : W1.heap.size ≤ b := hbs; omega)
  have hM3 := heap_setCell_same w2 w.heap.size (244 + g * 2 + c) main0 35 (.slice (some ⟨b, 0, none⟩) 576 576) hh
  have hb3 : Below w.heap.size w (w2.setCell ⟨w.heap.size, 244 + g * 2 + c, none⟩ (.slice (some ⟨b, 0, none⟩) 576 576)) := (hb1.trans ((Below.refl _ W1).drew.trans (hb.mono (Nat.le_of_lt hlt)))).setCell (Nat.le_refl _) _
  generalize w2.setCell ⟨w.heap.size, 244 + g * 2 + c, none⟩ (.slice (some ⟨b, 0, none⟩) 576 576) = w3 at *
  have hm := mainWith_at g c b 576 g2 c2
  change w3.heap[w.heap.size]? = some (.cells (mainWith g c (.slice (some ⟨b, 0, none⟩) 576 576)) 35 (0, 0)) at hM3
  obtain ⟨cs, hcs⟩ : ∃ cs, cs = mainWith g c (.slice (some ⟨b, 0, none⟩) 576 576) := ⟨_, rfl⟩
  rw [← hcs] at hm hM3
  clear hcs hh hx hb hb1 hbs
  have hlt3 := hx3.lt
  have HG := hide hgood
  have HM3 := hide hM3
  clear hgood
  go_wp2_with (refine wpList_load_row rfl 35 _ rfl w.heap.size rfl 35 cs (0, 0) _ hM3 Try.underlying35 rfl ?e1 ?_)
  case e1 => rw [hm.size]; exact hi35
  clear hM3
  refine (inversion_any cs g c b 576 x _ g2 c2 hm hx3).mono ?_
  rintro e w4 ⟨b1, rfl, hb1s, hy, hb4⟩
  have hx4 := hx3.below hb4 hlt3
  have hM4 : w4.cell? ⟨w.heap.size, 244 + g * 2 + c, none⟩ = some (.slice (some ⟨b, 0, none⟩) 576 576) := by
    have hMl : w.heap.size < w3.heap.size := lt_of_block HM3.out
    rw [(lines_cell (w := w3) HM3.out hMl hb4 (244 + g * 2 + c) _ ((hm.lines g c g2 c2).trans (by rw [if_pos ⟨rfl, rfl⟩]))).1]
  have hb4' : Below w.heap.size w w4 := hb3.trans (hb4.mono hb3.size)
  clear hm hb3 HM3 hlt3 hb1s hb4 hx3
  go_wp2_with fail
  refine (wide_any b 576 x w4 hx4 HG.out).mono ?_
  rintro e w5 ⟨b2, rfl, hb2s, hz, hb5⟩
  have hy5 := hy.below hb5 hy.lt
  have hb5' : Below w.heap.size w w5 := hb4'.trans (hb5.mono hb4'.size)
  clear hM4 hx4 hb2s hy hb5 hb4'
  go_wp2_with fail
  refine (inverted_any b2 576 (fun j => w64 (x j)) w5 hz).mono ?_
  rintro e w6 ⟨b3, c3, rfl, hu, hb6⟩
  have hy6 := hy5.below hb6 hy5.lt
  have hz6 := hz.below hb6 hz.lt
  have hb6' : Below w.heap.size w w6 := hb5'.trans (hb6.mono hb5'.size)
  clear hy5 hz hb6 hb5'
  go_wp2_with fail
  refine (greatest_any b2 576 (fun j => w64 (x j)) w6 hz6 (fun j hj => (HG.out j hj).wide)).mono ?_
  rintro e w7 ⟨t, rfl, ht, rfl⟩
  clear hz6
  go_wp2_with fail
  refine (near_any b1 576 b3 c3 t (inv neg32 x) w6 hy6 (hu.congr (inv_wide HG.out)) (good_inv HG.out) ht).mono ?_
  rintro e w8 ⟨rfl, hb8⟩
  have hb8' : Below w.heap.size w w8 := hb6'.trans (hb8.mono hb6'.size)
  clear hy6 hu hb8 hb6' ht
  go_wp2_with fail
  go_ret
  exact ⟨rfl, hb8'⟩

theorem lawA (a : Option Addr) (len cap : Nat) (zs : List Int) (g0 c0 s : Int) (w : World) (hrow : IsRow .i8 w a len cap zs) (gb : 0 ≤ g0 ∧ g0 ≤ 255) (cb : 0 ≤ c0 ∧ c0 ≤ 255) (sb : 0 ≤ s ∧ s ≤ 255) :
    Calls Try.prog 3 #[.slice a len cap, .int .u8 g0, .int .u8 c0, .int .u8 s] w (TrueEnd w) := by
  by_cases h1 : len ≤ 1000
  · exact lawA_main a len cap zs g0 c0 s w hrow h1 gb cb sb
  · by_cases h2 : len ≤ 2147483647
    · exact lawA_many a len cap g0 c0 s w h2 (by omega)
    · exact lawA_great a len cap g0 c0 s w (by omega)

end Go.Proofs.Ytgdfaicdpefocaa
