/-
  The walk of 'FnInversionTwice'.
-/
import Derived.Test.YtgdfaicdpefocaaJoin
import Derived.Deep.RegionWith
namespace Go.Proofs.Ytgdfaicdpefocaa
open Go.RowKit

set_option maxRecDepth 100000 in
theorem lawB_great (a : Option Addr) (len cap : Nat) (g c s : Int) (w : World) (h : 2147483647 < len) :
    Calls Try.prog 4 #[.slice a len cap, .int .u8 g, .int .u8 c, .int .u8 s] w (TrueEnd w) := by
  have hd : decide ((2147483647 : Int) < len) = true := by simp; omega
  clear h
  go_enter Try.func4, Try.ntmps4
  go_wp2_with fail
  go_ret
  exact ⟨rfl, Below.refl _ _⟩

set_option maxRecDepth 100000 in
theorem lawB_many (a : Option Addr) (len cap : Nat) (g c s : Int) (w : World) (h0 : len ≤ 2147483647) (h : 1000 < len) :
    Calls Try.prog 4 #[.slice a len cap, .int .u8 g, .int .u8 c, .int .u8 s] w (TrueEnd w) := by
  have hd : decide ((2147483647 : Int) < len) = false := by simp; omega
  have H := hide h
  clear h0 h
  go_enter Try.func4, Try.ntmps4
  go_wp2_with (go_at_call 5; refine (few_no _ _ _ _ H.out).mono ?_; rintro e w1 ⟨rfl, rfl⟩)
  go_ret
  exact ⟨rfl, Below.refl _ _⟩

set_option maxHeartbeats 2000000 in
set_option maxRecDepth 100000 in
theorem lawB_main (a : Option Addr) (len cap : Nat) (zs : List Int) (g0 c0 s : Int) (w : World) (hrow : IsRow .i8 w a len cap zs) (h : len ≤ 1000)
    (gb : 0 ≤ g0 ∧ g0 ≤ 255) (cb : 0 ≤ c0 ∧ c0 ≤ 255) (sb : 0 ≤ s ∧ s ≤ 255) :
    Calls Try.prog 4 #[.slice a len cap, .int .u8 g0, .int .u8 c0, .int .u8 s] w (TrueEnd w) := by
  have hd : decide ((2147483647 : Int) < len) = false := by simp; omega
  obtain ⟨g, hg, g2⟩ : ∃ g : Nat, g0 % 2 = (g : Int) ∧ g < 2 := ⟨(g0 % 2).toNat, by omega, by omega⟩
  obtain ⟨c, hc, c2⟩ : ∃ c : Nat, c0 % 2 = (c : Int) ∧ c < 2 := ⟨(c0 % 2).toNat, by omega, by omega⟩
  obtain ⟨hz35, hi35⟩ := zero_of_info zinfo35
  have hz35' : ∀ w, (zeroValue 35).run Try.prog w = .ok (.agg main0) w := hz35
  have hb0 : Try.prog.built 35 [] = some main0 := built35
  have hi : (Try.prog.info? 35).map (·.size) = some main0.size := by rw [main0_size]; exact hi35
  have H := hide h
  have SB := hide sb
  have HR := hide hrow
  clear h hz35 sb hrow
  go_enter Try.func4, Try.ntmps4
  go_wp2_with (first | (go_at_call 5; refine (few_yes _ _ _ _ H.out).mono ?_; rintro e w1 ⟨rfl, rfl⟩) | (refine wpList_built rfl 35 #[] rfl [] ?d1 main0 hb0 ?_) | (refine wpList_store_row rfl 35 _ _ rfl w.heap.size main0 rfl rfl 35 main0 ?d2 hi rfl ?d3 ?_))
  case d2 => exact heap_alloc_new w _
  case d3 => exact Array.all_eq_true_iff_forall_mem.2 main0_one
  rw [World.setRow_alloc_new]
  obtain ⟨W1, hW⟩ : ∃ W1, W1 = w.alloc (.cells main0 35) := ⟨_, rfl⟩
  have hM : W1.heap[w.heap.size]? = some (.cells main0 35 (0, 0)) := by rw [hW]; exact heap_alloc_new w _
  have hlt : w.heap.size < W1.heap.size := by rw [hW]; simp
  have hb1 : Below w.heap.size w W1 := by rw [hW]; exact (Below.refl _ _).alloc (Nat.le_refl _) _
  have hrow1 := HR.out.below hb1
  have hcv : main0[244 + g * 2 + c]? = some (.slice none 0 0) := by
    rw [show 244 + g * 2 + c = 244 + (g * 2 + c) by omega]; exact main0_lines _ (by omega)
  rw [← hW]
  clear hW HR gb cb hb0 hi hz35' hg hc
  refine (spread_any a len cap zs s W1 hrow1 H.out SB.out.1 SB.out.2).mono ?_
  rintro e w2 ⟨b, x, rfl, hbs, hx, hgood, hb⟩
  obtain ⟨hcl, hfz, hh⟩ := lines_cell hM hlt hb _ _ hcv
  have hx3 := hx.other ⟨w.heap.size, 244 + g * 2 + c, none⟩ (.slice (some ⟨b, 0, none⟩) 576 576) (by show b ≠ w.heap.size; omega)
  have hM3 := heap_setCell_same w2 w.heap.size (244 + g * 2 + c) main0 35 (.slice (some ⟨b, 0, none⟩) 576 576) hh
  have hb3 : Below w.heap.size w (w2.setCell ⟨w.heap.size, 244 + g * 2 + c, none⟩ (.slice (some ⟨b, 0, none⟩) 576 576)) := (hb1.trans (hb.mono (Nat.le_of_lt hlt))).setCell (Nat.le_refl _) _
  have hm := mainWith_at g c b 576 g2 c2
  change (w2.setCell _ _).heap[w.heap.size]? = some (.cells (mainWith g c (.slice (some ⟨b, 0, none⟩) 576 576)) 35 (0, 0)) at hM3
  have HG := hide hgood
  have HX3 := hide hx3
  have HM3 := hide hM3
  have HB3 := hide hb3
  have hbM : w.heap.size < b := by omega
  have gi : (g : Int) < 2 := by omega
  have ci : (c : Int) < 2 := by omega
  clear hgood hx3 hM3 hb3 hx hb hbs hM hh hb1 hrow1 hcv
  go_wp2_with fail
  generalize w2.setCell ⟨w.heap.size, 244 + g * 2 + c, none⟩ (.slice (some ⟨b, 0, none⟩) 576 576) = w3 at *
  clear hcl hfz hlt
  have hM3 := HM3.out
  obtain ⟨cs, hcs⟩ : ∃ cs, cs = mainWith g c (.slice (some ⟨b, 0, none⟩) 576 576) := ⟨_, rfl⟩
  rw [← hcs] at hm hM3
  have HCS := hide hcs
  have hM3d : w3.drew.heap[w.heap.size]? = some (.cells cs 35 (0, 0)) := hM3
  have hlt3 : b < w3.heap.size := HX3.out.lt
  clear hM3 hcs
  refine wp_region_any (by kernel_rfl) ?_
  change wpAny _ _ _ _ _ _ _ (World.drew _)
  refine wpAny_take (i := 0) (oi := { dst := some 36, op := Op.move (Operand.tmp 10), type := 3, pos := "steps.go:147", after := #[], guard := none }) (v := ?v0) rfl (by kernel_rfl) (by kernel_rfl) (by kernel_rfl) (fun _ _ _ h => h) (Or.inl ⟨by rfl, ?h0⟩) ?_
  case h0 => intro w; go_simp; with_reducible rfl
  simp only [Act.put, List.setIfInBounds_toArray, List.set_cons_zero, List.set_cons_succ]
  refine wpAny_take (i := 1) (oi := { dst := some 37, op := Op.move (Operand.tmp 11), type := 3, pos := "steps.go:147", after := #[], guard := none }) (v := ?v1) rfl (by kernel_rfl) (by kernel_rfl) (by kernel_rfl) (fun _ _ _ h => h) (Or.inl ⟨by rfl, ?h1⟩) ?_
  case h1 => intro w; go_simp; with_reducible rfl
  simp only [Act.put, List.setIfInBounds_toArray, List.set_cons_zero, List.set_cons_succ]
  refine wpAny_take (i := 3) (oi := { dst := some 39, op := Op.move (Operand.tmp 10), type := 3, pos := "steps.go:147", after := #[], guard := none }) (v := ?v3) rfl (by kernel_rfl) (by kernel_rfl) (by kernel_rfl) (fun _ _ _ h => h) (Or.inl ⟨by rfl, ?h3⟩) ?_
  case h3 => intro w; go_simp; with_reducible rfl
  simp only [Act.put, List.setIfInBounds_toArray, List.set_cons_zero, List.set_cons_succ]
  refine wpAny_take (i := 4) (oi := { dst := some 40, op := Op.move (Operand.tmp 11), type := 3, pos := "steps.go:147", after := #[], guard := none }) (v := ?v4) rfl (by kernel_rfl) (by kernel_rfl) (by kernel_rfl) (fun _ _ _ h => h) (Or.inl ⟨by rfl, ?h4⟩) ?_
  case h4 => intro w; go_simp; with_reducible rfl
  simp only [Act.put, List.setIfInBounds_toArray, List.set_cons_zero, List.set_cons_succ]
  refine wpAny_take (i := 6) (oi := { dst := some 42, op := Op.fieldAddr 35 (Operand.tmp 9) 2, type := 0, pos := "steps.go:147", after := #[], guard := none }) (v := ?v6) rfl (by kernel_rfl) (by kernel_rfl) (by kernel_rfl) (fun _ _ _ h => h) (Or.inl ⟨by rfl, ?h6⟩) ?_
  case h6 => intro w; go_simp; with_reducible rfl
  simp only [Act.put, List.setIfInBounds_toArray, List.set_cons_zero, List.set_cons_succ]
  refine wpAny_take (i := 7) (oi := { dst := some 43, op := Op.indexAddr 33 (Operand.tmp 42) (Operand.tmp 36), type := 0, pos := "steps.go:147", after := #[{ on := 6, ground := Ground.data }, { on := 0, ground := Ground.data }], guard := none }) (v := ?v7) rfl (by kernel_rfl) (by kernel_rfl) (by kernel_rfl) (fun _ _ _ h => h) (Or.inl ⟨by rfl, ?h7⟩) ?_
  case h7 => intro w; go_simp; with_reducible rfl
  simp only [Act.put, List.setIfInBounds_toArray, List.set_cons_zero, List.set_cons_succ]
  refine wpAny_ready (rs := [2]) (by kernel_rfl) (by simp) ?_
  refine AllReady.cons (o := { dst := some 38, op := Op.load 35 (Operand.tmp 9), type := 35, pos := "steps.go:147", after := #[], guard := none }) rfl (fun K hK => ?_) AllReady.nil
  rw [if_pos (by rfl)]
  refine wp_load_row 35 (.tmp 9) rfl w.heap.size rfl 35 cs (0, 0) _ hM3d Try.underlying35 rfl (by rw [hm.size]; exact hi35) ?_
  refine hK _ _ ?_
  clear hK K
  simp only [Act.put, List.setIfInBounds_toArray, List.set_cons_zero, List.set_cons_succ]
  refine wpAny_ready (rs := [5]) (by kernel_rfl) (by simp) ?_
  refine AllReady.cons (o := { dst := some 41, op := Op.call { callee := Callee.value (Operand.func 7), args := #[Operand.tmp 38, Operand.tmp 39, Operand.tmp 40], argTypes := #[35, 3, 3] }, type := 31, pos := "steps.go:147", after := #[{ on := 2, ground := Ground.data }, { on := 3, ground := Ground.data }, { on := 4, ground := Ground.data }], guard := none }) rfl (fun K hK => ?_) AllReady.nil
  go_simp
  refine (inversion_any cs g c b 576 x w3.drew g2 c2 hm ⟨HX3.out.cell, HX3.out.free⟩).mono ?_
  rintro e w4 ⟨b1, rfl, hb1s, hy, hb4⟩
  dsimp only
  refine hK _ _ ?_
  clear hK K
  have hMl : w.heap.size < w3.drew.heap.size := lt_of_block hM3d
  obtain ⟨hcl, hfz, hh⟩ := lines_cell (w := w3.drew) hM3d hMl hb4 (244 + g * 2 + c) _ ((hm.lines g c g2 c2).trans (by rw [if_pos ⟨rfl, rfl⟩]))
  have HY := hide hy
  have HB4 := hide hb4
  have HH := hide hh
  have hb1M : w.heap.size < b1 := Nat.lt_of_lt_of_le hMl hb1s
  clear hy hb4 hb1s hM3d hm hh
  refine wpAny_take (i := 8) (oi := { dst := some 44, op := Op.indexAddr 32 (Operand.tmp 43) (Operand.tmp 37), type := 0, pos := "steps.go:147", after := #[{ on := 7, ground := Ground.data }, { on := 1, ground := Ground.data }, { on := 0, ground := Ground.phase }, { on := 1, ground := Ground.phase }, { on := 2, ground := Ground.phase }, { on := 3, ground := Ground.phase }, { on := 4, ground := Ground.phase }, { on := 5, ground := Ground.phase }], guard := none }) (v := ?v8) rfl (by kernel_rfl) (by kernel_rfl) (by kernel_rfl) (fun _ _ _ h => h) (Or.inl ⟨by rfl, ?h8⟩) ?_
  case h8 => intro w; go_simp; with_reducible rfl
  simp only [Act.put, List.setIfInBounds_toArray, List.set_cons_zero, List.set_cons_succ]
  refine wpAny_ready (rs := [9]) (by kernel_rfl) (by simp) ?_
  refine AllReady.cons (o := { dst := none, op := Op.store 31 (Operand.tmp 44) (Operand.tmp 41), type := 0, pos := "steps.go:147", after := #[{ on := 8, ground := Ground.data }, { on := 5, ground := Ground.data }, { on := 5, ground := Ground.chain }, { on := 0, ground := Ground.phase }, { on := 1, ground := Ground.phase }, { on := 2, ground := Ground.phase }, { on := 3, ground := Ground.phase }, { on := 4, ground := Ground.phase }, { on := 5, ground := Ground.phase }], guard := none }) rfl (fun K hK => ?_) AllReady.nil
  go_simp
  refine hK _ _ ?_
  clear hK K
  refine wpAny_done (by kernel_rfl) ?_ _
  -- behind the region: the main data bear the turned lines
  have hx5 := (HX3.out.kept (w' := w3.drew) rfl).below HB4.out hlt3
  have hx6 := hx5.other ⟨w.heap.size, 244 + g * 2 + c, none⟩ (.slice (some ⟨b1, 0, none⟩) 576 576) (by show b ≠ w.heap.size; omega)
  have hy6 := HY.out.other ⟨w.heap.size, 244 + g * 2 + c, none⟩ (.slice (some ⟨b1, 0, none⟩) 576 576) (by show b1 ≠ w.heap.size; omega)
  have hM6 := heap_setCell_same w4 w.heap.size (244 + g * 2 + c) cs 35 (.slice (some ⟨b1, 0, none⟩) 576 576) HH.out
  have hb6 : Below w.heap.size w (w4.setCell ⟨w.heap.size, 244 + g * 2 + c, none⟩ (.slice (some ⟨b1, 0, none⟩) 576 576)) :=
    (HB3.out.drew.trans (HB4.out.mono HB3.out.size)).setCell (Nat.le_refl _) _
  have hm6 := mainWith_at g c b1 576 g2 c2
  rw [HCS.out, mainWith_set] at hM6
  generalize w4.setCell ⟨w.heap.size, 244 + g * 2 + c, none⟩ (.slice (some ⟨b1, 0, none⟩) 576 576) = w6 at *
  obtain ⟨cs1, hcs1⟩ : ∃ cs1, cs1 = mainWith g c (.slice (some ⟨b1, 0, none⟩) 576 576) := ⟨_, rfl⟩
  rw [← hcs1] at hm6 hM6
  have HG6 := hide (good_inv HG.out)
  have HX6 := hide hx6
  have HB6 := hide hb6
  clear hcs1 HX3 HM3 HB3 HCS HY HB4 HH hcl hfz hMl hlt3 hx5 hx6 hb6 hbM hb1M
  go_wp2_with (refine wpList_load_row rfl 35 _ rfl w.heap.size rfl 35 cs1 (0, 0) _ hM6 Try.underlying35 rfl ?e1 ?_)
  case e1 => rw [hm6.size]; exact hi35
  clear hM6
  refine (inversion_any cs1 g c b1 576 (inv neg32 x) _ g2 c2 hm6 hy6).mono ?_
  rintro e w7 ⟨b2, rfl, _, hz, hb7⟩
  have hx7 := HX6.out.below hb7 HX6.out.lt
  have hz7 : FRow .f32 w7 b2 x := hz.congr (inv_inv HG.out)
  have hb7' : Below w.heap.size w w7 := HB6.out.trans (hb7.mono HB6.out.size)
  clear hm6 hy6 HX6 HB6 HG6 hz hb7
  go_wp2_with fail
  refine (wide_any b 576 x w7 hx7 HG.out).mono ?_
  rintro e w8 ⟨b3, rfl, _, hu, hb8⟩
  have hx8 := hx7.below hb8 hx7.lt
  have hz8 := hz7.below hb8 hz7.lt
  have hb8' : Below w.heap.size w w8 := hb7'.trans (hb8.mono hb7'.size)
  clear hx7 hz7 hb8 hb7'
  go_wp2_with fail
  refine (wide_any b 576 x w8 hx8 HG.out).mono ?_
  rintro e w9 ⟨b4, rfl, _, hv, hb9⟩
  have hz9 := hz8.below hb9 hz8.lt
  have hu9 := hu.below hb9 hu.lt
  have hb9' : Below w.heap.size w w9 := hb8'.trans (hb9.mono hb8'.size)
  clear hx8 hz8 hu hb9 hb8'
  go_wp2_with fail
  refine (greatest_any b4 576 (fun j => w64 (x j)) w9 hv (fun j hj => (HG.out j hj).wide)).mono ?_
  rintro e w10 ⟨t, rfl, ht, rfl⟩
  clear hv
  go_wp2_with fail
  refine (near_any b2 576 b3 576 t x w9 hz9 hu9 HG.out ht).mono ?_
  rintro e w11 ⟨rfl, hb11⟩
  have hb11' : Below w.heap.size w w11 := hb9'.trans (hb11.mono hb9'.size)
  clear hz9 hu9 hb11 hb9' ht
  go_wp2_with fail
  go_ret
  exact ⟨rfl, hb11'⟩

theorem lawB (a : Option Addr) (len cap : Nat) (zs : List Int) (g0 c0 s : Int) (w : World) (hrow : IsRow .i8 w a len cap zs) (gb : 0 ≤ g0 ∧ g0 ≤ 255) (cb : 0 ≤ c0 ∧ c0 ≤ 255) (sb : 0 ≤ s ∧ s ≤ 255) :
    Calls Try.prog 4 #[.slice a len cap, .int .u8 g0, .int .u8 c0, .int .u8 s] w (TrueEnd w) := by
  by_cases h1 : len ≤ 1000
  · exact lawB_main a len cap zs g0 c0 s w hrow h1 gb cb sb
  · by_cases h2 : len ≤ 2147483647
    · exact lawB_many a len cap g0 c0 s w h2 (by omega)
    · exact lawB_great a len cap g0 c0 s w (by omega)

end Go.Proofs.Ytgdfaicdpefocaa
