/-
  types.ParseDecimal and impl.ParseDecimal at a numeral with four digits behind the point, walked.
  Conditions: sizes.
-/
import Derived.Test.YtlcalmdjgllkcaaDoorBits
import Derived.Deep.RegionWith
namespace Go.Proofs.YtlcalmdjgllkcaaDoor.Dec
open Go Go.ChangeShapes Go.WideShapes Go.ChangeAt Go.RowKit

theorem bytes_since (w : World) (s : ByteArray) : Since w (Lib.bytesWorld w 5 s) := by
  refine ⟨?_, ?_, ?_, ?_, fun k hk => Lib.bytesWorld_at_old w 5 s k hk⟩
  · simp [Lib.bytesWorld, World.freeze, World.alloc, World.drew, -World.alloc_eq, -World.drew_eq]
  · simp [Lib.bytesWorld, World.freeze, World.alloc, World.drew, -World.alloc_eq, -World.drew_eq]
  · simp [Lib.bytesWorld, World.freeze, World.alloc, World.drew, -World.alloc_eq, -World.drew_eq]
  · rw [Lib.bytesWorld_size]; omega
theorem int_ok (s : ByteArray) (hmax : s.size ≤ 1000) (v : Int) (h : Lib.parseIntB 64 s.data.toList = .ok v) (w : World) : Calls Tryd.prog 15 #[.string s, .int .i64 10, .int .i64 64] w fun e w' => e = .returned (.tuple #[.int .i64 v, .nilIface]) ∧ Since w w' := by
  refine (Tryd.strconv_ParseInt_10_at64_ok s (by omega) v h w).mono ?_
  rintro e w' ⟨rfl, rfl | ⟨t, rfl⟩⟩
  · exact ⟨rfl, Since.refl _⟩
  · exact ⟨rfl, bytes_since _ _⟩
theorem int_range (s : ByteArray) (hmax : s.size ≤ 1000) (h : Lib.parseIntB 64 s.data.toList = .range) (w : World) (hW : DecW w) : Calls Tryd.prog 15 #[.string s, .int .i64 10, .int .i64 64] w fun e w' => (∃ (z : Int) (t : TypeId) (p : Value), e = .returned (.tuple #[.int .i64 z, .iface t p])) ∧ Since w w' := by
  obtain ⟨t, v, hr⟩ := hW.range
  refine (Tryd.strconv_ParseInt_10_at64_range s (by omega) h _ w hr (.inr ⟨t, v, rfl⟩)).mono ?_
  rintro e w' ⟨N, rfl, _, _, hb⟩
  exact ⟨⟨_, _, _, rfl⟩, hb⟩
theorem uint_ok (s : ByteArray) (hmax : s.size ≤ 1000) (u : Nat) (h : Lib.parseUintB 16 s.data.toList = .ok u) (w : World) : Calls Tryd.prog 16 #[.string s, .int .i64 10, .int .i64 16] w fun e w' => e = .returned (.tuple #[.int .u64 u, .nilIface]) ∧ Since w w' := by
  refine (Tryd.strconv_ParseUint_16 s (by omega) u h w).mono ?_
  rintro e w' ⟨rfl, rfl | rfl⟩
  · exact ⟨rfl, Since.refl _⟩
  · exact ⟨rfl, bytes_since _ _⟩
theorem fconv : ∀ w, (convert 48 47 (.float .f64 4607182418800017408)).run Tryd.prog w = .ok (.int .i16 1) w := fun w => by kernel_rfl

def sg (neg : Bool) : Bs := if neg then [45] else []
def sv (neg : Bool) (n : Nat) : Int := if neg then -(n : Int) else n
def Bad (neg : Bool) (m p : Nat) : Prop := m > 922337203685477 ∨ (m = 922337203685477 ∧ (p > 5808 ∨ (p = 5808 ∧ neg = false)))
def PPost (neg : Bool) (m p : Nat) (W : World) (e : Ending) (W' : World) : Prop :=
  Since W W' ∧ ((Bad neg m p ∧ ∃ (ty : TypeId) (v : Value), e = .returned (.tuple #[.agg #[.int .i64 0], .iface ty v])) ∨ (¬ Bad neg m p ∧ e = .returned (.tuple #[.agg #[.int .i64 (sv neg m * 10000 + sv neg p)], .nilIface])))

set_option maxRecDepth 100000 in
set_option maxHeartbeats 4000000 in
theorem pd_true (D1 D2 : Bs) (hd1 : Digs D1) (hne : D1 ≠ []) (l1 : D1.length ≤ 30) (hd2 : Digs D2) (l2 : D2.length = 4) (hp : num D2 < 10000) (W : World) (hW : DecW W) :
    Calls Tryd.prog 9 #[.string (bs ((45 :: D1) ++ 46 :: D2))] W (PPost true (num D1) (num D2) W) := by
  have hlen : ((45 :: D1) ++ 46 :: D2).length = (45 :: D1).length + 5 := by simp [l2]
  have hl1 : (45 :: D1).length ≤ 31 := by first | omega | (simp; omega)
  have hl0 : 0 < (45 :: D1).length := by simp
  have hnp : ∀ c ∈ (45 :: D1), c.toNat ≠ 46 := by
    intro c hc
    rcases List.mem_cons.1 hc with rfl | hc
    · decide
    · have := hd1 c hc; omega
  have HIX := Go.Lib.hid (fun w => index_any (45 :: D1) D2 hnp (by omega) w)
  have hs1 := slice_mid ((45 :: D1) ++ 46 :: D2) 0 ((45 :: D1).length : Int) 0 (45 :: D1).length rfl (by simp) (by omega)
  rw [show (((45 :: D1) ++ 46 :: D2).drop 0).take (45 :: D1).length = (45 :: D1) from by rw [List.drop_zero, List.take_append_of_le_length (Nat.le_refl _), List.take_of_length_le (Nat.le_refl _)]] at hs1
  have hs2 := slice_from ((45 :: D1) ++ 46 :: D2) (((45 :: D1).length : Int) + 1) ((45 :: D1).length + 1) (by omega) (by omega)
  rw [show ((45 :: D1) ++ 46 :: D2).drop ((45 :: D1).length + 1) = D2 from by rw [← List.drop_drop, List.drop_left]; rfl] at hs2
  have hdat1 : (bs (45 :: D1)).data.toList = (45 :: D1) := by simp [bs]
  have hdat2 : (bs D2).data.toList = D2 := by simp [bs]
  have hsz1 := bs_size (45 :: D1)
  have hsz2 := bs_size D2
  rw [l2] at hsz2
  obtain ⟨p1, p2⟩ := parse_neg hd1 hne
  have hU := Go.Lib.hid (fun w => uint_ok (bs D2) (by omega) (num D2) (by rw [hdat2]; exact parseU16 hd2 (by intro e; rw [e] at l2; cases l2) (by omega)) w)
  have HOK := Go.Lib.hid (fun (h : ¬ (9223372036854775808 < num D1)) w => int_ok (bs (45 :: D1)) (by omega) (-(num D1 : Int)) (by rw [hdat1]; exact p1 (by omega)) w)
  have HRG := Go.Lib.hid (fun (h : 9223372036854775808 < num D1) w hW => int_range (bs (45 :: D1)) (by omega) (by rw [hdat1]; exact p2 h) w hW)
  have hi0 : ∃ x : UInt8, ((45 :: D1) ++ 46 :: D2)[0]? = some x ∧ x.toNat = 45 := by
    exact ⟨45, rfl, rfl⟩
    
    
  obtain ⟨x, hx0, hx1⟩ := hi0
  have hix := ix ((45 :: D1) ++ 46 :: D2) 0 0 x rfl hx0
  rw [hx1] at hix; clear hx1
  have HW := Go.Lib.hid hW
  have hW1 : DecW (W.alloc (.cells #[.int .i64 0] 33)) := hW.since ((Since.refl W).alloc _)
  have HW1 := Go.Lib.hid hW1
  clear hW hW1 hd1 hd2 hne l1 hnp hx0 hdat1 hdat2 p1 p2 hlen
  generalize (45 :: D1).length = m at *
  generalize bs ((45 :: D1) ++ 46 :: D2) = s at *
  generalize bs (45 :: D1) = s1 at *
  generalize bs D2 = s2 at *
  generalize num D1 = M at *
  generalize num D2 = p at *
  have hm0 : ¬ ((m : Int) < 0) := by omega
  by_cases hr : 9223372036854775808 < M
  · have HB := Go.Lib.hid (show Bad true M p from .inl (by omega))
    go_enter Tryd.func9, Tryd.ntmps9
    go_wp2_with fail
    refine (HIX.out _).mono ?_
    rintro e w1 ⟨rfl, rfl⟩
    go_wp2_with fail
    refine (HRG.out hr _ HW1.out).mono ?_
    rintro e w2 ⟨⟨z, t, v, rfl⟩, hs2'⟩
    have hsW : Since W w2 := ((Since.refl W).alloc _).trans hs2'
    obtain ⟨te, ve, hce⟩ := (HW1.out.since hs2').err
    have hcell : w2.cell? ⟨W.heap.size, 0, none⟩ = some (.int .i64 0) := cell_since hs2' (by rw [World.cell?_alloc_at _ _ _ _ rfl]; rfl)
    have hfz : w2.frozen? ⟨W.heap.size, 0, none⟩ = false := by
      have : w2.heap[W.heap.size]? = some (.cells #[.int .i64 0] 33 (0, 0)) := (hs2'.block W.heap.size (by simp)).trans (MapKept.heap_alloc W _).1
      simp [World.frozen?, this]
    have hne0 : ¬ (W.heap.size = 0) := fun e => by
      obtain ⟨t, v, h⟩ := HW.out.err
      have := World.block_lt_of_cell? _ _ h
      simp at this
      omega
    clear HRG HOK hU HIX hs2'
    go_wp2
    go_region
    all_goals go_wp2
    all_goals exact ⟨rfl, _, by simp [results, Tryd.results9, go_sem, hcell] <;> rfl, (hsW.setCell (p := ⟨W.heap.size, 0, none⟩) (Nat.le_refl _) _).drew, .inl ⟨HB.out, te, ve, rfl⟩⟩
  · have hpw : IntKind.i16.wrap (p : Int) = p := IntWalk.i16_in _ (by omega)
    have hpn : IntKind.i16.wrap (-(p : Int)) = -(p : Int) := IntWalk.i16_in _ (by omega)
    have HND := Go.Lib.hid (fun w hW => newDec_any (-(M : Int)) (-(p : Int)) (by omega) w hW)
    have HBAD := Go.Lib.hid (show ((-(M : Int)) > 922337203685477 ∨ ((-(M : Int)) = 922337203685477 ∧ (-(p : Int)) > 5807) ∨ (-(M : Int)) < -922337203685477 ∨ ((-(M : Int)) = -922337203685477 ∧ (-(p : Int)) < -5808)) ↔ Bad true M p from by unfold Bad; simp; omega)
    go_enter Tryd.func9, Tryd.ntmps9
    go_wp2_with fail
    refine (HIX.out _).mono ?_
    rintro e w1 ⟨rfl, rfl⟩
    go_wp2_with fail
    refine (HOK.out hr _).mono ?_
    rintro e w2 ⟨rfl, hb2⟩
    go_wp2_with fail
    refine (hU.out _).mono ?_
    rintro e w3 ⟨rfl, hb3'⟩
    have hb3 := hb2.trans hb3'
    have HW3 := Go.Lib.hid (HW1.out.since hb3)
    clear HRG HOK hU HIX hb2 hb3'
    go_wp2_with fail
    refine (pow10_zero _ HW3.out).mono ?_
    rintro e w4 ⟨rfl, hb4'⟩
    have hb4 := hb3.trans hb4'
    have HW4 := Go.Lib.hid (HW1.out.since hb4)
    have fc := fconv
    clear HW3 hb3 hb4'
    go_wp2_with fail
    refine (HND.out _ HW4.out).mono ?_
    rintro e w5 ⟨hb5', h5⟩
    have hb5 := hb4.trans hb5'
    have hsW : Since W w5 := ((Since.refl W).alloc _).trans hb5
    have hcell : w5.cell? ⟨W.heap.size, 0, none⟩ = some (.int .i64 0) := cell_since hb5 (by rw [World.cell?_alloc_at _ _ _ _ rfl]; rfl)
    have hfz : w5.frozen? ⟨W.heap.size, 0, none⟩ = false := by
      have : w5.heap[W.heap.size]? = some (.cells #[.int .i64 0] 33 (0, 0)) := (hb5.block W.heap.size (by simp)).trans (MapKept.heap_alloc W _).1
      simp [World.frozen?, this]
    clear HND HW4 hb4 hb5'
    rcases h5 with ⟨hbad, ty, v, rfl⟩ | ⟨hok, rfl⟩
    · have HB := Go.Lib.hid (HBAD.out.1 hbad)
      clear hbad HBAD
      go_wp2
      exact ⟨rfl, _, by simp [results, Tryd.results9, go_sem, hcell] <;> rfl, hsW.setCell (p := ⟨W.heap.size, 0, none⟩) (Nat.le_refl _) _, .inl ⟨HB.out, ty, v, rfl⟩⟩
    · have HB := Go.Lib.hid (fun h => hok (HBAD.out.2 h))
      clear hok HBAD
      go_wp2
      exact ⟨rfl, _, by simp [results, Tryd.results9, go_sem, hcell] <;> rfl, hsW.setCell (p := ⟨W.heap.size, 0, none⟩) (Nat.le_refl _) _, .inr ⟨HB.out, rfl⟩⟩

set_option maxRecDepth 100000 in
set_option maxHeartbeats 4000000 in
theorem pd_false (D1 D2 : Bs) (hd1 : Digs D1) (hne : D1 ≠ []) (l1 : D1.length ≤ 30) (hd2 : Digs D2) (l2 : D2.length = 4) (hp : num D2 < 10000) (W : World) (hW : DecW W) :
    Calls Tryd.prog 9 #[.string (bs (D1 ++ 46 :: D2))] W (PPost false (num D1) (num D2) W) := by
  have hlen : (D1 ++ 46 :: D2).length = D1.length + 5 := by simp [l2]
  have hl1 : D1.length ≤ 31 := by first | omega | (simp; omega)
  have hl0 : 0 < D1.length := by exact List.length_pos_iff.2 hne
  have hnp : ∀ c ∈ D1, c.toNat ≠ 46 := by
    intro c hc
    skip
    skip
    have := hd1 c hc; omega
  have HIX := Go.Lib.hid (fun w => index_any D1 D2 hnp (by omega) w)
  have hs1 := slice_mid (D1 ++ 46 :: D2) 0 (D1.length : Int) 0 D1.length rfl (by simp) (by omega)
  rw [show ((D1 ++ 46 :: D2).drop 0).take D1.length = D1 from by rw [List.drop_zero, List.take_append_of_le_length (Nat.le_refl _), List.take_of_length_le (Nat.le_refl _)]] at hs1
  have hs2 := slice_from (D1 ++ 46 :: D2) ((D1.length : Int) + 1) (D1.length + 1) (by omega) (by omega)
  rw [show (D1 ++ 46 :: D2).drop (D1.length + 1) = D2 from by rw [← List.drop_drop, List.drop_left]; rfl] at hs2
  have hdat1 : (bs D1).data.toList = D1 := by simp [bs]
  have hdat2 : (bs D2).data.toList = D2 := by simp [bs]
  have hsz1 := bs_size D1
  have hsz2 := bs_size D2
  rw [l2] at hsz2
  obtain ⟨p1, p2⟩ := parse_pos hd1 hne
  have hU := Go.Lib.hid (fun w => uint_ok (bs D2) (by omega) (num D2) (by rw [hdat2]; exact parseU16 hd2 (by intro e; rw [e] at l2; cases l2) (by omega)) w)
  have HOK := Go.Lib.hid (fun (h : ¬ (9223372036854775808 ≤ num D1)) w => int_ok (bs D1) (by omega) (num D1 : Int) (by rw [hdat1]; exact p1 (by omega)) w)
  have HRG := Go.Lib.hid (fun (h : 9223372036854775808 ≤ num D1) w hW => int_range (bs D1) (by omega) (by rw [hdat1]; exact p2 h) w hW)
  have hi0 : ∃ x : UInt8, (D1 ++ 46 :: D2)[0]? = some x ∧ x.toNat ≠ 45 := by
    cases D1 with
    | nil => exact absurd rfl hne
    | cons c r => exact ⟨c, rfl, by have := hd1 c List.mem_cons_self; omega⟩
  obtain ⟨x, hx0, hx1⟩ := hi0
  have hix := ix (D1 ++ 46 :: D2) 0 0 x rfl hx0
  have hx2 : ((x.toNat : Int) == 45) = false := by simp; omega
  have HW := Go.Lib.hid hW
  have hW1 : DecW (W.alloc (.cells #[.int .i64 0] 33)) := hW.since ((Since.refl W).alloc _)
  have HW1 := Go.Lib.hid hW1
  clear hW hW1 hd1 hd2 hne l1 hnp hx0 hdat1 hdat2 p1 p2 hlen
  generalize D1.length = m at *
  generalize bs (D1 ++ 46 :: D2) = s at *
  generalize bs D1 = s1 at *
  generalize bs D2 = s2 at *
  generalize num D1 = M at *
  generalize num D2 = p at *
  have hm0 : ¬ ((m : Int) < 0) := by omega
  by_cases hr : 9223372036854775808 ≤ M
  · have HB := Go.Lib.hid (show Bad false M p from .inl (by omega))
    go_enter Tryd.func9, Tryd.ntmps9
    go_wp2_with fail
    refine (HIX.out _).mono ?_
    rintro e w1 ⟨rfl, rfl⟩
    go_wp2_with fail
    refine (HRG.out hr _ HW1.out).mono ?_
    rintro e w2 ⟨⟨z, t, v, rfl⟩, hs2'⟩
    have hsW : Since W w2 := ((Since.refl W).alloc _).trans hs2'
    obtain ⟨te, ve, hce⟩ := (HW1.out.since hs2').err
    have hcell : w2.cell? ⟨W.heap.size, 0, none⟩ = some (.int .i64 0) := cell_since hs2' (by rw [World.cell?_alloc_at _ _ _ _ rfl]; rfl)
    have hfz : w2.frozen? ⟨W.heap.size, 0, none⟩ = false := by
      have : w2.heap[W.heap.size]? = some (.cells #[.int .i64 0] 33 (0, 0)) := (hs2'.block W.heap.size (by simp)).trans (MapKept.heap_alloc W _).1
      simp [World.frozen?, this]
    have hne0 : ¬ (W.heap.size = 0) := fun e => by
      obtain ⟨t, v, h⟩ := HW.out.err
      have := World.block_lt_of_cell? _ _ h
      simp at this
      omega
    clear HRG HOK hU HIX hs2'
    go_wp2
    go_region
    all_goals go_wp2
    all_goals exact ⟨rfl, _, by simp [results, Tryd.results9, go_sem, hcell] <;> rfl, (hsW.setCell (p := ⟨W.heap.size, 0, none⟩) (Nat.le_refl _) _).drew, .inl ⟨HB.out, te, ve, rfl⟩⟩
  · have hpw : IntKind.i16.wrap (p : Int) = p := IntWalk.i16_in _ (by omega)
    have hpn : IntKind.i16.wrap (-(p : Int)) = -(p : Int) := IntWalk.i16_in _ (by omega)
    have HND := Go.Lib.hid (fun w hW => newDec_any (M : Int) (p : Int) (by omega) w hW)
    have HBAD := Go.Lib.hid (show ((M : Int) > 922337203685477 ∨ ((M : Int) = 922337203685477 ∧ (p : Int) > 5807) ∨ (M : Int) < -922337203685477 ∨ ((M : Int) = -922337203685477 ∧ (p : Int) < -5808)) ↔ Bad false M p from by unfold Bad; simp; omega)
    go_enter Tryd.func9, Tryd.ntmps9
    go_wp2_with fail
    refine (HIX.out _).mono ?_
    rintro e w1 ⟨rfl, rfl⟩
    go_wp2_with fail
    refine (HOK.out hr _).mono ?_
    rintro e w2 ⟨rfl, hb2⟩
    go_wp2_with fail
    refine (hU.out _).mono ?_
    rintro e w3 ⟨rfl, hb3'⟩
    have hb3 := hb2.trans hb3'
    have HW3 := Go.Lib.hid (HW1.out.since hb3)
    clear HRG HOK hU HIX hb2 hb3'
    go_wp2_with fail
    refine (pow10_zero _ HW3.out).mono ?_
    rintro e w4 ⟨rfl, hb4'⟩
    have hb4 := hb3.trans hb4'
    have HW4 := Go.Lib.hid (HW1.out.since hb4)
    have fc := fconv
    clear HW3 hb3 hb4'
    go_wp2_with fail
    refine (HND.out _ HW4.out).mono ?_
    rintro e w5 ⟨hb5', h5⟩
    have hb5 := hb4.trans hb5'
    have hsW : Since W w5 := ((Since.refl W).alloc _).trans hb5
    have hcell : w5.cell? ⟨W.heap.size, 0, none⟩ = some (.int .i64 0) := cell_since hb5 (by rw [World.cell?_alloc_at _ _ _ _ rfl]; rfl)
    have hfz : w5.frozen? ⟨W.heap.size, 0, none⟩ = false := by
      have : w5.heap[W.heap.size]? = some (.cells #[.int .i64 0] 33 (0, 0)) := (hb5.block W.heap.size (by simp)).trans (MapKept.heap_alloc W _).1
      simp [World.frozen?, this]
    clear HND HW4 hb4 hb5'
    rcases h5 with ⟨hbad, ty, v, rfl⟩ | ⟨hok, rfl⟩
    · have HB := Go.Lib.hid (HBAD.out.1 hbad)
      clear hbad HBAD
      go_wp2
      exact ⟨rfl, _, by simp [results, Tryd.results9, go_sem, hcell] <;> rfl, hsW.setCell (p := ⟨W.heap.size, 0, none⟩) (Nat.le_refl _) _, .inl ⟨HB.out, ty, v, rfl⟩⟩
    · have HB := Go.Lib.hid (fun h => hok (HBAD.out.2 h))
      clear hok HBAD
      go_wp2
      exact ⟨rfl, _, by simp [results, Tryd.results9, go_sem, hcell] <;> rfl, hsW.setCell (p := ⟨W.heap.size, 0, none⟩) (Nat.le_refl _) _, .inr ⟨HB.out, rfl⟩⟩

end Go.Proofs.YtlcalmdjgllkcaaDoor.Dec
