import Derived.Test.Qxb6613198aDoorCrash
import Derived.Test.Qxb6613198aDoorShelf
namespace Go.Proofs.Qxb6613198aDoor
open Go.ChangeShapes Go.WideShapes Go.ChangeAt Go.RowKit
open Plain
set_option linter.unusedVariables false

/-- What 'v.crashed' may hold: nothing yet, or a row of n numbers. -/
def Crs (w : World) (bv n : Nat) (cr : Value) (avoid : List Nat) : Prop := cr = .slice none 0 0 ∨ ∃ bc C, cr = .slice (some ⟨bc, 0, none⟩) n n ∧ Blk w bc (ints C) 3 ∧ C.length = n ∧ bc ∉ avoid ∧ bc ≠ bv

/-- zeroed, whatever 'v.crashed' holds. -/
theorem zeroed_any (w : World) (bv n : Nat) (cr : Value) (avoid : List Nat) (h1 : 1 ≤ n) (h2 : n ≤ 64) (hc : Crs w bv n cr avoid) (hav : ∀ x ∈ avoid, x < w.heap.size) (hbv : bv < w.heap.size) :
    Calls Tryd.prog 25 #[cr, .int .i64 n] w fun e w' => ∃ bc, e = .returned (.slice (some ⟨bc, 0, none⟩) n n) ∧ Blk w' bc (ints (List.replicate n 0)) 3 ∧ bc ∉ avoid ∧ bc ≠ bv ∧ Keeps [bc] w w' := by
  rcases hc with rfl | ⟨bc, C, rfl, hB, hl, hn, hb⟩
  · refine (zeroed_nil n h1 h2 w).mono ?_
    rintro e w' ⟨rfl, rfl⟩
    exact ⟨w.heap.size, rfl, Blk.new _ _ _, fun hx => by have := hav _ hx; omega, by omega, (Keeps.refl _ _).alloc _⟩
  · refine (zeroed_again n bc C h1 h2 w hB hl).mono ?_
    rintro e w' ⟨rfl, h3, h4⟩
    exact ⟨bc, rfl, h3, hn, hb, h4⟩

/-- The same, as 'crashedBy' meets it. -/
theorem zeroed_at (w : World) (bv n bl bi bh bs m : Nat) (cr : Value) (avoid : List Nat) (hv : Blk w bv (viewC n bl bi bh bs m cr) 48) (h1 : 1 ≤ n) (h2 : n ≤ 64) (hc : Crs w bv n cr avoid) (hav : ∀ x ∈ avoid, x < w.heap.size) :
    Calls Tryd.prog 25 #[cr, .int .i64 n] w fun e w' => ∃ bc, e = .returned (.slice (some ⟨bc, 0, none⟩) n n) ∧ w'.cell? ⟨bv, 5, none⟩ = some cr ∧ w'.frozen? ⟨bv, 5, none⟩ = false ∧
      Hid (Blk w' bc (ints (List.replicate n 0)) 3 ∧ Blk w' bv (viewC n bl bi bh bs m cr) 48 ∧ bc ∉ avoid ∧ bc ≠ bv ∧ Keeps [bc] w w') := by
  refine (zeroed_any w bv n cr avoid h1 h2 hc hav hv.lt).mono ?_
  rintro e w' ⟨bc, rfl, hB, hn, hb, hk⟩
  have hv' := hk.blk hv (by simpa using Ne.symm hb)
  exact ⟨bc, rfl, hv'.cell 5, hv'.frozen 5, hB, hv', hn, hb, hk⟩

theorem tz_any (x : Nat) (hx : x < 18446744073709551616) (w : World) (hT : TabAt 0 Lib.deBruijn64tab w) :
    Calls Tryd.prog 27 #[.int .u64 x] w fun e w' => e = .returned (.int .i64 (Lib.ctz 64 x)) ∧ w' = w :=
  Any7.bits_TrailingZeros64 Tryd.lays29 x hx w fun _ => hT

theorem tab_keeps {w w' : World} {bs : List Nat} (h : TabAt 0 Lib.deBruijn64tab w) (hk : Keeps bs w w') (h0 : 0 ∉ bs) (hs : 0 < w.heap.size) : TabAt 0 Lib.deBruijn64tab w' := by
  intro j hj
  rw [World.cell?_of_block (w := w) (a := ⟨0, j, none⟩) (hk.block 0 hs h0)]
  exact h j hj

theorem evy_eq (n : Nat) (h1 : 1 ≤ n) (h2 : n ≤ 64) : evy n = ((2 ^ n - 1 : Nat) : Int) := by
  unfold evy
  rw [← evy_nat n h1 h2, Int.natCast_ediv, Int.natCast_pow]; rfl

theorem not_two {a b c : Nat} (h1 : a ≠ b) (h2 : a ≠ c) : a ∉ [b, c] := by simp [h1, h2]
theorem ne_of_avoid {a c : Nat} {avoid : List Nat} (h : a ∈ avoid) (k : c ∉ avoid) : a ≠ c := fun e => k (e ▸ h)
theorem and_low (x : Nat) (h0 : x ≠ 0) (h : x < 2 ^ 64) : bits BinOp.and IntKind.u64 (x : Int) ((x : Int) - 1) = ((x &&& (x - 1) : Nat) : Int) := by
  rw [show (x : Int) - 1 = ((x - 1 : Nat) : Int) from by omega]
  exact bits_and_u64_nat x (x - 1) (by omega) (by omega)
theorem andNot_all (n H : Nat) (h1 : 1 ≤ n) (h2 : n ≤ 64) (hH : H < 2 ^ 64) : bits BinOp.andNot IntKind.u64 (evy n) (H : Int) = ((missing n H : Nat) : Int) := by
  rw [evy_eq n h1 h2]
  have h3 : 2 ^ n ≤ 2 ^ 64 := Nat.pow_le_pow_right (by decide) h2
  have h4 := Nat.two_pow_pos n
  exact u64_andNot_nat (2 ^ n - 1) H (by omega) (by omega)

set_option maxHeartbeats 2000000 in
theorem crashed_any (w : World) (bv n bl bi bh bs m width id H M : Nat) (cr : Value) (avoid : List Nat) (L S : List Int) (hv : Blk w bv (viewC n bl bi bh bs m cr) 48) (h1 : 1 ≤ n) (h2 : n ≤ 64) (hc : Crs w bv n cr avoid) (hav : ∀ x ∈ avoid, x < w.heap.size)
    (hL : Blk w bl (ints L) 3) (lL : L.length = n) (hh : Blk w bh (heardC bs n width) 44) (hs : Blk w bs (u64s S) 34) (lS : S.length = n * width) (hid : id < n)
    (hlow : ∀ h, h < n → h ≠ id → L.getD h 0 ≤ 0) (hM : (L.getD id 0 ≤ 0 ∧ M = 0) ∨ (L.getD id 0 = 1 ∧ 1 < width ∧ S.getD (id * width + 1) 0 = (H : Int) ∧ H < 2 ^ 64 ∧ M = missing n H))
    (av : bl ∈ avoid ∧ bh ∈ avoid ∧ bs ∈ avoid ∧ 0 ∈ avoid) (nv : bl ≠ bv ∧ bh ≠ bv ∧ bs ≠ bv ∧ 0 ≠ bv) (hT : TabAt 0 Lib.deBruijn64tab w) :
    Calls Tryd.prog 21 #[.pointer (some ⟨bv, 0, none⟩)] w fun e w' => ∃ bc, e = .returned (.slice (some ⟨bc, 0, none⟩) n n) ∧ Blk w' bc (ints (byOf n M)) 3 ∧ Blk w' bv (viewC n bl bi bh bs m (.slice (some ⟨bc, 0, none⟩) n n)) 48 ∧ bc ∉ avoid ∧ bc ≠ bv ∧ Keeps [bv, bc] w w' := by
  have v0 := hv.cell 0
  have v5 := hv.cell 5
  simp [viewC] at v0 v5
  have HV := hideIt hv
  have HC := hideIt hc
  have HA := hideIt hav
  have HL := hideIt hL
  have LL := hideIt lL
  have HH := hideIt hh
  have HS := hideIt hs
  have LS := hideIt lS
  have HLOW := hideIt hlow
  have HM := hideIt hM
  have AV := hideIt av
  have NV := hideIt nv
  have HT := hideIt hT
  clear hv hc hav hL lL hh hs lS hlow hM av nv hT
  go_enter Tryd.func21, Tryd.ntmps21
  go_wp2
  go_cut [] (fun wc => ∃ bc, Hid (Blk wc bc (ints (List.replicate n 0)) 3 ∧ Blk wc bv (viewC n bl bi bh bs m (.slice (some ⟨bc, 0, none⟩) n n)) 48 ∧ bc ∉ avoid ∧ bc ≠ bv ∧ Keeps [bv, bc] w wc))
  case first =>
    go_region_with (go_at_call 25; refine (zeroed_at _ bv n bl bi bh bs m cr avoid (by exact HV.out) h1 h2 (by exact HC.out) (by exact HA.out)).mono ?_; rintro e w' ⟨bc, rfl, q5, f5, HQ⟩)
    all_goals
      go_wp2_with fail
      go_meet
      case rel =>
        obtain ⟨k1, k2, k3, k4, k5⟩ := HQ.out
        exact ⟨bc, (((Keeps.refl [bv] _).setCell (by simp) _).blk k1 (by simpa using k4)), (k2.set 5 _), k3, k4, ((Keeps.refl [bv, bc] w).drew.trans (k5.mono (by simp))).setCell (by simp) _⟩
  case rest =>
    obtain ⟨bc, HQ⟩ := hcut
    have q5 := HQ.out.2.1.cell 5
    simp [viewC] at q5
    clear v0 v5
    go_wp2
    go_loopw [29] (fun i wr => ∃ k : Nat, k ≤ n ∧ i = .int .i64 k ∧ Hid (Blk wr bc (ints (fillTo (List.replicate n 0) k MAXI)) 3 ∧ Keeps [bv, bc] w wr ∧ Blk wr bv (viewC n bl bi bh bs m (.slice (some ⟨bc, 0, none⟩) n n)) 48)) (fun i _ => n - (intOf i).toNat)
    case atStart => exact ⟨0, by omega, rfl, by rw [fillTo_zero]; exact HQ.out.1, HQ.out.2.2.2.2, HQ.out.2.1⟩
    case round =>
      obtain ⟨k, hk, rfl, HB⟩ := hrel
      by_cases hlt : k < n
      · have dk : wr.cell? ⟨bc, k, none⟩ = _ := (HB.out.1.cell k).trans (ints_get _ k (by rw [fillTo_len _ _ _ (by simp; omega)]; simpa using hlt))
        have df := HB.out.1.frozen k
        have B' := HB.out.1.set k (.int .i64 9223372036854775807)
        rw [ints_set, show (9223372036854775807 : Int) = MAXI from rfl, fillTo_succ _ _ _ (by simpa using hlt)] at B'
        have HB' := hideIt B'
        have HK' := hideIt (HB.out.2.1.setCell (b := bc) (i := k) (by simp) (.int .i64 9223372036854775807))
        have HV' := hideIt (((Keeps.refl [bc] wr).setCell (b := bc) (i := k) (by simp) (.int .i64 9223372036854775807)).blk HB.out.2.2 (by simpa using Ne.symm HQ.out.2.2.2.1))
        clear B' q5
        go_wp2
        go_roundw
        case rel => exact ⟨k + 1, by omega, by go_num, HB'.out, HK'.out, HV'.out⟩
        case measure => simp [intOf]; omega
      · obtain rfl : n = k := by omega
        have B0 : Blk wr bc (ints (byOf n 0)) 3 := by
          have := HB.out.1
          rw [show fillTo (List.replicate n 0) n MAXI = byOf n 0 from by rw [byOf_zero]; have := fillTo_all (List.replicate n (0 : Int)) MAXI; simpa using this] at this
          exact this
        have HB0 := hideIt B0
        have u0 := HB.out.2.2.cell 0
        have u1 := HB.out.2.2.cell 1
        simp [viewC] at u0 u1
        have HKV := hideIt HB.out.2
        clear B0 q5 HB
        go_wp2_with (go_at_call 26; refine (everyone_any _ h1 h2 _).mono ?_; rintro e w' ⟨rfl, rfl⟩)
        clear u0 u1
        go_loopw [46] (fun i wx => ∃ k : Nat, k ≤ n ∧ i = .int .i64 k ∧ Hid (Blk wx bc (ints (if id < k then byOf n M else byOf n 0)) 3 ∧ Keeps [bv, bc] w wx ∧ Blk wx bv (viewC n bl bi bh bs m (.slice (some ⟨bc, 0, none⟩) n n)) 48)) (fun i _ => n - (intOf i).toNat)
        case atStart => exact ⟨0, by omega, rfl, by rw [if_neg (by omega)]; exact HB0.out, HKV.out.1, HKV.out.2⟩
        case round =>
          obtain ⟨k, hk, rfl, HB⟩ := hrel
          by_cases hlt : k < n
          · have nbl : bl ∉ [bv, bc] := not_two NV.out.1 (ne_of_avoid AV.out.1 HQ.out.2.2.1)
            obtain ⟨x, hx⟩ : ∃ x, x = L.getD k 0 := ⟨_, rfl⟩
            have cl : wr.cell? ⟨bl, k, none⟩ = some (.int .i64 x) := by rw [hx]; exact ((HB.out.2.1.blk HL.out nbl).cell k).trans (ints_get L k (by rw [LL.out]; exact hlt))
            have HX := hideIt hx
            clear hx nbl
            by_cases hx0 : x ≤ 0
            · have keep : Hid ((if id < k + 1 then byOf n M else byOf n 0) = (if id < k then byOf n M else byOf n 0)) := by
                show _ = _
                by_cases e : k = id
                · subst e
                  rw [if_pos (by omega), if_neg (by omega)]
                  rcases HM.out with ⟨_, h⟩ | ⟨h, _⟩
                  · rw [h]
                  · rw [← HX.out] at h; omega
                · by_cases f : id < k
                  · rw [if_pos (by omega), if_pos f]
                  · rw [if_neg (by omega), if_neg f]
              go_wp2
              refine wp_loop_rounds 1 ?_
              rw [rounds_succ]
              go_wp2
              go_roundw
              case rel => exact ⟨k + 1, by omega, by go_num, by rw [keep.out]; exact HB.out.1, HB.out.2.1, HB.out.2.2⟩
              case measure => simp [intOf]; omega
            · have ek : k = id := by
                rcases Nat.decEq k id with e | e
                · have := HLOW.out k hlt e; rw [← HX.out] at this; omega
                · exact e
              subst ek
              obtain ⟨x1, hw, hS, hH, hMe⟩ : x = 1 ∧ 1 < width ∧ S.getD (k * width + 1) 0 = (H : Int) ∧ H < 2 ^ 64 ∧ M = missing n H := by
                rcases HM.out with ⟨h, _⟩ | ⟨h, r⟩
                · rw [← HX.out] at h; omega
                · rw [← HX.out] at h; exact ⟨h, r⟩
              subst x1
              have HSV := hideIt hS
              have HME := hideIt hMe
              clear hS hMe hx0 HX
              go_wp2
              go_loopw [8] (fun l wy => Hid (Keeps [bv, bc] w wy ∧ Blk wy bv (viewC n bl bi bh bs m (.slice (some ⟨bc, 0, none⟩) n n)) 48) ∧ ((l = .int .i64 1 ∧ Hid (Blk wy bc (ints (byOf n 0)) 3)) ∨ (l = .int .i64 2 ∧ Hid (Blk wy bc (ints (byOf n M)) 3)))) (fun l _ => (2 - intOf l).toNat)
              case atStart => exact ⟨⟨HB.out.2.1, HB.out.2.2⟩, Or.inl ⟨rfl, by have := HB.out.1; rw [if_neg (Nat.lt_irrefl _)] at this; exact this⟩⟩
              case round =>
                obtain ⟨HK3, ⟨rfl, HB3⟩ | ⟨rfl, HB3⟩⟩ := hrel
                · have nbh : bh ∉ [bv, bc] := not_two NV.out.2.1 (ne_of_avoid AV.out.2.1 HQ.out.2.2.1)
                  have nbs : bs ∉ [bv, bc] := not_two NV.out.2.2.1 (ne_of_avoid AV.out.2.2.1 HQ.out.2.2.1)
                  have u3 := HK3.out.2.cell 3
                  simp [viewC] at u3
                  have ch := ((HK3.out.1.blk HH.out nbh).cell k).trans (heardC_get bs n width k hlt)
                  have cs := ((HK3.out.1.blk HS.out nbs).cell (k * width + 1)).trans (u64s_get S (k * width + 1) (by rw [LS.out]; exact row_lt hlt hw))
                  rw [HSV.out] at cs
                  have e0 := andNot_all n H h1 h2 hH
                  clear nbh nbs cl
                  go_wp2
                  clear u3 ch cs
                  clear e0
                  go_loopw [9] (fun x wz => ∃ M' : Nat, x = .int .u64 M' ∧ Hid (M' < 2 ^ 64 ∧ (∀ i, M'.testBit i = true → M.testBit i = true) ∧ Blk wz bc (ints (byPart n M M')) 3 ∧ Keeps [bv, bc] w wz ∧ Blk wz bv (viewC n bl bi bh bs m (.slice (some ⟨bc, 0, none⟩) n n)) 48)) (fun x _ => (intOf x).toNat)
                  case atStart => exact ⟨missing n H, rfl, missing_lt n H h2, by rw [HME.out]; exact fun _ h => h, by rw [← HME.out, byPart_start]; exact HB3.out, HK3.out.1, HK3.out.2⟩
                  case round =>
                    obtain ⟨M', rfl, H4⟩ := hrel
                    by_cases hz : M' = 0
                    · subst hz
                      go_wp2
                      go_roundw
                      case rel => exact ⟨⟨H4.out.2.2.2.1, H4.out.2.2.2.2⟩, Or.inr ⟨rfl, by have := H4.out.2.2.1; rw [byPart_end] at this; exact this⟩⟩
                      case measure => simp [intOf]
                    · have e9 : ((M' : Int) != 0) = true := by rw [bne_iff_ne]; omega
                      obtain ⟨l1, l2, l3, l4⟩ := low_spec M' hz H4.out.1
                      obtain ⟨j, hj⟩ : ∃ j, j = Lib.ctz 64 M' := ⟨_, rfl⟩
                      have hjn : j < n := by
                        have := H4.out.2.1 j (by rw [hj]; exact l2)
                        rw [HME.out, missing_bit n H j h2 hH] at this
                        simp at this
                        exact this.1
                      have cj : wr.cell? ⟨bc, j, none⟩ = some (.int .i64 9223372036854775807) := by
                        refine (H4.out.2.2.1.cell j).trans ((ints_get _ j (by rw [byPart_len]; exact hjn)).trans ?_)
                        rw [byPart_get _ _ _ _ hjn, if_neg (by rw [hj, l2]; simp)]
                        rfl
                      have fj := H4.out.2.2.1.frozen j
                      have B' := H4.out.2.2.1.set j (.int .i64 1)
                      rw [ints_set, hj, byPart_step n M M' hz H4.out.1 H4.out.2.1, ← hj] at B'
                      have HB' := hideIt B'
                      have HK' := hideIt (H4.out.2.2.2.1.setCell (b := bc) (i := j) (by simp) (.int .i64 1))
                      have HV' := hideIt (((Keeps.refl [bc] wr).setCell (b := bc) (i := j) (by simp) (.int .i64 1)).blk H4.out.2.2.2.2 (by simpa using Ne.symm HQ.out.2.2.2.1))
                      have HTW := hideIt (tab_keeps HT.out H4.out.2.2.2.1 (not_two NV.out.2.2.2 (ne_of_avoid AV.out.2.2.2 HQ.out.2.2.1)) (by have := HA.out 0 AV.out.2.2.2; exact this))
                      have e10 := hideIt (and_low M' hz H4.out.1)
                      have hjl : j < 64 := by omega
                      have HJ := hideIt hj
                      have L3 := hideIt l3
                      have L4 := hideIt l4
                      have HZ := hideIt hz
                      have hpos : (1 : Int) ≤ (M' : Int) := by omega
                      have hmx : (M' : Int) ≤ 18446744073709551615 := by have := H4.out.1; omega
                      clear B' l1 l2 l3 l4 hj hz
                      go_wp2_with (go_at_call 27; refine (tz_any M' (by omega) _ HTW.out).mono ?_; rintro e w' ⟨rfl, rfl⟩; rw [← HJ.out])
                      go_roundw
                      case rel =>
                        rw [show min (9223372036854775807 : Int) 1 = 1 from by omega]
                        exact ⟨M' &&& (M' - 1), congrArg (Value.int .u64) e10.out, Nat.lt_trans L4.out H4.out.1, fun i hi => H4.out.2.1 i (by rw [L3.out i] at hi; simp at hi; exact hi.1), HB'.out, HK'.out, HV'.out⟩
                      case measure =>
                        show (bits BinOp.and IntKind.u64 (M' : Int) ((M' : Int) - 1)).toNat < ((M' : Int)).toNat
                        rw [e10.out]
                        have := L4.out
                        omega
                · go_wp2
                  go_roundw
                  case rel => exact ⟨k + 1, by omega, by go_num, by rw [if_pos (by omega)]; exact HB3.out, HK3.out.1, HK3.out.2⟩
                  case measure => simp [intOf]; omega
          · obtain rfl : n = k := by omega
            have fin := hideIt HB.out.1
            go_wp2
            go_ret
            exact ⟨bc, rfl, by have := HB.out.1; rw [if_pos hid] at this; exact this, HB.out.2.2, HQ.out.2.2.1, HQ.out.2.2.2.1, HB.out.2.1⟩
end Go.Proofs.Qxb6613198aDoor
