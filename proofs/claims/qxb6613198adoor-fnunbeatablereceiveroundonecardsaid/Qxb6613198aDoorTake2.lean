import Derived.Test.Qxb6613198aDoorTake
import Derived.Laws.IdiomCopy
namespace Go.Proofs.Qxb6613198aDoor
open Go.ChangeShapes Go.WideShapes Go.ChangeAt Go.RowKit
open Plain
set_option linter.unusedVariables false

def tookL (es : List Ent) (L : List Int) (n : Nat) : List Int := if okT es L n = true then takeL es L else L
def tookI (es : List Ent) (L I : List Int) (n : Nat) : List Int := if okT es L n = true then takeI es L I else I
theorem took_no {es : List Ent} {L : List Int} {n : Nat} (h : okT es L n = false) (I : List Int) : tookL es L n = L ∧ tookI es L I n = I := by
  unfold tookL tookI; rw [h]; exact ⟨rfl, rfl⟩
theorem took_yes {es : List Ent} {L : List Int} {n : Nat} (h : okT es L n = true) (I : List Int) : tookL es L n = takeL es L ∧ tookI es L I n = takeI es L I := by
  unfold tookL tookI; rw [h]; exact ⟨rfl, rfl⟩
theorem rep_getD (n k : Nat) : (List.replicate n (0 : Int)).getD k 0 = 0 := by
  by_cases h : k < n <;> simp [List.getD, h]

theorem slice11 (w : World) (b o width : Nat) (hw : 2 ≤ width) :
    (Instr.slice 44 (.slice (some ⟨b, o, none⟩) width width) (some (.int .i64 1)) (some (.int .i64 1)) none).run Tryd.prog w = .ok (.slice (some ⟨b, o + 1, none⟩) 0 (width - 1)) w := by
  have hs : (sizeOf (Tryd.prog.elem 44)).run Tryd.prog w = .ok 1 w := by kernel_rfl
  have he : Tryd.prog.underlying 44 = some (.slice (Tryd.prog.elem 44)) := by kernel_rfl
  have h := run_slice_lh (P := Tryd.prog) w 44 (some ⟨b, o, none⟩) width width he .i64 .i64 1 1 (by omega) (by omega) (by omega)
  rw [h, hs]
  have ne : ¬ width = 1 := by omega
  simp [Result.andThen, sliced, ne, Addr.add]

set_option maxHeartbeats 8000000 in
set_option maxRecDepth 100000 in
theorem take_any (w : World) (n width br rl rf ri re bv bl bi bh bs m : Nat) (cr : Value) (L I RL RF RI : List Int) (es : List Ent) (hr : Rcv w n br rl rf ri re RL RF RI) (hs : Says es RL RF RI) (he : es.length = n) (hok : ∀ e ∈ es, e.ok)
    (hv : Blk w bv (viewC n bl bi bh bs m cr) 48) (hL : Blk w bl (ints L) 3) (lL : L.length = n) (hI : Blk w bi (ints I) 3) (lI : I.length = n) (hh : Blk w bh (heardC bs n width) 44) (hw : 2 ≤ width) (hw2 : width ≤ 70000) (hn : n ≤ 64)
    (hlow : ∀ h, h < n → -1 ≤ L.getD h 0 ∧ L.getD h 0 ≤ 0) (hne : ∀ x ∈ [br, rl, rf, ri, re, bv, bh], x ≠ bl ∧ x ≠ bi) (hli : bl ≠ bi) :
    Calls Tryd.prog 24 #[.pointer (some ⟨bv, 0, none⟩), .pointer (some ⟨br, 0, none⟩)] w fun e w' => e = .returned (.bool (okT es L n)) ∧ Blk w' bl (ints (tookL es L n)) 3 ∧ Blk w' bi (ints (tookI es L I n)) 3 ∧ Keeps [bl, bi] w w' := by
  have r2 := hr.r.cell 2
  have r1 := hr.r.cell 1
  have v1 := hv.cell 1
  simp [recvC, viewC] at r1 r2 v1
  have HR := hideIt hr
  have HS := hideIt hs
  have HE := hideIt he
  have HOK := hideIt hok
  have HV := hideIt hv
  have HL := hideIt hL
  have LL := hideIt lL
  have HI := hideIt hI
  have LI := hideIt lI
  have HH := hideIt hh
  have HLOW := hideIt hlow
  have HNE := hideIt hne
  clear hr hs he hok hv hL lL hI lI hh hlow hne
  go_enter Tryd.func24, Tryd.ntmps24
  go_wp2_with fail
  go_loop [17] (fun i => ∃ k : Nat, k ≤ n ∧ i = .int .i64 k ∧ Hid (okT es L k = true)) (fun i => n - (intOf i).toNat)
  case atStart => exact ⟨0, by omega, rfl, rfl⟩
  case round =>
    obtain ⟨k, hk, rfl, HK⟩ := hrel
    by_cases hlt : k < n
    · have cf := (HR.out.f.cell k).trans (ints_get RF k (by rw [HR.out.lf]; exact hlt))
      rw [HS.out.f k (by rw [HE.out]; exact hlt)] at cf
      have cl := (HL.out.cell k).trans (ints_get L k (by rw [LL.out]; exact hlt))
      obtain ⟨y, hy⟩ : ∃ y, y = L.getD k 0 := ⟨_, rfl⟩
      obtain ⟨x, hx⟩ : ∃ x, x = (entAt es k).x := ⟨_, rfl⟩
      rw [← hy] at cl
      rw [← hx] at cf
      have hyb := HLOW.out k hlt
      rw [← hy] at hyb
      have hxb : x ≤ 1 := by
        rcases entAt_ok HOK.out k (by rw [HE.out]; exact hlt) with h | h | h <;> omega
      have HX := hideIt hx
      have HY := hideIt hy
      clear hx hy
      by_cases hc : (x : Int) ≤ y + 1
      · have fin : Hid (okT es L (k + 1) = true) := by
          show _ = _
          rw [okT_succ, HK.out, ← HX.out, ← HY.out]
          simpa using hc
        go_wp2_with fail
        go_round
        case rel => exact ⟨k + 1, by omega, by go_num, fin⟩
        case measure => simp [intOf]; omega
      · have fin : Hid (okT es L n = false) := okT_of hlt (by rw [← HX.out, ← HY.out]; exact hc)
        go_wp2_with fail
        go_ret
        exact ⟨by rw [fin.out]; rfl, by rw [(took_no fin.out I).1]; exact HL.out, by rw [(took_no fin.out I).2]; exact HI.out, Keeps.refl _ _⟩
    · obtain rfl : n = k := by omega
      go_wp2_with fail
      go_loopw [38] (fun i wr => ∃ k : Nat, k ≤ n ∧ i = .int .i64 k ∧ Hid (Blk wr bl (ints (takeLk es L k)) 3 ∧ Blk wr bi (ints (takeIk es L I k)) 3 ∧ Keeps [bl, bi] w wr)) (fun i _ => n - (intOf i).toNat)
      case atStart => exact ⟨0, by omega, rfl, by rw [takeLk_zero]; exact HL.out, by rw [takeIk_zero]; exact HI.out, Keeps.refl _ _⟩
      case round =>
        obtain ⟨k, hk, rfl, HB⟩ := hrel
        clear r1 r2 v1
        by_cases hlt' : k < n
        · have g : ∀ x, x ∈ [br, rl, rf, ri, re, bv, bh] → x ∉ [bl, bi] := fun x hx => by simpa using HNE.out x hx
          have u1 := (HB.out.2.2.blk HV.out (g _ (by simp))).cell 1
          simp [viewC] at u1
          have cL := ((HB.out.2.2.blk HR.out.l (g _ (by simp))).cell k).trans (ints_get RL k (by rw [HR.out.ll]; exact hlt'))
          rw [HS.out.l k (by rw [HE.out]; exact hlt')] at cL
          have cl := (HB.out.1.cell k).trans (ints_get _ k (by rw [takeLk_len, LL.out]; exact hlt'))
          rw [takeLk_get _ _ _ (by rw [LL.out]; exact hlt')] at cl
          obtain ⟨y, hy⟩ : ∃ y, y = L.getD k 0 := ⟨_, rfl⟩
          obtain ⟨c, hc⟩ : ∃ c, c = (entAt es k).c := ⟨_, rfl⟩
          rw [← hy] at cl
          rw [← hc] at cL
          have hyb := HLOW.out k hlt'
          rw [← hy] at hyb
          have hcb : c ≤ 1 := by
            rcases entAt_ok HOK.out k (by rw [HE.out]; exact hlt') with h | h | h <;> omega
          have HC := hideIt hc
          have HY := hideIt hy
          clear hc hy g
          by_cases hcy : (c : Int) - 1 ≤ y
          · have fin := hideIt (And.intro (takeLk_skip es L k (by rw [← HC.out, ← HY.out]; exact hcy)) (takeIk_skip es L I k (by rw [← HC.out, ← HY.out]; exact hcy)))
            go_wp2_with fail
            go_roundw
            case rel => exact ⟨k + 1, by omega, by go_num, by rw [← fin.out.1]; exact HB.out.1, by rw [← fin.out.2]; exact HB.out.2.1, HB.out.2.2⟩
            case measure => simp [intOf]; omega
          · obtain rfl : c = 1 := by omega
            obtain rfl : y = -1 := by omega
            rw [show (((1 : Nat) : Int) - 1) = 0 from rfl] at cL
            have g : ∀ x, x ∈ [br, rl, rf, ri, re, bv, bh] → x ∉ [bl, bi] := fun x hx => by simpa using HNE.out x hx
            have gi : ∀ x, x ∈ [br, rl, rf, ri, re, bv, bh] → ¬ x = bi := fun x hx => (HNE.out x hx).2
            have hx0 : (entAt es k).x = 0 := by
              have h1 : decide (((entAt es k).x : Int) ≤ L.getD k 0 + 1) = true := by
                have h2 := HK.out
                simp only [okT, List.all_eq_true, List.mem_range] at h2
                exact h2 k hlt'
              rw [← HY.out] at h1
              have h3 := of_decide_eq_true h1
              omega
            have B := HB.out.2.2
            have u2 := (B.blk HV.out (g _ (by simp))).cell 2
            have u3 := (B.blk HV.out (g _ (by simp))).cell 3
            have s2 := (B.blk HR.out.r (g _ (by simp))).cell 2
            have s3 := (B.blk HR.out.r (g _ (by simp))).cell 3
            have s4 := (B.blk HR.out.r (g _ (by simp))).cell 4
            have s5 := (B.blk HR.out.r (g _ (by simp))).cell 5
            simp [viewC, recvC] at u2 u3 s2 s3 s4 s5
            have ch := ((B.blk HH.out (g _ (by simp))).cell k).trans (heardC_get bs n width k hlt')
            have ci := ((B.blk HR.out.i (g _ (by simp))).cell k).trans (ints_get RI k (by rw [HR.out.li]; exact hlt'))
            rw [HS.out.i k (by rw [HE.out]; exact hlt') HC.out.symm hx0] at ci
            have cf := ((B.blk HR.out.f (g _ (by simp))).cell k).trans (ints_get RF k (by rw [HR.out.lf]; exact hlt'))
            rw [HS.out.f k (by rw [HE.out]; exact hlt'), hx0] at cf
            have ce := ((B.blk HR.out.e (g _ (by simp))).cell k).trans (ints_get _ k (by simp; omega))
            have ce1 := ((B.blk HR.out.e (g _ (by simp))).cell (k + 1)).trans (ints_get _ (k + 1) (by simp; omega))
            rw [rep_getD] at ce
            rw [rep_getD] at ce1
            have cb := (HB.out.2.1.cell k).trans (ints_get _ k (by rw [takeIk_len, LI.out]; exact hlt'))
            have fb := HB.out.2.1.frozen k
            obtain ⟨vv, hvv⟩ : ∃ vv, vv = (entAt es k).v := ⟨_, rfl⟩
            rw [← hvv] at ci
            have HVV := hideIt hvv
            have G := hideIt g
            have GI := hideIt gi
            have e1 := gi bv (by simp)
            have e2 := gi br (by simp)
            have e3 := gi ri (by simp)
            have i1 : (0 : Int) ≤ (k : Int) := by omega
            have i2 : (k : Int) < (n : Int) := by omega
            have HX0 := hideIt hx0
            clear g gi B hx0 hvv
            go_wp2_with fail
            go_region_held3 (fun w' => w'.cell? ⟨bv, 2, none⟩ = some (.slice (some ⟨bi, 0, none⟩) n n) ∧ w'.cell? ⟨br, 3, none⟩ = some (.slice (some ⟨ri, 0, none⟩) n n) ∧ w'.cell? ⟨ri, k, none⟩ = some (.int .i64 (vv : Int))) (first | exact ⟨cell_set_drew e1 u2, cell_set_drew e2 s3, cell_set_drew e3 ci⟩ | go_keep) (fail)
            obtain ⟨W, hW⟩ : ∃ W, W = (wr.setCell ⟨bi, k, none⟩ (.int .i64 (vv : Int))).drew := ⟨_, rfl⟩
            rw [← hW]
            have K1 : Keeps [bi] wr W := by rw [hW]; exact ((Keeps.refl [bi] wr).setCell (by simp) _).drew
            have K2 : Keeps [bl, bi] w W := HB.out.2.2.trans (K1.mono (by simp))
            have bI : Blk W bi (ints (takeIk es L I (k + 1))) 3 := by
              have := HB.out.2.1.set k (.int .i64 (vv : Int))
              rw [ints_set, takeIk_set es L I k (by rw [LI.out]; exact hlt') _ (by rw [HVV.out]) (by rw [← HC.out, ← HY.out]; decide)] at this
              rw [hW]; exact this
            have bL : Blk W bl (ints (takeLk es L k)) 3 := K1.blk HB.out.1 (by simpa using hli)
            have HWW := hideIt (And.intro K2 (And.intro bI bL))
            clear hW K1 K2 bI bL u1 u2 u3 s2 s3 s4 s5 ch ci cf ce ce1 cb fb cl cL e1 e2 e3
            have KW := HWW.out.1
            have u1 := (KW.blk HV.out (G.out _ (by simp))).cell 1
            have u3 := (KW.blk HV.out (G.out _ (by simp))).cell 3
            have s2 := (KW.blk HR.out.r (G.out _ (by simp))).cell 2
            have s4 := (KW.blk HR.out.r (G.out _ (by simp))).cell 4
            have s5 := (KW.blk HR.out.r (G.out _ (by simp))).cell 5
            simp [viewC, recvC] at u1 u3 s2 s4 s5
            have ch := ((KW.blk HH.out (G.out _ (by simp))).cell k).trans (heardC_get bs n width k hlt')
            have cf := ((KW.blk HR.out.f (G.out _ (by simp))).cell k).trans (ints_get RF k (by rw [HR.out.lf]; exact hlt'))
            rw [HS.out.f k (by rw [HE.out]; exact hlt'), HX0.out] at cf
            have ce := ((KW.blk HR.out.e (G.out _ (by simp))).cell k).trans (ints_get _ k (by simp; omega))
            have ce1 := ((KW.blk HR.out.e (G.out _ (by simp))).cell (k + 1)).trans (ints_get _ (k + 1) (by simp; omega))
            rw [rep_getD] at ce ce1
            have cl := (HWW.out.2.2.cell k).trans (ints_get _ k (by rw [takeLk_len, LL.out]; exact hlt'))
            have fl := HWW.out.2.2.frozen k
            clear KW
            have i3 : (0 : Int) ≤ (k : Int) + 1 := by omega
            have i4 : (k : Int) + 1 < (n : Int) + 1 := by omega
            have i5 : ((k : Int) + 1).toNat = k + 1 := by omega
            have i6 : IntKind.i64.wrap ((k : Int) + 1) = (k : Int) + 1 := by rw [IntKind.wrap_i64]; omega
            have i7 : (k : Int) < (n : Int) + 1 := by omega
            have j1 : (1 : Int) ≤ (width : Int) := by omega
            have j2 : (0 : Int) ≤ (width : Int) := by omega
            have hmx : max (0 : Int) 1 = 1 := rfl
            have ne1 : ¬ width = 1 := by omega
            have j3 : 0 < width := by omega
            have j4 : 1 ≤ width := by omega
            have j5 : ¬ width = 0 := by omega
            have hsl := fun wq => slice11 wq bs (k * width) width hw
            have hcp : ∀ (d a : Option Addr) (dc sc : Nat) (ty : TypeId) (wq : World), (Builtin.copy_ #[44, 44] ty #[.slice d 0 dc, .slice a 0 sc]).run Tryd.prog wq = .ok (.int .i64 0) wq := fun d a dc sc ty wq =>
              run_copy_none wq 44 44 ty 34 d a 0 dc 0 sc (by kernel_rfl) (by kernel_rfl) rfl
            go_wp2_with fail
            go_quiet (fail)
            go_wp2_with fail
            go_quiet (fail)
            go_wp2_with fail
            go_roundw
            case rel =>
              have b1 := HWW.out.2.2.set k (.int .i64 0)
              rw [ints_set, takeLk_set es L k (by rw [LL.out]; exact hlt') 0 (by rw [← HC.out, ← HY.out]; decide)] at b1
              have k3 : Keeps [bl] W (W.setCell ⟨bl, k, none⟩ (.int .i64 0)) := (Keeps.refl _ _).setCell (by simp) _
              exact ⟨k + 1, by omega, by go_num, b1, k3.blk HWW.out.2.1 (by simpa using Ne.symm hli), (HWW.out.1.drewN _).setCell (by simp) _⟩
            case measure => simp [intOf]; omega
        · obtain rfl : n = k := by omega
          go_wp2_with fail
          go_ret
          refine ⟨by rw [HK.out]; rfl, ?_, ?_, HB.out.2.2⟩
          · have := HB.out.1
            rw [show takeLk es L n = takeL es L from by rw [← LL.out]; exact takeLk_all es L] at this
            rw [(took_yes HK.out I).1]
            exact this
          · have := HB.out.2.1
            rw [show takeIk es L I n = takeI es L I from by rw [← LI.out]; exact takeIk_all es L I] at this
            rw [(took_yes HK.out I).2]
            exact this
end Go.Proofs.Qxb6613198aDoor
