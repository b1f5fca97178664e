import Derived.Test.Qxb6613198aDoorMain0
import Derived.Deep.DeepCutAuto
import Derived.Deep.CutRange
namespace Go.Proofs.Qxb6613198aDoor
open Go.ChangeShapes Go.WideShapes Go.ChangeAt Go.RowKit
open Plain
set_option linter.unusedVariables false
set_option linter.unusedSimpArgs false

set_option maxHeartbeats 16000000 in
set_option maxRecDepth 100000 in
theorem law3_in (w : World) (id n lr NN fc pc h : Nat) (input : Int) (fo po : Option Addr) (pa : Nat → Option Addr) (pl pcap : Nat → Nat) (ms : List Msg) (now : Bool) (s : PS) (dec' : Bool) (val' rnd' : Int)
    (hz : Calls Tryd.prog 5 #[.int .i64 id, .int .i64 n, .int .i64 input, .int .i64 lr, .slice fo NN fc, .slice po NN pc] w fun e w' => RetL pl NN e ∧ w = w')
    (HP : Hid (∀ i, i < NN → ∃ g o, po = some ⟨g, o, none⟩ ∧ w.cell? ⟨g, o + i, none⟩ = some (.slice (pa i) (pl i) (pcap i))))
    (HIN0 : Hid ((∀ i, i < NN → pl i ≤ 1048576) → Inp w.heap.size w fo po NN ms)) (HT0 : Hid (∀ i (hi : i < ms.length), ms[i].t = id)) (hN : NN ≤ 32768)
    (h1 : 1 ≤ n) (hn : n ≤ 64) (hid : id < n) (hl1 : 1 ≤ lr) (hl2 : lr ≤ 65536) (hin0 : 0 ≤ input) (hin1 : input ≤ 1) (HNOW : Hid ((now = true ∧ (input = 0 ∨ n = 1)) ∨ (now = false ∧ input = 1 ∧ 2 ≤ n)))
    (HTAB : Hid (TabAt 0 Lib.deBruijn64tab w)) (HW0 : Hid (0 < w.heap.size)) (HS : Hid (s = foldM n (s1 n id input) ms)) (HH : Hid (HOk n s.H h))
    (HD : Hid (Dec now (holdsB s.L s.I n) (allB s.L n || alone h id) input dec' val' rnd')) :
    Calls Tryd.prog 3 #[.int .i64 id, .int .i64 n, .int .i64 input, .int .i64 lr, .slice fo NN fc, .slice po NN pc] w fun e w' => e = .returned (.bool true) ∧ Below w.heap.size w w' := by
  have HZ := hideIt hz
  have h8 : IntKind.i64.wrap (IntKind.i64.wrap (8 * (NN : Int)) + IntKind.i64.wrap (24 * (NN : Int))) = 32 * (NN : Int) := by
    rw [IntKind.wrap_i64, IntKind.wrap_i64, IntKind.wrap_i64]; omega
  have HM26 := hideIt (make26 ms NN (by omega))
  have m33 := make33 n hn
  have m22 := make22 n (by omega)
  clear hz
  go_enter Tryd.func3, Tryd.ntmps3
  go_wp2_with fail
  refine HZ.out.mono ?_
  rintro e w1 ⟨⟨b, rfl, hbl⟩, rfl⟩
  have HCB := hideIt hbl
  clear HZ hbl
  cases b with
  | false =>
    go_wp2_with fail
    go_ret
    exact ⟨rfl, Below.refl _ _⟩
  | true =>
    have HC : Hid (∀ i, i < NN → pl i ≤ 9223372036854775807 / 2) := fun i hi => by have := HCB.out rfl i hi; omega
    clear HCB
    go_wp2_with fail
    refine total_loop w NN pc po _ pa pl pcap _ _ _ _ _ _ _ _ _ _ _ _ _ _ _ _ _ _ _ _ _ _ _ _ _ _ _ _ _ _ _ _ _ _ _ _ _ _ _ _ _ _ _ _ _ _ _ _ _ _ _ _ _ _ _ _ _ _ _ _ _ _ _ _ _ _ _ _ _ _ _ _ _ _ _ _ _ _ _ _ _ _ _ _ _ _ _ _ _ _ _ _ _ _ _ _ _ _ _ _ _ _ _ _ _ _ _ _ _ _ _ _ _ _ _ _ _ _ _ _ _ _ _ _ _ _ _ _ _ _ _ _ _ _ _ _ _ _ _ _ _ _ _ _ _ _ _ _ _ _ _ _ _ _ _ _ _ _ _ _ _ _ _ _ _ _ _ _ _ _ _ _ _ _ _ _ _ _ _ _ _ _ _ _ _ _ _ _ _ _ _ _ _ _ _ _ _ _ _ _ _ _ _ _ _ _ _ _ _ _ _ _ _ _ _ _ _ _ _ _ _ _ _ _ _ _ _ _ _ _ _ _ _ _ _ _ _ _ _ _ _ _ _ _ _ _ _ _ _ _ _ _ _ _ _ _ _ _ _ _ _ _ _ _ _ _ _ _ _ _ _ _ _ _ _ _ _ _ _ _ _ _ _ _ _ _ _ _ _ _ _ _ _ _ _ _ _ _ _ _ _ _ _ _ _ _ _ _ _ _ _ _ _ _ _ _ _ _ _ _ _ _ _ _ _ _ _ _ _ _ _ _ _ _ _ _ _ _ _ _ _ _ _ _ _ _ _ _ _ _ _ _ _ _ _ _ _ _ _ _ _ _ _ _ _ _ _ _ _ _ _ _ _ _ _ _ _ _ _ _ _ _ _ _ _ _ _ _ _ _ _ _ _ _ _ _ _ _ _ _ _ _ _ _ _ _ _ _ _ _ _ _ _ _ _ _ _ _ _ _ _ _ _ _ _ _ _ _ _ _ _ _ _ _ _ _ _ _ _ _ _ _ _ _ _ _ _ _ _ _ _ _ _ _ _ _ _ _ _ _ _ _ _ _ _ _ _ _ _ _ _ _ _ _ _ _ _ _ _ _ _ HP (by omega) (by omega) (by omega) HC ?q1 ?q2
    case q2 =>
      intro a13 a14 a83 a84 a85 a86 a87 a88 a89 a90 a91 a92 a93 a94 a95 a96 a97
      go_wp2_with fail
      go_ret
      exact ⟨rfl, Below.refl _ _⟩
    case q1 =>
      intro a12 a13 a14 a83 a84 a85 a86 a87 a88 a89 a90 a91 a92 a93 a94 a95 a96 a97 HLEN
      have HIN := hideIt (HIN0.out HLEN.out)
      have m26 := HM26.out
      have HM0 : Hid (LI w (w.alloc (.cells (mA ms NN 0) 28)) w.heap.size NN ms 0) := ⟨Blk.new _ _ _, ((Keeps.refl [] w).alloc _).below (Nat.le_refl _) (by simp), by simp⟩
      clear HM26 HP HC HIN0 HLEN h8
      go_wp2_with fail
      refine msgs_loop w _ id NN fc pc w.heap.size fo po ms _ _ _ _ _ _ _ _ _ _ _ _ _ _ _ _ _ _ _ _ _ _ _ _ _ _ _ _ _ _ _ _ _ _ _ _ _ _ _ _ _ _ _ _ _ _ _ _ _ _ _ _ _ _ _ _ _ _ _ _ _ _ _ _ _ _ _ _ _ _ _ _ _ _ _ _ _ _ _ _ _ _ _ _ _ _ _ _ _ _ _ _ _ _ _ _ _ _ _ _ _ _ _ _ _ _ _ _ _ _ _ _ _ _ _ _ _ _ _ _ _ _ _ _ _ _ _ _ _ _ _ _ _ _ _ _ _ _ _ _ _ _ _ _ _ _ _ _ _ _ _ _ _ _ _ _ _ _ _ _ _ _ _ _ _ _ _ _ _ _ _ _ _ _ _ _ _ _ _ _ _ _ _ _ _ _ _ _ _ _ _ _ _ _ _ _ _ _ _ _ _ _ _ _ _ _ _ _ _ _ _ _ _ _ _ _ _ _ _ _ _ _ _ _ _ _ _ _ _ _ _ _ _ _ _ _ _ _ _ _ _ _ _ _ _ _ _ _ _ _ _ _ _ _ _ _ _ _ _ _ _ _ _ _ _ _ _ _ _ _ _ _ _ _ _ _ _ _ _ _ _ _ _ _ _ _ _ _ _ _ _ _ _ _ _ _ _ _ _ _ _ _ _ _ _ _ _ _ _ _ _ _ _ _ _ _ _ _ _ _ _ _ _ _ _ _ _ _ _ _ _ _ _ _ _ _ _ _ _ _ _ _ _ _ _ _ _ _ _ _ _ _ _ _ _ _ _ _ _ _ _ _ _ _ _ _ _ _ _ _ _ _ _ _ _ _ _ _ _ _ _ _ _ _ _ _ _ _ _ _ _ _ _ _ _ _ _ _ _ _ _ _ _ _ _ _ _ _ _ _ _ _ _ _ _ _ _ _ _ _ _ _ _ _ _ _ _ _ _ _ _ _ _ _ _ _ _ _ _ _ _ _ _ _ _ _ _ _ _ _ _ _ _ _ _ _ _ _ _ _ _ _ _ _ _ _ _ _ _ _ _ _ _ _ _ _ _ _ _ HM0 (by omega) HIN (Nat.le_refl _) HT0 ?_
      intro b16 b137 b138 b139 b140 b141 b142 b143 b144 b145 b146 b147 b148 b149 b150 b151 b152 b153 b154 b155 wA HLI
      clear m26 HM0
      go_wp2_with fail
      refine (new_any wA id n lr input h1 hn hid hl1 hl2 (by have := HLI.out.2.2; omega)).mono ?_
      rintro e w1 ⟨k, rl, rf, ri, re, rfl, hf⟩
      have HF := hideIt hf
      have HMS := hideIt (msgs_of HLI.out HIN.out)
      have HTA := hideIt (tab_below HTAB.out HLI.out.2.1 HW0.out)
      clear hf
      go_wp2_with fail
      refine (start_gs wA w1 id n lr input k rl rf ri re now HF.out h1 hn hid hl1 (by omega) HNOW.out HTA.out).mono ?_
      rintro e w2 ⟨rfl, cr, hg, hb⟩
      have HG := hideIt hg
      have HB2 := hideIt (HF.out.bel.trans hb)
      clear hg hb
      go_wp2_with fail
      refine (rec_at wA w2 k rl rf ri re id n lr w.heap.size h NN input now cr ms s dec' val' rnd' HIN.out.len HS.out HG.out HF.out.gap HB2.out HMS.out (by omega) h1 hn hid hl1 hl2 HTA.out HH.out HD.out).mono ?_
      rintro e w3 ⟨rfl, cr', S', HST⟩
      have HB3 : Hid (Below w.heap.size w w3) := HLI.out.2.1.trans ((HB2.out.trans HST.out.2.2).mono (by have := HLI.out.2.2; omega))
      have HIN3 := hideIt ((HIN.out.below HB3.out).mono (B' := w3.heap.size) HB3.out.size)
      have HM6 : Hid (Md w3 (six w3 n) w3.heap.size (w3.heap.size) (w3.heap.size + 1) (w3.heap.size + 1 + 1) (w3.heap.size + 1 + 1 + 1) (w3.heap.size + 1 + 1 + 1 + 1) (w3.heap.size + 1 + 1 + 1 + 1 + 1) n (List.replicate n false) (List.replicate n 0) (List.replicate n 0) (List.replicate n 0) (List.replicate n 0) (List.replicate n 0)) := md_six w3 n
      have HA6 : Hid (Ap6 w3.heap.size (w3.heap.size) (w3.heap.size + 1) (w3.heap.size + 1 + 1) (w3.heap.size + 1 + 1 + 1) (w3.heap.size + 1 + 1 + 1 + 1) (w3.heap.size + 1 + 1 + 1 + 1 + 1)) := ap_six _
      clear HIN HLI HF HMS HTA HG HB2
      go_wp2_with fail
      refine fill_loop w3 _ w3.heap.size (w3.heap.size) (w3.heap.size + 1) (w3.heap.size + 1 + 1) (w3.heap.size + 1 + 1 + 1) (w3.heap.size + 1 + 1 + 1 + 1) (w3.heap.size + 1 + 1 + 1 + 1 + 1) n _ _ _ _ _ _ _ _ _ _ _ _ _ _ _ _ _ _ _ _ _ _ _ _ _ _ _ _ _ _ _ _ _ _ _ _ _ _ _ _ _ _ _ _ _ _ _ _ _ _ _ _ _ _ _ _ _ _ _ _ _ _ _ _ _ _ _ _ _ _ _ _ _ _ _ _ _ _ _ _ _ _ _ _ _ _ _ _ _ _ _ _ _ _ _ _ _ _ _ _ _ _ _ _ _ _ _ _ _ _ _ _ _ _ _ _ _ _ _ _ _ _ _ _ _ _ _ _ _ _ _ _ _ _ _ _ _ _ _ _ _ _ _ _ _ _ _ _ _ _ _ _ _ _ _ _ _ _ _ _ _ _ _ _ _ _ _ _ _ _ _ _ _ _ _ _ _ _ _ _ _ _ _ _ _ _ _ _ _ _ _ _ _ _ _ _ _ _ _ _ _ _ _ _ _ _ _ _ _ _ _ _ _ _ _ _ _ _ _ _ _ _ _ _ _ _ _ _ _ _ _ _ _ _ _ _ _ _ _ _ _ _ _ _ _ _ _ _ _ _ _ _ _ _ _ _ _ _ _ _ _ _ _ _ _ _ _ _ _ _ _ _ _ _ _ _ _ _ _ _ _ _ _ _ _ _ _ _ _ _ _ _ _ _ _ _ _ _ _ _ _ _ _ _ _ _ _ _ _ _ _ _ _ _ _ _ _ _ _ _ _ _ _ _ _ _ _ _ _ _ _ _ _ _ _ _ _ _ _ _ _ _ _ _ _ _ _ _ _ _ _ _ _ _ _ _ _ _ _ _ _ _ _ _ _ _ _ _ _ _ _ _ _ _ _ _ _ _ _ _ _ _ _ _ _ _ _ _ _ _ _ _ _ _ _ _ _ _ _ _ _ _ _ _ _ _ _ _ _ _ _ _ _ _ _ _ _ _ _ _ _ _ _ _ _ _ _ _ _ _ _ _ _ _ _ _ _ _ _ _ _ _ _ _ _ _ _ _ _ _ _ _ _ _ _ _ _ _ _ _ _ _ _ _ _ _ _ _ _ _ _ _ _ _ _ _ _ _ _ _ _ _ _ _ _ _ _ HM6 HA6 (Nat.le_refl _) hn ?_
      intro d24 d178 d179 d180 d181 d182 d183 d184 d185 wF HMF
      obtain ⟨cK, fK⟩ := HMF.out.cellK id hid
      obtain ⟨cI, fI⟩ := HMF.out.cellI id hid
      have HMI : Hid (MI w3 ((wF.setCell ⟨w3.heap.size, id, none⟩ (.bool true)).setCell ⟨w3.heap.size + 1, id, none⟩ (.int .i64 input)) w3.heap.size (w3.heap.size) (w3.heap.size + 1) (w3.heap.size + 1 + 1) (w3.heap.size + 1 + 1 + 1) (w3.heap.size + 1 + 1 + 1 + 1) (w3.heap.size + 1 + 1 + 1 + 1 + 1) n (s1 n id input) ms 0 (s1 n id input)) := by
        have m := (HMF.out.setK HA6.out (Nat.le_refl _) id true).setI HA6.out (Nat.le_refl _) id input
        rw [KOf_start n id hid] at m
        exact ⟨rfl, (s1_ok n id input hid).low, _, _, _, m⟩
      clear m33 m22 HM6
      go_wp2_with fail
      refine model_loop w3 _ w3.heap.size (w3.heap.size) (w3.heap.size + 1) (w3.heap.size + 1 + 1) (w3.heap.size + 1 + 1 + 1) (w3.heap.size + 1 + 1 + 1 + 1) (w3.heap.size + 1 + 1 + 1 + 1 + 1) n NN fc pc fo po (s1 n id input) ms _ _ _ _ _ _ _ _ _ _ _ _ _ _ _ _ _ _ _ _ _ _ _ _ _ _ _ _ _ _ _ _ _ _ _ _ _ _ _ _ _ _ _ _ _ _ _ _ _ _ _ _ _ _ _ _ _ _ _ _ _ _ _ _ _ _ _ _ _ _ _ _ _ _ _ _ _ _ _ _ _ _ _ _ _ _ _ _ _ _ _ _ _ _ _ _ _ _ _ _ _ _ _ _ _ _ _ _ _ _ _ _ _ _ _ _ _ _ _ _ _ _ _ _ _ _ _ _ _ _ _ _ _ _ _ _ _ _ _ _ _ _ _ _ _ _ _ _ _ _ _ _ _ _ _ _ _ _ _ _ _ _ _ _ _ _ _ _ _ _ _ _ _ _ _ _ _ _ _ _ _ _ _ _ _ _ _ _ _ _ _ _ _ _ _ _ _ _ _ _ _ _ _ _ _ _ _ _ _ _ _ _ _ _ _ _ _ _ _ _ _ _ _ _ _ _ _ _ _ _ _ _ _ _ _ _ _ _ _ _ _ _ _ _ _ _ _ _ _ _ _ _ _ _ _ _ _ _ _ _ _ _ _ _ _ _ _ _ _ _ _ _ _ _ _ _ _ _ _ _ _ _ _ _ _ _ _ _ _ _ _ _ _ _ _ _ _ _ _ _ _ _ _ _ _ _ _ _ _ _ _ _ _ _ _ _ _ _ _ _ _ _ _ _ _ _ _ _ _ _ _ _ _ _ _ _ _ _ _ _ _ _ _ _ _ _ _ _ _ _ _ _ _ _ _ _ _ _ _ _ _ _ _ _ _ _ _ _ _ _ _ _ _ _ _ _ _ _ _ _ _ _ _ _ _ _ _ _ _ _ _ _ _ _ _ _ _ _ _ _ _ _ _ _ _ _ _ _ _ _ _ _ _ _ _ _ _ _ _ _ _ _ _ _ _ _ _ _ _ _ _ _ _ _ _ _ _ _ _ _ _ _ _ _ _ _ _ _ _ _ _ _ _ _ _ _ _ _ _ _ _ _ _ _ _ _ _ _ _ _ _ _ _ HMI HA6 (Nat.le_refl _) h1 hn (by omega) HIN3 ?_
      intro f26 f27 f28 f29 f30 f31 f32 f33 f34 f35 f36 f37 f38 f39 f40 f41 f42 f43 f193 f194 f195 f196 f197 f198 f199 f200 f201 f202 f203 f204 f205 f206 f207 f208 f209 f210 f211 f212 f213 f214 f215 f216 f217 f218 f219 f220 f221 f222 f223 f224 f225 f226 f227 f228 f229 f230 f231 f232 f233 f234 f235 f236 f237 f238 f239 f240 f241 f242 f243 f244 f245 f246 f247 f248 f249 f250 f251 f252 f253 f254 f255 f256 f257 f258 f259 f260 f261 f262 f263 f264 f265 f266 f267 f268 f269 f270 f271 f272 f273 f274 f275 f276 f277 f278 f279 f280 f281 f282 f283 f284 f285 f286 f287 f288 f289 f290 f291 f292 f293 f294 f295 f296 f297 f298 f299 f300 f301 f302 f303 f304 f305 f306 f307 f308 f309 f310 f311 f312 f313 f314 f315 f316 f317 f318 f319 f320 f321 f322 f323 f324 f325 f326 f327 f328 f329 f330 f331 f332 f333 f334 f335 f336 f337 f338 f339 f340 f341 f342 f343 f344 f345 f346 f347 f348 f349 f350 f351 f352 f353 f354 f355 f356 f357 f358 f359 f360 f361 f362 f363 f364 f365 f366 f367 f368 f369 f370 wM HMM
      obtain ⟨CC, XX, VV, hmd⟩ := HMM.out.md
      have hmd' := hmd
      rw [← HS.out] at hmd' ⊢
      have HMD := hideIt hmd'
      have HLOW : Hid (Low s.L n) := by have := HMM.out.low; rw [← HS.out] at this; exact this
      have HSM := hideIt (HST.out.1.below hmd.b)
      have HBM : Hid (Below w.heap.size w wM) := HB3.out.trans (hmd.b.mono HB3.out.size)
      clear hmd hmd' HMM HMI cK fK cI fI
      obtain ⟨H, hH⟩ : ∃ H, H = s.H := ⟨_, rfl⟩
      rw [← hH]
      have HHH := hideIt hH
      have hal : (bits BinOp.andNot IntKind.u64 H (IntKind.u64.wrap (2 ^ id)) == 0) = alone h id := by rw [hH]; exact alone_bits HH.out (by omega)
      clear hH
      go_upto_if 372 with fail
      go_cut [44, 45, 46, 47, 48, 49] from 373 to 399 (fun d v r zz aa xx wx => d = .bool dec' ∧ v = .int .i64 val' ∧ r = .int .i64 rnd' ∧ wM = wx)
      case first =>
        rcases HNOW.out with ⟨hnow, hio⟩ | ⟨hnow, hi1, hn2⟩
        · have hd : dec' = true ∧ val' = input ∧ rnd' = 0 := by
            rcases HD.out with ⟨_, e⟩ | ⟨e, _⟩ | ⟨e, _⟩ | ⟨e, _⟩
            · exact e
            all_goals (rw [hnow] at e; cases e)
          obtain ⟨hd1, hd2, hd3⟩ := hd
          by_cases hi0 : input = 0
          · have b1 : (input == 0) = true := beq_iff_eq.2 hi0
            rw [hi0] at hd2
            have HDD := hideIt (And.intro hd1 (And.intro hd2 hd3))
            clear hio hd1 hd2 hd3 hi0
            go_wp2_with fail
            go_meet
            case rel => exact ⟨by rw [HDD.out.1], by rw [HDD.out.2.1], by rw [HDD.out.2.2], rfl⟩
          · have hn1 : n = 1 := by rcases hio with e | e; exact absurd e hi0; exact e
            have hi1 : input = 1 := by omega
            have b1 : (input == 0) = false := beq_eq_false_iff_ne.2 hi0
            have b2 : ((n : Int) == 1) = true := beq_iff_eq.2 (by omega)
            rw [hi1] at hd2
            have HDD := hideIt (And.intro hd1 (And.intro hd2 hd3))
            clear hio hd1 hd2 hd3 hi0 hn1 hi1
            go_wp2_with fail
            go_meet
            case rel => exact ⟨by rw [HDD.out.1], by rw [HDD.out.2.1], by rw [HDD.out.2.2], rfl⟩
        · have hd : (holdsB s.L s.I n = true ∧ dec' = true ∧ val' = 0 ∧ rnd' = 1) ∨ (holdsB s.L s.I n = false ∧ (allB s.L n || alone h id) = true ∧ dec' = true ∧ val' = 1 ∧ rnd' = 1) ∨ (holdsB s.L s.I n = false ∧ (allB s.L n || alone h id) = false ∧ dec' = false ∧ val' = 0 ∧ rnd' = 0) := by
            rcases HD.out with ⟨e, _⟩ | ⟨_, e⟩ | ⟨_, e⟩ | ⟨_, e⟩
            · rw [hnow] at e; cases e
            · exact Or.inl e
            · exact Or.inr (Or.inl e)
            · exact Or.inr (Or.inr e)
          have b1 : (input == 0) = false := beq_eq_false_iff_ne.2 (by omega)
          have b2 : ((n : Int) == 1) = false := beq_eq_false_iff_ne.2 (by omega)
          have HDD := hideIt hd
          clear hd hi1 hn2
          go_wp2_with fail
          refine zero_loop w3 wM w3.heap.size (w3.heap.size) (w3.heap.size + 1) (w3.heap.size + 1 + 1) (w3.heap.size + 1 + 1 + 1) (w3.heap.size + 1 + 1 + 1 + 1) (w3.heap.size + 1 + 1 + 1 + 1 + 1) n s.L s.I s.S CC XX VV _ _ _ _ _ _ _ _ _ _ _ _ _ _ _ _ _ _ _ _ _ _ _ _ _ _ _ _ _ _ _ _ _ _ _ _ _ _ _ _ _ _ _ _ _ _ _ _ _ _ _ _ _ _ _ _ _ _ _ _ _ _ _ _ _ _ _ _ _ _ _ _ _ _ _ _ _ _ _ _ _ _ _ _ _ _ _ _ _ _ _ _ _ _ _ _ _ _ _ _ _ _ _ _ _ _ _ _ _ _ _ _ _ _ _ _ _ _ _ _ _ _ _ _ _ _ _ _ _ _ _ _ _ _ _ _ _ _ _ _ _ _ _ _ _ _ _ _ _ _ _ _ _ _ _ _ _ _ _ _ _ _ _ _ _ _ _ _ _ _ _ _ _ _ _ _ _ _ _ _ _ _ _ _ _ _ _ _ _ _ _ _ _ _ _ _ _ _ _ _ _ _ _ _ _ _ _ _ _ _ _ _ _ _ _ _ _ _ _ _ _ _ _ _ _ _ _ _ _ _ _ _ _ _ _ _ _ _ _ _ _ _ _ _ _ _ _ _ _ _ _ _ _ _ _ _ _ _ _ _ _ _ _ _ _ _ _ _ _ _ _ _ _ _ _ _ _ _ _ _ _ _ _ _ _ _ _ _ _ _ _ _ _ _ _ _ _ _ _ _ _ _ _ _ _ _ _ _ _ _ _ _ _ _ _ _ _ _ _ _ _ _ _ _ _ _ _ _ _ _ _ _ _ _ _ _ _ _ _ _ _ _ _ _ _ _ _ _ _ _ _ _ _ _ _ _ _ _ _ _ _ _ _ _ _ _ _ _ _ _ _ _ _ _ _ _ _ _ _ _ _ _ _ _ _ _ _ _ _ _ _ _ _ _ _ _ _ _ _ _ _ _ _ _ _ _ _ _ _ _ _ _ _ _ _ _ _ _ _ _ _ _ _ _ _ _ _ _ _ _ _ _ _ _ _ _ _ _ _ _ _ _ _ _ _ _ _ _ _ _ _ _ _ _ _ _ _ _ _ _ _ _ _ _ _ _ _ _ _ _ _ _ _ _ _ _ _ _ HMD hn (hideIt HLOW.out.1) ?_
          intro g49 g375 g376 g377 g378 g379 g380 g381 g382 g383 g384 g385 g386 g387 g388 g389
          rcases HDD.out with ⟨z, e1, e2, e3⟩ | ⟨z, y, e1, e2, e3⟩ | ⟨z, y, e1, e2, e3⟩
          · rw [z]
            have HE := hideIt (And.intro e1 (And.intro e2 e3))
            clear z e1 e2 e3 hal
            go_wp2_with fail
            go_meet
            case rel => exact ⟨by rw [HE.out.1], by rw [HE.out.2.1], by rw [HE.out.2.2], rfl⟩
          · rw [z]
            have HE := hideIt (And.intro e1 (And.intro e2 e3))
            cases ha : allB s.L n with
            | true =>
              clear z y e1 e2 e3 hal ha
              go_wp2_with fail
              go_meet
              case rel => exact ⟨by rw [HE.out.1], by rw [HE.out.2.1], by rw [HE.out.2.2], rfl⟩
            | false =>
              rw [ha, Bool.false_or] at y
              rw [y] at hal
              clear z y e1 e2 e3 ha
              go_wp2_with fail
              go_meet
              case rel => exact ⟨by rw [HE.out.1], by rw [HE.out.2.1], by rw [HE.out.2.2], rfl⟩
          · rw [z]
            have HE := hideIt (And.intro e1 (And.intro e2 e3))
            obtain ⟨ya, yb⟩ := Bool.or_eq_false_iff.1 y
            rw [ya]
            rw [yb] at hal
            clear z y e1 e2 e3 ya yb
            go_wp2_with fail
            go_meet
            case rel => exact ⟨by rw [HE.out.1], by rw [HE.out.2.1], by rw [HE.out.2.2], rfl⟩
      case rest =>
        obtain ⟨rfl, rfl, rfl, rfl⟩ := hcut
        clear hal
        have hd0 : (dec' != dec') = false := bne_self_eq_false dec'
        have hv0 : (val' != val') = false := bne_self_eq_false val'
        have hr0 : (rnd' != rnd') = false := bne_self_eq_false rnd'
        go_wp2_with fail
        refine (decision_any wM k.bp id n k.bv k.br k.bsh lr _ _ _ _ HSM.out.p).mono ?_
        rintro e w4 ⟨rfl, kk, hw4⟩
        have HST4 : Hid (St w4 k id n (lr + 1) (lr : Int) (decide ((lr : Int) ≤ 1)) dec' val' rnd' cr' (s.L.set id 1) s.I S' s.S) := St.same (w := wM) (by rw [hw4]; rfl) HSM.out
        have HFIN : Hid (Fin w4 w3.heap.size (w3.heap.size + 1) (w3.heap.size + 1 + 1) k.bl k.bi k.bsh n (KOf s.L) (s.L.set id 1) s.I s.S) := by rw [hw4]; exact fin_of (wy := w) kk HSM.out HMD.out
        have HB4 : Hid (Below w.heap.size w w4) := by rw [hw4]; exact ⟨HBM.out.os, HBM.out.tape, HBM.out.output, HBM.out.size, HBM.out.block⟩
        obtain ⟨b, he, hb⟩ : ∃ b : Bool, decide ((lr : Int) ≤ 1) = b ∧ ((lr : Int) == 1) = b := by
          by_cases e : lr = 1
          · exact ⟨true, by simp; omega, beq_iff_eq.2 (by omega)⟩
          · exact ⟨false, by simp; omega, beq_eq_false_iff_ne.2 (by omega)⟩
        have HE := hideIt he
        have hb0 : (b != b) = false := bne_self_eq_false b
        obtain ⟨q, hq⟩ : ∃ q : Int, q = orBit H id := ⟨_, rfl⟩
        have wq : bits BinOp.or IntKind.u64 H (IntKind.u64.wrap (2 ^ id)) = q := hq.symm
        have hq0 : (q != q) = false := bne_self_eq_false q
        have HQQ : Hid (S'.getD (id * (lr + 1) + 1) 0 = q) := by have := HST.out.2.1; rw [← HHH.out, ← hq] at this; exact this
        clear hw4 he hq
        go_wp2_with fail
        refine (ended_any w4 k.bp id n k.bv k.br k.bsh lr _ _ _ _ HST4.out.p).mono ?_
        rintro e w5 ⟨rfl, rfl⟩
        rw [HE.out]
        go_wp2_with fail
        refine (heardAt_at w4 k id n (lr + 1) id 1 _ lr rfl _ _ _ _ cr' _ _ S' _ HST4.out hid (by omega) q HQQ.out).mono ?_
        rintro e w5 ⟨rfl, rfl⟩
        go_wp2_with fail
        refine (latest_any w4 k.bp id n k.bv k.br k.bsh k.bl k.bi k.bh k.bs _ lr _ _ _ _ cr' HST4.out.p HST4.out.v).mono ?_
        rintro e w5 ⟨rfl, rfl⟩
        go_wp2_with fail
        refine (inputs_any w4 k.bp id n k.bv k.br k.bsh k.bl k.bi k.bh k.bs _ lr _ _ _ _ cr' HST4.out.p HST4.out.v).mono ?_
        rintro e w5 ⟨rfl, rfl⟩
        go_wp2_with fail
        refine (shown_any w4 k.bp id n k.bv k.br k.bsh lr _ _ _ _ HST4.out.p).mono ?_
        rintro e w5 ⟨rfl, rfl⟩
        go_wp2_with fail
        refine last_loop w4 _ _ _ k.bl k.bi k.bsh id n (KOf s.L) (s.L.set id 1) s.I s.S _ _ _ _ _ _ _ _ _ _ _ _ _ _ _ _ _ _ _ _ _ _ _ _ _ _ _ _ _ _ _ _ _ _ _ _ _ _ _ _ _ _ _ _ _ _ _ _ _ _ _ _ _ _ _ _ _ _ _ _ _ _ _ _ _ _ _ _ _ _ _ _ _ _ _ _ _ _ _ _ _ _ _ _ _ _ _ _ _ _ _ _ _ _ _ _ _ _ _ _ _ _ _ _ _ _ _ _ _ _ _ _ _ _ _ _ _ _ _ _ _ _ _ _ _ _ _ _ _ _ _ _ _ _ _ _ _ _ _ _ _ _ _ _ _ _ _ _ _ _ _ _ _ _ _ _ _ _ _ _ _ _ _ _ _ _ _ _ _ _ _ _ _ _ _ _ _ _ _ _ _ _ _ _ _ _ _ _ _ _ _ _ _ _ _ _ _ _ _ _ _ _ _ _ _ _ _ _ _ _ _ _ _ _ _ _ _ _ _ _ _ _ _ _ _ _ _ _ _ _ _ _ _ _ _ _ _ _ _ _ _ _ _ _ _ _ _ _ _ _ _ _ _ _ _ _ _ _ _ _ _ _ _ _ _ _ _ _ _ _ _ _ _ _ _ _ _ _ _ _ _ _ _ _ _ _ _ _ _ _ _ _ _ _ _ _ _ _ _ _ _ _ _ _ _ _ _ _ _ _ _ _ _ _ _ _ _ _ _ _ _ _ _ _ _ _ _ _ _ _ _ _ _ _ _ _ _ _ _ _ _ _ _ _ _ _ _ _ _ _ _ _ _ _ _ _ _ _ _ _ _ _ _ _ _ _ _ _ _ _ _ _ _ _ _ _ _ _ _ _ _ _ _ _ _ _ _ _ _ _ _ _ _ _ _ _ _ _ _ _ _ _ _ _ _ _ _ _ _ _ _ _ _ _ _ _ _ _ _ _ _ _ _ _ _ _ _ _ _ _ _ _ _ _ _ _ _ _ _ _ _ _ _ _ _ _ _ _ _ _ _ _ _ _ _ _ _ _ _ _ _ _ _ _ _ _ _ _ _ _ _ _ _ _ _ HFIN hn (hideIt (last_facts HLOW.out hid)) ?_
        intro m12 m56 m57 m439 m440 m441 m442 m443 m444 m445 m446 m447 m448 m449 m450 m451 m452 m453 m454 m455 m456 m457 m458 m459 m460 m461 m462 m463 m464 m465 m466 m467 m468 m469 m470 m471 m472 m473 m474 m475 m476 m477 m478 m479 m480 m481 m482 q'
        go_wp2_with fail
        go_ret
        exact ⟨rfl, HB4.out.os, HB4.out.tape, HB4.out.output, HB4.out.size, HB4.out.block⟩




end Go.Proofs.Qxb6613198aDoor
