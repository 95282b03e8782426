/- Walk: FnReachSidesSwapUnderReversal. -/
import Derived.Test.Qxb6601698aReach
import Derived.Test.Qxb6601698aValid
import Derived.Test.Qxb6601698aBytes
import Derived.Test.Qxb6601698aSmall
import Derived.Test.Qxb6601698aSwapLaw
import Derived.Deep.DeepCutAuto
namespace Go.Proofs.Qxb6601698a
open Go.RowKit Go.Maps

/-- the law's own outcome -/
def RetTrue (w : World) (e : Ending) (w' : World) : Prop := e = .returned (.bool true) ∧ Below w.heap.size w w'

/-- the copies that the law works on -/
structure Data (W : World) (r : Option Nat) (D : DataW Unit) (ad au am ac ag : Option Addr) (n k gn : Nat) (Ld Lu Lm : Nat → Nat) (Zd Zu Zm : Nat → Nat → Int) (Cm : Nat → Int) (G : Nat → ByteArray) : Prop where
  num : MapAt W 0 (.map r) D
  dd : Mat W 0 ad n Ld Zd
  du : Mat W 0 au n Lu Zu
  dm : Mat W 0 am k Lm Zm
  c : Row W 0 ac n (fun i => .int .i64 (Cm i))
  g : Row W 0 ag gn (fun i => .string (G i))
theorem Data.below {W W' : World} {r : Option Nat} {D : DataW Unit} {ad au am ac ag : Option Addr} {n k gn : Nat} {Ld Lu Lm : Nat → Nat} {Zd Zu Zm : Nat → Nat → Int} {Cm : Nat → Int} {G : Nat → ByteArray}
    (h : Data W r D ad au am ac ag n k gn Ld Lu Lm Zd Zu Zm Cm G) (hb : Below W.heap.size W W') : Data W' r D ad au am ac ag n k gn Ld Lu Lm Zd Zu Zm Cm G :=
  ⟨h.num.below hb, h.dd.below (Nat.le_refl _) hb, h.du.below (Nat.le_refl _) hb, h.dm.below (Nat.le_refl _) hb, h.c.below (Nat.le_refl _) hb, h.g.below (Nat.le_refl _) hb⟩

theorem MapAt.look_eq {w : World} {lo : Nat} {v : Value} {D : DataW Unit} (h : MapAt w lo v D) {s : ByteArray} (hs : s.size ≤ maxLen) {c : Int} (hc : D.atKey (kl s) (I 0) = I c) :
    (Instr.lookup 22 v (.string s) false).run Try.prog w = .ok (.int .i64 c) w := by
  obtain ⟨c', hrun, hat, _⟩ := h.look hs
  rw [hc] at hat
  obtain rfl : c = c' := by simpa using hat
  exact hrun
/-- what ZZReachCounts has read -/
structure Out (W : World) (k bd bu bo : Nat) (dn up : Nat → Int) (OD : DataW Unit) : Prop where
  d : Row W 0 (some ⟨bd, 0, none⟩) k (fun c => .int .i64 (dn c))
  u : Row W 0 (some ⟨bu, 0, none⟩) k (fun c => .int .i64 (up c))
  o : MapAt W 0 (.map (some bo)) OD
theorem Out.below {W W' : World} {k bd bu bo : Nat} {dn up : Nat → Int} {OD : DataW Unit} (h : Out W k bd bu bo dn up OD) (hb : Below W.heap.size W W') : Out W' k bd bu bo dn up OD :=
  ⟨h.d.below (Nat.le_refl _) hb, h.u.below (Nat.le_refl _) hb, h.o.below hb⟩
/-- the cells of a row that begins at a block's head -/
theorem Row.at0 {W : World} {lo b n : Nat} {f : Nat → Value} (h : Row W lo (some ⟨b, 0, none⟩) n f) {i : Nat} (hi : i < n) : W.cell? ⟨b, i, none⟩ = some (f i) := by
  obtain ⟨b', o, h1, h2⟩ := h
  have e := (h1 (by omega)).1
  simp only [Option.some.injEq, Addr.mk.injEq, and_true] at e
  obtain ⟨rfl, rfl⟩ := e
  simpa using h2 i hi

theorem Below.next {w W W' : World} (h : Below w.heap.size w W) (h' : Below W.heap.size W W') : Below w.heap.size w W' := h.trans (h'.mono h.size)

set_option maxHeartbeats 8000000 in
set_option maxRecDepth 100000 in
theorem swap_any (r0 : Option Nat) (D0 : DataW Unit) (an ad au am ac ag : Option Addr) (n nd nu k nc gn cn cd cu cm cc cg : Nat) (S : Nat → ByteArray) (Ld Lu Lm : Nat → Nat) (Zd Zu Zm : Nat → Nat → Int) (Cm : Nat → Int) (G : Nat → ByteArray) (w : World)
    (hszm : Maps.size D0 ≤ maxLen) (hn : n ≤ maxLen) (hnd : nd ≤ maxLen) (hnu : nu ≤ maxLen) (hk : k ≤ maxLen) (hnc : nc ≤ maxLen) (hgn : gn ≤ maxLen)
    (hLd : ∀ i, i < nd → Ld i ≤ 9223372036854775807) (hLu : ∀ i, i < nu → Lu i ≤ 9223372036854775807) (hLm : ∀ i, i < k → Lm i ≤ 9223372036854775807)
    (hS : ∀ i, i < n → (S i).size ≤ maxLen) (hG : ∀ i, i < gn → (G i).size ≤ maxLen)
    (hM : MapAt w 0 (.map r0) D0) (hN : Row w 0 an n (fun i => .string (S i))) (hDd : Mat w 0 ad nd Ld Zd) (hDu : Mat w 0 au nu Lu Zu) (hDm : Mat w 0 am k Lm Zm) (hC : Row w 0 ac nc (fun i => .int .i64 (Cm i))) (hGr : Row w 0 ag gn (fun i => .string (G i))) :
    Calls Try.prog 4 #[.map r0, .slice an n cn, .slice ad nd cd, .slice au nu cu, .slice am k cm, .slice ac nc cc, .slice ag gn cg] w fun e w' => RetTrue w e w' := by
  have hlen := hM.len
  unfold maxLen at hszm hn hnd hnu hk hnc hgn
  by_cases hle : Maps.size D0 ≤ 65536 ∧ n ≤ 65536 ∧ nd ≤ 65536 ∧ nu ≤ 65536 ∧ k ≤ 65536 ∧ nc ≤ 65536 ∧ gn ≤ 65536
  · obtain ⟨hsz, hn, hnd, hnu, hk, hnc, hgn⟩ := hle
    go_enter Try.func4, Try.ntmps4
    go_wp2_with fail
    clear hlen
    refine (strBytes_any an n cn 0 S w hn hS hN).mono ?_
    rintro e w1 ⟨t1, rfl, ht1, ht1', hw⟩
    obtain rfl : w = w1 := hw.symm
    go_wp2_with fail
    refine (strBytes_any ag gn cg 0 G w hgn hG hGr).mono ?_
    rintro e w1 ⟨t2, rfl, ht2, ht2', hw⟩
    obtain rfl : w = w1 := hw.symm
    go_wp2_with fail
    refine (intsBytes_any ad nd cd 0 Ld Zd w hnd hLd hDd).mono ?_
    rintro e w1 ⟨t3, rfl, ht3, ht3', hb3, hw⟩
    obtain rfl : w = w1 := hw.symm
    go_wp2_with fail
    refine (intsBytes_any au nu cu 0 Lu Zu w hnu hLu hDu).mono ?_
    rintro e w1 ⟨t4, rfl, ht4, ht4', hb4, hw⟩
    obtain rfl : w = w1 := hw.symm
    go_wp2_with fail
    refine (intsBytes_any am k cm 0 Lm Zm w hk hLm hDm).mono ?_
    rintro e w1 ⟨t5, rfl, ht5, ht5', hb5, hw⟩
    obtain rfl : w = w1 := hw.symm
    by_cases hsum : t1 + t2 + t3 + t4 + t5 + 8 * (nc : Int) ≤ 1048576
    · clear hLd hLu hLm
      have hLd := hb3 (by omega)
      have hLu := hb4 (by omega)
      have hLm := hb5 (by omega)
      clear hb3 hb4 hb5
      go_wp2_with fail
      clear hsum ht1 ht1' ht2 ht2' ht3 ht3' ht4 ht4' ht5 ht5'
      refine (valid_any (.map r0) D0 an ad au am ac n nd nu k nc cn cd cu cm cc 0 S Ld Lu Lm Zd Zu Zm Cm w hn hk hsz hnd hnu hnc hLd hLu hLm hS hM hN hDd hDu hDm hC).mono ?_
      rintro e w1 ⟨b, rfl, hV, hB1⟩
      cases b with
      | false =>
        go_wp2_with fail
        go_ret
        exact ⟨rfl, hB1⟩
      | true =>
        obtain ⟨rfl, rfl, rfl, V⟩ := hV rfl
        clear hV
        go_wp2_with fail
        refine (cloneStrs_any an n cn 0 S w1 hn (hN.below (Nat.le_refl _) hB1).nil (hN.below (Nat.le_refl _) hB1)).mono ?_
        rintro e w2 ⟨an', cn', rfl, hr2, hb2, _⟩
        have hB2 := Below.next hB1 hb2
        have hneq := fun w => run_neq_map_nil (P := Try.prog) w 22 9 3 r0 Try.underlying22
        go_upto_if 94 with fail
        go_cut [0] (fun s0 wx => ∃ r D, s0 = .map r ∧ MapAt wx 0 (.map r) D ∧ NumOk D n ∧ Below w2.heap.size w2 wx)
        case first =>
          cases r0 with
          | none =>
            go_wp2_with fail
            go_meet
            exact ⟨none, .map [], rfl, .inl ⟨rfl, rfl⟩, NumOk.empty n, Below.refl _ _⟩
          | some b0 =>
            go_wp2_with fail
            refine (numberOf_any an' n cn' w1.heap.size S w2 hn hS hr2).mono ?_
            rintro e w3 ⟨v, D, rfl, ⟨b', rfl⟩, hm3, hok3, hb3⟩
            go_wp2_with fail
            go_meet
            exact ⟨some b', D, rfl, hm3.mono (Nat.zero_le _), hok3, hb3⟩
        case rest =>
          obtain ⟨r, D, rfl, hm3, hok, hb3⟩ := hcut
          clear hneq
          have hB3 := Below.next hB2 hb3
          go_wp2_with fail
          refine (cloneInts2_any ad n cd 0 Ld Zd wc hnd hLd (hDd.below (Nat.le_refl _) hB3)).mono ?_
          rintro e w4 ⟨ad', cd', rfl, hd4, hb4, _⟩
          have hB4 := Below.next hB3 hb4
          go_wp2_with fail
          refine (cloneInts2_any au n cu 0 Lu Zu w4 hnd hLu (hDu.below (Nat.le_refl _) hB4)).mono ?_
          rintro e w5 ⟨au', cu', rfl, hd5, hb5, _⟩
          have hB5 := Below.next hB4 hb5
          go_wp2_with fail
          refine (cloneInts2_any am k cm 0 Lm Zm w5 hk hLm (hDm.below (Nat.le_refl _) hB5)).mono ?_
          rintro e w6 ⟨am', cm', rfl, hd6, hb6, _⟩
          have hB6 := Below.next hB5 hb6
          go_wp2_with fail
          refine (cloneInts_any ac n cc 0 Cm w6 (by omega) (hC.below (Nat.le_refl _) hB6).nil (hC.below (Nat.le_refl _) hB6)).mono ?_
          rintro e w7 ⟨ac', cc', rfl, hr7, hb7, _⟩
          have hB7 := Below.next hB6 hb7
          go_wp2_with fail
          refine (cloneStrs_any ag gn cg 0 G w7 hgn (hGr.below (Nat.le_refl _) hB7).nil (hGr.below (Nat.le_refl _) hB7)).mono ?_
          rintro e w8 ⟨ag', cg', rfl, hr8, hb8, _⟩
          have hB8 := Below.next hB7 hb8
          have hD8 : Data w8 r D ad' au' am' ac' ag' n k gn Ld Lu Lm Zd Zu Zm Cm G :=
            ⟨((((hm3.below hb4).below hb5).below hb6).below hb7).below hb8, ((((hd4.below (Nat.le_refl _) hb5).below (Nat.le_refl _) hb6).below (Nat.le_refl _) hb7).below (Nat.le_refl _) hb8).mono (Nat.zero_le _),
              (((hd5.below (Nat.le_refl _) hb6).below (Nat.le_refl _) hb7).below (Nat.le_refl _) hb8).mono (Nat.zero_le _), ((hd6.below (Nat.le_refl _) hb7).below (Nat.le_refl _) hb8).mono (Nat.zero_le _), (hr7.below (Nat.le_refl _) hb8).mono (Nat.zero_le _), hr8.mono (Nat.zero_le _)⟩
          clear hm3 hd4 hd5 hd6 hr7 hr8 hb3 hb4 hb5 hb6 hb7 hb8 hB1 hB2 hB3 hB4 hB5 hB6 hB7 hr2 hb2 hDd hDu hDm hC hGr hN hM
          go_wp2_with fail
          refine (makeLinks_any r an' ad' au' am' ac' n n n k n cn' cd' cu' cm' cc' w8).mono ?_
          rintro e w9 ⟨rfl, hb9⟩
          have hB9 := Below.next hB8 hb9
          have hD9 := hD8.below hb9
          clear hD8 hb9 hB8
          go_wp2_with fail
          have hba : Below w9.heap.size w9 (w9.alloc (.cells #[.map r, .slice an' n cn', .slice ad' n cd', .slice au' n cu', .slice am' k cm', .slice ac' n cc'] 34)) := (Below.refl _ _).alloc (Nat.le_refl _) _
          have hBa := Below.next hB9 hba
          have hDa := hD9.below hba
          clear hD9 hB9 hba
          generalize w9.alloc (.cells #[.map r, .slice an' n cn', .slice ad' n cd', .slice au' n cu', .slice am' k cm', .slice ac' n cc'] 34) = Wa at hBa hDa ⊢
          have hmem : ∀ c, c < k → ∀ j, j < Lm c → 0 ≤ Zm c j ∧ Zm c j < n := fun c hc j hj => ⟨(V.mem c hc j hj).1, (V.mem c hc j hj).2.1⟩
          have hdep : ∀ v, v < n → ∀ j, j < Ld v → 0 ≤ Zd v j ∧ Zd v j < n := fun v hv j hj => ⟨(V.deps v hv j hj).1, (V.deps v hv j hj).2.1⟩
          have hdpt : ∀ v, v < n → ∀ j, j < Lu v → 0 ≤ Zu v j ∧ Zu v j < n := fun v hv j hj => ⟨(V.dpts v hv j hj).1, (V.dpts v hv j hj).2.1⟩
          refine (reach_any (.map r) (.slice an' n cn') D ad' au' am' ac' ag' n k cd' cu' cm' cc' gn cg' 0 Ld Lu Lm Zd Zu Zm Cm G Wa hn hk hgn hLd hLu hLm V.comp hmem hdep hdpt hG hDa.num hok hDa.dd hDa.du hDa.dm hDa.c hDa.g).mono ?_
          rintro e w10 ⟨R1, bd1, bu1, bo1, rfl, e6, e7, e8, rd1, ru1, mo1, hb10⟩
          go_wp2_with fail
          refine (reachCounts_any R1 k bd1 bu1 bo1 w10 e6 e7 e8).mono ?_
          rintro e w11 ⟨rfl, q1, rfl⟩
          have hbq : Below w10.heap.size w10 (w10.drewN q1) := below_drewN (Below.refl _ _) q1
          have hBb := Below.next (Below.next hBa hb10) hbq
          have hDb := (hDa.below hb10).below hbq
          have hOb : Out (w10.drewN q1) k bd1 bu1 bo1 _ _ _ := Out.below ⟨rd1.mono (Nat.zero_le _), ru1.mono (Nat.zero_le _), mo1.mono (Nat.zero_le _)⟩ hbq
          clear hbq e6 e7 e8 rd1 ru1 mo1 hb10 hDa hBa
          generalize w10.drewN q1 = Wb at hBb hDb hOb ⊢
          have hmk := run_make_row' (P := Try.prog) 24 25 (.slice none 0 0) 24 Try.underlying24 Try.info25 rfl .i64 .i64 k (by omega) (by omega)
          go_wp2
          clear hmk
          -- the members, from the other end
          go_loopg [22] k (fun g s22 wx => ∃ c : Nat, c ≤ k ∧ g = k - c ∧ s22 = .int .i64 c ∧ Copied2 Wb wx k c (fun c => Lm (k - 1 - c)) (fun c => Zm (k - 1 - c)))
          case atStart => exact ⟨0, Nat.zero_le _, rfl, rfl, Copied2.start _ _ _ _⟩
          case round =>
            obtain ⟨c, hck0, rfl, rfl, hCo⟩ := hrel
            by_cases hck : c < k
            · obtain ⟨A', C', hB1, hB2, hB3⟩ := hCo
              obtain ⟨m, hm⟩ : ∃ m : Nat, m = k - 1 - c := ⟨_, rfl⟩
              have hmk : m < k := by omega
              have hmz : (k : Int) - 1 - (c : Int) = (m : Int) := by omega
              have hmz2 : (m : Int) < (k : Int) := by omega
              have Hm : Hid (m = k - 1 - c) := hm
              clear hm
              obtain ⟨A, C, ⟨b, off, ha, hc⟩, hin⟩ := hDb.dm
              obtain ⟨rfl, _⟩ := ha (by omega)
              have hbl : b < Wb.heap.size := World.block_lt_of_cell? _ _ (hc m hmk)
              have h1 : wr.cell? ⟨b, off + m, none⟩ = some (.slice (A m) (Lm m) (C m)) := (hB3.cell (p := ⟨b, off + m, none⟩) hbl).trans (hc m hmk)
              have hk1 := (hin m hmk).below (Nat.le_refl _) hB3
              have hlt2 := hB1.lt
              have h2 := hB1.cell hck
              have h3 := hB1.frozen c
              go_wp2_with fail
              refine (cloneInts_any (A m) (Lm m) (C m) 0 (Zm m) wr (hLm m hmk) hk1.nil hk1).mono ?_
              rintro e w12 ⟨a', cap', rfl, hr', hb', _⟩
              have g2 := (hb'.cell (p := ⟨Wb.heap.size, c, none⟩) hlt2).trans h2
              have g3 : w12.frozen? ⟨Wb.heap.size, c, none⟩ = false := (hb'.frozen (p := ⟨Wb.heap.size, c, none⟩) hlt2).trans h3
              clear h1 h2 h3
              go_wp2
              go_roundg (k - (c + 1))
              case measure => go_light; omega
              case rel =>
                go_light
                refine ⟨c + 1, by omega, rfl, by go_num, ?_⟩
                have hm' := Hm.out
                subst hm'
                exact Copied2.step ⟨A', C', hB1, hB2, hB3⟩ hr' hb'
            · obtain rfl : k = c := by omega
              have hMm := hCo.mat
              obtain ⟨_, _, _, _, hbC⟩ := hCo
              have hBc := Below.next hBb hbC
              have hDc := hDb.below hbC
              have hOc := hOb.below hbC
              obtain ⟨Wc, rfl⟩ : ∃ Wc : World, Wc = wr := ⟨_, rfl⟩
              have hmk := run_make_row' (P := Try.prog) 25 3 (.int .i64 0) 8 Try.underlying25 Try.info3 rfl .i64 .i64 n (by omega) (by omega)
              clear hDb hOb hBb
              go_wp2
              clear hmk
              -- the components, numbered from the other end
              go_loopg [24] n (fun g s24 wx => ∃ v : Nat, v ≤ n ∧ g = n - v ∧ s24 = .int .i64 v ∧ Copied Wc wx 3 n v (fun v => .int .i64 ((k : Int) - 1 - Cm v)) (.int .i64 0))
              case atStart => exact ⟨0, Nat.zero_le _, rfl, rfl, Copied.start _ _ _ _ _⟩
              case round =>
                obtain ⟨v, hv0, rfl, rfl, hCo⟩ := hrel
                by_cases hvn : v < n
                · obtain ⟨bc, oc, hac, hcc⟩ := hDc.c
                  obtain ⟨rfl, _⟩ := hac (by omega)
                  have hbl : bc < Wc.heap.size := World.block_lt_of_cell? _ _ (hcc v hvn)
                  have h1 : wr.cell? ⟨bc, oc + v, none⟩ = some (.int .i64 (Cm v)) := (hCo.2.cell (p := ⟨bc, oc + v, none⟩) hbl).trans (hcc v hvn)
                  have h2 := hCo.1.cell hvn
                  have h3 := hCo.1.frozen v
                  obtain ⟨hc0, hc1⟩ := V.comp v hvn
                  go_wp2
                  go_roundg (n - (v + 1))
                  case measure => go_light; omega
                  case rel => go_light; exact ⟨v + 1, by omega, rfl, by go_num, hCo.step⟩
                · obtain rfl : n = v := by omega
                  have hrc := hCo.row
                  have hbD := hCo.2
                  have hBd := Below.next hBc hbD
                  have hDd := hDc.below hbD
                  have hOd := hOc.below hbD
                  have hMd := hMm.below (Nat.le_refl _) hbD
                  obtain ⟨Wd, rfl⟩ : ∃ Wd : World, Wd = wr := ⟨_, rfl⟩
                  clear hDc hOc hBc hMm hCo hbD
                  go_wp2_with fail
                  refine (makeLinks_any r an' au' ad' _ _ n n n k n cn' cu' cd' k n Wd).mono ?_
                  rintro e w13 ⟨rfl, hb13⟩
                  have hBe := Below.next hBd hb13
                  have hDe := hDd.below hb13
                  have hOe := hOd.below hb13
                  have hMe := hMd.below (Nat.le_refl _) hb13
                  have hre := hrc.below (Nat.le_refl _) hb13
                  clear hDd hOd hBd hMd hrc hb13
                  go_wp2_with fail
                  have hba : Below w13.heap.size w13 (w13.alloc (.cells #[.map r, .slice an' n cn', .slice au' n cu', .slice ad' n cd', .slice (some ⟨Wb.heap.size, 0, none⟩) k k, .slice (some ⟨Wc.heap.size, 0, none⟩) n n] 34)) := (Below.refl _ _).alloc (Nat.le_refl _) _
                  have hBf := Below.next hBe hba
                  have hDf := hDe.below hba
                  have hOf := hOe.below hba
                  have hMf := (hMe.below (Nat.le_refl _) hba).mono (Nat.zero_le _)
                  have hrf := (hre.below (Nat.le_refl _) hba).mono (Nat.zero_le _)
                  clear hDe hOe hBe hMe hre hba
                  generalize w13.alloc (.cells #[.map r, .slice an' n cn', .slice au' n cu', .slice ad' n cd', .slice (some ⟨Wb.heap.size, 0, none⟩) k k, .slice (some ⟨Wc.heap.size, 0, none⟩) n n] 34) = We at hBf hDf hOf hMf hrf ⊢
                  have hcomp' : ∀ v, v < n → 0 ≤ (k : Int) - 1 - Cm v ∧ (k : Int) - 1 - Cm v < k := fun v hv => by have := V.comp v hv; omega
                  have hmem' : ∀ c, c < k → ∀ j, j < Lm (k - 1 - c) → 0 ≤ Zm (k - 1 - c) j ∧ Zm (k - 1 - c) j < n := fun c hc => hmem _ (by omega)
                  refine (reach_any (.map r) (.slice an' n cn') D au' ad' (some ⟨Wb.heap.size, 0, none⟩) (some ⟨Wc.heap.size, 0, none⟩) ag' n k cu' cd' k n gn cg' 0 Lu Ld (fun c => Lm (k - 1 - c)) Zu Zd (fun c => Zm (k - 1 - c)) (fun v => (k : Int) - 1 - Cm v) G We hn hk hgn hLu hLd (fun c hc => hLm _ (by omega)) hcomp' hmem' hdpt hdep hG hDf.num hok hDf.du hDf.dd hMf hrf hDf.g).mono ?_
                  rintro e w14 ⟨R2, bd2, bu2, bo2, rfl, e6, e7, e8, rd2, ru2, mo2, hb14⟩
                  go_wp2_with fail
                  refine (reachCounts_any R2 k bd2 bu2 bo2 w14 e6 e7 e8).mono ?_
                  rintro e w15 ⟨rfl, q2, rfl⟩
                  have hbq : Below w14.heap.size w14 (w14.drewN q2) := below_drewN (Below.refl _ _) q2
                  have hBg := Below.next (Below.next hBf hb14) hbq
                  have hGg := ((hDf.g).below (Nat.le_refl _) hb14).below (Nat.le_refl _) hbq
                  have hOg := (hOf.below hb14).below hbq
                  have hO2 : Out (w14.drewN q2) k bd2 bu2 bo2 _ _ _ := Out.below ⟨rd2.mono (Nat.zero_le _), ru2.mono (Nat.zero_le _), mo2.mono (Nat.zero_le _)⟩ hbq
                  clear hbq e6 e7 e8 rd2 ru2 mo2 hb14 hDf hBf hOf hMf hrf
                  generalize w14.drewN q2 = Wg at hBg hGg hOg hO2 ⊢
                  obtain ⟨dn1, up1, dn2, up2, OD, hO1, hO2', hl1, hl2⟩ : ∃ dn1 up1 dn2 up2 OD, Out Wg k bd1 bu1 bo1 dn1 up1 OD ∧ Out Wg k bd2 bu2 bo2 dn2 up2 OD ∧ (∀ c, c < k → dn2 c = up1 (k - 1 - c)) ∧ (∀ c, c < k → up2 c = dn1 (k - 1 - c)) :=
                    ⟨_, _, _, _, _, hOg, hO2, fun c hc => (sides_swap (gn := gn) (G := G) V.comp hmem hdpt hok hc).1, fun c hc => (sides_swap (gn := gn) (G := G) V.comp hmem hdep hok hc).2⟩
                  have Hl1 : Hid (∀ c, c < k → dn2 c = up1 (k - 1 - c)) := hl1
                  have Hl2 : Hid (∀ c, c < k → up2 c = dn1 (k - 1 - c)) := hl2
                  have hlen1 := hO1.o.len
                  have hlen2 := hO2'.o.len
                  clear hOg hO2 hl1 hl2 V hmem hdep hdpt hcomp' hmem' hok hLd hLu hLm
                  go_wp2
                  clear hlen1 hlen2
                  go_loopg [29] k (fun g s29 wx => ∃ c : Nat, c ≤ k ∧ g = k - c ∧ s29 = .int .i64 c ∧ Below Wg.heap.size Wg wx)
                  case atStart => exact ⟨0, Nat.zero_le _, rfl, rfl, Below.refl _ _⟩
                  case round =>
                    obtain ⟨c, hck0, rfl, rfl, hbx⟩ := hrel
                    by_cases hck : c < k
                    · obtain ⟨m, hm⟩ : ∃ m : Nat, m = k - 1 - c := ⟨_, rfl⟩
                      have hmk : m < k := by omega
                      have hmz : (k : Int) - 1 - (c : Int) = (m : Int) := by omega
                      have hmz2 : (m : Int) < (k : Int) := by omega
                      have hcz : (c : Int) < (k : Int) := by omega
                      obtain ⟨x, hx⟩ : ∃ x, x = up1 m := ⟨_, rfl⟩
                      obtain ⟨y, hy⟩ : ∃ y, y = dn1 m := ⟨_, rfl⟩
                      have f1 := (hO1.below hbx).u.at0 hmk
                      have f2 := (hO1.below hbx).d.at0 hmk
                      have f3 := (hO2'.below hbx).d.at0 hck
                      have f4 := (hO2'.below hbx).u.at0 hck
                      rw [Hl1.out c hck, ← hm, ← hx] at f3
                      rw [Hl2.out c hck, ← hm, ← hy] at f4
                      rw [← hx] at f1
                      rw [← hy] at f2
                      clear hx hy hm
                      have hxx : (x != x) = false := by simp
                      go_wp2
                      go_quiet (fail)
                      go_wp2
                      go_roundg (k - (c + 1))
                      case measure => go_light; omega
                      case rel => go_light; exact ⟨c + 1, by omega, rfl, by go_num, below_drewN hbx _⟩
                    · obtain rfl : k = c := by omega
                      have hlen1 := (hO1.o.below hbx).len
                      have hlen2 := (hO2'.o.below hbx).len
                      go_wp2
                      clear hlen1 hlen2
                      go_loopg [30] gn (fun g s30 wy => ∃ i : Nat, i ≤ gn ∧ g = gn - i ∧ s30 = .int .i64 i ∧ Below Wg.heap.size Wg wy)
                      case atStart => exact ⟨0, Nat.zero_le _, rfl, rfl, hbx⟩
                      case round =>
                        clear hbx
                        obtain ⟨i, hi0, rfl, rfl, hbx⟩ := hrel
                        by_cases hi : i < gn
                        · obtain ⟨bg, og, hag, hcg⟩ := hGg
                          obtain ⟨rfl, _⟩ := hag (by omega)
                          have hbl : bg < Wg.heap.size := World.block_lt_of_cell? _ _ (hcg i hi)
                          have h1 : wr.cell? ⟨bg, og + i, none⟩ = some (.string (G i)) := (hbx.cell (p := ⟨bg, og + i, none⟩) hbl).trans (hcg i hi)
                          obtain ⟨c, _, hat, _⟩ := (hO1.o.below hbx).look (hG i hi)
                          have hr1 : ∀ q, (Instr.lookup 22 (.map (some bo1)) (.string (G i)) false).run Try.prog (wr.drewN q) = .ok (.int .i64 c) (wr.drewN q) := fun q => (hO1.o.below (below_drewN hbx q)).look_eq (hG i hi) hat
                          have hr2 : ∀ q, (Instr.lookup 22 (.map (some bo2)) (.string (G i)) false).run Try.prog (wr.drewN q) = .ok (.int .i64 c) (wr.drewN q) := fun q => (hO2'.o.below (below_drewN hbx q)).look_eq (hG i hi) hat
                          clear hat
                          go_wp2
                          go_quiet (fail)
                          go_wp2
                          go_roundg (gn - (i + 1))
                          case measure => go_light; omega
                          case rel => go_light; exact ⟨i + 1, by omega, rfl, by go_num, below_drewN hbx _⟩
                        · obtain rfl : gn = i := by omega
                          go_wp2
                          go_ret
                          exact ⟨rfl, Below.next hBg hbx⟩
    · go_wp2_with fail
      go_ret
      exact ⟨rfl, Below.refl _ _⟩
  · go_enter Try.func4, Try.ntmps4
    go_wp2
    all_goals (go_ret; exact ⟨rfl, Below.refl _ _⟩)
end Go.Proofs.Qxb6601698a
