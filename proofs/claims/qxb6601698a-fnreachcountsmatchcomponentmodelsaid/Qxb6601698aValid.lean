/- Walk: zzB1LinksValid. -/
import Derived.Test.Qxb6601698aClone2
import Derived.Deep.QuietTactic
import Derived.BigQuiet
import Derived.WalkSmall
namespace Go.Proofs.Qxb6601698a
open Go.RowKit Go.Maps

/-- What zzB1LinksValid tells when it answers true. -/
structure Valid (n k : Nat) (Ld Lu Lm : Nat → Nat) (Zd Zu Zm : Nat → Nat → Int) (Cm : Nat → Int) : Prop where
  comp : ∀ v, v < n → 0 ≤ Cm v ∧ Cm v < k
  mem : ∀ c, c < k → ∀ j, j < Lm c → 0 ≤ Zm c j ∧ Zm c j < n ∧ Cm (Zm c j).toNat = c
  onto : ∀ v, v < n → ∃ c j, c < k ∧ j < Lm c ∧ Zm c j = v ∧ Cm v = c
  inj : ∀ c j c' j', c < k → j < Lm c → c' < k → j' < Lm c' → Zm c j = Zm c' j' → c = c' ∧ j = j'
  deps : ∀ v, v < n → ∀ j, j < Ld v → 0 ≤ Zd v j ∧ Zd v j < n ∧ Cm (Zd v j).toNat ≤ Cm v
  dpts : ∀ v, v < n → ∀ j, j < Lu v → 0 ≤ Zu v j ∧ Zu v j < n ∧ Cm v ≤ Cm (Zu v j).toNat

/-- Place (c', j') comes ahead of (c, j). -/
def Bef (Lm : Nat → Nat) (c j c' j' : Nat) : Prop := (c' < c ∧ j' < Lm c') ∨ (c' = c ∧ j' < j)
/-- The marks when the places ahead of (c, j) have been looked at. -/
structure Seen (n : Nat) (Lm : Nat → Nat) (Zm : Nat → Nat → Int) (Cm : Nat → Int) (c j : Nat) (sn : Nat → Bool) : Prop where
  mem : ∀ c' j', Bef Lm c j c' j' → 0 ≤ Zm c' j' ∧ Zm c' j' < n ∧ Cm (Zm c' j').toNat = c' ∧ sn (Zm c' j').toNat = true
  onto : ∀ v, v < n → sn v = true → ∃ c' j', Bef Lm c j c' j' ∧ Zm c' j' = v ∧ Cm v = c'
  inj : ∀ c1 j1 c2 j2, Bef Lm c j c1 j1 → Bef Lm c j c2 j2 → Zm c1 j1 = Zm c2 j2 → c1 = c2 ∧ j1 = j2
theorem Seen.start (n : Nat) (Lm : Nat → Nat) (Zm : Nat → Nat → Int) (Cm : Nat → Int) : Seen n Lm Zm Cm 0 0 (fun _ => false) :=
  ⟨fun c' j' h => by rcases h with ⟨h, _⟩ | ⟨_, h⟩ <;> omega, fun v _ h => by simp at h, fun c1 j1 c2 j2 h => by rcases h with ⟨h, _⟩ | ⟨_, h⟩ <;> omega⟩
theorem Seen.next {n : Nat} {Lm : Nat → Nat} {Zm : Nat → Nat → Int} {Cm : Nat → Int} {c : Nat} {sn : Nat → Bool} (h : Seen n Lm Zm Cm c (Lm c) sn) : Seen n Lm Zm Cm (c + 1) 0 sn := by
  have e : ∀ c' j', Bef Lm (c + 1) 0 c' j' → Bef Lm c (Lm c) c' j' := by
    intro c' j' hb
    rcases hb with ⟨h1, h2⟩ | ⟨_, h2⟩
    · by_cases e : c' = c
      · subst e; exact .inr ⟨rfl, h2⟩
      · exact .inl ⟨by omega, h2⟩
    · omega
  have e' : ∀ c' j', Bef Lm c (Lm c) c' j' → Bef Lm (c + 1) 0 c' j' := by
    intro c' j' hb
    rcases hb with ⟨h1, h2⟩ | ⟨h1, h2⟩
    · exact .inl ⟨by omega, h2⟩
    · subst h1; exact .inl ⟨by omega, h2⟩
  refine ⟨fun c' j' hb => h.mem c' j' (e _ _ hb), fun v hv hs => ?_, fun c1 j1 c2 j2 h1 h2 => h.inj _ _ _ _ (e _ _ h1) (e _ _ h2)⟩
  obtain ⟨c', j', h1, h2⟩ := h.onto v hv hs
  exact ⟨c', j', e' _ _ h1, h2⟩
theorem Seen.step {n : Nat} {Lm : Nat → Nat} {Zm : Nat → Nat → Int} {Cm : Nat → Int} {c j : Nat} {sn : Nat → Bool} (h : Seen n Lm Zm Cm c j sn) {m : Nat} (hm : Zm c j = m) (hmn : m < n) (hs : sn m = false) (hc : Cm m = c) :
    Seen n Lm Zm Cm c (j + 1) (fun i => if i = m then true else sn i) := by
  have e : ∀ c' j', Bef Lm c (j + 1) c' j' → Bef Lm c j c' j' ∨ (c' = c ∧ j' = j) := by
    intro c' j' hb
    rcases hb with h1 | ⟨h1, h2⟩
    · exact .inl (.inl h1)
    · by_cases e : j' = j
      · exact .inr ⟨h1, e⟩
      · exact .inl (.inr ⟨h1, by omega⟩)
  have nm : ∀ c' j', Bef Lm c j c' j' → Zm c' j' ≠ m := by
    intro c' j' hb he
    obtain ⟨_, _, _, h4⟩ := h.mem c' j' hb
    rw [he] at h4
    simp only [Int.toNat_natCast] at h4
    rw [hs] at h4
    cases h4
  refine ⟨fun c' j' hb => ?_, fun v hv hsv => ?_, fun c1 j1 c2 j2 h1 h2 he => ?_⟩
  · rcases e _ _ hb with hb | ⟨rfl, rfl⟩
    · obtain ⟨h1, h2, h3, h4⟩ := h.mem c' j' hb
      refine ⟨h1, h2, h3, ?_⟩
      split
      · rfl
      · exact h4
    · rw [hm]
      exact ⟨by omega, by omega, by simpa using hc, by simp⟩
  · by_cases ev : v = m
    · subst ev
      exact ⟨c, j, .inr ⟨rfl, by omega⟩, hm, hc⟩
    · simp only [ev, if_false] at hsv
      obtain ⟨c', j', hb, h2⟩ := h.onto v hv hsv
      refine ⟨c', j', ?_, h2⟩
      rcases hb with hb | ⟨h3, h4⟩
      · exact .inl hb
      · exact .inr ⟨h3, by omega⟩
  · rcases e _ _ h1 with h1 | ⟨rfl, rfl⟩ <;> rcases e _ _ h2 with h2 | ⟨rfl, rfl⟩
    · exact h.inj _ _ _ _ h1 h2 he
    · exact absurd (he.trans hm) (nm _ _ h1)
    · exact absurd (he.symm.trans hm) (nm _ _ h2)
    · exact ⟨rfl, rfl⟩

/-- what zzB1LinksValid hands back -/
def RetValid (w : World) (Q : Prop) (e : Ending) (w' : World) : Prop :=
  ∃ b : Bool, e = .returned (.bool b) ∧ (b = true → Q) ∧ Below w.heap.size w w'
theorem RetValid.no {w w' : World} {Q : Prop} (h : Below w.heap.size w w') : RetValid w Q (.returned (.bool false)) w' := ⟨false, rfl, (fun h => by cases h), h⟩

theorem base_of_seen {n k : Nat} {Lm : Nat → Nat} {Zm : Nat → Nat → Int} {Cm : Nat → Int} {sn : Nat → Bool} (h : Seen n Lm Zm Cm k 0 sn) (hall : ∀ u, u < n → sn u = true) :
    (∀ v, v < n → 0 ≤ Cm v ∧ Cm v < k) ∧ (∀ c, c < k → ∀ j, j < Lm c → 0 ≤ Zm c j ∧ Zm c j < n ∧ Cm (Zm c j).toNat = c) ∧ (∀ v, v < n → ∃ c j, c < k ∧ j < Lm c ∧ Zm c j = v ∧ Cm v = c) ∧
      (∀ c j c' j', c < k → j < Lm c → c' < k → j' < Lm c' → Zm c j = Zm c' j' → c = c' ∧ j = j') := by
  have onto : ∀ v, v < n → ∃ c j, c < k ∧ j < Lm c ∧ Zm c j = v ∧ Cm v = c := fun v hv => by
    obtain ⟨c, j, hb, h2, h3⟩ := h.onto v hv (hall v hv)
    rcases hb with ⟨h4, h5⟩ | ⟨_, h5⟩
    · exact ⟨c, j, h4, h5, h2, h3⟩
    · omega
  refine ⟨fun v hv => ?_, fun c hc j hj => ?_, onto, fun c j c' j' h1 h2 h3 h4 h5 => h.inj c j c' j' (.inl ⟨h1, h2⟩) (.inl ⟨h3, h4⟩) h5⟩
  · obtain ⟨c, j, h1, _, _, h4⟩ := onto v hv
    rw [h4]; omega
  · obtain ⟨h1, h2, h3, _⟩ := h.mem c j (.inl ⟨hc, hj⟩)
    exact ⟨h1, h2, h3⟩

/-- .. and that the lengths agree. -/
def ValidAll (n nd nu nc k : Nat) (Ld Lu Lm : Nat → Nat) (Zd Zu Zm : Nat → Nat → Int) (Cm : Nat → Int) : Prop :=
  n = nd ∧ n = nu ∧ n = nc ∧ Valid n k Ld Lu Lm Zd Zu Zm Cm

set_option maxHeartbeats 4000000 in
set_option maxRecDepth 100000 in
theorem valid_any (nv : Value) (D : DataW Unit) (an ad au am ac : Option Addr) (n nd nu k nc cn cd cu cm cc lo : Nat) (S : Nat → ByteArray) (Ld Lu Lm : Nat → Nat) (Zd Zu Zm : Nat → Nat → Int) (Cm : Nat → Int) (w : World)
    (hn : n ≤ 65536) (hk : k ≤ 65536) (_hsz : Maps.size D ≤ 65536) (hnd : nd ≤ 65536) (hnu : nu ≤ 65536) (hnc : nc ≤ 65536)
    (hLd : ∀ i, i < nd → Ld i ≤ 1048576) (hLu : ∀ i, i < nu → Lu i ≤ 1048576) (hLm : ∀ i, i < k → Lm i ≤ 1048576)
    (hS : ∀ i, i < n → (S i).size ≤ maxLen)
    (hM : MapAt w lo nv D) (hN : Row w lo an n (fun i => .string (S i))) (hDd : Mat w lo ad nd Ld Zd) (hDu : Mat w lo au nu Lu Zu) (hDm : Mat w lo am k Lm Zm) (hC : Row w lo ac nc (fun i => .int .i64 (Cm i))) :
    Calls Try.prog 11 #[nv, .slice an n cn, .slice ad nd cd, .slice au nu cu, .slice am k cm, .slice ac nc cc] w fun e w' =>
      RetValid w (ValidAll n nd nu nc k Ld Lu Lm Zd Zu Zm Cm) e w' := by
  have hlen := hM.len
  by_cases hne : Maps.size D = n ∧ n = nd ∧ n = nu ∧ n = nc
  · obtain ⟨hsn, rfl, rfl, rfl⟩ := hne
    have hlen' : ∀ ty, (Builtin.len_ #[22] ty #[nv]).run Try.prog w = .ok (.int .i64 n) w := fun ty => by rw [hlen ty, hsn]
    have hmk := run_make_row' (P := Try.prog) 57 4 (.bool false) 1 Try.underlying57 Try.info4 rfl .i64 .i64 n (by omega) (by omega)
    obtain ⟨bn, on, han, hcn⟩ := hN
    obtain ⟨bc, oc, hac, hcc⟩ := hC
    obtain ⟨Ad, Cd, ⟨bd, od, had, hcd⟩, hdr⟩ := hDd
    obtain ⟨Au, Cu, ⟨bu, ou, hau, hcu⟩, hur⟩ := hDu
    obtain ⟨Am, Cmm, ⟨bm, om, ham, hcm⟩, hmr⟩ := hDm
    clear hlen hsn
    go_enter Try.func11, Try.ntmps11
    go_wp2
    clear hlen'
    -- the names
    go_loopg [14, 15, 16] n (fun g s14 s15 s16 wr => w = wr ∧ ∃ i : Nat, i ≤ n ∧ g = n - i ∧ s14 = .int .i64 i)
    case atStart => exact ⟨rfl, 0, Nat.zero_le _, rfl, rfl⟩
    case round =>
      obtain ⟨rfl, i, hi, rfl, rfl⟩ := hrel
      by_cases hlt : i < n
      · obtain ⟨rfl, _⟩ := han (by omega)
        have h1 := hcn i hlt
        obtain ⟨c, hrun, _, _⟩ := hM.look_ok (hS i hlt)
        go_wp2
        rotate_left
        · go_roundg (n - (i + 1))
          case measure => go_light; omega
          case rel => go_light; exact ⟨rfl, i + 1, by omega, rfl, by go_num⟩
        all_goals (go_ret; exact RetValid.no (Below.refl _ _))
      · obtain rfl : n = i := by omega
        go_wp2
        clear hmk
        -- the members
        go_loopg [19, 20, 21, 22] k (fun g s19 s20 s21 s22 wr => ∃ c : Nat, c ≤ k ∧ g = k - c ∧ s19 = .int .i64 c ∧
          ∃ sn, wr.rowIs w.heap.size 4 n (fun v => .bool (sn v)) ∧ Below w.heap.size w wr ∧ Seen n Lm Zm Cm c 0 sn)
        case atStart => exact ⟨0, Nat.zero_le _, rfl, rfl, fun _ => false, World.rowIs_made _ _ _ _, (Below.refl _ _).alloc (Nat.le_refl _) _, Seen.start _ _ _ _⟩
        case round =>
          obtain ⟨c, hck, rfl, rfl, sn, hrow, hB, hseen⟩ := hrel
          by_cases hlt2 : c < k
          · obtain ⟨rfl, _⟩ := ham (by omega)
            have hbl : bm < w.heap.size := World.block_lt_of_cell? _ _ (hcm c hlt2)
            have h1 : wr.cell? ⟨bm, om + c, none⟩ = some (.slice (Am c) (Lm c) (Cmm c)) := (hB.cell (p := ⟨bm, om + c, none⟩) hbl).trans (hcm c hlt2)
            have hLc := hLm c hlt2
            have hm1 := hmr c hlt2
            obtain ⟨Ac, hAc⟩ : ∃ x, Am c = x := ⟨_, rfl⟩
            rw [hAc] at h1 hm1
            clear hAc
            obtain ⟨b1, o1, ha1, hc1⟩ := hm1
            go_wp2
            obtain ⟨wo, hwo⟩ : ∃ wo : World, wo = wr := ⟨_, rfl⟩
            go_loopg [21, 22] (Lm c) (fun g s21 s22 wi => ∃ j : Nat, j ≤ Lm c ∧ g = Lm c - j ∧ s21 = .int .i64 j ∧
              ∃ sn, wi.rowIs w.heap.size 4 n (fun v => .bool (sn v)) ∧ Below w.heap.size w wi ∧ Seen n Lm Zm Cm c j sn)
            case atStart => exact ⟨0, Nat.zero_le _, rfl, rfl, sn, hrow, hB, hseen⟩
            case round =>
              clear hwo hrow hB hseen h1
              obtain ⟨j, hj, rfl, rfl, sn, hrow, hB, hseen⟩ := hrel
              by_cases hlt3 : j < Lm c
              · obtain ⟨rfl, _⟩ := ha1 (by omega)
                have hbl1 : b1 < w.heap.size := World.block_lt_of_cell? _ _ (hc1 j hlt3)
                have h1 : wr.cell? ⟨b1, o1 + j, none⟩ = some (.int .i64 (Zm c j)) := (hB.cell (p := ⟨b1, o1 + j, none⟩) hbl1).trans (hc1 j hlt3)
                have hno : ∀ {e : Ending}, e = .returned (.bool false) → RetValid w (ValidAll n n n n k Ld Lu Lm Zd Zu Zm Cm) e wr := fun h => by rw [h]; exact RetValid.no hB
                by_cases hz0 : Zm c j < 0
                · go_wp2
                  go_ret
                  exact hno rfl
                by_cases hzn : (n : Int) ≤ Zm c j
                · go_wp2
                  go_ret
                  exact hno rfl
                obtain ⟨m, hm⟩ := Int.eq_ofNat_of_zero_le (Int.not_lt.1 hz0)
                have hmn : m < n := by omega
                rw [hm] at h1
                have Hm : Hid (Zm c j = m) := hm
                clear hz0 hzn hm
                obtain ⟨rfl, _⟩ := hac (by omega)
                have hblc : bc < w.heap.size := World.block_lt_of_cell? _ _ (hcc m hmn)
                have h2 : wr.cell? ⟨bc, oc + m, none⟩ = some (.int .i64 (Cm m)) := (hB.cell (p := ⟨bc, oc + m, none⟩) hblc).trans (hcc m hmn)
                have h3 := hrow.cell hmn
                have h4 := hrow.frozen m
                cases hs : sn m
                · by_cases hcc2 : Cm m = c
                  · have Hs : Hid (sn m = false) := hs
                    have Hc : Hid (Cm m = c) := hcc2
                    rw [hs] at h3
                    rw [hcc2] at h2
                    clear hs hcc2
                    go_wp2
                    go_roundg (Lm c - (j + 1))
                    case measure => go_light; omega
                    case rel => 
                      go_light
                      exact ⟨j + 1, by omega, rfl, by go_num, _, (hrow.set m (.bool true)).congr (fun v _ => by split <;> rfl), hB.setCell (Nat.le_refl _) _, hseen.step Hm.out hmn Hs.out Hc.out⟩
                  · rw [hs] at h3
                    have hb2 : (Cm m != (c : Int)) = true := by simpa using hcc2
                    clear hs hcc2
                    go_wp2
                    go_ret
                    exact hno rfl
                · rw [hs] at h3
                  clear hs
                  go_wp2
                  go_ret
                  exact hno rfl
              · obtain rfl : Lm c = j := by omega
                go_wp2
                go_roundg (k - (c + 1))
                case measure => go_light; omega
                case rel => go_light; exact ⟨c + 1, by omega, rfl, by go_num, sn, hrow, hB, hseen.next⟩
          · obtain rfl : k = c := by omega
            go_wp2
            obtain ⟨W1, rfl⟩ : ∃ W1 : World, W1 = wr := ⟨_, rfl⟩
            -- all seen?
            go_loopg [23] n (fun g s23 wx => W1 = wx ∧ ∃ v : Nat, v ≤ n ∧ g = n - v ∧ s23 = .int .i64 v ∧ ∀ u, u < v → sn u = true)
            case atStart => exact ⟨rfl, 0, Nat.zero_le _, rfl, rfl, fun u hu => absurd hu (Nat.not_lt_zero _)⟩
            case round =>
              obtain ⟨rfl, v, hv, rfl, rfl, hall⟩ := hrel
              have HA : Hid (∀ u, u < v → sn u = true) := hall
              clear hall
              by_cases hlt4 : v < n
              · have h3 := hrow.cell hlt4
                cases hs : sn v
                · rw [hs] at h3
                  clear hs
                  go_wp2
                  go_ret
                  exact RetValid.no hB
                · have Hs : Hid (sn v = true) := hs
                  rw [hs] at h3
                  clear hs
                  go_wp2
                  go_roundg (n - (v + 1))
                  case measure => go_light; omega
                  case rel => 
                    go_light
                    refine ⟨rfl, v + 1, by omega, rfl, by go_num, fun u hu => ?_⟩
                    by_cases e : u = v
                    · subst e; exact Hs.out
                    · exact HA.out u (by omega)
              · obtain rfl : n = v := by omega
                have HV := HA.out
                have Hbase : Hid ((∀ v, v < n → 0 ≤ Cm v ∧ Cm v < k) ∧ (∀ c, c < k → ∀ j, j < Lm c → 0 ≤ Zm c j ∧ Zm c j < n ∧ Cm (Zm c j).toNat = c) ∧ (∀ v, v < n → ∃ c j, c < k ∧ j < Lm c ∧ Zm c j = v ∧ Cm v = c) ∧
                    (∀ c j c' j', c < k → j < Lm c → c' < k → j' < Lm c' → Zm c j = Zm c' j' → c = c' ∧ j = j')) := base_of_seen hseen HV
                clear HA HV hseen hrow
                go_wp2
                -- the dependencies
                go_loopg [24, 25, 26, 27] n (fun g s24 s25 s26 s27 wx => ∃ v : Nat, v ≤ n ∧ g = n - v ∧ s24 = .int .i64 v ∧ Below w.heap.size w wx ∧
                  ∀ u, u < v → ∀ j, j < Ld u → 0 ≤ Zd u j ∧ Zd u j < n ∧ Cm (Zd u j).toNat ≤ Cm u)
                case atStart => exact ⟨0, Nat.zero_le _, rfl, rfl, hB, fun u hu => absurd hu (Nat.not_lt_zero _)⟩
                case round =>
                  clear hB
                  obtain ⟨v, hv, rfl, rfl, hB, hall⟩ := hrel
                  have HA : Hid (∀ u, u < v → ∀ j, j < Ld u → 0 ≤ Zd u j ∧ Zd u j < n ∧ Cm (Zd u j).toNat ≤ Cm u) := hall
                  clear hall
                  by_cases hlt5 : v < n
                  · obtain ⟨rfl, _⟩ := had (by omega)
                    have hbl : bd < w.heap.size := World.block_lt_of_cell? _ _ (hcd v hlt5)
                    have h1 : wr.cell? ⟨bd, od + v, none⟩ = some (.slice (Ad v) (Ld v) (Cd v)) := (hB.cell (p := ⟨bd, od + v, none⟩) hbl).trans (hcd v hlt5)
                    have hLv := hLd v hlt5
                    have hm1 := hdr v hlt5
                    obtain ⟨Av, hAv⟩ : ∃ x, Ad v = x := ⟨_, rfl⟩
                    rw [hAv] at h1 hm1
                    clear hAv
                    obtain ⟨b1, o1, ha1, hc1⟩ := hm1
                    go_wp2
                    go_loopg [26, 27] (Ld v) (fun g s1 s2 wi => ∃ j : Nat, j ≤ Ld v ∧ g = Ld v - j ∧ s1 = .int .i64 j ∧ Below w.heap.size w wi ∧ ∀ t, t < j → 0 ≤ Zd v t ∧ Zd v t < n ∧ Cm (Zd v t).toNat ≤ Cm v)
                    case atStart => exact ⟨0, Nat.zero_le _, rfl, rfl, hB, fun u hu => absurd hu (Nat.not_lt_zero _)⟩
                    case round =>
                      clear hB h1
                      obtain ⟨j, hj, rfl, rfl, hB, hall⟩ := hrel
                      have HI : Hid (∀ t, t < j → 0 ≤ Zd v t ∧ Zd v t < n ∧ Cm (Zd v t).toNat ≤ Cm v) := hall
                      clear hall
                      by_cases hlt6 : j < Ld v
                      · obtain ⟨rfl, _⟩ := ha1 (by omega)
                        have hbl1 : b1 < w.heap.size := World.block_lt_of_cell? _ _ (hc1 j hlt6)
                        have h1 : wr.cell? ⟨b1, o1 + j, none⟩ = some (.int .i64 (Zd v j)) := (hB.cell (p := ⟨b1, o1 + j, none⟩) hbl1).trans (hc1 j hlt6)
                        have hno : ∀ {e : Ending} (q : Nat), e = .returned (.bool false) → RetValid w (ValidAll n n n n k Ld Lu Lm Zd Zu Zm Cm) e (wr.drewN q) := fun q h => by rw [h]; exact RetValid.no (below_drewN hB q)
                        by_cases hz0 : Zd v j < 0
                        · have hd0 : decide (Zd v j < 0) = true := by simpa using hz0
                          clear hz0
                          go_wp2
                          go_quiet (fail)
                          go_wp2
                          go_ret
                          exact hno _ rfl
                        have hd0 : decide (Zd v j < 0) = false := by simpa using hz0
                        by_cases hzn : (n : Int) ≤ Zd v j
                        · have hd1 : decide ((n : Int) ≤ Zd v j) = true := by simpa using hzn
                          clear hz0 hzn
                          go_wp2
                          go_quiet (fail)
                          go_wp2
                          go_ret
                          exact hno _ rfl
                        clear hd0
                        obtain ⟨m, hm⟩ := Int.eq_ofNat_of_zero_le (Int.not_lt.1 hz0)
                        have hmn : m < n := by omega
                        rw [hm] at h1
                        have Hm : Hid (Zd v j = m) := hm
                        clear hz0 hzn hm
                        obtain ⟨rfl, _⟩ := hac (by omega)
                        have hblc : bc < w.heap.size := World.block_lt_of_cell? _ _ (hcc m hmn)
                        have h2 : wr.cell? ⟨bc, oc + m, none⟩ = some (.int .i64 (Cm m)) := (hB.cell (p := ⟨bc, oc + m, none⟩) hblc).trans (hcc m hmn)
                        have h3 : wr.cell? ⟨bc, oc + v, none⟩ = some (.int .i64 (Cm v)) := (hB.cell (p := ⟨bc, oc + v, none⟩) hblc).trans (hcc v hlt5)
                        have hd0 : decide ((m : Int) < 0) = false := decide_eq_false (by omega)
                        have hd1 : decide ((n : Int) ≤ (m : Int)) = false := decide_eq_false (by omega)
                        have hmz : (m : Int) < (n : Int) := by omega
                        have hvz : (v : Int) < (n : Int) := by omega
                        go_wp2
                        go_quiet (fail)
                        by_cases hcmp : Cm v < Cm m
                        · go_wp2
                          go_ret
                          exact hno _ rfl
                        · go_wp2
                          go_roundg (Ld v - (j + 1))
                          case measure => go_light; omega
                          case rel =>
                            go_light
                            refine ⟨j + 1, by omega, rfl, by go_num, below_drewN hB _, fun t ht => ?_⟩
                            by_cases e : t = j
                            · subst e
                              have := Hm.out
                              refine ⟨by omega, by omega, ?_⟩
                              rw [this, Int.toNat_natCast]
                              omega
                            · exact HI.out t (by omega)
                      · obtain rfl : Ld v = j := by omega
                        go_wp2
                        go_roundg (n - (v + 1))
                        case measure => go_light; omega
                        case rel =>
                          go_light
                          refine ⟨v + 1, by omega, rfl, by go_num, hB, fun u hu => ?_⟩
                          by_cases e : u = v
                          · subst e; exact HI.out
                          · exact HA.out u (by omega)
                  · obtain rfl : n = v := by omega
                    go_wp2
                    -- the dependents
                    go_loopg [28, 29, 30, 31] n (fun g s28 s29 s30 s31 wx => ∃ v : Nat, v ≤ n ∧ g = n - v ∧ s28 = .int .i64 v ∧ Below w.heap.size w wx ∧
                      ∀ u, u < v → ∀ j, j < Lu u → 0 ≤ Zu u j ∧ Zu u j < n ∧ Cm u ≤ Cm (Zu u j).toNat)
                    case atStart => exact ⟨0, Nat.zero_le _, rfl, rfl, hB, fun u hu => absurd hu (Nat.not_lt_zero _)⟩
                    case round =>
                      clear hB
                      obtain ⟨v, hv, rfl, rfl, hB, hall⟩ := hrel
                      have HB : Hid (∀ u, u < v → ∀ j, j < Lu u → 0 ≤ Zu u j ∧ Zu u j < n ∧ Cm u ≤ Cm (Zu u j).toNat) := hall
                      clear hall
                      by_cases hlt7 : v < n
                      · obtain ⟨rfl, _⟩ := hau (by omega)
                        have hbl : bu < w.heap.size := World.block_lt_of_cell? _ _ (hcu v hlt7)
                        have h1 : wr.cell? ⟨bu, ou + v, none⟩ = some (.slice (Au v) (Lu v) (Cu v)) := (hB.cell (p := ⟨bu, ou + v, none⟩) hbl).trans (hcu v hlt7)
                        have hLv := hLu v hlt7
                        have hm1 := hur v hlt7
                        obtain ⟨Av, hAv⟩ : ∃ x, Au v = x := ⟨_, rfl⟩
                        rw [hAv] at h1 hm1
                        clear hAv
                        obtain ⟨b1, o1, ha1, hc1⟩ := hm1
                        go_wp2
                        go_loopg [30, 31] (Lu v) (fun g s1 s2 wi => ∃ j : Nat, j ≤ Lu v ∧ g = Lu v - j ∧ s1 = .int .i64 j ∧ Below w.heap.size w wi ∧ ∀ t, t < j → 0 ≤ Zu v t ∧ Zu v t < n ∧ Cm v ≤ Cm (Zu v t).toNat)
                        case atStart => exact ⟨0, Nat.zero_le _, rfl, rfl, hB, fun u hu => absurd hu (Nat.not_lt_zero _)⟩
                        case round =>
                          clear hB h1
                          obtain ⟨j, hj, rfl, rfl, hB, hall⟩ := hrel
                          have HI : Hid (∀ t, t < j → 0 ≤ Zu v t ∧ Zu v t < n ∧ Cm v ≤ Cm (Zu v t).toNat) := hall
                          clear hall
                          by_cases hlt6 : j < Lu v
                          · obtain ⟨rfl, _⟩ := ha1 (by omega)
                            have hbl1 : b1 < w.heap.size := World.block_lt_of_cell? _ _ (hc1 j hlt6)
                            have h1 : wr.cell? ⟨b1, o1 + j, none⟩ = some (.int .i64 (Zu v j)) := (hB.cell (p := ⟨b1, o1 + j, none⟩) hbl1).trans (hc1 j hlt6)
                            have hno : ∀ {e : Ending} (q : Nat), e = .returned (.bool false) → RetValid w (ValidAll n n n n k Ld Lu Lm Zd Zu Zm Cm) e (wr.drewN q) := fun q h => by rw [h]; exact RetValid.no (below_drewN hB q)
                            by_cases hz0 : Zu v j < 0
                            · have hd0 : decide (Zu v j < 0) = true := by simpa using hz0
                              clear hz0
                              go_wp2
                              go_quiet (fail)
                              go_wp2
                              go_ret
                              exact hno _ rfl
                            have hd0 : decide (Zu v j < 0) = false := by simpa using hz0
                            by_cases hzn : (n : Int) ≤ Zu v j
                            · have hd1 : decide ((n : Int) ≤ Zu v j) = true := by simpa using hzn
                              clear hz0 hzn
                              go_wp2
                              go_quiet (fail)
                              go_wp2
                              go_ret
                              exact hno _ rfl
                            clear hd0
                            obtain ⟨m, hm⟩ := Int.eq_ofNat_of_zero_le (Int.not_lt.1 hz0)
                            have hmn : m < n := by omega
                            rw [hm] at h1
                            have Hm : Hid (Zu v j = m) := hm
                            clear hz0 hzn hm
                            obtain ⟨rfl, _⟩ := hac (by omega)
                            have hblc : bc < w.heap.size := World.block_lt_of_cell? _ _ (hcc m hmn)
                            have h2 : wr.cell? ⟨bc, oc + m, none⟩ = some (.int .i64 (Cm m)) := (hB.cell (p := ⟨bc, oc + m, none⟩) hblc).trans (hcc m hmn)
                            have h3 : wr.cell? ⟨bc, oc + v, none⟩ = some (.int .i64 (Cm v)) := (hB.cell (p := ⟨bc, oc + v, none⟩) hblc).trans (hcc v hlt7)
                            have hd0 : decide ((m : Int) < 0) = false := decide_eq_false (by omega)
                            have hd1 : decide ((n : Int) ≤ (m : Int)) = false := decide_eq_false (by omega)
                            have hmz : (m : Int) < (n : Int) := by omega
                            have hvz : (v : Int) < (n : Int) := by omega
                            go_wp2
                            go_quiet (fail)
                            by_cases hcmp : Cm m < Cm v
                            · go_wp2
                              go_ret
                              exact hno _ rfl
                            · go_wp2
                              go_roundg (Lu v - (j + 1))
                              case measure => go_light; omega
                              case rel =>
                                go_light
                                refine ⟨j + 1, by omega, rfl, by go_num, below_drewN hB _, fun t ht => ?_⟩
                                by_cases e : t = j
                                · subst e
                                  have := Hm.out
                                  refine ⟨by omega, by omega, ?_⟩
                                  rw [this, Int.toNat_natCast]
                                  omega
                                · exact HI.out t (by omega)
                          · obtain rfl : Lu v = j := by omega
                            go_wp2
                            go_roundg (n - (v + 1))
                            case measure => go_light; omega
                            case rel =>
                              go_light
                              refine ⟨v + 1, by omega, rfl, by go_num, hB, fun u hu => ?_⟩
                              by_cases e : u = v
                              · subst e; exact HI.out
                              · exact HB.out u (by omega)
                      · obtain rfl : n = v := by omega
                        go_wp2
                        go_ret
                        obtain ⟨h1, h2, h3, h4⟩ := Hbase.out
                        exact ⟨true, rfl, fun _ => ⟨rfl, rfl, rfl, h1, h2, h3, h4, HA.out, HB.out⟩, hB⟩
  · go_enter Try.func11, Try.ntmps11
    go_wp2
    all_goals (go_ret; exact RetValid.no (Below.refl _ _))
end Go.Proofs.Qxb6601698a
