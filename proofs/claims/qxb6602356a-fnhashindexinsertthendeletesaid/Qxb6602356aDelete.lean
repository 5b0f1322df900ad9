/-
  THE WALK OF Delete.
-/
import Derived.Test.Qxb6602356aInsert
import Derived.Test.Qxb6602356aDel
namespace Go.Proofs.Qxb6602356a
open Go.RowKit

/-- what Delete leaves: slot i0 held the item; T is the table behind it -/
def Gone (B X S n c : Nat) (tch : Int) (t : Nat → Nat × Int) (v : Nat × Int) (w w' : World) : Prop :=
  ∃ i0 T, i0 < n ∧ t i0 = v ∧ Tbl.Ok n T ∧ (Tbl.items t n).Perm (v :: Tbl.items T n) ∧ (Tbl.Ok n (Tbl.upd t i0 (0, 0)) → T = Tbl.upd t i0 (0, 0)) ∧
    Idx w' X (some ⟨S, 0, none⟩) n c tch ∧ Tab w' S n T ∧ Below B w w' ∧ w'.heap.size = w.heap.size

/-- the second loop on its way: the hole is i, the slot looked at i + D, the next empty one i + Q -/
structure DSt (w wr : World) (B X S n c : Nat) (tch : Int) (t : Nat → Nat × Int) (i0 e0 i D Q : Nat) (cur : Nat → Nat × Int) : Prop where
  idx : Idx wr X (some ⟨S, 0, none⟩) n (c + 1) tch
  tab : Tab wr S n cur
  below : Below B w wr
  size : wr.heap.size = w.heap.size
  hole : Tbl.Hole n (Tbl.upd cur i (0, 0)) i D
  items : (Tbl.items (Tbl.upd t i0 (0, 0)) n).Perm (Tbl.items (Tbl.upd cur i (0, 0)) n)
  emp : (cur e0).1 = 0
  ne : e0 ≠ i
  dq : D ≤ Q
  qn : Q < n
  at_ : (i + Q) % n = e0
  still : Tbl.Ok n (Tbl.upd t i0 (0, 0)) → Tbl.upd cur i (0, 0) = Tbl.upd t i0 (0, 0) ∧ i = i0

theorem DSt.other {w wr : World} {B X S n c : Nat} {tch : Int} {t : Nat → Nat × Int} {i0 e0 i D Q : Nat} {cur : Nat → Nat × Int} (h : DSt w wr B X S n c tch t i0 e0 i D Q cur) : Tbl.upd cur i (0, 0) ((i + D) % n) = cur ((i + D) % n) :=
  Tbl.upd_other _ _ _ h.hole.ne

theorem DSt.far {w wr : World} {B X S n c : Nat} {tch : Int} {t : Nat → Nat × Int} {i0 e0 i D Q : Nat} {cur : Nat → Nat × Int} (h : DSt w wr B X S n c tch t i0 e0 i D Q cur) (ho : (cur ((i + D) % n)).1 ≠ 0) : D < Q := by
  have h1 := h.dq
  apply Classical.byContradiction
  intro c
  have e : D = Q := by omega
  rw [e, h.at_] at ho
  exact ho h.emp

theorem DSt.stay {w wr : World} {B X S n c : Nat} {tch : Int} {t : Nat → Nat × Int} {i0 e0 i D Q : Nat} {cur : Nat → Nat × Int} (h : DSt w wr B X S n c tch t i0 e0 i D Q cur) (ho : (cur ((i + D) % n)).1 ≠ 0)
    (hd : Tbl.dist n (Tbl.home n (cur ((i + D) % n)).1) ((i + D) % n) < D) : DSt w wr B X S n c tch t i0 e0 i (D + 1) Q cur := by
  have hq := h.far ho
  have hqn := h.qn
  exact ⟨h.idx, h.tab, h.below, h.size, h.hole.stay (by rw [h.other]; exact ho) (by rw [h.other]; exact hd) (by omega), h.items, h.emp, h.ne, hq, h.qn, h.at_, h.still⟩

theorem DSt.move {w wr : World} {B X S n c : Nat} {tch : Int} {t : Nat → Nat × Int} {i0 e0 i D Q : Nat} {cur : Nat → Nat × Int} (h : DSt w wr B X S n c tch t i0 e0 i D Q cur) (hXS : X ≠ S) (hBS : B ≤ S) (hn : 2 ≤ n) (ho : (cur ((i + D) % n)).1 ≠ 0)
    (hd : D ≤ Tbl.dist n (Tbl.home n (cur ((i + D) % n)).1) ((i + D) % n)) :
    DSt w (put wr S i (cur ((i + D) % n))) B X S n c tch t i0 e0 ((i + D) % n) 1 (Q - D) (Tbl.upd cur i (cur ((i + D) % n))) := by
  have hq := h.far ho
  have hqn := h.qn
  have hjn : (i + D) % n < n := Nat.mod_lt _ (by omega)
  have hT : Tbl.upd (Tbl.upd (Tbl.upd cur i (0, 0)) i (cur ((i + D) % n))) ((i + D) % n) (0, 0) = Tbl.upd (Tbl.upd cur i (cur ((i + D) % n))) ((i + D) % n) (0, 0) := by rw [Tbl.upd_upd]
  have hm := h.hole.move (by rw [h.other]; exact ho) (by rw [h.other]; exact hd) hn
  rw [h.other, hT] at hm
  have hi := Tbl.items_move (T := Tbl.upd cur i (0, 0)) h.hole.lt hjn h.hole.ne (by rw [Tbl.upd_same]) (by rw [h.other]; exact ho)
  rw [h.other, hT] at hi
  have hej : e0 ≠ (i + D) % n := fun e => ho (by rw [← e]; exact h.emp)
  refine ⟨h.idx.put hXS _ _, h.tab.put h.hole.lt _ (h.tab.fits _), put_below h.below hBS _ _, by rw [put_size]; exact h.size, hm, h.items.trans hi.symm, ?_, hej, by omega, by omega, ?_, fun hk => ?_⟩
  · rw [Tbl.upd_other _ _ _ h.ne]; exact h.emp
  · rw [Nat.mod_add_mod, show i + D + (Q - D) = i + Q by omega]; exact h.at_
  · obtain ⟨e1, e2⟩ := h.still hk
    have hst := Tbl.Ok.still (T := Tbl.upd cur i (0, 0)) (by rw [e1]; exact hk) h.hole.lt h.hole.d0 h.hole.dn (by rw [Tbl.upd_same]) (by rw [h.other]; exact ho)
    rw [h.other] at hst
    omega

theorem DSt.drew {w wr : World} {B X S n c : Nat} {tch : Int} {t : Nat → Nat × Int} {i0 e0 i D Q : Nat} {cur : Nat → Nat × Int} (h : DSt w wr B X S n c tch t i0 e0 i D Q cur) : DSt w wr.drew B X S n c tch t i0 e0 i D Q cur :=
  ⟨h.idx.drew, h.tab.drew, h.below.drew, h.size, h.hole, h.items, h.emp, h.ne, h.dq, h.qn, h.at_, h.still⟩

/-- the end: the hole is written empty -/
theorem DSt.done {w wr : World} {B X S n c : Nat} {tch : Int} {t : Nat → Nat × Int} {i0 e0 i D Q : Nat} {cur : Nat → Nat × Int} (h : DSt w wr B X S n c tch t i0 e0 i D Q cur) (hXS : X ≠ S) (hBX : B ≤ X) (hBS : B ≤ S) (he : (cur ((i + D) % n)).1 = 0)
    {v : Nat × Int} (hi0 : i0 < n) (hv : t i0 = v) (hvz : v.1 ≠ 0) :
    Gone B X S n c tch t v w ((put wr S i (0, 0)).setCell ⟨X, 1, none⟩ (.int .i64 (c : Int))) := by
  refine ⟨i0, Tbl.upd cur i (0, 0), hi0, hv, h.hole.done (by rw [h.other]; exact he), ?_, fun hk => (h.still hk).1, (h.idx.put hXS _ _).count c, (h.tab.put h.hole.lt _ (by show 0 < _; omega)).other hXS _, (put_below h.below hBS _ _).setCell hBX _, ?_⟩
  · have h1 := Tbl.items_take t i0 n hi0 (by rw [hv]; exact hvz)
    rw [hv] at h1
    exact h1.trans (h.items.cons v)
  · have := h.size
    have h2 := put_size wr S i (0, 0)
    simp [World.setCell]
    omega

set_option maxHeartbeats 2000000 in
set_option maxRecDepth 100000 in
theorem delete_core (B X S n c h hh1 s0 e0 : Nat) (p tch : Int) (t : Nat → Nat × Int) (w : World) (hp : Tbl.Pow n) (hn : n ≤ 1048576) (hor : bits .or .u64 (h : Int) 1 = ((hh1 : Nat) : Int)) (hlt : hh1 < 18446744073709551616)
    (hX : Idx w X (some ⟨S, 0, none⟩) n (c + 1) tch) (hT : Tab w S n t) (hXS : X ≠ S) (hBX : B ≤ X) (hBS : B ≤ S) (hcb : c ≤ 1048576) (hok : Tbl.Ok n t) (hs0 : s0 < n) (hs1 : t s0 = (hh1, p)) (hzz : hh1 ≠ 0) (he0 : e0 < n) (he1 : (t e0).1 = 0) :
    Calls Try.prog 18 #[.pointer (some ⟨X, 0, none⟩), .int .u64 (h : Int), .int .i64 p] w fun e w' => e = .returned (.tuple #[]) ∧ Gone B X S n c tch t (hh1, p) w w' := by
  have h16 := hp.1
  have h0 := hX.sl
  obtain ⟨d0, hd0, hto, hpath⟩ := hok.path s0 hs0 (by rw [hs1]; exact hzz)
  rw [hs1] at hto hpath
  have HD : Hid ((Tbl.home n hh1 + d0) % n = s0 ∧ t s0 = (hh1, p) ∧ (∀ d', d' < d0 → (t ((Tbl.home n hh1 + d') % n)).1 ≠ 0) ∧ Tbl.Ok n t ∧ (t e0).1 = 0) := ⟨hto, hs1, hpath, hok, he1⟩
  clear hto hs1 hpath hok he1
  go_enter Try.func18, Try.ntmps18
  go_wp2_with fail
  refine (home_any X n n hh1 _ w hp hn hlt h0).mono ?_
  rintro e w' ⟨rfl, hw'⟩
  have hw'' := hw'.symm
  clear hw'
  subst hw''
  go_wp2_with fail
  go_loopg [6] d0 (fun g i wr => wr = w ∧ ∃ d, d + g = d0 ∧ i = .int .i64 (((Tbl.home n hh1 + d) % n : Nat) : Int))
  case atStart => exact ⟨rfl, 0, by omega, by rw [Nat.add_zero, Nat.mod_eq_of_lt (Tbl.home_lt (by omega) _)]⟩
  case round =>
    obtain ⟨hwr, d, hd, rfl⟩ := hrel
    have hwr2 := hwr.symm
    clear hwr
    subst hwr2
    have hJlt : (Tbl.home n hh1 + d) % n < n := Nat.mod_lt _ (by omega)
    have HN : Hid ((Tbl.home n hh1 + (d + 1)) % n = ((Tbl.home n hh1 + d) % n + 1) % n) := by
      show _ = _
      rw [Nat.mod_add_mod, Nat.add_assoc]
    generalize hJ : (Tbl.home n hh1 + d) % n = J at hJlt HN ⊢
    have HJ : Hid ((Tbl.home n hh1 + d) % n = J) := hJ
    clear hJ
    have hJ' : (J : Int) < (n : Int) := by omega
    have hch := hT.hash J hJlt
    have hcp := hT.place J hJlt
    by_cases q1 : (t J).1 = hh1
    · by_cases q2 : (t J).2 = p
      · have heq : t J = (hh1, p) := Prod.ext q1 q2
        have HQ : Hid (t J = (hh1, p)) := heq
        rw [q1] at hch
        rw [q2] at hcp
        clear q1 q2 heq
        have hhz : (hh1 : Int) ≠ 0 := by omega
        go_wp2_with fail
        refine (next_any X n n J _ w hp hn hJlt h0).mono ?_
        rintro e w' ⟨rfl, hw'⟩
        have hw'' := hw'.symm
        clear hw'
        subst hw''
        have hgone := HD.out
        obtain ⟨_, _, _, hok, he1⟩ := hgone
        have hne0 : e0 ≠ J := fun e => by rw [e, HQ.out] at he1; exact hzz he1
        have hQt := Tbl.dist_to (n := n) hJlt he0
        have hQn := Tbl.dist_lt (n := n) (by omega) J e0
        have hQ1 : 1 ≤ Tbl.dist n J e0 := by
          apply Classical.byContradiction
          intro c
          have e : Tbl.dist n J e0 = 0 := by omega
          rw [e, Nat.add_zero, Nat.mod_eq_of_lt hJlt] at hQt
          exact hne0 hQt.symm
        have hst0 : DSt w w B X S n c tch t J e0 J 1 (Tbl.dist n J e0) t :=
          ⟨hX, hT, Below.refl _ _, rfl, Tbl.Hole.start hok hJlt (by omega), List.Perm.refl _, he1, hne0, hQ1, hQn, hQt, fun _ => ⟨rfl, rfl⟩⟩
        have hmaskH := hp.mask hn
        clear hok he1 hch hcp hT hX h0
        generalize Tbl.dist n J e0 = Q0 at hst0 hQ1 hQn
        clear hQt
        go_wp2_with fail
        go_loopg [6, 7] (Q0 - 1) (fun g i j wv => ∃ ih D Q : Nat, ∃ cur, i = .int .i64 (ih : Int) ∧ j = .int .i64 (((ih + D) % n : Nat) : Int) ∧ g + D = Q ∧ DSt w wv B X S n c tch t J e0 ih D Q cur)
        case atStart => exact ⟨J, 1, Q0, t, rfl, by simp, by omega, hst0⟩
        case round =>
          clear hst0
          obtain ⟨ih, D, Q, cur, rfl, rfl, hg, hst⟩ := hrel
          have hKlt : (ih + D) % n < n := Nat.mod_lt _ (by omega)
          have hil := hst.hole.lt
          have x0 := hst.idx.sl
          have hDn := hst.hole.dn
          have kh := hst.tab.hash _ hKlt
          have kp := hst.tab.place _ hKlt
          by_cases hz : (cur ((ih + D) % n)).1 = 0
          · have HG : Hid (Gone B X S n c tch t (hh1, p) w ((put wr S ih (0, 0)).setCell ⟨X, 1, none⟩ (.int .i64 (c : Int)))) := hst.done hXS hBX hBS hz hJlt HQ.out hzz
            rw [hz] at kh
            have hi' : (ih : Int) < (n : Int) := by omega
            have i1 := hst.tab.hash ih hil
            have i2 := hst.tab.place ih hil
            have i3 := hst.tab.fh ih hil
            have i4 := hst.tab.fp ih hil
            have hX3 := hst.idx.put (S := S) hXS ih (0, 0)
            have y1 : ((wr.setCell ⟨S, ih * 2, none⟩ (.int .u64 0)).setCell ⟨S, ih * 2 + 1, none⟩ (.int .i64 0)).cell? ⟨X, 1, none⟩ = some (.int .i64 ((c : Int) + 1)) := hX3.ct
            have y2 : ((wr.setCell ⟨S, ih * 2, none⟩ (.int .u64 0)).setCell ⟨S, ih * 2 + 1, none⟩ (.int .i64 0)).frozen? ⟨X, 1, none⟩ = false := hX3.f1
            clear hX3 hz hst kp
            generalize (ih + D) % n = K at hKlt kh ⊢
            have hK' : (K : Int) < (n : Int) := by omega
            go_wp2_with fail
            go_end0
            exact ⟨rfl, HG.out⟩
          · have hz' : ((((cur ((ih + D) % n)).1 : Nat) : Int) == 0) = false := by rw [beq_eq_false_iff_ne]; omega
            have hfar := hst.far hz
            have hfit := hst.tab.fits ((ih + D) % n)
            have hH := Tbl.home_lt (n := n) (by omega) (cur ((ih + D) % n)).1
            have eD1 := Tbl.dist_int (n := n) (a := Tbl.home n (cur ((ih + D) % n)).1) (b := (ih + D) % n) hH
            have eD2 := Tbl.dist_int (n := n) (a := ih) (b := (ih + D) % n) hil
            rw [Tbl.dist_of hil hDn] at eD2
            have hDl := Tbl.dist_lt (n := n) (by omega) (Tbl.home n (cur ((ih + D) % n)).1) ((ih + D) % n)
            have HNx : Hid (((ih + D) % n + 1) % n = (ih + (D + 1)) % n) := by show _ = _; rw [Nat.mod_add_mod, Nat.add_assoc]
            by_cases hge : D ≤ Tbl.dist n (Tbl.home n (cur ((ih + D) % n)).1) ((ih + D) % n)
            · have HM : Hid (DSt w (put wr S ih (cur ((ih + D) % n))) B X S n c tch t J e0 ((ih + D) % n) 1 (Q - D) (Tbl.upd cur ih (cur ((ih + D) % n)))) := hst.move hXS hBS (by omega) hz hge
              have i1 := hst.tab.hash ih hil
              have i2 := hst.tab.place ih hil
              have i3 := hst.tab.fh ih hil
              have i4 := hst.tab.fp ih hil
              have hKn : (ih + D) % n ≠ ih := hst.hole.ne
              clear hst hz
              generalize Tbl.dist n (Tbl.home n (cur ((ih + D) % n)).1) ((ih + D) % n) = E at eD1 hDl hge
              generalize hKK : (ih + D) % n = K at hKlt kh kp hz' hfit hH eD1 eD2 HNx HM hKn ⊢
              clear hKK
              have hK' : (K : Int) < (n : Int) := by omega
              have hi' : (ih : Int) < (n : Int) := by omega
              have hge' : (D : Int) ≤ (E : Int) := by omega
              go_wp2_with fail
              refine (home_any X n n (cur K).1 _ wr hp hn hfit x0).mono ?_
              rintro e w' ⟨rfl, hw'⟩
              have hw'' := hw'.symm
              clear hw'
              subst hw''
              go_wp2_with (go_at_call 29; refine (mask_any X n n _ _ (by omega) hn x0).mono ?_; rintro e w' ⟨rfl, hw'⟩; have hw'' := hw'.symm; clear hw'; subst hw'')
              clear eD1 eD2 hge'
              go_region
              all_goals
                go_wp2_with fail
                have hM := HM.out
                have x0' : (put wr S ih (cur K)).drew.cell? ⟨X, 0, none⟩ = some (.slice (some ⟨S, 0, none⟩) n n) := hM.idx.sl
                unfold put at x0'
                refine (next_any X n n K _ _ hp hn hKlt x0').mono ?_
                rintro e w' ⟨rfl, hw'⟩
                have hw'' := hw'.symm
                clear hw'
                subst hw''
                go_wp2_with fail
                go_roundg (gk - 1)
                case measure => omega
                case rel => exact ⟨K, 1, Q - D, _, rfl, by simp, by omega, hM.drew⟩
            · have HM : Hid (DSt w wr B X S n c tch t J e0 ih (D + 1) Q cur) := hst.stay hz (by omega)
              clear hst hz
              generalize Tbl.dist n (Tbl.home n (cur ((ih + D) % n)).1) ((ih + D) % n) = E at eD1 hDl hge
              generalize hKK : (ih + D) % n = K at hKlt kh kp hz' hfit hH eD1 eD2 HNx ⊢
              clear hKK
              have hK' : (K : Int) < (n : Int) := by omega
              have hge' : ¬ (D : Int) ≤ (E : Int) := by omega
              go_wp2_with fail
              refine (home_any X n n (cur K).1 _ wr hp hn hfit x0).mono ?_
              rintro e w' ⟨rfl, hw'⟩
              have hw'' := hw'.symm
              clear hw'
              subst hw''
              go_wp2_with (go_at_call 29; refine (mask_any X n n _ _ (by omega) hn x0).mono ?_; rintro e w' ⟨rfl, hw'⟩; have hw'' := hw'.symm; clear hw'; subst hw'')
              refine (next_any X n n K _ wr hp hn hKlt x0).mono ?_
              rintro e w' ⟨rfl, hw'⟩
              have hw'' := hw'.symm
              clear hw'
              subst hw''
              go_wp2_with fail
              go_roundg (gk - 1)
              case measure => omega
              case rel => exact ⟨ih, D + 1, Q, cur, rfl, by rw [← HNx.out]; simp, by omega, HM.out⟩
      · have q2' : ((t J).2 == p) = false := by rw [beq_eq_false_iff_ne]; exact q2
        have hdd : d < d0 := by
          apply Classical.byContradiction
          intro c
          have e : d = d0 := by omega
          have h1 := HD.out.1
          rw [← e, HJ.out] at h1
          exact q2 (by rw [h1, HD.out.2.1])
        rw [q1] at hch
        have hz' : ((hh1 : Int) == 0) = false := by rw [beq_eq_false_iff_ne]; omega
        clear q1 q2
        go_wp2_with fail
        refine (next_any X n n J _ w hp hn hJlt h0).mono ?_
        rintro e w' ⟨rfl, hw'⟩
        have hw'' := hw'.symm
        clear hw'
        subst hw''
        go_wp2_with fail
        go_roundg (gk - 1)
        case measure => omega
        case rel => exact ⟨rfl, d + 1, by omega, by rw [HN.out]; simp⟩
    · have q1' : ((((t J).1 : Nat) : Int) == ((hh1 : Nat) : Int)) = false := by rw [beq_eq_false_iff_ne]; omega
      have hdd : d < d0 := by
        apply Classical.byContradiction
        intro c
        have e : d = d0 := by omega
        have h1 := HD.out.1
        rw [← e, HJ.out] at h1
        exact q1 (by rw [h1, HD.out.2.1])
      have hz : (t J).1 ≠ 0 := by have := HD.out.2.2.1 d hdd; rw [HJ.out] at this; exact this
      have hz' : ((((t J).1 : Nat) : Int) == 0) = false := by rw [beq_eq_false_iff_ne]; omega
      have q1i : ¬ ((((t J).1 : Nat) : Int) = ((hh1 : Nat) : Int)) := by omega
      clear q1 hz
      go_wp2_with fail
      refine (next_any X n n J _ w hp hn hJlt h0).mono ?_
      rintro e w' ⟨rfl, hw'⟩
      have hw'' := hw'.symm
      clear hw'
      subst hw''
      go_wp2_with fail
      go_roundg (gk - 1)
      case measure => omega
      case rel => exact ⟨rfl, d + 1, by omega, by rw [HN.out]; simp⟩

/-- Delete, whole: of an item that the index holds -/
theorem delete_st (X n c h s0 : Nat) (p tch : Int) (t : Nat → Nat × Int) (w : World) (hn : n ≤ 1048576) (hh : h < 18446744073709551616) (hst : St w X n t (c + 1) tch) (hs0 : s0 < n) (hs1 : t s0 = (h ||| 1, p)) :
    Calls Try.prog 18 #[.pointer (some ⟨X, 0, none⟩), .int .u64 (h : Int), .int .i64 p] w fun e w' => e = .returned (.tuple #[]) ∧
      ∃ i0 T, i0 < n ∧ t i0 = (h ||| 1, p) ∧ (Tbl.items t n).Perm ((h ||| 1, p) :: Tbl.items T n) ∧ (Tbl.Ok n (Tbl.upd t i0 (0, 0)) → T = Tbl.upd t i0 (0, 0)) ∧ St w' X n T c tch ∧ Below X w w' := by
  obtain ⟨hor, hodd, hlt⟩ := or1 h hh
  obtain ⟨hXw, hst⟩ := hst
  rcases hst with ⟨_, hc, _⟩ | ⟨hp, hok, hcnt, hload, S, hXS, hSw, hX, hT⟩
  · omega
  · have h16 := hp.1
    obtain ⟨e0, he0, he1⟩ := Tbl.exists_empty (t := t) (n := n) (by omega)
    refine (delete_core X X S n c h (h ||| 1) s0 e0 p tch t w hp hn hor hlt hX hT (by omega) (Nat.le_refl _) (by omega) (by omega) hok hs0 hs1 (by omega) he0 he1).mono ?_
    rintro e w' ⟨he, i0, T, hi0, hv, hokT, hper, hstill, hX', hT', hb, hsz⟩
    refine ⟨he, i0, T, hi0, hv, hper, hstill, ⟨by omega, .inr ⟨hp, hokT, ?_, by omega, S, hXS, by omega, hX', hT'⟩⟩, hb⟩
    have := hper.length_eq
    rw [Tbl.items_length, List.length_cons, Tbl.items_length] at this
    omega

end Go.Proofs.Qxb6602356a
