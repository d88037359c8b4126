/-
  DERIVED. count: its walk.
-/
import Derived.Test.Qxb6600940aCount3
import Derived.Outline
import Derived.Deep.RegionHeld3
import Derived.Deep.DeepCutAuto
namespace Go.Proofs.Qxb6600940a
open Go.RowKit

theorem look_top {I : Ix} {W w1 : World} {marked : Int} {mk : Nat → Int} {lv : Value} {m : Nat} {xs : List Value} (hs : I.Stat W) (hd : I.Dyn W w1 marked mk lv m xs) (t : ByteArray) (ht : t.size ≤ maxLen) :
    (Instr.lookup 67 (.map (some I.mt)) (.string t) false).run Try.prog w1 = .ok (if members (I.top t) I.n = [] then .pointer none else .pointer (some ⟨I.lt t, 0, none⟩)) w1 := by
  obtain ⟨nn, c, f, hm, hf⟩ := hs.mtop
  obtain ⟨l, hl⟩ := keyStr t ht
  have := (hm.of_block (hd.same _ hs.mtS)).look key9 Try.underlying67 zero68 hl
  rw [this, hf t]
  split <;> rfl
theorem look_sub {I : Ix} {W w1 : World} {marked : Int} {mk : Nat → Int} {lv : Value} {m : Nat} {xs : List Value} (hs : I.Stat W) (hd : I.Dyn W w1 marked mk lv m xs) (c x : ByteArray) (hc : c.size ≤ maxLen) (hx : x.size ≤ maxLen) (hne : x ≠ ⟨#[]⟩) :
    (Instr.lookup 70 (.map (some I.ms)) (.agg #[.string c, .string x]) false).run Try.prog w1 = .ok (if members (I.sub c x) I.n = [] then .pointer none else .pointer (some ⟨I.ls c x, 0, none⟩)) w1 := by
  obtain ⟨nn, cc, f, hm, hf⟩ := hs.msub
  obtain ⟨l, hl⟩ := keySubj c x hc hx
  have := (hm.of_block (hd.same _ hs.msS)).look key47 Try.underlying70 zero68 hl
  rw [this, hf c x hne]
  split <;> rfl

theorem own_slice {w : World} {B : Nat} {e : TypeId} {size n : Nat} {v : Value} {xs : List Value} (h : w.ownsRow B e size v n xs) : ∃ la lc, v = .slice la n lc := by
  rcases h.2 with ⟨rfl, rfl⟩ | ⟨g, cap, cur, rfl, _⟩
  · exact ⟨_, _, rfl⟩
  · exact ⟨_, _, rfl⟩

theorem append_step {I : Ix} {W wr : World} {sb : Nat} {sv : Value} {sc st : ByteArray} {marked : Int} {mk : Nat → Int} {la1 : Option Addr} {lc1 ln : Nat} {Ls : List (Nat × (Nat → Bool))} (hcs : CS I W wr sb sv sc st marked mk (.slice la1 ln lc1) Ls) (hs : I.Stat W) (hln : Ls.length = ln) (l : Nat × (Nat → Bool)) :
    ∀ (v1 : Value) (w1 : World), w1.ownsRow (I.fb + 1) 68 1 v1 (ln + 1) (ptrs Ls ++ [.pointer (some ⟨l.1, 0, none⟩)]) → (wr.alloc (.cells #[.pointer (some ⟨l.1, 0, none⟩)] 68)).grownBy w1 (Value.slice la1 ln lc1).ownBlock → (v1.ownBlock = (Value.slice la1 ln lc1).ownBlock ∨ v1.ownBlock = some (wr.alloc (.cells #[.pointer (some ⟨l.1, 0, none⟩)] 68)).heap.size) →
            ∃ la2 lc2, v1 = .slice la2 (ln + 1) lc2 ∧ w1.cell? ⟨I.fb, 3, none⟩ = some (.slice la1 ln lc1) ∧ w1.frozen? ⟨I.fb, 3, none⟩ = false ∧ CS I W (w1.setCell ⟨I.fb, 3, none⟩ v1) sb sv sc st marked mk v1 (Ls ++ [l]) := by
  intro v1 w1 ho hg ha
  subst hln
  have c3 : wr.cell? ⟨I.fb, 3, none⟩ = some (.slice la1 Ls.length lc1) := hcs.1.f.cell (i := 3) (by omega)
  have z3 : wr.frozen? ⟨I.fb, 3, none⟩ = false := hcs.1.f.frozen 3
  have hfw := hcs.1.f.lt
  have HNB : some I.fb ≠ (Value.slice la1 Ls.length lc1).ownBlock := fun e => by have := (hcs.1.own.lt _ e.symm).1; omega
  obtain ⟨la2, lc2, hv⟩ := own_slice ho
  refine ⟨la2, lc2, hv, hg.cell (a := ⟨I.fb, 3, none⟩) (Lib.cell?_alloc_some _ c3) HNB, ?_, ?_⟩
  · exact (World.frozen?_of_block (a := ⟨I.fb, 3, none⟩) (hg.block I.fb (by show I.fb < (wr.heap.push _).size; rw [Array.size_push]; omega) HNB)).trans ((World.frozen?_of_block (a := ⟨I.fb, 3, none⟩) (Go.Deep.blk_alloc_lt wr _ I.fb hfw)).trans z3)
  · exact (hcs.later hs ((Below.refl _ _).alloc (Nat.le_refl _) _)).append hs hg l ho ha

theorem wrap_small {x : Int} (h1 : -9223372036854775808 ≤ x) (h2 : x ≤ 9223372036854775807) : IntKind.i64.wrap x = x := by
  rw [IntKind.wrap_i64]; omega
theorem wrap_is (n : Int) : IntKind.i64.wrap n = wrap64 n := by rw [IntKind.wrap_i64]; unfold wrap64; omega

/-- What count leaves. -/
def Counted (I : Ix) (W : World) (z : Int) (e : Ending) (w' : World) (bound : Int) : Prop :=
  e = .returned (.int .i64 z) ∧ ∃ marked mk lv m xs, I.Dyn W w' marked mk lv m xs ∧ marked ≤ bound ∧ 0 ≤ marked ∧ ∀ i, i < I.n → 0 ≤ mk i ∧ mk i ≤ marked

set_option maxRecDepth 100000 in
set_option maxHeartbeats 1000000 in
theorem count_any (I : Ix) (W wq : World) (marked : Int) (mk : Nat → Int) (lv : Value) (m : Nat) (xs : List Value) (sv : Value) (S : List ByteArray) (sc st : ByteArray) (hs : I.Stat W) (hd : I.Dyn W wq marked mk lv m xs)
    (hS : StrsIn (fun b => b < I.base) W sv S) (hl : S.length ≤ 4096) (hasc : Asc S) (hsc : sc.size ≤ maxLen) (hst : st.size ≤ maxLen) (hm0 : 0 ≤ marked) (hm1 : marked < 4611686018427387904) (hmk : ∀ i, i < I.n → 0 ≤ mk i ∧ mk i ≤ marked) :
    Calls Try.prog 39 #[.pointer (some ⟨I.fb, 0, none⟩), .agg #[sv, .string sc, .string st, .int .i32 0]] wq fun e w' => Counted I W (wrap64 (sumTo I.T I.C I.X I.D S sc st I.n)) e w' (marked + 1) := by
  obtain ⟨la, lc, lc0, rfl, hcut, ho⟩ := cut_lists hd.own
  obtain ⟨sa, scap, rfl, hscap⟩ := hS.2.2
  have HS : Hid (I.Stat W) := hs
  have HST : Hid (StrsIn (fun b => b < I.base) W (.slice sa S.length scap) S) := hS
  have HC0 : Hid (CS I W ((wq.setCell ⟨I.fb, 3, none⟩ (.slice la 0 lc0)).alloc (.cells #[.slice sa S.length scap, .string sc, .string st, .int .i32 0] 56)) wq.heap.size (.slice sa S.length scap) sc st marked mk (.slice la 0 lc0) []) := CS.start hd hs _ _ _ ho
  have hfb : I.fb < wq.heap.size := hd.f.lt
  have hne : I.fb ≠ wq.heap.size := by omega
  have f3 : wq.cell? ⟨I.fb, 3, none⟩ = some (.slice la m lc) := hd.f.cell (i := 3) (by omega)
  have z3 : wq.frozen? ⟨I.fb, 3, none⟩ = false := hd.f.frozen 3
  have HD : Hid (I.Dyn W wq marked mk (.slice la m lc) m xs) := hd
  clear hs hS hd ho
  go_enter Try.func39, Try.ntmps39
  go_wp2
  clear f3 z3 hcut
  obtain ⟨sb, hsb⟩ : ∃ sb, wq.heap.size = sb := ⟨_, rfl⟩
  rw [hsb] at HC0 hfb hne ⊢
  generalize (wq.setCell ⟨I.fb, 3, none⟩ (.slice la 0 lc0)).alloc (.cells #[.slice sa S.length scap, .string sc, .string st, .int .i32 0] 56) = w0 at HC0 ⊢
  clear hsb HD hne
  obtain ⟨i0, hi0, hz0, hz1, hz2⟩ := info_parts Try.info68
  go_loopw [30] (fun i w1 => ∃ (k : Nat) (la1 : Option Addr) (lc1 : Nat), k ≤ S.length ∧ i = .int .i64 k ∧ CS I W w1 sb (.slice sa S.length scap) sc st marked mk (.slice la1 (I.tl S k).length lc1) (I.tl S k)) (fun i _ => S.length - (intOf i).toNat)
  case atStart => exact ⟨0, la, lc0, Nat.zero_le _, rfl, HC0.out⟩
  case round =>
    obtain ⟨k, la1, lc1, hk, rfl, hcs⟩ := hrel
    have HCS : Hid (CS I W wr sb (.slice sa S.length scap) sc st marked mk (.slice la1 (I.tl S k).length lc1) (I.tl S k)) := hcs
    clear HC0 hcs
    have c1 : wr.cell? ⟨I.fb, 1, none⟩ = some (.map (some I.mt)) := HCS.out.1.f.cell (i := 1) (by omega)
    have c3 : wr.cell? ⟨I.fb, 3, none⟩ = some (.slice la1 (I.tl S k).length lc1) := HCS.out.1.f.cell (i := 3) (by omega)
    have z3 : wr.frozen? ⟨I.fb, 3, none⟩ = false := HCS.out.1.f.frozen 3
    by_cases hlt : k < S.length
    · obtain ⟨hts, b, o, rfl, ct, hbb⟩ : (S.getD k ByteArray.empty).size ≤ 9223372036854775807 ∧ ∃ b o, sa = some ⟨b, o, none⟩ ∧ W.cell? ⟨b, o + k, none⟩ = some (.string (S.getD k ByteArray.empty)) ∧ b < I.base := by
        obtain ⟨⟨a0, c0, e0, _, _, hc⟩, hp, _⟩ := HST.out
        obtain ⟨h1, b, o, h2, h3⟩ := hc k hlt
        injection e0 with e1 e2 e3
        subst e1 h2
        exact ⟨h1, b, o, rfl, h3, hp b o scap rfl (by omega)⟩
      have ct1 := HCS.out.1.cell (Or.inl hbb) ct
      have hlook := look_top HS.out HCS.out.1 (S.getD k ByteArray.empty) (by unfold maxLen; omega)
      have HTL : Hid _ := tl_succ I S k hlt
      clear ct
      generalize S.getD k ByteArray.empty = t at ct1 hlook HTL
      by_cases hmem : members (I.top t) I.n = []
      · rw [if_pos hmem] at hlook
        have HTL' : Hid (I.tl S (k + 1) = I.tl S k) := by have := HTL.out; rw [if_pos hmem] at this; show _ = _; simpa using this
        clear hmem HTL
        go_wp2
        go_roundw
        case rel => exact ⟨k + 1, la1, lc1, by omega, by go_num, by rw [HTL'.out]; exact HCS.out⟩
        case measure => simp [intOf]; omega
      · rw [if_neg hmem] at hlook
        have HTL' : Hid (I.tl S (k + 1) = I.tl S k ++ [(I.lt t, I.top t)]) := by have := HTL.out; rw [if_neg hmem] at this; exact this
        clear hmem HTL
        have hll : (I.tl S k).length ≤ 4096 := by
          have : (I.tl S k).length ≤ S.length := by
            unfold Ix.tl; rw [List.length_map]; exact Nat.le_trans (List.length_filter_le _ _) (by rw [List.length_take]; omega)
          omega
        have HOWN : Hid (wr.ownsRow (I.fb + 1) 68 1 (.slice la1 (I.tl S k).length lc1) (I.tl S k).length (ptrs (I.tl S k))) := HCS.out.1.own
        generalize hLn : (I.tl S k).length = ln at c3 hll HOWN HCS
        have hfw : I.fb + 1 ≤ wr.heap.size := HCS.out.1.f.lt
        have HST2 := append_step HCS.out HS.out hLn (I.lt t, I.top t)
        rw [← HTL'.out] at HST2
        have HST2' : Hid _ := HST2
        clear HST2
        go_wp2_with ((at_builtin; refine wpList_append_own_at _ rfl (.tmp 46) (.tmp 48) 50 rfl (I.fb + 1) 68 i0 (.pointer none) 1 8 Try.underlying50 hi0 hz0 hz1 hz2 rfl (by decide) _ _ _ rfl (HOWN.out.alloc _) ⟨wr.heap.size, 0, none⟩ 1 1 [.pointer (some ⟨I.lt t, 0, none⟩)] rfl rfl (news_at _ _ _ _ rfl) (one_ptr _) (by unfold maxLen; omega) (by omega) (by simp; omega) ?_; intro v1 w1 hown1 hgrow1 hiff1 hat1; obtain ⟨la2, lc2, hv1, q3, qz, hcs1⟩ := HST2'.out v1 w1 hown1 hgrow1 hat1; subst hv1; have HCS1 : Hid (CS I W (w1.setCell ⟨I.fb, 3, none⟩ (.slice la2 (ln + 1) lc2)) sb (.slice (some ⟨b, o, none⟩) S.length scap) sc st marked mk (.slice la2 (ln + 1) lc2) (I.tl S (k + 1))) := hcs1; clear hown1 hgrow1 hiff1 hat1 hcs1))
        go_roundw
        case rel => exact ⟨k + 1, la2, lc2, by omega, by go_num, by rw [HTL'.out] at HCS1 ⊢; rw [List.length_append, hLn]; exact HCS1.out⟩
        case measure => simp [intOf]; omega
    · have hkS : k = S.length := by omega
      subst hkS
      have s2 : wr.cell? ⟨sb, 2, none⟩ = some (.string st) := HCS.out.2.1.cell (i := 2) (by omega)
      have s1 : wr.cell? ⟨sb, 1, none⟩ = some (.string sc) := HCS.out.2.1.cell (i := 1) (by omega)
      clear hlt hk c1
      go_upto_if 56 with fail
      go_cut [8] (fun _ wx => ∃ (la2 : Option Addr) (lc2 : Nat), CS I W wx sb (.slice sa S.length scap) sc st marked mk (.slice la2 (I.ll S sc st).length lc2) (I.ll S sc st))
      case first =>
        by_cases q1 : st = ⟨#[]⟩
        · have e3 : st.toList.isEmpty = true := by rw [isEmpty_toList]; simp [q1]
          rw [e3]
          have HLL : Hid (I.ll S sc st = I.tl S S.length) := by show _ = _; simp [Ix.ll, Ix.sl, q1]
          clear q1
          go_wp2
          go_meet
          case rel => exact ⟨la1, lc1, by rw [HLL.out]; exact HCS.out⟩
        · have e3 : st.toList.isEmpty = false := by rw [isEmpty_toList]; simp [q1]
          rw [e3]
          have c2 : wr.cell? ⟨I.fb, 2, none⟩ = some (.map (some I.ms)) := HCS.out.1.f.cell (i := 2) (by omega)
          have HDR : Hid (∀ nq, CS I W (wr.drewN nq) sb (.slice sa S.length scap) sc st marked mk (.slice la1 (I.tl S S.length).length lc1) (I.tl S S.length)) := fun nq => HCS.out.later HS.out (below_drewN' _ _ _)
          have hlook : ∀ nq, (Instr.lookup 70 (.map (some I.ms)) (.agg #[.string sc, .string st]) false).run Try.prog (wr.drewN nq) = .ok (if members (I.sub sc st) I.n = [] then .pointer none else .pointer (some ⟨I.ls sc st, 0, none⟩)) (wr.drewN nq) := fun nq => look_sub HS.out (HDR.out nq).1 sc st hsc hst q1
          by_cases hmem : members (I.sub sc st) I.n = []
          · simp only [if_pos hmem] at hlook
            have HLL : Hid (I.ll S sc st = I.tl S S.length) := by show _ = _; simp [Ix.ll, Ix.sl, hmem]
            clear q1 hmem
            go_wp2
            go_quiet (fail)
            go_wp2
            go_meet
            case rel => exact ⟨la1, lc1, by rw [HLL.out]; exact HDR.out _⟩
          · simp only [if_neg hmem] at hlook
            have HLL : Hid (I.ll S sc st = I.tl S S.length ++ [(I.ls sc st, I.sub sc st)]) := by show _ = _; simp [Ix.ll, Ix.sl, hmem, q1]
            clear q1 hmem
            have hll : (I.tl S S.length).length ≤ 4096 := by
              have : (I.tl S S.length).length ≤ S.length := by
                unfold Ix.tl; rw [List.length_map]; exact Nat.le_trans (List.length_filter_le _ _) (by rw [List.length_take]; omega)
              omega
            generalize hLn : (I.tl S S.length).length = ln at c3 hll HDR HCS
            have HOWN : Hid (∀ nq, (wr.drewN nq).ownsRow (I.fb + 1) 68 1 (.slice la1 ln lc1) ln (ptrs (I.tl S S.length))) := fun nq => by have := (HDR.out nq).1.own; rwa [hLn] at this
            have hfw : I.fb + 1 ≤ wr.heap.size := HCS.out.1.f.lt
            have HST2 : Hid (∀ nq (v1 : Value) (w1 : World), w1.ownsRow (I.fb + 1) 68 1 v1 (ln + 1) (ptrs (I.tl S S.length) ++ [.pointer (some ⟨I.ls sc st, 0, none⟩)]) → ((wr.drewN nq).alloc (.cells #[.pointer (some ⟨I.ls sc st, 0, none⟩)] 68)).grownBy w1 (Value.slice la1 ln lc1).ownBlock → (v1.ownBlock = (Value.slice la1 ln lc1).ownBlock ∨ v1.ownBlock = some ((wr.drewN nq).alloc (.cells #[.pointer (some ⟨I.ls sc st, 0, none⟩)] 68)).heap.size) →
                ∃ la2 lc2, v1 = .slice la2 (ln + 1) lc2 ∧ w1.cell? ⟨I.fb, 3, none⟩ = some (.slice la1 ln lc1) ∧ w1.frozen? ⟨I.fb, 3, none⟩ = false ∧ CS I W (w1.setCell ⟨I.fb, 3, none⟩ v1) sb (.slice sa S.length scap) sc st marked mk v1 (I.ll S sc st)) := by
              intro nq
              rw [HLL.out]
              exact append_step (HDR.out nq) HS.out hLn (I.ls sc st, I.sub sc st)
            go_wp2
            go_quiet (fail)
            go_wp2_with ((at_builtin; (refine wpList_append_own_at _ rfl (.tmp 70) (.tmp 72) 50 rfl (I.fb + 1) 68 i0 (.pointer none) 1 8 Try.underlying50 hi0 hz0 hz1 hz2 rfl (by decide) _ _ _ rfl ((HOWN.out _).alloc _) ⟨wr.heap.size, 0, none⟩ 1 1 [.pointer (some ⟨I.ls sc st, 0, none⟩)] rfl rfl (news_at _ _ _ _ rfl) (one_ptr _) (by unfold maxLen; omega) (by omega) (by simp; omega) ?_; intro v1 w1 hown1 hgrow1 hiff1 hat1; obtain ⟨la2, lc2, hv1, q3, qz, hcs1⟩ := HST2.out _ v1 w1 hown1 hgrow1 hat1; subst hv1; have HCS1 : Hid (CS I W (w1.setCell ⟨I.fb, 3, none⟩ (.slice la2 (ln + 1) lc2)) sb (.slice sa S.length scap) sc st marked mk (.slice la2 (ln + 1) lc2) (I.ll S sc st)) := hcs1; clear hown1 hgrow1 hiff1 hat1 hcs1)))
            go_meet
            case rel => exact ⟨la2, lc2, by rw [show (I.ll S sc st).length = ln + 1 by rw [HLL.out, List.length_append, hLn]; rfl]; exact HCS1.out⟩
      case rest =>
        obtain ⟨la2, lc2, hcs2⟩ := hcut
        have HL : Hid (CS I W wc sb (.slice sa S.length scap) sc st marked mk (.slice la2 (I.ll S sc st).length lc2) (I.ll S sc st)) := hcs2
        have hlen : (I.ll S sc st).length ≤ 4097 := by have := ll_len I S sc st; omega
        have HG : Hid (∀ l ∈ I.ll S sc st, I.ListAt W l.1 l.2) := ll_good HS.out S sc st
        have HEND : Hid (∀ (M : Nat → Bool) (l : Nat), (∀ i, i < I.n → M i = true → ∃ j, j < (I.ll S sc st).length ∧ ((I.ll S sc st).getD j noL).2 i = true) →
          (∀ j, j < (I.ll S sc st).length → j ≠ l → ∀ i, i ∈ members ((I.ll S sc st).getD j noL).2 I.n → M i = true ∨ I.Dn i = 0) →
          total I.Dn I.n ((I.ll S sc st).map (·.2)) - taken I.Dn (cntIn ((I.ll S sc st).map (·.2))) M I.n = sumTo I.T I.C I.X I.D S sc st I.n) := fun M l => count_end I S sc st M l
        have HCNT : Hid (∀ i, i < I.n → cntIn ((I.ll S sc st).map (·.2)) i = listsN (I.T.getD i []) S (I.C.getD i ⟨#[]⟩) (I.X.getD i ⟨#[]⟩) sc st) := fun i hi => cnt_ll I i hi S sc st hasc (HS.out.tasc i hi)
        clear hcs2 HCS s1 s2 c3 z3 hasc
        obtain ⟨R, hR⟩ : ∃ R, sumTo I.T I.C I.X I.D S sc st I.n = R := ⟨_, rfl⟩
        have HR : Hid (sumTo I.T I.C I.X I.D S sc st I.n = R) := hR
        clear hR
        generalize I.ll S sc st = L at HL hlen HG HEND HCNT
        have c3 : wc.cell? ⟨I.fb, 3, none⟩ = some (.slice la2 L.length lc2) := HL.out.1.f.cell (i := 3) (by omega)
        generalize hLn : L.length = ln at c3 hlen HL
        go_wp2
        go_loopw [9, 81] (fun d i wr => ∃ (j : Nat) (z : Int), j ≤ ln ∧ i = .int .i64 j ∧ d = .int .i64 z ∧ Hid (z = wrap64 (total I.Dn I.n ((L.take j).map (·.2)))) ∧ wr = wc) (fun _ i _ => ln - (intOf i).toNat)
        case atStart => exact ⟨0, 0, Nat.zero_le _, rfl, rfl, by show (0 : Int) = _; simp [total, wrap64], by first | rfl | trivial⟩
        case round =>
          obtain ⟨j, z, hj, rfl, rfl, hz, hwc⟩ := hrel
          subst hwc
          by_cases hlt : j < ln
          · obtain ⟨g, rfl, cg⟩ := HL.out.list (j := j) (by omega)
            obtain ⟨g2, cap2, s1, s2, d0, d1, hr⟩ := HL.out.1.listAt (HG.out _ (getD_mem (by omega : j < L.length)))
            have HT : Hid _ := total_take I.Dn I.n L j (by omega)
            clear hr d0
            generalize (L.getD j noL).1 = lp at cg d1
            generalize dealsOf I.Dn (members (L.getD j noL).2 I.n) = dl at d1 HT
            go_wp2
            go_roundw
            case rel => exact ⟨j + 1, _, by omega, by go_num, rfl, by show _ = _; rw [HT.out, hz.out]; rw [wrap_add', wrap_add], by first | rfl | trivial⟩
            case measure => simp [intOf]; omega
          · have hjn : j = ln := by omega
            subst hjn
            clear hlt hj
            have HZ : Hid (z = wrap64 (total I.Dn I.n (L.map (·.2)))) := by have := hz.out; show z = _; rw [this, List.take_of_length_le (by omega)]
            clear hz
            by_cases h2 : j < 2
            · have HZR : Hid (z = wrap64 R) := by
                have := HEND.out (fun _ => false) 0 (fun i _ h => by cases h) (fun j' hj' hne => by omega)
                rw [taken_none, HR.out] at this
                show z = _
                rw [HZ.out]; congr 1; omega
              go_wp2
              go_ret
              exact ⟨by rw [HR.out, ← HZR.out]; rfl, marked, mk, _, _, _, HL.out.1, by omega, hm0, hmk⟩
            · generalize wr = w2 at *
              go_wp2
              go_loopw [12, 104] (fun l i wr => ∃ (q l' : Nat), q ≤ j ∧ i = .int .i64 q ∧ l = .int .i64 l' ∧ l' < j ∧ CS I W wr sb (.slice sa S.length scap) sc st marked mk (.slice la2 j lc2) L) (fun _ i _ => j - (intOf i).toNat)
              case atStart => exact ⟨0, 0, Nat.zero_le _, rfl, rfl, by omega, HL.out⟩
              case round =>
                obtain ⟨q, l, hq, rfl, rfl, hlj, hcs3⟩ := hrel
                have HC : Hid (CS I W wr sb (.slice sa S.length scap) sc st marked mk (.slice la2 j lc2) L) := hcs3
                clear HL hcs3 c3
                have c3 : wr.cell? ⟨I.fb, 3, none⟩ = some (.slice la2 j lc2) := HC.out.1.f.cell (i := 3) (by omega)
                by_cases hlt : q < j
                · obtain ⟨g, rfl, cg⟩ := HC.out.list (j := q) (by omega)
                  obtain ⟨g', hg', cl⟩ := HC.out.list (j := l) (by omega)
                  injection hg' with hg'
                  injection hg' with hg'
                  subst hg'
                  obtain ⟨g2, cap2, _, _, d0, _, _⟩ := HC.out.1.listAt (HG.out _ (getD_mem (by omega : q < L.length)))
                  obtain ⟨g3, cap3, _, _, d3, _, _⟩ := HC.out.1.listAt (HG.out _ (getD_mem (by omega : l < L.length)))
                  generalize (L.getD q noL).1 = lp at cg d0
                  generalize (L.getD l noL).1 = lp' at cl d3
                  generalize (members (L.getD q noL).2 I.n).length = n1 at d0
                  generalize (members (L.getD l noL).2 I.n).length = n2 at d3
                  by_cases hgt : n2 < n1
                  · go_wp2
                    go_quiet (fail)
                    go_wp2
                    go_roundw
                    case rel => exact ⟨q + 1, q, by omega, by go_num, rfl, by omega, HC.out.later HS.out (below_drewN' _ _ _)⟩
                    case measure => simp [intOf]; omega
                  · go_wp2
                    go_quiet (fail)
                    go_wp2
                    go_roundw
                    case rel => exact ⟨q + 1, l, by omega, by go_num, rfl, by omega, HC.out.later HS.out (below_drewN' _ _ _)⟩
                    case measure => simp [intOf]; omega
                · have hqj : q = j := by omega
                  subst hqj
                  clear hlt hq
                  have c4 : wr.cell? ⟨I.fb, 4, none⟩ = some (.int .i64 marked) := HC.out.1.f.cell (i := 4) (by omega)
                  have z4 : wr.frozen? ⟨I.fb, 4, none⟩ = false := HC.out.1.f.frozen 4
                  have HC4 : Hid _ := HC.out.newMark HS.out (marked + 1)
                  have HP0 : Hid (PInv I L (marked + 1) l 0 0 z mk (fun _ => false)) := pinv_start HZ.out (fun i hi => by have := hmk i hi; omega)
                  have HC4' : Hid (CS I W (wr.setCell ⟨I.fb, 4, none⟩ (.int .i64 (marked + 1))) sb (.slice sa S.length scap) sc st (marked + 1) mk (.slice la2 q lc2) L) := HC4.out
                  clear HC4 HC HZ
                  go_wp2
                  go_loopw [9, 140] (fun d i wr => ∃ (e : Nat) (z : Int) (mk' : Nat → Int) (M : Nat → Bool), e ≤ q ∧ i = .int .i64 e ∧ d = .int .i64 z ∧ PInv I L (marked + 1) l e 0 z mk' M ∧ CS I W wr sb (.slice sa S.length scap) sc st (marked + 1) mk' (.slice la2 q lc2) L) (fun _ i _ => q - (intOf i).toNat)
                  case atStart => exact ⟨0, z, mk, fun _ => false, Nat.zero_le _, rfl, rfl, HP0.out, HC4'.out⟩
                  case round =>
                    obtain ⟨e, zz, mk4, M4, he, rfl, rfl, hp4, hcs4⟩ := hrel
                    have HP : Hid (PInv I L (marked + 1) l e 0 zz mk4 M4) := hp4
                    have HC : Hid (CS I W wr sb (.slice sa S.length scap) sc st (marked + 1) mk4 (.slice la2 q lc2) L) := hcs4
                    clear hp4 hcs4 HP0 HC4' c3 c4
                    by_cases hlt : e < q
                    · obtain ⟨g, rfl, cg⟩ := HC.out.list (j := e) (by omega)
                      by_cases hel : e = l
                      · subst hel
                        go_wp2
                        go_roundw
                        case rel => exact ⟨e + 1, zz, mk4, M4, by omega, by go_num, rfl, HP.out.skip, HC.out⟩
                        case measure => simp [intOf]; omega
                      · obtain ⟨g2, cap2, sf1, sf2, d0, _, hrow⟩ := HC.out.1.listAt (HG.out _ (getD_mem (by omega : e < L.length)))
                        have hroww : Hid (I.safe g2 ∧ ∀ r, r < (members (L.getD e noL).2 I.n).length → W.cell? ⟨g2, r, none⟩ = some (.pointer (some ⟨I.bp ((members (L.getD e noL).2 I.n).getD r 0), 0, none⟩))) := ⟨sf2, fun r hr => (World.cell?_of_block (HC.out.1.same g2 sf2)).symm.trans (hrow r hr)⟩
                        have hml : (members (L.getD e noL).2 I.n).length ≤ 4096 := by
                          have h1 : (members (L.getD e noL).2 I.n).length ≤ I.n := by unfold members; exact Nat.le_trans (List.length_filter_le _ _) (by rw [List.length_range]; omega)
                          have := HS.out.n4; omega
                        clear hrow sf1 sf2
                        have hel' : ((e : Int) == (l : Int)) = false := by rw [beq_eq_false_iff_ne]; omega
                        generalize wr = w4 at *
                        generalize hmn : (members (L.getD e noL).2 I.n).length = mn at d0 hml
                        generalize (L.getD e noL).1 = lp at cg d0
                        go_wp2
                        go_loopw [9, 153] (fun d i wr => ∃ (p : Nat) (z : Int) (mk' : Nat → Int) (M : Nat → Bool), p ≤ mn ∧ i = .int .i64 p ∧ d = .int .i64 z ∧ PInv I L (marked + 1) l e p z mk' M ∧ CS I W wr sb (.slice sa S.length scap) sc st (marked + 1) mk' (.slice (some ⟨g, 0, none⟩) q lc2) L) (fun _ i _ => mn - (intOf i).toNat)
                        case atStart => exact ⟨0, zz, mk4, M4, Nat.zero_le _, rfl, rfl, HP.out, HC.out⟩
                        case round =>
                          obtain ⟨p, z5, mk5, M5, hp, rfl, rfl, hp5, hcs5⟩ := hrel
                          have HP5 : Hid (PInv I L (marked + 1) l e p z5 mk5 M5) := hp5
                          have HC5 : Hid (CS I W wr sb (.slice sa S.length scap) sc st (marked + 1) mk5 (.slice (some ⟨g, 0, none⟩) q lc2) L) := hcs5
                          clear hp5 hcs5 HP HC cg d0
                          by_cases hlt2 : p < mn
                          · have hpm : p < (members (L.getD e noL).2 I.n).length := by omega
                            have HIN : Hid ((members (L.getD e noL).2 I.n).getD p 0 < I.n) := (member_at hpm).1
                            have cp : wr.cell? ⟨g2, p, none⟩ = some (.pointer (some ⟨I.bp ((members (L.getD e noL).2 I.n).getD p 0), 0, none⟩)) := HC5.out.1.cell hroww.out.1 (hroww.out.2 p hpm)
                            have HPASS : Hid (I.Dn ((members (L.getD e noL).2 I.n).getD p 0) = 0 ∨ mk5 ((members (L.getD e noL).2 I.n).getD p 0) = marked + 1 → PInv I L (marked + 1) l e (p + 1) z5 mk5 M5) := fun h => HP5.out.pass hpm h
                            have HTAKE : Hid (mk5 ((members (L.getD e noL).2 I.n).getD p 0) ≠ marked + 1 → _) := fun h => HP5.out.take (by omega) hpm h (by omega)
                            generalize (members (L.getD e noL).2 I.n).getD p 0 = i at HIN cp HPASS HTAKE
                            have b5 : wr.cell? ⟨I.bp i, 5, none⟩ = some (.int .i64 (I.Dn i)) := (HC5.out.1.b i HIN.out).cell (i := 5) (by omega)
                            have b6 : wr.cell? ⟨I.bp i, 6, none⟩ = some (.int .i64 (mk5 i)) := (HC5.out.1.b i HIN.out).cell (i := 6) (by omega)
                            have y6 : wr.frozen? ⟨I.bp i, 6, none⟩ = false := (HC5.out.1.b i HIN.out).frozen 6
                            have f4 : wr.cell? ⟨I.fb, 4, none⟩ = some (.int .i64 (marked + 1)) := HC5.out.1.f.cell (i := 4) (by omega)
                            by_cases hD : I.Dn i = 0
                            · rw [hD] at b5
                              have HPN := HPASS.out (Or.inl hD)
                              have HPN' : Hid _ := HPN
                              clear HPN hD
                              go_wp2
                              go_quiet (fail)
                              go_wp2
                              go_roundw
                              case rel => exact ⟨p + 1, z5, mk5, M5, by omega, by go_num, rfl, HPN'.out, HC5.out.later HS.out (below_drewN' _ _ _)⟩
                              case measure => simp [intOf]; omega
                            · have hDb : (I.Dn i == 0) = false := by rw [beq_eq_false_iff_ne]; exact hD
                              by_cases hmk6 : mk5 i = marked + 1
                              · rw [hmk6] at b6
                                have HPN' : Hid (PInv I L (marked + 1) l e (p + 1) z5 mk5 M5) := HPASS.out (Or.inr hmk6)
                                clear hmk6 hD
                                generalize I.Dn i = di at b5 hDb
                                go_wp2
                                go_quiet (fail)
                                go_wp2
                                go_roundw
                                case rel => exact ⟨p + 1, z5, mk5, M5, by omega, by go_num, rfl, HPN'.out, HC5.out.later HS.out (below_drewN' _ _ _)⟩
                                case measure => simp [intOf]; omega
                              · have hmb : (mk5 i == marked + 1) = false := by rw [beq_eq_false_iff_ne]; exact hmk6
                                have HPN' : Hid _ := HTAKE.out hmk6
                                have hsbi : ¬ sb = I.bp i := by have := HC5.out.2.2.2; have := HS.out.lo i HIN.out; have := HS.out.fbS; omega
                                have hfbi : ¬ I.fb = I.bp i := fun e => HS.out.ne_fb HIN.out e.symm
                                have HC6 : Hid (CS I W (wr.setCell ⟨I.bp i, 6, none⟩ (.int .i64 (marked + 1))) sb (.slice sa S.length scap) sc st (marked + 1) (fun j => if j = i then marked + 1 else mk5 j) (.slice (some ⟨g, 0, none⟩) q lc2) L) := HC5.out.mark HS.out HIN.out (marked + 1)
                                have t0 : wr.cell? ⟨sb, 0, none⟩ = some (.slice sa S.length scap) := HC5.out.2.1.cell (i := 0) (by omega)
                                have t1 : wr.cell? ⟨sb, 1, none⟩ = some (.string sc) := HC5.out.2.1.cell (i := 1) (by omega)
                                have t2 : wr.cell? ⟨sb, 2, none⟩ = some (.string st) := HC5.out.2.1.cell (i := 2) (by omega)
                                clear hmk6 hD
                                generalize hdi : I.Dn i = di at b5 hDb
                                generalize mk5 i = mi at b6 hmb
                                have HC6' : Hid (∀ nq, CS I W ((wr.drewN nq).setCell ⟨I.bp i, 6, none⟩ (.int .i64 (marked + 1))) sb (.slice sa S.length scap) sc st (marked + 1) (fun j => if j = i then marked + 1 else mk5 j) (.slice (some ⟨g, 0, none⟩) q lc2) L) := fun nq => (HC5.out.later HS.out (below_drewN' _ _ _)).mark HS.out HIN.out (marked + 1)
                                clear HC6
                                go_wp2
                                go_quiet (fail)
                                go_wp2
                                have HC7 := HC6'.out nq
                                generalize (wr.drewN nq).setCell ⟨I.bp i, 6, none⟩ (.int .i64 (marked + 1)) = w6 at HC7 ⊢
                                have hb5 : w6.cell? ⟨I.bp i, 5, none⟩ = some (.int .i64 di) := by rw [← hdi]; exact (HC7.1.b i HIN.out).cell (i := 5) (by omega)
                                have ht0 : w6.cell? ⟨sb, 0, none⟩ = some (.slice sa S.length scap) := HC7.2.1.cell (i := 0) (by omega)
                                have ht1 : w6.cell? ⟨sb, 1, none⟩ = some (.string sc) := HC7.2.1.cell (i := 1) (by omega)
                                have ht2 : w6.cell? ⟨sb, 2, none⟩ = some (.string st) := HC7.2.1.cell (i := 2) (by omega)
                                have HC8 : Hid (CS I W w6 sb (.slice sa S.length scap) sc st (marked + 1) (fun j => if j = i then marked + 1 else mk5 j) (.slice (some ⟨g, 0, none⟩) q lc2) L) := HC7
                                clear HC7 HC6' b5 b6 y6 f4 t0 t1 t2 cp
                                have HLN : Hid (∃ ll : Nat, (ll : Int) = cntIn (L.map (·.2)) i ∧ ll ≤ 8200 ∧ ∀ w7, CS I W w7 sb (.slice sa S.length scap) sc st (marked + 1) (fun j => if j = i then marked + 1 else mk5 j) (.slice (some ⟨g, 0, none⟩) q lc2) L → Calls Try.prog 32 #[.pointer (some ⟨I.bp i, 0, none⟩), .agg #[.slice sa S.length scap, .string sc, .string st, .int .i32 0]] w7 fun e w' => Listed I W sb (.slice sa S.length scap) sc st (marked + 1) (fun j => if j = i then marked + 1 else mk5 j) (.slice (some ⟨g, 0, none⟩) q lc2) L ll e w') :=
                                  ⟨_, (HCNT.out i HIN.out).symm, by
                                    have h1 : cntIn (L.map (·.2)) i ≤ L.length := by unfold cntIn; have := List.length_filter_le (fun p => p i) (L.map (·.2)); rw [List.length_map] at this; omega
                                    have := HCNT.out i HIN.out
                                    omega, fun w7 h7 => h7.lists HS.out HIN.out HST.out hl⟩
                                obtain ⟨ll, hll1, hll2, hll3⟩ := HLN.out
                                have HLL1 : Hid ((ll : Int) = cntIn (L.map (·.2)) i) := hll1
                                have HLL3 : Hid (∀ w7, CS I W w7 sb (.slice sa S.length scap) sc st (marked + 1) (fun j => if j = i then marked + 1 else mk5 j) (.slice (some ⟨g, 0, none⟩) q lc2) L → Calls Try.prog 32 #[.pointer (some ⟨I.bp i, 0, none⟩), .agg #[.slice sa S.length scap, .string sc, .string st, .int .i32 0]] w7 fun e w' => Listed I W sb (.slice sa S.length scap) sc st (marked + 1) (fun j => if j = i then marked + 1 else mk5 j) (.slice (some ⟨g, 0, none⟩) q lc2) L ll e w') := hll3
                                clear HLN hll1 hll3
                                have HH : Hid (∀ w7, CS I W w7 sb (.slice sa S.length scap) sc st (marked + 1) (fun j => if j = i then marked + 1 else mk5 j) (.slice (some ⟨g, 0, none⟩) q lc2) L → w7.cell? ⟨I.bp i, 5, none⟩ = some (.int .i64 di) ∧ w7.cell? ⟨sb, 0, none⟩ = some (.slice sa S.length scap) ∧ w7.cell? ⟨sb, 1, none⟩ = some (.string sc) ∧ w7.cell? ⟨sb, 2, none⟩ = some (.string st) ∧ w7.cell? ⟨sb, 3, none⟩ = some (.int .i32 0) ∧ Hid (CS I W w7 sb (.slice sa S.length scap) sc st (marked + 1) (fun j => if j = i then marked + 1 else mk5 j) (.slice (some ⟨g, 0, none⟩) q lc2) L)) := fun w7 h7 => ⟨by rw [← hdi]; exact (h7.1.b i HIN.out).cell (i := 5) (by omega), h7.2.1.cell (i := 0) (by omega), h7.2.1.cell (i := 1) (by omega), h7.2.1.cell (i := 2) (by omega), h7.2.1.cell (i := 3) (by omega), h7⟩
                                go_region_held3 (fun w7 => w7.cell? ⟨I.bp i, 5, none⟩ = some (.int .i64 di) ∧ w7.cell? ⟨sb, 0, none⟩ = some (.slice sa S.length scap) ∧ w7.cell? ⟨sb, 1, none⟩ = some (.string sc) ∧ w7.cell? ⟨sb, 2, none⟩ = some (.string st) ∧ w7.cell? ⟨sb, 3, none⟩ = some (.int .i32 0) ∧ Hid (CS I W w7 sb (.slice sa S.length scap) sc st (marked + 1) (fun j => if j = i then marked + 1 else mk5 j) (.slice (some ⟨g, 0, none⟩) q lc2) L))
                                  (first | exact HH.out _ HC9 | exact HH.out _ (HC9.later HS.out ((Below.refl _ _).drew)) | exact HH.out _ HC8.out | exact HH.out _ (HC8.out.later HS.out ((Below.refl _ _).drew)))
                                  ((go_at_call 32; refine (HLL3.out _ (by first | exact HC8.out | exact HC8.out.later HS.out ((Below.refl _ _).drew))).mono ?_; rintro e w7 ⟨rfl, HC9⟩))
                                have HCA : Hid _ := HC9
                                clear HC9 hb5 ht0 ht1 ht2
                                have HZE : Hid (IntKind.i64.wrap (z5 - IntKind.i64.wrap (di * IntKind.i64.wrap ((ll : Int) - 1))) = wrap64 (z5 - wrap64 (I.Dn i * (cntIn (L.map (·.2)) i - 1)))) := by
                                  have hw1 : IntKind.i64.wrap ((ll : Int) - 1) = (ll : Int) - 1 := wrap_small (by omega) (by omega)
                                  show _ = _
                                  rw [hw1, hdi, ← HLL1.out, wrap_is, wrap_is]
                                go_wp2
                                go_roundw
                                case rel => exact ⟨p + 1, _, _, _, by omega, by go_num, rfl, by rw [HZE.out]; exact HPN'.out, HCA.out⟩
                                case measure => simp [intOf]; omega
                          · have hpmn : p = mn := by omega
                            have HPN' : Hid (PInv I L (marked + 1) l (e + 1) 0 z5 mk5 M5) := HP5.out.next (by omega)
                            clear hlt2
                            go_wp2
                            go_roundw
                            case rel => exact ⟨e + 1, z5, mk5, M5, by omega, by go_num, rfl, HPN'.out, HC5.out⟩
                            case measure => simp [intOf]; omega
                    · have heq : e = q := by omega
                      subst heq
                      have HZR : Hid (zz = wrap64 R) := by
                        have := HEND.out M4 l (fun i hi hM => HP.out.on i hi hM) (fun j' hj' hne => HP.out.done j' (by omega) hne)
                        rw [HR.out] at this
                        show zz = _
                        rw [HP.out.sum, this]
                      go_wp2
                      go_ret
                      exact ⟨by rw [HR.out, ← HZR.out]; rfl, marked + 1, mk4, _, _, _, HC.out.1, by omega, by omega, fun i hi => HP.out.bounds i hi⟩
end Go.Proofs.Qxb6600940a
