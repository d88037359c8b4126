/-
  DERIVED. Build: a bundle under one of its tops.
-/
import Derived.Test.Qxb6600940aBuildT
namespace Go.Proofs.Qxb6600940a
open Go.RowKit Go.Maps

noncomputable def part24 : Code × Code := (Try.f25.body.bind (findSeq 24)).getD (.skip, .skip)

set_option maxRecDepth 1000000 in
set_option maxHeartbeats 20000000 in
theorem build_top (C X : List ByteArray) (D : List Int) (w W1 wr : World) (k q p tn b o tb tO cb co xb xo db dO cp4 c : Nat) (t : ByteArray) (u13 u14 u15 u16 u18 u19 u20 u21 : Value) (Q : List (ByteArray × Nat)) (QS : List ((ByteArray × ByteArray) × Nat)) (_h4 : k ≤ 4096) (hlt : q < k) (_htn : tn ≤ 4096) (hlp : p < tn)
    (hts : t.size ≤ 9223372036854775807) (HIN2 : Hid (∀ wx, Below W1.heap.size W1 wx → wx.cell? ⟨tb, tO + q, none⟩ = some (.slice (some ⟨b, o, none⟩) tn c) ∧ wx.cell? ⟨cb, co + q, none⟩ = some (.string (C.getD q ⟨#[]⟩)) ∧ wx.cell? ⟨xb, xo + q, none⟩ = some (.string (X.getD q ⟨#[]⟩)) ∧ wx.cell? ⟨db, dO + q, none⟩ = some (.int .i64 (D.getD q 0)) ∧ wx.cell? ⟨w.heap.size, q, none⟩ = some (.pointer (some ⟨w.heap.size + 1 + q, 0, none⟩)))) (ct : wr.cell? ⟨b, o + p, none⟩ = some (.string t)) (HSTR2 : Hid (∀ wx, Below W1.heap.size W1 wx → wx.cell? ⟨b, o + p, none⟩ = some (.string t)))
    (HQ4 : Hid (Q.length ≤ 4096)) (hG3 : Gath W1 wr (fun i => w.heap.size + 1 + i) (fun i => D.getD i 0) Q QS u13 u14 u15 u16 u18 u19 u20 u21)
    {c0 c1 c2 c4 c5 c6 c7 c8 c9 c11 c17 c25 c26 c27 c28 c29 c30 c31 c32 c33 c34 c35 c36 c37 c38 c39 c40 c41 c42 c43 c44 c45 c46 c47 c48 c49 c50 c51 c52 c53 c54 c55 c56 c57 c58 c59 c60 c61 c62 c63 c64 c65 c66 c67 c68 c69 c70 c71 c72 c73 c74 c75 c76 c77 c78 c79 c80 c81 c82 c83 c84 c85 c86 c87 c88 c89 c90 c91 c92 c93 c94 c95 c96 c97 c98 c99 c100 c101 c102 c103 c104 c105 c106 c107 c108 c109 c110 c111 c112 c113 c114 c115 c116 c117 c118 c119 c120 c121 c122 c123 c124 c125 c126 c127 c128 c129 c130 c131 c132 c133 c134 c135 c136 c137 c138 c139 c140 c141 c142 c143 c144 c145 c146 c147 c148 c149 c150 c151 c152 c153 c154 c155 c156 c157 c158 c159 c160 c161 c162 c163 c164 c165 c166 c167 c168 c169 c170 c171 c172 c173 c174 c175 c176 c177 c178 c179 c180 c181 c182 c183 c184 c185 c186 c187 c188 c189 c190 c191 c192 c193 c194 c195 c196 c197 c198 c199 c200 c201 c202 c203 c204 c205 c206 c207 c208 c209 c210 c211 c212 c213 c214 c215 c216 c217 c218 c219 c220 c221 c222 c223 c224 c225 c226 c227 c228 c229 c230 c231 c232 c233 c234 c235 c236 c237 c238 c239 c240 c241 c242 c243 c244 c245 c246 c247 c248 c249 c250 c251 c252 c253 c254 c255 c256 c257 c258 c259 c260 c261 c262 c263 c264 c265 c266 c267 c268 c269 c270 c271 c272 c273 c274 c275 c276 c277 c278 c279 c280 c281 c282 : Value} (K N : Act → World → Prop) (hK : ∀ a w', Code.wp Try.prog part24.2 (OnlyNormal N) a w' → K a w')
    (HOUT : Hid (∀ {b0 b1 b2 b3 e25 e26 e74 e75 e76 e77 e78 e79 e80 e81 e82 e83 e84 e85 e86 e87 e88 e89 e90 e91 e92 e93 e94 e95 e96 e97 e98 e99 e100 e101 e102 e103 e104 e105 e106 e107 e108 e109 e110 e111 e112 e113 e114 e115 e116 e117 e118 e119 e120 e121 e122 e123 e124 e125 e126 e127 e128 e129 e130 e131 e132 e133 e134 e135 e136 e137 e138 e139 e140 e141 e142 e143 e144 e145 e146 e147 e148 : Value} {w' : World}, Gath W1 w' (fun i => w.heap.size + 1 + i) (fun i => D.getD i 0) (Q ++ [(t, q)]) QS b0 b1 b2 b3 u18 u19 u20 u21 → N ⟨#[c0, c1, c2, (.slice (some ⟨db, dO, none⟩) k cp4), c4, c5, c6, c7, c8, c9, (.slice (some ⟨w.heap.size, 0, none⟩) k k), c11, (.map (some W1.heap.size)), b0, b1, b2, b3, c17, u18, u19, u20, u21, (.int .i64 q), (.slice (some ⟨b, o, none⟩) tn c), (.int .i64 p), e25, e26, c27, c28, c29, c30, c31, c32, c33, c34, c35, c36, c37, c38, c39, c40, c41, c42, c43, c44, c45, c46, c47, c48, c49, c50, c51, c52, c53, c54, c55, c56, c57, c58, c59, c60, c61, c62, c63, c64, c65, c66, c67, c68, c69, c70, c71, c72, c73, e74, e75, e76, e77, e78, e79, e80, e81, e82, e83, e84, e85, e86, e87, e88, e89, e90, e91, e92, e93, e94, e95, e96, e97, e98, e99, e100, e101, e102, e103, e104, e105, e106, e107, e108, e109, e110, e111, e112, e113, e114, e115, e116, e117, e118, e119, e120, e121, e122, e123, e124, e125, e126, e127, e128, e129, e130, e131, e132, e133, e134, e135, e136, e137, e138, e139, e140, e141, e142, e143, e144, e145, e146, e147, e148, c149, c150, c151, c152, c153, c154, c155, c156, c157, c158, c159, c160, c161, c162, c163, c164, c165, c166, c167, c168, c169, c170, c171, c172, c173, c174, c175, c176, c177, c178, c179, c180, c181, c182, c183, c184, c185, c186, c187, c188, c189, c190, c191, c192, c193, c194, c195, c196, c197, c198, c199, c200, c201, c202, c203, c204, c205, c206, c207, c208, c209, c210, c211, c212, c213, c214, c215, c216, c217, c218, c219, c220, c221, c222, c223, c224, c225, c226, c227, c228, c229, c230, c231, c232, c233, c234, c235, c236, c237, c238, c239, c240, c241, c242, c243, c244, c245, c246, c247, c248, c249, c250, c251, c252, c253, c254, c255, c256, c257, c258, c259, c260, c261, c262, c263, c264, c265, c266, c267, c268, c269, c270, c271, c272, c273, c274, c275, c276, c277, c278, c279, c280, c281, c282], []⟩ w')) :
    Code.wp Try.prog part24.1 (Exit.then K (OnlyNormal N)) ⟨#[c0, c1, c2, (.slice (some ⟨db, dO, none⟩) k cp4), c4, c5, c6, c7, c8, c9, (.slice (some ⟨w.heap.size, 0, none⟩) k k), c11, (.map (some W1.heap.size)), u13, u14, u15, u16, c17, u18, u19, u20, u21, (.int .i64 q), (.slice (some ⟨b, o, none⟩) tn c), (.int .i64 p), c25, c26, c27, c28, c29, c30, c31, c32, c33, c34, c35, c36, c37, c38, c39, c40, c41, c42, c43, c44, c45, c46, c47, c48, c49, c50, c51, c52, c53, c54, c55, c56, c57, c58, c59, c60, c61, c62, c63, c64, c65, c66, c67, c68, c69, c70, c71, c72, c73, c74, c75, c76, c77, c78, c79, c80, c81, c82, c83, c84, c85, c86, c87, c88, c89, c90, c91, c92, c93, c94, c95, c96, c97, c98, c99, c100, c101, c102, c103, c104, c105, c106, c107, c108, c109, c110, c111, c112, c113, c114, c115, c116, c117, c118, c119, c120, c121, c122, c123, c124, c125, c126, c127, c128, c129, c130, c131, c132, c133, c134, c135, c136, c137, c138, c139, c140, c141, c142, c143, c144, c145, c146, c147, c148, c149, c150, c151, c152, c153, c154, c155, c156, c157, c158, c159, c160, c161, c162, c163, c164, c165, c166, c167, c168, c169, c170, c171, c172, c173, c174, c175, c176, c177, c178, c179, c180, c181, c182, c183, c184, c185, c186, c187, c188, c189, c190, c191, c192, c193, c194, c195, c196, c197, c198, c199, c200, c201, c202, c203, c204, c205, c206, c207, c208, c209, c210, c211, c212, c213, c214, c215, c216, c217, c218, c219, c220, c221, c222, c223, c224, c225, c226, c227, c228, c229, c230, c231, c232, c233, c234, c235, c236, c237, c238, c239, c240, c241, c242, c243, c244, c245, c246, c247, c248, c249, c250, c251, c252, c253, c254, c255, c256, c257, c258, c259, c260, c261, c262, c263, c264, c265, c266, c267, c268, c269, c270, c271, c272, c273, c274, c275, c276, c277, c278, c279, c280, c281, c282], []⟩ wr := by
  conv => arg 2; whnf
  conv at hK => intro a w'; arg 1; arg 2; whnf
  let _QDUM : Exit → Act → World → Prop := bodyPost Try.prog Try.f25 (fun _ _ => True)
  have HG3 : Hid _ := hG3
  have hkey : ∃ l, keyOf Try.prog 9 (encT t) = some l := keyStr t (by unfold maxLen; omega)
  have HKEY : Hid (∃ l, keyOf Try.prog 9 (encT t) = some l) := hkey
  obtain ⟨kv, hkv⟩ : ∃ kv : Int, placeOf (keysOf Q) t = kv := ⟨_, rfl⟩
  obtain ⟨bv, hbv⟩ : ∃ bv : Bool, isIn (keysOf Q) t = bv := ⟨_, rfl⟩
  have hlook : (Instr.lookup 60 (.map (some W1.heap.size)) (.string t) true).run Try.prog wr = .ok (.tuple #[.int .i64 kv, .bool bv]) wr := by
    obtain ⟨F, hB, _⟩ := hG3
    rw [← hkv, ← hbv]
    exact hB.mt.look2 key9 Try.underlying60 zero3 t hkey
  have HKV : Hid (placeOf (keysOf Q) t = kv) := hkv
  have HBV : Hid (isIn (keysOf Q) t = bv) := hbv
  clear hkv hbv hG3 hkey
  go_upto_if 90 with fail
  clear hlook
  go_cut [13, 14, 15, 16, 25] (fun a0 a1 a2 a3 kk wx => ∃ r : Nat, kk = .int .i64 r ∧ GathT W1 wx (fun i => w.heap.size + 1 + i) (fun i => D.getD i 0) Q QS a0 a1 a2 a3 u18 u19 u20 u21 t r)
  case first =>
    by_cases hmem : t ∈ keysOf Q
    · have e3 : bv = true := by rw [← HBV.out]; exact isIn_true hmem
      subst e3
      have e4 : kv = (idx (keysOf Q) t : Int) := by rw [← HKV.out]; exact placeOf_mem hmem
      have HM : Hid (t ∈ keysOf Q) := hmem
      clear hmem
      go_wp2
      go_meet
      case rel => exact ⟨idx (keysOf Q) t, by first | rfl | rw [e4], Gath.oldT HG3.out HM.out⟩
    · have e3 : bv = false := by rw [← HBV.out]; exact isIn_false hmem
      subst e3
      have HM : Hid (t ∉ keysOf Q) := hmem
      obtain ⟨F, hB, hTS, hSS⟩ := HG3.out
      have hkl : (keysOf Q).length ≤ 4096 := Nat.le_trans (keysOf_len Q) HQ4.out
      obtain ⟨w2, hput, hm2, ht2⟩ := hB.mt.put key9 Try.underlying60 encT_inj (by unfold maxLen; omega) t HKEY.out hmem
      have hput' : (Instr.mapUpdate 60 (.map (some W1.heap.size)) (.string t) (.int .i64 ((keysOf Q).length : Nat))).run Try.prog wr = .ok () w2 := hput
      clear hput
      have HB2 : Hid _ := hB.putT hm2 ht2
      have ct2 := HSTR2.out w2 HB2.out.low
      have HTS : Hid _ := hTS
      have HSS : Hid _ := hSS
      have HF0 : Hid (F 0 = ⟨9, 1, u13, (keysOf Q).length, (F 0).xs⟩) := by show _ = _; rw [hTS.keys]
      have HF1 : Hid (F 1 = ⟨58, 1, u14, (keysOf Q).length, (F 1).xs⟩) := by show _ = _; have := hTS.mems; rw [this]
      have HF2 : Hid (F 2 = ⟨3, 1, u15, (keysOf Q).length, (F 2).xs⟩) := by show _ = _; have := hTS.deals; rw [this]
      have HF3 : Hid (F 3 = ⟨3, 1, u16, (keysOf Q).length, (F 3).xs⟩) := by show _ = _; obtain ⟨es, this, _⟩ := hTS.empty; rw [this]
      obtain ⟨la0, lc0, hu13⟩ : ∃ la lc, u13 = .slice la (keysOf Q).length lc := by have := hB.fam.own 0; rw [HF0.out] at this; exact slice_of_own this
      obtain ⟨la1, lc1, hu14⟩ : ∃ la lc, u14 = .slice la (keysOf Q).length lc := by have := hB.fam.own 1; rw [HF1.out] at this; exact slice_of_own this
      obtain ⟨la2, lc2, hu15⟩ : ∃ la lc, u15 = .slice la (keysOf Q).length lc := by have := hB.fam.own 2; rw [HF2.out] at this; exact slice_of_own this
      obtain ⟨la3, lc3, hu16⟩ : ∃ la lc, u16 = .slice la (keysOf Q).length lc := by have := hB.fam.own 3; rw [HF3.out] at this; exact slice_of_own this
      subst hu13 hu14 hu15 hu16
      clear hmem hB hTS hSS hm2 ht2 HG3
      obtain ⟨i9, hi9, hz9, hs9, hb9⟩ := info_parts Try.info9
      obtain ⟨i58, hi58, hz58, hs58, hb58⟩ := info_parts Try.info58
      obtain ⟨i3, hi3, hz3, hs3, hb3⟩ := info_parts Try.info3
      go_wp2_with ((at_builtin; first | (refine wpList_push HB2.out 0 9 i9 _ 1 16 HF0.out #[.string t] hi9 hz9 hs9 hb9 rfl (by decide) rfl (by simp [Value.oneCell']) (by omega) (by omega) rfl (.tmp 99) (.tmp 104) 24 rfl Try.underlying24 rfl rfl ?_; intro g0 cap0 w3 hB3; have HB3 : Hid _ := hB3; clear hB3) | (refine wpList_push HB3.out 1 58 i58 _ 1 24 ((upd_ne _ _ (by decide)).trans HF1.out) #[.slice none 0 0] hi58 hz58 hs58 hb58 rfl (by decide) rfl (by simp [Value.oneCell']) (by omega) (by omega) rfl (.tmp 106) (.tmp 107) 61 rfl Try.underlying61 rfl rfl ?_; intro g1 cap1 w4 hB4; have HB4 : Hid _ := hB4; clear hB4) | (refine wpList_push HB4.out 2 3 i3 _ 1 8 ((upd_ne _ _ (by decide)).trans ((upd_ne _ _ (by decide)).trans HF2.out)) #[.int .i64 0] hi3 hz3 hs3 hb3 rfl (by decide) rfl (by simp [Value.oneCell']) (by omega) (by omega) rfl (.tmp 109) (.tmp 110) 32 rfl Try.underlying32 rfl rfl ?_; intro g2 cap2 w5 hB5; have HB5 : Hid _ := hB5; clear hB5) | (refine wpList_push HB5.out 3 3 i3 _ 1 8 ((upd_ne _ _ (by decide)).trans ((upd_ne _ _ (by decide)).trans ((upd_ne _ _ (by decide)).trans HF3.out))) #[.int .i64 0] hi3 hz3 hs3 hb3 rfl (by decide) rfl (by simp [Value.oneCell']) (by omega) (by omega) rfl (.tmp 112) (.tmp 113) 32 rfl Try.underlying32 rfl rfl ?_; intro g3 cap3 w6 hB6; have HB6 : Hid _ := hB6; clear hB6)))
      go_meet
      case rel => exact ⟨(keysOf Q).length, rfl, newT HM.out HTS.out HSS.out HB6.out⟩
  case rest =>
    obtain ⟨r, rfl, hGT⟩ := hcut
    clear HG3 HKEY HKV HBV
    obtain ⟨g1, cap1, la, lm, lc, rfl, hr1, cg1, zg1, hg1a, hg1b, hlm, hown, hneb, hend⟩ := GathT.push hGT q
    have HOWN : Hid (∀ ob, (wc.alloc ob).ownsRow (W1.heap.size + 2) 45 1 (.slice la lm lc) lm ((memOf Q t).map (ptrB fun i => w.heap.size + 1 + i))) := hown
    have HNEB : Hid (some g1 ≠ (Value.slice la lm lc).ownBlock) := hneb
    have HEND : Hid _ := hend
    have hlm' : lm ≤ 4096 := Nat.le_trans hlm HQ4.out
    have hwc : W1.heap.size + 2 ≤ wc.heap.size := by omega
    obtain ⟨e1, e2, e3, e4, e5⟩ := HIN2.out wc (GathT.low hGT)
    have HLOW : Hid _ := GathT.low hGT
    clear hown hneb hend hGT hlm e1 e2 e3 ct
    generalize hkn : (addKey (keysOf Q) t).length = kn at *
    obtain ⟨i45, hi45, hz45, hs45, hb45⟩ := info_parts Try.info45
    go_upto_region 32 with fail
    go_cut [] (fun wx => GathTP W1 wx (fun i => w.heap.size + 1 + i) (fun i => D.getD i 0) Q QS u13 (.slice (some ⟨g1, 0, none⟩) kn cap1) u15 u16 u18 u19 u20 u21 t r q)
    case first =>
      go_region_law ((refine step_append_lies _ (by rfl) (.tmp 120) (.tmp 125) 58 (by rfl) (W1.heap.size + 2) 45 i45 (.pointer none) 1 8 Try.underlying58 hi45 hz45 hs45 hb45 (by rfl) (by decide) (.slice la lm lc) lm _ (by rfl) (HOWN.out _) ⟨wc.heap.size, 0, none⟩ 1 1 [.pointer (some ⟨w.heap.size + 1 + q, 0, none⟩)] (by rfl) (by rfl) (World.news_of_block (heap_alloc_new wc _)) (one_ptr _) (by omega) (by unfold maxLen; omega) (by omega) (by simp; omega) (wc.heap.size + 1) (by simp) ?_; intro g cap w1 ho1 hgr hat hlt1; have hgr' : (wc.alloc (.cells #[.pointer (some ⟨w.heap.size + 1 + q, 0, none⟩)] 45)).grownBy w1 (Value.slice la lm lc).ownBlock := ⟨hgr.os, hgr.tape, hgr.output, hgr.size, hgr.block⟩; obtain ⟨k1, k2⟩ := push_cells (w := wc) rfl hgr' cg1 zg1 HNEB.out; have HE := HEND.out _ w1 g cap ho1 hgr' hat; clear ho1 hgr hgr' hat hlt1))
      all_goals (go_wp2; go_meet; first | exact HE | exact GathTP.later HE ((Below.refl _ _).drew) | exact GathTP.later HE (below_drewN' _ _ _))
    case rest =>
      generalize wc = w4 at *
      have HGP : Hid _ := hcut
      clear hcut HEND HNEB HOWN cg1 zg1 e4 e5 HLOW hi45 hz45 hs45 hb45
      obtain ⟨g2, cap2, hu15, hr2, cg2, zg2, hg2, hGD⟩ := GathTP.deal HGP.out
      subst hu15
      have HGD : Hid (GathTD W1 (w4.setCell ⟨g2, r, none⟩ (.int .i64 (wrap64 (dlOf (fun i => D.getD i 0) Q t + D.getD q 0)))) (fun i => w.heap.size + 1 + i) (fun i => D.getD i 0) Q QS u13 (.slice (some ⟨g1, 0, none⟩) kn cap1) (.slice (some ⟨g2, 0, none⟩) kn cap2) u16 u18 u19 u20 u21 t r q) := by
        have := hGD
        rw [hkn] at this
        exact this
      rw [hkn] at hr2
      obtain ⟨-, -, -, e4, -⟩ := HIN2.out w4 (GathTP.low HGP.out)
      clear hGD HGP
      generalize dlOf (fun i => D.getD i 0) Q t = dl at cg2 HGD
      obtain ⟨dq, hdq⟩ : ∃ dq, D.getD q 0 = dq := ⟨_, rfl⟩
      rw [hdq] at e4 HGD
      rw [hkn]
      go_upto_region 33 with fail
      go_cut [] (fun wx => GathTD W1 wx (fun i => w.heap.size + 1 + i) (fun i => D.getD i 0) Q QS u13 (.slice (some ⟨g1, 0, none⟩) kn cap1) (.slice (some ⟨g2, 0, none⟩) kn cap2) u16 u18 u19 u20 u21 t r q)
      case first =>
        go_region
        all_goals (go_wp2; go_meet; first | exact HGD.out | exact ⟨HGD.out.1, Gath.later HGD.out.2 ((Below.refl _ _).drew)⟩ | exact ⟨HGD.out.1, Gath.later HGD.out.2 (below_drewN' _ _ _)⟩)
      case rest =>
        have HGE : Hid (GathTD W1 wc (fun i => w.heap.size + 1 + i) (fun i => D.getD i 0) Q QS u13 (.slice (some ⟨g1, 0, none⟩) kn cap1) (.slice (some ⟨g2, 0, none⟩) kn cap2) u16 u18 u19 u20 u21 t r q) := hcut
        obtain ⟨g3, cap3, z, hu16, hr3, cg3, zg3, hg3, hGV⟩ := GathTD.void HGE.out
        subst hu16
        obtain ⟨-, -, -, e4', -⟩ := HIN2.out wc HGE.out.2.low
        have HGV : Hid _ := hGV
        clear hcut hGV HGD cg2 zg2 e4
        rw [hdq] at e4'
        generalize hkn3 : (keysOf (Q ++ [(t, q)])).length = kn3 at *
        by_cases hd0 : dq = 0
        · subst hd0
          go_wp2
          exact HOUT.out (HGV.out _)
        · have hd0' : (dq == 0) = false := by rw [beq_eq_false_iff_ne]; exact hd0
          clear hd0
          go_wp2
          exact HOUT.out (HGE.out.2)

end Go.Proofs.Qxb6600940a
