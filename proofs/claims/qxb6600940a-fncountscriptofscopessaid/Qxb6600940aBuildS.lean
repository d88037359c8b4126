/-
  DERIVED. Build: a bundle under its subject.
-/
import Derived.Test.Qxb6600940aBuildT
namespace Go.Proofs.Qxb6600940a
open Go.RowKit Go.Maps

noncomputable def part36 : Code × Code := (Try.f25.body.bind (findSeq 36)).getD (.skip, .skip)

set_option maxRecDepth 1000000 in
set_option maxHeartbeats 20000000 in
theorem build_subj (C X : List ByteArray) (D : List Int) (w W1 wr : World) (k q tn tb tO cb co xb xo db dO cp2 cp3 cp4 c : Nat) (a : Option Addr) (u13 u14 u15 u16 u18 u19 u20 u21 : Value) (QT : List (ByteArray × Nat)) (Q : List ((ByteArray × ByteArray) × Nat)) (_h4 : k ≤ 4096) (hlt : q < k)
    (hcs : (C.getD q ⟨#[]⟩).size ≤ 9223372036854775807) (hxs : (X.getD q ⟨#[]⟩).size ≤ 9223372036854775807) (HIN2 : Hid (∀ wx, Below W1.heap.size W1 wx → wx.cell? ⟨tb, tO + q, none⟩ = some (.slice a tn c) ∧ wx.cell? ⟨cb, co + q, none⟩ = some (.string (C.getD q ⟨#[]⟩)) ∧ wx.cell? ⟨xb, xo + q, none⟩ = some (.string (X.getD q ⟨#[]⟩)) ∧ wx.cell? ⟨db, dO + q, none⟩ = some (.int .i64 (D.getD q 0)) ∧ wx.cell? ⟨w.heap.size, q, none⟩ = some (.pointer (some ⟨w.heap.size + 1 + q, 0, none⟩))))
    (HQ4 : Hid (Q.length ≤ 4096)) (hG4 : Gath W1 wr (fun i => w.heap.size + 1 + i) (fun i => D.getD i 0) QT Q u13 u14 u15 u16 u18 u19 u20 u21) (HSQ : Hid (subQ C X (q + 1) = Q ++ if X.getD q ⟨#[]⟩ = ⟨#[]⟩ then [] else [((C.getD q ⟨#[]⟩, X.getD q ⟨#[]⟩), q)]))
    {c0 c4 c5 c6 c7 c8 c9 c11 c12 c23 c24 c25 c26 c27 c28 c29 c30 c31 c32 c33 c34 c35 c36 c37 c38 c39 c40 c41 c42 c43 c44 c45 c46 c47 c48 c49 c50 c51 c52 c53 c54 c55 c56 c57 c58 c59 c60 c61 c62 c63 c64 c65 c66 c67 c68 c69 c70 c71 c72 c73 c74 c75 c76 c77 c78 c79 c80 c81 c82 c83 c84 c85 c86 c87 c88 c89 c90 c91 c92 c93 c94 c95 c96 c97 c98 c99 c100 c101 c102 c103 c104 c105 c106 c107 c108 c109 c110 c111 c112 c113 c114 c115 c116 c117 c118 c119 c120 c121 c122 c123 c124 c125 c126 c127 c128 c129 c130 c131 c132 c133 c134 c135 c136 c137 c138 c139 c140 c141 c142 c143 c144 c145 c146 c147 c148 c149 c150 c151 c152 c153 c154 c155 c156 c157 c158 c159 c160 c161 c162 c163 c164 c165 c166 c167 c168 c169 c170 c171 c172 c173 c174 c175 c176 c177 c178 c179 c180 c181 c182 c183 c184 c185 c186 c187 c188 c189 c190 c191 c192 c193 c194 c195 c196 c197 c198 c199 c200 c201 c202 c203 c204 c205 c206 c207 c208 c209 c210 c211 c212 c213 c214 c215 c216 c217 c218 c219 c220 c221 c222 c223 c224 c225 c226 c227 c228 c229 c230 c231 c232 c233 c234 c235 c236 c237 c238 c239 c240 c241 c242 c243 c244 c245 c246 c247 c248 c249 c250 c251 c252 c253 c254 c255 c256 c257 c258 c259 c260 c261 c262 c263 c264 c265 c266 c267 c268 c269 c270 c271 c272 c273 c274 c275 c276 c277 c278 c279 c280 c281 c282 : Value} (K N : Act → World → Prop) (hK : ∀ a w', Code.wp Try.prog part36.2 (OnlyNormal N) a w' → K a w')
    (HOUT : Hid (∀ {b0 b1 b2 b3 e23 e24 e25 e26 e27 e28 e29 e65 e66 e67 e68 e69 e70 e71 e72 e73 e74 e75 e76 e77 e78 e79 e80 e81 e82 e83 e84 e85 e86 e87 e88 e89 e90 e91 e92 e93 e94 e95 e96 e97 e98 e99 e100 e101 e102 e103 e104 e105 e106 e107 e108 e109 e110 e111 e112 e113 e114 e115 e116 e117 e118 e119 e120 e121 e122 e123 e124 e125 e126 e127 e128 e129 e130 e131 e132 e133 e134 e135 e136 e137 e138 e139 e140 e141 e142 e143 e144 e145 e146 e147 e148 e149 e150 e151 e152 e153 e154 e155 e156 e157 e158 e159 e160 e161 e162 e163 e164 e165 e166 e167 e168 e169 e170 e171 e172 e173 e174 e175 e176 e177 e178 e179 e180 e181 e182 e183 e184 e185 e186 e187 e188 e189 e190 e191 e192 e193 e194 e195 e196 e197 e198 e199 e200 e201 e202 e203 e204 e205 e206 e207 e208 e209 e210 e211 e212 e213 e214 e215 e216 e217 e218 e219 e220 e221 e222 : Value} {w' : World}, Gath W1 w' (fun i => w.heap.size + 1 + i) (fun i => D.getD i 0) QT (subQ C X (q + 1)) u13 u14 u15 u16 b0 b1 b2 b3 → N ⟨#[c0, (.slice (some ⟨cb, co, none⟩) k cp2), (.slice (some ⟨xb, xo, none⟩) k cp3), (.slice (some ⟨db, dO, none⟩) k cp4), c4, c5, c6, c7, c8, c9, (.slice (some ⟨w.heap.size, 0, none⟩) k k), c11, c12, u13, u14, u15, u16, (.map (some (W1.heap.size + 1))), b0, b1, b2, b3, (.int .i64 q), e23, e24, e25, e26, e27, e28, e29, c30, c31, c32, c33, c34, c35, c36, c37, c38, c39, c40, c41, c42, c43, c44, c45, c46, c47, c48, c49, c50, c51, c52, c53, c54, c55, c56, c57, c58, c59, c60, c61, c62, c63, c64, e65, e66, e67, e68, e69, e70, e71, e72, e73, e74, e75, e76, e77, e78, e79, e80, e81, e82, e83, e84, e85, e86, e87, e88, e89, e90, e91, e92, e93, e94, e95, e96, e97, e98, e99, e100, e101, e102, e103, e104, e105, e106, e107, e108, e109, e110, e111, e112, e113, e114, e115, e116, e117, e118, e119, e120, e121, e122, e123, e124, e125, e126, e127, e128, e129, e130, e131, e132, e133, e134, e135, e136, e137, e138, e139, e140, e141, e142, e143, e144, e145, e146, e147, e148, e149, e150, e151, e152, e153, e154, e155, e156, e157, e158, e159, e160, e161, e162, e163, e164, e165, e166, e167, e168, e169, e170, e171, e172, e173, e174, e175, e176, e177, e178, e179, e180, e181, e182, e183, e184, e185, e186, e187, e188, e189, e190, e191, e192, e193, e194, e195, e196, e197, e198, e199, e200, e201, e202, e203, e204, e205, e206, e207, e208, e209, e210, e211, e212, e213, e214, e215, e216, e217, e218, e219, e220, e221, e222, c223, c224, c225, c226, c227, c228, c229, c230, c231, c232, c233, c234, c235, c236, c237, c238, c239, c240, c241, c242, c243, c244, c245, c246, c247, c248, c249, c250, c251, c252, c253, c254, c255, c256, c257, c258, c259, c260, c261, c262, c263, c264, c265, c266, c267, c268, c269, c270, c271, c272, c273, c274, c275, c276, c277, c278, c279, c280, c281, c282], []⟩ w')) :
    Code.wp Try.prog part36.1 (Exit.then K (OnlyNormal N)) ⟨#[c0, (.slice (some ⟨cb, co, none⟩) k cp2), (.slice (some ⟨xb, xo, none⟩) k cp3), (.slice (some ⟨db, dO, none⟩) k cp4), c4, c5, c6, c7, c8, c9, (.slice (some ⟨w.heap.size, 0, none⟩) k k), c11, c12, u13, u14, u15, u16, (.map (some (W1.heap.size + 1))), u18, u19, u20, u21, (.int .i64 q), c23, c24, c25, c26, c27, c28, c29, c30, c31, c32, c33, c34, c35, c36, c37, c38, c39, c40, c41, c42, c43, c44, c45, c46, c47, c48, c49, c50, c51, c52, c53, c54, c55, c56, c57, c58, c59, c60, c61, c62, c63, c64, c65, c66, c67, c68, c69, c70, c71, c72, c73, c74, c75, c76, c77, c78, c79, c80, c81, c82, c83, c84, c85, c86, c87, c88, c89, c90, c91, c92, c93, c94, c95, c96, c97, c98, c99, c100, c101, c102, c103, c104, c105, c106, c107, c108, c109, c110, c111, c112, c113, c114, c115, c116, c117, c118, c119, c120, c121, c122, c123, c124, c125, c126, c127, c128, c129, c130, c131, c132, c133, c134, c135, c136, c137, c138, c139, c140, c141, c142, c143, c144, c145, c146, c147, c148, c149, c150, c151, c152, c153, c154, c155, c156, c157, c158, c159, c160, c161, c162, c163, c164, c165, c166, c167, c168, c169, c170, c171, c172, c173, c174, c175, c176, c177, c178, c179, c180, c181, c182, c183, c184, c185, c186, c187, c188, c189, c190, c191, c192, c193, c194, c195, c196, c197, c198, c199, c200, c201, c202, c203, c204, c205, c206, c207, c208, c209, c210, c211, c212, c213, c214, c215, c216, c217, c218, c219, c220, c221, c222, c223, c224, c225, c226, c227, c228, c229, c230, c231, c232, c233, c234, c235, c236, c237, c238, c239, c240, c241, c242, c243, c244, c245, c246, c247, c248, c249, c250, c251, c252, c253, c254, c255, c256, c257, c258, c259, c260, c261, c262, c263, c264, c265, c266, c267, c268, c269, c270, c271, c272, c273, c274, c275, c276, c277, c278, c279, c280, c281, c282], []⟩ wr := by
  conv => arg 2; whnf
  conv at hK => intro a w'; arg 1; arg 2; whnf
  let _QDUM : Exit → Act → World → Prop := bodyPost Try.prog Try.f25 (fun _ _ => True)
  obtain ⟨-, e2, e3, e4, e5⟩ := HIN2.out wr hG4.low
  generalize hx : X.getD q ⟨#[]⟩ = x at *
  generalize hc : C.getD q ⟨#[]⟩ = cc at *
  have HG4 : Hid _ := hG4
  by_cases q1 : x = ⟨#[]⟩
  · have e7 : x.toList.isEmpty = true := by rw [isEmpty_toList]; simp [q1]
    have HSQ' : Hid (subQ C X (q + 1) = Q) := by show _ = _; rw [HSQ.out, if_pos q1, List.append_nil]
    clear q1
    go_wp2
    exact HOUT.out (by rw [HSQ'.out]; exact HG4.out)
  · have e7 : x.toList.isEmpty = false := by rw [isEmpty_toList]; simp [q1]
    have HSQ' : Hid (subQ C X (q + 1) = Q ++ [((cc, x), q)]) := by show _ = _; rw [HSQ.out, if_neg q1]
    clear q1
    go_upto_region 37 with fail
    go_cut [27] (fun v wx => ∃ sb, v = .pointer (some ⟨sb, 0, none⟩) ∧ wr.heap.size ≤ sb ∧ Gath W1 wx (fun i => w.heap.size + 1 + i) (fun i => D.getD i 0) QT Q u13 u14 u15 u16 u18 u19 u20 u21 ∧ wx.cell? ⟨sb, 0, none⟩ = some (.string cc) ∧ wx.cell? ⟨sb, 1, none⟩ = some (.string x))
    case first =>
      go_region_held3 (fun w' => w'.cell? ⟨cb, co + q, none⟩ = some (.string cc) ∧ w'.cell? ⟨xb, xo + q, none⟩ = some (.string x)) (go_keep) (fail)
      go_wp2
      go_meet
      exact ⟨wr.heap.size, rfl, Nat.le_refl _, Gath.later HG4.out (((Below.refl _ _).alloc (Nat.le_refl _) _).drew), World.news_of_block (heap_alloc_new wr _) 0 (.string cc) rfl, World.news_of_block (heap_alloc_new wr _) 1 (.string x) rfl⟩
    case rest =>
      obtain ⟨sb, rfl, hsb, hG5, s0, s1⟩ := hcut
      have hsbW : W1.heap.size + 2 ≤ sb := by obtain ⟨F, hB, _⟩ := HG4.out; have := hB.size; omega
      generalize wc = w3 at *
      have hkey : ∃ l, keyOf Try.prog 66 (encS (cc, x)) = some l := keySubj6 cc x (by unfold maxLen; omega) (by unfold maxLen; omega)
      have HKEY : Hid (∃ l, keyOf Try.prog 66 (encS (cc, x)) = some l) := hkey
      have HG5 : Hid _ := hG5
      obtain ⟨kv, hkv⟩ : ∃ kv : Int, placeOf (keysOf Q) (cc, x) = kv := ⟨_, rfl⟩
      obtain ⟨bv, hbv⟩ : ∃ bv : Bool, isIn (keysOf Q) (cc, x) = bv := ⟨_, rfl⟩
      have hlook : (Instr.lookup 62 (.map (some (W1.heap.size + 1))) (.agg #[.string cc, .string x]) true).run Try.prog w3 = .ok (.tuple #[.int .i64 kv, .bool bv]) w3 := by
        obtain ⟨F, hB, _⟩ := hG5
        rw [← hkv, ← hbv]
        exact hB.ms.look2 key66 Try.underlying62 zero3 (cc, x) hkey
      have HKV : Hid (placeOf (keysOf Q) (cc, x) = kv) := hkv
      have HBV : Hid (isIn (keysOf Q) (cc, x) = bv) := hbv
      clear hkv hbv hG5 hkey HG4 hG4 e2 e3 e4 e5 e7
      go_upto_if 170 with fail
      clear hlook
      go_cut [18, 19, 20, 21, 28] (fun b0 b1 b2 b3 kk wx => ∃ r : Nat, kk = .int .i64 r ∧ GathS W1 wx (fun i => w.heap.size + 1 + i) (fun i => D.getD i 0) QT Q u13 u14 u15 u16 b0 b1 b2 b3 (cc, x) r)
      case first =>
        by_cases hmem : (cc, x) ∈ keysOf Q
        · have e3 : bv = true := by rw [← HBV.out]; exact isIn_true hmem
          subst e3
          have e4 : kv = (idx (keysOf Q) (cc, x) : Int) := by rw [← HKV.out]; exact placeOf_mem hmem
          have HM : Hid ((cc, x) ∈ keysOf Q) := hmem
          clear hmem
          go_wp2
          go_meet
          case rel => exact ⟨idx (keysOf Q) (cc, x), by first | rfl | rw [e4], Gath.oldS HG5.out HM.out⟩
        · have e3 : bv = false := by rw [← HBV.out]; exact isIn_false hmem
          subst e3
          have HM : Hid ((cc, x) ∉ keysOf Q) := hmem
          obtain ⟨F, hB, hTS, hSS⟩ := HG5.out
          have hkl : (keysOf Q).length ≤ 4096 := Nat.le_trans (keysOf_len Q) HQ4.out
          obtain ⟨w2, hput, hm2, ht2⟩ := hB.ms.put key66 Try.underlying62 encS_inj (by unfold maxLen; omega) (cc, x) HKEY.out hmem
          have hput' : (Instr.mapUpdate 62 (.map (some (W1.heap.size + 1))) (.agg #[.string cc, .string x]) (.int .i64 ((keysOf Q).length : Nat))).run Try.prog w3 = .ok () w2 := hput
          have HB2 : Hid _ := hB.putS hm2 ht2
          have hbk : w2.heap[sb]? = w3.heap[sb]? := ht2.grown.block sb (World.block_lt_of_cell? _ _ s0) (by simp; omega)
          have s0' := (World.cell?_of_block (a := ⟨sb, 0, none⟩) hbk).trans s0
          have s1' := (World.cell?_of_block (a := ⟨sb, 1, none⟩) hbk).trans s1
          have HTS : Hid _ := hTS
          have HSS : Hid _ := hSS
          have HF0 : Hid (F 4 = ⟨66, 2, u18, (keysOf Q).length, (F 4).xs⟩) := by show _ = _; have := hSS.keys; rw [this]
          have HF1 : Hid (F 5 = ⟨58, 1, u19, (keysOf Q).length, (F 5).xs⟩) := by show _ = _; have := hSS.mems; rw [this]
          have HF2 : Hid (F 6 = ⟨3, 1, u20, (keysOf Q).length, (F 6).xs⟩) := by show _ = _; have := hSS.deals; rw [this]
          have HF3 : Hid (F 7 = ⟨3, 1, u21, (keysOf Q).length, (F 7).xs⟩) := by show _ = _; obtain ⟨es, this, _⟩ := hSS.empty; rw [this]
          obtain ⟨la0, lc0, hu13⟩ : ∃ la lc, u18 = .slice la (keysOf Q).length lc := by have := hB.fam.own 4; rw [HF0.out] at this; exact slice_of_own this
          obtain ⟨la1, lc1, hu14⟩ : ∃ la lc, u19 = .slice la (keysOf Q).length lc := by have := hB.fam.own 5; rw [HF1.out] at this; exact slice_of_own this
          obtain ⟨la2, lc2, hu15⟩ : ∃ la lc, u20 = .slice la (keysOf Q).length lc := by have := hB.fam.own 6; rw [HF2.out] at this; exact slice_of_own this
          obtain ⟨la3, lc3, hu16⟩ : ∃ la lc, u21 = .slice la (keysOf Q).length lc := by have := hB.fam.own 7; rw [HF3.out] at this; exact slice_of_own this
          subst hu13 hu14 hu15 hu16
          clear hmem hB hTS hSS hm2 ht2 HG5 hput hbk
          obtain ⟨i66, hi66, hz66, hs66, hb66⟩ := info_parts Try.info66
          obtain ⟨i58, hi58, hz58, hs58, hb58⟩ := info_parts Try.info58
          obtain ⟨i3, hi3, hz3, hs3, hb3⟩ := info_parts Try.info3
          go_wp2_with ((at_builtin; first | (refine wpList_push HB2.out 4 66 i66 _ 2 32 HF0.out #[.string cc, .string x] hi66 hz66 hs66 hb66 rfl (by decide) rfl (by simp [Value.oneCell']) (by omega) (by omega) rfl (.tmp 176) (.tmp 178) 63 rfl Try.underlying63 rfl rfl ?_; intro g0 cap0 w3 hB3; have HB3 : Hid _ := hB3; clear hB3) | (refine wpList_push HB3.out 5 58 i58 _ 1 24 ((upd_ne _ _ (by decide)).trans HF1.out) #[.slice none 0 0] hi58 hz58 hs58 hb58 rfl (by decide) rfl (by simp [Value.oneCell']) (by omega) (by omega) rfl (.tmp 180) (.tmp 181) 61 rfl Try.underlying61 rfl rfl ?_; intro g1 cap1 w4 hB4; have HB4 : Hid _ := hB4; clear hB4) | (refine wpList_push HB4.out 6 3 i3 _ 1 8 ((upd_ne _ _ (by decide)).trans ((upd_ne _ _ (by decide)).trans HF2.out)) #[.int .i64 0] hi3 hz3 hs3 hb3 rfl (by decide) rfl (by simp [Value.oneCell']) (by omega) (by omega) rfl (.tmp 183) (.tmp 184) 32 rfl Try.underlying32 rfl rfl ?_; intro g2 cap2 w5 hB5; have HB5 : Hid _ := hB5; clear hB5) | (refine wpList_push HB5.out 7 3 i3 _ 1 8 ((upd_ne _ _ (by decide)).trans ((upd_ne _ _ (by decide)).trans ((upd_ne _ _ (by decide)).trans HF3.out))) #[.int .i64 0] hi3 hz3 hs3 hb3 rfl (by decide) rfl (by simp [Value.oneCell']) (by omega) (by omega) rfl (.tmp 186) (.tmp 187) 32 rfl Try.underlying32 rfl rfl ?_; intro g3 cap3 w6 hB6; have HB6 : Hid _ := hB6; clear hB6)))
          go_meet
          case rel => exact ⟨(keysOf Q).length, rfl, newS HM.out HTS.out HSS.out HB6.out⟩
      case rest =>
        obtain ⟨r, rfl, hGT⟩ := hcut
        clear HG5 HKEY HKV HBV s0 s1 hsb hsbW
        obtain ⟨g1, cap1, la, lm, lc, rfl, hr1, cg1, zg1, hg1a, hg1b, hlm, hown, hneb, hend⟩ := GathS.push hGT q
        have HOWN : Hid (∀ ob, (wc.alloc ob).ownsRow (W1.heap.size + 2) 45 1 (.slice la lm lc) lm ((memOf Q (cc, x)).map (ptrB fun i => w.heap.size + 1 + i))) := hown
        have HNEB : Hid (some g1 ≠ (Value.slice la lm lc).ownBlock) := hneb
        have HEND : Hid _ := hend
        have hlm' : lm ≤ 4096 := Nat.le_trans hlm HQ4.out
        have hwc : W1.heap.size + 2 ≤ wc.heap.size := by omega
        obtain ⟨-, -, -, e4, e5⟩ := HIN2.out wc (GathS.low hGT)
        clear hown hneb hend hGT hlm
        generalize hkn : (addKey (keysOf Q) (cc, x)).length = kn at *
        obtain ⟨i45, hi45, hz45, hs45, hb45⟩ := info_parts Try.info45
        go_upto_region 46 with fail
        go_cut [] (fun wx => GathSP W1 wx (fun i => w.heap.size + 1 + i) (fun i => D.getD i 0) QT Q u13 u14 u15 u16 u18 (.slice (some ⟨g1, 0, none⟩) kn cap1) u20 u21 (cc, x) r q)
        case first =>
          go_region_law ((refine step_append_lies _ (by rfl) (.tmp 194) (.tmp 199) 58 (by rfl) (W1.heap.size + 2) 45 i45 (.pointer none) 1 8 Try.underlying58 hi45 hz45 hs45 hb45 (by rfl) (by decide) (.slice la lm lc) lm _ (by rfl) (HOWN.out _) ⟨wc.heap.size, 0, none⟩ 1 1 [.pointer (some ⟨w.heap.size + 1 + q, 0, none⟩)] (by rfl) (by rfl) (World.news_of_block (heap_alloc_new wc _)) (one_ptr _) (by omega) (by unfold maxLen; omega) (by omega) (by simp; omega) (wc.heap.size + 1) (by simp) ?_; intro g cap w1 ho1 hgr hat hlt1; have hgr' : (wc.alloc (.cells #[.pointer (some ⟨w.heap.size + 1 + q, 0, none⟩)] 45)).grownBy w1 (Value.slice la lm lc).ownBlock := ⟨hgr.os, hgr.tape, hgr.output, hgr.size, hgr.block⟩; obtain ⟨k1, k2⟩ := push_cells (w := wc) rfl hgr' cg1 zg1 HNEB.out; have HE := HEND.out _ w1 g cap ho1 hgr' hat; clear ho1 hgr hgr' hat hlt1))
          all_goals (go_wp2; go_meet; first | exact HE | exact GathSP.later HE ((Below.refl _ _).drew) | exact GathSP.later HE (below_drewN' _ _ _))
        case rest =>
          generalize wc = w4 at *
          have HGP : Hid _ := hcut
          clear hcut HEND HNEB HOWN cg1 zg1 e4 e5 hi45 hz45 hs45 hb45
          obtain ⟨g2, cap2, hu15, hr2, cg2, zg2, hg2, hGD⟩ := GathSP.deal HGP.out
          subst hu15
          have HGD : Hid (GathSD W1 (w4.setCell ⟨g2, r, none⟩ (.int .i64 (wrap64 (dlOf (fun i => D.getD i 0) Q (cc, x) + D.getD q 0)))) (fun i => w.heap.size + 1 + i) (fun i => D.getD i 0) QT Q u13 u14 u15 u16 u18 (.slice (some ⟨g1, 0, none⟩) kn cap1) (.slice (some ⟨g2, 0, none⟩) kn cap2) u21 (cc, x) r q) := by
            have := hGD
            rw [hkn] at this
            exact this
          rw [hkn] at hr2
          obtain ⟨-, -, -, e4, -⟩ := HIN2.out w4 (GathSP.low HGP.out)
          clear hGD HGP
          generalize dlOf (fun i => D.getD i 0) Q (cc, x) = dl at cg2 HGD
          obtain ⟨dq, hdq⟩ : ∃ dq, D.getD q 0 = dq := ⟨_, rfl⟩
          rw [hdq] at e4 HGD
          rw [hkn]
          go_upto_region 47 with fail
          go_cut [] (fun wx => GathSD W1 wx (fun i => w.heap.size + 1 + i) (fun i => D.getD i 0) QT Q u13 u14 u15 u16 u18 (.slice (some ⟨g1, 0, none⟩) kn cap1) (.slice (some ⟨g2, 0, none⟩) kn cap2) u21 (cc, x) r q)
          case first =>
            go_region
            all_goals (go_wp2; go_meet; first | exact HGD.out | exact ⟨HGD.out.1, Gath.later HGD.out.2 ((Below.refl _ _).drew)⟩ | exact ⟨HGD.out.1, Gath.later HGD.out.2 (below_drewN' _ _ _)⟩)
          case rest =>
            have HGE : Hid (GathSD W1 wc (fun i => w.heap.size + 1 + i) (fun i => D.getD i 0) QT Q u13 u14 u15 u16 u18 (.slice (some ⟨g1, 0, none⟩) kn cap1) (.slice (some ⟨g2, 0, none⟩) kn cap2) u21 (cc, x) r q) := hcut
            obtain ⟨g3, cap3, z, hu16, hr3, cg3, zg3, hg3, hGV⟩ := GathSD.void HGE.out
            subst hu16
            obtain ⟨-, -, -, e4', -⟩ := HIN2.out wc HGE.out.2.low
            have HGV : Hid _ := hGV
            clear hcut hGV HGD cg2 zg2 e4
            rw [hdq] at e4'
            generalize hkn3 : (keysOf (Q ++ [((cc, x), q)])).length = kn3 at *
            by_cases hd0 : dq = 0
            · subst hd0
              go_wp2
              exact HOUT.out (by rw [HSQ'.out]; exact HGV.out _)
            · have hd0' : (dq == 0) = false := by rw [beq_eq_false_iff_ne]; exact hd0
              clear hd0
              go_wp2
              exact HOUT.out (by rw [HSQ'.out]; exact HGE.out.2)

end Go.Proofs.Qxb6600940a
