/-
  DERIVED. Build: the code behind its second loop.
-/
import Derived.Test.Qxb6600940aBuild4
import Derived.Outline
import Derived.Deep.RegionHeld3
import Derived.Deep.RegionLaw
import Derived.Deep.DeepCutAuto
namespace Go.Proofs.Qxb6600940a
open Go.RowKit Go.Maps

/-- Region n and what follows it. -/
def findSeq (n : Nat) : Code → Option (Code × Code)
  | .seq a b => match (match a with | .region id _ _ => id == n | _ => false) with
    | true => some (a, b)
    | false => match findSeq n a with
      | some r => some r
      | none => findSeq n b
  | .block _ c => findSeq n c
  | .scope c => findSeq n c
  | .loop c => findSeq n c
  | .cond _ a b => match findSeq n a with
    | some r => some r
    | none => findSeq n b
  | _ => none
/-- N at a plain end; no other end. -/
def OnlyNormal (N : Act → World → Prop) : Exit → Act → World → Prop
  | .normal, a, w => N a w
  | _, _, _ => False
theorem onlyNormal_imp {R : Exit → Act → World → Prop} : ∀ e a w, OnlyNormal (fun a w => R .normal a w) e a w → R e a w := fun e a w h => by
  cases e <;> first | exact h | exact (h : False).elim
/-- A part of a body that ends plainly. -/
theorem part_in {P : Program} {c1 c2 : Code} {K : Act → World → Prop} {R : Exit → Act → World → Prop} {a : Act} {w : World} (hK : ∀ a w, Code.wp P c2 R a w → K a w)
    (h : Code.wp P c1 (Exit.then (fun a w => Code.wp P c2 (OnlyNormal (fun a w => R .normal a w)) a w) (OnlyNormal (fun a w => R .normal a w))) a w) : Code.wp P c1 (Exit.then K R) a w :=
  Code.wp_mono (fun e a w he => by
    cases e <;> first | exact hK a w (Code.wp_mono onlyNormal_imp he) | exact (he : False).elim) h

noncomputable def tail50 : Code × Code := (Try.f25.body.bind (findSeq 50)).getD (.skip, .skip)

set_option maxRecDepth 1000000 in
set_option maxHeartbeats 20000000 in
theorem build_tail (T : List (List ByteArray)) (C X : List ByteArray) (D : List Int) (w W1 W2 : World) (tv : Nat → Value) (q : Nat) (ta ca xa da : Option Addr) (u14 u15 u16 u18 u19 u20 u21 : Value) (la0 : Option Addr) (lc0 : Nat) (hn : T.length = q) (h4 : q ≤ 4096) (HIN : Hid (∀ k, k < q → InAt w ta ca xa da T C X D tv k)) (HASC : Hid (∀ i, i < q → Asc (T.getD i []))) (HTOT : Hid ((topQ T q).length ≤ 4096)) (HL : Hid (L1 w W1 q C X D tv q))
    (HG : Hid (Gath W1 W2 (fun i => w.heap.size + 1 + i) (fun i => D.getD i 0) (topQ T q) (subQ C X q) (.slice la0 (keysOf (topQ T q)).length lc0) u14 u15 u16 u18 u19 u20 u21))
    {c0 c1 c2 c3 c4 c5 c6 c7 c8 c9 c10 c11 c12 c17 c22 c23 c24 c25 c26 c27 c28 c29 c30 c31 c32 c33 c34 c35 c36 c37 c38 c39 c40 c41 c42 c43 c44 c45 c46 c47 c48 c49 c50 c51 c52 c53 c54 c55 c56 c57 c58 c59 c60 c61 c62 c63 c64 c65 c66 c67 c68 c69 c70 c71 c72 c73 c74 c75 c76 c77 c78 c79 c80 c81 c82 c83 c84 c85 c86 c87 c88 c89 c90 c91 c92 c93 c94 c95 c96 c97 c98 c99 c100 c101 c102 c103 c104 c105 c106 c107 c108 c109 c110 c111 c112 c113 c114 c115 c116 c117 c118 c119 c120 c121 c122 c123 c124 c125 c126 c127 c128 c129 c130 c131 c132 c133 c134 c135 c136 c137 c138 c139 c140 c141 c142 c143 c144 c145 c146 c147 c148 c149 c150 c151 c152 c153 c154 c155 c156 c157 c158 c159 c160 c161 c162 c163 c164 c165 c166 c167 c168 c169 c170 c171 c172 c173 c174 c175 c176 c177 c178 c179 c180 c181 c182 c183 c184 c185 c186 c187 c188 c189 c190 c191 c192 c193 c194 c195 c196 c197 c198 c199 c200 c201 c202 c203 c204 c205 c206 c207 c208 c209 c210 c211 c212 c213 c214 c215 c216 c217 c218 c219 c220 c221 c222 c223 c224 c225 c226 c227 c228 c229 c230 c231 c232 c233 c234 c235 c236 c237 c238 c239 c240 c241 c242 c243 c244 c245 c246 c247 c248 c249 c250 c251 c252 c253 c254 c255 c256 c257 c258 c259 c260 c261 c262 c263 c264 c265 c266 c267 c268 c269 c270 c271 c272 c273 c274 c275 c276 c277 c278 c279 c280 c281 c282 : Value} (K : Act → World → Prop) (hK : ∀ a w', Code.wp Try.prog tail50.2 (bodyPost Try.prog Try.f25 fun e w' => Built w T C X D e w') a w' → K a w') :
    Code.wp Try.prog tail50.1 (Exit.then K (bodyPost Try.prog Try.f25 fun e w' => Built w T C X D e w')) ⟨#[c0, c1, c2, c3, c4, c5, c6, c7, c8, c9, c10, c11, c12, (.slice la0 (keysOf (topQ T q)).length lc0), u14, u15, u16, c17, u18, u19, u20, u21, c22, c23, c24, c25, c26, c27, c28, c29, c30, c31, c32, c33, c34, c35, c36, c37, c38, c39, c40, c41, c42, c43, c44, c45, c46, c47, c48, c49, c50, c51, c52, c53, c54, c55, c56, c57, c58, c59, c60, c61, c62, c63, c64, c65, c66, c67, c68, c69, c70, c71, c72, c73, c74, c75, c76, c77, c78, c79, c80, c81, c82, c83, c84, c85, c86, c87, c88, c89, c90, c91, c92, c93, c94, c95, c96, c97, c98, c99, c100, c101, c102, c103, c104, c105, c106, c107, c108, c109, c110, c111, c112, c113, c114, c115, c116, c117, c118, c119, c120, c121, c122, c123, c124, c125, c126, c127, c128, c129, c130, c131, c132, c133, c134, c135, c136, c137, c138, c139, c140, c141, c142, c143, c144, c145, c146, c147, c148, c149, c150, c151, c152, c153, c154, c155, c156, c157, c158, c159, c160, c161, c162, c163, c164, c165, c166, c167, c168, c169, c170, c171, c172, c173, c174, c175, c176, c177, c178, c179, c180, c181, c182, c183, c184, c185, c186, c187, c188, c189, c190, c191, c192, c193, c194, c195, c196, c197, c198, c199, c200, c201, c202, c203, c204, c205, c206, c207, c208, c209, c210, c211, c212, c213, c214, c215, c216, c217, c218, c219, c220, c221, c222, c223, c224, c225, c226, c227, c228, c229, c230, c231, c232, c233, c234, c235, c236, c237, c238, c239, c240, c241, c242, c243, c244, c245, c246, c247, c248, c249, c250, c251, c252, c253, c254, c255, c256, c257, c258, c259, c260, c261, c262, c263, c264, c265, c266, c267, c268, c269, c270, c271, c272, c273, c274, c275, c276, c277, c278, c279, c280, c281, c282], []⟩ W2 := by
  conv => arg 2; whnf
  conv at hK => intro a w'; arg 1; arg 2; whnf
  have HTL : Hid (∀ i, i < q → (T.getD i []).length ≤ 4096) := fun i hi => by
    have h1 := partQ_len T (T.getD i []).length hi
    have h2 := HTOT.out
    unfold partQ at h1
    rw [List.length_append, List.length_map, List.take_length] at h1
    omega
  have HKT4 : Hid ((keysOf (topQ T q)).length ≤ 4096) := Nat.le_trans (keysOf_len _) HTOT.out
  have HKS4 : Hid ((keysOf (subQ C X q)).length ≤ 4096) := Nat.le_trans (keysOf_len _) (Nat.le_trans (subQ_len C X q) h4)
  have HKN : Hid ((keysOf (topQ T q)).Nodup) := nodup_keysOf _
  have HSN : Hid ((keysOf (subQ C X q)).Nodup) := nodup_keysOf _
  have HSTRT : Hid (∀ t, t ∈ keysOf (topQ T q) → ∃ l, keyOf Try.prog 9 (encT t) = some l) := fun t ht => keysT_ok HIN.out ht
  have HSTRS : Hid (∀ t, t ∈ keysOf (subQ C X q) → ∃ l, keyOf Try.prog 47 (encS t) = some l) := fun t ht => keysS_ok HIN.out ht
  have HLM : Hid _ := listMap_made W2 (W1.heap.size + 2) 9 encT (fun i => w.heap.size + 1 + i) (fun i => D.getD i 0) (topQ T q)
  have HBL : Hid (Below W2.heap.size W2 (W2.alloc (.map #[] 0))) := (Below.refl _ _).alloc (Nat.le_refl _) _
  have hmm67 : ∀ w : World, (Instr.makeMap 67 none).run Try.prog w = .ok (.map (some w.heap.size)) (w.alloc (.map #[] 0)) := fun _ => rfl
  have hmm70 : ∀ w : World, (Instr.makeMap 70 none).run Try.prog w = .ok (.map (some w.heap.size)) (w.alloc (.map #[] 0)) := fun _ => rfl
  go_wp2
  go_loopw [31] (fun i wx => ∃ k : Nat, k ≤ (keysOf (topQ T q)).length ∧ i = .int .i64 k ∧ Below W2.heap.size W2 wx ∧ ListMap W2 wx (W1.heap.size + 2) 9 W2.heap.size encT (fun i => w.heap.size + 1 + i) (fun i => D.getD i 0) (topQ T q) ((keysOf (topQ T q)).take k)) (fun i _ => (keysOf (topQ T q)).length - (intOf i).toNat)
  case atStart => exact ⟨0, Nat.zero_le _, rfl, HBL.out, by rw [List.take_zero]; exact HLM.out⟩
  case round =>
    obtain ⟨k, hk, rfl, hbl, hlm⟩ := hrel
    clear HBL HLM
    have HBL : Hid (Below W2.heap.size W2 wr) := hbl
    have HLM : Hid _ := hlm
    clear hbl hlm
    by_cases hlt : k < (keysOf (topQ T q)).length
    · obtain ⟨t, ht⟩ : ∃ t, (keysOf (topQ T q))[k]? = some t := ⟨_, List.getElem?_eq_getElem hlt⟩
      obtain ⟨g0, c0, g1, c1, g2, c2, g3, c3, gm, cm, z, e0, e1, e2, e3, r0, r1, r2, r3, hgm1, hgm2, hgm3⟩ := Gath.readT HG.out ht
      have b0 : g0 < W2.heap.size := World.block_lt_of_cell? _ _ r0
      have b1 : g1 < W2.heap.size := World.block_lt_of_cell? _ _ r1
      have b2 : g2 < W2.heap.size := World.block_lt_of_cell? _ _ r2
      have b3 : g3 < W2.heap.size := World.block_lt_of_cell? _ _ r3
      injection e0 with e0 _ e0'
      subst e0 e0' e1 e2 e3
      have hsz2 : W2.heap.size < wr.heap.size := by obtain ⟨_, _, _, h, _⟩ := HLM.out; exact h.lt
      have hnew := listOk_new (W2 := W2) (w := wr) (w0 := (wr.alloc (.cells (listCells (some ⟨gm, 0, none⟩) (memOf (topQ T q) t).length cm (dlOf (fun i => D.getD i 0) (topQ T q) t) z) 75)).drew) (lo := W1.heap.size + 2) (bp := fun i => w.heap.size + 1 + i) (D := fun i => D.getD i 0) (b := W2.heap.size) rfl hsz2 hgm1 hgm2 hgm3
      obtain ⟨w2, hput, hm2, ht2⟩ := ListMap.put (ListMap.later HLM.out (w' := (wr.alloc (.cells (listCells (some ⟨gm, 0, none⟩) (memOf (topQ T q) t).length cm (dlOf (fun i => D.getD i 0) (topQ T q) t) z) 75)).drew) (((Below.refl _ _).alloc (Nat.le_refl _) _).drew)) key9 Try.underlying67 encT_inj (by rw [List.length_take]; have := HKT4.out; unfold maxLen; omega) t (HSTRT.out t (List.mem_of_getElem? ht)) (not_mem_take HKN.out ht) wr.heap.size hnew
      have hput' : (Instr.mapUpdate 67 (.map (some W2.heap.size)) (.string t) (.pointer (some ⟨wr.heap.size, 0, none⟩))).run Try.prog (wr.alloc (.cells (listCells (some ⟨gm, 0, none⟩) (memOf (topQ T q) t).length cm (dlOf (fun i => D.getD i 0) (topQ T q) t) z) 75)).drew = .ok () w2 := hput
      have HM2 : Hid (ListMap W2 w2 (W1.heap.size + 2) 9 W2.heap.size encT (fun i => w.heap.size + 1 + i) (fun i => D.getD i 0) (topQ T q) ((keysOf (topQ T q)).take (k + 1))) := by show ListMap _ _ _ _ _ _ _ _ _ _; rw [take_succ_get ht]; exact hm2
      have HB2 : Hid (Below W2.heap.size W2 w2) := (HBL.out.trans ((((Below.refl _ _).alloc (Nat.le_refl _) _).drew).mono (Nat.le_of_lt hsz2))).trans (turned_below ht2 (Nat.le_refl _))
      have p0 := (HB2.out.cell (p := ⟨g0, k, none⟩) b0).trans r0
      have p1 := (HB2.out.cell (p := ⟨g1, k, none⟩) b1).trans r1
      have p2 := (HB2.out.cell (p := ⟨g2, k, none⟩) b2).trans r2
      have p3 := (HB2.out.cell (p := ⟨g3, k, none⟩) b3).trans r3
      replace r0 := (HBL.out.cell (p := ⟨g0, k, none⟩) b0).trans r0
      replace r1 := (HBL.out.cell (p := ⟨g1, k, none⟩) b1).trans r1
      replace r2 := (HBL.out.cell (p := ⟨g2, k, none⟩) b2).trans r2
      replace r3 := (HBL.out.cell (p := ⟨g3, k, none⟩) b3).trans r3
      clear hput hm2 ht2 hnew hgm3 ht
      have hk4 := HKT4.out
      generalize dlOf (fun i => D.getD i 0) (topQ T q) t = dl at *
      generalize (memOf (topQ T q) t).length = ml at *
      go_wp2
      go_region_held3 (fun w' => w'.cell? ⟨g0, k, none⟩ = some (.string t) ∧ w'.cell? ⟨g1, k, none⟩ = some (.slice (some ⟨gm, 0, none⟩) ml cm) ∧ w'.cell? ⟨g2, k, none⟩ = some (.int .i64 dl) ∧ w'.cell? ⟨g3, k, none⟩ = some (.int .i64 z))
        (first | exact ⟨r0, r1, r2, r3⟩ | exact ⟨Lib.cell?_alloc_some _ r0, Lib.cell?_alloc_some _ r1, Lib.cell?_alloc_some _ r2, Lib.cell?_alloc_some _ r3⟩ | exact ⟨p0, p1, p2, p3⟩)
        ((go_at_call 36; refine (newList_any _ _ _ _ _ _).mono ?_; rintro e w5 ⟨rfl, rfl⟩))
      go_wp2
      go_roundw
      case rel => exact ⟨k + 1, by omega, by go_num, HB2.out, HM2.out⟩
      case measure => simp [intOf]; omega
    · have hkk : k = (keysOf (topQ T q)).length := by omega
      have HLT : Hid (ListMap W2 wr (W1.heap.size + 2) 9 W2.heap.size encT (fun i => w.heap.size + 1 + i) (fun i => D.getD i 0) (topQ T q) (keysOf (topQ T q))) := by have := HLM.out; rw [hkk, List.take_length] at this; exact this
      clear HLM
      generalize wr = W3 at *
      have HG3 : Hid _ := Gath.later HG.out HBL.out
      have HLS : Hid _ := listMap_made W3 (W1.heap.size + 2) 47 encS (fun i => w.heap.size + 1 + i) (fun i => D.getD i 0) (subQ C X q)
      have HBS : Hid (Below W3.heap.size W3 (W3.alloc (.map #[] 0))) := (Below.refl _ _).alloc (Nat.le_refl _) _
      obtain ⟨la4, lc4, hu18⟩ : ∃ la lc, u18 = .slice la (keysOf (subQ C X q)).length lc := by obtain ⟨F, hB, _, hSS⟩ := HG.out; have := hB.fam.own 4; rw [hSS.keys] at this; exact slice_of_own this
      subst hu18
      subst hkk
      clear hlt hk
      go_wp2
      go_loopw [33] (fun i wx => ∃ k : Nat, k ≤ (keysOf (subQ C X q)).length ∧ i = .int .i64 k ∧ Below W3.heap.size W3 wx ∧ ListMap W3 wx (W1.heap.size + 2) 47 W3.heap.size encS (fun i => w.heap.size + 1 + i) (fun i => D.getD i 0) (subQ C X q) ((keysOf (subQ C X q)).take k)) (fun i _ => (keysOf (subQ C X q)).length - (intOf i).toNat)
      case atStart => exact ⟨0, Nat.zero_le _, rfl, HBS.out, by rw [List.take_zero]; exact HLS.out⟩
      case round =>
        obtain ⟨k, hk, rfl, hbl, hlm⟩ := hrel
        clear HBS HLS
        have HBS : Hid (Below W3.heap.size W3 wr) := hbl
        have HLS : Hid _ := hlm
        clear hbl hlm
        by_cases hlt : k < (keysOf (subQ C X q)).length
        · obtain ⟨t, ht⟩ : ∃ t, (keysOf (subQ C X q))[k]? = some t := ⟨_, List.getElem?_eq_getElem hlt⟩
          obtain ⟨g0, c0, g1, c1, g2, c2, g3, c3, gm, cm, z, e0, e1, e2, e3, ⟨r0, r4⟩, r1, r2, r3, hgm1, hgm2, hgm3⟩ := Gath.readS HG3.out ht
          have b0 : g0 < W3.heap.size := World.block_lt_of_cell? _ _ r0
          have b1 : g1 < W3.heap.size := World.block_lt_of_cell? _ _ r1
          have b2 : g2 < W3.heap.size := World.block_lt_of_cell? _ _ r2
          have b3 : g3 < W3.heap.size := World.block_lt_of_cell? _ _ r3
          injection e0 with e0 _ e0'
          subst e0 e0' e1 e2 e3
          have hsz2 : W3.heap.size < wr.heap.size := by obtain ⟨_, _, _, h, _⟩ := HLS.out; exact h.lt
          replace r0 := (HBS.out.cell (p := ⟨g0, k * 2, none⟩) b0).trans r0
          replace r4 := (HBS.out.cell (p := ⟨g0, k * 2 + 1, none⟩) b0).trans r4
          replace r1 := (HBS.out.cell (p := ⟨g1, k, none⟩) b1).trans r1
          replace r2 := (HBS.out.cell (p := ⟨g2, k, none⟩) b2).trans r2
          replace r3 := (HBS.out.cell (p := ⟨g3, k, none⟩) b3).trans r3
          obtain ⟨tc, tx⟩ := t
          have hk4 := HKS4.out
          generalize hdl0 : dlOf (fun i => D.getD i 0) (subQ C X q) (tc, tx) = dl at *
          generalize hml : (memOf (subQ C X q) (tc, tx)).length = ml at *
          have hs1 : (wr.alloc (.cells #[.string tc, .string tx] 47)).heap.size = wr.heap.size + 1 := by show (wr.heap.push _).size = _; rw [Array.size_push]
          have hdl : wrap64 (dealsOf (fun i => D.getD i 0) (memOf (subQ C X q) (tc, tx))) = dl := hdl0
          have hnew := listOk_new (W2 := W3) (w := wr.alloc (.cells #[.string tc, .string tx] 47)) (M := memOf (subQ C X q) (tc, tx)) (z := z) (cap := cm) (g := gm) (w0 := ((wr.alloc (.cells #[.string tc, .string tx] 47)).alloc (.cells (listCells (some ⟨gm, 0, none⟩) ml cm dl z) 75)).drew) (lo := W1.heap.size + 2) (bp := fun i => w.heap.size + 1 + i) (D := fun i => D.getD i 0) (b := W3.heap.size) (by rw [hml, hdl]; rfl) (by rw [hs1]; omega) hgm1 hgm2 (by rw [hml]; exact hgm3)
          rw [hs1] at hnew
          have HB0 : Hid (Below wr.heap.size wr ((wr.alloc (.cells #[.string tc, .string tx] 47)).alloc (.cells (listCells (some ⟨gm, 0, none⟩) ml cm dl z) 75)).drew) := (((Below.refl _ _).alloc (Nat.le_refl _) _).alloc (by rw [hs1]; omega) _).drew
          obtain ⟨w2, hput, hm2, ht2⟩ := ListMap.put (ListMap.later HLS.out (w' := ((wr.alloc (.cells #[.string tc, .string tx] 47)).alloc (.cells (listCells (some ⟨gm, 0, none⟩) ml cm dl z) 75)).drew) HB0.out) key47 Try.underlying70 encS_inj (by rw [List.length_take]; unfold maxLen; omega) (tc, tx) (HSTRS.out (tc, tx) (List.mem_of_getElem? ht)) (not_mem_take HSN.out ht) (wr.heap.size + 1) hnew
          have hput' : (Instr.mapUpdate 70 (.map (some W3.heap.size)) (.agg #[.string tc, .string tx]) (.pointer (some ⟨wr.heap.size + 1, 0, none⟩))).run Try.prog ((wr.alloc (.cells #[.string tc, .string tx] 47)).alloc (.cells (listCells (some ⟨gm, 0, none⟩) ml cm dl z) 75)).drew = .ok () w2 := hput
          have HM2 : Hid (ListMap W3 w2 (W1.heap.size + 2) 47 W3.heap.size encS (fun i => w.heap.size + 1 + i) (fun i => D.getD i 0) (subQ C X q) ((keysOf (subQ C X q)).take (k + 1))) := by show ListMap _ _ _ _ _ _ _ _ _ _; rw [take_succ_get ht]; exact hm2
          have HB3 : Hid (Below W3.heap.size wr w2) := (HB0.out.mono (Nat.le_of_lt hsz2)).trans (turned_below ht2 (Nat.le_refl _))
          have HB2 : Hid (Below W3.heap.size W3 w2) := HBS.out.trans HB3.out
          have p0 := (HB3.out.cell (p := ⟨g0, k * 2, none⟩) b0).trans r0
          have p4 := (HB3.out.cell (p := ⟨g0, k * 2 + 1, none⟩) b0).trans r4
          have p1 := (HB3.out.cell (p := ⟨g1, k, none⟩) b1).trans r1
          have p2 := (HB3.out.cell (p := ⟨g2, k, none⟩) b2).trans r2
          have p3 := (HB3.out.cell (p := ⟨g3, k, none⟩) b3).trans r3
          clear hput hm2 ht2 hnew hgm3 ht hdl hdl0 hs1 hml
          go_wp2
          go_region_held3 (fun w' => w'.cell? ⟨g0, k * 2, none⟩ = some (.string tc) ∧ w'.cell? ⟨g0, k * 2 + 1, none⟩ = some (.string tx) ∧ w'.cell? ⟨g1, k, none⟩ = some (.slice (some ⟨gm, 0, none⟩) ml cm) ∧ w'.cell? ⟨g2, k, none⟩ = some (.int .i64 dl) ∧ w'.cell? ⟨g3, k, none⟩ = some (.int .i64 z))
            (first | exact ⟨r0, r4, r1, r2, r3⟩ | exact ⟨Lib.cell?_alloc_some _ r0, Lib.cell?_alloc_some _ r4, Lib.cell?_alloc_some _ r1, Lib.cell?_alloc_some _ r2, Lib.cell?_alloc_some _ r3⟩ | exact ⟨Lib.cell?_alloc_some _ (Lib.cell?_alloc_some _ r0), Lib.cell?_alloc_some _ (Lib.cell?_alloc_some _ r4), Lib.cell?_alloc_some _ (Lib.cell?_alloc_some _ r1), Lib.cell?_alloc_some _ (Lib.cell?_alloc_some _ r2), Lib.cell?_alloc_some _ (Lib.cell?_alloc_some _ r3)⟩ | exact ⟨p0, p4, p1, p2, p3⟩)
            ((first | (go_at_call 36; refine (newList_any _ _ _ _ _ _).mono ?_; rintro e w5 ⟨rfl, rfl⟩) | (go_at_call 37; refine (makeSubject_any _ _ _).mono ?_; rintro e w5 ⟨rfl, rfl⟩)))
          go_wp2
          go_roundw
          case rel => exact ⟨k + 1, by omega, by go_num, HB2.out, HM2.out⟩
          case measure => simp [intOf]; omega
        · have hkk : k = (keysOf (subQ C X q)).length := by omega
          have HLS' : Hid (ListMap W3 wr (W1.heap.size + 2) 47 W3.heap.size encS (fun i => w.heap.size + 1 + i) (fun i => D.getD i 0) (subQ C X q) (keysOf (subQ C X q))) := by have := HLS.out; rw [hkk, List.take_length] at this; exact this
          have HE : Hid _ := built_end hn HL.out HG.out HBL.out HBS.out HLT.out HLS'.out HIN.out h4 HASC.out HTL.out
          subst hkk
          clear hlt hk HLS HLS'
          go_wp2_with fail
          refine (newFinished_any _ _ _).mono ?_
          rintro e w5 ⟨rfl, rfl⟩
          go_wp2
          go_ret
          exact HE.out

end Go.Proofs.Qxb6600940a
