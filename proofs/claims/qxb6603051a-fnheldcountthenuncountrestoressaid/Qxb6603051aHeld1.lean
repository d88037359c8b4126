/-
  DERIVED. addCount.
-/
import Derived.Test.Qxb6603051aHeld0
import Derived.Deep.DeepCutAuto
namespace Go.Proofs.Qxb6603051a
open Go.RowKit Go.Maps

/-- What addCount leaves. -/
def Added (w : World) (mb : Option Nat) (n : Nat) (g : ByteArray → Int) (e : Ending) (w' : World) : Prop :=
  ∃ mb', e = .returned (.map mb') ∧ FV w' mb' (n + 1) g ∧ w.grownBy w' mb ∧ ∀ b, mb' = some b → mb = some b ∨ w.heap.size ≤ b

theorem grown_refl (w : World) (r : Option Nat) : w.grownBy w r := ⟨rfl, rfl, rfl, Nat.le_refl _, fun _ _ _ => rfl⟩
theorem grown_trans {a b c : World} {r : Option Nat} (h : a.grownBy b r) (k : b.grownBy c r) : a.grownBy c r :=
  ⟨k.os.trans h.os, k.tape.trans h.tape, k.output.trans h.output, Nat.le_trans h.size k.size, fun q hq hr => (k.block q (Nat.lt_of_lt_of_le hq h.size) hr).trans (h.block q hq hr)⟩
theorem grown_turned {w a b : World} {r : Option Nat} {q : Nat} (h : w.grownBy a r) (k : a.mapTurned b q) (hq : r = some q ∨ w.heap.size ≤ q) : w.grownBy b r :=
  ⟨k.grown.os.trans h.os, k.grown.tape.trans h.tape, k.grown.output.trans h.output, Nat.le_trans h.size k.grown.size, fun c hc hr => (k.grown.block c (Nat.lt_of_lt_of_le hc h.size) (by
    intro e
    injection e with e
    subst e
    rcases hq with hq | hq
    · exact hr hq.symm
    · omega)).trans (h.block c hc hr)⟩

def Good (dom : List ByteArray) (g : ByteArray → Int) : Prop := ∀ x, inB x dom = true ↔ g x ≠ 0
theorem good_ins {dom : List ByteArray} {g : ByteArray → Int} (h : Good dom g) (x : ByteArray) {z : Int} (hz : z ≠ 0) : Good (insB dom x) (gupd g x z) := fun y => by
  rw [inB_ins]
  by_cases e : y = x
  · subst e; simp [gupd_same, hz]
  · rw [gupd_other g z e]; simp [e]; exact h y
theorem good_del {dom : List ByteArray} {g : ByteArray → Int} (h : Good dom g) (x : ByteArray) : Good (delB (insB dom x) x) (gupd g x 0) := fun y => by
  rw [inB_del, inB_ins]
  by_cases e : y = x
  · subst e; simp [gupd_same]
  · rw [gupd_other g 0 e]; simp [e]; exact h y
theorem ins_ne (dom : List ByteArray) (x : ByteArray) : insB dom x ≠ [] := fun e => by
  have : inB x (insB dom x) = true := by rw [inB_ins]; simp
  rw [e] at this
  simp [inB] at this

set_option maxRecDepth 100000 in
set_option maxHeartbeats 1000000 in
theorem addCount_any (mb : Option Nat) (n : Nat) (g : ByteArray → Int) (x : ByteArray) (d : Int) (w : World) (hF : FV w mb n g) (hx : x.size ≤ 9223372036854775807) (hn : n < 1073741824) :
    Calls Try.prog 51 #[.map mb, .string x, .int .i64 d] w fun e w' => Added w mb n (gupd g x (wrap64 (g x + d))) e w' := by
  have HF : Hid (FV w mb n g) := hF
  obtain ⟨z, hz⟩ : ∃ z, wrap64 (g x + d) = z := ⟨_, rfl⟩
  rw [hz]
  have HZ0 : Hid (wrap64 (g x + d) = z) := hz
  clear hF hz
  obtain ⟨bz, hbz⟩ : ∃ bz : Bool, mb.isNone = bz := ⟨_, rfl⟩
  have q1 : (binOp .eql 23 (.map mb) (.map none)).run Try.prog w = .ok (.bool bz) w := by
    rw [← hbz]
    exact run_eql_map_nil w 23 _ _ mb Try.underlying23
  have HBZ : Hid (mb.isNone = bz) := hbz
  clear hbz
  go_enter Try.func51, Try.ntmps51
  go_upto_if 8 with fail
  clear q1
  go_cut [0] (fun v wx => ∃ b m dom, v = .map (some b) ∧ IntMap wx b m dom g ∧ m ≤ n ∧ Good dom g ∧ w.grownBy wx mb ∧ (mb = some b ∨ w.heap.size ≤ b))
  case first =>
    cases mb with
    | none =>
      have e : bz = true := by rw [← HBZ.out]; rfl
      subst e
      have hz : ∀ x, g x = 0 := by
        rcases HF.out with ⟨_, h⟩ | ⟨b, _, _, h, _⟩
        · exact h
        · cases h
      have HZ : Hid (∀ x, g x = 0) := hz
      have hmm : ∀ w : World, (Instr.makeMap 23 none).run Try.prog w = .ok (.map (some w.heap.size)) (w.alloc (.map #[] 0)) := fun _ => rfl
      clear hz
      go_wp2
      go_meet
      case rel => exact ⟨w.heap.size, 0, [], rfl, intMap_made w g, Nat.zero_le _, fun x => by rw [HZ.out x]; simp [inB], ⟨rfl, rfl, rfl, by show _ ≤ (w.heap.push _).size; rw [Array.size_push]; omega, fun b hb _ => Go.Deep.blk_alloc_lt w _ b hb⟩, Or.inr (Nat.le_refl _)⟩
    | some b0 =>
      have e : bz = false := by rw [← HBZ.out]; rfl
      subst e
      go_wp2
      go_meet
      case rel =>
        rcases HF.out with ⟨h, _⟩ | ⟨b, m, dom, h1, h2, h3, h4, h5⟩
        · cases h
        · cases h1
          exact ⟨b0, m, dom, rfl, h3, h2, h5, grown_refl _ _, Or.inl rfl⟩
  case rest =>
    obtain ⟨b, m, dom, rfl, hI, hm, hgood, hgr, hb⟩ := hcut
    have HI : Hid (IntMap wc b m dom g) := hI
    have HG : Hid (Good dom g) := hgood
    have HGR : Hid (w.grownBy wc mb) := hgr
    have HB : Hid (mb = some b ∨ w.heap.size ≤ b) := hb
    have hlook := HI.out.look x hx
    have hgx : (if inB x dom = true then g x else 0) = g x := by
      split
      · rfl
      · rename_i h
        exact (Classical.not_not.1 fun hne => h ((HG.out x).2 (fun e => hne e.symm)))
    rw [hgx] at hlook
    have hz := HZ0.out
    obtain ⟨w2, hput, hI2, ht2⟩ := HI.out.put x z hx (by omega)
    have HI2 : Hid (IntMap w2 b (m + 1) (insB dom x) (gupd g x z)) := hI2
    have HGR2 : Hid (w.grownBy w2 mb) := grown_turned HGR.out ht2 HB.out
    have hlook2 := HI2.out.look x hx
    have hin : inB x (insB dom x) = true := by rw [inB_ins]; simp
    rw [hin, if_pos rfl, gupd_same] at hlook2
    have hw : IntKind.i64.wrap (g x + d) = z := by rw [← hz, IntKind.wrap_i64]; unfold wrap64; omega
    clear hI hgood hgr hb hgx hI2 ht2 hin HF HBZ HZ0
    generalize g x = gx at *
    by_cases z0 : z = 0
    · subst z0
      obtain ⟨w3, hdrop, hI3, ht3⟩ : ∃ w3, (∀ ty, (Builtin.delete_ #[23, 9] ty #[.map (some b), .string x]).run Try.prog w2 = .ok (.tuple #[]) w3) ∧ IntMap w3 b (m + 1) (delB (insB dom x) x) (gupd g x 0) ∧ w2.mapTurned w3 b := by
        obtain ⟨w3, h1, h2, h3⟩ := HI2.out.drop x hx 0
        exact ⟨w3, fun ty => h1, h2, h3⟩
      have HI3 : Hid (IntMap w3 b (m + 1) (delB (insB dom x) x) (gupd g x 0)) := hI3
      have HG3 : Hid (Good (delB (insB dom x) x) (gupd g x 0)) := good_del HG.out x
      have HGR3 : Hid (w.grownBy w3 mb) := grown_turned HGR2.out ht3 HB.out
      have hlen := fun ty => HI3.out.len ty
      clear hI3 ht3 hz
      generalize hD : delB (insB dom x) x = D at *
      by_cases hD0 : D = []
      · have hl0 : D.length = 0 := by rw [hD0]; rfl
        have HZ : Hid (∀ y, gupd g x 0 y = 0) := fun y => Classical.not_not.1 fun hne => by
          have := (HG3.out y).2 hne
          rw [hD0] at this
          simp [inB] at this
        rw [hl0] at hlen
        clear hD hD0 hl0
        go_wp2
        go_ret
        exact ⟨none, rfl, Or.inl ⟨rfl, HZ.out⟩, HGR3.out, fun b h => by cases h⟩
      · have hl0 : ((D.length : Int) == 0) = false := by
          rw [beq_eq_false_iff_ne]
          intro h
          exact hD0 (List.eq_nil_of_length_eq_zero (by omega))
        have HN : Hid (D ≠ []) := hD0
        clear hD hD0
        go_wp2
        go_ret
        exact ⟨some b, rfl, Or.inr ⟨b, m + 1, D, rfl, by omega, HI3.out, HN.out, HG3.out⟩, HGR3.out, fun b' h => by cases h; exact HB.out⟩
    · have z0' : (z == 0) = false := by rw [beq_eq_false_iff_ne]; exact z0
      have HG2 : Hid (Good (insB dom x) (gupd g x z)) := good_ins HG.out x z0
      have HN : Hid (insB dom x ≠ []) := ins_ne dom x
      have hlen := fun ty => HI2.out.len ty
      have hl0 : (((insB dom x).length : Int) == 0) = false := by
        rw [beq_eq_false_iff_ne]
        intro h
        exact HN.out (List.eq_nil_of_length_eq_zero (by omega))
      clear z0 hz
      generalize hD : insB dom x = D at *
      clear hD
      go_wp2
      go_ret
      exact ⟨some b, rfl, Or.inr ⟨b, m + 1, D, rfl, by omega, HI2.out, HN.out, HG2.out⟩, HGR2.out, fun b' h => by cases h; exact HB.out⟩

end Go.Proofs.Qxb6603051a
