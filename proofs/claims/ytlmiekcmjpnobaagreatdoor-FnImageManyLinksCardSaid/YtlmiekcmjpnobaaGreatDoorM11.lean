/- Part 11 of the proof of the card of 'laws.FnImageManyLinks': it returns true at every input. No condition. Texts: PH PI PJ PK QA QB QC QD. -/
import Derived.Test.YtlmiekcmjpnobaaGreatDoorM10
namespace Go.Proofs.YtlmiekcmjpnobaaGreatDoor
open Go
namespace SL
set_option maxRecDepth 20000

theorem putB_out {l bs : List UInt8} {a j : Nat} (h : a + bs.length ≤ l.length) (hj : j < a ∨ a + bs.length ≤ j) : (putB l a bs)[j]? = l[j]? := by
  have h1 : (l.take a ++ bs).length = a + bs.length := by rw [List.length_append, List.length_take]; omega
  unfold putB
  rcases hj with hj | hj
  · rw [List.append_assoc, List.getElem?_append_left (by rw [List.length_take]; omega), List.getElem?_take, if_pos hj]
  · rw [List.getElem?_append_right (by omega), h1, List.getElem?_drop, show a + bs.length + (j - (a + bs.length)) = j by omega]
theorem putB_in {l bs : List UInt8} {a j : Nat} (h : a + bs.length ≤ l.length) (hj : a ≤ j ∧ j < a + bs.length) : (putB l a bs)[j]? = bs[j - a]? := by
  have h1 : (l.take a).length = a := by rw [List.length_take]; omega
  unfold putB
  rw [List.getElem?_append_left (by rw [List.length_append]; omega), List.getElem?_append_right (by omega), h1]
theorem cut_ext {l m : List UInt8} {q r n : Nat} (h : ∀ i, i < n → l[q + i]? = m[r + i]?) : cut l q n = cut m r n := by
  apply List.ext_getElem?
  intro i
  by_cases hi : i < n
  · rw [cut_get hi, cut_get hi, h i hi]
  · rw [List.getElem?_eq_none (by simp [cut]; omega), List.getElem?_eq_none (by simp [cut]; omega)]
theorem cut_put_out {l bs : List UInt8} {a q n : Nat} (h : a + bs.length ≤ l.length) (hd : q + n ≤ a ∨ a + bs.length ≤ q) : cut (putB l a bs) q n = cut l q n := cut_ext fun i hi => putB_out h (by omega)
theorem cut_put_in {l bs : List UInt8} {a q n : Nat} (h : a + bs.length ≤ l.length) (hq : a ≤ q ∧ q + n ≤ a + bs.length) : cut (putB l a bs) q n = cut bs (q - a) n := cut_ext fun i hi => by rw [putB_in h (by omega), show q + i - a = q - a + i by omega]
theorem leN_via (l : List UInt8) (q n : Nat) : leN l q n = leN (cut l q n) 0 n := by rw [leN_cut (by omega), Nat.add_zero]
theorem leN_put_out {l bs : List UInt8} {a q n : Nat} (h : a + bs.length ≤ l.length) (hd : q + n ≤ a ∨ a + bs.length ≤ q) : leN (putB l a bs) q n = leN l q n := by rw [leN_via, cut_put_out h hd, ← leN_via]
theorem leN_put_in {l bs : List UInt8} {a q n : Nat} (h : a + bs.length ≤ l.length) (hq : a ≤ q ∧ q + n ≤ a + bs.length) : leN (putB l a bs) q n = leN bs (q - a) n := by rw [leN_via, cut_put_in h hq, ← leN_via]
theorem leN_one {l : List UInt8} {q n : Nat} (h : leN l q (n + 1) = 0) : leN l q 1 = 0 := by
  simp only [leN] at h ⊢
  omega
/-- What stands in the attribute area of an inline file. -/
structure PxF (l v X : List UInt8) : Prop where
  len : X.length = 104
  out : ∀ q n, (q + n ≤ 4 ∨ (8 ≤ q ∧ q + n ≤ 12) ∨ (24 ≤ q ∧ q + n ≤ 28)) → leN X q n = leN l q n
  nl : leN X 4 1 = 4
  idx : leN X 5 1 = 7
  pl : leN X 6 2 = 100 - up4 v.length
  sz : leN X 12 4 = v.length
  hs : leN X 16 4 = attrHash data4 v
  nm : cut X 20 4 = data4
  vl : cut X (104 - up4 v.length) v.length = v
theorem pxB_facts {l v : List UInt8} (hl : l.length = 104) (hv : v.length ≤ 76) : PxF l v (pxB l v) := by
  have hu1 := up4_ge v.length
  have hu2 : up4 v.length ≤ 76 := by unfold up4; omega
  obtain ⟨L1, e1⟩ : ∃ L, L = putB l 4 (leB 1 4) := ⟨_, rfl⟩
  obtain ⟨L2, e2⟩ : ∃ L, L = putB L1 5 (leB 1 7) := ⟨_, rfl⟩
  obtain ⟨L3, e3⟩ : ∃ L, L = putB L2 6 (leB 2 (100 - up4 v.length)) := ⟨_, rfl⟩
  obtain ⟨L4, e4⟩ : ∃ L, L = putB L3 12 (leB 4 v.length) := ⟨_, rfl⟩
  obtain ⟨L5, e5⟩ : ∃ L, L = putB L4 16 (leB 4 (attrHash data4 v)) := ⟨_, rfl⟩
  obtain ⟨L6, e6⟩ : ∃ L, L = putB L5 20 data4 := ⟨_, rfl⟩
  have ex : pxB l v = putB L6 (104 - up4 v.length) v := by unfold pxB; rw [e6, e5, e4, e3, e2, e1]
  have b1 : (leB 1 4).length = 1 := leB_length ..
  have b2 : (leB 1 7).length = 1 := leB_length ..
  have b3 : (leB 2 (100 - up4 v.length)).length = 2 := leB_length ..
  have b4 : (leB 4 v.length).length = 4 := leB_length ..
  have b5 : (leB 4 (attrHash data4 v)).length = 4 := leB_length ..
  have b6 : data4.length = 4 := rfl
  have l1 : L1.length = 104 := by rw [e1, putB_length (by omega), hl]
  have l2 : L2.length = 104 := by rw [e2, putB_length (by omega), l1]
  have l3 : L3.length = 104 := by rw [e3, putB_length (by omega), l2]
  have l4 : L4.length = 104 := by rw [e4, putB_length (by omega), l3]
  have l5 : L5.length = 104 := by rw [e5, putB_length (by omega), l4]
  have l6 : L6.length = 104 := by rw [e6, putB_length (by omega), l5]
  rw [ex]
  refine ⟨by rw [putB_length (by omega), l6], fun q n hq => ?_, ?_, ?_, ?_, ?_, ?_, ?_, ?_⟩
  · rw [leN_put_out (by omega) (by omega), e6, leN_put_out (by omega) (by omega), e5, leN_put_out (by omega) (by omega), e4, leN_put_out (by omega) (by omega), e3, leN_put_out (by omega) (by omega), e2, leN_put_out (by omega) (by omega), e1, leN_put_out (by omega) (by omega)]
  · rw [leN_put_out (by omega) (by omega), e6, leN_put_out (by omega) (by omega), e5, leN_put_out (by omega) (by omega), e4, leN_put_out (by omega) (by omega), e3, leN_put_out (by omega) (by omega), e2, leN_put_out (by omega) (by omega), e1, leN_put_in (by omega) (by omega)]
    exact leN_hit0 _ _ (by decide)
  · rw [leN_put_out (by omega) (by omega), e6, leN_put_out (by omega) (by omega), e5, leN_put_out (by omega) (by omega), e4, leN_put_out (by omega) (by omega), e3, leN_put_out (by omega) (by omega), e2, leN_put_in (by omega) (by omega)]
    exact leN_hit0 _ _ (by decide)
  · rw [leN_put_out (by omega) (by omega), e6, leN_put_out (by omega) (by omega), e5, leN_put_out (by omega) (by omega), e4, leN_put_out (by omega) (by omega), e3, leN_put_in (by omega) (by omega)]
    exact leN_hit0 _ _ (by omega)
  · rw [leN_put_out (by omega) (by omega), e6, leN_put_out (by omega) (by omega), e5, leN_put_out (by omega) (by omega), e4, leN_put_in (by omega) (by omega)]
    exact leN_hit0 _ _ (by omega)
  · rw [leN_put_out (by omega) (by omega), e6, leN_put_out (by omega) (by omega), e5, leN_put_in (by omega) (by omega)]
    exact leN_hit0 _ _ (attrHash_lt _ _)
  · rw [cut_put_out (by omega) (by omega), e6, cut_put_in (by omega) (by omega)]
    rfl
  · rw [cut_put_in (by omega) (by omega), Nat.sub_self, cut_all rfl]
theorem zin0 {l : List UInt8} (h : l = putB (List.replicate 104 0) 0 (leB 4 3925999616)) : l.length = 104 ∧ leN l 0 4 = 3925999616 ∧ leN l 8 4 = 0 ∧ leN l 24 4 = 0 := by
  have hb : (leB 4 3925999616).length = 4 := leB_length ..
  have hr : (List.replicate 104 (0 : UInt8)).length = 104 := List.length_replicate ..
  subst h
  refine ⟨by rw [putB_length (by omega), hr], ?_, ?_, ?_⟩
  · rw [leN_put_in (by omega) (by omega)]
    exact leN_hit0 _ _ (by decide)
  · rw [leN_put_out (by omega) (by omega), leN_zero]
  · rw [leN_put_out (by omega) (by omega), leN_zero]
theorem xin_facts {dat : List UInt8} (hd : dat.length ≤ 136) : ∃ l, l.length = 104 ∧ leN l 0 4 = 3925999616 ∧ leN l 8 4 = 0 ∧ leN l 24 4 = 0 ∧ PxF l (dat.drop 60) (texl dat (xinB (List.replicate (dat.length - 60) 0))) := by
  have hz := zin0 rfl
  have hdl : (dat.drop 60).length = dat.length - 60 := List.length_drop ..
  by_cases h : 60 < dat.length
  · have hp := pxB_facts (v := List.replicate (dat.length - 60) 0) hz.1 (by rw [List.length_replicate]; omega)
    refine ⟨xinB (List.replicate (dat.length - 60) 0), hp.len, ?_, ?_, ?_, ?_⟩
    · have := hp.out 0 4 (by omega); exact this.trans hz.2.1
    · have := hp.out 8 4 (by omega); exact this.trans hz.2.2.1
    · have := hp.out 24 4 (by omega); exact this.trans hz.2.2.2
    · rw [show texl dat (xinB (List.replicate (dat.length - 60) 0)) = pxB (xinB (List.replicate (dat.length - 60) 0)) (dat.drop 60) from if_pos h]
      exact pxB_facts hp.len (by omega)
  · refine ⟨_, hz.1, hz.2.1, hz.2.2.1, hz.2.2.2, ?_⟩
    rw [show texl dat (xinB (List.replicate (dat.length - 60) 0)) = xinB (List.replicate (dat.length - 60) 0) from if_neg h, show dat.length - 60 = 0 by omega, List.replicate_zero, List.eq_nil_of_length_eq_zero (show (dat.drop 60).length = 0 by omega)]
    exact pxB_facts hz.1 (by decide)
section
variable {names rest : List (List UInt8)} {n st : Nat} {xs dl xl dat : List UInt8} {flags bc inc : Nat} {U O tab : List UInt8} {B k1 k2 : Nat} {blks1 blks2 : List (List DRec)} {cap bI eI : Nat} {frI : Nat × Nat} {RI : List Value} [RowC RI U]
theorem ImF.rdExt (I : ImF names rest dat.length 3 (padZ (List.replicate 8192 0 ++ dat) 12288) (ext1B 2 1) [] 786432 1 inc U O tab B k1 k2 blks1 blks2) (hn0 : 0 < dat.length) (hn : dat.length ≤ 4000) (hw : names.length ≤ 180) (hcap : (B + 3) * 4096 ≤ cap) (hcap2 : cap < 9223372036854775808) :
    FileRd RI cap bI eI frI B (ndF B 3 k1 k2 dat.length names.length 1 786432 false 1 (own1 (own1 (own1 (own0 B) 3 k1) (3 + k1) k2) 2 1)) dat := fun bV bO eO ino => by
  have hB := I.Be
  have hB2 := I.B2
  have L := I.laid
  have hit := L.itab
  have hx : texl (ext1B 2 1) [] = [] := if_neg (by rw [ext1B_length]; decide)
  have hm : leN U (B * 4096 + 2816 + 152) 4 ≠ 3925999616 := by
    have := I.x12 0 4 (by decide)
    rw [hx, List.nil_append, leN_zero] at this
    rw [show B * 4096 + 2816 + 152 = B * 4096 + 2816 + (152 + 0) from rfl, this]; decide
  have hE : Ext1 U (B * 4096 + 2816 + 40) 2 1 := ext1_facts (by decide) (by decide) fun q n hq => by rw [I.b12 q n hq, blkOf_60 (ext1B_length 2 1)]
  have hd : cut U (2 * 4096) dat.length = dat := by
    rw [I.data (by decide) (by omega), I.Oe, cut_pre (by rw [padZ_length, List.length_append, List.length_replicate]; show 2 * 4096 + dat.length ≤ max _ _; omega)]
    unfold padZ
    rw [List.append_assoc, cut_skip (List.length_replicate ..) (by decide), cut_pre (by omega), cut_all rfl]
  have hS := inode_ext_s (bV := bV) (bI := bI) (eI := eI) (frI := frI) (bO := bO) (eO := eO) (f := own1 (own1 (own0 B) 3 k1) (3 + k1) k2) (ino := ino) (k := 12) (it := B) (nb := B + 3) (pi := 16) (oi := B * 4096 + 2816) (by omega) I.i12 L.len hcap hcap2 (by omega) (by omega) (by decide) (by decide) hit (by omega) (by decide) (by omega) (by omega) (by decide) (by decide) (by decide)
    hE (by omega) (by decide) (by decide) (by omega) (by omega) rfl (fun j ha hb => by
      show (((decide (j < 2) || decide (B ≤ j)) || (decide (3 ≤ j) && decide (j < 3 + k1))) || (decide (3 + k1 ≤ j) && decide (j < 3 + k1 + k2))) = false
      rw [decide_eq_false (by omega), decide_eq_false (p := B ≤ j) (by omega), decide_eq_false (p := 3 ≤ j) (by omega), decide_eq_false (p := 3 + k1 ≤ j) (by omega)]; rfl) (.inl (by decide)) (by decide) (by decide) hm
  rw [hd] at hS
  refine hS.convH fun b _ => ⟨((Sl b 0 dat.length dat.length, .slice none 0 0), [(b, BO dat 5 (0, 0))]), ⟨rfl, .inr ⟨b, dat.length, 5, (0, 0), SL.bc dat, rfl, List.mem_singleton.2 rfl, RowB.all _, Nat.le_refl _, by omega⟩⟩, rfl, fun g w' hh => hh.re⟩
theorem ImF.rdNone (I : ImF names rest 0 2 (List.replicate 8192 0) [] [] 262144 0 inc U O tab B k1 k2 blks1 blks2) (hw : names.length ≤ 180) (hcap : (B + 3) * 4096 ≤ cap) (hcap2 : cap < 9223372036854775808) :
    FileRd RI cap bI eI frI B (ndF B 2 k1 k2 0 names.length 0 262144 false 0 (own1 (own1 (own0 B) 2 k1) (2 + k1) k2)) [] := fun bV bO eO ino => by
  have hB := I.Be
  have hB2 := I.B2
  have L := I.laid
  have hit := L.itab
  have hm : leN U (B * 4096 + 2816 + 152) 4 ≠ 3925999616 := by
    have := I.x12 0 4 (by decide)
    rw [show texl [] [] = [] from rfl, List.nil_append, leN_zero] at this
    rw [show B * 4096 + 2816 + 152 = B * 4096 + 2816 + (152 + 0) from rfl, this]; decide
  have hS := inode_none_q (bV := bV) (bI := bI) (eI := eI) (frI := frI) (own := Sl bO 0 (B + 3) (B + 3)) (ino := ino) (k := 12) (it := B) (nb := B + 3) (pi := 16) (oi := B * 4096 + 2816) (by omega) I.i12 L.len hcap hcap2 (by omega) (by omega) (by decide) (by decide) hit (by omega) (by decide) (by omega) (by omega) (by decide) (by decide) (by decide)
    rfl rfl (by decide) (by decide) (by decide) hm
  refine (hS.lift [[(bO, BO (ownL (B + 3) (own1 (own1 (own0 B) 2 k1) (2 + k1) k2)) eO (0, 0))]]).convH fun _ _ => ⟨((.slice none 0 0, .slice none 0 0), []), ⟨rfl, .inl ⟨rfl, rfl⟩⟩, rfl, fun g w' hh => hh.perm (by simp)⟩
theorem ImF.rdInl (I : ImF names rest dat.length 2 (List.replicate 8192 0) dat (xinB (List.replicate (dat.length - 60) 0)) 268697600 0 inc U O tab B k1 k2 blks1 blks2) (hn : dat.length ≤ 136) (hw : names.length ≤ 180) (hcap : (B + 3) * 4096 ≤ cap) (hcap2 : cap < 9223372036854775808) :
    FileRd RI cap bI eI frI B (ndF B 2 k1 k2 dat.length names.length 0 268697600 true 0 (own1 (own1 (own0 B) 2 k1) (2 + k1) k2)) dat := fun bV bO eO ino => by
  have hB := I.Be
  have hB2 := I.B2
  have L := I.laid
  have hit := L.itab
  obtain ⟨l, hl, hl0, hl8, hl24, F⟩ := xin_facts hn
  have hdl : (dat.drop 60).length = dat.length - 60 := List.length_drop ..
  have hu1 := up4_ge (dat.drop 60).length
  have hu2 : up4 (dat.drop 60).length ≤ 76 := by unfold up4; omega
  have hu3 := up4_mod (dat.drop 60).length
  have hx : ∀ q n, q + n ≤ 104 → leN U (B * 4096 + 2816 + (152 + q)) n = leN (texl dat (xinB (List.replicate (dat.length - 60) 0))) q n := fun q n hq => by
    have := I.x12 q n hq
    rw [F.len, Nat.sub_self, List.replicate_zero, List.append_nil] at this
    exact this
  have hy : ∀ q n, q + n ≤ 104 → cut U (B * 4096 + 2816 + (152 + q)) n = cut (texl dat (xinB (List.replicate (dat.length - 60) 0))) q n := fun q n hq => by
    have := I.y12 q n hq
    rw [F.len, Nat.sub_self, List.replicate_zero, List.append_nil] at this
    exact this
  have hm : leN U (B * 4096 + 2816 + 152) 4 = 3925999616 := by
    have := hx 0 4 (by decide)
    exact this.trans ((F.out 0 4 (by omega)).trans hl0)
  have hA : At1 U (B * 4096 + 2816 + 156) (100 - up4 (dat.drop 60).length) (dat.drop 60) := by
    have h1 : leN U (B * 4096 + 2816 + 156) 1 = 4 := (hx 4 1 (by decide)).trans F.nl
    refine ⟨fun e => ?_, h1, (hx 5 1 (by decide)).trans F.idx, (hx 6 2 (by decide)).trans F.pl, (hx 8 4 (by decide)).trans ((F.out 8 4 (by omega)).trans hl8), (hx 12 4 (by decide)).trans F.sz, (hx 16 4 (by decide)).trans F.hs, (hy 20 4 (by decide)).trans F.nm, by omega, ?_, fun _ => by omega, by omega, (hx 24 4 (by decide)).trans ((F.out 24 4 (by omega)).trans hl24)⟩
    · rw [leN_one e] at h1
      exact absurd h1 (by decide)
    · rw [show B * 4096 + 2816 + 156 + (100 - up4 (dat.drop 60).length) = B * 4096 + 2816 + (152 + (104 - up4 (dat.drop 60).length)) by omega, hy _ _ (by omega), F.vl]
  have hS := inode_inl_s (bV := bV) (bI := bI) (eI := eI) (frI := frI) (own := Sl bO 0 (B + 3) (B + 3)) (ino := ino) (k := 12) (it := B) (nb := B + 3) (pi := 16) (oi := B * 4096 + 2816) (by omega) I.i12 L.len hcap hcap2 (by omega) (by omega) (by decide) (by decide) hit (by omega) (by decide) (by omega) (by omega) (by decide) (by decide) (by decide)
    rfl hA (by omega) (by omega) (.inl (by decide)) (by decide) hm
  have hc : (cut U (B * 4096 + 2816 + 40) 60 ++ dat.drop 60).take dat.length = dat := by
    rw [I.c12]
    have hb := blkOf_length dat
    unfold blkOf at hb ⊢
    unfold putB at hb ⊢
    rw [List.take_zero, List.nil_append, Nat.zero_add] at hb ⊢
    by_cases h : 60 ≤ dat.length
    · rw [List.drop_of_length_le (l := List.replicate 60 (0 : UInt8)) (by rw [List.length_replicate, List.length_take]; omega), List.append_nil, List.take_append_drop, List.take_length]
    · rw [List.take_of_length_le (l := dat) (by omega), List.append_assoc, List.take_left]
  rw [hc] at hS
  refine (hS.frame (Ro := [[(bV, VO ino (B + 3) (Sl bI 0 ((B + 3) * 4096) cap) 1 16 (Sl bO 0 (B + 3) (B + 3)))], [(bI, CI RI eI frI)]]) (Hp' := [[(bO, BO (ownL (B + 3) (own1 (own1 (own0 B) 2 k1) (2 + k1) k2)) eO (0, 0))]]) (F := [[(bO, BO (ownL (B + 3) (own1 (own1 (own0 B) 2 k1) (2 + k1) k2)) eO (0, 0))]]) .nil ⟨fun p hp => .inr hp⟩).convH fun r hr =>
    ⟨((Sl r.1 0 dat.length r.2.1, .slice none 0 0), [(r.1, .cells r.2.2.toArray 5 (0, 0))]), ⟨rfl, .inr ⟨r.1, r.2.1, 5, (0, 0), r.2.2, rfl, List.mem_singleton.2 rfl, hr.1, hr.2.1, by omega⟩⟩, rfl, fun g w' hh => hh.re⟩
end
end SL
end Go.Proofs.YtlmiekcmjpnobaaGreatDoor
namespace Go.Proofs.YtlmiekcmjpnobaaGreatDoor
open Go
namespace SL
set_option maxRecDepth 20000

/-- The inodes that were read, for one file under some names. -/
structure DnAt (names rest : List (List UInt8)) (dat : List UInt8) (z0 z1 z2 : NdV) (φ : RNd → Value → Value → Chunk → Prop) (CC : Chunk) : Prop where
  perm : rest.Perm names
  e0 : esOf z0 = entR rest
  e1 : esOf z1 = entF
  e2 : esOf z2 = []
  n0 : z0.1.x.num = 2
  n1 : z1.1.x.num = 11
  n2 : z2.1.x.num = 12
  m0 : z0.1.x.mode = 16877
  m1 : z1.1.x.mode = 16832
  m2 : z2.1.x.mode = 32768
  dat : RdF CC z2.2.1 dat
  fin : ∀ z ∈ [z0, z1, z2], NdFin φ CC z
  xat : ∀ z ∈ [z0, z1, z2], z.2.2.1 = .slice none 0 0
  one : ∀ z ∈ [z0, z1, z2], ones [z.1.x.t0, z.1.x.t1, z.1.x.t2, z.1.x.t3, z.1.x.t4, z.1.x.t5, z.1.x.t6, z.1.x.t7] = true
def DnOk (names : List (List UInt8)) (dat : List UInt8) (dn : List NdV) (CC : Chunk) : Prop := ∃ z0 z1 z2 rest φ, dn = [z0, z1, z2] ∧ DnAt names rest dat z0 z1 z2 φ CC
/-- An image that Read takes. -/
def ImgR (names : List (List UInt8)) (dat U : List UInt8) : Prop := ∃ B, U.length = (B + 3) * 4096 ∧ B ≤ 3000 ∧ ∀ (RI : List Value) [RowC RI U] (bI eI cap : Nat) (frI : Nat × Nat), (B + 3) * 4096 ≤ cap → cap < 9223372036854775808 →
  Spec Tryz.prog 26 [Sl bI 0 ((B + 3) * 4096) cap] [[(bI, CI RI eI frI)]] []
    (fun r : (Nat × Nat) × List NdV × Value × Chunk × Chunk => DnOk names dat r.2.1 r.2.2.2.2 ∧ Own 81 23 r.2.2.1 r.2.1.length (r.2.1.flatMap fun z => z.x.cells) r.2.2.2.1) (fun r => Pt r.1.1)
    (fun r => [[(r.1.1, VO r.2.2.1 (B + 3) (Sl bI 0 ((B + 3) * 4096) cap) 1 (1 * 16) (Sl r.1.2 0 (B + 3) (B + 3)))], r.2.2.2.1, r.2.2.2.2])
section
variable {names rest : List (List UInt8)} {n st : Nat} {xs dl xl dat : List UInt8} {flags bc inc : Nat} {U O tab : List UInt8} {B k1 k2 : Nat} {blks1 blks2 : List (List DRec)} {il : Bool} {bk : Nat} {f3 : Nat → Bool}
theorem map3 {α β : Type} {f : α → β} {l : List α} {a b c : β} (h : l.map f = [a, b, c]) : ∃ x y z, l = [x, y, z] ∧ f x = a ∧ f y = b ∧ f z = c := by
  match l, h with
  | [x, y, z], h =>
    simp only [List.map_cons, List.map_nil, List.cons.injEq, and_true] at h
    exact ⟨x, y, z, rfl, h.1, h.2.1, h.2.2⟩
theorem dnOk_of (I : ImF names rest n st xs dl xl flags bc inc U O tab B k1 k2 blks1 blks2) {dn : List NdV} {CC : Chunk} (h : dn.map (·.1) = [ndR B st k1 blks1, ndL B st k1 k2 blks2, ndF B st k1 k2 n names.length bc flags il bk f3]) (hf : ∀ z ∈ dn, NdFin (phiU (blkB blks1) (blkB blks2) dat) CC z) : DnOk names dat dn CC := by
  obtain ⟨z0, z1, z2, rfl, h0, h1, h2⟩ := map3 h
  have hx : ∀ z ∈ [z0, z1, z2], z.2.2.1 = .slice none 0 0 := fun z hz => by
    obtain ⟨⟨C, hC, _⟩, _⟩ := hf z hz
    exact hC.1
  refine ⟨z0, z1, z2, rest, _, rfl, I.perm, ?_, ?_, ?_, by rw [h0], by rw [h1], by rw [h2], by rw [h0], by rw [h1], by rw [h2], ?_, hf, hx, fun z hz => ?_⟩
  · unfold esOf; rw [h0, if_pos (by exact kR)]; exact I.ent1
  · unfold esOf; rw [h1, if_pos (by exact kL)]; exact I.ent2
  · unfold esOf; rw [h2, if_neg (by intro h; exact absurd (kF.symm.trans (by exact h)) (by decide))]
  · obtain ⟨⟨C, hC, hs⟩, _⟩ := hf z2 (by simp)
    have h3 := hC.2
    rw [h2] at h3
    exact RdF.mono (by exact h3) hs
  · simp only [List.mem_cons, List.not_mem_nil, or_false] at hz
    rcases hz with rfl | rfl | rfl
    · rw [h0]; rfl
    · rw [h1]; rfl
    · rw [h2]; rfl
variable (hcr : CrowdP names) (hne : names ≠ []) (hinc : inc = 578 ∨ inc = 33346)
include hcr hne hinc
theorem imgR_ext (h : ImgP names dat.length 3 (padZ (List.replicate 8192 0 ++ dat) 12288) (ext1B 2 1) [] 786432 1 inc U) (hn0 : 0 < dat.length) (hn : dat.length ≤ 4000) : ImgR names dat U := by
  have hxs : (padZ (List.replicate 8192 0 ++ dat) 12288).length = 3 * 4096 := by
    rw [padZ_length, List.length_append, List.length_replicate]
    show max _ _ = _
    omega
  obtain ⟨rest, O, tab, B, k1, k2, blks1, blks2, I⟩ := h.facts hcr hxs ⟨by decide, by decide⟩ hn (by rw [show texl (ext1B 2 1) [] = [] from if_neg (by rw [ext1B_length]; decide)]; decide) (by decide) (by decide)
  have hB := I.Be
  refine ⟨B, I.laid.len, I.B2, fun RI _ bI eI cap frI hcap hcap2 => ?_⟩
  refine (I.read_s hcr hne hinc (by decide) hxs hcap hcap2 (fun i hi => ?_) (I.rdExt hn0 hn hcr.1 hcap hcap2)).imp fun r hr => ⟨dnOk_of I hr.1 hr.2.1, hr.2.2⟩
  simp only [own1, own0, Bool.or_eq_true, Bool.and_eq_true, decide_eq_true_eq]
  omega
theorem imgR_none (h : ImgP names 0 2 (List.replicate 8192 0) [] [] 262144 0 inc U) : ImgR names [] U := by
  have hxs : (List.replicate 8192 (0 : UInt8)).length = 2 * 4096 := List.length_replicate ..
  obtain ⟨rest, O, tab, B, k1, k2, blks1, blks2, I⟩ := h.facts hcr hxs ⟨by decide, by decide⟩ (by decide) (by decide) (by decide) (by decide)
  have hB := I.Be
  refine ⟨B, I.laid.len, I.B2, fun RI _ bI eI cap frI hcap hcap2 => ?_⟩
  refine (I.read_s hcr hne hinc (by decide) hxs hcap hcap2 (fun i hi => ?_) (I.rdNone hcr.1 hcap hcap2)).imp fun r hr => ⟨dnOk_of I hr.1 hr.2.1, hr.2.2⟩
  simp only [own1, own0, Bool.or_eq_true, Bool.and_eq_true, decide_eq_true_eq]
  omega
theorem imgR_inl (h : ImgP names dat.length 2 (List.replicate 8192 0) dat (xinB (List.replicate (dat.length - 60) 0)) 268697600 0 inc U) (hn : dat.length ≤ 136) : ImgR names dat U := by
  have hxs : (List.replicate 8192 (0 : UInt8)).length = 2 * 4096 := List.length_replicate ..
  obtain ⟨_, _, _, _, _, F⟩ := xin_facts hn
  obtain ⟨rest, O, tab, B, k1, k2, blks1, blks2, I⟩ := h.facts hcr hxs ⟨by decide, by decide⟩ (by omega) (by rw [F.len]; decide) (by decide) (by decide)
  have hB := I.Be
  refine ⟨B, I.laid.len, I.B2, fun RI _ bI eI cap frI hcap hcap2 => ?_⟩
  refine (I.read_s hcr hne hinc (by decide) hxs hcap hcap2 (fun i hi => ?_) (I.rdInl hn hcr.1 hcap hcap2)).imp fun r hr => ⟨dnOk_of I hr.1 hr.2.1, hr.2.2⟩
  simp only [own1, own0, Bool.or_eq_true, Bool.and_eq_true, decide_eq_true_eq]
  omega
end
theorem image_s {bo co eG : Nat} {frG : Nat × Nat} {ops : List OpV} {spo : List Value} {DC : Chunk} {n0 : List UInt8} {more : List (List UInt8)} {dat : List UInt8} {inl : Bool}
    (hops : ops.map (·.1) = mkOps n0 more dat) (hrd : ∀ x ∈ ops, RdB DC x.2 x.1.dat) (hcr : CrowdP (n0 :: more)) (hdl : dat.length ≤ 4000) :
    Spec Tryz.prog 24 [.bool inl, N .i64 0, Sl bo 0 ops.length co] [[(bo, .cells ((ops.flatMap OpV.cells) ++ spo).toArray 48 (0, 0))], DC, [(0, GPO eG frG)]] []
      (fun r : (Value × List UInt8) × (Value × Chunk) => Own 5 1 r.2.1 r.1.2.length (SL.bc r.1.2) r.2.2 ∧ ImgR (n0 :: more) dat r.1.2) (fun r => .tuple #[r.1.1, N .i64 0, r.2.1]) (fun r => [r.2.2]) := by
  have hK := hcr.2 0 n0 rfl
  have hne : n0 :: more ≠ [] := List.cons_ne_nil _ _
  cases inl with
  | false =>
    by_cases h0 : dat = []
    · subst h0
      exact (imageF_s (way_zero hK) hops hrd hcr hdl).imp fun r hr => ⟨hr.1, imgR_none hcr hne (.inl rfl) hr.2⟩
    · exact (imageF_s (way_ext hK (List.length_pos_iff.2 h0) (by simp) hdl) hops hrd hcr hdl).imp fun r hr => ⟨hr.1, imgR_ext hcr hne (.inl rfl) hr.2 (List.length_pos_iff.2 h0) hdl⟩
  | true =>
    by_cases h1 : dat.length ≤ 136
    · exact (imageT_s (way_inl hK h1) hops hrd hcr hdl).imp fun r hr => ⟨hr.1, imgR_inl hcr hne (.inr rfl) hr.2 h1⟩
    · exact (imageT_s (way_ext hK (by omega) (fun h => h1 h.1) hdl) hops hrd hcr hdl).imp fun r hr => ⟨hr.1, imgR_ext hcr hne (.inr rfl) hr.2 (by omega) hdl⟩
end SL
end Go.Proofs.YtlmiekcmjpnobaaGreatDoor
namespace Go.Proofs.YtlmiekcmjpnobaaGreatDoor
open Go
namespace SL
set_option maxRecDepth 20000

set_option synthInstance.maxHeartbeats 400000
set_option synthInstance.maxSize 100000
set_option maxHeartbeats 8000000
theorem RowC.app (U : List UInt8) (sp : List Value) : RowC (SL.bc U ++ sp) U := ⟨by
  have := seg_bcl (X := U) (sp := sp) rfl
  rw [Nat.mul_one] at this
  exact this⟩
/-- A volume that was read from a written image. -/
structure VolR where
  bV : Nat
  bO : Nat
  bi : Nat
  ci : Nat
  nb : Nat
  img : Value
  dn : List NdV
  spi : List Value
  CC : Chunk
abbrev VolR.H (r : VolR) : Heap := [[(r.bV, VO (Sl r.bi 0 3 r.ci) r.nb r.img 1 16 (Sl r.bO 0 r.nb r.nb))], [(r.bi, .cells ((r.dn.flatMap fun z => z.x.cells) ++ r.spi).toArray 81 (0, 0))], r.CC]
theorem DnOk.len {names : List (List UInt8)} {dat : List UInt8} {dn : List NdV} {CC : Chunk} (h : DnOk names dat dn CC) : dn.length = 3 := by
  obtain ⟨z0, z1, z2, rest, φ, rfl, _⟩ := h
  rfl
theorem mkOps_dat {n0 : List UInt8} {more : List (List UInt8)} {dat : List UInt8} {o : OpR} (h : o ∈ mkOps n0 more dat) (hdl : dat.length ≤ 4000) : o.dat.length < 1000000 := by
  rcases List.mem_cons.1 h with rfl | h
  · show 0 < 1000000; decide
  rcases List.mem_cons.1 h with rfl | h
  · show dat.length < 1000000; omega
  have h3 : ∀ (l : List (List UInt8)) (o : OpR), o ∈ linkOps l → o.dat = [] := fun l => by
    induction l with
    | nil => intro o h; exact nomatch h
    | cons a l ih =>
      intro o h
      cases l with
      | nil => exact nomatch h
      | cons b r =>
        rcases List.mem_cons.1 h with rfl | h
        · rfl
        · exact ih o h
  rw [h3 _ o h]
  decide
theorem imageRead_s {bo co eG : Nat} {frG : Nat × Nat} {ops : List OpV} {spo : List Value} {DC : Chunk} {n0 : List UInt8} {more : List (List UInt8)} {dat : List UInt8} {inl : Bool}
    (hops : ops.map (·.1) = mkOps n0 more dat) (hrd : ∀ x ∈ ops, RdB DC x.2 x.1.dat) (hcr : CrowdP (n0 :: more)) (hdl : dat.length ≤ 4000) :
    Spec Tryz.prog 10 [.bool inl, N .i64 0, Sl bo 0 ops.length co] [[(bo, .cells ((ops.flatMap OpV.cells) ++ spo).toArray 48 (0, 0))], DC, [(0, GPO eG frG)]] []
      (fun r : VolR => DnOk (n0 :: more) dat r.dn r.CC) (fun r => .tuple #[Pt r.bV, .bool true]) (fun r => r.H) := by
  refine Spec.of Tryz.func10 rfl Tryz.ntmps10 (by simp) fun w => ?_
  have hol : ops.length = more.length + 2 := by have := congrArg List.length hops; rw [List.length_map] at this; rw [this]; show (linkOps (n0 :: more)).length + 1 + 1 = _; rw [linkOps_len]
  have hml := hcr.1
  rw [List.length_cons] at hml
  have hdd : ∀ x ∈ ops, RdB DC x.2 x.1.dat ∧ x.1.dat.length < 1000000 := fun x hx => ⟨hrd x hx, by
    have hm : x.1 ∈ mkOps n0 more dat := by rw [← hops]; exact List.mem_map_of_mem hx
    exact mkOps_dat hm hdl⟩
  refine T.sr <| Rl.q (Qt.as (v := .pointer none)) <| Rl.q (Qt.as (v := .bool false)) <| Rl.nilK <| ?_
  refine T.sr <| Rl.q Qt.mv <| Rl.q Qt.mv <| Rl.q Qt.mv <| Rl.e (Ef.call (S := dupOps_s (spo := spo) (by omega) hdd)) fun z hz => ?_
  obtain ⟨hz1, hz2, hz3⟩ := hz
  have hzl : z.1.length = ops.length := by have := congrArg List.length hz1; simpa using this
  obtain ⟨bo2, co2, spo2, hov, _, _, hoE, _⟩ := hz3.some (by omega)
  rw [hov, hoE]
  refine Rl.e (Ef.call (S := image_s (bo := bo2) (co := co2) (spo := spo2) (ops := z.1) (DC := z.2.2.2) (eG := eG) (frG := frG) (by rw [hz1]; exact hops) hz2 hcr hdl)) fun u hu => Rl.q Qt.mv <| Rl.q Qt.ex <| Rl.q Qt.ex <| Rl.q Qt.ex <| Rl.q Qt.as <| Rl.q Qt.as <| Rl.q Qt.as <| ?_
  refine Rl.nilK <| ?_
  refine T.seq ?_
  refine T.sr <| Rl.q Qt.mv <| Rl.q (Qt.neF (a := 0) (b := 0)) <| Rl.nilK <| ?_
  refine T.condF ?_
  refine T.skip <| Ex.K <| ?_
  obtain ⟨hu1, B, hUl, hB, hRd⟩ := hu
  obtain ⟨bu, cu, spu, huv, hcu1, hcu2, huE, _⟩ := hu1.some (by omega)
  rw [huv, huE, hUl]
  rw [hUl] at hcu1
  haveI := RowC.app u.1.2 spu
  refine T.sr <| Rl.q Qt.mv <| Rl.e (Ef.call (S := hRd (SL.bc u.1.2 ++ spu) bu 5 cu (0, 0) (by omega) (by simp only [maxLen] at hcu2; omega))) fun q hq => Rl.q Qt.as <| Rl.nilK <| ?_
  obtain ⟨hq1, hq2⟩ := hq
  have hql := hq1.len
  obtain ⟨bi, ci, spi, hiv, _, _, hiE, _⟩ := hq2.some (by omega)
  rw [hiv, hiE, hql]
  refine T.sdr [] ?_ mixed
  refine Dr.qs [0, 1, 2, 3, 4, 5, 6, 7, 8] [] ?_
  refine Dq.q Qt.mv <| Dq.q Qt.mv <| Dq.q Qt.nc <| Dq.q Qt.fa <| Dq.q Qt.ld <| Dq.q Qt.len <| Dq.q (Qt.eqT (a := 0) (b := 0)) <| Dq.q Qt.as <| ?_
  refine Dq.q Qt.as <| Dq.nil <| Dr.nilK <| ?_
  refine T.ret <| Ex.ret2 (.inl rfl) rfl rfl ?_ rfl
  exact fun w h => ⟨⟨q.1.1, q.1.2, bi, ci, B + 3, Sl bu 0 ((B + 3) * 4096) cu, q.2.1, spi, q.2.2.2.2⟩, hq1, rfl, h.re⟩
end SL
end Go.Proofs.YtlmiekcmjpnobaaGreatDoor
namespace Go.Proofs.YtlmiekcmjpnobaaGreatDoor
open Go
namespace SL
set_option maxRecDepth 20000

/-- The tree of a file under some names. -/
structure TrAt (names : List (List UInt8)) (dat : List UInt8) (plc : Nat → Nat) (t0 t1 t2 : TnV) (NC CC : Chunk) : Prop where
  fin : ∀ t ∈ [t0, t1, t2], TnFin NC plc t
  one : ∀ t ∈ [t0, t1, t2], ones (niOf t.1 t.2.1 t.2.2).cells = true
  m0 : t0.1.1.x.mode = 16877
  m1 : t1.1.1.x.mode = 16832
  m2 : t2.1.1.x.mode = 32768
  srt : SortD (dlN plc t0.1)
  mem : ∀ nm ∈ names, (nm, 2) ∈ dlN plc t0.1
  kids : ((dlN plc t0.1).map (·.2)).Perm (1 :: List.replicate names.length 2)
  d1 : dlN plc t1.1 = []
  d2 : dlN plc t2.1 = []
  dat : RdF CC t2.1.2.1 dat
structure TreeR where
  bt : Nat
  ct : Nat
  t0 : TnV
  t1 : TnV
  t2 : TnV
  spt : List Value
  NC : Chunk
abbrev TreeR.ts (y : TreeR) : List TnV := [y.t0, y.t1, y.t2]
abbrev TreeR.H (y : TreeR) : Heap := [[(y.bt, TRow y.ts y.spt)], y.NC]
theorem plc11 : plcS [2, 11, 12] 11 = 1 := by decide
theorem plc12 : plcS [2, 11, 12] 12 = 2 := by decide
theorem dls_dot {plc : Nat → Nat} {acc : Dl} {e : Ent} (h : dotE e) : dlStep plc acc e = acc := if_pos h
theorem dl_root {names rest : List (List UInt8)} (hcr : CrowdP names) (hp : rest.Perm names) : SortD ((entR rest).foldl (dlStep (plcS [2, 11, 12])) []) ∧ ((entR rest).foldl (dlStep (plcS [2, 11, 12])) []).Perm ((lfN, 1) :: rest.map fun nm => (nm, 2)) := by
  have hnm := nm_dots hcr hp
  rw [List.foldl_cons, dls_dot (.inl rfl), List.foldl_cons, dls_dot (.inr rfl)]
  obtain ⟨h1, h2⟩ := dl_run (plc := plcS [2, 11, 12]) (es := (lfN, 11, 2) :: rest.map fun nm => (nm, 12, 1)) (acc := []) List.Pairwise.nil (fun e he => by
    rcases List.mem_cons.1 he with rfl | he
    · exact lf_nd
    obtain ⟨nm, hm, rfl⟩ := List.mem_map.1 he
    rintro (h | h)
    · exact (hnm nm hm).1 h
    · exact (hnm nm hm).2.1 h) (by
    rw [List.map_cons, List.map_map, show ((fun (x : Ent) => x.1) ∘ fun nm => (nm, 12, 1)) = (id : List UInt8 → List UInt8) from rfl, List.map_id]
    exact List.nodup_cons.2 ⟨fun h => (hnm _ h).2.2.1 rfl, hp.nodup_iff.2 (nm_nodup hcr)⟩) (fun e he h => nomatch h)
  refine ⟨h1, h2.trans ?_⟩
  rw [List.append_nil]
  refine (List.reverse_perm _).trans ?_
  rw [List.map_cons, List.map_map, plc11, show ((fun (e : Ent) => (e.1, plcS [2, 11, 12] e.2.1)) ∘ fun nm => (nm, 12, 1)) = fun nm : List UInt8 => (nm, 2) from funext fun nm => by show (nm, plcS [2, 11, 12] 12) = _; rw [plc12]]
theorem NI.cells_ones {x : NI} (h : NIok x) (hn : SL.one x.names = true) (hk : SL.one x.kids = true) : ones x.cells = true := by
  obtain ⟨h1, h2, h3⟩ := h
  simp only [ones, List.all_cons, List.all_nil, Bool.and_true, Bool.and_eq_true] at h1 ⊢
  obtain ⟨a0, a1, a2, a3, a4, a5, a6, a7⟩ := h1
  exact ⟨rfl, rfl, rfl, a0, a1, a2, a3, a4, a5, a6, a7, rfl, rfl, h2, rfl, h3, hn, hk⟩
theorem trAt_of {names : List (List UInt8)} {dat : List UInt8} {dn : List NdV} {CC NC : Chunk} (hcr : CrowdP names) (h : DnOk names dat dn CC) {ts : List TnV} (hm : ts.map (·.1) = dn) (hf : ∀ t ∈ ts, TnFin NC (plcS (numsN dn)) t) :
    ∃ t0 t1 t2, ts = [t0, t1, t2] ∧ TrAt names dat (plcS [2, 11, 12]) t0 t1 t2 NC CC := by
  obtain ⟨z0, z1, z2, rest, φ, rfl, D⟩ := h
  obtain ⟨t0, t1, t2, rfl, rfl, rfl, rfl⟩ := map3 hm
  have hn : numsN [t0.1, t1.1, t2.1] = [2, 11, 12] := by
    show [t0.1.1.x.num, t1.1.1.x.num, t2.1.1.x.num] = _
    rw [D.n0, D.n1, D.n2]
  rw [hn] at hf
  obtain ⟨h1, h2⟩ := dl_root hcr D.perm
  have e0 : dlN (plcS [2, 11, 12]) t0.1 = (entR rest).foldl (dlStep (plcS [2, 11, 12])) [] := by unfold dlN; rw [D.e0]
  refine ⟨t0, t1, t2, rfl, hf, fun t ht => ?_, D.m0, D.m1, D.m2, by rw [e0]; exact h1, fun nm hnm => ?_, ?_, ?_, ?_, D.dat⟩
  · have hz : t.1 ∈ [t0.1, t1.1, t2.1] := by
      simp only [List.mem_cons, List.not_mem_nil, or_false] at ht ⊢
      rcases ht with rfl | rfl | rfl <;> simp
    have ho := D.one _ hz
    have hc : SL.one t.1.2.1 = true := (D.fin _ hz).2.1
    have hT := hf t ht
    exact NI.cells_ones (niOf_ok (z := t.1) (nv := t.2.1) (kv := t.2.2) ho hc) hT.1.one hT.2.one
  · rw [e0]
    exact h2.mem_iff.2 (List.mem_cons_of_mem _ (List.mem_map.2 ⟨nm, D.perm.mem_iff.2 hnm, rfl⟩))
  · rw [e0]
    refine (h2.map _).trans ?_
    rw [List.map_cons, List.map_map, show ((fun (x : List UInt8 × Nat) => x.2) ∘ fun nm : List UInt8 => (nm, 2)) = fun _ => 2 from rfl, ← D.perm.length_eq, List.map_const']
  · unfold dlN
    rw [D.e1, List.foldl_cons, dls_dot (.inl rfl), List.foldl_cons, dls_dot (.inr rfl)]
    rfl
  · unfold dlN
    rw [D.e2]
    rfl
theorem treeU_s {names : List (List UInt8)} {dat : List UInt8} {r : VolR} (hcr : CrowdP names) (h : DnOk names dat r.dn r.CC) :
    Spec Tryz.prog 11 [Pt r.bV] r.H [] (fun y : TreeR => TrAt names dat (plcS [2, 11, 12]) y.t0 y.t1 y.t2 y.NC r.CC) (fun y => .agg [Sl y.bt 0 3 y.ct].toArray) (fun y => y.H) := by
  have hl := h.len
  have hc := hcr.1
  have hS : Spec Tryz.prog 11 [Pt r.bV] [[(r.bV, VO (Sl r.bi 0 r.dn.length r.ci) r.nb r.img 1 16 (Sl r.bO 0 r.nb r.nb))], [(r.bi, .cells ((r.dn.flatMap fun z => z.x.cells) ++ r.spi).toArray 81 (0, 0))], r.CC] []
      (fun r' : List TnV × Value × Chunk × Chunk => r'.1.map (·.1) = r.dn ∧ (∀ t ∈ r'.1, TnFin r'.2.2.2 (plcS (numsN r.dn)) t) ∧ Own 59 18 r'.2.1 r'.1.length (r'.1.flatMap fun t => (niOf t.1 t.2.1 t.2.2).cells) r'.2.2.1) (fun r' => .agg [r'.2.1].toArray) (fun r' => [r'.2.2.1, r'.2.2.2]) := by
    have h' := h
    obtain ⟨z0, z1, z2, rest, φ, hd, D⟩ := h'
    rw [hd]
    have hnm := nm_dots hcr D.perm
    have hrl : rest.length = names.length := D.perm.length_eq
    refine tree_s (φ := φ) (by decide) (by show 3 < 1000000; decide) D.fin (fun z hz => ?_) (fun z hz => ?_)
    · refine ⟨?_, ?_, ?_, D.xat z hz, D.one z hz⟩
      all_goals
        simp only [List.mem_cons, List.not_mem_nil, or_false] at hz
        rcases hz with rfl | rfl | rfl
      · rw [D.n0]; decide
      · rw [D.n1]; decide
      · rw [D.n2]; decide
      · rw [D.m0]; decide
      · rw [D.m1]; decide
      · rw [D.m2]; decide
      · rw [D.m0]; decide
      · rw [D.m1]; decide
      · rw [D.m2]; decide
    · simp only [List.mem_cons, List.not_mem_nil, or_false] at hz
      rcases hz with rfl | rfl | rfl
      · rw [D.e0]
        refine ⟨by simp only [List.length_cons, List.length_map]; omega, fun e he => ?_⟩
        rcases List.mem_cons.1 he with rfl | he
        · show 2 < 17; decide
        rcases List.mem_cons.1 he with rfl | he
        · show 2 < 17; decide
        rcases List.mem_cons.1 he with rfl | he
        · show 11 < 17; decide
        obtain ⟨nm, hm, rfl⟩ := List.mem_map.1 he
        show 12 < 17; decide
      · rw [D.e1]
        exact ⟨by decide, fun e he => by
          rcases List.mem_cons.1 he with rfl | he
          · show 11 < 17; decide
          rcases List.mem_cons.1 he with rfl | he
          · show 2 < 17; decide
          exact nomatch he⟩
      · rw [D.e2]
        exact ⟨by decide, fun e he => nomatch he⟩
  rw [hl] at hS
  refine hS.convH fun y hy => ?_
  obtain ⟨ts, v, E, NC⟩ := y
  obtain ⟨h1, h2, h3⟩ := hy
  obtain ⟨t0, t1, t2, rfl, hT⟩ := trAt_of hcr h h1 h2
  obtain ⟨bt, ct, spt, hv, _, _, hE, _⟩ := h3.some (by show 0 < 3; decide)
  refine ⟨⟨bt, ct, t0, t1, t2, spt, NC⟩, hT, congrArg (fun q => Value.agg [q].toArray) (show v = Sl bt 0 3 ct from hv), fun g w' hh => ?_⟩
  have hE2 : E = [(bt, TRow [t0, t1, t2] spt)] := hE
  have hh2 : Hs g _ w' [E, NC] := hh
  rw [hE2] at hh2
  exact hh2
section
variable {names : List (List UInt8)} {dat : List UInt8} {plc : Nat → Nat} {t0 t1 t2 : TnV} {NC CC : Chunk} (T : TrAt names dat plc t0 t1 t2 NC CC)
include T
theorem TrAt.dlen : (dlN plc t0.1).length = names.length + 1 := by
  have := T.kids.length_eq
  rw [List.length_map, List.length_cons, List.length_replicate] at this
  exact this
theorem TrAt.links : upd (lkI plc [t0, t1, t2] 3) 0 (lkI plc [t0, t1, t2] 3 0 + 1) 2 = names.length := by
  have h2 : isdT [t0, t1, t2] 2 = false := isdT_F (t := t2) rfl (by rw [T.m2]; decide)
  have e2 : lkI plc [t0, t1, t2] 3 = lkI plc [t0, t1, t2] 2 := by
    rw [lkI_succ (t := t2) rfl, h2]
    unfold kidL
    rw [T.d2]
    rfl
  have e1 : lkI plc [t0, t1, t2] 2 2 = lkI plc [t0, t1, t2] 1 2 := by
    rw [lkI_succ (t := t1) rfl]
    unfold kidL
    rw [T.d1]
    show (if _ then _ else _ : Nat → Nat) 2 = _
    split <;> rfl
  have e0 : lkI plc [t0, t1, t2] 1 2 = names.length := by
    rw [lkI_succ (t := t0) rfl, lkKid_at (i := 0) (j := 2) (by decide)]
    have hc : (kidL plc t0).count 2 = names.length := by
      unfold kidL
      rw [T.kids.count_eq, List.count_cons_of_ne (by decide), List.count_replicate_self]
    rw [hc]
    have : (if isdT [t0, t1, t2] 0 = true then upd (lkI plc [t0, t1, t2] 0) 0 (lkI plc [t0, t1, t2] 0 0 + 1) else lkI plc [t0, t1, t2] 0) 2 = 0 := by split <;> rfl
    rw [this, Nat.zero_add]
  show lkI plc [t0, t1, t2] 3 2 = _
  rw [e2, e1, e0]
theorem TrAt.kid {nm : List UInt8} (h : nm ∈ names) : hasN (dlN plc t0.1) nm = true ∧ ((dlN plc t0.1)[posN (dlN plc t0.1) nm]?).map (·.2) = some 2 := hasN_of T.srt (T.mem nm h)
theorem TrAt.kidl (h180 : names.length ≤ 180) : ∀ t ∈ [t0, t1, t2], TnFin NC plc t ∧ t.1.1.x.mode < 65536 ∧ (dlN plc t.1).length < 1000000 ∧ ∀ k ∈ kidL plc t, k < 3 := fun t ht => by
  have hf := T.fin t ht
  have hdl := T.dlen
  simp only [List.mem_cons, List.not_mem_nil, or_false] at ht
  rcases ht with rfl | rfl | rfl
  · refine ⟨hf, by rw [T.m0]; decide, by omega, fun k hk => ?_⟩
    rcases List.mem_cons.1 (T.kids.mem_iff.1 hk) with rfl | hk
    · decide
    · rw [(List.mem_replicate.1 hk).2]; decide
  · refine ⟨hf, by rw [T.m1]; decide, by rw [T.d1]; decide, fun k hk => ?_⟩
    unfold kidL at hk
    rw [T.d1] at hk
    exact nomatch hk
  · refine ⟨hf, by rw [T.m2]; decide, by rw [T.d2]; decide, fun k hk => ?_⟩
    unfold kidL at hk
    rw [T.d2] at hk
    exact nomatch hk
theorem TrAt.data : (niOf t2.1 t2.2.1 t2.2.2).data = t2.1.2.1 := by
  show (if kindN t2.1.1.x.mode = 1 then t2.1.2.1 else .slice none 0 0) = _
  rw [T.m2]
  exact if_pos (show kindN 32768 = 1 by decide)
end
end SL
end Go.Proofs.YtlmiekcmjpnobaaGreatDoor
namespace Go.Proofs.YtlmiekcmjpnobaaGreatDoor
open Go
namespace SL
set_option maxRecDepth 20000

section
variable {P : Program} {n : Nat} {g : Gx} {Ro : Heap} {ops : Array Oper} {Q : Post}
variable {Hst H : Heap} {m : Env} {d j fuel i : Nat} {op : Op} {ty : TypeId} {ps : String} {af : Array Edge} {bs : List Nat} {ld : Array Bool}
theorem Eo.eg {b : Bool} {α : Type} {φ : α → Prop} {v : α → Value} {H' : α → Heap} (hi : ops[i]? = some ⟨some d, op, ty, ps, af, some (j, b)⟩) (he : Ef P g Ro op ty m H φ v H') (k : ∀ x, φ x → Dr P n g Ro ops bs Hst Q fuel (ld.setIfInBounds i true) ((d, v x) :: m) (H' x))
    (hg : guardOn ops m j = some (.bool b) := by rfl) (hC : bs.contains i = true ∨ ∀ x, SubR Hst (H' x) Ro := by first | exact Or.inl rfl | exact Or.inr fun _ => inferInstance) (hd : Nat.blt d n = true := by rfl) :
    Eo P n g Ro ops bs Hst Q fuel ld m H i := fun a w hs hh => by
  unfold swOp
  simp only [hi]
  rw [if_pos (by rw [wanted_of hs.ag hg rfl]; simp)]
  refine he a w _ _ _ _ _ hs.ag hh fun x w' hx hh' => ⟨fun hb _ => ?_, fun hcl => k x hx _ w' (hs.put hd (v x)) hh' hcl⟩
  rcases hC with hC | hC
  · rw [hC] at hb; cases hb
  · exact ⟨(hC x).ok hh'.sub hh'.ro, hh'.ro⟩
variable {x y z : Operand} {t t' u : TypeId} {v : Value}
theorem Eo.qg {b : Bool} (hi : ops[i]? = some ⟨some d, op, ty, ps, af, some (j, b)⟩) (hq : Qt P op ty m H Ro v) (k : Dr P n g Ro ops bs Hst Q fuel (ld.setIfInBounds i true) ((d, v) :: m) H)
    (hg : guardOn ops m j = some (.bool b) := by rfl) (hC : bs.contains i = true ∨ SubR Hst H Ro := by first | exact Or.inl rfl | exact Or.inr inferInstance) (hd : Nat.blt d n = true := by rfl) :
    Eo P n g Ro ops bs Hst Q fuel ld m H i := fun a w hs hh => by
  unfold swOp
  simp only [hi]
  rw [if_pos (by rw [wanted_of hs.ag hg rfl]; simp)]
  unfold sw
  rw [hq a w _ _ _ _ hs.ag hh.sub hh.ro]
  refine ⟨fun hb _ => ?_, fun hcl => k _ w (hs.put hd v) hh hcl⟩
  rcases hC with hC | hC
  · rw [hC] at hb; cases hb
  · exact ⟨hC.ok hh.sub hh.ro, hh.ro⟩
theorem Qt.fd {s f : Nat} {fs : Array Field} {fd : Field} {vs : List Value} (hu : ∀ w, (underlying s).run P w = .ok (.struct fs) w) (hf : fs[f]? = some fd) (ha : ∀ w, (isAgg fd.type).run P w = .ok false w) (hx : ev m x = some (.agg vs.toArray) := by rfl) (hv : nth vs fd.offset = some v := by rfl) :
    Qt P (.field s x f) ty m H Ro v := fun a w d ps af gd hag _ _ => by
  rw [nth_eq] at hv
  simp [execOp, Instr.field, ev_sound hag hx, hu, hf, part, ha, asAgg, hv]
theorem Qt.bts0 {p : Option Addr} {c : Nat} (hx : ev m x = some (.slice p 0 c) := by rfl) (ht : BytT P t u := by infer_instance) (hu : StrT P t' := by infer_instance) : Qt P (.convert t t' x) ty m H Ro (SV []) := fun a w d ps af gd ha hh hr => by
  have h : (Conv.bytesToString (.slice p 0 c)).run P w = .ok (SV []) w := by
    cases p with
    | none => rfl
    | some q => exact run_bts (k := 0) (s := []) (by rfl)
  simp only [execOp, convert, Sem.run_bind, ht.und, ht.elem, hu.und, Result.andThen_ok, ev_sound ha hx, h]
  rfl
theorem Qt.btsR {C : Chunk} {l : List UInt8} (h : RdB C v l) (hm : ∀ p ∈ C, p ∈ H.flatten ∨ p ∈ Ro.flatten) (hx : ev m x = some v := by rfl) (ht : BytT P t u := by infer_instance) (hu : StrT P t' := by infer_instance) : Qt P (.convert t t' x) ty m H Ro (SV l) := by
  rcases h with ⟨rfl, p, c, rfl⟩ | ⟨_, b, o, c, e, R, fr, rfl, hb, hR⟩
  · exact Qt.bts0 hx ht hu
  · exact Qt.bts hx hR ⟨hm _ hb⟩ ht hu
end
instance SubR.appR {A X Ro : Heap} : SubR A (X ++ A) Ro := ⟨fun p hp => .inl (by rw [List.flatten_append]; exact List.mem_append_right _ hp)⟩
theorem RdF.rdB {C : Chunk} {c : Value} {l : List UInt8} (h : RdF C c l) : RdB C c l := by
  rcases h with ⟨rfl, rfl⟩ | ⟨b, cp, e, fr, R, h1, h2, h3, _⟩
  · exact .inl ⟨rfl, none, 0, rfl⟩
  · by_cases h0 : l = []
    · subst h0; exact .inl ⟨rfl, _, cp, h1⟩
    · exact .inr ⟨List.length_pos_iff.2 h0, b, 0, cp, e, R, fr, h1, h2, h3⟩
theorem Qt.fd28 {m : Env} {H Ro : Heap} {ty : TypeId} {x : Operand} {v : Value} (hx : ev m x = some (.agg [v].toArray) := by rfl) : Qt Tryz.prog (.field 28 x 0) ty m H Ro v := Qt.fd (vs := [v]) Tryz.runUnderlying28 rfl Tryz.isAgg26 hx rfl
/-! ### The operations of the law -/
abbrev dvOf (dv : Value) (o : OpR) : Value := if o.op = 1 then dv else .slice none 0 0
abbrev opsOf (dv : Value) (n0 : List UInt8) (more : List (List UInt8)) (dat : List UInt8) (i : Nat) : List OpV := ((mkOps n0 more dat).take (2 + i)).map fun o => (o, dvOf dv o)
section
variable {dv : Value} {n0 : List UInt8} {more : List (List UInt8)} {dat : List UInt8} {Cd : Chunk} {i : Nat}
theorem opsOf_len (h : i ≤ more.length) : (opsOf dv n0 more dat i).length = 2 + i := by
  rw [List.length_map, List.length_take]
  show min (2 + i) ((linkOps (n0 :: more)).length + 1 + 1) = _
  rw [linkOps_len]; omega
theorem opsOf_zero : opsOf dv n0 more dat 0 = [(⟨0, n0, [], dat.length, []⟩, .slice none 0 0), (⟨1, [], [], 0, dat⟩, dv)] := rfl
theorem opsOf_all : (opsOf dv n0 more dat more.length).map (·.1) = mkOps n0 more dat := by
  rw [List.map_map, show ((fun (x : OpV) => x.1) ∘ fun o => (o, dvOf dv o)) = (id : OpR → OpR) from rfl, List.map_id]
  refine List.take_of_length_le ?_
  show (linkOps (n0 :: more)).length + 1 + 1 ≤ _
  rw [linkOps_len]; omega
theorem opsOf_succ {a b : List UInt8} (ha : (n0 :: more)[i]? = some a) (hb : more[i]? = some b) : opsOf dv n0 more dat (i + 1) = opsOf dv n0 more dat i ++ [(⟨2, b, a, 0, []⟩, .slice none 0 0)] := by
  have hg : (mkOps n0 more dat)[2 + i]? = some ⟨2, b, a, 0, []⟩ := by
    show (_ :: _ :: linkOps (n0 :: more))[2 + i]? = _
    rw [Nat.add_comm 2 i, List.getElem?_cons_succ, List.getElem?_cons_succ]
    exact linkOps_get ha hb
  unfold opsOf
  rw [show 2 + (i + 1) = 2 + i + 1 from rfl, List.take_add_one, hg, List.map_append]
  rfl
theorem ops_rd (hd : RdB Cd dv dat) : ∀ x ∈ opsOf dv n0 more dat i, RdB Cd x.2 x.1.dat := fun x hx => by
  obtain ⟨o, ho, rfl⟩ := List.mem_map.1 hx
  have ho := List.mem_of_mem_take ho
  have h3 : ∀ (l : List (List UInt8)) (o : OpR), o ∈ linkOps l → o.dat = [] ∧ o.op = 2 := fun l => by
    induction l with
    | nil => intro o h; exact nomatch h
    | cons a l ih =>
      intro o h
      cases l with
      | nil => exact nomatch h
      | cons b r =>
        rcases List.mem_cons.1 h with rfl | h
        · exact ⟨rfl, rfl⟩
        · exact ih o h
  rcases List.mem_cons.1 ho with rfl | ho
  · exact .inl ⟨rfl, none, 0, rfl⟩
  rcases List.mem_cons.1 ho with rfl | ho
  · exact hd
  obtain ⟨h4, h5⟩ := h3 _ o ho
  show RdB Cd (if o.op = 1 then dv else .slice none 0 0) o.dat
  rw [h4, if_neg (by rw [h5]; decide)]
  exact .inl ⟨rfl, none, 0, rfl⟩
end
end SL
end Go.Proofs.YtlmiekcmjpnobaaGreatDoor
namespace Go.Proofs.YtlmiekcmjpnobaaGreatDoor
open Go
namespace SL
set_option maxRecDepth 20000

set_option synthInstance.maxHeartbeats 400000
set_option synthInstance.maxSize 100000
set_option maxHeartbeats 16000000
variable {b o c e eG : Nat} {R : List Value} {fr frG : Nat × Nat} {names more : List (List UInt8)} {n0 dat : List UInt8} {dv : Value} {Cd : Chunk} {inl : Bool} {pd : Option Addr} {cd : Nat}
theorem law5a_q (hq : QSpec Tryz.prog 17 [Sl b o names.length c] [[(b, .cells R.toArray e fr)]] (.bool false)) : QSpec Tryz.prog 5 [Sl b o names.length c, dv, .bool inl] [[(b, .cells R.toArray e fr)]] (.bool true) := by
  refine QSpec.of Tryz.func5 rfl Tryz.ntmps5 (by simp) fun w => ?_
  refine T.sr <| Rl.q (Qt.as (v := .bool false)) <| Rl.nilK <| ?_
  refine T.seq ?_
  refine T.sr <| Rl.q Qt.mv <| Rl.e (Ef.qcall (S := hq)) fun _ _ => Rl.q Qt.notF <| Rl.q Qt.mv <| Rl.gf <| Rl.gf <| Rl.gf <| Rl.q (Qt.pkT (v := .bool true)) <| ?_
  refine Rl.nilK <| ?_
  refine T.condT ?_
  refine T.sr <| Rl.q (Qt.as (v := .bool true)) <| Rl.nilK <| ?_
  refine T.ret <| Ex.Kret <| Ex.ret1 (.inl rfl) rfl ?_ rfl
  exact fun w h => ⟨rfl, h.grown⟩

theorem law5b_q (hq : QSpec Tryz.prog 17 [Sl b o names.length c] [[(b, .cells R.toArray e fr)]] (.bool true)) (hl : 2147483647 < dat.length) (hdl : dat.length ≤ 9223372036854775807) : QSpec Tryz.prog 5 [Sl b o names.length c, .slice pd dat.length cd, .bool inl] [[(b, .cells R.toArray e fr)]] (.bool true) := by
  refine QSpec.of Tryz.func5 rfl Tryz.ntmps5 (by simp) fun w => ?_
  refine T.sr <| Rl.q (Qt.as (v := .bool false)) <| Rl.nilK <| ?_
  refine T.seq ?_
  refine T.sr <| Rl.q Qt.mv <| Rl.e (Ef.qcall (S := hq)) fun _ _ => Rl.q Qt.notT <| Rl.q Qt.mv <| Rl.gt <| Rl.q Qt.mv <| Rl.gt <| Rl.q Qt.len <| ?_
  refine Rl.gt <| Rl.q (Qt.gtT (b := 2147483647) (h := hl)) <| Rl.q Qt.pkF <| Rl.nilK <| ?_
  refine T.condT ?_
  refine T.sr <| Rl.q (Qt.as (v := .bool true)) <| Rl.nilK <| ?_
  refine T.ret <| Ex.Kret <| Ex.ret1 (.inl rfl) rfl ?_ rfl
  exact fun w h => ⟨rfl, h.grown⟩

theorem law5c_q (hq : QSpec Tryz.prog 17 [Sl b o names.length c] [[(b, .cells R.toArray e fr)]] (.bool true)) (hl : dat.length ≤ 2147483647) (hc : QSpec Tryz.prog 18 [Sl b o names.length c] [[(b, .cells R.toArray e fr)]] (.bool false)) : QSpec Tryz.prog 5 [Sl b o names.length c, .slice pd dat.length cd, .bool inl] [[(b, .cells R.toArray e fr)]] (.bool true) := by
  refine QSpec.of Tryz.func5 rfl Tryz.ntmps5 (by simp) fun w => ?_
  refine T.sr <| Rl.q (Qt.as (v := .bool false)) <| Rl.nilK <| ?_
  refine T.seq ?_
  refine T.sr <| Rl.q Qt.mv <| Rl.e (Ef.qcall (S := hq)) fun _ _ => Rl.q Qt.notT <| Rl.q Qt.mv <| Rl.gt <| Rl.q Qt.mv <| Rl.gt <| Rl.q Qt.len <| ?_
  refine Rl.gt <| Rl.q (Qt.gtF (b := 2147483647) (h := hl)) <| Rl.q Qt.pkF <| Rl.nilK <| ?_
  refine T.condF ?_
  refine T.skip <| Ex.K <| ?_
  refine T.seq ?_
  refine T.sr <| Rl.q Qt.mv <| Rl.e (Ef.qcall (S := hc)) fun _ _ => Rl.q Qt.notF <| Rl.q Qt.mv <| Rl.gf <| Rl.gf <| Rl.gf <| Rl.q (Qt.pkT (v := .bool true)) <| ?_
  refine Rl.q Qt.mv <| Rl.gf <| Rl.gf <| Rl.gf <| Rl.q (Qt.pkT (v := .bool true)) <| Rl.nilK <| ?_
  refine T.condT ?_
  refine T.sr <| Rl.q (Qt.as (v := .bool true)) <| Rl.nilK <| ?_
  refine T.ret <| Ex.Kret <| Ex.ret1 (.inl rfl) rfl ?_ rfl
  exact fun w h => ⟨rfl, h.grown⟩

theorem law5d_q (hq : QSpec Tryz.prog 17 [Sl b o names.length c] [[(b, .cells R.toArray e fr)]] (.bool true)) (hl : dat.length ≤ 2147483647) (hc : QSpec Tryz.prog 18 [Sl b o names.length c] [[(b, .cells R.toArray e fr)]] (.bool true)) (hn : 0 < names.length) (hl2 : 4000 < dat.length) : QSpec Tryz.prog 5 [Sl b o names.length c, .slice pd dat.length cd, .bool inl] [[(b, .cells R.toArray e fr)]] (.bool true) := by
  refine QSpec.of Tryz.func5 rfl Tryz.ntmps5 (by simp) fun w => ?_
  refine T.sr <| Rl.q (Qt.as (v := .bool false)) <| Rl.nilK <| ?_
  refine T.seq ?_
  refine T.sr <| Rl.q Qt.mv <| Rl.e (Ef.qcall (S := hq)) fun _ _ => Rl.q Qt.notT <| Rl.q Qt.mv <| Rl.gt <| Rl.q Qt.mv <| Rl.gt <| Rl.q Qt.len <| ?_
  refine Rl.gt <| Rl.q (Qt.gtF (b := 2147483647) (h := hl)) <| Rl.q Qt.pkF <| Rl.nilK <| ?_
  refine T.condF ?_
  refine T.skip <| Ex.K <| ?_
  refine T.seq ?_
  refine T.sr <| Rl.q Qt.mv <| Rl.e (Ef.qcall (S := hc)) fun _ _ => Rl.q Qt.notT <| Rl.q Qt.mv <| Rl.gt <| Rl.q Qt.mv <| Rl.gt <| Rl.q Qt.len <| ?_
  refine Rl.gt <| Rl.q (Qt.eqF (b := 0) (h := by omega)) <| Rl.q Qt.pkF <| Rl.q Qt.mv <| Rl.gt <| Rl.q Qt.mv <| Rl.gt <| Rl.q Qt.len <| ?_
  refine Rl.gt <| Rl.q (Qt.gtT (b := 4000) (h := hl2)) <| Rl.q Qt.pkF <| Rl.nilK <| ?_
  refine T.condT ?_
  refine T.sr <| Rl.q (Qt.as (v := .bool true)) <| Rl.nilK <| ?_
  refine T.ret <| Ex.Kret <| Ex.ret1 (.inl rfl) rfl ?_ rfl
  exact fun w h => ⟨rfl, h.grown⟩

theorem law5m_q {p : Option Addr} (hl : 2147483647 < dat.length) (hdl : dat.length ≤ 9223372036854775807) : QSpec Tryz.prog 5 [.slice p 0 c, .slice pd dat.length cd, .bool inl] [] (.bool true) := by
  refine QSpec.of Tryz.func5 rfl Tryz.ntmps5 (by simp) fun w => ?_
  refine T.sr <| Rl.q (Qt.as (v := .bool false)) <| Rl.nilK <| ?_
  refine T.seq ?_
  refine T.sr <| Rl.q Qt.mv <| Rl.e (Ef.qcall (S := fitsNil_q)) fun _ _ => Rl.q Qt.notT <| Rl.q Qt.mv <| Rl.gt <| Rl.q Qt.mv <| Rl.gt <| Rl.q Qt.len <| ?_
  refine Rl.gt <| Rl.q (Qt.gtT (b := 2147483647) (h := hl)) <| Rl.q Qt.pkF <| Rl.nilK <| ?_
  refine T.condT ?_
  refine T.sr <| Rl.q (Qt.as (v := .bool true)) <| Rl.nilK <| ?_
  refine T.ret <| Ex.Kret <| Ex.ret1 (.inl rfl) rfl ?_ rfl
  exact fun w h => ⟨rfl, h.grown⟩

theorem law5n_q {p : Option Addr} (hl : dat.length ≤ 2147483647) : QSpec Tryz.prog 5 [.slice p 0 c, .slice pd dat.length cd, .bool inl] [] (.bool true) := by
  refine QSpec.of Tryz.func5 rfl Tryz.ntmps5 (by simp) fun w => ?_
  refine T.sr <| Rl.q (Qt.as (v := .bool false)) <| Rl.nilK <| ?_
  refine T.seq ?_
  refine T.sr <| Rl.q Qt.mv <| Rl.e (Ef.qcall (S := fitsNil_q)) fun _ _ => Rl.q Qt.notT <| Rl.q Qt.mv <| Rl.gt <| Rl.q Qt.mv <| Rl.gt <| Rl.q Qt.len <| ?_
  refine Rl.gt <| Rl.q (Qt.gtF (b := 2147483647) (h := hl)) <| Rl.q Qt.pkF <| Rl.nilK <| ?_
  refine T.condF ?_
  refine T.skip <| Ex.K <| ?_
  refine T.seq ?_
  refine T.sr <| Rl.q Qt.mv <| Rl.e (Ef.qcall (S := crowdNil_q)) fun _ _ => Rl.q Qt.notT <| Rl.q Qt.mv <| Rl.gt <| Rl.q Qt.mv <| Rl.gt <| Rl.q Qt.len <| ?_
  refine Rl.gt <| Rl.q (Qt.eqT (a := 0) (b := 0)) <| Rl.q Qt.pkF <| Rl.q Qt.mv <| Rl.gf <| Rl.gf <| Rl.gf <| Rl.q (Qt.pkT (v := .bool true)) <| ?_
  refine Rl.nilK <| ?_
  refine T.condT ?_
  refine T.sr <| Rl.q (Qt.as (v := .bool true)) <| Rl.nilK <| ?_
  refine T.ret <| Ex.Kret <| Ex.ret1 (.inl rfl) rfl ?_ rfl
  exact fun w h => ⟨rfl, h.grown⟩
end SL
end Go.Proofs.YtlmiekcmjpnobaaGreatDoor
namespace Go.Proofs.YtlmiekcmjpnobaaGreatDoor
open Go
namespace SL
set_option maxRecDepth 20000

theorem crowdP_one {n0 : List UInt8} {more : List (List UInt8)} (h : CrowdP (n0 :: more)) : CrowdP [n0] := ⟨by show 1 ≤ 180; decide, fun i nm hi => by
  cases i with
  | zero =>
    have := h.2 0 nm hi
    exact this
  | succ j => exact nomatch hi⟩
structure LW where
  i : Nat
  v : Value
  E : Chunk
set_option synthInstance.maxHeartbeats 400000
set_option synthInstance.maxSize 100000
set_option maxHeartbeats 16000000
variable {b o c e eG : Nat} {R : List Value} {fr frG : Nat × Nat} {more : List (List UInt8)} {n0 dat : List UInt8} {Cd : Chunk} {inl : Bool} {pd : Option Addr} {cd : Nat}
theorem law5_q (hR : StrR R o (n0 :: more)) (hc : (n0 :: more).length ≤ c) (hc2 : c ≤ 9223372036854775807) (hfit : QSpec Tryz.prog 17 [Sl b o (n0 :: more).length c] [[(b, .cells R.toArray e fr)]] (.bool true)) (hcr : CrowdP (n0 :: more)) (hd : RdB Cd (.slice pd dat.length cd) dat) (hdl : dat.length ≤ 4000) :
    QSpec Tryz.prog 5 [Sl b o (n0 :: more).length c, (.slice pd dat.length cd), .bool inl] [[(b, .cells R.toArray e fr)], Cd, [(0, GPO eG frG)]] (.bool true) := by
  refine QSpec.of Tryz.func5 rfl Tryz.ntmps5 (by simp) fun w => ?_
  have hcrowd := crowdYes_q (b := b) (c := c) (e := e) (fr := fr) hR hc hcr
  have hR0 := hR 0 n0 rfl
  have h180 := hcr.1
  have hml : (n0 :: more).length = more.length + 1 := rfl
  have hdo := hd.one
  have hones0 : ones (opC ⟨0, n0, [], dat.length, []⟩ (.slice none 0 0)) = true := opV_ones (o := (⟨0, n0, [], dat.length, []⟩, .slice none 0 0)) rfl
  have hones1 : ones (opC ⟨1, [], [], 0, dat⟩ (.slice pd dat.length cd)) = true := opV_ones (o := (⟨1, [], [], 0, dat⟩, (.slice pd dat.length cd))) hdo
  have hcr1 := crowdP_one hcr
  refine T.sr <| Rl.q (Qt.as (v := .bool false)) <| Rl.nilK <| ?_
  refine T.seq ?_
  refine T.sr <| Rl.q Qt.mv <| Rl.e (Ef.qcall (S := hfit)) fun _ _ => Rl.q Qt.notT <| Rl.q Qt.mv <| Rl.gt <| Rl.q Qt.mv <| Rl.gt <| Rl.q Qt.len <| ?_
  refine Rl.gt <| Rl.q (Qt.gtF (b := 2147483647) (a := dat.length)) <| Rl.q Qt.pkF <| Rl.nilK <| ?_
  refine T.condF ?_
  refine T.skip <| Ex.K <| ?_
  refine T.seq ?_
  refine T.sr <| Rl.q Qt.mv <| Rl.e (Ef.qcall (S := hcrowd)) fun _ _ => Rl.q Qt.notT <| Rl.q Qt.mv <| Rl.gt <| Rl.q Qt.mv <| Rl.gt <| Rl.q Qt.len <| ?_
  refine Rl.gt <| Rl.q (Qt.eqF (a := more.length + 1) (b := 0)) <| Rl.q Qt.pkF <| Rl.q Qt.mv <| Rl.gt <| Rl.q Qt.mv <| Rl.gt <| Rl.q Qt.len <| ?_
  refine Rl.gt <| Rl.q (Qt.gtF (a := dat.length) (b := 4000)) <| Rl.q Qt.pkF <| Rl.nilK <| ?_
  refine T.condF ?_
  refine T.skip <| Ex.K <| ?_
  refine T.sr <| Rl.q Qt.mv <| Rl.q (Qt.ia1 (k := more.length + 1) (i := 0)) <| Rl.q (Qt.ld (hv := hR0)) <| Rl.q Qt.mv <| Rl.q Qt.len <| Rl.q Qt.bdN <| Rl.q Qt.bdN <| ?_
  refine Rl.q Qt.mv <| Rl.q Qt.bdN <| Rl.e Ef.bs fun b51 hb51 => Rl.q Qt.as <| Rl.nilK <| ?_
  refine T.sr <| Rl.q Qt.mv <| Rl.q Qt.mv <| Rl.e (Ef.call (S := imageRead_s (bo := b51) (co := 2) (spo := []) (ops := opsOf (.slice pd dat.length cd) n0 [] dat 0) (DC := Cd) (eG := eG) (frG := frG) opsOf_all (ops_rd hd) hcr1 hdl)) fun r1 hr1 => Rl.q Qt.mv <| Rl.q Qt.ex <| Rl.q Qt.ex <| Rl.q Qt.as <| ?_
  refine Rl.q Qt.as <| Rl.nilK <| ?_
  refine T.seq ?_
  refine T.sr <| Rl.q Qt.mv <| Rl.q (Qt.to (u := Sl b (cutAt c 1 1 o) more.length (c - 1)) (Qt.sl (cl := 1)) (rfl)) <| Rl.q Qt.len <| Rl.q (Qt.mv (v := N .i64 0)) <| Rl.nilK <| ?_
  refine T.block ?_
  refine T.loop (α := LW) (fun y => [(0, Sl b o (more.length + 1) c), (1, .slice pd dat.length cd), (2, .bool inl), (7, y.v), (8, Pt r1.bV), (9, .bool true), (59, Sl b (cutAt c 1 1 o) more.length (c - 1)), (60, N .i64 more.length), (61, N .i64 y.i)]) (fun y => [y.E, [(r1.bV, VO (Sl r1.bi 0 3 r1.ci) r1.nb r1.img 1 16 (Sl r1.bO 0 r1.nb r1.nb))], [(r1.bi, .cells ((r1.dn.flatMap fun z => z.x.cells) ++ r1.spi).toArray 81 (0, 0))], r1.CC]) (fun y => Own 48 24 y.v (opsOf (.slice pd dat.length cd) n0 more dat y.i).length ((opsOf (.slice pd dat.length cd) n0 more dat y.i).flatMap OpV.cells) y.E ∧ y.i ≤ more.length) (fun y => more.length - y.i)
    ⟨0, Sl b51 0 2 2, [(b51, .cells ((opsOf (.slice pd dat.length cd) n0 more dat 0).flatMap OpV.cells ++ []).toArray 48 (0, 0))]⟩ ⟨Own.mk (k := 2) (cap := 2) rfl (Nat.le_refl _) (by decide) rfl, Nat.zero_le _⟩ ?_ (fun y hy => ?_)
  · exact .cons rfl <| .cons rfl <| .cons rfl <| .cons rfl <| .cons rfl <| .cons rfl <| .cons rfl <| .cons rfl <| .cons rfl <| .nil
  refine T.sr <| Rl.ltS (fun h62 => ?_) (fun h62 => ?_)
  · refine Rl.nilK <| ?_
    refine T.seq ?_
    refine T.condT ?_
    refine T.skip <| Ex.K <| ?_
    refine T.seq ?_
    refine T.block ?_
    obtain ⟨nb, hmb⟩ : ∃ z, more[y.i]? = some z := ⟨_, List.getElem?_eq_getElem h62⟩
    obtain ⟨na, hma⟩ : ∃ z, (n0 :: more)[y.i]? = some z := ⟨_, List.getElem?_eq_getElem (by rw [hml]; omega)⟩
    have hRa := hR y.i na hma
    have hRb : nth R (cutAt c 1 1 o + y.i) = some (SV nb) := by have := hR (y.i + 1) nb (by rw [List.getElem?_cons_succ]; exact hmb); rw [show cutAt c 1 1 o = o + 1 by unfold cutAt; rw [if_neg (by omega)], show o + 1 + y.i = o + (y.i + 1) by omega]; exact this
    have hz2 : ones (opC ⟨2, nb, na, 0, []⟩ (.slice none 0 0)) = true := opV_ones (o := (⟨2, nb, na, 0, []⟩, .slice none 0 0)) rfl
    have hol := opsOf_len (dv := .slice pd dat.length cd) (n0 := n0) (dat := dat) hy.2
    refine T.sr <| Rl.q Qt.mv <| Rl.q (Qt.ia1 (k := more.length) (i := y.i)) <| Rl.q (Qt.ld (hv := hRb)) <| Rl.q Qt.as <| Rl.q Qt.as <| Rl.nilK <| ?_
    refine T.region <| Rl.q Qt.mv <| Rl.q Qt.mv <| Rl.q Qt.mv <| Rl.q (Qt.ia1 (k := more.length + 1) (i := y.i)) <| Rl.q (Qt.ld (hv := hRa)) <| Rl.q Qt.mv <| Rl.q Qt.bdN <| ?_
    refine Rl.e Ef.bs fun b73 hb73 => Rl.e (Ef.ap (own := hy.1) (hl := ⟨rfl, hz2, by simp only [maxLen]; omega, by omega⟩)) fun v74 hv74 => Rl.q Qt.as <| Rl.nil <| Ex.Bnormal <| Ex.K <| ?_
    refine T.region <| Rl.q (Qt.add (b := 1)) <| Rl.q Qt.mv <| Rl.nil <| ?_
    exact Ex.next ⟨y.i + 1, v74.1, v74.2⟩ ⟨by rw [opsOf_succ hma hmb]; exact own_push24 (z := (⟨2, nb, na, 0, []⟩, .slice none 0 0)) hv74, h62⟩ (by show more.length - (y.i + 1) < more.length - y.i; omega) (.cons rfl <| .cons rfl <| .cons rfl <| .cons rfl <| .cons rfl <| .cons rfl <| .cons rfl <| .cons rfl <| .cons rfl <| .nil)
  · refine Rl.nilK <| ?_
    refine T.seq ?_
    refine T.condF ?_
    refine T.exit <| Ex.Kexit <| Ex.Lexit <| Ex.Bhit <| Ex.K <| ?_
    have hyi : y.i = more.length := by have := hy.2; omega
    have hol := opsOf_len (dv := .slice pd dat.length cd) (n0 := n0) (dat := dat) hy.2
    obtain ⟨bo2, co2, spo2, hov, _, _, hoE, _⟩ := hy.1.some (by omega)
    rw [hov, hoE, hyi]
    refine T.sr <| Rl.q Qt.mv <| Rl.q Qt.mv <| Rl.e (Ef.call (S := imageRead_s (bo := bo2) (co := co2) (spo := spo2) (ops := opsOf (.slice pd dat.length cd) n0 more dat more.length) (DC := Cd) (eG := eG) (frG := frG) opsOf_all (ops_rd hd) hcr hdl)) fun r2 hr2 => Rl.q Qt.mv <| Rl.q Qt.ex <| Rl.q Qt.ex <| Rl.q Qt.as <| ?_
    refine Rl.q Qt.as <| Rl.nilK <| ?_
    refine T.seq ?_
    refine T.sr <| Rl.q Qt.mv <| Rl.q Qt.notT <| Rl.q Qt.mv <| Rl.gt <| Rl.q Qt.mv <| Rl.gt <| Rl.q Qt.notT <| ?_
    refine Rl.q Qt.pkF <| Rl.nilK <| ?_
    refine T.condF ?_
    refine T.skip <| Ex.K <| ?_
    refine T.sr <| Rl.q Qt.mv <| Rl.e (Ef.call (S := treeU_s hcr hr2)) fun tr htr => Rl.e Ef.alA fun b14 hb14 => Rl.e0 Ef.stN fun _ _ => Rl.nilK <| ?_
    have hdl3 := htr.dlen
    refine T.sdr [] ?_ mixed
    refine Dr.qs [0, 1, 2, 3, 4, 5, 6, 7, 8] [] ?_
    refine Dq.q Qt.ldA <| Dq.q Qt.mv <| Dq.q (Qt.to (u := Sl b o 1 c) (Qt.sl1 (ch := 1)) (rfl)) <| Dq.c rfl (find1_q (ts := tr.ts) (t0 := tr.t0) (k := 2) (cN := c) (NC := tr.NC) (plc := plcS [2, 11, 12]) rfl (by show 3 < 1000000; decide) (htr.fin _ (List.mem_cons_self ..)) (by rw [htr.m0]; decide) (by rw [htr.m0]; decide) (by rw [htr.dlen, hml]; omega) (htr.kid (List.mem_cons_self ..)).1 (htr.kid (List.mem_cons_self ..)).2 hR0) <| Dq.q Qt.mv <| Dq.q Qt.ex <| Dq.q Qt.ex <| Dq.q Qt.as <| ?_
    refine Dq.q Qt.as <| Dq.nil <| Dr.nilK <| ?_
    refine T.seq ?_
    refine T.sr <| Rl.q Qt.mv <| Rl.q Qt.len <| Rl.q (Qt.mv (v := N .i64 0)) <| Rl.nilK <| ?_
    refine T.block ?_
    refine T.loop (α := Nat) (fun i => [(0, Sl b o (more.length + 1) c), (1, .slice pd dat.length cd), (8, Pt r1.bV), (14, Pt b14), (15, N .i64 2), (16, .bool true), (97, Sl b o (more.length + 1) c), (98, N .i64 (more.length + 1)), (99, N .i64 i)]) (fun i => [[(b14, .cells [Sl tr.bt 0 3 tr.ct].toArray 28 (0, 0))], [(tr.bt, TRow tr.ts tr.spt)], tr.NC, r2.CC, [(r1.bV, VO (Sl r1.bi 0 3 r1.ci) r1.nb r1.img 1 16 (Sl r1.bO 0 r1.nb r1.nb))], [(r1.bi, .cells ((r1.dn.flatMap fun z => z.x.cells) ++ r1.spi).toArray 81 (0, 0))], r1.CC]) (fun i => i ≤ more.length + 1) (fun i => more.length + 1 - i)
      0 (Nat.zero_le _) ?_ (fun i hi => ?_)
    · exact .cons rfl <| .cons rfl <| .cons rfl <| .cons rfl <| .cons rfl <| .cons rfl <| .cons rfl <| .cons rfl <| .cons rfl <| .nil
    refine T.sr <| Rl.ltS (fun h100 => ?_) (fun h100 => ?_)
    · refine Rl.nilK <| ?_
      refine T.seq ?_
      refine T.condT ?_
      refine T.skip <| Ex.K <| ?_
      refine T.seq ?_
      refine T.block ?_
      obtain ⟨nm, hnmi⟩ : ∃ z, (n0 :: more)[i]? = some z := ⟨_, List.getElem?_eq_getElem (by rw [hml]; omega)⟩
      have hRn := hR i nm hnmi
      have hnm : nm ∈ n0 :: more := List.mem_of_getElem? hnmi
      have hrow0 : seg ((tr.ts.flatMap fun t => (niOf t.1 t.2.1 t.2.2).cells) ++ tr.spt) (0 + 0 * 18) 18 = some (niOf tr.t0.1 tr.t0.2.1 tr.t0.2.2).cells := by rw [Nat.zero_add]; exact seg_flat (g := fun t : TnV => (niOf t.1 t.2.1 t.2.2).cells) cells18 tr.spt rfl
      refine T.sr <| Rl.q (Qt.ia1 (k := more.length + 1) (i := i)) <| Rl.q (Qt.ld (hv := hRn)) <| Rl.q Qt.as <| Rl.nilK <| ?_
      refine T.sr <| Rl.q Qt.fa0 <| Rl.q Qt.ld <| Rl.q (Qt.ia (k := 3) (i := 0)) <| Rl.q (Qt.ldA (hv := hrow0)) <| Rl.q Qt.mv <| Rl.e (Ef.qcall (S := kid_q (x := niOf tr.t0.1 tr.t0.2.1 tr.t0.2.2) (htr.fin _ (List.mem_cons_self ..)).1 (htr.fin _ (List.mem_cons_self ..)).2 (by rw [htr.dlen, hml]; omega) (htr.kid hnm).1 (htr.kid hnm).2)) fun _ _ => Rl.q Qt.mv <| ?_
      refine Rl.q Qt.ex <| Rl.q Qt.ex <| Rl.q Qt.as <| Rl.q Qt.as <| Rl.nilK <| ?_
      refine T.sr <| Rl.q Qt.mv <| Rl.q Qt.notT <| Rl.q Qt.mv <| Rl.gt <| Rl.q Qt.mv <| Rl.gt <| Rl.q Qt.mv <| ?_
      refine Rl.gt <| Rl.q (Qt.neF (a := 2) (b := 2)) <| Rl.q Qt.pkF <| Rl.nilK <| ?_
      refine T.condF ?_
      refine T.skip <| Ex.Bnormal <| Ex.K <| ?_
      refine T.region <| Rl.q (Qt.add (b := 1)) <| Rl.q Qt.mv <| Rl.nil <| ?_
      exact Ex.next (i + 1) h100 (by omega) (.cons rfl <| .cons rfl <| .cons rfl <| .cons rfl <| .cons rfl <| .cons rfl <| .cons rfl <| .cons rfl <| .cons rfl <| .nil)
    · refine Rl.nilK <| ?_
      refine T.seq ?_
      refine T.condF ?_
      refine T.exit <| Ex.Kexit <| Ex.Lexit <| Ex.Bhit <| Ex.K <| ?_
      have hlk : nth (nI 3 (upd (lkI (plcS [2, 11, 12]) tr.ts 3) 0 (lkI (plcS [2, 11, 12]) tr.ts 3 0 + 1))) (0 + 2) = some (N .i64 (more.length + 1)) := by rw [nI_nth0 (by decide), htr.links]; rfl
      have hdat : nth ((tr.ts.flatMap fun t => (niOf t.1 t.2.1 t.2.2).cells) ++ tr.spt) (0 + 2 * 18 + 13) = some tr.t2.1.2.1 := by rw [← htr.data]; rfl
      obtain ⟨hco, hcc⟩ : ∃ z, z = tr.t2.1.2.1 := ⟨_, rfl⟩
      refine T.sdr [3, 5, 6, 9, 10, 11, 12, 13, 14, 15, 16, 17, 18, 19, 20, 21, 22, 23, 24, 25, 26, 27, 28, 29, 30, 31, 32, 33] ?_ mixed
      refine Dr.qsM [0, 1, 2, 4, 7, 8] [false, false, false, true, true, true] ?_
      refine Dq.q Qt.mv <| Dq.q Qt.mv <| Dq.gt <| Dq.q Qt.ldA <| Dq.gt <| Dq.p Qt.mv <| Dq.gt <| Dq.p Qt.mv <| ?_
      refine Dq.gt <| Dq.p Qt.len <| Dq.nil <| ?_
      refine Dr.e 3 <| Eo.eg rfl (Ef.call (S := links_s (ts := tr.ts) (spt := tr.spt) (NC := tr.NC) (plc := plcS [2, 11, 12]) htr.one (by show 3 < 1000000; decide) (by show 0 < 3; decide) (htr.kidl h180))) fun bL hbL => ?_
      refine Dr.reset [] ?_
      refine Dr.qs [5, 6, 9, 10, 11, 12, 13, 14, 15, 16, 17, 18, 19, 20, 21, 22, 23, 24, 25, 26, 27] [] ?_
      refine Dq.gt <| Dq.q (Qt.ia1 (k := 3) (i := 2)) <| Dq.gt <| Dq.q (Qt.ld (hv := hlk)) <| Dq.gt <| Dq.q (Qt.eqT (a := more.length + 1) (b := more.length + 1)) <| Dq.q Qt.pkT <| Dq.q Qt.mv <| ?_
      refine Dq.gt <| Dq.q Qt.fa0 <| Dq.gt <| Dq.q Qt.ld <| Dq.gt <| Dq.q Qt.mv <| Dq.gt <| Dq.q (Qt.ia (k := 3) (i := 2)) <| ?_
      refine Dq.gt <| Dq.q Qt.fa <| Dq.gt <| Dq.q (Qt.ld (hv := hdat)) <| Dq.gt <| Dq.q (Qt.btsR (htr.dat.rdB) (by simp +contextual)) <| Dq.gt <| Dq.q Qt.mv <| ?_
      refine Dq.gt <| Dq.q (Qt.btsR hd (by simp +contextual)) <| Dq.gt <| Dq.q (Qt.seqT (h := rfl)) <| Dq.q Qt.pkT <| Dq.q Qt.mv <| Dq.gt <| Dq.q Qt.fa0 <| ?_
      refine Dq.gt <| Dq.q Qt.ld <| Dq.gt <| Dq.q Qt.len <| Dq.gt <| Dq.q Qt.mv <| Dq.nil <| ?_
      refine Dr.e 28 <| Eo.eg rfl (Ef.call (S := treeU_s hcr1 hr1)) fun y1 hy1 => ?_
      refine Dr.e 29 <| Eo.qg rfl Qt.fd28 <| ?_
      refine Dr.e 30 <| Eo.qg rfl Qt.len <| ?_
      refine Dr.e 31 <| Eo.qg rfl (Qt.eqT (a := 3) (b := 3)) <| ?_
      refine Dr.e 32 <| Eo.q rfl Qt.pkT <| ?_
      refine Dr.e 33 <| Eo.q rfl Qt.as <| Dr.nilK <| ?_
      refine T.ret <| Ex.ret1 (.inl rfl) rfl ?_ rfl
      exact fun w h => ⟨rfl, h.grown⟩
end SL
end Go.Proofs.YtlmiekcmjpnobaaGreatDoor
namespace Go.Proofs.YtlmiekcmjpnobaaGreatDoor
open Go
namespace SL
set_option maxRecDepth 20000

theorem QSpec.mono {P : Program} {f : FuncId} {args : List Value} {Ro Ro' : Heap} {v : Value} (S : QSpec P f args Ro v) (h : ∀ p ∈ Ro.flatten, p ∈ Ro'.flatten) : QSpec P f args Ro' v := fun w hr => S w fun p hp => hr p (h p hp)
variable {b o c e eG : Nat} {R : List Value} {fr frG : Nat × Nat} {names : List (List UInt8)} {dat : List UInt8} {dv : Value} {Cd : Chunk} {inl : Bool}
theorem law5_all (hne : names ≠ []) (hR : StrR R o names) (hc : names.length ≤ c) (hc2 : c ≤ 9223372036854775807) (hd : RdB Cd dv dat) (hdl : dat.length ≤ 9223372036854775807) :
    QSpec Tryz.prog 5 [Sl b o names.length c, dv, .bool inl] [[(b, .cells R.toArray e fr)], Cd, [(0, GPO eG frG)]] (.bool true) := by
  obtain ⟨pd, cd, hdv⟩ := hd.form
  have hs : ∀ p ∈ ([[(b, .cells R.toArray e fr)]] : Heap).flatten, p ∈ ([[(b, .cells R.toArray e fr)], Cd, [(0, GPO eG frG)]] : Heap).flatten := fun p hp => by
    simp only [List.flatten_cons, List.flatten_nil, List.append_nil, List.mem_append] at hp ⊢
    exact .inl hp
  obtain ⟨q, hq⟩ := fits_q (b := b) (c := c) (e := e) (fr := fr) hR (by omega)
  cases q with
  | false => exact (law5a_q hq).mono hs
  | true =>
    by_cases h1 : 2147483647 < dat.length
    · rw [hdv]; exact (law5b_q hq h1 hdl).mono hs
    by_cases hcr : CrowdP names
    · have hcy := crowdYes_q (b := b) (c := c) (e := e) (fr := fr) hR hc hcr
      by_cases h4 : 4000 < dat.length
      · rw [hdv]; exact (law5d_q hq (by omega) hcy (List.length_pos_iff.2 hne) h4).mono hs
      · obtain ⟨n0, more, rfl⟩ := List.exists_cons_of_ne_nil hne
        rw [hdv] at hd ⊢
        exact law5_q hR hc hc2 hq hcr hd (by omega)
    · rw [hdv]
      exact (law5c_q hq (by omega) (crowdNo_q hR hc (by omega) hcr)).mono hs
theorem law5_nil {p : Option Addr} (hd : RdB Cd dv dat) (hdl : dat.length ≤ 9223372036854775807) : QSpec Tryz.prog 5 [.slice p 0 c, dv, .bool inl] [] (.bool true) := by
  obtain ⟨pd, cd, hdv⟩ := hd.form
  rw [hdv]
  by_cases h1 : 2147483647 < dat.length
  · exact law5m_q h1 hdl
  · exact law5n_q (by omega)
end SL
end Go.Proofs.YtlmiekcmjpnobaaGreatDoor
