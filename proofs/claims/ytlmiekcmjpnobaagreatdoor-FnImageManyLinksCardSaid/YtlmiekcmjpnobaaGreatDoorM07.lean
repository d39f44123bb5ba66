/- Part 7 of the proof of the card of 'laws.FnImageManyLinks': it returns true at every input. No condition. Texts: WY WZ VA VB VC RK. -/
import Derived.Test.YtlmiekcmjpnobaaGreatDoorM06
namespace Go.Proofs.YtlmiekcmjpnobaaGreatDoor
open Go
namespace SL
set_option maxRecDepth 20000

theorem dirOut_len {xs : List UInt8} {l : List (Nat × List UInt8 × Nat)} (hn : ∀ e ∈ l, e.2.1.length ≤ 255) : xs.length + 12 ≤ (dirOut xs l).length ∧ (dirOut xs l).length ≤ xs.length + l.length * 4400 + 4096 := by
  have h := entsD_ok (st := (xs, 4096)) (l := l) ⟨by show 12 ≤ 4096; decide, by show 4096 ≤ 4096; decide⟩ hn
  have h2 := h.2
  simp only at h2
  rw [dirOut, List.length_append, zrec_length (by omega)]
  omega
variable {bW bN bD bPar bA bM bM2 bL cM k cap st pn pmo : Nat} {xs xs' : List UInt8} {v : Value} {E D RC : Chunk} {s : WS} {x xp y : WI} {ypf : Value → WI} {l : List Value} {fr : Nat × Nat} {x' : Value → WI} {dat : Value → Chunk → Prop} {m : MEs} {Nf Kf : List UInt8 → Nat}

set_option synthInstance.maxHeartbeats 400000 in
set_option maxHeartbeats 4000000 in
theorem wdirR0_s (F : FinS bW bN s v E xp D xs' x' dat) (hinA : s.inodes = Sl bA 0 k cap) (hk : k < 1000000) (h3 : s.max < 1099511627776) (hroom : xs'.length + 20000 ≤ s.max) (hfl : x.flags &&& 268435456 = 0) (hfl2 : x.flags < 4294967296) (hmode : x.mode < 65536) (hkids : x.kids = .map (some bM))
    (hxi : 1 ≤ x.num ∧ x.num ≤ k) (hxv : nth l (x.num - 1) = some (Pt bD)) (hypn : ∀ a, (ypf a).num = pn) (hypm : ∀ a, (ypf a).mode = pmo) (hpi : 1 ≤ pn ∧ pn ≤ k) (hpv : nth l (pn - 1) = some (Pt bPar)) (hpm : pmo < 65536) (hptg : ∀ a, (bPar = bD ∧ ypf a = x) ∨ (bPar = bN ∧ ypf a = x' a) ∨ (bPar, IOb (ypf a)) ∈ RC) :
    Spec Tryz.prog 101 [Pt bW, Pt bD, Pt bPar] [[(bA, .cells l.toArray 156 fr)], [(bM, .map (mE []) 0)], RC] [[(s.disk, DO v s.pos)], E, [(bW, WO s)], [(bN, IOb xp)], D, [(bD, IOb x)]]
      (fun r : ((Value × Chunk) × (Value × Chunk)) × (Value × Chunk) => dat r.1.2.1 r.1.2.2 ∧ DskOk r.2.1 r.2.2 (dirOut xs' [(x.num, [46], kindN x.mode), (pn, [46, 46], kindN pmo)])) (fun _ => .nilIface)
      (fun r => [[(s.disk, DO r.2.1 (dirOut xs' [(x.num, [46], kindN x.mode), (pn, [46, 46], kindN pmo)]).length)], r.2.2, [(bW, WO { s with pos := (dirOut xs' [(x.num, [46], kindN x.mode), (pn, [46, 46], kindN pmo)]).length, name := [], cur := Pt bD, dw := (dirOut xs' [(x.num, [46], kindN x.mode), (pn, [46, 46], kindN pmo)]).length - xs'.length, dm := (dirOut xs' [(x.num, [46], kindN x.mode), (pn, [46, 46], kindN pmo)]).length - xs'.length })], [(bN, IOb (x' r.1.2.1))], r.1.2.2, [(bD, IOb { x with size := (dirOut xs' [(x.num, [46], kindN x.mode), (pn, [46, 46], kindN pmo)]).length - xs'.length })]]) := by
  refine Spec.of Tryz.func101 rfl Tryz.ntmps101 (by simp) fun w => ?_
  refine T.sr <| Rl.e Ef.bx1 fun b4 hb4 => Rl.q (Qt.as (v := .nilIface)) <| Rl.nilK <| ?_
  refine T.seq ?_
  refine T.sr <| Rl.q Qt.mv <| Rl.q Qt.ld <| Rl.q Qt.mv <| Rl.e (Ef.call (S := wdir0_s (RC := RC) F hinA hk h3 hroom hfl hfl2 hmode hkids hxi hxv hypn hypm hpi hpv hpm hptg)) fun r hr => Rl.q Qt.as <| Rl.nilK <| ?_
  refine T.sr <| Rl.q Qt.mv <| Rl.q Qt.ineNil <| Rl.nilK <| ?_
  refine T.condF ?_
  refine T.skip <| Ex.K <| ?_
  refine T.sr <| Rl.e Ef.al1 fun b8 hb8 => Rl.nilK <| ?_
  refine T.seq ?_
  refine T.sr <| Rl.q Qt.ld <| Rl.q Qt.nc <| Rl.q Qt.fa <| Rl.q (Qt.to (u := .map (some bM)) Qt.ld (hkids)) <| Rl.e Ef.rg fun b28 hb28 => Rl.nilK <| ?_
  refine T.block ?_
  refine T.rounds 0 ?_
  refine T.sr <| Rl.nx mok0 (sn := []) (by simp) (fun e he hn => ?_) (fun hall => ?_)
  · exact absurd he (by simp)
  · refine Rl.q Qt.ex <| Rl.nilK <| ?_
    refine T.seq ?_
    refine T.condF ?_
    refine T.exit <| Ex.Kexit <| Ex.Rexit <| Ex.Bhit <| Ex.K <| ?_
    refine T.sr <| Rl.q Qt.mf <| Rl.q Qt.as <| Rl.nilK <| ?_
    refine T.seq ?_
    refine T.sr <| Rl.q (Qt.as (v := N .i64 1)) <| Rl.nilK <| ?_
    refine T.block ?_
    refine T.rounds 0 ?_
    refine T.seq ?_
    refine T.sr <| Rl.q Qt.mv <| Rl.q Qt.ld <| Rl.q Qt.len <| Rl.q (Qt.ltF (a := 1) (b := 0) (h := by decide)) <| Rl.nilK <| ?_
    refine T.condF ?_
    refine T.exit <| Ex.Kexit <| Ex.Rexit <| Ex.Bhit <| Ex.K <| ?_
    refine T.seq ?_
    refine T.sr <| Rl.q Qt.ld <| Rl.q Qt.len <| Rl.q (Qt.mv (v := N .i64 0)) <| Rl.nilK <| ?_
    refine T.block ?_
    refine T.rounds 0 ?_
    refine T.sr <| Rl.q (Qt.ltF (a := 0) (b := 0) (h := by decide)) <| Rl.nilK <| ?_
    refine T.seq ?_
    refine T.condF ?_
    refine T.exit <| Ex.Kexit <| Ex.Rexit <| Ex.Bhit <| Ex.K <| ?_
    refine T.sr <| Rl.q (Qt.as (v := .nilIface)) <| Rl.nilK <| ?_
    refine T.ret <| Ex.ret1 (.inl rfl) rfl ?_ rfl
    exact fun w h => ⟨r, hr, rfl, h.re⟩

abbrev dO1 (xs' : List UInt8) (x : WI) (Nf Kf : List UInt8 → Nat) (ns : List (List UInt8)) : List UInt8 := dirOut xs' ((x.num, [46], kindN x.mode) :: (x.num, [46, 46], kindN x.mode) :: ns.map (kidE Nf Kf))
abbrev dNb (xs' : List UInt8) (x : WI) (Nf Kf : List UInt8 → Nat) (ns : List (List UInt8)) : Nat := ((dO1 xs' x Nf Kf ns).length - xs'.length + 4095) / 4096
abbrev dO1p (xs' : List UInt8) (x : WI) (Nf Kf : List UInt8 → Nat) (ns : List (List UInt8)) (st : Nat) : List UInt8 := padZ (dO1 xs' x Nf Kf ns) ((st + dNb xs' x Nf Kf ns) * 4096)
abbrev dO2 (xs' : List UInt8) (x y : WI) (Nf Kf : List UInt8 → Nat) (ns : List (List UInt8)) (st : Nat) : List UInt8 := dirOut (dO1p xs' x Nf Kf ns st) [(y.num, [46], kindN y.mode), (x.num, [46, 46], kindN x.mode)]
theorem nodup_ix {α : Type} {l : List α} {i j : Nat} {a : α} (h : l.Nodup) (hi : l[i]? = some a) (hj : l[j]? = some a) : i = j := by
  obtain ⟨h1, h2⟩ := List.getElem?_eq_some_iff.1 hi
  obtain ⟨h3, h4⟩ := List.getElem?_eq_some_iff.1 hj
  have h5 := List.pairwise_iff_getElem.1 h
  rcases Nat.lt_trichotomy i j with h6 | h6 | h6
  · exact absurd (h2.trans h4.symm) (h5 i j h1 h3 h6)
  · exact h6
  · exact absurd (h4.trans h2.symm) (h5 j i h3 h1 h6)
theorem tgt2 (hgl : mget m lfN = some (Pt bL)) (hoth : ∀ nm ∈ m.map (·.1), nm ≠ lfN → mget m nm = some (Pt bN)) (hbd : bD ≠ bN ∧ bD ≠ bL) {nm : List UInt8} {b : Nat} {y1 x1 : WI} (hm : nm ∈ m.map (·.1)) (hg : mget m nm = some (Pt b)) (hT : TgP bD bN x x1 [(bL, IOb y)] b y1) :
    (b = bN ∧ y1 = x1) ∨ (b = bL ∧ IOb y1 = IOb y) := by
  rcases hT with ⟨h1, _⟩ | h | h
  · by_cases hl : nm = lfN
    · subst hl; rw [hgl] at hg; cases hg; exact absurd h1.symm hbd.2
    · rw [hoth nm hm hl] at hg; cases hg; exact absurd h1.symm hbd.1
  · exact .inl h
  · have := List.mem_singleton.1 h
    exact .inr ⟨congrArg Prod.fst this, congrArg Prod.snd this⟩
theorem less4_v {i j n cC b1 b2 b4 b13 bC bD bM cM : Nat} {l : List (List UInt8)} {na nb : List UInt8} {sp : List Value} {x y1 y2 : WI} {m : MEs} {r : Bool} (ha : l[i]? = some na) (hb : l[j]? = some nb) (hga : mget m na = some (Pt b1)) (hgb : mget m nb = some (Pt b2)) (hkids : x.kids = .map (some bM)) (hn : l.length = n) (hr : lessN y1.num y2.num na nb = r) :
    QSpec Tryz.prog 144 [N .i64 i, N .i64 j, Pt b4, Pt b13] [[(b4, .cells [Pt bD].toArray 156 (0, 0))], [(b13, .cells [Sl bC 0 n cC].toArray 53 (0, 0))], [(bC, .cells (l.map SV ++ sp).toArray 9 (0, 0))], [(bD, IOb x)], [(bM, .map (mE m) cM)], [(b1, IOb y1)], [(b2, IOb y2)]] (.bool r) :=
  hr ▸ less144_q ha hb hga hgb hkids hn

set_option synthInstance.maxHeartbeats 400000 in
set_option maxHeartbeats 8000000 in
theorem wdirR_s (F : FinS bW bN s v E xp D xs' x' dat) (hini : s.init = true) (hinA : s.inodes = Sl bA 0 k cap) (hk : k < 1000000) (h3 : s.max < 1099511627776) (hml : m.length < 20000) (hroom : xs'.length + m.length * 4400 + 90000 ≤ s.max) (hst : xs'.length = st * 4096) (hfl : x.flags &&& 268435456 = 0) (hfl2 : x.flags < 4294967296) (hmode : x.mode < 65536) (hkids : x.kids = .map (some bM)) (hbc : x.bc = 0)
    (hxi : 1 ≤ x.num ∧ x.num ≤ k) (hxv : nth l (x.num - 1) = some (Pt bD)) (hm0 : 0 < m.length) (hmok : MOk m cM) (hfile : ∀ a, (x' a).mode < 65536 ∧ (x' a).mode &&& 61440 ≠ 16384)
    (hlfl : y.flags &&& 268435456 = 0) (hlfl2 : y.flags < 4294967296) (hlmode : y.mode < 65536) (hldir : y.mode &&& 61440 = 16384) (hlkids : y.kids = .map (some bM2)) (hli : 1 ≤ y.num ∧ y.num ≤ k) (hlv : nth l (y.num - 1) = some (Pt bL))
    (hlf : lfN ∈ m.map (·.1)) (hgl : mget m lfN = some (Pt bL)) (hoth : ∀ nm ∈ m.map (·.1), nm ≠ lfN → mget m nm = some (Pt bN)) (hbd : bD ≠ bN ∧ bD ≠ bL)
    (hkid : ∀ a, ∀ nm ∈ m.map (·.1), Kid (TgP bD bN x (x' a) [(bL, IOb y)]) l k m nm (Nf nm) (Kf nm)) :
    Spec Tryz.prog 101 [Pt bW, Pt bD, Pt bD] [[(bA, .cells l.toArray 156 fr)], [(bM, .map (mE m) cM)], [(bM2, .map (mE []) 0)]] [[(s.disk, DO v s.pos)], E, [(bW, WO s)], [(bN, IOb xp)], D, [(bD, IOb x)], [(bL, IOb y)]]
      (fun r : (Value × Chunk) × (List (List UInt8) × ((Value × Chunk) × (Value × Chunk))) => dat r.1.1 r.1.2 ∧ NamesOk Nf m r.2.1 ∧ Own 5 1 r.2.2.2.1 60 (bc (ext1B st (dNb xs' x Nf Kf r.2.1))) r.2.2.2.2 ∧ DskOk r.2.2.1.1 r.2.2.1.2 (dO2 xs' x y Nf Kf r.2.1 st)) (fun _ => .nilIface)
      (fun r => [[(s.disk, DO r.2.2.1.1 (dO2 xs' x y Nf Kf r.2.1 st).length)], r.2.2.1.2, [(bW, WO { s with pos := (dO2 xs' x y Nf Kf r.2.1 st).length, name := [], cur := Pt bL, dw := (dO2 xs' x y Nf Kf r.2.1 st).length - (dO1p xs' x Nf Kf r.2.1 st).length, dm := (dO2 xs' x y Nf Kf r.2.1 st).length - (dO1p xs' x Nf Kf r.2.1 st).length })], [(bN, IOb (x' r.1.1))], r.1.2, [(bD, IOb { x with size := (dO1 xs' x Nf Kf r.2.1).length - xs'.length, data := r.2.2.2.1, flags := x.flags ||| 524288, bc := x.bc + (dNb xs' x Nf Kf r.2.1) })], r.2.2.2.2, [(bL, IOb { y with size := (dO2 xs' x y Nf Kf r.2.1 st).length - (dO1p xs' x Nf Kf r.2.1 st).length })]]) := by
  refine Spec.of Tryz.func101 rfl Tryz.ntmps101 (by simp) fun w => ?_
  refine T.sr <| Rl.e Ef.bx1 fun b4 hb4 => Rl.q (Qt.as (v := .nilIface)) <| Rl.nilK <| ?_
  refine T.seq ?_
  refine T.sr <| Rl.q Qt.mv <| Rl.q Qt.ld <| Rl.q Qt.mv <| Rl.e (Ef.call (S := wdirN_s (RC := [(bL, IOb y)]) F hinA hk h3 (by omega) (by omega) hfl hfl2 hmode hkids hxi hxv hxi hxv hmode (fun _ => .inl ⟨rfl, rfl⟩) hm0 hmok hkid)) fun r hr => Rl.q Qt.as <| Rl.nilK <| ?_
  refine T.sr <| Rl.q Qt.mv <| Rl.q Qt.ineNil <| Rl.nilK <| ?_
  refine T.condF ?_
  refine T.skip <| Ex.K <| ?_
  obtain ⟨hr1, hnok, hr2⟩ := hr
  obtain ⟨hoa, hob⟩ := dirOut_len (xs := xs') (l := (x.num, [46], kindN x.mode) :: (x.num, [46, 46], kindN x.mode) :: r.2.1.map (kidE Nf Kf)) (fun e he => by
    rcases List.mem_cons.1 he with rfl | he
    · show 1 ≤ 255; decide
    rcases List.mem_cons.1 he with rfl | he
    · show 2 ≤ 255; decide
    obtain ⟨q, hq, rfl⟩ := List.mem_map.1 he
    exact (hkid r.1.2.1 q (hnok.perm.mem_iff.1 hq)).len.2)
  have hoa : xs'.length + 12 ≤ (dO1 xs' x Nf Kf r.2.1).length := hoa
  have hob : (dO1 xs' x Nf Kf r.2.1).length ≤ xs'.length + (m.length + 2) * 4400 + 4096 := by rw [show m.length + 2 = ((x.num, [46], kindN x.mode) :: (x.num, [46, 46], kindN x.mode) :: r.2.1.map (kidE Nf Kf)).length by simp [hnok.perm.length_eq]]; exact hob
  have hbcx : x.bc + (dNb xs' x Nf Kf r.2.1) < 4294967296 := by rw [hbc]; show 0 + ((dO1 xs' x Nf Kf r.2.1).length - xs'.length + 4095) / 4096 < _; omega
  have hro2 : (dO1p xs' x Nf Kf r.2.1 st).length + 20000 ≤ s.max := by rw [padZ_length, show Nat.max (dO1 xs' x Nf Kf r.2.1).length ((st + (dNb xs' x Nf Kf r.2.1)) * 4096) = max (dO1 xs' x Nf Kf r.2.1).length ((st + (dNb xs' x Nf Kf r.2.1)) * 4096) from rfl]; show max _ ((st + ((dO1 xs' x Nf Kf r.2.1).length - xs'.length + 4095) / 4096) * 4096) + _ ≤ _; omega
  refine T.sr <| Rl.e Ef.al1 fun b8 hb8 => Rl.nilK <| ?_
  refine T.seq ?_
  refine T.sr <| Rl.q Qt.ld <| Rl.q Qt.nc <| Rl.q Qt.fa <| Rl.q (Qt.to (u := .map (some bM)) Qt.ld (hkids)) <| Rl.e Ef.rg fun b28 hb28 => Rl.nilK <| ?_
  refine T.block ?_
  refine T.add0 ?_
  refine T.loop (α := MEs × (Value × Chunk)) (fun z => [(0, Pt bW), (4, Pt b4), (8, Pt b8), (28, Pt b28)]) (fun z => [[(b8, .cells [z.2.1].toArray 53 (0, 0))], z.2.2, [(b28, .mapIter (some bM) cM (z.1.map (·.2.2)).toArray cM)], [(s.disk, DO r.2.2.1 (dO1 xs' x Nf Kf r.2.1).length)], r.2.2.2, [(bW, WO { s with pos := (dO1 xs' x Nf Kf r.2.1).length, name := [], cur := Pt bD, dw := (dO1 xs' x Nf Kf r.2.1).length - xs'.length, dm := (dO1 xs' x Nf Kf r.2.1).length - xs'.length })], [(bN, IOb (x' r.1.2.1))], r.1.2.2, [(bD, IOb { x with size := (dO1 xs' x Nf Kf r.2.1).length - xs'.length })], [(bL, IOb y)], [(b4, .cells [Pt bD].toArray 156 (0, 0))]]) (fun z => (∀ e ∈ z.1, e ∈ m) ∧ (z.1.map (·.2.2)).Nodup ∧ Own 9 1 z.2.1 z.1.length (z.1.map fun e => SV e.1) z.2.2) (fun z => m.length - z.1.length)
    ([], (.slice none 0 0, [])) ⟨fun e he => absurd he (by simp), List.nodup_nil, Own.nil 9 1⟩ ?_ (fun z hz => ?_)
  · exact .cons rfl <| .cons rfl <| .cons rfl <| .cons rfl <| .nil
  obtain ⟨es, ve, Ee⟩ := z
  obtain ⟨hes1, hes2, heso⟩ := hz
  have hes1 : ∀ e ∈ es, e ∈ m := hes1
  have hes2 : (es.map (·.2.2)).Nodup := hes2
  have heso : Own 9 1 ve es.length (es.map fun e => SV e.1) Ee := heso
  have hesl : es.length ≤ m.length := by have h := List.Nodup.length_le_of_subset hes2 (l₂ := m.map (·.2.2)) (fun q hq => by obtain ⟨e, he, rfl⟩ := List.mem_map.1 hq; exact List.mem_map_of_mem (hes1 e he)); simpa using h
  refine T.sr <| Rl.nx hmok (sn := es.map (·.2.2)) (fun q hq => by obtain ⟨f, hf, rfl⟩ := List.mem_map.1 hq; exact List.mem_map_of_mem (hes1 f hf)) (fun e he hn => ?_) (fun hall => ?_)
  · refine Rl.q Qt.ex <| Rl.nilK <| ?_
    refine T.seq ?_
    refine T.condT ?_
    refine T.skip <| Ex.K <| ?_
    refine T.block ?_
    refine T.sr <| Rl.q (Qt.en (he := he) (hok := hmok)) <| Rl.q Qt.ex <| Rl.q Qt.as <| Rl.nilK <| ?_
    refine T.region <| Rl.q Qt.ld <| Rl.q Qt.mv <| Rl.e Ef.bs fun b35 hb35 => Rl.e (Ef.ap (own := heso) (vs := [SV e.1])) fun v36 hv36 => Rl.e0 Ef.st1 fun _ _ => Rl.nil <| Ex.Bnormal <| ?_
    have hnx1 : ∀ f ∈ es ++ [e], f ∈ m := fun f hf => by rcases List.mem_append.1 hf with h | h; exact hes1 f h; rw [List.mem_singleton.1 h]; exact he
    have hnx2 : ((es ++ [e]).map (·.2.2)).Nodup := by rw [List.map_append, List.map_singleton]; exact List.nodup_append.2 ⟨hes2, List.nodup_cons.2 ⟨by simp, List.nodup_nil⟩, fun a ha b hb => by rw [List.mem_singleton.1 hb]; exact fun h => hn (h ▸ ha)⟩
    have hlx : es.length < m.length := by have h := List.Nodup.length_le_of_subset hnx2 (l₂ := m.map (·.2.2)) (fun q hq => by obtain ⟨f, hf, rfl⟩ := List.mem_map.1 hq; exact List.mem_map_of_mem (hnx1 f hf)); simp at h; omega
    rw [show es.map (·.2.2) ++ [e.2.2] = (es ++ [e]).map (·.2.2) by simp]
    exact Ex.next (es ++ [e], (v36.1, v36.2)) ⟨hnx1, hnx2, by simpa using hv36⟩ (by show m.length - (es ++ [e]).length < m.length - es.length; rw [List.length_append, List.length_singleton]; omega) (.cons rfl <| .cons rfl <| .cons rfl <| .cons rfl <| .nil)
  · refine Rl.q Qt.ex <| Rl.nilK <| ?_
    refine T.seq ?_
    refine T.condF ?_
    refine T.exit <| Ex.Kexit <| Ex.Lexit <| Ex.Bhit <| Ex.K <| ?_
    have hperm := seen_perm hmok hes1 hes2 hall
    have hlen := hperm.length_eq
    obtain ⟨bC, cC, spC, hvC, hcC, hcC2, hEC, hspC⟩ := heso.some (by omega)
    rw [hvC, hEC]
    obtain ⟨n, hn⟩ : ∃ n, n = es.length := ⟨_, rfl⟩
    obtain ⟨l0, hl0⟩ : ∃ q, q = es.map (·.1) := ⟨_, rfl⟩
    have hl0p : l0.Perm (m.map (·.1)) := by rw [hl0]; exact hperm.map _
    have hl0n : l0.length = n := by rw [hl0, List.length_map, hn]
    rw [show (es.map fun e => SV e.1) = l0.map SV by rw [hl0, List.map_map]; rfl, ← hn]
    have hn1 : 1 ≤ n := by omega
    have hnm : n = m.length := by omega
    clear heso hall hspC hvC hEC
    simp only [maxLen] at hcC2
    refine T.sr <| Rl.q Qt.mf <| Rl.q Qt.as <| Rl.nilK <| ?_
    refine T.seq ?_
    refine T.sr <| Rl.q (Qt.as (v := N .i64 1)) <| Rl.nilK <| ?_
    refine T.block ?_
    refine T.loop (α := Nat × List (List UInt8)) (fun z => [(0, Pt bW), (4, Pt b4), (8, Pt b8), (10, .func (.func 144) #[] #[Pt b4, Pt b8]), (11, N .i64 z.1)]) (fun z => [[(b8, .cells [Sl bC 0 n cC].toArray 53 (0, 0))], [(bC, .cells (z.2.map SV ++ spC).toArray 9 (0, 0))], [(s.disk, DO r.2.2.1 (dO1 xs' x Nf Kf r.2.1).length)], r.2.2.2, [(bW, WO { s with pos := (dO1 xs' x Nf Kf r.2.1).length, name := [], cur := Pt bD, dw := (dO1 xs' x Nf Kf r.2.1).length - xs'.length, dm := (dO1 xs' x Nf Kf r.2.1).length - xs'.length })], [(bN, IOb (x' r.1.2.1))], r.1.2.2, [(bD, IOb { x with size := (dO1 xs' x Nf Kf r.2.1).length - xs'.length })], [(bL, IOb y)], [(b4, .cells [Pt bD].toArray 156 (0, 0))]]) (fun z => 1 ≤ z.1 ∧ z.1 ≤ n ∧ z.2.Perm l0) (fun z => n - z.1)
      (1, l0) ⟨Nat.le_refl _, hn1, .refl _⟩ ?_ (fun z hz => ?_)
    · exact .cons rfl <| .cons rfl <| .cons rfl <| .cons rfl <| .cons rfl <| .nil
    refine T.seq ?_
    obtain ⟨i, li⟩ := z
    obtain ⟨hi1, hi2, hlip⟩ := hz
    have hi1 : 1 ≤ i := hi1
    have hi2 : i ≤ n := hi2
    have hlip : li.Perm l0 := hlip
    have hlil : li.length = n := by rw [hlip.length_eq, hl0n]
    refine T.sr <| Rl.q Qt.mv <| Rl.q Qt.ld <| Rl.q Qt.len <| Rl.ltS (fun h41 => ?_) (fun h41 => ?_)
    · refine Rl.nilK <| ?_
      refine T.condT ?_
      refine T.skip <| Ex.K <| ?_
      refine T.seq ?_
      refine T.block ?_
      refine T.sr <| Rl.q Qt.mv <| Rl.q Qt.as <| Rl.nilK <| ?_
      refine T.block ?_
      refine T.loop (α := Nat × List (List UInt8)) (fun z => [(0, Pt bW), (4, Pt b4), (8, Pt b8), (10, .func (.func 144) #[] #[Pt b4, Pt b8]), (11, N .i64 i), (12, N .i64 z.1)]) (fun z => [[(b8, .cells [Sl bC 0 n cC].toArray 53 (0, 0))], [(bC, .cells (z.2.map SV ++ spC).toArray 9 (0, 0))], [(s.disk, DO r.2.2.1 (dO1 xs' x Nf Kf r.2.1).length)], r.2.2.2, [(bW, WO { s with pos := (dO1 xs' x Nf Kf r.2.1).length, name := [], cur := Pt bD, dw := (dO1 xs' x Nf Kf r.2.1).length - xs'.length, dm := (dO1 xs' x Nf Kf r.2.1).length - xs'.length })], [(bN, IOb (x' r.1.2.1))], r.1.2.2, [(bD, IOb { x with size := (dO1 xs' x Nf Kf r.2.1).length - xs'.length })], [(bL, IOb y)], [(b4, .cells [Pt bD].toArray 156 (0, 0))]]) (fun z => z.1 ≤ i ∧ z.2.length = n ∧ z.2.Perm l0) (fun z => z.1)
        (i, li) ⟨Nat.le_refl _, hlil, hlip⟩ ?_ (fun z hz => ?_)
      · exact .cons rfl <| .cons rfl <| .cons rfl <| .cons rfl <| .cons rfl <| .cons rfl <| .nil
      refine T.seq ?_
      obtain ⟨jj, lj⟩ := z
      obtain ⟨hj1, hjl, hjp⟩ := hz
      have hj1 : jj ≤ i := hj1
      have hjl : lj.length = n := hjl
      have hjp : lj.Perm l0 := hjp
      have h41 : i < n := h41
      have hc : jj = 0 ∨ (∃ j a b, jj = j + 1 ∧ lj[j + 1]? = some a ∧ lj[j]? = some b ∧ lessK Nf a b = true) ∨ (∃ j a b, jj = j + 1 ∧ lj[j + 1]? = some a ∧ lj[j]? = some b ∧ lessK Nf a b = false) := by
        rcases Nat.eq_zero_or_pos jj with h | h
        · exact .inl h
        · have e1 : lj[jj - 1 + 1]? = some (lj[jj - 1 + 1]'(by omega)) := List.getElem?_eq_getElem _
          have e2 : lj[jj - 1]? = some (lj[jj - 1]'(by omega)) := List.getElem?_eq_getElem _
          cases hK : lessK Nf (lj[jj - 1 + 1]'(by omega)) (lj[jj - 1]'(by omega)) with
          | true => exact .inr (.inl ⟨jj - 1, _, _, by omega, e1, e2, hK⟩)
          | false => exact .inr (.inr ⟨jj - 1, _, _, by omega, e1, e2, hK⟩)
      rcases hc with hj0 | ⟨j, a, b, rfl, hja, hjb, hK⟩ | ⟨j, a, b, rfl, hja, hjb, hK⟩
      · subst hj0
        refine T.sr <| Rl.q Qt.mv <| Rl.q (Qt.gtF (b := 0) (h := Nat.le_refl 0)) <| Rl.q Qt.mv <| Rl.gf <| Rl.gf <| Rl.gf <| Rl.gf <| Rl.gf <| Rl.q (Qt.pkF (v := .bool false)) <| ?_
        refine Rl.nilK <| ?_
        refine T.condF ?_
        refine T.exit <| Ex.Kexit <| Ex.Lexit <| Ex.Bhit <| Ex.Bnormal <| Ex.K <| ?_
        refine T.region <| Rl.q Qt.mv <| Rl.q (Qt.add (b := 1)) <| Rl.q Qt.as <| Rl.nil <| ?_
        exact Ex.next (i + 1, lj) ⟨by omega, by omega, hjp⟩ (by show n - (i + 1) < n - i; omega) (.cons rfl <| .cons rfl <| .cons rfl <| .cons rfl <| .cons rfl <| .nil)
      · have hma : a ∈ m.map (·.1) := hl0p.mem_iff.1 (hjp.mem_iff.1 (List.mem_of_getElem? hja))
        have hmb : b ∈ m.map (·.1) := hl0p.mem_iff.1 (hjp.mem_iff.1 (List.mem_of_getElem? hjb))
        obtain ⟨b1, y1, hg1, hT1, hyn1, _, _, _⟩ := (hkid r.1.2.1 a hma).get
        obtain ⟨b2, y2, hg2, hT2, hyn2, _, _, _⟩ := (hkid r.1.2.1 b hmb).get
        rw [lessK, ← hyn1, ← hyn2] at hK
        have hT1 : (b1 = bN ∧ y1 = x' r.1.2.1) ∨ (b1 = bL ∧ IOb y1 = IOb y) := tgt2 hgl hoth hbd hma hg1 hT1
        have hT2 : (b2 = bN ∧ y2 = x' r.1.2.1) ∨ (b2 = bL ∧ IOb y2 = IOb y) := tgt2 hgl hoth hbd hmb hg2 hT2
        have hjlt := (List.getElem?_eq_some_iff.1 hja).1
        have hjb1 : nth (lj.map SV ++ spC) (0 + j) = some (SV b) := by rw [Nat.zero_add]; exact nth_app (by rw [nth_eq, List.getElem?_map, hjb]; rfl)
        have hja1 : nth (lj.map SV ++ spC) (0 + (j + 1)) = some (SV a) := by rw [Nat.zero_add]; exact nth_app (by rw [nth_eq, List.getElem?_map, hja]; rfl)
        refine T.sr <| Rl.q Qt.mv <| Rl.q (Qt.gtT (b := 0)) <| Rl.q Qt.mv <| Rl.gt <| Rl.q Qt.mv <| Rl.gt <| Rl.q Qt.mv <| ?_
        refine Rl.gt <| Rl.q Qt.mv <| Rl.gt <| Rl.q (Qt.sub (b := 1)) <| Rl.gt <| Rl.e (Ef.qcallC (S := less4_v (bC := bC) (cC := cC) (bD := bD) (x := { x with size := (dO1 xs' x Nf Kf r.2.1).length - xs'.length }) (l := lj) (sp := spC) (na := a) (nb := b) (b1 := b1) (b2 := b2) (y1 := y1) (y2 := y2) (m := m) (cM := cM) hja hjb hg1 hg2 hkids hjl hK) (hr := by (rcases hT1 with ⟨e1, e2⟩ | ⟨e1, e2⟩ <;> rw [e1, e2]) <;> (rcases hT2 with ⟨e1, e2⟩ | ⟨e1, e2⟩ <;> rw [e1, e2]) <;> infer_instance)) fun _ _ => Rl.q Qt.pkT <| Rl.nilK <| ?_
        refine T.condT ?_
        refine T.skip <| Ex.K <| ?_
        refine T.seq ?_
        refine T.block ?_
        have hs1w : putL (lj.map SV ++ spC) (0 + (j + 1)) (vcells (SV b)) = (lj.set (j + 1) b).map SV ++ spC := by rw [Nat.zero_add]; exact row_set hjlt
        have hs3w : putL ((lj.set (j + 1) b).map SV ++ spC) (0 + (j + 1 - 1)) (vcells (SV a)) = ((lj.set (j + 1) b).set j a).map SV ++ spC := by rw [Nat.zero_add, Nat.add_sub_cancel]; exact row_set (by rw [List.length_set]; omega)
        refine T.dr [15, 16, 17] ?_ mixed
        refine Dr.qs [0, 1, 3, 4, 5, 6, 7, 8, 9, 10, 11, 12, 13, 14] [false, false, true, true] ?_
        refine Dq.q Qt.ld <| Dq.q Qt.mv <| Dq.p Qt.mv <| Dq.p (Qt.sub (b := 1)) <| Dq.q Qt.ld <| Dq.q Qt.mv <| Dq.q (Qt.sub (b := 1)) <| Dq.q Qt.ia1 <| ?_
        refine Dq.q (Qt.ld (v := SV b) (hv := hjb1)) <| Dq.q Qt.ld <| Dq.q Qt.mv <| Dq.q Qt.ia1 <| Dq.q (Qt.ld (v := SV a) (hv := hja1)) <| Dq.q Qt.ia1 <| Dq.nil <| ?_
        refine Dr.e2 2 15 ?_ ?_
        · refine Eo.q rfl Qt.ld <| ?_
          refine Dr.e 15 <| Eo.e0 rfl (Ef.st (hc := ⟨rfl, by show 0 + (j + 1) + 1 ≤ _; simp only [List.length_append, List.length_map]; omega, rfl⟩)) fun _ _ => ?_
          refine Dr.reset [17] ?_
          refine Dr.qs [16] [] ?_
          refine Dq.q Qt.ia1 <| Dq.nil <| ?_
          refine Dr.e 17 <| Eo.e0 rfl (Ef.st (hc := ⟨rfl, by show 0 + (j + 1 - 1) + 1 ≤ _; show _ ≤ (putL (lj.map SV ++ spC) (0 + (j + 1)) (vcells (SV b))).length; rw [hs1w]; simp only [List.length_append, List.length_map, List.length_set]; omega, rfl⟩)) fun _ _ => Dr.nil <| Ex.Bnormal <| Ex.K <| ?_
          rw [hs1w, hs3w]
          refine T.region <| Rl.q Qt.mv <| Rl.q (Qt.sub (b := 1)) <| Rl.q Qt.as <| Rl.nil <| ?_
          have hswp : ((lj.set (j + 1) b).set j a).Perm l0 := by
            obtain ⟨pr, po, rfl, hp⟩ := split2 hja hjb
            rw [swap_eq hp]
            exact (List.Perm.append_left pr (.swap ..)).trans hjp
          exact Ex.next (j, (lj.set (j + 1) b).set j a) ⟨by omega, by rw [List.length_set, List.length_set]; exact hjl, hswp⟩ (by show j < j + 1; omega) (.cons rfl <| .cons rfl <| .cons rfl <| .cons rfl <| .cons rfl <| .cons rfl <| .nil)
        · refine Eo.e0 rfl (Ef.st (hc := ⟨rfl, by show 0 + (j + 1) + 1 ≤ _; simp only [List.length_append, List.length_map]; omega, rfl⟩)) fun _ _ => ?_
          refine Dr.reset [17] ?_
          refine Dr.e 2 <| Eo.q rfl Qt.ld <| ?_
          refine Dr.e 16 <| Eo.q rfl Qt.ia1 <| ?_
          refine Dr.e 17 <| Eo.e0 rfl (Ef.st (hc := ⟨rfl, by show 0 + (j + 1 - 1) + 1 ≤ _; show _ ≤ (putL (lj.map SV ++ spC) (0 + (j + 1)) (vcells (SV b))).length; rw [hs1w]; simp only [List.length_append, List.length_map, List.length_set]; omega, rfl⟩)) fun _ _ => Dr.nil <| Ex.Bnormal <| Ex.K <| ?_
          rw [hs1w, hs3w]
          refine T.region <| Rl.q Qt.mv <| Rl.q (Qt.sub (b := 1)) <| Rl.q Qt.as <| Rl.nil <| ?_
          have hswp : ((lj.set (j + 1) b).set j a).Perm l0 := by
            obtain ⟨pr, po, rfl, hp⟩ := split2 hja hjb
            rw [swap_eq hp]
            exact (List.Perm.append_left pr (.swap ..)).trans hjp
          exact Ex.next (j, (lj.set (j + 1) b).set j a) ⟨by omega, by rw [List.length_set, List.length_set]; exact hjl, hswp⟩ (by show j < j + 1; omega) (.cons rfl <| .cons rfl <| .cons rfl <| .cons rfl <| .cons rfl <| .cons rfl <| .nil)
      · have hma : a ∈ m.map (·.1) := hl0p.mem_iff.1 (hjp.mem_iff.1 (List.mem_of_getElem? hja))
        have hmb : b ∈ m.map (·.1) := hl0p.mem_iff.1 (hjp.mem_iff.1 (List.mem_of_getElem? hjb))
        obtain ⟨b1, y1, hg1, hT1, hyn1, _, _, _⟩ := (hkid r.1.2.1 a hma).get
        obtain ⟨b2, y2, hg2, hT2, hyn2, _, _, _⟩ := (hkid r.1.2.1 b hmb).get
        rw [lessK, ← hyn1, ← hyn2] at hK
        have hT1 : (b1 = bN ∧ y1 = x' r.1.2.1) ∨ (b1 = bL ∧ IOb y1 = IOb y) := tgt2 hgl hoth hbd hma hg1 hT1
        have hT2 : (b2 = bN ∧ y2 = x' r.1.2.1) ∨ (b2 = bL ∧ IOb y2 = IOb y) := tgt2 hgl hoth hbd hmb hg2 hT2
        have hjlt := (List.getElem?_eq_some_iff.1 hja).1
        have hjb1 : nth (lj.map SV ++ spC) (0 + j) = some (SV b) := by rw [Nat.zero_add]; exact nth_app (by rw [nth_eq, List.getElem?_map, hjb]; rfl)
        have hja1 : nth (lj.map SV ++ spC) (0 + (j + 1)) = some (SV a) := by rw [Nat.zero_add]; exact nth_app (by rw [nth_eq, List.getElem?_map, hja]; rfl)
        refine T.sr <| Rl.q Qt.mv <| Rl.q (Qt.gtT (b := 0)) <| Rl.q Qt.mv <| Rl.gt <| Rl.q Qt.mv <| Rl.gt <| Rl.q Qt.mv <| ?_
        refine Rl.gt <| Rl.q Qt.mv <| Rl.gt <| Rl.q (Qt.sub (b := 1)) <| Rl.gt <| Rl.e (Ef.qcallC (S := less4_v (bC := bC) (cC := cC) (bD := bD) (x := { x with size := (dO1 xs' x Nf Kf r.2.1).length - xs'.length }) (l := lj) (sp := spC) (na := a) (nb := b) (b1 := b1) (b2 := b2) (y1 := y1) (y2 := y2) (m := m) (cM := cM) hja hjb hg1 hg2 hkids hjl hK) (hr := by (rcases hT1 with ⟨e1, e2⟩ | ⟨e1, e2⟩ <;> rw [e1, e2]) <;> (rcases hT2 with ⟨e1, e2⟩ | ⟨e1, e2⟩ <;> rw [e1, e2]) <;> infer_instance)) fun _ _ => Rl.q Qt.pkT <| Rl.nilK <| ?_
        refine T.condF ?_
        refine T.exit <| Ex.Kexit <| Ex.Lexit <| Ex.Bhit <| Ex.Bnormal <| Ex.K <| ?_
        refine T.region <| Rl.q Qt.mv <| Rl.q (Qt.add (b := 1)) <| Rl.q Qt.as <| Rl.nil <| ?_
        exact Ex.next (i + 1, lj) ⟨by omega, by omega, hjp⟩ (by show n - (i + 1) < n - i; omega) (.cons rfl <| .cons rfl <| .cons rfl <| .cons rfl <| .cons rfl <| .nil)
    · refine Rl.nilK <| ?_
      refine T.condF ?_
      refine T.exit <| Ex.Kexit <| Ex.Lexit <| Ex.Bhit <| Ex.K <| ?_
      refine T.seq ?_
      have h41 : n ≤ i := h41
      obtain rfl : n = i := by omega
      obtain ⟨ls, rfl⟩ : ∃ q, q = li := ⟨_, rfl⟩
      have hlsm : ∀ q ∈ ls, q ∈ m.map (·.1) := fun q hq => hl0p.mem_iff.1 (hlip.mem_iff.1 hq)
      obtain ⟨p, hp⟩ : ∃ p, ls[p]? = some lfN := List.mem_iff_getElem?.1 (hlip.mem_iff.2 (hl0p.mem_iff.2 hlf))
      have hpn : p < n := by have := (List.getElem?_eq_some_iff.1 hp).1; omega
      have hlsu : ∀ i, ls[i]? = some lfN → i = p := fun i hi => by
        have h1 := (List.getElem?_eq_some_iff.1 hi)
        have h2 := (List.getElem?_eq_some_iff.1 hp)
        exact nodup_ix (((hlip.trans hl0p).nodup_iff).2 hmok.keys) hi hp
      obtain ⟨xsF, hxF, hxT⟩ : ∃ f : Bool → List UInt8, f false = (dO1 xs' x Nf Kf r.2.1) ∧ f true = (dO2 xs' x y Nf Kf r.2.1 st) := ⟨fun b => if b then _ else _, rfl, rfl⟩
      obtain ⟨sF, hsF, hsT⟩ : ∃ f : Bool → WS, f false = { s with pos := (dO1 xs' x Nf Kf r.2.1).length, name := [], cur := Pt bD, dw := (dO1 xs' x Nf Kf r.2.1).length - xs'.length, dm := (dO1 xs' x Nf Kf r.2.1).length - xs'.length } ∧ f true = { s with pos := (dO2 xs' x y Nf Kf r.2.1 st).length, name := [], cur := Pt bL, dw := (dO2 xs' x y Nf Kf r.2.1 st).length - (dO1p xs' x Nf Kf r.2.1 st).length, dm := (dO2 xs' x y Nf Kf r.2.1 st).length - (dO1p xs' x Nf Kf r.2.1 st).length } := ⟨fun b => if b then _ else _, rfl, rfl⟩
      obtain ⟨xF, hXF, hXT⟩ : ∃ f : Bool → Value → WI, (∀ a, f false a = { x with size := (dO1 xs' x Nf Kf r.2.1).length - xs'.length }) ∧ (∀ a, f true a = { x with size := (dO1 xs' x Nf Kf r.2.1).length - xs'.length, data := a, flags := x.flags ||| 524288, bc := x.bc + (dNb xs' x Nf Kf r.2.1) }) := ⟨fun b a => if b then { x with size := (dO1 xs' x Nf Kf r.2.1).length - xs'.length, data := a, flags := x.flags ||| 524288, bc := x.bc + (dNb xs' x Nf Kf r.2.1) } else _, fun _ => rfl, fun _ => rfl⟩
      obtain ⟨yF, hyF, hyT⟩ : ∃ f : Bool → WI, f false = y ∧ f true = { y with size := (dO2 xs' x y Nf Kf r.2.1 st).length - (dO1p xs' x Nf Kf r.2.1 st).length } := ⟨fun b => if b then _ else _, rfl, rfl⟩
      rw [← hsF, ← hXF nilP, ← hxF, ← hyF]
      refine T.add0 ?_
      refine T.sr <| Rl.q Qt.ld <| Rl.q Qt.len <| Rl.q (Qt.mv (v := N .i64 0)) <| Rl.nilK <| ?_
      refine T.block ?_
      refine T.loop (α := Nat × (Bool × ((Value × Chunk) × (Value × Chunk)))) (fun z => [(0, Pt bW), (4, Pt b4), (8, Pt b8), (72, Sl bC 0 n cC), (73, N .i64 n), (74, N .i64 z.1)]) (fun z => [[(b8, .cells [Sl bC 0 n cC].toArray 53 (0, 0))], [(bC, .cells (ls.map SV ++ spC).toArray 9 (0, 0))], [(s.disk, DO z.2.2.1.1 (xsF z.2.1).length)], z.2.2.1.2, [(bW, WO (sF z.2.1))], [(bN, IOb (x' r.1.2.1))], r.1.2.2, [(bD, IOb (xF z.2.1 z.2.2.2.1))], z.2.2.2.2, [(bL, IOb (yF z.2.1))], [(b4, .cells [Pt bD].toArray 156 (0, 0))]]) (fun z => z.1 ≤ n ∧ ((z.1 ≤ p ∧ z.2 = (false, ((r.2.2.1, r.2.2.2), (nilP, [])))) ∨ (p < z.1 ∧ z.2.1 = true ∧ Own 5 1 z.2.2.2.1 60 (bc (ext1B st (dNb xs' x Nf Kf r.2.1))) z.2.2.2.2 ∧ DskOk z.2.2.1.1 z.2.2.1.2 (dO2 xs' x y Nf Kf r.2.1 st)))) (fun z => n - z.1)
        (0, (false, ((r.2.2.1, r.2.2.2), (nilP, [])))) ⟨Nat.zero_le _, .inl ⟨Nat.zero_le _, rfl⟩⟩ ?_ (fun z hz => ?_)
      · exact .cons rfl <| .cons rfl <| .cons rfl <| .cons rfl <| .cons rfl <| .cons rfl <| .nil
      refine T.sr <| Rl.ltS (fun h75 => ?_) (fun h75 => ?_)
      · refine Rl.nilK <| ?_
        refine T.seq ?_
        refine T.condT ?_
        refine T.skip <| Ex.K <| ?_
        refine T.seq ?_
        refine T.block ?_
        obtain ⟨i, fl, ⟨vi, Ei⟩, ⟨ai, Di⟩⟩ := z
        obtain ⟨hi, hz⟩ := hz
        have hi : i ≤ n := hi
        have h75 : i < n := h75
        obtain ⟨nm, hnm0⟩ : ∃ q, ls[i]? = some q := ⟨_, List.getElem?_eq_getElem (by omega)⟩
        have hnm1 : nth (ls.map SV ++ spC) (0 + i) = some (SV nm) := by rw [Nat.zero_add]; exact nth_app (by rw [nth_eq, List.getElem?_map, hnm0]; rfl)
        have hnmm := hlsm nm (List.mem_of_getElem? hnm0)
        have hXk : (xF fl ai).kids = .map (some bM) := by cases fl; rw [hXF]; exact hkids; rw [hXT]; exact hkids
        have hcs : (nm = lfN ∧ i = p ∧ fl = false ∧ vi = r.2.2.1 ∧ Ei = r.2.2.2 ∧ ai = nilP ∧ Di = []) ∨ (nm ≠ lfN ∧ mget m nm = some (Pt bN) ∧ ((i + 1 ≤ p ∧ (fl, ((vi, Ei), (ai, Di))) = (false, ((r.2.2.1, r.2.2.2), (nilP, [])))) ∨ (p < i + 1 ∧ fl = true ∧ Own 5 1 ai 60 (bc (ext1B st (dNb xs' x Nf Kf r.2.1))) Di ∧ DskOk vi Ei (dO2 xs' x y Nf Kf r.2.1 st)))) := by
          by_cases hnl : nm = lfN
          · have hip := hlsu i (hnl ▸ hnm0)
            rcases hz with ⟨h1, h2⟩ | ⟨h1, h2⟩
            · cases h2; exact .inl ⟨hnl, hip, rfl, rfl, rfl, rfl, rfl⟩
            · exact absurd hip (Nat.ne_of_gt h1)
          · have hip : i ≠ p := fun h => by rw [h, hp] at hnm0; exact hnl (Option.some.inj hnm0).symm
            refine .inr ⟨hnl, hoth nm hnmm hnl, ?_⟩
            rcases hz with ⟨h1, h2⟩ | ⟨h1, h2⟩
            · have h1 : i ≤ p := h1; exact .inl ⟨by omega, h2⟩
            · have h1 : p < i := h1; exact .inr ⟨by omega, h2⟩
        rcases hcs with ⟨hnl, hip, hf1, hf2, hf3, hf4, hf5⟩ | ⟨hnl, hgn, hzn⟩
        · subst hf1 hf2 hf3 hf4 hf5
          rw [hxF, hsF, hXF, hyF]
          refine T.sr <| Rl.q Qt.ia1 <| Rl.q (Qt.ld (v := SV nm) (hv := hnm1)) <| Rl.q Qt.as <| Rl.nilK <| ?_
          refine T.sr <| Rl.q Qt.ld <| Rl.q Qt.nc <| Rl.q Qt.fa <| Rl.q (Qt.to (u := .map (some bM)) Qt.ld (hkids)) <| Rl.q Qt.mv <| Rl.q (Qt.to (u := Pt bL) (Qt.lk (hv := rfl)) (by rw [hnl, hgl]; rfl)) <| Rl.q Qt.as <| ?_
          refine Rl.nilK <| ?_
          refine T.sr <| Rl.q Qt.mv <| Rl.e (Ef.qcall (S := isDirT_q (x := y) hlmode hldir)) fun _ _ => Rl.nilK <| ?_
          refine T.condT ?_
          refine T.sr <| Rl.q Qt.mv <| Rl.q Qt.mv <| Rl.q Qt.ld <| Rl.e (Ef.call (S := wdirR0_s (RC := []) (pn := x.num) (pmo := x.mode) (s := { s with pos := (dO1 xs' x Nf Kf r.2.1).length, name := [], cur := Pt bD, dw := (dO1 xs' x Nf Kf r.2.1).length - xs'.length, dm := (dO1 xs' x Nf Kf r.2.1).length - xs'.length }) (x := y) (ypf := fun a => { x with size := (dO1 xs' x Nf Kf r.2.1).length - xs'.length, data := a, flags := x.flags ||| 524288, bc := x.bc + (dNb xs' x Nf Kf r.2.1) }) (xp := { x with size := (dO1 xs' x Nf Kf r.2.1).length - xs'.length }) (D := []) (bN := bD) (bPar := bD) (bD := bL) (bM := bM2) (xs' := (dO1p xs' x Nf Kf r.2.1 st)) (x' := fun a => { x with size := (dO1 xs' x Nf Kf r.2.1).length - xs'.length, data := a, flags := x.flags ||| 524288, bc := x.bc + (dNb xs' x Nf Kf r.2.1) }) (finS_ext (bW := bW) (bN := bD) (s := { s with pos := (dO1 xs' x Nf Kf r.2.1).length, name := [], cur := Pt bD, dw := (dO1 xs' x Nf Kf r.2.1).length - xs'.length, dm := (dO1 xs' x Nf Kf r.2.1).length - xs'.length }) (x := { x with size := (dO1 xs' x Nf Kf r.2.1).length - xs'.length }) (nb := (dNb xs' x Nf Kf r.2.1)) (st := st) hini rfl rfl hr2 rfl (by show (dO1 xs' x Nf Kf r.2.1).length = st * 4096 + ((dO1 xs' x Nf Kf r.2.1).length - xs'.length); omega) (by show 0 < (dO1 xs' x Nf Kf r.2.1).length - xs'.length; omega) (by show (dO1 xs' x Nf Kf r.2.1).length - xs'.length ≤ 134217728; omega) rfl (by show (dO1 xs' x Nf Kf r.2.1).length + 4096 ≤ s.max; omega) h3 hbcx hfl2 hfl) hinA hk h3 hro2 hlfl hlfl2 hlmode hlkids hli hlv (fun _ => rfl) (fun _ => rfl) hxi hxv hmode (fun _ => .inr (.inl ⟨rfl, rfl⟩))) (hr := ⟨fun p hp => .inr (by rcases List.mem_cons.1 (show p ∈ [_, _] from hp) with e | hp; (rw [e]; exact List.mem_cons_self ..); (rw [List.mem_singleton.1 hp]; exact List.mem_cons_of_mem _ (List.mem_cons_of_mem _ (List.mem_cons_self ..))))⟩)) fun q hq => Rl.q Qt.as <| Rl.nilK <| ?_
          refine T.sr <| Rl.q Qt.mv <| Rl.q Qt.ineNil <| Rl.nilK <| ?_
          refine T.condF ?_
          refine T.skip <| Ex.Bnormal <| Ex.K <| ?_
          refine T.region <| Rl.q (Qt.add (b := 1)) <| Rl.q Qt.mv <| Rl.nil <| ?_
          subst hip
          rw [show dirOut (dO1p xs' x Nf Kf r.2.1 st) [(y.num, [46], kindN y.mode), (x.num, [46, 46], kindN x.mode)] = (dO2 xs' x y Nf Kf r.2.1 st) from rfl, ← hsT, ← hXT, ← hyT, ← hxT]
          exact Ex.next (i + 1, (true, (q.2, q.1.2))) ⟨by omega, .inr ⟨Nat.lt_succ_self _, rfl, hq.1, by rw [hxT]; exact hq.2⟩⟩ (by show n - (i + 1) < n - i; omega) (.cons rfl <| .cons rfl <| .cons rfl <| .cons rfl <| .cons rfl <| .cons rfl <| .nil)
        · refine T.sr <| Rl.q Qt.ia1 <| Rl.q (Qt.ld (v := SV nm) (hv := hnm1)) <| Rl.q Qt.as <| Rl.nilK <| ?_
          refine T.sr <| Rl.q Qt.ld <| Rl.q Qt.nc <| Rl.q Qt.fa <| Rl.q (Qt.to (u := .map (some bM)) Qt.ld (hXk)) <| Rl.q Qt.mv <| Rl.q (Qt.to (u := Pt bN) (Qt.lk (hv := rfl)) (by rw [hgn]; rfl)) <| Rl.q Qt.as <| ?_
          refine Rl.nilK <| ?_
          refine T.sr <| Rl.q Qt.mv <| Rl.e (Ef.qcall (S := isDirF_q (x := x' r.1.2.1) (hfile _).1 (hfile _).2)) fun _ _ => Rl.nilK <| ?_
          refine T.condF ?_
          refine T.skip <| Ex.Bnormal <| Ex.K <| ?_
          refine T.region <| Rl.q (Qt.add (b := 1)) <| Rl.q Qt.mv <| Rl.nil <| ?_
          exact Ex.next (i + 1, (fl, ((vi, Ei), (ai, Di)))) ⟨by omega, hzn⟩ (by show n - (i + 1) < n - i; omega) (.cons rfl <| .cons rfl <| .cons rfl <| .cons rfl <| .cons rfl <| .cons rfl <| .nil)
      · refine Rl.nilK <| ?_
        refine T.seq ?_
        refine T.condF ?_
        refine T.exit <| Ex.Kexit <| Ex.Lexit <| Ex.Bhit <| Ex.K <| ?_
        obtain ⟨i, fl, ⟨vi, Ei⟩, ⟨ai, Di⟩⟩ := z
        obtain ⟨hi, hz⟩ := hz
        have hi : i ≤ n := hi
        have h75 : n ≤ i := h75
        obtain rfl : n = i := by omega
        obtain ⟨hfl1, hown, hdF⟩ : fl = true ∧ Own 5 1 ai 60 (bc (ext1B st (dNb xs' x Nf Kf r.2.1))) Di ∧ DskOk vi Ei (dO2 xs' x y Nf Kf r.2.1 st) := by rcases hz with ⟨h1, _⟩ | ⟨_, h2⟩; exact absurd h1 (by show ¬ n ≤ p; omega); exact h2
        subst hfl1
        rw [hxT, hsT, hXT, hyT, hyF]
        refine T.sr <| Rl.q (Qt.as (v := .nilIface)) <| Rl.nilK <| ?_
        refine T.ret <| Ex.ret1 (.inl rfl) rfl ?_ rfl
        exact fun w h => ⟨((r.1.2.1, r.1.2.2), (r.2.1, ((vi, Ei), (ai, Di)))), ⟨hr1, hnok, hown, hdF⟩, rfl, h.re⟩
end SL
end Go.Proofs.YtlmiekcmjpnobaaGreatDoor
namespace Go.Proofs.YtlmiekcmjpnobaaGreatDoor
open Go
namespace SL
set_option maxRecDepth 20000

theorem zc195 : Tryz.zeroCells195.toList = List.replicate 8192 (N .u8 0) := by kernel_rfl
theorem zc179 : Tryz.zeroCells179.toList = List.replicate 4096 (N .u8 0) := by kernel_rfl
/-- n bytes of which the first j bits are set. -/
def bitsB (n j : Nat) : List UInt8 := (List.range n).map fun k => UInt8.ofNat (2 ^ (min 8 (j - 8 * k)) - 1)
theorem bitsB_length (n j : Nat) : (bitsB n j).length = n := by simp [bitsB]
theorem bitsB_get {n j k : Nat} (h : k < n) : (bitsB n j)[k]? = some (UInt8.ofNat (2 ^ (min 8 (j - 8 * k)) - 1)) := by
  rw [bitsB, List.getElem?_map, List.getElem?_range h]; rfl
theorem bitsB_zero (n : Nat) : bitsB n 0 = List.replicate n 0 := by
  refine List.ext_getElem? fun i => ?_
  rcases Nat.lt_or_ge i n with h | h
  · rw [bitsB_get h, List.getElem?_replicate, if_pos h, Nat.zero_sub, Nat.min_eq_right (by decide)]; rfl
  · rw [List.getElem?_eq_none (by rw [bitsB_length]; exact h), List.getElem?_eq_none (by simpa using h)]
theorem or_bit : ∀ r : Fin 8, (2 ^ r.val - 1) ||| (1 * 2 ^ r.val) = 2 ^ (r.val + 1) - 1 := by decide
theorem bitsB_set {n j : Nat} (h : j < 8 * n) : (bitsB n j).set (j / 8) (UInt8.ofNat (2 ^ (j % 8 + 1) - 1)) = bitsB n (j + 1) := by
  refine List.ext_getElem? fun i => ?_
  rw [List.getElem?_set]
  rcases Nat.lt_or_ge i n with hi | hi
  · rw [bitsB_get hi]
    by_cases he : j / 8 = i
    · subst he
      rw [if_pos rfl, if_pos (by rw [bitsB_length]; omega), bitsB_get hi, Nat.min_eq_right (by omega), show j + 1 - 8 * (j / 8) = j % 8 + 1 by omega]
    · rw [if_neg he, bitsB_get hi]
      congr 4
      omega
  · rw [List.getElem?_eq_none (l := bitsB n (j + 1)) (by rw [bitsB_length]; exact hi)]
    split
    · rename_i he; subst he
      rw [if_neg (by rw [bitsB_length]; omega)]
    · exact List.getElem?_eq_none (by rw [bitsB_length]; exact hi)
theorem bitsB_at {n j : Nat} (h : j < 8 * n) : (bitsB n j)[j / 8]? = some (UInt8.ofNat (2 ^ (j % 8) - 1)) := by
  rw [bitsB_get (by omega), Nat.min_eq_right (by omega), show j - 8 * (j / 8) = j % 8 by omega]
theorem pow8 {r : Nat} (h : r ≤ 8) : 2 ^ r ≤ 256 := Nat.le_trans (Nat.pow_le_pow_right (by decide) h) (by decide)
theorem pow_pos8 (r : Nat) : 0 < 2 ^ r := Nat.pow_pos (by decide)
/-- The two bitmaps of a group, under way. -/
abbrev bmV (i j : Nat) : List UInt8 := bitsB 4096 i ++ bitsB 4096 j
theorem bmV0 : List.replicate 8192 (N .u8 0) = bc (bmV 0 0) := by
  rw [bmV, bitsB_zero, List.replicate_append_replicate, bc_rep]
theorem zero195 : Zero Tryz.prog 195 (.agg (bc (bmV 0 0)).toArray) := by
  rw [← bmV0, ← zc195, Array.toArray_toList]; infer_instance
theorem zero179 : Zero Tryz.prog 179 (.agg (bc (List.replicate 4096 0)).toArray) := by
  rw [bc_rep, ← zc179, Array.toArray_toList]; infer_instance
theorem u8n {x : Nat} (h : x < 256) : N .u8 ((UInt8.ofNat x).toNat) = N .u8 x := by
  rw [show (UInt8.ofNat x).toNat = x from by simp [UInt8.toNat_ofNat', Nat.mod_eq_of_lt h]]
theorem bm_rd1 {i j : Nat} (h : i < 32768) : nth (bc (bmV i j)) (0 + i / 8) = some (N .u8 (2 ^ (i % 8) - 1)) := by
  have hp := pow8 (show i % 8 ≤ 8 by omega)
  have h0 := pow_pos8 (i % 8)
  rw [nth_eq, Nat.zero_add, bc, List.getElem?_map, bmV, List.getElem?_append_left (by rw [bitsB_length]; omega), bitsB_at (by omega), Option.map_some, u8n (by omega)]
theorem bm_rd2 {i j : Nat} (h : j < 32768) : nth (bc (bmV i j)) (0 + (4096 + j / 8)) = some (N .u8 (2 ^ (j % 8) - 1)) := by
  have hp := pow8 (show j % 8 ≤ 8 by omega)
  have h0 := pow_pos8 (j % 8)
  rw [nth_eq, Nat.zero_add, bc, List.getElem?_map, bmV, List.getElem?_append_right (by rw [bitsB_length]; omega), bitsB_length, Nat.add_sub_cancel_left, bitsB_at (by omega), Option.map_some, u8n (by omega)]
theorem bm_wr1 {i j : Nat} (h : i < 32768) : putL (bc (bmV i j)) (0 + i / 8) (vcells (N .u8 ((2 ^ (i % 8) - 1) ||| (1 * 2 ^ (i % 8))))) = bc (bmV (i + 1) j) := by
  have hp := pow8 (show i % 8 + 1 ≤ 8 by omega)
  have h0 := pow_pos8 (i % 8 + 1)
  rw [or_bit ⟨i % 8, by omega⟩, ← u8n (show 2 ^ (i % 8 + 1) - 1 < 256 by omega), Nat.zero_add]
  rw [show vcells (N .u8 (UInt8.ofNat (2 ^ (i % 8 + 1) - 1)).toNat) = [N .u8 (UInt8.ofNat (2 ^ (i % 8 + 1) - 1)).toNat] from rfl, putL_bc _ (by rw [List.length_append, bitsB_length, bitsB_length]; omega), bmV, List.set_append_left _ _ (by rw [bitsB_length]; omega), bitsB_set (by omega)]
theorem bm_wr2 {i j : Nat} (h : j < 32768) : putL (bc (bmV i j)) (0 + (4096 + j / 8)) (vcells (N .u8 ((2 ^ (j % 8) - 1) ||| (1 * 2 ^ (j % 8))))) = bc (bmV i (j + 1)) := by
  have hp := pow8 (show j % 8 + 1 ≤ 8 by omega)
  have h0 := pow_pos8 (j % 8 + 1)
  rw [or_bit ⟨j % 8, by omega⟩, ← u8n (show 2 ^ (j % 8 + 1) - 1 < 256 by omega), Nat.zero_add]
  rw [show vcells (N .u8 (UInt8.ofNat (2 ^ (j % 8 + 1) - 1)).toNat) = [N .u8 (UInt8.ofNat (2 ^ (j % 8 + 1) - 1)).toNat] from rfl, putL_bc _ (by rw [List.length_append, bitsB_length, bitsB_length]; omega), bmV, List.set_append_right _ _ (by rw [bitsB_length]; omega), bitsB_length, Nat.add_sub_cancel_left, bitsB_set (by omega)]
theorem bmV_length (i j : Nat) : (bmV i j).length = 8192 := by rw [List.length_append, bitsB_length, bitsB_length]
/-- The group descriptors, of which the first is set. -/
abbrev gdZ : List Value := [N .u32 0, N .u32 0, N .u32 0, N .u16 0, N .u16 0, N .u16 0, N .u16 0, N .u32 0, N .u16 0, N .u16 0, N .u16 0, N .u16 0]
abbrev gdV (a b c d e f : Nat) : List Value := [N .u32 a, N .u32 b, N .u32 c, N .u16 d, N .u16 e, N .u16 f, N .u16 0, N .u32 0, N .u16 0, N .u16 0, N .u16 0, N .u16 0]
theorem gds_put {a b c d e f : Nat} : putL (List.replicate 128 gdZ).flatten 0 (gdV a b c d e f) = gdV a b c d e f ++ (List.replicate 127 gdZ).flatten := by
  rw [show List.replicate 128 gdZ = gdZ :: List.replicate 127 gdZ from rfl, List.flatten_cons]; rfl
theorem seg_app_r : ∀ {Z R : List Value} {o k : Nat}, seg (Z ++ R) (Z.length + o) k = seg R o k
  | [], R, o, k => by rw [List.nil_append, List.length_nil, Nat.zero_add]
  | z :: Z, R, o, k => by
    rw [List.length_cons, show Z.length + 1 + o = (Z.length + o) + 1 by omega]
    cases k with
    | zero => cases R <;> cases o <;> rfl
    | succ k => exact seg_app_r (Z := Z)
theorem seg_rep {Z : List Value} {k n i : Nat} (hZ : Z.length = k) (h : i < n) : seg (List.replicate n Z).flatten (i * k) k = some Z := by
  induction n generalizing i with
  | zero => omega
  | succ n ih =>
    rw [List.replicate_succ, List.flatten_cons]
    cases i with
    | zero => rw [Nat.zero_mul]; subst hZ; exact seg_app _ _
    | succ i =>
      have h1 := ih (i := i) (by omega)
      have : (i + 1) * k = Z.length + i * k := by rw [hZ, Nat.succ_mul, Nat.add_comm]
      rw [this, seg_app_r]; exact h1
theorem gds_rd0 {a b c d e f : Nat} {R : List Value} : seg (gdV a b c d e f ++ R) 0 12 = some (gdV a b c d e f) := by
  exact seg_app (gdV a b c d e f) R
theorem gds_rdS {a b c d e f i n : Nat} (h : i < n) : seg (gdV a b c d e f ++ (List.replicate n gdZ).flatten) ((i + 1) * 12) 12 = some gdZ := by
  rw [show (i + 1) * 12 = (gdV a b c d e f).length + i * 12 from by show _ = 12 + i * 12; omega, seg_app_r]
  exact seg_rep rfl h
/-- The bytes of the first i descriptors. -/
def gdsB (a b c d e f : Nat) : Nat → List UInt8
  | 0 => []
  | i + 1 => grpDescB a b c d e f ++ List.replicate (i * 32) 0
theorem grpDescB_length (a b c d e f : Nat) : (grpDescB a b c d e f).length = 32 := by simp [grpDescB, leB_length]
theorem gdsB_length (a b c d e f i : Nat) : (gdsB a b c d e f i).length = i * 32 := by
  cases i with
  | zero => rfl
  | succ i => rw [gdsB, List.length_append, grpDescB_length, List.length_replicate]; omega
theorem grpDescB_zero : grpDescB 0 0 0 0 0 0 = List.replicate 32 0 := rfl
theorem gdsB_succ (a b c d e f i : Nat) : gdsB a b c d e f (i + 1) ++ grpDescB 0 0 0 0 0 0 = gdsB a b c d e f (i + 2) := by
  rw [grpDescB_zero, gdsB, gdsB, List.append_assoc, List.replicate_append_replicate, show i * 32 + 32 = (i + 1) * 32 by omega]
variable {bW bA k cap i : Nat} {s : WS} {l : List Value} {fr : Nat × Nat}
theorem getInode0_q (h : s.inodes = Sl bA 0 k cap) (hk : k < 1000000) (hi : k < i) (hi2 : i < 2000000) : QSpec Tryz.prog 104 [Pt bW, N .u32 i] [[(bW, WO s)], [(bA, .cells l.toArray 156 fr)]] nilP := by
  refine QSpec.of Tryz.func104 rfl Tryz.ntmps104 (by simp) fun w => ?_
  refine T.sr <| Rl.q (Qt.as (v := .pointer none)) <| Rl.nilK <| ?_
  refine T.seq ?_
  refine T.sr <| Rl.q Qt.mv <| Rl.q (Qt.eqF (b := 0)) <| Rl.q Qt.mv <| Rl.gt <| Rl.q Qt.mv <| Rl.gt <| Rl.q Qt.cv <| ?_
  refine Rl.gt <| Rl.q Qt.mv <| Rl.gt <| Rl.q Qt.nc <| Rl.gt <| Rl.q Qt.fa <| Rl.gt <| Rl.q (Qt.to (u := Sl bA 0 k cap) Qt.ld (h)) <| ?_
  refine Rl.gt <| Rl.q Qt.len <| Rl.gt <| Rl.q Qt.gtT <| Rl.q Qt.pkF <| Rl.nilK <| ?_
  refine T.condT ?_
  refine T.sr <| Rl.q (Qt.as (v := .pointer none)) <| Rl.nilK <| ?_
  refine T.ret <| Ex.Kret <| Ex.ret1 (.inl rfl) rfl ?_ rfl
  exact fun w h => ⟨rfl, h.grown⟩

section
variable {bW bD bN b o k c e p : Nat} {R : List Value} {fr : Nat × Nat} {bs xs : List UInt8} {v : Value} {E : Chunk} {s : WS} {x : WI}
/-- Writing at the end of the disk: nothing is owed any more. -/
theorem write_o (hR : RowB R o bs) (hk : k = bs.length) (hd : DskOk v E xs) (hp : s.pos = xs.length) (h0 : 0 < bs.length) (h1 : s.pos + bs.length ≤ s.max) (h3 : s.max < 1099511627776) :
    Spec Tryz.prog 87 [Pt bW, Sl b o k c] [[(b, .cells R.toArray e fr)]] [[(s.disk, DO v s.pos)], E, [(bW, WO s)]]
      (fun r : Value × Chunk => Own 5 1 r.1 (xs ++ bs).length (bc (xs ++ bs)) r.2) (fun _ => .tuple #[N .i64 k, .nilIface]) (fun r => [[(s.disk, DO r.1 (s.pos + bs.length))], r.2, [(bW, WO { s with pos := s.pos + bs.length })]]) := by
  obtain ⟨ys, ho, hl, hx⟩ := hd
  intro w a1 a2 a3 a4
  have := write_s (bW := bW) (c := c) (e := e) (fr := fr) (s := s) hR hk ho h0 h1 (by omega) h3 w a1 a2 a3 a4
  rw [hp, wrB_app hl hx, ← hp] at this
  exact this
end
end SL
end Go.Proofs.YtlmiekcmjpnobaaGreatDoor
namespace Go.Proofs.YtlmiekcmjpnobaaGreatDoor
open Go
namespace SL
set_option maxRecDepth 20000

abbrev numF (nm : List UInt8) : Nat := if nm = lfN then 11 else 12
abbrev kndF (nm : List UInt8) : Nat := if nm = lfN then 2 else 1
section
variable (bD bL bF bM bM2 L st : Nat) (xs' dl xl : List UInt8) (XC : Chunk) (xf : WI) (ns : List (List UInt8)) (aR aL : Value)
/-- The image's text, step by step. -/
abbrev cNb2 : Nat := ((dO2 xs' (rootI L bM) (lfI bM2) numF kndF ns st).length - (dO1p xs' (rootI L bM) numF kndF ns st).length + 4095) / 4096
abbrev cSt : Nat := st + dNb xs' (rootI L bM) numF kndF ns
abbrev cB : Nat := cSt bM L st xs' ns + cNb2 bM bM2 L st xs' ns
abbrev cO : List UInt8 := padZ (dO2 xs' (rootI L bM) (lfI bM2) numF kndF ns st) (cB bM bM2 L st xs' ns * 4096)
abbrev cR : WI := { rootI L bM with size := (dO1 xs' (rootI L bM) numF kndF ns).length - xs'.length, data := aR, flags := (rootI L bM).flags ||| 524288, bc := (rootI L bM).bc + dNb xs' (rootI L bM) numF kndF ns }
abbrev cL : WI := { lfI bM2 with size := (dO2 xs' (rootI L bM) (lfI bM2) numF kndF ns st).length - (dO1p xs' (rootI L bM) numF kndF ns st).length, data := aL, flags := (lfI bM2).flags ||| 524288, bc := (lfI bM2).bc + cNb2 bM bM2 L st xs' ns }
abbrev cTE : List (Option TE) := [none, some ⟨bD, cR bM L xs' ns aR, ext1B st (dNb xs' (rootI L bM) numF kndF ns), [], []⟩, none, none, none, none, none, none, none, none, some ⟨bL, cL bM bM2 L st xs' ns aL, ext1B (cSt bM L st xs' ns) (cNb2 bM bM2 L st xs' ns), [], []⟩, some ⟨bF, xf, dl, xl, XC⟩]
end
/-- A disk of one group: what is written before, the inodes' table behind it, and the rest. -/
def imgT (O tab : List UInt8) (B : Nat) : List UInt8 := padZ (O ++ tab) (B * 4096 + 4096) ++ bmV 32768 12
def imgS (U : List UInt8) (B inc : Nat) : List UInt8 := wrB (wrB U 4096 (gdsB (B + 1) (B + 2) B 0 4 2 128)) 0 (putB (List.replicate 4096 0) 1024 (sbB 16 (B + 3) 0 4 16 inc))
theorem kids_of {bD bF bL bM2 : Nat} {m : MEs} {l : List Value} {x x1 : WI} (hgl : mget m lfN = some (Pt bL)) (hoth : ∀ nm ∈ m.map (·.1), nm ≠ lfN → mget m nm = some (Pt bF)) (hlen : ∀ nm ∈ m.map (·.1), 1 ≤ nm.length ∧ nm.length ≤ 255) (hvL : nth l 10 = some (Pt bL)) (hvF : nth l 11 = some (Pt bF)) (hn : x1.num = 12) (hm : x1.mode = 32768) :
    ∀ nm ∈ m.map (·.1), Kid (TgP bD bF x x1 [(bL, IOb (lfI bM2))]) l 12 m nm (numF nm) (kndF nm) := fun nm h => by
  by_cases hl : nm = lfN
  · subst hl
    refine ⟨⟨bL, lfI bM2, hgl, .inr (.inr (List.mem_singleton.2 rfl)), rfl, by show 16832 < 65536; decide, by show kindN 16832 = 2; decide, hvL⟩, by decide, by decide⟩
  · refine ⟨⟨bF, x1, hoth nm h hl, .inr (.inl ⟨rfl, rfl⟩), by rw [hn, numF, if_neg hl], by rw [hm]; decide, by rw [hm, kndF, if_neg hl]; rfl, by rw [numF, if_neg hl]; exact hvF⟩, by rw [numF, if_neg hl]; decide, hlen nm h⟩
variable {bW bD bL bF bA bM bM2 cM cap L st : Nat} {xs' dl xl : List UInt8} {v : Value} {E D XC : Chunk} {s : WS} {xp : WI} {sp : List Value} {fr : Nat × Nat} {x' : Value → WI} {dat : Value → Chunk → Prop} {m : MEs}
theorem own_some60 {a : Value} {C : Chunk} {l : List UInt8} (h : Own 5 1 a 60 (bc l) C) (hl : l.length = 60) : RdD C a l := by
  obtain ⟨b, c, sp, hv, hc, hc2, hE, hs⟩ := h.some (by decide)
  refine .inr ⟨b, c, 5, bc l ++ sp, (0, 0), by rw [hl]; exact hv, by rw [hE]; exact List.mem_singleton.2 rfl, by unfold RowB; rw [← bc_length]; exact seg_app _ _, by omega, fun h => absurd h (by omega)⟩
theorem RdD.mono {C C' : Chunk} {a : Value} {l : List UInt8} (h : RdD C a l) (hs : ∀ p ∈ C, p ∈ C') : RdD C' a l := by
  rcases h with h | ⟨b, c, e, R, fr, h1, h2, h3, h4, h5⟩
  · exact .inl h
  · exact .inr ⟨b, c, e, R, fr, h1, hs _ h2, h3, h4, h5⟩
theorem TEok.mono {PC DC PC' DC' : Chunk} {e : TE} (h : TEok PC DC e) (h1 : ∀ p ∈ PC, p ∈ PC') (h2 : ∀ p ∈ DC, p ∈ DC') : TEok PC' DC' e :=
  ⟨h1 _ h.io, h.dat.mono h2, h.kind, h.xin, h.dl, h.inl, h.mode, h.uid, h.gid, h.size⟩
theorem cSizes {ns : List (List UInt8)} (hst : xs'.length = st * 4096) (hst2 : st ≤ 1000) (hml : m.length ≤ 1000) (hnok : NamesOk numF m ns) (hlen : ∀ nm ∈ m.map (·.1), 1 ≤ nm.length ∧ nm.length ≤ 255) :
    xs'.length + 12 ≤ (dO1 xs' (rootI L bM) numF kndF ns).length ∧ (dO1 xs' (rootI L bM) numF kndF ns).length ≤ xs'.length + 134217728 ∧ (dO1p xs' (rootI L bM) numF kndF ns st).length = cSt bM L st xs' ns * 4096 ∧
    (dO1p xs' (rootI L bM) numF kndF ns st).length + 12 ≤ (dO2 xs' (rootI L bM) (lfI bM2) numF kndF ns st).length ∧ (dO2 xs' (rootI L bM) (lfI bM2) numF kndF ns st).length ≤ (dO1p xs' (rootI L bM) numF kndF ns st).length + 13000 ∧
    (cO bM bM2 L st xs' ns).length = cB bM bM2 L st xs' ns * 4096 ∧ cB bM bM2 L st xs' ns ≤ 3000 ∧ (dO2 xs' (rootI L bM) (lfI bM2) numF kndF ns st).length ≤ cB bM bM2 L st xs' ns * 4096 ∧ cB bM bM2 L st xs' ns * 4096 ≤ (dO2 xs' (rootI L bM) (lfI bM2) numF kndF ns st).length + 4095 := by
  obtain ⟨a1, a2⟩ := dirOut_len (xs := xs') (l := ((rootI L bM).num, [46], kindN (rootI L bM).mode) :: ((rootI L bM).num, [46, 46], kindN (rootI L bM).mode) :: ns.map (kidE numF kndF)) (fun e he => by
    rcases List.mem_cons.1 he with rfl | he
    · show 1 ≤ 255; decide
    rcases List.mem_cons.1 he with rfl | he
    · show 2 ≤ 255; decide
    obtain ⟨q, hq, rfl⟩ := List.mem_map.1 he
    exact (hlen q (hnok.perm.mem_iff.1 hq)).2)
  have hl := hnok.perm.length_eq
  rw [List.length_map] at hl
  rw [List.length_cons, List.length_cons, List.length_map, hl] at a2
  have b1 : (dO1p xs' (rootI L bM) numF kndF ns st).length = cSt bM L st xs' ns * 4096 := by
    rw [padZ_length]
    exact Nat.max_eq_right (by show (dO1 xs' (rootI L bM) numF kndF ns).length ≤ (st + ((dO1 xs' (rootI L bM) numF kndF ns).length - xs'.length + 4095) / 4096) * 4096; omega)
  obtain ⟨c1, c2⟩ := dirOut_len (xs := dO1p xs' (rootI L bM) numF kndF ns st) (l := [((lfI bM2).num, [46], kindN (lfI bM2).mode), ((rootI L bM).num, [46, 46], kindN (rootI L bM).mode)]) (fun e he => by
    rcases List.mem_cons.1 he with rfl | he
    · show 1 ≤ 255; decide
    rw [List.mem_singleton.1 he]; show 2 ≤ 255; decide)
  rw [List.length_cons, List.length_cons, List.length_nil] at c2
  have c2 : (dO2 xs' (rootI L bM) (lfI bM2) numF kndF ns st).length ≤ (dO1p xs' (rootI L bM) numF kndF ns st).length + (0 + 1 + 1) * 4400 + 4096 := c2
  have c1 : (dO1p xs' (rootI L bM) numF kndF ns st).length + 12 ≤ (dO2 xs' (rootI L bM) (lfI bM2) numF kndF ns st).length := c1
  have a1 : xs'.length + 12 ≤ (dO1 xs' (rootI L bM) numF kndF ns).length := a1
  have a2 : (dO1 xs' (rootI L bM) numF kndF ns).length ≤ xs'.length + (m.length + 1 + 1) * 4400 + 4096 := a2
  have e1 : cSt bM L st xs' ns = st + ((dO1 xs' (rootI L bM) numF kndF ns).length - xs'.length + 4095) / 4096 := rfl
  have e2 : cB bM bM2 L st xs' ns = cSt bM L st xs' ns + ((dO2 xs' (rootI L bM) (lfI bM2) numF kndF ns st).length - (dO1p xs' (rootI L bM) numF kndF ns st).length + 4095) / 4096 := rfl
  have d1 : (dO2 xs' (rootI L bM) (lfI bM2) numF kndF ns st).length ≤ cB bM bM2 L st xs' ns * 4096 := by rw [e2]; omega
  refine ⟨a1, by omega, b1, c1, by omega, ?_, by rw [e2, e1]; omega, d1, by rw [e2]; omega⟩
  rw [padZ_length]
  exact Nat.max_eq_right d1
theorem te_mem {a b c e : TE} (h : some e ∈ [none, some a, none, none, none, none, none, none, none, none, some b, some c]) : e = a ∨ e = b ∨ e = c := by simpa using h
theorem te_tabX {a b c : TE} (ha : a.XC = []) (hb : b.XC = []) : tabX [none, some a, none, none, none, none, none, none, none, none, some b, some c] = c.XC := by simp [tabX, oteX, ha, hb]
theorem memF {c : Chunk} {F : Heap} (h : c ∈ F) {p : Nat × Obj} (hp : p ∈ c) : p ∈ F.flatten := List.mem_flatten.2 ⟨c, h, hp⟩
theorem subR3 {a : Nat × Obj} {p1 p2 p3 : Nat × Obj} {d1 d2 d3 : Chunk} {F Ro : Heap} (ha : [a] ∈ Ro) (h1 : [p1] ∈ F) (h2 : [p2] ∈ F) (h3 : [p3] ∈ F) (h4 : d1 ∈ F) (h5 : d2 ∈ F) (h6 : d3 ∈ F) : SubR [[a], [p1, p2, p3], d1 ++ (d2 ++ d3)] F Ro := ⟨fun p hp => by
  have hp : p ∈ [a] ++ ([p1, p2, p3] ++ (d1 ++ (d2 ++ d3) ++ [])) := hp
  rw [List.append_nil] at hp
  rcases List.mem_append.1 hp with h | h
  · exact .inr (memF ha h)
  refine .inl ?_
  rcases List.mem_append.1 h with h | h
  · rcases List.mem_cons.1 h with rfl | h
    · exact memF h1 (List.mem_singleton.2 rfl)
    rcases List.mem_cons.1 h with rfl | h
    · exact memF h2 (List.mem_singleton.2 rfl)
    exact memF h3 h
  rcases List.mem_append.1 h with h | h
  · exact memF h4 h
  rcases List.mem_append.1 h with h | h
  · exact memF h5 h
  · exact memF h6 h⟩
theorem shl8 (z : Nat) : z % 8 ≤ IntKind.bits .u8 ∧ 1 * 2 ^ (z % 8) < lim .u8 := by
  have h1 : z % 8 < 8 := Nat.mod_lt _ (by decide)
  generalize z % 8 = r at h1 ⊢
  have : ∀ r : Fin 8, r.val ≤ IntKind.bits .u8 ∧ 1 * 2 ^ r.val < lim .u8 := by decide
  exact this ⟨r, h1⟩
theorem or8 (z : Nat) : 2 ^ (z % 8) - 1 < lim .u8 ∧ 1 * 2 ^ (z % 8) < lim .u8 := ⟨by have := (shl8 z).2; omega, (shl8 z).2⟩
theorem wrB_in {l bs : List UInt8} {p : Nat} (h : p + bs.length ≤ l.length) : wrB l p bs = putB l p bs := by rw [wrB, padZ_ge h]
theorem putB_mid {A M R vs : List UInt8} {p : Nat} (hA : A.length = p) (hM : M.length = vs.length) : putB (A ++ (M ++ R)) p vs = A ++ (vs ++ R) := by
  subst hA
  unfold putB
  rw [List.take_left, ← hM, List.append_assoc, show A.length + M.length = (A ++ M).length by rw [List.length_append], ← List.append_assoc A M R, List.drop_left]
theorem putB_snoc {l a b : List UInt8} {p : Nat} (h : p + a.length + b.length ≤ l.length) : putB (putB l p a) (p + a.length) b = putB l p (a ++ b) := by
  have hA : (l.take p).length = p := by rw [List.length_take]; omega
  have hM1 : ((l.drop p).take a.length).length = a.length := by rw [List.length_take, List.length_drop]; omega
  have hM2 : (((l.drop p).drop a.length).take b.length).length = b.length := by rw [List.length_take, List.length_drop, List.length_drop]; omega
  have hl : l = l.take p ++ ((l.drop p).take a.length ++ (((l.drop p).drop a.length).take b.length ++ ((l.drop p).drop a.length).drop b.length)) := by
    rw [List.take_append_drop, List.take_append_drop, List.take_append_drop]
  generalize l.take p = A at *
  generalize (l.drop p).take a.length = M1 at *
  generalize ((l.drop p).drop a.length).take b.length = M2 at *
  generalize ((l.drop p).drop a.length).drop b.length = R at *
  rw [hl, putB_mid hA hM1, ← List.append_assoc A a, putB_mid (by rw [List.length_append, hA]) hM2]
  rw [← List.append_assoc M1 M2 R, putB_mid hA (by rw [List.length_append, List.length_append, hM1, hM2])]
  simp only [List.append_assoc]
theorem wrB_snoc {l a b : List UInt8} {p : Nat} (h : p + a.length + b.length ≤ l.length) : wrB (wrB l p a) (p + a.length) b = wrB l p (a ++ b) := by
  have h1 := wrB_in (l := l) (bs := a) (p := p) (by omega)
  have h2 := wrB_in (l := l) (bs := a ++ b) (p := p) (by rw [List.length_append]; omega)
  rw [h1, h2, wrB_in (by rw [putB_length (by omega)]; omega), putB_snoc h]
noncomputable abbrev zc216L : List Value := Tryz.zeroCells216.toList
theorem zero216 : Zero Tryz.prog 216 (.agg zc216L.toArray) := by
  rw [show zc216L = Tryz.zeroCells216.toList from rfl, Array.toArray_toList]; infer_instance
theorem sbC_len (a b c d e f : Nat) : (sbC a b c d e f).length = zc216L.length := by kernel_rfl
theorem sbC_inl (a b c d e : Nat) : putL (sbC a b c d e 578) (0 + 29) (vcells (N .u32 33346)) = sbC a b c d e 33346 := by kernel_rfl
theorem sbC_ge (a b c d e f : Nat) : 0 + 29 + 1 ≤ (sbC a b c d e f).length := Nat.le_of_ble_eq_true (by kernel_rfl)
theorem sbC_29 (a b c d e f : Nat) : nth (sbC a b c d e f) (0 + 29) = some (N .u32 f) := by kernel_rfl
theorem gds_len {a b c d e f : Nat} : (gdV a b c d e f ++ (List.replicate 127 gdZ).flatten).length = 1536 := by kernel_rfl
theorem gdz_len : (List.replicate 128 gdZ).flatten.length = 1536 := by kernel_rfl
end SL
end Go.Proofs.YtlmiekcmjpnobaaGreatDoor
namespace Go.Proofs.YtlmiekcmjpnobaaGreatDoor
open Go
namespace SL
set_option maxRecDepth 20000

variable {bW bD bL bF bA bM bM2 cM cap L st inc : Nat} {xs' dl xl : List UInt8} {v : Value} {E D XC : Chunk} {s : WS} {xp : WI} {sp : List Value} {fr : Nat × Nat} {x' : Value → WI} {dat : Value → Chunk → Prop} {m : MEs}

set_option synthInstance.maxHeartbeats 400000 in
set_option maxHeartbeats 8000000 in
theorem close_s (F : FinS bW bF s v E xp D xs' x' dat) (hini : s.init = true) (hinA : s.inodes = Sl bA 0 12 cap) (h3 : s.max < 1099511627776) (hgd : s.gd = 1) (hinc : inc = if s.inl then 33346 else 578) (hml : m.length ≤ 1000) (hst : xs'.length = st * 4096) (hst2 : st ≤ 1000) (hst3 : 2 ≤ st) (hroom : 40000000 ≤ s.max)
    (hm0 : 0 < m.length) (hmok : MOk m cM) (hfile : ∀ a, (x' a).num = 12 ∧ (x' a).mode = 32768) (hlf : lfN ∈ m.map (·.1)) (hgl : mget m lfN = some (Pt bL)) (hoth : ∀ nm ∈ m.map (·.1), nm ≠ lfN → mget m nm = some (Pt bF)) (hbd : bD ≠ bF ∧ bD ≠ bL)
    (hlen : ∀ nm ∈ m.map (·.1), 1 ≤ nm.length ∧ nm.length ≤ 255) (hTF : ∀ a C, dat a C → TEok [(bF, IOb (x' a))] C ⟨bF, x' a, dl, xl, XC⟩) :
    Spec Tryz.prog 58 [Pt bW] [[(bA, .cells ([nilP, Pt bD, nilP, nilP, nilP, nilP, nilP, nilP, nilP, nilP, Pt bL, Pt bF] ++ sp).toArray 156 fr)], [(bM, .map (mE m) cM)], [(bM2, .map (mE []) 0)]] [[(s.disk, DO v s.pos)], E, [(bW, WO s)], [(bF, IOb xp)], D, [(bD, IOb (rootI L bM))], [(bL, IOb (lfI bM2))], XC]
      (fun r : ((Value × List (List UInt8)) × (Value × Value)) × (Value × Chunk) => (∃ C, dat r.1.1.1 C) ∧ NamesOk numF m r.1.1.2 ∧ ∃ U, U = imgS (imgT (cO bM bM2 L st xs' r.1.1.2) (tabB (cTE bD bL bF bM bM2 L st xs' dl xl XC (x' r.1.1.1) r.1.1.2 r.1.2.1 r.1.2.2)) (cB bM bM2 L st xs' r.1.1.2)) (cB bM bM2 L st xs' r.1.1.2) inc ∧ Own 5 1 r.2.1 U.length (bc U) r.2.2) (fun _ => .nilIface)
      (fun r => [[(s.disk, DO r.2.1 ((cB bM bM2 L st xs' r.1.1.2 + 3) * 4096))], r.2.2]) := by
  refine Spec.of Tryz.func58 rfl Tryz.ntmps58 (by simp) fun w => ?_
  refine T.sr <| Rl.q (Qt.as (v := .nilIface)) <| Rl.nilK <| ?_
  refine T.seq ?_
  refine T.sr <| Rl.q Qt.mv <| Rl.e (Ef.call (S := F)) fun r hr => Rl.q Qt.as <| Rl.nilK <| ?_
  refine T.sr <| Rl.q Qt.mv <| Rl.q Qt.ineNil <| Rl.nilK <| ?_
  refine T.condF ?_
  refine T.skip <| Ex.K <| ?_
  have hroom1 : xs'.length + m.length * 4400 + 90000 ≤ s.max := by omega
  refine T.sr <| Rl.q Qt.mv <| Rl.e (Ef.qcall (S := root_q (k := 12) (s := { s with pos := xs'.length, cur := .pointer none, dw := 0, dm := 0 }) (fr := fr) hinA (by decide) (by decide) (v := Pt bD) (l := ([nilP, Pt bD, nilP, nilP, nilP, nilP, nilP, nilP, nilP, nilP, Pt bL, Pt bF] ++ sp)) rfl)) fun _ _ => Rl.q Qt.as <| Rl.nilK <| ?_
  refine T.seq ?_
  refine T.sr <| Rl.q Qt.mv <| Rl.q Qt.mv <| Rl.q Qt.mv <| Rl.e (Ef.call (S := wdirR_s (bW := bW) (bN := bF) (bD := bD) (bL := bL) (bA := bA) (bM := bM) (bM2 := bM2) (cM := cM) (s := { s with pos := xs'.length, cur := .pointer none, dw := 0, dm := 0 }) (x := (rootI L bM)) (y := (lfI bM2)) (xp := x' r.2.1) (D := r.2.2) (xs' := xs') (st := st) (m := m) (Nf := numF) (Kf := kndF) (l := ([nilP, Pt bD, nilP, nilP, nilP, nilP, nilP, nilP, nilP, nilP, Pt bL, Pt bF] ++ sp)) (fr := fr) (k := 12) (cap := cap) (finS_none (bW := bW) (bN := bF) (s := { s with pos := xs'.length, cur := .pointer none, dw := 0, dm := 0 }) (x := x' r.2.1) (D := r.2.2) hini rfl rfl rfl hr.1 rfl) hini hinA (by decide) h3 (by omega) hroom1 hst (by show 262144 &&& 268435456 = 0; decide) (by show 262144 < 4294967296; decide) (by show 16877 < 65536; decide) rfl rfl ⟨by show 1 ≤ 2; decide, by show 2 ≤ 12; decide⟩ rfl hm0 hmok (fun _ => by rw [(hfile _).2]; decide) (by show 262144 &&& 268435456 = 0; decide) (by show 262144 < 4294967296; decide) (by show 16832 < 65536; decide) (by show 16832 &&& 61440 = 16384; decide) rfl ⟨by show 1 ≤ 11; decide, by show 11 ≤ 12; decide⟩ rfl hlf hgl hoth hbd (fun _ => kids_of hgl hoth hlen rfl rfl (hfile _).1 (hfile _).2))) fun q hq => Rl.q Qt.as <| Rl.nilK <| ?_
  refine T.sr <| Rl.q Qt.mv <| Rl.q Qt.ineNil <| Rl.nilK <| ?_
  refine T.condF ?_
  refine T.skip <| Ex.K <| ?_
  refine T.seq ?_
  obtain ⟨hq1, hq2, hq3, hq4⟩ := hq
  have hq1 : q.1.2 = r.2.2 := hq1
  obtain ⟨c1, c2, c3, c4, c5, c6, c7, c8, c9⟩ := cSizes (bM := bM) (bM2 := bM2) (L := L) hst hst2 hml hq2 hlen
  have hz1 : (dO2 xs' (rootI L bM) (lfI bM2) numF kndF q.2.1 st).length = (cSt bM L st xs' q.2.1) * 4096 + ((dO2 xs' (rootI L bM) (lfI bM2) numF kndF q.2.1 st).length - (dO1p xs' (rootI L bM) numF kndF q.2.1 st).length) := by omega
  have hz2 : 0 < (dO2 xs' (rootI L bM) (lfI bM2) numF kndF q.2.1 st).length - (dO1p xs' (rootI L bM) numF kndF q.2.1 st).length := by omega
  have hz3 : (dO2 xs' (rootI L bM) (lfI bM2) numF kndF q.2.1 st).length - (dO1p xs' (rootI L bM) numF kndF q.2.1 st).length ≤ 134217728 := by omega
  have hz4 : (dO2 xs' (rootI L bM) (lfI bM2) numF kndF q.2.1 st).length + 4096 ≤ s.max := by omega
  have hz5 : 0 + (cNb2 bM bM2 L st xs' q.2.1) < 4294967296 := by show 0 + ((dO2 xs' (rootI L bM) (lfI bM2) numF kndF q.2.1 st).length - (dO1p xs' (rootI L bM) numF kndF q.2.1 st).length + 4095) / 4096 < _; omega
  refine T.add0 ?_
  refine T.sr <| Rl.q Qt.mv <| Rl.e (Ef.call (S := finS_ext (bW := bW) (bN := bL) (s := { s with pos := (dO2 xs' (rootI L bM) (lfI bM2) numF kndF q.2.1 st).length, name := [], cur := Pt bL, dw := (dO2 xs' (rootI L bM) (lfI bM2) numF kndF q.2.1 st).length - (dO1p xs' (rootI L bM) numF kndF q.2.1 st).length, dm := (dO2 xs' (rootI L bM) (lfI bM2) numF kndF q.2.1 st).length - (dO1p xs' (rootI L bM) numF kndF q.2.1 st).length }) (x := { (lfI bM2) with size := (dO2 xs' (rootI L bM) (lfI bM2) numF kndF q.2.1 st).length - (dO1p xs' (rootI L bM) numF kndF q.2.1 st).length }) (D := []) (xs := (dO2 xs' (rootI L bM) (lfI bM2) numF kndF q.2.1 st)) (nb := (cNb2 bM bM2 L st xs' q.2.1)) (st := (cSt bM L st xs' q.2.1)) hini rfl rfl hq4 rfl hz1 hz2 hz3 rfl hz4 h3 hz5 (by show 262144 < 4294967296; decide) (by show 262144 &&& 268435456 = 0; decide))) fun u hu => Rl.q Qt.as <| Rl.nilK <| ?_
  refine T.sr <| Rl.q Qt.mv <| Rl.q Qt.ineNil <| Rl.nilK <| ?_
  refine T.condF ?_
  refine T.skip <| Ex.K <| ?_
  obtain ⟨hu1, hu2⟩ := hu
  rw [hq1]
  obtain ⟨ents, hents⟩ : ∃ Q, Q = (cTE bD bL bF bM bM2 L st xs' dl xl XC (x' r.2.1) q.2.1 q.2.2.2.1 u.2.1) := ⟨_, rfl⟩
  have htx : tabX ents = XC := by rw [hents]; exact te_tabX rfl rfl
  have hlen12 : ents.length = 12 := by rw [hents]; rfl
  obtain ⟨xR, hxR⟩ : ∃ Q, Q = (cR bM L xs' q.2.1 q.2.2.2.1) := ⟨_, rfl⟩
  obtain ⟨xL, hxL⟩ : ∃ Q, Q = (cL bM bM2 L st xs' q.2.1 u.2.1) := ⟨_, rfl⟩
  have hTE : ∀ e, some e ∈ ents → TEok [(bD, IOb xR), (bL, IOb xL), (bF, IOb (x' r.2.1))] (q.2.2.2.2 ++ (u.2.2 ++ r.2.2)) e := by
    intro e he
    rw [hents] at he
    have hcase : e = ⟨bD, (cR bM L xs' q.2.1 q.2.2.2.1), ext1B st (dNb xs' (rootI L bM) numF kndF q.2.1), [], []⟩ ∨ e = ⟨bL, (cL bM bM2 L st xs' q.2.1 u.2.1), ext1B (cSt bM L st xs' q.2.1) (cNb2 bM bM2 L st xs' q.2.1), [], []⟩ ∨ e = ⟨bF, x' r.2.1, dl, xl, XC⟩ := te_mem he
    rcases hcase with rfl | rfl | rfl
    · exact ⟨by rw [hxR]; exact List.mem_cons_self .., (own_some60 hq3 (ext1B_length _ _)).mono (fun p hp => by simp [hp]), .inl (by show 16877 &&& 61440 = 16384; decide), .inl ⟨rfl, rfl, rfl⟩, by rw [ext1B_length]; decide, fun h => absurd h (by rw [ext1B_length]; decide), by show 16877 < 65536; decide, by show 0 < 4294967296; decide, by show 0 < 4294967296; decide, by show (dO1 xs' (rootI L bM) numF kndF q.2.1).length - _ < _; omega⟩
    · exact ⟨by rw [hxL]; exact List.mem_cons_of_mem _ (List.mem_cons_self ..), (own_some60 hu2 (ext1B_length _ _)).mono (fun p hp => by simp [hp]), .inl (by show 16832 &&& 61440 = 16384; decide), .inl ⟨rfl, rfl, rfl⟩, by rw [ext1B_length]; decide, fun h => absurd h (by rw [ext1B_length]; decide), by show 16832 < 65536; decide, by show 0 < 4294967296; decide, by show 0 < 4294967296; decide, by show (dO2 xs' (rootI L bM) (lfI bM2) numF kndF q.2.1 st).length - _ < _; omega⟩
    · exact (hTF _ _ hr.2).mono (fun p hp => by rw [List.mem_singleton.1 hp]; exact List.mem_cons_of_mem _ (List.mem_cons_of_mem _ (List.mem_cons_self ..))) (fun p hp => by simp [hp])
  have hB0 : (cO bM bM2 L st xs' q.2.1).length = (cB bM bM2 L st xs' q.2.1) * 4096 := c6
  obtain ⟨B, hB⟩ : ∃ Q, Q = (cB bM bM2 L st xs' q.2.1) := ⟨_, rfl⟩
  obtain ⟨O, hO⟩ : ∃ Q, Q = (cO bM bM2 L st xs' q.2.1) := ⟨_, rfl⟩
  have hu1 : DskOk u.1.1 u.1.2 O := by rw [hO]; exact hu1
  rw [← hB] at c7 c8 c9 hB0
  rw [← hO] at hB0
  rw [show padZ (dO2 xs' (rootI L bM) (lfI bM2) numF kndF q.2.1 st) (((cSt bM L st xs' q.2.1) + (cNb2 bM bM2 L st xs' q.2.1)) * 4096) = O from hO.symm, hB0]
  refine T.rem (C := [(bL, IOb (cL bM bM2 L st xs' q.2.1 u.2.1))]) (by (repeat first | exact Rem.here | apply Rem.there)) ?_
  rw [← hxL]
  refine T.rem (C := [(bD, IOb (cR bM L xs' q.2.1 q.2.2.2.1))]) (by (repeat first | exact Rem.here | apply Rem.there)) ?_
  rw [← hxR]
  have hT := table_s (bW := bW) (bA := bA) (cap := cap) (s := { s with pos := B * 4096, name := [], cur := .pointer none, dw := 0, dm := 0 }) (xs := O) (v := u.1.1) (E := u.1.2) (sp := sp) (fr := fr) (ents := ents) (tbl := 4096) hTE (by rw [hlen12]; exact hinA) (by rw [hlen12]; decide) hu1 (by show B * 4096 = _; omega) (by rw [hlen12]; decide) (by decide) (by show B * 4096 + 4096 ≤ s.max; omega) h3
  rw [htx] at hT
  rw [show ents.map oteP = [nilP, Pt bD, nilP, nilP, nilP, nilP, nilP, nilP, nilP, nilP, Pt bL, Pt bF] by rw [hents]; rfl] at hT
  refine T.sr <| Rl.q Qt.mv <| Rl.e (Ef.qcall (S := wblock_v (s := { s with pos := B * 4096, name := [], cur := .pointer none, dw := 0, dm := 0 }) (n := B) (by show B * 4096 < _; omega) (by show B * 4096 / 4096 = B; omega))) fun _ _ => Rl.q Qt.as <| Rl.nilK <| ?_
  refine T.sr <| Rl.q Qt.mv <| Rl.q Qt.mv <| Rl.q Qt.nc <| Rl.q Qt.fa <| Rl.q (Qt.to (u := Sl bA 0 12 cap) Qt.ld (hinA)) <| Rl.q Qt.len <| Rl.q Qt.cv <| ?_
  refine Rl.e (Ef.qcall (S := best_q (b := B) (n := 12) (by omega) ⟨by decide, by decide⟩)) fun _ _ => Rl.q Qt.mv <| Rl.q Qt.ex <| Rl.q Qt.ex <| Rl.q Qt.as <| Rl.q Qt.as <| Rl.nilK <| ?_
  refine T.sr <| Rl.q Qt.mv <| Rl.q Qt.mv <| Rl.q Qt.mv <| Rl.q (Qt.toN (c := 16) (Qt.mul (a := 1) (b := 16) (h := by decide)) rfl) <| Rl.q (Qt.toN (c := 4096) (Qt.mul (a := 16) (b := 256) (h := by decide)) rfl) <| Rl.e (Ef.call (S := hT) (hr := subR3 (by (repeat first | exact List.mem_cons_self .. | apply List.mem_cons_of_mem)) (by (repeat first | exact List.mem_cons_self .. | apply List.mem_cons_of_mem)) (by (repeat first | exact List.mem_cons_self .. | apply List.mem_cons_of_mem)) (by (repeat first | exact List.mem_cons_self .. | apply List.mem_cons_of_mem)) (by (repeat first | exact List.mem_cons_self .. | apply List.mem_cons_of_mem)) (by (repeat first | exact List.mem_cons_self .. | apply List.mem_cons_of_mem)) (by (repeat first | exact List.mem_cons_self .. | apply List.mem_cons_of_mem)))) fun e he => Rl.q Qt.as <| ?_
  refine Rl.nilK <| ?_
  refine T.seq ?_
  refine T.sr <| Rl.q Qt.mv <| Rl.q Qt.ineNil <| Rl.nilK <| ?_
  refine T.condF ?_
  refine T.skip <| Ex.K <| ?_
  have he : DskOk e.1 e.2 (padZ (O ++ tabB ents) (B * 4096 + 4096)) := he
  have htl : (tabB ents).length = 3072 := by rw [tabB_length hTE, hlen12]
  have hpl : (padZ (O ++ tabB ents) (B * 4096 + 4096)).length = B * 4096 + 4096 := by rw [padZ_length, List.length_append, htl]; exact Nat.max_eq_right (by omega)
  refine T.sr <| Rl.q Qt.mv <| Rl.e (Ef.qcall (S := wblock_v (s := { s with pos := B * 4096 + 4096, name := [], cur := .pointer none, dw := 0, dm := 0 }) (n := B + 1) (by show B * 4096 + 4096 < _; omega) (by show (B * 4096 + 4096) / 4096 = B + 1; omega))) fun _ _ => Rl.q Qt.as <| Rl.nilK <| ?_
  refine T.sr <| Rl.q Qt.mv <| Rl.q (Qt.toN (c := 2) (Qt.mul (a := 1) (b := 2) (h := by decide)) rfl) <| Rl.q Qt.as <| Rl.nilK <| ?_
  refine T.sr <| Rl.q Qt.mv <| Rl.q Qt.mv <| Rl.q (Qt.toN (c := B + 3) (Qt.add (b := 2)) (rfl)) <| Rl.q Qt.as <| Rl.nilK <| ?_
  refine T.sr <| Rl.q Qt.mv <| Rl.q Qt.as <| Rl.nilK <| ?_
  refine T.sr <| Rl.q Qt.mv <| Rl.q (Qt.toN (c := 0) (Qt.sub (a := 1) (b := 1) (h := by decide)) rfl) <| Rl.q (Qt.toN (c := 0) (Qt.mul (a := 0) (b := 32768) (h := by decide)) rfl) <| Rl.q (Qt.toN (c := 1) (Qt.add (a := 0) (b := 1) (h := by decide)) rfl) <| Rl.q Qt.as <| Rl.nilK <| ?_
  refine T.seq ?_
  refine T.sr <| Rl.q Qt.mv <| Rl.q Qt.mv <| Rl.q (Qt.ltF (b := 1)) <| Rl.nilK <| ?_
  refine T.condF ?_
  refine T.skip <| Ex.K <| ?_
  refine T.sr <| Rl.q Qt.mv <| Rl.q (Qt.toN (c := 0) (Qt.sub (a := 1) (b := 1) (h := by decide)) rfl) <| Rl.q (Qt.toN (c := 0) (Qt.quo (a := 0) (b := 128) (h := by decide)) rfl) <| Rl.q (Qt.toN (c := 1) (Qt.add (a := 0) (b := 1) (h := by decide)) rfl) <| Rl.q Qt.as <| Rl.nilK <| ?_
  refine T.seq ?_
  refine T.sr <| Rl.q Qt.mv <| Rl.q Qt.mv <| Rl.q Qt.nc <| Rl.q Qt.fa <| Rl.q (Qt.to (u := N .u32 1) Qt.ld (by rw [hgd])) <| Rl.q (Qt.gtF (a := 1)) <| Rl.nilK <| ?_
  refine T.condF ?_
  refine T.skip <| Ex.K <| ?_
  refine T.sr <| Rl.q Qt.mv <| Rl.q Qt.nc <| Rl.q Qt.fa <| Rl.q (Qt.to (u := N .u32 1) Qt.ld (by rw [hgd])) <| Rl.q (Qt.mul (b := 128)) <| Rl.e Ef.mk fun b119 hb119 => Rl.q Qt.as <| ?_
  refine Rl.nilK <| ?_
  refine T.sr <| Rl.q Qt.mv <| Rl.q (Qt.toN (c := 4096) (Qt.mul (a := 16) (b := 256) (h := by decide)) rfl) <| Rl.q (Qt.toN (c := 1) (Qt.quo (a := 4096) (b := 4096) (h := by decide)) rfl) <| Rl.q Qt.as <| Rl.nilK <| ?_
  refine T.sr <| Rl.q (Qt.as (v := N .u32 0)) <| Rl.q (Qt.as (v := N .u32 0)) <| Rl.nilK <| ?_
  refine T.seq ?_
  refine T.sr <| Rl.q (Qt.as (v := N .u32 0)) <| Rl.nilK <| ?_
  refine T.block ?_
  refine T.rounds 1 ?_
  refine T.seq ?_
  refine T.sr <| Rl.q Qt.mv <| Rl.q Qt.mv <| Rl.q (Qt.ltT (a := 0) (b := 1)) <| Rl.nilK <| ?_
  refine T.condT ?_
  refine T.skip <| Ex.K <| ?_
  refine T.seq ?_
  refine T.block ?_
  rw [show (List.replicate 128 (vcells (.agg #[N .u32 0, N .u32 0, N .u32 0, N .u16 0, N .u16 0, N .u16 0, N .u16 0, N .u32 0, N .u16 0, N .u16 0, N .u16 0, N .u16 0]))).flatten = (List.replicate 128 gdZ).flatten from rfl]
  refine T.sr <| Rl.e (Ef.alA (z := bc (bmV 0 0)) (hz := zero195)) fun b22 hb22 => Rl.nilK <| ?_
  refine T.sr <| Rl.q (Qt.as (v := N .u16 0)) <| Rl.q (Qt.as (v := N .u16 0)) <| Rl.q (Qt.as (v := N .u16 0)) <| Rl.nilK <| ?_
  refine T.seq ?_
  refine T.sr <| Rl.q Qt.mv <| Rl.q (Qt.toN (c := 1) (Qt.add (a := 0) (b := 1) (h := by decide)) rfl) <| Rl.q (Qt.toN (c := 32768) (Qt.mul (a := 1) (b := 32768) (h := by decide)) rfl) <| Rl.q Qt.mv <| Rl.q (Qt.leF (a := 32768)) <| Rl.nilK <| ?_
  refine T.condF ?_
  refine T.sr <| Rl.q Qt.mv <| Rl.q (Qt.toN (c := 0) (Qt.mul (a := 0) (b := 32768) (h := by decide)) rfl) <| Rl.q Qt.mv <| Rl.q (Qt.ltT (a := 0)) <| Rl.nilK <| ?_
  refine T.condT ?_
  refine T.sr <| Rl.q (Qt.as (v := N .u32 0)) <| Rl.nilK <| ?_
  refine T.block ?_
  refine T.loop (α := Nat) (fun z => [(0, Pt bW), (7, N .u32 B), (8, N .u32 1), (9, N .u32 16), (11, N .u32 (B + 1)), (12, N .u32 2), (13, N .u32 (B + 3)), (14, N .u32 (B + 3)), (16, N .u32 1), (17, Sl b119 0 128 128), (18, N .u32 1), (19, N .u32 0), (20, N .u32 0), (21, N .u32 0), (22, Pt b22), (23, N .u16 0), (24, N .u16 0), (25, N .u16 z), (27, N .u32 z)]) (fun z => [[(b22, .cells (bc (bmV z 0)).toArray 195 (0, 0))], [(s.disk, DO e.1 (B * 4096 + 4096))], e.2, [(bW, WO { s with pos := B * 4096 + 4096, name := [], cur := .pointer none, dw := 0, dm := 0 })], [(b119, .cells ((List.replicate 128 gdZ).flatten).toArray 199 (0, 0))], [(bF, IOb (x' r.2.1))], [(bD, IOb xR)], [(bL, IOb xL)]]) (fun z => z ≤ B + 3) (fun z => B + 3 - z)
    0 (Nat.zero_le _) ?_ (fun z hz => ?_)
  · exact .cons rfl <| .cons rfl <| .cons rfl <| .cons rfl <| .cons rfl <| .cons rfl <| .cons rfl <| .cons rfl <| .cons rfl <| .cons rfl <| .cons rfl <| .cons rfl <| .cons rfl <| .cons rfl <| .cons rfl <| .cons rfl <| .cons rfl <| .cons rfl <| .cons rfl <| .nil
  refine T.seq ?_
  refine T.sr <| Rl.q Qt.mv <| Rl.q Qt.mv <| Rl.q Qt.mv <| Rl.q (Qt.toN (c := 0) (Qt.mul (a := 0) (b := 32768) (h := by decide)) rfl) <| Rl.q (Qt.sub (b := 0)) <| Rl.ltS (fun h150 => ?_) (fun h150 => ?_)
  · refine Rl.nilK <| ?_
    refine T.condT ?_
    refine T.skip <| Ex.K <| ?_
    refine T.seq ?_
    refine T.block ?_
    refine T.sr <| Rl.q Qt.mv <| Rl.q (Qt.quo (b := 8)) <| Rl.q Qt.iaA1 <| Rl.q (Qt.ld (v := N .u8 (2 ^ (z % 8) - 1)) (hv := bm_rd1 (by omega))) <| Rl.q Qt.mv <| Rl.q (Qt.rem (b := 8)) <| Rl.q (Qt.shl (a := 1) (h := shl8 z)) <| ?_
    refine Rl.q (Qt.or (h := or8 z)) <| Rl.q Qt.iaA1 <| Rl.e0 (Ef.st (hc := ⟨rfl, by rw [bc_length, bmV_length]; show 0 + z / 8 + 1 ≤ 8192; omega, rfl⟩)) fun _ _ => Rl.nilK <| ?_
    rw [bm_wr1 (by omega)]
    refine T.region <| Rl.q Qt.mv <| Rl.q (Qt.add (b := 1)) <| Rl.q Qt.as <| Rl.nil <| Ex.Bnormal <| Ex.K <| ?_
    refine T.region <| Rl.q Qt.mv <| Rl.q (Qt.add (b := 1)) <| Rl.q Qt.as <| Rl.nil <| ?_
    exact Ex.next (z + 1) (by omega) (by omega) (.cons rfl <| .cons rfl <| .cons rfl <| .cons rfl <| .cons rfl <| .cons rfl <| .cons rfl <| .cons rfl <| .cons rfl <| .cons rfl <| .cons rfl <| .cons rfl <| .cons rfl <| .cons rfl <| .cons rfl <| .cons rfl <| .cons rfl <| .cons rfl <| .cons rfl <| .nil)
  · refine Rl.nilK <| ?_
    refine T.condF ?_
    refine T.exit <| Ex.Kexit <| Ex.Lexit <| Ex.Bhit <| Ex.K <| ?_
    refine T.seq ?_
    have h150 : B + 3 ≤ z := by omega
    obtain rfl : z = B + 3 := by omega
    refine T.sr <| Rl.q Qt.mv <| Rl.q (Qt.eqT (a := 0) (b := 0)) <| Rl.nilK <| ?_
    refine T.condT ?_
    refine T.sr <| Rl.q Qt.mv <| Rl.q (Qt.toN (c := 2) (Qt.add (a := 1) (b := 1) (h := by decide)) rfl) <| Rl.q Qt.as <| Rl.nilK <| ?_
    refine T.block ?_
    refine T.rounds 0 ?_
    refine T.seq ?_
    refine T.sr <| Rl.q Qt.mv <| Rl.q Qt.mv <| Rl.q Qt.nc <| Rl.q Qt.fa <| Rl.q (Qt.to (u := N .u32 1) Qt.ld (by rw [hgd])) <| Rl.q (Qt.add (a := 1)) <| Rl.q (Qt.ltF (a := 2)) <| ?_
    refine Rl.nilK <| ?_
    refine T.condF ?_
    refine T.exit <| Ex.Kexit <| Ex.Rexit <| Ex.Bhit <| Ex.K <| ?_
    refine T.seq ?_
    refine T.sr <| Rl.q Qt.mv <| Rl.q Qt.mv <| Rl.q (Qt.toN (c := 0) (Qt.sub (a := 1) (b := 1) (h := by decide)) rfl) <| Rl.q (Qt.eqT (a := 0) (b := 0)) <| Rl.q Qt.mv <| Rl.gt <| Rl.q Qt.mv <| ?_
    refine Rl.gt <| Rl.q (Qt.rem (b := 32768)) <| Rl.gt <| Rl.q (Qt.neT (b := 0)) <| Rl.q Qt.pkT <| Rl.nilK <| ?_
    refine T.condT ?_
    refine T.sr <| Rl.q Qt.mv <| Rl.q (Qt.toN (c := B + 3) (Qt.rem (b := 32768)) (Nat.mod_eq_of_lt (by omega))) <| Rl.q Qt.as <| Rl.nilK <| ?_
    refine T.block ?_
    refine T.loop (α := Nat) (fun z => [(0, Pt bW), (7, N .u32 B), (8, N .u32 1), (9, N .u32 16), (11, N .u32 (B + 1)), (12, N .u32 2), (13, N .u32 (B + 3)), (14, N .u32 (B + 3)), (16, N .u32 1), (17, Sl b119 0 128 128), (18, N .u32 1), (19, N .u32 0), (20, N .u32 0), (21, N .u32 0), (22, Pt b22), (23, N .u16 0), (24, N .u16 0), (25, N .u16 z), (29, N .u32 z)]) (fun z => [[(b22, .cells (bc (bmV z 0)).toArray 195 (0, 0))], [(s.disk, DO e.1 (B * 4096 + 4096))], e.2, [(bW, WO { s with pos := B * 4096 + 4096, name := [], cur := .pointer none, dw := 0, dm := 0 })], [(b119, .cells ((List.replicate 128 gdZ).flatten).toArray 199 (0, 0))], [(bF, IOb (x' r.2.1))], [(bD, IOb xR)], [(bL, IOb xL)]]) (fun z => B + 3 ≤ z ∧ z ≤ 32768) (fun z => 32768 - z)
      (B + 3) ⟨Nat.le_refl _, by omega⟩ ?_ (fun z hz => ?_)
    · exact .cons rfl <| .cons rfl <| .cons rfl <| .cons rfl <| .cons rfl <| .cons rfl <| .cons rfl <| .cons rfl <| .cons rfl <| .cons rfl <| .cons rfl <| .cons rfl <| .cons rfl <| .cons rfl <| .cons rfl <| .cons rfl <| .cons rfl <| .cons rfl <| .cons rfl <| .nil
    refine T.seq ?_
    refine T.sr <| Rl.q Qt.mv <| Rl.ltS (b := 32768) (fun h200 => ?_) (fun h200 => ?_)
    · refine Rl.nilK <| ?_
      refine T.condT ?_
      refine T.skip <| Ex.K <| ?_
      refine T.seq ?_
      refine T.block ?_
      refine T.sr <| Rl.q Qt.mv <| Rl.q (Qt.quo (b := 8)) <| Rl.q Qt.iaA1 <| Rl.q (Qt.ld (v := N .u8 (2 ^ (z % 8) - 1)) (hv := bm_rd1 (by omega))) <| Rl.q Qt.mv <| Rl.q (Qt.rem (b := 8)) <| Rl.q (Qt.shl (a := 1) (h := shl8 z)) <| ?_
      refine Rl.q (Qt.or (h := or8 z)) <| Rl.q Qt.iaA1 <| Rl.e0 (Ef.st (hc := ⟨rfl, by rw [bc_length, bmV_length]; show 0 + z / 8 + 1 ≤ 8192; omega, rfl⟩)) fun _ _ => Rl.nilK <| ?_
      rw [bm_wr1 (by omega)]
      refine T.region <| Rl.q Qt.mv <| Rl.q (Qt.add (b := 1)) <| Rl.q Qt.as <| Rl.nil <| Ex.Bnormal <| Ex.K <| ?_
      refine T.region <| Rl.q Qt.mv <| Rl.q (Qt.add (b := 1)) <| Rl.q Qt.as <| Rl.nil <| ?_
      exact Ex.next (z + 1) ⟨by omega, by omega⟩ (by omega) (.cons rfl <| .cons rfl <| .cons rfl <| .cons rfl <| .cons rfl <| .cons rfl <| .cons rfl <| .cons rfl <| .cons rfl <| .cons rfl <| .cons rfl <| .cons rfl <| .cons rfl <| .cons rfl <| .cons rfl <| .cons rfl <| .cons rfl <| .cons rfl <| .cons rfl <| .nil)
    · refine Rl.nilK <| ?_
      refine T.condF ?_
      refine T.exit <| Ex.Kexit <| Ex.Lexit <| Ex.Bhit <| Ex.K <| ?_
      refine T.seq ?_
      obtain rfl : z = 32768 := by omega
      refine T.sr <| Rl.q (Qt.as (v := N .u32 0)) <| Rl.nilK <| ?_
      refine T.block ?_
      refine T.loop (α := Nat × (Nat × Nat)) (fun z => [(0, Pt bW), (7, N .u32 B), (8, N .u32 1), (9, N .u32 16), (11, N .u32 (B + 1)), (12, N .u32 2), (13, N .u32 (B + 3)), (14, N .u32 (B + 3)), (16, N .u32 1), (17, Sl b119 0 128 128), (18, N .u32 1), (19, N .u32 0), (20, N .u32 0), (21, N .u32 0), (22, Pt b22), (23, N .u16 z.2.2), (24, N .u16 z.2.1), (25, N .u16 32768), (30, N .u32 z.1)]) (fun z => [[(b22, .cells (bc (bmV 32768 z.2.1)).toArray 195 (0, 0))], [(s.disk, DO e.1 (B * 4096 + 4096))], e.2, [(bW, WO { s with pos := B * 4096 + 4096, name := [], cur := .pointer none, dw := 0, dm := 0 })], [(b119, .cells ((List.replicate 128 gdZ).flatten).toArray 199 (0, 0))], [(bF, IOb (x' r.2.1))], [(bD, IOb xR)], [(bL, IOb xL)]]) (fun z => z.1 ≤ 16 ∧ z.2.1 = min z.1 12 ∧ z.2.2 = (if z.1 ≤ 1 then 0 else if z.1 ≤ 10 then 1 else 2)) (fun z => 16 - z.1)
        (0, (0, 0)) ⟨by decide, rfl, rfl⟩ ?_ (fun z hz => ?_)
      · exact .cons rfl <| .cons rfl <| .cons rfl <| .cons rfl <| .cons rfl <| .cons rfl <| .cons rfl <| .cons rfl <| .cons rfl <| .cons rfl <| .cons rfl <| .cons rfl <| .cons rfl <| .cons rfl <| .cons rfl <| .cons rfl <| .cons rfl <| .cons rfl <| .cons rfl <| .nil
      refine T.seq ?_
      obtain ⟨z1, z2, z3⟩ := z
      obtain ⟨hz1, hz2, hz3⟩ := hz
      have hz1 : z1 ≤ 16 := hz1
      have hz2 : z2 = min z1 12 := hz2
      have hz3 : z3 = (if z1 ≤ 1 then 0 else if z1 ≤ 10 then 1 else 2) := hz3
      have hz3b : z3 ≤ 2 := by rw [hz3]; (repeat' split) <;> omega
      refine T.sr <| Rl.q Qt.mv <| Rl.q Qt.mv <| Rl.ltS (b := 16) (fun h216 => ?_) (fun h216 => ?_)
      · refine Rl.nilK <| ?_
        refine T.condT ?_
        refine T.skip <| Ex.K <| ?_
        refine T.seq ?_
        refine T.block ?_
        have h216 : z1 < 16 := h216
        have hzc : ((z1 < 10 ∧ z1 ≠ 1) ∧ nth ([nilP, Pt bD, nilP, nilP, nilP, nilP, nilP, nilP, nilP, nilP, Pt bL, Pt bF] ++ sp) z1 = some nilP) ∨ z1 = 1 ∨ z1 = 10 ∨ z1 = 11 ∨ 12 ≤ z1 := by
          by_cases hq : z1 < 10 ∧ z1 ≠ 1
          · refine .inl ⟨hq, ?_⟩
            obtain rfl | rfl | rfl | rfl | rfl | rfl | rfl | rfl | rfl : z1 = 0 ∨ z1 = 2 ∨ z1 = 3 ∨ z1 = 4 ∨ z1 = 5 ∨ z1 = 6 ∨ z1 = 7 ∨ z1 = 8 ∨ z1 = 9 := by omega
            all_goals rfl
          · omega
        have hrd : z1 < 12 → nth (bc (bmV 32768 z2)) (0 + (4096 + z1 / 8)) = some (N .u8 (2 ^ (z1 % 8) - 1)) := fun h => by rw [show z2 = z1 by omega]; exact bm_rd2 (by omega)
        have hwr : z1 < 12 → putL (bc (bmV 32768 z2)) (0 + (4096 + z1 / 8)) (vcells (N .u8 ((2 ^ (z1 % 8) - 1) ||| (1 * 2 ^ (z1 % 8))))) = bc (bmV 32768 (z2 + 1)) := fun h => by rw [show z2 = z1 by omega]; exact bm_wr2 (by omega)
        rcases hzc with ⟨h0, hv⟩ | h0 | h0 | h0 | h0
        · refine T.sr <| Rl.q Qt.mv <| Rl.q Qt.mv <| Rl.q (Qt.toN (c := 0) (Qt.mul (a := 0) (b := 16) (h := by decide)) rfl) <| Rl.q (Qt.toN (c := 1) (Qt.add (a := 1) (b := 0) (h := by decide)) rfl) <| Rl.q Qt.mv <| Rl.q (Qt.add (a := 1)) <| Rl.q Qt.as <| ?_
          refine Rl.nilK <| ?_
          refine T.sr <| Rl.q Qt.mv <| Rl.q Qt.mv <| Rl.e (Ef.qcall (S := getInode_q (i := 1 + z1) (l := ([nilP, Pt bD, nilP, nilP, nilP, nilP, nilP, nilP, nilP, nilP, Pt bL, Pt bF] ++ sp)) (v := nilP) (s := { s with pos := B * 4096 + 4096, name := [], cur := .pointer none, dw := 0, dm := 0 }) (fr := fr) hinA (by decide) ⟨by omega, by omega⟩ (by show nth _ (1 + z1 - 1) = _; rw [Nat.add_sub_cancel_left]; exact hv))) fun _ _ => Rl.q Qt.as <| Rl.nilK <| ?_
          refine T.seq ?_
          refine T.sr <| Rl.q Qt.mv <| Rl.q (Qt.ltT (b := 11)) <| Rl.q Qt.mv <| Rl.gf <| Rl.gf <| Rl.q (Qt.pkT (v := .bool true)) <| Rl.nilK <| ?_
          refine T.condT ?_
          refine T.sr <| Rl.q Qt.mv <| Rl.q (Qt.quo (b := 8)) <| Rl.q (Qt.add (a := 4096)) <| Rl.q Qt.iaA1 <| Rl.q (Qt.ld (v := N .u8 (2 ^ (z1 % 8) - 1)) (hv := hrd (by omega))) <| Rl.q Qt.mv <| Rl.q (Qt.rem (b := 8)) <| ?_
          refine Rl.q (Qt.shl (a := 1) (h := shl8 z1)) <| Rl.q (Qt.or (h := or8 z1)) <| Rl.q Qt.iaA1 <| Rl.e0 (Ef.st (hc := ⟨rfl, by rw [bc_length, bmV_length]; show 0 + (4096 + z1 / 8) + 1 ≤ 8192; omega, rfl⟩)) fun _ _ => Rl.nilK <| ?_
          rw [hwr (by omega)]
          refine T.region <| Rl.q Qt.mv <| Rl.q (Qt.add (b := 1)) <| Rl.q Qt.as <| Rl.nil <| Ex.K <| ?_
          refine T.sr <| Rl.q Qt.mv <| Rl.q Qt.pneNil <| Rl.q Qt.mv <| Rl.gf <| Rl.gf <| Rl.gf <| Rl.gf <| Rl.gf <| Rl.gf <| Rl.q (Qt.pkF (v := .bool false)) <| ?_
          refine Rl.nilK <| ?_
          refine T.condF ?_
          refine T.skip <| Ex.Bnormal <| Ex.K <| ?_
          refine T.region <| Rl.q Qt.mv <| Rl.q (Qt.add (b := 1)) <| Rl.q Qt.as <| Rl.nil <| ?_
          exact Ex.next (z1 + 1, (z2 + 1, z3)) ⟨(by show z1 + 1 ≤ 16; omega), (by show z2 + 1 = min (z1 + 1) 12; omega), (by show z3 = (if z1 + 1 ≤ 1 then 0 else if z1 + 1 ≤ 10 then 1 else 2); rw [hz3]; (repeat' split) <;> omega)⟩ (by show 16 - (z1 + 1) < 16 - z1; omega) (.cons rfl <| .cons rfl <| .cons rfl <| .cons rfl <| .cons rfl <| .cons rfl <| .cons rfl <| .cons rfl <| .cons rfl <| .cons rfl <| .cons rfl <| .cons rfl <| .cons rfl <| .cons rfl <| .cons rfl <| .cons rfl <| .cons rfl <| .cons rfl <| .cons rfl <| .nil)
        · refine T.sr <| Rl.q Qt.mv <| Rl.q Qt.mv <| Rl.q (Qt.toN (c := 0) (Qt.mul (a := 0) (b := 16) (h := by decide)) rfl) <| Rl.q (Qt.toN (c := 1) (Qt.add (a := 1) (b := 0) (h := by decide)) rfl) <| Rl.q Qt.mv <| Rl.q (Qt.add (a := 1)) <| Rl.q Qt.as <| ?_
          refine Rl.nilK <| ?_
          refine T.sr <| Rl.q Qt.mv <| Rl.q Qt.mv <| Rl.e (Ef.qcall (S := getInode_q (i := 1 + z1) (l := ([nilP, Pt bD, nilP, nilP, nilP, nilP, nilP, nilP, nilP, nilP, Pt bL, Pt bF] ++ sp)) (v := Pt bD) (s := { s with pos := B * 4096 + 4096, name := [], cur := .pointer none, dw := 0, dm := 0 }) (fr := fr) hinA (by decide) ⟨by omega, by omega⟩ (by rw [h0]; rfl))) fun _ _ => Rl.q Qt.as <| Rl.nilK <| ?_
          refine T.seq ?_
          refine T.sr <| Rl.q Qt.mv <| Rl.q (Qt.ltT (b := 11)) <| Rl.q Qt.mv <| Rl.gf <| Rl.gf <| Rl.q (Qt.pkT (v := .bool true)) <| Rl.nilK <| ?_
          refine T.condT ?_
          refine T.sr <| Rl.q Qt.mv <| Rl.q (Qt.quo (b := 8)) <| Rl.q (Qt.add (a := 4096)) <| Rl.q Qt.iaA1 <| Rl.q (Qt.ld (v := N .u8 (2 ^ (z1 % 8) - 1)) (hv := hrd (by omega))) <| Rl.q Qt.mv <| Rl.q (Qt.rem (b := 8)) <| ?_
          refine Rl.q (Qt.shl (a := 1) (h := shl8 z1)) <| Rl.q (Qt.or (h := or8 z1)) <| Rl.q Qt.iaA1 <| Rl.e0 (Ef.st (hc := ⟨rfl, by rw [bc_length, bmV_length]; show 0 + (4096 + z1 / 8) + 1 ≤ 8192; omega, rfl⟩)) fun _ _ => Rl.nilK <| ?_
          rw [hwr (by omega)]
          refine T.region <| Rl.q Qt.mv <| Rl.q (Qt.add (b := 1)) <| Rl.q Qt.as <| Rl.nil <| Ex.K <| ?_
          refine T.sr <| Rl.q Qt.mv <| Rl.q Qt.pneSome <| Rl.q Qt.mv <| Rl.gt <| Rl.q Qt.mv <| Rl.gt <| Rl.q Qt.nc <| ?_
          refine Rl.gt <| Rl.q Qt.fa <| Rl.gt <| Rl.q (Qt.to (u := N .u16 16877) Qt.ld (by rw [hxR])) <| Rl.gt <| Rl.q (Qt.and (a := 16877) (b := 61440) (h := by decide)) <| Rl.gt <| Rl.q (Qt.eqT (b := 16384) (h := by decide)) <| ?_
          refine Rl.q Qt.pkT <| Rl.nilK <| ?_
          refine T.condT ?_
          refine T.region <| Rl.q Qt.mv <| Rl.q (Qt.add (b := 1)) <| Rl.q Qt.as <| Rl.nil <| Ex.Bnormal <| Ex.K <| ?_
          refine T.region <| Rl.q Qt.mv <| Rl.q (Qt.add (b := 1)) <| Rl.q Qt.as <| Rl.nil <| ?_
          exact Ex.next (z1 + 1, (z2 + 1, z3 + 1)) ⟨(by show z1 + 1 ≤ 16; omega), (by show z2 + 1 = min (z1 + 1) 12; omega), (by show z3 + 1 = (if z1 + 1 ≤ 1 then 0 else if z1 + 1 ≤ 10 then 1 else 2); rw [hz3]; (repeat' split) <;> omega)⟩ (by show 16 - (z1 + 1) < 16 - z1; omega) (.cons rfl <| .cons rfl <| .cons rfl <| .cons rfl <| .cons rfl <| .cons rfl <| .cons rfl <| .cons rfl <| .cons rfl <| .cons rfl <| .cons rfl <| .cons rfl <| .cons rfl <| .cons rfl <| .cons rfl <| .cons rfl <| .cons rfl <| .cons rfl <| .cons rfl <| .nil)
        · refine T.sr <| Rl.q Qt.mv <| Rl.q Qt.mv <| Rl.q (Qt.toN (c := 0) (Qt.mul (a := 0) (b := 16) (h := by decide)) rfl) <| Rl.q (Qt.toN (c := 1) (Qt.add (a := 1) (b := 0) (h := by decide)) rfl) <| Rl.q Qt.mv <| Rl.q (Qt.add (a := 1)) <| Rl.q Qt.as <| ?_
          refine Rl.nilK <| ?_
          refine T.sr <| Rl.q Qt.mv <| Rl.q Qt.mv <| Rl.e (Ef.qcall (S := getInode_q (i := 1 + z1) (l := ([nilP, Pt bD, nilP, nilP, nilP, nilP, nilP, nilP, nilP, nilP, Pt bL, Pt bF] ++ sp)) (v := Pt bL) (s := { s with pos := B * 4096 + 4096, name := [], cur := .pointer none, dw := 0, dm := 0 }) (fr := fr) hinA (by decide) ⟨by omega, by omega⟩ (by rw [h0]; rfl))) fun _ _ => Rl.q Qt.as <| Rl.nilK <| ?_
          refine T.seq ?_
          refine T.sr <| Rl.q Qt.mv <| Rl.q (Qt.ltF (b := 11)) <| Rl.q Qt.mv <| Rl.gt <| Rl.q Qt.mv <| Rl.gt <| Rl.q Qt.pneSome <| ?_
          refine Rl.q Qt.pkF <| Rl.nilK <| ?_
          refine T.condT ?_
          refine T.sr <| Rl.q Qt.mv <| Rl.q (Qt.quo (b := 8)) <| Rl.q (Qt.add (a := 4096)) <| Rl.q Qt.iaA1 <| Rl.q (Qt.ld (v := N .u8 (2 ^ (z1 % 8) - 1)) (hv := hrd (by omega))) <| Rl.q Qt.mv <| Rl.q (Qt.rem (b := 8)) <| ?_
          refine Rl.q (Qt.shl (a := 1) (h := shl8 z1)) <| Rl.q (Qt.or (h := or8 z1)) <| Rl.q Qt.iaA1 <| Rl.e0 (Ef.st (hc := ⟨rfl, by rw [bc_length, bmV_length]; show 0 + (4096 + z1 / 8) + 1 ≤ 8192; omega, rfl⟩)) fun _ _ => Rl.nilK <| ?_
          rw [hwr (by omega)]
          refine T.region <| Rl.q Qt.mv <| Rl.q (Qt.add (b := 1)) <| Rl.q Qt.as <| Rl.nil <| Ex.K <| ?_
          refine T.sr <| Rl.q Qt.mv <| Rl.q Qt.pneSome <| Rl.q Qt.mv <| Rl.gt <| Rl.q Qt.mv <| Rl.gt <| Rl.q Qt.nc <| ?_
          refine Rl.gt <| Rl.q Qt.fa <| Rl.gt <| Rl.q (Qt.to (u := N .u16 16832) Qt.ld (by rw [hxL])) <| Rl.gt <| Rl.q (Qt.and (a := 16832) (b := 61440) (h := by decide)) <| Rl.gt <| Rl.q (Qt.eqT (b := 16384) (h := by decide)) <| ?_
          refine Rl.q Qt.pkT <| Rl.nilK <| ?_
          refine T.condT ?_
          refine T.region <| Rl.q Qt.mv <| Rl.q (Qt.add (b := 1)) <| Rl.q Qt.as <| Rl.nil <| Ex.Bnormal <| Ex.K <| ?_
          refine T.region <| Rl.q Qt.mv <| Rl.q (Qt.add (b := 1)) <| Rl.q Qt.as <| Rl.nil <| ?_
          exact Ex.next (z1 + 1, (z2 + 1, z3 + 1)) ⟨(by show z1 + 1 ≤ 16; omega), (by show z2 + 1 = min (z1 + 1) 12; omega), (by show z3 + 1 = (if z1 + 1 ≤ 1 then 0 else if z1 + 1 ≤ 10 then 1 else 2); rw [hz3]; (repeat' split) <;> omega)⟩ (by show 16 - (z1 + 1) < 16 - z1; omega) (.cons rfl <| .cons rfl <| .cons rfl <| .cons rfl <| .cons rfl <| .cons rfl <| .cons rfl <| .cons rfl <| .cons rfl <| .cons rfl <| .cons rfl <| .cons rfl <| .cons rfl <| .cons rfl <| .cons rfl <| .cons rfl <| .cons rfl <| .cons rfl <| .cons rfl <| .nil)
        · refine T.sr <| Rl.q Qt.mv <| Rl.q Qt.mv <| Rl.q (Qt.toN (c := 0) (Qt.mul (a := 0) (b := 16) (h := by decide)) rfl) <| Rl.q (Qt.toN (c := 1) (Qt.add (a := 1) (b := 0) (h := by decide)) rfl) <| Rl.q Qt.mv <| Rl.q (Qt.add (a := 1)) <| Rl.q Qt.as <| ?_
          refine Rl.nilK <| ?_
          refine T.sr <| Rl.q Qt.mv <| Rl.q Qt.mv <| Rl.e (Ef.qcall (S := getInode_q (i := 1 + z1) (l := ([nilP, Pt bD, nilP, nilP, nilP, nilP, nilP, nilP, nilP, nilP, Pt bL, Pt bF] ++ sp)) (v := Pt bF) (s := { s with pos := B * 4096 + 4096, name := [], cur := .pointer none, dw := 0, dm := 0 }) (fr := fr) hinA (by decide) ⟨by omega, by omega⟩ (by rw [h0]; rfl))) fun _ _ => Rl.q Qt.as <| Rl.nilK <| ?_
          refine T.seq ?_
          refine T.sr <| Rl.q Qt.mv <| Rl.q (Qt.ltF (b := 11)) <| Rl.q Qt.mv <| Rl.gt <| Rl.q Qt.mv <| Rl.gt <| Rl.q Qt.pneSome <| ?_
          refine Rl.q Qt.pkF <| Rl.nilK <| ?_
          refine T.condT ?_
          refine T.sr <| Rl.q Qt.mv <| Rl.q (Qt.quo (b := 8)) <| Rl.q (Qt.add (a := 4096)) <| Rl.q Qt.iaA1 <| Rl.q (Qt.ld (v := N .u8 (2 ^ (z1 % 8) - 1)) (hv := hrd (by omega))) <| Rl.q Qt.mv <| Rl.q (Qt.rem (b := 8)) <| ?_
          refine Rl.q (Qt.shl (a := 1) (h := shl8 z1)) <| Rl.q (Qt.or (h := or8 z1)) <| Rl.q Qt.iaA1 <| Rl.e0 (Ef.st (hc := ⟨rfl, by rw [bc_length, bmV_length]; show 0 + (4096 + z1 / 8) + 1 ≤ 8192; omega, rfl⟩)) fun _ _ => Rl.nilK <| ?_
          rw [hwr (by omega)]
          refine T.region <| Rl.q Qt.mv <| Rl.q (Qt.add (b := 1)) <| Rl.q Qt.as <| Rl.nil <| Ex.K <| ?_
          refine T.sr <| Rl.q Qt.mv <| Rl.q Qt.pneSome <| Rl.q Qt.mv <| Rl.gt <| Rl.q Qt.mv <| Rl.gt <| Rl.q Qt.nc <| ?_
          refine Rl.gt <| Rl.q Qt.fa <| Rl.gt <| Rl.q (Qt.to (u := N .u16 32768) Qt.ld (by rw [(hfile _).2])) <| Rl.gt <| Rl.q (Qt.and (a := 32768) (b := 61440) (h := by decide)) <| Rl.gt <| Rl.q (Qt.eqF (b := 16384) (h := by decide)) <| ?_
          refine Rl.q Qt.pkT <| Rl.nilK <| ?_
          refine T.condF ?_
          refine T.skip <| Ex.Bnormal <| Ex.K <| ?_
          refine T.region <| Rl.q Qt.mv <| Rl.q (Qt.add (b := 1)) <| Rl.q Qt.as <| Rl.nil <| ?_
          exact Ex.next (z1 + 1, (z2 + 1, z3)) ⟨(by show z1 + 1 ≤ 16; omega), (by show z2 + 1 = min (z1 + 1) 12; omega), (by show z3 = (if z1 + 1 ≤ 1 then 0 else if z1 + 1 ≤ 10 then 1 else 2); rw [hz3]; (repeat' split) <;> omega)⟩ (by show 16 - (z1 + 1) < 16 - z1; omega) (.cons rfl <| .cons rfl <| .cons rfl <| .cons rfl <| .cons rfl <| .cons rfl <| .cons rfl <| .cons rfl <| .cons rfl <| .cons rfl <| .cons rfl <| .cons rfl <| .cons rfl <| .cons rfl <| .cons rfl <| .cons rfl <| .cons rfl <| .cons rfl <| .cons rfl <| .nil)
        · refine T.sr <| Rl.q Qt.mv <| Rl.q Qt.mv <| Rl.q (Qt.toN (c := 0) (Qt.mul (a := 0) (b := 16) (h := by decide)) rfl) <| Rl.q (Qt.toN (c := 1) (Qt.add (a := 1) (b := 0) (h := by decide)) rfl) <| Rl.q Qt.mv <| Rl.q (Qt.add (a := 1)) <| Rl.q Qt.as <| ?_
          refine Rl.nilK <| ?_
          refine T.sr <| Rl.q Qt.mv <| Rl.q Qt.mv <| Rl.e (Ef.qcall (S := getInode0_q (i := 1 + z1) (s := { s with pos := B * 4096 + 4096, name := [], cur := .pointer none, dw := 0, dm := 0 }) (l := ([nilP, Pt bD, nilP, nilP, nilP, nilP, nilP, nilP, nilP, nilP, Pt bL, Pt bF] ++ sp)) (fr := fr) hinA (by decide) (by omega) (by omega))) fun _ _ => Rl.q Qt.as <| Rl.nilK <| ?_
          refine T.seq ?_
          refine T.sr <| Rl.q Qt.mv <| Rl.q (Qt.ltF (b := 11)) <| Rl.q Qt.mv <| Rl.gt <| Rl.q Qt.mv <| Rl.gt <| Rl.q Qt.pneNil <| ?_
          refine Rl.q Qt.pkF <| Rl.nilK <| ?_
          refine T.condF ?_
          refine T.skip <| Ex.K <| ?_
          refine T.sr <| Rl.q Qt.mv <| Rl.q Qt.pneNil <| Rl.q Qt.mv <| Rl.gf <| Rl.gf <| Rl.gf <| Rl.gf <| Rl.gf <| Rl.gf <| Rl.q (Qt.pkF (v := .bool false)) <| ?_
          refine Rl.nilK <| ?_
          refine T.condF ?_
          refine T.skip <| Ex.Bnormal <| Ex.K <| ?_
          refine T.region <| Rl.q Qt.mv <| Rl.q (Qt.add (b := 1)) <| Rl.q Qt.as <| Rl.nil <| ?_
          exact Ex.next (z1 + 1, (z2, z3)) ⟨(by show z1 + 1 ≤ 16; omega), (by show z2 = min (z1 + 1) 12; omega), (by show z3 = (if z1 + 1 ≤ 1 then 0 else if z1 + 1 ≤ 10 then 1 else 2); rw [hz3]; (repeat' split) <;> omega)⟩ (by show 16 - (z1 + 1) < 16 - z1; omega) (.cons rfl <| .cons rfl <| .cons rfl <| .cons rfl <| .cons rfl <| .cons rfl <| .cons rfl <| .cons rfl <| .cons rfl <| .cons rfl <| .cons rfl <| .cons rfl <| .cons rfl <| .cons rfl <| .cons rfl <| .cons rfl <| .cons rfl <| .cons rfl <| .cons rfl <| .nil)
      · refine Rl.nilK <| ?_
        refine T.condF ?_
        refine T.exit <| Ex.Kexit <| Ex.Lexit <| Ex.Bhit <| Ex.K <| ?_
        have h216 : 16 ≤ z1 := h216
        obtain rfl : z1 = 16 := by omega
        obtain rfl : z2 = 12 := hz2
        obtain rfl : z3 = 2 := hz3
        refine T.sr <| Rl.q Qt.mv <| Rl.q Qt.slA <| Rl.e (Ef.call (S := write_o (s := { s with pos := B * 4096 + 4096, name := [], cur := .pointer none, dw := 0, dm := 0 }) (R := bc (bmV 32768 12)) (bs := bmV 32768 12) (xs := padZ (O ++ tabB ents) (B * 4096 + 4096)) (RowB.all _) (bmV_length _ _).symm he (by show B * 4096 + 4096 = _; rw [hpl]) (by rw [bmV_length]; decide) (by rw [bmV_length]; show B * 4096 + 4096 + 8192 ≤ s.max; omega) h3)) fun f hf => Rl.q Qt.mv <| Rl.q Qt.ex <| Rl.q Qt.ex <| Rl.q Qt.as <| ?_
        refine Rl.q Qt.as <| Rl.nilK <| ?_
        refine T.seq ?_
        rw [bmV_length]
        have hB3 : B + 3 < 268435456 := by omega
        obtain ⟨U, hU⟩ : ∃ q, q = padZ (O ++ tabB ents) (B * 4096 + 4096) ++ bmV 32768 12 := ⟨_, rfl⟩
        rw [← hU] at hf
        have hUl : U.length = (B + 3) * 4096 := by rw [hU, List.length_append, hpl, bmV_length]; omega
        have hU0 : Own 5 1 f.1 U.length (bc U) f.2 := hf
        have hU1 : Own 5 1 f.1 (wrB U 4096 (gdsB (B + 1) (B + 2) B 0 4 2 0)).length (bc (wrB U 4096 (gdsB (B + 1) (B + 2) B 0 4 2 0))) f.2 := by rw [show gdsB (B + 1) (B + 2) B 0 4 2 0 = [] from rfl, wrB_in (by show 4096 + 0 ≤ _; omega), putB_nil]; exact hU0
        refine T.sr <| Rl.q Qt.mv <| Rl.q Qt.ineNil <| Rl.nilK <| ?_
        refine T.condF ?_
        refine T.skip <| Ex.K <| ?_
        refine T.sr <| Rl.q Qt.mv <| Rl.q Qt.mv <| Rl.q Qt.mv <| Rl.q Qt.mv <| Rl.q (Qt.toN (c := 0) (Qt.mul (a := 2) (b := 0) (h := by decide)) rfl) <| Rl.q (Qt.toN (c := B + 1) (Qt.add (b := 0) (a := B + 1)) (rfl)) <| Rl.q Qt.mv <| ?_
        refine Rl.q Qt.mv <| Rl.q (Qt.toN (c := 0) (Qt.mul (a := 2) (b := 0) (h := by decide)) rfl) <| Rl.q (Qt.toN (c := B + 1) (Qt.add (b := 0) (a := B + 1)) (rfl)) <| Rl.q (Qt.toN (c := B + 2) (Qt.add (b := 1) (a := B + 1)) (rfl)) <| Rl.q Qt.mv <| Rl.q Qt.mv <| Rl.q Qt.mv <| Rl.q (Qt.toN (c := 0) (Qt.mul (a := 0) (b := 1) (h := by decide)) rfl) <| ?_
        refine Rl.q (Qt.toN (c := B) (Qt.add (b := 0) (a := B)) (by omega)) <| Rl.q Qt.mv <| Rl.q Qt.mv <| Rl.q (Qt.cv (a := 16) (h := by decide)) <| Rl.q Qt.mv <| Rl.q (Qt.toN (c := 4) (Qt.sub (a := 16) (b := 12)) (rfl)) <| Rl.q Qt.mv <| Rl.q (Qt.toN (c := 0) (Qt.sub (a := 32768) (b := 32768) (h := by decide)) rfl) <| ?_
        refine Rl.q Qt.bdN <| Rl.q (Qt.ia (i := 0)) <| Rl.e0 (Ef.st (hc := ⟨rfl, by rw [gdz_len]; show 0 + 0 * 12 + 12 ≤ 1536; omega, rfl⟩)) fun _ _ => Rl.nilK <| ?_
        rw [show putL (List.replicate 128 gdZ).flatten (0 + 0 * 12) (vcells (.agg [N .u32 (B + 1), N .u32 (B + 2), N .u32 B, N .u16 0, N .u16 4, N .u16 2, N .u16 0, N .u32 0, N .u16 0, N .u16 0, N .u16 0, N .u16 0].toArray)) = gdV (B + 1) (B + 2) B 0 4 2 ++ (List.replicate 127 gdZ).flatten from gds_put]
        refine T.sr <| Rl.q Qt.mv <| Rl.q Qt.mv <| Rl.q (Qt.cv (a := 32768) (h := by decide)) <| Rl.q (Qt.toN (c := 32768) (Qt.add (a := 0) (b := 32768) (h := by decide)) rfl) <| Rl.q Qt.as <| Rl.nilK <| ?_
        refine T.region <| Rl.q Qt.mv <| Rl.q Qt.mv <| Rl.q Qt.cv <| Rl.q (Qt.add (a := 0)) <| Rl.q Qt.as <| Rl.nil <| Ex.Bnormal <| Ex.K <| ?_
        refine T.region <| Rl.q Qt.mv <| Rl.q (Qt.toN (c := 1) (Qt.add (a := 0) (b := 1) (h := by decide)) rfl) <| Rl.q Qt.as <| Rl.nil <| Ex.LR <| ?_
        refine T.seq ?_
        refine T.sr <| Rl.q Qt.mv <| Rl.q Qt.mv <| Rl.q (Qt.ltF (a := 1) (b := 1)) <| Rl.nilK <| ?_
        refine T.condF ?_
        refine T.exit <| Ex.Kexit <| Ex.Rexit <| Ex.Bhit <| Ex.K <| ?_
        refine T.sr <| Rl.q Qt.mv <| Rl.q Qt.mv <| Rl.q Qt.mv <| Rl.q (Qt.toN (c := 2) Qt.sub (by omega)) <| Rl.q Qt.mv <| Rl.q (Qt.toN (c := 0) (Qt.sub (a := 2) (b := 2)) (rfl)) <| Rl.q (Qt.cv (a := 0) (h := by decide)) <| ?_
        refine Rl.q (Qt.toN (c := 0) (Qt.mul (a := 0) (b := 4096) (h := by decide)) rfl) <| Rl.e (Ef.call (S := zero0_s (s := { s with pos := B * 4096 + 4096 + 8192, name := [], cur := .pointer none, dw := 0, dm := 0 }) hU0 (by show B * 4096 + 4096 + 8192 = _; omega) (by omega) (by show B * 4096 + 4096 + 8192 ≤ s.max; omega) h3)) fun _ _ => Rl.q Qt.mv <| Rl.q Qt.ex <| Rl.q Qt.ex <| Rl.q Qt.as <| Rl.nilK <| ?_
        refine T.seq ?_
        refine T.sr <| Rl.q Qt.mv <| Rl.q Qt.ineNil <| Rl.nilK <| ?_
        refine T.condF ?_
        refine T.skip <| Ex.K <| ?_
        refine T.sr <| Rl.q Qt.mv <| Rl.e (Ef.call (S := seekBlock_s (s := { s with pos := B * 4096 + 4096 + 8192, name := [], cur := .pointer none, dw := 0, dm := 0 }) (n := 1) (by decide))) fun _ _ => Rl.nilK <| ?_
        refine T.seq ?_
        refine T.sr <| Rl.q Qt.mv <| Rl.q Qt.nc <| Rl.q Qt.fa <| Rl.q Qt.ld <| Rl.q Qt.ineNil <| Rl.nilK <| ?_
        refine T.condF ?_
        refine T.skip <| Ex.K <| ?_
        refine T.seq ?_
        refine T.sr <| Rl.q Qt.mv <| Rl.q Qt.len <| Rl.q (Qt.mv (v := N .i64 0)) <| Rl.nilK <| ?_
        refine T.block ?_
        refine T.loop (α := Nat × (Value × Chunk)) (fun z => [(0, Pt bW), (8, N .u32 1), (9, N .u32 16), (14, N .u32 (B + 3)), (19, N .u32 32768), (20, N .u32 12), (326, Sl b119 0 128 128), (327, N .i64 128), (328, N .i64 z.1)]) (fun z => [[(s.disk, DO z.2.1 (4096 + z.1 * 32))], z.2.2, [(bW, WO { s with pos := 1 * 4096, name := [], cur := .pointer none, dw := 0, dm := 0 })], [(b119, .cells ((gdV (B + 1) (B + 2) B 0 4 2) ++ (List.replicate 127 gdZ).flatten).toArray 199 (0, 0))]]) (fun z => z.1 ≤ 128 ∧ Own 5 1 z.2.1 (wrB U 4096 (gdsB (B + 1) (B + 2) B 0 4 2 z.1)).length (bc (wrB U 4096 (gdsB (B + 1) (B + 2) B 0 4 2 z.1))) z.2.2) (fun z => 128 - z.1)
          (0, (f.1, f.2)) ⟨by show 0 ≤ 128; decide, hU1⟩ ?_ (fun z hz => ?_)
        · exact .cons rfl <| .cons rfl <| .cons rfl <| .cons rfl <| .cons rfl <| .cons rfl <| .cons rfl <| .cons rfl <| .cons rfl <| .nil
        obtain ⟨z1, vz, Ez⟩ := z
        obtain ⟨hz1, hz2⟩ := hz
        have hz1 : z1 ≤ 128 := hz1
        have hz2 : Own 5 1 vz (wrB U 4096 (gdsB (B + 1) (B + 2) B 0 4 2 z1)).length (bc (wrB U 4096 (gdsB (B + 1) (B + 2) B 0 4 2 z1))) Ez := hz2
        have hgl0 := gdsB_length (B + 1) (B + 2) B 0 4 2 z1
        have hwl0 : (wrB U 4096 (gdsB (B + 1) (B + 2) B 0 4 2 z1)).length = U.length := by rw [wrB_in (by omega), putB_length (by omega)]
        have hwl : (wrB U 4096 (gdsB (B + 1) (B + 2) B 0 4 2 z1)).length < 1099511627776 := by omega
        refine T.sr <| Rl.ltS (b := 128) (fun h329 => ?_) (fun h329 => ?_)
        · refine Rl.nilK <| ?_
          refine T.seq ?_
          refine T.condT ?_
          refine T.skip <| Ex.K <| ?_
          refine T.seq ?_
          refine T.block ?_
          have h329 : z1 < 128 := h329
          have hzc : z1 = 0 ∨ ∃ j, z1 = j + 1 := by cases z1 with | zero => exact .inl rfl | succ j => exact .inr ⟨j, rfl⟩
          rcases hzc with h0 | ⟨j, h0⟩
          · refine T.sr <| Rl.q Qt.ia <| Rl.q (Qt.ldA (vs := gdV (B + 1) (B + 2) B 0 4 2) (hv := by rw [h0]; exact gds_rd0)) <| Rl.e Ef.alA fun b36 hb36 => Rl.e0 Ef.stN fun _ _ => Rl.nilK <| ?_
            refine T.dr [6] ?_ mixed
            refine Dr.qs [0, 1, 2, 3, 4] [] ?_
            refine Dq.q Qt.mv <| Dq.q Qt.nc <| Dq.q Qt.fa0 <| Dq.q Qt.ld <| Dq.q Qt.ldA <| Dq.nil <| ?_
            refine Dr.e 5 <| Eo.e rfl (Ef.call (S := grpDesc_s (B + 1) (B + 2) B 0 4 2)) fun r337 h337 => ?_
            rw [grpDescB_length] at h337
            obtain ⟨b36, c36, sp36, hv36, hc36, _, hE36, _⟩ := h337.some (by decide)
            rw [hv36, hE36]
            have hR36 : RowB (bc (grpDescB (B + 1) (B + 2) B 0 4 2) ++ sp36) 0 (grpDescB (B + 1) (B + 2) B 0 4 2) := by unfold RowB; rw [← bc_length]; exact seg_app _ _
            have hk36 : 32 = (grpDescB (B + 1) (B + 2) B 0 4 2).length := (grpDescB_length _ _ _ _ _ _).symm
            refine Dr.e 6 <| Eo.e rfl (Ef.call (S := put_s (bD := s.disk) (p := 4096 + z1 * 32) (bs := grpDescB (B + 1) (B + 2) B 0 4 2) hR36 hk36 hz2 (by rw [grpDescB_length]; decide) (by rw [grpDescB_length]; omega) hwl)) fun g hg => Dr.nil <| Ex.Bnormal <| Ex.K <| ?_
            refine T.region <| Rl.q (Qt.add (b := 1)) <| Rl.q Qt.mv <| Rl.nil <| ?_
            have hge : wrB (wrB U 4096 (gdsB (B + 1) (B + 2) B 0 4 2 z1)) (4096 + z1 * 32) (grpDescB (B + 1) (B + 2) B 0 4 2) = wrB U 4096 (gdsB (B + 1) (B + 2) B 0 4 2 (z1 + 1)) := by
              have h1 := wrB_snoc (l := U) (a := gdsB (B + 1) (B + 2) B 0 4 2 z1) (b := grpDescB (B + 1) (B + 2) B 0 4 2) (p := 4096) (by rw [hgl0, grpDescB_length]; omega)
              rw [hgl0] at h1
              rw [h1]
              congr 1
              rw [h0]; simp [gdsB]
            have hgn : Own 5 1 g.1 (wrB U 4096 (gdsB (B + 1) (B + 2) B 0 4 2 (z1 + 1))).length (bc (wrB U 4096 (gdsB (B + 1) (B + 2) B 0 4 2 (z1 + 1)))) g.2 := by rw [← hge]; exact hg
            rw [show 4096 + z1 * 32 + (grpDescB (B + 1) (B + 2) B 0 4 2).length = 4096 + (z1 + 1) * 32 by rw [grpDescB_length]; omega]
            exact Ex.next (z1 + 1, (g.1, g.2)) ⟨by show z1 + 1 ≤ 128; omega, hgn⟩ (by show 128 - (z1 + 1) < 128 - z1; omega) (.cons rfl <| .cons rfl <| .cons rfl <| .cons rfl <| .cons rfl <| .cons rfl <| .cons rfl <| .cons rfl <| .cons rfl <| .nil)
          · refine T.sr <| Rl.q Qt.ia <| Rl.q (Qt.ldA (vs := gdZ) (hv := by rw [h0, Nat.zero_add]; exact gds_rdS (by omega))) <| Rl.e Ef.alA fun b36 hb36 => Rl.e0 Ef.stN fun _ _ => Rl.nilK <| ?_
            refine T.dr [6] ?_ mixed
            refine Dr.qs [0, 1, 2, 3, 4] [] ?_
            refine Dq.q Qt.mv <| Dq.q Qt.nc <| Dq.q Qt.fa0 <| Dq.q Qt.ld <| Dq.q Qt.ldA <| Dq.nil <| ?_
            refine Dr.e 5 <| Eo.e rfl (Ef.call (S := grpDesc_s 0 0 0 0 0 0)) fun r337 h337 => ?_
            rw [grpDescB_length] at h337
            obtain ⟨b36, c36, sp36, hv36, hc36, _, hE36, _⟩ := h337.some (by decide)
            rw [hv36, hE36]
            have hR36 : RowB (bc (grpDescB 0 0 0 0 0 0) ++ sp36) 0 (grpDescB 0 0 0 0 0 0) := by unfold RowB; rw [← bc_length]; exact seg_app _ _
            have hk36 : 32 = (grpDescB 0 0 0 0 0 0).length := (grpDescB_length _ _ _ _ _ _).symm
            refine Dr.e 6 <| Eo.e rfl (Ef.call (S := put_s (bD := s.disk) (p := 4096 + z1 * 32) (bs := grpDescB 0 0 0 0 0 0) hR36 hk36 hz2 (by rw [grpDescB_length]; decide) (by rw [grpDescB_length]; omega) hwl)) fun g hg => Dr.nil <| Ex.Bnormal <| Ex.K <| ?_
            refine T.region <| Rl.q (Qt.add (b := 1)) <| Rl.q Qt.mv <| Rl.nil <| ?_
            have hge : wrB (wrB U 4096 (gdsB (B + 1) (B + 2) B 0 4 2 z1)) (4096 + z1 * 32) (grpDescB 0 0 0 0 0 0) = wrB U 4096 (gdsB (B + 1) (B + 2) B 0 4 2 (z1 + 1)) := by
              have h1 := wrB_snoc (l := U) (a := gdsB (B + 1) (B + 2) B 0 4 2 z1) (b := grpDescB 0 0 0 0 0 0) (p := 4096) (by rw [hgl0, grpDescB_length]; omega)
              rw [hgl0] at h1
              rw [h1]
              congr 1
              rw [h0]; exact gdsB_succ ..
            have hgn : Own 5 1 g.1 (wrB U 4096 (gdsB (B + 1) (B + 2) B 0 4 2 (z1 + 1))).length (bc (wrB U 4096 (gdsB (B + 1) (B + 2) B 0 4 2 (z1 + 1)))) g.2 := by rw [← hge]; exact hg
            rw [show 4096 + z1 * 32 + (grpDescB 0 0 0 0 0 0).length = 4096 + (z1 + 1) * 32 by rw [grpDescB_length]; omega]
            exact Ex.next (z1 + 1, (g.1, g.2)) ⟨by show z1 + 1 ≤ 128; omega, hgn⟩ (by show 128 - (z1 + 1) < 128 - z1; omega) (.cons rfl <| .cons rfl <| .cons rfl <| .cons rfl <| .cons rfl <| .cons rfl <| .cons rfl <| .cons rfl <| .cons rfl <| .nil)
        · refine Rl.nilK <| ?_
          refine T.seq ?_
          refine T.condF ?_
          refine T.exit <| Ex.Kexit <| Ex.Lexit <| Ex.Bhit <| Ex.K <| ?_
          have h329 : 128 ≤ z1 := h329
          obtain rfl : z1 = 128 := by omega
          obtain ⟨V, hV0⟩ : ∃ q, q = wrB U 4096 (gdsB (B + 1) (B + 2) B 0 4 2 128) := ⟨_, rfl⟩
          rw [← hV0] at hz2 hwl0 hwl
          have hV : Own 5 1 vz V.length (bc V) Ez := hz2
          refine T.sr <| Rl.e (Ef.alA (z := bc (List.replicate 4096 0)) (hz := zero179)) fun b37 hb37 => Rl.nilK <| ?_
          refine T.sr <| Rl.q Qt.mv <| Rl.q Qt.mv <| Rl.q (Qt.toN (c := 16) (Qt.mul (a := 16) (b := 1) (h := by decide)) rfl) <| Rl.q Qt.mv <| Rl.q Qt.mv <| Rl.q (Qt.toN (c := 32768) (Qt.mul (a := 32768) (b := 1) (h := by decide)) rfl) <| Rl.q Qt.mv <| ?_
          refine Rl.q (Qt.toN (c := 0) (Qt.sub (a := 32768) (b := 32768) (h := by decide)) rfl) <| Rl.q Qt.mv <| Rl.q Qt.mv <| Rl.q (Qt.toN (c := 16) (Qt.mul (a := 16) (b := 1) (h := by decide)) rfl) <| Rl.q Qt.mv <| Rl.q (Qt.toN (c := 4) (Qt.sub (a := 16) (b := 12) (h := by decide)) rfl) <| Rl.q Qt.mv <| Rl.q (Qt.bd (z := zc216L) (hz := zero216) (vs := sbC 16 (B + 3) 0 4 16 578) (hf := by kernel_rfl)) <| ?_
          refine Rl.e (Ef.alA (z := zc216L) (hz := zero216)) fun b38 hb38 => Rl.e0 (Ef.st (hc := ⟨by kernel_rfl, Nat.le_of_eq (by kernel_rfl), by kernel_rfl⟩)) fun _ _ => Rl.nilK <| ?_
          refine T.seq ?_
          rw [putL_agg (sbC_len 16 (B + 3) 0 4 16 578)]
          rcases Bool.eq_false_or_eq_true s.inl with hil | hil
          · have hinc2 : inc = 33346 := by rw [hinc, hil]; rfl
            refine T.sr <| Rl.q Qt.mv <| Rl.q Qt.nc <| Rl.q Qt.fa <| Rl.q (Qt.to (u := .bool true) Qt.ld (by rw [hil])) <| Rl.nilK <| ?_
            refine T.condT ?_
            refine T.region <| Rl.q Qt.fa <| Rl.q (Qt.ld (v := N .u32 578) (hv := sbC_29 ..)) <| Rl.q (Qt.toN (c := 33346) (Qt.or (b := 32768)) (rfl)) <| Rl.q Qt.fa <| Rl.e0 (Ef.st (hc := ⟨rfl, sbC_ge .., rfl⟩)) fun _ _ => Rl.nil <| Ex.K <| ?_
            rw [sbC_inl]
            refine T.sdr [2, 3] ?_ mixed
            refine Dr.qs [0, 1] [true] ?_
            refine Dq.p (Qt.slA (cl := 1024)) <| Dq.q (Qt.ldA (vs := sbC 16 (B + 3) 0 4 16 33346) (hv := seg_is (by kernel_rfl))) <| Dq.nil <| ?_
            refine Dr.e 2 <| Eo.e rfl (Ef.call (S := sb_s (s0 := 16) (s1 := B + 3) (s3 := 0) (s4 := 4) (s10 := 16) (s29 := 33346))) fun r365 h365 => ?_
            rw [← hinc2] at h365
            obtain ⟨b65, c65, sp65, hv65, hc65, _, hE65, _⟩ := h365.some (by decide)
            have hsbl : (sbB 16 (B + 3) 0 4 16 inc).length = 1024 := by have := h365.1; rwa [bc_length] at this
            rw [hv65, hE65]
            refine Dr.e 3 <| Eo.e rfl (Ef.cp (vs := bc (sbB 16 (B + 3) 0 4 16 inc)) (hs := by rw [show (1024 : Nat).min 3072 = 1024 from rfl, ← hsbl, ← bc_length]; exact seg_app _ _) (hl := ⟨by show 1024 + 1024 ≤ _; rw [bc_length, List.length_replicate]; decide, bc_ones _⟩)) fun _ _ => Dr.nilK <| ?_
            rw [putL_bcs, show cutAt 4096 1024 1 0 = 1024 from rfl]
            obtain ⟨sbk, hsb0⟩ : ∃ q, q = putB (List.replicate 4096 0) 1024 (sbB 16 (B + 3) 0 4 16 inc) := ⟨_, rfl⟩
            rw [← hsb0]
            have hsbk : sbk.length = 4096 := by rw [hsb0, putB_length (by rw [hsbl, List.length_replicate]; decide), List.length_replicate]
            refine T.sr <| Rl.q Qt.mv <| Rl.e (Ef.call (S := seekBlock_s (s := { s with pos := 1 * 4096, name := [], cur := .pointer none, dw := 0, dm := 0 }) (n := 0) (by decide))) fun _ _ => Rl.nilK <| ?_
            refine T.seq ?_
            have hWq := write_s (bW := bW) (b := b37) (o := 0) (k := 4096) (c := 4096) (e := 179) (fr := (0, 0)) (v := vz) (E := Ez) (s := { s with pos := 0 * 4096, name := [], cur := .pointer none, dw := 0, dm := 0 }) (R := bc sbk) (bs := sbk) (xs := V) (RowB.all _) hsbk.symm hV (by rw [hsbk]; decide) (by rw [hsbk]; show 0 * 4096 + 4096 ≤ s.max; exact Nat.le_trans (show 0 * 4096 + 4096 ≤ 40000000 by decide) hroom) hwl h3
            refine T.sr <| Rl.q Qt.mv <| Rl.q Qt.slA <| Rl.e (Ef.call (S := hWq)) fun g hg => Rl.q Qt.mv <| Rl.q Qt.ex <| Rl.q Qt.ex <| Rl.q Qt.as <| ?_
            refine Rl.q Qt.as <| Rl.nilK <| ?_
            rw [hsbk]
            refine T.sr <| Rl.q Qt.mv <| Rl.q Qt.ineNil <| Rl.nilK <| ?_
            refine T.condF ?_
            refine T.skip <| Ex.K <| ?_
            refine T.sr <| Rl.q Qt.mv <| Rl.q Qt.mv <| Rl.e (Ef.call (S := seekBlock_s (s := { s with pos := 0 * 4096 + 4096, name := [], cur := .pointer none, dw := 0, dm := 0 }) (n := B + 3) hB3)) fun _ _ => Rl.nilK <| ?_
            refine T.sr <| Rl.q Qt.mv <| Rl.q Qt.nc <| Rl.q Qt.fa <| Rl.q Qt.ld <| Rl.q Qt.as <| Rl.nilK <| ?_
            refine T.ret <| Ex.ret1 (.inl rfl) rfl ?_ rfl
            subst hsb0 hV0 hU hents hO hB
            exact fun w h => ⟨(((r.2.1, q.2.1), (q.2.2.2.1, u.2.1)), (g.1, g.2)), ⟨⟨r.2.2, hr.2⟩, hq2, _, rfl, hg⟩, rfl, h.re⟩
          · have hinc2 : inc = 578 := by rw [hinc, hil]; rfl
            refine T.sr <| Rl.q Qt.mv <| Rl.q Qt.nc <| Rl.q Qt.fa <| Rl.q (Qt.to (u := .bool false) Qt.ld (by rw [hil])) <| Rl.nilK <| ?_
            refine T.condF ?_
            refine T.skip <| Ex.K <| ?_
            refine T.sdr [2, 3] ?_ mixed
            refine Dr.qs [0, 1] [true] ?_
            refine Dq.p (Qt.slA (cl := 1024)) <| Dq.q (Qt.ldA (vs := sbC 16 (B + 3) 0 4 16 578) (hv := seg_is (by kernel_rfl))) <| Dq.nil <| ?_
            refine Dr.e 2 <| Eo.e rfl (Ef.call (S := sb_s (s0 := 16) (s1 := B + 3) (s3 := 0) (s4 := 4) (s10 := 16) (s29 := 578))) fun r365 h365 => ?_
            rw [← hinc2] at h365
            obtain ⟨b65, c65, sp65, hv65, hc65, _, hE65, _⟩ := h365.some (by decide)
            have hsbl : (sbB 16 (B + 3) 0 4 16 inc).length = 1024 := by have := h365.1; rwa [bc_length] at this
            rw [hv65, hE65]
            refine Dr.e 3 <| Eo.e rfl (Ef.cp (vs := bc (sbB 16 (B + 3) 0 4 16 inc)) (hs := by rw [show (1024 : Nat).min 3072 = 1024 from rfl, ← hsbl, ← bc_length]; exact seg_app _ _) (hl := ⟨by show 1024 + 1024 ≤ _; rw [bc_length, List.length_replicate]; decide, bc_ones _⟩)) fun _ _ => Dr.nilK <| ?_
            rw [putL_bcs, show cutAt 4096 1024 1 0 = 1024 from rfl]
            obtain ⟨sbk, hsb0⟩ : ∃ q, q = putB (List.replicate 4096 0) 1024 (sbB 16 (B + 3) 0 4 16 inc) := ⟨_, rfl⟩
            rw [← hsb0]
            have hsbk : sbk.length = 4096 := by rw [hsb0, putB_length (by rw [hsbl, List.length_replicate]; decide), List.length_replicate]
            refine T.sr <| Rl.q Qt.mv <| Rl.e (Ef.call (S := seekBlock_s (s := { s with pos := 1 * 4096, name := [], cur := .pointer none, dw := 0, dm := 0 }) (n := 0) (by decide))) fun _ _ => Rl.nilK <| ?_
            refine T.seq ?_
            have hWq := write_s (bW := bW) (b := b37) (o := 0) (k := 4096) (c := 4096) (e := 179) (fr := (0, 0)) (v := vz) (E := Ez) (s := { s with pos := 0 * 4096, name := [], cur := .pointer none, dw := 0, dm := 0 }) (R := bc sbk) (bs := sbk) (xs := V) (RowB.all _) hsbk.symm hV (by rw [hsbk]; decide) (by rw [hsbk]; show 0 * 4096 + 4096 ≤ s.max; exact Nat.le_trans (show 0 * 4096 + 4096 ≤ 40000000 by decide) hroom) hwl h3
            refine T.sr <| Rl.q Qt.mv <| Rl.q Qt.slA <| Rl.e (Ef.call (S := hWq)) fun g hg => Rl.q Qt.mv <| Rl.q Qt.ex <| Rl.q Qt.ex <| Rl.q Qt.as <| ?_
            refine Rl.q Qt.as <| Rl.nilK <| ?_
            rw [hsbk]
            refine T.sr <| Rl.q Qt.mv <| Rl.q Qt.ineNil <| Rl.nilK <| ?_
            refine T.condF ?_
            refine T.skip <| Ex.K <| ?_
            refine T.sr <| Rl.q Qt.mv <| Rl.q Qt.mv <| Rl.e (Ef.call (S := seekBlock_s (s := { s with pos := 0 * 4096 + 4096, name := [], cur := .pointer none, dw := 0, dm := 0 }) (n := B + 3) hB3)) fun _ _ => Rl.nilK <| ?_
            refine T.sr <| Rl.q Qt.mv <| Rl.q Qt.nc <| Rl.q Qt.fa <| Rl.q Qt.ld <| Rl.q Qt.as <| Rl.nilK <| ?_
            refine T.ret <| Ex.ret1 (.inl rfl) rfl ?_ rfl
            subst hsb0 hV0 hU hents hO hB
            exact fun w h => ⟨(((r.2.1, q.2.1), (q.2.2.2.1, u.2.1)), (g.1, g.2)), ⟨⟨r.2.2, hr.2⟩, hq2, _, rfl, hg⟩, rfl, h.re⟩
end SL
end Go.Proofs.YtlmiekcmjpnobaaGreatDoor
namespace Go.Proofs.YtlmiekcmjpnobaaGreatDoor
open Go
namespace SL
set_option maxRecDepth 20000

abbrev ws0 (bD : Nat) : WS := ⟨bD, .slice none 0 0, [], .pointer none, 0, 0, 0, false, false, 17179869184, 0⟩
variable {bW bD b p : Nat} {s : WS} {v : Value}
theorem inlineF_s : Spec Tryz.prog 48 [Pt bW] [] [[(bW, WO s)]] (fun _ : Unit => True) (fun _ => .tuple #[]) (fun _ => [[(bW, WO { s with inl := true })]]) := by
  refine Spec.of Tryz.func48 rfl Tryz.ntmps48 (by simp) fun w => ?_
  refine T.region <| Rl.q Qt.mv <| Rl.q Qt.nc <| Rl.q Qt.fa <| Rl.e0 (Ef.st1 (v := .bool true)) fun _ _ => Rl.nil <| Ex.ret0 (.inr rfl) ?_ rfl
  exact fun w h => ⟨(), trivial, rfl, h.re⟩

theorem maxD_s : Spec Tryz.prog 47 [N .i64 0] [] [] (fun _ : Nat => True) (fun b => .func (.func 79) #[] #[Pt b]) (fun b => [[(b, .cells [N .i64 0].toArray 2 (0, 0))]]) := by
  refine Spec.of Tryz.func47 rfl Tryz.ntmps47 (by simp) fun w => ?_
  refine T.sr <| Rl.e Ef.bx1 fun b1 hb1 => Rl.q Qt.as <| Rl.nilK <| ?_
  refine T.sr <| Rl.q Qt.mf <| Rl.q Qt.as <| Rl.nilK <| ?_
  refine T.ret <| Ex.ret1 (.inl rfl) rfl ?_ rfl
  exact fun w h => ⟨b1, trivial, rfl, h.re⟩

theorem maxF_s : Spec Tryz.prog 79 [Pt bW, Pt b] [[(b, .cells [N .i64 0].toArray 2 (0, 0))]] [[(bW, WO s)]] (fun _ : Unit => True) (fun _ => .tuple #[]) (fun _ => [[(bW, WO { s with max := 17179869184 })]]) := by
  refine Spec.of Tryz.func79 rfl Tryz.ntmps79 (by simp) fun w => ?_
  refine T.sr <| Rl.q Qt.ld <| Rl.q (Qt.ltF (a := 0) (b := 0)) <| Rl.q Qt.mv <| Rl.gt <| Rl.q Qt.ld <| Rl.gt <| Rl.q (Qt.gtF (a := 0) (b := 17592186044416)) <| ?_
  refine Rl.q Qt.pkF <| Rl.nilK <| ?_
  refine T.condF ?_
  refine T.sr <| Rl.q Qt.ld <| Rl.q (Qt.eqT (a := 0) (b := 0)) <| Rl.nilK <| ?_
  refine T.condT ?_
  refine T.region <| Rl.q Qt.mv <| Rl.q Qt.nc <| Rl.q Qt.fa <| Rl.e0 (Ef.st1 (v := N .i64 17179869184)) fun _ _ => Rl.nil <| Ex.ret0 (.inr rfl) ?_ rfl
  exact fun w h => ⟨(), trivial, rfl, h.re⟩

theorem newW_s {cO : Nat} {sp : List Value} {bO : Nat} {fO : Nat × Nat} : Spec Tryz.prog 49 [Pt bD, Sl bO 0 1 cO] [[(bO, .cells ([Value.func (.func 79) #[] #[Pt b]] ++ sp).toArray 113 fO)], [(b, .cells [N .i64 0].toArray 2 (0, 0))]] [] (fun _ : Nat => True) (fun bW => Pt bW) (fun bW => [[(bW, WO { ws0 bD with inl := false })]]) := by
  refine Spec.of Tryz.func49 rfl Tryz.ntmps49 (by simp) fun w => ?_
  refine T.sr <| Rl.q (Qt.as (v := .pointer none)) <| Rl.nilK <| ?_
  refine T.sr <| Rl.q Qt.mv <| Rl.q Qt.bdN <| Rl.e Ef.bxA fun b10 hb10 => Rl.q Qt.as <| Rl.nilK <| ?_
  refine T.seq ?_
  refine T.sr <| Rl.q Qt.mv <| Rl.q Qt.len <| Rl.q (Qt.mv (v := N .i64 0)) <| Rl.nilK <| ?_
  refine T.block ?_
  refine T.rounds 1 ?_
  refine T.sr <| Rl.q (Qt.ltT (a := 0) (b := 1) (h := by decide)) <| Rl.nilK <| ?_
  refine T.seq ?_
  refine T.condT ?_
  refine T.skip <| Ex.K <| ?_
  refine T.seq ?_
  refine T.block ?_
  refine T.sr <| Rl.q (Qt.ia1 (i := 0)) <| Rl.q Qt.ld <| Rl.q Qt.as <| Rl.nilK <| ?_
  refine T.region <| Rl.q Qt.mv <| Rl.q Qt.mv <| Rl.e (Ef.callC (S := maxF_s (b := b) (s := ws0 bD))) fun _ _ => Rl.nil <| Ex.Bnormal <| Ex.K <| ?_
  refine T.region <| Rl.q (Qt.toN (c := 1) (Qt.add (a := 0) (b := 1) (h := by decide)) rfl) <| Rl.q Qt.mv <| Rl.nil <| Ex.LR <| ?_
  refine T.sr <| Rl.q (Qt.ltF (a := 1) (b := 1) (h := by decide)) <| Rl.nilK <| ?_
  refine T.seq ?_
  refine T.condF ?_
  refine T.exit <| Ex.Kexit <| Ex.Rexit <| Ex.Bhit <| Ex.K <| ?_
  refine T.sr <| Rl.q Qt.mv <| Rl.q Qt.as <| Rl.nilK <| ?_
  refine T.ret <| Ex.ret1 (.inl rfl) rfl ?_ rfl
  exact fun w h => ⟨b10, trivial, rfl, h.re⟩

theorem newWI_s {cO : Nat} {sp : List Value} {bO : Nat} {fO : Nat × Nat} : Spec Tryz.prog 49 [Pt bD, Sl bO 0 2 cO] [[(bO, .cells ([Value.func (.func 79) #[] #[Pt b], Value.func (.func 48) #[] #[]] ++ sp).toArray 113 fO)], [(b, .cells [N .i64 0].toArray 2 (0, 0))]] [] (fun _ : Nat => True) (fun bW => Pt bW) (fun bW => [[(bW, WO { ws0 bD with inl := true })]]) := by
  refine Spec.of Tryz.func49 rfl Tryz.ntmps49 (by simp) fun w => ?_
  refine T.sr <| Rl.q (Qt.as (v := .pointer none)) <| Rl.nilK <| ?_
  refine T.sr <| Rl.q Qt.mv <| Rl.q Qt.bdN <| Rl.e Ef.bxA fun b10 hb10 => Rl.q Qt.as <| Rl.nilK <| ?_
  refine T.seq ?_
  refine T.sr <| Rl.q Qt.mv <| Rl.q Qt.len <| Rl.q (Qt.mv (v := N .i64 0)) <| Rl.nilK <| ?_
  refine T.block ?_
  refine T.rounds 2 ?_
  refine T.sr <| Rl.q (Qt.ltT (a := 0) (b := 2) (h := by decide)) <| Rl.nilK <| ?_
  refine T.seq ?_
  refine T.condT ?_
  refine T.skip <| Ex.K <| ?_
  refine T.seq ?_
  refine T.block ?_
  refine T.sr <| Rl.q (Qt.ia1 (i := 0)) <| Rl.q Qt.ld <| Rl.q Qt.as <| Rl.nilK <| ?_
  refine T.region <| Rl.q Qt.mv <| Rl.q Qt.mv <| Rl.e (Ef.callC (S := maxF_s (b := b) (s := ws0 bD))) fun _ _ => Rl.nil <| Ex.Bnormal <| Ex.K <| ?_
  refine T.region <| Rl.q (Qt.toN (c := 1) (Qt.add (a := 0) (b := 1) (h := by decide)) rfl) <| Rl.q Qt.mv <| Rl.nil <| Ex.LR <| ?_
  refine T.sr <| Rl.q (Qt.ltT (a := 1) (b := 2) (h := by decide)) <| Rl.nilK <| ?_
  refine T.seq ?_
  refine T.condT ?_
  refine T.skip <| Ex.K <| ?_
  refine T.seq ?_
  refine T.block ?_
  refine T.sr <| Rl.q (Qt.ia1 (i := 1)) <| Rl.q Qt.ld <| Rl.q Qt.as <| Rl.nilK <| ?_
  refine T.region <| Rl.q Qt.mv <| Rl.q Qt.mv <| Rl.e (Ef.callC (S := inlineF_s (s := ws0 bD))) fun _ _ => Rl.nil <| Ex.Bnormal <| Ex.K <| ?_
  refine T.region <| Rl.q (Qt.toN (c := 2) (Qt.add (a := 1) (b := 1) (h := by decide)) rfl) <| Rl.q Qt.mv <| Rl.nil <| Ex.LR <| ?_
  refine T.sr <| Rl.q (Qt.ltF (a := 2) (b := 2) (h := by decide)) <| Rl.nilK <| ?_
  refine T.seq ?_
  refine T.condF ?_
  refine T.exit <| Ex.Kexit <| Ex.Rexit <| Ex.Bhit <| Ex.K <| ?_
  refine T.sr <| Rl.q Qt.mv <| Rl.q Qt.as <| Rl.nilK <| ?_
  refine T.ret <| Ex.ret1 (.inl rfl) rfl ?_ rfl
  exact fun w h => ⟨b10, trivial, rfl, h.re⟩
end SL
end Go.Proofs.YtlmiekcmjpnobaaGreatDoor
namespace Go.Proofs.YtlmiekcmjpnobaaGreatDoor
open Go
namespace SL
set_option maxRecDepth 20000

section
variable {P : Program} {n : Nat} {g : Gx} {Ro : Heap} {f : FuncId} {α : Type} {args : List Value} {Hp : Heap} {φ : α → Prop} {ret : α → Value} {Hq : α → Heap} {v : Value}
theorem Pk.app : ∀ (A F : Heap), Pk (A ++ F) A F
  | [], _ => .nil
  | _ :: A, F => .cons .here (Pk.app A F)
theorem T.merge {c : Code} {m : Env} {A B : Chunk} {H : Heap} {Q : Post} (h : T P n g Ro c m ((A ++ B) :: H) Q) : T P n g Ro c m (A :: B :: H) Q := fun a w hs hh => h a w hs (hh.perm (by simp))
/-- Known blocks out of a chunk. -/
theorem SubR.sub1 {C Ck : Chunk} {H Ro : Heap} (hC : ∀ p ∈ C, p ∈ Ck) (hk : Ck ∈ H) : SubR [C] H Ro := ⟨fun p hp => .inl (List.mem_flatten.2 ⟨Ck, hk, hC p (by simpa using hp)⟩)⟩
end
/-! ### Rows of bools and numbers -/
def bF (n : Nat) (s : Nat → Bool) : List Value := (List.range n).map fun i => .bool (s i)
def nF (n : Nat) (f : Nat → Nat) : List Value := (List.range n).map fun i => N .u64 (f i)
def upd {α : Type} (f : Nat → α) (k : Nat) (x : α) : Nat → α := fun i => if i = k then x else f i
theorem range_set {α : Type} (n k : Nat) (f : Nat → α) (x : α) : ((List.range n).map f).set k x = (List.range n).map (upd f k x) := by
  apply List.ext_getElem
  · simp
  · intro i h1 h2
    simp only [List.getElem_set, List.getElem_map, List.getElem_range, upd]
    by_cases h : k = i
    · subst h; simp
    · have h' : ¬ i = k := fun e => h e.symm
      simp [h, h']
theorem bF_length (n : Nat) (s : Nat → Bool) : (bF n s).length = n := by simp [bF]
theorem nF_length (n : Nat) (s : Nat → Nat) : (nF n s).length = n := by simp [nF]
theorem bF_nth {n k : Nat} {s : Nat → Bool} (h : k < n) : nth (bF n s) k = some (.bool (s k)) := by rw [nth_eq]; simp [bF, h]
theorem nF_nth {n k : Nat} {s : Nat → Nat} (h : k < n) : nth (nF n s) k = some (N .u64 (s k)) := by rw [nth_eq]; simp [nF, h]
theorem bF_put {n k : Nat} {s : Nat → Bool} {b : Bool} (h : k < n) : putL (bF n s) k [.bool b] = bF n (upd s k b) := by
  rw [putL_set (by rw [bF_length]; exact h)]
  unfold bF
  rw [range_set]
  apply List.map_congr_left
  intro i _
  unfold upd
  split <;> rfl
theorem nF_put {n k x : Nat} {s : Nat → Nat} (h : k < n) : putL (nF n s) k [N .u64 x] = nF n (upd s k x) := by
  rw [putL_set (by rw [nF_length]; exact h)]
  unfold nF
  rw [range_set]
  apply List.map_congr_left
  intro i _
  unfold upd
  split <;> rfl
theorem bF_rep (n : Nat) : (List.replicate n (vcells (.bool false))).flatten = bF n fun _ => false := by
  rw [show vcells (.bool false) = [.bool false] from rfl, flat_rep]
  unfold bF
  apply List.ext_getElem <;> simp
theorem nF_rep (n : Nat) : (List.replicate n (vcells (N .u64 0))).flatten = nF n fun _ => 0 := by
  rw [show vcells (N .u64 0) = [N .u64 0] from rfl, flat_rep]
  unfold nF
  apply List.ext_getElem <;> simp
theorem length_flat {α : Type} {g : α → List Value} {k : Nat} (hg : ∀ a, (g a).length = k) (l : List α) : (l.flatMap g).length = l.length * k := by
  induction l with
  | nil => simp
  | cons a l ih => rw [List.flatMap_cons, List.length_append, hg, ih, List.length_cons, Nat.succ_mul, Nat.add_comm]
/-- A row of things of k cells each. -/
theorem seg_flat {α : Type} {g : α → List Value} {k : Nat} (hg : ∀ a, (g a).length = k) : ∀ {l : List α} {i : Nat} {a : α} (r : List Value), l[i]? = some a → seg (l.flatMap g ++ r) (i * k) k = some (g a)
  | b :: l, 0, a, r, h => by
    simp only [List.getElem?_cons_zero, Option.some.injEq] at h
    subst h
    rw [Nat.zero_mul, List.flatMap_cons, List.append_assoc]
    have := seg_app (g b) (l.flatMap g ++ r)
    rwa [hg] at this
  | b :: l, i + 1, a, r, h => by
    have h2 := seg_flat hg r (show l[i]? = some a from h)
    rw [List.flatMap_cons, List.append_assoc, Nat.succ_mul]
    have hL : i * k + k ≤ (l.flatMap g ++ r).length := by
      have := (List.getElem?_eq_some_iff.1 (show l[i]? = some a from h)).1
      have hl := length_flat hg l
      rw [List.length_append, hl]
      have := Nat.mul_le_mul_right k this
      rw [Nat.succ_mul] at this
      omega
    rw [seg_eq (by rw [List.length_append, hg]; omega), List.drop_append, hg]
    rw [seg_eq hL] at h2
    rw [List.drop_of_length_le (by rw [hg]; omega), List.nil_append, show i * k + k - k = i * k by omega]
    exact h2
/-! ### Windows -/
/-- A slice into a row of its own, which may begin behind the row's head. -/
def Win (e : TypeId) (sz : Nat) (v : Value) (k : Nat) (xs : List Value) (E : Chunk) : Prop :=
  xs.length = k * sz ∧
  ((v = .slice none 0 0 ∧ k = 0 ∧ E = []) ∨
   ∃ b o cap R, v = .slice (some ⟨b, o, none⟩) k cap ∧ k ≤ cap ∧ cap ≤ maxLen ∧ E = [(b, .cells R.toArray e (0, 0))] ∧ seg R o (k * sz) = some xs ∧ o + cap * sz ≤ R.length)
theorem Own.win {e : TypeId} {sz k : Nat} {v : Value} {xs : List Value} {E : Chunk} (h : Own e sz v k xs E) : Win e sz v k xs E := by
  obtain ⟨h1, h2 | ⟨b, cap, sp, h2, h3, h4, h5, h6⟩⟩ := h
  · exact ⟨h1, .inl h2⟩
  · exact ⟨h1, .inr ⟨b, 0, cap, xs ++ sp, h2, h3, h4, h5, by rw [← h1]; exact seg_app xs sp, by omega⟩⟩
theorem Win.some {e : TypeId} {sz k : Nat} {v : Value} {xs : List Value} {E : Chunk} (h : Win e sz v k xs E) (hk : 0 < k) :
    ∃ b o cap R, v = Sl b o k cap ∧ k ≤ cap ∧ cap ≤ maxLen ∧ E = [(b, .cells R.toArray e (0, 0))] ∧ seg R o (k * sz) = some xs ∧ o + cap * sz ≤ R.length := by
  obtain ⟨_, ⟨_, h0, _⟩ | h⟩ := h
  · omega
  · exact h
theorem Win.form {e : TypeId} {sz k : Nat} {v : Value} {xs : List Value} {E : Chunk} (h : Win e sz v k xs E) : ∃ p c, v = .slice p k c := by
  obtain ⟨_, ⟨h, h0, _⟩ | ⟨b, o, cap, R, h, _⟩⟩ := h
  · exact ⟨none, 0, by rw [h, h0]⟩
  · exact ⟨_, _, h⟩
theorem seg_putL {l xs ys : List Value} {o : Nat} (h : seg l o xs.length = some xs) (hl : o + xs.length + ys.length ≤ l.length) : seg (putL l (o + xs.length) ys) o (xs.length + ys.length) = some (xs ++ ys) := by
  have h1 := seg_take h
  have hA : (l.take o).length = o := by rw [List.length_take]; omega
  have hsp : l = l.take o ++ (xs ++ (l.drop o).drop xs.length) := by
    conv => lhs; rw [← List.take_append_drop o l, ← List.take_append_drop xs.length (l.drop o), h1]
  have ht : l.take (o + xs.length) = l.take o ++ xs := by rw [List.take_add, h1]
  unfold putL
  rw [ht, List.append_assoc, List.append_assoc]
  rw [seg_eq (by simp only [List.length_append, List.length_drop]; omega)]
  congr 1
  rw [List.drop_append, hA, List.drop_of_length_le (by omega), Nat.sub_self, List.drop_zero, List.nil_append, ← List.append_assoc, List.take_left' (by rw [List.length_append])]
section
variable {P : Program} {n : Nat} {g : Gx} {Ro : Heap}
theorem run_appW {w : World} {H : Heap} {E : Chunk} {t ty e sz bs k j : Nat} {v x z : Value} {xs news : List Value}
    (ht : SlT P t e sz) (hz : Zero P e z) (hzs : (vcells z).length = sz) (hb : Byt P e bs) (own : Win e sz v k xs E) (src : Src P w sz x j news)
    (hh : Hs g Ro w (E :: H)) (hl : k + j ≤ maxLen ∧ (k + j) * bs ≤ 140737488355328) :
    ∃ v' E' w', (Builtin.append_ #[t, t] ty #[v, x]).run P w = .ok v' w' ∧ Win e sz v' (k + j) (xs ++ news) E' ∧ Hs g Ro w' (E' :: H) := by
  obtain ⟨hx0, hA | ⟨b, o, cap, R, rfl, hkc, hcm, rfl, hsg, hlen⟩⟩ := own
  · obtain ⟨v', E', w', h1, h2, h3⟩ := run_app (ty := ty) ht hz hzs hb (⟨hx0, .inl hA⟩ : Own e sz v k xs E) src hh hl
    exact ⟨v', E', w', h1, h2.win, h3⟩
  obtain ⟨ti, hti, hbs⟩ := hb.run
  subst hbs
  have hml : k + j ≤ 9223372036854775807 := by have := hl.1; simp only [maxLen] at this; omega
  have hmax : ¬ (((k + j : Nat) : Int) > IntKind.i64.max) := by
    have h1 : IntKind.i64.max = 9223372036854775807 := by decide
    omega
  by_cases hroom : k + j ≤ cap
  · have hc := src.cells w (Grow.refl w)
    have hfit : o + k * sz + news.length ≤ R.length := by
      rw [src.size]
      have := Nat.mul_le_mul_right sz hroom
      rw [Nat.add_mul] at this
      omega
    have hst := run_stores (P := P) (o := o + k * sz) (vs := news) hh.at hfit src.one
    refine ⟨.slice (some ⟨b, o, none⟩) (k + j) cap, [(b, .cells (putL R (o + k * sz) news).toArray e (0, 0))], w.setRow b (putL R (o + k * sz) news).toArray, ?_, ?_, ?_⟩
    · simp only [Builtin.append_, a0, a1, Sem.run_bind, ht.und, ht.size, Result.andThen_ok, Sem.run_pure, Bool.false_eq_true, if_false, src.len, hroom, if_true, Bool.not_false, hc, addr_add, hst]
    · refine ⟨by simp [hx0, src.size, Nat.add_mul], .inr ⟨b, o, cap, _, rfl, hroom, hcm, rfl, ?_, by rw [length_putL hfit]; exact hlen⟩⟩
      have := seg_putL (l := R) (xs := xs) (ys := news) (o := o) (by rw [hx0]; exact hsg) (by rw [hx0]; exact hfit)
      rwa [hx0, src.size, ← Nat.add_mul] at this
    · exact setRow_up hh
  · obtain ⟨h5, h6⟩ := grownCap_two w (old := cap) (e := e) hl.1
    have hfit := growslice_fits (need := k + j) (old := cap) (bytes := ti.bytes) (by omega) hl.2
    have hc := src.cells w.drew (Grow.draw w _)
    have h48 : ¬ (Builtin.nextslicecap (k + j) cap * ti.bytes > 2 ^ 48) := by omega
    have hq : (Question.appendCap (k + j) cap e).forced = false := rfl
    have hold := row_load (P := P) (w := w.drew) (b := b) (o := o) (e := e) (fr := (0, 0)) hh.at hsg
    refine ⟨.slice (some ⟨w.heap.size, 0, none⟩) (k + j) (grownCap w (k + j) cap e), [(w.heap.size, .cells (xs ++ news ++ (Builtin.zeroCells z.cells (grownCap w (k + j) cap e - (k + j))).toList).toArray e (0, 0))], w.drew.alloc (.cells (xs.toArray ++ news.toArray ++ Builtin.zeroCells z.cells (grownCap w (k + j) cap e - (k + j))) e), ?_, ?_, ?_⟩
    · simp only [Builtin.append_, a0, a1, Sem.run_bind, ht.und, ht.size, Result.andThen_ok, Sem.run_pure, Bool.false_eq_true, if_false, src.len, hroom, hti, hmax, false_and, h48, run_choose, hq,
        run_askRoom, fcS, Bool.not_false, if_true, show ({ w with drawn := w.drawn + 1 } : World) = w.drew from rfl, hold, hc, hz.run, newRow, run_newObj]
      rfl
    · refine Own.win ⟨by simp [hx0, src.size, Nat.add_mul], .inr ⟨_, _, _, rfl, h5, h6, rfl, ?_⟩⟩
      have hzc : z.cells.size = sz := by rw [← hzs, ← vcells_eq]; simp
      have h9 : (k + j) * sz + (grownCap w (k + j) cap e - (k + j)) * sz = grownCap w (k + j) cap e * sz := by
        rw [← Nat.add_mul]; congr 1; omega
      simp only [List.length_append, Array.length_toList, size_zeroCells, hzc, hx0, src.size]
      rw [← Nat.add_mul, h9]
    · have he : ∀ Z : Array Value, xs.toArray ++ news.toArray ++ Z = (xs ++ news ++ Z.toList).toArray := fun Z => by apply Array.ext'; simp
      rw [he]
      exact (hh.dropHead.grow (Grow.draw w (w.drawn + 1))).new _
variable {m : Env} {H H1 : Heap} {E : Chunk} {ty t u e sz bs b o k j c : Nat} {x y : Operand} {v z : Value} {l xs vs : List Value} {fr : Nat × Nat}
/-- 'append(x, y...)', x a window, y the elements of a known row. -/
theorem Ef.apW (own : Win e sz v k xs E) (hx : ev m x = some v := by rfl) (hy : ev m y = some (.slice (some ⟨b, o, none⟩) j c) := by rfl)
    (ht : SlT P t e sz := by infer_instance) (hz : Zero P e z := by infer_instance) (hb : Byt P e bs := by infer_instance)
    (hr : Rem H E H1 := by (repeat first | exact Rem.here | apply Rem.there)) (hm : InB H Ro b (.cells l.toArray u fr) := by infer_instance)
    (hs : seg l o (j * sz) = some vs := by rfl) (hl : (vcells z).length = sz ∧ ones vs = true ∧ k + j ≤ maxLen ∧ (k + j) * bs ≤ 140737488355328 := by exact ⟨rfl, by rfl, by simp only [maxLen]; omega, by omega⟩) :
    Ef P g Ro (.call ⟨.builtin .append, #[x, y], #[t, t]⟩) ty m H (fun r : Value × Chunk => Win e sz r.1 (k + j) (xs ++ vs) r.2) (fun r => r.1) (fun r => r.2 :: H1) := by
  intro a w dst ps af gd K ha hh hk
  have src := Src.slice (P := P) (c := c) (hm.at hh.sub hh.ro) hs hl.2.1
  obtain ⟨v', E', w', h1, h2, h3⟩ := run_appW (ty := ty) ht hz hl.1 hb own src (hh.rem hr) hl.2.2
  simp only [sw, execOp, resolve, Sem.run_bind, Sem.run_pure, Result.andThen_ok, invoke, builtin, List.map_toArray, List.map_cons, List.map_nil, ev_sound ha hx, ev_sound ha hy, h1]
  exact hk (v', E') w' h2 h3
end
/-- A window's rest. -/
theorem Win.tail {e : TypeId} {b o k cap : Nat} {R xs : List Value} {x : Value} (hk : k + 1 ≤ cap) (hc : cap ≤ maxLen) (hs : seg R o (k + 1) = Option.some (x :: xs)) (hl : o + cap ≤ R.length) :
    Win e 1 (Sl b (cutAt cap 1 1 o) k (cap - 1)) k xs [(b, .cells R.toArray e (0, 0))] := by
  have hx : xs.length = k := by have := (seg_nth hs).1; simpa using this
  refine ⟨by omega, .inr ⟨b, _, cap - 1, R, rfl, by omega, by omega, rfl, ?_, by unfold cutAt; split <;> omega⟩⟩
  have h1 := seg_take hs
  rw [Nat.mul_one]
  unfold cutAt
  split
  · have : k = 0 := by omega
    subst this
    rw [List.eq_nil_of_length_eq_zero hx]
    cases R <;> cases o <;> rfl
  · rw [seg_eq (by omega), Nat.one_mul, ← List.drop_drop]
    congr 1
    cases hd : R.drop o with
    | nil => rw [hd] at h1; simp at h1
    | cons y ys =>
      rw [hd] at h1
      simp only [List.take_succ_cons, List.cons.injEq] at h1
      simpa using h1.2
end SL
end Go.Proofs.YtlmiekcmjpnobaaGreatDoor
