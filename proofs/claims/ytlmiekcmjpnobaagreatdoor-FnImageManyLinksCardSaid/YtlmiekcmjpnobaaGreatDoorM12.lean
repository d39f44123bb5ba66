/- The card of 'laws.FnImageManyLinks': it returns true at every names, data and flag, and the arguments read as they did. Condition: compactext4.xattrPrefixes starts as the program's text lays it; the card ties that to the text. -/
import Derived.Test.YtlmiekcmjpnobaaGreatDoorM11
import Derived.Test.YtlmiekcmjpnobaaGreatDoorRows
import Derived.ProofKit
import Derived.LaidMore
import Derived.OpenShut
import Derived.Stop.Joined
import Derived.Carry
import Derived.Test.YtlmiekcmjpnobaaGreatDoorTie
import Derived.Test.YtlmiekcmjpnobaaGreatDoorCards
import Derived.SliceStrings
import Derived.SevenTiedAt
namespace Go.Proofs.YtlmiekcmjpnobaaGreatDoor
open Go Go.ChangeShapes Go.WideShapes Go.ChangeAt Go.WideMaps Go.WideElems Go.RowKit

theorem own : ownKnob Tryz.prog.godebug = none := by kernel_rfl
theorem laidOut : laidOutB Tryz.prog = true := by kernel_rfl
theorem gPre : Tryz.prog.globalNamed "pub-marram/pub/hcsshim/ext4/inner/compactext4.xattrPrefixes" = some 0 := by kernel_rfl
theorem tPre : (Tryz.prog.globals[0]?).map (·.type) = some 294 := by kernel_rfl
theorem c294 : Tryz.prog.cellsOf 294 = 14 := by kernel_rfl
theorem c293 : Tryz.prog.cellsOf 293 = 2 := by kernel_rfl
theorem c5 : Tryz.prog.cellsOf 5 = 1 := by kernel_rfl
theorem c9 : Tryz.prog.cellsOf 9 = 1 := by kernel_rfl
abbrev laidL : List (String × DataW Unit) := [("pub-marram/pub/hcsshim/ext4/inner/compactext4.xattrPrefixes", Rows.laid_pub_marram_pub_hcsshim_ext4_inner_compactext4_xattrPrefixes)]
theorem door_met (os : Os) (args : Array Value) : laidMetH Tryz.prog laidL ((World.doorLaid Tryz.prog 400 os).forCall (fun _ _ => 0) ⟨#[], args, []⟩).memory :=
  laidMetH_of_parts3 (fuel := 8) (laidMet_of_run' 8 (by kernel_rfl) (by kernel_rfl)) (by kernel_rfl) (by kernel_rfl)
section
variable {H : Type} {enc : TypeId × Value → H} {w : World} {base : Nat} {spare : Nat → Bool} {held : Bool} {m : Nat}
theorem pre_elem {cs : List Value} {x : DataW H × List MemPlace} {k : Int} {s : List UInt8} (h : DataW.trod enc Tryz.prog w base spare held m 293 cs = some x) (hx : x.1 = .agg [.lit (.int .u8 k), .lit (.string s)]) : cs = [.int .u8 k, .string ⟨s.toArray⟩] := by
  obtain ⟨y0, y1, n, rfl, hl, h0, h1⟩ := trod_struct2 Tryz.underlying293 h
  rw [c293] at hl
  have h0 : DataW.trod enc Tryz.prog w base spare held n 5 ((cs.drop 0).take (Tryz.prog.cellsOf 5)) = some y0 := h0
  have h1 : DataW.trod enc Tryz.prog w base spare held n 9 ((cs.drop 1).take (Tryz.prog.cellsOf 9)) = some y1 := h1
  rw [c5] at h0
  rw [c9] at h1
  obtain ⟨k', e0, rfl, _⟩ := DataW.trod_int Tryz.underlying5 h0
  obtain ⟨s', e1, rfl, _⟩ := DataW.trod_string Tryz.underlying9 h1
  simp only [DataW.agg.injEq, List.cons.injEq, DataW.lit.injEq, Lit.int.injEq, Lit.string.injEq, true_and, and_true] at hx
  obtain ⟨rfl, rfl⟩ := hx
  clear h0 h1 h
  rcases cs with _ | ⟨a, _ | ⟨b, _ | ⟨c, r⟩⟩⟩
  · exact absurd hl (by decide)
  · exact absurd hl (by show ¬ (1 = 2); decide)
  · simp only [List.drop_zero, List.take_succ_cons, List.take_zero, List.drop_succ_cons, List.cons.injEq, and_true] at e0 e1
    rw [e0, e1]
  · simp only [List.length_cons] at hl
    omega
theorem pre_all {cs : List Value} {x : DataW H × List MemPlace} (h : DataW.trod enc Tryz.prog w base spare held m 294 cs = some x) (hx : x.1 = Rows.laid_pub_marram_pub_hcsshim_ext4_inner_compactext4_xattrPrefixes) : cs = SL.GP := by
  obtain ⟨xs, n, rfl, rfl, hl, hn, hel⟩ := DataW.trod_array Tryz.underlying294 h
  rw [c294] at hl
  rw [c293] at hel
  have h0 := hel 0 (by decide)
  have h1 := hel 1 (by decide)
  have h2 := hel 2 (by decide)
  have h3 := hel 3 (by decide)
  have h4 := hel 4 (by decide)
  have h5 := hel 5 (by decide)
  have h6 := hel 6 (by decide)
  clear hel h
  have hx : xs.map (·.1) = _ := DataW.agg.inj hx
  have gx : ∀ (i : Nat) (d : DataW H), (xs.map (·.1))[i]? = some d → ∃ y, xs[i]? = some y ∧ y.1 = d := fun i d hd => by
    rw [List.getElem?_map] at hd
    cases hy : xs[i]? with
    | none => rw [hy] at hd; exact nomatch hd
    | some y => rw [hy] at hd; exact ⟨y, rfl, Option.some.inj hd⟩
  rw [hx] at gx
  obtain ⟨y0, q0, z0⟩ := gx 0 _ rfl
  obtain ⟨y1, q1, z1⟩ := gx 1 _ rfl
  obtain ⟨y2, q2, z2⟩ := gx 2 _ rfl
  obtain ⟨y3, q3, z3⟩ := gx 3 _ rfl
  obtain ⟨y4, q4, z4⟩ := gx 4 _ rfl
  obtain ⟨y5, q5, z5⟩ := gx 5 _ rfl
  obtain ⟨y6, q6, z6⟩ := gx 6 _ rfl
  have e0 := pre_elem (h0.trans q0) z0
  have e1 := pre_elem (h1.trans q1) z1
  have e2 := pre_elem (h2.trans q2) z2
  have e3 := pre_elem (h3.trans q3) z3
  have e4 := pre_elem (h4.trans q4) z4
  have e5 := pre_elem (h5.trans q5) z5
  have e6 := pre_elem (h6.trans q6) z6
  clear h0 h1 h2 h3 h4 h5 h6 gx hx
  have hs : cs = (cs.drop (0 * 2)).take 2 ++ ((cs.drop (1 * 2)).take 2 ++ ((cs.drop (2 * 2)).take 2 ++ ((cs.drop (3 * 2)).take 2 ++ ((cs.drop (4 * 2)).take 2 ++ ((cs.drop (5 * 2)).take 2 ++ (cs.drop (6 * 2)).take 2))))) := by
    have ht : ∀ k, cs.drop k = (cs.drop k).take 2 ++ cs.drop (k + 2) := fun k => by rw [← List.drop_drop, List.take_append_drop]
    have hend : (cs.drop (6 * 2)).take 2 = cs.drop (6 * 2) := List.take_of_length_le (by rw [List.length_drop]; omega)
    rw [hend, ← ht (5 * 2), ← ht (4 * 2), ← ht (3 * 2), ← ht (2 * 2), ← ht (1 * 2), ← ht (0 * 2)]
    rfl
  rw [hs, e0, e1, e2, e3, e4, e5, e6]
  rfl
end
theorem of_laid {W : World} (h : laidMetH Tryz.prog laidL W) : ∃ eG frG, W.heap[0]? = some (SL.GPO eG frG) := by
  rw [MakeChecks.laidMetH_plain _ _ _ (by kernel_rfl)] at h
  obtain ⟨ps, ⟨g0, t0, cs0, f0, p0, q0, hg0, ht0, hv0, hd0, _, _⟩, _, _⟩ := h
  obtain rfl := Option.some.inj (gPre.symm.trans hg0)
  obtain rfl := Option.some.inj (tPre.symm.trans ht0)
  have hcs := pre_all hd0 rfl
  unfold World.var? at hv0
  rw [gPre] at hv0
  simp only [Option.bind_some] at hv0
  split at hv0
  · next cs t fr hh =>
    obtain rfl := Option.some.inj hv0
    refine ⟨t, fr, hh.trans ?_⟩
    have he : cs = SL.GP.toArray := by rw [← hcs]
    rw [he]
  · exact nomatch hv0
end Go.Proofs.YtlmiekcmjpnobaaGreatDoor
namespace Go.Proofs.YtlmiekcmjpnobaaGreatDoor
open Go Go.ChangeShapes Go.WideShapes Go.ChangeAt Go.WideMaps Go.WideElems Go.RowKit

theorem row_open {W : World} {a : Addr} {g : Nat → Value} {n : Nat} (h : ∀ i, i < n → W.cell? (a.add i) = some (g i)) (hp : 0 < n) : ∃ b off e fr, ∃ R : List Value, a = ⟨b, off, none⟩ ∧ W.heap[b]? = some (.cells R.toArray e fr) ∧ ∀ i, i < n → SL.nth R (off + i) = some (g i) := by
  obtain ⟨b, off, spot⟩ := a
  have h0 := h 0 hp
  have hspot : spot = none := by simpa [Addr.add] using World.cell?_spot h0
  subst hspot
  have h1 : ∀ i, i < n → W.cell? ⟨b, off + i, none⟩ = some (g i) := fun i hi => by rw [← Go.WideShapes.add_plain]; exact h i hi
  have h2 := h1 0 hp
  unfold World.cell? at h2
  simp only at h2
  split at h2
  · next c t fr hh =>
    refine ⟨b, off, t, fr, c.toList, rfl, hh, fun i hi => ?_⟩
    have h3 := h1 i hi
    unfold World.cell? at h3
    simp only [hh] at h3
    rw [SL.nth_eq, Array.getElem?_toList]
    simpa using h3
  · exact nomatch h2
theorem seg_of_nth {R : List Value} {o k : Nat} {vs : List Value} (hl : vs.length = k) (h : ∀ i, i < k → SL.nth R (o + i) = vs[i]?) : SL.seg R o k = some vs := by
  by_cases h0 : k = 0
  · subst h0
    rw [List.eq_nil_of_length_eq_zero hl]
    cases R <;> cases o <;> rfl
  have hle : o + k ≤ R.length := by
    have h1 := h (k - 1) (by omega)
    rw [SL.nth_eq, List.getElem?_eq_getElem (l := vs) (by omega)] at h1
    have := (List.getElem?_eq_some_iff.1 h1).1
    omega
  rw [SL.seg_eq hle]
  congr 1
  apply List.ext_getElem?
  intro i
  by_cases hi : i < k
  · rw [List.getElem?_take, if_pos hi, List.getElem?_drop, ← SL.nth_eq, h i hi]
  · rw [List.getElem?_eq_none (by rw [List.length_take]; omega), List.getElem?_eq_none (by omega)]
/-- The bytes of a slice of numbers, as the walk takes them. -/
theorem bytes_open {W : World} {a : Addr} {len cap : Nat} {zs : List Int} (hl : len ≤ zs.length) (hcell : ∀ i, i < zs.length → W.cell? (a.add i) = some (.int .u8 (zs.getD i 0))) (hw : ∀ n ∈ zs, (Lit.int .u8 n).wf = true) :
    ∃ Cd dat, SL.RdB Cd (.slice (some a) len cap) dat ∧ dat.length = len ∧ ∀ p ∈ Cd, W.heap[p.1]? = some p.2 := by
  by_cases h0 : len = 0
  · subst h0
    exact ⟨[], [], .inl ⟨rfl, _, _, rfl⟩, rfl, fun p h => nomatch h⟩
  obtain ⟨b, off, e, fr, R, rfl, hh, hn⟩ := row_open (g := fun i => .int .u8 (zs.getD i 0)) hcell (by omega)
  have hdl : ((zs.take len).map fun z => UInt8.ofNat z.toNat).length = len := by rw [List.length_map, List.length_take]; omega
  refine ⟨[(b, .cells R.toArray e fr)], (zs.take len).map fun z => UInt8.ofNat z.toNat, .inr ⟨by omega, b, off, cap, e, R, fr, by rw [hdl], List.mem_singleton.2 rfl, ?_⟩, hdl, fun p hp => by rw [List.mem_singleton.1 hp]; exact hh⟩
  unfold SL.RowB
  refine seg_of_nth (by rw [SL.bc_length]) fun i hi => ?_
  rw [hdl] at hi
  have hi2 : i < zs.length := by omega
  rw [hn i hi2]
  have hz := bounds_u8 (hw zs[i] (List.getElem_mem hi2))
  unfold SL.bc
  rw [List.getElem?_map, List.getElem?_map, List.getElem?_take, if_pos hi, List.getElem?_eq_getElem hi2, List.getD_eq_getElem?_getD, List.getElem?_eq_getElem hi2]
  simp only [Option.getD_some, Option.map_some, Option.some.injEq]
  have h3 : (UInt8.ofNat zs[i].toNat).toNat = zs[i].toNat := by rw [UInt8.toNat_ofNat_of_lt' (by show zs[i].toNat < 256; omega)]
  rw [h3]
  show Value.int .u8 zs[i] = Value.int .u8 (zs[i].toNat : Int)
  rw [Int.toNat_of_nonneg hz.1]
theorem strs_open {W : World} {a : Addr} {len : Nat} {ss : List ByteArray} (hp : 0 < len) (hl : len ≤ ss.length) (hcell : ∀ i, i < ss.length → W.cell? (a.add i) = some (.string (ss.getD i ByteArray.empty))) :
    ∃ b off e fr, ∃ R : List Value, ∃ names : List (List UInt8), a = ⟨b, off, none⟩ ∧ W.heap[b]? = some (.cells R.toArray e fr) ∧ SL.StrR R off names ∧ names.length = len := by
  obtain ⟨b, off, e, fr, R, rfl, hh, hn⟩ := row_open (g := fun i => .string (ss.getD i ByteArray.empty)) hcell (by omega)
  refine ⟨b, off, e, fr, R, (ss.take len).map fun s => s.data.toList, rfl, hh, fun i nm hi => ?_, by rw [List.length_map, List.length_take]; omega⟩
  rw [List.getElem?_map, List.getElem?_take] at hi
  split at hi
  · next hil =>
    have hi2 : i < ss.length := by omega
    rw [List.getElem?_eq_getElem hi2] at hi
    simp only [Option.map_some, Option.some.injEq] at hi
    subst hi
    rw [hn i hi2, List.getD_eq_getElem?_getD, List.getElem?_eq_getElem hi2]
    rfl
  · exact nomatch hi
theorem below_of {W W' : World} (h : SL.Grow W W') : Below W.heap.size W W' := ⟨h.os, h.tape, h.output, h.size, h.old⟩
theorem calls_of {W : World} {args : List Value} {Ro : SL.Heap} (S : SL.QSpec Tryz.prog 5 args Ro (.bool true)) (h : ∀ p ∈ Ro.flatten, W.heap[p.1]? = some p.2) : Calls Tryz.prog 5 args.toArray W (fun e W' => e = .returned (.bool true) ∧ SL.Grow W W') := S W h
set_option maxRecDepth 100000 in
theorem lifted (os : Os) (started : os.Started) (H : Type) (enc : TypeId × Value → H) :
    ReturnsInHanded {} Tryz.checked os 5 .any (fun w args => (Rows.fnImageManyLinksSpec.pre enc Tryz.prog Tryz.f5 [] false w args ∧ laidMetH Tryz.prog laidL w) ∧ sizedMet enc Tryz.prog Tryz.f5 (OpenSpec.ofChange Rows.fnImageManyLinksSpec) false w args)
      (Rows.fnImageManyLinksSpec.post enc Tryz.prog Tryz.f5 false true false false) := by
  refine returnsInHanded_of_change_and (C := Tryz.checked) (X := fun w _ => laidMetH Tryz.prog laidL w) (fun _ _ _ hh h => h.of_heap hh) own started (by kernel_rfl) Tryz.func5
    (ChangeSpec.witness_shaped (enc := enc) (C := Tryz.checked) (os := os) (X := fun w _ => laidMetH Tryz.prog laidL w) false (World.doorLaid Tryz.prog 400 os) #[.slice none 0 0, .slice none 0 0, .bool false] 8 rfl (World.shaped_of_RefB (by kernel_rfl) (by kernel_rfl)) (by kernel_rfl) (by kernel_rfl) (by kernel_rfl) (door_met os _)) ?_
  intro W base args ds gs before hval0 hW _ _ hL _
  have hval : ∀ (j : Nat) t v, Tryz.f5.params[j]? = some t → args[j]? = some v → Value.okWide Tryz.prog W .any base t v := hval0
  have hW' := hW
  obtain ⟨p, q, hA0, hV, rfl, hfz, hnd⟩ := hW
  have hA : DataW.TrodAll enc Tryz.prog W 0 (fun _ => true) true Tryz.f5.params.toList args.toList ds p := hA0
  rw [Tryz.params5] at hA hval
  obtain ⟨v0, v1, v2, d0, d1, d2, p0, p1, p2, rfl, rfl, rfl, h0, h1, h2⟩ := trodAll_three hA
  obtain ⟨rfl, rfl⟩ := trodVars_none hV
  have h0k := h0
  have h1k := h1
  obtain ⟨pick, rfl, rfl, rfl⟩ := open_bool Tryz.underlying4 (hval 2 4 v2 rfl rfl) h2
  obtain ⟨a0, len0, cap0, rfl⟩ := okWide_slice Tryz.underlying53 (hval 0 53 v0 rfl rfl)
  obtain ⟨a1, len1, cap1, rfl⟩ := okWide_slice Tryz.underlying46 (hval 1 46 v1 rfl rfl)
  obtain ⟨eG, frG, hG⟩ := of_laid hL
  clear hA0 hval0
  simp only [List.append_nil] at hW'
  have hlt0 : ∀ x ∈ p0, x.block < W.heap.size := fun x hx => by simpa using hW'.lt x (by simp [hx])
  have hlt1 : ∀ x ∈ p1, x.block < W.heap.size := fun x hx => by simpa using hW'.lt x (by simp [hx])
  have fin : ∀ W' : World, SL.Grow W W' → Rows.fnImageManyLinksSpec.post enc Tryz.prog Tryz.f5 false true false false W #[.slice a0 len0 cap0, .slice a1 len1 cap1, .bool pick] (.bool true) W' := fun W' hg => by
    have bel := below_of hg
    refine ⟨[d0, d1, .lit (.bool pick)], [], p0 ++ p1, [], p0 ++ (p1 ++ []), [], hW', ?_, ?_, rfl, bel.frame _, fun h => by cases h⟩
    · exact trodAll_mk1 (shut_bool Tryz.underlying4 _)
    · exact trodAll_mk3 (Below.trod laidOut (by kernel_rfl) (of_decide_eq_true (by kernel_rfl)) h0k bel hlt0) (Below.trod laidOut (by kernel_rfl) (of_decide_eq_true (by kernel_rfl)) h1k bel hlt1) (shut_bool Tryz.underlying4 _)
  -- the data
  obtain ⟨Cd, dat, hd, hdl, hCd⟩ : ∃ Cd dat, SL.RdB Cd (.slice a1 len1 cap1) dat ∧ dat.length ≤ 9223372036854775807 ∧ ∀ p ∈ Cd, W.heap[p.1]? = some p.2 := by
    obtain ⟨fuel1, hf1⟩ := h1
    rcases open_ints Tryz.underlying46 Tryz.underlying5 c5 hf1 with ⟨hcs, _⟩ | ⟨a, len', cap', zs, hcs, _, hl, hm, hz, _, hcell, hw⟩
    · simp only [Value.cells, List.cons.injEq, Value.slice.injEq, and_true] at hcs
      obtain ⟨rfl, rfl, rfl⟩ := hcs
      exact ⟨[], [], .inl ⟨rfl, _, _, rfl⟩, by decide, fun p h => nomatch h⟩
    · simp only [Value.cells, List.cons.injEq, Value.slice.injEq, and_true] at hcs
      obtain ⟨rfl, rfl, rfl⟩ := hcs
      have hzl : zs.length = cap1 := hz
      obtain ⟨Cd, dat, h1, h2, h3⟩ := bytes_open (len := len1) (cap := cap1) (by rw [hzl]; exact hl) hcell hw
      exact ⟨Cd, dat, h1, by simp only [maxLen] at hm; omega, h3⟩
  clear h1
  have nil_ : len0 = 0 → Calls Tryz.prog 5 #[.slice a0 len0 cap0, .slice a1 len1 cap1, .bool pick] W fun e W' => ∃ v, e = .returned v ∧ Rows.fnImageManyLinksSpec.post enc Tryz.prog Tryz.f5 false true false false W #[.slice a0 len0 cap0, .slice a1 len1 cap1, .bool pick] v W' := fun hz => by
    refine (calls_of (args := [.slice a0 len0 cap0, .slice a1 len1 cap1, .bool pick]) (Ro := []) ?_ (fun p h => nomatch h)).mono fun e W' ⟨he, hg⟩ => ⟨_, he, fin W' hg⟩
    rw [hz]
    exact SL.law5_nil hd hdl
  obtain ⟨fuel0, hf0⟩ := h0
  rcases open_strings Tryz.underlying53 Tryz.underlying9 c9 hf0 with ⟨hcs, _⟩ | ⟨a, len', cap', ss, hcs, _, hl, hm, hz, _, hcell, _⟩
  · simp only [Value.cells, List.cons.injEq, Value.slice.injEq, and_true] at hcs
    exact nil_ hcs.2.1
  · simp only [Value.cells, List.cons.injEq, Value.slice.injEq, and_true] at hcs
    obtain ⟨ha, rfl, rfl⟩ := hcs
    by_cases hz0 : len0 = 0
    · exact nil_ hz0
    have hsl : ss.length = cap0 := hz
    obtain ⟨b, off, e, fr, R, names, hab, hh, hR, hnl⟩ := strs_open (len := len0) (by omega) (by omega) hcell
    subst hab
    subst ha
    refine (calls_of (args := [.slice (some ⟨b, off, none⟩) len0 cap0, .slice a1 len1 cap1, .bool pick]) (Ro := [[(b, .cells R.toArray e fr)], Cd, [(0, SL.GPO eG frG)]]) ?_ (fun p h => ?_)).mono fun e W' ⟨he, hg⟩ => ⟨_, he, fin W' hg⟩
    · have hlaw := SL.law5_all (b := b) (o := off) (c := cap0) (e := e) (fr := fr) (eG := eG) (frG := frG) (inl := pick) (by intro h; rw [h] at hnl; exact hz0 hnl.symm) hR (by rw [hnl]; exact hl) (by simp only [maxLen] at hm; omega) hd hdl
      rw [hnl] at hlaw
      exact hlaw
    · simp only [List.flatten_cons, List.flatten_nil, List.append_nil, List.mem_append, List.mem_singleton] at h
      rcases h with h | h | h
      · rw [h]; exact hh
      · exact hCd p h
      · rw [h]; exact hG
theorem fnImageManyLinks_holds : Rows.FnImageManyLinksSaid :=
  OpenClaim.holds_of_wide 5 Tryz.f5 rfl rfl rfl rfl rfl rfl rfl ⟨rfl, rfl, rfl, rfl, rfl⟩ rfl rfl rfl rfl rfl (by kernel_rfl) Tryz.func5 (by kernel_rfl)
    (of_decide_eq_true (by kernel_rfl)) (by unfold Func.isWrapper; rw [if_neg (of_decide_eq_false (by kernel_rfl))]; exact ⟨rfl, rfl⟩)
    (fun os started H enc _ => lifted os started H enc)
#print axioms fnImageManyLinks_holds
end Go.Proofs.YtlmiekcmjpnobaaGreatDoor
namespace Go.Proofs.YtlmiekcmjpnobaaGreatDoor
open Go

theorem fnImageManyLinks_card : Rows.FnImageManyLinksCardSaid :=
  Claim7.holds_tied_plain_at .later [] [.data] true (true, "5cee74edaf667018006ff90996f3bbacde1a28feb666744d82dcf6ef95eb1b66") true
    fnImageManyLinks_holds (fun _ h => by cases h) (by kernel_rfl) (fun _ h => by cases h) fnImageManyLinks_row_tie rfl ⟨rfl, rfl⟩ (by kernel_rfl) rfl
    (fun f fn hf hfn => by
      obtain rfl : f = 5 := Option.some.inj ((show Tryz.prog.funcNamed "pub-marram/laws.FnImageManyLinks" = some 5 by kernel_rfl).symm.trans hf) |>.symm
      obtain rfl : fn = Tryz.f5 := (Option.some.inj (Tryz.func5.symm.trans hfn)).symm
      exact ⟨by kernel_rfl, fun j t ht => by
        rw [Tryz.params5] at ht
        have hm : t ∈ [53, 46, 4] := by simpa using Array.mem_of_getElem? ht
        have hall : ([53, 46, 4].all fun u => !Tryz.prog.wantsStandIn u) = true := by kernel_rfl
        exact (show Tryz.prog.wantsStandIn t = false by simpa using List.all_eq_true.1 hall t hm)⟩)
    (by kernel_rfl)
#print axioms fnImageManyLinks_card
end Go.Proofs.YtlmiekcmjpnobaaGreatDoor
