/- Part 9 of the proof of the card of 'laws.FnImageManyLinks': it returns true at every input. No condition. Texts: RP RQ RR RS RT. -/
import Derived.Test.YtlmiekcmjpnobaaGreatDoorM08
namespace Go.Proofs.YtlmiekcmjpnobaaGreatDoor
open Go
namespace SL
set_option maxRecDepth 20000

section
variable {P : Program} {m : Env} {H Ro : Heap} {ty t e sz : Nat} {x : Operand}
theorem Qt.slNil {lo hi : Option Operand} [h : SlT P t e sz] (hx : ev m x = some (.slice none 0 0) := by rfl) (hl : nao m lo 0 = some 0 := by rfl)
    (hh : nao m hi 0 = some 0 := by rfl) : Qt P (.slice t x lo hi none) ty m H Ro (.slice none 0 0) := fun a w d ps af gd ha _ _ => by
  simp [execOp, Instr.sliceAt, Instr.slice, ev_sound ha hx, h.und, h.size, bounds_sound ha hl hh (Nat.le_refl _) (Nat.le_refl _)]
end
def insN (l : Dl) (nm : List UInt8) (k : Nat) : Dl := l.take (posN l nm) ++ (nm, k) :: l.drop (if hasN l nm then posN l nm + 1 else posN l nm)
theorem insN_length_pos (l : Dl) (nm : List UInt8) (k : Nat) : 0 < (insN l nm k).length := by unfold insN; rw [List.length_append, List.length_cons]; omega
theorem insN_length_le (l : Dl) (nm : List UInt8) (k : Nat) : (insN l nm k).length ≤ l.length + 1 := by
  have := posN_le l nm
  unfold insN
  rw [List.length_append, List.length_cons, List.length_take, List.length_drop]
  split <;> omega
theorem seg_pre {R cells : List Value} {p : Nat} (h : seg R 0 cells.length = some cells) (hp : p ≤ cells.length) : seg R 0 (p * 1) = some (cells.take p) := by
  have h1 := seg_take h
  rw [List.drop_zero] at h1
  have h2 := congrArg List.length h1
  rw [List.length_take] at h2
  rw [Nat.mul_one, seg_eq (by omega), List.drop_zero]
  congr 1
  rw [← h1, List.take_take, Nat.min_eq_left hp]
theorem seg_suf {R cells : List Value} {p c : Nat} (h : seg R 0 cells.length = some cells) (hp : p ≤ cells.length) (hc : cells.length ≤ c) : seg R (cutAt c p 1 0) ((cells.length - p) * 1) = some (cells.drop p) := by
  have h1 := seg_take h
  rw [List.drop_zero] at h1
  have h2 := congrArg List.length h1
  rw [List.length_take] at h2
  rw [Nat.mul_one]
  unfold cutAt
  split
  · rw [show cells.length - p = 0 by omega, List.drop_of_length_le (by omega)]
    cases R <;> rfl
  · rw [Nat.zero_add, Nat.mul_one, seg_eq (by omega)]
    congr 1
    rw [← h1, List.drop_take, List.length_take, show min cells.length R.length = cells.length by omega]
theorem insN_nm (l : Dl) (nm : List UInt8) (k : Nat) : nmV (insN l nm k) = (nmV l).take (posN l nm) ++ [SV nm] ++ (nmV l).drop (if hasN l nm then posN l nm + 1 else posN l nm) := by simp [insN, List.map_take, List.map_drop]
theorem insN_kd (l : Dl) (nm : List UInt8) (k : Nat) : kdV (insN l nm k) = (kdV l).take (posN l nm) ++ [N .i64 k] ++ (kdV l).drop (if hasN l nm then posN l nm + 1 else posN l nm) := by simp [insN, List.map_take, List.map_drop]
theorem ones_nm (l : Dl) : ones (nmV l) = true := by simp [ones, one]
theorem ones_kd (l : Dl) : ones (kdV l) = true := by simp [ones, one]
theorem ones_take {l : List Value} (h : ones l = true) (k : Nat) : ones (l.take k) = true := by
  simp only [ones, List.all_eq_true] at h ⊢; exact fun x hx => h x (List.mem_of_mem_take hx)
theorem ones_drop {l : List Value} (h : ones l = true) (k : Nat) : ones (l.drop k) = true := by
  simp only [ones, List.all_eq_true] at h ⊢; exact fun x hx => h x (List.mem_of_mem_drop hx)
theorem Own.cast {e k k' : Nat} {v : Value} {xs xs' : List Value} {E : Chunk} (h : Own e 1 v k xs E) (hx : xs = xs') (hk : k = k') : Own e 1 v k' xs' E := by subst hx; subst hk; exact h
theorem niX_ones {x : NI} (h : ones [x.t0, x.t1, x.t2, x.t3, x.t4, x.t5, x.t6, x.t7] = true) (hd : SL.one x.data = true) (hx : SL.one x.xat = true) (hn : SL.one x.names = true) (hk : SL.one x.kids = true) : ones x.cells = true := by
  have o1 : ∀ k i, SL.one (.int k i) = true := fun _ _ => rfl
  have o2 : ∀ b, SL.one (.string b) = true := fun _ => rfl
  simp only [ones, List.all_cons, List.all_nil, Bool.and_true, Bool.and_eq_true] at h ⊢
  obtain ⟨h0, h1, h2, h3, h4, h5, h6, h7⟩ := h
  simp only [h0, h1, h2, h3, h4, h5, h6, h7, hd, hx, hn, hk, o1, o2, and_self]
def NIok (x : NI) : Prop := ones [x.t0, x.t1, x.t2, x.t3, x.t4, x.t5, x.t6, x.t7] = true ∧ SL.one x.data = true ∧ SL.one x.xat = true
abbrev WithPost (dl : Dl) (nm : List UInt8) (kid : Nat) (r : (Value × Chunk) × (Value × Chunk)) : Prop :=
  Own 9 1 r.1.1 (insN dl nm kid).length (nmV (insN dl nm kid)) r.1.2 ∧ Own 3 1 r.2.1 (insN dl nm kid).length (kdV (insN dl nm kid)) r.2.2
set_option synthInstance.maxHeartbeats 400000
set_option maxHeartbeats 8000000
variable {x : NI} {C : Chunk} {dl : Dl} {nm : List UInt8} {kid : Nat}

theorem withNil_s (hN : Arr C x.names (nmV dl)) (hK : Arr C x.kids (kdV dl)) (hl : dl.length < 1000000) (hok : NIok x) (hd : dl = []) (hnn : x.names = .slice none 0 0) (hkk : x.kids = .slice none 0 0) :
    Spec Tryz.prog 29 [.agg x.cells.toArray, SV nm, N .i64 kid] [C] [] (WithPost dl nm kid) (fun r => .agg { x with names := r.1.1, kids := r.2.1 }.cells.toArray) (fun r => [r.1.2, r.2.2]) := by
  refine Spec.of Tryz.func29 rfl Tryz.ntmps29 (by simp) fun w => ?_
  have hp := place_q (x := x) (nm := nm) hN hl
  have hple := posN_le dl nm
  have hp0 : posN dl nm = 0 := by rw [hd]; rfl
  have hh : hasN dl nm = false := by rw [hd]; rfl
  rw [hh] at hp
  rw [hp0] at hp
  refine T.sr <| Rl.e Ef.bxA fun b3 hb3 => Rl.e Ef.alA fun b6 hb6 => Rl.nilK <| ?_
  refine T.sr <| Rl.q Qt.ldA <| Rl.q Qt.mv <| Rl.e (Ef.qcall (S := hp)) fun _ _ => Rl.q Qt.mv <| Rl.q Qt.ex <| Rl.q Qt.ex <| Rl.q Qt.as <| ?_
  refine Rl.q Qt.as <| Rl.nilK <| ?_
  refine T.join (α := (Value × Chunk) × (Value × Chunk)) (fun u => [(1, SV nm), (2, N .i64 kid), (3, Pt b3), (6, Pt b6), (7, N .i64 0), (8, .bool false), (9, u.1.1), (10, u.2.1)]) (fun u => [[(b3, .cells x.cells.toArray 59 (0, 0))], [(b6, .cells [N .u16 0, N .u32 0, N .u32 0, N .i64 0, N .i64 0, N .i64 0, N .i64 0, N .i64 0, N .i64 0, N .i64 0, N .i64 0, N .u32 0, N .u32 0, .slice none 0 0, SV [], .slice none 0 0, .slice none 0 0, .slice none 0 0].toArray 59 (0, 0))], u.1.2, u.2.2]) (fun u => Own 9 1 u.1.1 (0) ((nmV dl).take (posN dl nm)) u.1.2 ∧ Own 3 1 u.2.1 (0) ((kdV dl).take (posN dl nm)) u.2.2) ?_ fun u hu => ?_
  · refine T.draw [] [[(b3, .cells x.cells.toArray 59 (0, 0))]] ?_ mixed
    refine Dr.qs [1, 2, 3, 4, 7, 8, 9, 10] [] ?_
    refine Dq.q Qt.fa <| Dq.q (Qt.to (u := .slice none 0 0) Qt.ld (hnn)) <| Dq.q Qt.mv <| Dq.q (Qt.slNil) <| Dq.q Qt.fa <| Dq.q (Qt.to (u := .slice none 0 0) Qt.ld (hkk)) <| Dq.q Qt.mv <| Dq.q (Qt.slNil) <| ?_
    refine Dq.nil <| ?_
    refine Dr.e2 0 6 ?_ ?_
    · refine Eo.e rfl Ef.bs0 fun b17 hb17 => ?_
      refine Dr.e2 5 6 ?_ ?_
      · refine Eo.e rfl (Ef.apN (own := Own.mk (e := 9) (sz := 1) (b := b17) (xs := []) (sp := []) (k := 0) (cap := 0) rfl (Nat.le_refl _) (by simp only [maxLen]; omega) rfl)) fun v22 hv22 => ?_
        refine Dr.e 6 <| Eo.e rfl Ef.bs0 fun b23 hb23 => ?_
        refine Dr.e 11 <| Eo.e rfl (Ef.apN (own := Own.mk (e := 3) (sz := 1) (b := b23) (xs := []) (sp := []) (k := 0) (cap := 0) rfl (Nat.le_refl _) (by simp only [maxLen]; omega) rfl)) fun v28 hv28 => ?_
        refine Dr.e 12 <| Eo.q rfl Qt.as <| ?_
        refine Dr.e 13 <| Eo.q rfl Qt.as <| Dr.nil <| ?_
        exact Ex.join ((v22.1, v22.2), (v28.1, v28.2)) ⟨hv22.cast (by rw [hp0]; rfl) rfl, hv28.cast (by rw [hp0]; rfl) rfl⟩ (.cons rfl <| .cons rfl <| .cons rfl <| .cons rfl <| .cons rfl <| .cons rfl <| .cons rfl <| .cons rfl <| .nil)
      · refine Eo.e rfl Ef.bs0 fun b23 hb23 => ?_
        refine Dr.e 5 <| Eo.e rfl (Ef.apN (own := Own.mk (e := 9) (sz := 1) (b := b17) (xs := []) (sp := []) (k := 0) (cap := 0) rfl (Nat.le_refl _) (by simp only [maxLen]; omega) rfl)) fun v22 hv22 => ?_
        refine Dr.e 11 <| Eo.e rfl (Ef.apN (own := Own.mk (e := 3) (sz := 1) (b := b23) (xs := []) (sp := []) (k := 0) (cap := 0) rfl (Nat.le_refl _) (by simp only [maxLen]; omega) rfl)) fun v28 hv28 => ?_
        refine Dr.e 12 <| Eo.q rfl Qt.as <| ?_
        refine Dr.e 13 <| Eo.q rfl Qt.as <| Dr.nil <| ?_
        exact Ex.join ((v22.1, v22.2), (v28.1, v28.2)) ⟨hv22.cast (by rw [hp0]; rfl) rfl, hv28.cast (by rw [hp0]; rfl) rfl⟩ (.cons rfl <| .cons rfl <| .cons rfl <| .cons rfl <| .cons rfl <| .cons rfl <| .cons rfl <| .cons rfl <| .nil)
    · refine Eo.e rfl Ef.bs0 fun b23 hb23 => ?_
      refine Dr.e 0 <| Eo.e rfl Ef.bs0 fun b17 hb17 => ?_
      refine Dr.e 5 <| Eo.e rfl (Ef.apN (own := Own.mk (e := 9) (sz := 1) (b := b17) (xs := []) (sp := []) (k := 0) (cap := 0) rfl (Nat.le_refl _) (by simp only [maxLen]; omega) rfl)) fun v22 hv22 => ?_
      refine Dr.e 11 <| Eo.e rfl (Ef.apN (own := Own.mk (e := 3) (sz := 1) (b := b23) (xs := []) (sp := []) (k := 0) (cap := 0) rfl (Nat.le_refl _) (by simp only [maxLen]; omega) rfl)) fun v28 hv28 => ?_
      refine Dr.e 12 <| Eo.q rfl Qt.as <| ?_
      refine Dr.e 13 <| Eo.q rfl Qt.as <| Dr.nil <| ?_
      exact Ex.join ((v22.1, v22.2), (v28.1, v28.2)) ⟨hv22.cast (by rw [hp0]; rfl) rfl, hv28.cast (by rw [hp0]; rfl) rfl⟩ (.cons rfl <| .cons rfl <| .cons rfl <| .cons rfl <| .cons rfl <| .cons rfl <| .cons rfl <| .cons rfl <| .nil)
  · refine T.sr <| Rl.q Qt.mv <| Rl.q Qt.mv <| Rl.e Ef.bs fun b31 hb31 => Rl.e (Ef.ap (own := hu.1)) fun v32 hv32 => Rl.q Qt.mv <| Rl.q Qt.mv <| Rl.e Ef.bs fun b35 hb35 => ?_
    refine Rl.e (Ef.ap (own := hu.2)) fun v36 hv36 => Rl.q Qt.as <| Rl.q Qt.as <| Rl.nilK <| ?_
    refine T.seq ?_
    refine T.sr <| Rl.q Qt.mv <| Rl.nilK <| ?_
    refine T.condF ?_
    refine T.skip <| Ex.K <| ?_
    refine T.join (α := (Value × Chunk) × (Value × Chunk)) (fun u => [(3, Pt b3), (6, Pt b6)]) (fun u => [[(b3, .cells { x with names := u.1.1, kids := u.2.1 }.cells.toArray 59 (0, 0))], [(b6, .cells [N .u16 0, N .u32 0, N .u32 0, N .i64 0, N .i64 0, N .i64 0, N .i64 0, N .i64 0, N .i64 0, N .i64 0, N .i64 0, N .u32 0, N .u32 0, .slice none 0 0, SV [], .slice none 0 0, .slice none 0 0, .slice none 0 0].toArray 59 (0, 0))], u.1.2, u.2.2]) (fun u => WithPost dl nm kid u) ?_ fun u2 hu2 => ?_
    · refine T.draw [13, 14, 15] [[(b3, .cells x.cells.toArray 59 (0, 0))]] ?_ mixed
      refine Dr.qs [0, 1, 2, 3, 4, 6, 7, 8, 9, 10] [] ?_
      refine Dq.q Qt.mv <| Dq.q Qt.fa <| Dq.q (Qt.to (u := .slice none 0 0) Qt.ld (hnn)) <| Dq.q Qt.mv <| Dq.q (Qt.slNil) <| Dq.q Qt.mv <| Dq.q Qt.fa <| Dq.q (Qt.to (u := .slice none 0 0) Qt.ld (hkk)) <| ?_
      refine Dq.q Qt.mv <| Dq.q (Qt.slNil) <| Dq.nil <| ?_
      refine Dr.e 5 <| Eo.e rfl (Ef.apN (own := hv32)) fun v45 hv45 => ?_
      refine Dr.e2 11 12 ?_ ?_
      · refine Eo.e rfl (Ef.apN (own := hv36)) fun v51 hv51 => ?_
        refine Dr.e 12 <| Eo.q rfl Qt.fa <| ?_
        refine Dr.e 13 <| Eo.e0 rfl Ef.st1 fun _ _ => ?_
        refine Dr.reset [15] ?_
        refine Dr.qs [14] [] ?_
        refine Dq.q Qt.fa <| Dq.nil <| ?_
        refine Dr.e 15 <| Eo.e0 rfl Ef.st1 fun _ _ => Dr.nil <| ?_
        exact Ex.join ((v45.1, v45.2), (v51.1, v51.2)) ⟨hv45.cast (by rw [insN_nm, hd]; rfl) (by simp [insN, hd, hp0]), hv51.cast (by rw [insN_kd, hd]; rfl) (by simp [insN, hd, hp0])⟩ (.cons rfl <| .cons rfl <| .nil)
      · refine Eo.q rfl Qt.fa <| ?_
        refine Dr.e 11 <| Eo.e rfl (Ef.apN (own := hv36)) fun v51 hv51 => ?_
        refine Dr.e 13 <| Eo.e0 rfl Ef.st1 fun _ _ => ?_
        refine Dr.reset [15] ?_
        refine Dr.qs [14] [] ?_
        refine Dq.q Qt.fa <| Dq.nil <| ?_
        refine Dr.e 15 <| Eo.e0 rfl Ef.st1 fun _ _ => Dr.nil <| ?_
        exact Ex.join ((v45.1, v45.2), (v51.1, v51.2)) ⟨hv45.cast (by rw [insN_nm, hd]; rfl) (by simp [insN, hd, hp0]), hv51.cast (by rw [insN_kd, hd]; rfl) (by simp [insN, hd, hp0])⟩ (.cons rfl <| .cons rfl <| .nil)
    · have hzz : ones { x with names := u2.1.1, kids := u2.2.1 }.cells = true := niX_ones hok.1 hok.2.1 hok.2.2 hu2.1.one hu2.2.one
      refine T.sr <| Rl.q Qt.ldA <| Rl.e0 (Ef.stN (hv := Vc.ofOnes hzz)) fun _ _ => Rl.nilK <| ?_
      refine T.ret <| Ex.retC (.inl rfl) rfl ?_ rfl
      exact fun w h => ⟨u2, hu2, rfl, h.re⟩

theorem withHas_s (hN : Arr C x.names (nmV dl)) (hK : Arr C x.kids (kdV dl)) (hl : dl.length < 1000000) (hok : NIok x) (hh : hasN dl nm = true) :
    Spec Tryz.prog 29 [.agg x.cells.toArray, SV nm, N .i64 kid] [C] [] (WithPost dl nm kid) (fun r => .agg { x with names := r.1.1, kids := r.2.1 }.cells.toArray) (fun r => [r.1.2, r.2.2]) := by
  refine Spec.of Tryz.func29 rfl Tryz.ntmps29 (by simp) fun w => ?_
  have hp := place_q (x := x) (nm := nm) hN hl
  have hple := posN_le dl nm
  have hlt := hasN_lt hh
  have hd : 0 < dl.length := by omega
  rw [hh] at hp
  obtain ⟨bn, cn, en, Rn, frn, hnv, hnm, hns, hnc, hnc2⟩ : ∃ (b c e : Nat) (R : List Value) (fr : Nat × Nat), x.names = Sl b 0 dl.length c ∧ (b, .cells R.toArray e fr) ∈ C ∧ seg R 0 (nmV dl).length = some (nmV dl) ∧ dl.length ≤ c ∧ c ≤ 9223372036854775807 := by
    rcases hN with ⟨_, h⟩ | ⟨_, b, c, e, R, fr, h1, h2, h3, h4, h5⟩
    · have := congrArg List.length h; rw [List.length_map, List.length_nil] at this; omega
    · rw [List.length_map] at h1 h4; exact ⟨b, c, e, R, fr, h1, h2, h3, h4, h5⟩
  obtain ⟨bk, ck, ek, Rk, frk, hkv, hkm, hks, hkc, hkc2⟩ : ∃ (b c e : Nat) (R : List Value) (fr : Nat × Nat), x.kids = Sl b 0 dl.length c ∧ (b, .cells R.toArray e fr) ∈ C ∧ seg R 0 (kdV dl).length = some (kdV dl) ∧ dl.length ≤ c ∧ c ≤ 9223372036854775807 := by
    rcases hK with ⟨_, h⟩ | ⟨_, b, c, e, R, fr, h1, h2, h3, h4, h5⟩
    · have := congrArg List.length h; rw [List.length_map, List.length_nil] at this; omega
    · rw [List.length_map] at h1 h4; exact ⟨b, c, e, R, fr, h1, h2, h3, h4, h5⟩
  have iBn : ∀ H, InB H [C] bn (.cells Rn.toArray en frn) := fun H => InB.of_mem hnm
  have iBk : ∀ H, InB H [C] bk (.cells Rk.toArray ek frk) := fun H => InB.of_mem hkm
  have hs1 := seg_pre hns (p := posN dl nm) (by rw [List.length_map]; omega)
  have hs2 := seg_pre hks (p := posN dl nm) (by rw [List.length_map]; omega)
  have hs3 := seg_suf hns (p := posN dl nm + 1) (c := cn) (by rw [List.length_map]; omega) (by rw [List.length_map]; omega)
  have hs4 := seg_suf hks (p := posN dl nm + 1) (c := ck) (by rw [List.length_map]; omega) (by rw [List.length_map]; omega)
  rw [List.length_map] at hs3 hs4
  refine T.sr <| Rl.e Ef.bxA fun b3 hb3 => Rl.e Ef.alA fun b6 hb6 => Rl.nilK <| ?_
  refine T.sr <| Rl.q Qt.ldA <| Rl.q Qt.mv <| Rl.e (Ef.qcall (S := hp)) fun _ _ => Rl.q Qt.mv <| Rl.q Qt.ex <| Rl.q Qt.ex <| Rl.q Qt.as <| ?_
  refine Rl.q Qt.as <| Rl.nilK <| ?_
  refine T.join (α := (Value × Chunk) × (Value × Chunk)) (fun u => [(1, SV nm), (2, N .i64 kid), (3, Pt b3), (6, Pt b6), (7, N .i64 (posN dl nm)), (8, .bool true), (9, u.1.1), (10, u.2.1)]) (fun u => [[(b3, .cells x.cells.toArray 59 (0, 0))], [(b6, .cells [N .u16 0, N .u32 0, N .u32 0, N .i64 0, N .i64 0, N .i64 0, N .i64 0, N .i64 0, N .i64 0, N .i64 0, N .i64 0, N .u32 0, N .u32 0, .slice none 0 0, SV [], .slice none 0 0, .slice none 0 0, .slice none 0 0].toArray 59 (0, 0))], u.1.2, u.2.2]) (fun u => Own 9 1 u.1.1 (posN dl nm) ((nmV dl).take (posN dl nm)) u.1.2 ∧ Own 3 1 u.2.1 (posN dl nm) ((kdV dl).take (posN dl nm)) u.2.2) ?_ fun u hu => ?_
  · refine T.draw [] [[(b3, .cells x.cells.toArray 59 (0, 0))]] ?_ mixed
    refine Dr.qs [1, 2, 3, 4, 7, 8, 9, 10] [] ?_
    refine Dq.q Qt.fa <| Dq.q (Qt.to (u := Sl bn 0 dl.length cn) Qt.ld (hnv)) <| Dq.q Qt.mv <| Dq.q (Qt.to (u := Sl bn 0 (posN dl nm) cn) (Qt.sl (cl := 0) (ch := posN dl nm)) (by simp [cutAt])) <| Dq.q Qt.fa <| Dq.q (Qt.to (u := Sl bk 0 dl.length ck) Qt.ld (hkv)) <| Dq.q Qt.mv <| Dq.q (Qt.to (u := Sl bk 0 (posN dl nm) ck) (Qt.sl (cl := 0) (ch := posN dl nm)) (by simp [cutAt])) <| ?_
    refine Dq.nil <| ?_
    refine Dr.e2 0 6 ?_ ?_
    · refine Eo.e rfl Ef.bs0 fun b17 hb17 => ?_
      refine Dr.e2 5 6 ?_ ?_
      · refine Eo.e rfl (Ef.ap (own := Own.mk (e := 9) (sz := 1) (b := b17) (xs := []) (sp := []) (k := 0) (cap := 0) rfl (Nat.le_refl _) (by simp only [maxLen]; omega) rfl) (hs := hs1) (hl := ⟨rfl, ones_take (ones_nm dl) _, by simp only [maxLen]; omega, by omega⟩)) fun v22 hv22 => ?_
        refine Dr.e 6 <| Eo.e rfl Ef.bs0 fun b23 hb23 => ?_
        refine Dr.e 11 <| Eo.e rfl (Ef.ap (own := Own.mk (e := 3) (sz := 1) (b := b23) (xs := []) (sp := []) (k := 0) (cap := 0) rfl (Nat.le_refl _) (by simp only [maxLen]; omega) rfl) (hs := hs2) (hl := ⟨rfl, ones_take (ones_kd dl) _, by simp only [maxLen]; omega, by omega⟩)) fun v28 hv28 => ?_
        refine Dr.e 12 <| Eo.q rfl Qt.as <| ?_
        refine Dr.e 13 <| Eo.q rfl Qt.as <| Dr.nil <| ?_
        exact Ex.join ((v22.1, v22.2), (v28.1, v28.2)) ⟨hv22.cast (List.nil_append _) (Nat.zero_add _), hv28.cast (List.nil_append _) (Nat.zero_add _)⟩ (.cons rfl <| .cons rfl <| .cons rfl <| .cons rfl <| .cons rfl <| .cons rfl <| .cons rfl <| .cons rfl <| .nil)
      · refine Eo.e rfl Ef.bs0 fun b23 hb23 => ?_
        refine Dr.e 5 <| Eo.e rfl (Ef.ap (own := Own.mk (e := 9) (sz := 1) (b := b17) (xs := []) (sp := []) (k := 0) (cap := 0) rfl (Nat.le_refl _) (by simp only [maxLen]; omega) rfl) (hs := hs1) (hl := ⟨rfl, ones_take (ones_nm dl) _, by simp only [maxLen]; omega, by omega⟩)) fun v22 hv22 => ?_
        refine Dr.e 11 <| Eo.e rfl (Ef.ap (own := Own.mk (e := 3) (sz := 1) (b := b23) (xs := []) (sp := []) (k := 0) (cap := 0) rfl (Nat.le_refl _) (by simp only [maxLen]; omega) rfl) (hs := hs2) (hl := ⟨rfl, ones_take (ones_kd dl) _, by simp only [maxLen]; omega, by omega⟩)) fun v28 hv28 => ?_
        refine Dr.e 12 <| Eo.q rfl Qt.as <| ?_
        refine Dr.e 13 <| Eo.q rfl Qt.as <| Dr.nil <| ?_
        exact Ex.join ((v22.1, v22.2), (v28.1, v28.2)) ⟨hv22.cast (List.nil_append _) (Nat.zero_add _), hv28.cast (List.nil_append _) (Nat.zero_add _)⟩ (.cons rfl <| .cons rfl <| .cons rfl <| .cons rfl <| .cons rfl <| .cons rfl <| .cons rfl <| .cons rfl <| .nil)
    · refine Eo.e rfl Ef.bs0 fun b23 hb23 => ?_
      refine Dr.e 0 <| Eo.e rfl Ef.bs0 fun b17 hb17 => ?_
      refine Dr.e 5 <| Eo.e rfl (Ef.ap (own := Own.mk (e := 9) (sz := 1) (b := b17) (xs := []) (sp := []) (k := 0) (cap := 0) rfl (Nat.le_refl _) (by simp only [maxLen]; omega) rfl) (hs := hs1) (hl := ⟨rfl, ones_take (ones_nm dl) _, by simp only [maxLen]; omega, by omega⟩)) fun v22 hv22 => ?_
      refine Dr.e 11 <| Eo.e rfl (Ef.ap (own := Own.mk (e := 3) (sz := 1) (b := b23) (xs := []) (sp := []) (k := 0) (cap := 0) rfl (Nat.le_refl _) (by simp only [maxLen]; omega) rfl) (hs := hs2) (hl := ⟨rfl, ones_take (ones_kd dl) _, by simp only [maxLen]; omega, by omega⟩)) fun v28 hv28 => ?_
      refine Dr.e 12 <| Eo.q rfl Qt.as <| ?_
      refine Dr.e 13 <| Eo.q rfl Qt.as <| Dr.nil <| ?_
      exact Ex.join ((v22.1, v22.2), (v28.1, v28.2)) ⟨hv22.cast (List.nil_append _) (Nat.zero_add _), hv28.cast (List.nil_append _) (Nat.zero_add _)⟩ (.cons rfl <| .cons rfl <| .cons rfl <| .cons rfl <| .cons rfl <| .cons rfl <| .cons rfl <| .cons rfl <| .nil)
  · refine T.sr <| Rl.q Qt.mv <| Rl.q Qt.mv <| Rl.e Ef.bs fun b31 hb31 => Rl.e (Ef.ap (own := hu.1)) fun v32 hv32 => Rl.q Qt.mv <| Rl.q Qt.mv <| Rl.e Ef.bs fun b35 hb35 => ?_
    refine Rl.e (Ef.ap (own := hu.2)) fun v36 hv36 => Rl.q Qt.as <| Rl.q Qt.as <| Rl.nilK <| ?_
    refine T.seq ?_
    refine T.sr <| Rl.q Qt.mv <| Rl.nilK <| ?_
    refine T.condT ?_
    refine T.region <| Rl.q Qt.mv <| Rl.q (Qt.add (a := posN dl nm) (b := 1)) <| Rl.q Qt.as <| Rl.nil <| Ex.K <| ?_
    refine T.join (α := (Value × Chunk) × (Value × Chunk)) (fun u => [(3, Pt b3), (6, Pt b6)]) (fun u => [[(b3, .cells { x with names := u.1.1, kids := u.2.1 }.cells.toArray 59 (0, 0))], [(b6, .cells [N .u16 0, N .u32 0, N .u32 0, N .i64 0, N .i64 0, N .i64 0, N .i64 0, N .i64 0, N .i64 0, N .i64 0, N .i64 0, N .u32 0, N .u32 0, .slice none 0 0, SV [], .slice none 0 0, .slice none 0 0, .slice none 0 0].toArray 59 (0, 0))], u.1.2, u.2.2]) (fun u => WithPost dl nm kid u) ?_ fun u2 hu2 => ?_
    · refine T.draw [13, 14, 15] [[(b3, .cells x.cells.toArray 59 (0, 0))]] ?_ mixed
      refine Dr.qs [0, 1, 2, 3, 4, 6, 7, 8, 9, 10] [] ?_
      refine Dq.q Qt.mv <| Dq.q Qt.fa <| Dq.q (Qt.to (u := Sl bn 0 dl.length cn) Qt.ld (hnv)) <| Dq.q Qt.mv <| Dq.q (Qt.sl (cl := posN dl nm + 1) (ch := dl.length)) <| Dq.q Qt.mv <| Dq.q Qt.fa <| Dq.q (Qt.to (u := Sl bk 0 dl.length ck) Qt.ld (hkv)) <| ?_
      refine Dq.q Qt.mv <| Dq.q (Qt.sl (cl := posN dl nm + 1) (ch := dl.length)) <| Dq.nil <| ?_
      refine Dr.e 5 <| Eo.e rfl (Ef.ap (own := hv32) (hs := hs3) (hl := ⟨rfl, ones_drop (ones_nm dl) _, by simp only [maxLen]; omega, by omega⟩)) fun v45 hv45 => ?_
      refine Dr.e2 11 12 ?_ ?_
      · refine Eo.e rfl (Ef.ap (own := hv36) (hs := hs4) (hl := ⟨rfl, ones_drop (ones_kd dl) _, by simp only [maxLen]; omega, by omega⟩)) fun v51 hv51 => ?_
        refine Dr.e 12 <| Eo.q rfl Qt.fa <| ?_
        refine Dr.e 13 <| Eo.e0 rfl Ef.st1 fun _ _ => ?_
        refine Dr.reset [15] ?_
        refine Dr.qs [14] [] ?_
        refine Dq.q Qt.fa <| Dq.nil <| ?_
        refine Dr.e 15 <| Eo.e0 rfl Ef.st1 fun _ _ => Dr.nil <| ?_
        exact Ex.join ((v45.1, v45.2), (v51.1, v51.2)) ⟨hv45.cast (by rw [insN_nm, hh]; rfl) (by unfold insN; rw [hh]; simp only [if_true, if_false, Bool.false_eq_true, List.length_append, List.length_cons, List.length_take, List.length_drop]; omega), hv51.cast (by rw [insN_kd, hh]; rfl) (by unfold insN; rw [hh]; simp only [if_true, if_false, Bool.false_eq_true, List.length_append, List.length_cons, List.length_take, List.length_drop]; omega)⟩ (.cons rfl <| .cons rfl <| .nil)
      · refine Eo.q rfl Qt.fa <| ?_
        refine Dr.e 11 <| Eo.e rfl (Ef.ap (own := hv36) (hs := hs4) (hl := ⟨rfl, ones_drop (ones_kd dl) _, by simp only [maxLen]; omega, by omega⟩)) fun v51 hv51 => ?_
        refine Dr.e 13 <| Eo.e0 rfl Ef.st1 fun _ _ => ?_
        refine Dr.reset [15] ?_
        refine Dr.qs [14] [] ?_
        refine Dq.q Qt.fa <| Dq.nil <| ?_
        refine Dr.e 15 <| Eo.e0 rfl Ef.st1 fun _ _ => Dr.nil <| ?_
        exact Ex.join ((v45.1, v45.2), (v51.1, v51.2)) ⟨hv45.cast (by rw [insN_nm, hh]; rfl) (by unfold insN; rw [hh]; simp only [if_true, if_false, Bool.false_eq_true, List.length_append, List.length_cons, List.length_take, List.length_drop]; omega), hv51.cast (by rw [insN_kd, hh]; rfl) (by unfold insN; rw [hh]; simp only [if_true, if_false, Bool.false_eq_true, List.length_append, List.length_cons, List.length_take, List.length_drop]; omega)⟩ (.cons rfl <| .cons rfl <| .nil)
    · have hzz : ones { x with names := u2.1.1, kids := u2.2.1 }.cells = true := niX_ones hok.1 hok.2.1 hok.2.2 hu2.1.one hu2.2.one
      refine T.sr <| Rl.q Qt.ldA <| Rl.e0 (Ef.stN (hv := Vc.ofOnes hzz)) fun _ _ => Rl.nilK <| ?_
      refine T.ret <| Ex.retC (.inl rfl) rfl ?_ rfl
      exact fun w h => ⟨u2, hu2, rfl, h.re⟩

theorem withNot_s (hN : Arr C x.names (nmV dl)) (hK : Arr C x.kids (kdV dl)) (hl : dl.length < 1000000) (hok : NIok x) (hd : 0 < dl.length) (hh : hasN dl nm = false) :
    Spec Tryz.prog 29 [.agg x.cells.toArray, SV nm, N .i64 kid] [C] [] (WithPost dl nm kid) (fun r => .agg { x with names := r.1.1, kids := r.2.1 }.cells.toArray) (fun r => [r.1.2, r.2.2]) := by
  refine Spec.of Tryz.func29 rfl Tryz.ntmps29 (by simp) fun w => ?_
  have hp := place_q (x := x) (nm := nm) hN hl
  have hple := posN_le dl nm
  rw [hh] at hp
  obtain ⟨bn, cn, en, Rn, frn, hnv, hnm, hns, hnc, hnc2⟩ : ∃ (b c e : Nat) (R : List Value) (fr : Nat × Nat), x.names = Sl b 0 dl.length c ∧ (b, .cells R.toArray e fr) ∈ C ∧ seg R 0 (nmV dl).length = some (nmV dl) ∧ dl.length ≤ c ∧ c ≤ 9223372036854775807 := by
    rcases hN with ⟨_, h⟩ | ⟨_, b, c, e, R, fr, h1, h2, h3, h4, h5⟩
    · have := congrArg List.length h; rw [List.length_map, List.length_nil] at this; omega
    · rw [List.length_map] at h1 h4; exact ⟨b, c, e, R, fr, h1, h2, h3, h4, h5⟩
  obtain ⟨bk, ck, ek, Rk, frk, hkv, hkm, hks, hkc, hkc2⟩ : ∃ (b c e : Nat) (R : List Value) (fr : Nat × Nat), x.kids = Sl b 0 dl.length c ∧ (b, .cells R.toArray e fr) ∈ C ∧ seg R 0 (kdV dl).length = some (kdV dl) ∧ dl.length ≤ c ∧ c ≤ 9223372036854775807 := by
    rcases hK with ⟨_, h⟩ | ⟨_, b, c, e, R, fr, h1, h2, h3, h4, h5⟩
    · have := congrArg List.length h; rw [List.length_map, List.length_nil] at this; omega
    · rw [List.length_map] at h1 h4; exact ⟨b, c, e, R, fr, h1, h2, h3, h4, h5⟩
  have iBn : ∀ H, InB H [C] bn (.cells Rn.toArray en frn) := fun H => InB.of_mem hnm
  have iBk : ∀ H, InB H [C] bk (.cells Rk.toArray ek frk) := fun H => InB.of_mem hkm
  have hs1 := seg_pre hns (p := posN dl nm) (by rw [List.length_map]; omega)
  have hs2 := seg_pre hks (p := posN dl nm) (by rw [List.length_map]; omega)
  have hs3 := seg_suf hns (p := posN dl nm) (c := cn) (by rw [List.length_map]; omega) (by rw [List.length_map]; omega)
  have hs4 := seg_suf hks (p := posN dl nm) (c := ck) (by rw [List.length_map]; omega) (by rw [List.length_map]; omega)
  rw [List.length_map] at hs3 hs4
  refine T.sr <| Rl.e Ef.bxA fun b3 hb3 => Rl.e Ef.alA fun b6 hb6 => Rl.nilK <| ?_
  refine T.sr <| Rl.q Qt.ldA <| Rl.q Qt.mv <| Rl.e (Ef.qcall (S := hp)) fun _ _ => Rl.q Qt.mv <| Rl.q Qt.ex <| Rl.q Qt.ex <| Rl.q Qt.as <| ?_
  refine Rl.q Qt.as <| Rl.nilK <| ?_
  refine T.join (α := (Value × Chunk) × (Value × Chunk)) (fun u => [(1, SV nm), (2, N .i64 kid), (3, Pt b3), (6, Pt b6), (7, N .i64 (posN dl nm)), (8, .bool false), (9, u.1.1), (10, u.2.1)]) (fun u => [[(b3, .cells x.cells.toArray 59 (0, 0))], [(b6, .cells [N .u16 0, N .u32 0, N .u32 0, N .i64 0, N .i64 0, N .i64 0, N .i64 0, N .i64 0, N .i64 0, N .i64 0, N .i64 0, N .u32 0, N .u32 0, .slice none 0 0, SV [], .slice none 0 0, .slice none 0 0, .slice none 0 0].toArray 59 (0, 0))], u.1.2, u.2.2]) (fun u => Own 9 1 u.1.1 (posN dl nm) ((nmV dl).take (posN dl nm)) u.1.2 ∧ Own 3 1 u.2.1 (posN dl nm) ((kdV dl).take (posN dl nm)) u.2.2) ?_ fun u hu => ?_
  · refine T.draw [] [[(b3, .cells x.cells.toArray 59 (0, 0))]] ?_ mixed
    refine Dr.qs [1, 2, 3, 4, 7, 8, 9, 10] [] ?_
    refine Dq.q Qt.fa <| Dq.q (Qt.to (u := Sl bn 0 dl.length cn) Qt.ld (hnv)) <| Dq.q Qt.mv <| Dq.q (Qt.to (u := Sl bn 0 (posN dl nm) cn) (Qt.sl (cl := 0) (ch := posN dl nm)) (by simp [cutAt])) <| Dq.q Qt.fa <| Dq.q (Qt.to (u := Sl bk 0 dl.length ck) Qt.ld (hkv)) <| Dq.q Qt.mv <| Dq.q (Qt.to (u := Sl bk 0 (posN dl nm) ck) (Qt.sl (cl := 0) (ch := posN dl nm)) (by simp [cutAt])) <| ?_
    refine Dq.nil <| ?_
    refine Dr.e2 0 6 ?_ ?_
    · refine Eo.e rfl Ef.bs0 fun b17 hb17 => ?_
      refine Dr.e2 5 6 ?_ ?_
      · refine Eo.e rfl (Ef.ap (own := Own.mk (e := 9) (sz := 1) (b := b17) (xs := []) (sp := []) (k := 0) (cap := 0) rfl (Nat.le_refl _) (by simp only [maxLen]; omega) rfl) (hs := hs1) (hl := ⟨rfl, ones_take (ones_nm dl) _, by simp only [maxLen]; omega, by omega⟩)) fun v22 hv22 => ?_
        refine Dr.e 6 <| Eo.e rfl Ef.bs0 fun b23 hb23 => ?_
        refine Dr.e 11 <| Eo.e rfl (Ef.ap (own := Own.mk (e := 3) (sz := 1) (b := b23) (xs := []) (sp := []) (k := 0) (cap := 0) rfl (Nat.le_refl _) (by simp only [maxLen]; omega) rfl) (hs := hs2) (hl := ⟨rfl, ones_take (ones_kd dl) _, by simp only [maxLen]; omega, by omega⟩)) fun v28 hv28 => ?_
        refine Dr.e 12 <| Eo.q rfl Qt.as <| ?_
        refine Dr.e 13 <| Eo.q rfl Qt.as <| Dr.nil <| ?_
        exact Ex.join ((v22.1, v22.2), (v28.1, v28.2)) ⟨hv22.cast (List.nil_append _) (Nat.zero_add _), hv28.cast (List.nil_append _) (Nat.zero_add _)⟩ (.cons rfl <| .cons rfl <| .cons rfl <| .cons rfl <| .cons rfl <| .cons rfl <| .cons rfl <| .cons rfl <| .nil)
      · refine Eo.e rfl Ef.bs0 fun b23 hb23 => ?_
        refine Dr.e 5 <| Eo.e rfl (Ef.ap (own := Own.mk (e := 9) (sz := 1) (b := b17) (xs := []) (sp := []) (k := 0) (cap := 0) rfl (Nat.le_refl _) (by simp only [maxLen]; omega) rfl) (hs := hs1) (hl := ⟨rfl, ones_take (ones_nm dl) _, by simp only [maxLen]; omega, by omega⟩)) fun v22 hv22 => ?_
        refine Dr.e 11 <| Eo.e rfl (Ef.ap (own := Own.mk (e := 3) (sz := 1) (b := b23) (xs := []) (sp := []) (k := 0) (cap := 0) rfl (Nat.le_refl _) (by simp only [maxLen]; omega) rfl) (hs := hs2) (hl := ⟨rfl, ones_take (ones_kd dl) _, by simp only [maxLen]; omega, by omega⟩)) fun v28 hv28 => ?_
        refine Dr.e 12 <| Eo.q rfl Qt.as <| ?_
        refine Dr.e 13 <| Eo.q rfl Qt.as <| Dr.nil <| ?_
        exact Ex.join ((v22.1, v22.2), (v28.1, v28.2)) ⟨hv22.cast (List.nil_append _) (Nat.zero_add _), hv28.cast (List.nil_append _) (Nat.zero_add _)⟩ (.cons rfl <| .cons rfl <| .cons rfl <| .cons rfl <| .cons rfl <| .cons rfl <| .cons rfl <| .cons rfl <| .nil)
    · refine Eo.e rfl Ef.bs0 fun b23 hb23 => ?_
      refine Dr.e 0 <| Eo.e rfl Ef.bs0 fun b17 hb17 => ?_
      refine Dr.e 5 <| Eo.e rfl (Ef.ap (own := Own.mk (e := 9) (sz := 1) (b := b17) (xs := []) (sp := []) (k := 0) (cap := 0) rfl (Nat.le_refl _) (by simp only [maxLen]; omega) rfl) (hs := hs1) (hl := ⟨rfl, ones_take (ones_nm dl) _, by simp only [maxLen]; omega, by omega⟩)) fun v22 hv22 => ?_
      refine Dr.e 11 <| Eo.e rfl (Ef.ap (own := Own.mk (e := 3) (sz := 1) (b := b23) (xs := []) (sp := []) (k := 0) (cap := 0) rfl (Nat.le_refl _) (by simp only [maxLen]; omega) rfl) (hs := hs2) (hl := ⟨rfl, ones_take (ones_kd dl) _, by simp only [maxLen]; omega, by omega⟩)) fun v28 hv28 => ?_
      refine Dr.e 12 <| Eo.q rfl Qt.as <| ?_
      refine Dr.e 13 <| Eo.q rfl Qt.as <| Dr.nil <| ?_
      exact Ex.join ((v22.1, v22.2), (v28.1, v28.2)) ⟨hv22.cast (List.nil_append _) (Nat.zero_add _), hv28.cast (List.nil_append _) (Nat.zero_add _)⟩ (.cons rfl <| .cons rfl <| .cons rfl <| .cons rfl <| .cons rfl <| .cons rfl <| .cons rfl <| .cons rfl <| .nil)
  · refine T.sr <| Rl.q Qt.mv <| Rl.q Qt.mv <| Rl.e Ef.bs fun b31 hb31 => Rl.e (Ef.ap (own := hu.1)) fun v32 hv32 => Rl.q Qt.mv <| Rl.q Qt.mv <| Rl.e Ef.bs fun b35 hb35 => ?_
    refine Rl.e (Ef.ap (own := hu.2)) fun v36 hv36 => Rl.q Qt.as <| Rl.q Qt.as <| Rl.nilK <| ?_
    refine T.seq ?_
    refine T.sr <| Rl.q Qt.mv <| Rl.nilK <| ?_
    refine T.condF ?_
    refine T.skip <| Ex.K <| ?_
    refine T.join (α := (Value × Chunk) × (Value × Chunk)) (fun u => [(3, Pt b3), (6, Pt b6)]) (fun u => [[(b3, .cells { x with names := u.1.1, kids := u.2.1 }.cells.toArray 59 (0, 0))], [(b6, .cells [N .u16 0, N .u32 0, N .u32 0, N .i64 0, N .i64 0, N .i64 0, N .i64 0, N .i64 0, N .i64 0, N .i64 0, N .i64 0, N .u32 0, N .u32 0, .slice none 0 0, SV [], .slice none 0 0, .slice none 0 0, .slice none 0 0].toArray 59 (0, 0))], u.1.2, u.2.2]) (fun u => WithPost dl nm kid u) ?_ fun u2 hu2 => ?_
    · refine T.draw [13, 14, 15] [[(b3, .cells x.cells.toArray 59 (0, 0))]] ?_ mixed
      refine Dr.qs [0, 1, 2, 3, 4, 6, 7, 8, 9, 10] [] ?_
      refine Dq.q Qt.mv <| Dq.q Qt.fa <| Dq.q (Qt.to (u := Sl bn 0 dl.length cn) Qt.ld (hnv)) <| Dq.q Qt.mv <| Dq.q (Qt.sl (cl := posN dl nm) (ch := dl.length)) <| Dq.q Qt.mv <| Dq.q Qt.fa <| Dq.q (Qt.to (u := Sl bk 0 dl.length ck) Qt.ld (hkv)) <| ?_
      refine Dq.q Qt.mv <| Dq.q (Qt.sl (cl := posN dl nm) (ch := dl.length)) <| Dq.nil <| ?_
      refine Dr.e 5 <| Eo.e rfl (Ef.ap (own := hv32) (hs := hs3) (hl := ⟨rfl, ones_drop (ones_nm dl) _, by simp only [maxLen]; omega, by omega⟩)) fun v45 hv45 => ?_
      refine Dr.e2 11 12 ?_ ?_
      · refine Eo.e rfl (Ef.ap (own := hv36) (hs := hs4) (hl := ⟨rfl, ones_drop (ones_kd dl) _, by simp only [maxLen]; omega, by omega⟩)) fun v51 hv51 => ?_
        refine Dr.e 12 <| Eo.q rfl Qt.fa <| ?_
        refine Dr.e 13 <| Eo.e0 rfl Ef.st1 fun _ _ => ?_
        refine Dr.reset [15] ?_
        refine Dr.qs [14] [] ?_
        refine Dq.q Qt.fa <| Dq.nil <| ?_
        refine Dr.e 15 <| Eo.e0 rfl Ef.st1 fun _ _ => Dr.nil <| ?_
        exact Ex.join ((v45.1, v45.2), (v51.1, v51.2)) ⟨hv45.cast (by rw [insN_nm, hh]; rfl) (by unfold insN; rw [hh]; simp only [if_true, if_false, Bool.false_eq_true, List.length_append, List.length_cons, List.length_take, List.length_drop]; omega), hv51.cast (by rw [insN_kd, hh]; rfl) (by unfold insN; rw [hh]; simp only [if_true, if_false, Bool.false_eq_true, List.length_append, List.length_cons, List.length_take, List.length_drop]; omega)⟩ (.cons rfl <| .cons rfl <| .nil)
      · refine Eo.q rfl Qt.fa <| ?_
        refine Dr.e 11 <| Eo.e rfl (Ef.ap (own := hv36) (hs := hs4) (hl := ⟨rfl, ones_drop (ones_kd dl) _, by simp only [maxLen]; omega, by omega⟩)) fun v51 hv51 => ?_
        refine Dr.e 13 <| Eo.e0 rfl Ef.st1 fun _ _ => ?_
        refine Dr.reset [15] ?_
        refine Dr.qs [14] [] ?_
        refine Dq.q Qt.fa <| Dq.nil <| ?_
        refine Dr.e 15 <| Eo.e0 rfl Ef.st1 fun _ _ => Dr.nil <| ?_
        exact Ex.join ((v45.1, v45.2), (v51.1, v51.2)) ⟨hv45.cast (by rw [insN_nm, hh]; rfl) (by unfold insN; rw [hh]; simp only [if_true, if_false, Bool.false_eq_true, List.length_append, List.length_cons, List.length_take, List.length_drop]; omega), hv51.cast (by rw [insN_kd, hh]; rfl) (by unfold insN; rw [hh]; simp only [if_true, if_false, Bool.false_eq_true, List.length_append, List.length_cons, List.length_take, List.length_drop]; omega)⟩ (.cons rfl <| .cons rfl <| .nil)
    · have hzz : ones { x with names := u2.1.1, kids := u2.2.1 }.cells = true := niX_ones hok.1 hok.2.1 hok.2.2 hu2.1.one hu2.2.one
      refine T.sr <| Rl.q Qt.ldA <| Rl.e0 (Ef.stN (hv := Vc.ofOnes hzz)) fun _ _ => Rl.nilK <| ?_
      refine T.ret <| Ex.retC (.inl rfl) rfl ?_ rfl
      exact fun w h => ⟨u2, hu2, rfl, h.re⟩

theorem with_s (hN : Arr C x.names (nmV dl)) (hK : Arr C x.kids (kdV dl)) (hl : dl.length < 1000000) (hok : NIok x) :
    Spec Tryz.prog 29 [.agg x.cells.toArray, SV nm, N .i64 kid] [C] [] (WithPost dl nm kid) (fun r => .agg { x with names := r.1.1, kids := r.2.1 }.cells.toArray) (fun r => [r.1.2, r.2.2]) := by
  by_cases hd : dl = []
  · subst hd
    refine withNil_s hN hK hl hok rfl ?_ ?_
    · rcases hN with ⟨h, _⟩ | ⟨h, _⟩
      · exact h
      · exact absurd h (by decide)
    · rcases hK with ⟨h, _⟩ | ⟨h, _⟩
      · exact h
      · exact absurd h (by decide)
  · cases hh : hasN dl nm
    · exact withNot_s hN hK hl hok (List.length_pos_iff.2 hd) hh
    · exact withHas_s hN hK hl hok hh
end SL
end Go.Proofs.YtlmiekcmjpnobaaGreatDoor
namespace Go.Proofs.YtlmiekcmjpnobaaGreatDoor
open Go
namespace SL
set_option maxRecDepth 20000

def nI (n : Nat) (f : Nat → Nat) : List Value := (List.range n).map fun i => N .i64 (f i)
theorem nI_length (n : Nat) (s : Nat → Nat) : (nI n s).length = n := by simp [nI]
theorem nI_nth0 {n k : Nat} {s : Nat → Nat} (h : k < n) : nth (nI n s) (0 + k) = some (N .i64 (s k)) := by rw [Nat.zero_add, nth_eq]; simp [nI, h]
theorem nI_put0 {n k x : Nat} {s : Nat → Nat} (h : k < n) : putL (nI n s) (0 + k) (vcells (N .i64 x)) = nI n (upd s k x) := by
  rw [Nat.zero_add, show vcells (N .i64 x) = [N .i64 x] from rfl, putL_set (by rw [nI_length]; exact h)]
  unfold nI
  rw [range_set]
  apply List.map_congr_left
  intro i _
  unfold upd
  split <;> rfl
theorem nI_hc {n k x : Nat} {s : Nat → Nat} (h : k < n) : (vcells (N .i64 x)).length = 1 ∧ 0 + k + 1 ≤ (nI n s).length ∧ ones (vcells (N .i64 x)) = true := ⟨rfl, by rw [nI_length]; omega, rfl⟩
theorem nI_rep (n : Nat) : (List.replicate n (vcells (N .i64 0))).flatten = nI n fun _ => 0 := by
  rw [show vcells (N .i64 0) = [N .i64 0] from rfl, flat_rep]
  unfold nI
  apply List.ext_getElem <;> simp
/-- At which place each number stands. -/
def plcT (l : List Nat) (s : (Nat → Nat) × Nat) : (Nat → Nat) × Nat := l.foldl (fun (s : (Nat → Nat) × Nat) x => (upd s.1 x s.2, s.2 + 1)) s
def plcS (l : List Nat) : Nat → Nat := (plcT l ((fun _ => 0), 0)).1
theorem plcT_len : ∀ (l : List Nat) (s : (Nat → Nat) × Nat), (plcT l s).2 = s.2 + l.length
  | [], _ => rfl
  | x :: l, s => by
    have h := plcT_len l (upd s.1 x s.2, s.2 + 1)
    have h : (plcT (x :: l) s).2 = s.2 + 1 + l.length := h
    rw [h, List.length_cons]; omega
theorem plcS_snoc (l : List Nat) (x : Nat) : plcS (l ++ [x]) = upd (plcS l) x l.length := by
  have h := plcT_len l ((fun _ => 0), 0)
  unfold plcS
  unfold plcT at *
  rw [List.foldl_append, List.foldl_cons, List.foldl_nil]
  simp only at h ⊢
  rw [h, Nat.zero_add]
def dlStep (plc : Nat → Nat) (acc : Dl) (e : Ent) : Dl := if dotE e then acc else insN acc e.1 (plc e.2.1)
def esOf (z : NdV) : List Ent := if z.1.isDir then entL z.1.blks.flatten else []
def dlN (plc : Nat → Nat) (z : NdV) : Dl := (esOf z).foldl (dlStep plc) []
abbrev TnV := NdV × Value × Value
def niOf (z : NdV) (nv kv : Value) : NI := ⟨z.1.x.mode, z.1.x.uid, z.1.x.gid, z.1.x.t0, z.1.x.t1, z.1.x.t2, z.1.x.t3, z.1.x.t4, z.1.x.t5, z.1.x.t6, z.1.x.t7, z.1.x.maj, z.1.x.min, if kindN z.1.x.mode = 1 then z.2.1 else .slice none 0 0, [], .slice none 0 0, nv, kv⟩
def TnFin (NC : Chunk) (plc : Nat → Nat) (t : TnV) : Prop := Arr NC t.2.1 (nmV (dlN plc t.1)) ∧ Arr NC t.2.2 (kdV (dlN plc t.1))
structure TSt where
  dn : List TnV
  rs : List NdV
  v : Value
  E : Chunk
  NC : Chunk
structure TOk (plc : Nat → Nat) (dn : List NdV) (y : TSt) : Prop where
  all : y.dn.map (·.1) ++ y.rs = dn
  fin : ∀ t ∈ y.dn, TnFin y.NC plc t
  own : Own 59 18 y.v y.dn.length (y.dn.flatMap fun t => (niOf t.1 t.2.1 t.2.2).cells) y.E
structure USt where
  dn : List Ent
  rs : List Ent
  acc : Dl
  nv : Value
  kv : Value
  E : Chunk
structure UOk (plc : Nat → Nat) (es : List Ent) (y : USt) : Prop where
  all : y.dn ++ y.rs = es
  acc : y.acc = y.dn.foldl (dlStep plc) []
  len : y.acc.length ≤ y.dn.length
  nm : Arr y.E y.nv (nmV y.acc)
  kd : Arr y.E y.kv (kdV y.acc)
theorem Arr.nil (C : Chunk) : Arr C (.slice none 0 0) [] := .inl ⟨rfl, rfl⟩
theorem esOf_own {φ : RNd → Value → Value → Chunk → Prop} {CC : Chunk} {z : NdV} (h : NdFin φ CC z) : ∃ E, Own 87 3 z.2.2.2 (esOf z).length (tri (esOf z)) E ∧ ∀ p ∈ E, p ∈ CC := by
  obtain ⟨_, _, _, _, h⟩ := h
  unfold esOf
  split at h
  · next hd => rw [if_pos hd]; exact h
  · next hd => rw [if_neg hd, h]; exact ⟨[], Own.nil 87 3, fun _ h => nomatch h⟩
theorem Own.form2 {e sz k : Nat} {v : Value} {xs : List Value} {E : Chunk} (h : Own e sz v k xs E) : ∃ p c, v = .slice p k c := by
  obtain ⟨_, ⟨h, h0, _⟩ | ⟨b, cap, sp, h, _⟩⟩ := h
  · exact ⟨none, 0, by rw [h, h0]⟩
  · exact ⟨_, _, h⟩
theorem cells18 : ∀ t : TnV, (niOf t.1 t.2.1 t.2.2).cells.length = 18 := fun _ => rfl
theorem own_push18 {v : Value} {dn : List TnV} {z : TnV} {E : Chunk} (h : Own 59 18 v (dn.length + 1) ((dn.flatMap fun t => (niOf t.1 t.2.1 t.2.2).cells) ++ (niOf z.1 z.2.1 z.2.2).cells) E) : Own 59 18 v (dn ++ [z]).length ((dn ++ [z]).flatMap fun t => (niOf t.1 t.2.1 t.2.2).cells) E := by
  rw [List.length_append, List.flatMap_append, List.flatMap_cons, List.flatMap_nil, List.append_nil]; exact h
theorem dlStep_len (plc : Nat → Nat) (acc : Dl) (e : Ent) : (dlStep plc acc e).length ≤ acc.length + 1 := by
  unfold dlStep
  split
  · omega
  · exact insN_length_le ..
theorem niOf_data1 {z : NdV} {nv kv : Value} (h : kindN z.1.x.mode = 1) : niOf z nv kv = ⟨z.1.x.mode, z.1.x.uid, z.1.x.gid, z.1.x.t0, z.1.x.t1, z.1.x.t2, z.1.x.t3, z.1.x.t4, z.1.x.t5, z.1.x.t6, z.1.x.t7, z.1.x.maj, z.1.x.min, z.2.1, [], .slice none 0 0, nv, kv⟩ := by unfold niOf; rw [if_pos h]
theorem niOf_data0 {z : NdV} {nv kv : Value} (h : kindN z.1.x.mode ≠ 1) : niOf z nv kv = ⟨z.1.x.mode, z.1.x.uid, z.1.x.gid, z.1.x.t0, z.1.x.t1, z.1.x.t2, z.1.x.t3, z.1.x.t4, z.1.x.t5, z.1.x.t6, z.1.x.t7, z.1.x.maj, z.1.x.min, .slice none 0 0, [], .slice none 0 0, nv, kv⟩ := by unfold niOf; rw [if_neg h]
theorem niOf_ok {z : NdV} {nv kv : Value} (h : ones [z.1.x.t0, z.1.x.t1, z.1.x.t2, z.1.x.t3, z.1.x.t4, z.1.x.t5, z.1.x.t6, z.1.x.t7] = true) (hc : SL.one z.2.1 = true) : NIok (niOf z nv kv) := ⟨h, by unfold niOf; simp only; split; exact hc; rfl, rfl⟩
theorem ones8 {a b c d e f g h : Value} (H : ones [a, b, c, d, e, f, g, h] = true) : Vc a [a] ∧ Vc b [b] ∧ Vc c [c] ∧ Vc d [d] ∧ Vc e [e] ∧ Vc f [f] ∧ Vc g [g] ∧ Vc h [h] := by
  simp only [ones, List.all_cons, List.all_nil, Bool.and_true, Bool.and_eq_true] at H
  obtain ⟨h0, h1, h2, h3, h4, h5, h6, h7⟩ := H
  exact ⟨.of h0, .of h1, .of h2, .of h3, .of h4, .of h5, .of h6, .of h7⟩
set_option synthInstance.maxHeartbeats 400000 in
set_option synthInstance.maxSize 100000 in
set_option maxHeartbeats 16000000 in
theorem tree_s {bV bi ci nb pi : Nat} {img own : Value} {φ : RNd → Value → Value → Chunk → Prop} {dn : List NdV} {spi : List Value} {CC : Chunk}
    (hpi : pi < 1000000) (hdn : dn.length < 1000000) (hfin : ∀ z ∈ dn, NdFin φ CC z) (hz : ∀ z ∈ dn, z.1.x.num < pi + 1 ∧ z.1.x.mode < 65536 ∧ kindN z.1.x.mode ≠ 7 ∧ z.2.2.1 = .slice none 0 0 ∧ ones [z.1.x.t0, z.1.x.t1, z.1.x.t2, z.1.x.t3, z.1.x.t4, z.1.x.t5, z.1.x.t6, z.1.x.t7] = true)
    (hes : ∀ z ∈ dn, (esOf z).length < 1000000 ∧ ∀ e ∈ esOf z, e.2.1 < pi + 1) :
    Spec Tryz.prog 11 [Pt bV] [[(bV, VO (Sl bi 0 dn.length ci) nb img 1 pi own)], [(bi, .cells ((dn.flatMap fun z => z.x.cells) ++ spi).toArray 81 (0, 0))], CC] []
      (fun r : List TnV × Value × Chunk × Chunk => r.1.map (·.1) = dn ∧ (∀ t ∈ r.1, TnFin r.2.2.2 (plcS (numsN dn)) t) ∧ Own 59 18 r.2.1 r.1.length (r.1.flatMap fun t => (niOf t.1 t.2.1 t.2.2).cells) r.2.2.1) (fun r => .agg [r.2.1].toArray) (fun r => [r.2.2.1, r.2.2.2]) := by
  refine Spec.of Tryz.func11 rfl Tryz.ntmps11 (by simp) fun w => ?_
  refine T.sr <| Rl.e Ef.alA fun b2 hb2 => Rl.nilK <| ?_
  refine T.sr <| Rl.e Ef.alA fun b3 hb3 => Rl.nilK <| ?_
  refine T.sdr [] ?_ mixed
  refine Dr.qs [0, 1, 2, 3, 4, 5, 6, 7, 8, 9] [] ?_
  refine Dq.q Qt.mv <| Dq.q Qt.nc <| Dq.q Qt.fa <| Dq.q Qt.ld <| Dq.q Qt.mv <| Dq.q Qt.nc <| Dq.q Qt.fa <| Dq.q Qt.ld <| ?_
  refine Dq.q (Qt.toN (c := pi) Qt.mul (Nat.one_mul _)) <| Dq.q (Qt.toN (c := pi + 1) (Qt.add (b := 1))) <| Dq.nil <| ?_
  refine Dr.e 10 <| Eo.e rfl Ef.mk fun b24 hb24 => ?_
  refine Dr.e 11 <| Eo.q rfl Qt.as <| Dr.nilK <| ?_
  refine T.seq ?_
  refine T.sr <| Rl.q Qt.mv <| Rl.q Qt.nc <| Rl.q Qt.fa0 <| Rl.q Qt.ld <| Rl.q Qt.len <| Rl.q (Qt.mv (v := N .i64 0)) <| Rl.nilK <| ?_
  refine T.block ?_
  rw [nI_rep]
  rw [show (fun _ => 0) = plcS (numsN (dn.take 0)) from rfl]
  refine T.loop (α := Nat) (fun i => [(0, Pt bV), (2, Pt b2), (3, Pt b3), (4, Sl b24 0 (pi + 1) (pi + 1)), (28, Sl bi 0 dn.length ci), (29, N .i64 dn.length), (30, N .i64 i)]) (fun i => [[(b24, .cells (nI (pi + 1) (plcS (numsN (dn.take i)))).toArray 3 (0, 0))], [(b3, .cells [.slice none 0 0].toArray 28 (0, 0))], [(b2, .cells [.slice none 0 0].toArray 28 (0, 0))]]) (fun i => i ≤ dn.length) (fun i => dn.length - i)
    0 (Nat.zero_le _) ?_ (fun i hi => ?_)
  · exact .cons rfl <| .cons rfl <| .cons rfl <| .cons rfl <| .cons rfl <| .cons rfl <| .cons rfl <| .nil
  refine T.sr <| Rl.ltS (fun h31 => ?_) (fun h31 => ?_)
  · refine Rl.nilK <| ?_
    refine T.seq ?_
    refine T.condT ?_
    refine T.skip <| Ex.K <| ?_
    refine T.seq ?_
    refine T.block ?_
    obtain ⟨zi, hzi⟩ : ∃ z, dn[i]? = some z := ⟨_, List.getElem?_eq_getElem h31⟩
    have hzm := List.mem_of_getElem? hzi
    have htk : dn.take (i + 1) = dn.take i ++ [zi] := by rw [List.take_add_one, hzi]; rfl
    obtain ⟨hz2, hz3, hz4, hz5, hz6⟩ := hz zi hzm
    obtain ⟨_, hza, hzb, hzc, _⟩ := hfin zi hzm
    have hz1 : ones zi.x.cells = true := XI.cells_ones hz6 hza hzc hzb
    refine T.sr <| Rl.q Qt.mv <| Rl.q Qt.ia <| Rl.q (Qt.ldA (hv := by rw [Nat.zero_add]; exact seg_flat (g := fun z : NdV => z.x.cells) cells23 spi hzi)) <| Rl.e Ef.alA fun b6 hb6 => Rl.q Qt.as <| Rl.e0 (Ef.stN (hv := Vc.ofOnes hz1)) fun _ _ => Rl.nilK <| ?_
    refine T.region <| Rl.q Qt.mv <| Rl.q Qt.fa0 <| Rl.q Qt.ld <| Rl.q Qt.mv <| Rl.q (Qt.ia1 (i := zi.1.x.num)) <| Rl.e0 (Ef.st (hc := nI_hc hz2)) fun _ _ => Rl.nil <| Ex.Bnormal <| Ex.K <| ?_
    refine T.region <| Rl.q (Qt.add (b := 1)) <| Rl.q Qt.mv <| Rl.nil <| ?_
    rw [nI_put0 hz2, show upd (plcS (numsN (dn.take i))) zi.1.x.num i = plcS (numsN (dn.take (i + 1))) by rw [htk, show numsN (dn.take i ++ [zi]) = numsN (dn.take i) ++ [zi.1.x.num] by simp [numsN], plcS_snoc, show (numsN (dn.take i)).length = i by simp [numsN]; omega]]
    exact Ex.next (i + 1) (by omega) (by omega) (.cons rfl <| .cons rfl <| .cons rfl <| .cons rfl <| .cons rfl <| .cons rfl <| .cons rfl <| .nil)
  · refine Rl.nilK <| ?_
    refine T.seq ?_
    refine T.condF ?_
    refine T.exit <| Ex.Kexit <| Ex.Lexit <| Ex.Bhit <| Ex.K <| ?_
    refine T.seq ?_
    refine T.sr <| Rl.q Qt.mv <| Rl.q Qt.nc <| Rl.q Qt.fa0 <| Rl.q Qt.ld <| Rl.q Qt.len <| Rl.q (Qt.mv (v := N .i64 0)) <| Rl.nilK <| ?_
    refine T.block ?_
    rw [show dn.take i = dn from List.take_of_length_le (by omega)]
    refine T.add0 <| T.add0 ?_
    refine T.loop (α := TSt) (fun y => [(2, Pt b2), (3, Pt b3), (4, Sl b24 0 (pi + 1) (pi + 1)), (44, Sl bi 0 dn.length ci), (45, N .i64 dn.length), (46, N .i64 y.dn.length)]) (fun y => [[(b3, .cells [y.v].toArray 28 (0, 0))], [(b2, .cells [.slice none 0 0].toArray 28 (0, 0))], [(b24, .cells (nI (pi + 1) (plcS (numsN dn))).toArray 3 (0, 0))], y.E, y.NC]) (fun y => TOk (plcS (numsN dn)) dn y) (fun y => y.rs.length)
      ⟨[], dn, .slice none 0 0, [], []⟩ ⟨rfl, fun _ h => absurd h (by simp), Own.nil 59 18⟩ ?_ (fun y hy => ?_)
    · exact .cons rfl <| .cons rfl <| .cons rfl <| .cons rfl <| .cons rfl <| .cons rfl <| .nil
    refine T.sr <| Rl.ltS (fun h47 => ?_) (fun h47 => ?_)
    · refine Rl.nilK <| ?_
      refine T.seq ?_
      refine T.condT ?_
      refine T.skip <| Ex.K <| ?_
      refine T.seq ?_
      refine T.block ?_
      obtain ⟨zi, rs1, hrs⟩ : ∃ z l, y.rs = z :: l := by
        cases h : y.rs with
        | nil => have := congrArg List.length hy.all; rw [h, List.append_nil, List.length_map] at this; omega
        | cons z l => exact ⟨z, l, rfl⟩
      have hzi : dn[y.dn.length]? = some zi := by have h := hy.all; rw [hrs] at h; rw [← h, show y.dn.length = (y.dn.map (·.1)).length by simp, List.getElem?_append_right (Nat.le_refl _), Nat.sub_self]; rfl
      have hzm := List.mem_of_getElem? hzi
      obtain ⟨hz2, hz3, hz4, hz5, hz6⟩ := hz zi hzm
      obtain ⟨_, hza, hzb, hzc, _⟩ := hfin zi hzm
      have hz1 : ones zi.x.cells = true := XI.cells_ones hz6 hza hzc hzb
      obtain ⟨i0, i1, i2, i3, i4, i5, i6, i7⟩ := ones8 hz6
      obtain ⟨Ee, hEo, hEs⟩ := esOf_own (hfin zi hzm)
      obtain ⟨pe, ce, hev⟩ := hEo.form2
      have hxat : zi.x.xat = .slice none 0 0 := hz5
      obtain ⟨hel, hei⟩ := hes zi hzm
      have hk7 := hz4
      refine T.sr <| Rl.q Qt.ia <| Rl.q (Qt.ldA (hv := by rw [Nat.zero_add]; exact seg_flat (g := fun z : NdV => z.x.cells) cells23 spi hzi)) <| Rl.e Ef.alA fun b8 hb8 => Rl.e0 (Ef.stN (hv := Vc.ofOnes hz1)) fun _ _ => Rl.nilK <| ?_
      refine T.sr <| Rl.q Qt.fa <| Rl.q Qt.ld <| Rl.q Qt.fa <| Rl.q Qt.ld <| Rl.q Qt.fa <| Rl.q Qt.ld <| Rl.q Qt.fa <| ?_
      refine Rl.q Qt.ldA <| Rl.q Qt.fa <| Rl.q Qt.ldA <| Rl.q Qt.fa <| Rl.q Qt.ldA <| Rl.q Qt.fa <| Rl.q Qt.ldA <| Rl.q Qt.fa <| ?_
      refine Rl.q Qt.ld <| Rl.q Qt.fa <| Rl.q Qt.ld <| Rl.q Qt.bdN <| Rl.e Ef.alA fun b9 hb9 => ?_
      have hn0 : ones [N .u16 zi.1.x.mode, N .u32 zi.1.x.uid, N .u32 zi.1.x.gid, zi.1.x.t0, zi.1.x.t1, zi.1.x.t2, zi.1.x.t3, zi.1.x.t4, zi.1.x.t5, zi.1.x.t6, zi.1.x.t7, N .u32 zi.1.x.maj, N .u32 zi.1.x.min, .slice none 0 0, SV [], .slice none 0 0, .slice none 0 0, .slice none 0 0] = true := niX_ones (x := ⟨zi.1.x.mode, zi.1.x.uid, zi.1.x.gid, zi.1.x.t0, zi.1.x.t1, zi.1.x.t2, zi.1.x.t3, zi.1.x.t4, zi.1.x.t5, zi.1.x.t6, zi.1.x.t7, zi.1.x.maj, zi.1.x.min, .slice none 0 0, [], .slice none 0 0, .slice none 0 0, .slice none 0 0⟩) hz6 rfl rfl rfl rfl
      refine Rl.e0 (Ef.stN (hv := Vc.ofOnes hn0)) fun _ _ => Rl.nilK <| ?_
      refine T.join (α := Unit) (fun _u => [(2, Pt b2), (3, Pt b3), (4, Sl b24 0 (pi + 1) (pi + 1)), (44, Sl bi 0 dn.length ci), (45, N .i64 dn.length), (46, N .i64 y.dn.length), (8, Pt b8), (9, Pt b9)]) (fun _u => [[(b9, .cells (niOf zi (.slice none 0 0) (.slice none 0 0)).cells.toArray 59 (0, 0))], [(b8, .cells zi.x.cells.toArray 81 (0, 0))], [(b3, .cells [y.v].toArray 28 (0, 0))], [(b2, .cells [.slice none 0 0].toArray 28 (0, 0))], [(b24, .cells (nI (pi + 1) (plcS (numsN dn))).toArray 3 (0, 0))], y.E, y.NC]) (fun _u => True) ?_ fun _ _ => ?_
      · refine T.sr <| Rl.q Qt.fa <| Rl.q Qt.ld <| Rl.e (Ef.qcall (S := kindOf_q hz3)) fun _ _ => Rl.nilK <| ?_
        refine T.block ?_
        refine T.sr <| Rl.eqS (b := 1) (fun h73 => ?_) (fun h73 => ?_)
        · refine Rl.q Qt.as <| Rl.nilK <| ?_
          refine T.condT ?_
          refine T.region <| Rl.q Qt.fa <| Rl.q Qt.ld <| Rl.q Qt.fa <| Rl.e0 (Ef.st1 (h1 := hza)) fun _ _ => Rl.nil <| Ex.Bnormal <| ?_
          rw [niOf_data1 h73]
          exact Ex.join () trivial (.cons rfl <| .cons rfl <| .cons rfl <| .cons rfl <| .cons rfl <| .cons rfl <| .cons rfl <| .cons rfl <| .nil)
        · refine Rl.q Qt.as <| Rl.nilK <| ?_
          refine T.condF ?_
          refine T.sr <| Rl.q (Qt.eqF (b := 7)) <| Rl.q Qt.as <| Rl.nilK <| ?_
          refine T.condF ?_
          refine T.skip <| Ex.Bnormal <| ?_
          rw [niOf_data0 h73]
          exact Ex.join () trivial (.cons rfl <| .cons rfl <| .cons rfl <| .cons rfl <| .cons rfl <| .cons rfl <| .cons rfl <| .cons rfl <| .nil)
      · refine T.seq ?_
        refine T.sr <| Rl.q Qt.fa <| Rl.q (Qt.to (u := .slice none 0 0) Qt.ld (hxat)) <| Rl.q Qt.len <| Rl.q (Qt.mv (v := N .i64 0)) <| Rl.nilK <| ?_
        refine T.block ?_
        refine T.rounds 0 ?_
        refine T.sr <| Rl.q (Qt.ltF (a := 0)) <| Rl.nilK <| ?_
        refine T.seq ?_
        refine T.condF ?_
        refine T.exit <| Ex.Kexit <| Ex.Rexit <| Ex.Bhit <| Ex.K <| ?_
        refine T.seq ?_
        refine T.sr <| Rl.q Qt.fa <| Rl.q (Qt.to (u := .slice pe (esOf zi).length ce) Qt.ld (hev)) <| Rl.q Qt.len <| Rl.q (Qt.mv (v := N .i64 0)) <| Rl.nilK <| ?_
        refine T.block ?_
        refine T.add0 ?_
        refine T.loop (α := USt) (fun u => [(2, Pt b2), (3, Pt b3), (4, Sl b24 0 (pi + 1) (pi + 1)), (44, Sl bi 0 dn.length ci), (45, N .i64 dn.length), (46, N .i64 y.dn.length), (8, Pt b8), (9, Pt b9), (100, .slice pe (esOf zi).length ce), (101, N .i64 (esOf zi).length), (102, N .i64 u.dn.length)]) (fun u => [[(b9, .cells (niOf zi u.nv u.kv).cells.toArray 59 (0, 0))], u.E, [(b3, .cells [y.v].toArray 28 (0, 0))], [(b2, .cells [.slice none 0 0].toArray 28 (0, 0))], [(b24, .cells (nI (pi + 1) (plcS (numsN dn))).toArray 3 (0, 0))], y.E, y.NC]) (fun u => UOk (plcS (numsN dn)) (esOf zi) u) (fun u => u.rs.length)
          ⟨[], esOf zi, [], .slice none 0 0, .slice none 0 0, []⟩ ⟨rfl, rfl, Nat.le_refl _, Arr.nil _, Arr.nil _⟩ ?_ (fun u hu => ?_)
        · exact .cons rfl <| .cons rfl <| .cons rfl <| .cons rfl <| .cons rfl <| .cons rfl <| .cons rfl <| .cons rfl <| .cons rfl <| .cons rfl <| .cons rfl <| .nil
        refine T.sr <| Rl.ltS (fun h103 => ?_) (fun h103 => ?_)
        · refine Rl.nilK <| ?_
          refine T.seq ?_
          refine T.condT ?_
          refine T.skip <| Ex.K <| ?_
          refine T.seq ?_
          refine T.block ?_
          obtain ⟨e1, rs2, hrs2⟩ : ∃ e l, u.rs = e :: l := by
            cases h : u.rs with
            | nil => have := congrArg List.length hu.all; rw [h, List.append_nil] at this; omega
            | cons e l => exact ⟨e, l, rfl⟩
          have hidx : (esOf zi)[u.dn.length]? = some e1 := by rw [← hu.all, hrs2]; simp
          obtain ⟨be, ce2, spe, hev2, hce, hce2, heE, hspl⟩ := hEo.some (by omega)
          have he3 := hev.symm.trans hev2
          injection he3 with hp1 _ hp3
          subst hp1
          subst hp3
          have iB : ∀ H, InB H [[(bV, VO (Sl bi 0 dn.length ci) nb img 1 pi own)], [(bi, .cells ((dn.flatMap fun z => z.x.cells) ++ spi).toArray 81 (0, 0))], CC] be (.cells (tri (esOf zi) ++ spe).toArray 87 (0, 0)) := fun H => ⟨.inr (by have := hEs _ (by rw [heE]; exact List.mem_singleton.2 rfl); simp [this])⟩
          have he4 := hei e1 (List.mem_of_getElem? hidx)
          have hul : u.acc.length < 1000000 := by have := hu.len; omega
          have hacc : u.acc = _ := hu.acc
          refine T.sr <| Rl.q Qt.ia <| Rl.q (Qt.ldA (hv := by rw [Nat.zero_add]; exact tri_seg spe hidx)) <| Rl.e Ef.alA fun b13 hb13 => Rl.e0 Ef.stN fun _ _ => Rl.nilK <| ?_
          rcases dot3 e1.1 with hd1 | ⟨hd1, hd2⟩ | ⟨hd1, hd2⟩
          · have hst : dlStep (plcS (numsN dn)) u.acc e1 = u.acc := if_pos (.inl hd1)
            refine T.sr <| Rl.q Qt.fa0 <| Rl.q Qt.ld <| Rl.q (Qt.sneF (h := hd1)) <| Rl.q Qt.mv <| Rl.gf <| Rl.gf <| Rl.gf <| Rl.q (Qt.pkF (v := .bool false)) <| ?_
            refine Rl.q Qt.mv <| Rl.gf <| Rl.gf <| Rl.gf <| Rl.gf <| Rl.gf <| Rl.gf <| Rl.q (Qt.pkF (v := .bool false)) <| ?_
            refine Rl.nilK <| ?_
            refine T.condF ?_
            refine T.skip <| Ex.Bnormal <| Ex.K <| ?_
            refine T.region <| Rl.q (Qt.add (b := 1)) <| Rl.q Qt.mv <| Rl.nil <| ?_
            exact Ex.next ⟨u.dn ++ [e1], rs2, u.acc, u.nv, u.kv, u.E⟩ ⟨by rw [← hu.all, hrs2]; simp, by rw [List.foldl_append, ← hacc]; exact hst.symm, by rw [List.length_append]; exact Nat.le_trans hu.len (Nat.le_add_right _ _), hu.nm, hu.kd⟩ (by rw [hrs2]; simp) (.cons rfl <| .cons rfl <| .cons rfl <| .cons rfl <| .cons rfl <| .cons rfl <| .cons rfl <| .cons rfl <| .cons rfl <| .cons rfl <| .cons (by rw [List.length_append]; rfl) <| .nil)
          · have hst : dlStep (plcS (numsN dn)) u.acc e1 = u.acc := if_pos (.inr hd2)
            refine T.sr <| Rl.q Qt.fa0 <| Rl.q Qt.ld <| Rl.q (Qt.sneT (h := hd1)) <| Rl.q Qt.mv <| Rl.gt <| Rl.q Qt.fa0 <| Rl.gt <| Rl.q Qt.ld <| ?_
            refine Rl.gt <| Rl.q (Qt.sneF (h := hd2)) <| Rl.q Qt.pkT <| Rl.q Qt.mv <| Rl.gf <| Rl.gf <| Rl.gf <| Rl.gf <| Rl.gf <| Rl.gf <| Rl.q (Qt.pkF (v := .bool false)) <| ?_
            refine Rl.nilK <| ?_
            refine T.condF ?_
            refine T.skip <| Ex.Bnormal <| Ex.K <| ?_
            refine T.region <| Rl.q (Qt.add (b := 1)) <| Rl.q Qt.mv <| Rl.nil <| ?_
            exact Ex.next ⟨u.dn ++ [e1], rs2, u.acc, u.nv, u.kv, u.E⟩ ⟨by rw [← hu.all, hrs2]; simp, by rw [List.foldl_append, ← hacc]; exact hst.symm, by rw [List.length_append]; exact Nat.le_trans hu.len (Nat.le_add_right _ _), hu.nm, hu.kd⟩ (by rw [hrs2]; simp) (.cons rfl <| .cons rfl <| .cons rfl <| .cons rfl <| .cons rfl <| .cons rfl <| .cons rfl <| .cons rfl <| .cons rfl <| .cons rfl <| .cons (by rw [List.length_append]; rfl) <| .nil)
          · have hst : dlStep (plcS (numsN dn)) u.acc e1 = insN u.acc e1.1 (plcS (numsN dn) e1.2.1) := if_neg (not_or.2 ⟨hd1, hd2⟩)
            refine T.sr <| Rl.q Qt.fa0 <| Rl.q Qt.ld <| Rl.q (Qt.sneT (h := hd1)) <| Rl.q Qt.mv <| Rl.gt <| Rl.q Qt.fa0 <| Rl.gt <| Rl.q Qt.ld <| ?_
            refine Rl.gt <| Rl.q (Qt.sneT (h := hd2)) <| Rl.q Qt.pkT <| Rl.q Qt.mv <| Rl.gt <| Rl.q Qt.fa <| Rl.gt <| Rl.q Qt.ld <| ?_
            refine Rl.gt <| Rl.q Qt.mv <| Rl.gt <| Rl.q Qt.len <| Rl.gt <| Rl.q (Qt.cv (a := pi + 1)) <| Rl.gt <| Rl.q (Qt.ltT (h := he4) (b := pi + 1)) <| ?_
            refine Rl.q Qt.pkT <| Rl.nilK <| ?_
            refine T.condT ?_
            refine T.dr [8, 9] ?_ mixed
            refine Dr.qs [0, 1, 2, 3, 4, 5, 6, 7] [] ?_
            refine Dq.q Qt.ldA <| Dq.q Qt.fa0 <| Dq.q Qt.ld <| Dq.q Qt.mv <| Dq.q Qt.fa <| Dq.q Qt.ld <| Dq.q (Qt.ia1 (i := e1.2.1)) <| Dq.q (Qt.ld (hv := nI_nth0 he4)) <| ?_
            refine Dq.nil <| ?_
            refine Dr.e 8 <| Eo.e rfl (Ef.call (S := with_s (x := niOf zi u.nv u.kv) (dl := u.acc) (nm := e1.1) (kid := plcS (numsN dn) e1.2.1) hu.nm hu.kd hul (niOf_ok hz6 hza))) fun v hv => ?_
            have hn1 : ones { niOf zi u.nv u.kv with names := v.1.1, kids := v.2.1 }.cells = true := niX_ones hz6 (niOf_ok (nv := u.nv) (kv := u.kv) hz6 hza).2.1 rfl hv.1.one hv.2.one
            refine Dr.e 9 <| Eo.e0 rfl (Ef.stN (hv := Vc.ofOnes hn1)) fun _ _ => Dr.nil <| Ex.Bnormal <| Ex.K <| ?_
            refine T.rem (C := v.2.2) (by (repeat first | exact Rem.here | apply Rem.there)) ?_
            refine T.rem (C := v.1.2) (by (repeat first | exact Rem.here | apply Rem.there)) ?_
            refine T.merge ?_
            refine T.region <| Rl.q (Qt.add (b := 1)) <| Rl.q Qt.mv <| Rl.nil <| ?_
            exact Ex.next ⟨u.dn ++ [e1], rs2, insN u.acc e1.1 (plcS (numsN dn) e1.2.1), v.1.1, v.2.1, v.1.2 ++ v.2.2⟩ ⟨by rw [← hu.all, hrs2]; simp, by rw [List.foldl_append, ← hacc]; exact hst.symm, by rw [List.length_append]; exact Nat.le_trans (insN_length_le _ _ _) (Nat.add_le_add_right hu.len 1), hv.1.arr (insN_length_pos _ _ _) (fun p hp => List.mem_append_left _ hp), hv.2.arr (insN_length_pos _ _ _) (fun p hp => List.mem_append_right _ hp)⟩ (by rw [hrs2]; simp) (.cons rfl <| .cons rfl <| .cons rfl <| .cons rfl <| .cons rfl <| .cons rfl <| .cons rfl <| .cons rfl <| .cons rfl <| .cons rfl <| .cons (by rw [List.length_append]; rfl) <| .nil)
        · refine Rl.nilK <| ?_
          refine T.seq ?_
          refine T.condF ?_
          refine T.exit <| Ex.Kexit <| Ex.Lexit <| Ex.Bhit <| Ex.K <| ?_
          have hnil : u.rs = [] := by
            cases h : u.rs with
            | nil => rfl
            | cons e l => have := congrArg List.length hu.all; rw [h, List.length_append, List.length_cons] at this; omega
          have hall := hu.all
          rw [hnil, List.append_nil] at hall
          have hdl : u.acc = dlN (plcS (numsN dn)) zi := by rw [hu.acc, hall]; rfl
          have hn2 : ones (niOf zi u.nv u.kv).cells = true := niX_ones hz6 (niOf_ok (nv := u.nv) (kv := u.kv) hz6 hza).2.1 rfl hu.nm.one hu.kd.one
          have hyl := congrArg List.length hy.all
          rw [List.length_append, List.length_map, hrs, List.length_cons] at hyl
          refine T.rem (C := y.NC) (by (repeat first | exact Rem.here | apply Rem.there)) ?_
          refine T.rem (C := u.E) (by (repeat first | exact Rem.here | apply Rem.there)) ?_
          refine T.merge ?_
          refine T.region <| Rl.q Qt.fa0 <| Rl.q Qt.ld <| Rl.q Qt.ldA <| Rl.e Ef.bs fun b135 hb135 => Rl.e (Ef.ap (own := hy.own) (hl := ⟨rfl, hn2, by simp only [maxLen]; omega, by omega⟩)) fun v136 hv136 => Rl.q Qt.fa0 <| Rl.e0 Ef.st1 fun _ _ => ?_
          refine Rl.nil <| Ex.Bnormal <| Ex.K <| ?_
          refine T.region <| Rl.q (Qt.add (b := 1)) <| Rl.q Qt.mv <| Rl.nil <| ?_
          have hfin2 : ∀ q ∈ y.dn ++ [(zi, u.nv, u.kv)], TnFin (u.E ++ y.NC) (plcS (numsN dn)) q := by
            intro q hq
            rcases List.mem_append.1 hq with hq | hq
            · obtain ⟨h1, h2⟩ := hy.fin q hq; exact ⟨h1.mono fun p hp => List.mem_append_right _ hp, h2.mono fun p hp => List.mem_append_right _ hp⟩
            · rw [List.mem_singleton.1 hq]
              exact ⟨by rw [← hdl]; exact hu.nm.mono fun p hp => List.mem_append_left _ hp, by rw [← hdl]; exact hu.kd.mono fun p hp => List.mem_append_left _ hp⟩
          exact Ex.next ⟨y.dn ++ [(zi, u.nv, u.kv)], rs1, v136.1, v136.2, u.E ++ y.NC⟩ ⟨by rw [← hy.all, hrs]; simp, hfin2, own_push18 (z := (zi, u.nv, u.kv)) hv136⟩ (by rw [hrs]; simp) (.cons rfl <| .cons rfl <| .cons rfl <| .cons rfl <| .cons rfl <| .cons (by rw [List.length_append]; rfl) <| .nil)
    · refine Rl.nilK <| ?_
      refine T.seq ?_
      refine T.condF ?_
      refine T.exit <| Ex.Kexit <| Ex.Lexit <| Ex.Bhit <| Ex.K <| ?_
      have hynil : y.rs = [] := by
        cases h : y.rs with
        | nil => rfl
        | cons z l => have := congrArg List.length hy.all; rw [h, List.length_append, List.length_cons, List.length_map] at this; omega
      have hyall := hy.all
      rw [hynil, List.append_nil] at hyall
      have hv1 : ones [y.v] = true := by simp [ones, hy.own.one]
      refine T.sr <| Rl.q Qt.ldA <| Rl.e0 (Ef.stN (hv := Vc.ofOnes hv1)) fun _ _ => Rl.nilK <| ?_
      refine T.ret <| Ex.retC (.inl rfl) rfl ?_ rfl
      exact fun w h => ⟨(y.dn, y.v, y.E, y.NC), ⟨hyall, hy.fin, hy.own⟩, rfl, h.re⟩
end SL
end Go.Proofs.YtlmiekcmjpnobaaGreatDoor
namespace Go.Proofs.YtlmiekcmjpnobaaGreatDoor
open Go
namespace SL
set_option maxRecDepth 20000

section
variable {P : Program} {n : Nat} {g : Gx} {Ro : Heap}
/-- A loop whose first rounds are walked one by one. -/
def LX (P : Program) (c : Code) (S : Act → World → Prop) (Q : Post) : Nat → Act → World → Prop
  | 0 => S
  | k + 1 => fun a w => c.wp P (Exit.then (LX P c S Q k) Q) a w
theorem T.loopX {α : Type} (mf : α → Env) (Hf : α → Heap) (φ : α → Prop) (μ : α → Nat) {c : Code} {m : Env} {H : Heap} {Q : Post} (k : Nat)
    (h : T P n g Ro c m H (Exit.then (LX P c (fun a w => ∃ y, φ y ∧ St n (mf y) a ∧ Hs g Ro w (Hf y)) Q k) Q))
    (round : ∀ x, φ x → T P n g Ro c (mf x) (Hf x) (L n g Ro mf Hf φ μ x Q)) : T P n g Ro (.loop c) m H Q := by
  intro a w hs hh b kk cs
  have key : ∀ k x a w, μ x = k → φ x → St n (mf x) a → Hs g Ro w (Hf x) →
      ∃ e a' w', Q e a' w' ∧ Arrives P (lone (b.at a (.code c :: .inLoop c :: kk)) cs w) b kk cs e a' w' := by
    intro k
    induction k using Nat.strongRecOn with
    | _ k ih =>
      intro x a w hk hx hs hh
      obtain ⟨e, a₁, w₁, hq, harr⟩ := round x hx a w hs hh b (.inLoop c :: kk) cs
      cases e with
      | normal =>
        obtain ⟨y, hy, hlt, hs', hh'⟩ := hq
        obtain ⟨e₂, a₂, w₂, hq₂, harr₂⟩ := ih (μ y) (hk ▸ hlt) y a₁ w₁ rfl hy hs' hh'
        exact ⟨e₂, a₂, w₂, hq₂, .of_steps (Steps.trans harr (.one step_inLoop)) harr₂⟩
      | exit id => exact ⟨_, a₁, w₁, hq, .pass (x := .inLoop c) rfl (fun _ _ => .inl (by simp)) harr⟩
      | goto l => exact ⟨_, a₁, w₁, hq, .pass (x := .inLoop c) rfl (fun _ _ => .inl (by simp)) harr⟩
      | ret => exact ⟨_, a₁, w₁, hq, .pass (x := .inLoop c) rfl (fun _ _ => .inl (by simp)) harr⟩
      | panic ch => exact ⟨_, a₁, w₁, hq, .pass (x := .inLoop c) rfl (fun _ _ => .inl (by simp)) harr⟩
      | outgrown => exact ⟨_, a₁, w₁, hq, .pass (x := .inLoop c) rfl (fun _ _ => .inl (by simp)) harr⟩
  have key2 : ∀ k a w, c.wp P (Exit.then (LX P c (fun a w => ∃ y, φ y ∧ St n (mf y) a ∧ Hs g Ro w (Hf y)) Q k) Q) a w →
      ∃ e a' w', Q e a' w' ∧ Arrives P (lone (b.at a (.code c :: .inLoop c :: kk)) cs w) b kk cs e a' w' := by
    intro k
    induction k with
    | zero =>
      intro a w h
      obtain ⟨e, a₁, w₁, hq, harr⟩ := h b (.inLoop c :: kk) cs
      cases e with
      | normal =>
        obtain ⟨y, hy, hs', hh'⟩ := hq
        obtain ⟨e₂, a₂, w₂, hq₂, harr₂⟩ := key _ y a₁ w₁ rfl hy hs' hh'
        exact ⟨e₂, a₂, w₂, hq₂, .of_steps (Steps.trans harr (.one step_inLoop)) harr₂⟩
      | exit id => exact ⟨_, a₁, w₁, hq, .pass (x := .inLoop c) rfl (fun _ _ => .inl (by simp)) harr⟩
      | goto l => exact ⟨_, a₁, w₁, hq, .pass (x := .inLoop c) rfl (fun _ _ => .inl (by simp)) harr⟩
      | ret => exact ⟨_, a₁, w₁, hq, .pass (x := .inLoop c) rfl (fun _ _ => .inl (by simp)) harr⟩
      | panic ch => exact ⟨_, a₁, w₁, hq, .pass (x := .inLoop c) rfl (fun _ _ => .inl (by simp)) harr⟩
      | outgrown => exact ⟨_, a₁, w₁, hq, .pass (x := .inLoop c) rfl (fun _ _ => .inl (by simp)) harr⟩
    | succ k ih =>
      intro a w h
      obtain ⟨e, a₁, w₁, hq, harr⟩ := h b (.inLoop c :: kk) cs
      cases e with
      | normal =>
        obtain ⟨e₂, a₂, w₂, hq₂, harr₂⟩ := ih a₁ w₁ hq
        exact ⟨e₂, a₂, w₂, hq₂, .of_steps (Steps.trans harr (.one step_inLoop)) harr₂⟩
      | exit id => exact ⟨_, a₁, w₁, hq, .pass (x := .inLoop c) rfl (fun _ _ => .inl (by simp)) harr⟩
      | goto l => exact ⟨_, a₁, w₁, hq, .pass (x := .inLoop c) rfl (fun _ _ => .inl (by simp)) harr⟩
      | ret => exact ⟨_, a₁, w₁, hq, .pass (x := .inLoop c) rfl (fun _ _ => .inl (by simp)) harr⟩
      | panic ch => exact ⟨_, a₁, w₁, hq, .pass (x := .inLoop c) rfl (fun _ _ => .inl (by simp)) harr⟩
      | outgrown => exact ⟨_, a₁, w₁, hq, .pass (x := .inLoop c) rfl (fun _ _ => .inl (by simp)) harr⟩
  obtain ⟨e, a', w', hq, harr⟩ := key2 k a w (h a w hs hh)
  exact ⟨e, a', w', hq, .of_steps (.one step_loop) harr⟩
variable {m : Env} {H : Heap} {Q : Post} {c : Code} {S : Act → World → Prop} {k id : Nat}
theorem Ex.LX (h : T P n g Ro c m H (Exit.then (SL.LX P c S Q k) Q)) : Ex n g Ro .normal m H (Exit.then (SL.LX P c S Q (k + 1)) Q) := fun a w hs hh => h a w hs hh
theorem Ex.LX0 {α : Type} {mj : α → Env} {Hj : α → Heap} {φ : α → Prop} {X : Heap} (y : α) (hy : φ y)
    (s : Sel m (mj y)) (p : Pk H (Hj y) X := by (repeat first | exact Pk.nil | apply Pk.cons | exact Rem.here | apply Rem.there)) : Ex n g Ro .normal m H (Exit.then (SL.LX P c (fun a w => ∃ y, φ y ∧ St n (mj y) a ∧ Hs g Ro w (Hj y)) Q 0) Q) := fun _ _ hs hh => ⟨y, hy, hs.sel s, hh.pick p⟩
theorem Ex.Xret (h : Ex n g Ro .ret m H Q) : Ex n g Ro .ret m H (Exit.then (SL.LX P c S Q k) Q) := h
theorem Ex.Xexit (h : Ex n g Ro (.exit id) m H Q) : Ex n g Ro (.exit id) m H (Exit.then (SL.LX P c S Q k) Q) := h
end
/-- How often each node is named. -/
def lkKid (isd : Nat → Bool) (i : Nat) (f : Nat → Nat) (k : Nat) : Nat → Nat := if isd k then upd (upd f k (f k + 1)) i ((upd f k (f k + 1)) i + 1) else upd f k (f k + 1)
def lkNode (isd : Nat → Bool) (kids : Nat → List Nat) (f : Nat → Nat) (i : Nat) : Nat → Nat := (kids i).foldl (lkKid isd i) (if isd i then upd f i (f i + 1) else f)
def lkAll (isd : Nat → Bool) (kids : Nat → List Nat) (n : Nat) : Nat → Nat := (List.range n).foldl (lkNode isd kids) fun _ => 0
abbrev kidL (plc : Nat → Nat) (t : TnV) : List Nat := (dlN plc t.1).map (·.2)
def isdT (ts : List TnV) (i : Nat) : Bool := match ts[i]? with | some t => t.1.1.x.mode &&& 61440 == 16384 | none => false
def kidT (plc : Nat → Nat) (ts : List TnV) (i : Nat) : List Nat := match ts[i]? with | some t => kidL plc t | none => []
theorem kdV_map (l : Dl) : kdV l = (l.map (·.2)).map (N .i64 ·) := by simp
set_option synthInstance.maxHeartbeats 400000
set_option synthInstance.maxSize 100000
set_option maxHeartbeats 8000000
variable {bt ct n : Nat} {ts : List TnV} {spt : List Value} {NC : Chunk} {plc : Nat → Nat}
abbrev TRow (ts : List TnV) (spt : List Value) : Obj := .cells ((ts.flatMap fun t => (niOf t.1 t.2.1 t.2.2).cells) ++ spt).toArray 59 (0, 0)
theorem find1_q {bN oN cN eN k : Nat} {RN : List Value} {frN : Nat × Nat} {nm : List UInt8} {t0 : TnV} (ht : ts[0]? = some t0) (hn : ts.length < 1000000) (hfin : TnFin NC plc t0) (hm : t0.1.1.x.mode < 65536) (hd : t0.1.1.x.mode &&& 61440 = 16384)
    (hl : (dlN plc t0.1).length < 1000000) (hh : hasN (dlN plc t0.1) nm = true) (hk : ((dlN plc t0.1)[posN (dlN plc t0.1) nm]?).map (·.2) = some k) (hR : nth RN (oN + 0) = some (SV nm)) :
    QSpec Tryz.prog 16 [.agg [Sl bt 0 ts.length ct].toArray, Sl bN oN 1 cN] [[(bt, TRow ts spt)], NC, [(bN, .cells RN.toArray eN frN)]] (.tuple #[N .i64 k, .bool true]) := by
  refine QSpec.of Tryz.func16 rfl Tryz.ntmps16 (by simp) fun w => ?_
  have hpos : 0 < ts.length := (List.getElem?_eq_some_iff.1 ht).1
  have hrow : seg ((ts.flatMap fun t => (niOf t.1 t.2.1 t.2.2).cells) ++ spt) (0 + 0 * 18) 18 = some (niOf t0.1 t0.2.1 t0.2.2).cells := by rw [Nat.zero_add]; exact seg_flat (g := fun t : TnV => (niOf t.1 t.2.1 t.2.2).cells) cells18 spt ht
  refine T.sr <| Rl.e Ef.bxA fun b2 hb2 => Rl.q (Qt.as (v := N .i64 0)) <| Rl.q (Qt.as (v := .bool false)) <| Rl.nilK <| ?_
  refine T.sr <| Rl.q (Qt.as (v := N .i64 0)) <| Rl.nilK <| ?_
  refine T.seq ?_
  refine T.sr <| Rl.q Qt.mv <| Rl.q Qt.len <| Rl.q (Qt.mv (v := N .i64 0)) <| Rl.nilK <| ?_
  refine T.block ?_
  refine T.rounds 1 ?_
  refine T.sr <| Rl.q (Qt.ltT (a := 0)) <| Rl.nilK <| ?_
  refine T.seq ?_
  refine T.condT ?_
  refine T.skip <| Ex.K <| ?_
  refine T.seq ?_
  refine T.block ?_
  refine T.sr <| Rl.q (Qt.ia1 (k := 1) (i := 0)) <| Rl.q (Qt.ld (hv := hR)) <| Rl.q Qt.as <| Rl.nilK <| ?_
  refine T.sr <| Rl.q Qt.fa0 <| Rl.q Qt.ld <| Rl.q Qt.mv <| Rl.q (Qt.ia (k := ts.length) (i := 0)) <| Rl.q (Qt.ldA (hv := hrow)) <| Rl.q Qt.mv <| Rl.e (Ef.qcall (S := kid_q (x := niOf t0.1 t0.2.1 t0.2.2) hfin.1 hfin.2 hl hh hk)) fun _ _ => ?_
  refine Rl.q Qt.mv <| Rl.q Qt.ex <| Rl.q Qt.ex <| Rl.q Qt.as <| Rl.q Qt.as <| Rl.nilK <| ?_
  refine T.seq ?_
  refine T.sr <| Rl.q Qt.fa0 <| Rl.q Qt.ld <| Rl.q Qt.mv <| Rl.q (Qt.ia (k := ts.length) (i := 0)) <| Rl.q (Qt.ldA (hv := hrow)) <| Rl.e (Ef.qcall (S := kind_q (x := niOf t0.1 t0.2.1 t0.2.2) hm)) fun _ _ => Rl.q (Qt.neF (b := 16384) (h := hd)) <| ?_
  refine Rl.q Qt.mv <| Rl.gt <| Rl.q Qt.mv <| Rl.gt <| Rl.q Qt.notT <| Rl.q Qt.pkF <| Rl.nilK <| ?_
  refine T.condF ?_
  refine T.skip <| Ex.K <| ?_
  refine T.region <| Rl.q Qt.mv <| Rl.q Qt.as <| Rl.nil <| Ex.Bnormal <| Ex.K <| ?_
  refine T.region <| Rl.q (Qt.add (a := 0) (b := 1)) <| Rl.q Qt.mv <| Rl.nil <| Ex.LR <| ?_
  refine T.sr <| Rl.q Qt.ltF <| Rl.nilK <| ?_
  refine T.seq ?_
  refine T.condF ?_
  refine T.exit <| Ex.Kexit <| Ex.Rexit <| Ex.Bhit <| Ex.K <| ?_
  refine T.sr <| Rl.q Qt.mv <| Rl.q Qt.as <| Rl.q (Qt.as (v := .bool true)) <| Rl.nilK <| ?_
  refine T.ret <| Ex.ret2 (.inl rfl) rfl rfl ?_ rfl
  exact fun w h => ⟨rfl, h.grown⟩

theorem upd_le {f : Nat → Nat} {k x c : Nat} (h : ∀ j, f j ≤ c) (hx : x ≤ c + 1) : ∀ j, upd f k x j ≤ c + 1 := fun j => by
  unfold upd; split
  · exact hx
  · have := h j; omega
theorem isdT_T {ts : List TnV} {i : Nat} {t : TnV} (h : ts[i]? = some t) (hm : t.1.1.x.mode &&& 61440 = 16384) : isdT ts i = true := by unfold isdT; rw [h]; simp [hm]
theorem isdT_F {ts : List TnV} {i : Nat} {t : TnV} (h : ts[i]? = some t) (hm : t.1.1.x.mode &&& 61440 ≠ 16384) : isdT ts i = false := by unfold isdT; rw [h]; simp [hm]
abbrev lkI (plc : Nat → Nat) (ts : List TnV) (i : Nat) : Nat → Nat := (List.range i).foldl (lkNode (isdT ts) (kidT plc ts)) fun _ => 0
theorem bnd_ex : ∃ b : Nat → Nat, b 0 = 0 ∧ (∀ i, b (i + 1) = b i + 3000000) ∧ ∀ i, i ≤ 1000000 → b i ≤ 3000000000000 := ⟨fun i => i * 3000000, rfl, fun i => Nat.succ_mul _ _, fun i h => Nat.mul_le_mul_right 3000000 h⟩
theorem lkI_succ {ts : List TnV} {i : Nat} {t : TnV} (h : ts[i]? = some t) : lkI plc ts (i + 1) = (kidL plc t).foldl (lkKid (isdT ts) i) (if isdT ts i = true then upd (lkI plc ts i) i (lkI plc ts i i + 1) else lkI plc ts i) := by
  have hk : kidT plc ts i = kidL plc t := by unfold kidT; rw [h]
  rw [← hk]
  show (List.range (i + 1)).foldl _ _ = _
  rw [List.range_succ, List.foldl_append]
  rfl
theorem links_s (hones : ∀ t ∈ ts, ones (niOf t.1 t.2.1 t.2.2).cells = true) (hn : ts.length < 1000000) (hpos : 0 < ts.length) (hfin : ∀ t ∈ ts, TnFin NC plc t ∧ t.1.1.x.mode < 65536 ∧ (dlN plc t.1).length < 1000000 ∧ ∀ k ∈ kidL plc t, k < ts.length) :
    Spec Tryz.prog 20 [.agg [Sl bt 0 ts.length ct].toArray] [[(bt, TRow ts spt)], NC] [] (fun _ : Nat => True) (fun b => Sl b 0 ts.length ts.length)
      (fun b => [[(b, .cells (nI ts.length (upd (lkI plc ts ts.length) 0 (lkI plc ts ts.length 0 + 1))).toArray 3 (0, 0))]]) := by
  refine Spec.of Tryz.func20 rfl Tryz.ntmps20 (by simp) fun w => ?_
  obtain ⟨bnd, bnd_0, bnd_succ, bnd_le⟩ := bnd_ex
  refine T.sr <| Rl.e Ef.bxA fun b1 hb1 => Rl.q (Qt.as (v := .slice none 0 0)) <| Rl.nilK <| ?_
  refine T.sr <| Rl.q Qt.fa0 <| Rl.q Qt.ld <| Rl.q Qt.len <| Rl.e Ef.mk fun b11 hb11 => Rl.q Qt.as <| Rl.nilK <| ?_
  refine T.seq ?_
  refine T.sr <| Rl.q Qt.fa0 <| Rl.q Qt.ld <| Rl.q Qt.len <| Rl.q (Qt.mv (v := N .i64 0)) <| Rl.nilK <| ?_
  refine T.block ?_
  rw [nI_rep]
  refine T.loop (α := Nat × (Nat → Nat)) (fun y => [(1, Pt b1), (3, Sl b11 0 ts.length ts.length), (13, Sl bt 0 ts.length ct), (14, N .i64 ts.length), (15, N .i64 y.1)]) (fun y => [[(b1, .cells [Sl bt 0 ts.length ct].toArray 28 (0, 0))], [(b11, .cells (nI ts.length y.2).toArray 3 (0, 0))]]) (fun y => y.1 ≤ ts.length ∧ y.2 = lkI plc ts y.1 ∧ ∀ j, y.2 j ≤ bnd y.1) (fun y => ts.length - y.1)
    (0, fun _ => 0) ⟨Nat.zero_le _, rfl, fun _ => Nat.zero_le _⟩ ?_ (fun y hy => ?_)
  · exact .cons rfl <| .cons rfl <| .cons rfl <| .cons rfl <| .cons rfl <| .nil
  obtain ⟨i, f⟩ := y
  obtain ⟨hi, hf, hfb⟩ := hy
  simp only at hi hf hfb ⊢
  refine T.sr <| Rl.ltS (fun h16 => ?_) (fun h16 => ?_)
  · refine Rl.nilK <| ?_
    refine T.seq ?_
    refine T.condT ?_
    refine T.skip <| Ex.K <| ?_
    refine T.seq ?_
    refine T.block ?_
    have hin : i < ts.length := h16
    obtain ⟨t, ht⟩ : ∃ t, ts[i]? = some t := ⟨_, List.getElem?_eq_getElem hin⟩
    have htm := List.mem_of_getElem? ht
    obtain ⟨htf, hm, htl, htk⟩ := hfin t htm
    have hrow : seg ((ts.flatMap fun t => (niOf t.1 t.2.1 t.2.2).cells) ++ spt) (0 + i * 18) 18 = some (niOf t.1 t.2.1 t.2.2).cells := by rw [Nat.zero_add]; exact seg_flat (g := fun t : TnV => (niOf t.1 t.2.1 t.2.2).cells) cells18 spt ht
    have hz1 : ones (niOf t.1 t.2.1 t.2.2).cells = true := hones t htm
    have hi3 : bnd i ≤ 3000000000000 := bnd_le _ (by omega)
    refine T.sr <| Rl.q Qt.mv <| Rl.q (Qt.ia (k := ts.length)) <| Rl.q (Qt.ldA (hv := hrow)) <| Rl.e Ef.alA fun b5 hb5 => Rl.q Qt.as <| Rl.e0 (Ef.stN (hv := Vc.ofOnes hz1)) fun _ _ => Rl.nilK <| ?_
    refine T.join (α := Nat → Nat) (fun g => [(1, Pt b1), (3, Sl b11 0 ts.length ts.length), (13, Sl bt 0 ts.length ct), (14, N .i64 ts.length), (15, N .i64 i), (4, N .i64 i), (5, Pt b5)]) (fun g => [[(b5, .cells (niOf t.1 t.2.1 t.2.2).cells.toArray 59 (0, 0))], [(b1, .cells [Sl bt 0 ts.length ct].toArray 28 (0, 0))], [(b11, .cells (nI ts.length g).toArray 3 (0, 0))]]) (fun g => g = (if isdT ts i = true then upd f i (f i + 1) else f) ∧ ∀ j, g j ≤ bnd i + 1) ?_ fun g hg => ?_
    · have hfi := hfb i
      have hfb1 : ∀ j, f j ≤ bnd i + 1 := fun j => Nat.le_succ_of_le (hfb j)
      refine T.sr <| Rl.q Qt.ldA <| Rl.e (Ef.qcall (S := kind_q (x := niOf t.1 t.2.1 t.2.2) hm)) fun _ _ => Rl.eqS (b := 16384) (fun h22 => ?_) (fun h22 => ?_)
      · refine Rl.nilK <| ?_
        refine T.condT ?_
        refine T.region <| Rl.q Qt.mv <| Rl.q Qt.mv <| Rl.q (Qt.ia1 (k := ts.length) (i := i)) <| Rl.q (Qt.ld (hv := nI_nth0 hin)) <| Rl.q (Qt.add (a := f i) (b := 1)) <| Rl.q (Qt.ia1 (k := ts.length) (i := i)) <| Rl.e0 (Ef.st (hc := nI_hc hin)) fun _ _ => ?_
        refine Rl.nil <| ?_
        rw [nI_put0 hin]
        exact Ex.join (upd f i (f i + 1)) ⟨by rw [if_pos (isdT_T ht h22)], upd_le hfb (by have := hfb i; omega)⟩ (.cons rfl <| .cons rfl <| .cons rfl <| .cons rfl <| .cons rfl <| .cons rfl <| .cons rfl <| .nil)
      · refine Rl.nilK <| ?_
        refine T.condF ?_
        refine T.skip <| ?_
        exact Ex.join f ⟨by rw [if_neg (by rw [isdT_F ht h22]; decide)], hfb1⟩ (.cons rfl <| .cons rfl <| .cons rfl <| .cons rfl <| .cons rfl <| .cons rfl <| .cons rfl <| .nil)
    · obtain ⟨hg, hgb⟩ := hg
      obtain ⟨pk, ck, hkf⟩ : ∃ p c, t.2.2 = .slice p (kidL plc t).length c := by obtain ⟨p, c, h⟩ := htf.2.form; exact ⟨p, c, by rw [h, List.length_map, List.length_map]⟩
      have hkl : (kidL plc t).length < 1000000 := by rw [List.length_map]; exact htl
      have hgb0 : ∀ j, g j ≤ bnd i + 1 + 2 * 0 := hgb
      refine T.sr <| Rl.q Qt.fa <| Rl.q (Qt.to (u := .slice pk (kidL plc t).length ck) Qt.ld (hkf)) <| Rl.q Qt.len <| Rl.q (Qt.mv (v := N .i64 0)) <| Rl.nilK <| ?_
      refine T.block ?_
      refine T.loop (α := Nat × (Nat → Nat)) (fun y => [(1, Pt b1), (3, Sl b11 0 ts.length ts.length), (13, Sl bt 0 ts.length ct), (14, N .i64 ts.length), (15, N .i64 i), (4, N .i64 i), (5, Pt b5), (30, .slice pk (kidL plc t).length ck), (31, N .i64 (kidL plc t).length), (32, N .i64 y.1)]) (fun y => [[(b1, .cells [Sl bt 0 ts.length ct].toArray 28 (0, 0))], [(b11, .cells (nI ts.length y.2).toArray 3 (0, 0))]]) (fun y => y.1 ≤ (kidL plc t).length ∧ y.2 = ((kidL plc t).take y.1).foldl (lkKid (isdT ts) i) g ∧ ∀ j, y.2 j ≤ bnd i + 1 + 2 * y.1) (fun y => (kidL plc t).length - y.1)
        (0, g) ⟨Nat.zero_le _, rfl, hgb0⟩ ?_ (fun y hy => ?_)
      · exact .cons rfl <| .cons rfl <| .cons rfl <| .cons rfl <| .cons rfl <| .cons rfl <| .cons rfl <| .cons rfl <| .cons rfl <| .cons rfl <| .nil
      obtain ⟨k, h⟩ := y
      obtain ⟨hk, hh, hhb⟩ := hy
      simp only at hk hh hhb ⊢
      refine T.sr <| Rl.ltS (fun h33 => ?_) (fun h33 => ?_)
      · refine Rl.nilK <| ?_
        refine T.seq ?_
        refine T.condT ?_
        refine T.skip <| Ex.K <| ?_
        refine T.seq ?_
        refine T.block ?_
        have hkk := h33
        obtain ⟨kk, hkd⟩ : ∃ q, (kidL plc t)[k]? = some q := ⟨_, List.getElem?_eq_getElem hkk⟩
        have hkn : kk < ts.length := htk kk (List.mem_of_getElem? hkd)
        obtain ⟨t2, ht2⟩ : ∃ t, ts[kk]? = some t := ⟨_, List.getElem?_eq_getElem hkn⟩
        have hm2 := (hfin t2 (List.mem_of_getElem? ht2)).2.1
        have hrow2 : seg ((ts.flatMap fun t => (niOf t.1 t.2.1 t.2.2).cells) ++ spt) (0 + kk * 18) 18 = some (niOf t2.1 t2.2.1 t2.2.2).cells := by rw [Nat.zero_add]; exact seg_flat (g := fun t : TnV => (niOf t.1 t.2.1 t.2.2).cells) cells18 spt ht2
        obtain ⟨bk, ck2, ek, Rk, frk, hkv, hkm, hks⟩ : ∃ (b c e : Nat) (R : List Value) (fr : Nat × Nat), t.2.2 = Sl b 0 (kidL plc t).length c ∧ (b, .cells R.toArray e fr) ∈ NC ∧ seg R 0 (kdV (dlN plc t.1)).length = some (kdV (dlN plc t.1)) := by
          rcases htf.2 with ⟨_, h⟩ | ⟨_, b, c, e, R, fr, h1, h2, h3, _⟩
          · have := congrArg List.length h; rw [List.length_map] at hkk this; rw [List.length_nil] at this; omega
          · exact ⟨b, c, e, R, fr, by rw [h1, List.length_map, List.length_map], h2, h3⟩
        have he3 := hkf.symm.trans hkv
        injection he3 with hp1 _ hp3
        subst hp1
        subst hp3
        have iB : ∀ H, InB H [[(bt, TRow ts spt)], NC] bk (.cells Rk.toArray ek frk) := fun H => ⟨.inr (by simp [hkm])⟩
        have hkr : nth Rk (0 + k) = some (N .i64 kk) := by
          rw [List.length_map] at hkk
          rw [(seg_nth hks).2 k (by rw [List.length_map]; exact hkk), kdV_map, List.getElem?_map, hkd]; rfl
        have hhk := hhb kk
        have hhi := hhb i
        have htk1 : (kidL plc t).take (k + 1) = (kidL plc t).take k ++ [kk] := by rw [List.take_add_one, hkd]; rfl
        have hub : ∀ j, upd h kk (h kk + 1) j ≤ bnd i + 1 + 2 * k + 1 := upd_le hhb (by omega)
        have hub1 : ∀ j, upd h kk (h kk + 1) j ≤ bnd i + 1 + 2 * (k + 1) := fun j => by have := hub j; omega
        have hub2 : ∀ j, upd (upd h kk (h kk + 1)) i ((upd h kk (h kk + 1)) i + 1) j ≤ bnd i + 1 + 2 * k + 1 + 1 := upd_le hub (by have := hub i; omega)
        have hub3 : ∀ j, upd (upd h kk (h kk + 1)) i ((upd h kk (h kk + 1)) i + 1) j ≤ bnd i + 1 + 2 * (k + 1) := fun j => by have := hub2 j; omega
        refine T.sr <| Rl.q (Qt.ia1 (k := (kidL plc t).length) (i := k)) <| Rl.q (Qt.ld (hv := hkr)) <| Rl.q Qt.as <| Rl.nilK <| ?_
        refine T.sr <| Rl.q Qt.mv <| Rl.q Qt.mv <| Rl.q (Qt.ia1 (k := ts.length) (i := kk)) <| Rl.q (Qt.ld (hv := nI_nth0 hkn)) <| Rl.q (Qt.add (a := h kk) (b := 1)) <| Rl.q (Qt.ia1 (k := ts.length) (i := kk)) <| Rl.e0 (Ef.st (hc := nI_hc hkn)) fun _ _ => ?_
        refine Rl.nilK <| ?_
        rw [nI_put0 hkn]
        have hui := hub i
        refine T.sr <| Rl.q Qt.fa0 <| Rl.q Qt.ld <| Rl.q Qt.mv <| Rl.q (Qt.ia (k := ts.length) (i := kk)) <| Rl.q (Qt.ldA (hv := hrow2)) <| Rl.e (Ef.qcall (S := kind_q (x := niOf t2.1 t2.2.1 t2.2.2) hm2)) fun _ _ => Rl.eqS (b := 16384) (fun h48 => ?_) (fun h48 => ?_)
        · refine Rl.nilK <| ?_
          refine T.condT ?_
          refine T.region <| Rl.q Qt.mv <| Rl.q Qt.mv <| Rl.q (Qt.ia1 (k := ts.length) (i := i)) <| Rl.q (Qt.ld (hv := nI_nth0 hin)) <| Rl.q (Qt.add (a := (upd h kk (h kk + 1)) i) (b := 1)) <| Rl.q (Qt.ia1 (k := ts.length) (i := i)) <| Rl.e0 (Ef.st (hc := nI_hc hin)) fun _ _ => ?_
          refine Rl.nil <| Ex.Bnormal <| Ex.K <| ?_
          refine T.region <| Rl.q (Qt.add (b := 1)) <| Rl.q Qt.mv <| Rl.nil <| ?_
          rw [nI_put0 hin]
          exact Ex.next (k + 1, upd (upd h kk (h kk + 1)) i ((upd h kk (h kk + 1)) i + 1)) ⟨by omega, by simp only; rw [htk1, List.foldl_append, ← hh]; show _ = lkKid _ _ _ _; unfold lkKid; rw [if_pos (isdT_T ht2 h48)], hub3⟩ (by simp only; omega) (.cons rfl <| .cons rfl <| .cons rfl <| .cons rfl <| .cons rfl <| .cons rfl <| .cons rfl <| .cons rfl <| .cons rfl <| .cons rfl <| .nil)
        · refine Rl.nilK <| ?_
          refine T.condF ?_
          refine T.skip <| Ex.Bnormal <| Ex.K <| ?_
          refine T.region <| Rl.q (Qt.add (b := 1)) <| Rl.q Qt.mv <| Rl.nil <| ?_
          exact Ex.next (k + 1, upd h kk (h kk + 1)) ⟨by omega, by simp only; rw [htk1, List.foldl_append, ← hh]; show _ = lkKid _ _ _ _; unfold lkKid; rw [if_neg (by rw [isdT_F ht2 h48]; decide)], hub1⟩ (by simp only; omega) (.cons rfl <| .cons rfl <| .cons rfl <| .cons rfl <| .cons rfl <| .cons rfl <| .cons rfl <| .cons rfl <| .cons rfl <| .cons rfl <| .nil)
      · refine Rl.nilK <| ?_
        refine T.seq ?_
        refine T.condF ?_
        refine T.exit <| Ex.Kexit <| Ex.Lexit <| Ex.Bhit <| Ex.Bnormal <| Ex.K <| ?_
        refine T.region <| Rl.q (Qt.add (b := 1)) <| Rl.q Qt.mv <| Rl.nil <| ?_
        have hhb3 : ∀ j, h j ≤ bnd (i + 1) := fun j => by have := hhb j; have := bnd_succ i; omega
        exact Ex.next (i + 1, h) ⟨hin, by simp only; rw [hh, List.take_of_length_le (by omega), hg, hf, ← lkI_succ ht], hhb3⟩ (by simp only; omega) (.cons rfl <| .cons rfl <| .cons rfl <| .cons rfl <| .cons rfl <| .nil)
  · refine Rl.nilK <| ?_
    refine T.seq ?_
    refine T.condF ?_
    refine T.exit <| Ex.Kexit <| Ex.Lexit <| Ex.Bhit <| Ex.K <| ?_
    refine T.seq ?_
    have hie : i = ts.length := by omega
    subst hie
    have hf0 := hfb 0
    have hbl := bnd_le _ (show ts.length ≤ 1000000 by omega)
    rw [hf] at hf0 ⊢
    refine T.sr <| Rl.q Qt.mv <| Rl.q Qt.len <| Rl.q (Qt.gtT (a := ts.length) (b := 0)) <| Rl.nilK <| ?_
    refine T.condT ?_
    refine T.region <| Rl.q Qt.mv <| Rl.q (Qt.ia1 (k := ts.length) (i := 0)) <| Rl.q (Qt.ld (hv := nI_nth0 hpos)) <| Rl.q (Qt.add (a := lkI plc ts ts.length 0) (b := 1)) <| Rl.q (Qt.ia1 (k := ts.length) (i := 0)) <| Rl.e0 (Ef.st (hc := nI_hc hpos)) fun _ _ => Rl.nil <| Ex.K <| ?_
    rw [nI_put0 hpos]
    refine T.sr <| Rl.q Qt.mv <| Rl.q Qt.as <| Rl.nilK <| ?_
    refine T.ret <| Ex.ret1 (.inl rfl) rfl ?_ rfl
    exact fun w h => ⟨b11, trivial, rfl, h.re⟩
end SL
end Go.Proofs.YtlmiekcmjpnobaaGreatDoor
namespace Go.Proofs.YtlmiekcmjpnobaaGreatDoor
open Go
namespace SL
set_option maxRecDepth 20000

def StrR (R : List Value) (o : Nat) (names : List (List UInt8)) : Prop := ∀ i nm, names[i]? = some nm → nth R (o + i) = some (SV nm)
theorem StrR.take {R : List Value} {o : Nat} {names : List (List UInt8)} (h : StrR R o names) (k : Nat) : StrR R o (names.take k) := fun i nm hi => by
  rw [List.getElem?_take] at hi
  split at hi
  · exact h i nm hi
  · exact nomatch hi
structure NmOk (nm : List UInt8) (bef : List (List UInt8)) : Prop where
  ne : nm ≠ []
  len : nm.length ≤ 255
  d1 : nm ≠ [46]
  d2 : nm ≠ [46, 46]
  lf : nm ≠ [108, 111, 115, 116, 43, 102, 111, 117, 110, 100]
  new : nm ∉ bef
  sl : (47 : UInt8) ∉ nm
  z : (0 : UInt8) ∉ nm
def CrowdP (names : List (List UInt8)) : Prop := names.length ≤ 180 ∧ ∀ i nm, names[i]? = some nm → NmOk nm (names.take i)
theorem nm7 (nm : List UInt8) (bef : List (List UInt8)) : nm = [] ∨ (nm ≠ [] ∧ 255 < nm.length) ∨ (nm ≠ [] ∧ nm.length ≤ 255 ∧ nm = [46]) ∨ (nm ≠ [] ∧ nm.length ≤ 255 ∧ nm ≠ [46] ∧ nm = [46, 46]) ∨ (nm ≠ [] ∧ nm.length ≤ 255 ∧ nm ≠ [46] ∧ nm ≠ [46, 46] ∧ nm = [108, 111, 115, 116, 43, 102, 111, 117, 110, 100]) ∨
    (nm ≠ [] ∧ nm.length ≤ 255 ∧ nm ≠ [46] ∧ nm ≠ [46, 46] ∧ nm ≠ [108, 111, 115, 116, 43, 102, 111, 117, 110, 100] ∧ nm ∈ bef) ∨ (nm ≠ [] ∧ nm.length ≤ 255 ∧ nm ≠ [46] ∧ nm ≠ [46, 46] ∧ nm ≠ [108, 111, 115, 116, 43, 102, 111, 117, 110, 100] ∧ nm ∉ bef) := by
  by_cases h1 : nm = []
  · exact .inl h1
  by_cases h2 : nm.length ≤ 255
  · by_cases h3 : nm = [46]
    · exact .inr (.inr (.inl ⟨h1, h2, h3⟩))
    by_cases h4 : nm = [46, 46]
    · exact .inr (.inr (.inr (.inl ⟨h1, h2, h3, h4⟩)))
    by_cases h5 : nm = [108, 111, 115, 116, 43, 102, 111, 117, 110, 100]
    · exact .inr (.inr (.inr (.inr (.inl ⟨h1, h2, h3, h4, h5⟩))))
    by_cases h6 : nm ∈ bef
    · exact .inr (.inr (.inr (.inr (.inr (.inl ⟨h1, h2, h3, h4, h5, h6⟩)))))
    · exact .inr (.inr (.inr (.inr (.inr (.inr ⟨h1, h2, h3, h4, h5, h6⟩)))))
  · exact .inr (.inl ⟨h1, by omega⟩)
set_option synthInstance.maxHeartbeats 400000
set_option maxHeartbeats 4000000
variable {b o c e : Nat} {R : List Value} {fr : Nat × Nat} {names : List (List UInt8)} {nm : List UInt8} {p : Option Addr}

theorem fitsNil_q : QSpec Tryz.prog 17 [.slice p 0 c] [] (.bool true) := by
  refine QSpec.of Tryz.func17 rfl Tryz.ntmps17 (by simp) fun w => ?_
  refine T.sr <| Rl.q (Qt.as (v := .bool false)) <| Rl.nilK <| ?_
  refine T.seq ?_
  refine T.sr <| Rl.q Qt.mv <| Rl.q Qt.len <| Rl.q (Qt.gtF (b := 2147483647) (a := 0)) <| Rl.nilK <| ?_
  refine T.condF ?_
  refine T.skip <| Ex.K <| ?_
  refine T.seq ?_
  refine T.sr <| Rl.q Qt.mv <| Rl.q Qt.len <| Rl.q (Qt.mv (v := N .i64 0)) <| Rl.nilK <| ?_
  refine T.block ?_
  refine T.rounds 0 ?_
  refine T.sr <| Rl.q (Qt.ltF (a := 0) (b := 0)) <| Rl.nilK <| ?_
  refine T.seq ?_
  refine T.condF ?_
  refine T.exit <| Ex.Kexit <| Ex.Rexit <| Ex.Bhit <| Ex.K <| ?_
  refine T.sr <| Rl.q (Qt.as (v := .bool true)) <| Rl.nilK <| ?_
  refine T.ret <| Ex.ret1 (.inl rfl) rfl ?_ rfl
  exact fun w h => ⟨rfl, h.grown⟩

theorem fits_q (hR : StrR R o names) (hn : names.length < 9223372036854775808) : ∃ q : Bool, QSpec Tryz.prog 17 [Sl b o names.length c] [[(b, .cells R.toArray e fr)]] (.bool q) := by
  by_cases hl : names.length ≤ 2147483647
  · by_cases hall : ∀ (i : Nat) (nm : List UInt8), names[i]? = some nm → nm.length ≤ 2147483647
    · refine ⟨true, ?_⟩
      refine QSpec.of Tryz.func17 rfl Tryz.ntmps17 (by simp) fun w => ?_
      refine T.sr <| Rl.q (Qt.as (v := .bool false)) <| Rl.nilK <| ?_
      refine T.seq ?_
      refine T.sr <| Rl.q Qt.mv <| Rl.q Qt.len <| Rl.q (Qt.gtF (a := names.length) (b := 2147483647)) <| Rl.nilK <| ?_
      refine T.condF ?_
      refine T.skip <| Ex.K <| ?_
      refine T.seq ?_
      refine T.sr <| Rl.q Qt.mv <| Rl.q Qt.len <| Rl.q (Qt.mv (v := N .i64 0)) <| Rl.nilK <| ?_
      refine T.block ?_
      refine T.loop (α := Nat) (fun i => [(8, Sl b o names.length c), (9, N .i64 names.length), (10, N .i64 i)]) (fun i => []) (fun i => i ≤ names.length) (fun i => names.length - i)
        0 (Nat.zero_le _) ?_ (fun i hi => ?_)
      · exact .cons rfl <| .cons rfl <| .cons rfl <| .nil
      refine T.sr <| Rl.ltS (fun h11 => ?_) (fun h11 => ?_)
      · refine Rl.nilK <| ?_
        refine T.seq ?_
        refine T.condT ?_
        refine T.skip <| Ex.K <| ?_
        refine T.seq ?_
        refine T.block ?_
        obtain ⟨nm, hz⟩ : ∃ z, names[i]? = some z := ⟨_, List.getElem?_eq_getElem h11⟩
        refine T.sr <| Rl.q (Qt.ia1 (k := names.length) (i := i)) <| Rl.q (Qt.ld (hv := hR _ _ hz)) <| Rl.q Qt.as <| Rl.nilK <| ?_
        refine T.sr <| Rl.q Qt.mv <| Rl.q Qt.lenS <| Rl.q (Qt.gtF (h := hall _ _ hz) (a := nm.length) (b := 2147483647)) <| Rl.nilK <| ?_
        refine T.condF ?_
        refine T.skip <| Ex.Bnormal <| Ex.K <| ?_
        refine T.region <| Rl.q (Qt.add (b := 1)) <| Rl.q Qt.mv <| Rl.nil <| ?_
        exact Ex.next (i + 1) (by omega) (by omega) (.cons rfl <| .cons rfl <| .cons rfl <| .nil)
      · refine Rl.nilK <| ?_
        refine T.seq ?_
        refine T.condF ?_
        refine T.exit <| Ex.Kexit <| Ex.Lexit <| Ex.Bhit <| Ex.K <| ?_
        refine T.sr <| Rl.q (Qt.as (v := .bool true)) <| Rl.nilK <| ?_
        refine T.ret <| Ex.ret1 (.inl rfl) rfl ?_ rfl
        exact fun w h => ⟨rfl, h.grown⟩
    · refine ⟨false, ?_⟩
      have hex : ∃ (i : Nat) (nm : List UInt8), names[i]? = some nm ∧ 2147483647 < nm.length := Classical.byContradiction fun h => hall fun i nm hi => Nat.le_of_not_lt fun hlt => h ⟨i, nm, hi, hlt⟩
      obtain ⟨i0, nm0, hi0, hl0⟩ := hex
      have hi1 := (List.getElem?_eq_some_iff.1 hi0).1
      refine QSpec.of Tryz.func17 rfl Tryz.ntmps17 (by simp) fun w => ?_
      refine T.sr <| Rl.q (Qt.as (v := .bool false)) <| Rl.nilK <| ?_
      refine T.seq ?_
      refine T.sr <| Rl.q Qt.mv <| Rl.q Qt.len <| Rl.q (Qt.gtF (a := names.length) (b := 2147483647)) <| Rl.nilK <| ?_
      refine T.condF ?_
      refine T.skip <| Ex.K <| ?_
      refine T.seq ?_
      refine T.sr <| Rl.q Qt.mv <| Rl.q Qt.len <| Rl.q (Qt.mv (v := N .i64 0)) <| Rl.nilK <| ?_
      refine T.block ?_
      refine T.loop (α := Nat) (fun i => [(8, Sl b o names.length c), (9, N .i64 names.length), (10, N .i64 i)]) (fun i => []) (fun i => i ≤ i0) (fun i => i0 - i)
        0 (Nat.zero_le _) ?_ (fun i hi => ?_)
      · exact .cons rfl <| .cons rfl <| .cons rfl <| .nil
      refine T.sr <| Rl.q (Qt.ltT (h := by omega)) <| Rl.nilK <| ?_
      refine T.seq ?_
      refine T.condT ?_
      refine T.skip <| Ex.K <| ?_
      refine T.seq ?_
      refine T.block ?_
      obtain ⟨nm, hz⟩ : ∃ z, names[i]? = some z := ⟨_, List.getElem?_eq_getElem (by omega)⟩
      refine T.sr <| Rl.q (Qt.ia1 (k := names.length) (i := i)) <| Rl.q (Qt.ld (hv := hR _ _ hz)) <| Rl.q Qt.as <| Rl.nilK <| ?_
      refine T.sr <| Rl.q Qt.mv <| Rl.q Qt.lenS <| Rl.gtS (fun h16 => ?_) (fun h16 => ?_)
      · refine Rl.nilK <| ?_
        refine T.condT ?_
        refine T.sr <| Rl.q (Qt.as (v := .bool false)) <| Rl.nilK <| ?_
        refine T.ret <| Ex.Bret <| Ex.Kret <| Ex.Lret <| Ex.Bret <| Ex.Kret <| Ex.ret1 (.inl rfl) rfl ?_ rfl
        exact fun w h => ⟨rfl, h.grown⟩
      · refine Rl.nilK <| ?_
        refine T.condF ?_
        refine T.skip <| Ex.Bnormal <| Ex.K <| ?_
        refine T.region <| Rl.q (Qt.add (b := 1)) <| Rl.q Qt.mv <| Rl.nil <| ?_
        have hlt : i < i0 := by
          rcases Nat.lt_or_ge i i0 with h | h
          · exact h
          · have hie : i = i0 := Nat.le_antisymm hi h
            rw [hie, hi0] at hz
            have hnn := Option.some.inj hz
            subst hnn
            exact absurd h16 (Nat.not_le_of_lt hl0)
        exact Ex.next (i + 1) hlt (by omega) (.cons rfl <| .cons rfl <| .cons rfl <| .nil)
  · refine ⟨false, ?_⟩
    refine QSpec.of Tryz.func17 rfl Tryz.ntmps17 (by simp) fun w => ?_
    refine T.sr <| Rl.q (Qt.as (v := .bool false)) <| Rl.nilK <| ?_
    refine T.seq ?_
    refine T.sr <| Rl.q Qt.mv <| Rl.q Qt.len <| Rl.q (Qt.gtT (h := by omega) (a := names.length) (b := 2147483647)) <| Rl.nilK <| ?_
    refine T.condT ?_
    refine T.sr <| Rl.q (Qt.as (v := .bool false)) <| Rl.nilK <| ?_
    refine T.ret <| Ex.Kret <| Ex.ret1 (.inl rfl) rfl ?_ rfl
    exact fun w h => ⟨rfl, h.grown⟩

theorem hasYes_q (hR : StrR R o names) (hn : names.length < 9223372036854775808) (h : nm ∈ names) : QSpec Tryz.prog 37 [Sl b o names.length c, SV nm] [[(b, .cells R.toArray e fr)]] (.bool true) := by
  refine QSpec.of Tryz.func37 rfl Tryz.ntmps37 (by simp) fun w => ?_
  obtain ⟨i0, hi0⟩ := List.mem_iff_getElem?.1 h
  have hi1 := (List.getElem?_eq_some_iff.1 hi0).1
  refine T.sr <| Rl.q (Qt.as (v := .bool false)) <| Rl.nilK <| ?_
  refine T.seq ?_
  refine T.sr <| Rl.q Qt.mv <| Rl.q Qt.len <| Rl.q (Qt.mv (v := N .i64 0)) <| Rl.nilK <| ?_
  refine T.block ?_
  refine T.loop (α := Nat) (fun i => [(1, SV nm), (7, Sl b o names.length c), (8, N .i64 names.length), (9, N .i64 i)]) (fun i => []) (fun i => i ≤ i0) (fun i => i0 - i)
    0 (Nat.zero_le _) ?_ (fun i hi => ?_)
  · exact .cons rfl <| .cons rfl <| .cons rfl <| .cons rfl <| .nil
  refine T.sr <| Rl.q (Qt.ltT (h := by omega) (a := i) (b := names.length)) <| Rl.nilK <| ?_
  refine T.seq ?_
  refine T.condT ?_
  refine T.skip <| Ex.K <| ?_
  refine T.seq ?_
  refine T.block ?_
  obtain ⟨z, hz⟩ : ∃ z, names[i]? = some z := ⟨_, List.getElem?_eq_getElem (by omega)⟩
  refine T.sr <| Rl.q (Qt.ia1 (k := names.length) (i := i)) <| Rl.q (Qt.ld (hv := hR _ _ hz)) <| Rl.q Qt.as <| Rl.nilK <| ?_
  by_cases hq : z = nm
  · refine T.sr <| Rl.q Qt.mv <| Rl.q Qt.mv <| Rl.q (Qt.seqT (h := hq)) <| Rl.nilK <| ?_
    refine T.condT ?_
    refine T.sr <| Rl.q (Qt.as (v := .bool true)) <| Rl.nilK <| ?_
    refine T.ret <| Ex.Bret <| Ex.Kret <| Ex.Lret <| Ex.Bret <| Ex.Kret <| Ex.ret1 (.inl rfl) rfl ?_ rfl
    exact fun w h => ⟨rfl, h.grown⟩
  · have hlt : i < i0 := by
      rcases Nat.lt_or_ge i i0 with h | h
      · exact h
      · have hie : i = i0 := Nat.le_antisymm hi h
        rw [hie, hi0] at hz
        exact absurd (Option.some.inj hz).symm hq
    refine T.sr <| Rl.q Qt.mv <| Rl.q Qt.mv <| Rl.q (Qt.seqF (h := hq)) <| Rl.nilK <| ?_
    refine T.condF ?_
    refine T.skip <| Ex.Bnormal <| Ex.K <| ?_
    refine T.region <| Rl.q (Qt.add (b := 1)) <| Rl.q Qt.mv <| Rl.nil <| ?_
    exact Ex.next (i + 1) (by omega) (by omega) (.cons rfl <| .cons rfl <| .cons rfl <| .cons rfl <| .nil)

theorem hasNo_q (hR : StrR R o names) (hn : names.length < 9223372036854775808) (h : nm ∉ names) : QSpec Tryz.prog 37 [Sl b o names.length c, SV nm] [[(b, .cells R.toArray e fr)]] (.bool false) := by
  refine QSpec.of Tryz.func37 rfl Tryz.ntmps37 (by simp) fun w => ?_
  refine T.sr <| Rl.q (Qt.as (v := .bool false)) <| Rl.nilK <| ?_
  refine T.seq ?_
  refine T.sr <| Rl.q Qt.mv <| Rl.q Qt.len <| Rl.q (Qt.mv (v := N .i64 0)) <| Rl.nilK <| ?_
  refine T.block ?_
  refine T.loop (α := Nat) (fun i => [(1, SV nm), (7, Sl b o names.length c), (8, N .i64 names.length), (9, N .i64 i)]) (fun i => []) (fun i => i ≤ names.length) (fun i => names.length - i)
    0 (Nat.zero_le _) ?_ (fun i hi => ?_)
  · exact .cons rfl <| .cons rfl <| .cons rfl <| .cons rfl <| .nil
  refine T.sr <| Rl.ltS (fun h10 => ?_) (fun h10 => ?_)
  · refine Rl.nilK <| ?_
    refine T.seq ?_
    refine T.condT ?_
    refine T.skip <| Ex.K <| ?_
    refine T.seq ?_
    refine T.block ?_
    obtain ⟨z, hz⟩ : ∃ z, names[i]? = some z := ⟨_, List.getElem?_eq_getElem (by omega)⟩
    have hq : z ≠ nm := fun hh => h (hh ▸ List.mem_of_getElem? hz)
    refine T.sr <| Rl.q (Qt.ia1 (k := names.length) (i := i)) <| Rl.q (Qt.ld (hv := hR _ _ hz)) <| Rl.q Qt.as <| Rl.nilK <| ?_
    refine T.sr <| Rl.q Qt.mv <| Rl.q Qt.mv <| Rl.q (Qt.seqF (h := hq)) <| Rl.nilK <| ?_
    refine T.condF ?_
    refine T.skip <| Ex.Bnormal <| Ex.K <| ?_
    refine T.region <| Rl.q (Qt.add (b := 1)) <| Rl.q Qt.mv <| Rl.nil <| ?_
    exact Ex.next (i + 1) (by omega) (by omega) (.cons rfl <| .cons rfl <| .cons rfl <| .cons rfl <| .nil)
  · refine Rl.nilK <| ?_
    refine T.seq ?_
    refine T.condF ?_
    refine T.exit <| Ex.Kexit <| Ex.Lexit <| Ex.Bhit <| Ex.K <| ?_
    refine T.sr <| Rl.q (Qt.as (v := .bool false)) <| Rl.nilK <| ?_
    refine T.ret <| Ex.ret1 (.inl rfl) rfl ?_ rfl
    exact fun w h => ⟨rfl, h.grown⟩

theorem crowdNil_q : QSpec Tryz.prog 18 [.slice p 0 c] [] (.bool true) := by
  refine QSpec.of Tryz.func18 rfl Tryz.ntmps18 (by simp) fun w => ?_
  refine T.sr <| Rl.q (Qt.as (v := .bool false)) <| Rl.nilK <| ?_
  refine T.seq ?_
  refine T.sr <| Rl.q Qt.mv <| Rl.q Qt.len <| Rl.q (Qt.gtF (b := 180) (a := 0)) <| Rl.nilK <| ?_
  refine T.condF ?_
  refine T.skip <| Ex.K <| ?_
  refine T.seq ?_
  refine T.sr <| Rl.q Qt.mv <| Rl.q Qt.len <| Rl.q (Qt.mv (v := N .i64 0)) <| Rl.nilK <| ?_
  refine T.block ?_
  refine T.rounds 0 ?_
  refine T.sr <| Rl.q (Qt.ltF (a := 0) (b := 0)) <| Rl.nilK <| ?_
  refine T.seq ?_
  refine T.condF ?_
  refine T.exit <| Ex.Kexit <| Ex.Rexit <| Ex.Bhit <| Ex.K <| ?_
  refine T.sr <| Rl.q (Qt.as (v := .bool true)) <| Rl.nilK <| ?_
  refine T.ret <| Ex.ret1 (.inl rfl) rfl ?_ rfl
  exact fun w h => ⟨rfl, h.grown⟩

theorem crowdYes_q (hR : StrR R o names) (hc : names.length ≤ c) (h : CrowdP names) : QSpec Tryz.prog 18 [Sl b o names.length c] [[(b, .cells R.toArray e fr)]] (.bool true) := by
  refine QSpec.of Tryz.func18 rfl Tryz.ntmps18 (by simp) fun w => ?_
  have h180 := h.1
  refine T.sr <| Rl.q (Qt.as (v := .bool false)) <| Rl.nilK <| ?_
  refine T.seq ?_
  refine T.sr <| Rl.q Qt.mv <| Rl.q Qt.len <| Rl.q (Qt.gtF (a := names.length) (b := 180)) <| Rl.nilK <| ?_
  refine T.condF ?_
  refine T.skip <| Ex.K <| ?_
  refine T.seq ?_
  refine T.sr <| Rl.q Qt.mv <| Rl.q Qt.len <| Rl.q (Qt.mv (v := N .i64 0)) <| Rl.nilK <| ?_
  refine T.block ?_
  refine T.loop (α := Nat) (fun i => [(0, Sl b o names.length c), (9, Sl b o names.length c), (10, N .i64 names.length), (11, N .i64 i)]) (fun i => []) (fun i => i ≤ names.length) (fun i => names.length - i)
    0 (Nat.zero_le _) ?_ (fun i hi => ?_)
  · exact .cons rfl <| .cons rfl <| .cons rfl <| .cons rfl <| .nil
  refine T.sr <| Rl.ltS (fun h12 => ?_) (fun h12 => ?_)
  · refine Rl.nilK <| ?_
    refine T.seq ?_
    refine T.condT ?_
    refine T.skip <| Ex.K <| ?_
    refine T.seq ?_
    refine T.block ?_
    obtain ⟨nm, hz⟩ : ∃ z, names[i]? = some z := ⟨_, List.getElem?_eq_getElem h12⟩
    have K := h.2 i nm hz
    have hti : (names.take i).length = i := by rw [List.length_take]; omega
    have hnl := K.len
    refine T.sr <| Rl.q Qt.mv <| Rl.q (Qt.ia1 (k := names.length) (i := i)) <| Rl.q (Qt.ld (hv := hR _ _ hz)) <| Rl.q Qt.as <| Rl.q Qt.as <| Rl.nilK <| ?_
    refine T.seq ?_
    refine T.sr <| Rl.q Qt.mv <| Rl.q (Qt.seqF (h := K.ne)) <| Rl.q Qt.mv <| Rl.gt <| Rl.q Qt.mv <| Rl.gt <| Rl.q Qt.lenS <| ?_
    refine Rl.gt <| Rl.q (Qt.gtF (h := K.len) (a := nm.length) (b := 255)) <| Rl.q Qt.pkF <| Rl.q Qt.mv <| Rl.gt <| Rl.q Qt.mv <| Rl.gt <| Rl.q (Qt.seqF (h := K.d1)) <| ?_
    refine Rl.q Qt.pkF <| Rl.q Qt.mv <| Rl.gt <| Rl.q Qt.mv <| Rl.gt <| Rl.q (Qt.seqF (h := K.d2)) <| Rl.q Qt.pkF <| Rl.q Qt.mv <| ?_
    refine Rl.gt <| Rl.q Qt.mv <| Rl.gt <| Rl.q (Qt.seqF (h := K.lf)) <| Rl.q Qt.pkF <| Rl.q Qt.mv <| Rl.gt <| Rl.q Qt.mv <| ?_
    refine Rl.gt <| Rl.q Qt.mv <| Rl.gt <| Rl.q (Qt.to (u := Sl b o (names.take i).length c) (Qt.sl (cl := 0) (ch := i)) (by rw [hti]; simp [cutAt])) <| Rl.gt <| Rl.q Qt.mv <| Rl.gt <| Rl.e (Ef.qcall (S := hasNo_q (hR.take i) (by omega) K.new)) fun _ _ => ?_
    refine Rl.q Qt.pkF <| Rl.nilK <| ?_
    refine T.condF ?_
    refine T.skip <| Ex.K <| ?_
    refine T.sr <| Rl.q (Qt.as (v := N .i64 0)) <| Rl.nilK <| ?_
    refine T.block ?_
    refine T.loop (α := Nat) (fun k => [(0, Sl b o names.length c), (9, Sl b o names.length c), (10, N .i64 names.length), (11, N .i64 i), (4, SV nm), (5, N .i64 k)]) (fun k => []) (fun k => k ≤ nm.length) (fun k => nm.length - k)
      0 (Nat.zero_le _) ?_ (fun k hk => ?_)
    · exact .cons rfl <| .cons rfl <| .cons rfl <| .cons rfl <| .cons rfl <| .cons rfl <| .nil
    refine T.seq ?_
    refine T.sr <| Rl.q Qt.mv <| Rl.q Qt.mv <| Rl.q Qt.lenS <| Rl.ltS (fun h45 => ?_) (fun h45 => ?_)
    · refine Rl.nilK <| ?_
      refine T.condT ?_
      refine T.skip <| Ex.K <| ?_
      refine T.seq ?_
      refine T.block ?_
      obtain ⟨ck, hck⟩ : ∃ q, nm[k]? = some q := ⟨_, List.getElem?_eq_getElem h45⟩
      have h47 : ck.toNat ≠ 47 := fun hh => K.sl (by have : ck = 47 := UInt8.toNat_inj.1 hh; rw [← this]; exact List.mem_of_getElem? hck)
      have h0 : ck.toNat ≠ 0 := fun hh => K.z (by have : ck = 0 := UInt8.toNat_inj.1 hh; rw [← this]; exact List.mem_of_getElem? hck)
      refine T.sr <| Rl.q Qt.mv <| Rl.q Qt.mv <| Rl.q (Qt.ixS (hc := hck)) <| Rl.q (Qt.eqF (h := h47) (a := ck.toNat) (b := 47)) <| Rl.q Qt.mv <| Rl.gt <| Rl.q Qt.mv <| ?_
      refine Rl.gt <| Rl.q Qt.mv <| Rl.gt <| Rl.q (Qt.ixS (hc := hck)) <| Rl.gt <| Rl.q (Qt.eqF (h := h0) (a := ck.toNat) (b := 0)) <| Rl.q Qt.pkF <| Rl.nilK <| ?_
      refine T.condF ?_
      refine T.skip <| Ex.Bnormal <| Ex.K <| ?_
      refine T.region <| Rl.q Qt.mv <| Rl.q (Qt.add (b := 1)) <| Rl.q Qt.as <| Rl.nil <| ?_
      exact Ex.next (k + 1) (by omega) (by omega) (.cons rfl <| .cons rfl <| .cons rfl <| .cons rfl <| .cons rfl <| .cons rfl <| .nil)
    · refine Rl.nilK <| ?_
      refine T.condF ?_
      refine T.exit <| Ex.Kexit <| Ex.Lexit <| Ex.Bhit <| Ex.Bnormal <| Ex.K <| ?_
      refine T.region <| Rl.q (Qt.add (b := 1)) <| Rl.q Qt.mv <| Rl.nil <| ?_
      exact Ex.next (i + 1) (by omega) (by omega) (.cons rfl <| .cons rfl <| .cons rfl <| .cons rfl <| .nil)
  · refine Rl.nilK <| ?_
    refine T.seq ?_
    refine T.condF ?_
    refine T.exit <| Ex.Kexit <| Ex.Lexit <| Ex.Bhit <| Ex.K <| ?_
    refine T.sr <| Rl.q (Qt.as (v := .bool true)) <| Rl.nilK <| ?_
    refine T.ret <| Ex.ret1 (.inl rfl) rfl ?_ rfl
    exact fun w h => ⟨rfl, h.grown⟩

theorem crowdNo_q (hR : StrR R o names) (hc : names.length ≤ c) (hn : names.length < 9223372036854775808) (h : ¬ CrowdP names) : QSpec Tryz.prog 18 [Sl b o names.length c] [[(b, .cells R.toArray e fr)]] (.bool false) := by
  by_cases h180 : 180 < names.length
  · refine QSpec.of Tryz.func18 rfl Tryz.ntmps18 (by simp) fun w => ?_
    refine T.sr <| Rl.q (Qt.as (v := .bool false)) <| Rl.nilK <| ?_
    refine T.seq ?_
    refine T.sr <| Rl.q Qt.mv <| Rl.q Qt.len <| Rl.q (Qt.gtT (a := names.length) (b := 180)) <| Rl.nilK <| ?_
    refine T.condT ?_
    refine T.sr <| Rl.q (Qt.as (v := .bool false)) <| Rl.nilK <| ?_
    refine T.ret <| Ex.Kret <| Ex.ret1 (.inl rfl) rfl ?_ rfl
    exact fun w h => ⟨rfl, h.grown⟩
  refine QSpec.of Tryz.func18 rfl Tryz.ntmps18 (by simp) fun w => ?_
  refine T.sr <| Rl.q (Qt.as (v := .bool false)) <| Rl.nilK <| ?_
  refine T.seq ?_
  refine T.sr <| Rl.q Qt.mv <| Rl.q Qt.len <| Rl.q (Qt.gtF (a := names.length) (b := 180)) <| Rl.nilK <| ?_
  refine T.condF ?_
  refine T.skip <| Ex.K <| ?_
  refine T.seq ?_
  refine T.sr <| Rl.q Qt.mv <| Rl.q Qt.len <| Rl.q (Qt.mv (v := N .i64 0)) <| Rl.nilK <| ?_
  refine T.block ?_
  refine T.loop (α := Nat) (fun i => [(0, Sl b o names.length c), (9, Sl b o names.length c), (10, N .i64 names.length), (11, N .i64 i)]) (fun i => []) (fun i => i ≤ names.length ∧ ∀ j, j < i → ∀ nm, names[j]? = some nm → NmOk nm (names.take j)) (fun i => names.length - i)
    0 ⟨Nat.zero_le _, fun _ h => absurd h (Nat.not_lt_zero _)⟩ ?_ (fun i hi => ?_)
  · exact .cons rfl <| .cons rfl <| .cons rfl <| .cons rfl <| .nil
  obtain ⟨hi, hik⟩ := hi
  refine T.sr <| Rl.ltS (fun h12 => ?_) (fun h12 => ?_)
  · refine Rl.nilK <| ?_
    refine T.seq ?_
    refine T.condT ?_
    refine T.skip <| Ex.K <| ?_
    refine T.seq ?_
    refine T.block ?_
    obtain ⟨nm, hz⟩ : ∃ z, names[i]? = some z := ⟨_, List.getElem?_eq_getElem h12⟩
    have hti : (names.take i).length = i := by rw [List.length_take]; omega
    refine T.sr <| Rl.q Qt.mv <| Rl.q (Qt.ia1 (k := names.length) (i := i)) <| Rl.q (Qt.ld (hv := hR _ _ hz)) <| Rl.q Qt.as <| Rl.q Qt.as <| Rl.nilK <| ?_
    refine T.seq ?_
    rcases nm7 nm (names.take i) with hq | ⟨hq1, hq2⟩ | ⟨hq1, hq2, hq3⟩ | ⟨hq1, hq2, hq3, hq4⟩ | ⟨hq1, hq2, hq3, hq4, hq5⟩ | ⟨hq1, hq2, hq3, hq4, hq5, hq6⟩ | ⟨hq1, hq2, hq3, hq4, hq5, hq6⟩
    · refine T.sr <| Rl.q Qt.mv <| Rl.q (Qt.seqT (h := hq)) <| Rl.q Qt.mv <| Rl.gf <| Rl.gf <| Rl.gf <| Rl.q (Qt.pkT (v := .bool true)) <| ?_
      refine Rl.q Qt.mv <| Rl.gf <| Rl.gf <| Rl.q (Qt.pkT (v := .bool true)) <| Rl.q Qt.mv <| Rl.gf <| Rl.gf <| Rl.q (Qt.pkT (v := .bool true)) <| ?_
      refine Rl.q Qt.mv <| Rl.gf <| Rl.gf <| Rl.q (Qt.pkT (v := .bool true)) <| Rl.q Qt.mv <| Rl.gf <| Rl.gf <| Rl.gf <| Rl.gf <| Rl.gf <| Rl.q (Qt.pkT (v := .bool true)) <| ?_
      refine Rl.nilK <| ?_
      refine T.condT ?_
      refine T.sr <| Rl.q (Qt.as (v := .bool false)) <| Rl.nilK <| ?_
      refine T.ret <| Ex.Kret <| Ex.Bret <| Ex.Kret <| Ex.Lret <| Ex.Bret <| Ex.Kret <| Ex.ret1 (.inl rfl) rfl ?_ rfl
      exact fun w h => ⟨rfl, h.grown⟩
    · refine T.sr <| Rl.q Qt.mv <| Rl.q (Qt.seqF (h := hq1)) <| Rl.q Qt.mv <| Rl.gt <| Rl.q Qt.mv <| Rl.gt <| Rl.q Qt.lenS <| ?_
      refine Rl.gt <| Rl.q (Qt.gtT (h := hq2) (a := nm.length) (b := 255)) <| Rl.q Qt.pkF <| Rl.q Qt.mv <| Rl.gf <| Rl.gf <| Rl.q (Qt.pkT (v := .bool true)) <| Rl.q Qt.mv <| ?_
      refine Rl.gf <| Rl.gf <| Rl.q (Qt.pkT (v := .bool true)) <| Rl.q Qt.mv <| Rl.gf <| Rl.gf <| Rl.q (Qt.pkT (v := .bool true)) <| Rl.q Qt.mv <| ?_
      refine Rl.gf <| Rl.gf <| Rl.gf <| Rl.gf <| Rl.gf <| Rl.q (Qt.pkT (v := .bool true)) <| Rl.nilK <| ?_
      refine T.condT ?_
      refine T.sr <| Rl.q (Qt.as (v := .bool false)) <| Rl.nilK <| ?_
      refine T.ret <| Ex.Kret <| Ex.Bret <| Ex.Kret <| Ex.Lret <| Ex.Bret <| Ex.Kret <| Ex.ret1 (.inl rfl) rfl ?_ rfl
      exact fun w h => ⟨rfl, h.grown⟩
    · refine T.sr <| Rl.q Qt.mv <| Rl.q (Qt.seqF (h := hq1)) <| Rl.q Qt.mv <| Rl.gt <| Rl.q Qt.mv <| Rl.gt <| Rl.q Qt.lenS <| ?_
      refine Rl.gt <| Rl.q (Qt.gtF (h := hq2) (a := nm.length) (b := 255)) <| Rl.q Qt.pkF <| Rl.q Qt.mv <| Rl.gt <| Rl.q Qt.mv <| Rl.gt <| Rl.q (Qt.seqT (h := hq3)) <| ?_
      refine Rl.q Qt.pkF <| Rl.q Qt.mv <| Rl.gf <| Rl.gf <| Rl.q (Qt.pkT (v := .bool true)) <| Rl.q Qt.mv <| Rl.gf <| Rl.gf <| Rl.q (Qt.pkT (v := .bool true)) <| ?_
      refine Rl.q Qt.mv <| Rl.gf <| Rl.gf <| Rl.gf <| Rl.gf <| Rl.gf <| Rl.q (Qt.pkT (v := .bool true)) <| Rl.nilK <| ?_
      refine T.condT ?_
      refine T.sr <| Rl.q (Qt.as (v := .bool false)) <| Rl.nilK <| ?_
      refine T.ret <| Ex.Kret <| Ex.Bret <| Ex.Kret <| Ex.Lret <| Ex.Bret <| Ex.Kret <| Ex.ret1 (.inl rfl) rfl ?_ rfl
      exact fun w h => ⟨rfl, h.grown⟩
    · refine T.sr <| Rl.q Qt.mv <| Rl.q (Qt.seqF (h := hq1)) <| Rl.q Qt.mv <| Rl.gt <| Rl.q Qt.mv <| Rl.gt <| Rl.q Qt.lenS <| ?_
      refine Rl.gt <| Rl.q (Qt.gtF (h := hq2) (a := nm.length) (b := 255)) <| Rl.q Qt.pkF <| Rl.q Qt.mv <| Rl.gt <| Rl.q Qt.mv <| Rl.gt <| Rl.q (Qt.seqF (h := hq3)) <| ?_
      refine Rl.q Qt.pkF <| Rl.q Qt.mv <| Rl.gt <| Rl.q Qt.mv <| Rl.gt <| Rl.q (Qt.seqT (h := hq4)) <| Rl.q Qt.pkF <| Rl.q Qt.mv <| ?_
      refine Rl.gf <| Rl.gf <| Rl.q (Qt.pkT (v := .bool true)) <| Rl.q Qt.mv <| Rl.gf <| Rl.gf <| Rl.gf <| Rl.gf <| Rl.gf <| Rl.q (Qt.pkT (v := .bool true)) <| ?_
      refine Rl.nilK <| ?_
      refine T.condT ?_
      refine T.sr <| Rl.q (Qt.as (v := .bool false)) <| Rl.nilK <| ?_
      refine T.ret <| Ex.Kret <| Ex.Bret <| Ex.Kret <| Ex.Lret <| Ex.Bret <| Ex.Kret <| Ex.ret1 (.inl rfl) rfl ?_ rfl
      exact fun w h => ⟨rfl, h.grown⟩
    · refine T.sr <| Rl.q Qt.mv <| Rl.q (Qt.seqF (h := hq1)) <| Rl.q Qt.mv <| Rl.gt <| Rl.q Qt.mv <| Rl.gt <| Rl.q Qt.lenS <| ?_
      refine Rl.gt <| Rl.q (Qt.gtF (h := hq2) (a := nm.length) (b := 255)) <| Rl.q Qt.pkF <| Rl.q Qt.mv <| Rl.gt <| Rl.q Qt.mv <| Rl.gt <| Rl.q (Qt.seqF (h := hq3)) <| ?_
      refine Rl.q Qt.pkF <| Rl.q Qt.mv <| Rl.gt <| Rl.q Qt.mv <| Rl.gt <| Rl.q (Qt.seqF (h := hq4)) <| Rl.q Qt.pkF <| Rl.q Qt.mv <| ?_
      refine Rl.gt <| Rl.q Qt.mv <| Rl.gt <| Rl.q (Qt.seqT (h := hq5)) <| Rl.q Qt.pkF <| Rl.q Qt.mv <| Rl.gf <| Rl.gf <| Rl.gf <| Rl.gf <| Rl.gf <| Rl.q (Qt.pkT (v := .bool true)) <| ?_
      refine Rl.nilK <| ?_
      refine T.condT ?_
      refine T.sr <| Rl.q (Qt.as (v := .bool false)) <| Rl.nilK <| ?_
      refine T.ret <| Ex.Kret <| Ex.Bret <| Ex.Kret <| Ex.Lret <| Ex.Bret <| Ex.Kret <| Ex.ret1 (.inl rfl) rfl ?_ rfl
      exact fun w h => ⟨rfl, h.grown⟩
    · refine T.sr <| Rl.q Qt.mv <| Rl.q (Qt.seqF (h := hq1)) <| Rl.q Qt.mv <| Rl.gt <| Rl.q Qt.mv <| Rl.gt <| Rl.q Qt.lenS <| ?_
      refine Rl.gt <| Rl.q (Qt.gtF (h := hq2) (a := nm.length) (b := 255)) <| Rl.q Qt.pkF <| Rl.q Qt.mv <| Rl.gt <| Rl.q Qt.mv <| Rl.gt <| Rl.q (Qt.seqF (h := hq3)) <| ?_
      refine Rl.q Qt.pkF <| Rl.q Qt.mv <| Rl.gt <| Rl.q Qt.mv <| Rl.gt <| Rl.q (Qt.seqF (h := hq4)) <| Rl.q Qt.pkF <| Rl.q Qt.mv <| ?_
      refine Rl.gt <| Rl.q Qt.mv <| Rl.gt <| Rl.q (Qt.seqF (h := hq5)) <| Rl.q Qt.pkF <| Rl.q Qt.mv <| Rl.gt <| Rl.q Qt.mv <| ?_
      refine Rl.gt <| Rl.q Qt.mv <| Rl.gt <| Rl.q (Qt.to (u := Sl b o (names.take i).length c) (Qt.sl (cl := 0) (ch := i)) (by rw [hti]; simp [cutAt])) <| Rl.gt <| Rl.q Qt.mv <| Rl.gt <| Rl.e (Ef.qcall (S := hasYes_q (hR.take i) (by omega) hq6)) fun _ _ => ?_
      refine Rl.q Qt.pkF <| Rl.nilK <| ?_
      refine T.condT ?_
      refine T.sr <| Rl.q (Qt.as (v := .bool false)) <| Rl.nilK <| ?_
      refine T.ret <| Ex.Kret <| Ex.Bret <| Ex.Kret <| Ex.Lret <| Ex.Bret <| Ex.Kret <| Ex.ret1 (.inl rfl) rfl ?_ rfl
      exact fun w h => ⟨rfl, h.grown⟩
    · refine T.sr <| Rl.q Qt.mv <| Rl.q (Qt.seqF (h := hq1)) <| Rl.q Qt.mv <| Rl.gt <| Rl.q Qt.mv <| Rl.gt <| Rl.q Qt.lenS <| ?_
      refine Rl.gt <| Rl.q (Qt.gtF (h := hq2) (a := nm.length) (b := 255)) <| Rl.q Qt.pkF <| Rl.q Qt.mv <| Rl.gt <| Rl.q Qt.mv <| Rl.gt <| Rl.q (Qt.seqF (h := hq3)) <| ?_
      refine Rl.q Qt.pkF <| Rl.q Qt.mv <| Rl.gt <| Rl.q Qt.mv <| Rl.gt <| Rl.q (Qt.seqF (h := hq4)) <| Rl.q Qt.pkF <| Rl.q Qt.mv <| ?_
      refine Rl.gt <| Rl.q Qt.mv <| Rl.gt <| Rl.q (Qt.seqF (h := hq5)) <| Rl.q Qt.pkF <| Rl.q Qt.mv <| Rl.gt <| Rl.q Qt.mv <| ?_
      refine Rl.gt <| Rl.q Qt.mv <| Rl.gt <| Rl.q (Qt.to (u := Sl b o (names.take i).length c) (Qt.sl (cl := 0) (ch := i)) (by rw [hti]; simp [cutAt])) <| Rl.gt <| Rl.q Qt.mv <| Rl.gt <| Rl.e (Ef.qcall (S := hasNo_q (hR.take i) (by omega) hq6)) fun _ _ => ?_
      refine Rl.q Qt.pkF <| Rl.nilK <| ?_
      refine T.condF ?_
      refine T.skip <| Ex.K <| ?_
      refine T.sr <| Rl.q (Qt.as (v := N .i64 0)) <| Rl.nilK <| ?_
      refine T.block ?_
      refine T.loop (α := Nat) (fun k => [(0, Sl b o names.length c), (9, Sl b o names.length c), (10, N .i64 names.length), (11, N .i64 i), (4, SV nm), (5, N .i64 k)]) (fun k => []) (fun k => k ≤ nm.length ∧ ∀ j, j < k → ∀ q, nm[j]? = some q → q.toNat ≠ 47 ∧ q.toNat ≠ 0) (fun k => nm.length - k)
        0 ⟨Nat.zero_le _, fun _ h => absurd h (Nat.not_lt_zero _)⟩ ?_ (fun k hk => ?_)
      · exact .cons rfl <| .cons rfl <| .cons rfl <| .cons rfl <| .cons rfl <| .cons rfl <| .nil
      obtain ⟨hk, hkk⟩ := hk
      refine T.seq ?_
      refine T.sr <| Rl.q Qt.mv <| Rl.q Qt.mv <| Rl.q Qt.lenS <| Rl.ltS (fun h45 => ?_) (fun h45 => ?_)
      · refine Rl.nilK <| ?_
        refine T.condT ?_
        refine T.skip <| Ex.K <| ?_
        refine T.seq ?_
        refine T.block ?_
        obtain ⟨ck, hck⟩ : ∃ q, nm[k]? = some q := ⟨_, List.getElem?_eq_getElem h45⟩
        rcases (show ck.toNat = 47 ∨ (ck.toNat ≠ 47 ∧ ck.toNat = 0) ∨ (ck.toNat ≠ 47 ∧ ck.toNat ≠ 0) by omega) with hq7 | ⟨hq7, hq8⟩ | ⟨hq7, hq8⟩
        · refine T.sr <| Rl.q Qt.mv <| Rl.q Qt.mv <| Rl.q (Qt.ixS (hc := hck)) <| Rl.q (Qt.eqT (h := hq7) (a := ck.toNat) (b := 47)) <| Rl.q Qt.mv <| Rl.gf <| Rl.gf <| Rl.gf <| Rl.gf <| Rl.q (Qt.pkT (v := .bool true)) <| ?_
          refine Rl.nilK <| ?_
          refine T.condT ?_
          refine T.sr <| Rl.q (Qt.as (v := .bool false)) <| Rl.nilK <| ?_
          refine T.ret <| Ex.Bret <| Ex.Kret <| Ex.Lret <| Ex.Bret <| Ex.Bret <| Ex.Kret <| Ex.Lret <| Ex.Bret <| Ex.Kret <| Ex.ret1 (.inl rfl) rfl ?_ rfl
          exact fun w h => ⟨rfl, h.grown⟩
        · refine T.sr <| Rl.q Qt.mv <| Rl.q Qt.mv <| Rl.q (Qt.ixS (hc := hck)) <| Rl.q (Qt.eqF (h := hq7) (a := ck.toNat) (b := 47)) <| Rl.q Qt.mv <| Rl.gt <| Rl.q Qt.mv <| ?_
          refine Rl.gt <| Rl.q Qt.mv <| Rl.gt <| Rl.q (Qt.ixS (hc := hck)) <| Rl.gt <| Rl.q (Qt.eqT (h := hq8) (a := ck.toNat) (b := 0)) <| Rl.q Qt.pkF <| Rl.nilK <| ?_
          refine T.condT ?_
          refine T.sr <| Rl.q (Qt.as (v := .bool false)) <| Rl.nilK <| ?_
          refine T.ret <| Ex.Bret <| Ex.Kret <| Ex.Lret <| Ex.Bret <| Ex.Bret <| Ex.Kret <| Ex.Lret <| Ex.Bret <| Ex.Kret <| Ex.ret1 (.inl rfl) rfl ?_ rfl
          exact fun w h => ⟨rfl, h.grown⟩
        · refine T.sr <| Rl.q Qt.mv <| Rl.q Qt.mv <| Rl.q (Qt.ixS (hc := hck)) <| Rl.q (Qt.eqF (h := hq7) (a := ck.toNat) (b := 47)) <| Rl.q Qt.mv <| Rl.gt <| Rl.q Qt.mv <| ?_
          refine Rl.gt <| Rl.q Qt.mv <| Rl.gt <| Rl.q (Qt.ixS (hc := hck)) <| Rl.gt <| Rl.q (Qt.eqF (h := hq8) (a := ck.toNat) (b := 0)) <| Rl.q Qt.pkF <| Rl.nilK <| ?_
          refine T.condF ?_
          refine T.skip <| Ex.Bnormal <| Ex.K <| ?_
          refine T.region <| Rl.q Qt.mv <| Rl.q (Qt.add (b := 1)) <| Rl.q Qt.as <| Rl.nil <| ?_
          have hkk2 : ∀ j, j < k + 1 → ∀ q, nm[j]? = some q → q.toNat ≠ 47 ∧ q.toNat ≠ 0 := fun j hj q hq => by
            rcases Nat.lt_or_ge j k with hlt | hge
            · exact hkk j hlt q hq
            · have hje : j = k := by omega
              rw [hje, hck] at hq
              rw [← Option.some.inj hq]; exact ⟨hq7, hq8⟩
          exact Ex.next (k + 1) ⟨by omega, hkk2⟩ (by omega) (.cons rfl <| .cons rfl <| .cons rfl <| .cons rfl <| .cons rfl <| .cons rfl <| .nil)
      · refine Rl.nilK <| ?_
        refine T.condF ?_
        refine T.exit <| Ex.Kexit <| Ex.Lexit <| Ex.Bhit <| Ex.Bnormal <| Ex.K <| ?_
        refine T.region <| Rl.q (Qt.add (b := 1)) <| Rl.q Qt.mv <| Rl.nil <| ?_
        have hik2 : ∀ j, j < i + 1 → ∀ nm, names[j]? = some nm → NmOk nm (names.take j) := fun j hj nm2 hn2 => by
          rcases Nat.lt_or_ge j i with hlt | hge
          · exact hik j hlt nm2 hn2
          · have hje : j = i := by omega
            rw [hje, hz] at hn2
            rw [hje, ← Option.some.inj hn2]
            have hall : ∀ q ∈ nm, q.toNat ≠ 47 ∧ q.toNat ≠ 0 := fun q hq => by
              obtain ⟨j2, hj2⟩ := List.mem_iff_getElem?.1 hq
              exact hkk j2 (by have := (List.getElem?_eq_some_iff.1 hj2).1; omega) q hj2
            exact ⟨hq1, hq2, hq3, hq4, hq5, hq6, fun hm => (hall _ hm).1 rfl, fun hm => (hall _ hm).2 rfl⟩
        exact Ex.next (i + 1) ⟨by omega, hik2⟩ (by omega) (.cons rfl <| .cons rfl <| .cons rfl <| .cons rfl <| .nil)
  · exact absurd ⟨by omega, fun j nm hj => hik j (by have := (List.getElem?_eq_some_iff.1 hj).1; omega) nm hj⟩ h
end SL
end Go.Proofs.YtlmiekcmjpnobaaGreatDoor
namespace Go.Proofs.YtlmiekcmjpnobaaGreatDoor
open Go
namespace SL
set_option maxRecDepth 20000

abbrev fileC (size : Nat) : List Value := [SV [], N .i64 size, N .u16 0, N .u32 0, N .u32 0, .bool false, N .i64 0, N .i64 0, .bool false, N .i64 0, N .i64 0, .bool false, N .i64 0, N .i64 0, .bool false, N .i64 0, N .i64 0, N .u32 0, N .u32 0, .slice none 0 0]
structure OpR where
  op : Nat
  nm : List UInt8
  old : List UInt8
  size : Nat
  dat : List UInt8
abbrev opC (o : OpR) (d : Value) : List Value := [N .i64 o.op, SV o.nm, SV o.old, SV [], N .i64 o.size, N .u16 0, N .u32 0, N .u32 0, .bool false, N .i64 0, N .i64 0, .bool false, N .i64 0, N .i64 0, .bool false, N .i64 0, N .i64 0, .bool false, N .i64 0, N .i64 0, N .u32 0, N .u32 0, .slice none 0 0, d]
/-- A slice that reads as these bytes, its row lying in a chunk. -/
def RdB (C : Chunk) (v : Value) (l : List UInt8) : Prop := (l = [] ∧ ∃ p c, v = .slice p 0 c) ∨ (0 < l.length ∧ ∃ (b o c e : Nat) (R : List Value) (fr : Nat × Nat), v = Sl b o l.length c ∧ (b, .cells R.toArray e fr) ∈ C ∧ RowB R o l)
theorem RdB.form {C : Chunk} {v : Value} {l : List UInt8} (h : RdB C v l) : ∃ p c, v = .slice p l.length c := by
  rcases h with ⟨h, p, c, hv⟩ | ⟨_, b, o, c, _, _, _, hv, _⟩
  · exact ⟨p, c, by rw [hv, h]; rfl⟩
  · exact ⟨_, _, hv⟩
theorem RdB.one {C : Chunk} {v : Value} {l : List UInt8} (h : RdB C v l) : SL.one v = true := by obtain ⟨p, c, h⟩ := h.form; rw [h]; rfl
theorem RdB.mono {C C' : Chunk} {v : Value} {l : List UInt8} (h : RdB C v l) (hs : ∀ p ∈ C, p ∈ C') : RdB C' v l := by
  rcases h with h | ⟨h0, b, o, c, e, R, fr, h1, h2, h3⟩
  · exact .inl h
  · exact .inr ⟨h0, b, o, c, e, R, fr, h1, hs _ h2, h3⟩
theorem Own.rdB {v : Value} {l : List UInt8} {E C : Chunk} (h : Own 5 1 v l.length (bc l) E) (hs : ∀ p ∈ E, p ∈ C) : RdB C v l := by
  by_cases h0 : l = []
  · obtain ⟨p, c, hv⟩ := h.form2
    exact .inl ⟨h0, p, c, by rw [hv, h0]; rfl⟩
  · have hp : 0 < l.length := List.length_pos_iff.2 h0
    obtain ⟨b, cap, sp, hv, h1, h2, hE, h3⟩ := h.some hp
    refine .inr ⟨hp, b, 0, cap, 5, bc l ++ sp, (0, 0), hv, hs _ (by rw [hE]; exact List.mem_singleton.2 rfl), ?_⟩
    unfold RowB; rw [← bc_length]; exact seg_app _ _
section
variable {P : Program} {n : Nat} {g : Gx} {Ro : Heap} {m : Env} {H H1 : Heap} {E : Chunk} {ty t e sz bs k c : Nat} {x y : Operand} {v z : Value} {xs : List Value} {p : Option Addr}
theorem Src.empty (w : World) (sz : Nat) : Src P w sz (.slice p 0 c) 0 [] := ⟨fun _ => rfl, fun w' _ => by
  cases p with
  | none => rfl
  | some a => rw [fcS, Nat.zero_mul]; rfl, by simp, rfl⟩
/-- 'append(x, y...)', y being empty. -/
theorem Ef.apE (own : Own e sz v k xs E) (hx : ev m x = some v := by rfl) (hy : ev m y = some (.slice p 0 c) := by rfl)
    (ht : SlT P t e sz := by infer_instance) (hz : Zero P e z := by infer_instance) (hb : Byt P e bs := by infer_instance)
    (hr : Rem H E H1 := by (repeat first | exact Rem.here | apply Rem.there)) (hl : (vcells z).length = sz ∧ k ≤ maxLen ∧ k * bs ≤ 140737488355328 := by exact ⟨rfl, by simp only [maxLen]; omega, by omega⟩) :
    Ef P g Ro (.call ⟨.builtin .append, #[x, y], #[t, t]⟩) ty m H (fun r : Value × Chunk => Own e sz r.1 k xs r.2) (fun r => r.1) (fun r => r.2 :: H1) := by
  intro a w dst ps af gd K ha hh hk
  obtain ⟨v', E', w', h1, h2, h3⟩ := run_app (ty := ty) ht hz hl.1 hb own (Src.empty (P := P) (p := p) (c := c) w sz) (hh.rem hr) hl.2
  rw [List.append_nil] at h2
  simp only [sw, execOp, resolve, Sem.run_bind, Sem.run_pure, Result.andThen_ok, invoke, builtin, List.map_toArray, List.map_cons, List.map_nil, ev_sound ha hx, ev_sound ha hy, h1]
  exact hk (v', E') w' h2 h3
end
set_option synthInstance.maxHeartbeats 400000
set_option synthInstance.maxSize 100000
set_option maxHeartbeats 8000000
theorem dup_s {C : Chunk} {v : Value} {l : List UInt8} (h : RdB C v l) (hl : l.length < 1000000) : Spec Tryz.prog 59 [v] [C] [] (fun r : Value × Chunk => Own 5 1 r.1 l.length (bc l) r.2) (fun r => r.1) (fun r => [r.2]) := by
  rcases h with ⟨rfl, p, c, rfl⟩ | ⟨h0, b, o, c, e, R, fr, rfl, hm, hR⟩
  · refine Spec.of Tryz.func59 rfl Tryz.ntmps59 (by simp) fun w => ?_
    refine T.sr <| Rl.q (Qt.as (v := .slice none 0 0)) <| Rl.nilK <| ?_
    refine T.sr <| Rl.e Ef.bs0 fun b3 hb3 => Rl.q Qt.mv <| Rl.e (Ef.apE (own := Own.mk (e := 5) (sz := 1) (b := b3) (xs := []) (sp := []) (k := 0) (cap := 0) rfl (Nat.le_refl _) (by simp only [maxLen]; omega) rfl)) fun v5 hv5 => Rl.q Qt.as <| Rl.nilK <| ?_
    refine T.ret <| Ex.ret1 (.inl rfl) rfl ?_ rfl
    exact fun w h => ⟨v5, hv5, rfl, h.re⟩
  · refine Spec.of Tryz.func59 rfl Tryz.ntmps59 (by simp) fun w => ?_
    have iB : ∀ H, InB H [C] b (.cells R.toArray e fr) := fun H => InB.of_mem hm
    have hR2 : seg R o (l.length * 1) = some (bc l) := by rw [Nat.mul_one]; exact hR
    refine T.sr <| Rl.q (Qt.as (v := .slice none 0 0)) <| Rl.nilK <| ?_
    refine T.sr <| Rl.e Ef.bs0 fun b3 hb3 => Rl.q Qt.mv <| Rl.e (Ef.ap (own := Own.mk (e := 5) (sz := 1) (b := b3) (xs := []) (sp := []) (k := 0) (cap := 0) rfl (Nat.le_refl _) (by simp only [maxLen]; omega) rfl) (hs := hR2) (hl := ⟨rfl, bc_ones _, by simp only [maxLen]; omega, by omega⟩)) fun v5 hv5 => Rl.q Qt.as <| Rl.nilK <| ?_
    refine T.ret <| Ex.ret1 (.inl rfl) rfl ?_ rfl
    exact fun w h => ⟨v5, hv5.cast (List.nil_append _) (Nat.zero_add _), rfl, h.re⟩

theorem dupX_q : QSpec Tryz.prog 60 [.slice none 0 0] [] (.slice none 0 0) := by
  refine QSpec.of Tryz.func60 rfl Tryz.ntmps60 (by simp) fun w => ?_
  refine T.sr <| Rl.q (Qt.as (v := .slice none 0 0)) <| Rl.nilK <| ?_
  refine T.sr <| Rl.q (Qt.as (v := .slice none 0 0)) <| Rl.nilK <| ?_
  refine T.seq ?_
  refine T.sr <| Rl.q Qt.mv <| Rl.q Qt.len <| Rl.q (Qt.mv (v := N .i64 0)) <| Rl.nilK <| ?_
  refine T.block ?_
  refine T.rounds 0 ?_
  refine T.sr <| Rl.q (Qt.ltF (a := 0) (b := 0)) <| Rl.nilK <| ?_
  refine T.seq ?_
  refine T.condF ?_
  refine T.exit <| Ex.Kexit <| Ex.Rexit <| Ex.Bhit <| Ex.K <| ?_
  refine T.sr <| Rl.q Qt.mv <| Rl.q Qt.as <| Rl.nilK <| ?_
  refine T.ret <| Ex.ret1 (.inl rfl) rfl ?_ rfl
  exact fun w h => ⟨rfl, h.grown⟩

theorem spoiltOk_q : QSpec Tryz.prog 57 [.nilIface] [] (N .i64 0) := by
  refine QSpec.of Tryz.func57 rfl Tryz.ntmps57 (by simp) fun w => ?_
  refine T.sr <| Rl.q (Qt.as (v := N .i64 0)) <| Rl.nilK <| ?_
  refine T.seq ?_
  refine T.sr <| Rl.q Qt.mv <| Rl.q Qt.ieqNil <| Rl.nilK <| ?_
  refine T.condT ?_
  refine T.sr <| Rl.q (Qt.as (v := N .i64 0)) <| Rl.nilK <| ?_
  refine T.ret <| Ex.Kret <| Ex.ret1 (.inl rfl) rfl ?_ rfl
  exact fun w h => ⟨rfl, h.grown⟩

theorem toTime0_q : QSpec Tryz.prog 86 [.agg [.bool false, N .i64 0, N .i64 0].toArray] [] (.agg [.bool false, N .i64 0, N .i64 0].toArray) := by
  refine QSpec.of Tryz.func86 rfl Tryz.ntmps86 (by simp) fun w => ?_
  refine T.sr <| Rl.e Ef.bxA fun b1 hb1 => Rl.e Ef.alA fun b2 hb2 => Rl.nilK <| ?_
  refine T.sr <| Rl.q Qt.fa0 <| Rl.q Qt.ld <| Rl.q Qt.fa <| Rl.q Qt.ld <| Rl.q Qt.fa <| Rl.q Qt.ld <| Rl.q Qt.bdN <| ?_
  refine Rl.e0 Ef.stN fun _ _ => Rl.nilK <| ?_
  refine T.ret <| Ex.retC (.inl rfl) rfl ?_ rfl
  exact fun w h => ⟨rfl, h.grown⟩

theorem toFile_s {size : Nat} (hs : size < 9223372036854775808) : Spec Tryz.prog 51 [.agg (fileC size).toArray] [] [] (fun _ : Nat => True) (fun b => Pt b) (fun b => [[(b, FO size 0)]]) := by
  refine Spec.of Tryz.func51 rfl Tryz.ntmps51 (by simp) fun w => ?_
  refine T.sr <| Rl.e Ef.bxA fun b1 hb1 => Rl.q (Qt.as (v := .pointer none)) <| Rl.nilK <| ?_
  refine T.sdr [] ?_ mixed
  refine Dr.qsM [0, 1, 2, 3, 4, 5, 6, 7, 8, 9, 10, 11, 12, 13, 14, 15, 16, 17, 18, 19, 20, 21, 22, 23, 24, 25, 26] [] ?_
  refine Dq.q Qt.fa0 <| Dq.q Qt.ld <| Dq.q Qt.fa <| Dq.q Qt.ld <| Dq.q Qt.fa <| Dq.q Qt.ld <| Dq.q Qt.fa <| Dq.q Qt.ld <| ?_
  refine Dq.q Qt.fa <| Dq.q Qt.ld <| Dq.q Qt.fa <| Dq.q Qt.ldA <| Dq.c rfl (toTime0_q) <| Dq.q Qt.fa <| Dq.q Qt.ldA <| Dq.c rfl (toTime0_q) <| ?_
  refine Dq.q Qt.fa <| Dq.q Qt.ldA <| Dq.c rfl (toTime0_q) <| Dq.q Qt.fa <| Dq.q Qt.ldA <| Dq.c rfl (toTime0_q) <| Dq.q Qt.fa <| Dq.q Qt.ld <| ?_
  refine Dq.q Qt.fa <| Dq.q Qt.ld <| Dq.q Qt.bdN <| Dq.nil <| ?_
  refine Dr.e 27 <| Eo.e rfl Ef.bxA fun b33 hb33 => ?_
  refine Dr.e 28 <| Eo.q rfl Qt.as <| Dr.nilK <| ?_
  refine T.seq ?_
  refine T.sr <| Rl.q Qt.fa <| Rl.q Qt.ld <| Rl.q Qt.len <| Rl.q (Qt.gtF (a := 0) (b := 0)) <| Rl.nilK <| ?_
  refine T.condF ?_
  refine T.skip <| Ex.K <| ?_
  refine T.seq ?_
  refine T.sr <| Rl.q Qt.fa <| Rl.q Qt.ld <| Rl.q Qt.len <| Rl.q (Qt.mv (v := N .i64 0)) <| Rl.nilK <| ?_
  refine T.block ?_
  refine T.rounds 0 ?_
  refine T.sr <| Rl.q (Qt.ltF (a := 0) (b := 0)) <| Rl.nilK <| ?_
  refine T.seq ?_
  refine T.condF ?_
  refine T.exit <| Ex.Kexit <| Ex.Rexit <| Ex.Bhit <| Ex.K <| ?_
  refine T.sr <| Rl.q Qt.mv <| Rl.q Qt.as <| Rl.nilK <| ?_
  refine T.ret <| Ex.ret1 (.inl rfl) rfl ?_ rfl
  exact fun w h => ⟨b33, trivial, rfl, h.re⟩

abbrev OpV := OpR × Value
abbrev OpV.cells (o : OpV) : List Value := opC o.1 o.2
theorem cells24 : ∀ o : OpV, o.cells.length = 24 := fun _ => rfl
theorem opV_ones {o : OpV} (h : one o.2 = true) : ones o.cells = true := by
  have o1 : ∀ k i, SL.one (.int k i) = true := fun _ _ => rfl
  have o2 : ∀ b, SL.one (.string b) = true := fun _ => rfl
  have o3 : ∀ b, SL.one (.bool b) = true := fun _ => rfl
  have o4 : SL.one (.slice none 0 0) = true := rfl
  simp only [ones, List.all_cons, List.all_nil, h, o1, o2, o3, o4, Bool.and_self]
structure DSt where
  dn : List OpV
  rs : List OpV
  v : Value
  E : Chunk
  DC : Chunk
structure DOk (ops : List OpV) (y : DSt) : Prop where
  all : ∃ d0, d0 ++ y.rs = ops ∧ y.dn.map (·.1) = d0.map (·.1)
  fin : ∀ x ∈ y.dn, RdB y.DC x.2 x.1.dat
  own : Own 48 24 y.v y.dn.length (y.dn.flatMap OpV.cells) y.E
theorem own_push24 {v : Value} {dn : List OpV} {z : OpV} {E : Chunk} (h : Own 48 24 v (dn.length + 1) ((dn.flatMap OpV.cells) ++ z.cells) E) : Own 48 24 v (dn ++ [z]).length ((dn ++ [z]).flatMap OpV.cells) E := by
  rw [List.length_append, List.flatMap_append, List.flatMap_cons, List.flatMap_nil, List.append_nil]; exact h
theorem dupOps_s {bo co : Nat} {ops : List OpV} {spo : List Value} {C : Chunk} (hn : ops.length < 1000000) (hd : ∀ x ∈ ops, RdB C x.2 x.1.dat ∧ x.1.dat.length < 1000000) :
    Spec Tryz.prog 25 [Sl bo 0 ops.length co] [[(bo, .cells ((ops.flatMap OpV.cells) ++ spo).toArray 48 (0, 0))], C] []
      (fun r : List OpV × Value × Chunk × Chunk => r.1.map (·.1) = ops.map (·.1) ∧ (∀ x ∈ r.1, RdB r.2.2.2 x.2 x.1.dat) ∧ Own 48 24 r.2.1 r.1.length (r.1.flatMap OpV.cells) r.2.2.1) (fun r => r.2.1) (fun r => [r.2.2.1, r.2.2.2]) := by
  refine Spec.of Tryz.func25 rfl Tryz.ntmps25 (by simp) fun w => ?_
  refine T.sr <| Rl.q (Qt.as (v := .slice none 0 0)) <| Rl.nilK <| ?_
  refine T.sr <| Rl.q (Qt.as (v := .slice none 0 0)) <| Rl.nilK <| ?_
  refine T.seq ?_
  refine T.sr <| Rl.q Qt.mv <| Rl.q Qt.len <| Rl.q (Qt.mv (v := N .i64 0)) <| Rl.nilK <| ?_
  refine T.block ?_
  refine T.add0 <| T.add0 ?_
  refine T.loop (α := DSt) (fun y => [(3, y.v), (6, Sl bo 0 ops.length co), (7, N .i64 ops.length), (8, N .i64 y.dn.length)]) (fun y => [y.E, y.DC]) (fun y => DOk ops y) (fun y => y.rs.length)
    ⟨[], ops, .slice none 0 0, [], []⟩ ⟨⟨[], rfl, rfl⟩, fun _ h => absurd h (by simp), Own.nil 48 24⟩ ?_ (fun y hy => ?_)
  · exact .cons rfl <| .cons rfl <| .cons rfl <| .cons rfl <| .nil
  obtain ⟨d0, hd0, hdm⟩ := hy.all
  have hdl : y.dn.length = d0.length := by have := congrArg List.length hdm; simpa using this
  have hol : d0.length + y.rs.length = ops.length := by rw [← hd0, List.length_append]
  refine T.sr <| Rl.ltS (fun h9 => ?_) (fun h9 => ?_)
  · refine Rl.nilK <| ?_
    refine T.seq ?_
    refine T.condT ?_
    refine T.skip <| Ex.K <| ?_
    refine T.seq ?_
    refine T.block ?_
    obtain ⟨zi, rs1, hrs⟩ : ∃ z l, y.rs = z :: l := by
      cases h : y.rs with
      | nil => rw [h] at hol; simp at hol; omega
      | cons z l => exact ⟨z, l, rfl⟩
    have hzi : ops[y.dn.length]? = some zi := by rw [← hd0, hrs, hdl, List.getElem?_append_right (Nat.le_refl _), Nat.sub_self]; rfl
    obtain ⟨hz3, hz4⟩ := hd zi (List.mem_of_getElem? hzi)
    have hz1 : ones zi.cells = true := opV_ones hz3.one
    have hrow : seg ((ops.flatMap OpV.cells) ++ spo) (0 + y.dn.length * 24) 24 = some zi.cells := by rw [Nat.zero_add]; exact seg_flat (g := OpV.cells) cells24 spo hzi
    refine T.sr <| Rl.q (Qt.ia (k := ops.length) (i := y.dn.length)) <| Rl.q (Qt.ldA (hv := hrow)) <| Rl.e Ef.alA fun b5 hb5 => Rl.e0 (Ef.stN (hv := Vc.ofOnes hz1)) fun _ _ => Rl.nilK <| ?_
    refine T.seq <| T.draw [8, 9, 10, 11] [[(b5, .cells zi.cells.toArray 48 (0, 0))]] ?_ mixed
    refine Dr.qs [0, 1, 3, 4, 5] [] ?_
    refine Dq.q Qt.fa <| Dq.q Qt.ld <| Dq.q Qt.fa <| Dq.q Qt.fa <| Dq.q Qt.ld <| Dq.nil <| ?_
    refine Dr.e 2 <| Eo.e rfl (Ef.call (S := dup_s hz3 hz4)) fun v14 hv14 => ?_
    refine Dr.e2 6 7 ?_ ?_
    · refine Eo.e rfl (Ef.qcall (S := dupX_q)) fun _ _ => ?_
      refine Dr.e 7 <| Eo.q rfl Qt.fa <| ?_
      refine Dr.e 8 <| Eo.e0 rfl (Ef.st1 (h1 := hv14.one)) fun _ _ => ?_
      refine Dr.reset [11] ?_
      refine Dr.qs [9, 10] [] ?_
      refine Dq.q Qt.fa <| Dq.q Qt.fa <| Dq.nil <| ?_
      refine Dr.e 11 <| Eo.e0 rfl Ef.st1 fun _ _ => Dr.nilK <| ?_
      have hz2 : ones (opC zi.1 v14.1) = true := opV_ones (o := (zi.1, v14.1)) hv14.one
      refine T.rem (C := y.DC) (by (repeat first | exact Rem.here | apply Rem.there)) ?_
      refine T.rem (C := v14.2) (by (repeat first | exact Rem.here | apply Rem.there)) ?_
      refine T.merge ?_
      refine T.region <| Rl.q Qt.mv <| Rl.q Qt.ldA <| Rl.e Ef.bs fun b24 hb24 => Rl.e (Ef.ap (own := hy.own) (hl := ⟨rfl, hz2, by simp only [maxLen]; omega, by omega⟩)) fun v25 hv25 => Rl.q Qt.as <| Rl.nil <| Ex.Bnormal <| Ex.K <| ?_
      refine T.region <| Rl.q (Qt.add (a := y.dn.length) (b := 1)) <| Rl.q Qt.mv <| Rl.nil <| ?_
      have hfin2 : ∀ x ∈ y.dn ++ [(zi.1, v14.1)], RdB (v14.2 ++ y.DC) x.2 x.1.dat := by
        intro q hq
        rcases List.mem_append.1 hq with hq | hq
        · exact (hy.fin q hq).mono fun p hp => List.mem_append_right _ hp
        · rw [List.mem_singleton.1 hq]; exact hv14.rdB fun p hp => List.mem_append_left _ hp
      exact Ex.next ⟨y.dn ++ [(zi.1, v14.1)], rs1, v25.1, v25.2, v14.2 ++ y.DC⟩ ⟨⟨d0 ++ [zi], by rw [← hd0, hrs]; simp, by rw [List.map_append, List.map_append, hdm]; rfl⟩, hfin2, own_push24 (z := (zi.1, v14.1)) hv25⟩ (by rw [hrs]; simp) (.cons rfl <| .cons rfl <| .cons rfl <| .cons (by rw [List.length_append]; rfl) <| .nil)
    · refine Eo.q rfl Qt.fa <| ?_
      refine Dr.e 6 <| Eo.e rfl (Ef.qcall (S := dupX_q)) fun _ _ => ?_
      refine Dr.e 8 <| Eo.e0 rfl (Ef.st1 (h1 := hv14.one)) fun _ _ => ?_
      refine Dr.reset [11] ?_
      refine Dr.qs [9, 10] [] ?_
      refine Dq.q Qt.fa <| Dq.q Qt.fa <| Dq.nil <| ?_
      refine Dr.e 11 <| Eo.e0 rfl Ef.st1 fun _ _ => Dr.nilK <| ?_
      have hz2 : ones (opC zi.1 v14.1) = true := opV_ones (o := (zi.1, v14.1)) hv14.one
      refine T.rem (C := y.DC) (by (repeat first | exact Rem.here | apply Rem.there)) ?_
      refine T.rem (C := v14.2) (by (repeat first | exact Rem.here | apply Rem.there)) ?_
      refine T.merge ?_
      refine T.region <| Rl.q Qt.mv <| Rl.q Qt.ldA <| Rl.e Ef.bs fun b24 hb24 => Rl.e (Ef.ap (own := hy.own) (hl := ⟨rfl, hz2, by simp only [maxLen]; omega, by omega⟩)) fun v25 hv25 => Rl.q Qt.as <| Rl.nil <| Ex.Bnormal <| Ex.K <| ?_
      refine T.region <| Rl.q (Qt.add (a := y.dn.length) (b := 1)) <| Rl.q Qt.mv <| Rl.nil <| ?_
      have hfin2 : ∀ x ∈ y.dn ++ [(zi.1, v14.1)], RdB (v14.2 ++ y.DC) x.2 x.1.dat := by
        intro q hq
        rcases List.mem_append.1 hq with hq | hq
        · exact (hy.fin q hq).mono fun p hp => List.mem_append_right _ hp
        · rw [List.mem_singleton.1 hq]; exact hv14.rdB fun p hp => List.mem_append_left _ hp
      exact Ex.next ⟨y.dn ++ [(zi.1, v14.1)], rs1, v25.1, v25.2, v14.2 ++ y.DC⟩ ⟨⟨d0 ++ [zi], by rw [← hd0, hrs]; simp, by rw [List.map_append, List.map_append, hdm]; rfl⟩, hfin2, own_push24 (z := (zi.1, v14.1)) hv25⟩ (by rw [hrs]; simp) (.cons rfl <| .cons rfl <| .cons rfl <| .cons (by rw [List.length_append]; rfl) <| .nil)
  · refine Rl.nilK <| ?_
    refine T.seq ?_
    refine T.condF ?_
    refine T.exit <| Ex.Kexit <| Ex.Lexit <| Ex.Bhit <| Ex.K <| ?_
    have hnil : y.rs = [] := List.eq_nil_of_length_eq_zero (by omega)
    rw [hnil, List.append_nil] at hd0
    rw [hd0] at hdm
    refine T.sr <| Rl.q Qt.mv <| Rl.q Qt.as <| Rl.nilK <| ?_
    refine T.ret <| Ex.ret1 (.inl rfl) rfl ?_ rfl
    exact fun w h => ⟨(y.dn, y.v, y.E, y.DC), ⟨hdm, hy.fin, hy.own⟩, rfl, h.re⟩
end SL
end Go.Proofs.YtlmiekcmjpnobaaGreatDoor
