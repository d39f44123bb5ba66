/- Part 8 of the proof of the card of 'laws.FnImageManyLinks': it returns true at every input. No condition. Texts: RL RM RN RO. -/
import Derived.Test.YtlmiekcmjpnobaaGreatDoorM07
namespace Go.Proofs.YtlmiekcmjpnobaaGreatDoor
open Go
namespace SL
set_option maxRecDepth 20000

/-- Where the search through the directories stands: what was seen, the parents, how often each inode is named, how many directories lie in each, and what waits. -/
structure BS where
  seen : Nat → Bool
  par : Nat → Nat
  nam : Nat → Nat
  sub : Nat → Nat
  q : List Nat
def dotE (e : Ent) : Prop := e.1 = [46] ∨ e.1 = [46, 46]
instance (e : Ent) : Decidable (dotE e) := inferInstanceAs (Decidable (_ ∨ _))
def bfsE (num : Nat) (s : BS) (e : Ent) : BS :=
  if dotE e then s else ⟨upd s.seen e.2.1 true, if s.seen e.2.1 then s.par else upd s.par e.2.1 num, upd s.nam e.2.1 (s.nam e.2.1 + 1), if e.2.2 = 2 then upd s.sub num (s.sub num + 1) else s.sub, if s.seen e.2.1 then s.q else s.q ++ [e.2.1]⟩
structure EntOk (first n : Nat) (kd : Nat → Nat) (num : Nat) (s : BS) (e : Ent) : Prop where
  pos : 0 < e.2.1
  lo : first ≤ e.2.1
  hi : e.2.1 < n
  kind : kd e.2.1 = e.2.2
  dir : e.2.2 = 2 → s.seen e.2.1 = false
  nb : s.nam e.2.1 < 1000000000
  sb : s.sub num < 1000000000
  qb : s.q.length < 1000000000
def EntsOk (first n : Nat) (kd : Nat → Nat) (num : Nat) : BS → List Ent → Prop
  | _, [] => True
  | s, e :: l => (dotE e ∨ EntOk first n kd num s e) ∧ EntsOk first n kd num (bfsE num s e) l
/-- What is known of an inode before it is read: its fields, its names, and which blocks are claimed before and behind. -/
structure RNd where
  x : XI
  blks : List (List DRec)
  f0 : Nat → Bool
  f1 : Nat → Bool
structure DirOk (r : RNd) (parent : Nat) : Prop where
  ok : ∀ l ∈ r.blks, ∀ d ∈ l, d.Ok
  len : ∀ l ∈ r.blks, (encL l).length = 4096
  ne : 0 < r.blks.length
  inl : r.x.inl = false
  big : r.blks.flatten.length < 1000000
  dots : ∃ es, entL r.blks.flatten = ([46], r.x.num, 2) :: ([46, 46], parent, 2) :: es
  dis : ((entL r.blks.flatten).map (·.1)).Nodup
  sl : ∀ z ∈ entL r.blks.flatten, (47 : UInt8) ∉ z.1 ∧ z.1.length < 1000
def RNd.isDir (r : RNd) : Bool := kindN r.x.mode == 2
def nodStep (r : RNd) (s : BS) (qs : List Nat) : BS := if r.isDir then (entL r.blks.flatten).foldl (bfsE r.x.num) { s with q := qs } else { s with q := qs }
/-- The search comes to just these inodes, in this order. -/
def BRun (first n : Nat) (kd : Nat → Nat) (s' : BS) (f' : Nat → Bool) : BS → (Nat → Bool) → List RNd → Prop
  | s, f, [] => s.q = [] ∧ s = s' ∧ f = f'
  | s, f, r :: l => ∃ qs, s.q = r.x.num :: qs ∧ r.f0 = f ∧ r.x.num < n ∧ r.x.mode < 65536 ∧
      (r.isDir = true → DirOk r (s.par r.x.num) ∧ EntsOk first n kd r.x.num { s with q := qs } (entL r.blks.flatten)) ∧ BRun first n kd s' f' (nodStep r s qs) r.f1 l
abbrev rnX (r : RNd) (c a e : Value) : XI := { r.x with content := c, xat := a, ents := e }
abbrev NdV := RNd × Value × Value × Value
abbrev NdV.x (z : NdV) : XI := rnX z.1 z.2.1 z.2.2.1 z.2.2.2
/-- What is known of an inode that was read. -/
def NdFin (φ : RNd → Value → Value → Chunk → Prop) (CC : Chunk) (z : NdV) : Prop :=
  (∃ C, φ z.1 z.2.1 z.2.2.1 C ∧ ∀ p ∈ C, p ∈ CC) ∧ one z.2.1 = true ∧ one z.2.2.1 = true ∧ one z.2.2.2 = true ∧
  if z.1.isDir = true then ∃ E, Own 87 3 z.2.2.2 (entL z.1.blks.flatten).length (tri (entL z.1.blks.flatten)) E ∧ ∀ p ∈ E, p ∈ CC else z.2.2.2 = .slice none 0 0
theorem NdFin.mono {φ : RNd → Value → Value → Chunk → Prop} {CC CC' : Chunk} {z : NdV} (h : NdFin φ CC z) (hs : ∀ p ∈ CC, p ∈ CC') : NdFin φ CC' z := by
  obtain ⟨⟨C, h1, h2⟩, h3, h4, h5, h6⟩ := h
  refine ⟨⟨C, h1, fun p hp => hs p (h2 p hp)⟩, h3, h4, h5, ?_⟩
  split
  · rename_i hd
    rw [if_pos hd] at h6
    obtain ⟨E, h7, h8⟩ := h6
    exact ⟨E, h7, fun p hp => hs p (h8 p hp)⟩
  · rename_i hd
    rwa [if_neg hd] at h6
structure OSt where
  dn : List NdV
  rs : List RNd
  s : BS
  f : Nat → Bool
  ino : Value
  E : Chunk
  CC : Chunk
  qv : Value
  qE : Chunk
structure OOk (φ : RNd → Value → Value → Chunk → Prop) (first n : Nat) (kd : Nat → Nat) (s' : BS) (f' : Nat → Bool) (nodes : List RNd) (y : OSt) : Prop where
  all : y.dn.map (·.1) ++ y.rs = nodes
  run : BRun first n kd s' f' y.s y.f y.rs
  fin : ∀ z ∈ y.dn, NdFin φ y.CC z
  own : Own 81 23 y.ino y.dn.length (y.dn.flatMap fun z => z.x.cells) y.E
  win : Win 66 1 y.qv y.s.q.length (y.s.q.map (N .u64 ·)) y.qE
structure ESt where
  dn : List Ent
  rs : List Ent
  s : BS
  qv : Value
  qE : Chunk
structure EOk (first n : Nat) (kd : Nat → Nat) (num : Nat) (es : List Ent) (sF : BS) (y : ESt) : Prop where
  all : y.dn ++ y.rs = es
  ok : EntsOk first n kd num y.s y.rs
  fin : y.rs.foldl (bfsE num) y.s = sF
  win : Win 66 1 y.qv y.s.q.length (y.s.q.map (N .u64 ·)) y.qE
theorem upd_same {f : Nat → Bool} {k : Nat} (h : f k = true) : upd f k true = f := by
  funext i; unfold upd; split
  · next e => rw [e, h]
  · rfl
theorem XI.cells_ones {x : XI} (h : ones [x.t0, x.t1, x.t2, x.t3, x.t4, x.t5, x.t6, x.t7] = true) (hc : one x.content = true) (he : one x.ents = true) (ha : one x.xat = true) : ones x.cells = true := by
  have o1 : ∀ k i, one (.int k i) = true := fun _ _ => rfl
  have o2 : ∀ b, one (.bool b) = true := fun _ => rfl
  simp only [ones, List.all_cons, List.all_nil, Bool.and_true, Bool.and_eq_true] at h ⊢
  obtain ⟨h0, h1, h2, h3, h4, h5, h6, h7⟩ := h
  simp only [h0, h1, h2, h3, h4, h5, h6, h7, hc, he, ha, o1, o2, and_self]
theorem Vc.ofOnes {l : List Value} (h : SL.ones l = true) : Vc (.agg l.toArray) l := ⟨by simp [vcells], h⟩
theorem Win.push {l : List Nat} {v : Value} {E : Chunk} {x : Nat} (h : Win 66 1 v (l.length + 1) (l.map (N .u64 ·) ++ [N .u64 x]) E) : Win 66 1 v (l ++ [x]).length ((l ++ [x]).map (N .u64 ·)) E := by
  rw [List.length_append, List.map_append]; exact h
theorem Own.one1 {e : TypeId} {sz k : Nat} {v : Value} {xs : List Value} {E : Chunk} (h : Own e sz v k xs E) : SL.one v = true := h.one
theorem own_push {v : Value} {dn : List NdV} {z : NdV} {E : Chunk} (h : Own 81 23 v (dn.length + 1) ((dn.flatMap fun z => z.x.cells) ++ z.x.cells) E) : Own 81 23 v (dn ++ [z]).length ((dn ++ [z]).flatMap fun z => z.x.cells) E := by
  rw [List.length_append, List.flatMap_append, List.flatMap_cons, List.flatMap_nil, List.append_nil]; exact h
theorem dot3 (e : List UInt8) : e = [46] ∨ (e ≠ [46] ∧ e = [46, 46]) ∨ (e ≠ [46] ∧ e ≠ [46, 46]) := by
  by_cases h1 : e = [46]
  · exact .inl h1
  · by_cases h2 : e = [46, 46]
    · exact .inr (.inl ⟨h1, h2⟩)
    · exact .inr (.inr ⟨h1, h2⟩)
theorem EntOk.cases {first n num : Nat} {kd : Nat → Nat} {s : BS} {e : Ent} (h : EntOk first n kd num s e) : (e.2.2 = 2 ∧ s.seen e.2.1 = false) ∨ (e.2.2 ≠ 2 ∧ s.seen e.2.1 = false) ∨ (e.2.2 ≠ 2 ∧ s.seen e.2.1 = true) := by
  by_cases h2 : e.2.2 = 2
  · exact .inl ⟨h2, h.dir h2⟩
  · cases hs : s.seen e.2.1
    · exact .inr (.inl ⟨h2, rfl⟩)
    · exact .inr (.inr ⟨h2, rfl⟩)
theorem bF_put0 {n k : Nat} {s : Nat → Bool} {b : Bool} (h : k < n) : putL (bF n s) (0 + k) (vcells (.bool b)) = bF n (upd s k b) := by rw [Nat.zero_add]; exact bF_put h
theorem nF_put0 {n k x : Nat} {s : Nat → Nat} (h : k < n) : putL (nF n s) (0 + k) (vcells (N .u64 x)) = nF n (upd s k x) := by rw [Nat.zero_add]; exact nF_put h
theorem bF_nth0 {n k : Nat} {s : Nat → Bool} {b : Bool} (h : k < n) (hb : s k = b) : nth (bF n s) (0 + k) = some (.bool b) := by rw [Nat.zero_add, bF_nth h, hb]
theorem nF_nth0 {n k : Nat} {s : Nat → Nat} (h : k < n) : nth (nF n s) (0 + k) = some (N .u64 (s k)) := by rw [Nat.zero_add, nF_nth h]
theorem bF_hc {n k : Nat} {s : Nat → Bool} {b : Bool} (h : k < n) : (vcells (.bool b)).length = 1 ∧ 0 + k + 1 ≤ (bF n s).length ∧ ones (vcells (.bool b)) = true := ⟨rfl, by rw [bF_length]; omega, rfl⟩
theorem nF_hc {n k x : Nat} {s : Nat → Nat} (h : k < n) : (vcells (N .u64 x)).length = 1 ∧ 0 + k + 1 ≤ (nF n s).length ∧ ones (vcells (N .u64 x)) = true := ⟨rfl, by rw [nF_length]; omega, rfl⟩
theorem cells23 : ∀ z : NdV, z.x.cells.length = 23 := fun _ => rfl
set_option synthInstance.maxHeartbeats 400000 in
set_option synthInstance.maxSize 100000 in
set_option maxHeartbeats 16000000 in
theorem readTree_s {bV bI bO cap nb pi eI eO first it : Nat} {B : List UInt8} {RI : List Value} [RowC RI B] {frI : Nat × Nat} {φ : RNd → Value → Value → Chunk → Prop} {nodes : List RNd} {s' : BS} {f f' : Nat → Bool} {r0 : RNd} {rs0 : List RNd}
    (hB : B.length = nb * 4096) (hcap : nb * 4096 ≤ cap) (hcap2 : cap < 9223372036854775808) (hnb : nb < 1000000) (hnb2 : 1 < nb) (hpi : 2 ≤ pi ∧ pi < 1000000) (hit : leN B 4104 4 = it) (hat : it * 4096 + pi * 256 ≤ nb * 4096)
    (hfirst : 0 < first ∧ first < 1000000) (hn0 : nodes = r0 :: rs0) (hr0 : kindN r0.x.mode = 2) (hlen : nodes.length < 1000000)
    (hrun : BRun first (pi + 1) (fun k => kindN (leN B (it * 4096 + (k - 1) * 256) 2)) s' f' ⟨upd (fun _ => false) 2 true, upd (fun _ => 0) 2 2, fun _ => 0, fun _ => 0, [2]⟩ f nodes)
    (hino : ∀ r ∈ nodes, ∀ ino : Value, Spec Tryz.prog 115 [Pt bV, N .u64 r.x.num] [[(bV, VO ino nb (Sl bI 0 (nb * 4096) cap) 1 pi (Sl bO 0 nb nb))], [(bI, CI RI eI frI)]] [[(bO, BO (ownL nb r.f0) eO (0, 0))]]
      (fun z : (Value × Value) × Chunk => φ r z.1.1 z.1.2 z.2) (fun z => .agg (rnX r z.1.1 z.1.2 (.slice none 0 0)).cells.toArray) (fun z => [[(bO, BO (ownL nb r.f1) eO (0, 0))], z.2]))
    (hone : ∀ r ∈ nodes, ones [r.x.t0, r.x.t1, r.x.t2, r.x.t3, r.x.t4, r.x.t5, r.x.t6, r.x.t7] = true ∧ ∀ c a C, φ r c a C → one c = true ∧ one a = true)
    (hdir : ∀ r ∈ nodes, r.isDir = true → ∀ c a C, φ r c a C → ∃ b cp e fr R, c = Sl b 0 (r.blks.length * 4096) cp ∧ (b, .cells R.toArray e fr) ∈ C ∧ RowB R 0 (blkB r.blks) ∧ r.blks.length * 4096 ≤ cp ∧ cp < 9223372036854775808)
    (hlink : ∀ r ∈ nodes, r.x.num < pi + 1 ∧ r.x.mode < 65536 ∧ s'.sub r.x.num < 1000000000 ∧ r.x.links = if r.isDir = true then s'.sub r.x.num + 2 else s'.nam r.x.num) :
    Spec Tryz.prog 64 [Pt bV, N .u64 first] [[(bI, CI RI eI frI)]] [[(bV, VO (.slice none 0 0) nb (Sl bI 0 (nb * 4096) cap) 1 pi (Sl bO 0 nb nb))], [(bO, BO (ownL nb f) eO (0, 0))]]
      (fun r : List NdV × Value × Chunk × Chunk => r.1.map (·.1) = nodes ∧ (∀ z ∈ r.1, NdFin φ r.2.2.2 z) ∧ Own 81 23 r.2.1 r.1.length (r.1.flatMap fun z => z.x.cells) r.2.2.1) (fun _ => .tuple #[])
      (fun r => [[(bV, VO r.2.1 nb (Sl bI 0 (nb * 4096) cap) 1 pi (Sl bO 0 nb nb))], [(bO, BO (ownL nb f') eO (0, 0))], r.2.2.1, r.2.2.2]) := by
  refine Spec.of Tryz.func64 rfl Tryz.ntmps64 (by simp) fun w => ?_
  obtain ⟨hpi1, hpi2⟩ := hpi
  have hBl : B.length < 4611686018427387904 := by omega
  refine T.sdr [] ?_ mixed
  refine Dr.qs [0, 1, 2, 3, 4, 5, 6, 7, 8, 9] [] ?_
  refine Dq.q Qt.mv <| Dq.q Qt.nc <| Dq.q Qt.fa <| Dq.q Qt.ld <| Dq.q Qt.mv <| Dq.q Qt.nc <| Dq.q Qt.fa <| Dq.q Qt.ld <| ?_
  refine Dq.q (Qt.toN (c := pi) Qt.mul (Nat.one_mul _)) <| Dq.q (Qt.toN (c := pi + 1) (Qt.add (b := 1))) <| Dq.nil <| ?_
  refine Dr.e 10 <| Eo.e rfl Ef.mk fun b27 hb27 => ?_
  refine Dr.e 11 <| Eo.q rfl Qt.as <| Dr.nilK <| ?_
  refine T.join (α := Nat × Nat) (fun u => [(0, Pt bV), (1, N .u64 first), (4, Sl b27 0 (pi + 1) (pi + 1)), (5, Sl u.1 0 (pi + 1) (pi + 1)), (6, Sl u.2 0 (pi + 1) (pi + 1))]) (fun u => [[(u.1, .cells (nF (pi + 1) fun _ => 0).toArray 66 (0, 0))], [(u.2, .cells (nF (pi + 1) fun _ => 0).toArray 66 (0, 0))], [(b27, .cells (bF (pi + 1) fun _ => false).toArray 4 (0, 0))], [(bV, VO (.slice none 0 0) nb (Sl bI 0 (nb * 4096) cap) 1 pi (Sl bO 0 nb nb))], [(bO, BO (ownL nb f) eO (0, 0))]]) (fun u => True) ?_ fun u _ => ?_
  · refine T.dr [] ?_ mixed
    refine Dr.qs [0, 1, 3, 4] [] ?_
    refine Dq.q Qt.mv <| Dq.q Qt.len <| Dq.q Qt.mv <| Dq.q Qt.len <| Dq.nil <| ?_
    refine Dr.e2 2 5 ?_ ?_
    · refine Eo.e rfl Ef.mk fun b30 hb30 => ?_
      refine Dr.e2 5 6 ?_ ?_
      · refine Eo.e rfl Ef.mk fun b33 hb33 => ?_
        refine Dr.e 6 <| Eo.q rfl Qt.as <| ?_
        refine Dr.e 7 <| Eo.q rfl Qt.as <| Dr.nil <| ?_
        rw [bF_rep, nF_rep]
        exact Ex.join (b30, b33) trivial (.cons rfl <| .cons rfl <| .cons rfl <| .cons rfl <| .cons rfl <| .nil)
      · refine Eo.q rfl Qt.as <| ?_
        refine Dr.e 5 <| Eo.e rfl Ef.mk fun b33 hb33 => ?_
        refine Dr.e 7 <| Eo.q rfl Qt.as <| Dr.nil <| ?_
        rw [bF_rep, nF_rep]
        exact Ex.join (b30, b33) trivial (.cons rfl <| .cons rfl <| .cons rfl <| .cons rfl <| .cons rfl <| .nil)
    · refine Eo.e rfl Ef.mk fun b33 hb33 => ?_
      refine Dr.e 2 <| Eo.e rfl Ef.mk fun b30 hb30 => ?_
      refine Dr.e 6 <| Eo.q rfl Qt.as <| ?_
      refine Dr.e 7 <| Eo.q rfl Qt.as <| Dr.nil <| ?_
      rw [bF_rep, nF_rep]
      exact Ex.join (b30, b33) trivial (.cons rfl <| .cons rfl <| .cons rfl <| .cons rfl <| .cons rfl <| .nil)
  · refine T.sr <| Rl.q Qt.mv <| Rl.q Qt.len <| Rl.e Ef.mk fun b36 hb36 => Rl.q Qt.as <| Rl.nilK <| ?_
    refine T.sr <| Rl.e Ef.bs fun b37 hb37 => Rl.q Qt.as <| Rl.nilK <| ?_
    refine T.seq ?_
    refine T.sr <| Rl.q Qt.mv <| Rl.q Qt.len <| Rl.q (Qt.leF (b := 2)) <| Rl.nilK <| ?_
    refine T.condF ?_
    refine T.skip <| Ex.K <| ?_
    rw [nF_rep (pi + 1)]
    refine T.sr <| Rl.q Qt.mv <| Rl.q Qt.mv <| Rl.q (Qt.ia1 (i := 2)) <| Rl.e0 (Ef.st (v := .bool true) (hc := bF_hc (by omega))) fun _ _ => Rl.q (Qt.ia1 (i := 2)) <| Rl.e0 (Ef.st (v := N .u64 2) (hc := nF_hc (by omega))) fun _ _ => Rl.nilK <| ?_
    refine T.seq ?_
    refine T.block ?_
    rw [bF_put0 (by omega), nF_put0 (by omega)]
    refine T.add0 <| T.add0 ?_
    refine T.loop (α := OSt) (fun y => [(0, Pt bV), (1, N .u64 first), (4, Sl b27 0 (pi + 1) (pi + 1)), (5, Sl u.1 0 (pi + 1) (pi + 1)), (6, Sl u.2 0 (pi + 1) (pi + 1)), (7, Sl b36 0 (pi + 1) (pi + 1)), (8, y.qv)]) (fun y => [[(bV, VO y.ino nb (Sl bI 0 (nb * 4096) cap) 1 pi (Sl bO 0 nb nb))], [(bO, BO (ownL nb y.f) eO (0, 0))], y.E, y.CC, [(b27, .cells (bF (pi + 1) y.s.seen).toArray 4 (0, 0))], [(u.1, .cells (nF (pi + 1) y.s.par).toArray 66 (0, 0))], [(u.2, .cells (nF (pi + 1) y.s.nam).toArray 66 (0, 0))], [(b36, .cells (nF (pi + 1) y.s.sub).toArray 66 (0, 0))], y.qE]) (fun y => OOk φ first (pi + 1) (fun k => kindN (leN B (it * 4096 + (k - 1) * 256) 2)) s' f' nodes y) (fun y => y.rs.length)
      ⟨[], nodes, ⟨upd (fun _ => false) 2 true, upd (fun _ => 0) 2 2, fun _ => 0, fun _ => 0, [2]⟩, f, .slice none 0 0, [], [], Sl b37 0 1 1, [(b37, .cells [N .u64 2].toArray 66 (0, 0))]⟩ ⟨rfl, hrun, (fun z hz => nomatch hz), Own.nil 81 23, (Own.mk (e := 66) (sz := 1) (xs := [N .u64 2]) (sp := []) (b := b37) (k := 1) (cap := 1) rfl (Nat.le_refl _) (by simp only [maxLen]; omega) rfl).win⟩ ?_ (fun y hy => ?_)
    · exact .cons rfl <| .cons rfl <| .cons rfl <| .cons rfl <| .cons rfl <| .cons rfl <| .cons rfl <| .nil
    refine T.seq ?_
    rcases (show y.rs = [] ∨ ∃ r rs, y.rs = r :: rs by cases y.rs with | nil => exact .inl rfl | cons r rs => exact .inr ⟨_, _, rfl⟩) with hnil | ⟨r, rs, hrs⟩
    · have hr := hy.run
      rw [hnil] at hr
      obtain ⟨hq, hs, hf⟩ := hr
      have hw := hy.win
      rw [hq] at hw
      obtain ⟨pq, cq, hqv⟩ := hw.form
      rw [hqv, hs, hf]
      refine T.sr <| Rl.q Qt.mv <| Rl.q Qt.len <| Rl.q (Qt.gtF (b := 0) (h := by simp)) <| Rl.nilK <| ?_
      refine T.condF ?_
      refine T.exit <| Ex.Kexit <| Ex.Lexit <| Ex.Bhit <| Ex.K <| ?_
      have hmap := hy.all
      rw [hnil, List.append_nil] at hmap
      obtain ⟨z0, zs, hdn0⟩ : ∃ z l, y.dn = z :: l := by
        cases h : y.dn with
        | nil => rw [h, hn0] at hmap; exact nomatch hmap
        | cons z l => exact ⟨z, l, rfl⟩
      have hz0 : z0.1 = r0 := by rw [hdn0, hn0, List.map_cons] at hmap; exact (List.cons.inj hmap).1
      have hk0 : kindN z0.1.x.mode = 2 := by rw [hz0]; exact hr0
      have hdl : y.dn.length = nodes.length := by rw [← hmap, List.length_map]
      have hm0 : z0.1.x.mode < 65536 := by rw [hz0]; exact (hlink r0 (by rw [hn0]; exact List.mem_cons_self ..)).2.1
      have hyo := hy.own
      obtain ⟨bi, ci, spi, hiv, hci, hci2, hiE, hspl⟩ := hyo.some (by rw [hdn0]; simp)
      have hdp : 0 < y.dn.length := by rw [hdn0]; simp
      simp only [maxLen] at hci2
      rw [hiv, hiE]
      refine T.sr <| Rl.q Qt.mv <| Rl.q Qt.mv <| Rl.q Qt.nc <| Rl.q Qt.fa0 <| Rl.q Qt.ld <| Rl.q (Qt.ia (i := 0)) <| Rl.q Qt.fa <| ?_
      refine Rl.q (Qt.ld (hv := by rw [hdn0]; rfl)) <| Rl.e (Ef.qcall (S := kindOf_q hm0)) fun _ _ => Rl.q (Qt.eqT (b := 2) (h := hk0)) <| Rl.e (Ef.qcall (S := must_q _ _ _)) fun _ _ => Rl.nilK <| ?_
      refine T.sr <| Rl.q Qt.mv <| Rl.q Qt.nc <| Rl.q Qt.fa0 <| Rl.q Qt.ld <| Rl.q Qt.len <| Rl.q (Qt.mv (v := N .i64 0)) <| Rl.nilK <| ?_
      refine T.block ?_
      refine T.loop (α := Nat) (fun i => [(0, Pt bV), (6, Sl u.2 0 (pi + 1) (pi + 1)), (7, Sl b36 0 (pi + 1) (pi + 1)), (189, Sl bi 0 y.dn.length ci), (190, N .i64 y.dn.length), (191, N .i64 i)]) (fun i => [[(bi, .cells ((y.dn.flatMap fun z => z.x.cells) ++ spi).toArray 81 (0, 0))], [(bV, VO (Sl bi 0 y.dn.length ci) nb (Sl bI 0 (nb * 4096) cap) 1 pi (Sl bO 0 nb nb))], [(bO, BO (ownL nb f') eO (0, 0))], y.CC, [(u.2, .cells (nF (pi + 1) s'.nam).toArray 66 (0, 0))], [(b36, .cells (nF (pi + 1) s'.sub).toArray 66 (0, 0))]]) (fun i => i ≤ y.dn.length) (fun i => y.dn.length - i)
        0 (Nat.zero_le _) ?_ (fun i hi => ?_)
      · exact .cons rfl <| .cons rfl <| .cons rfl <| .cons rfl <| .cons rfl <| .cons rfl <| .nil
      refine T.sr <| Rl.ltS (fun h192 => ?_) (fun h192 => ?_)
      · refine Rl.nilK <| ?_
        refine T.seq ?_
        refine T.condT ?_
        refine T.skip <| Ex.K <| ?_
        refine T.seq ?_
        refine T.block ?_
        obtain ⟨zi, hzi⟩ : ∃ z, y.dn[i]? = some z := ⟨_, List.getElem?_eq_getElem h192⟩
        have hzm := List.mem_of_getElem? hzi
        have hzin : zi.1 ∈ nodes := by rw [← hmap]; exact List.mem_map_of_mem hzm
        obtain ⟨hz3, hz4, hz5, hz6⟩ := hlink zi.1 hzin
        obtain ⟨_, hza, hzb, hzc, _⟩ := hy.fin zi hzm
        have hz1 : ones zi.x.cells = true := XI.cells_ones (hone zi.1 hzin).1 hza hzc hzb
        refine T.sr <| Rl.q Qt.ia <| Rl.q (Qt.ldA (hv := by rw [Nat.zero_add]; exact seg_flat (g := fun z : NdV => z.x.cells) cells23 spi hzi)) <| Rl.e Ef.alA fun b15 hb15 => Rl.e0 (Ef.stN (hv := Vc.ofOnes hz1)) fun _ _ => Rl.nilK <| ?_
        refine T.sr <| Rl.q Qt.mv <| Rl.q Qt.fa0 <| Rl.q Qt.ld <| Rl.q Qt.ia1 <| Rl.q (Qt.ld (hv := nF_nth0 hz3)) <| Rl.q Qt.as <| Rl.nilK <| ?_
        refine T.seq ?_
        refine T.sr <| Rl.q Qt.fa <| Rl.q Qt.ld <| Rl.e (Ef.qcall (S := kindOf_q hz4)) fun _ _ => Rl.eqS (b := 2) (fun h203 => ?_) (fun h203 => ?_)
        · refine Rl.nilK <| ?_
          refine T.condT ?_
          have hl1 : zi.1.x.links = s'.sub zi.1.x.num + 2 := by rw [hz6, if_pos (by simp [RNd.isDir, h203])]
          refine T.region <| Rl.q Qt.mv <| Rl.q Qt.fa0 <| Rl.q Qt.ld <| Rl.q Qt.ia1 <| Rl.q (Qt.ld (hv := nF_nth0 hz3)) <| Rl.q (Qt.add (a := s'.sub zi.1.x.num) (b := 2)) <| Rl.q Qt.as <| ?_
          refine Rl.nil <| Ex.K <| ?_
          refine T.region <| Rl.q Qt.mv <| Rl.q Qt.fa <| Rl.q Qt.ld <| Rl.q Qt.mv <| Rl.q (Qt.eqT (h := hl1)) <| Rl.q Qt.fa0 <| Rl.q Qt.ld <| ?_
          refine Rl.e (Ef.qcall (S := must_q _ _ _)) fun _ _ => Rl.nil <| Ex.Bnormal <| Ex.K <| ?_
          refine T.region <| Rl.q (Qt.add (b := 1)) <| Rl.q Qt.mv <| Rl.nil <| ?_
          exact Ex.next (i + 1) (by omega) (by omega) (.cons rfl <| .cons rfl <| .cons rfl <| .cons rfl <| .cons rfl <| .cons rfl <| .nil)
        · refine Rl.nilK <| ?_
          refine T.condF ?_
          refine T.skip <| Ex.K <| ?_
          have hl2 : zi.1.x.links = s'.nam zi.1.x.num := by rw [hz6, if_neg (by simp [RNd.isDir, h203])]
          refine T.region <| Rl.q Qt.mv <| Rl.q Qt.fa <| Rl.q Qt.ld <| Rl.q Qt.mv <| Rl.q (Qt.eqT (h := hl2)) <| Rl.q Qt.fa0 <| Rl.q Qt.ld <| ?_
          refine Rl.e (Ef.qcall (S := must_q _ _ _)) fun _ _ => Rl.nil <| Ex.Bnormal <| Ex.K <| ?_
          refine T.region <| Rl.q (Qt.add (b := 1)) <| Rl.q Qt.mv <| Rl.nil <| ?_
          exact Ex.next (i + 1) (by omega) (by omega) (.cons rfl <| .cons rfl <| .cons rfl <| .cons rfl <| .cons rfl <| .cons rfl <| .nil)
      · refine Rl.nilK <| ?_
        refine T.seq ?_
        refine T.condF ?_
        refine T.exit <| Ex.Kexit <| Ex.Lexit <| Ex.Bhit <| Ex.ret0 (.inr rfl) ?_ rfl
        have hpost : Own 81 23 (Sl bi 0 y.dn.length ci) y.dn.length (y.dn.flatMap fun z => z.x.cells) [(bi, .cells ((y.dn.flatMap fun z => z.x.cells) ++ spi).toArray 81 (0, 0))] := ⟨hyo.1, .inr ⟨bi, ci, spi, rfl, hci, by simpa only [maxLen] using hci2, rfl, hspl⟩⟩
        exact fun w h => ⟨(y.dn, Sl bi 0 y.dn.length ci, [(bi, .cells ((y.dn.flatMap fun z => z.x.cells) ++ spi).toArray 81 (0, 0))], y.CC), ⟨hmap, hy.fin, hpost⟩, rfl, h.re⟩
    · have hr := hy.run
      rw [hrs] at hr
      obtain ⟨qs, hq, hf0, hnum, hmode, hd, hrun2⟩ := hr
      have hw := hy.win
      rw [hq, List.length_cons, List.map_cons] at hw
      obtain ⟨bq, oq, cq, Rq, hqv, hqc, hqm, hqE, hqs, hql⟩ := hw.some (Nat.succ_pos _)
      have hin : r ∈ nodes := by rw [← hy.all, hrs]; simp
      have hq0 : nth Rq (oq + 0) = some (N .u64 r.x.num) := by have := (seg_nth hqs).2 0 (by omega); rw [this]; rfl
      have hdn := congrArg List.length hy.all
      rw [List.length_append, List.length_map, hrs, List.length_cons] at hdn
      simp only [maxLen] at hqm
      rw [hqv, hqE, ← hf0]
      refine T.sr <| Rl.q Qt.mv <| Rl.q Qt.len <| Rl.q (Qt.gtT (b := 0) (h := by simp)) <| Rl.nilK <| ?_
      refine T.condT ?_
      refine T.skip <| Ex.K <| ?_
      refine T.block ?_
      refine T.sr <| Rl.q Qt.mv <| Rl.q (Qt.ia1 (i := 0)) <| Rl.q (Qt.ld (hv := hq0)) <| Rl.q Qt.as <| Rl.nilK <| ?_
      refine T.sr <| Rl.q Qt.mv <| Rl.q (Qt.to (u := Sl bq (cutAt cq 1 1 oq) qs.length (cq - 1)) (Qt.sl (cl := 1) (ch := qs.length + 1)) (by simp)) <| Rl.q Qt.as <| Rl.nilK <| ?_
      refine T.sr <| Rl.q Qt.mv <| Rl.q Qt.mv <| Rl.e (Ef.call (S := hino r hin y.ino)) fun z hz => Rl.e Ef.alA fun b10 hb10 => ?_
      have hz1 : ones (rnX r z.1.1 z.1.2 (.slice none 0 0)).cells = true := XI.cells_ones (hone r hin).1 ((hone r hin).2 _ _ _ hz).1 rfl ((hone r hin).2 _ _ _ hz).2
      refine Rl.e0 (Ef.stN (hv := Vc.ofOnes hz1)) fun _ _ => Rl.nilK <| ?_
      refine T.seq ?_
      refine T.sr <| Rl.q Qt.fa <| Rl.q Qt.ld <| Rl.e (Ef.qcall (S := kindOf_q hmode)) fun _ _ => Rl.eqS (b := 2) (fun h61 => ?_) (fun h61 => ?_)
      · refine Rl.nilK <| ?_
        refine T.condT ?_
        have hisd : r.isDir = true := by simp [RNd.isDir, h61]
        obtain ⟨hD, hE⟩ := hd hisd
        obtain ⟨bc, cp, ec, frc, Rc, hc1, hcm, hc3, hc4, hc5⟩ := hdir r hin hisd _ _ _ hz
        obtain ⟨es0, hes0⟩ := hD.dots
        refine T.sr <| Rl.q Qt.mv <| Rl.q Qt.mv <| Rl.q Qt.mv <| Rl.q Qt.ia1 <| Rl.q (Qt.ld (hv := nF_nth0 hnum)) <| Rl.e (Ef.call (S := entries_s (bV := bV) (bX := b10) (x := rnX r z.1.1 z.1.2 (.slice none 0 0)) (parent := y.s.par r.x.num) hD.ok hD.len hc3 hc1 ⟨hc4, hc5⟩ hD.ne hD.inl rfl hD.big hes0 hD.dis hD.sl) (hr := SubR.sub1 (Ck := z.2) (fun p hp => by rw [List.mem_singleton.1 hp]; exact hcm) (by (repeat first | exact List.mem_cons_self .. | apply List.mem_cons_of_mem)))) fun e he => Rl.nilK <| ?_
        obtain ⟨be, ce, spe, hev, hce, hce2, heE, hspl⟩ := he.some (by rw [hes0]; simp)
        have hdb := hD.big
        have hel : (entL r.blks.flatten).length ≤ r.blks.flatten.length := entN_le _
        rw [hev, heE]
        simp only [maxLen] at hce2
        refine T.sr <| Rl.q Qt.fa <| Rl.q Qt.ld <| Rl.q Qt.len <| Rl.q (Qt.mv (v := N .i64 0)) <| Rl.nilK <| ?_
        refine T.block ?_
        refine T.loop (α := ESt) (fun yy => [(0, Pt bV), (1, N .u64 first), (4, Sl b27 0 (pi + 1) (pi + 1)), (5, Sl u.1 0 (pi + 1) (pi + 1)), (6, Sl u.2 0 (pi + 1) (pi + 1)), (7, Sl b36 0 (pi + 1) (pi + 1)), (8, yy.qv), (9, N .u64 r.x.num), (10, Pt b10), (69, Sl be 0 (entL r.blks.flatten).length ce), (70, N .i64 (entL r.blks.flatten).length), (71, N .i64 yy.dn.length)]) (fun yy => [[(b10, XO (rnX r z.1.1 z.1.2 (Sl be 0 (entL r.blks.flatten).length ce)))], [(be, .cells (tri (entL r.blks.flatten) ++ spe).toArray 87 (0, 0))], [(bV, VO y.ino nb (Sl bI 0 (nb * 4096) cap) 1 pi (Sl bO 0 nb nb))], [(bO, BO (ownL nb r.f1) eO (0, 0))], y.E, z.2, y.CC, [(b27, .cells (bF (pi + 1) yy.s.seen).toArray 4 (0, 0))], [(u.1, .cells (nF (pi + 1) yy.s.par).toArray 66 (0, 0))], [(u.2, .cells (nF (pi + 1) yy.s.nam).toArray 66 (0, 0))], [(b36, .cells (nF (pi + 1) yy.s.sub).toArray 66 (0, 0))], yy.qE]) (fun yy => EOk first (pi + 1) (fun k => kindN (leN B (it * 4096 + (k - 1) * 256) 2)) r.x.num (entL r.blks.flatten) (nodStep r y.s qs) yy) (fun yy => yy.rs.length)
          ⟨[], (entL r.blks.flatten), { y.s with q := qs }, Sl bq (cutAt cq 1 1 oq) qs.length (cq - 1), [(bq, .cells Rq.toArray 66 (0, 0))]⟩ ⟨rfl, hE, by simp [nodStep, hisd], Win.tail hqc hqm (by rw [Nat.mul_one] at hqs; exact hqs) (by rw [Nat.mul_one] at hql; exact hql)⟩ ?_ (fun yy hyy => ?_)
        · exact .cons rfl <| .cons rfl <| .cons rfl <| .cons rfl <| .cons rfl <| .cons rfl <| .cons rfl <| .cons rfl <| .cons rfl <| .cons rfl <| .cons rfl <| .cons rfl <| .nil
        refine T.sr <| Rl.ltS (fun h72 => ?_) (fun h72 => ?_)
        · refine Rl.nilK <| ?_
          refine T.seq ?_
          refine T.condT ?_
          refine T.skip <| Ex.K <| ?_
          refine T.seq ?_
          refine T.block ?_
          obtain ⟨e1, rs1, hrs1⟩ : ∃ e l, yy.rs = e :: l := by
            cases h : yy.rs with
            | nil => have := congrArg List.length hyy.all; rw [h, List.append_nil] at this; omega
            | cons e l => exact ⟨e, l, rfl⟩
          have hidx : (entL r.blks.flatten)[yy.dn.length]? = some e1 := by rw [← hyy.all, hrs1]; simp
          have hok := hyy.ok
          rw [hrs1] at hok
          obtain ⟨hk, hok2⟩ := hok
          have hfin := hyy.fin
          rw [hrs1, List.foldl_cons] at hfin
          refine T.sr <| Rl.q Qt.ia <| Rl.q (Qt.ldA (hv := by rw [Nat.zero_add]; exact tri_seg spe hidx)) <| Rl.e Ef.alA fun b12 hb12 => Rl.e0 Ef.stN fun _ _ => Rl.nilK <| ?_
          refine T.seq ?_
          rcases dot3 e1.1 with hd1 | ⟨hd1, hd2⟩ | ⟨hd1, hd2⟩
          · have hst : bfsE r.x.num yy.s e1 = yy.s := if_pos (.inl hd1)
            refine T.sr <| Rl.q Qt.fa0 <| Rl.q Qt.ld <| Rl.q (Qt.seqT (h := hd1)) <| Rl.q Qt.mv <| Rl.gf <| Rl.gf <| Rl.gf <| Rl.q (Qt.pkT (v := .bool true)) <| ?_
            refine Rl.nilK <| ?_
            refine T.condT ?_
            refine T.exit <| Ex.Kexit <| Ex.Bhit <| Ex.K <| ?_
            refine T.region <| Rl.q (Qt.add (b := 1) (a := yy.dn.length)) <| Rl.q Qt.mv <| Rl.nil <| ?_
            exact Ex.next ⟨yy.dn ++ [e1], rs1, yy.s, yy.qv, yy.qE⟩ ⟨by rw [← hyy.all, hrs1]; simp, hst ▸ hok2, hst ▸ hfin, hyy.win⟩ (by rw [hrs1]; simp) (.cons rfl <| .cons rfl <| .cons rfl <| .cons rfl <| .cons rfl <| .cons rfl <| .cons rfl <| .cons rfl <| .cons rfl <| .cons rfl <| .cons rfl <| .cons (by rw [List.length_append]; rfl) <| .nil)
          · have hst : bfsE r.x.num yy.s e1 = yy.s := if_pos (.inr hd2)
            refine T.sr <| Rl.q Qt.fa0 <| Rl.q Qt.ld <| Rl.q (Qt.seqF (h := hd1)) <| Rl.q Qt.mv <| Rl.gt <| Rl.q Qt.fa0 <| Rl.gt <| Rl.q Qt.ld <| ?_
            refine Rl.gt <| Rl.q (Qt.seqT (h := hd2)) <| Rl.q Qt.pkF <| Rl.nilK <| ?_
            refine T.condT ?_
            refine T.exit <| Ex.Kexit <| Ex.Bhit <| Ex.K <| ?_
            refine T.region <| Rl.q (Qt.add (b := 1) (a := yy.dn.length)) <| Rl.q Qt.mv <| Rl.nil <| ?_
            exact Ex.next ⟨yy.dn ++ [e1], rs1, yy.s, yy.qv, yy.qE⟩ ⟨by rw [← hyy.all, hrs1]; simp, hst ▸ hok2, hst ▸ hfin, hyy.win⟩ (by rw [hrs1]; simp) (.cons rfl <| .cons rfl <| .cons rfl <| .cons rfl <| .cons rfl <| .cons rfl <| .cons rfl <| .cons rfl <| .cons rfl <| .cons rfl <| .cons rfl <| .cons (by rw [List.length_append]; rfl) <| .nil)
          · have hk := hk.resolve_left (not_or.2 ⟨hd1, hd2⟩)
            have hk1 := hk.pos
            have hk2 := hk.lo
            have hk3 := hk.hi
            have hk4 := hk.nb
            have hk5 := hk.sb
            have hk6 := hk.qb
            have hkc : QSpec Tryz.prog 27 [N .u16 (leN B (it * 4096 + (e1.2.1 - 1) * 256) 2)] [] (N .u64 e1.2.2) := by have := kindOf_q (leN2_lt B (it * 4096 + (e1.2.1 - 1) * 256)); rwa [show kindN _ = e1.2.2 from hk.kind] at this
            have hoe : it * 4096 + (e1.2.1 - 1) * 256 + 256 ≤ B.length := by have := Nat.mul_le_mul_right 256 (show e1.2.1 ≤ pi by omega); omega
            have hle2 := leN2_lt B (it * 4096 + (e1.2.1 - 1) * 256)
            have hst : bfsE r.x.num yy.s e1 = _ := if_neg (not_or.2 ⟨hd1, hd2⟩)
            refine T.sr <| Rl.q Qt.fa0 <| Rl.q Qt.ld <| Rl.q (Qt.seqF (h := hd1)) <| Rl.q Qt.mv <| Rl.gt <| Rl.q Qt.fa0 <| Rl.gt <| Rl.q Qt.ld <| ?_
            refine Rl.gt <| Rl.q (Qt.seqF (h := hd2)) <| Rl.q Qt.pkF <| Rl.nilK <| ?_
            refine T.condF ?_
            refine T.skip <| Ex.K <| ?_
            refine T.seq ?_
            refine T.sr <| Rl.q Qt.fa <| Rl.q Qt.ld <| Rl.q (Qt.eqF (b := 0)) <| Rl.q Qt.mv <| Rl.gt <| Rl.q Qt.fa <| Rl.gt <| Rl.q Qt.ld <| ?_
            refine Rl.gt <| Rl.q Qt.mv <| Rl.gt <| Rl.q Qt.len <| Rl.gt <| Rl.q Qt.cv <| Rl.gt <| Rl.q Qt.geF <| ?_
            refine Rl.q Qt.pkF <| Rl.q Qt.mv <| Rl.gt <| Rl.q Qt.fa <| Rl.gt <| Rl.q Qt.ld <| Rl.gt <| Rl.q Qt.mv <| ?_
            refine Rl.gt <| Rl.q Qt.ltF <| Rl.q Qt.pkF <| Rl.nilK <| ?_
            refine T.condF ?_
            refine T.skip <| Ex.K <| ?_
            refine T.sr <| Rl.q Qt.mv <| Rl.q Qt.fa <| Rl.q Qt.ld <| Rl.e (Ef.qcall (S := raw_q (k := e1.2.1) hB (by omega) (by omega) hcap2 ⟨by omega, by omega⟩ (by omega) hit hat)) fun _ _ => Rl.e (Ef.qcall (S := leBx_q (p := 0) (n := 2) (o := it * 4096 + (e1.2.1 - 1) * 256) (k := 256) hoe (by decide) (by decide) hBl (by rw [Nat.add_zero]))) fun _ _ => Rl.q Qt.cv <| Rl.e (Ef.qcall (S := hkc)) fun _ _ => ?_
            refine Rl.q Qt.as <| Rl.nilK <| ?_
            refine T.sr <| Rl.q Qt.mv <| Rl.q Qt.mv <| Rl.q Qt.fa <| Rl.q Qt.ld <| Rl.q (Qt.eqT (h := rfl)) <| Rl.q Qt.fa <| Rl.q Qt.ld <| ?_
            refine Rl.e (Ef.qcall (S := must_q _ _ _)) fun _ _ => Rl.nilK <| ?_
            refine T.sr <| Rl.q Qt.mv <| Rl.q Qt.fa <| Rl.q Qt.ld <| Rl.q Qt.ia1 <| Rl.q (Qt.ld (hv := nF_nth0 hk3)) <| Rl.q (Qt.add (a := yy.s.nam e1.2.1) (b := 1)) <| Rl.q Qt.ia1 <| ?_
            refine Rl.e0 (Ef.st (hc := nF_hc hk3)) fun _ _ => Rl.nilK <| ?_
            refine T.seq ?_
            rcases hk.cases with ⟨hc2, hsn⟩ | ⟨hc2, hsn⟩ | ⟨hc2, hsn⟩
            · rw [nF_put0 hk3]
              rw [hsn, if_pos hc2] at hst
              refine T.sr <| Rl.q Qt.mv <| Rl.q (Qt.eqT (b := 2) (h := hc2)) <| Rl.nilK <| ?_
              refine T.condT ?_
              refine T.sr <| Rl.q Qt.mv <| Rl.q Qt.mv <| Rl.q Qt.ia1 <| Rl.q (Qt.ld (hv := nF_nth0 hnum)) <| Rl.q (Qt.add (a := yy.s.sub r.x.num) (b := 1)) <| Rl.q Qt.ia1 <| Rl.e0 (Ef.st (hc := nF_hc hnum)) fun _ _ => ?_
              refine Rl.nilK <| ?_
              rw [nF_put0 hnum]
              refine T.dr [] ?_ mixed
              refine Dr.qs [0, 1, 2, 3, 4, 5, 6, 7, 8, 9] [] ?_
              refine Dq.q Qt.mv <| Dq.q Qt.mv <| Dq.q Qt.fa <| Dq.q Qt.ld <| Dq.q Qt.ia1 <| Dq.q (Qt.ld (hv := bF_nth0 hk3 hsn)) <| Dq.q Qt.notF <| Dq.q Qt.fa <| ?_
              refine Dq.q Qt.ld <| Dq.c rfl (must_q _ _ _) <| Dq.nil <| Dr.nil <| Ex.K <| ?_
              refine T.sr <| Rl.q Qt.mv <| Rl.q Qt.fa <| Rl.q Qt.ld <| Rl.q Qt.ia1 <| Rl.q (Qt.ld (hv := bF_nth0 hk3 hsn)) <| Rl.q Qt.notF <| Rl.nilK <| ?_
              refine T.condT ?_
              refine T.sdr [8, 9, 10] ?_ mixed
              refine Dr.qs [0, 1, 2, 3, 4, 6, 7] [false, false, false, true, true, true] ?_
              refine Dq.q Qt.mv <| Dq.q Qt.fa <| Dq.q Qt.ld <| Dq.p Qt.mv <| Dq.p Qt.fa <| Dq.p Qt.mv <| Dq.q Qt.ia1 <| Dq.nil <| ?_
              refine Dr.e2 5 8 ?_ ?_
              · refine Eo.q rfl Qt.ld <| ?_
                refine Dr.e 8 <| Eo.e0 rfl (Ef.st (v := .bool true) (hc := bF_hc hk3)) fun _ _ => ?_
                refine Dr.reset [10] ?_
                refine Dr.qs [9] [] ?_
                refine Dq.q Qt.ia1 <| Dq.nil <| ?_
                refine Dr.e 10 <| Eo.e0 rfl (Ef.st (hc := nF_hc hk3)) fun _ _ => Dr.nilK <| ?_
                rw [bF_put0 hk3, nF_put0 hk3]
                refine T.region <| Rl.q Qt.mv <| Rl.q Qt.fa <| Rl.q Qt.ld <| Rl.e Ef.bs fun b162 hb162 => Rl.e (Ef.apW (own := hyy.win)) fun v163 hv163 => Rl.q Qt.as <| Rl.nil <| Ex.Bnormal <| Ex.K <| ?_
                refine T.region <| Rl.q (Qt.add (b := 1) (a := yy.dn.length)) <| Rl.q Qt.mv <| Rl.nil <| ?_
                exact Ex.next ⟨yy.dn ++ [e1], rs1, ⟨upd yy.s.seen e1.2.1 true, upd yy.s.par e1.2.1 r.x.num, upd yy.s.nam e1.2.1 (yy.s.nam e1.2.1 + 1), upd yy.s.sub r.x.num (yy.s.sub r.x.num + 1), yy.s.q ++ [e1.2.1]⟩, v163.1, v163.2⟩ ⟨by rw [← hyy.all, hrs1]; simp, by rw [hst] at hok2; exact hok2, by rw [hst] at hfin; exact hfin, hv163.push⟩ (by rw [hrs1]; simp) (.cons rfl <| .cons rfl <| .cons rfl <| .cons rfl <| .cons rfl <| .cons rfl <| .cons rfl <| .cons rfl <| .cons rfl <| .cons rfl <| .cons rfl <| .cons (by rw [List.length_append]; rfl) <| .nil)
              · refine Eo.e0 rfl (Ef.st (v := .bool true) (hc := bF_hc hk3)) fun _ _ => ?_
                refine Dr.reset [10] ?_
                refine Dr.e 5 <| Eo.q rfl Qt.ld <| ?_
                refine Dr.e 9 <| Eo.q rfl Qt.ia1 <| ?_
                refine Dr.e 10 <| Eo.e0 rfl (Ef.st (hc := nF_hc hk3)) fun _ _ => Dr.nilK <| ?_
                rw [bF_put0 hk3, nF_put0 hk3]
                refine T.region <| Rl.q Qt.mv <| Rl.q Qt.fa <| Rl.q Qt.ld <| Rl.e Ef.bs fun b162 hb162 => Rl.e (Ef.apW (own := hyy.win)) fun v163 hv163 => Rl.q Qt.as <| Rl.nil <| Ex.Bnormal <| Ex.K <| ?_
                refine T.region <| Rl.q (Qt.add (b := 1) (a := yy.dn.length)) <| Rl.q Qt.mv <| Rl.nil <| ?_
                exact Ex.next ⟨yy.dn ++ [e1], rs1, ⟨upd yy.s.seen e1.2.1 true, upd yy.s.par e1.2.1 r.x.num, upd yy.s.nam e1.2.1 (yy.s.nam e1.2.1 + 1), upd yy.s.sub r.x.num (yy.s.sub r.x.num + 1), yy.s.q ++ [e1.2.1]⟩, v163.1, v163.2⟩ ⟨by rw [← hyy.all, hrs1]; simp, by rw [hst] at hok2; exact hok2, by rw [hst] at hfin; exact hfin, hv163.push⟩ (by rw [hrs1]; simp) (.cons rfl <| .cons rfl <| .cons rfl <| .cons rfl <| .cons rfl <| .cons rfl <| .cons rfl <| .cons rfl <| .cons rfl <| .cons rfl <| .cons rfl <| .cons (by rw [List.length_append]; rfl) <| .nil)
            · rw [nF_put0 hk3]
              rw [hsn, if_neg hc2] at hst
              refine T.sr <| Rl.q Qt.mv <| Rl.q (Qt.eqF (b := 2) (h := hc2)) <| Rl.nilK <| ?_
              refine T.condF ?_
              refine T.skip <| Ex.K <| ?_
              refine T.sr <| Rl.q Qt.mv <| Rl.q Qt.fa <| Rl.q Qt.ld <| Rl.q Qt.ia1 <| Rl.q (Qt.ld (hv := bF_nth0 hk3 hsn)) <| Rl.q Qt.notF <| Rl.nilK <| ?_
              refine T.condT ?_
              refine T.sdr [8, 9, 10] ?_ mixed
              refine Dr.qs [0, 1, 2, 3, 4, 6, 7] [false, false, false, true, true, true] ?_
              refine Dq.q Qt.mv <| Dq.q Qt.fa <| Dq.q Qt.ld <| Dq.p Qt.mv <| Dq.p Qt.fa <| Dq.p Qt.mv <| Dq.q Qt.ia1 <| Dq.nil <| ?_
              refine Dr.e2 5 8 ?_ ?_
              · refine Eo.q rfl Qt.ld <| ?_
                refine Dr.e 8 <| Eo.e0 rfl (Ef.st (v := .bool true) (hc := bF_hc hk3)) fun _ _ => ?_
                refine Dr.reset [10] ?_
                refine Dr.qs [9] [] ?_
                refine Dq.q Qt.ia1 <| Dq.nil <| ?_
                refine Dr.e 10 <| Eo.e0 rfl (Ef.st (hc := nF_hc hk3)) fun _ _ => Dr.nilK <| ?_
                rw [bF_put0 hk3, nF_put0 hk3]
                refine T.region <| Rl.q Qt.mv <| Rl.q Qt.fa <| Rl.q Qt.ld <| Rl.e Ef.bs fun b162 hb162 => Rl.e (Ef.apW (own := hyy.win)) fun v163 hv163 => Rl.q Qt.as <| Rl.nil <| Ex.Bnormal <| Ex.K <| ?_
                refine T.region <| Rl.q (Qt.add (b := 1) (a := yy.dn.length)) <| Rl.q Qt.mv <| Rl.nil <| ?_
                exact Ex.next ⟨yy.dn ++ [e1], rs1, ⟨upd yy.s.seen e1.2.1 true, upd yy.s.par e1.2.1 r.x.num, upd yy.s.nam e1.2.1 (yy.s.nam e1.2.1 + 1), yy.s.sub, yy.s.q ++ [e1.2.1]⟩, v163.1, v163.2⟩ ⟨by rw [← hyy.all, hrs1]; simp, by rw [hst] at hok2; exact hok2, by rw [hst] at hfin; exact hfin, hv163.push⟩ (by rw [hrs1]; simp) (.cons rfl <| .cons rfl <| .cons rfl <| .cons rfl <| .cons rfl <| .cons rfl <| .cons rfl <| .cons rfl <| .cons rfl <| .cons rfl <| .cons rfl <| .cons (by rw [List.length_append]; rfl) <| .nil)
              · refine Eo.e0 rfl (Ef.st (v := .bool true) (hc := bF_hc hk3)) fun _ _ => ?_
                refine Dr.reset [10] ?_
                refine Dr.e 5 <| Eo.q rfl Qt.ld <| ?_
                refine Dr.e 9 <| Eo.q rfl Qt.ia1 <| ?_
                refine Dr.e 10 <| Eo.e0 rfl (Ef.st (hc := nF_hc hk3)) fun _ _ => Dr.nilK <| ?_
                rw [bF_put0 hk3, nF_put0 hk3]
                refine T.region <| Rl.q Qt.mv <| Rl.q Qt.fa <| Rl.q Qt.ld <| Rl.e Ef.bs fun b162 hb162 => Rl.e (Ef.apW (own := hyy.win)) fun v163 hv163 => Rl.q Qt.as <| Rl.nil <| Ex.Bnormal <| Ex.K <| ?_
                refine T.region <| Rl.q (Qt.add (b := 1) (a := yy.dn.length)) <| Rl.q Qt.mv <| Rl.nil <| ?_
                exact Ex.next ⟨yy.dn ++ [e1], rs1, ⟨upd yy.s.seen e1.2.1 true, upd yy.s.par e1.2.1 r.x.num, upd yy.s.nam e1.2.1 (yy.s.nam e1.2.1 + 1), yy.s.sub, yy.s.q ++ [e1.2.1]⟩, v163.1, v163.2⟩ ⟨by rw [← hyy.all, hrs1]; simp, by rw [hst] at hok2; exact hok2, by rw [hst] at hfin; exact hfin, hv163.push⟩ (by rw [hrs1]; simp) (.cons rfl <| .cons rfl <| .cons rfl <| .cons rfl <| .cons rfl <| .cons rfl <| .cons rfl <| .cons rfl <| .cons rfl <| .cons rfl <| .cons rfl <| .cons (by rw [List.length_append]; rfl) <| .nil)
            · rw [nF_put0 hk3]
              rw [hsn, if_neg hc2, upd_same hsn] at hst
              refine T.sr <| Rl.q Qt.mv <| Rl.q (Qt.eqF (b := 2) (h := hc2)) <| Rl.nilK <| ?_
              refine T.condF ?_
              refine T.skip <| Ex.K <| ?_
              refine T.sr <| Rl.q Qt.mv <| Rl.q Qt.fa <| Rl.q Qt.ld <| Rl.q Qt.ia1 <| Rl.q (Qt.ld (hv := bF_nth0 hk3 hsn)) <| Rl.q Qt.notT <| Rl.nilK <| ?_
              refine T.condF ?_
              refine T.skip <| Ex.Bnormal <| Ex.K <| ?_
              refine T.region <| Rl.q (Qt.add (b := 1) (a := yy.dn.length)) <| Rl.q Qt.mv <| Rl.nil <| ?_
              exact Ex.next ⟨yy.dn ++ [e1], rs1, ⟨yy.s.seen, yy.s.par, upd yy.s.nam e1.2.1 (yy.s.nam e1.2.1 + 1), yy.s.sub, yy.s.q⟩, yy.qv, yy.qE⟩ ⟨by rw [← hyy.all, hrs1]; simp, by rw [hst] at hok2; exact hok2, by rw [hst] at hfin; exact hfin, hyy.win⟩ (by rw [hrs1]; simp) (.cons rfl <| .cons rfl <| .cons rfl <| .cons rfl <| .cons rfl <| .cons rfl <| .cons rfl <| .cons rfl <| .cons rfl <| .cons rfl <| .cons rfl <| .cons (by rw [List.length_append]; rfl) <| .nil)
        · refine Rl.nilK <| ?_
          refine T.seq ?_
          refine T.condF ?_
          refine T.exit <| Ex.Kexit <| Ex.Lexit <| Ex.Bhit <| Ex.K <| ?_
          have hnil : yy.rs = [] := by
            cases h : yy.rs with
            | nil => rfl
            | cons e l => have := congrArg List.length hyy.all; rw [h, List.length_append, List.length_cons] at this; omega
          have hfin := hyy.fin
          rw [hnil] at hfin
          rw [← hfin] at hrun2
          have hz2 : ones (rnX r z.1.1 z.1.2 (Sl be 0 (entL r.blks.flatten).length ce)).cells = true := XI.cells_ones (hone r hin).1 ((hone r hin).2 _ _ _ hz).1 rfl ((hone r hin).2 _ _ _ hz).2
          refine T.rem (C := y.CC) (by (repeat first | exact Rem.here | apply Rem.there)) ?_
          refine T.rem (C := [(be, .cells (tri (entL r.blks.flatten) ++ spe).toArray 87 (0, 0))]) (by (repeat first | exact Rem.here | apply Rem.there)) ?_
          refine T.rem (C := z.2) (by (repeat first | exact Rem.here | apply Rem.there)) ?_
          refine T.merge <| T.merge ?_
          refine T.dr [7, 8, 9, 10] ?_ mixed
          refine Dr.qs [0, 1, 2, 3, 4, 5] [true] ?_
          refine Dq.p Qt.mv <| Dq.q Qt.mv <| Dq.q Qt.nc <| Dq.q Qt.fa0 <| Dq.q Qt.ld <| Dq.q Qt.ldA <| Dq.nil <| ?_
          refine Dr.e 6 <| Eo.e rfl Ef.bs fun b171 hb171 => ?_
          refine Dr.e 7 <| Eo.e rfl (Ef.ap (own := hy.own) (hl := ⟨rfl, hz2, by simp only [maxLen]; omega, by omega⟩)) fun v172 hv172 => ?_
          refine Dr.reset [10] ?_
          refine Dr.qs [8, 9] [] ?_
          refine Dq.q Qt.nc <| Dq.q Qt.fa0 <| Dq.nil <| ?_
          refine Dr.e 10 <| Eo.e0 rfl Ef.st1 fun _ _ => Dr.nil <| Ex.Bnormal <| ?_
          have hfin2 : ∀ q ∈ y.dn ++ [(r, z.1.1, z.1.2, Sl be 0 (entL r.blks.flatten).length ce)], NdFin φ ((z.2 ++ [(be, .cells (tri (entL r.blks.flatten) ++ spe).toArray 87 (0, 0))]) ++ y.CC) q := by
            intro q hq
            rcases List.mem_append.1 hq with hq | hq
            · exact (hy.fin q hq).mono fun p hp => List.mem_append_right _ hp
            · rw [List.mem_singleton.1 hq]
              refine ⟨⟨z.2, hz, fun p hp => by simp [hp]⟩, ((hone r hin).2 _ _ _ hz).1, ((hone r hin).2 _ _ _ hz).2, rfl, ?_⟩
              rw [if_pos hisd]
              exact ⟨[(be, .cells (tri (entL r.blks.flatten) ++ spe).toArray 87 (0, 0))], ⟨tri_length _, .inr ⟨be, ce, spe, rfl, hce, by simpa only [maxLen] using hce2, rfl, hspl⟩⟩, fun p hp => by simp [List.mem_singleton.1 hp]⟩
          exact Ex.next ⟨y.dn ++ [(r, z.1.1, z.1.2, Sl be 0 (entL r.blks.flatten).length ce)], rs, yy.s, r.f1, v172.1, v172.2, (z.2 ++ [(be, .cells (tri (entL r.blks.flatten) ++ spe).toArray 87 (0, 0))]) ++ y.CC, yy.qv, yy.qE⟩ ⟨by rw [← hy.all, hrs]; simp, hrun2, hfin2, own_push (z := (r, z.1.1, z.1.2, Sl be 0 (entL r.blks.flatten).length ce)) hv172, hyy.win⟩ (by rw [hrs]; simp) (.cons rfl <| .cons rfl <| .cons rfl <| .cons rfl <| .cons rfl <| .cons rfl <| .cons rfl <| .nil)
      · refine Rl.nilK <| ?_
        refine T.condF ?_
        refine T.skip <| Ex.K <| ?_
        have hisd : r.isDir = false := by simp [RNd.isDir, h61]
        have hz2 := hz1
        rw [nodStep, if_neg (by simp [hisd])] at hrun2
        refine T.rem (C := y.CC) (by (repeat first | exact Rem.here | apply Rem.there)) ?_
        refine T.rem (C := z.2) (by (repeat first | exact Rem.here | apply Rem.there)) ?_
        refine T.merge ?_
        refine T.dr [7, 8, 9, 10] ?_ mixed
        refine Dr.qs [0, 1, 2, 3, 4, 5] [true] ?_
        refine Dq.p Qt.mv <| Dq.q Qt.mv <| Dq.q Qt.nc <| Dq.q Qt.fa0 <| Dq.q Qt.ld <| Dq.q Qt.ldA <| Dq.nil <| ?_
        refine Dr.e 6 <| Eo.e rfl Ef.bs fun b171 hb171 => ?_
        refine Dr.e 7 <| Eo.e rfl (Ef.ap (own := hy.own) (hl := ⟨rfl, hz2, by simp only [maxLen]; omega, by omega⟩)) fun v172 hv172 => ?_
        refine Dr.reset [10] ?_
        refine Dr.qs [8, 9] [] ?_
        refine Dq.q Qt.nc <| Dq.q Qt.fa0 <| Dq.nil <| ?_
        refine Dr.e 10 <| Eo.e0 rfl Ef.st1 fun _ _ => Dr.nil <| Ex.Bnormal <| ?_
        have hfin2 : ∀ q ∈ y.dn ++ [(r, z.1.1, z.1.2, .slice none 0 0)], NdFin φ (z.2 ++ y.CC) q := by
          intro q hq
          rcases List.mem_append.1 hq with hq | hq
          · exact (hy.fin q hq).mono fun p hp => List.mem_append_right _ hp
          · rw [List.mem_singleton.1 hq]
            refine ⟨⟨z.2, hz, fun p hp => by simp [hp]⟩, ((hone r hin).2 _ _ _ hz).1, ((hone r hin).2 _ _ _ hz).2, rfl, ?_⟩
            rw [if_neg (by simp [hisd])]
        exact Ex.next ⟨y.dn ++ [(r, z.1.1, z.1.2, .slice none 0 0)], rs, { y.s with q := qs }, r.f1, v172.1, v172.2, z.2 ++ y.CC, Sl bq (cutAt cq 1 1 oq) qs.length (cq - 1), [(bq, .cells Rq.toArray 66 (0, 0))]⟩ ⟨by rw [← hy.all, hrs]; simp, hrun2, hfin2, own_push (z := (r, z.1.1, z.1.2, .slice none 0 0)) hv172, Win.tail hqc (by simp only [maxLen]; omega) (by rw [Nat.mul_one] at hqs; exact hqs) (by rw [Nat.mul_one] at hql; exact hql)⟩ (by rw [hrs]; simp) (.cons rfl <| .cons rfl <| .cons rfl <| .cons rfl <| .cons rfl <| .cons rfl <| .cons rfl <| .nil)
end SL
end Go.Proofs.YtlmiekcmjpnobaaGreatDoor
namespace Go.Proofs.YtlmiekcmjpnobaaGreatDoor
open Go
namespace SL
set_option maxRecDepth 20000

def cntF (n : Nat) (p : Nat → Bool) : Nat := ((List.range n).filter fun j => !p j).length
theorem cntF_T {n : Nat} {p : Nat → Bool} (h : p n = true) : cntF (n + 1) p = cntF n p := by simp [cntF, List.range_succ, List.filter_append, h]
theorem cntF_F {n : Nat} {p : Nat → Bool} (h : p n = false) : cntF (n + 1) p = cntF n p + 1 := by simp [cntF, List.range_succ, List.filter_append, h]
theorem cntM_T {i n : Nat} {p : Nat → Bool} (hi : i < n) (h : p i = true) : cntF (min (i + 1) n) p = cntF (min i n) p := by rw [show min (i + 1) n = i + 1 by omega, show min i n = i by omega, cntF_T h]
theorem cntM_F {i n : Nat} {p : Nat → Bool} (hi : i < n) (h : p i = false) : cntF (min (i + 1) n) p = cntF (min i n) p + 1 := by rw [show min (i + 1) n = i + 1 by omega, show min i n = i by omega, cntF_F h]
theorem cntF_le (n : Nat) (p : Nat → Bool) : cntF n p ≤ n := by
  have := List.length_filter_le (fun j => !p j) (List.range n)
  rwa [List.length_range] at this
/-- The inodes that count as used. -/
def usedF (first : Nat) (l : List Nat) : Nat → Bool := fun k => (decide (1 ≤ k) && decide (k < first)) || l.contains k
def firstF (n : Nat) : Nat → Bool := fun k => decide (1 ≤ k) && decide (k < n)
theorem firstF_upd {n : Nat} (h : 1 ≤ n) : upd (firstF n) n true = firstF (n + 1) := by
  funext i; unfold upd firstF
  split
  · next e => subst e; simp [h]
  · next e => rw [show decide (i < n + 1) = decide (i < n) by rw [decide_eq_decide]; omega]
theorem usedF_nil (n : Nat) : usedF n [] = firstF n := by funext i; simp [usedF, firstF]
theorem usedF_upd {first x : Nat} {l : List Nat} : upd (usedF first l) x true = usedF first (l ++ [x]) := by
  funext i; unfold upd usedF
  split
  · next e => subst e; simp
  · next e =>
    have : (i == x) = false := by simp [e]
    rw [List.contains_append]
    simp [e, or_assoc]
theorem nF_one {a b : Nat} : nF 1 (upd (fun _ => a) 0 b) = nF 1 fun _ => b := rfl
def dirsN (l : List NdV) : Nat := (l.filter fun z => z.1.isDir).length
theorem dirsN_le (l : List NdV) : dirsN l ≤ l.length := List.length_filter_le _ _
theorem dirsN_snocT {l : List NdV} {z : NdV} (h : z.1.isDir = true) : dirsN (l ++ [z]) = dirsN l + 1 := by simp [dirsN, List.filter_append, h]
theorem dirsN_snocF {l : List NdV} {z : NdV} (h : z.1.isDir = false) : dirsN (l ++ [z]) = dirsN l := by simp [dirsN, List.filter_append, h]
abbrev numsN (l : List NdV) : List Nat := l.map fun z => z.1.x.num
structure Marks (B : List UInt8) (it tb nb pi : Nat) (f u : Nat → Bool) (nd : Nat) : Prop where
  bb : leN B 4096 4 = it + tb
  ib : leN B 4100 4 = it + tb + 1
  bm : ∀ i, i < 32768 → bitL (cut B ((it + tb) * 4096) 4096) i = (decide (nb ≤ i) || f i)
  im : ∀ i, i < pi → bitL (cut B ((it + tb + 1) * 4096) 4096) i = u (i + 1)
  zm : ∀ i, i < pi → u (i + 1) = false → leN B (it * 4096 + i * 256) 2 = 0
  zl : ∀ i, i < pi → u (i + 1) = false → leN B (it * 4096 + i * 256 + 26) 2 = 0
  fb : leN B 4108 2 = cntF 32768 fun i => decide (nb ≤ i) || f i
  fi : leN B 4110 2 = cntF pi fun i => u (i + 1)
  nd : leN B 4112 2 = nd
  sfb : leN B 1036 4 = cntF 32768 fun i => decide (nb ≤ i) || f i
  sfh : leN B 1368 4 = 0
  sfi : leN B 1040 4 = cntF pi fun i => u (i + 1)
theorem own_nth {nb i : Nat} {f : Nat → Bool} (h : i < nb) : nth (bc (ownL nb f)) (0 + i) = some (N .u8 (if f i then 1 else 0)) := by
  rw [Nat.zero_add, nth_bc (ownL_get f h)]
  split <;> rfl
theorem own_nthT {nb i : Nat} {f : Nat → Bool} (h : i < nb) (hf : f i = true) : nth (bc (ownL nb f)) (0 + i) = some (N .u8 1) := by rw [own_nth h, hf]; rfl
theorem own_nthF {nb i : Nat} {f : Nat → Bool} (h : i < nb) (hf : f i = false) : nth (bc (ownL nb f)) (0 + i) = some (N .u8 0) := by rw [own_nth h, hf]; rfl
set_option synthInstance.maxHeartbeats 400000 in
set_option synthInstance.maxSize 100000 in
set_option maxHeartbeats 16000000 in
theorem checkMarks_s {bV bI bO bi ci cap nb pi eI eO first it tb : Nat} {B : List UInt8} {RI : List Value} [RowC RI B] {frI : Nat × Nat} {f : Nat → Bool} {dn : List NdV} {spi : List Value}
    (hB : B.length = nb * 4096) (hcap : nb * 4096 ≤ cap) (hcap2 : cap < 9223372036854775808) (hnb : nb < 1000000) (hnb2 : 1 < nb) (hpi : 2 ≤ pi ∧ pi ≤ 32768) (hit : leN B 4104 4 = it) (hat : it * 4096 + pi * 256 ≤ nb * 4096) (hnbt : it + tb + 1 < nb)
    (hfirst : 1 ≤ first ∧ first ≤ pi + 1) (hf1 : leN B 1108 4 = first) (hdn : dn.length < 1000000)
    (hz : ∀ z ∈ dn, 1 ≤ z.1.x.num ∧ z.1.x.num ≤ pi ∧ z.1.x.mode < 65536 ∧ ones z.x.cells = true)
    (M : Marks B it tb nb pi f (usedF first (numsN dn)) (dirsN dn)) :
    Spec Tryz.prog 65 [Pt bV, Sl bI 1024 1024 (cap - 1024)] [[(bV, VO (Sl bi 0 dn.length ci) nb (Sl bI 0 (nb * 4096) cap) 1 pi (Sl bO 0 nb nb))], [(bI, CI RI eI frI)], [(bO, BO (ownL nb f) eO (0, 0))], [(bi, .cells ((dn.flatMap fun z => z.x.cells) ++ spi).toArray 81 (0, 0))]] []
      (fun _ : Unit => True) (fun _ => .tuple #[]) (fun _ => []) := by
  refine Spec.of Tryz.func65 rfl Tryz.ntmps65 (by simp) fun w => ?_
  obtain ⟨hpi1, hpi2⟩ := hpi
  obtain ⟨hfi1, hfi2⟩ := hfirst
  have hBl : B.length < 4611686018427387904 := by omega
  have hS : 1024 + 1024 ≤ B.length := by omega
  have hnbm : it + tb + 1 < nb := hnbt
  have hfb0 := cntF_le 32768 fun i => decide (nb ≤ i) || f i
  have hfi0 := cntF_le pi fun i => usedF first (numsN dn) (i + 1)
  have hdd := dirsN_le dn
  have hbb := blockBitmap_q (bV := bV) (bI := bI) (ino := Sl bi 0 dn.length ci) (own := Sl bO 0 nb nb) (gr := 1) (pi := pi) (eI := eI) (frI := frI) hB (by omega) hcap hcap2 (n := 0) rfl
  have hib := inodeBitmap_q (bV := bV) (bI := bI) (ino := Sl bi 0 dn.length ci) (own := Sl bO 0 nb nb) (gr := 1) (pi := pi) (eI := eI) (frI := frI) hB (by omega) hcap hcap2 (n := 0) rfl
  rw [M.bb] at hbb
  rw [M.ib] at hib
  refine T.join (α := Nat × Nat) (fun u => [(0, Pt bV), (1, Sl bI 1024 1024 (cap - 1024)), (4, Sl u.1 0 (pi + 1) (pi + 1)), (5, Sl u.2 0 1 1)]) (fun u => [[(u.1, .cells (bF (pi + 1) (firstF 1)).toArray 4 (0, 0))], [(u.2, .cells (nF 1 (fun _ => 0)).toArray 66 (0, 0))]]) (fun u => True) ?_ fun u _ => ?_
  · refine T.dr [] ?_ mixed
    refine Dr.qs [0, 1, 2, 3, 4, 5, 6, 7, 8, 9, 11, 12, 13, 14] [] ?_
    refine Dq.q Qt.mv <| Dq.q Qt.nc <| Dq.q Qt.fa <| Dq.q Qt.ld <| Dq.q Qt.mv <| Dq.q Qt.nc <| Dq.q Qt.fa <| Dq.q Qt.ld <| ?_
    refine Dq.q (Qt.toN (c := pi) Qt.mul (Nat.one_mul _)) <| Dq.q (Qt.toN (c := pi + 1) (Qt.add (b := 1))) <| Dq.q Qt.mv <| Dq.q Qt.nc <| Dq.q Qt.fa <| Dq.q Qt.ld <| Dq.nil <| ?_
    refine Dr.e2 10 15 ?_ ?_
    · refine Eo.e rfl Ef.mk fun b33 hb33 => ?_
      refine Dr.e2 15 16 ?_ ?_
      · refine Eo.e rfl Ef.mk fun b38 hb38 => ?_
        refine Dr.e 16 <| Eo.q rfl Qt.as <| ?_
        refine Dr.e 17 <| Eo.q rfl Qt.as <| Dr.nil <| ?_
        rw [bF_rep, nF_rep, show (fun _ => false) = firstF 1 from by funext i; unfold firstF; simp; omega]
        exact Ex.join (b33, b38) trivial (.cons rfl <| .cons rfl <| .cons rfl <| .cons rfl <| .nil)
      · refine Eo.q rfl Qt.as <| ?_
        refine Dr.e 15 <| Eo.e rfl Ef.mk fun b38 hb38 => ?_
        refine Dr.e 17 <| Eo.q rfl Qt.as <| Dr.nil <| ?_
        rw [bF_rep, nF_rep, show (fun _ => false) = firstF 1 from by funext i; unfold firstF; simp; omega]
        exact Ex.join (b33, b38) trivial (.cons rfl <| .cons rfl <| .cons rfl <| .cons rfl <| .nil)
    · refine Eo.e rfl Ef.mk fun b38 hb38 => ?_
      refine Dr.e 10 <| Eo.e rfl Ef.mk fun b33 hb33 => ?_
      refine Dr.e 16 <| Eo.q rfl Qt.as <| ?_
      refine Dr.e 17 <| Eo.q rfl Qt.as <| Dr.nil <| ?_
      rw [bF_rep, nF_rep, show (fun _ => false) = firstF 1 from by funext i; unfold firstF; simp; omega]
      exact Ex.join (b33, b38) trivial (.cons rfl <| .cons rfl <| .cons rfl <| .cons rfl <| .nil)
  · refine T.seq ?_
    refine T.sr <| Rl.q (Qt.as (v := N .u64 1)) <| Rl.nilK <| ?_
    refine T.block ?_
    refine T.loop (α := Nat) (fun k => [(0, Pt bV), (1, Sl bI 1024 1024 (cap - 1024)), (4, Sl u.1 0 (pi + 1) (pi + 1)), (5, Sl u.2 0 1 1), (6, N .u64 k)]) (fun k => [[(u.1, .cells (bF (pi + 1) (firstF k)).toArray 4 (0, 0))], [(u.2, .cells (nF 1 (fun _ => 0)).toArray 66 (0, 0))]]) (fun k => 1 ≤ k ∧ k ≤ first) (fun k => first - k)
      1 ⟨Nat.le_refl _, hfi1⟩ ?_ (fun k hk => ?_)
    · exact .cons rfl <| .cons rfl <| .cons rfl <| .cons rfl <| .cons rfl <| .nil
    refine T.seq ?_
    rcases Nat.lt_or_ge k first with hkf | hkf
    · obtain ⟨hk1, hk2⟩ := hk
      refine T.sr <| Rl.q Qt.mv <| Rl.q Qt.mv <| Rl.e (Ef.qcall (S := leBx_q (o := 1024) (k := 1024) (p := 84) (n := 4) hS (by decide) (by decide) hBl (by exact hf1))) fun _ _ => Rl.q (Qt.ltT (h := by omega)) <| Rl.q Qt.mv <| Rl.gt <| Rl.q Qt.mv <| ?_
      refine Rl.gt <| Rl.q Qt.mv <| Rl.gt <| Rl.q Qt.len <| Rl.gt <| Rl.q Qt.cv <| Rl.gt <| Rl.q (Qt.ltT (h := by omega)) <| ?_
      refine Rl.q Qt.pkT <| Rl.nilK <| ?_
      refine T.condT ?_
      refine T.skip <| Ex.K <| ?_
      refine T.seq ?_
      refine T.block ?_
      refine T.region <| Rl.q Qt.mv <| Rl.q Qt.mv <| Rl.q Qt.ia1 <| Rl.e0 (Ef.st (v := .bool true) (hc := bF_hc (by omega))) fun _ _ => Rl.nil <| Ex.Bnormal <| Ex.K <| ?_
      refine T.region <| Rl.q Qt.mv <| Rl.q (Qt.add (b := 1)) <| Rl.q Qt.as <| Rl.nil <| ?_
      rw [bF_put0 (by omega), firstF_upd hk1]
      exact Ex.next (k + 1) ⟨by omega, by omega⟩ (by omega) (.cons rfl <| .cons rfl <| .cons rfl <| .cons rfl <| .cons rfl <| .nil)
    · obtain ⟨hk1, hk2⟩ := hk
      refine T.sr <| Rl.q Qt.mv <| Rl.q Qt.mv <| Rl.e (Ef.qcall (S := leBx_q (o := 1024) (k := 1024) (p := 84) (n := 4) hS (by decide) (by decide) hBl (by exact hf1))) fun _ _ => Rl.q (Qt.ltF (h := by omega)) <| Rl.q Qt.mv <| Rl.gf <| Rl.gf <| Rl.gf <| Rl.gf <| Rl.gf <| Rl.q (Qt.pkF (v := .bool false)) <| ?_
      refine Rl.nilK <| ?_
      refine T.condF ?_
      refine T.exit <| Ex.Kexit <| Ex.Lexit <| Ex.Bhit <| Ex.K <| ?_
      refine T.seq ?_
      refine T.sr <| Rl.q Qt.mv <| Rl.q Qt.nc <| Rl.q Qt.fa0 <| Rl.q Qt.ld <| Rl.q Qt.len <| Rl.q (Qt.mv (v := N .i64 0)) <| Rl.nilK <| ?_
      refine T.block ?_
      have hke : k = first := by omega
      rw [hke, ← usedF_nil]
      refine T.loop (α := Nat) (fun i => [(0, Pt bV), (1, Sl bI 1024 1024 (cap - 1024)), (4, Sl u.1 0 (pi + 1) (pi + 1)), (5, Sl u.2 0 1 1), (58, Sl bi 0 dn.length ci), (59, N .i64 dn.length), (60, N .i64 i)]) (fun i => [[(u.1, .cells (bF (pi + 1) (usedF first (numsN (dn.take i)))).toArray 4 (0, 0))], [(u.2, .cells (nF 1 (fun _ => dirsN (dn.take i))).toArray 66 (0, 0))]]) (fun i => i ≤ dn.length) (fun i => dn.length - i)
        0 (Nat.zero_le _) ?_ (fun i hi => ?_)
      · exact .cons rfl <| .cons rfl <| .cons rfl <| .cons rfl <| .cons rfl <| .cons rfl <| .cons rfl <| .nil
      refine T.sr <| Rl.ltS (fun h61 => ?_) (fun h61 => ?_)
      · refine Rl.nilK <| ?_
        refine T.seq ?_
        refine T.condT ?_
        refine T.skip <| Ex.K <| ?_
        refine T.seq ?_
        refine T.block ?_
        obtain ⟨zi, hzi⟩ : ∃ z, dn[i]? = some z := ⟨_, List.getElem?_eq_getElem h61⟩
        have htk : dn.take (i + 1) = dn.take i ++ [zi] := by rw [List.take_add_one, hzi]; rfl
        obtain ⟨hz2, hz3, hz4, hz1⟩ := hz zi (List.mem_of_getElem? hzi)
        have hdt := dirsN_le (dn.take i)
        rw [List.length_take] at hdt
        refine T.sr <| Rl.q Qt.ia <| Rl.q (Qt.ldA (hv := by rw [Nat.zero_add]; exact seg_flat (g := fun z : NdV => z.x.cells) cells23 spi hzi)) <| Rl.e Ef.alA fun b8 hb8 => Rl.e0 (Ef.stN (hv := Vc.ofOnes hz1)) fun _ _ => Rl.nilK <| ?_
        refine T.sr <| Rl.q Qt.mv <| Rl.q Qt.fa0 <| Rl.q Qt.ld <| Rl.q (Qt.ia1 (i := zi.1.x.num)) <| Rl.e0 (Ef.st (v := .bool true) (hc := bF_hc (by omega))) fun _ _ => Rl.nilK <| ?_
        rw [bF_put0 (by omega), usedF_upd]
        refine T.sr <| Rl.q Qt.fa <| Rl.q Qt.ld <| Rl.e (Ef.qcall (S := kindOf_q hz4)) fun _ _ => Rl.eqS (b := 2) (fun h71 => ?_) (fun h71 => ?_)
        · refine Rl.nilK <| ?_
          refine T.condT ?_
          refine T.dr [13] ?_ mixed
          refine Dr.qs [0, 1, 2, 3, 4, 5, 6, 7, 8, 9, 10, 11, 12] [] ?_
          refine Dq.q Qt.mv <| Dq.q Qt.fa0 <| Dq.q Qt.ld <| Dq.q (Qt.sub (a := zi.1.x.num) (b := 1)) <| Dq.q Qt.mv <| Dq.q Qt.nc <| Dq.q Qt.fa <| Dq.q Qt.ld <| ?_
          refine Dq.q (Qt.toN (c := 0) (Qt.quo (a := zi.1.x.num - 1) (b := pi)) (Nat.div_eq_of_lt (by omega))) <| Dq.q (Qt.ia1 (i := 0)) <| Dq.q (Qt.ld (hv := nF_nth0 (k := 0) (by decide))) <| Dq.q (Qt.add (a := dirsN (dn.take i)) (b := 1)) <| Dq.q (Qt.ia1 (i := 0)) <| Dq.nil <| ?_
          refine Dr.e 13 <| Eo.e0 rfl (Ef.st (hc := nF_hc (k := 0) (by decide))) fun _ _ => Dr.nil <| Ex.Bnormal <| Ex.K <| ?_
          refine T.region <| Rl.q (Qt.add (b := 1)) <| Rl.q Qt.mv <| Rl.nil <| ?_
          have hzd : zi.1.isDir = true := by simp [RNd.isDir, h71]
          rw [nF_put0 (k := 0) (by decide), nF_one, ← dirsN_snocT (l := dn.take i) hzd, show numsN (dn.take i) ++ [zi.1.x.num] = numsN (dn.take i ++ [zi]) by simp [numsN], ← htk]
          exact Ex.next (i + 1) (by omega) (by omega) (.cons rfl <| .cons rfl <| .cons rfl <| .cons rfl <| .cons rfl <| .cons rfl <| .cons rfl <| .nil)
        · refine Rl.nilK <| ?_
          refine T.condF ?_
          refine T.skip <| Ex.Bnormal <| Ex.K <| ?_
          refine T.region <| Rl.q (Qt.add (b := 1)) <| Rl.q Qt.mv <| Rl.nil <| ?_
          have hzd : zi.1.isDir = false := by simp [RNd.isDir, h71]
          rw [← dirsN_snocF (l := dn.take i) hzd, show numsN (dn.take i) ++ [zi.1.x.num] = numsN (dn.take i ++ [zi]) by simp [numsN], ← htk]
          exact Ex.next (i + 1) (by omega) (by omega) (.cons rfl <| .cons rfl <| .cons rfl <| .cons rfl <| .cons rfl <| .cons rfl <| .cons rfl <| .nil)
      · refine Rl.nilK <| ?_
        refine T.seq ?_
        refine T.condF ?_
        refine T.exit <| Ex.Kexit <| Ex.Lexit <| Ex.Bhit <| Ex.K <| ?_
        rw [show dn.take i = dn from List.take_of_length_le (by omega)]
        refine T.sr <| Rl.q (Qt.as (v := N .u64 0)) <| Rl.q (Qt.as (v := N .u64 0)) <| Rl.nilK <| ?_
        refine T.seq ?_
        refine T.sr <| Rl.q (Qt.as (v := N .u64 0)) <| Rl.nilK <| ?_
        refine T.block ?_
        refine T.rounds 1 ?_
        refine T.seq ?_
        refine T.sr <| Rl.q Qt.mv <| Rl.q Qt.mv <| Rl.q Qt.nc <| Rl.q Qt.fa <| Rl.q Qt.ld <| Rl.q (Qt.ltT (a := 0)) <| Rl.nilK <| ?_
        refine T.condT ?_
        refine T.skip <| Ex.K <| ?_
        refine T.seq ?_
        refine T.block ?_
        refine T.sr <| Rl.q Qt.mv <| Rl.q Qt.mv <| Rl.q Qt.mv <| Rl.e (Ef.qcall (S := hbb)) fun _ _ => Rl.e (Ef.qcall (S := block_q (n := it + tb) (by omega) hcap hcap2)) fun _ _ => Rl.q Qt.mv <| Rl.q Qt.mv <| ?_
        refine Rl.q Qt.mv <| Rl.e (Ef.qcall (S := hib)) fun _ _ => Rl.e (Ef.qcall (S := block_q (n := it + tb + 1) (by omega) hcap hcap2)) fun _ _ => Rl.q Qt.as <| Rl.q Qt.as <| Rl.nilK <| ?_
        refine T.sr <| Rl.q (Qt.as (v := N .u64 0)) <| Rl.q (Qt.as (v := N .u64 0)) <| Rl.nilK <| ?_
        refine T.seq ?_
        refine T.sr <| Rl.q (Qt.as (v := N .u64 0)) <| Rl.nilK <| ?_
        refine T.block ?_
        refine T.loop (α := Nat) (fun i => [(0, Pt bV), (1, Sl bI 1024 1024 (cap - 1024)), (4, Sl u.1 0 (pi + 1) (pi + 1)), (5, Sl u.2 0 1 1), (9, N .u64 0), (10, N .u64 0), (11, N .u64 0), (12, Sl bI ((it + tb) * 4096) 4096 (cap - (it + tb) * 4096)), (13, Sl bI ((it + tb + 1) * 4096) 4096 (cap - (it + tb + 1) * 4096)), (14, N .u64 (cntF i (fun i => decide (nb ≤ i) || f i))), (15, N .u64 (cntF (min i pi) (fun i => usedF first (numsN dn) (i + 1)))), (16, N .u64 i)]) (fun i => [[(u.1, .cells (bF (pi + 1) (usedF first (numsN dn))).toArray 4 (0, 0))], [(u.2, .cells (nF 1 (fun _ => dirsN dn)).toArray 66 (0, 0))]]) (fun i => i ≤ 32768) (fun i => 32768 - i)
          0 (Nat.zero_le _) ?_ (fun i hi => ?_)
        · exact .cons rfl <| .cons rfl <| .cons rfl <| .cons rfl <| .cons rfl <| .cons rfl <| .cons rfl <| .cons rfl <| .cons rfl <| .cons rfl <| .cons rfl <| .cons rfl <| .nil
        refine T.seq ?_
        refine T.sr <| Rl.q Qt.mv <| Rl.ltS (b := 32768) (fun h105 => ?_) (fun h105 => ?_)
        · refine Rl.nilK <| ?_
          refine T.condT ?_
          refine T.skip <| Ex.K <| ?_
          refine T.seq ?_
          refine T.block ?_
          refine T.sr <| Rl.q Qt.mv <| Rl.q Qt.mv <| Rl.q Qt.nc <| Rl.q Qt.fa <| Rl.q Qt.ld <| Rl.q (Qt.toN (c := 0) (Qt.mul (a := 0) (b := 32768) (h := by decide)) (rfl)) <| Rl.q Qt.mv <| ?_
          refine Rl.q (Qt.toN (c := i) (Qt.add (a := 0) (b := i)) (Nat.zero_add _)) <| Rl.q Qt.as <| Rl.nilK <| ?_
          rcases (show nb ≤ i ∨ (i < nb ∧ f i = true) ∨ (i < nb ∧ f i = false) by by_cases h : nb ≤ i; exact .inl h; cases hf : f i; exact .inr (.inr ⟨by omega, rfl⟩); exact .inr (.inl ⟨by omega, rfl⟩)) with hn1 | ⟨hn1, hn2⟩ | ⟨hn1, hn2⟩
          · have hlt : i < 32768 := h105
            have hl8 : i / 8 < (cut B ((it + tb) * 4096) 4096).length := by rw [cut_length (by omega)]; omega
            have hl9 : i / 8 < (cut B ((it + tb + 1) * 4096) 4096).length := by rw [cut_length (by omega)]; omega
            have hb1 := bit_q (b := bI) (cap := cap - (it + tb) * 4096) (e := eI) (fr := frI) (RowC.cut (l := B) (o := (it + tb) * 4096) (k := 4096) (by omega)) hl8 (cut_length (by omega)) (by omega)
            have hb2 := bit_q (b := bI) (cap := cap - (it + tb + 1) * 4096) (e := eI) (fr := frI) (RowC.cut (l := B) (o := (it + tb + 1) * 4096) (k := 4096) (by omega)) hl9 (cut_length (by omega)) (by omega)
            rw [M.bm i hlt] at hb1
            have hc1 := cntF_le i (fun i => decide (nb ≤ i) || f i)
            have hc2 := cntF_le (min i pi) (fun i => usedF first (numsN dn) (i + 1))
            have hmk : (decide (nb ≤ i) || f i) = true := by simp [hn1]
            rw [hmk] at hb1
            refine T.sr <| Rl.q Qt.mv <| Rl.q Qt.mv <| Rl.q Qt.nc <| Rl.q Qt.fa <| Rl.q Qt.ld <| Rl.q (Qt.geF (b := 32768)) <| Rl.q Qt.mv <| ?_
            refine Rl.gt <| Rl.q Qt.mv <| Rl.gt <| Rl.q Qt.mv <| Rl.gt <| Rl.q Qt.nc <| Rl.gt <| Rl.q Qt.fa <| ?_
            refine Rl.gt <| Rl.q Qt.ld <| Rl.gt <| Rl.q (Qt.geT (b := nb)) <| Rl.q Qt.pkF <| Rl.q Qt.mv <| Rl.gf <| Rl.gf <| Rl.gf <| Rl.gf <| Rl.gf <| Rl.gf <| Rl.gf <| Rl.gf <| Rl.q (Qt.pkT (v := .bool true)) <| ?_
            refine Rl.q Qt.as <| Rl.nilK <| ?_
            refine T.seq ?_
            refine T.sr <| Rl.q Qt.mv <| Rl.q Qt.mv <| Rl.q Qt.nc <| Rl.q Qt.fa <| Rl.q Qt.ld <| Rl.q (Qt.ltT (b := 32768)) <| Rl.nilK <| ?_
            refine T.condT ?_
            refine T.region <| Rl.q Qt.mv <| Rl.q Qt.mv <| Rl.q Qt.mv <| Rl.e (Ef.qcall (S := hb1)) fun _ _ => Rl.q Qt.mv <| Rl.q (Qt.to (u := .bool true) (Qt.beq (p := true) (q := true) (hu := Tryz.runUnderlying4)) (rfl)) <| Rl.q Qt.mv <| ?_
            refine Rl.e (Ef.qcall (S := must_q _ _ _)) fun _ _ => Rl.nil <| Ex.K <| ?_
            refine T.seq ?_
            refine T.sr <| Rl.q Qt.mv <| Rl.q Qt.notT <| Rl.nilK <| ?_
            refine T.condF ?_
            refine T.skip <| Ex.K <| ?_
            refine T.sr <| Rl.q Qt.mv <| Rl.q Qt.mv <| Rl.q Qt.nc <| Rl.q Qt.fa <| Rl.q Qt.ld <| Rl.q (Qt.toN (c := 0) (Qt.mul (a := 0) (b := pi) (h := by rw [Nat.zero_mul]; decide)) (Nat.zero_mul _)) <| Rl.q Qt.mv <| ?_
            refine Rl.q (Qt.toN (c := i) (Qt.add (a := 0) (b := i)) (Nat.zero_add _)) <| Rl.q (Qt.toN (c := i + 1) (Qt.add (a := i) (b := 1))) <| Rl.q Qt.as <| Rl.nilK <| ?_
            rcases (show (i < pi ∧ usedF first (numsN dn) (i + 1) = false) ∨ (i < pi ∧ usedF first (numsN dn) (i + 1) = true) ∨ pi ≤ i by by_cases h : i < pi; cases hu : usedF first (numsN dn) (i + 1); exact .inl ⟨h, rfl⟩; exact .inr (.inl ⟨h, rfl⟩); exact .inr (.inr (by omega))) with ⟨hip, hu⟩ | ⟨hip, hu⟩ | hip
            · rw [M.im i hip, hu] at hb2
              have hoe : it * 4096 + i * 256 + 256 ≤ B.length := by have := Nat.mul_le_mul_right 256 (show i + 1 ≤ pi by omega); omega
              have hzm := M.zm i hip hu
              have hzl := M.zl i hip hu
              refine T.sr <| Rl.q Qt.mv <| Rl.q Qt.mv <| Rl.q Qt.nc <| Rl.q Qt.fa <| Rl.q Qt.ld <| Rl.q Qt.ltT <| Rl.nilK <| ?_
              refine T.condT ?_
              refine T.sdr [] ?_ mixed
              refine Dr.qs [0, 1, 2, 3, 4, 5, 6, 7, 8, 9, 10] [] ?_
              refine Dq.q Qt.mv <| Dq.q Qt.mv <| Dq.q Qt.mv <| Dq.c rfl (hb2) <| Dq.q Qt.mv <| Dq.q Qt.mv <| Dq.q Qt.ia1 <| Dq.q (Qt.ld (hv := bF_nth0 (by omega) hu)) <| ?_
              refine Dq.q (Qt.to (u := .bool true) (Qt.beq (p := false) (q := false) (hu := Tryz.runUnderlying4)) (rfl)) <| Dq.q Qt.mv <| Dq.c rfl (must_q _ _ _) <| Dq.nil <| Dr.nilK <| ?_
              refine T.sr <| Rl.q Qt.mv <| Rl.q Qt.mv <| Rl.q Qt.ia1 <| Rl.q (Qt.ld (hv := bF_nth0 (by omega) hu)) <| Rl.q Qt.notF <| Rl.nilK <| ?_
              refine T.condT ?_
              refine T.sr <| Rl.q Qt.mv <| Rl.q (Qt.add (a := cntF (min i pi) (fun i => usedF first (numsN dn) (i + 1))) (b := 1)) <| Rl.q Qt.as <| Rl.nilK <| ?_
              refine T.region <| Rl.q Qt.mv <| Rl.q Qt.mv <| Rl.q Qt.mv <| Rl.e (Ef.qcall (S := raw_q (k := i + 1) hB (by omega) hcap hcap2 ⟨by omega, by omega⟩ (by omega) hit hat)) fun _ _ => Rl.e (Ef.qcall (S := leBx_q (p := 0) (n := 2) (o := it * 4096 + i * 256) (k := 256) hoe (by decide) (by decide) hBl (by rw [Nat.add_zero]))) fun _ _ => Rl.q (Qt.eqT (b := 0) (h := hzm)) <| Rl.q Qt.mv <| ?_
              refine Rl.gt <| Rl.q Qt.mv <| Rl.gt <| Rl.q Qt.mv <| Rl.gt <| Rl.e (Ef.qcall (S := raw_q (k := i + 1) hB (by omega) hcap hcap2 ⟨by omega, by omega⟩ (by omega) hit hat)) fun _ _ => Rl.gt <| Rl.e (Ef.qcall (S := leBx_q (p := 26) (n := 2) (o := it * 4096 + i * 256) (k := 256) hoe (by decide) (by decide) hBl rfl)) fun _ _ => ?_
              refine Rl.gt <| Rl.q (Qt.eqT (b := 0) (h := hzl)) <| Rl.q Qt.pkT <| Rl.q Qt.mv <| Rl.e (Ef.qcall (S := must_q _ _ _)) fun _ _ => Rl.nil <| Ex.Bnormal <| Ex.K <| ?_
              refine T.region <| Rl.q Qt.mv <| Rl.q (Qt.add (b := 1)) <| Rl.q Qt.as <| Rl.nil <| ?_
              exact Ex.next (i + 1) (by omega) (by omega) (.cons rfl <| .cons rfl <| .cons rfl <| .cons rfl <| .cons rfl <| .cons rfl <| .cons rfl <| .cons rfl <| .cons rfl <| .cons (by rw [cntF_T hmk]; rfl) <| .cons (by rw [cntM_F (p := fun i => usedF first (numsN dn) (i + 1)) hip hu]; rfl) <| .cons rfl <| .nil)
            · rw [M.im i hip, hu] at hb2
              refine T.sr <| Rl.q Qt.mv <| Rl.q Qt.mv <| Rl.q Qt.nc <| Rl.q Qt.fa <| Rl.q Qt.ld <| Rl.q Qt.ltT <| Rl.nilK <| ?_
              refine T.condT ?_
              refine T.sdr [] ?_ mixed
              refine Dr.qs [0, 1, 2, 3, 4, 5, 6, 7, 8, 9, 10] [] ?_
              refine Dq.q Qt.mv <| Dq.q Qt.mv <| Dq.q Qt.mv <| Dq.c rfl (hb2) <| Dq.q Qt.mv <| Dq.q Qt.mv <| Dq.q Qt.ia1 <| Dq.q (Qt.ld (hv := bF_nth0 (by omega) hu)) <| ?_
              refine Dq.q (Qt.to (u := .bool true) (Qt.beq (p := true) (q := true) (hu := Tryz.runUnderlying4)) (rfl)) <| Dq.q Qt.mv <| Dq.c rfl (must_q _ _ _) <| Dq.nil <| Dr.nilK <| ?_
              refine T.sr <| Rl.q Qt.mv <| Rl.q Qt.mv <| Rl.q Qt.ia1 <| Rl.q (Qt.ld (hv := bF_nth0 (by omega) hu)) <| Rl.q Qt.notT <| Rl.nilK <| ?_
              refine T.condF ?_
              refine T.skip <| Ex.Bnormal <| Ex.K <| ?_
              refine T.region <| Rl.q Qt.mv <| Rl.q (Qt.add (b := 1)) <| Rl.q Qt.as <| Rl.nil <| ?_
              exact Ex.next (i + 1) (by omega) (by omega) (.cons rfl <| .cons rfl <| .cons rfl <| .cons rfl <| .cons rfl <| .cons rfl <| .cons rfl <| .cons rfl <| .cons rfl <| .cons (by rw [cntF_T hmk]; rfl) <| .cons (by rw [cntM_T (p := fun i => usedF first (numsN dn) (i + 1)) hip hu]; rfl) <| .cons rfl <| .nil)
            · refine T.sr <| Rl.q Qt.mv <| Rl.q Qt.mv <| Rl.q Qt.nc <| Rl.q Qt.fa <| Rl.q Qt.ld <| Rl.q Qt.ltF <| Rl.nilK <| ?_
              refine T.condF ?_
              refine T.skip <| Ex.Bnormal <| Ex.K <| ?_
              refine T.region <| Rl.q Qt.mv <| Rl.q (Qt.add (b := 1)) <| Rl.q Qt.as <| Rl.nil <| ?_
              exact Ex.next (i + 1) (by omega) (by omega) (.cons rfl <| .cons rfl <| .cons rfl <| .cons rfl <| .cons rfl <| .cons rfl <| .cons rfl <| .cons rfl <| .cons rfl <| .cons (by rw [cntF_T hmk]; rfl) <| .cons (by rw [show min (i + 1) pi = min i pi by omega]; rfl) <| .cons rfl <| .nil)
          · have hlt : i < 32768 := h105
            have hl8 : i / 8 < (cut B ((it + tb) * 4096) 4096).length := by rw [cut_length (by omega)]; omega
            have hl9 : i / 8 < (cut B ((it + tb + 1) * 4096) 4096).length := by rw [cut_length (by omega)]; omega
            have hb1 := bit_q (b := bI) (cap := cap - (it + tb) * 4096) (e := eI) (fr := frI) (RowC.cut (l := B) (o := (it + tb) * 4096) (k := 4096) (by omega)) hl8 (cut_length (by omega)) (by omega)
            have hb2 := bit_q (b := bI) (cap := cap - (it + tb + 1) * 4096) (e := eI) (fr := frI) (RowC.cut (l := B) (o := (it + tb + 1) * 4096) (k := 4096) (by omega)) hl9 (cut_length (by omega)) (by omega)
            rw [M.bm i hlt] at hb1
            have hc1 := cntF_le i (fun i => decide (nb ≤ i) || f i)
            have hc2 := cntF_le (min i pi) (fun i => usedF first (numsN dn) (i + 1))
            have hmk : (decide (nb ≤ i) || f i) = true := by simp [hn2]
            rw [hmk] at hb1
            refine T.sr <| Rl.q Qt.mv <| Rl.q Qt.mv <| Rl.q Qt.nc <| Rl.q Qt.fa <| Rl.q Qt.ld <| Rl.q (Qt.geF (b := 32768)) <| Rl.q Qt.mv <| ?_
            refine Rl.gt <| Rl.q Qt.mv <| Rl.gt <| Rl.q Qt.mv <| Rl.gt <| Rl.q Qt.nc <| Rl.gt <| Rl.q Qt.fa <| ?_
            refine Rl.gt <| Rl.q Qt.ld <| Rl.gt <| Rl.q (Qt.geF (b := nb)) <| Rl.q Qt.pkF <| Rl.q Qt.mv <| Rl.gt <| Rl.q Qt.mv <| ?_
            refine Rl.gt <| Rl.q Qt.nc <| Rl.gt <| Rl.q Qt.fa <| Rl.gt <| Rl.q Qt.ld <| Rl.gt <| Rl.q Qt.mv <| ?_
            refine Rl.gt <| Rl.q Qt.ia1 <| Rl.gt <| Rl.q (Qt.ld (hv := own_nthT hn1 hn2)) <| Rl.gt <| Rl.q (Qt.neT (a := 1) (b := 0)) <| Rl.q Qt.pkF <| Rl.q Qt.as <| ?_
            refine Rl.nilK <| ?_
            refine T.seq ?_
            refine T.sr <| Rl.q Qt.mv <| Rl.q Qt.mv <| Rl.q Qt.nc <| Rl.q Qt.fa <| Rl.q Qt.ld <| Rl.q (Qt.ltT (b := 32768)) <| Rl.nilK <| ?_
            refine T.condT ?_
            refine T.region <| Rl.q Qt.mv <| Rl.q Qt.mv <| Rl.q Qt.mv <| Rl.e (Ef.qcall (S := hb1)) fun _ _ => Rl.q Qt.mv <| Rl.q (Qt.to (u := .bool true) (Qt.beq (p := true) (q := true) (hu := Tryz.runUnderlying4)) (rfl)) <| Rl.q Qt.mv <| ?_
            refine Rl.e (Ef.qcall (S := must_q _ _ _)) fun _ _ => Rl.nil <| Ex.K <| ?_
            refine T.seq ?_
            refine T.sr <| Rl.q Qt.mv <| Rl.q Qt.notT <| Rl.nilK <| ?_
            refine T.condF ?_
            refine T.skip <| Ex.K <| ?_
            refine T.sr <| Rl.q Qt.mv <| Rl.q Qt.mv <| Rl.q Qt.nc <| Rl.q Qt.fa <| Rl.q Qt.ld <| Rl.q (Qt.toN (c := 0) (Qt.mul (a := 0) (b := pi) (h := by rw [Nat.zero_mul]; decide)) (Nat.zero_mul _)) <| Rl.q Qt.mv <| ?_
            refine Rl.q (Qt.toN (c := i) (Qt.add (a := 0) (b := i)) (Nat.zero_add _)) <| Rl.q (Qt.toN (c := i + 1) (Qt.add (a := i) (b := 1))) <| Rl.q Qt.as <| Rl.nilK <| ?_
            rcases (show (i < pi ∧ usedF first (numsN dn) (i + 1) = false) ∨ (i < pi ∧ usedF first (numsN dn) (i + 1) = true) ∨ pi ≤ i by by_cases h : i < pi; cases hu : usedF first (numsN dn) (i + 1); exact .inl ⟨h, rfl⟩; exact .inr (.inl ⟨h, rfl⟩); exact .inr (.inr (by omega))) with ⟨hip, hu⟩ | ⟨hip, hu⟩ | hip
            · rw [M.im i hip, hu] at hb2
              have hoe : it * 4096 + i * 256 + 256 ≤ B.length := by have := Nat.mul_le_mul_right 256 (show i + 1 ≤ pi by omega); omega
              have hzm := M.zm i hip hu
              have hzl := M.zl i hip hu
              refine T.sr <| Rl.q Qt.mv <| Rl.q Qt.mv <| Rl.q Qt.nc <| Rl.q Qt.fa <| Rl.q Qt.ld <| Rl.q Qt.ltT <| Rl.nilK <| ?_
              refine T.condT ?_
              refine T.sdr [] ?_ mixed
              refine Dr.qs [0, 1, 2, 3, 4, 5, 6, 7, 8, 9, 10] [] ?_
              refine Dq.q Qt.mv <| Dq.q Qt.mv <| Dq.q Qt.mv <| Dq.c rfl (hb2) <| Dq.q Qt.mv <| Dq.q Qt.mv <| Dq.q Qt.ia1 <| Dq.q (Qt.ld (hv := bF_nth0 (by omega) hu)) <| ?_
              refine Dq.q (Qt.to (u := .bool true) (Qt.beq (p := false) (q := false) (hu := Tryz.runUnderlying4)) (rfl)) <| Dq.q Qt.mv <| Dq.c rfl (must_q _ _ _) <| Dq.nil <| Dr.nilK <| ?_
              refine T.sr <| Rl.q Qt.mv <| Rl.q Qt.mv <| Rl.q Qt.ia1 <| Rl.q (Qt.ld (hv := bF_nth0 (by omega) hu)) <| Rl.q Qt.notF <| Rl.nilK <| ?_
              refine T.condT ?_
              refine T.sr <| Rl.q Qt.mv <| Rl.q (Qt.add (a := cntF (min i pi) (fun i => usedF first (numsN dn) (i + 1))) (b := 1)) <| Rl.q Qt.as <| Rl.nilK <| ?_
              refine T.region <| Rl.q Qt.mv <| Rl.q Qt.mv <| Rl.q Qt.mv <| Rl.e (Ef.qcall (S := raw_q (k := i + 1) hB (by omega) hcap hcap2 ⟨by omega, by omega⟩ (by omega) hit hat)) fun _ _ => Rl.e (Ef.qcall (S := leBx_q (p := 0) (n := 2) (o := it * 4096 + i * 256) (k := 256) hoe (by decide) (by decide) hBl (by rw [Nat.add_zero]))) fun _ _ => Rl.q (Qt.eqT (b := 0) (h := hzm)) <| Rl.q Qt.mv <| ?_
              refine Rl.gt <| Rl.q Qt.mv <| Rl.gt <| Rl.q Qt.mv <| Rl.gt <| Rl.e (Ef.qcall (S := raw_q (k := i + 1) hB (by omega) hcap hcap2 ⟨by omega, by omega⟩ (by omega) hit hat)) fun _ _ => Rl.gt <| Rl.e (Ef.qcall (S := leBx_q (p := 26) (n := 2) (o := it * 4096 + i * 256) (k := 256) hoe (by decide) (by decide) hBl rfl)) fun _ _ => ?_
              refine Rl.gt <| Rl.q (Qt.eqT (b := 0) (h := hzl)) <| Rl.q Qt.pkT <| Rl.q Qt.mv <| Rl.e (Ef.qcall (S := must_q _ _ _)) fun _ _ => Rl.nil <| Ex.Bnormal <| Ex.K <| ?_
              refine T.region <| Rl.q Qt.mv <| Rl.q (Qt.add (b := 1)) <| Rl.q Qt.as <| Rl.nil <| ?_
              exact Ex.next (i + 1) (by omega) (by omega) (.cons rfl <| .cons rfl <| .cons rfl <| .cons rfl <| .cons rfl <| .cons rfl <| .cons rfl <| .cons rfl <| .cons rfl <| .cons (by rw [cntF_T hmk]; rfl) <| .cons (by rw [cntM_F (p := fun i => usedF first (numsN dn) (i + 1)) hip hu]; rfl) <| .cons rfl <| .nil)
            · rw [M.im i hip, hu] at hb2
              refine T.sr <| Rl.q Qt.mv <| Rl.q Qt.mv <| Rl.q Qt.nc <| Rl.q Qt.fa <| Rl.q Qt.ld <| Rl.q Qt.ltT <| Rl.nilK <| ?_
              refine T.condT ?_
              refine T.sdr [] ?_ mixed
              refine Dr.qs [0, 1, 2, 3, 4, 5, 6, 7, 8, 9, 10] [] ?_
              refine Dq.q Qt.mv <| Dq.q Qt.mv <| Dq.q Qt.mv <| Dq.c rfl (hb2) <| Dq.q Qt.mv <| Dq.q Qt.mv <| Dq.q Qt.ia1 <| Dq.q (Qt.ld (hv := bF_nth0 (by omega) hu)) <| ?_
              refine Dq.q (Qt.to (u := .bool true) (Qt.beq (p := true) (q := true) (hu := Tryz.runUnderlying4)) (rfl)) <| Dq.q Qt.mv <| Dq.c rfl (must_q _ _ _) <| Dq.nil <| Dr.nilK <| ?_
              refine T.sr <| Rl.q Qt.mv <| Rl.q Qt.mv <| Rl.q Qt.ia1 <| Rl.q (Qt.ld (hv := bF_nth0 (by omega) hu)) <| Rl.q Qt.notT <| Rl.nilK <| ?_
              refine T.condF ?_
              refine T.skip <| Ex.Bnormal <| Ex.K <| ?_
              refine T.region <| Rl.q Qt.mv <| Rl.q (Qt.add (b := 1)) <| Rl.q Qt.as <| Rl.nil <| ?_
              exact Ex.next (i + 1) (by omega) (by omega) (.cons rfl <| .cons rfl <| .cons rfl <| .cons rfl <| .cons rfl <| .cons rfl <| .cons rfl <| .cons rfl <| .cons rfl <| .cons (by rw [cntF_T hmk]; rfl) <| .cons (by rw [cntM_T (p := fun i => usedF first (numsN dn) (i + 1)) hip hu]; rfl) <| .cons rfl <| .nil)
            · refine T.sr <| Rl.q Qt.mv <| Rl.q Qt.mv <| Rl.q Qt.nc <| Rl.q Qt.fa <| Rl.q Qt.ld <| Rl.q Qt.ltF <| Rl.nilK <| ?_
              refine T.condF ?_
              refine T.skip <| Ex.Bnormal <| Ex.K <| ?_
              refine T.region <| Rl.q Qt.mv <| Rl.q (Qt.add (b := 1)) <| Rl.q Qt.as <| Rl.nil <| ?_
              exact Ex.next (i + 1) (by omega) (by omega) (.cons rfl <| .cons rfl <| .cons rfl <| .cons rfl <| .cons rfl <| .cons rfl <| .cons rfl <| .cons rfl <| .cons rfl <| .cons (by rw [cntF_T hmk]; rfl) <| .cons (by rw [show min (i + 1) pi = min i pi by omega]; rfl) <| .cons rfl <| .nil)
          · have hlt : i < 32768 := h105
            have hl8 : i / 8 < (cut B ((it + tb) * 4096) 4096).length := by rw [cut_length (by omega)]; omega
            have hl9 : i / 8 < (cut B ((it + tb + 1) * 4096) 4096).length := by rw [cut_length (by omega)]; omega
            have hb1 := bit_q (b := bI) (cap := cap - (it + tb) * 4096) (e := eI) (fr := frI) (RowC.cut (l := B) (o := (it + tb) * 4096) (k := 4096) (by omega)) hl8 (cut_length (by omega)) (by omega)
            have hb2 := bit_q (b := bI) (cap := cap - (it + tb + 1) * 4096) (e := eI) (fr := frI) (RowC.cut (l := B) (o := (it + tb + 1) * 4096) (k := 4096) (by omega)) hl9 (cut_length (by omega)) (by omega)
            rw [M.bm i hlt] at hb1
            have hc1 := cntF_le i (fun i => decide (nb ≤ i) || f i)
            have hc2 := cntF_le (min i pi) (fun i => usedF first (numsN dn) (i + 1))
            have hmk : (decide (nb ≤ i) || f i) = false := by simp [hn2]; omega
            rw [hmk] at hb1
            refine T.sr <| Rl.q Qt.mv <| Rl.q Qt.mv <| Rl.q Qt.nc <| Rl.q Qt.fa <| Rl.q Qt.ld <| Rl.q (Qt.geF (b := 32768)) <| Rl.q Qt.mv <| ?_
            refine Rl.gt <| Rl.q Qt.mv <| Rl.gt <| Rl.q Qt.mv <| Rl.gt <| Rl.q Qt.nc <| Rl.gt <| Rl.q Qt.fa <| ?_
            refine Rl.gt <| Rl.q Qt.ld <| Rl.gt <| Rl.q (Qt.geF (b := nb)) <| Rl.q Qt.pkF <| Rl.q Qt.mv <| Rl.gt <| Rl.q Qt.mv <| ?_
            refine Rl.gt <| Rl.q Qt.nc <| Rl.gt <| Rl.q Qt.fa <| Rl.gt <| Rl.q Qt.ld <| Rl.gt <| Rl.q Qt.mv <| ?_
            refine Rl.gt <| Rl.q Qt.ia1 <| Rl.gt <| Rl.q (Qt.ld (hv := own_nthF hn1 hn2)) <| Rl.gt <| Rl.q (Qt.neF (a := 0) (b := 0)) <| Rl.q Qt.pkF <| Rl.q Qt.as <| ?_
            refine Rl.nilK <| ?_
            refine T.seq ?_
            refine T.sr <| Rl.q Qt.mv <| Rl.q Qt.mv <| Rl.q Qt.nc <| Rl.q Qt.fa <| Rl.q Qt.ld <| Rl.q (Qt.ltT (b := 32768)) <| Rl.nilK <| ?_
            refine T.condT ?_
            refine T.region <| Rl.q Qt.mv <| Rl.q Qt.mv <| Rl.q Qt.mv <| Rl.e (Ef.qcall (S := hb1)) fun _ _ => Rl.q Qt.mv <| Rl.q (Qt.to (u := .bool true) (Qt.beq (p := false) (q := false) (hu := Tryz.runUnderlying4)) (rfl)) <| Rl.q Qt.mv <| ?_
            refine Rl.e (Ef.qcall (S := must_q _ _ _)) fun _ _ => Rl.nil <| Ex.K <| ?_
            refine T.seq ?_
            refine T.sr <| Rl.q Qt.mv <| Rl.q Qt.notF <| Rl.nilK <| ?_
            refine T.condT ?_
            refine T.region <| Rl.q Qt.mv <| Rl.q (Qt.add (a := cntF i (fun i => decide (nb ≤ i) || f i)) (b := 1)) <| Rl.q Qt.as <| Rl.nil <| Ex.K <| ?_
            refine T.sr <| Rl.q Qt.mv <| Rl.q Qt.mv <| Rl.q Qt.nc <| Rl.q Qt.fa <| Rl.q Qt.ld <| Rl.q (Qt.toN (c := 0) (Qt.mul (a := 0) (b := pi) (h := by rw [Nat.zero_mul]; decide)) (Nat.zero_mul _)) <| Rl.q Qt.mv <| ?_
            refine Rl.q (Qt.toN (c := i) (Qt.add (a := 0) (b := i)) (Nat.zero_add _)) <| Rl.q (Qt.toN (c := i + 1) (Qt.add (a := i) (b := 1))) <| Rl.q Qt.as <| Rl.nilK <| ?_
            rcases (show (i < pi ∧ usedF first (numsN dn) (i + 1) = false) ∨ (i < pi ∧ usedF first (numsN dn) (i + 1) = true) ∨ pi ≤ i by by_cases h : i < pi; cases hu : usedF first (numsN dn) (i + 1); exact .inl ⟨h, rfl⟩; exact .inr (.inl ⟨h, rfl⟩); exact .inr (.inr (by omega))) with ⟨hip, hu⟩ | ⟨hip, hu⟩ | hip
            · rw [M.im i hip, hu] at hb2
              have hoe : it * 4096 + i * 256 + 256 ≤ B.length := by have := Nat.mul_le_mul_right 256 (show i + 1 ≤ pi by omega); omega
              have hzm := M.zm i hip hu
              have hzl := M.zl i hip hu
              refine T.sr <| Rl.q Qt.mv <| Rl.q Qt.mv <| Rl.q Qt.nc <| Rl.q Qt.fa <| Rl.q Qt.ld <| Rl.q Qt.ltT <| Rl.nilK <| ?_
              refine T.condT ?_
              refine T.sdr [] ?_ mixed
              refine Dr.qs [0, 1, 2, 3, 4, 5, 6, 7, 8, 9, 10] [] ?_
              refine Dq.q Qt.mv <| Dq.q Qt.mv <| Dq.q Qt.mv <| Dq.c rfl (hb2) <| Dq.q Qt.mv <| Dq.q Qt.mv <| Dq.q Qt.ia1 <| Dq.q (Qt.ld (hv := bF_nth0 (by omega) hu)) <| ?_
              refine Dq.q (Qt.to (u := .bool true) (Qt.beq (p := false) (q := false) (hu := Tryz.runUnderlying4)) (rfl)) <| Dq.q Qt.mv <| Dq.c rfl (must_q _ _ _) <| Dq.nil <| Dr.nilK <| ?_
              refine T.sr <| Rl.q Qt.mv <| Rl.q Qt.mv <| Rl.q Qt.ia1 <| Rl.q (Qt.ld (hv := bF_nth0 (by omega) hu)) <| Rl.q Qt.notF <| Rl.nilK <| ?_
              refine T.condT ?_
              refine T.sr <| Rl.q Qt.mv <| Rl.q (Qt.add (a := cntF (min i pi) (fun i => usedF first (numsN dn) (i + 1))) (b := 1)) <| Rl.q Qt.as <| Rl.nilK <| ?_
              refine T.region <| Rl.q Qt.mv <| Rl.q Qt.mv <| Rl.q Qt.mv <| Rl.e (Ef.qcall (S := raw_q (k := i + 1) hB (by omega) hcap hcap2 ⟨by omega, by omega⟩ (by omega) hit hat)) fun _ _ => Rl.e (Ef.qcall (S := leBx_q (p := 0) (n := 2) (o := it * 4096 + i * 256) (k := 256) hoe (by decide) (by decide) hBl (by rw [Nat.add_zero]))) fun _ _ => Rl.q (Qt.eqT (b := 0) (h := hzm)) <| Rl.q Qt.mv <| ?_
              refine Rl.gt <| Rl.q Qt.mv <| Rl.gt <| Rl.q Qt.mv <| Rl.gt <| Rl.e (Ef.qcall (S := raw_q (k := i + 1) hB (by omega) hcap hcap2 ⟨by omega, by omega⟩ (by omega) hit hat)) fun _ _ => Rl.gt <| Rl.e (Ef.qcall (S := leBx_q (p := 26) (n := 2) (o := it * 4096 + i * 256) (k := 256) hoe (by decide) (by decide) hBl rfl)) fun _ _ => ?_
              refine Rl.gt <| Rl.q (Qt.eqT (b := 0) (h := hzl)) <| Rl.q Qt.pkT <| Rl.q Qt.mv <| Rl.e (Ef.qcall (S := must_q _ _ _)) fun _ _ => Rl.nil <| Ex.Bnormal <| Ex.K <| ?_
              refine T.region <| Rl.q Qt.mv <| Rl.q (Qt.add (b := 1)) <| Rl.q Qt.as <| Rl.nil <| ?_
              exact Ex.next (i + 1) (by omega) (by omega) (.cons rfl <| .cons rfl <| .cons rfl <| .cons rfl <| .cons rfl <| .cons rfl <| .cons rfl <| .cons rfl <| .cons rfl <| .cons (by rw [cntF_F hmk]; rfl) <| .cons (by rw [cntM_F (p := fun i => usedF first (numsN dn) (i + 1)) hip hu]; rfl) <| .cons rfl <| .nil)
            · rw [M.im i hip, hu] at hb2
              refine T.sr <| Rl.q Qt.mv <| Rl.q Qt.mv <| Rl.q Qt.nc <| Rl.q Qt.fa <| Rl.q Qt.ld <| Rl.q Qt.ltT <| Rl.nilK <| ?_
              refine T.condT ?_
              refine T.sdr [] ?_ mixed
              refine Dr.qs [0, 1, 2, 3, 4, 5, 6, 7, 8, 9, 10] [] ?_
              refine Dq.q Qt.mv <| Dq.q Qt.mv <| Dq.q Qt.mv <| Dq.c rfl (hb2) <| Dq.q Qt.mv <| Dq.q Qt.mv <| Dq.q Qt.ia1 <| Dq.q (Qt.ld (hv := bF_nth0 (by omega) hu)) <| ?_
              refine Dq.q (Qt.to (u := .bool true) (Qt.beq (p := true) (q := true) (hu := Tryz.runUnderlying4)) (rfl)) <| Dq.q Qt.mv <| Dq.c rfl (must_q _ _ _) <| Dq.nil <| Dr.nilK <| ?_
              refine T.sr <| Rl.q Qt.mv <| Rl.q Qt.mv <| Rl.q Qt.ia1 <| Rl.q (Qt.ld (hv := bF_nth0 (by omega) hu)) <| Rl.q Qt.notT <| Rl.nilK <| ?_
              refine T.condF ?_
              refine T.skip <| Ex.Bnormal <| Ex.K <| ?_
              refine T.region <| Rl.q Qt.mv <| Rl.q (Qt.add (b := 1)) <| Rl.q Qt.as <| Rl.nil <| ?_
              exact Ex.next (i + 1) (by omega) (by omega) (.cons rfl <| .cons rfl <| .cons rfl <| .cons rfl <| .cons rfl <| .cons rfl <| .cons rfl <| .cons rfl <| .cons rfl <| .cons (by rw [cntF_F hmk]; rfl) <| .cons (by rw [cntM_T (p := fun i => usedF first (numsN dn) (i + 1)) hip hu]; rfl) <| .cons rfl <| .nil)
            · refine T.sr <| Rl.q Qt.mv <| Rl.q Qt.mv <| Rl.q Qt.nc <| Rl.q Qt.fa <| Rl.q Qt.ld <| Rl.q Qt.ltF <| Rl.nilK <| ?_
              refine T.condF ?_
              refine T.skip <| Ex.Bnormal <| Ex.K <| ?_
              refine T.region <| Rl.q Qt.mv <| Rl.q (Qt.add (b := 1)) <| Rl.q Qt.as <| Rl.nil <| ?_
              exact Ex.next (i + 1) (by omega) (by omega) (.cons rfl <| .cons rfl <| .cons rfl <| .cons rfl <| .cons rfl <| .cons rfl <| .cons rfl <| .cons rfl <| .cons rfl <| .cons (by rw [cntF_F hmk]; rfl) <| .cons (by rw [show min (i + 1) pi = min i pi by omega]; rfl) <| .cons rfl <| .nil)
        · refine Rl.nilK <| ?_
          refine T.condF ?_
          refine T.exit <| Ex.Kexit <| Ex.Lexit <| Ex.Bhit <| Ex.K <| ?_
          have hie : i = 32768 := by omega
          subst hie
          rw [show min 32768 pi = pi by omega]
          refine T.sr <| Rl.q Qt.mv <| Rl.q Qt.mv <| Rl.q Qt.mv <| Rl.e (Ef.qcall (S := part_q (low := 12) (k := 2) rfl hB hnb2 hcap hcap2 (by decide) (by decide))) fun _ _ => Rl.q Qt.mv <| Rl.q (Qt.eqT (h := M.fb)) <| Rl.q Qt.mv <| ?_
          refine Rl.e (Ef.qcall (S := must_q _ _ _)) fun _ _ => Rl.nilK <| ?_
          refine T.sr <| Rl.q Qt.mv <| Rl.q Qt.mv <| Rl.q Qt.mv <| Rl.e (Ef.qcall (S := part_q (low := 14) (k := 2) rfl hB hnb2 hcap hcap2 (by decide) (by decide))) fun _ _ => Rl.q Qt.mv <| Rl.q (Qt.eqT (h := M.fi)) <| Rl.q Qt.mv <| ?_
          refine Rl.e (Ef.qcall (S := must_q _ _ _)) fun _ _ => Rl.nilK <| ?_
          refine T.sdr [] ?_ mixed
          refine Dr.qs [0, 1, 2, 3, 4, 5, 6, 7, 8, 9, 10] [] ?_
          refine Dq.q Qt.mv <| Dq.q Qt.mv <| Dq.q Qt.mv <| Dq.c rfl (part_q (low := 16) (k := 2) rfl hB hnb2 hcap hcap2 (by decide) (by decide)) <| Dq.q Qt.mv <| Dq.q Qt.mv <| Dq.q (Qt.ia1 (i := 0)) <| Dq.q (Qt.ld (hv := nF_nth0 (k := 0) (by decide))) <| ?_
          refine Dq.q (Qt.eqT (h := M.nd)) <| Dq.q Qt.mv <| Dq.c rfl (must_q _ _ _) <| Dq.nil <| Dr.nilK <| ?_
          refine T.region <| Rl.q Qt.mv <| Rl.q Qt.mv <| Rl.q (Qt.toN (c := cntF 32768 (fun i => decide (nb ≤ i) || f i)) (Qt.add (a := 0) (b := cntF 32768 (fun i => decide (nb ≤ i) || f i))) (Nat.zero_add _)) <| Rl.q Qt.mv <| Rl.q Qt.mv <| Rl.q (Qt.toN (c := cntF pi (fun i => usedF first (numsN dn) (i + 1))) (Qt.add (a := 0) (b := cntF pi (fun i => usedF first (numsN dn) (i + 1)))) (Nat.zero_add _)) <| Rl.q Qt.as <| ?_
          refine Rl.q Qt.as <| Rl.nil <| Ex.Bnormal <| Ex.K <| ?_
          refine T.region <| Rl.q Qt.mv <| Rl.q (Qt.toN (c := 1) (Qt.add (a := 0) (b := 1) (h := by decide)) rfl) <| Rl.q Qt.as <| Rl.nil <| Ex.LR <| ?_
          refine T.seq ?_
          refine T.sr <| Rl.q Qt.mv <| Rl.q Qt.mv <| Rl.q Qt.nc <| Rl.q Qt.fa <| Rl.q Qt.ld <| Rl.q (Qt.ltF (a := 1)) <| Rl.nilK <| ?_
          refine T.condF ?_
          refine T.exit <| Ex.Kexit <| Ex.Rexit <| Ex.Bhit <| Ex.K <| ?_
          refine T.sr <| Rl.q Qt.mv <| Rl.q Qt.mv <| Rl.e (Ef.qcall (S := leBx_q (o := 1024) (k := 1024) (p := 12) (n := 4) hS (by decide) (by decide) hBl (x := cntF 32768 (fun i => decide (nb ≤ i) || f i)) (by exact M.sfb))) fun _ _ => Rl.q Qt.mv <| Rl.e (Ef.qcall (S := leBx_q (o := 1024) (k := 1024) (p := 344) (n := 4) hS (by decide) (by decide) hBl (x := 0) (by exact M.sfh))) fun _ _ => Rl.q (Qt.toN (c := 0) (Qt.shl (a := 0) (b := 32) (h := by decide)) (rfl)) <| Rl.q (Qt.toN (c := cntF 32768 (fun i => decide (nb ≤ i) || f i)) (Qt.or (a := cntF 32768 (fun i => decide (nb ≤ i) || f i)) (b := 0) (h := ⟨by simp only [lim]; omega, by decide⟩)) (Nat.or_zero _)) <| ?_
          refine Rl.q Qt.mv <| Rl.q (Qt.eqT (h := rfl)) <| Rl.q Qt.mv <| Rl.e (Ef.qcall (S := must_q _ _ _)) fun _ _ => Rl.nilK <| ?_
          refine T.sr <| Rl.q Qt.mv <| Rl.q Qt.mv <| Rl.e (Ef.qcall (S := leBx_q (o := 1024) (k := 1024) (p := 16) (n := 4) hS (by decide) (by decide) hBl (x := cntF pi (fun i => usedF first (numsN dn) (i + 1))) (by exact M.sfi))) fun _ _ => Rl.q Qt.mv <| Rl.q (Qt.eqT (h := rfl)) <| Rl.q Qt.mv <| Rl.e (Ef.qcall (S := must_q _ _ _)) fun _ _ => ?_
          refine Rl.nilK <| ?_
          refine T.sr <| Rl.q (Qt.as (v := N .u64 0)) <| Rl.nilK <| ?_
          refine T.block ?_
          refine T.rounds 1 ?_
          refine T.seq ?_
          refine T.sr <| Rl.q Qt.mv <| Rl.q Qt.mv <| Rl.q Qt.nc <| Rl.q Qt.fa <| Rl.q Qt.ld <| Rl.q (Qt.ltT (a := 0)) <| Rl.nilK <| ?_
          refine T.condT ?_
          refine T.skip <| Ex.K <| ?_
          refine T.seq ?_
          refine T.block ?_
          refine T.sr <| Rl.q Qt.mv <| Rl.q Qt.mv <| Rl.q Qt.nc <| Rl.q Qt.fa <| Rl.q Qt.ld <| Rl.q (Qt.mul (a := 0) (b := 32768) (h := by decide)) <| Rl.q Qt.as <| ?_
          refine Rl.nilK <| ?_
          refine T.sr <| Rl.q Qt.mv <| Rl.q (Qt.gtF (a := 0) (b := 0)) <| Rl.q Qt.mv <| Rl.gf <| Rl.gf <| Rl.gf <| Rl.q (Qt.pkF (v := .bool false)) <| ?_
          refine Rl.q Qt.mv <| Rl.gf <| Rl.gf <| Rl.gf <| Rl.gf <| Rl.gf <| Rl.gf <| Rl.gf <| Rl.gf <| Rl.gf <| Rl.gf <| Rl.q (Qt.pkF (v := .bool false)) <| ?_
          refine Rl.nilK <| ?_
          refine T.condF ?_
          refine T.skip <| Ex.Bnormal <| Ex.K <| ?_
          refine T.region <| Rl.q Qt.mv <| Rl.q (Qt.toN (c := 1) (Qt.add (a := 0) (b := 1) (h := by decide)) rfl) <| Rl.q Qt.as <| Rl.nil <| Ex.LR <| ?_
          refine T.seq ?_
          refine T.sr <| Rl.q Qt.mv <| Rl.q Qt.mv <| Rl.q Qt.nc <| Rl.q Qt.fa <| Rl.q Qt.ld <| Rl.q (Qt.ltF (a := 1)) <| Rl.nilK <| ?_
          refine T.condF ?_
          refine T.exit <| Ex.Kexit <| Ex.Rexit <| Ex.Bhit <| Ex.ret0 (.inr rfl) ?_ rfl
          exact fun w h => ⟨(), trivial, rfl, h.re⟩
end SL
end Go.Proofs.YtlmiekcmjpnobaaGreatDoor
namespace Go.Proofs.YtlmiekcmjpnobaaGreatDoor
open Go
namespace SL
set_option maxRecDepth 20000

structure SbOk (B : List UInt8) (nb pi fst icp rop : Nat) : Prop where
  inodes : leN B 1024 4 = pi
  blocks : leN B 1028 4 = nb
  fdata : leN B 1044 4 = 0
  log : leN B 1048 4 = 2
  per : leN B 1056 4 = 32768
  peri : leN B 1064 4 = pi
  magic : leN B 1080 2 = 61267
  state : leN B 1082 2 = 1
  rev : leN B 1100 4 = 1
  first : leN B 1108 4 = fst
  isize : leN B 1112 2 = 256
  inc : leN B 1120 4 = icp
  ro : leN B 1124 4 = rop
  high : leN B 1360 4 = 0
  i1 : icp &&& 128 = 0
  i2 : icp &&& (2 ^ IntKind.bits .u64 - 1 - 33474) = 0
  i3 : icp &&& 2 ≠ 0
  i4 : icp < 4294967296
  r1 : rop &&& 1040 = 0
theorem rep_own (nb : Nat) : (List.replicate nb (vcells (N .u8 0))).flatten = bc (ownL nb fun _ => false) := by
  rw [show vcells (N .u8 0) = [N .u8 0] from rfl, flat_rep]
  apply List.ext_getElem <;> simp [bc, ownL]
theorem numsN_of {dn : List NdV} {nodes : List RNd} (h : dn.map (·.1) = nodes) : numsN dn = nodes.map fun r => r.x.num := by subst h; simp [numsN]
theorem dirsN_of {dn : List NdV} {nodes : List RNd} (h : dn.map (·.1) = nodes) : dirsN dn = (nodes.filter fun r => r.isDir).length := by
  subst h
  rw [List.filter_map, List.length_map]
  rfl
set_option synthInstance.maxHeartbeats 400000 in
set_option synthInstance.maxSize 100000 in
set_option maxHeartbeats 16000000 in
theorem read_s {bI cap nb eI first it tb inc ro : Nat} {B : List UInt8} {RI : List Value} [RowC RI B] {frI : Nat × Nat} {φ : RNd → Value → Value → Chunk → Prop} {nodes : List RNd} {s' : BS} {f' : Nat → Bool} {r0 : RNd} {rs0 : List RNd}
    (hcap : nb * 4096 ≤ cap) (hcap2 : cap < 9223372036854775808) (L : Laid1 B nb it tb) (hnb2 : nb ≤ 32768) (htb : tb ≤ 2048) (S : SbOk B nb (tb * 16) first inc ro)
    (hfirst : 1 ≤ first ∧ first ≤ tb * 16 + 1) (hn0 : nodes = r0 :: rs0) (hr0 : kindN r0.x.mode = 2) (hlen : nodes.length < 1000000)
    (hrun : BRun first (tb * 16 + 1) (fun k => kindN (leN B (it * 4096 + (k - 1) * 256) 2)) s' f' ⟨upd (fun _ => false) 2 true, upd (fun _ => 0) 2 2, fun _ => 0, fun _ => 0, [2]⟩ (fun i => decide (i < 2) || decide (it ≤ i)) nodes)
    (hino : ∀ (bV bO eO : Nat), ∀ r ∈ nodes, ∀ ino : Value, Spec Tryz.prog 115 [Pt bV, N .u64 r.x.num] [[(bV, VO ino nb (Sl bI 0 (nb * 4096) cap) 1 (tb * 16) (Sl bO 0 nb nb))], [(bI, CI RI eI frI)]] [[(bO, BO (ownL nb r.f0) eO (0, 0))]]
      (fun z : (Value × Value) × Chunk => φ r z.1.1 z.1.2 z.2) (fun z => .agg (rnX r z.1.1 z.1.2 (.slice none 0 0)).cells.toArray) (fun z => [[(bO, BO (ownL nb r.f1) eO (0, 0))], z.2]))
    (hone : ∀ r ∈ nodes, ones [r.x.t0, r.x.t1, r.x.t2, r.x.t3, r.x.t4, r.x.t5, r.x.t6, r.x.t7] = true ∧ ∀ c a C, φ r c a C → one c = true ∧ one a = true)
    (hdir : ∀ r ∈ nodes, r.isDir = true → ∀ c a C, φ r c a C → ∃ b cp e fr R, c = Sl b 0 (r.blks.length * 4096) cp ∧ (b, .cells R.toArray e fr) ∈ C ∧ RowB R 0 (blkB r.blks) ∧ r.blks.length * 4096 ≤ cp ∧ cp < 9223372036854775808)
    (hlink : ∀ r ∈ nodes, 1 ≤ r.x.num ∧ r.x.num < tb * 16 + 1 ∧ r.x.mode < 65536 ∧ s'.sub r.x.num < 1000000000 ∧ r.x.links = if r.isDir = true then s'.sub r.x.num + 2 else s'.nam r.x.num)
    (M : Marks B it tb nb (tb * 16) f' (usedF first (nodes.map fun r => r.x.num)) (nodes.filter fun r => r.isDir).length) :
    Spec Tryz.prog 26 [Sl bI 0 (nb * 4096) cap] [[(bI, CI RI eI frI)]] []
      (fun r : (Nat × Nat) × List NdV × Value × Chunk × Chunk => r.2.1.map (·.1) = nodes ∧ (∀ z ∈ r.2.1, NdFin φ r.2.2.2.2 z) ∧ Own 81 23 r.2.2.1 r.2.1.length (r.2.1.flatMap fun z => z.x.cells) r.2.2.2.1) (fun r => Pt r.1.1)
      (fun r => [[(r.1.1, VO r.2.2.1 nb (Sl bI 0 (nb * 4096) cap) 1 (tb * 16) (Sl r.1.2 0 nb nb))], r.2.2.2.1, r.2.2.2.2]) := by
  refine Spec.of Tryz.func26 rfl Tryz.ntmps26 (by simp) fun w => ?_
  have hL1 : B.length = nb * 4096 := L.len
  have hL2 := L.hnb
  have hL3 := L.hit
  have hL4 := L.htb
  have hcap1 : nb * 4096 ≤ cap := by omega
  have hBl : B.length < 4611686018427387904 := by omega
  have hS : 1024 + 1024 ≤ B.length := by omega
  have hi4 := S.i4
  have hrol : ro < 4294967296 := by have := leN4_lt B 1124; rw [S.ro] at this; exact this
  refine T.sr <| Rl.q (Qt.as (v := .pointer none)) <| Rl.nilK <| ?_
  refine T.sr <| Rl.q Qt.mv <| Rl.q Qt.bdN <| Rl.e Ef.bxA fun b9 hb9 => Rl.q Qt.as <| Rl.nilK <| ?_
  refine T.sr <| Rl.e Ef.bs0 fun b10 hb10 => Rl.q Qt.as <| Rl.nilK <| ?_
  refine T.seq ?_
  refine T.sr <| Rl.q Qt.mv <| Rl.q Qt.len <| Rl.q (Qt.geT (a := nb * 4096) (b := 2048)) <| Rl.nilK <| ?_
  refine T.condT ?_
  refine T.region <| Rl.q Qt.mv <| Rl.q (Qt.to (u := Sl bI 1024 1024 (cap - 1024)) (Qt.sl1 (cl := 1024) (ch := 2048)) (by simp)) <| Rl.q Qt.as <| Rl.nil <| Ex.K <| ?_
  refine T.sr <| Rl.q Qt.mv <| Rl.q Qt.mv <| Rl.e (Ef.qcall (S := leBx_q (o := 1024) (k := 1024) (p := 56) (n := 2) (x := 61267) hS (by decide) (by decide) hBl (by exact S.magic))) fun _ _ => Rl.q (Qt.eqT (b := 61267)) <| Rl.q Qt.mv <| Rl.e (Ef.qcall (S := leBx_q (o := 1024) (k := 1024) (p := 56) (n := 2) (x := 61267) hS (by decide) (by decide) hBl (by exact S.magic))) fun _ _ => Rl.e (Ef.qcall (S := must_q _ _ _)) fun _ _ => ?_
  refine Rl.nilK <| ?_
  refine T.sr <| Rl.q Qt.mv <| Rl.q Qt.mv <| Rl.e (Ef.qcall (S := leBx_q (o := 1024) (k := 1024) (p := 4) (n := 4) (x := nb) hS (by decide) (by decide) hBl (by exact S.blocks))) fun _ _ => Rl.q Qt.mv <| Rl.e (Ef.qcall (S := leBx_q (o := 1024) (k := 1024) (p := 336) (n := 4) (x := 0) hS (by decide) (by decide) hBl (by exact S.high))) fun _ _ => Rl.q (Qt.toN (c := 0) (Qt.shl (a := 0) (b := 32) (h := by decide)) (rfl)) <| Rl.q (Qt.toN (c := nb) (Qt.or (a := nb) (b := 0) (h := ⟨by simp only [lim]; omega, by decide⟩)) (Nat.or_zero _)) <| ?_
  refine Rl.q Qt.nc <| Rl.q Qt.fa <| Rl.e0 Ef.st1 fun _ _ => Rl.nilK <| ?_
  refine T.sr <| Rl.q Qt.mv <| Rl.q Qt.mv <| Rl.q Qt.mv <| Rl.e (Ef.qcall (S := leBx_q (o := 1024) (k := 1024) (p := 32) (n := 4) (x := 32768) hS (by decide) (by decide) hBl (by exact S.per))) fun _ _ => Rl.q Qt.mv <| Rl.e (Ef.qcall (S := leBx_q (o := 1024) (k := 1024) (p := 40) (n := 4) (x := tb * 16) hS (by decide) (by decide) hBl (by exact S.peri))) fun _ _ => Rl.q Qt.nc <| ?_
  refine Rl.q Qt.fa <| Rl.e0 Ef.st1 fun _ _ => Rl.q Qt.nc <| Rl.q Qt.fa <| Rl.e0 Ef.st1 fun _ _ => Rl.nilK <| ?_
  refine T.sr <| Rl.q Qt.mv <| Rl.q Qt.mv <| Rl.q Qt.mv <| Rl.e (Ef.qcall (S := leBx_q (o := 1024) (k := 1024) (p := 88) (n := 2) (x := 256) hS (by decide) (by decide) hBl (by exact S.isize))) fun _ _ => Rl.q Qt.nc <| Rl.q Qt.fa <| Rl.e0 Ef.st1 fun _ _ => ?_
  refine Rl.q Qt.nc <| Rl.q Qt.fa <| Rl.e0 (Ef.st1 (v := N .u64 32)) fun _ _ => Rl.nilK <| ?_
  refine T.sr <| Rl.q Qt.mv <| Rl.e (Ef.qcall (S := leBx_q (o := 1024) (k := 1024) (p := 96) (n := 4) (x := inc) hS (by decide) (by decide) hBl (by exact S.inc))) fun _ _ => Rl.q Qt.mv <| Rl.e (Ef.qcall (S := leBx_q (o := 1024) (k := 1024) (p := 100) (n := 4) (x := ro) hS (by decide) (by decide) hBl (by exact S.ro))) fun _ _ => Rl.q Qt.as <| Rl.q Qt.as <| Rl.nilK <| ?_
  refine T.seq ?_
  refine T.sr <| Rl.q Qt.mv <| Rl.q Qt.mv <| Rl.q (Qt.toN (c := 0) (Qt.and (a := inc) (b := 128)) (S.i1)) <| Rl.q (Qt.neF (a := 0) (b := 0)) <| Rl.q Qt.nc <| Rl.q Qt.fa <| Rl.e0 Ef.st1 fun _ _ => ?_
  refine Rl.nilK <| ?_
  refine T.sr <| Rl.q Qt.mv <| Rl.q Qt.nc <| Rl.q Qt.fa <| Rl.q Qt.ld <| Rl.nilK <| ?_
  refine T.condF ?_
  refine T.skip <| Ex.K <| ?_
  refine T.sr <| Rl.q Qt.mv <| Rl.q Qt.mv <| Rl.e (Ef.qcall (S := leBx_q (o := 1024) (k := 1024) (p := 76) (n := 4) (x := 1) hS (by decide) (by decide) hBl (by exact S.rev))) fun _ _ => Rl.q (Qt.eqT (b := 1)) <| Rl.q Qt.mv <| Rl.e (Ef.qcall (S := leBx_q (o := 1024) (k := 1024) (p := 76) (n := 4) (x := 1) hS (by decide) (by decide) hBl (by exact S.rev))) fun _ _ => Rl.e (Ef.qcall (S := must_q _ _ _)) fun _ _ => ?_
  refine Rl.nilK <| ?_
  refine T.sr <| Rl.q Qt.mv <| Rl.q Qt.mv <| Rl.e (Ef.qcall (S := leBx_q (o := 1024) (k := 1024) (p := 24) (n := 4) (x := 2) hS (by decide) (by decide) hBl (by exact S.log))) fun _ _ => Rl.q (Qt.eqT (b := 2)) <| Rl.q Qt.mv <| Rl.e (Ef.qcall (S := leBx_q (o := 1024) (k := 1024) (p := 24) (n := 4) (x := 2) hS (by decide) (by decide) hBl (by exact S.log))) fun _ _ => Rl.e (Ef.qcall (S := must_q _ _ _)) fun _ _ => ?_
  refine Rl.nilK <| ?_
  refine T.sr <| Rl.q Qt.mv <| Rl.q Qt.mv <| Rl.e (Ef.qcall (S := leBx_q (o := 1024) (k := 1024) (p := 20) (n := 4) (x := 0) hS (by decide) (by decide) hBl (by exact S.fdata))) fun _ _ => Rl.q (Qt.eqT (b := 0)) <| Rl.q Qt.mv <| Rl.e (Ef.qcall (S := leBx_q (o := 1024) (k := 1024) (p := 20) (n := 4) (x := 0) hS (by decide) (by decide) hBl (by exact S.fdata))) fun _ _ => Rl.e (Ef.qcall (S := must_q _ _ _)) fun _ _ => ?_
  refine Rl.nilK <| ?_
  refine T.sr <| Rl.q Qt.mv <| Rl.q Qt.mv <| Rl.q (Qt.toN (c := 0) (Qt.andNot (a := inc) (b := 33474)) (S.i2)) <| Rl.q (Qt.eqT (a := 0) (b := 0)) <| Rl.q Qt.mv <| Rl.gt <| Rl.q Qt.mv <| ?_
  refine Rl.gt <| Rl.q (Qt.and (a := inc) (b := 2)) <| Rl.gt <| Rl.q (Qt.neT (b := 0) (h := S.i3)) <| Rl.q Qt.pkT <| Rl.q Qt.mv <| Rl.e (Ef.qcall (S := must_q _ _ _)) fun _ _ => Rl.nilK <| ?_
  refine T.sr <| Rl.q Qt.mv <| Rl.q Qt.mv <| Rl.q (Qt.toN (c := 0) (Qt.and (a := ro) (b := 1040)) (S.r1)) <| Rl.q (Qt.eqT (a := 0) (b := 0)) <| Rl.q Qt.mv <| Rl.e (Ef.qcall (S := must_q _ _ _)) fun _ _ => Rl.nilK <| ?_
  refine T.sdr [] ?_ mixed
  refine Dr.qs [0, 1, 2, 3, 4, 5, 6, 7, 8, 9, 10, 11, 12, 13, 14, 15, 16, 17] [] ?_
  refine Dq.q Qt.mv <| Dq.q Qt.mv <| Dq.q Qt.nc <| Dq.q Qt.fa <| Dq.q Qt.ld <| Dq.q (Qt.geT (b := 8) (a := 32768)) <| Dq.q Qt.mv <| Dq.gt <| Dq.q Qt.mv <| ?_
  refine Dq.gt <| Dq.q Qt.nc <| Dq.gt <| Dq.q Qt.fa <| Dq.gt <| Dq.q Qt.ld <| Dq.gt <| Dq.q (Qt.leT (b := 32768) (a := 32768)) <| ?_
  refine Dq.q Qt.pkT <| Dq.q Qt.mv <| Dq.q Qt.nc <| Dq.q Qt.fa <| Dq.q Qt.ld <| Dq.c rfl (must_q _ _ _) <| Dq.nil <| Dr.nilK <| ?_
  refine T.sdr [] ?_ mixed
  refine Dr.qs [0, 1, 2, 3, 4, 5, 6, 7, 8, 9, 10, 11, 12, 13, 14, 15, 16, 17] [] ?_
  refine Dq.q Qt.mv <| Dq.q Qt.mv <| Dq.q Qt.nc <| Dq.q Qt.fa <| Dq.q Qt.ld <| Dq.q (Qt.geT (b := 1) (a := tb * 16)) <| Dq.q Qt.mv <| Dq.gt <| Dq.q Qt.mv <| ?_
  refine Dq.gt <| Dq.q Qt.nc <| Dq.gt <| Dq.q Qt.fa <| Dq.gt <| Dq.q Qt.ld <| Dq.gt <| Dq.q (Qt.leT (b := 32768) (a := tb * 16)) <| ?_
  refine Dq.q Qt.pkT <| Dq.q Qt.mv <| Dq.q Qt.nc <| Dq.q Qt.fa <| Dq.q Qt.ld <| Dq.c rfl (must_q _ _ _) <| Dq.nil <| Dr.nilK <| ?_
  refine T.sdr [] ?_ mixed
  refine Dr.qsM [0, 1, 2, 3, 4, 5, 6, 7, 8, 9, 10, 11, 12, 13, 14, 15, 16, 17, 18, 19, 20, 21, 22, 23, 24, 25, 26, 27, 28, 29, 30] [] ?_
  refine Dq.q Qt.mv <| Dq.q Qt.mv <| Dq.q Qt.nc <| Dq.q Qt.fa <| Dq.q Qt.ld <| Dq.q (Qt.geT (b := 128) (a := 256)) <| Dq.q Qt.mv <| Dq.gt <| Dq.q Qt.mv <| ?_
  refine Dq.gt <| Dq.q Qt.nc <| Dq.gt <| Dq.q Qt.fa <| Dq.gt <| Dq.q Qt.ld <| Dq.gt <| Dq.q (Qt.leT (b := 4096) (a := 256)) <| ?_
  refine Dq.q Qt.pkT <| Dq.q Qt.mv <| Dq.gt <| Dq.q Qt.mv <| Dq.gt <| Dq.q Qt.nc <| Dq.gt <| Dq.q Qt.fa <| ?_
  refine Dq.gt <| Dq.q Qt.ld <| Dq.gt <| Dq.q Qt.mv <| Dq.gt <| Dq.q Qt.nc <| Dq.gt <| Dq.q Qt.fa <| ?_
  refine Dq.gt <| Dq.q Qt.ld <| Dq.gt <| Dq.q (Qt.toN (c := 255) (Qt.sub (a := 256) (b := 1)) (rfl)) <| Dq.gt <| Dq.q (Qt.toN (c := 0) (Qt.and (a := 256) (b := 255) (h := by decide)) (rfl)) <| Dq.gt <| Dq.q (Qt.eqT (a := 0) (b := 0)) <| ?_
  refine Dq.q Qt.pkT <| Dq.q Qt.mv <| Dq.q Qt.nc <| Dq.q Qt.fa <| Dq.q Qt.ld <| Dq.c rfl (must_q _ _ _) <| Dq.nil <| Dr.nilK <| ?_
  refine T.sdr [] ?_ mixed
  refine Dr.qs [0, 1, 2, 3, 4, 5, 6, 7, 8, 9, 10, 11, 12, 13, 14, 15, 16, 17] [] ?_
  refine Dq.q Qt.mv <| Dq.q Qt.mv <| Dq.q Qt.nc <| Dq.q Qt.fa <| Dq.q Qt.ld <| Dq.q (Qt.geT (b := 32) (a := 32)) <| Dq.q Qt.mv <| Dq.gt <| Dq.q Qt.mv <| ?_
  refine Dq.gt <| Dq.q Qt.nc <| Dq.gt <| Dq.q Qt.fa <| Dq.gt <| Dq.q Qt.ld <| Dq.gt <| Dq.q (Qt.leT (b := 64) (a := 32)) <| ?_
  refine Dq.q Qt.pkT <| Dq.q Qt.mv <| Dq.q Qt.nc <| Dq.q Qt.fa <| Dq.q Qt.ld <| Dq.c rfl (must_q _ _ _) <| Dq.nil <| Dr.nilK <| ?_
  refine T.sdr [] ?_ mixed
  refine Dr.qsM [0, 1, 2, 3, 4, 5, 6, 7, 8, 9, 10, 11, 12, 13, 14, 15, 16, 17, 18, 19, 20, 21] [] ?_
  refine Dq.q Qt.mv <| Dq.q Qt.mv <| Dq.q Qt.nc <| Dq.q Qt.fa <| Dq.q Qt.ld <| Dq.q (Qt.geT (b := 1) (a := nb)) <| Dq.q Qt.mv <| Dq.gt <| Dq.q Qt.mv <| ?_
  refine Dq.gt <| Dq.q Qt.nc <| Dq.gt <| Dq.q Qt.fa <| Dq.gt <| Dq.q Qt.ld <| Dq.gt <| Dq.q Qt.mv <| ?_
  refine Dq.gt <| Dq.q Qt.len <| Dq.gt <| Dq.q (Qt.cv (a := nb * 4096)) <| Dq.gt <| Dq.q (Qt.toN (c := nb) (Qt.quo (a := nb * 4096) (b := 4096)) (by omega)) <| Dq.gt <| Dq.q (Qt.leT (h := Nat.le_refl _) (a := nb) (b := nb)) <| ?_
  refine Dq.q Qt.pkT <| Dq.q Qt.mv <| Dq.q Qt.nc <| Dq.q Qt.fa <| Dq.q Qt.ld <| Dq.c rfl (must_q _ _ _) <| Dq.nil <| Dr.nilK <| ?_
  refine T.seq ?_
  refine T.sr <| Rl.q Qt.mv <| Rl.q Qt.nc <| Rl.q Qt.fa <| Rl.q Qt.ld <| Rl.q Qt.len <| Rl.q (Qt.gtF (b := 0)) <| Rl.nilK <| ?_
  refine T.condF ?_
  refine T.skip <| Ex.K <| ?_
  refine T.sdr [18] ?_ mixed
  refine Dr.qs [0, 1, 2, 3, 4, 5, 6, 7, 8, 9, 10, 11, 12, 13, 14, 15, 16, 17] [] ?_
  refine Dq.q Qt.mv <| Dq.q Qt.mv <| Dq.q Qt.nc <| Dq.q Qt.fa <| Dq.q Qt.ld <| Dq.q Qt.mv <| Dq.q Qt.nc <| Dq.q Qt.fa <| ?_
  refine Dq.q Qt.ld <| Dq.q (Qt.add (a := nb) (b := 32768)) <| Dq.q (Qt.toN (c := nb + 32767) (Qt.sub (a := nb + 32768) (b := 1))) <| Dq.q Qt.mv <| Dq.q Qt.nc <| Dq.q Qt.fa <| Dq.q Qt.ld <| Dq.q (Qt.toN (c := 1) (Qt.quo (a := nb + 32767) (b := 32768)) (by omega)) <| ?_
  refine Dq.q Qt.nc <| Dq.q Qt.fa <| Dq.nil <| ?_
  refine Dr.e 18 <| Eo.e0 rfl Ef.st1 fun _ _ => Dr.nilK <| ?_
  refine T.sdr [] ?_ mixed
  refine Dr.qs [0, 1, 2, 3, 4, 5, 6, 7, 8, 9, 10, 11, 12, 13, 14, 15] [] ?_
  refine Dq.q Qt.mv <| Dq.q Qt.mv <| Dq.c rfl (leBx_q (o := 1024) (k := 1024) (p := 0) (n := 4) (x := tb * 16) hS (by decide) (by decide) hBl (by exact S.inodes)) <| Dq.q Qt.mv <| Dq.q Qt.nc <| Dq.q Qt.fa <| Dq.q Qt.ld <| Dq.q Qt.mv <| ?_
  refine Dq.q Qt.nc <| Dq.q Qt.fa <| Dq.q Qt.ld <| Dq.q (Qt.toN (c := tb * 16) (Qt.mul (a := 1) (b := tb * 16)) (Nat.one_mul _)) <| Dq.q (Qt.eqT (h := rfl) (a := tb * 16) (b := tb * 16)) <| Dq.q Qt.mv <| Dq.c rfl (leBx_q (o := 1024) (k := 1024) (p := 0) (n := 4) (x := tb * 16) hS (by decide) (by decide) hBl (by exact S.inodes)) <| Dq.c rfl (must_q _ _ _) <| ?_
  refine Dq.nil <| Dr.nilK <| ?_
  refine T.sr <| Rl.q Qt.mv <| Rl.q Qt.mv <| Rl.e (Ef.qcall (S := leBx_q (o := 1024) (k := 1024) (p := 58) (n := 2) (x := 1) hS (by decide) (by decide) hBl (by exact S.state))) fun _ _ => Rl.q (Qt.toN (c := 1) (Qt.and (a := 1) (b := 1) (h := by decide)) (rfl)) <| Rl.q (Qt.eqT (a := 1) (b := 1)) <| Rl.q Qt.mv <| Rl.e (Ef.qcall (S := leBx_q (o := 1024) (k := 1024) (p := 58) (n := 2) (x := 1) hS (by decide) (by decide) hBl (by exact S.state))) fun _ _ => ?_
  refine Rl.e (Ef.qcall (S := must_q _ _ _)) fun _ _ => Rl.nilK <| ?_
  refine T.seq ?_
  refine T.sr <| Rl.q Qt.mv <| Rl.q Qt.nc <| Rl.q Qt.fa <| Rl.q Qt.ld <| Rl.q Qt.len <| Rl.q (Qt.gtF (b := 0)) <| Rl.nilK <| ?_
  refine T.condF ?_
  refine T.skip <| Ex.K <| ?_
  refine T.sr <| Rl.q Qt.mv <| Rl.q Qt.mv <| Rl.q Qt.nc <| Rl.q Qt.fa <| Rl.q Qt.ld <| Rl.e Ef.mk fun b275 hb275 => Rl.q Qt.nc <| ?_
  refine Rl.q Qt.fa <| Rl.e0 Ef.st1 fun _ _ => Rl.nilK <| ?_
  rw [show (List.replicate nb (vcells (N .u8 0))).flatten = bc (ownL nb fun _ => false) from rep_own nb]
  refine T.sr <| Rl.q Qt.mv <| Rl.q Qt.mv <| Rl.e (Ef.call (S := readGroups_s (bV := b9) (bI := bI) (bO := b275) (eO := 5) (ino := .slice none 0 0) (cap := cap) (eI := eI) (frI := frI) L ⟨hcap1, hcap2⟩)) fun _ _ => Rl.nilK <| ?_
  refine T.sr <| Rl.q Qt.mv <| Rl.q Qt.mv <| Rl.e (Ef.qcall (S := leBx_q (o := 1024) (k := 1024) (p := 84) (n := 4) (x := first) hS (by decide) (by decide) hBl (by exact S.first))) fun _ _ => Rl.e (Ef.call (S := readTree_s (eO := 5) hL1 hcap1 hcap2 (by omega) (by omega) ⟨by omega, by omega⟩ L.itab (by omega) ⟨by omega, by omega⟩ hn0 hr0 hlen hrun (hino b9 b275 5) hone hdir (fun r hr => (hlink r hr).2))) fun z hz => Rl.nilK <| ?_
  obtain ⟨hz1, hz2, hz3⟩ := hz
  have hdl : z.1.length = nodes.length := by rw [← hz1, List.length_map]
  obtain ⟨bi, ci, spi, hiv, hci, hci2, hiE, hspl⟩ := hz3.some (by rw [hdl, hn0]; simp)
  rw [hiv, hiE]
  have hdn : z.1.length < 1000000 := by omega
  have hzz : ∀ q ∈ z.1, 1 ≤ q.1.x.num ∧ q.1.x.num ≤ tb * 16 ∧ q.1.x.mode < 65536 ∧ ones q.x.cells = true := fun q hq => by
    have hqn : q.1 ∈ nodes := by rw [← hz1]; exact List.mem_map_of_mem hq
    obtain ⟨h1, h2, h3, _⟩ := hlink q.1 hqn
    obtain ⟨_, h5, h6, h7, _⟩ := hz2 q hq
    exact ⟨h1, by omega, h3, XI.cells_ones (hone q.1 hqn).1 h5 h7 h6⟩
  have hM : Marks B it tb nb (tb * 16) f' (usedF first (numsN z.1)) (dirsN z.1) := by rw [numsN_of hz1, dirsN_of hz1]; exact M
  refine T.sr <| Rl.q Qt.mv <| Rl.q Qt.mv <| Rl.e (Ef.call (S := checkMarks_s (it := it) (tb := tb) (first := first) (eO := 5) hL1 hcap1 hcap2 (by omega) (by omega) ⟨by omega, by omega⟩ L.itab (by omega) (by omega) hfirst (by exact S.first) hdn hzz hM)) fun _ _ => Rl.nilK <| ?_
  refine T.sr <| Rl.q Qt.mv <| Rl.q Qt.as <| Rl.nilK <| ?_
  refine T.ret <| Ex.ret1 (.inl rfl) rfl ?_ rfl
  exact fun w h => ⟨((b9, b275), z.1, Sl bi 0 z.1.length ci, [(bi, .cells ((z.1.flatMap fun z => z.x.cells) ++ spi).toArray 81 (0, 0))], z.2.2.2), ⟨hz1, hz2, hz3.1, .inr ⟨bi, ci, spi, rfl, hci, hci2, rfl, hspl⟩⟩, rfl, h.re⟩
end SL
end Go.Proofs.YtlmiekcmjpnobaaGreatDoor
namespace Go.Proofs.YtlmiekcmjpnobaaGreatDoor
open Go
namespace SL
set_option maxRecDepth 20000

structure NI where
  mode : Nat
  uid : Nat
  gid : Nat
  t0 : Value
  t1 : Value
  t2 : Value
  t3 : Value
  t4 : Value
  t5 : Value
  t6 : Value
  t7 : Value
  maj : Nat
  min : Nat
  data : Value
  link : List UInt8
  xat : Value
  names : Value
  kids : Value
abbrev NI.cells (x : NI) : List Value := [N .u16 x.mode, N .u32 x.uid, N .u32 x.gid, x.t0, x.t1, x.t2, x.t3, x.t4, x.t5, x.t6, x.t7, N .u32 x.maj, N .u32 x.min, x.data, SV x.link, x.xat, x.names, x.kids]
/-- A slice of one-cell elements, its row lying in a chunk. -/
def Arr (C : Chunk) (v : Value) (cells : List Value) : Prop := (v = .slice none 0 0 ∧ cells = []) ∨
  (0 < cells.length ∧ ∃ (b c e : Nat) (R : List Value) (fr : Nat × Nat), v = Sl b 0 cells.length c ∧ (b, .cells R.toArray e fr) ∈ C ∧ seg R 0 cells.length = some cells ∧ cells.length ≤ c ∧ c ≤ 9223372036854775807)
theorem Own.arr {e k : Nat} {v : Value} {xs : List Value} {E C : Chunk} (h : Own e 1 v k xs E) (hk : 0 < k) (hs : ∀ p ∈ E, p ∈ C) : Arr C v xs := by
  obtain ⟨b, cap, sp, hv, h1, h2, hE, h3⟩ := h.some hk
  have hx : xs.length = k := by have := h.1; omega
  subst hx
  refine .inr ⟨hk, b, cap, e, xs ++ sp, (0, 0), hv, hs _ (by rw [hE]; exact List.mem_singleton.2 rfl), seg_app _ _, h1, by simpa only [maxLen] using h2⟩
theorem Own.arr0 {e k : Nat} {v : Value} {xs : List Value} {E C : Chunk} (h : Own e 1 v k xs E) (hs : ∀ p ∈ E, p ∈ C) (h0 : k = 0 → v = .slice none 0 0) : Arr C v xs := by
  by_cases hk : k = 0
  · have := h.1
    exact .inl ⟨h0 hk, List.eq_nil_of_length_eq_zero (by omega)⟩
  · exact h.arr (by omega) hs
theorem Arr.mono {C C' : Chunk} {v : Value} {xs : List Value} (h : Arr C v xs) (hs : ∀ p ∈ C, p ∈ C') : Arr C' v xs := by
  rcases h with h | ⟨h0, b, c, e, R, fr, h1, h2, h3⟩
  · exact .inl h
  · exact .inr ⟨h0, b, c, e, R, fr, h1, hs _ h2, h3⟩
theorem Arr.form {C : Chunk} {v : Value} {xs : List Value} (h : Arr C v xs) : ∃ p c, v = .slice p xs.length c := by
  rcases h with ⟨h, h0⟩ | ⟨h0, b, c, e, R, fr, h1, _⟩
  · exact ⟨none, 0, by rw [h, h0]; rfl⟩
  · exact ⟨_, _, h1⟩
theorem Arr.one {C : Chunk} {v : Value} {xs : List Value} (h : Arr C v xs) : SL.one v = true := by
  obtain ⟨p, c, h⟩ := h.form
  rw [h]; rfl
abbrev Dl := List (List UInt8 × Nat)
def posN : Dl → List UInt8 → Nat
  | [], _ => 0
  | d :: l, nm => if Op.bytesLess d.1 nm = true then posN l nm + 1 else 0
def hasN (l : Dl) (nm : List UInt8) : Bool := match l[posN l nm]? with
  | some d => decide (d.1 = nm)
  | none => false
theorem posN_le : ∀ (l : Dl) (nm : List UInt8), posN l nm ≤ l.length
  | [], _ => Nat.le_refl _
  | d :: l, nm => by
    unfold posN
    split
    · have := posN_le l nm; rw [List.length_cons]; omega
    · exact Nat.zero_le _
theorem posN_lt : ∀ {l : Dl} {nm : List UInt8} {i : Nat}, i < posN l nm → ∃ d, l[i]? = some d ∧ Op.bytesLess d.1 nm = true
  | [], _, _, h => absurd h (Nat.not_lt_zero _)
  | d :: l, nm, i, h => by
    unfold posN at h
    split at h
    · next hd =>
      cases i with
      | zero => exact ⟨d, rfl, hd⟩
      | succ i => exact posN_lt (l := l) (nm := nm) (i := i) (by omega)
    · exact absurd h (Nat.not_lt_zero _)
theorem posN_at : ∀ {l : Dl} {nm : List UInt8}, posN l nm < l.length → ∃ d, l[posN l nm]? = some d ∧ Op.bytesLess d.1 nm = false
  | [], _, h => absurd h (Nat.not_lt_zero _)
  | d :: l, nm, h => by
    unfold posN at h ⊢
    split
    · next hd =>
      rw [if_pos hd] at h
      exact posN_at (l := l) (nm := nm) (by rw [List.length_cons] at h; omega)
    · next hd => exact ⟨d, rfl, by simpa using hd⟩
theorem hasN_lt {l : Dl} {nm : List UInt8} (h : hasN l nm = true) : posN l nm < l.length := by
  unfold hasN at h
  cases hd : l[posN l nm]? with
  | none => rw [hd] at h; exact nomatch h
  | some d => exact (List.getElem?_eq_some_iff.1 hd).1
abbrev nmV (l : Dl) : List Value := l.map fun d => SV d.1
abbrev kdV (l : Dl) : List Value := l.map fun d => N .i64 d.2
theorem place4 {dl : Dl} {nm : List UInt8} {i : Nat} (hi : i ≤ posN dl nm) : i < posN dl nm ∨ (i = posN dl nm ∧ i < dl.length ∧ hasN dl nm = true) ∨ (i = posN dl nm ∧ i < dl.length ∧ hasN dl nm = false) ∨ (i = posN dl nm ∧ i = dl.length) := by
  have := posN_le dl nm
  cases hasN dl nm <;> simp only [Bool.false_eq_true, and_false, and_true, reduceCtorEq] <;> omega
theorem InB.of_mem {C : Chunk} {H : Heap} {b : Nat} {o : Obj} (h : (b, o) ∈ C) : InB H [C] b o := ⟨.inr (by simpa using h)⟩
set_option maxHeartbeats 4000000
theorem kind_q {x : NI} (hm : x.mode < 65536) : QSpec Tryz.prog 36 [.agg x.cells.toArray] [] (N .u16 (x.mode &&& 61440)) := by
  refine QSpec.of Tryz.func36 rfl Tryz.ntmps36 (by simp) fun w => ?_
  refine T.sr <| Rl.e Ef.bxA fun b1 hb1 => Rl.q (Qt.as (v := N .u16 0)) <| Rl.nilK <| ?_
  refine T.sr <| Rl.q Qt.fa0 <| Rl.q Qt.ld <| Rl.q (Qt.and (a := x.mode) (b := 61440) (h := ⟨by simp only [lim]; omega, by decide⟩)) <| Rl.q Qt.as <| Rl.nilK <| ?_
  refine T.ret <| Ex.ret1 (.inl rfl) rfl ?_ rfl
  exact fun w h => ⟨rfl, h.grown⟩

theorem place_q {x : NI} {C : Chunk} {dl : Dl} {nm : List UInt8} (hN : Arr C x.names (nmV dl)) (hl : dl.length < 1000000) :
    QSpec Tryz.prog 38 [.agg x.cells.toArray, SV nm] [C] (.tuple #[N .i64 (posN dl nm), .bool (hasN dl nm)]) := by
  refine QSpec.of Tryz.func38 rfl Tryz.ntmps38 (by simp) fun w => ?_
  have hple := posN_le dl nm
  have hfrm : ∃ p c, x.names = .slice p dl.length c := by obtain ⟨p, c, h⟩ := hN.form; exact ⟨p, c, by rw [h, List.length_map]⟩
  obtain ⟨pp, cc, hfr⟩ := hfrm
  have hrow : 0 < dl.length → ∃ (b c e : Nat) (R : List Value) (fr : Nat × Nat), x.names = Sl b 0 dl.length c ∧ (∀ H, InB H [C] b (.cells R.toArray e fr)) ∧ ∀ i d, dl[i]? = some d → nth R (0 + i) = some (SV d.1) := fun h0 => by
    rcases hN with ⟨_, h⟩ | ⟨_, b, c, e, R, fr, h1, h2, h3, _⟩
    · have := congrArg List.length h; rw [List.length_map, List.length_nil] at this; omega
    · refine ⟨b, c, e, R, fr, by rw [h1, List.length_map], fun H => InB.of_mem h2, fun i d hd => ?_⟩
      rw [(seg_nth h3).2 i (by rw [List.length_map]; exact (List.getElem?_eq_some_iff.1 hd).1), List.getElem?_map, hd]; rfl
  refine T.sr <| Rl.e Ef.bxA fun b2 hb2 => Rl.q (Qt.as (v := N .i64 0)) <| Rl.q (Qt.as (v := .bool false)) <| Rl.nilK <| ?_
  refine T.sr <| Rl.q (Qt.as (v := N .i64 0)) <| Rl.nilK <| ?_
  refine T.seq ?_
  refine T.block ?_
  refine T.loop (α := Nat) (fun i => [(1, SV nm), (2, Pt b2), (4, N .i64 0), (5, .bool false), (6, N .i64 i)]) (fun i => [[(b2, .cells x.cells.toArray 59 (0, 0))]]) (fun i => i ≤ posN dl nm) (fun i => posN dl nm - i)
    0 (Nat.zero_le _) ?_ (fun i hi => ?_)
  · exact .cons rfl <| .cons rfl <| .cons rfl <| .cons rfl <| .cons rfl <| .nil
  refine T.seq ?_
  rcases place4 hi with hi1 | ⟨hi1, hi2, hh⟩ | ⟨hi1, hi2, hh⟩ | ⟨hi1, hi2⟩
  · obtain ⟨d, hd, hdl⟩ := posN_lt hi1
    obtain ⟨bn, cn, en, Rn, frn, hnv, iB, hnr⟩ := hrow (by omega)
    have hdr := hnr i d hd
    refine T.sr <| Rl.q Qt.mv <| Rl.q Qt.fa <| Rl.q (Qt.to (u := .slice pp dl.length cc) Qt.ld (hfr)) <| Rl.q Qt.len <| Rl.q (Qt.ltT (h := by omega) (b := dl.length)) <| Rl.q Qt.mv <| Rl.gt <| Rl.q Qt.fa <| ?_
    refine Rl.gt <| Rl.q (Qt.to (u := Sl bn 0 dl.length cn) Qt.ld (hnv)) <| Rl.gt <| Rl.q Qt.mv <| Rl.gt <| Rl.q (Qt.ia1 (k := dl.length)) <| Rl.gt <| Rl.q (Qt.ld (hv := hdr)) <| ?_
    refine Rl.gt <| Rl.q Qt.mv <| Rl.gt <| Rl.q (Qt.sltT (h := hdl)) <| Rl.q Qt.pkT <| Rl.nilK <| ?_
    refine T.condT ?_
    refine T.skip <| Ex.K <| ?_
    refine T.block ?_
    refine T.region <| Rl.q Qt.mv <| Rl.q (Qt.add (b := 1)) <| Rl.q Qt.as <| Rl.nil <| Ex.Bnormal <| ?_
    exact Ex.next (i + 1) (by omega) (by omega) (.cons rfl <| .cons rfl <| .cons rfl <| .cons rfl <| .cons rfl <| .nil)
  · subst hi1
    obtain ⟨d, hd, hdl⟩ := posN_at hi2
    obtain ⟨bn, cn, en, Rn, frn, hnv, iB, hnr⟩ := hrow (by omega)
    have hdr := hnr _ d hd
    have hdn : d.1 = nm := by unfold hasN at hh; rw [hd] at hh; simpa using hh
    refine T.sr <| Rl.q Qt.mv <| Rl.q Qt.fa <| Rl.q (Qt.to (u := .slice pp dl.length cc) Qt.ld (hfr)) <| Rl.q Qt.len <| Rl.q (Qt.ltT (h := by omega) (b := dl.length)) <| Rl.q Qt.mv <| Rl.gt <| Rl.q Qt.fa <| ?_
    refine Rl.gt <| Rl.q (Qt.to (u := Sl bn 0 dl.length cn) Qt.ld (hnv)) <| Rl.gt <| Rl.q Qt.mv <| Rl.gt <| Rl.q (Qt.ia1 (k := dl.length)) <| Rl.gt <| Rl.q (Qt.ld (hv := hdr)) <| ?_
    refine Rl.gt <| Rl.q Qt.mv <| Rl.gt <| Rl.q (Qt.sltF (h := hdl)) <| Rl.q Qt.pkT <| Rl.nilK <| ?_
    refine T.condF ?_
    refine T.exit <| Ex.Kexit <| Ex.Lexit <| Ex.Bhit <| Ex.K <| ?_
    refine T.sdr [] ?_ mixed
    refine Dr.qs [0, 1, 2, 3, 4, 5, 6, 7, 8, 9, 10, 11, 12, 13, 14, 15, 16] [] ?_
    refine Dq.q Qt.mv <| Dq.q Qt.mv <| Dq.q Qt.fa <| Dq.q (Qt.to (u := .slice pp dl.length cc) Qt.ld (hfr)) <| Dq.q Qt.len <| Dq.q (Qt.ltT (h := by omega) (b := dl.length)) <| Dq.q Qt.mv <| Dq.gt <| Dq.q Qt.fa <| ?_
    refine Dq.gt <| Dq.q (Qt.to (u := Sl bn 0 dl.length cn) Qt.ld (hnv)) <| Dq.gt <| Dq.q Qt.mv <| Dq.gt <| Dq.q (Qt.ia1 (k := dl.length)) <| Dq.gt <| Dq.q (Qt.ld (hv := hdr)) <| ?_
    refine Dq.gt <| Dq.q Qt.mv <| Dq.gt <| Dq.q (Qt.seqT (h := hdn)) <| Dq.q Qt.pkT <| Dq.q Qt.as <| Dq.q Qt.as <| Dq.nil <| Dr.nilK <| ?_
    refine T.ret <| Ex.ret2 (.inl rfl) rfl rfl ?_ rfl
    exact fun w h => ⟨by rw [hh], h.grown⟩
  · subst hi1
    obtain ⟨d, hd, hdl⟩ := posN_at hi2
    obtain ⟨bn, cn, en, Rn, frn, hnv, iB, hnr⟩ := hrow (by omega)
    have hdr := hnr _ d hd
    have hdn : d.1 ≠ nm := by unfold hasN at hh; rw [hd] at hh; simpa using hh
    refine T.sr <| Rl.q Qt.mv <| Rl.q Qt.fa <| Rl.q (Qt.to (u := .slice pp dl.length cc) Qt.ld (hfr)) <| Rl.q Qt.len <| Rl.q (Qt.ltT (h := by omega) (b := dl.length)) <| Rl.q Qt.mv <| Rl.gt <| Rl.q Qt.fa <| ?_
    refine Rl.gt <| Rl.q (Qt.to (u := Sl bn 0 dl.length cn) Qt.ld (hnv)) <| Rl.gt <| Rl.q Qt.mv <| Rl.gt <| Rl.q (Qt.ia1 (k := dl.length)) <| Rl.gt <| Rl.q (Qt.ld (hv := hdr)) <| ?_
    refine Rl.gt <| Rl.q Qt.mv <| Rl.gt <| Rl.q (Qt.sltF (h := hdl)) <| Rl.q Qt.pkT <| Rl.nilK <| ?_
    refine T.condF ?_
    refine T.exit <| Ex.Kexit <| Ex.Lexit <| Ex.Bhit <| Ex.K <| ?_
    refine T.sdr [] ?_ mixed
    refine Dr.qs [0, 1, 2, 3, 4, 5, 6, 7, 8, 9, 10, 11, 12, 13, 14, 15, 16] [] ?_
    refine Dq.q Qt.mv <| Dq.q Qt.mv <| Dq.q Qt.fa <| Dq.q (Qt.to (u := .slice pp dl.length cc) Qt.ld (hfr)) <| Dq.q Qt.len <| Dq.q (Qt.ltT (h := by omega) (b := dl.length)) <| Dq.q Qt.mv <| Dq.gt <| Dq.q Qt.fa <| ?_
    refine Dq.gt <| Dq.q (Qt.to (u := Sl bn 0 dl.length cn) Qt.ld (hnv)) <| Dq.gt <| Dq.q Qt.mv <| Dq.gt <| Dq.q (Qt.ia1 (k := dl.length)) <| Dq.gt <| Dq.q (Qt.ld (hv := hdr)) <| ?_
    refine Dq.gt <| Dq.q Qt.mv <| Dq.gt <| Dq.q (Qt.seqF (h := hdn)) <| Dq.q Qt.pkT <| Dq.q Qt.as <| Dq.q Qt.as <| Dq.nil <| Dr.nilK <| ?_
    refine T.ret <| Ex.ret2 (.inl rfl) rfl rfl ?_ rfl
    exact fun w h => ⟨by rw [hh], h.grown⟩
  · subst hi1
    have hnh : hasN dl nm = false := by unfold hasN; rw [hi2, List.getElem?_eq_none (Nat.le_refl _)]
    refine T.sr <| Rl.q Qt.mv <| Rl.q Qt.fa <| Rl.q (Qt.to (u := .slice pp dl.length cc) Qt.ld (hfr)) <| Rl.q Qt.len <| Rl.q (Qt.ltF (h := by omega) (b := dl.length)) <| Rl.q Qt.mv <| Rl.gf <| Rl.gf <| Rl.gf <| Rl.gf <| Rl.gf <| Rl.gf <| Rl.gf <| Rl.q (Qt.pkF (v := .bool false)) <| ?_
    refine Rl.nilK <| ?_
    refine T.condF ?_
    refine T.exit <| Ex.Kexit <| Ex.Lexit <| Ex.Bhit <| Ex.K <| ?_
    refine T.sdr [] ?_ mixed
    refine Dr.qs [0, 1, 2, 3, 4, 5, 6, 7, 8, 9, 10, 11, 12, 13, 14, 15, 16] [] ?_
    refine Dq.q Qt.mv <| Dq.q Qt.mv <| Dq.q Qt.fa <| Dq.q (Qt.to (u := .slice pp dl.length cc) Qt.ld (hfr)) <| Dq.q Qt.len <| Dq.q (Qt.ltF (h := by omega) (b := dl.length)) <| Dq.q Qt.mv <| Dq.gf <| Dq.gf <| Dq.gf <| Dq.gf <| Dq.gf <| Dq.gf <| Dq.gf <| Dq.q (Qt.pkF (v := .bool false)) <| ?_
    refine Dq.q Qt.as <| Dq.q Qt.as <| Dq.nil <| Dr.nilK <| ?_
    refine T.ret <| Ex.ret2 (.inl rfl) rfl rfl ?_ rfl
    exact fun w h => ⟨by rw [hnh], h.grown⟩

theorem kid_q {x : NI} {C : Chunk} {dl : Dl} {nm : List UInt8} (hN : Arr C x.names (nmV dl)) (hK : Arr C x.kids (kdV dl)) (hl : dl.length < 1000000) (h : hasN dl nm = true) {k : Nat} (hk : (dl[posN dl nm]?).map (·.2) = some k) :
    QSpec Tryz.prog 19 [.agg x.cells.toArray, SV nm] [C] (.tuple #[N .i64 k, .bool true]) := by
  refine QSpec.of Tryz.func19 rfl Tryz.ntmps19 (by simp) fun w => ?_
  have hlt := hasN_lt h
  obtain ⟨d, hd⟩ : ∃ d, dl[posN dl nm]? = some d := ⟨_, List.getElem?_eq_getElem hlt⟩
  have hk2 : d.2 = k := by rw [hd] at hk; exact Option.some.inj hk
  have hp := place_q (x := x) (nm := nm) hN hl
  rw [h] at hp
  rcases hK with ⟨_, hh⟩ | ⟨_, bk, ck, ek, Rk, frk, hkv, hkm, hks, _⟩
  · have := congrArg List.length hh; rw [List.length_map, List.length_nil] at this; omega
  rw [List.length_map] at hkv
  have hkr : nth Rk (0 + posN dl nm) = some (N .i64 k) := by
    rw [(seg_nth hks).2 _ (by rw [List.length_map]; exact hlt), List.getElem?_map, hd, ← hk2]; rfl
  have iB : ∀ H, InB H [C] bk (.cells Rk.toArray ek frk) := fun H => InB.of_mem hkm
  refine T.sr <| Rl.e Ef.bxA fun b2 hb2 => Rl.q (Qt.as (v := N .i64 0)) <| Rl.q (Qt.as (v := .bool false)) <| Rl.nilK <| ?_
  refine T.sr <| Rl.q Qt.ldA <| Rl.q Qt.mv <| Rl.e (Ef.qcall (S := hp)) fun _ _ => Rl.q Qt.mv <| Rl.q Qt.ex <| Rl.q Qt.ex <| Rl.q Qt.as <| ?_
  refine Rl.q Qt.as <| Rl.nilK <| ?_
  refine T.seq ?_
  refine T.sr <| Rl.q Qt.mv <| Rl.q Qt.notT <| Rl.nilK <| ?_
  refine T.condF ?_
  refine T.skip <| Ex.K <| ?_
  refine T.sr <| Rl.q Qt.fa <| Rl.q (Qt.to (u := Sl bk 0 dl.length ck) Qt.ld (hkv)) <| Rl.q Qt.mv <| Rl.q (Qt.ia1 (k := dl.length) (i := posN dl nm)) <| Rl.q (Qt.ld (hv := hkr)) <| Rl.q Qt.as <| Rl.q (Qt.as (v := .bool true)) <| ?_
  refine Rl.nilK <| ?_
  refine T.ret <| Ex.ret2 (.inl rfl) rfl rfl ?_ rfl
  exact fun w h => ⟨rfl, h.grown⟩

end SL
end Go.Proofs.YtlmiekcmjpnobaaGreatDoor
