/- Part 10 of the proof of the card of 'laws.FnImageManyLinks': it returns true at every input. No condition. Texts: VD VE PA PB PC PD PE PF PG. -/
import Derived.Test.YtlmiekcmjpnobaaGreatDoorM09
namespace Go.Proofs.YtlmiekcmjpnobaaGreatDoor
open Go
namespace SL
set_option maxRecDepth 20000

set_option synthInstance.maxHeartbeats 400000
set_option synthInstance.maxSize 100000
set_option maxHeartbeats 16000000
theorem Write0p_q {bW c : Nat} {p : Option Addr} : QSpec Tryz.prog 52 [Pt bW, .slice p 0 c] [] (.tuple #[N .i64 0, .nilIface]) := by
  refine QSpec.of Tryz.func52 rfl Tryz.ntmps52 (by simp) fun w => ?_
  refine T.sr <| Rl.q (Qt.as (v := N .i64 0)) <| Rl.q (Qt.as (v := .nilIface)) <| Rl.nilK <| ?_
  refine T.seq ?_
  refine T.sr <| Rl.q Qt.mv <| Rl.q Qt.len <| Rl.q (Qt.eqT (a := 0) (b := 0)) <| Rl.nilK <| ?_
  refine T.condT ?_
  refine T.sr <| Rl.q (Qt.as (v := N .i64 0)) <| Rl.q (Qt.as (v := .nilIface)) <| Rl.nilK <| ?_
  refine T.ret <| Ex.Kret <| Ex.ret2 (.inl rfl) rfl rfl ?_ rfl
  exact fun w h => ⟨rfl, h.grown⟩

section
variable {P : Program} {n : Nat} {g : Gx} {Ro : Heap} {m : Env} {H H1 : Heap} {E C : Chunk} {ty t bs k : Nat} {x y : Operand} {v d z : Value} {xs : List Value} {l : List UInt8}
theorem Ef.apR (hrd : RdB C d l) (hC : SubR [C] H Ro) (own : Own 5 1 v k xs E) (hx : ev m x = some v := by rfl) (hy : ev m y = some d := by rfl)
    (ht : SlT P t 5 1 := by infer_instance) (hz : Zero P 5 z := by infer_instance) (hb : Byt P 5 bs := by infer_instance)
    (hr : Rem H E H1 := by (repeat first | exact Rem.here | apply Rem.there)) (hl : (vcells z).length = 1 ∧ k + l.length ≤ maxLen ∧ (k + l.length) * bs ≤ 140737488355328 := by exact ⟨rfl, by simp only [maxLen]; omega, by omega⟩) :
    Ef P g Ro (.call ⟨.builtin .append, #[x, y], #[t, t]⟩) ty m H (fun r : Value × Chunk => Own 5 1 r.1 (k + l.length) (xs ++ bc l) r.2) (fun r => r.1) (fun r => r.2 :: H1) := by
  intro a w dst ps af gd K ha hh hk
  have src : Src P w 1 d l.length (bc l) := by
    rcases hrd with ⟨rfl, p, c, rfl⟩ | ⟨_, b, o, c, e, R, fr, rfl, hm, hR⟩
    · exact Src.empty w 1
    · have hb : w.heap[b]? = some (.cells R.toArray e fr) := by
        rcases hC.mem (b, .cells R.toArray e fr) (by simpa using hm) with h | h
        · exact hh.sub _ h
        · exact hh.ro _ h
      exact Src.slice hb (by rw [Nat.mul_one]; exact hR) (bc_ones _)
  obtain ⟨v', E', w', h1, h2, h3⟩ := run_app (ty := ty) ht hz hl.1 hb own src (hh.rem hr) hl.2
  simp only [sw, execOp, resolve, Sem.run_bind, Sem.run_pure, Result.andThen_ok, invoke, builtin, List.map_toArray, List.map_cons, List.map_nil, ev_sound ha hx, ev_sound ha hy, h1]
  exact hk (v', E') w' h2 h3
end
structure FileX (x : WI) (n L flags bc : Nat) : Prop where
  num : x.num = 12
  mode : x.mode = 32768
  size : x.size = n
  links : x.links = L
  flg : x.flags = flags
  bcs : x.bc = bc
  xb : x.xb = 0
  at0 : x.atime = 0
  ct0 : x.ctime = 0
  mt0 : x.mtime = 0
  cr0 : x.crtime = 0
  uid : x.uid = 0
  gid : x.gid = 0
  maj : x.maj = 0
  mnr : x.min = 0
theorem FileX.lk {x : WI} {n L L' flags bc : Nat} (h : FileX x n L flags bc) : FileX { x with links := L' } n L' flags bc :=
  ⟨h.num, h.mode, h.size, rfl, h.flg, h.bcs, h.xb, h.at0, h.ct0, h.mt0, h.cr0, h.uid, h.gid, h.maj, h.mnr⟩
theorem TEok.lk {b L : Nat} {C XC : Chunk} {x : WI} {dl xl : List UInt8} (h : TEok [(b, IOb x)] C ⟨b, x, dl, xl, XC⟩) : TEok [(b, IOb { x with links := L })] C ⟨b, { x with links := L }, dl, xl, XC⟩ :=
  ⟨List.mem_singleton.2 rfl, h.dat, h.kind, h.xin, h.dl, h.inl, h.mode, h.uid, h.gid, h.size⟩
/-- What an image of one file under some names is. -/
def ImgP (names : List (List UInt8)) (n st : Nat) (xs dl xl : List UInt8) (flags bc inc : Nat) (U : List UInt8) : Prop :=
  ∃ (bD bL bF bM bM2 : Nat) (XC : Chunk) (xf : WI) (m : MEs) (ns : List (List UInt8)) (aR aL : Value), FileX xf n names.length flags bc ∧ NamesOk numF m ns ∧ m.map (·.1) = lfN :: names ∧
    U = imgS (imgT (cO bM bM2 3 st xs ns) (tabB (cTE bD bL bF bM bM2 3 st xs dl xl XC xf ns aR aL)) (cB bM bM2 3 st xs ns)) (cB bM bM2 3 st xs ns) inc
def linkOps : List (List UInt8) → List OpR
  | a :: b :: r => ⟨2, b, a, 0, []⟩ :: linkOps (b :: r)
  | _ => []
def mkOps (n0 : List UInt8) (more : List (List UInt8)) (dat : List UInt8) : List OpR := ⟨0, n0, [], dat.length, []⟩ :: ⟨1, [], [], 0, dat⟩ :: linkOps (n0 :: more)
theorem linkOps_len : ∀ (a : List UInt8) (l : List (List UInt8)), (linkOps (a :: l)).length = l.length
  | _, [] => rfl
  | _, b :: r => by rw [linkOps, List.length_cons, linkOps_len b r, List.length_cons]
theorem linkOps_get : ∀ {l : List (List UInt8)} {i : Nat} {a b : List UInt8}, l[i]? = some a → l[i + 1]? = some b → (linkOps l)[i]? = some ⟨2, b, a, 0, []⟩
  | _ :: _ :: _, 0, _, _, h1, h2 => by
    simp only [List.getElem?_cons_zero, Option.some.injEq, List.getElem?_cons_succ] at h1 h2
    subst h1; subst h2; rfl
  | x :: y :: r, i + 1, a, b, h1, h2 => by
    have := linkOps_get (l := y :: r) (i := i) (a := a) (b := b) (by simpa using h1) (by simpa using h2)
    simpa [linkOps] using this
  | [], _, _, _, h1, _ => nomatch h1
  | [x], i, a, b, h1, h2 => by simp at h2
theorem mget_none : ∀ {m : MEs} {nm : List UInt8}, nm ∉ m.map (·.1) → mget m nm = none
  | [], _, _ => rfl
  | e :: r, nm, h => by
    simp only [List.map_cons, List.mem_cons, not_or] at h
    unfold mget
    rw [if_neg fun hh => h.1 hh.symm]
    exact mget_none h.2
theorem mget_snoc : ∀ {m : MEs} {nm nm2 : List UInt8} {v : Value} {c : Nat}, nm ∉ m.map (·.1) → mget (m ++ [(nm, v, c)]) nm2 = if nm2 = nm then some v else mget m nm2
  | [], nm, nm2, v, c, _ => by
    show (if nm = nm2 then some v else none) = _
    by_cases h : nm = nm2
    · subst h; simp
    · rw [if_neg h, if_neg fun hh => h hh.symm]; rfl
  | e :: r, nm, nm2, v, c, h => by
    simp only [List.map_cons, List.mem_cons, not_or] at h
    show (if e.1 = nm2 then some e.2.1 else mget (r ++ [(nm, v, c)]) nm2) = _
    have := mget_snoc (m := r) (nm2 := nm2) (v := v) (c := c) h.2
    rw [this]
    show _ = if nm2 = nm then some v else if e.1 = nm2 then some e.2.1 else mget r nm2
    by_cases h2 : e.1 = nm2
    · rw [if_pos h2, if_pos h2, if_neg fun hh => h.1 (by rw [h2, hh])]
    · rw [if_neg h2, if_neg h2]
theorem MOk.snoc {m : MEs} {c : Nat} {nm : List UInt8} {v : Value} (h : MOk m c) (hn : nm ∉ m.map (·.1)) : MOk (m ++ [(nm, v, c)]) (c + 1) := by
  refine ⟨fun e he => ?_, ?_, ?_⟩
  · rcases List.mem_append.1 he with he | he
    · exact Nat.lt_succ_of_lt (h.lt e he)
    · rw [List.mem_singleton.1 he]; exact Nat.lt_succ_self _
  · rw [List.map_append]
    refine List.nodup_append.2 ⟨h.born, by simp, fun a ha b hb => ?_⟩
    obtain ⟨e, he, rfl⟩ := List.mem_map.1 ha
    have := h.lt e he
    simp at hb
    omega
  · rw [List.map_append]
    refine List.nodup_append.2 ⟨h.keys, by simp, fun a ha b hb => ?_⟩
    simp at hb
    subst hb
    exact fun hh => hn (hh ▸ ha)
theorem mplace_none : ∀ {m : MEs} {nm : List UInt8} {i : Nat}, mget m nm = none → mplace m nm i = none
  | [], _, _, _ => rfl
  | e :: r, nm, i, h => by
    unfold mget at h
    unfold mplace
    split at h
    · exact nomatch h
    · next hh => rw [if_neg hh]; exact mplace_none h
theorem NmOk.nm {nm : List UInt8} {bef : List (List UInt8)} (h : NmOk nm bef) : Nm nm := ⟨List.length_pos_iff.2 h.ne, h.len, h.sl, h.d1, h.d2⟩
/-- What creating the file makes. -/
structure CR where
  bA : Nat
  cA : Nat
  bR : Nat
  bM : Nat
  bL : Nat
  bM2 : Nat
  bF : Nat
  sp : List Value
  x0 : WI
  D0 : Chunk
  XC : Chunk
abbrev CR.ptrs (r : CR) : List Value := [nilP, Pt r.bR, nilP, nilP, nilP, nilP, nilP, nilP, nilP, nilP, Pt r.bL, Pt r.bF] ++ r.sp
abbrev CR.m (r : CR) (n0 : List UInt8) : MEs := [(lfN, Pt r.bL, 0), (n0, Pt r.bF, 1)]
abbrev CR.s (r : CR) (bDk : Nat) (inl : Bool) (n0 : List UInt8) (n : Nat) : WS := ⟨bDk, Sl r.bA 0 12 r.cA, n0, Pt r.bF, 8192, 0, n, true, inl, 17179869184, 1⟩
structure LSt where
  q : CR
  s : WS
  v : Value
  E : Chunk
  xp : WI
  D : Chunk
  x' : Value → WI
  dat : Value → Chunk → Prop
  L : Nat
  m : MEs
  cM : Nat
  ov : Value
  oxs : List Value
  oE : Chunk
structure LOk (bW bDk : Nat) (names : List (List UInt8)) (n : Nat) (inl : Bool) (xs dl xl : List UInt8) (flags bc : Nat) (φ : CR → Prop) (y : LSt) : Prop where
  hq : φ y.q
  F : FinS bW y.q.bF y.s y.v y.E y.xp y.D xs y.x' y.dat
  fx : ∀ a, FileX (y.x' a) n y.L flags bc
  te : ∀ a C, y.dat a C → TEok [(y.q.bF, IOb (y.x' a))] C ⟨y.q.bF, y.x' a, dl, xl, y.q.XC⟩
  disk : y.s.disk = bDk
  inA : y.s.inodes = Sl y.q.bA 0 12 y.q.cA
  ini : y.s.init = true
  inl2 : y.s.inl = inl
  mx : y.s.max = 17179869184
  gd : y.s.gd = 1
  km : y.m.map (·.1) = lfN :: names.take y.L
  mok : MOk y.m y.cM
  lfm : mget y.m lfN = some (Pt y.q.bL)
  oth : ∀ nm ∈ y.m.map (·.1), nm ≠ lfN → mget y.m nm = some (Pt y.q.bF)
  lo : 1 ≤ y.L
  hi : y.L ≤ names.length
  own : Own 103 22 y.ov (y.L + 1) y.oxs y.oE

structure WR where
  s : WS
  v : Value
  E : Chunk
  D : Chunk
/-- One way of making the file: its inode, its data, the image's blocks. -/
structure Way (eG : Nat) (frG : Nat × Nat) (inl : Bool) (n0 dat : List UInt8) (st : Nat) (xs dl xl : List UInt8) (flags bc : Nat) (φ : CR → Prop) (X : CR → Value → WI) (Dt : CR → Value → Chunk → Prop) : Prop where
  create : ∀ bW bDk bFo, Spec Tryz.prog 50 [Pt bW, SV n0, Pt bFo] [[(0, GPO eG frG)]] [[(bW, WO { ws0 bDk with inl := inl })], [(bDk, DO (.slice none 0 0) 0)], [(bFo, FO dat.length 0)]] φ (fun _ => .nilIface)
    (fun r => [[(bW, WO (r.s bDk inl n0 dat.length))], [(bDk, DO (.slice none 0 0) 8192)], [(r.bA, .cells r.ptrs.toArray 156 (0, 0))], [(r.bR, IOb (rootI 3 r.bM))], [(r.bM, .map (mE (r.m n0)) 2)], [(r.bL, IOb (lfI r.bM2))], [(r.bM2, .map (mE []) 0)], [(r.bF, IOb r.x0)], r.D0, r.XC])
  write : ∀ r, φ r → ∀ bW bDk wv Cw, RdB Cw wv dat → Spec Tryz.prog 52 [Pt bW, wv] [Cw] [[(bW, WO (r.s bDk inl n0 dat.length))], [(bDk, DO (.slice none 0 0) 8192)], [(r.bF, IOb r.x0)], r.D0]
    (fun q : WR => FinS bW r.bF q.s q.v q.E r.x0 q.D xs (X r) (Dt r) ∧ q.s.disk = bDk ∧ q.s.inodes = Sl r.bA 0 12 r.cA ∧ q.s.init = true ∧ q.s.inl = inl ∧ q.s.max = 17179869184 ∧ q.s.gd = 1) (fun _ => .tuple #[N .i64 dat.length, .nilIface])
    (fun q => [[(q.s.disk, DO q.v q.s.pos)], q.E, [(bW, WO q.s)], [(r.bF, IOb r.x0)], q.D])
  file : ∀ r, φ r → (∀ a, FileX (X r a) dat.length 1 flags bc) ∧ ∀ a C, Dt r a C → TEok [(r.bF, IOb (X r a))] C ⟨r.bF, X r a, dl, xl, r.XC⟩
  len : xs.length = st * 4096
  st2 : 2 ≤ st ∧ st ≤ 1000
  op_at : True
theorem op_at {ops : List OpV} {l : List OpR} {i : Nat} {o : OpR} (h : ops.map (·.1) = l) (hi : l[i]? = some o) : ∃ d, ops[i]? = some (o, d) := by
  subst h
  rw [List.getElem?_map] at hi
  cases hx : ops[i]? with
  | none => rw [hx] at hi; exact nomatch hi
  | some x => rw [hx] at hi; exact ⟨x.2, by rw [← Option.some.inj hi]⟩
section
variable {P : Program} {n : Nat} {g : Gx} {Ro : Heap} {c : Code} {m : Env} {H X : Heap} {Q : Post} {a b : Nat} {x y : Obj}
theorem T.ne (h : a ≠ b → T P n g Ro c m H Q) (p : Pk H [[(a, x)], [(b, y)]] X := by (repeat first | exact Pk.nil | apply Pk.cons | exact Rem.here | apply Rem.there)) : T P n g Ro c m H Q := fun a' w hs hh =>
  h (fun e => by
    have := (hh.pick p).nodup
    simp [keys] at this
    exact this e) a' w hs hh
end

theorem imageF_s {bo co eG st flags bc : Nat} {frG : Nat × Nat} {ops : List OpV} {spo : List Value} {DC : Chunk} {n0 : List UInt8} {more : List (List UInt8)} {dat xs dl xl : List UInt8} {φ : CR → Prop} {X : CR → Value → WI} {Dt : CR → Value → Chunk → Prop}
    (W : Way eG frG false n0 dat st xs dl xl flags bc φ X Dt) (hops : ops.map (·.1) = mkOps n0 more dat) (hrd : ∀ x ∈ ops, RdB DC x.2 x.1.dat) (hcr : CrowdP (n0 :: more)) (hdl : dat.length ≤ 4000) :
    Spec Tryz.prog 24 [.bool false, N .i64 0, Sl bo 0 ops.length co] [[(bo, .cells ((ops.flatMap OpV.cells) ++ spo).toArray 48 (0, 0))], DC, [(0, GPO eG frG)]] []
      (fun r : (Value × List UInt8) × (Value × Chunk) => Own 5 1 r.2.1 r.1.2.length (SL.bc r.1.2) r.2.2 ∧ ImgP (n0 :: more) dat.length st xs dl xl flags bc 578 r.1.2) (fun r => .tuple #[r.1.1, N .i64 0, r.2.1]) (fun r => [r.2.2]) := by
  refine Spec.of Tryz.func24 rfl Tryz.ntmps24 (by simp) fun w => ?_
  have hol : ops.length = more.length + 2 := by have := congrArg List.length hops; rw [List.length_map] at this; rw [this]; show (linkOps (n0 :: more)).length + 1 + 1 = _; rw [linkOps_len]
  have hml := hcr.1
  rw [List.length_cons] at hml
  have hK0 := hcr.2 0 n0 rfl
  obtain ⟨d0, hz0⟩ : ∃ d, ops[0]? = some (⟨0, n0, [], dat.length, []⟩, d) := op_at hops rfl
  obtain ⟨d1, hz1⟩ : ∃ d, ops[1]? = some (⟨1, [], [], 0, dat⟩, d) := op_at hops rfl
  have hr1 : RdB DC d1 dat := hrd _ (List.mem_of_getElem? hz1)
  have hr0 : RdB DC d0 [] := hrd _ (List.mem_of_getElem? hz0)
  have hrow0 : seg ((ops.flatMap OpV.cells) ++ spo) (0 + 0 * 24) 24 = some (opC ⟨0, n0, [], dat.length, []⟩ d0) := by rw [Nat.zero_add]; exact seg_flat (g := OpV.cells) cells24 spo hz0
  have hrow1 : seg ((ops.flatMap OpV.cells) ++ spo) (0 + 1 * 24) 24 = some (opC ⟨1, [], [], 0, dat⟩ d1) := by rw [Nat.zero_add]; exact seg_flat (g := OpV.cells) cells24 spo hz1
  have hon0 : ones (opC ⟨0, n0, [], dat.length, []⟩ d0) = true := opV_ones (o := (⟨0, n0, [], dat.length, []⟩, d0)) hr0.one
  have hon1 : ones (opC ⟨1, [], [], 0, dat⟩ d1) = true := opV_ones (o := (⟨1, [], [], 0, dat⟩, d1)) hr1.one
  have hWl := W.len
  obtain ⟨hst2, hst3⟩ := W.st2
  refine T.sr <| Rl.q (Qt.as (v := .slice none 0 0)) <| Rl.q (Qt.as (v := N .i64 0)) <| Rl.q (Qt.as (v := .slice none 0 0)) <| Rl.nilK <| ?_
  refine T.sr <| Rl.q Qt.bdN <| Rl.e Ef.bxA fun b22 hb22 => Rl.q Qt.as <| Rl.nilK <| ?_
  refine T.sr <| Rl.q Qt.mv <| Rl.e (Ef.call (S := maxD_s)) fun b24 _ => Rl.e Ef.bs fun b25 hb25 => Rl.q Qt.as <| Rl.nilK <| ?_
  refine T.seq ?_
  refine T.sr <| Rl.q Qt.mv <| Rl.nilK <| ?_
  refine T.condF ?_
  refine T.skip <| Ex.K <| ?_
  refine T.sr <| Rl.q Qt.mv <| Rl.q Qt.mv <| Rl.e (Ef.call (S := newW_s (b := b24) (sp := []) (bO := b25) (cO := 1))) fun bW _ => Rl.q Qt.as <| Rl.nilK <| ?_
  refine T.sr <| Rl.q (Qt.as (v := .slice none 0 0)) <| Rl.nilK <| ?_
  refine T.seq ?_
  refine T.sr <| Rl.q Qt.mv <| Rl.q Qt.len <| Rl.q (Qt.mv (v := N .i64 0)) <| Rl.nilK <| ?_
  refine T.block ?_
  refine T.loopX (α := LSt) (fun y => [(9, Pt b22), (11, Pt bW), (12, y.ov), (33, Sl bo 0 ops.length co), (34, N .i64 ops.length), (35, N .i64 (y.L + 1))]) (fun y => [[(y.s.disk, DO y.v y.s.pos)], y.E, [(bW, WO y.s)], [(y.q.bF, IOb y.xp)], y.D, [(y.q.bR, IOb (rootI 3 y.q.bM))], [(y.q.bL, IOb (lfI y.q.bM2))], y.q.XC, [(y.q.bA, .cells y.q.ptrs.toArray 156 (0, 0))], [(y.q.bM, .map (mE y.m) y.cM)], [(y.q.bM2, .map (mE []) 0)], y.oE]) (fun y => LOk bW b22 (n0 :: more) dat.length false xs dl xl flags bc φ y) (fun y => (n0 :: more).length - y.L) 1 ?_ (fun y hy => ?_)
  · refine T.sr <| Rl.q (Qt.ltT (a := 0) (b := ops.length)) <| Rl.nilK <| ?_
    refine T.seq ?_
    refine T.condT ?_
    refine T.skip <| Ex.K <| ?_
    refine T.seq ?_
    refine T.block ?_
    refine T.sr <| Rl.q (Qt.ia (k := ops.length) (i := 0)) <| Rl.q (Qt.ldA (hv := hrow0)) <| Rl.e Ef.alA fun b14 hb14 => Rl.e0 (Ef.stN (hv := Vc.ofOnes hon0)) fun _ _ => Rl.nilK <| ?_
    refine T.sr <| Rl.q Qt.bdN <| Rl.e Ef.alA fun b15 hb15 => Rl.e0 Ef.stN fun _ _ => Rl.nilK <| ?_
    refine T.sr <| Rl.q (Qt.as (v := .nilIface)) <| Rl.nilK <| ?_
    refine T.seq ?_
    refine T.sr <| Rl.q Qt.fa0 <| Rl.q Qt.ld <| Rl.nilK <| ?_
    refine T.block ?_
    refine T.sr <| Rl.q (Qt.eqT (a := 0) (b := 0) (h := rfl)) <| Rl.q Qt.as <| Rl.nilK <| ?_
    refine T.condT ?_
    refine T.seq ?_
    refine T.sr <| Rl.q Qt.fa <| Rl.q Qt.fa <| Rl.q Qt.ld <| Rl.q (Qt.toN (c := 0) (Qt.and (a := 0) (b := 61440) (h := by decide)) (rfl)) <| Rl.q Qt.as <| Rl.nilK <| ?_
    refine T.sr <| Rl.q Qt.fa <| Rl.q Qt.fa <| Rl.q Qt.ld <| Rl.q (Qt.ltF (a := dat.length) (b := 0)) <| Rl.q Qt.mv <| Rl.gf <| Rl.gf <| Rl.gfu <| Rl.guu <| Rl.guu <| Rl.gf <| Rl.q (Qt.pkF (v := .bool false)) <| ?_
    refine Rl.nilK <| ?_
    refine T.condF ?_
    refine T.skip <| Ex.K <| ?_
    refine T.draw [6, 7] [[(b14, .cells (opC ⟨0, n0, [], dat.length, []⟩ d0).toArray 48 (0, 0))]] ?_ mixed
    refine Dr.qs [0, 1, 2, 3, 4] [] ?_
    refine Dq.q Qt.mv <| Dq.q Qt.fa <| Dq.q Qt.ld <| Dq.q Qt.fa <| Dq.q Qt.ldA <| Dq.nil <| ?_
    refine Dr.e 5 <| Eo.e rfl (Ef.call (S := toFile_s (size := dat.length) (by omega))) fun bFo _ => ?_
    refine Dr.e 6 <| Eo.e rfl (Ef.call (S := W.create bW b22 bFo)) fun q hq => ?_
    refine Dr.reset [] ?_
    refine Dr.qs [7] [] ?_
    refine Dq.q Qt.as <| Dq.nil <| Dr.nil <| Ex.Bnormal <| Ex.K <| ?_
    refine T.sr <| Rl.q Qt.mv <| Rl.e (Ef.qcall (S := spoiltOk_q)) fun _ _ => Rl.q Qt.fa0 <| Rl.e0 Ef.st1 fun _ _ => Rl.nilK <| ?_
    refine T.add0 ?_
    refine T.region <| Rl.q Qt.mv <| Rl.q Qt.ldA <| Rl.e Ef.bs fun b122 hb122 => Rl.e (Ef.ap (own := Own.nil 103 22)) fun v123 hv123 => Rl.q Qt.as <| Rl.nil <| Ex.Bnormal <| Ex.K <| ?_
    refine T.region <| Rl.q (Qt.toN (c := 1) (Qt.add (a := 0) (b := 1) (h := by decide)) rfl) <| Rl.q Qt.mv <| Rl.nil <| Ex.LX <| ?_
    refine T.sr <| Rl.q (Qt.ltT (a := 1) (b := ops.length)) <| Rl.nilK <| ?_
    refine T.seq ?_
    refine T.condT ?_
    refine T.skip <| Ex.K <| ?_
    refine T.seq ?_
    refine T.block ?_
    refine T.sr <| Rl.q (Qt.ia (k := ops.length) (i := 1)) <| Rl.q (Qt.ldA (hv := hrow1)) <| Rl.e Ef.alA fun b14 hb14 => Rl.e0 (Ef.stN (hv := Vc.ofOnes hon1)) fun _ _ => Rl.nilK <| ?_
    refine T.sr <| Rl.q Qt.bdN <| Rl.e Ef.alA fun b15 hb15 => Rl.e0 Ef.stN fun _ _ => Rl.nilK <| ?_
    refine T.sr <| Rl.q (Qt.as (v := .nilIface)) <| Rl.nilK <| ?_
    refine T.seq ?_
    refine T.sr <| Rl.q Qt.fa0 <| Rl.q Qt.ld <| Rl.nilK <| ?_
    refine T.block ?_
    refine T.sr <| Rl.q (Qt.eqF (a := 1) (b := 0) (h := by decide)) <| Rl.q Qt.as <| Rl.nilK <| ?_
    refine T.condF ?_
    refine T.sr <| Rl.q (Qt.eqT (a := 1) (b := 1) (h := rfl)) <| Rl.q Qt.as <| Rl.nilK <| ?_
    refine T.condT ?_
    refine T.add0 ?_
    have hDC : ∀ H, SubR [DC] H [[(bo, .cells ((ops.flatMap OpV.cells) ++ spo).toArray 48 (0, 0))], DC, [(0, GPO eG frG)]] := fun H => ⟨fun p hp => .inr (by simp only [List.flatten_cons, List.flatten_nil, List.append_nil] at hp ⊢; exact List.mem_append_right _ (List.mem_append_left _ hp))⟩
    refine T.region <| Rl.q Qt.mv <| Rl.q Qt.fa <| Rl.q Qt.ld <| Rl.e (Ef.apR hr1 (hDC _) (own := Own.nil 5 1)) fun v83 hv83 => ?_
    have hr83 : RdB v83.2 v83.1 dat := (hv83.cast (List.nil_append _) (Nat.zero_add _)).rdB fun _ h => h
    refine Rl.e (Ef.call (S := W.write q hq bW b22 v83.1 v83.2 hr83)) fun u hu => Rl.q Qt.mv <| Rl.q Qt.ex <| Rl.q Qt.ex <| Rl.q Qt.fa <| Rl.e0 Ef.st1 fun _ _ => Rl.q Qt.as <| Rl.nil <| Ex.Bnormal <| Ex.K <| ?_
    refine T.sr <| Rl.q Qt.mv <| Rl.e (Ef.qcall (S := spoiltOk_q)) fun _ _ => Rl.q Qt.fa0 <| Rl.e0 Ef.st1 fun _ _ => Rl.nilK <| ?_
    refine T.region <| Rl.q Qt.mv <| Rl.q Qt.ldA <| Rl.e Ef.bs fun b122 hb122 => Rl.e (Ef.ap (own := hv123)) fun v123 hv123 => Rl.q Qt.as <| Rl.nil <| Ex.Bnormal <| Ex.K <| ?_
    refine T.region <| Rl.q (Qt.toN (c := 2) (Qt.add (a := 1) (b := 1) (h := by decide)) rfl) <| Rl.q Qt.mv <| Rl.nil <| ?_
    have hln : lfN ≠ n0 := fun hh => hK0.lf hh.symm
    have hmok0 : MOk (q.m n0) 2 := ⟨by simp, by simp, by simp [hln]⟩
    have hlf0 : mget (q.m n0) lfN = some (Pt q.bL) := if_pos rfl
    have hoth0 : ∀ nm ∈ (q.m n0).map (·.1), nm ≠ lfN → mget (q.m n0) nm = some (Pt q.bF) := fun nm hn hne => by
      simp only [List.map_cons, List.map_nil, List.mem_cons, List.not_mem_nil, or_false] at hn
      rcases hn with hn | hn
      · exact absurd hn hne
      · subst hn; show (if lfN = nm then _ else if nm = nm then _ else _) = _; rw [if_neg hln, if_pos rfl]
    exact Ex.LX0 ⟨q, u.s, u.v, u.E, q.x0, u.D, X q, Dt q, 1, q.m n0, 2, v123.1, _, v123.2⟩ ⟨hq, hu.1, (W.file q hq).1, (W.file q hq).2, hu.2.1, hu.2.2.1, hu.2.2.2.1, hu.2.2.2.2.1, hu.2.2.2.2.2.1, hu.2.2.2.2.2.2, rfl, hmok0, hlf0, hoth0, Nat.le_refl _, Nat.succ_le_succ (Nat.zero_le _), hv123⟩ (.cons rfl <| .cons rfl <| .cons rfl <| .cons rfl <| .cons rfl <| .cons rfl <| .nil)
  · refine T.sr <| Rl.ltS (fun h36 => ?_) (fun h36 => ?_)
    · refine Rl.nilK <| ?_
      refine T.seq ?_
      refine T.condT ?_
      refine T.skip <| Ex.K <| ?_
      refine T.seq ?_
      refine T.block ?_
      have hyL := hy.lo
      have hyH := hy.hi
      rw [List.length_cons] at hyH
      obtain ⟨l, hl⟩ : ∃ l, y.L = l + 1 := ⟨y.L - 1, by omega⟩
      have hlm : l < more.length := by omega
      obtain ⟨nma, hna⟩ : ∃ z, (n0 :: more)[l]? = some z := ⟨_, List.getElem?_eq_getElem (by rw [List.length_cons]; omega)⟩
      obtain ⟨nmb, hnb⟩ : ∃ z, (n0 :: more)[l + 1]? = some z := ⟨_, List.getElem?_eq_getElem (by rw [List.length_cons]; omega)⟩
      have hKa := hcr.2 l nma hna
      have hKb := hcr.2 (l + 1) nmb hnb
      obtain ⟨d2, hz2⟩ : ∃ d, ops[y.L + 1]? = some (⟨2, nmb, nma, 0, []⟩, d) := op_at hops (by rw [hl]; exact linkOps_get hna hnb)
      have hr2 : RdB DC d2 [] := hrd _ (List.mem_of_getElem? hz2)
      have hrow2 : seg ((ops.flatMap OpV.cells) ++ spo) (0 + (y.L + 1) * 24) 24 = some (opC ⟨2, nmb, nma, 0, []⟩ d2) := by rw [Nat.zero_add]; exact seg_flat (g := OpV.cells) cells24 spo hz2
      have hon2 : ones (opC ⟨2, nmb, nma, 0, []⟩ d2) = true := opV_ones (o := (⟨2, nmb, nma, 0, []⟩, d2)) hr2.one
      have hnk : nmb ∉ y.m.map (·.1) := by rw [hy.km, hl, List.mem_cons, not_or]; exact ⟨hKb.lf, hKb.new⟩
      have hfree : mget y.m nmb = none := mget_none hnk
      have hhas : mget y.m nma = some (Pt y.q.bF) := hy.oth nma (by rw [hy.km, hl]; exact List.mem_cons_of_mem _ (List.mem_of_getElem? (i := l) (by rw [List.getElem?_take, if_pos (Nat.lt_succ_self l)]; exact hna))) hKa.lf
      refine T.sr <| Rl.q (Qt.ia (k := ops.length) (i := y.L + 1)) <| Rl.q (Qt.ldA (hv := hrow2)) <| Rl.e Ef.alA fun b14 hb14 => Rl.e0 (Ef.stN (hv := Vc.ofOnes hon2)) fun _ _ => Rl.nilK <| ?_
      refine T.sr <| Rl.q Qt.bdN <| Rl.e Ef.alA fun b15 hb15 => Rl.e0 Ef.stN fun _ _ => Rl.nilK <| ?_
      refine T.sr <| Rl.q (Qt.as (v := .nilIface)) <| Rl.nilK <| ?_
      refine T.seq ?_
      refine T.sr <| Rl.q Qt.fa0 <| Rl.q Qt.ld <| Rl.nilK <| ?_
      refine T.block ?_
      refine T.sr <| Rl.q (Qt.eqF (a := 2) (b := 0) (h := by decide)) <| Rl.q Qt.as <| Rl.nilK <| ?_
      refine T.condF ?_
      refine T.sr <| Rl.q (Qt.eqF (a := 2) (b := 1) (h := by decide)) <| Rl.q Qt.as <| Rl.nilK <| ?_
      refine T.condF ?_
      refine T.sr <| Rl.q (Qt.eqT (a := 2) (b := 2) (h := rfl)) <| Rl.q Qt.as <| Rl.nilK <| ?_
      refine T.condT ?_
      refine T.region <| Rl.q Qt.mv <| Rl.q Qt.fa <| Rl.q Qt.ld <| Rl.q Qt.fa <| Rl.q Qt.ld <| Rl.e (Ef.call (S := link_s (bW := bW) (bN := y.q.bF) (bA := y.q.bA) (cA := y.q.cA) (fr := (0, 0)) (bR := y.q.bR) (bM := y.q.bM) (xr := rootI 3 y.q.bM) (m := y.m) (cM := y.cM) (v := y.v) (E := y.E) (D := y.D) (s := y.s) (x := y.xp) (nm := nmb) (old := nma) (l := y.q.ptrs) (k := 12) (L := y.L) hy.F (fun a => ⟨(hy.fx a).mode, (hy.fx a).links⟩) (by omega) hKb.nm hKa.nm hy.inA (by decide) (by decide) rfl (by show 16877 < 65536; decide) (by show 16877 &&& 61440 = 16384; decide) rfl hfree hhas)) fun r hr => Rl.q Qt.as <| ?_
      refine Rl.nil <| Ex.Bnormal <| Ex.K <| ?_
      rw [mset_new _ _ _ _ 0 (mplace_none hfree), show mclk y.m nmb y.cM = y.cM + 1 by unfold mclk; rw [hfree]]
      refine T.sr <| Rl.q Qt.mv <| Rl.e (Ef.qcall (S := spoiltOk_q)) fun _ _ => Rl.q Qt.fa0 <| Rl.e0 Ef.st1 fun _ _ => Rl.nilK <| ?_
      refine T.region <| Rl.q Qt.mv <| Rl.q Qt.ldA <| Rl.e Ef.bs fun b122 hb122 => Rl.e (Ef.ap (own := hy.own) (k := y.L + 1) (hl := ⟨rfl, rfl, by simp only [maxLen]; omega, by omega⟩)) fun v123 hv123 => Rl.q Qt.as <| Rl.nil <| Ex.Bnormal <| Ex.K <| ?_
      refine T.region <| Rl.q (Qt.add (a := y.L + 1) (b := 1)) <| Rl.q Qt.mv <| Rl.nil <| ?_
      have hlm2 : y.L + 1 ≤ (n0 :: more).length := by rw [List.length_cons]; omega
      have hkm2 : (y.m ++ [(nmb, Pt y.q.bF, y.cM)]).map (·.1) = lfN :: (n0 :: more).take (y.L + 1) := by rw [List.map_append, hy.km, List.take_add_one, hl, hnb]; rfl
      have hoth2 : ∀ nm ∈ (y.m ++ [(nmb, Pt y.q.bF, y.cM)]).map (·.1), nm ≠ lfN → mget (y.m ++ [(nmb, Pt y.q.bF, y.cM)]) nm = some (Pt y.q.bF) := fun nm hn hne => by
        rw [mget_snoc hnk]
        by_cases h : nm = nmb
        · rw [if_pos h]
        · rw [if_neg h]
          rw [List.map_append] at hn
          rcases List.mem_append.1 hn with hn | hn
          · exact hy.oth nm hn hne
          · exact absurd (List.mem_singleton.1 hn) h
      exact Ex.next ⟨y.q, { y.s with pos := xs.length, cur := .pointer none, dw := 0, dm := 0 }, r.1.1, r.1.2, { y.x' r.2.1 with links := y.L + 1 }, r.2.2, fun _ => { y.x' r.2.1 with links := y.L + 1 }, fun _ C => C = r.2.2, y.L + 1, y.m ++ [(nmb, Pt y.q.bF, y.cM)], y.cM + 1, v123.1, _, v123.2⟩ ⟨hy.hq, finS_none hy.ini rfl rfl rfl hr.1 rfl, fun _ => (hy.fx _).lk, fun a C h => by subst h; exact (hy.te _ _ hr.2).lk, hy.disk, hy.inA, hy.ini, hy.inl2, hy.mx, hy.gd, hkm2, hy.mok.snoc hnk, by rw [mget_snoc hnk, if_neg fun hh => hKb.lf hh.symm]; exact hy.lfm, hoth2, Nat.le_add_left _ _, hlm2, hv123⟩ (by show (n0 :: more).length - (y.L + 1) < (n0 :: more).length - y.L; omega) (.cons rfl <| .cons rfl <| .cons rfl <| .cons rfl <| .cons rfl <| .cons rfl <| .nil)
    · refine Rl.nilK <| ?_
      refine T.seq ?_
      refine T.condF ?_
      refine T.exit <| Ex.Kexit <| Ex.Lexit <| Ex.Bhit <| Ex.K <| ?_
      have hLn : y.L = (n0 :: more).length := Nat.le_antisymm hy.hi (by rw [List.length_cons]; omega)
      have hkm := hy.km
      rw [hLn, List.take_length] at hkm
      have hmln : y.m.length = more.length + 2 := by have := congrArg List.length hkm; rwa [List.length_map] at this
      have hmlen : y.m.length ≤ 1000 := by omega
      have hm0 : 0 < y.m.length := by omega
      have hlfk : lfN ∈ y.m.map (·.1) := by rw [hkm]; exact List.mem_cons_self ..
      have hmnm : ∀ nm ∈ y.m.map (·.1), 1 ≤ nm.length ∧ nm.length ≤ 255 := fun nm hn => by
        rw [hkm] at hn
        rcases List.mem_cons.1 hn with rfl | hn
        · exact ⟨by decide, by decide⟩
        · obtain ⟨i, hi⟩ := List.mem_iff_getElem?.1 hn
          have hK := hcr.2 i nm hi
          exact ⟨List.length_pos_iff.2 hK.ne, hK.len⟩
      refine T.ne (a := y.q.bR) (x := IOb (rootI 3 y.q.bM)) (b := y.q.bF) (y := IOb y.xp) (fun hbDF => ?_)
      refine T.ne (a := y.q.bR) (x := IOb (rootI 3 y.q.bM)) (b := y.q.bL) (y := IOb (lfI y.q.bM2)) (fun hbDL => ?_)
      refine T.sr <| Rl.q Qt.mv <| Rl.e (Ef.call (S := close_s (bW := bW) (bF := y.q.bF) (bD := y.q.bR) (bL := y.q.bL) (bM := y.q.bM) (bM2 := y.q.bM2) (bA := y.q.bA) (cap := y.q.cA) (L := 3) (st := st) (inc := 578) (dl := dl) (xl := xl) (XC := y.q.XC) (sp := y.q.sp) (fr := (0, 0)) (m := y.m) (cM := y.cM) (v := y.v) (E := y.E) (D := y.D) (s := y.s) (xp := y.xp) (x' := y.x') (dat := y.dat) hy.F hy.ini hy.inA (by rw [hy.mx]; decide) hy.gd (by rw [hy.inl2]; rfl) hmlen hWl hst3 hst2 (by rw [hy.mx]; decide) hm0 hy.mok (fun a => ⟨(hy.fx a).num, (hy.fx a).mode⟩) hlfk hy.lfm hy.oth ⟨hbDF, hbDL⟩ hmnm hy.te)) fun z hz => Rl.q Qt.as <| Rl.nilK <| ?_
      refine T.seq ?_
      refine T.sr <| Rl.q Qt.mv <| Rl.q Qt.ineNil <| Rl.nilK <| ?_
      refine T.condF ?_
      refine T.skip <| Ex.K <| ?_
      obtain ⟨_, hz2, U, hU, hUo⟩ := hz
      rw [hy.disk]
      refine T.sdr [] ?_ mixed
      refine Dr.qs [0, 1, 2, 3, 4, 5, 6, 7] [] ?_
      refine Dq.q Qt.mv <| Dq.q Qt.mv <| Dq.q Qt.nc <| Dq.q Qt.fa0 <| Dq.q Qt.ld <| Dq.q Qt.as <| Dq.q (Qt.as (v := N .i64 0)) <| Dq.q Qt.as <| ?_
      refine Dq.nil <| Dr.nilK <| ?_
      refine T.ret <| Ex.ret3 (.inl rfl) rfl rfl rfl ?_ rfl
      exact fun w h => ⟨((y.ov, U), (z.2.1, z.2.2)), ⟨hUo, y.q.bR, y.q.bL, y.q.bF, y.q.bM, y.q.bM2, y.q.XC, y.x' z.1.1.1, y.m, z.1.1.2, z.1.2.1, z.1.2.2, by have := hy.fx z.1.1.1; rw [hLn] at this; exact this, hz2, hkm, hU⟩, rfl, h.re⟩

theorem imageT_s {bo co eG st flags bc : Nat} {frG : Nat × Nat} {ops : List OpV} {spo : List Value} {DC : Chunk} {n0 : List UInt8} {more : List (List UInt8)} {dat xs dl xl : List UInt8} {φ : CR → Prop} {X : CR → Value → WI} {Dt : CR → Value → Chunk → Prop}
    (W : Way eG frG true n0 dat st xs dl xl flags bc φ X Dt) (hops : ops.map (·.1) = mkOps n0 more dat) (hrd : ∀ x ∈ ops, RdB DC x.2 x.1.dat) (hcr : CrowdP (n0 :: more)) (hdl : dat.length ≤ 4000) :
    Spec Tryz.prog 24 [.bool true, N .i64 0, Sl bo 0 ops.length co] [[(bo, .cells ((ops.flatMap OpV.cells) ++ spo).toArray 48 (0, 0))], DC, [(0, GPO eG frG)]] []
      (fun r : (Value × List UInt8) × (Value × Chunk) => Own 5 1 r.2.1 r.1.2.length (SL.bc r.1.2) r.2.2 ∧ ImgP (n0 :: more) dat.length st xs dl xl flags bc 33346 r.1.2) (fun r => .tuple #[r.1.1, N .i64 0, r.2.1]) (fun r => [r.2.2]) := by
  refine Spec.of Tryz.func24 rfl Tryz.ntmps24 (by simp) fun w => ?_
  have hol : ops.length = more.length + 2 := by have := congrArg List.length hops; rw [List.length_map] at this; rw [this]; show (linkOps (n0 :: more)).length + 1 + 1 = _; rw [linkOps_len]
  have hml := hcr.1
  rw [List.length_cons] at hml
  have hK0 := hcr.2 0 n0 rfl
  obtain ⟨d0, hz0⟩ : ∃ d, ops[0]? = some (⟨0, n0, [], dat.length, []⟩, d) := op_at hops rfl
  obtain ⟨d1, hz1⟩ : ∃ d, ops[1]? = some (⟨1, [], [], 0, dat⟩, d) := op_at hops rfl
  have hr1 : RdB DC d1 dat := hrd _ (List.mem_of_getElem? hz1)
  have hr0 : RdB DC d0 [] := hrd _ (List.mem_of_getElem? hz0)
  have hrow0 : seg ((ops.flatMap OpV.cells) ++ spo) (0 + 0 * 24) 24 = some (opC ⟨0, n0, [], dat.length, []⟩ d0) := by rw [Nat.zero_add]; exact seg_flat (g := OpV.cells) cells24 spo hz0
  have hrow1 : seg ((ops.flatMap OpV.cells) ++ spo) (0 + 1 * 24) 24 = some (opC ⟨1, [], [], 0, dat⟩ d1) := by rw [Nat.zero_add]; exact seg_flat (g := OpV.cells) cells24 spo hz1
  have hon0 : ones (opC ⟨0, n0, [], dat.length, []⟩ d0) = true := opV_ones (o := (⟨0, n0, [], dat.length, []⟩, d0)) hr0.one
  have hon1 : ones (opC ⟨1, [], [], 0, dat⟩ d1) = true := opV_ones (o := (⟨1, [], [], 0, dat⟩, d1)) hr1.one
  have hWl := W.len
  obtain ⟨hst2, hst3⟩ := W.st2
  refine T.sr <| Rl.q (Qt.as (v := .slice none 0 0)) <| Rl.q (Qt.as (v := N .i64 0)) <| Rl.q (Qt.as (v := .slice none 0 0)) <| Rl.nilK <| ?_
  refine T.sr <| Rl.q Qt.bdN <| Rl.e Ef.bxA fun b22 hb22 => Rl.q Qt.as <| Rl.nilK <| ?_
  refine T.sr <| Rl.q Qt.mv <| Rl.e (Ef.call (S := maxD_s)) fun b24 _ => Rl.e Ef.bs fun b25 hb25 => Rl.q Qt.as <| Rl.nilK <| ?_
  refine T.seq ?_
  refine T.sr <| Rl.q Qt.mv <| Rl.nilK <| ?_
  refine T.condT ?_
  refine T.region <| Rl.q Qt.mv <| Rl.e Ef.bs fun b28 hb28 => Rl.e (Ef.ap (own := Own.mk (e := 113) (sz := 1) (b := b25) (xs := [Value.func (.func 79) #[] #[Pt b24]]) (sp := []) (k := 1) (cap := 1) rfl (Nat.le_refl _) (by simp only [maxLen]; omega) rfl)) fun v29 hv29 => Rl.q Qt.as <| Rl.nil <| Ex.K <| ?_
  obtain ⟨b29, c29, sp29, hw29, hc29, hc29b, hE29, hs29⟩ := hv29.some (by decide)
  rw [hw29, hE29]
  refine T.sr <| Rl.q Qt.mv <| Rl.q Qt.mv <| Rl.e (Ef.call (S := newWI_s (b := b24) (sp := sp29) (bO := b29) (cO := c29))) fun bW _ => Rl.q Qt.as <| Rl.nilK <| ?_
  refine T.sr <| Rl.q (Qt.as (v := .slice none 0 0)) <| Rl.nilK <| ?_
  refine T.seq ?_
  refine T.sr <| Rl.q Qt.mv <| Rl.q Qt.len <| Rl.q (Qt.mv (v := N .i64 0)) <| Rl.nilK <| ?_
  refine T.block ?_
  refine T.loopX (α := LSt) (fun y => [(9, Pt b22), (11, Pt bW), (12, y.ov), (33, Sl bo 0 ops.length co), (34, N .i64 ops.length), (35, N .i64 (y.L + 1))]) (fun y => [[(y.s.disk, DO y.v y.s.pos)], y.E, [(bW, WO y.s)], [(y.q.bF, IOb y.xp)], y.D, [(y.q.bR, IOb (rootI 3 y.q.bM))], [(y.q.bL, IOb (lfI y.q.bM2))], y.q.XC, [(y.q.bA, .cells y.q.ptrs.toArray 156 (0, 0))], [(y.q.bM, .map (mE y.m) y.cM)], [(y.q.bM2, .map (mE []) 0)], y.oE]) (fun y => LOk bW b22 (n0 :: more) dat.length true xs dl xl flags bc φ y) (fun y => (n0 :: more).length - y.L) 1 ?_ (fun y hy => ?_)
  · refine T.sr <| Rl.q (Qt.ltT (a := 0) (b := ops.length)) <| Rl.nilK <| ?_
    refine T.seq ?_
    refine T.condT ?_
    refine T.skip <| Ex.K <| ?_
    refine T.seq ?_
    refine T.block ?_
    refine T.sr <| Rl.q (Qt.ia (k := ops.length) (i := 0)) <| Rl.q (Qt.ldA (hv := hrow0)) <| Rl.e Ef.alA fun b14 hb14 => Rl.e0 (Ef.stN (hv := Vc.ofOnes hon0)) fun _ _ => Rl.nilK <| ?_
    refine T.sr <| Rl.q Qt.bdN <| Rl.e Ef.alA fun b15 hb15 => Rl.e0 Ef.stN fun _ _ => Rl.nilK <| ?_
    refine T.sr <| Rl.q (Qt.as (v := .nilIface)) <| Rl.nilK <| ?_
    refine T.seq ?_
    refine T.sr <| Rl.q Qt.fa0 <| Rl.q Qt.ld <| Rl.nilK <| ?_
    refine T.block ?_
    refine T.sr <| Rl.q (Qt.eqT (a := 0) (b := 0) (h := rfl)) <| Rl.q Qt.as <| Rl.nilK <| ?_
    refine T.condT ?_
    refine T.seq ?_
    refine T.sr <| Rl.q Qt.fa <| Rl.q Qt.fa <| Rl.q Qt.ld <| Rl.q (Qt.toN (c := 0) (Qt.and (a := 0) (b := 61440) (h := by decide)) (rfl)) <| Rl.q Qt.as <| Rl.nilK <| ?_
    refine T.sr <| Rl.q Qt.fa <| Rl.q Qt.fa <| Rl.q Qt.ld <| Rl.q (Qt.ltF (a := dat.length) (b := 0)) <| Rl.q Qt.mv <| Rl.gf <| Rl.gf <| Rl.gfu <| Rl.guu <| Rl.guu <| Rl.gf <| Rl.q (Qt.pkF (v := .bool false)) <| ?_
    refine Rl.nilK <| ?_
    refine T.condF ?_
    refine T.skip <| Ex.K <| ?_
    refine T.draw [6, 7] [[(b14, .cells (opC ⟨0, n0, [], dat.length, []⟩ d0).toArray 48 (0, 0))]] ?_ mixed
    refine Dr.qs [0, 1, 2, 3, 4] [] ?_
    refine Dq.q Qt.mv <| Dq.q Qt.fa <| Dq.q Qt.ld <| Dq.q Qt.fa <| Dq.q Qt.ldA <| Dq.nil <| ?_
    refine Dr.e 5 <| Eo.e rfl (Ef.call (S := toFile_s (size := dat.length) (by omega))) fun bFo _ => ?_
    refine Dr.e 6 <| Eo.e rfl (Ef.call (S := W.create bW b22 bFo)) fun q hq => ?_
    refine Dr.reset [] ?_
    refine Dr.qs [7] [] ?_
    refine Dq.q Qt.as <| Dq.nil <| Dr.nil <| Ex.Bnormal <| Ex.K <| ?_
    refine T.sr <| Rl.q Qt.mv <| Rl.e (Ef.qcall (S := spoiltOk_q)) fun _ _ => Rl.q Qt.fa0 <| Rl.e0 Ef.st1 fun _ _ => Rl.nilK <| ?_
    refine T.add0 ?_
    refine T.region <| Rl.q Qt.mv <| Rl.q Qt.ldA <| Rl.e Ef.bs fun b122 hb122 => Rl.e (Ef.ap (own := Own.nil 103 22)) fun v123 hv123 => Rl.q Qt.as <| Rl.nil <| Ex.Bnormal <| Ex.K <| ?_
    refine T.region <| Rl.q (Qt.toN (c := 1) (Qt.add (a := 0) (b := 1) (h := by decide)) rfl) <| Rl.q Qt.mv <| Rl.nil <| Ex.LX <| ?_
    refine T.sr <| Rl.q (Qt.ltT (a := 1) (b := ops.length)) <| Rl.nilK <| ?_
    refine T.seq ?_
    refine T.condT ?_
    refine T.skip <| Ex.K <| ?_
    refine T.seq ?_
    refine T.block ?_
    refine T.sr <| Rl.q (Qt.ia (k := ops.length) (i := 1)) <| Rl.q (Qt.ldA (hv := hrow1)) <| Rl.e Ef.alA fun b14 hb14 => Rl.e0 (Ef.stN (hv := Vc.ofOnes hon1)) fun _ _ => Rl.nilK <| ?_
    refine T.sr <| Rl.q Qt.bdN <| Rl.e Ef.alA fun b15 hb15 => Rl.e0 Ef.stN fun _ _ => Rl.nilK <| ?_
    refine T.sr <| Rl.q (Qt.as (v := .nilIface)) <| Rl.nilK <| ?_
    refine T.seq ?_
    refine T.sr <| Rl.q Qt.fa0 <| Rl.q Qt.ld <| Rl.nilK <| ?_
    refine T.block ?_
    refine T.sr <| Rl.q (Qt.eqF (a := 1) (b := 0) (h := by decide)) <| Rl.q Qt.as <| Rl.nilK <| ?_
    refine T.condF ?_
    refine T.sr <| Rl.q (Qt.eqT (a := 1) (b := 1) (h := rfl)) <| Rl.q Qt.as <| Rl.nilK <| ?_
    refine T.condT ?_
    refine T.add0 ?_
    have hDC : ∀ H, SubR [DC] H [[(bo, .cells ((ops.flatMap OpV.cells) ++ spo).toArray 48 (0, 0))], DC, [(0, GPO eG frG)]] := fun H => ⟨fun p hp => .inr (by simp only [List.flatten_cons, List.flatten_nil, List.append_nil] at hp ⊢; exact List.mem_append_right _ (List.mem_append_left _ hp))⟩
    refine T.region <| Rl.q Qt.mv <| Rl.q Qt.fa <| Rl.q Qt.ld <| Rl.e (Ef.apR hr1 (hDC _) (own := Own.nil 5 1)) fun v83 hv83 => ?_
    have hr83 : RdB v83.2 v83.1 dat := (hv83.cast (List.nil_append _) (Nat.zero_add _)).rdB fun _ h => h
    refine Rl.e (Ef.call (S := W.write q hq bW b22 v83.1 v83.2 hr83)) fun u hu => Rl.q Qt.mv <| Rl.q Qt.ex <| Rl.q Qt.ex <| Rl.q Qt.fa <| Rl.e0 Ef.st1 fun _ _ => Rl.q Qt.as <| Rl.nil <| Ex.Bnormal <| Ex.K <| ?_
    refine T.sr <| Rl.q Qt.mv <| Rl.e (Ef.qcall (S := spoiltOk_q)) fun _ _ => Rl.q Qt.fa0 <| Rl.e0 Ef.st1 fun _ _ => Rl.nilK <| ?_
    refine T.region <| Rl.q Qt.mv <| Rl.q Qt.ldA <| Rl.e Ef.bs fun b122 hb122 => Rl.e (Ef.ap (own := hv123)) fun v123 hv123 => Rl.q Qt.as <| Rl.nil <| Ex.Bnormal <| Ex.K <| ?_
    refine T.region <| Rl.q (Qt.toN (c := 2) (Qt.add (a := 1) (b := 1) (h := by decide)) rfl) <| Rl.q Qt.mv <| Rl.nil <| ?_
    have hln : lfN ≠ n0 := fun hh => hK0.lf hh.symm
    have hmok0 : MOk (q.m n0) 2 := ⟨by simp, by simp, by simp [hln]⟩
    have hlf0 : mget (q.m n0) lfN = some (Pt q.bL) := if_pos rfl
    have hoth0 : ∀ nm ∈ (q.m n0).map (·.1), nm ≠ lfN → mget (q.m n0) nm = some (Pt q.bF) := fun nm hn hne => by
      simp only [List.map_cons, List.map_nil, List.mem_cons, List.not_mem_nil, or_false] at hn
      rcases hn with hn | hn
      · exact absurd hn hne
      · subst hn; show (if lfN = nm then _ else if nm = nm then _ else _) = _; rw [if_neg hln, if_pos rfl]
    exact Ex.LX0 ⟨q, u.s, u.v, u.E, q.x0, u.D, X q, Dt q, 1, q.m n0, 2, v123.1, _, v123.2⟩ ⟨hq, hu.1, (W.file q hq).1, (W.file q hq).2, hu.2.1, hu.2.2.1, hu.2.2.2.1, hu.2.2.2.2.1, hu.2.2.2.2.2.1, hu.2.2.2.2.2.2, rfl, hmok0, hlf0, hoth0, Nat.le_refl _, Nat.succ_le_succ (Nat.zero_le _), hv123⟩ (.cons rfl <| .cons rfl <| .cons rfl <| .cons rfl <| .cons rfl <| .cons rfl <| .nil)
  · refine T.sr <| Rl.ltS (fun h36 => ?_) (fun h36 => ?_)
    · refine Rl.nilK <| ?_
      refine T.seq ?_
      refine T.condT ?_
      refine T.skip <| Ex.K <| ?_
      refine T.seq ?_
      refine T.block ?_
      have hyL := hy.lo
      have hyH := hy.hi
      rw [List.length_cons] at hyH
      obtain ⟨l, hl⟩ : ∃ l, y.L = l + 1 := ⟨y.L - 1, by omega⟩
      have hlm : l < more.length := by omega
      obtain ⟨nma, hna⟩ : ∃ z, (n0 :: more)[l]? = some z := ⟨_, List.getElem?_eq_getElem (by rw [List.length_cons]; omega)⟩
      obtain ⟨nmb, hnb⟩ : ∃ z, (n0 :: more)[l + 1]? = some z := ⟨_, List.getElem?_eq_getElem (by rw [List.length_cons]; omega)⟩
      have hKa := hcr.2 l nma hna
      have hKb := hcr.2 (l + 1) nmb hnb
      obtain ⟨d2, hz2⟩ : ∃ d, ops[y.L + 1]? = some (⟨2, nmb, nma, 0, []⟩, d) := op_at hops (by rw [hl]; exact linkOps_get hna hnb)
      have hr2 : RdB DC d2 [] := hrd _ (List.mem_of_getElem? hz2)
      have hrow2 : seg ((ops.flatMap OpV.cells) ++ spo) (0 + (y.L + 1) * 24) 24 = some (opC ⟨2, nmb, nma, 0, []⟩ d2) := by rw [Nat.zero_add]; exact seg_flat (g := OpV.cells) cells24 spo hz2
      have hon2 : ones (opC ⟨2, nmb, nma, 0, []⟩ d2) = true := opV_ones (o := (⟨2, nmb, nma, 0, []⟩, d2)) hr2.one
      have hnk : nmb ∉ y.m.map (·.1) := by rw [hy.km, hl, List.mem_cons, not_or]; exact ⟨hKb.lf, hKb.new⟩
      have hfree : mget y.m nmb = none := mget_none hnk
      have hhas : mget y.m nma = some (Pt y.q.bF) := hy.oth nma (by rw [hy.km, hl]; exact List.mem_cons_of_mem _ (List.mem_of_getElem? (i := l) (by rw [List.getElem?_take, if_pos (Nat.lt_succ_self l)]; exact hna))) hKa.lf
      refine T.sr <| Rl.q (Qt.ia (k := ops.length) (i := y.L + 1)) <| Rl.q (Qt.ldA (hv := hrow2)) <| Rl.e Ef.alA fun b14 hb14 => Rl.e0 (Ef.stN (hv := Vc.ofOnes hon2)) fun _ _ => Rl.nilK <| ?_
      refine T.sr <| Rl.q Qt.bdN <| Rl.e Ef.alA fun b15 hb15 => Rl.e0 Ef.stN fun _ _ => Rl.nilK <| ?_
      refine T.sr <| Rl.q (Qt.as (v := .nilIface)) <| Rl.nilK <| ?_
      refine T.seq ?_
      refine T.sr <| Rl.q Qt.fa0 <| Rl.q Qt.ld <| Rl.nilK <| ?_
      refine T.block ?_
      refine T.sr <| Rl.q (Qt.eqF (a := 2) (b := 0) (h := by decide)) <| Rl.q Qt.as <| Rl.nilK <| ?_
      refine T.condF ?_
      refine T.sr <| Rl.q (Qt.eqF (a := 2) (b := 1) (h := by decide)) <| Rl.q Qt.as <| Rl.nilK <| ?_
      refine T.condF ?_
      refine T.sr <| Rl.q (Qt.eqT (a := 2) (b := 2) (h := rfl)) <| Rl.q Qt.as <| Rl.nilK <| ?_
      refine T.condT ?_
      refine T.region <| Rl.q Qt.mv <| Rl.q Qt.fa <| Rl.q Qt.ld <| Rl.q Qt.fa <| Rl.q Qt.ld <| Rl.e (Ef.call (S := link_s (bW := bW) (bN := y.q.bF) (bA := y.q.bA) (cA := y.q.cA) (fr := (0, 0)) (bR := y.q.bR) (bM := y.q.bM) (xr := rootI 3 y.q.bM) (m := y.m) (cM := y.cM) (v := y.v) (E := y.E) (D := y.D) (s := y.s) (x := y.xp) (nm := nmb) (old := nma) (l := y.q.ptrs) (k := 12) (L := y.L) hy.F (fun a => ⟨(hy.fx a).mode, (hy.fx a).links⟩) (by omega) hKb.nm hKa.nm hy.inA (by decide) (by decide) rfl (by show 16877 < 65536; decide) (by show 16877 &&& 61440 = 16384; decide) rfl hfree hhas)) fun r hr => Rl.q Qt.as <| ?_
      refine Rl.nil <| Ex.Bnormal <| Ex.K <| ?_
      rw [mset_new _ _ _ _ 0 (mplace_none hfree), show mclk y.m nmb y.cM = y.cM + 1 by unfold mclk; rw [hfree]]
      refine T.sr <| Rl.q Qt.mv <| Rl.e (Ef.qcall (S := spoiltOk_q)) fun _ _ => Rl.q Qt.fa0 <| Rl.e0 Ef.st1 fun _ _ => Rl.nilK <| ?_
      refine T.region <| Rl.q Qt.mv <| Rl.q Qt.ldA <| Rl.e Ef.bs fun b122 hb122 => Rl.e (Ef.ap (own := hy.own) (k := y.L + 1) (hl := ⟨rfl, rfl, by simp only [maxLen]; omega, by omega⟩)) fun v123 hv123 => Rl.q Qt.as <| Rl.nil <| Ex.Bnormal <| Ex.K <| ?_
      refine T.region <| Rl.q (Qt.add (a := y.L + 1) (b := 1)) <| Rl.q Qt.mv <| Rl.nil <| ?_
      have hlm2 : y.L + 1 ≤ (n0 :: more).length := by rw [List.length_cons]; omega
      have hkm2 : (y.m ++ [(nmb, Pt y.q.bF, y.cM)]).map (·.1) = lfN :: (n0 :: more).take (y.L + 1) := by rw [List.map_append, hy.km, List.take_add_one, hl, hnb]; rfl
      have hoth2 : ∀ nm ∈ (y.m ++ [(nmb, Pt y.q.bF, y.cM)]).map (·.1), nm ≠ lfN → mget (y.m ++ [(nmb, Pt y.q.bF, y.cM)]) nm = some (Pt y.q.bF) := fun nm hn hne => by
        rw [mget_snoc hnk]
        by_cases h : nm = nmb
        · rw [if_pos h]
        · rw [if_neg h]
          rw [List.map_append] at hn
          rcases List.mem_append.1 hn with hn | hn
          · exact hy.oth nm hn hne
          · exact absurd (List.mem_singleton.1 hn) h
      exact Ex.next ⟨y.q, { y.s with pos := xs.length, cur := .pointer none, dw := 0, dm := 0 }, r.1.1, r.1.2, { y.x' r.2.1 with links := y.L + 1 }, r.2.2, fun _ => { y.x' r.2.1 with links := y.L + 1 }, fun _ C => C = r.2.2, y.L + 1, y.m ++ [(nmb, Pt y.q.bF, y.cM)], y.cM + 1, v123.1, _, v123.2⟩ ⟨hy.hq, finS_none hy.ini rfl rfl rfl hr.1 rfl, fun _ => (hy.fx _).lk, fun a C h => by subst h; exact (hy.te _ _ hr.2).lk, hy.disk, hy.inA, hy.ini, hy.inl2, hy.mx, hy.gd, hkm2, hy.mok.snoc hnk, by rw [mget_snoc hnk, if_neg fun hh => hKb.lf hh.symm]; exact hy.lfm, hoth2, Nat.le_add_left _ _, hlm2, hv123⟩ (by show (n0 :: more).length - (y.L + 1) < (n0 :: more).length - y.L; omega) (.cons rfl <| .cons rfl <| .cons rfl <| .cons rfl <| .cons rfl <| .cons rfl <| .nil)
    · refine Rl.nilK <| ?_
      refine T.seq ?_
      refine T.condF ?_
      refine T.exit <| Ex.Kexit <| Ex.Lexit <| Ex.Bhit <| Ex.K <| ?_
      have hLn : y.L = (n0 :: more).length := Nat.le_antisymm hy.hi (by rw [List.length_cons]; omega)
      have hkm := hy.km
      rw [hLn, List.take_length] at hkm
      have hmln : y.m.length = more.length + 2 := by have := congrArg List.length hkm; rwa [List.length_map] at this
      have hmlen : y.m.length ≤ 1000 := by omega
      have hm0 : 0 < y.m.length := by omega
      have hlfk : lfN ∈ y.m.map (·.1) := by rw [hkm]; exact List.mem_cons_self ..
      have hmnm : ∀ nm ∈ y.m.map (·.1), 1 ≤ nm.length ∧ nm.length ≤ 255 := fun nm hn => by
        rw [hkm] at hn
        rcases List.mem_cons.1 hn with rfl | hn
        · exact ⟨by decide, by decide⟩
        · obtain ⟨i, hi⟩ := List.mem_iff_getElem?.1 hn
          have hK := hcr.2 i nm hi
          exact ⟨List.length_pos_iff.2 hK.ne, hK.len⟩
      refine T.ne (a := y.q.bR) (x := IOb (rootI 3 y.q.bM)) (b := y.q.bF) (y := IOb y.xp) (fun hbDF => ?_)
      refine T.ne (a := y.q.bR) (x := IOb (rootI 3 y.q.bM)) (b := y.q.bL) (y := IOb (lfI y.q.bM2)) (fun hbDL => ?_)
      refine T.sr <| Rl.q Qt.mv <| Rl.e (Ef.call (S := close_s (bW := bW) (bF := y.q.bF) (bD := y.q.bR) (bL := y.q.bL) (bM := y.q.bM) (bM2 := y.q.bM2) (bA := y.q.bA) (cap := y.q.cA) (L := 3) (st := st) (inc := 33346) (dl := dl) (xl := xl) (XC := y.q.XC) (sp := y.q.sp) (fr := (0, 0)) (m := y.m) (cM := y.cM) (v := y.v) (E := y.E) (D := y.D) (s := y.s) (xp := y.xp) (x' := y.x') (dat := y.dat) hy.F hy.ini hy.inA (by rw [hy.mx]; decide) hy.gd (by rw [hy.inl2]; rfl) hmlen hWl hst3 hst2 (by rw [hy.mx]; decide) hm0 hy.mok (fun a => ⟨(hy.fx a).num, (hy.fx a).mode⟩) hlfk hy.lfm hy.oth ⟨hbDF, hbDL⟩ hmnm hy.te)) fun z hz => Rl.q Qt.as <| Rl.nilK <| ?_
      refine T.seq ?_
      refine T.sr <| Rl.q Qt.mv <| Rl.q Qt.ineNil <| Rl.nilK <| ?_
      refine T.condF ?_
      refine T.skip <| Ex.K <| ?_
      obtain ⟨_, hz2, U, hU, hUo⟩ := hz
      rw [hy.disk]
      refine T.sdr [] ?_ mixed
      refine Dr.qs [0, 1, 2, 3, 4, 5, 6, 7] [] ?_
      refine Dq.q Qt.mv <| Dq.q Qt.mv <| Dq.q Qt.nc <| Dq.q Qt.fa0 <| Dq.q Qt.ld <| Dq.q Qt.as <| Dq.q (Qt.as (v := N .i64 0)) <| Dq.q Qt.as <| ?_
      refine Dq.nil <| Dr.nilK <| ?_
      refine T.ret <| Ex.ret3 (.inl rfl) rfl rfl rfl ?_ rfl
      exact fun w h => ⟨((y.ov, U), (z.2.1, z.2.2)), ⟨hUo, y.q.bR, y.q.bL, y.q.bF, y.q.bM, y.q.bM2, y.q.XC, y.x' z.1.1.1, y.m, z.1.1.2, z.1.2.1, z.1.2.2, by have := hy.fx z.1.1.1; rw [hLn] at this; exact this, hz2, hkm, hU⟩, rfl, h.re⟩
end SL
end Go.Proofs.YtlmiekcmjpnobaaGreatDoor
namespace Go.Proofs.YtlmiekcmjpnobaaGreatDoor
open Go
namespace SL
set_option maxRecDepth 20000

section
variable {P : Program} {Ro : Heap}
theorem Spec.convH {f : FuncId} {α β : Type} {args : List Value} {Hp : Heap} {φ : α → Prop} {ret : α → Value} {Hq : α → Heap} {ψ : β → Prop} {ret' : β → Value} {Hq' : β → Heap} (S : Spec P f args Ro Hp φ ret Hq)
    (k : ∀ x, φ x → ∃ y, ψ y ∧ ret x = ret' y ∧ ∀ g w', Hs g Ro w' (Hq x) → Hs g Ro w' (Hq' y)) : Spec P f args Ro Hp ψ ret' Hq' := fun w h1 h2 h3 h4 =>
  (S w h1 h2 h3 h4).mono fun e w' ⟨x, hx, he, hq⟩ => by
    obtain ⟨y, hy, hr, hh⟩ := k x hx
    exact ⟨y, hy, by rw [he, hr], hh _ _ hq⟩
end
theorem zero_dsk : DskOk (.slice none 0 0) [] (List.replicate 8192 0) := ⟨[], Own.nil 5 1, Nat.zero_le _, by unfold padZ; rw [List.length_replicate, List.length_nil, List.nil_append]⟩
def noX (n : Nat) (r : CR) : Prop := r.x0 = mkI 12 32768 n 1 262144 (.slice none 0 0) (.slice none 0 0) (.map none) ∧ r.D0 = [] ∧ r.XC = []
def inX (n : Nat) (r : CR) : Prop := ∃ bX bx : Nat, r.x0 = mkI 12 32768 n 1 268697600 (Sl bX 0 n n) (Sl bx 0 104 104) (.map none) ∧ r.D0 = [(bX, BO (List.replicate n 0) 5 (0, 0))] ∧ r.XC = [(bx, BO (xinB (List.replicate (n - 60) 0)) 5 (0, 0))]
set_option synthInstance.maxHeartbeats 400000
set_option maxHeartbeats 4000000
variable {eG : Nat} {frG : Nat × Nat} {inl : Bool} {n0 dat : List UInt8} {bef : List (List UInt8)}
theorem cReg_s (hK : NmOk n0 bef) (hni : ¬ (dat.length ≤ 136 ∧ inl = true)) (hsz : dat.length ≤ 4000) (bW bDk bFo : Nat) :
    Spec Tryz.prog 50 [Pt bW, SV n0, Pt bFo] [[(0, GPO eG frG)]] [[(bW, WO { ws0 bDk with inl := inl })], [(bDk, DO (.slice none 0 0) 0)], [(bFo, FO dat.length 0)]] (noX dat.length) (fun _ => .nilIface)
    (fun r => [[(bW, WO (r.s bDk inl n0 dat.length))], [(bDk, DO (.slice none 0 0) 8192)], [(r.bA, .cells r.ptrs.toArray 156 (0, 0))], [(r.bR, IOb (rootI 3 r.bM))], [(r.bM, .map (mE (r.m n0)) 2)], [(r.bL, IOb (lfI r.bM2))], [(r.bM2, .map (mE []) 0)], [(r.bF, IOb r.x0)], r.D0, r.XC]) := by
  have hS := create0Reg_s (bW := bW) (bF := bFo) (s := { ws0 bDk with inl := inl }) (v := .slice none 0 0) (p := 0) (size := dat.length) rfl rfl rfl hK.nm (fun hh => hK.lf hh.symm) hni (by omega)
  have hS2 := hS.frame (Ro := [[(0, GPO eG frG)]]) (Hp' := [[(bW, WO { ws0 bDk with inl := inl })], [(bDk, DO (.slice none 0 0) 0)], [(bFo, FO dat.length 0)]]) (F := []) (by (repeat first | exact Pk.nil | apply Pk.cons | exact Rem.here | apply Rem.there)) .nil
  refine Spec.convH hS2 fun x hx => ?_
  obtain ⟨bA, cA, sp, hv, _, _, hE, _⟩ := hx.some (by decide)
  refine ⟨⟨bA, cA, x.1.1.1, x.1.1.2.1, x.1.1.2.2.1, x.1.1.2.2.2, x.2.1.1, sp, _, [], []⟩, ⟨rfl, rfl, rfl⟩, rfl, fun g w' h => ?_⟩
  rw [hv, hE] at h
  exact h.add0.add0.re
theorem cInl_s (hK : NmOk n0 bef) (hsz : dat.length ≤ 136) (bW bDk bFo : Nat) :
    Spec Tryz.prog 50 [Pt bW, SV n0, Pt bFo] [[(0, GPO eG frG)]] [[(bW, WO { ws0 bDk with inl := true })], [(bDk, DO (.slice none 0 0) 0)], [(bFo, FO dat.length 0)]] (inX dat.length) (fun _ => .nilIface)
    (fun r => [[(bW, WO (r.s bDk true n0 dat.length))], [(bDk, DO (.slice none 0 0) 8192)], [(r.bA, .cells r.ptrs.toArray 156 (0, 0))], [(r.bR, IOb (rootI 3 r.bM))], [(r.bM, .map (mE (r.m n0)) 2)], [(r.bL, IOb (lfI r.bM2))], [(r.bM2, .map (mE []) 0)], [(r.bF, IOb r.x0)], r.D0, r.XC]) := by
  have hS := create0Inl_s (bW := bW) (bF := bFo) (eG := eG) (frG := frG) (s := { ws0 bDk with inl := true }) (v := .slice none 0 0) (p := 0) (size := dat.length) rfl rfl rfl hK.nm (fun hh => hK.lf hh.symm) rfl hsz
  refine Spec.convH hS fun x hx => ?_
  obtain ⟨bA, cA, sp, hv, _, _, hE, _⟩ := hx.some (by decide)
  refine ⟨⟨bA, cA, x.1.1.1, x.1.1.2.1, x.1.1.2.2.1, x.1.1.2.2.2, x.2.1.1, sp, _, _, _⟩, ⟨x.2.1.2.1, x.2.1.2.2.1, rfl, rfl, rfl⟩, rfl, fun g w' h => ?_⟩
  rw [hv, hE] at h
  exact h.re
theorem putB_all {zs bs : List UInt8} (h : bs.length = zs.length) : putB zs 0 bs = bs := by unfold putB; rw [List.take_zero, List.nil_append, Nat.zero_add, List.drop_of_length_le (by omega), List.append_nil]
theorem write0_s {bW : Nat} {wv : Value} {Cw : Chunk} {Hp : Heap} (h : RdB Cw wv []) : Spec Tryz.prog 52 [Pt bW, wv] [Cw] Hp (fun _ : Unit => True) (fun _ => .tuple #[N .i64 0, .nilIface]) (fun _ => Hp) := by
  obtain ⟨p, c, rfl⟩ := h.form
  exact fun w h1 h2 h3 h4 => (Write0p_q (bW := bW) (p := p) (c := c) w (fun _ hp => absurd hp (by simp))).mono fun e w' ⟨he, hg⟩ => ⟨(), trivial, he, (Hs.init h1 h3 h2 h4).grow hg⟩
theorem way_ext (hK : NmOk n0 bef) (hn0 : 0 < dat.length) (hni : ¬ (dat.length ≤ 136 ∧ inl = true)) (hsz : dat.length ≤ 4000) :
    Way eG frG inl n0 dat 3 (padZ (List.replicate 8192 0 ++ dat) 12288) (ext1B 2 1) [] 786432 1 (noX dat.length) (fun r a => { r.x0 with data := a, flags := r.x0.flags ||| 524288, bc := r.x0.bc + 1 }) (fun _ a C => Own 5 1 a 60 (bc (ext1B 2 1)) C) where
  create := cReg_s hK hni hsz
  write := fun r hr bW bDk wv Cw hw => by
    obtain ⟨hx, hD, hX⟩ := hr
    rcases hw with ⟨h, _⟩ | ⟨_, b, o, c, e, R, fr, rfl, hm, hR⟩
    · rw [h] at hn0; exact absurd hn0 (by decide)
    have hS := Write_s (b := b) (bW := bW) (bN := r.bF) (s := r.s bDk inl n0 dat.length) (v := .slice none 0 0) (E := []) (xs := List.replicate 8192 0) (x := r.x0) (e := e) (fr := fr) (c := c) (k := dat.length) hR rfl zero_dsk rfl hn0 (by show 8192 + dat.length ≤ 17179869184; omega) (by show 17179869184 < _; decide) rfl (by rw [hx]; show 262144 &&& 268435456 = 0; decide) (by rw [hx]; show 262144 < 4294967296; decide) (by show 0 + dat.length ≤ dat.length; omega) (by show dat.length < _; omega)
    rw [hD]
    have hS2 := hS.frame (Ro := [Cw]) (Hp' := [[(bW, WO (r.s bDk inl n0 dat.length))], [(bDk, DO (.slice none 0 0) 8192)], [(r.bF, IOb r.x0)], []]) (F := [[(r.bF, IOb r.x0)]]) (by (repeat first | exact Pk.nil | apply Pk.cons | exact Rem.here | apply Rem.there))
      ⟨fun p hp => by
        simp only [List.flatten_cons, List.flatten_nil, List.append_nil, List.mem_append, List.mem_singleton] at hp ⊢
        rcases hp with hp | hp
        · subst hp; exact .inr hm
        · exact .inl hp⟩
    refine Spec.convH hS2 fun q hq => ⟨⟨{ r.s bDk inl n0 dat.length with pos := 8192 + dat.length, dw := 0 + dat.length }, q.1, q.2, []⟩, ⟨?_, rfl, rfl, rfl, rfl, rfl, rfl⟩, rfl, fun g w' h => h.add0.re⟩
    exact finS_ext (st := 2) (nb := 1) rfl rfl (by show 0 + dat.length = dat.length; omega) hq (by show 8192 + dat.length = _; rw [List.length_append, List.length_replicate]) (by show 8192 + dat.length = 2 * 4096 + (0 + dat.length); omega) (by show 0 < 0 + dat.length; omega) (by show 0 + dat.length ≤ _; omega) (by show (0 + dat.length + 4095) / 4096 = 1; omega) (by show 8192 + dat.length + 4096 ≤ 17179869184; omega) (by show 17179869184 < _; decide) (by rw [hx]; show 0 + 1 < 4294967296; decide) (by rw [hx]; show 262144 < 4294967296; decide) (by rw [hx]; show 262144 &&& 268435456 = 0; decide)
  file := fun r hr => by
    obtain ⟨hx, hD, hX⟩ := hr
    rw [hx, hX]
    refine ⟨fun a => ⟨rfl, rfl, rfl, rfl, by show 262144 ||| 524288 = 786432; decide, rfl, rfl, rfl, rfl, rfl, rfl, rfl, rfl, rfl, rfl⟩, fun a C h => ⟨List.mem_singleton.2 rfl, own_some60 h rfl, .inr (by show 32768 &&& 61440 = 32768; decide), .inl ⟨rfl, rfl, rfl⟩, by show (ext1B 2 1).length ≤ 136; rw [ext1B_length]; decide, fun h => absurd h (by show ¬ 60 < (ext1B 2 1).length; rw [ext1B_length]; decide), by show 32768 < 65536; decide, by show 0 < 4294967296; decide, by show 0 < 4294967296; decide, by show dat.length < _; omega⟩⟩
  len := by rw [padZ_length, List.length_append, List.length_replicate]; exact Nat.max_eq_right (by omega)
  st2 := ⟨by decide, by decide⟩
  op_at := trivial
theorem way_zero (hK : NmOk n0 bef) : Way eG frG false n0 [] 2 (List.replicate 8192 0) [] [] 262144 0 (noX 0) (fun r _ => r.x0) (fun r _ C => C = r.D0) where
  create := cReg_s (dat := []) hK (by simp) (by decide)
  write := fun r hr bW bDk wv Cw hw => by
    refine Spec.convH (write0_s hw) fun q hq => ⟨⟨r.s bDk false n0 0, .slice none 0 0, [], r.D0⟩, ⟨finS_zero rfl rfl rfl rfl zero_dsk rfl, rfl, rfl, rfl, rfl, rfl, rfl⟩, rfl, fun g w' h => h.add0.re⟩
  file := fun r hr => by
    obtain ⟨hx, hD, hX⟩ := hr
    rw [hx, hX]
    refine ⟨fun a => ⟨rfl, rfl, rfl, rfl, rfl, rfl, rfl, rfl, rfl, rfl, rfl, rfl, rfl, rfl, rfl⟩, fun a C h => ⟨List.mem_singleton.2 rfl, .inl ⟨rfl, rfl⟩, .inr (by show 32768 &&& 61440 = 32768; decide), .inl ⟨rfl, rfl, rfl⟩, Nat.zero_le _, fun h => absurd h (by show ¬ 60 < 0; decide), by show 32768 < 65536; decide, by show 0 < 4294967296; decide, by show 0 < 4294967296; decide, by show 0 < 9223372036854775808; decide⟩⟩
  len := by rw [List.length_replicate]
  st2 := ⟨by decide, by decide⟩
  op_at := trivial
theorem way_inl (hK : NmOk n0 bef) (hsz : dat.length ≤ 136) : Way eG frG true n0 dat 2 (List.replicate 8192 0) dat (xinB (List.replicate (dat.length - 60) 0)) 268697600 0 (inX dat.length) (fun r _ => r.x0) (fun r _ C => ∃ bX : Nat, r.x0.data = Sl bX 0 dat.length dat.length ∧ C = [(bX, BO dat 5 (0, 0))]) where
  create := cInl_s hK hsz
  write := fun r hr bW bDk wv Cw hw => by
    obtain ⟨bX, bx, hx, hD, hX⟩ := hr
    rw [hD]
    by_cases h0 : dat = []
    · subst h0
      refine Spec.convH (write0_s hw) fun q hq => ⟨⟨r.s bDk true n0 0, .slice none 0 0, [], [(bX, BO [] 5 (0, 0))]⟩, ⟨Spec.imp (finS_zero rfl rfl rfl rfl zero_dsk rfl) (fun y hy => ⟨hy.1, bX, by rw [hx], hy.2⟩), rfl, rfl, rfl, rfl, rfl, rfl⟩, rfl, fun g w' h => h.add0.re⟩
    · have hn0 : 0 < dat.length := List.length_pos_iff.2 h0
      rcases hw with ⟨h, _⟩ | ⟨_, b, o, c, e, R, fr, rfl, hm, hR⟩
      · exact absurd h h0
      have hS := WriteInl_s (b := b) (bW := bW) (bN := r.bF) (bX := bX) (eX := 5) (zs := List.replicate dat.length 0) (capX := dat.length) (s := r.s bDk true n0 dat.length) (x := r.x0) (e := e) (fr := fr) (c := c) (k := dat.length) hR rfl hn0 rfl (by rw [hx]; show 268697600 &&& 268435456 ≠ 0; decide) (by rw [hx]; show 268697600 < 4294967296; decide) (by rw [hx, List.length_replicate]) ⟨by rw [List.length_replicate]; exact Nat.le_refl _, by omega⟩ (by show 0 + dat.length ≤ dat.length; omega) (by show dat.length = _; rw [List.length_replicate])
      have hS2 := hS.frame (Ro := [Cw]) (Hp' := [[(bW, WO (r.s bDk true n0 dat.length))], [(bDk, DO (.slice none 0 0) 8192)], [(r.bF, IOb r.x0)], [(bX, BO (List.replicate dat.length 0) 5 (0, 0))]]) (F := [[(bDk, DO (.slice none 0 0) 8192)], [(r.bF, IOb r.x0)]]) (by (repeat first | exact Pk.nil | apply Pk.cons | exact Rem.here | apply Rem.there))
        ⟨fun p hp => by
          simp only [List.flatten_cons, List.flatten_nil, List.append_nil, List.mem_append, List.mem_singleton] at hp ⊢
          rcases hp with hp | hp
          · subst hp; exact .inr hm
          · exact .inl (.inr hp)⟩
      refine Spec.convH hS2 fun q hq => ⟨⟨{ r.s bDk true n0 dat.length with dw := 0 + dat.length }, .slice none 0 0, [], [(bX, BO dat 5 (0, 0))]⟩, ⟨Spec.imp (finS_inl rfl rfl hn0 (by show 0 + dat.length = dat.length; omega) (by rw [hx]; show 268697600 &&& 268435456 ≠ 0; decide) (by rw [hx]; show 268697600 < 4294967296; decide) zero_dsk rfl) (fun y hy => ⟨hy.1, bX, by rw [hx], hy.2⟩), rfl, rfl, rfl, rfl, rfl, rfl⟩, rfl, fun g w' h => ?_⟩
      rw [show (r.s bDk true n0 dat.length).dw = 0 from rfl, putB_all (by rw [List.length_replicate])] at h
      exact h.add0.re
  file := fun r hr => by
    obtain ⟨bX, bx, hx, hD, hX⟩ := hr
    rw [hx, hX]
    refine ⟨fun a => ⟨rfl, rfl, rfl, rfl, rfl, rfl, rfl, rfl, rfl, rfl, rfl, rfl, rfl, rfl, rfl⟩, fun a C h => ?_⟩
    obtain ⟨bY, hY, rfl⟩ := h
    have hl : (xinB (List.replicate (dat.length - 60) 0)).length = 104 := xinB_length (by rw [List.length_replicate]; omega)
    refine ⟨List.mem_singleton.2 rfl, .inr ⟨bY, dat.length, 5, bc dat, (0, 0), hY, List.mem_singleton.2 rfl, RowB.all dat, Nat.le_refl _, fun _ => by omega⟩, .inr (by show 32768 &&& 61440 = 32768; decide), .inr ⟨bx, rfl, rfl, hl⟩, hsz, fun _ => hl, by show 32768 < 65536; decide, by show 0 < 4294967296; decide, by show 0 < 4294967296; decide, by show dat.length < _; omega⟩
  len := by rw [List.length_replicate]
  st2 := ⟨by decide, by decide⟩
  op_at := trivial
end SL
end Go.Proofs.YtlmiekcmjpnobaaGreatDoor
namespace Go.Proofs.YtlmiekcmjpnobaaGreatDoor
open Go
namespace SL
set_option maxRecDepth 20000

theorem up4_mod (n : Nat) : up4 n % 4 = 0 := by unfold up4; omega
theorem up4_lt (n : Nat) : up4 n < n + 4 := by unfold up4; omega
theorem encL_app (a b : List DRec) : encL (a ++ b) = encL a ++ encL b := by simp [encL]
theorem encL_one (r : DRec) : encL [r] = r.enc := by simp [encL]
theorem entL_app (a b : List DRec) : entL (a ++ b) = entL a ++ entL b := by simp [entL]
theorem blkB_app (a b : List (List DRec)) : blkB (a ++ b) = blkB a ++ blkB b := by simp [blkB]
theorem zrec_ok {L : Nat} (h : 12 ≤ L) (h2 : L ≤ 4096) (h4 : L % 4 = 0) : (zrec L).Ok := by
  have hl : (zrec L).len = L := by simp [zrec, DRec.len]; omega
  exact ⟨by show 0 < 4294967296; decide, by show 0 < 256; decide, by rw [hl]; exact h4, by rw [hl]; omega, by show 0 < 256; decide, fun h => absurd rfl h⟩
theorem erec_ok {ino kd : Nat} {nm : List UInt8} (h1 : ino < 4294967296) (h2 : 1 ≤ nm.length) (h3 : nm.length ≤ 255) (h4 : kd < 256) : (erec ino nm kd).Ok := by
  have := up4_lt (8 + nm.length)
  exact ⟨h1, h4, by rw [erec_len]; exact up4_mod _, by rw [erec_len]; omega, by show nm.length < 256; omega, fun _ => h2⟩
structure DInv (xs : List UInt8) (st : List UInt8 × Nat) (done : List (List DRec)) (cur : List DRec) (pr : List (Nat × List UInt8 × Nat)) : Prop where
  txt : st.1 = xs ++ (blkB done ++ encL cur)
  len : (encL cur).length + st.2 = 4096
  lo : 12 ≤ st.2
  md : st.2 % 4 = 0
  full : ∀ b ∈ done, (encL b).length = 4096
  ok1 : ∀ b ∈ done, ∀ r ∈ b, r.Ok
  ok2 : ∀ r ∈ cur, r.Ok
  ents : entL (done.flatten ++ cur) = pr.map fun e => (e.2.1, e.1, e.2.2)
  cnt : (done.flatten ++ cur).length ≤ 2 * pr.length
theorem entL_zrec (L : Nat) : entL [zrec L] = [] := rfl
theorem entL_erec {ino kd : Nat} {nm : List UInt8} (h : ino ≠ 0) : entL [erec ino nm kd] = [(nm, ino, kd)] := by simp [entL, erec, h]
theorem DInv.step {xs : List UInt8} {st : List UInt8 × Nat} {done : List (List DRec)} {cur : List DRec} {pr : List (Nat × List UInt8 × Nat)} {e : Nat × List UInt8 × Nat} (h : DInv xs st done cur pr)
    (he : 1 ≤ e.1 ∧ e.1 < 4294967296 ∧ 1 ≤ e.2.1.length ∧ e.2.1.length ≤ 255 ∧ e.2.2 < 256) : ∃ done' cur', DInv xs (entStep st e.1 e.2.1 e.2.2) done' cur' (pr ++ [e]) := by
  obtain ⟨ino, nm, kd⟩ := e
  obtain ⟨h1, h2, h3, h4, h5⟩ := he
  simp only at h1 h2 h3 h4 h5 ⊢
  have hu := up4_lt (8 + nm.length)
  have hm := up4_mod (8 + nm.length)
  have hg := up4_ge (8 + nm.length)
  have hlo := h.lo
  have hlen := h.len
  have hmd := h.md
  have hel : (erec ino nm kd).enc.length = up4 (8 + nm.length) := by rw [DRec.enc_length, erec_len]
  unfold entStep
  split
  · next hlt =>
    refine ⟨done ++ [cur ++ [zrec st.2]], [erec ino nm kd], ?_, ?_, ?_, ?_, ?_, ?_, ?_, ?_, ?_⟩
    · rw [h.txt, blkB_app, encL_one]
      simp only [blkB, List.flatMap_cons, List.flatMap_nil, List.append_nil, encL_app, encL_one, List.append_assoc]
    · rw [encL_one, hel]; show up4 (8 + nm.length) + (4096 - up4 (8 + nm.length)) = 4096; omega
    · show 12 ≤ 4096 - up4 (8 + nm.length); omega
    · show (4096 - up4 (8 + nm.length)) % 4 = 0; omega
    · intro b hb
      rcases List.mem_append.1 hb with hb | hb
      · exact h.full b hb
      · rw [List.mem_singleton.1 hb, encL_app, encL_one, List.length_append, zrec_length (by omega)]; exact hlen
    · intro b hb r hr
      rcases List.mem_append.1 hb with hb | hb
      · exact h.ok1 b hb r hr
      · rw [List.mem_singleton.1 hb] at hr
        rcases List.mem_append.1 hr with hr | hr
        · exact h.ok2 r hr
        · rw [List.mem_singleton.1 hr]; exact zrec_ok hlo (by omega) hmd
    · intro r hr
      rw [List.mem_singleton.1 hr]; exact erec_ok h2 h3 h4 h5
    · rw [List.flatten_append, List.flatten_cons, List.flatten_nil, List.append_nil, entL_app, entL_erec (by omega), ← List.append_assoc, entL_app, entL_zrec, List.append_nil, h.ents, List.map_append]; rfl
    · have := h.cnt
      simp only [List.flatten_append, List.flatten_cons, List.flatten_nil, List.append_nil, List.length_append, List.length_cons, List.length_nil] at this ⊢
      omega
  · next hge =>
    refine ⟨done, cur ++ [erec ino nm kd], ?_, ?_, ?_, ?_, h.full, h.ok1, ?_, ?_, ?_⟩
    · rw [h.txt, encL_app, encL_one]; simp only [List.append_assoc]
    · rw [encL_app, encL_one, List.length_append, hel]; show (encL cur).length + up4 (8 + nm.length) + (st.2 - up4 (8 + nm.length)) = 4096; omega
    · show 12 ≤ st.2 - up4 (8 + nm.length); omega
    · show (st.2 - up4 (8 + nm.length)) % 4 = 0; omega
    · intro r hr
      rcases List.mem_append.1 hr with hr | hr
      · exact h.ok2 r hr
      · rw [List.mem_singleton.1 hr]; exact erec_ok h2 h3 h4 h5
    · rw [← List.append_assoc, entL_app, entL_erec (by omega), h.ents, List.map_append]; rfl
    · have := h.cnt
      simp only [List.length_append, List.length_cons, List.length_nil] at this ⊢
      omega
theorem DInv.run {xs : List UInt8} : ∀ {l : List (Nat × List UInt8 × Nat)} {st : List UInt8 × Nat} {done : List (List DRec)} {cur : List DRec} {pr : List (Nat × List UInt8 × Nat)}, DInv xs st done cur pr →
    (∀ e ∈ l, 1 ≤ e.1 ∧ e.1 < 4294967296 ∧ 1 ≤ e.2.1.length ∧ e.2.1.length ≤ 255 ∧ e.2.2 < 256) → ∃ done' cur', DInv xs (entsD st l) done' cur' (pr ++ l)
  | [], _, done, cur, pr, h, _ => ⟨done, cur, by rw [List.append_nil]; exact h⟩
  | e :: l, st, done, cur, pr, h, he => by
    obtain ⟨d1, c1, h1⟩ := h.step (he e (List.mem_cons_self ..))
    obtain ⟨d2, c2, h2⟩ := DInv.run h1 (fun x hx => he x (List.mem_cons_of_mem _ hx))
    refine ⟨d2, c2, ?_⟩
    rw [List.append_assoc] at h2
    exact h2
/-- What a directory's text is: blocks of records. -/
structure DirB (xs : List UInt8) (l : List (Nat × List UInt8 × Nat)) (blks : List (List DRec)) : Prop where
  txt : dirOut xs l = xs ++ blkB blks
  full : ∀ b ∈ blks, (encL b).length = 4096
  ok : ∀ b ∈ blks, ∀ r ∈ b, r.Ok
  ne : 0 < blks.length
  ents : entL blks.flatten = l.map fun e => (e.2.1, e.1, e.2.2)
  cnt : blks.flatten.length ≤ 2 * l.length + 1
theorem dir_blks {xs : List UInt8} {l : List (Nat × List UInt8 × Nat)} (h : ∀ e ∈ l, 1 ≤ e.1 ∧ e.1 < 4294967296 ∧ 1 ≤ e.2.1.length ∧ e.2.1.length ≤ 255 ∧ e.2.2 < 256) : ∃ blks, DirB xs l blks := by
  have h0 : DInv xs (xs, 4096) [] [] [] := ⟨by simp [blkB, encL], rfl, by show 12 ≤ 4096; decide, by show 4096 % 4 = 0; decide, fun _ h => absurd h (by simp), fun _ h => absurd h (by simp), fun _ h => absurd h (by simp), rfl, Nat.le_refl _⟩
  obtain ⟨done, cur, hi⟩ := h0.run h
  rw [List.nil_append] at hi
  have hlo := hi.lo
  have hlen := hi.len
  refine ⟨done ++ [cur ++ [zrec (entsD (xs, 4096) l).2]], ?_, ?_, ?_, ?_, ?_, ?_⟩
  · unfold dirOut
    rw [hi.txt, blkB_app]
    simp only [blkB, List.flatMap_cons, List.flatMap_nil, List.append_nil, encL_app, encL_one, List.append_assoc]
  · intro b hb
    rcases List.mem_append.1 hb with hb | hb
    · exact hi.full b hb
    · rw [List.mem_singleton.1 hb, encL_app, encL_one, List.length_append, zrec_length (by omega)]; exact hlen
  · intro b hb r hr
    rcases List.mem_append.1 hb with hb | hb
    · exact hi.ok1 b hb r hr
    · rw [List.mem_singleton.1 hb] at hr
      rcases List.mem_append.1 hr with hr | hr
      · exact hi.ok2 r hr
      · rw [List.mem_singleton.1 hr]; exact zrec_ok hlo (by omega) hi.md
  · rw [List.length_append]; exact Nat.lt_of_lt_of_le (Nat.succ_pos _) (Nat.le_add_left _ _)
  · rw [List.flatten_append, List.flatten_cons, List.flatten_nil, List.append_nil, ← List.append_assoc, entL_app, entL_zrec, List.append_nil, hi.ents]
  · have := hi.cnt
    simp only [List.flatten_append, List.flatten_cons, List.flatten_nil, List.append_nil, List.length_append, List.length_cons, List.length_nil] at this ⊢
    omega
theorem DirB.length {xs : List UInt8} {l : List (Nat × List UInt8 × Nat)} {blks : List (List DRec)} (h : DirB xs l blks) : (dirOut xs l).length = xs.length + blks.length * 4096 := by
  rw [h.txt, List.length_append, blkB_length h.full]
/-! ### What sinks to the front -/
section
variable {K : List UInt8 → List UInt8 → Bool} {a : List UInt8}
theorem sinkD_out : ∀ (j : Nat) (l : List (List UInt8)) (p : Nat), j < p → (sinkD K j l)[p]? = l[p]?
  | 0, _, _, _ => rfl
  | j + 1, l, p, h => by
    unfold sinkD
    split
    · split
      · rw [sinkD_out j _ p (by omega), List.getElem?_set_ne (by omega), List.getElem?_set_ne (by omega)]
      · rfl
    · rfl
theorem sinkD_hit (h1 : ∀ b, b ≠ a → K a b = true) : ∀ (j : Nat) (l : List (List UInt8)), l[j]? = some a → (∀ i, l[i]? = some a → i = j) → (sinkD K j l)[0]? = some a
  | 0, _, h, _ => h
  | j + 1, l, h, hu => by
    obtain ⟨b, hb⟩ : ∃ b, l[j]? = some b := ⟨_, List.getElem?_eq_getElem (by have := (List.getElem?_eq_some_iff.1 h).1; omega)⟩
    have hba : b ≠ a := fun e => by subst e; have := hu j hb; omega
    have hlt := (List.getElem?_eq_some_iff.1 h).1
    unfold sinkD
    rw [h, hb]
    simp only [h1 b hba, if_true]
    refine sinkD_hit h1 j _ (by rw [List.getElem?_set_self (by rw [List.length_set]; omega)]) fun i hi => ?_
    rw [List.getElem?_set] at hi
    split at hi
    · next e => exact e.symm
    · rw [List.getElem?_set] at hi
      split at hi
      · exact absurd (Option.some.inj hi) hba
      · next e1 e2 => exact absurd (hu i hi).symm e2
theorem sinkD_stay (h2 : ∀ b, K b a = false) : ∀ (j : Nat) (l : List (List UInt8)), l[0]? = some a → (sinkD K j l)[0]? = some a
  | 0, _, h => h
  | j + 1, l, h => by
    unfold sinkD
    split
    · next x y hx hy =>
      split
      · next hk =>
        have hj : j ≠ 0 := fun e => by subst e; rw [h] at hy; rw [← Option.some.inj hy, h2] at hk; exact nomatch hk
        exact sinkD_stay h2 j _ (by rw [List.getElem?_set_ne hj, List.getElem?_set_ne (by omega)]; exact h)
      · exact h
    · exact h
theorem sortD_first (h1 : ∀ b, b ≠ a → K a b = true) (h2 : ∀ b, K b a = false) {l : List (List UInt8)} (hnd : l.Nodup) {p : Nat} (hp : l[p]? = some a) : ∀ i, (p < i → (sortD K i l)[0]? = some a) ∧ (i ≤ p → (sortD K i l)[p]? = some a)
  | 0 => ⟨fun h => absurd h (Nat.not_lt_zero _), fun _ => hp⟩
  | i + 1 => by
    obtain ⟨ih1, ih2⟩ := sortD_first h1 h2 hnd hp i
    have hnd2 : (sortD K i l).Nodup := (sortD_perm K i l).nodup_iff.2 hnd
    refine ⟨fun h => ?_, fun h => ?_⟩
    · show (sinkD K i (sortD K i l))[0]? = some a
      rcases Nat.lt_or_ge p i with hlt | hge
      · exact sinkD_stay h2 i _ (ih1 hlt)
      · have hpi : p = i := by omega
        subst hpi
        exact sinkD_hit h1 p _ (ih2 (Nat.le_refl _)) fun j hj => nodup_ix hnd2 hj (ih2 (Nat.le_refl _))
    · show (sinkD K i (sortD K i l))[p]? = some a
      rw [sinkD_out i _ p (by omega)]
      exact ih2 (by omega)
end
end SL
end Go.Proofs.YtlmiekcmjpnobaaGreatDoor
namespace Go.Proofs.YtlmiekcmjpnobaaGreatDoor
open Go
namespace SL
set_option maxRecDepth 20000

theorem leN_skipA {a : List UInt8} {k : Nat} (ha : a.length = k) {l : List UInt8} {q n : Nat} (h : k ≤ q) : leN (a ++ l) q n = leN l (q - k) n := by
  have := leN_app a l n (q - k)
  rwa [ha, Nat.add_sub_cancel' h] at this
theorem leN_skipL (k x : Nat) (l : List UInt8) (q n : Nat) (h : k ≤ q) : leN (leB k x ++ l) q n = leN l (q - k) n := leN_skipA (leB_length k x) h
theorem leN_skipR (k : Nat) (c : UInt8) (l : List UInt8) (q n : Nat) (h : k ≤ q) : leN (List.replicate k c ++ l) q n = leN l (q - k) n := leN_skipA (List.length_replicate ..) h
theorem leN_hit (n x : Nat) (l : List UInt8) (h : x < 256 ^ n) : leN (leB n x ++ l) 0 n = x := by rw [leN_leB, Nat.mod_eq_of_lt h]
theorem leN_pre {M R : List UInt8} : ∀ {n q : Nat}, q + n ≤ M.length → leN (M ++ R) q n = leN M q n
  | 0, _, _ => rfl
  | n + 1, q, h => by
    have h1 : q < M.length := by omega
    rw [leN_in (l := M ++ R) (by rw [List.length_append]; omega), leN_in h1, leN_pre (by omega), List.getElem_append_left h1]
theorem leN_drop {l : List UInt8} {k q n : Nat} (hk : k ≤ l.length) : leN (l.drop k) q n = leN l (k + q) n := by
  have h := leN_app (l.take k) (l.drop k) n q
  rw [List.take_append_drop, List.length_take, Nat.min_eq_left hk] at h
  exact h.symm
theorem leN_zero : ∀ (n k q : Nat), leN (List.replicate k 0) q n = 0
  | 0, _, _ => rfl
  | n + 1, k, q => by
    rcases Nat.lt_or_ge q k with h | h
    · rw [leN_in (by rw [List.length_replicate]; exact h), List.getElem_replicate, leN_zero n]; rfl
    · rw [leN_out (by rw [List.length_replicate]; exact h), leN_zero n]
theorem leN_nil (q n : Nat) : leN [] q n = 0 := leN_zero n 0 q
theorem leN_hit0 (n x : Nat) (h : x < 256 ^ n) : leN (leB n x) 0 n = x := by have := leN_hit n x [] h; rwa [List.append_nil] at this
theorem cut_skip {a : List UInt8} {k : Nat} (ha : a.length = k) {l : List UInt8} {q n : Nat} (h : k ≤ q) : cut (a ++ l) q n = cut l (q - k) n := by
  unfold cut
  rw [List.drop_append, List.drop_of_length_le (by omega), List.nil_append, ha]
theorem cut_pre {M R : List UInt8} {q n : Nat} (h : q + n ≤ M.length) : cut (M ++ R) q n = cut M q n := by
  unfold cut
  rw [List.drop_append_of_le_length (by omega), List.take_append_of_le_length (by rw [List.length_drop]; omega)]
theorem cut_all {M : List UInt8} {n : Nat} (h : M.length = n) : cut M 0 n = M := by unfold cut; rw [List.drop_zero, List.take_of_length_le (by omega)]
/-! ### Bits -/
theorem bit_fin : ∀ (m : Fin 9) (r : Fin 8), ((UInt8.ofNat (2 ^ m.val - 1)).toNat / 2 ^ r.val &&& 1 = 1) ↔ r.val < m.val := by decide
theorem bitL_bits {n j i : Nat} (h : i < 8 * n) : bitL (bitsB n j) i = decide (i < j) := by
  unfold bitL
  rw [bitsB_get (by omega)]
  have := bit_fin ⟨min 8 (j - 8 * (i / 8)), by omega⟩ ⟨i % 8, by omega⟩
  simp only at this ⊢
  rw [decide_eq_decide, this]
  omega
/-! ### The image's layout -/
theorem sbB_length (a b c d e f : Nat) : (sbB a b c d e f).length = 1024 := by simp [sbB, leB_length]
theorem imgS_eq {V : List UInt8} {B inc : Nat} (hV : 8192 ≤ V.length) : imgS V B inc = List.replicate 1024 0 ++ (sbB 16 (B + 3) 0 4 16 inc ++ (List.replicate 2048 0 ++ (gdsB (B + 1) (B + 2) B 0 4 2 128 ++ V.drop 8192))) := by
  have hG : (gdsB (B + 1) (B + 2) B 0 4 2 128).length = 4096 := by rw [gdsB_length]
  have hS : (putB (List.replicate 4096 0) 1024 (sbB 16 (B + 3) 0 4 16 inc)).length = 4096 := by rw [putB_length (by rw [sbB_length, List.length_replicate]; decide), List.length_replicate]
  unfold imgS
  rw [wrB_in (l := V) (by rw [hG]; omega), wrB_in (by rw [hS, putB_length (by rw [hG]; omega)]; omega)]
  generalize gdsB (B + 1) (B + 2) B 0 4 2 128 = G at *
  have h1 : putB V 4096 G = V.take 4096 ++ (G ++ V.drop 8192) := by unfold putB; rw [hG, List.append_assoc]
  have h2 : ∀ S : List UInt8, S.length = 4096 → putB (putB V 4096 G) 0 S = S ++ (G ++ V.drop 8192) := fun S hS => by
    rw [h1]
    unfold putB
    rw [List.take_zero, List.nil_append, Nat.zero_add, hS, List.drop_append, List.length_take, List.drop_of_length_le (by rw [List.length_take]; omega), List.nil_append, Nat.min_eq_left (by omega), Nat.sub_self, List.drop_zero]
  rw [h2 _ hS]
  unfold putB
  rw [List.take_replicate, List.drop_replicate, sbB_length, show min 1024 4096 = 1024 from rfl, show 4096 - (1024 + 1024) = 2048 from rfl]
  simp only [List.append_assoc]
section
variable {V : List UInt8} {B inc : Nat} (hV : 8192 ≤ V.length)
include hV
theorem img_sb {q n : Nat} (h : q + n ≤ 1024) : leN (imgS V B inc) (1024 + q) n = leN (sbB 16 (B + 3) 0 4 16 inc) q n := by
  rw [imgS_eq hV, leN_skipA (List.length_replicate ..) (by omega), Nat.add_sub_cancel_left, leN_pre (by rw [sbB_length]; exact h)]
theorem img_gd {q n : Nat} (h : q + n ≤ 32) : leN (imgS V B inc) (4096 + q) n = leN (grpDescB (B + 1) (B + 2) B 0 4 2) q n := by
  rw [imgS_eq hV, leN_skipA (List.length_replicate ..) (by omega), leN_skipA (sbB_length ..) (by omega), leN_skipA (List.length_replicate ..) (by omega), show 4096 + q - 1024 - 1024 - 2048 = q by omega, leN_pre (by rw [gdsB_length]; omega)]
  show leN (grpDescB _ _ _ _ _ _ ++ _) q n = _
  rw [leN_pre (by rw [grpDescB_length]; exact h)]
theorem img_hi {p n : Nat} (h : 8192 ≤ p) : leN (imgS V B inc) p n = leN V p n := by
  rw [imgS_eq hV, leN_skipA (List.length_replicate ..) (by omega), leN_skipA (sbB_length ..) (by omega), leN_skipA (List.length_replicate ..) (by omega), leN_skipA (k := 4096) (by rw [gdsB_length]) (by omega), leN_drop hV, show 8192 + (p - 1024 - 1024 - 2048 - 4096) = p by omega]
theorem img_cut {p n : Nat} (h : 8192 ≤ p) : cut (imgS V B inc) p n = cut V p n := by
  rw [imgS_eq hV, cut_skip (List.length_replicate ..) (by omega), cut_skip (sbB_length ..) (by omega), cut_skip (List.length_replicate ..) (by omega), cut_skip (k := 4096) (by rw [gdsB_length]) (by omega)]
  unfold cut
  rw [List.drop_drop, show 8192 + (p - 1024 - 1024 - 2048 - 4096) = p by omega]
theorem img_len : (imgS V B inc).length = V.length := by
  rw [imgS_eq hV]
  simp only [List.length_append, List.length_replicate, sbB_length, gdsB_length, List.length_drop]
  omega
end
theorem imgT_eq {O tab : List UInt8} {B : Nat} (hO : O.length = B * 4096) (ht : tab.length = 3072) : imgT O tab B = O ++ (tab ++ (List.replicate 1024 0 ++ (bitsB 4096 32768 ++ bitsB 4096 12))) := by
  unfold imgT padZ
  rw [List.length_append, hO, ht, show B * 4096 + 4096 - (B * 4096 + 3072) = 1024 by omega]
  simp only [List.append_assoc]
section
variable {O tab : List UInt8} {B : Nat} (hO : O.length = B * 4096) (ht : tab.length = 3072)
include hO ht
theorem imgT_len : (imgT O tab B).length = (B + 3) * 4096 := by
  rw [imgT_eq hO ht]
  simp only [List.length_append, List.length_replicate, bitsB_length, hO, ht]
  omega
theorem imgT_tab {q n : Nat} (h : q + n ≤ 3072) : leN (imgT O tab B) (B * 4096 + q) n = leN tab q n := by
  rw [imgT_eq hO ht, leN_skipA hO (by omega), Nat.add_sub_cancel_left, leN_pre (by rw [ht]; exact h)]
theorem imgT_tabc {q n : Nat} (h : q + n ≤ 3072) : cut (imgT O tab B) (B * 4096 + q) n = cut tab q n := by
  rw [imgT_eq hO ht, cut_skip hO (by omega), Nat.add_sub_cancel_left, cut_pre (by rw [ht]; exact h)]
theorem imgT_free {q n : Nat} (h : 3072 ≤ q) (h2 : q + n ≤ 4096) : leN (imgT O tab B) (B * 4096 + q) n = 0 := by
  rw [imgT_eq hO ht, leN_skipA hO (by omega), Nat.add_sub_cancel_left, leN_skipA ht h, leN_pre (by rw [List.length_replicate]; omega), leN_zero]
theorem imgT_data {p n : Nat} (h : p + n ≤ B * 4096) : cut (imgT O tab B) p n = cut O p n := by
  rw [imgT_eq hO ht, cut_pre (by rw [hO]; exact h)]
theorem imgT_bm1 : cut (imgT O tab B) ((B + 1) * 4096) 4096 = bitsB 4096 32768 := by
  rw [imgT_eq hO ht, cut_skip hO (by omega), cut_skip ht (by omega), cut_skip (k := 1024) (List.length_replicate ..) (by omega), show (B + 1) * 4096 - B * 4096 - 3072 - 1024 = 0 by omega, cut_pre (by rw [bitsB_length]; decide), cut_all (bitsB_length ..)]
theorem imgT_bm2 : cut (imgT O tab B) ((B + 2) * 4096) 4096 = bitsB 4096 12 := by
  rw [imgT_eq hO ht, cut_skip hO (by omega), cut_skip ht (by omega), cut_skip (k := 1024) (List.length_replicate ..) (by omega), cut_skip (k := 4096) (bitsB_length ..) (by omega), show (B + 2) * 4096 - B * 4096 - 3072 - 1024 - 4096 = 0 by omega, cut_all (bitsB_length ..)]
end
end SL
end Go.Proofs.YtlmiekcmjpnobaaGreatDoor
namespace Go.Proofs.YtlmiekcmjpnobaaGreatDoor
open Go
namespace SL
set_option maxRecDepth 20000

theorem cntF_all {p : Nat → Bool} : ∀ {n : Nat}, (∀ i, i < n → p i = true) → cntF n p = 0
  | 0, _ => rfl
  | n + 1, h => by rw [cntF_T (h n (Nat.lt_succ_self n)), cntF_all fun i hi => h i (Nat.lt_succ_of_lt hi)]
theorem used16 : ∀ i : Fin 16, decide (i.val < 12) = usedF 11 [2, 11, 12] (i.val + 1) := by decide
theorem cnt16 : cntF 16 (fun i => usedF 11 [2, 11, 12] (i + 1)) = 4 := by decide
section
variable {V : List UInt8} {B inc : Nat} (hV : V.length = (B + 3) * 4096) (hB : B ≤ 3000) (hinc : inc = 578 ∨ inc = 33346)
include hV hB
theorem img_sbOk (hinc : inc = 578 ∨ inc = 33346) : SbOk (imgS V B inc) (B + 3) 16 11 inc 4170 := by
  have h8 : 8192 ≤ V.length := by omega
  have hB4 : B + 3 < 256 ^ 4 := by omega
  have hi4 : inc < 256 ^ 4 := by rcases hinc with rfl | rfl <;> decide
  refine ⟨?_, ?_, ?_, ?_, ?_, ?_, ?_, ?_, ?_, ?_, ?_, ?_, ?_, ?_, ?_, ?_, ?_, ?_, by decide⟩
  · rw [show 1024 = 1024 + 0 from rfl, img_sb h8 (by decide)]; simp [sbB, leN_skipL, leN_hit]
  · rw [show 1028 = 1024 + 4 from rfl, img_sb h8 (by decide)]; simp only [sbB, leN_skipL _ _ _ _ _ (show 4 ≤ 4 by decide), Nat.sub_self]; exact leN_hit _ _ _ hB4
  · rw [show 1044 = 1024 + 20 from rfl, img_sb h8 (by decide)]; simp [sbB, leN_skipL, leN_hit]
  · rw [show 1048 = 1024 + 24 from rfl, img_sb h8 (by decide)]; simp [sbB, leN_skipL, leN_hit]
  · rw [show 1056 = 1024 + 32 from rfl, img_sb h8 (by decide)]; simp [sbB, leN_skipL, leN_hit]
  · rw [show 1064 = 1024 + 40 from rfl, img_sb h8 (by decide)]; simp [sbB, leN_skipL, leN_hit]
  · rw [show 1080 = 1024 + 56 from rfl, img_sb h8 (by decide)]; simp [sbB, leN_skipL, leN_hit]
  · rw [show 1082 = 1024 + 58 from rfl, img_sb h8 (by decide)]; simp [sbB, leN_skipL, leN_hit]
  · rw [show 1100 = 1024 + 76 from rfl, img_sb h8 (by decide)]; simp [sbB, leN_skipL, leN_hit]
  · rw [show 1108 = 1024 + 84 from rfl, img_sb h8 (by decide)]; simp [sbB, leN_skipL, leN_hit]
  · rw [show 1112 = 1024 + 88 from rfl, img_sb h8 (by decide)]; simp [sbB, leN_skipL, leN_hit]
  · rw [show 1120 = 1024 + 96 from rfl, img_sb h8 (by decide)]; simp [sbB, leN_skipL]; exact leN_hit _ _ _ hi4
  · rw [show 1124 = 1024 + 100 from rfl, img_sb h8 (by decide)]; simp [sbB, leN_skipL, leN_hit]
  · rw [show 1360 = 1024 + 336 from rfl, img_sb h8 (by decide)]; simp [-List.reduceReplicate, sbB, leN_skipL, leN_skipR, leN_hit]
  · rcases hinc with rfl | rfl <;> decide
  · rcases hinc with rfl | rfl <;> decide
  · rcases hinc with rfl | rfl <;> decide
  · rcases hinc with rfl | rfl <;> decide
theorem img_laid (hB2 : 2 ≤ B) : Laid1 (imgS V B inc) (B + 3) B 1 := by
  have h8 : 8192 ≤ V.length := by omega
  have hB4 : B < 256 ^ 4 := by omega
  have hB5 : B + 1 < 256 ^ 4 := by omega
  have hB6 : B + 2 < 256 ^ 4 := by omega
  refine ⟨by rw [img_len h8, hV], by omega, hB2, by decide, by omega, ?_, ?_, ?_, ?_⟩
  · rw [show 4096 = 4096 + 0 from rfl, img_gd h8 (by decide)]; exact leN_hit _ _ _ hB5
  · rw [show 4100 = 4096 + 4 from rfl, img_gd h8 (by decide)]; simp [grpDescB, leN_skipL]; exact leN_hit _ _ _ hB6
  · rw [show 4104 = 4096 + 8 from rfl, img_gd h8 (by decide)]; simp [grpDescB, leN_skipL]; exact leN_hit _ _ _ hB4
  · rw [show 1116 = 1024 + 92 from rfl, img_sb h8 (by decide)]; simp [sbB, leN_skipL, leN_hit]
end
theorem img_marks {O tab : List UInt8} {B inc : Nat} {f : Nat → Bool} (hO : O.length = B * 4096) (ht : tab.length = 3072) (hB : B ≤ 3000) (hB2 : 2 ≤ B) (hf : ∀ i, i < B + 3 → f i = true) :
    Marks (imgS (imgT O tab B) B inc) B 1 (B + 3) (1 * 16) f (usedF 11 [2, 11, 12]) 2 := by
  have hVl := imgT_len hO ht
  have h8 : 8192 ≤ (imgT O tab B).length := by omega
  have L := img_laid (inc := inc) hVl hB hB2
  have hall : ∀ i, (decide (B + 3 ≤ i) || f i) = true := fun i => by
    by_cases h : B + 3 ≤ i
    · simp [h]
    · simp [hf i (by omega)]
  have hc0 : cntF 32768 (fun i => decide (B + 3 ≤ i) || f i) = 0 := cntF_all fun i _ => hall i
  refine ⟨L.bb, L.ib, fun i hi => ?_, fun i hi => ?_, fun i hi hu => ?_, fun i hi hu => ?_, ?_, ?_, ?_, ?_, ?_, ?_⟩
  · rw [img_cut h8 (by omega), imgT_bm1 hO ht, bitL_bits (by omega), hall i]; simp [hi]
  · rw [show (B + 1 + 1) * 4096 = (B + 2) * 4096 by omega, img_cut h8 (by omega), imgT_bm2 hO ht, bitL_bits (by omega)]
    exact used16 ⟨i, hi⟩
  · have := used16 ⟨i, hi⟩
    simp only [hu, decide_eq_false_iff_not] at this
    rw [img_hi h8 (by omega), imgT_free hO ht (by omega) (by omega)]
  · have := used16 ⟨i, hi⟩
    simp only [hu, decide_eq_false_iff_not] at this
    rw [img_hi h8 (by omega), Nat.add_assoc, imgT_free hO ht (by omega) (by omega)]
  · rw [show 4108 = 4096 + 12 from rfl, img_gd h8 (by decide), hc0]; simp [grpDescB, leN_skipL, leN_hit]
  · rw [show 4110 = 4096 + 14 from rfl, img_gd h8 (by decide)]; show _ = cntF 16 _; rw [cnt16]; simp [grpDescB, leN_skipL, leN_hit]
  · rw [show 4112 = 4096 + 16 from rfl, img_gd h8 (by decide)]; simp [grpDescB, leN_skipL, leN_hit]
  · rw [show 1036 = 1024 + 12 from rfl, img_sb h8 (by decide), hc0]; simp [sbB, leN_skipL, leN_hit]
  · rw [show 1368 = 1024 + 344 from rfl, img_sb h8 (by decide)]; simp [-List.reduceReplicate, sbB, leN_skipL, leN_skipR, leN_hit]
  · rw [show 1040 = 1024 + 16 from rfl, img_sb h8 (by decide)]; show _ = cntF 16 _; rw [cnt16]; simp [sbB, leN_skipL, leN_hit]
/-! ### Inodes -/
theorem leN_take {l : List UInt8} {k q n : Nat} (h : q + n ≤ k) (hk : k ≤ l.length) : leN (l.take k) q n = leN l q n := by
  have := leN_pre (M := l.take k) (R := l.drop k) (q := q) (n := n) (by rw [List.length_take]; omega)
  rw [List.take_append_drop] at this
  exact this.symm
theorem cut_take {l : List UInt8} {k q n : Nat} (h : q + n ≤ k) (hk : k ≤ l.length) : cut (l.take k) q n = cut l q n := by
  have := cut_pre (M := l.take k) (R := l.drop k) (q := q) (n := n) (by rw [List.length_take]; omega)
  rw [List.take_append_drop] at this
  exact this.symm
theorem leN_skipB {blk : List UInt8} (hb : blk.length = 60) (l : List UInt8) (q n : Nat) (h : 60 ≤ q) : leN (blk ++ l) q n = leN l (q - 60) n := leN_skipA hb h
section
variable {x : WI} {dl : List UInt8} {e : TE}
/-- What is asked of an inode that is laid. -/
structure PlainI (x : WI) : Prop where
  at0 : x.atime = 0
  ct0 : x.ctime = 0
  mt0 : x.mtime = 0
  cr0 : x.crtime = 0
  uid : x.uid = 0
  gid : x.gid = 0
  xb : x.xb = 0
  mode : x.mode < 65536
  size : x.size < 4294967296
  links : x.links < 65536
  bc : x.bc < 4294967296
  flags : x.flags < 4294967296
theorem ino_facts (h : PlainI x) {blk : List UInt8} (hb : blk.length = 60) {B : List UInt8} {oi : Nat} (hB : ∀ q n, q + n ≤ 152 → leN B (oi + q) n = leN (inoOf x blk) q n) : InoF B oi x.mode x.size x.links x.bc x.flags := by
  have e0 : inoOf x blk = inoB x.mode 0 x.size 0 0 0 0 0 x.links x.bc x.flags 0 0 0 0 0 0 0 0 0 0 0 24 0 0 0 0 0 0 0 0 blk := by
    have hs1 : (x.size &&& 4294967295) % 4294967296 = x.size := by
      rw [show (4294967295 : Nat) = 2 ^ 32 - 1 from rfl, Nat.and_two_pow_sub_one_eq_mod]
      have := h.size
      omega
    have hs2 : x.size / 2 ^ 32 % 4294967296 = 0 := by have := h.size; rw [Nat.div_eq_of_lt (by omega)]
    have hs3 : x.links % 65536 = x.links := Nat.mod_eq_of_lt h.links
    unfold inoOf
    rw [hs1, hs2, hs3, h.at0, h.ct0, h.mt0, h.cr0, h.uid, h.gid, h.xb]
    rfl
  have hm : x.mode < 256 ^ 2 := h.mode
  have hs : x.size < 256 ^ 4 := h.size
  have hl : x.links < 256 ^ 2 := h.links
  have hc : x.bc < 256 ^ 4 := h.bc
  have hf : x.flags < 256 ^ 4 := h.flags
  rw [e0] at hB
  have z2 : ∀ l, leN (leB 2 0 ++ l) 0 2 = 0 := fun l => leN_hit 2 0 l (by decide)
  have z4 : ∀ l, leN (leB 4 0 ++ l) 0 4 = 0 := fun l => leN_hit 4 0 l (by decide)
  have h24 : ∀ l, leN (leB 2 24 ++ l) 0 2 = 24 := fun l => leN_hit 2 24 l (by decide)
  have zz : leN (leB 4 0) 0 4 = 0 := leN_hit0 4 0 (by decide)
  refine ⟨?_, ?_, ?_, ?_, ?_, ?_, ?_, ?_, ?_, ?_, ?_, ?_, ?_, ?_, ?_, ?_, ?_, ?_, ?_, ?_, ?_, ?_⟩
  · have := hB 0 2 (by decide); rw [Nat.add_zero] at this; rw [this]; exact leN_hit _ _ _ hm
  · rw [hB 2 2 (by decide)]; simp [inoB, leN_skipL, z2]
  · rw [hB 4 4 (by decide)]; simp [inoB, leN_skipL]; exact leN_hit _ _ _ hs
  · rw [hB 8 4 (by decide)]; simp [inoB, leN_skipL, z4]
  · rw [hB 12 4 (by decide)]; simp [inoB, leN_skipL, z4]
  · rw [hB 16 4 (by decide)]; simp [inoB, leN_skipL, z4]
  · rw [hB 20 4 (by decide)]; simp [inoB, leN_skipL, z4]
  · rw [hB 24 2 (by decide)]; simp [inoB, leN_skipL, z2]
  · rw [hB 26 2 (by decide)]; simp [inoB, leN_skipL]; exact leN_hit _ _ _ hl
  · rw [hB 28 4 (by decide)]; simp [inoB, leN_skipL]; exact leN_hit _ _ _ hc
  · rw [hB 32 4 (by decide)]; simp [inoB, leN_skipL]; exact leN_hit _ _ _ hf
  · rw [hB 104 4 (by decide)]; simp [inoB, leN_skipL, leN_skipB hb, z4]
  · rw [hB 108 4 (by decide)]; simp [inoB, leN_skipL, leN_skipB hb, z4]
  · rw [hB 116 2 (by decide)]; simp [inoB, leN_skipL, leN_skipB hb, z2]
  · rw [hB 120 2 (by decide)]; simp [inoB, leN_skipL, leN_skipB hb, z2]
  · rw [hB 122 2 (by decide)]; simp [inoB, leN_skipL, leN_skipB hb, z2]
  · rw [hB 128 2 (by decide)]; simp [inoB, leN_skipL, leN_skipB hb, h24]
  · rw [hB 132 4 (by decide)]; simp [inoB, leN_skipL, leN_skipB hb, z4]
  · rw [hB 136 4 (by decide)]; simp [inoB, leN_skipL, leN_skipB hb, z4]
  · rw [hB 140 4 (by decide)]; simp [inoB, leN_skipL, leN_skipB hb, z4]
  · rw [hB 144 4 (by decide)]; simp [inoB, leN_skipL, leN_skipB hb, z4]
  · rw [hB 148 4 (by decide)]; simp [inoB, leN_skipL, leN_skipB hb, z4]
theorem ino_blk {blk : List UInt8} (hb : blk.length = 60) {q n : Nat} (h : q + n ≤ 60) : leN (inoOf x blk) (40 + q) n = leN blk q n := by
  unfold inoOf inoB
  rw [leN_skipL _ _ _ _ _ (by omega), leN_skipL _ _ _ _ _ (by omega), leN_skipL _ _ _ _ _ (by omega), leN_skipL _ _ _ _ _ (by omega), leN_skipL _ _ _ _ _ (by omega), leN_skipL _ _ _ _ _ (by omega), leN_skipL _ _ _ _ _ (by omega), leN_skipL _ _ _ _ _ (by omega), leN_skipL _ _ _ _ _ (by omega), leN_skipL _ _ _ _ _ (by omega), leN_skipL _ _ _ _ _ (by omega), leN_skipL _ _ _ _ _ (by omega),
    show 40 + q - 2 - 2 - 4 - 4 - 4 - 4 - 4 - 2 - 2 - 4 - 4 - 4 = q by omega, leN_pre (by rw [hb]; exact h)]
theorem ino_blkc {blk : List UInt8} (hb : blk.length = 60) : cut (inoOf x blk) 40 60 = blk := by
  unfold inoOf inoB
  rw [cut_skip (leB_length ..) (by omega), cut_skip (leB_length ..) (by omega), cut_skip (leB_length ..) (by omega), cut_skip (leB_length ..) (by omega), cut_skip (leB_length ..) (by omega), cut_skip (leB_length ..) (by omega), cut_skip (leB_length ..) (by omega), cut_skip (leB_length ..) (by omega), cut_skip (leB_length ..) (by omega), cut_skip (leB_length ..) (by omega), cut_skip (leB_length ..) (by omega), cut_skip (leB_length ..) (by omega),
    show 40 - 2 - 2 - 4 - 4 - 4 - 4 - 4 - 2 - 2 - 4 - 4 - 4 = 0 from rfl, cut_pre (by rw [hb]; decide), cut_all hb]
theorem ext1_facts {B : List UInt8} {ob st nb : Nat} (hst : st < 4294967296) (hnb : nb < 65536) (hB : ∀ q n, q + n ≤ 60 → leN B (ob + q) n = leN (ext1B st nb) q n) : Ext1 B ob st nb := by
  have h1 : st < 256 ^ 4 := hst
  have h2 : nb < 256 ^ 2 := hnb
  refine ⟨?_, ?_, ?_, ?_, ?_, ?_, ?_, ?_⟩
  · have := hB 0 2 (by decide); rw [Nat.add_zero] at this; rw [this]; simp [ext1B, extHdrB, List.append_assoc, leN_hit]
  · rw [hB 2 2 (by decide)]; simp [ext1B, extHdrB, List.append_assoc, leN_skipL, leN_hit]
  · rw [hB 4 2 (by decide)]; simp [ext1B, extHdrB, List.append_assoc, leN_skipL, leN_hit]
  · rw [hB 6 2 (by decide)]; simp [ext1B, extHdrB, List.append_assoc, leN_skipL, leN_hit]
  · rw [hB 12 4 (by decide)]; simp [ext1B, extHdrB, extLeafB, List.append_assoc, leN_skipL, leN_hit]
  · rw [hB 16 2 (by decide)]; simp [ext1B, extHdrB, extLeafB, List.append_assoc, leN_skipL]; exact leN_hit _ _ _ h2
  · rw [hB 18 2 (by decide)]; simp [ext1B, extHdrB, extLeafB, List.append_assoc, leN_skipL, leN_hit]
  · rw [hB 20 4 (by decide)]; simp [ext1B, extHdrB, extLeafB, List.append_assoc, leN_skipL]; exact leN_hit _ _ _ h1
end
end SL
end Go.Proofs.YtlmiekcmjpnobaaGreatDoor
namespace Go.Proofs.YtlmiekcmjpnobaaGreatDoor
open Go
namespace SL
set_option maxRecDepth 20000

theorem bl_irrefl : ∀ (a : List UInt8), Op.bytesLess a a = false
  | [] => rfl
  | a :: l => by
    have h : ¬ a < a := UInt8.lt_irrefl a
    simp [Op.bytesLess, h, bl_irrefl l]
theorem bl_trans : ∀ {a b c : List UInt8}, Op.bytesLess a b = true → Op.bytesLess b c = true → Op.bytesLess a c = true
  | _, _, [], _, h => by cases ‹List UInt8› <;> simp [Op.bytesLess] at h
  | [], _, _ :: _, _, _ => rfl
  | _ :: _, [], _, h, _ => by simp [Op.bytesLess] at h
  | a :: x, b :: y, c :: z, h1, h2 => by
    simp only [Op.bytesLess, Bool.or_eq_true, decide_eq_true_eq, Bool.and_eq_true, beq_iff_eq] at h1 h2 ⊢
    rcases h1 with h1 | ⟨rfl, h1⟩
    · rcases h2 with h2 | ⟨rfl, h2⟩
      · exact .inl (UInt8.lt_trans h1 h2)
      · exact .inl h1
    · rcases h2 with h2 | ⟨rfl, h2⟩
      · exact .inl h2
      · exact .inr ⟨rfl, bl_trans h1 h2⟩
theorem bl_total : ∀ {a b : List UInt8}, Op.bytesLess a b = false → a ≠ b → Op.bytesLess b a = true
  | [], [], _, h => absurd rfl h
  | [], _ :: _, h, _ => by simp [Op.bytesLess] at h
  | _ :: _, [], _, _ => rfl
  | a :: x, b :: y, h1, h2 => by
    simp only [Op.bytesLess, Bool.or_eq_false_iff, decide_eq_false_iff_not, Bool.and_eq_false_iff, beq_eq_false_iff_ne, Bool.or_eq_true, decide_eq_true_eq, Bool.and_eq_true, beq_iff_eq] at h1 ⊢
    obtain ⟨h3, h4⟩ := h1
    by_cases he : a = b
    · subst he
      refine .inr ⟨rfl, bl_total ?_ fun e => h2 (by rw [e])⟩
      rcases h4 with h4 | h4
      · exact absurd rfl h4
      · exact h4
    · rcases UInt8.lt_or_lt_of_ne he with h | h
      · exact absurd h h3
      · exact .inl h
def SortD (l : Dl) : Prop := l.Pairwise fun a b => Op.bytesLess a.1 b.1 = true
theorem sort_pos : ∀ {l : Dl} {nm : List UInt8}, SortD l → (∀ d ∈ l.take (posN l nm), Op.bytesLess d.1 nm = true) ∧ (∀ d ∈ l.drop (posN l nm), d.1 = nm ∨ Op.bytesLess nm d.1 = true)
  | [], _, _ => ⟨fun _ h => absurd h (by simp), fun _ h => absurd h (by simp)⟩
  | d :: l, nm, h => by
    have hl := (List.pairwise_cons.1 h)
    unfold posN
    by_cases hd : Op.bytesLess d.1 nm = true
    · rw [if_pos hd]
      obtain ⟨h1, h2⟩ := sort_pos (nm := nm) hl.2
      refine ⟨fun e he => ?_, fun e he => h2 e (by simpa using he)⟩
      rcases List.mem_cons.1 (by simpa using he : e ∈ d :: l.take (posN l nm)) with rfl | he
      · exact hd
      · exact h1 e he
    · rw [if_neg hd]
      refine ⟨fun _ h => absurd h (by simp), fun e he => ?_⟩
      have hdf : Op.bytesLess d.1 nm = false := by simpa using hd
      have hdn : d.1 = nm ∨ Op.bytesLess nm d.1 = true := by
        by_cases e : d.1 = nm
        · exact .inl e
        · exact .inr (bl_total hdf e)
      rcases List.mem_cons.1 (by simpa using he : e ∈ d :: l) with rfl | he
      · exact hdn
      · have hde := hl.1 e he
        rcases hdn with hdn | hdn
        · exact .inr (hdn ▸ hde)
        · exact .inr (bl_trans hdn hde)
theorem hasN_of {l : Dl} {nm : List UInt8} {k : Nat} (hs : SortD l) (h : (nm, k) ∈ l) : hasN l nm = true ∧ (l[posN l nm]?).map (·.2) = some k := by
  obtain ⟨h1, h2⟩ := sort_pos (nm := nm) hs
  have hle := posN_le l nm
  have hsp : l = l.take (posN l nm) ++ l.drop (posN l nm) := (List.take_append_drop _ _).symm
  have hm : (nm, k) ∈ l.drop (posN l nm) := by
    rw [hsp] at h
    rcases List.mem_append.1 h with h | h
    · have := h1 _ h; simp only [bl_irrefl] at this; exact nomatch this
    · exact h
  cases hdr : l.drop (posN l nm) with
  | nil => rw [hdr] at hm; exact absurd hm (by simp)
  | cons d r =>
    have hd0 : l[posN l nm]? = some d := by
      have := congrArg (fun x : Dl => x[0]?) hdr
      simpa using this
    have hsd : (d :: r).Pairwise fun a b => Op.bytesLess a.1 b.1 = true := by rw [← hdr]; exact hs.sublist (List.drop_sublist _ _)
    rw [hdr] at hm h2
    have hdk : d = (nm, k) := by
      rcases List.mem_cons.1 hm with h | h
      · exact h.symm
      · have h3 := (List.pairwise_cons.1 hsd).1 _ h
        simp only at h3
        rcases h2 d (List.mem_cons_self ..) with h4 | h4
        · rw [h4, bl_irrefl] at h3; exact nomatch h3
        · have := bl_trans h3 h4; rw [bl_irrefl] at this; exact nomatch this
    unfold hasN
    rw [hd0, hdk]
    exact ⟨by simp, rfl⟩
theorem hasN_mem {l : Dl} {nm : List UInt8} (h : hasN l nm = true) : nm ∈ l.map (·.1) := by
  unfold hasN at h
  cases hd : l[posN l nm]? with
  | none => rw [hd] at h; exact nomatch h
  | some d =>
    rw [hd] at h
    simp only [decide_eq_true_eq] at h
    exact h ▸ List.mem_map_of_mem (List.mem_of_getElem? hd)
theorem insN_new {l : Dl} {nm : List UInt8} {k : Nat} (hs : SortD l) (h : nm ∉ l.map (·.1)) : SortD (insN l nm k) ∧ (insN l nm k).Perm ((nm, k) :: l) := by
  have hn : hasN l nm = false := by
    cases hh : hasN l nm
    · rfl
    · exact absurd (hasN_mem hh) h
  obtain ⟨h1, h2⟩ := sort_pos (nm := nm) hs
  have hi : insN l nm k = l.take (posN l nm) ++ (nm, k) :: l.drop (posN l nm) := by unfold insN; rw [hn]; rfl
  rw [hi]
  have hd2 : ∀ d ∈ l.drop (posN l nm), Op.bytesLess nm d.1 = true := fun d hd => by
    rcases h2 d hd with e | e
    · exact absurd (List.mem_map_of_mem (List.mem_of_mem_drop hd)) (e ▸ h)
    · exact e
  constructor
  · refine List.pairwise_append.2 ⟨hs.sublist (List.take_sublist _ _), List.pairwise_cons.2 ⟨fun d hd => hd2 d hd, hs.sublist (List.drop_sublist _ _)⟩, fun a ha b hb => ?_⟩
    rcases List.mem_cons.1 hb with rfl | hb
    · exact h1 a ha
    · exact bl_trans (h1 a ha) (hd2 b hb)
  · refine List.perm_middle.trans ?_
    rw [List.take_append_drop]
/-- Names that are put in one by one. -/
theorem dl_run {plc : Nat → Nat} : ∀ {es : List Ent} {acc : Dl}, SortD acc → (∀ e ∈ es, ¬ dotE e) → (es.map (·.1)).Nodup → (∀ e ∈ es, e.1 ∉ acc.map (·.1)) →
    SortD (es.foldl (dlStep plc) acc) ∧ (es.foldl (dlStep plc) acc).Perm ((es.map fun e => (e.1, plc e.2.1)).reverse ++ acc)
  | [], acc, hs, _, _, _ => ⟨hs, .refl _⟩
  | e :: es, acc, hs, hd, hn, ha => by
    have h1 : dlStep plc acc e = insN acc e.1 (plc e.2.1) := if_neg (hd e (List.mem_cons_self ..))
    obtain ⟨h2, h3⟩ := insN_new (k := plc e.2.1) hs (ha e (List.mem_cons_self ..))
    rw [List.map_cons, List.nodup_cons] at hn
    rw [List.foldl_cons, h1]
    obtain ⟨h4, h5⟩ := dl_run (plc := plc) h2 (fun x hx => hd x (List.mem_cons_of_mem _ hx)) hn.2 (fun x hx hm => by
      rw [(h3.map (·.1)).mem_iff, List.map_cons, List.mem_cons] at hm
      rcases hm with hm | hm
      · exact hn.1 (hm ▸ List.mem_map_of_mem hx)
      · exact ha x (List.mem_cons_of_mem _ hx) hm)
    refine ⟨h4, h5.trans ?_⟩
    rw [List.map_cons, List.reverse_cons, List.append_assoc]
    exact h3.append_left _
/-! ### How often a node is named -/
theorem lkKid_at {isd : Nat → Bool} {i j : Nat} (hij : i ≠ j) : ∀ (ks : List Nat) (f : Nat → Nat), ks.foldl (lkKid isd i) f j = f j + ks.count j
  | [], f => rfl
  | k :: ks, f => by
    rw [List.foldl_cons, lkKid_at hij ks]
    have h1 : lkKid isd i f k j = upd f k (f k + 1) j := by
      unfold lkKid
      split
      · unfold upd; rw [if_neg hij.symm]
      · rfl
    rw [h1]
    unfold upd
    by_cases h : j = k
    · subst h; rw [if_pos rfl, List.count_cons_self]; omega
    · rw [if_neg h, List.count_cons_of_ne (by exact fun e => h e.symm)]
end SL
end Go.Proofs.YtlmiekcmjpnobaaGreatDoor
namespace Go.Proofs.YtlmiekcmjpnobaaGreatDoor
open Go
namespace SL
set_option maxRecDepth 20000

theorem leN_flatM {α : Type} {g : α → List UInt8} {k : Nat} : ∀ {l : List α} {i : Nat} {a : α} {q n : Nat}, (∀ a ∈ l, (g a).length = k) → l[i]? = some a → q + n ≤ k → leN (l.flatMap g) (i * k + q) n = leN (g a) q n
  | b :: l, 0, a, q, n, hg, h, hq => by
    simp only [List.getElem?_cons_zero, Option.some.injEq] at h
    subst h
    rw [Nat.zero_mul, Nat.zero_add, List.flatMap_cons, leN_pre (by rw [hg b (List.mem_cons_self ..)]; exact hq)]
  | b :: l, i + 1, a, q, n, hg, h, hq => by
    rw [List.flatMap_cons, leN_skipA (hg b (List.mem_cons_self ..)) (by rw [Nat.succ_mul]; omega), show (i + 1) * k + q - k = i * k + q by rw [Nat.succ_mul]; omega]
    exact leN_flatM (fun a ha => hg a (List.mem_cons_of_mem _ ha)) (show l[i]? = some a from h) hq
theorem cut_flatM {α : Type} {g : α → List UInt8} {k : Nat} : ∀ {l : List α} {i : Nat} {a : α} {q n : Nat}, (∀ a ∈ l, (g a).length = k) → l[i]? = some a → q + n ≤ k → cut (l.flatMap g) (i * k + q) n = cut (g a) q n
  | b :: l, 0, a, q, n, hg, h, hq => by
    simp only [List.getElem?_cons_zero, Option.some.injEq] at h
    subst h
    rw [Nat.zero_mul, Nat.zero_add, List.flatMap_cons, cut_pre (by rw [hg b (List.mem_cons_self ..)]; exact hq)]
  | b :: l, i + 1, a, q, n, hg, h, hq => by
    rw [List.flatMap_cons, cut_skip (hg b (List.mem_cons_self ..)) (by rw [Nat.succ_mul]; omega), show (i + 1) * k + q - k = i * k + q by rw [Nat.succ_mul]; omega]
    exact cut_flatM (fun a ha => hg a (List.mem_cons_of_mem _ ha)) (show l[i]? = some a from h) hq
theorem length_flatM {α : Type} {g : α → List UInt8} {k : Nat} : ∀ {l : List α}, (∀ a ∈ l, (g a).length = k) → (l.flatMap g).length = l.length * k
  | [], _ => by simp
  | b :: l, hg => by
    rw [List.flatMap_cons, List.length_append, hg b (List.mem_cons_self ..), length_flatM fun a ha => hg a (List.mem_cons_of_mem _ ha), List.length_cons, Nat.succ_mul, Nat.add_comm]
abbrev texl (dl xl : List UInt8) : List UInt8 := if 60 < dl.length then pxB xl (dl.drop 60) else xl
theorem teB_len {e : TE} (h : (texl e.dl e.xl).length ≤ 104) : (teB e).length = 256 := by
  have h1 := inoOf_length e.x (blkOf_length e.dl)
  have h2 : (teX e).length ≤ 104 := h
  unfold teB
  rw [List.length_append, List.length_append, List.length_take, List.length_replicate, h1]
  omega
/-- The bytes of an inode, in parts. -/
theorem teB_lo {e : TE} {q n : Nat} (h : q + n ≤ 152) : leN (teB e) q n = leN (inoOf e.x (blkOf e.dl)) q n := by
  have h1 := inoOf_length e.x (blkOf_length e.dl)
  unfold teB
  rw [leN_pre (by rw [List.length_take]; omega), leN_take h (by omega)]
theorem teB_cut {e : TE} : cut (teB e) 40 60 = blkOf e.dl := by
  have h1 := inoOf_length e.x (blkOf_length e.dl)
  unfold teB
  rw [cut_pre (by rw [List.length_take]; omega), cut_take (by decide) (by omega), ino_blkc (blkOf_length _)]
theorem teB_hi {e : TE} {q n : Nat} : leN (teB e) (152 + q) n = leN (texl e.dl e.xl ++ List.replicate (104 - (texl e.dl e.xl).length) 0) q n := by
  have h1 := inoOf_length e.x (blkOf_length e.dl)
  unfold teB
  rw [leN_skipA (k := 152) (by rw [List.length_take]; omega) (by omega), Nat.add_sub_cancel_left]
  rfl
theorem teB_hic {e : TE} {q n : Nat} : cut (teB e) (152 + q) n = cut (texl e.dl e.xl ++ List.replicate (104 - (texl e.dl e.xl).length) 0) q n := by
  have h1 := inoOf_length e.x (blkOf_length e.dl)
  unfold teB
  rw [cut_skip (k := 152) (by rw [List.length_take]; omega) (by omega), Nat.add_sub_cancel_left]
  rfl
theorem blkOf_60 {d : List UInt8} (h : d.length = 60) : blkOf d = d := by
  unfold blkOf
  rw [List.take_of_length_le (by omega), putB_all (by rw [List.length_replicate]; exact h)]
abbrev ent1 (rest : List (List UInt8)) : List (Nat × List UInt8 × Nat) := (2, [46], 2) :: (2, [46, 46], 2) :: (11, lfN, 2) :: rest.map fun nm => (12, nm, 1)
abbrev ent2 : List (Nat × List UInt8 × Nat) := [(11, [46], 2), (2, [46, 46], 2)]
/-- What stands in the image. -/
structure ImF (names rest : List (List UInt8)) (n st : Nat) (xs dl xl : List UInt8) (flags bc inc : Nat) (U O tab : List UInt8) (B k1 k2 : Nat) (blks1 blks2 : List (List DRec)) : Prop where
  img : U = imgS (imgT O tab B) B inc
  B1 : 2 ≤ B
  B2 : B ≤ 3000
  Oe : O = xs ++ (blkB blks1 ++ blkB blks2)
  Ol : O.length = B * 4096
  tl : tab.length = 3072
  Be : B = st + k1 + k2
  l1 : blks1.length = k1
  l2 : blks2.length = k2
  d1 : DirB xs (ent1 rest) blks1
  d2 : DirB (xs ++ blkB blks1) ent2 blks2
  perm : rest.Perm names
  i2 : InoF U (B * 4096 + 256) 16877 (k1 * 4096) 3 k1 786432
  e2 : Ext1 U (B * 4096 + 256 + 40) st k1
  m2 : leN U (B * 4096 + 256 + 152) 4 ≠ 3925999616
  i11 : InoF U (B * 4096 + 2560) 16832 (k2 * 4096) 2 k2 786432
  e11 : Ext1 U (B * 4096 + 2560 + 40) (st + k1) k2
  m11 : leN U (B * 4096 + 2560 + 152) 4 ≠ 3925999616
  i12 : InoF U (B * 4096 + 2816) 32768 n names.length bc flags
  b12 : ∀ q n, q + n ≤ 60 → leN U (B * 4096 + 2816 + 40 + q) n = leN (blkOf dl) q n
  c12 : cut U (B * 4096 + 2816 + 40) 60 = blkOf dl
  x12 : ∀ q n, q + n ≤ 104 → leN U (B * 4096 + 2816 + (152 + q)) n = leN (texl dl xl ++ List.replicate (104 - (texl dl xl).length) 0) q n
  y12 : ∀ q n, q + n ≤ 104 → cut U (B * 4096 + 2816 + (152 + q)) n = cut (texl dl xl ++ List.replicate (104 - (texl dl xl).length) 0) q n
theorem names_first {m : MEs} {names ns : List (List UInt8)} (h : NamesOk numF m ns) (hk : m.map (·.1) = lfN :: names) (hnd : (lfN :: names).Nodup) : ∃ rest, ns = lfN :: rest ∧ rest.Perm names := by
  obtain ⟨l0, hp, rfl⟩ := h
  rw [hk] at hp
  have hm : lfN ∈ l0 := hp.mem_iff.2 (List.mem_cons_self ..)
  obtain ⟨p, hp0⟩ := List.mem_iff_getElem?.1 hm
  have hpl := (List.getElem?_eq_some_iff.1 hp0).1
  have h1 : ∀ b, b ≠ lfN → lessK numF lfN b = true := fun b hb => by
    show lessN (numF lfN) (numF b) lfN b = true
    unfold lessN numF
    rw [if_pos rfl, if_neg hb]
    rfl
  have h2 : ∀ b, lessK numF b lfN = false := fun b => by
    show lessN (numF b) (numF lfN) b lfN = false
    by_cases hb : b = lfN
    · subst hb; unfold lessN; rw [if_pos rfl, bl_irrefl]
    · unfold lessN numF
      rw [if_neg hb, if_pos rfl]
      rfl
  have h0 := (sortD_first (K := lessK numF) h1 h2 (hp.nodup_iff.2 hnd) hp0 l0.length).1 hpl
  have hpp := (sortD_perm (lessK numF) l0.length l0).trans hp
  cases hs : sortD (lessK numF) l0.length l0 with
  | nil => rw [hs] at h0; exact nomatch h0
  | cons a r =>
    rw [hs] at h0 hpp
    simp only [List.getElem?_cons_zero, Option.some.injEq] at h0
    subst h0
    exact ⟨r, rfl, hpp.cons_inv⟩
theorem padZ_same {l : List UInt8} {n : Nat} (h : n = l.length) : padZ l n = l := padZ_ge (by omega)
set_option maxHeartbeats 4000000 in
theorem ImgP.facts {names : List (List UInt8)} {n st : Nat} {xs dl xl : List UInt8} {flags bc inc : Nat} {U : List UInt8} (h : ImgP names n st xs dl xl flags bc inc U) (hcr : CrowdP names) (hxs : xs.length = st * 4096) (hst : 2 ≤ st ∧ st ≤ 1000) (hn : n ≤ 4000)
    (hT : (texl dl xl).length ≤ 104) (hfl : flags < 4294967296) (hbc : bc < 4294967296) : ∃ rest O tab B k1 k2 blks1 blks2, ImF names rest n st xs dl xl flags bc inc U O tab B k1 k2 blks1 blks2 := by
  obtain ⟨bD, bL, bF, bM, bM2, XC, xf, m, ns, aR, aL, hF, hN, hk, hU⟩ := h
  have hnd : (lfN :: names).Nodup := by
    refine List.nodup_cons.2 ⟨fun hm => ?_, ?_⟩
    · obtain ⟨i, hi⟩ := List.mem_iff_getElem?.1 hm
      exact (hcr.2 i lfN hi).lf rfl
    · refine List.pairwise_iff_getElem.2 fun i j hi hj hij => ?_
      intro e
      have := (hcr.2 j names[j] (List.getElem?_eq_getElem hj)).new
      refine this (e ▸ List.mem_of_getElem? (i := i) ?_)
      rw [List.getElem?_take, if_pos hij, List.getElem?_eq_getElem hi]
  obtain ⟨rest, rfl, hperm⟩ := names_first hN hk hnd
  have hlen : ∀ nm ∈ m.map (·.1), 1 ≤ nm.length ∧ nm.length ≤ 255 := fun nm hm => by
    rw [hk] at hm
    rcases List.mem_cons.1 hm with rfl | hm
    · exact ⟨by decide, by decide⟩
    · obtain ⟨i, hi⟩ := List.mem_iff_getElem?.1 hm
      have := hcr.2 i nm hi
      exact ⟨List.length_pos_iff.2 this.ne, this.len⟩
  have hml : m.length ≤ 1000 := by
    have := congrArg List.length hk
    rw [List.length_map, List.length_cons] at this
    have := hcr.1
    omega
  obtain ⟨_, _, _, _, _, hO, hB, _, _⟩ := cSizes (bM := bM) (bM2 := bM2) (L := 3) (xs' := xs) hxs hst.2 hml hN hlen
  have hrl : ∀ nm ∈ rest, 1 ≤ nm.length ∧ nm.length ≤ 255 ∧ nm ≠ lfN := fun nm hm => by
    have hm2 := hperm.mem_iff.1 hm
    have := hlen nm (by rw [hk]; exact List.mem_cons_of_mem _ hm2)
    exact ⟨this.1, this.2, fun e => (List.nodup_cons.1 hnd).1 (e ▸ hm2)⟩
  have hkid : (lfN :: rest).map (kidE numF kndF) = (11, lfN, 2) :: rest.map fun nm => (12, nm, 1) := by
    rw [List.map_cons]
    congr 1
    refine List.map_congr_left fun nm hm => ?_
    unfold kidE numF kndF
    rw [if_neg (hrl nm hm).2.2, if_neg (hrl nm hm).2.2]
  have hE1 : ∀ e ∈ ent1 rest, 1 ≤ e.1 ∧ e.1 < 4294967296 ∧ 1 ≤ e.2.1.length ∧ e.2.1.length ≤ 255 ∧ e.2.2 < 256 := fun e he => by
    rcases List.mem_cons.1 he with rfl | he
    · exact ⟨by decide, by decide, by decide, by decide, by decide⟩
    rcases List.mem_cons.1 he with rfl | he
    · exact ⟨by decide, by decide, by decide, by decide, by decide⟩
    rcases List.mem_cons.1 he with rfl | he
    · exact ⟨by decide, by decide, by decide, by decide, by decide⟩
    obtain ⟨nm, hm, rfl⟩ := List.mem_map.1 he
    exact ⟨by show 1 ≤ 12; decide, by show 12 < 4294967296; decide, (hrl nm hm).1, (hrl nm hm).2.1, by show 1 < 256; decide⟩
  have hE2 : ∀ e ∈ ent2, 1 ≤ e.1 ∧ e.1 < 4294967296 ∧ 1 ≤ e.2.1.length ∧ e.2.1.length ≤ 255 ∧ e.2.2 < 256 := by decide
  obtain ⟨blks1, D1⟩ := dir_blks (xs := xs) hE1
  obtain ⟨blks2, D2⟩ := dir_blks (xs := xs ++ blkB blks1) hE2
  have hd1 : dO1 xs (rootI 3 bM) numF kndF (lfN :: rest) = xs ++ blkB blks1 := by
    show dirOut xs ((2, [46], kindN 16877) :: (2, [46, 46], kindN 16877) :: (lfN :: rest).map (kidE numF kndF)) = _
    rw [hkid]; exact D1.txt
  have hb1 := blkB_length D1.full
  have hb2 := blkB_length D2.full
  have hl1 : (dO1 xs (rootI 3 bM) numF kndF (lfN :: rest)).length = st * 4096 + blks1.length * 4096 := by rw [hd1, List.length_append, hb1, hxs]
  have hnb1 : dNb xs (rootI 3 bM) numF kndF (lfN :: rest) = blks1.length := by
    show ((dO1 xs (rootI 3 bM) numF kndF (lfN :: rest)).length - xs.length + 4095) / 4096 = _
    rw [hl1, hxs]; omega
  have hcSt : cSt bM 3 st xs (lfN :: rest) = st + blks1.length := by show st + dNb xs (rootI 3 bM) numF kndF (lfN :: rest) = _; rw [hnb1]
  have hp1 : dO1p xs (rootI 3 bM) numF kndF (lfN :: rest) st = xs ++ blkB blks1 := by
    show padZ (dO1 xs (rootI 3 bM) numF kndF (lfN :: rest)) ((st + dNb xs (rootI 3 bM) numF kndF (lfN :: rest)) * 4096) = _
    rw [hnb1, padZ_same (by rw [hl1]; omega), hd1]
  have hd2 : dO2 xs (rootI 3 bM) (lfI bM2) numF kndF (lfN :: rest) st = (xs ++ blkB blks1) ++ blkB blks2 := by
    show dirOut (dO1p xs (rootI 3 bM) numF kndF (lfN :: rest) st) [(11, [46], kindN 16832), (2, [46, 46], kindN 16877)] = _
    rw [hp1]; exact D2.txt
  have hl2 : (dO2 xs (rootI 3 bM) (lfI bM2) numF kndF (lfN :: rest) st).length = (st + blks1.length) * 4096 + blks2.length * 4096 := by rw [hd2, List.length_append, List.length_append, hb1, hb2, hxs]; omega
  have hlp : (dO1p xs (rootI 3 bM) numF kndF (lfN :: rest) st).length = (st + blks1.length) * 4096 := by rw [hp1, List.length_append, hb1, hxs]; omega
  have hnb2 : cNb2 bM bM2 3 st xs (lfN :: rest) = blks2.length := by
    show ((dO2 xs (rootI 3 bM) (lfI bM2) numF kndF (lfN :: rest) st).length - (dO1p xs (rootI 3 bM) numF kndF (lfN :: rest) st).length + 4095) / 4096 = _
    rw [hl2, hlp]; omega
  have hcB : cB bM bM2 3 st xs (lfN :: rest) = st + blks1.length + blks2.length := by show cSt bM 3 st xs (lfN :: rest) + cNb2 bM bM2 3 st xs (lfN :: rest) = _; rw [hcSt, hnb2]
  have hcO : cO bM bM2 3 st xs (lfN :: rest) = xs ++ (blkB blks1 ++ blkB blks2) := by
    show padZ (dO2 xs (rootI 3 bM) (lfI bM2) numF kndF (lfN :: rest) st) (cB bM bM2 3 st xs (lfN :: rest) * 4096) = _
    rw [hcB, padZ_same (by rw [hl2]; omega), hd2, List.append_assoc]
  have hk1 := D1.ne
  have hk2 := D2.ne
  rw [hcB] at hB
  -- the three inodes
  obtain ⟨eR, heR⟩ : ∃ e : TE, e = ⟨bD, cR bM 3 xs (lfN :: rest) aR, ext1B st (dNb xs (rootI 3 bM) numF kndF (lfN :: rest)), [], []⟩ := ⟨_, rfl⟩
  obtain ⟨eL, heL⟩ : ∃ e : TE, e = ⟨bL, cL bM bM2 3 st xs (lfN :: rest) aL, ext1B (cSt bM 3 st xs (lfN :: rest)) (cNb2 bM bM2 3 st xs (lfN :: rest)), [], []⟩ := ⟨_, rfl⟩
  obtain ⟨eF, heF⟩ : ∃ e : TE, e = ⟨bF, xf, dl, xl, XC⟩ := ⟨_, rfl⟩
  have htab : cTE bD bL bF bM bM2 3 st xs dl xl XC xf (lfN :: rest) aR aL = [none, some eR, none, none, none, none, none, none, none, none, some eL, some eF] := by rw [heR, heL, heF]
  rw [htab] at hU
  have hnx : ∀ a b : Nat, texl (ext1B a b) [] = [] := fun a b => if_neg (by rw [ext1B_length]; decide)
  have hall : ∀ a ∈ [none, some eR, none, none, none, none, none, none, none, none, some eL, some eF], (oteB a).length = 256 := fun a ha => by
    cases a with
    | none => exact List.length_replicate ..
    | some e =>
      refine teB_len ?_
      simp only [List.mem_cons, Option.some.injEq, reduceCtorEq, List.not_mem_nil, or_false, false_or] at ha
      rcases ha with rfl | rfl | rfl
      · rw [heR, hnx]; exact Nat.zero_le _
      · rw [heL, hnx]; exact Nat.zero_le _
      · rw [heF]; exact hT
  obtain ⟨tab, htb⟩ : ∃ t, t = tabB [none, some eR, none, none, none, none, none, none, none, none, some eL, some eF] := ⟨_, rfl⟩
  have htl : tab.length = 3072 := by rw [htb]; exact length_flatM hall
  obtain ⟨B, hBe⟩ : ∃ B, B = cB bM bM2 3 st xs (lfN :: rest) := ⟨_, rfl⟩
  rw [← htb, ← hBe] at hU
  rw [← hBe] at hO hcB
  rw [hcO] at hU hO
  obtain ⟨O, hOe⟩ : ∃ O, O = xs ++ (blkB blks1 ++ blkB blks2) := ⟨_, rfl⟩
  rw [← hOe] at hU hO
  have h8 : 8192 ≤ (imgT O tab B).length := by rw [imgT_len hO htl]; omega
  have hB2 : 2 ≤ B := by omega
  have at_ : ∀ (j : Nat) (e : TE), [none, some eR, none, none, none, none, none, none, none, none, some eL, some eF][j]? = some (some e) → ∀ q n, q + n ≤ 256 → leN U (B * 4096 + j * 256 + q) n = leN (teB e) q n := fun j e hj q n hq => by
    have hj12 := (List.getElem?_eq_some_iff.1 hj).1
    rw [hU, img_hi h8 (by omega), Nat.add_assoc, imgT_tab hO htl (by simp only [List.length_cons, List.length_nil] at hj12; omega), htb]
    exact leN_flatM hall hj hq
  have atc : ∀ (j : Nat) (e : TE), [none, some eR, none, none, none, none, none, none, none, none, some eL, some eF][j]? = some (some e) → ∀ q n, q + n ≤ 256 → cut U (B * 4096 + j * 256 + q) n = cut (teB e) q n := fun j e hj q n hq => by
    have hj12 := (List.getElem?_eq_some_iff.1 hj).1
    rw [hU, img_cut h8 (by omega), Nat.add_assoc, imgT_tabc hO htl (by simp only [List.length_cons, List.length_nil] at hj12; omega), htb]
    exact cut_flatM hall hj hq
  have fct : ∀ (j : Nat) (e : TE), [none, some eR, none, none, none, none, none, none, none, none, some eL, some eF][j]? = some (some e) → PlainI e.x → InoF U (B * 4096 + j * 256) e.x.mode e.x.size e.x.links e.x.bc e.x.flags := fun j e hj hp =>
    ino_facts hp (blkOf_length e.dl) fun q n hq => by rw [at_ j e hj q n (by omega), teB_lo hq]
  have ext : ∀ (j : Nat) (e : TE) (a b : Nat), [none, some eR, none, none, none, none, none, none, none, none, some eL, some eF][j]? = some (some e) → e.dl = ext1B a b → a < 4294967296 → b < 65536 → Ext1 U (B * 4096 + j * 256 + 40) a b := fun j e a b hj hd ha hb =>
    ext1_facts ha hb fun q n hq => by rw [Nat.add_assoc, at_ j e hj (40 + q) n (by omega), teB_lo (by omega), ino_blk (blkOf_length _) hq, hd, blkOf_60 (ext1B_length a b)]
  have mag : ∀ (j : Nat) (e : TE), [none, some eR, none, none, none, none, none, none, none, none, some eL, some eF][j]? = some (some e) → texl e.dl e.xl = [] → leN U (B * 4096 + j * 256 + 152) 4 ≠ 3925999616 := fun j e hj hx => by
    have := teB_hi (e := e) (q := 0) (n := 4)
    rw [at_ j e hj 152 4 (by decide), this, hx, List.nil_append, leN_zero]
    decide
  have hsR : (dO1 xs (rootI 3 bM) numF kndF (lfN :: rest)).length - xs.length = blks1.length * 4096 := by rw [hl1, hxs]; omega
  have hsL : (dO2 xs (rootI 3 bM) (lfI bM2) numF kndF (lfN :: rest) st).length - (dO1p xs (rootI 3 bM) numF kndF (lfN :: rest) st).length = blks2.length * 4096 := by rw [hl2, hlp]; omega
  have xR : eR.x = { rootI 3 bM with size := blks1.length * 4096, data := aR, flags := 786432, bc := blks1.length } := by
    rw [heR]
    show { rootI 3 bM with size := (dO1 xs (rootI 3 bM) numF kndF (lfN :: rest)).length - xs.length, data := aR, flags := 262144 ||| 524288, bc := 0 + dNb xs (rootI 3 bM) numF kndF (lfN :: rest) } = _
    rw [hsR, hnb1, Nat.zero_add]; rfl
  have xL : eL.x = { lfI bM2 with size := blks2.length * 4096, data := aL, flags := 786432, bc := blks2.length } := by
    rw [heL]
    show { lfI bM2 with size := (dO2 xs (rootI 3 bM) (lfI bM2) numF kndF (lfN :: rest) st).length - (dO1p xs (rootI 3 bM) numF kndF (lfN :: rest) st).length, data := aL, flags := 262144 ||| 524288, bc := 0 + cNb2 bM bM2 3 st xs (lfN :: rest) } = _
    rw [hsL, hnb2, Nat.zero_add]; rfl
  have pR : PlainI eR.x := by rw [xR]; exact ⟨rfl, rfl, rfl, rfl, rfl, rfl, rfl, by show 16877 < 65536; decide, by show blks1.length * 4096 < 4294967296; omega, by show 3 < 65536; decide, by show blks1.length < 4294967296; omega, by show 786432 < 4294967296; decide⟩
  have pL : PlainI eL.x := by rw [xL]; exact ⟨rfl, rfl, rfl, rfl, rfl, rfl, rfl, by show 16832 < 65536; decide, by show blks2.length * 4096 < 4294967296; omega, by show 2 < 65536; decide, by show blks2.length < 4294967296; omega, by show 786432 < 4294967296; decide⟩
  have pF : PlainI eF.x := by rw [heF]; exact ⟨hF.at0, hF.ct0, hF.mt0, hF.cr0, hF.uid, hF.gid, hF.xb, by show xf.mode < _; rw [hF.mode]; decide, by show xf.size < _; rw [hF.size]; omega, by show xf.links < _; rw [hF.links]; have := hcr.1; omega, by show xf.bc < _; rw [hF.bcs]; exact hbc, by show xf.flags < _; rw [hF.flg]; exact hfl⟩
  refine ⟨rest, O, tab, B, blks1.length, blks2.length, blks1, blks2, hU, hB2, by omega, hOe, hO, htl, hcB, rfl, rfl, D1, D2, hperm, ?_, ?_, ?_, ?_, ?_, ?_, ?_, ?_, ?_, ?_, ?_⟩
  · have := fct 1 eR rfl pR; rw [xR] at this; exact this
  · exact ext 1 eR _ _ rfl (by rw [heR, hnb1]) (by omega) (by omega)
  · exact mag 1 eR rfl (by rw [heR]; exact hnx _ _)
  · have := fct 10 eL rfl pL; rw [xL] at this; exact this
  · exact ext 10 eL _ _ rfl (by rw [heL, hnb2, hcSt]) (by omega) (by omega)
  · exact mag 10 eL rfl (by rw [heL]; exact hnx _ _)
  · have := fct 11 eF rfl pF
    rw [heF] at this
    have : InoF U (B * 4096 + 2816) xf.mode xf.size xf.links xf.bc xf.flags := this
    rwa [hF.mode, hF.size, hF.links, hF.bcs, hF.flg] at this
  · intro q n hq
    have := at_ 11 eF rfl (40 + q) n (by omega)
    rw [teB_lo (by omega), ino_blk (blkOf_length _) hq, heF] at this
    rw [Nat.add_assoc]; exact this
  · have := atc 11 eF rfl 40 60 (by decide)
    rw [teB_cut, heF] at this
    exact this
  · intro q n hq
    have := at_ 11 eF rfl (152 + q) n (by omega)
    rw [teB_hi, heF] at this
    exact this
  · intro q n hq
    have := atc 11 eF rfl (152 + q) n (by omega)
    rw [teB_hic, heF] at this
    exact this
end SL
end Go.Proofs.YtlmiekcmjpnobaaGreatDoor
namespace Go.Proofs.YtlmiekcmjpnobaaGreatDoor
open Go
namespace SL
set_option maxRecDepth 20000

theorem upd_at {f : Nat → Nat} {k x : Nat} (h : f k = x) : upd f k x = f := by
  funext i
  unfold upd
  split
  · next e => rw [e, h]
  · rfl
theorem upd_upd {α : Type} {f : Nat → α} {k : Nat} {x y : α} : upd (upd f k x) k y = upd f k y := by
  funext i
  unfold upd
  split <;> rfl
theorem bfs_step {s : BS} {a : List UInt8} (h : s.seen 12 = true) (hd : a ≠ [46] ∧ a ≠ [46, 46]) : bfsE 2 s (a, 12, 1) = { s with nam := upd s.nam 12 (s.nam 12 + 1) } := by
  unfold bfsE
  rw [if_neg (by rintro (h1 | h1); exact hd.1 h1; exact hd.2 h1)]
  simp only [h, if_true, upd_same h]
  rfl
theorem bfs_seen : ∀ (l : List (List UInt8)) (s : BS), s.seen 12 = true → (∀ nm ∈ l, nm ≠ [46] ∧ nm ≠ [46, 46]) → (l.map fun nm => ((nm, 12, 1) : Ent)).foldl (bfsE 2) s = { s with nam := upd s.nam 12 (s.nam 12 + l.length) }
  | [], s, _, _ => by
    show s = { s with nam := upd s.nam 12 (s.nam 12 + 0) }
    rw [Nat.add_zero, upd_at rfl]
  | a :: l, s, h, hd => by
    rw [List.map_cons, List.foldl_cons, bfs_step h (hd a (List.mem_cons_self ..)), bfs_seen l _ (by exact h) fun x hx => hd x (List.mem_cons_of_mem _ hx)]
    simp only [upd_upd, List.length_cons]
    rw [show upd s.nam 12 (s.nam 12 + 1) 12 = s.nam 12 + 1 from rfl, Nat.add_assoc, Nat.add_comm 1]
theorem ents_seen {kd : Nat → Nat} (hk : kd 12 = 1) : ∀ (l : List (List UInt8)) (s : BS), s.seen 12 = true → (∀ nm ∈ l, nm ≠ [46] ∧ nm ≠ [46, 46]) → s.nam 12 + l.length < 1000000000 → s.sub 2 < 1000000000 → s.q.length < 1000000000 →
    EntsOk 11 17 kd 2 s (l.map fun nm => ((nm, 12, 1) : Ent))
  | [], s, _, _, _, _, _ => trivial
  | a :: l, s, h, hd, hn, hs, hq => by
    rw [List.length_cons] at hn
    refine ⟨.inr ⟨by show 0 < 12; decide, by show 11 ≤ 12; decide, by show 12 < 17; decide, hk, fun e => absurd e (by show ¬ (1 = 2); decide), by show s.nam 12 < _; omega, hs, hq⟩, ?_⟩
    rw [bfs_step h (hd a (List.mem_cons_self ..))]
    exact ents_seen hk l _ (by exact h) (fun x hx => hd x (List.mem_cons_of_mem _ hx)) (by show s.nam 12 + 1 + l.length < _; omega) hs hq
/-- Where the search stands at the root, behind lost+found, and behind the names. -/
abbrev bsR : BS := ⟨upd (fun _ => false) 2 true, upd (fun _ => 0) 2 2, fun _ => 0, fun _ => 0, []⟩
abbrev bsA : BS := ⟨upd (upd (fun _ => false) 2 true) 11 true, upd (upd (fun _ => 0) 2 2) 11 2, upd (fun _ => 0) 11 1, upd (fun _ => 0) 2 1, [11]⟩
abbrev bsB (k : Nat) (q : List Nat) : BS := ⟨upd bsA.seen 12 true, upd bsA.par 12 2, upd bsA.nam 12 k, bsA.sub, q⟩
abbrev entR (rest : List (List UInt8)) : List Ent := ([46], 2, 2) :: ([46, 46], 2, 2) :: (lfN, 11, 2) :: rest.map fun nm => (nm, 12, 1)
abbrev entF : List Ent := [([46], 11, 2), ([46, 46], 2, 2)]
theorem lf_nd : ¬ dotE (lfN, 11, 2) := by decide
theorem bfs_lf : bfsE 2 bsR (lfN, 11, 2) = bsA := by
  unfold bfsE
  rw [if_neg lf_nd]
  rfl
theorem bfs_first {a : List UInt8} (hd : a ≠ [46] ∧ a ≠ [46, 46]) : bfsE 2 bsA (a, 12, 1) = bsB 1 [11, 12] := by
  unfold bfsE
  rw [if_neg (by rintro (h1 | h1); exact hd.1 h1; exact hd.2 h1)]
  rfl
theorem bfs_dot {num : Nat} {s : BS} {e : Ent} (h : dotE e) : bfsE num s e = s := if_pos h
theorem bfs_root {rest : List (List UInt8)} (hd : ∀ nm ∈ rest, nm ≠ [46] ∧ nm ≠ [46, 46]) (hne : rest ≠ []) : (entR rest).foldl (bfsE 2) bsR = bsB rest.length [11, 12] := by
  obtain ⟨a, l, rfl⟩ := List.exists_cons_of_ne_nil hne
  rw [List.foldl_cons, bfs_dot (.inl rfl), List.foldl_cons, bfs_dot (.inr rfl), List.foldl_cons, bfs_lf, List.map_cons, List.foldl_cons, bfs_first (hd a (List.mem_cons_self ..)), bfs_seen l _ rfl fun x hx => hd x (List.mem_cons_of_mem _ hx)]
  simp only [upd_upd, List.length_cons]
  rw [show upd bsA.nam 12 1 12 = 1 from rfl, Nat.add_comm]
theorem bfs_lost {s : BS} : entF.foldl (bfsE 11) s = s := by
  rw [List.foldl_cons, bfs_dot (.inl rfl), List.foldl_cons, bfs_dot (.inr rfl)]
  rfl
theorem ents_root {kd : Nat → Nat} {rest : List (List UInt8)} (h11 : kd 11 = 2) (h12 : kd 12 = 1) (hd : ∀ nm ∈ rest, nm ≠ [46] ∧ nm ≠ [46, 46]) (hne : rest ≠ []) (hl : rest.length < 1000000) : EntsOk 11 17 kd 2 bsR (entR rest) := by
  obtain ⟨a, l, rfl⟩ := List.exists_cons_of_ne_nil hne
  rw [List.length_cons] at hl
  refine ⟨.inl (.inl rfl), ?_⟩
  rw [bfs_dot (.inl rfl)]
  refine ⟨.inl (.inr rfl), ?_⟩
  rw [bfs_dot (.inr rfl)]
  refine ⟨.inr ⟨by show 0 < 11; decide, by show 11 ≤ 11; decide, by show 11 < 17; decide, h11, fun _ => rfl, by show 0 < 1000000000; decide, by show 0 < 1000000000; decide, by show 0 < 1000000000; decide⟩, ?_⟩
  rw [bfs_lf]
  refine ⟨.inr ⟨by show 0 < 12; decide, by show 11 ≤ 12; decide, by show 12 < 17; decide, h12, fun e => absurd e (by show ¬ (1 = 2); decide), by show 0 < 1000000000; decide, by show 1 < 1000000000; decide, by show 1 < 1000000000; decide⟩, ?_⟩
  rw [bfs_first (hd a (List.mem_cons_self ..))]
  exact ents_seen h12 l _ rfl (fun x hx => hd x (List.mem_cons_of_mem _ hx)) (by show 1 + l.length < _; omega) (by show 1 < 1000000000; decide) (by show 2 < 1000000000; decide)
theorem kR : (kindN 16877 == 2) = true := by decide
theorem kL : (kindN 16832 == 2) = true := by decide
theorem kF : (kindN 32768 == 2) = false := by decide
theorem nodT {r : RNd} {s : BS} {qs : List Nat} (h : r.isDir = true) : nodStep r s qs = (entL r.blks.flatten).foldl (bfsE r.x.num) { s with q := qs } := by unfold nodStep; rw [if_pos h]
theorem nodF {r : RNd} {s : BS} {qs : List Nat} (h : r.isDir = false) : nodStep r s qs = { s with q := qs } := by unfold nodStep; rw [if_neg (by rw [h]; decide)]
/-! ### Which blocks are taken -/
abbrev own0 (B : Nat) : Nat → Bool := fun i => decide (i < 2) || decide (B ≤ i)
abbrev own1 (f : Nat → Bool) (a k : Nat) : Nat → Bool := fun j => f j || (decide (a ≤ j) && decide (j < a + k))
def RdF (C : Chunk) (c : Value) (l : List UInt8) : Prop := (c = .slice none 0 0 ∧ l = []) ∨ ∃ (b cp e : Nat) (fr : Nat × Nat) (R : List Value), c = Sl b 0 l.length cp ∧ (b, .cells R.toArray e fr) ∈ C ∧ RowB R 0 l ∧ l.length ≤ cp ∧ cp < 9223372036854775808
theorem RdF.mono {C C' : Chunk} {c : Value} {l : List UInt8} (h : RdF C c l) (hs : ∀ p ∈ C, p ∈ C') : RdF C' c l := by
  rcases h with h | ⟨b, cp, e, fr, R, h1, h2, h3⟩
  · exact .inl h
  · exact .inr ⟨b, cp, e, fr, R, h1, hs _ h2, h3⟩
theorem RdF.one {C : Chunk} {c : Value} {l : List UInt8} (h : RdF C c l) : SL.one c = true := by
  rcases h with ⟨h, _⟩ | ⟨b, cp, e, fr, R, h1, _⟩
  · rw [h]; rfl
  · rw [h1]; rfl
def phiU (d1 d2 d3 : List UInt8) (r : RNd) (c a : Value) (C : Chunk) : Prop := a = .slice none 0 0 ∧ RdF C c (if r.x.num = 2 then d1 else if r.x.num = 11 then d2 else d3)
abbrev ndR (B st k1 : Nat) (blks1 : List (List DRec)) : RNd := ⟨inoX 2 16877 (k1 * 4096) 3 k1 786432 (.slice none 0 0) false k1, blks1, own0 B, own1 (own0 B) st k1⟩
abbrev ndL (B st k1 k2 : Nat) (blks2 : List (List DRec)) : RNd := ⟨inoX 11 16832 (k2 * 4096) 2 k2 786432 (.slice none 0 0) false k2, blks2, own1 (own0 B) st k1, own1 (own1 (own0 B) st k1) (st + k1) k2⟩
abbrev ndF (B st k1 k2 n w bc flags : Nat) (il : Bool) (bk : Nat) (f3 : Nat → Bool) : RNd := ⟨inoX 12 32768 n w bc flags (.slice none 0 0) il bk, [], own1 (own1 (own0 B) st k1) (st + k1) k2, f3⟩
section
variable {names rest : List (List UInt8)} {n st : Nat} {xs dl xl dat : List UInt8} {flags bc inc : Nat} {U O tab : List UInt8} {B k1 k2 : Nat} {blks1 blks2 : List (List DRec)} {il : Bool} {bk cap bI eI : Nat} {frI : Nat × Nat} {f3 : Nat → Bool}
theorem nm_dots (hcr : CrowdP names) (hp : rest.Perm names) : ∀ nm ∈ rest, nm ≠ [46] ∧ nm ≠ [46, 46] ∧ nm ≠ lfN ∧ (47 : UInt8) ∉ nm ∧ nm.length ≤ 255 := fun nm hm => by
  obtain ⟨i, hi⟩ := List.mem_iff_getElem?.1 (hp.mem_iff.1 hm)
  have := hcr.2 i nm hi
  exact ⟨this.d1, this.d2, this.lf, this.sl, this.len⟩
theorem nm_nodup (hcr : CrowdP names) : names.Nodup := by
  refine List.pairwise_iff_getElem.2 fun i j hi hj hij => ?_
  intro e
  refine (hcr.2 j names[j] (List.getElem?_eq_getElem hj)).new ?_
  rw [← e]
  exact List.mem_of_getElem? (i := i) (by rw [List.getElem?_take, if_pos hij, List.getElem?_eq_getElem hi])
variable (I : ImF names rest n st xs dl xl flags bc inc U O tab B k1 k2 blks1 blks2)
include I
theorem ImF.ent1 : entL blks1.flatten = entR rest := by
  rw [I.d1.ents]
  simp [SL.ent1]
theorem ImF.ent2 : entL blks2.flatten = entF := by
  rw [I.d2.ents]
  rfl
theorem ImF.dirR (hcr : CrowdP names) : DirOk (ndR B st k1 blks1) 2 := by
  have hnm := nm_dots hcr I.perm
  have hl : rest.length = names.length := I.perm.length_eq
  have hc := hcr.1
  refine ⟨I.d1.ok, I.d1.full, by show 0 < blks1.length; exact I.d1.ne, rfl, ?_, ⟨_, I.ent1⟩, ?_, ?_⟩
  · have := I.d1.cnt
    simp only [SL.ent1, List.length_cons, List.length_map] at this
    show blks1.flatten.length < 1000000
    omega
  · show ((entL blks1.flatten).map (·.1)).Nodup
    rw [I.ent1]
    simp only [List.map_cons, List.map_map]
    rw [show ((fun (x : Ent) => x.1) ∘ fun nm => (nm, 12, 1)) = (id : List UInt8 → List UInt8) from rfl, List.map_id]
    refine List.nodup_cons.2 ⟨?_, List.nodup_cons.2 ⟨?_, List.nodup_cons.2 ⟨?_, I.perm.nodup_iff.2 (nm_nodup hcr)⟩⟩⟩
    · simp only [List.mem_cons, not_or]
      exact ⟨by decide, by decide, fun h => (hnm _ h).1 rfl⟩
    · simp only [List.mem_cons, not_or]
      exact ⟨by decide, fun h => (hnm _ h).2.1 rfl⟩
    · exact fun h => (hnm _ h).2.2.1 rfl
  · intro z hz
    have hz : z ∈ entL blks1.flatten := hz
    rw [I.ent1] at hz
    rcases List.mem_cons.1 hz with rfl | hz
    · exact ⟨by decide, by decide⟩
    rcases List.mem_cons.1 hz with rfl | hz
    · exact ⟨by decide, by decide⟩
    rcases List.mem_cons.1 hz with rfl | hz
    · exact ⟨by decide, by decide⟩
    obtain ⟨nm, hm, rfl⟩ := List.mem_map.1 hz
    have := hnm nm hm
    exact ⟨this.2.2.2.1, by show nm.length < 1000; omega⟩
theorem ImF.dirL : DirOk (ndL B st k1 k2 blks2) 2 := by
  refine ⟨I.d2.ok, I.d2.full, by show 0 < blks2.length; exact I.d2.ne, rfl, ?_, ⟨[], I.ent2⟩, ?_, ?_⟩
  · have := I.d2.cnt
    simp only [SL.ent2, List.length_cons, List.length_nil] at this
    show blks2.flatten.length < 1000000
    omega
  · show ((entL blks2.flatten).map (·.1)).Nodup
    rw [I.ent2]; decide
  · intro z hz
    have hz : z ∈ entL blks2.flatten := hz
    rw [I.ent2] at hz
    rcases List.mem_cons.1 hz with rfl | hz
    · exact ⟨by decide, by decide⟩
    rcases List.mem_cons.1 hz with rfl | hz
    · exact ⟨by decide, by decide⟩
    exact nomatch hz
theorem ImF.run (hcr : CrowdP names) (hne : names ≠ []) : BRun 11 17 (fun k => kindN (leN U (B * 4096 + (k - 1) * 256) 2)) (bsB names.length []) f3 ⟨upd (fun _ => false) 2 true, upd (fun _ => 0) 2 2, fun _ => 0, fun _ => 0, [2]⟩ (own0 B)
    [ndR B st k1 blks1, ndL B st k1 k2 blks2, ndF B st k1 k2 n names.length bc flags il bk f3] := by
  have hnm := nm_dots hcr I.perm
  have hd : ∀ nm ∈ rest, nm ≠ [46] ∧ nm ≠ [46, 46] := fun nm hm => ⟨(hnm nm hm).1, (hnm nm hm).2.1⟩
  have hl : rest.length = names.length := I.perm.length_eq
  have hc := hcr.1
  have hne2 : rest ≠ [] := fun e => hne (List.eq_nil_of_length_eq_zero (by rw [← hl, e]; rfl))
  have h11 : kindN (leN U (B * 4096 + (11 - 1) * 256) 2) = 2 := by rw [show B * 4096 + (11 - 1) * 256 = B * 4096 + 2560 from rfl, I.i11.mode]; decide
  have h12 : kindN (leN U (B * 4096 + (12 - 1) * 256) 2) = 1 := by rw [show B * 4096 + (12 - 1) * 256 = B * 4096 + 2816 from rfl, I.i12.mode]; decide
  refine ⟨[], rfl, rfl, by show 2 < 17; decide, by show 16877 < 65536; decide, fun _ => ⟨I.dirR hcr, ?_⟩, ?_⟩
  · show EntsOk 11 17 _ 2 bsR (entL blks1.flatten)
    rw [I.ent1]
    exact ents_root h11 h12 hd hne2 (by omega)
  have e1 : nodStep (ndR B st k1 blks1) ⟨upd (fun _ => false) 2 true, upd (fun _ => 0) 2 2, fun _ => 0, fun _ => 0, [2]⟩ [] = bsB names.length [11, 12] := by
    rw [nodT (by exact kR)]
    show (entL blks1.flatten).foldl (bfsE 2) bsR = _
    rw [I.ent1, bfs_root hd hne2, hl]
  rw [e1]
  refine ⟨[12], rfl, rfl, by show 11 < 17; decide, by show 16832 < 65536; decide, fun _ => ⟨I.dirL, ?_⟩, ?_⟩
  · show EntsOk 11 17 _ 11 (bsB names.length [12]) (entL blks2.flatten)
    rw [I.ent2]
    refine ⟨.inl (.inl rfl), .inl (.inr rfl), trivial⟩
  have e2 : nodStep (ndL B st k1 k2 blks2) (bsB names.length [11, 12]) [12] = bsB names.length [12] := by
    rw [nodT (by exact kL)]
    show (entL blks2.flatten).foldl (bfsE 11) (bsB names.length [12]) = _
    rw [I.ent2, bfs_lost]
  rw [e2]
  exact ⟨[], rfl, rfl, by show 12 < 17; decide, by show 32768 < 65536; decide, fun h => absurd (kF.symm.trans (by exact h)) (by decide), by rw [nodF (by exact kF)], by rw [nodF (by exact kF)], rfl⟩
end
end SL
end Go.Proofs.YtlmiekcmjpnobaaGreatDoor
namespace Go.Proofs.YtlmiekcmjpnobaaGreatDoor
open Go
namespace SL
set_option maxRecDepth 20000

theorem QSpec.lift {P : Program} {Ro : Heap} {f : FuncId} {args : List Value} {v : Value} (S : QSpec P f args Ro v) (Hp : Heap) : Spec P f args Ro Hp (fun _ : Unit => True) (fun _ => v) (fun _ => Hp) := fun w h1 h2 h3 h4 =>
  (S w h2).mono fun e w' ⟨he, hg⟩ => ⟨(), trivial, he, (Hs.init h1 h3 h2 h4).grow hg⟩
section
variable {names rest : List (List UInt8)} {n st : Nat} {xs dl xl dat : List UInt8} {flags bc inc : Nat} {U O tab : List UInt8} {B k1 k2 : Nat} {blks1 blks2 : List (List DRec)} {il : Bool} {bk cap bI eI : Nat} {frI : Nat × Nat} {f3 : Nat → Bool} {RI : List Value} [RowC RI U]
/-- Reading the inode of the file. -/
abbrev FileRd (RI : List Value) (cap bI eI : Nat) (frI : Nat × Nat) (B : Nat) (r : RNd) (dat : List UInt8) : Prop := ∀ bV bO eO : Nat, ∀ ino : Value,
  Spec Tryz.prog 115 [Pt bV, N .u64 r.x.num] [[(bV, VO ino (B + 3) (Sl bI 0 ((B + 3) * 4096) cap) 1 (1 * 16) (Sl bO 0 (B + 3) (B + 3)))], [(bI, CI RI eI frI)]] [[(bO, BO (ownL (B + 3) r.f0) eO (0, 0))]]
    (fun z : (Value × Value) × Chunk => z.1.2 = .slice none 0 0 ∧ RdF z.2 z.1.1 dat) (fun z => .agg (rnX r z.1.1 z.1.2 (.slice none 0 0)).cells.toArray) (fun z => [[(bO, BO (ownL (B + 3) r.f1) eO (0, 0))], z.2])
variable (I : ImF names rest n st xs dl xl flags bc inc U O tab B k1 k2 blks1 blks2)
include I
theorem ImF.laid : Laid1 U (B + 3) B 1 := by rw [I.img]; exact img_laid (imgT_len I.Ol I.tl) I.B2 I.B1
theorem ImF.data {p k : Nat} (h8 : 8192 ≤ p) (h : p + k ≤ B * 4096) : cut U p k = cut O p k := by
  have hV := imgT_len I.Ol I.tl
  rw [I.img, img_cut (by omega) h8, imgT_data I.Ol I.tl h]
theorem ImF.dat1 (hst : 2 ≤ st) (hxs : xs.length = st * 4096) : cut U (st * 4096) (k1 * 4096) = blkB blks1 := by
  have hB := I.Be
  have h1 := I.l1
  have hb := blkB_length I.d1.full
  rw [I.data (by omega) (by omega), I.Oe, cut_skip hxs (Nat.le_refl _), Nat.sub_self, cut_pre (by omega), cut_all (by omega)]
theorem ImF.dat2 (hst : 2 ≤ st) (hxs : xs.length = st * 4096) : cut U ((st + k1) * 4096) (k2 * 4096) = blkB blks2 := by
  have hB := I.Be
  have h1 := I.l1
  have h2 := I.l2
  have hb := blkB_length I.d1.full
  have hb2 := blkB_length I.d2.full
  rw [I.data (by omega) (by omega), I.Oe, cut_skip hxs (by omega), cut_skip (k := k1 * 4096) (by omega) (by omega), show (st + k1) * 4096 - st * 4096 - k1 * 4096 = 0 by omega, cut_all (by omega)]
theorem ImF.rdR (hst : 2 ≤ st) (hxs : xs.length = st * 4096) (hcap : (B + 3) * 4096 ≤ cap) (hcap2 : cap < 9223372036854775808) : FileRd RI cap bI eI frI B (ndR B st k1 blks1) (blkB blks1) := fun bV bO eO ino => by
  have hB := I.Be
  have hB2 := I.B2
  have h1 := I.l1
  have hk1 := I.d1.ne
  have hb := blkB_length I.d1.full
  have L := I.laid
  have hit := L.itab
  have hS := inode_ext_s (bV := bV) (bI := bI) (eI := eI) (frI := frI) (bO := bO) (eO := eO) (f := own0 B) (ino := ino) (k := 2) (it := B) (nb := B + 3) (pi := 16) (oi := B * 4096 + 256) (by omega) I.i2 L.len hcap hcap2 (by omega) (by omega) (by decide) (by decide) hit (by omega) (by decide) (by omega) (by decide) (by omega) (by decide) (by decide)
    I.e2 (by omega) (by omega) (by omega) (by omega) (by omega) rfl (fun j ha hb => by show (decide (j < 2) || decide (B ≤ j)) = false; rw [decide_eq_false (by omega), decide_eq_false (by omega)]; rfl) (.inr (.inl (by decide))) (by decide) (by decide) I.m2
  rw [I.dat1 hst hxs] at hS
  refine hS.convH fun b _ => ⟨((Sl b 0 (k1 * 4096) (k1 * 4096), .slice none 0 0), [(b, BO (blkB blks1) 5 (0, 0))]), ⟨rfl, .inr ⟨b, k1 * 4096, 5, (0, 0), SL.bc (blkB blks1), by rw [hb, h1], List.mem_singleton.2 rfl, RowB.all _, by omega, by omega⟩⟩, rfl, fun g w' hh => hh.re⟩
theorem ImF.rdL (hst : 2 ≤ st) (hxs : xs.length = st * 4096) (hcap : (B + 3) * 4096 ≤ cap) (hcap2 : cap < 9223372036854775808) : FileRd RI cap bI eI frI B (ndL B st k1 k2 blks2) (blkB blks2) := fun bV bO eO ino => by
  have hB := I.Be
  have hB2 := I.B2
  have h2 := I.l2
  have hk2 := I.d2.ne
  have hb := blkB_length I.d2.full
  have L := I.laid
  have hit := L.itab
  have hS := inode_ext_s (bV := bV) (bI := bI) (eI := eI) (frI := frI) (bO := bO) (eO := eO) (f := own1 (own0 B) st k1) (ino := ino) (k := 11) (it := B) (nb := B + 3) (pi := 16) (oi := B * 4096 + 2560) (by omega) I.i11 L.len hcap hcap2 (by omega) (by omega) (by decide) (by decide) hit (by omega) (by decide) (by omega) (by decide) (by omega) (by decide) (by decide)
    I.e11 (by omega) (by omega) (by omega) (by omega) (by omega) rfl (fun j ha hb => by show ((decide (j < 2) || decide (B ≤ j)) || (decide (st ≤ j) && decide (j < st + k1))) = false; rw [decide_eq_false (by omega), decide_eq_false (by omega), decide_eq_false (p := j < st + k1) (by omega), Bool.and_false]; rfl) (.inr (.inl (by decide))) (by decide) (by decide) I.m11
  rw [I.dat2 hst hxs] at hS
  refine hS.convH fun b _ => ⟨((Sl b 0 (k2 * 4096) (k2 * 4096), .slice none 0 0), [(b, BO (blkB blks2) 5 (0, 0))]), ⟨rfl, .inr ⟨b, k2 * 4096, 5, (0, 0), SL.bc (blkB blks2), by rw [hb, h2], List.mem_singleton.2 rfl, RowB.all _, by omega, by omega⟩⟩, rfl, fun g w' hh => hh.re⟩
theorem ImF.read_s (hcr : CrowdP names) (hne : names ≠ []) (hinc : inc = 578 ∨ inc = 33346) (hst : 2 ≤ st) (hxs : xs.length = st * 4096) (hcap : (B + 3) * 4096 ≤ cap) (hcap2 : cap < 9223372036854775808) (hf3 : ∀ i, i < B + 3 → f3 i = true)
    (hfl : FileRd RI cap bI eI frI B (ndF B st k1 k2 n names.length bc flags il bk f3) dat) :
    Spec Tryz.prog 26 [Sl bI 0 ((B + 3) * 4096) cap] [[(bI, CI RI eI frI)]] []
      (fun r : (Nat × Nat) × List NdV × Value × Chunk × Chunk => r.2.1.map (·.1) = [ndR B st k1 blks1, ndL B st k1 k2 blks2, ndF B st k1 k2 n names.length bc flags il bk f3] ∧ (∀ z ∈ r.2.1, NdFin (phiU (blkB blks1) (blkB blks2) dat) r.2.2.2.2 z) ∧ Own 81 23 r.2.2.1 r.2.1.length (r.2.1.flatMap fun z => z.x.cells) r.2.2.2.1) (fun r => Pt r.1.1)
      (fun r => [[(r.1.1, VO r.2.2.1 (B + 3) (Sl bI 0 ((B + 3) * 4096) cap) 1 (1 * 16) (Sl r.1.2 0 (B + 3) (B + 3)))], r.2.2.2.1, r.2.2.2.2]) := by
  have hV := imgT_len I.Ol I.tl
  have hB := I.Be
  have hB2 := I.B2
  have hl1 := I.l1
  have hl2 := I.l2
  have hc := hcr.1
  have hk1 := I.d1.ne
  have hk2 := I.d2.ne
  have hS : SbOk U (B + 3) (1 * 16) 11 inc 4170 := by rw [I.img]; exact img_sbOk hV hB2 hinc
  have hM := img_marks (inc := inc) I.Ol I.tl hB2 I.B1 hf3
  rw [← I.img] at hM
  have hb1 := blkB_length I.d1.full
  have hb2 := blkB_length I.d2.full
  have kF2 : ¬ ((ndF B st k1 k2 n names.length bc flags il bk f3).isDir = true) := fun h => absurd (kF.symm.trans (by exact h)) (by decide)
  refine SL.read_s (φ := phiU (blkB blks1) (blkB blks2) dat) (s' := bsB names.length []) (f' := f3) (first := 11) (tb := 1) (it := B) (nb := B + 3) (r0 := ndR B st k1 blks1) (rs0 := [ndL B st k1 k2 blks2, ndF B st k1 k2 n names.length bc flags il bk f3]) hcap hcap2 I.laid (by omega) (by decide) hS (by decide) rfl (by show kindN 16877 = 2; decide) (by show 3 < 1000000; decide) (I.run hcr hne) ?_ ?_ ?_ ?_ ?_
  · intro bV bO eO r hr ino
    simp only [List.mem_cons, List.not_mem_nil, or_false] at hr
    rcases hr with rfl | rfl | rfl
    · exact (I.rdR hst hxs hcap hcap2 bV bO eO ino).imp fun z hz => ⟨hz.1, by exact hz.2⟩
    · exact (I.rdL hst hxs hcap hcap2 bV bO eO ino).imp fun z hz => ⟨hz.1, by exact hz.2⟩
    · exact (hfl bV bO eO ino).imp fun z hz => ⟨hz.1, by exact hz.2⟩
  · intro r hr
    refine ⟨?_, fun c a C h => ⟨h.2.one, by rw [h.1]; rfl⟩⟩
    simp only [List.mem_cons, List.not_mem_nil, or_false] at hr
    rcases hr with rfl | rfl | rfl <;> rfl
  · intro r hr hd c a C h
    simp only [List.mem_cons, List.not_mem_nil, or_false] at hr
    rcases hr with rfl | rfl | rfl
    · rcases h.2 with ⟨_, h0⟩ | ⟨b, cp, e, fr, R, h1, h2, h3, h4, h5⟩
      · have h0 : blkB blks1 = [] := h0
        rw [h0] at hb1
        have : 0 = blks1.length * 4096 := hb1
        omega
      · have h1 : c = Sl b 0 (blkB blks1).length cp := h1
        have h3 : RowB R 0 (blkB blks1) := h3
        have h4 : (blkB blks1).length ≤ cp := h4
        exact ⟨b, cp, e, fr, R, by rw [h1, hb1], h2, h3, by rw [hb1] at h4; exact h4, h5⟩
    · rcases h.2 with ⟨_, h0⟩ | ⟨b, cp, e, fr, R, h1, h2, h3, h4, h5⟩
      · have h0 : blkB blks2 = [] := h0
        rw [h0] at hb2
        have : 0 = blks2.length * 4096 := hb2
        omega
      · have h1 : c = Sl b 0 (blkB blks2).length cp := h1
        have h3 : RowB R 0 (blkB blks2) := h3
        have h4 : (blkB blks2).length ≤ cp := h4
        exact ⟨b, cp, e, fr, R, by rw [h1, hb2], h2, h3, by rw [hb2] at h4; exact h4, h5⟩
    · exact absurd hd kF2
  · intro r hr
    simp only [List.mem_cons, List.not_mem_nil, or_false] at hr
    rcases hr with rfl | rfl | rfl
    · exact ⟨by show 1 ≤ 2; decide, by show 2 < 17; decide, by show 16877 < 65536; decide, by show 1 < 1000000000; decide, by rw [if_pos (by exact kR)]; rfl⟩
    · exact ⟨by show 1 ≤ 11; decide, by show 11 < 17; decide, by show 16832 < 65536; decide, by show 0 < 1000000000; decide, by rw [if_pos (by exact kL)]; rfl⟩
    · exact ⟨by show 1 ≤ 12; decide, by show 12 < 17; decide, by show 32768 < 65536; decide, by show 0 < 1000000000; decide, by rw [if_neg kF2]; rfl⟩
  · have hd : ([ndR B st k1 blks1, ndL B st k1 k2 blks2, ndF B st k1 k2 n names.length bc flags il bk f3].filter fun r => r.isDir).length = 2 := by
      rw [List.filter_cons_of_pos (by exact kR), List.filter_cons_of_pos (by exact kL), List.filter_cons_of_neg (by exact kF2)]
      rfl
    rw [hd]
    exact hM
end
end SL
end Go.Proofs.YtlmiekcmjpnobaaGreatDoor
