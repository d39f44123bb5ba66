/- Part 4 of the proof of the card of 'laws.FnImageManyLinks': it returns true at every input. No condition. Texts: RI RJ WA WB WC WD WE WF WG WH. -/
import Derived.Test.YtlmiekcmjpnobaaGreatDoorM03
namespace Go.Proofs.YtlmiekcmjpnobaaGreatDoor
open Go
namespace SL
set_option maxRecDepth 20000

variable {bV bX bI cap nb gr pi cc oi place eI : Nat} {x : XI} {B : List UInt8} {RI : List Value} [RowC RI B] {frI : Nat × Nat} {val : List UInt8} {ino img own : Value}
/-- No attributes. -/
theorem xattrs0_q (h1 : leN B (oi + 152) 4 ≠ 3925999616) (h2 : leN B (oi + 104) 4 = 0) (ho : oi + 256 ≤ B.length) (hBl : B.length < 4611686018427387904) :
    QSpec Tryz.prog 155 [.pointer (some ⟨bV, 0, none⟩), .pointer (some ⟨bX, 0, none⟩), Sl bI oi 256 cc, N .u64 24] [[(bV, VO ino nb img gr pi own)], [(bI, CI RI eI frI)]] (.slice none 0 0) := by
  refine QSpec.of Tryz.func155 rfl Tryz.ntmps155 (by simp) fun w => ?_
  refine T.sr <| Rl.q (Qt.as (v := .slice none 0 0)) <| Rl.nilK <| ?_
  refine T.sr <| Rl.q (Qt.as (v := .slice none 0 0)) <| Rl.nilK <| ?_
  refine T.seq ?_
  refine T.sr <| Rl.q Qt.mv <| Rl.q Qt.nc <| Rl.q Qt.fa <| Rl.q Qt.ld <| Rl.q Qt.mv <| Rl.q (Qt.toN (c := 152) (Qt.add (a := 128) (b := 24) (h := by decide)) (rfl)) <| Rl.q (Qt.toN (c := 156) (Qt.add (b := 4) (a := 152) (h := by decide)) (rfl)) <| ?_
  refine Rl.q (Qt.geT (h := by decide) (a := 256) (b := 156)) <| Rl.q Qt.mv <| Rl.gt <| Rl.q Qt.mv <| Rl.gt <| Rl.q Qt.mv <| Rl.gt <| Rl.q (Qt.toN (c := 152) (Qt.add (a := 128) (b := 24) (h := by decide)) (rfl)) <| ?_
  refine Rl.gt <| Rl.e (Ef.qcall (S := leBx_q (p := 152) (n := 4) ho (by decide) (by decide) hBl rfl)) fun _ _ => Rl.gt <| Rl.q (Qt.eqF (b := 3925999616) (h := h1)) <| Rl.q Qt.pkT <| Rl.nilK <| ?_
  refine T.condF ?_
  refine T.skip <| Ex.K <| ?_
  refine T.sr <| Rl.q Qt.mv <| Rl.e (Ef.qcall (S := leBx_q (p := 104) (n := 4) ho (by decide) (by decide) hBl h2)) fun _ _ => Rl.q Qt.as <| Rl.nilK <| ?_
  refine T.seq ?_
  refine T.sr <| Rl.q Qt.mv <| Rl.q Qt.nc <| Rl.q Qt.fa <| Rl.q Qt.ld <| Rl.nilK <| ?_
  refine T.condF ?_
  refine T.skip <| Ex.K <| ?_
  refine T.seq ?_
  refine T.sr <| Rl.q Qt.mv <| Rl.q (Qt.neF (b := 0) (h := rfl)) <| Rl.nilK <| ?_
  refine T.condF ?_
  refine T.skip <| Ex.K <| ?_
  refine T.seq ?_
  refine T.sr <| Rl.q Qt.mv <| Rl.q Qt.len <| Rl.q (Qt.mv (v := N .i64 0)) <| Rl.nilK <| ?_
  refine T.block ?_
  refine T.rounds 0 ?_
  refine T.sr <| Rl.q (Qt.ltF (a := 0) (h := by decide)) <| Rl.nilK <| ?_
  refine T.seq ?_
  refine T.condF ?_
  refine T.exit <| Ex.Kexit <| Ex.Rexit <| Ex.Bhit <| Ex.K <| ?_
  refine T.sr <| Rl.q Qt.mv <| Rl.q Qt.as <| Rl.nilK <| ?_
  refine T.ret <| Ex.ret1 (.inl rfl) rfl ?_ rfl
  exact fun w h => ⟨rfl, h.grown⟩

set_option maxHeartbeats 1000000 in
/-- One attribute, in the inode. -/
theorem xattrs1_s (A : At1 B (oi + 156) place val) (h1 : leN B (oi + 152) 4 = 3925999616) (h2 : leN B (oi + 104) 4 = 0) (ho : oi + 256 ≤ B.length) (hBl : B.length < 4611686018427387904) (hcc : 256 < cc) (hcc2 : cc < 9223372036854775808) :
    Spec Tryz.prog 155 [.pointer (some ⟨bV, 0, none⟩), .pointer (some ⟨bX, 0, none⟩), Sl bI oi 256 cc, N .u64 24] [[(bV, VO ino nb img gr pi own)], [(bI, CI RI eI frI)], [(bX, XO x)]] []
      (fun r : (Value × Chunk) × (Value × Chunk) => Own 84 2 r.1.1 1 [SV sysdata, r.2.1] r.1.2 ∧ Own 5 1 r.2.1 val.length (bc val) r.2.2) (fun r => r.1.1) (fun r => [r.1.2, r.2.2]) := by
  refine Spec.of Tryz.func155 rfl Tryz.ntmps155 (by simp) fun w => ?_
  refine T.sr <| Rl.q (Qt.as (v := .slice none 0 0)) <| Rl.nilK <| ?_
  refine T.sr <| Rl.q (Qt.as (v := .slice none 0 0)) <| Rl.nilK <| ?_
  refine T.seq ?_
  refine T.sr <| Rl.q Qt.mv <| Rl.q Qt.nc <| Rl.q Qt.fa <| Rl.q Qt.ld <| Rl.q Qt.mv <| Rl.q (Qt.toN (c := 152) (Qt.add (a := 128) (b := 24) (h := by decide)) (rfl)) <| Rl.q (Qt.toN (c := 156) (Qt.add (b := 4) (a := 152) (h := by decide)) (rfl)) <| ?_
  refine Rl.q (Qt.geT (h := by decide) (a := 256) (b := 156)) <| Rl.q Qt.mv <| Rl.gt <| Rl.q Qt.mv <| Rl.gt <| Rl.q Qt.mv <| Rl.gt <| Rl.q (Qt.toN (c := 152) (Qt.add (a := 128) (b := 24) (h := by decide)) (rfl)) <| ?_
  refine Rl.gt <| Rl.e (Ef.qcall (S := leBx_q (p := 152) (n := 4) ho (by decide) (by decide) hBl h1)) fun _ _ => Rl.gt <| Rl.q (Qt.eqT (b := 3925999616) (h := rfl)) <| Rl.q Qt.pkT <| Rl.nilK <| ?_
  refine T.condT ?_
  refine T.sr <| Rl.q Qt.mv <| Rl.q Qt.mv <| Rl.q (Qt.toN (c := 152) (Qt.add (a := 128) (b := 24) (h := by decide)) (rfl)) <| Rl.q (Qt.toN (c := 156) (Qt.add (b := 4) (a := 152) (h := by decide)) (rfl)) <| Rl.q (Qt.to (u := Sl bI (oi + 156) 100 (cc - 156)) (Qt.sl1 (cl := 156)) (rfl)) <| Rl.q Qt.as <| Rl.nilK <| ?_
  refine T.region <| Rl.q Qt.mv <| Rl.q Qt.mv <| Rl.q Qt.mv <| Rl.q Qt.mv <| Rl.e (Ef.call (S := attributes_s A (by omega) hBl (by omega) (by omega))) fun r hr => Rl.q Qt.as <| Rl.nil <| Ex.K <| ?_
  refine T.sr <| Rl.q Qt.mv <| Rl.e (Ef.qcall (S := leBx_q (p := 104) (n := 4) ho (by decide) (by decide) hBl h2)) fun _ _ => Rl.q Qt.as <| Rl.nilK <| ?_
  refine T.seq ?_
  refine T.sr <| Rl.q Qt.mv <| Rl.q Qt.nc <| Rl.q Qt.fa <| Rl.q Qt.ld <| Rl.nilK <| ?_
  refine T.condF ?_
  refine T.skip <| Ex.K <| ?_
  refine T.seq ?_
  refine T.sr <| Rl.q Qt.mv <| Rl.q (Qt.neF (b := 0) (h := rfl)) <| Rl.nilK <| ?_
  refine T.condF ?_
  refine T.skip <| Ex.K <| ?_
  refine T.seq ?_
  obtain ⟨b, c, sp, hv, hc1, hc2, hE, hspl⟩ := hr.1.some (by decide)
  rw [hv]
  refine T.sr <| Rl.q Qt.mv <| Rl.q Qt.len <| Rl.q (Qt.mv (v := N .i64 0)) <| Rl.nilK <| ?_
  refine T.block ?_
  refine T.rounds 1 ?_
  refine T.sr <| Rl.q (Qt.ltT (a := 0) (h := by decide)) <| Rl.nilK <| ?_
  refine T.seq ?_
  refine T.condT ?_
  refine T.skip <| Ex.K <| ?_
  refine T.seq ?_
  refine T.block ?_
  refine T.sr <| Rl.q Qt.mv <| Rl.q Qt.as <| Rl.nilK <| ?_
  refine T.sr <| Rl.q Qt.mv <| Rl.q Qt.mv <| Rl.q (Qt.to (u := Sl b 0 0 c) (Qt.sl (ch := 0)) (by simp [cutAt])) <| Rl.q Qt.len <| Rl.q (Qt.mv (v := N .i64 0)) <| Rl.nilK <| ?_
  refine T.block ?_
  refine T.rounds 0 ?_
  refine T.sr <| Rl.q (Qt.ltF (a := 0) (h := by decide)) <| Rl.nilK <| ?_
  refine T.seq ?_
  refine T.condF ?_
  refine T.exit <| Ex.Kexit <| Ex.Rexit <| Ex.Bhit <| Ex.Bnormal <| Ex.K <| ?_
  refine T.region <| Rl.q (Qt.toN (c := 1) (Qt.add (b := 1) (a := 0) (h := by decide)) (rfl)) <| Rl.q Qt.mv <| Rl.nil <| Ex.LR <| ?_
  refine T.sr <| Rl.q (Qt.ltF (a := 1) (h := by decide)) <| Rl.nilK <| ?_
  refine T.seq ?_
  refine T.condF ?_
  refine T.exit <| Ex.Kexit <| Ex.Rexit <| Ex.Bhit <| Ex.K <| ?_
  refine T.sr <| Rl.q Qt.mv <| Rl.q Qt.as <| Rl.nilK <| ?_
  refine T.ret <| Ex.ret1 (.inl rfl) rfl ?_ rfl
  exact fun w h => ⟨((Sl b 0 1 c, r.1.2), (r.2.1, r.2.2)), ⟨hv ▸ hr.1, hr.2⟩, rfl, h.re⟩

theorem moment0_q : QSpec Tryz.prog 154 [N .u64 0, N .u64 0] [] (.agg [N .i64 0, N .i64 0].toArray) := moment_q (by decide) (by decide)
theorem field_q {b5 b6 p z : Nat} (hp : p + 4 ≤ 152) (ho : oi + 256 ≤ B.length) (hBl : B.length < 4611686018427387904) (hz : leN B (oi + p) 4 = z) :
    QSpec Tryz.prog 153 [N .u64 p, .pointer (some ⟨b6, 0, none⟩), .pointer (some ⟨b5, 0, none⟩)] [[(b6, .cells [N .u64 24].toArray 66 (0, 0))], [(b5, .cells [Sl bI oi 256 cc].toArray 46 (0, 0))], [(bI, CI RI eI frI)]] (N .u64 z) := by
  refine QSpec.of Tryz.func153 rfl Tryz.ntmps153 (by simp) fun w => ?_
  refine T.sr <| Rl.q (Qt.as (v := N .u64 0)) <| Rl.nilK <| ?_
  refine T.seq ?_
  refine T.sr <| Rl.q Qt.mv <| Rl.q (Qt.add (b := 4)) <| Rl.q Qt.ld <| Rl.q (Qt.toN (c := 152) (Qt.add (a := 128) (b := 24) (h := by decide)) (rfl)) <| Rl.q (Qt.gtF (b := 152)) <| Rl.nilK <| ?_
  refine T.condF ?_
  refine T.skip <| Ex.K <| ?_
  refine T.sr <| Rl.q Qt.ld <| Rl.q Qt.mv <| Rl.e (Ef.qcall (S := leBx_q ho (by omega) (by decide) hBl hz)) fun _ _ => Rl.q Qt.as <| Rl.nilK <| ?_
  refine T.ret <| Ex.ret1 (.inl rfl) rfl ?_ rfl
  exact fun w h => ⟨rfl, h.grown⟩

/-- What stands in an inode: no owner, no times, no devices. -/
structure InoF (B : List UInt8) (oi mode size links sect flags : Nat) : Prop where
  mode : leN B oi 2 = mode
  uid : leN B (oi + 2) 2 = 0
  size : leN B (oi + 4) 4 = size
  atime : leN B (oi + 8) 4 = 0
  ctime : leN B (oi + 12) 4 = 0
  mtime : leN B (oi + 16) 4 = 0
  dtime : leN B (oi + 20) 4 = 0
  gid : leN B (oi + 24) 2 = 0
  links : leN B (oi + 26) 2 = links
  sect : leN B (oi + 28) 4 = sect
  flags : leN B (oi + 32) 4 = flags
  xb : leN B (oi + 104) 4 = 0
  sizeH : leN B (oi + 108) 4 = 0
  sectH : leN B (oi + 116) 2 = 0
  uidH : leN B (oi + 120) 2 = 0
  gidH : leN B (oi + 122) 2 = 0
  extra : leN B (oi + 128) 2 = 24
  cx : leN B (oi + 132) 4 = 0
  mx : leN B (oi + 136) 4 = 0
  ax : leN B (oi + 140) 4 = 0
  cr : leN B (oi + 144) 4 = 0
  crx : leN B (oi + 148) 4 = 0

/-- What the reader makes of it. -/
abbrev inoX (num mode size links sect flags : Nat) (content : Value) (inl : Bool) (blocks : Nat) : XI :=
  ⟨num, mode, 0, 0, size, links, sect, flags, N .i64 0, N .i64 0, N .i64 0, N .i64 0, N .i64 0, N .i64 0, N .i64 0, N .i64 0, 0, 0, content, .slice none 0 0, .slice none 0 0, inl, blocks⟩

set_option synthInstance.maxSize 100000 in
set_option synthInstance.maxHeartbeats 4000000 in
set_option maxHeartbeats 8000000 in
theorem inode_ext_s {k it nb pi mode size links sect flags start len eO : Nat} {f : Nat → Bool} {bO : Nat} (hoi : oi = it * 4096 + (k - 1) * 256) (F : InoF B oi mode size links sect flags) (hB : B.length = nb * 4096) (hcap : nb * 4096 ≤ cap) (hcap2 : cap < 9223372036854775808) (hnb : nb < 1000000) (hnb2 : 1 < nb)
    (hk : 1 ≤ k ∧ k ≤ pi) (hpi : pi < 4294967296) (hit : leN B 4104 4 = it) (hat : it * 4096 + pi * 256 ≤ nb * 4096) (hmode : mode < 65536) (hsize : size < 4294967296) (hlinks : links < 65536) (hsect : sect < 4294967296) (hfl : flags < 4294967296) (hhuge : flags &&& 262144 ≠ 0)
    (X : Ext1 B (oi + 40) start len) (hst : start + len ≤ nb) (hl : 1 ≤ len) (hl2 : len ≤ 32768) (hs1 : (len - 1) * 4096 < size) (hs2 : size ≤ len * 4096) (hsl : sect = len)
    (hf : ∀ j, start ≤ j → j < start + len → f j = false) (hk3 : kindN mode = 1 ∨ kindN mode = 2 ∨ kindN mode = 7) (hext : flags &&& 524288 ≠ 0) (hninl : flags &&& 268435456 = 0) (hmag : leN B (oi + 152) 4 ≠ 3925999616) :
    Spec Tryz.prog 115 [.pointer (some ⟨bV, 0, none⟩), N .u64 k] [[(bV, VO ino nb (Sl bI 0 (nb * 4096) cap) 1 pi (Sl bO 0 nb nb))], [(bI, CI RI eI frI)]] [[(bO, BO (ownL nb f) eO (0, 0))]]
      (fun _ : Nat => True) (fun b => .agg (inoX k mode size links sect flags (Sl b 0 size size) false len).cells.toArray) (fun b => [[(b, BO (cut B (start * 4096) size) 5 (0, 0))], [(bO, BO (ownL nb fun j => f j || (decide (start ≤ j) && decide (j < start + len))) eO (0, 0))]]) := by
  refine Spec.of Tryz.func115 rfl Tryz.ntmps115 (by simp) fun w => ?_
  have ho : oi + 256 ≤ B.length := by have := Nat.mul_le_mul_right 256 hk.2; have := hk.1; rw [hoi, hB]; omega
  have hBl : B.length < 4611686018427387904 := by omega
  have hcap : nb * 4096 ≤ cap := by omega
  have hraw := raw_q (bV := bV) (bI := bI) (cap := cap) (nb := nb) (pi := pi) (ino := ino) (own := Sl bO 0 nb nb) (B := B) (eI := eI) (frI := frI) hB (by omega) hcap hcap2 hk hpi hit hat
  rw [← hoi] at hraw
  have hkind : kindN mode ≠ 0 := by omega
  refine T.sr <| Rl.e Ef.alA fun b4 hb4 => Rl.nilK <| ?_
  refine T.sr <| Rl.q Qt.mv <| Rl.q Qt.mv <| Rl.e (Ef.qcall (S := hraw)) fun _ _ => Rl.e Ef.al1 fun b5 hb5 => Rl.e0 Ef.st1 fun _ _ => Rl.nilK <| ?_
  refine T.sr <| Rl.e Ef.al1 fun b6 hb6 => Rl.e0 (Ef.st1 (v := N .u64 0)) fun _ _ => Rl.nilK <| ?_
  refine T.seq ?_
  refine T.sr <| Rl.q Qt.mv <| Rl.q Qt.nc <| Rl.q Qt.fa <| Rl.q Qt.ld <| Rl.q (Qt.gtT (b := 128) (h := by decide) (a := 256)) <| Rl.nilK <| ?_
  refine T.condT ?_
  refine T.sr <| Rl.q Qt.ld <| Rl.e (Ef.qcall (S := leBx_q (p := 128) (n := 2) ho (by decide) (by decide) hBl F.extra)) fun _ _ => Rl.e0 Ef.st1 fun _ _ => Rl.nilK <| ?_
  refine T.dr [] ?_ mixed
  refine Dr.qs [0, 1, 2, 3, 4, 5, 6, 7, 8, 9, 10, 11, 12, 13, 14] [] ?_
  refine Dq.q Qt.mv <| Dq.q Qt.ld <| Dq.q (Qt.toN (c := 152) (Qt.add (a := 128) (b := 24) (h := by decide)) (rfl)) <| Dq.q Qt.mv <| Dq.q Qt.nc <| Dq.q Qt.fa <| Dq.q Qt.ld <| Dq.q (Qt.leT (h := by decide) (a := 152) (b := 256)) <| ?_
  refine Dq.q Qt.mv <| Dq.gt <| Dq.q Qt.ld <| Dq.gt <| Dq.q (Qt.toN (c := 0) (Qt.rem (b := 4) (a := 24)) (rfl)) <| Dq.gt <| Dq.q (Qt.eqT (a := 0) (b := 0) (h := rfl)) <| Dq.q Qt.pkT <| ?_
  refine Dq.q Qt.mv <| Dq.c rfl (must_q _ _ _) <| Dq.nil <| Dr.nil <| Ex.K <| ?_
  refine T.sr <| Rl.q Qt.mf <| Rl.q Qt.as <| Rl.nilK <| ?_
  refine T.sdr [56] ?_ mixed
  refine Dr.qsM [0, 1, 2, 3, 4, 5, 6, 7, 8, 9, 10, 11, 12, 13, 14, 15, 16, 17, 18, 19, 20, 21, 22, 23, 24, 25, 26, 27, 28, 29, 30, 31, 32, 33, 34, 35, 36, 37, 38, 39, 40, 41, 42, 43, 44, 45, 46, 47, 48, 49, 50, 51, 52, 53, 54] [] ?_
  refine Dq.q Qt.mv <| Dq.q Qt.ld <| Dq.c rfl (leBx_q (p := 0) (n := 2) ho (by decide) (by decide) hBl F.mode) <| Dq.q (Qt.cv (h := hmode)) <| Dq.q Qt.ld <| Dq.c rfl (leBx_q (p := 2) (n := 2) ho (by decide) (by decide) hBl F.uid) <| Dq.q Qt.ld <| Dq.c rfl (leBx_q (p := 120) (n := 2) ho (by decide) (by decide) hBl F.uidH) <| ?_
  refine Dq.q (Qt.toN (c := 0) (Qt.shl (b := 16) (a := 0) (h := ⟨by decide, by decide⟩)) (rfl)) <| Dq.q (Qt.toN (c := 0) (Qt.or (a := 0) (b := 0) (h := ⟨by decide, by decide⟩)) (rfl)) <| Dq.q (Qt.cv (a := 0) (h := by decide)) <| Dq.q Qt.ld <| Dq.c rfl (leBx_q (p := 24) (n := 2) ho (by decide) (by decide) hBl F.gid) <| Dq.q Qt.ld <| Dq.c rfl (leBx_q (p := 122) (n := 2) ho (by decide) (by decide) hBl F.gidH) <| Dq.q (Qt.toN (c := 0) (Qt.shl (b := 16) (a := 0) (h := ⟨by decide, by decide⟩)) (rfl)) <| ?_
  refine Dq.q (Qt.toN (c := 0) (Qt.or (a := 0) (b := 0) (h := ⟨by decide, by decide⟩)) (rfl)) <| Dq.q (Qt.cv (a := 0) (h := by decide)) <| Dq.q Qt.ld <| Dq.c rfl (leBx_q (p := 4) (n := 4) ho (by decide) (by decide) hBl F.size) <| Dq.q Qt.ld <| Dq.c rfl (leBx_q (p := 108) (n := 4) ho (by decide) (by decide) hBl F.sizeH) <| Dq.q (Qt.toN (c := 0) (Qt.shl (b := 32) (a := 0) (h := ⟨by decide, by decide⟩)) (rfl)) <| Dq.q (Qt.toN (c := size) (Qt.or (b := 0) (h := ⟨by simp only [lim]; omega, by decide⟩)) (Nat.or_zero _)) <| ?_
  refine Dq.q Qt.ld <| Dq.c rfl (leBx_q (p := 26) (n := 2) ho (by decide) (by decide) hBl F.links) <| Dq.q Qt.ld <| Dq.c rfl (leBx_q (p := 28) (n := 4) ho (by decide) (by decide) hBl F.sect) <| Dq.q Qt.ld <| Dq.c rfl (leBx_q (p := 116) (n := 2) ho (by decide) (by decide) hBl F.sectH) <| Dq.q (Qt.toN (c := 0) (Qt.shl (b := 32) (a := 0) (h := ⟨by decide, by decide⟩)) (rfl)) <| Dq.q (Qt.toN (c := sect) (Qt.or (b := 0) (h := ⟨by simp only [lim]; omega, by decide⟩)) (Nat.or_zero _)) <| ?_
  refine Dq.q Qt.ld <| Dq.c rfl (leBx_q (p := 32) (n := 4) ho (by decide) (by decide) hBl F.flags) <| Dq.q Qt.ld <| Dq.c rfl (leBx_q (p := 8) (n := 4) ho (by decide) (by decide) hBl F.atime) <| Dq.q Qt.mv <| Dq.cc rfl rfl (field_q (p := 140) (by decide) ho hBl F.ax) <| Dq.c rfl (moment0_q) <| Dq.q Qt.ld <| ?_
  refine Dq.c rfl (leBx_q (p := 12) (n := 4) ho (by decide) (by decide) hBl F.ctime) <| Dq.q Qt.mv <| Dq.cc rfl rfl (field_q (p := 132) (by decide) ho hBl F.cx) <| Dq.c rfl (moment0_q) <| Dq.q Qt.ld <| Dq.c rfl (leBx_q (p := 16) (n := 4) ho (by decide) (by decide) hBl F.mtime) <| Dq.q Qt.mv <| Dq.cc rfl rfl (field_q (p := 136) (by decide) ho hBl F.mx) <| ?_
  refine Dq.c rfl (moment0_q) <| Dq.q Qt.mv <| Dq.cc rfl rfl (field_q (p := 144) (by decide) ho hBl F.cr) <| Dq.q Qt.mv <| Dq.cc rfl rfl (field_q (p := 148) (by decide) ho hBl F.crx) <| Dq.c rfl (moment0_q) <| Dq.q Qt.bdN <| Dq.nil <| ?_
  refine Dr.e 55 <| Eo.e rfl Ef.alA fun b8 hb8 => ?_
  refine Dr.e 56 <| Eo.e0 rfl Ef.stN fun _ _ => Dr.nilK <| ?_
  refine T.sr <| Rl.q Qt.mv <| Rl.q Qt.fa <| Rl.q Qt.ld <| Rl.e (Ef.qcall (S := kindOf_q hmode)) fun _ _ => Rl.q (Qt.neT (b := 0) (h := hkind)) <| Rl.q Qt.mv <| Rl.e (Ef.qcall (S := must_q _ _ _)) fun _ _ => ?_
  refine Rl.nilK <| ?_
  refine T.sr <| Rl.q Qt.mv <| Rl.q Qt.ld <| Rl.e (Ef.qcall (S := leBx_q (p := 20) (n := 4) ho (by decide) (by decide) hBl F.dtime)) fun _ _ => Rl.q (Qt.eqT (b := 0) (h := rfl)) <| Rl.q Qt.mv <| Rl.e (Ef.qcall (S := must_q _ _ _)) fun _ _ => Rl.nilK <| ?_
  refine T.seq ?_
  refine T.sr <| Rl.q Qt.fa <| Rl.q Qt.ldA <| Rl.q Qt.fa <| Rl.q Qt.ldA <| Rl.q Qt.fa <| Rl.q Qt.ldA <| Rl.q Qt.fa <| ?_
  refine Rl.q Qt.ldA <| Rl.e Ef.bs fun b117 hb117 => Rl.q Qt.len <| Rl.q (Qt.mv (v := N .i64 0)) <| Rl.nilK <| ?_
  refine T.block ?_
  refine T.rounds 4 ?_
  refine T.sr <| Rl.q (Qt.ltT (a := 0) (h := by decide)) <| Rl.nilK <| ?_
  refine T.seq ?_
  refine T.condT ?_
  refine T.skip <| Ex.K <| ?_
  refine T.seq ?_
  refine T.block ?_
  refine T.sr <| Rl.q (Qt.ia (i := 0)) <| Rl.q Qt.ldA <| Rl.e Ef.alA fun b10 hb10 => Rl.e0 Ef.stN fun _ _ => Rl.nilK <| ?_
  refine T.region <| Rl.q Qt.mv <| Rl.q Qt.fa <| Rl.q Qt.ld <| Rl.q (Qt.ltT (b := 1000000000) (h := by decide)) <| Rl.q Qt.mv <| Rl.e (Ef.qcall (S := must_q _ _ _)) fun _ _ => Rl.nil <| Ex.Bnormal <| Ex.K <| ?_
  refine T.region <| Rl.q (Qt.toN (c := 1) (Qt.add (b := 1) (a := 0) (h := by decide)) (rfl)) <| Rl.q Qt.mv <| Rl.nil <| Ex.LR <| ?_
  refine T.sr <| Rl.q (Qt.ltT (a := 1) (h := by decide)) <| Rl.nilK <| ?_
  refine T.seq ?_
  refine T.condT ?_
  refine T.skip <| Ex.K <| ?_
  refine T.seq ?_
  refine T.block ?_
  refine T.sr <| Rl.q (Qt.ia (i := 1)) <| Rl.q Qt.ldA <| Rl.e Ef.alA fun b10 hb10 => Rl.e0 Ef.stN fun _ _ => Rl.nilK <| ?_
  refine T.region <| Rl.q Qt.mv <| Rl.q Qt.fa <| Rl.q Qt.ld <| Rl.q (Qt.ltT (b := 1000000000) (h := by decide)) <| Rl.q Qt.mv <| Rl.e (Ef.qcall (S := must_q _ _ _)) fun _ _ => Rl.nil <| Ex.Bnormal <| Ex.K <| ?_
  refine T.region <| Rl.q (Qt.toN (c := 2) (Qt.add (b := 1) (a := 1) (h := by decide)) (rfl)) <| Rl.q Qt.mv <| Rl.nil <| Ex.LR <| ?_
  refine T.sr <| Rl.q (Qt.ltT (a := 2) (h := by decide)) <| Rl.nilK <| ?_
  refine T.seq ?_
  refine T.condT ?_
  refine T.skip <| Ex.K <| ?_
  refine T.seq ?_
  refine T.block ?_
  refine T.sr <| Rl.q (Qt.ia (i := 2)) <| Rl.q Qt.ldA <| Rl.e Ef.alA fun b10 hb10 => Rl.e0 Ef.stN fun _ _ => Rl.nilK <| ?_
  refine T.region <| Rl.q Qt.mv <| Rl.q Qt.fa <| Rl.q Qt.ld <| Rl.q (Qt.ltT (b := 1000000000) (h := by decide)) <| Rl.q Qt.mv <| Rl.e (Ef.qcall (S := must_q _ _ _)) fun _ _ => Rl.nil <| Ex.Bnormal <| Ex.K <| ?_
  refine T.region <| Rl.q (Qt.toN (c := 3) (Qt.add (b := 1) (a := 2) (h := by decide)) (rfl)) <| Rl.q Qt.mv <| Rl.nil <| Ex.LR <| ?_
  refine T.sr <| Rl.q (Qt.ltT (a := 3) (h := by decide)) <| Rl.nilK <| ?_
  refine T.seq ?_
  refine T.condT ?_
  refine T.skip <| Ex.K <| ?_
  refine T.seq ?_
  refine T.block ?_
  refine T.sr <| Rl.q (Qt.ia (i := 3)) <| Rl.q Qt.ldA <| Rl.e Ef.alA fun b10 hb10 => Rl.e0 Ef.stN fun _ _ => Rl.nilK <| ?_
  refine T.region <| Rl.q Qt.mv <| Rl.q Qt.fa <| Rl.q Qt.ld <| Rl.q (Qt.ltT (b := 1000000000) (h := by decide)) <| Rl.q Qt.mv <| Rl.e (Ef.qcall (S := must_q _ _ _)) fun _ _ => Rl.nil <| Ex.Bnormal <| Ex.K <| ?_
  refine T.region <| Rl.q (Qt.toN (c := 4) (Qt.add (b := 1) (a := 3) (h := by decide)) (rfl)) <| Rl.q Qt.mv <| Rl.nil <| Ex.LR <| ?_
  refine T.sr <| Rl.q (Qt.ltF (a := 4) (h := by decide)) <| Rl.nilK <| ?_
  refine T.seq ?_
  refine T.condF ?_
  refine T.exit <| Ex.Kexit <| Ex.Rexit <| Ex.Bhit <| Ex.K <| ?_
  refine T.sr <| Rl.q Qt.fa <| Rl.q Qt.ld <| Rl.q (Qt.and (b := 268435456) (h := ⟨by simp only [lim]; omega, by decide⟩)) <| Rl.q (Qt.neF (b := 0) (h := hninl)) <| Rl.q Qt.fa <| Rl.e0 Ef.st1 fun _ _ => Rl.nilK <| ?_
  refine T.sr <| Rl.q (Qt.as (v := .slice none 0 0)) <| Rl.nilK <| ?_
  refine T.sr <| Rl.q Qt.mv <| Rl.q Qt.ld <| Rl.q Qt.ld <| Rl.e (Ef.qcall (S := xattrs0_q hmag F.xb ho hBl)) fun _ _ => Rl.q Qt.as <| Rl.nilK <| ?_
  refine T.seq ?_
  refine T.sr <| Rl.q Qt.mv <| Rl.q Qt.len <| Rl.q (Qt.mv (v := N .i64 0)) <| Rl.nilK <| ?_
  refine T.block ?_
  refine T.rounds 0 ?_
  refine T.sr <| Rl.q (Qt.ltF (a := 0) (h := by decide)) <| Rl.nilK <| ?_
  refine T.seq ?_
  refine T.condF ?_
  refine T.exit <| Ex.Kexit <| Ex.Rexit <| Ex.Bhit <| Ex.K <| ?_
  refine T.sr <| Rl.q Qt.mv <| Rl.q Qt.ld <| Rl.q Qt.mv <| Rl.e (Ef.call (S := content_ext_s (x := inoX k mode size links sect flags (.slice none 0 0) false 0) (f := f) X hB hcap hcap2 (by omega) (by omega) (by omega) hnb hst hl hl2 hs1 hs2 (by show 0 < 1000000; decide) hf hk3 hmode rfl hext hfl)) fun bC hbC => Rl.nilK <| ?_
  refine T.seq ?_
  refine T.sr <| Rl.q Qt.fa <| Rl.q Qt.ld <| Rl.q (Qt.and (b := 262144) (h := ⟨by simp only [lim]; omega, by decide⟩)) <| Rl.q (Qt.neT (b := 0) (h := hhuge)) <| Rl.nilK <| ?_
  refine T.condT ?_
  refine T.region <| Rl.q Qt.mv <| Rl.q Qt.fa <| Rl.q Qt.ld <| Rl.q Qt.fa <| Rl.q (Qt.toN (c := len) Qt.ld (Nat.zero_add _)) <| Rl.q (Qt.eqT (h := hsl)) <| Rl.q Qt.mv <| ?_
  refine Rl.e (Ef.qcall (S := must_q _ _ _)) fun _ _ => Rl.nil <| Ex.K <| ?_
  refine T.sr <| Rl.q Qt.ldA <| Rl.e0 Ef.stN fun _ _ => Rl.nilK <| ?_
  refine T.ret <| Ex.retC (.inl rfl) rfl ?_ rfl
  exact fun w h => ⟨bC, trivial, by simp only [Nat.zero_add]; try rfl, h.re⟩
end SL
end Go.Proofs.YtlmiekcmjpnobaaGreatDoor
namespace Go.Proofs.YtlmiekcmjpnobaaGreatDoor
open Go
namespace SL
set_option maxRecDepth 20000

variable {bV bX bI bO cap nb gr pi cc oi start len eI eO place : Nat} {ino own img : Value} {x : XI} {B : List UInt8} {RI : List Value} [RowC RI B] {f : Nat → Bool} {frI : Nat × Nat} {rest : Value}
set_option maxHeartbeats 4000000 in
theorem content_inl0_s (hB : B.length = nb * 4096) (hcap : nb * 4096 ≤ cap) (hcap2 : cap < 9223372036854775808) (hob : oi + 256 ≤ nb * 4096) (hcc : 256 ≤ cc) (hcc2 : cc < 9223372036854775808) (hnb : nb < 1000000)
    (hsz : x.size ≤ 60) (hs3 : x.size ≤ nb * 4096) (hk : kindN x.mode = 1 ∨ kindN x.mode = 2) (hmode : x.mode < 65536) (hinl : x.inl = true) :
    Spec Tryz.prog 156 [.pointer (some ⟨bV, 0, none⟩), .pointer (some ⟨bX, 0, none⟩), Sl bI oi 256 cc, .slice none 0 0]
      [[(bV, VO ino nb (Sl bI 0 (nb * 4096) cap) 1 pi own)], [(bI, CI RI eI frI)]] [[(bX, XO x)]]
      (fun r : Nat × Nat × List Value => RowB r.2.2 0 ((cut B (oi + 40) 60).take x.size) ∧ x.size ≤ r.2.1 ∧ r.2.1 ≤ 9223372036854775807) (fun _ => .tuple #[]) (fun r => [[(bX, XO { x with content := Sl r.1 0 x.size r.2.1 })], [(r.1, .cells r.2.2.toArray 5 (0, 0))]]) := by
  refine Spec.of Tryz.func156 rfl Tryz.ntmps156 (by simp) fun w => ?_
  have hcl : (cut B (oi + 40) 60).length = 60 := cut_length (by omega)
  refine T.sr <| Rl.q Qt.mv <| Rl.q (Qt.to (u := Sl bI (oi + 40) 60 (cc - 40)) (Qt.sl1 (cl := 40) (ch := 100)) (rfl)) <| Rl.q Qt.as <| Rl.nilK <| ?_
  refine T.seq ?_
  refine T.sr <| Rl.q Qt.mv <| Rl.q Qt.nc <| Rl.q Qt.fa <| Rl.q Qt.ld <| Rl.e (Ef.qcall (S := kindOf_q hmode)) fun _ _ => Rl.nilK <| ?_
  refine T.block ?_
  refine T.seq ?_
  refine T.sr <| Rl.q (Qt.eqF (b := 3)) <| Rl.q Qt.as <| Rl.nilK <| ?_
  refine T.condF ?_
  refine T.region <| Rl.q (Qt.eqF (b := 4)) <| Rl.q Qt.as <| Rl.nil <| Ex.K <| ?_
  refine T.condF ?_
  refine T.seq ?_
  refine T.sr <| Rl.q (Qt.eqF (b := 5)) <| Rl.q Qt.as <| Rl.nilK <| ?_
  refine T.condF ?_
  refine T.region <| Rl.q (Qt.eqF (b := 6)) <| Rl.q Qt.as <| Rl.nil <| Ex.K <| ?_
  refine T.condF ?_
  refine T.skip <| Ex.Bnormal <| Ex.K <| ?_
  refine T.sdr [] ?_ mixed
  refine Dr.qs [0, 1, 2, 3, 4, 5, 6, 7, 8, 9, 10, 11, 12, 13, 14, 15, 16] [] ?_
  refine Dq.q Qt.mv <| Dq.q Qt.mv <| Dq.q Qt.nc <| Dq.q Qt.fa <| Dq.q Qt.ld <| Dq.q Qt.mv <| Dq.q Qt.nc <| Dq.q Qt.fa <| ?_
  refine Dq.q Qt.ld <| Dq.q Qt.len <| Dq.q Qt.cv <| Dq.q Qt.leT <| Dq.q Qt.mv <| Dq.q Qt.nc <| Dq.q Qt.fa0 <| Dq.q Qt.ld <| ?_
  refine Dq.c rfl (must_q _ _ _) <| Dq.nil <| Dr.nilK <| ?_
  refine T.seq ?_
  refine T.sdr [] ?_ mixed
  refine Dr.qs [0, 1, 2, 3, 4, 5, 6, 7, 8, 9, 10] [] ?_
  refine Dq.q Qt.mv <| Dq.q Qt.nc <| Dq.q Qt.fa <| Dq.q Qt.ld <| Dq.q Qt.mv <| Dq.q Qt.nc <| Dq.q Qt.fa <| Dq.q Qt.ld <| ?_
  refine Dq.q Qt.len <| Dq.q Qt.cv <| Dq.q Qt.gtF <| Dq.nil <| Dr.nilK <| ?_
  refine T.condF ?_
  refine T.skip <| Ex.K <| ?_
  refine T.block ?_
  refine T.sr <| Rl.q Qt.mv <| Rl.q Qt.nc <| Rl.q Qt.fa <| Rl.q (Qt.to (u := .bool true) Qt.ld (by simp [hinl])) <| Rl.q Qt.as <| Rl.nilK <| ?_
  refine T.condT ?_
  refine T.sr <| Rl.q Qt.mv <| Rl.e Ef.bs0 fun b144 hb144 => Rl.q Qt.mv <| Rl.e (Ef.ap (own := Own.mk (e := 5) (sz := 1) (xs := []) (sp := []) (cap := 0) rfl (Nat.le_refl _) (by decide) rfl) (z := N .u8 0) (j := 60) (vs := bc (cut B (oi + 40) 60)) (hs := by rw [Nat.mul_one]; exact RowC.cells (l := B) (by omega)) (hl := ⟨rfl, bc_ones _, by decide, by decide⟩)) fun v146 hv146 => Rl.q Qt.mv <| Rl.e (Ef.apN (own := hv146) (z := N .u8 0) (hl := ⟨rfl, by simp only [maxLen]; omega, by omega⟩)) fun v148 hv148 => Rl.q Qt.nc <| ?_
  refine Rl.q Qt.fa <| Rl.e0 Ef.st1 fun _ _ => Rl.nilK <| ?_
  obtain ⟨b, c, sp, hv, hc1, hc2, hE, hspl⟩ := hv148.some (by omega)
  rw [hv, hE]
  simp only [maxLen] at hc2
  refine T.sdr [] ?_ mixed
  refine Dr.qs [0, 1, 2, 3, 4, 5, 6, 7, 8, 9, 10, 11, 12, 13, 14, 15, 16] [] ?_
  refine Dq.q Qt.mv <| Dq.q Qt.mv <| Dq.q Qt.nc <| Dq.q Qt.fa <| Dq.q Qt.ld <| Dq.q Qt.mv <| Dq.q Qt.nc <| Dq.q Qt.fa <| ?_
  refine Dq.q Qt.ld <| Dq.q Qt.len <| Dq.q Qt.cv <| Dq.q (Qt.leT (h := hsz)) <| Dq.q Qt.mv <| Dq.q Qt.nc <| Dq.q Qt.fa0 <| Dq.q Qt.ld <| ?_
  refine Dq.c rfl (must_q _ _ _) <| Dq.nil <| Dr.nilK <| ?_
  refine T.dr [19] ?_ mixed
  refine Dr.qs [0, 1, 2, 3, 4, 5, 6, 7, 8, 9, 10, 11, 12, 13, 14, 15, 16, 17, 18] [] ?_
  refine Dq.q Qt.mv <| Dq.q Qt.mv <| Dq.q Qt.nc <| Dq.q Qt.fa <| Dq.q Qt.ld <| Dq.q Qt.mv <| Dq.q Qt.nc <| Dq.q Qt.fa <| ?_
  refine Dq.q Qt.ld <| Dq.q Qt.mv <| Dq.q Qt.nc <| Dq.q Qt.fa <| Dq.q Qt.ld <| Dq.q Qt.len <| Dq.q Qt.cv <| Dq.q (Qt.toN (c := x.size) Qt.min2 (Nat.min_eq_left hsz)) <| ?_
  refine Dq.q (Qt.to (u := Sl b 0 x.size c) Qt.sl1 (by simp [cutAt])) <| Dq.q Qt.nc <| Dq.q Qt.fa <| Dq.nil <| ?_
  refine Dr.e 19 <| Eo.e0 rfl Ef.st1 fun _ _ => Dr.nil <| Ex.Bnormal <| Ex.ret0 (.inr rfl) ?_ rfl
  have hrow : RowB (([] ++ bc (cut B (oi + 40) 60)) ++ sp) 0 ((cut B (oi + 40) 60).take x.size) := by
    have h1 := RowB.all (cut B (oi + 40) 60)
    unfold RowB at *
    rw [List.length_take, Nat.min_eq_left (by rw [hcl]; exact hsz)]
    rw [List.nil_append]
    rw [seg_eq (by simp [bc_length, hcl]; omega), List.drop_zero, List.take_append_of_le_length (by rw [bc_length, hcl]; exact hsz), bc_take]
  exact fun w h => ⟨(b, c, _), ⟨hrow, by show x.size ≤ c; omega, hc2⟩, rfl, h.re⟩

set_option synthInstance.maxSize 100000 in
set_option synthInstance.maxHeartbeats 4000000 in
set_option maxHeartbeats 8000000 in
theorem inode_none_q {k it nb pi mode size links sect flags : Nat} (hoi : oi = it * 4096 + (k - 1) * 256) (F : InoF B oi mode size links sect flags) (hB : B.length = nb * 4096) (hcap : nb * 4096 ≤ cap) (hcap2 : cap < 9223372036854775808) (hnb : nb < 1000000) (hnb2 : 1 < nb)
    (hk : 1 ≤ k ∧ k ≤ pi) (hpi : pi < 4294967296) (hit : leN B 4104 4 = it) (hat : it * 4096 + pi * 256 < nb * 4096) (hmode : mode < 65536) (hsize : size < 4294967296) (hlinks : links < 65536) (hsect : sect < 4294967296) (hfl : flags < 4294967296) (hhuge : flags &&& 262144 ≠ 0) (hsl : sect = 0)
    (hs0 : size = 0) (hk1 : kindN mode = 1) (hext : flags &&& 524288 = 0) (hninl : flags &&& 268435456 = 0) (hmag : leN B (oi + 152) 4 ≠ 3925999616) :
    QSpec Tryz.prog 115 [.pointer (some ⟨bV, 0, none⟩), N .u64 k] [[(bV, VO ino nb (Sl bI 0 (nb * 4096) cap) 1 pi own)], [(bI, CI RI eI frI)]] (.agg (inoX k mode size links sect flags (.slice none 0 0) false 0).cells.toArray) := by
  refine QSpec.of Tryz.func115 rfl Tryz.ntmps115 (by simp) fun w => ?_
  have ho : oi + 256 ≤ B.length := by have := Nat.mul_le_mul_right 256 hk.2; have := hk.1; rw [hoi, hB]; omega
  have hBl : B.length < 4611686018427387904 := by omega
  have hcap0 : oi + 256 < cap := by have := Nat.mul_le_mul_right 256 hk.2; have := hk.1; rw [hoi]; omega
  have hcap : nb * 4096 ≤ cap := by omega
  have hraw := raw_q (bV := bV) (bI := bI) (cap := cap) (nb := nb) (pi := pi) (ino := ino) (own := own) (B := B) (eI := eI) (frI := frI) hB (by omega) hcap hcap2 hk hpi hit (Nat.le_of_lt hat)
  rw [← hoi] at hraw
  have hkind : kindN mode ≠ 0 := by omega
  refine T.sr <| Rl.e Ef.alA fun b4 hb4 => Rl.nilK <| ?_
  refine T.sr <| Rl.q Qt.mv <| Rl.q Qt.mv <| Rl.e (Ef.qcall (S := hraw)) fun _ _ => Rl.e Ef.al1 fun b5 hb5 => Rl.e0 Ef.st1 fun _ _ => Rl.nilK <| ?_
  refine T.sr <| Rl.e Ef.al1 fun b6 hb6 => Rl.e0 (Ef.st1 (v := N .u64 0)) fun _ _ => Rl.nilK <| ?_
  refine T.seq ?_
  refine T.sr <| Rl.q Qt.mv <| Rl.q Qt.nc <| Rl.q Qt.fa <| Rl.q Qt.ld <| Rl.q (Qt.gtT (b := 128) (h := by decide) (a := 256)) <| Rl.nilK <| ?_
  refine T.condT ?_
  refine T.sr <| Rl.q Qt.ld <| Rl.e (Ef.qcall (S := leBx_q (p := 128) (n := 2) ho (by decide) (by decide) hBl F.extra)) fun _ _ => Rl.e0 Ef.st1 fun _ _ => Rl.nilK <| ?_
  refine T.dr [] ?_ mixed
  refine Dr.qs [0, 1, 2, 3, 4, 5, 6, 7, 8, 9, 10, 11, 12, 13, 14] [] ?_
  refine Dq.q Qt.mv <| Dq.q Qt.ld <| Dq.q (Qt.toN (c := 152) (Qt.add (a := 128) (b := 24) (h := by decide)) (rfl)) <| Dq.q Qt.mv <| Dq.q Qt.nc <| Dq.q Qt.fa <| Dq.q Qt.ld <| Dq.q (Qt.leT (h := by decide) (a := 152) (b := 256)) <| ?_
  refine Dq.q Qt.mv <| Dq.gt <| Dq.q Qt.ld <| Dq.gt <| Dq.q (Qt.toN (c := 0) (Qt.rem (b := 4) (a := 24)) (rfl)) <| Dq.gt <| Dq.q (Qt.eqT (a := 0) (b := 0) (h := rfl)) <| Dq.q Qt.pkT <| ?_
  refine Dq.q Qt.mv <| Dq.c rfl (must_q _ _ _) <| Dq.nil <| Dr.nil <| Ex.K <| ?_
  refine T.sr <| Rl.q Qt.mf <| Rl.q Qt.as <| Rl.nilK <| ?_
  refine T.sdr [56] ?_ mixed
  refine Dr.qsM [0, 1, 2, 3, 4, 5, 6, 7, 8, 9, 10, 11, 12, 13, 14, 15, 16, 17, 18, 19, 20, 21, 22, 23, 24, 25, 26, 27, 28, 29, 30, 31, 32, 33, 34, 35, 36, 37, 38, 39, 40, 41, 42, 43, 44, 45, 46, 47, 48, 49, 50, 51, 52, 53, 54] [] ?_
  refine Dq.q Qt.mv <| Dq.q Qt.ld <| Dq.c rfl (leBx_q (p := 0) (n := 2) ho (by decide) (by decide) hBl F.mode) <| Dq.q (Qt.cv (h := hmode)) <| Dq.q Qt.ld <| Dq.c rfl (leBx_q (p := 2) (n := 2) ho (by decide) (by decide) hBl F.uid) <| Dq.q Qt.ld <| Dq.c rfl (leBx_q (p := 120) (n := 2) ho (by decide) (by decide) hBl F.uidH) <| ?_
  refine Dq.q (Qt.toN (c := 0) (Qt.shl (b := 16) (a := 0) (h := ⟨by decide, by decide⟩)) (rfl)) <| Dq.q (Qt.toN (c := 0) (Qt.or (a := 0) (b := 0) (h := ⟨by decide, by decide⟩)) (rfl)) <| Dq.q (Qt.cv (a := 0) (h := by decide)) <| Dq.q Qt.ld <| Dq.c rfl (leBx_q (p := 24) (n := 2) ho (by decide) (by decide) hBl F.gid) <| Dq.q Qt.ld <| Dq.c rfl (leBx_q (p := 122) (n := 2) ho (by decide) (by decide) hBl F.gidH) <| Dq.q (Qt.toN (c := 0) (Qt.shl (b := 16) (a := 0) (h := ⟨by decide, by decide⟩)) (rfl)) <| ?_
  refine Dq.q (Qt.toN (c := 0) (Qt.or (a := 0) (b := 0) (h := ⟨by decide, by decide⟩)) (rfl)) <| Dq.q (Qt.cv (a := 0) (h := by decide)) <| Dq.q Qt.ld <| Dq.c rfl (leBx_q (p := 4) (n := 4) ho (by decide) (by decide) hBl F.size) <| Dq.q Qt.ld <| Dq.c rfl (leBx_q (p := 108) (n := 4) ho (by decide) (by decide) hBl F.sizeH) <| Dq.q (Qt.toN (c := 0) (Qt.shl (b := 32) (a := 0) (h := ⟨by decide, by decide⟩)) (rfl)) <| Dq.q (Qt.toN (c := size) (Qt.or (b := 0) (h := ⟨by simp only [lim]; omega, by decide⟩)) (Nat.or_zero _)) <| ?_
  refine Dq.q Qt.ld <| Dq.c rfl (leBx_q (p := 26) (n := 2) ho (by decide) (by decide) hBl F.links) <| Dq.q Qt.ld <| Dq.c rfl (leBx_q (p := 28) (n := 4) ho (by decide) (by decide) hBl F.sect) <| Dq.q Qt.ld <| Dq.c rfl (leBx_q (p := 116) (n := 2) ho (by decide) (by decide) hBl F.sectH) <| Dq.q (Qt.toN (c := 0) (Qt.shl (b := 32) (a := 0) (h := ⟨by decide, by decide⟩)) (rfl)) <| Dq.q (Qt.toN (c := sect) (Qt.or (b := 0) (h := ⟨by simp only [lim]; omega, by decide⟩)) (Nat.or_zero _)) <| ?_
  refine Dq.q Qt.ld <| Dq.c rfl (leBx_q (p := 32) (n := 4) ho (by decide) (by decide) hBl F.flags) <| Dq.q Qt.ld <| Dq.c rfl (leBx_q (p := 8) (n := 4) ho (by decide) (by decide) hBl F.atime) <| Dq.q Qt.mv <| Dq.cc rfl rfl (field_q (p := 140) (by decide) ho hBl F.ax) <| Dq.c rfl (moment0_q) <| Dq.q Qt.ld <| ?_
  refine Dq.c rfl (leBx_q (p := 12) (n := 4) ho (by decide) (by decide) hBl F.ctime) <| Dq.q Qt.mv <| Dq.cc rfl rfl (field_q (p := 132) (by decide) ho hBl F.cx) <| Dq.c rfl (moment0_q) <| Dq.q Qt.ld <| Dq.c rfl (leBx_q (p := 16) (n := 4) ho (by decide) (by decide) hBl F.mtime) <| Dq.q Qt.mv <| Dq.cc rfl rfl (field_q (p := 136) (by decide) ho hBl F.mx) <| ?_
  refine Dq.c rfl (moment0_q) <| Dq.q Qt.mv <| Dq.cc rfl rfl (field_q (p := 144) (by decide) ho hBl F.cr) <| Dq.q Qt.mv <| Dq.cc rfl rfl (field_q (p := 148) (by decide) ho hBl F.crx) <| Dq.c rfl (moment0_q) <| Dq.q Qt.bdN <| Dq.nil <| ?_
  refine Dr.e 55 <| Eo.e rfl Ef.alA fun b8 hb8 => ?_
  refine Dr.e 56 <| Eo.e0 rfl Ef.stN fun _ _ => Dr.nilK <| ?_
  refine T.sr <| Rl.q Qt.mv <| Rl.q Qt.fa <| Rl.q Qt.ld <| Rl.e (Ef.qcall (S := kindOf_q hmode)) fun _ _ => Rl.q (Qt.neT (b := 0) (h := hkind)) <| Rl.q Qt.mv <| Rl.e (Ef.qcall (S := must_q _ _ _)) fun _ _ => ?_
  refine Rl.nilK <| ?_
  refine T.sr <| Rl.q Qt.mv <| Rl.q Qt.ld <| Rl.e (Ef.qcall (S := leBx_q (p := 20) (n := 4) ho (by decide) (by decide) hBl F.dtime)) fun _ _ => Rl.q (Qt.eqT (b := 0) (h := rfl)) <| Rl.q Qt.mv <| Rl.e (Ef.qcall (S := must_q _ _ _)) fun _ _ => Rl.nilK <| ?_
  refine T.seq ?_
  refine T.sr <| Rl.q Qt.fa <| Rl.q Qt.ldA <| Rl.q Qt.fa <| Rl.q Qt.ldA <| Rl.q Qt.fa <| Rl.q Qt.ldA <| Rl.q Qt.fa <| ?_
  refine Rl.q Qt.ldA <| Rl.e Ef.bs fun b117 hb117 => Rl.q Qt.len <| Rl.q (Qt.mv (v := N .i64 0)) <| Rl.nilK <| ?_
  refine T.block ?_
  refine T.rounds 4 ?_
  refine T.sr <| Rl.q (Qt.ltT (a := 0) (h := by decide)) <| Rl.nilK <| ?_
  refine T.seq ?_
  refine T.condT ?_
  refine T.skip <| Ex.K <| ?_
  refine T.seq ?_
  refine T.block ?_
  refine T.sr <| Rl.q (Qt.ia (i := 0)) <| Rl.q Qt.ldA <| Rl.e Ef.alA fun b10 hb10 => Rl.e0 Ef.stN fun _ _ => Rl.nilK <| ?_
  refine T.region <| Rl.q Qt.mv <| Rl.q Qt.fa <| Rl.q Qt.ld <| Rl.q (Qt.ltT (b := 1000000000) (h := by decide)) <| Rl.q Qt.mv <| Rl.e (Ef.qcall (S := must_q _ _ _)) fun _ _ => Rl.nil <| Ex.Bnormal <| Ex.K <| ?_
  refine T.region <| Rl.q (Qt.toN (c := 1) (Qt.add (b := 1) (a := 0) (h := by decide)) (rfl)) <| Rl.q Qt.mv <| Rl.nil <| Ex.LR <| ?_
  refine T.sr <| Rl.q (Qt.ltT (a := 1) (h := by decide)) <| Rl.nilK <| ?_
  refine T.seq ?_
  refine T.condT ?_
  refine T.skip <| Ex.K <| ?_
  refine T.seq ?_
  refine T.block ?_
  refine T.sr <| Rl.q (Qt.ia (i := 1)) <| Rl.q Qt.ldA <| Rl.e Ef.alA fun b10 hb10 => Rl.e0 Ef.stN fun _ _ => Rl.nilK <| ?_
  refine T.region <| Rl.q Qt.mv <| Rl.q Qt.fa <| Rl.q Qt.ld <| Rl.q (Qt.ltT (b := 1000000000) (h := by decide)) <| Rl.q Qt.mv <| Rl.e (Ef.qcall (S := must_q _ _ _)) fun _ _ => Rl.nil <| Ex.Bnormal <| Ex.K <| ?_
  refine T.region <| Rl.q (Qt.toN (c := 2) (Qt.add (b := 1) (a := 1) (h := by decide)) (rfl)) <| Rl.q Qt.mv <| Rl.nil <| Ex.LR <| ?_
  refine T.sr <| Rl.q (Qt.ltT (a := 2) (h := by decide)) <| Rl.nilK <| ?_
  refine T.seq ?_
  refine T.condT ?_
  refine T.skip <| Ex.K <| ?_
  refine T.seq ?_
  refine T.block ?_
  refine T.sr <| Rl.q (Qt.ia (i := 2)) <| Rl.q Qt.ldA <| Rl.e Ef.alA fun b10 hb10 => Rl.e0 Ef.stN fun _ _ => Rl.nilK <| ?_
  refine T.region <| Rl.q Qt.mv <| Rl.q Qt.fa <| Rl.q Qt.ld <| Rl.q (Qt.ltT (b := 1000000000) (h := by decide)) <| Rl.q Qt.mv <| Rl.e (Ef.qcall (S := must_q _ _ _)) fun _ _ => Rl.nil <| Ex.Bnormal <| Ex.K <| ?_
  refine T.region <| Rl.q (Qt.toN (c := 3) (Qt.add (b := 1) (a := 2) (h := by decide)) (rfl)) <| Rl.q Qt.mv <| Rl.nil <| Ex.LR <| ?_
  refine T.sr <| Rl.q (Qt.ltT (a := 3) (h := by decide)) <| Rl.nilK <| ?_
  refine T.seq ?_
  refine T.condT ?_
  refine T.skip <| Ex.K <| ?_
  refine T.seq ?_
  refine T.block ?_
  refine T.sr <| Rl.q (Qt.ia (i := 3)) <| Rl.q Qt.ldA <| Rl.e Ef.alA fun b10 hb10 => Rl.e0 Ef.stN fun _ _ => Rl.nilK <| ?_
  refine T.region <| Rl.q Qt.mv <| Rl.q Qt.fa <| Rl.q Qt.ld <| Rl.q (Qt.ltT (b := 1000000000) (h := by decide)) <| Rl.q Qt.mv <| Rl.e (Ef.qcall (S := must_q _ _ _)) fun _ _ => Rl.nil <| Ex.Bnormal <| Ex.K <| ?_
  refine T.region <| Rl.q (Qt.toN (c := 4) (Qt.add (b := 1) (a := 3) (h := by decide)) (rfl)) <| Rl.q Qt.mv <| Rl.nil <| Ex.LR <| ?_
  refine T.sr <| Rl.q (Qt.ltF (a := 4) (h := by decide)) <| Rl.nilK <| ?_
  refine T.seq ?_
  refine T.condF ?_
  refine T.exit <| Ex.Kexit <| Ex.Rexit <| Ex.Bhit <| Ex.K <| ?_
  refine T.sr <| Rl.q Qt.fa <| Rl.q Qt.ld <| Rl.q (Qt.and (b := 268435456) (h := ⟨by simp only [lim]; omega, by decide⟩)) <| Rl.q (Qt.neF (b := 0) (h := hninl)) <| Rl.q Qt.fa <| Rl.e0 Ef.st1 fun _ _ => Rl.nilK <| ?_
  refine T.sr <| Rl.q (Qt.as (v := .slice none 0 0)) <| Rl.nilK <| ?_
  refine T.sr <| Rl.q Qt.mv <| Rl.q Qt.ld <| Rl.q Qt.ld <| Rl.e (Ef.qcall (S := xattrs0_q hmag F.xb ho hBl)) fun _ _ => Rl.q Qt.as <| Rl.nilK <| ?_
  refine T.seq ?_
  refine T.sr <| Rl.q Qt.mv <| Rl.q Qt.len <| Rl.q (Qt.mv (v := N .i64 0)) <| Rl.nilK <| ?_
  refine T.block ?_
  refine T.rounds 0 ?_
  refine T.sr <| Rl.q (Qt.ltF (a := 0) (h := by decide)) <| Rl.nilK <| ?_
  refine T.seq ?_
  refine T.condF ?_
  refine T.exit <| Ex.Kexit <| Ex.Rexit <| Ex.Bhit <| Ex.K <| ?_
  refine T.sr <| Rl.q Qt.mv <| Rl.q Qt.ld <| Rl.q Qt.mv <| Rl.e (Ef.qcall (S := content_none_s (x := inoX k mode size links sect flags (.slice none 0 0) false 0) hB hcap hcap2 (by omega) (by omega) (by omega) hnb hs0 hk1 hmode rfl hext hfl)) fun _ _ => Rl.nilK <| ?_
  refine T.seq ?_
  refine T.sr <| Rl.q Qt.fa <| Rl.q Qt.ld <| Rl.q (Qt.and (b := 262144) (h := ⟨by simp only [lim]; omega, by decide⟩)) <| Rl.q (Qt.neT (b := 0) (h := hhuge)) <| Rl.nilK <| ?_
  refine T.condT ?_
  refine T.region <| Rl.q Qt.mv <| Rl.q Qt.fa <| Rl.q Qt.ld <| Rl.q Qt.fa <| Rl.q Qt.ld <| Rl.q (Qt.eqT (h := hsl)) <| Rl.q Qt.mv <| ?_
  refine Rl.e (Ef.qcall (S := must_q _ _ _)) fun _ _ => Rl.nil <| Ex.K <| ?_
  refine T.sr <| Rl.q Qt.ldA <| Rl.e0 Ef.stN fun _ _ => Rl.nilK <| ?_
  refine T.ret <| Ex.retC (.inl rfl) rfl ?_ rfl
  exact fun w h => ⟨rfl, h.grown⟩

set_option synthInstance.maxSize 100000 in
set_option synthInstance.maxHeartbeats 4000000 in
set_option maxHeartbeats 8000000 in
theorem inode_inl_s {k it nb pi mode size links sect flags : Nat} (hoi : oi = it * 4096 + (k - 1) * 256) (F : InoF B oi mode size links sect flags) (hB : B.length = nb * 4096) (hcap : nb * 4096 ≤ cap) (hcap2 : cap < 9223372036854775808) (hnb : nb < 1000000) (hnb2 : 1 < nb)
    (hk : 1 ≤ k ∧ k ≤ pi) (hpi : pi < 4294967296) (hit : leN B 4104 4 = it) (hat : it * 4096 + pi * 256 < nb * 4096) (hmode : mode < 65536) (hsize : size < 4294967296) (hlinks : links < 65536) (hsect : sect < 4294967296) (hfl : flags < 4294967296) (hhuge : flags &&& 262144 ≠ 0) (hsl : sect = 0)
    {val : List UInt8} {place : Nat} (A : At1 B (oi + 156) place val) (hsz : size ≤ 60 + val.length) (hnbs : 136 ≤ nb * 4096) (hk3 : kindN mode = 1 ∨ kindN mode = 2) (hinl : flags &&& 268435456 ≠ 0) (hmag : leN B (oi + 152) 4 = 3925999616) :
    Spec Tryz.prog 115 [.pointer (some ⟨bV, 0, none⟩), N .u64 k] [[(bV, VO ino nb (Sl bI 0 (nb * 4096) cap) 1 pi own)], [(bI, CI RI eI frI)]] []
      (fun r : Nat × Nat × List Value => RowB r.2.2 0 ((cut B (oi + 40) 60 ++ val).take size) ∧ size ≤ r.2.1 ∧ r.2.1 ≤ 9223372036854775807) (fun r => .agg (inoX k mode size links sect flags (Sl r.1 0 size r.2.1) true 0).cells.toArray) (fun r => [[(r.1, .cells r.2.2.toArray 5 (0, 0))]]) := by
  refine Spec.of Tryz.func115 rfl Tryz.ntmps115 (by simp) fun w => ?_
  have ho : oi + 256 ≤ B.length := by have := Nat.mul_le_mul_right 256 hk.2; have := hk.1; rw [hoi, hB]; omega
  have hBl : B.length < 4611686018427387904 := by omega
  have hcap0 : oi + 256 < cap := by have := Nat.mul_le_mul_right 256 hk.2; have := hk.1; rw [hoi]; omega
  have hcap : nb * 4096 ≤ cap := by omega
  have hraw := raw_q (bV := bV) (bI := bI) (cap := cap) (nb := nb) (pi := pi) (ino := ino) (own := own) (B := B) (eI := eI) (frI := frI) hB (by omega) hcap hcap2 hk hpi hit (Nat.le_of_lt hat)
  rw [← hoi] at hraw
  have hkind : kindN mode ≠ 0 := by omega
  have hpl := A.fit
  have hlow := A.low
  refine T.sr <| Rl.e Ef.alA fun b4 hb4 => Rl.nilK <| ?_
  refine T.sr <| Rl.q Qt.mv <| Rl.q Qt.mv <| Rl.e (Ef.qcall (S := hraw)) fun _ _ => Rl.e Ef.al1 fun b5 hb5 => Rl.e0 Ef.st1 fun _ _ => Rl.nilK <| ?_
  refine T.sr <| Rl.e Ef.al1 fun b6 hb6 => Rl.e0 (Ef.st1 (v := N .u64 0)) fun _ _ => Rl.nilK <| ?_
  refine T.seq ?_
  refine T.sr <| Rl.q Qt.mv <| Rl.q Qt.nc <| Rl.q Qt.fa <| Rl.q Qt.ld <| Rl.q (Qt.gtT (b := 128) (h := by decide) (a := 256)) <| Rl.nilK <| ?_
  refine T.condT ?_
  refine T.sr <| Rl.q Qt.ld <| Rl.e (Ef.qcall (S := leBx_q (p := 128) (n := 2) ho (by decide) (by decide) hBl F.extra)) fun _ _ => Rl.e0 Ef.st1 fun _ _ => Rl.nilK <| ?_
  refine T.dr [] ?_ mixed
  refine Dr.qs [0, 1, 2, 3, 4, 5, 6, 7, 8, 9, 10, 11, 12, 13, 14] [] ?_
  refine Dq.q Qt.mv <| Dq.q Qt.ld <| Dq.q (Qt.toN (c := 152) (Qt.add (a := 128) (b := 24) (h := by decide)) (rfl)) <| Dq.q Qt.mv <| Dq.q Qt.nc <| Dq.q Qt.fa <| Dq.q Qt.ld <| Dq.q (Qt.leT (h := by decide) (a := 152) (b := 256)) <| ?_
  refine Dq.q Qt.mv <| Dq.gt <| Dq.q Qt.ld <| Dq.gt <| Dq.q (Qt.toN (c := 0) (Qt.rem (b := 4) (a := 24)) (rfl)) <| Dq.gt <| Dq.q (Qt.eqT (a := 0) (b := 0) (h := rfl)) <| Dq.q Qt.pkT <| ?_
  refine Dq.q Qt.mv <| Dq.c rfl (must_q _ _ _) <| Dq.nil <| Dr.nil <| Ex.K <| ?_
  refine T.sr <| Rl.q Qt.mf <| Rl.q Qt.as <| Rl.nilK <| ?_
  refine T.sdr [56] ?_ mixed
  refine Dr.qsM [0, 1, 2, 3, 4, 5, 6, 7, 8, 9, 10, 11, 12, 13, 14, 15, 16, 17, 18, 19, 20, 21, 22, 23, 24, 25, 26, 27, 28, 29, 30, 31, 32, 33, 34, 35, 36, 37, 38, 39, 40, 41, 42, 43, 44, 45, 46, 47, 48, 49, 50, 51, 52, 53, 54] [] ?_
  refine Dq.q Qt.mv <| Dq.q Qt.ld <| Dq.c rfl (leBx_q (p := 0) (n := 2) ho (by decide) (by decide) hBl F.mode) <| Dq.q (Qt.cv (h := hmode)) <| Dq.q Qt.ld <| Dq.c rfl (leBx_q (p := 2) (n := 2) ho (by decide) (by decide) hBl F.uid) <| Dq.q Qt.ld <| Dq.c rfl (leBx_q (p := 120) (n := 2) ho (by decide) (by decide) hBl F.uidH) <| ?_
  refine Dq.q (Qt.toN (c := 0) (Qt.shl (b := 16) (a := 0) (h := ⟨by decide, by decide⟩)) (rfl)) <| Dq.q (Qt.toN (c := 0) (Qt.or (a := 0) (b := 0) (h := ⟨by decide, by decide⟩)) (rfl)) <| Dq.q (Qt.cv (a := 0) (h := by decide)) <| Dq.q Qt.ld <| Dq.c rfl (leBx_q (p := 24) (n := 2) ho (by decide) (by decide) hBl F.gid) <| Dq.q Qt.ld <| Dq.c rfl (leBx_q (p := 122) (n := 2) ho (by decide) (by decide) hBl F.gidH) <| Dq.q (Qt.toN (c := 0) (Qt.shl (b := 16) (a := 0) (h := ⟨by decide, by decide⟩)) (rfl)) <| ?_
  refine Dq.q (Qt.toN (c := 0) (Qt.or (a := 0) (b := 0) (h := ⟨by decide, by decide⟩)) (rfl)) <| Dq.q (Qt.cv (a := 0) (h := by decide)) <| Dq.q Qt.ld <| Dq.c rfl (leBx_q (p := 4) (n := 4) ho (by decide) (by decide) hBl F.size) <| Dq.q Qt.ld <| Dq.c rfl (leBx_q (p := 108) (n := 4) ho (by decide) (by decide) hBl F.sizeH) <| Dq.q (Qt.toN (c := 0) (Qt.shl (b := 32) (a := 0) (h := ⟨by decide, by decide⟩)) (rfl)) <| Dq.q (Qt.toN (c := size) (Qt.or (b := 0) (h := ⟨by simp only [lim]; omega, by decide⟩)) (Nat.or_zero _)) <| ?_
  refine Dq.q Qt.ld <| Dq.c rfl (leBx_q (p := 26) (n := 2) ho (by decide) (by decide) hBl F.links) <| Dq.q Qt.ld <| Dq.c rfl (leBx_q (p := 28) (n := 4) ho (by decide) (by decide) hBl F.sect) <| Dq.q Qt.ld <| Dq.c rfl (leBx_q (p := 116) (n := 2) ho (by decide) (by decide) hBl F.sectH) <| Dq.q (Qt.toN (c := 0) (Qt.shl (b := 32) (a := 0) (h := ⟨by decide, by decide⟩)) (rfl)) <| Dq.q (Qt.toN (c := sect) (Qt.or (b := 0) (h := ⟨by simp only [lim]; omega, by decide⟩)) (Nat.or_zero _)) <| ?_
  refine Dq.q Qt.ld <| Dq.c rfl (leBx_q (p := 32) (n := 4) ho (by decide) (by decide) hBl F.flags) <| Dq.q Qt.ld <| Dq.c rfl (leBx_q (p := 8) (n := 4) ho (by decide) (by decide) hBl F.atime) <| Dq.q Qt.mv <| Dq.cc rfl rfl (field_q (p := 140) (by decide) ho hBl F.ax) <| Dq.c rfl (moment0_q) <| Dq.q Qt.ld <| ?_
  refine Dq.c rfl (leBx_q (p := 12) (n := 4) ho (by decide) (by decide) hBl F.ctime) <| Dq.q Qt.mv <| Dq.cc rfl rfl (field_q (p := 132) (by decide) ho hBl F.cx) <| Dq.c rfl (moment0_q) <| Dq.q Qt.ld <| Dq.c rfl (leBx_q (p := 16) (n := 4) ho (by decide) (by decide) hBl F.mtime) <| Dq.q Qt.mv <| Dq.cc rfl rfl (field_q (p := 136) (by decide) ho hBl F.mx) <| ?_
  refine Dq.c rfl (moment0_q) <| Dq.q Qt.mv <| Dq.cc rfl rfl (field_q (p := 144) (by decide) ho hBl F.cr) <| Dq.q Qt.mv <| Dq.cc rfl rfl (field_q (p := 148) (by decide) ho hBl F.crx) <| Dq.c rfl (moment0_q) <| Dq.q Qt.bdN <| Dq.nil <| ?_
  refine Dr.e 55 <| Eo.e rfl Ef.alA fun b8 hb8 => ?_
  refine Dr.e 56 <| Eo.e0 rfl Ef.stN fun _ _ => Dr.nilK <| ?_
  refine T.sr <| Rl.q Qt.mv <| Rl.q Qt.fa <| Rl.q Qt.ld <| Rl.e (Ef.qcall (S := kindOf_q hmode)) fun _ _ => Rl.q (Qt.neT (b := 0) (h := hkind)) <| Rl.q Qt.mv <| Rl.e (Ef.qcall (S := must_q _ _ _)) fun _ _ => ?_
  refine Rl.nilK <| ?_
  refine T.sr <| Rl.q Qt.mv <| Rl.q Qt.ld <| Rl.e (Ef.qcall (S := leBx_q (p := 20) (n := 4) ho (by decide) (by decide) hBl F.dtime)) fun _ _ => Rl.q (Qt.eqT (b := 0) (h := rfl)) <| Rl.q Qt.mv <| Rl.e (Ef.qcall (S := must_q _ _ _)) fun _ _ => Rl.nilK <| ?_
  refine T.seq ?_
  refine T.sr <| Rl.q Qt.fa <| Rl.q Qt.ldA <| Rl.q Qt.fa <| Rl.q Qt.ldA <| Rl.q Qt.fa <| Rl.q Qt.ldA <| Rl.q Qt.fa <| ?_
  refine Rl.q Qt.ldA <| Rl.e Ef.bs fun b117 hb117 => Rl.q Qt.len <| Rl.q (Qt.mv (v := N .i64 0)) <| Rl.nilK <| ?_
  refine T.block ?_
  refine T.rounds 4 ?_
  refine T.sr <| Rl.q (Qt.ltT (a := 0) (h := by decide)) <| Rl.nilK <| ?_
  refine T.seq ?_
  refine T.condT ?_
  refine T.skip <| Ex.K <| ?_
  refine T.seq ?_
  refine T.block ?_
  refine T.sr <| Rl.q (Qt.ia (i := 0)) <| Rl.q Qt.ldA <| Rl.e Ef.alA fun b10 hb10 => Rl.e0 Ef.stN fun _ _ => Rl.nilK <| ?_
  refine T.region <| Rl.q Qt.mv <| Rl.q Qt.fa <| Rl.q Qt.ld <| Rl.q (Qt.ltT (b := 1000000000) (h := by decide)) <| Rl.q Qt.mv <| Rl.e (Ef.qcall (S := must_q _ _ _)) fun _ _ => Rl.nil <| Ex.Bnormal <| Ex.K <| ?_
  refine T.region <| Rl.q (Qt.toN (c := 1) (Qt.add (b := 1) (a := 0) (h := by decide)) (rfl)) <| Rl.q Qt.mv <| Rl.nil <| Ex.LR <| ?_
  refine T.sr <| Rl.q (Qt.ltT (a := 1) (h := by decide)) <| Rl.nilK <| ?_
  refine T.seq ?_
  refine T.condT ?_
  refine T.skip <| Ex.K <| ?_
  refine T.seq ?_
  refine T.block ?_
  refine T.sr <| Rl.q (Qt.ia (i := 1)) <| Rl.q Qt.ldA <| Rl.e Ef.alA fun b10 hb10 => Rl.e0 Ef.stN fun _ _ => Rl.nilK <| ?_
  refine T.region <| Rl.q Qt.mv <| Rl.q Qt.fa <| Rl.q Qt.ld <| Rl.q (Qt.ltT (b := 1000000000) (h := by decide)) <| Rl.q Qt.mv <| Rl.e (Ef.qcall (S := must_q _ _ _)) fun _ _ => Rl.nil <| Ex.Bnormal <| Ex.K <| ?_
  refine T.region <| Rl.q (Qt.toN (c := 2) (Qt.add (b := 1) (a := 1) (h := by decide)) (rfl)) <| Rl.q Qt.mv <| Rl.nil <| Ex.LR <| ?_
  refine T.sr <| Rl.q (Qt.ltT (a := 2) (h := by decide)) <| Rl.nilK <| ?_
  refine T.seq ?_
  refine T.condT ?_
  refine T.skip <| Ex.K <| ?_
  refine T.seq ?_
  refine T.block ?_
  refine T.sr <| Rl.q (Qt.ia (i := 2)) <| Rl.q Qt.ldA <| Rl.e Ef.alA fun b10 hb10 => Rl.e0 Ef.stN fun _ _ => Rl.nilK <| ?_
  refine T.region <| Rl.q Qt.mv <| Rl.q Qt.fa <| Rl.q Qt.ld <| Rl.q (Qt.ltT (b := 1000000000) (h := by decide)) <| Rl.q Qt.mv <| Rl.e (Ef.qcall (S := must_q _ _ _)) fun _ _ => Rl.nil <| Ex.Bnormal <| Ex.K <| ?_
  refine T.region <| Rl.q (Qt.toN (c := 3) (Qt.add (b := 1) (a := 2) (h := by decide)) (rfl)) <| Rl.q Qt.mv <| Rl.nil <| Ex.LR <| ?_
  refine T.sr <| Rl.q (Qt.ltT (a := 3) (h := by decide)) <| Rl.nilK <| ?_
  refine T.seq ?_
  refine T.condT ?_
  refine T.skip <| Ex.K <| ?_
  refine T.seq ?_
  refine T.block ?_
  refine T.sr <| Rl.q (Qt.ia (i := 3)) <| Rl.q Qt.ldA <| Rl.e Ef.alA fun b10 hb10 => Rl.e0 Ef.stN fun _ _ => Rl.nilK <| ?_
  refine T.region <| Rl.q Qt.mv <| Rl.q Qt.fa <| Rl.q Qt.ld <| Rl.q (Qt.ltT (b := 1000000000) (h := by decide)) <| Rl.q Qt.mv <| Rl.e (Ef.qcall (S := must_q _ _ _)) fun _ _ => Rl.nil <| Ex.Bnormal <| Ex.K <| ?_
  refine T.region <| Rl.q (Qt.toN (c := 4) (Qt.add (b := 1) (a := 3) (h := by decide)) (rfl)) <| Rl.q Qt.mv <| Rl.nil <| Ex.LR <| ?_
  refine T.sr <| Rl.q (Qt.ltF (a := 4) (h := by decide)) <| Rl.nilK <| ?_
  refine T.seq ?_
  refine T.condF ?_
  refine T.exit <| Ex.Kexit <| Ex.Rexit <| Ex.Bhit <| Ex.K <| ?_
  refine T.sr <| Rl.q Qt.fa <| Rl.q Qt.ld <| Rl.q (Qt.and (b := 268435456) (h := ⟨by simp only [lim]; omega, by decide⟩)) <| Rl.q (Qt.neT (b := 0) (h := hinl)) <| Rl.q Qt.fa <| Rl.e0 Ef.st1 fun _ _ => Rl.nilK <| ?_
  refine T.sr <| Rl.q (Qt.as (v := .slice none 0 0)) <| Rl.nilK <| ?_
  refine T.sr <| Rl.q Qt.mv <| Rl.q Qt.ld <| Rl.q Qt.ld <| Rl.e (Ef.call (S := xattrs1_s (x := inoX k mode size links sect flags (.slice none 0 0) true 0) A hmag F.xb ho hBl (by omega) (by omega))) fun r hr => Rl.q Qt.as <| Rl.nilK <| ?_
  refine T.seq ?_
  obtain ⟨bA2, cA2, sp2, hvA2, hcA2, _, hEA2, _⟩ := hr.1.some (by decide)
  obtain ⟨pv, cv, hvf⟩ := hr.2.form
  rw [hvA2, hEA2, hvf]
  have how := hr.2
  rw [hvf] at how
  refine T.sr <| Rl.q Qt.mv <| Rl.q Qt.len <| Rl.q (Qt.mv (v := N .i64 0)) <| Rl.nilK <| ?_
  refine T.block ?_
  refine T.rounds 1 ?_
  refine T.sr <| Rl.q (Qt.ltT (a := 0) (b := 1) (h := by decide)) <| Rl.nilK <| ?_
  refine T.seq ?_
  refine T.condT ?_
  refine T.skip <| Ex.K <| ?_
  refine T.seq ?_
  refine T.block ?_
  refine T.sr <| Rl.q (Qt.to (u := .pointer (some ⟨bA2, 0, none⟩)) (Qt.ia (i := 0)) (rfl)) <| Rl.q (Qt.ldA (vs := [SV sysdata, .slice pv val.length cv]) (hv := seg_app _ _)) <| Rl.e Ef.alA fun b14 hb14 => Rl.e0 Ef.stN fun _ _ => Rl.nilK <| ?_
  refine T.seq ?_
  refine T.sr <| Rl.q Qt.fa0 <| Rl.q Qt.ld <| Rl.q (Qt.seqT (h := rfl)) <| Rl.nilK <| ?_
  refine T.condT ?_
  refine T.sr <| Rl.q Qt.fa <| Rl.q Qt.ld <| Rl.q Qt.as <| Rl.nilK <| ?_
  refine T.sr <| Rl.q Qt.mv <| Rl.q Qt.fa <| Rl.q Qt.ld <| Rl.q Qt.mv <| Rl.e (Ef.qcall (S := must_q _ _ _)) fun _ _ => Rl.nilK <| ?_
  refine T.exit <| Ex.Kexit <| Ex.Bhit <| Ex.K <| ?_
  refine T.region <| Rl.q (Qt.toN (c := 1) (Qt.add (b := 1) (a := 0) (h := by decide)) (rfl)) <| Rl.q Qt.mv <| Rl.nil <| Ex.LR <| ?_
  refine T.sr <| Rl.q (Qt.ltF (a := 1) (b := 1) (h := by decide)) <| Rl.nilK <| ?_
  refine T.seq ?_
  refine T.condF ?_
  refine T.exit <| Ex.Kexit <| Ex.Rexit <| Ex.Bhit <| Ex.K <| ?_
  rcases how with ⟨_, ⟨hv0, hl0, hE0⟩ | ⟨b2, c2, sp3, hv2, hc3, hc4, hE2, _⟩⟩
  · rw [hv0]
    refine T.sr <| Rl.q Qt.mv <| Rl.q Qt.ld <| Rl.q Qt.mv <| Rl.e (Ef.call (S := content_inl0_s (x := inoX k mode size links sect flags (.slice none 0 0) true 0) (oi := oi) hB hcap hcap2 (by omega) (by omega) (by omega) hnb (by show size ≤ 60; omega) (by show size ≤ nb * 4096; omega) hk3 hmode rfl)) fun r2 hr2 => Rl.nilK <| ?_
    refine T.seq ?_
    refine T.sr <| Rl.q Qt.fa <| Rl.q Qt.ld <| Rl.q (Qt.and (b := 262144) (h := ⟨by simp only [lim]; omega, by decide⟩)) <| Rl.q (Qt.neT (b := 0) (h := hhuge)) <| Rl.nilK <| ?_
    refine T.condT ?_
    refine T.region <| Rl.q Qt.mv <| Rl.q Qt.fa <| Rl.q Qt.ld <| Rl.q Qt.fa <| Rl.q Qt.ld <| Rl.q (Qt.eqT (h := hsl)) <| Rl.q Qt.mv <| ?_
    refine Rl.e (Ef.qcall (S := must_q _ _ _)) fun _ _ => Rl.nil <| Ex.K <| ?_
    refine T.sr <| Rl.q Qt.ldA <| Rl.e0 Ef.stN fun _ _ => Rl.nilK <| ?_
    refine T.ret <| Ex.retC (.inl rfl) rfl ?_ rfl
    exact fun w h => ⟨r2, ⟨by rw [show val = [] from List.eq_nil_of_length_eq_zero hl0, List.append_nil]; exact hr2.1, hr2.2⟩, rfl, h.re⟩
  · rw [hv2, hE2]
    have hR2 : RowB (bc val ++ sp3) 0 val := by unfold RowB; rw [← bc_length]; exact seg_app _ _
    refine T.sr <| Rl.q Qt.mv <| Rl.q Qt.ld <| Rl.q Qt.mv <| Rl.e (Ef.call (S := content_inl_s (x := inoX k mode size links sect flags (.slice none 0 0) true 0) (l2 := val) (oi := oi) hR2 (by omega) hB hcap hcap2 (by omega) (by omega) (by omega) hnb hsz (by show size ≤ nb * 4096; omega) hk3 hmode rfl)) fun r2 hr2 => Rl.nilK <| ?_
    refine T.seq ?_
    refine T.sr <| Rl.q Qt.fa <| Rl.q Qt.ld <| Rl.q (Qt.and (b := 262144) (h := ⟨by simp only [lim]; omega, by decide⟩)) <| Rl.q (Qt.neT (b := 0) (h := hhuge)) <| Rl.nilK <| ?_
    refine T.condT ?_
    refine T.region <| Rl.q Qt.mv <| Rl.q Qt.fa <| Rl.q Qt.ld <| Rl.q Qt.fa <| Rl.q Qt.ld <| Rl.q (Qt.eqT (h := hsl)) <| Rl.q Qt.mv <| ?_
    refine Rl.e (Ef.qcall (S := must_q _ _ _)) fun _ _ => Rl.nil <| Ex.K <| ?_
    refine T.sr <| Rl.q Qt.ldA <| Rl.e0 Ef.stN fun _ _ => Rl.nilK <| ?_
    refine T.ret <| Ex.retC (.inl rfl) rfl ?_ rfl
    exact fun w h => ⟨r2, hr2, rfl, h.re⟩
end SL
end Go.Proofs.YtlmiekcmjpnobaaGreatDoor
namespace Go.Proofs.YtlmiekcmjpnobaaGreatDoor
open Go
namespace SL
set_option maxRecDepth 20000

abbrev Pt (b : Nat) : Value := .pointer (some ⟨b, 0, none⟩)
/-- A disk in memory. -/
abbrev DO (v : Value) (p : Nat) : Obj := .cells [v, N .i64 p].toArray 111 (0, 0)
/-- What the writer holds. -/
structure WS where
  disk : Nat
  inodes : Value
  name : List UInt8
  cur : Value
  pos : Nat
  dw : Nat
  dm : Nat
  init : Bool
  inl : Bool
  max : Nat
  gd : Nat
abbrev WS.cells (s : WS) : List Value := [Pt s.disk, s.inodes, SV s.name, s.cur, N .i64 s.pos, N .i64 s.dw, N .i64 s.dm, .nilIface, .bool s.init, .bool s.inl, N .i64 s.max, N .u32 s.gd]
abbrev WO (s : WS) : Obj := .cells s.cells.toArray 158 (0, 0)
/-- Bytes, with zeros behind them. -/
def padZ (l : List UInt8) (n : Nat) : List UInt8 := l ++ List.replicate (n - l.length) 0
theorem padZ_length (l : List UInt8) (n : Nat) : (padZ l n).length = Nat.max l.length n := by
  have : Nat.max l.length n = max l.length n := rfl
  simp [padZ]; omega
theorem padZ_ge {l : List UInt8} {n : Nat} (h : n ≤ l.length) : padZ l n = l := by simp [padZ, show n - l.length = 0 by omega]
theorem bc_rep (n : Nat) : bc (List.replicate n 0) = List.replicate n (N .u8 0) := by simp [bc]
theorem putL_left {l r vs : List Value} {o : Nat} (h : o + vs.length ≤ l.length) : putL (l ++ r) o vs = putL l o vs ++ r := by
  unfold putL
  rw [List.take_append_of_le_length (by omega), List.drop_append_of_le_length h, List.append_assoc, List.append_assoc, List.append_assoc]
theorem putB_length {l vs : List UInt8} {o : Nat} (h : o + vs.length ≤ l.length) : (putB l o vs).length = l.length := by simp [putB]; omega
/-- Bytes that are written at a place. -/
def wrB (l : List UInt8) (p : Nat) (bs : List UInt8) : List UInt8 := putB (padZ l (p + bs.length)) p bs
theorem wrB_length (l : List UInt8) (p : Nat) (bs : List UInt8) : (wrB l p bs).length = Nat.max l.length (p + bs.length) := by
  have h := padZ_length l (p + bs.length)
  rw [wrB, putB_length, h]
  rw [h]
  exact Nat.le_max_right _ _
variable {bW bD b o k c e p : Nat} {R : List Value} {fr : Nat × Nat} {bs xs : List UInt8} {v : Value} {E : Chunk} {s : WS}
set_option maxHeartbeats 1000000 in
theorem put_s (hR : RowB R o bs) (hk : k = bs.length) (own : Own 5 1 v xs.length (bc xs) E) (h0 : 0 < bs.length) (h1 : p + bs.length < 1099511627776) (h2 : xs.length < 1099511627776) :
    Spec Tryz.prog 106 [Pt bD, Sl b o k c] [[(b, .cells R.toArray e fr)]] [[(bD, DO v p)], E]
      (fun r : Value × Chunk => Own 5 1 r.1 (wrB xs p bs).length (bc (wrB xs p bs)) r.2) (fun _ => .tuple #[]) (fun r => [[(bD, DO r.1 (p + bs.length))], r.2]) := by
  refine Spec.of Tryz.func106 rfl Tryz.ntmps106 (by simp) fun w => ?_
  subst hk
  obtain ⟨p0, c0, rfl⟩ := own.form
  refine T.join (α := Value × Chunk) (fun y => [(0, Pt bD), (1, Sl b o bs.length c)]) (fun y => [[(bD, DO y.1 p)], y.2]) (fun y => Own 5 1 y.1 (padZ xs (p + bs.length)).length (bc (padZ xs (p + bs.length))) y.2) ?_ fun y hy => ?_
  · refine T.sr <| Rl.q Qt.mv <| Rl.q Qt.nc <| Rl.q Qt.fa <| Rl.q Qt.ld <| Rl.q Qt.mv <| Rl.q Qt.len <| Rl.q Qt.add <| ?_
    refine Rl.q Qt.as <| Rl.nilK <| ?_
    refine T.sr <| Rl.q Qt.mv <| Rl.q Qt.mv <| Rl.q Qt.nc <| Rl.q Qt.fa0 <| Rl.q Qt.ld <| Rl.q Qt.len <| Rl.gtS (fun h18 => ?_) (fun h18 => ?_)
    · refine Rl.nilK <| ?_
      refine T.condT ?_
      refine T.dr [12, 13, 14, 15] ?_ mixed
      refine Dr.qs [0, 1, 2, 3, 4, 5, 6, 7, 8, 9, 10, 11] [true] ?_
      refine Dq.p Qt.mv <| Dq.q Qt.mv <| Dq.q Qt.nc <| Dq.q Qt.fa0 <| Dq.q Qt.ld <| Dq.q Qt.mv <| Dq.q Qt.mv <| Dq.q Qt.nc <| ?_
      refine Dq.q Qt.fa0 <| Dq.q Qt.ld <| Dq.q Qt.len <| Dq.q Qt.sub <| Dq.nil <| ?_
      refine Dr.e 12 <| Eo.e rfl (Ef.apZ (own := own)) fun v31 hv31 => ?_
      refine Dr.e 13 <| Eo.q rfl Qt.nc <| ?_
      refine Dr.e 14 <| Eo.q rfl Qt.fa0 <| ?_
      refine Dr.e 15 <| Eo.e0 rfl Ef.st1 fun _ _ => Dr.nil <| ?_
      have hq : Own 5 1 v31.1 (padZ xs (p + bs.length)).length (bc (padZ xs (p + bs.length))) v31.2 := by
        rw [padZ, List.length_append, List.length_replicate, bc_app, bc_rep]; exact hv31
      exact Ex.join (v31.1, v31.2) hq (.cons rfl <| .cons rfl <| .nil)
    · refine Rl.nilK <| ?_
      refine T.condF ?_
      refine T.skip <| ?_
      have hq : Own 5 1 (.slice p0 xs.length c0) (padZ xs (p + bs.length)).length (bc (padZ xs (p + bs.length))) E := by
        rw [padZ_ge h18]; exact own
      exact Ex.join (.slice p0 xs.length c0, E) hq (.cons rfl <| .cons rfl <| .nil)
  · have hl := padZ_length xs (p + bs.length)
    have hge : p + bs.length ≤ (padZ xs (p + bs.length)).length := by rw [hl]; exact Nat.le_max_right _ _
    have hle : (padZ xs (p + bs.length)).length < 2199023255552 := by rw [hl]; exact Nat.max_lt.2 ⟨by omega, by omega⟩
    obtain ⟨b2, cap, sp, hv, hc1, hc2, hE, hspl⟩ := hy.some (by omega)
    rw [hv, hE]
    simp only [maxLen] at hc2
    have hmin : Nat.min bs.length ((padZ xs (p + bs.length)).length - p) = bs.length := Nat.min_eq_left (by omega)
    refine T.sdr [10] ?_ mixed
    refine Dr.qs [0, 1, 2, 3, 4, 5, 6, 7, 8, 9] [] ?_
    refine Dq.q Qt.mv <| Dq.q Qt.nc <| Dq.q Qt.fa0 <| Dq.q Qt.ld <| Dq.q Qt.mv <| Dq.q Qt.nc <| Dq.q Qt.fa <| Dq.q Qt.ld <| ?_
    refine Dq.q Qt.sl1 <| Dq.q Qt.mv <| Dq.nil <| ?_
    refine Dr.e 10 <| Eo.e rfl (Ef.cp (hs := by rw [hmin]; exact hR) (hl := ⟨by rw [hmin, List.length_append, bc_length]; omega, bc_ones _⟩)) fun _ _ => Dr.nilK <| ?_
    refine T.region <| Rl.q Qt.mv <| Rl.q Qt.nc <| Rl.q Qt.fa <| Rl.q Qt.ld <| Rl.q Qt.mv <| Rl.q Qt.len <| Rl.q Qt.add <| ?_
    refine Rl.q Qt.nc <| Rl.q Qt.fa <| Rl.e0 Ef.st1 fun _ _ => Rl.nil <| Ex.ret0 (.inr rfl) ?_ rfl
    have he : putL (bc (padZ xs (p + bs.length)) ++ sp) (0 + p) (bc bs) = bc (wrB xs p bs) ++ sp := by
      rw [Nat.zero_add, putL_left (by rw [bc_length, bc_length]; exact hge), putL_bcs]; rfl
    have hwl : (wrB xs p bs).length = (padZ xs (p + bs.length)).length := putB_length hge
    exact fun w h => ⟨(Sl b2 0 (padZ xs (p + bs.length)).length cap, [(b2, .cells (bc (wrB xs p bs) ++ sp).toArray 5 (0, 0))]), by rw [hwl]; exact Own.mk (by rw [bc_length, hwl, Nat.mul_one]) hc1 (by simpa only [maxLen] using hc2) (by simp only [List.length_append, bc_length, hwl] at hspl ⊢; exact hspl), rfl, by rw [he] at h; exact h.re⟩

theorem write_s (hR : RowB R o bs) (hk : k = bs.length) (own : Own 5 1 v xs.length (bc xs) E) (h0 : 0 < bs.length) (h1 : s.pos + bs.length ≤ s.max) (h2 : xs.length < 1099511627776) (h3 : s.max < 1099511627776) :
    Spec Tryz.prog 87 [Pt bW, Sl b o k c] [[(b, .cells R.toArray e fr)]] [[(s.disk, DO v s.pos)], E, [(bW, WO s)]]
      (fun r : Value × Chunk => Own 5 1 r.1 (wrB xs s.pos bs).length (bc (wrB xs s.pos bs)) r.2) (fun _ => .tuple #[N .i64 k, .nilIface]) (fun r => [[(s.disk, DO r.1 (s.pos + bs.length))], r.2, [(bW, WO { s with pos := s.pos + bs.length })]]) := by
  refine Spec.of Tryz.func87 rfl Tryz.ntmps87 (by simp) fun w => ?_
  subst hk
  refine T.sr <| Rl.q (Qt.as (v := N .i64 0)) <| Rl.q (Qt.as (v := .nilIface)) <| Rl.nilK <| ?_
  refine T.seq ?_
  refine T.sr <| Rl.q Qt.mv <| Rl.q Qt.nc <| Rl.q Qt.fa <| Rl.q Qt.ld <| Rl.q Qt.ineNil <| Rl.nilK <| ?_
  refine T.condF ?_
  refine T.skip <| Ex.K <| ?_
  refine T.seq ?_
  refine T.sdr [] ?_ mixed
  refine Dr.qs [0, 1, 2, 3, 4, 5, 6, 7, 8, 9, 10, 11] [] ?_
  refine Dq.q Qt.mv <| Dq.q Qt.nc <| Dq.q Qt.fa <| Dq.q Qt.ld <| Dq.q Qt.mv <| Dq.q Qt.len <| Dq.q Qt.add <| Dq.q Qt.mv <| ?_
  refine Dq.q Qt.nc <| Dq.q Qt.fa <| Dq.q Qt.ld <| Dq.q Qt.gtF <| Dq.nil <| Dr.nilK <| ?_
  refine T.condF ?_
  refine T.skip <| Ex.K <| ?_
  refine T.sr <| Rl.q Qt.mv <| Rl.q Qt.nc <| Rl.q Qt.fa0 <| Rl.q Qt.ld <| Rl.q Qt.mv <| Rl.e (Ef.call (S := put_s (p := s.pos) (bD := s.disk) hR rfl own h0 (by omega) h2)) fun r hr => Rl.nilK <| ?_
  refine T.sr <| Rl.q Qt.mv <| Rl.q Qt.nc <| Rl.q Qt.fa <| Rl.q Qt.ld <| Rl.q Qt.mv <| Rl.q Qt.len <| Rl.q Qt.add <| ?_
  refine Rl.q Qt.nc <| Rl.q Qt.fa <| Rl.e0 Ef.st1 fun _ _ => Rl.nilK <| ?_
  refine T.sr <| Rl.q Qt.mv <| Rl.q Qt.len <| Rl.q Qt.as <| Rl.q (Qt.as (v := .nilIface)) <| Rl.nilK <| ?_
  refine T.ret <| Ex.ret2 (.inl rfl) rfl rfl ?_ rfl
  exact fun w h => ⟨r, hr, rfl, h.re⟩

theorem zero_s {n : Nat} (own : Own 5 1 v xs.length (bc xs) E) (h0 : 0 < n) (h1 : s.pos + n ≤ s.max) (h2 : xs.length < 1099511627776) (h3 : s.max < 1099511627776) :
    Spec Tryz.prog 105 [Pt bW, N .i64 n] [] [[(s.disk, DO v s.pos)], E, [(bW, WO s)]]
      (fun r : Value × Chunk => Own 5 1 r.1 (wrB xs s.pos (List.replicate n 0)).length (bc (wrB xs s.pos (List.replicate n 0))) r.2) (fun _ => .tuple #[N .i64 n, .nilIface]) (fun r => [[(s.disk, DO r.1 (s.pos + n))], r.2, [(bW, WO { s with pos := s.pos + n })]]) := by
  refine Spec.of Tryz.func105 rfl Tryz.ntmps105 (by simp) fun w => ?_
  refine T.sr <| Rl.q (Qt.as (v := N .i64 0)) <| Rl.q (Qt.as (v := .nilIface)) <| Rl.nilK <| ?_
  refine T.seq ?_
  refine T.sr <| Rl.q Qt.mv <| Rl.q Qt.nc <| Rl.q Qt.fa <| Rl.q Qt.ld <| Rl.q Qt.ineNil <| Rl.nilK <| ?_
  refine T.condF ?_
  refine T.skip <| Ex.K <| ?_
  refine T.seq ?_
  refine T.sdr [] ?_ mixed
  refine Dr.qs [0, 1, 2, 3, 4, 5, 6, 7, 8, 9, 10] [] ?_
  refine Dq.q Qt.mv <| Dq.q Qt.nc <| Dq.q Qt.fa <| Dq.q Qt.ld <| Dq.q Qt.mv <| Dq.q Qt.add <| Dq.q Qt.mv <| Dq.q Qt.nc <| ?_
  refine Dq.q Qt.fa <| Dq.q Qt.ld <| Dq.q Qt.gtF <| Dq.nil <| Dr.nilK <| ?_
  refine T.condF ?_
  refine T.skip <| Ex.K <| ?_
  refine T.sdr [6] ?_ mixed
  refine Dr.qs [0, 1, 2, 3, 4] [] ?_
  refine Dq.q Qt.mv <| Dq.q Qt.nc <| Dq.q Qt.fa0 <| Dq.q Qt.ld <| Dq.q Qt.mv <| Dq.nil <| ?_
  refine Dr.e 5 <| Eo.e rfl Ef.mk fun b44 hb44 => ?_
  rw [mkBytes]
  refine Dr.e 6 <| Eo.e rfl (Ef.call (S := put_s (p := s.pos) (bD := s.disk) (bs := List.replicate n 0) (RowB.all _) (by rw [List.length_replicate]) own (by rw [List.length_replicate]; exact h0) (by rw [List.length_replicate]; omega) h2)) fun r hr => Dr.nilK <| ?_
  refine T.sr <| Rl.q Qt.mv <| Rl.q Qt.nc <| Rl.q Qt.fa <| Rl.q Qt.ld <| Rl.q Qt.mv <| Rl.q Qt.add <| Rl.q Qt.nc <| ?_
  refine Rl.q Qt.fa <| Rl.e0 Ef.st1 fun _ _ => Rl.nilK <| ?_
  refine T.sr <| Rl.q Qt.mv <| Rl.q Qt.as <| Rl.q (Qt.as (v := .nilIface)) <| Rl.nilK <| ?_
  refine T.ret <| Ex.ret2 (.inl rfl) rfl rfl ?_ rfl
  exact fun w h => ⟨r, hr, rfl, by rw [List.length_replicate] at h; exact h.re⟩

theorem seekBlock_s {n : Nat} (hn : n < 268435456) :
    Spec Tryz.prog 90 [Pt bW, N .u32 n] [] [[(s.disk, DO v p)], [(bW, WO s)]] (fun _ : Unit => True) (fun _ => .tuple #[]) (fun _ => [[(s.disk, DO v (n * 4096))], [(bW, WO { s with pos := n * 4096 })]]) := by
  refine Spec.of Tryz.func90 rfl Tryz.ntmps90 (by simp) fun w => ?_
  refine T.sr <| Rl.q Qt.mv <| Rl.q Qt.mv <| Rl.q Qt.cv <| Rl.q (Qt.mul (b := 4096)) <| Rl.q Qt.nc <| Rl.q Qt.fa <| Rl.e0 Ef.st1 fun _ _ => ?_
  refine Rl.nilK <| ?_
  refine T.seq ?_
  refine T.sr <| Rl.q Qt.mv <| Rl.q Qt.nc <| Rl.q Qt.fa <| Rl.q Qt.ld <| Rl.q Qt.ineNil <| Rl.nilK <| ?_
  refine T.condF ?_
  refine T.skip <| Ex.K <| ?_
  refine T.dr [10] ?_ mixed
  refine Dr.qs [0, 1, 2, 3, 4, 5, 6, 7, 8, 9] [] ?_
  refine Dq.q Qt.mv <| Dq.q Qt.nc <| Dq.q Qt.fa0 <| Dq.q Qt.ld <| Dq.q Qt.mv <| Dq.q Qt.nc <| Dq.q Qt.fa <| Dq.q Qt.ld <| ?_
  refine Dq.q Qt.nc <| Dq.q Qt.fa <| Dq.nil <| ?_
  refine Dr.e 10 <| Eo.e0 rfl Ef.st1 fun _ _ => Dr.nil <| Ex.ret0 (.inr rfl) ?_ rfl
  exact fun w h => ⟨(), trivial, rfl, h.re⟩

theorem wblock_q (h : s.pos < 1099511627776) : QSpec Tryz.prog 89 [Pt bW] [[(bW, WO s)]] (N .u32 (s.pos / 4096)) := by
  refine QSpec.of Tryz.func89 rfl Tryz.ntmps89 (by simp) fun w => ?_
  refine T.sr <| Rl.q (Qt.as (v := N .u32 0)) <| Rl.nilK <| ?_
  refine T.sr <| Rl.q Qt.mv <| Rl.q Qt.nc <| Rl.q Qt.fa <| Rl.q Qt.ld <| Rl.q (Qt.quo (b := 4096)) <| Rl.q Qt.cv <| Rl.q Qt.as <| ?_
  refine Rl.nilK <| ?_
  refine T.ret <| Ex.ret1 (.inl rfl) rfl ?_ rfl
  exact fun w h => ⟨rfl, h.grown⟩

theorem startInode_s {nm : List UInt8} {bN n : Nat} (h : s.cur = .pointer none) :
    Spec Tryz.prog 85 [Pt bW, SV nm, Pt bN, N .i64 n] [] [[(bW, WO s)]] (fun _ : Unit => True) (fun _ => .tuple #[]) (fun _ => [[(bW, WO { s with name := nm, cur := Pt bN, dw := 0, dm := n })]]) := by
  refine Spec.of Tryz.func85 rfl Tryz.ntmps85 (by simp) fun w => ?_
  refine T.seq ?_
  refine T.sr <| Rl.q Qt.mv <| Rl.q Qt.nc <| Rl.q Qt.fa <| Rl.q (Qt.to (u := .pointer none) Qt.ld (h)) <| Rl.q Qt.pneNil <| Rl.nilK <| ?_
  refine T.condF ?_
  refine T.skip <| Ex.K <| ?_
  refine T.sr <| Rl.q Qt.mv <| Rl.q Qt.mv <| Rl.q Qt.nc <| Rl.q Qt.fa <| Rl.e0 Ef.st1 fun _ _ => Rl.nilK <| ?_
  refine T.sr <| Rl.q Qt.mv <| Rl.q Qt.mv <| Rl.q Qt.nc <| Rl.q Qt.fa <| Rl.e0 Ef.st1 fun _ _ => Rl.nilK <| ?_
  refine T.sr <| Rl.q Qt.mv <| Rl.q Qt.nc <| Rl.q Qt.fa <| Rl.e0 (Ef.st1 (v := N .i64 0)) fun _ _ => Rl.nilK <| ?_
  refine T.region <| Rl.q Qt.mv <| Rl.q Qt.mv <| Rl.q Qt.nc <| Rl.q Qt.fa <| Rl.e0 Ef.st1 fun _ _ => Rl.nil <| Ex.ret0 (.inr rfl) ?_ rfl
  exact fun w h => ⟨(), trivial, rfl, h.re⟩

end SL
end Go.Proofs.YtlmiekcmjpnobaaGreatDoor
namespace Go.Proofs.YtlmiekcmjpnobaaGreatDoor
open Go
namespace SL
set_option maxRecDepth 20000

theorem u8_toNat (x : Nat) : (UInt8.ofNat x).toNat = x % 256 := by simp
theorem bc_leB4 (x : Nat) : [N .u8 (x % lim .u8), N .u8 (x / 2 ^ 8 % lim .u8), N .u8 (x / 2 ^ 16 % lim .u8), N .u8 (x / 2 ^ 24 % lim .u8)] = bc (leB 4 x) := by
  simp [bc, leB, lim, Nat.div_div_eq_div_mul]
theorem bc_leB2 (x : Nat) : [N .u8 (x % lim .u8), N .u8 (x / 2 ^ 8 % lim .u8)] = bc (leB 2 x) := by
  simp [bc, leB, lim]
theorem Own.b1 (xs : List UInt8) {v : Value} {E : Chunk} {a : Nat} (h : Own 5 1 v (xs.length + 1) (bc xs ++ [N .u8 a]) E) (ha : a < 256) : Own 5 1 v (xs ++ leB 1 a).length (bc (xs ++ leB 1 a)) E := by
  have : bc (xs ++ leB 1 a) = bc xs ++ [N .u8 a] := by simp [bc, leB, Nat.mod_eq_of_lt ha]
  rw [this, List.length_append, leB_length]
  exact h
variable {xs : List UInt8} {v : Value} {E : Chunk} {x : Nat}
theorem fput32_s (own : Own 5 1 v xs.length (bc xs) E) (h : xs.length < 1000000 := by simp [leB_length]) :
    Spec Tryz.prog 149 [v, N .u32 x] [] [E] (fun r : Value × Chunk => Own 5 1 r.1 (xs ++ leB 4 x).length (bc (xs ++ leB 4 x)) r.2) (fun r => r.1) (fun r => [r.2]) := by
  refine Spec.of Tryz.func149 rfl Tryz.ntmps149 (by simp) fun w => ?_
  refine T.sr <| Rl.q (Qt.as (v := .slice none 0 0)) <| Rl.nilK <| ?_
  refine T.sr <| Rl.q Qt.mv <| Rl.q Qt.mv <| Rl.q Qt.cvW <| Rl.q Qt.mv <| Rl.q (Qt.shr (b := 8)) <| Rl.q Qt.cvW <| Rl.q Qt.mv <| ?_
  refine Rl.q (Qt.shr (b := 16)) <| Rl.q Qt.cvW <| Rl.q Qt.mv <| Rl.q (Qt.shr (b := 24)) <| Rl.q Qt.cvW <| Rl.e Ef.bs fun b17 hb17 => Rl.e (Ef.ap (own := own) (vs := [N .u8 (x % lim .u8), N .u8 (x / 2 ^ 8 % lim .u8), N .u8 (x / 2 ^ 16 % lim .u8), N .u8 (x / 2 ^ 24 % lim .u8)])) fun v18 hv18 => Rl.q Qt.as <| ?_
  refine Rl.nilK <| ?_
  refine T.ret <| Ex.ret1 (.inl rfl) rfl ?_ rfl
  rw [bc_leB4] at hv18
  exact fun w h => ⟨v18, by rw [List.length_append, bc_app, leB_length]; exact hv18, rfl, h.re⟩

theorem fput16_s (own : Own 5 1 v xs.length (bc xs) E) (h : xs.length < 1000000 := by simp [leB_length]) :
    Spec Tryz.prog 150 [v, N .u16 x] [] [E] (fun r : Value × Chunk => Own 5 1 r.1 (xs ++ leB 2 x).length (bc (xs ++ leB 2 x)) r.2) (fun r => r.1) (fun r => [r.2]) := by
  refine Spec.of Tryz.func150 rfl Tryz.ntmps150 (by simp) fun w => ?_
  refine T.sr <| Rl.q (Qt.as (v := .slice none 0 0)) <| Rl.nilK <| ?_
  refine T.sr <| Rl.q Qt.mv <| Rl.q Qt.mv <| Rl.q Qt.cvW <| Rl.q Qt.mv <| Rl.q (Qt.shr (b := 8)) <| Rl.q Qt.cvW <| Rl.e Ef.bs fun b11 hb11 => ?_
  refine Rl.e (Ef.ap (own := own) (vs := [N .u8 (x % lim .u8), N .u8 (x / 2 ^ 8 % lim .u8)])) fun v12 hv12 => Rl.q Qt.as <| Rl.nilK <| ?_
  refine T.ret <| Ex.ret1 (.inl rfl) rfl ?_ rfl
  rw [bc_leB2] at hv12
  exact fun w h => ⟨v12, by rw [List.length_append, bc_app, leB_length]; exact hv12, rfl, h.re⟩
def extHdrB (a b c d e : Nat) : List UInt8 := leB 2 a ++ (leB 2 b ++ (leB 2 c ++ (leB 2 d ++ (leB 4 e))))
theorem extHdr_s (a b c d e : Nat)  :
    Spec Tryz.prog 162 [.agg [N .u16 a, N .u16 b, N .u16 c, N .u16 d, N .u32 e].toArray] [] [] (fun r : Value × Chunk => Own 5 1 r.1 (extHdrB a b c d e).length (bc (extHdrB a b c d e)) r.2) (fun r => r.1) (fun r => [r.2]) := by
  refine Spec.of Tryz.func162 rfl Tryz.ntmps162 (by simp) fun w => ?_
  refine T.sr <| Rl.e Ef.bxA fun b1 hb1 => Rl.q (Qt.as (v := .slice none 0 0)) <| Rl.nilK <| ?_
  refine T.sr <| Rl.q (Qt.as (v := .slice none 0 0)) <| Rl.nilK <| ?_
  refine T.add0 ?_
  refine T.sr <| Rl.q Qt.mv <| Rl.q Qt.fa0 <| Rl.q Qt.ld <| Rl.e (Ef.call (S := fput16_s (xs := []) (x := a) (Own.nil 5 1))) fun r7 h7 => Rl.q Qt.as <| Rl.nilK <| ?_
  refine T.sr <| Rl.q Qt.mv <| Rl.q Qt.fa <| Rl.q Qt.ld <| Rl.e (Ef.call (S := fput16_s (xs := [] ++ leB 2 a) (x := b) h7)) fun r11 h11 => Rl.q Qt.as <| Rl.nilK <| ?_
  refine T.sr <| Rl.q Qt.mv <| Rl.q Qt.fa <| Rl.q Qt.ld <| Rl.e (Ef.call (S := fput16_s (xs := [] ++ leB 2 a ++ leB 2 b) (x := c) h11)) fun r15 h15 => Rl.q Qt.as <| Rl.nilK <| ?_
  refine T.sr <| Rl.q Qt.mv <| Rl.q Qt.fa <| Rl.q Qt.ld <| Rl.e (Ef.call (S := fput16_s (xs := [] ++ leB 2 a ++ leB 2 b ++ leB 2 c) (x := d) h15)) fun r19 h19 => Rl.q Qt.as <| Rl.nilK <| ?_
  refine T.sr <| Rl.q Qt.mv <| Rl.q Qt.fa <| Rl.q Qt.ld <| Rl.e (Ef.call (S := fput32_s (xs := [] ++ leB 2 a ++ leB 2 b ++ leB 2 c ++ leB 2 d) (x := e) h19)) fun r23 h23 => Rl.q Qt.as <| Rl.nilK <| ?_
  refine T.sr <| Rl.q Qt.mv <| Rl.q Qt.as <| Rl.nilK <| ?_
  refine T.ret <| Ex.ret1 (.inl rfl) rfl ?_ rfl
  exact fun w h => ⟨r23, by simpa only [extHdrB, List.nil_append, List.append_assoc] using h23, rfl, h.re⟩
def extLeafB (a b c d : Nat) : List UInt8 := leB 4 a ++ (leB 2 b ++ (leB 2 c ++ (leB 4 d)))
theorem extLeaf_s (a b c d : Nat)  :
    Spec Tryz.prog 163 [.agg [N .u32 a, N .u16 b, N .u16 c, N .u32 d].toArray] [] [] (fun r : Value × Chunk => Own 5 1 r.1 (extLeafB a b c d).length (bc (extLeafB a b c d)) r.2) (fun r => r.1) (fun r => [r.2]) := by
  refine Spec.of Tryz.func163 rfl Tryz.ntmps163 (by simp) fun w => ?_
  refine T.sr <| Rl.e Ef.bxA fun b1 hb1 => Rl.q (Qt.as (v := .slice none 0 0)) <| Rl.nilK <| ?_
  refine T.sr <| Rl.q (Qt.as (v := .slice none 0 0)) <| Rl.nilK <| ?_
  refine T.add0 ?_
  refine T.sr <| Rl.q Qt.mv <| Rl.q Qt.fa0 <| Rl.q Qt.ld <| Rl.e (Ef.call (S := fput32_s (xs := []) (x := a) (Own.nil 5 1))) fun r7 h7 => Rl.q Qt.as <| Rl.nilK <| ?_
  refine T.sr <| Rl.q Qt.mv <| Rl.q Qt.fa <| Rl.q Qt.ld <| Rl.e (Ef.call (S := fput16_s (xs := [] ++ leB 4 a) (x := b) h7)) fun r11 h11 => Rl.q Qt.as <| Rl.nilK <| ?_
  refine T.sr <| Rl.q Qt.mv <| Rl.q Qt.fa <| Rl.q Qt.ld <| Rl.e (Ef.call (S := fput16_s (xs := [] ++ leB 4 a ++ leB 2 b) (x := c) h11)) fun r15 h15 => Rl.q Qt.as <| Rl.nilK <| ?_
  refine T.sr <| Rl.q Qt.mv <| Rl.q Qt.fa <| Rl.q Qt.ld <| Rl.e (Ef.call (S := fput32_s (xs := [] ++ leB 4 a ++ leB 2 b ++ leB 2 c) (x := d) h15)) fun r19 h19 => Rl.q Qt.as <| Rl.nilK <| ?_
  refine T.sr <| Rl.q Qt.mv <| Rl.q Qt.as <| Rl.nilK <| ?_
  refine T.ret <| Ex.ret1 (.inl rfl) rfl ?_ rfl
  exact fun w h => ⟨r19, by simpa only [extLeafB, List.nil_append, List.append_assoc] using h19, rfl, h.re⟩
def dirEntB (a b c d : Nat) : List UInt8 := leB 4 a ++ (leB 2 b ++ (leB 1 c ++ (leB 1 d)))
theorem dirEnt_s (a b c d : Nat) (hc : c < 256) (hd : d < 256) :
    Spec Tryz.prog 170 [.agg [N .u32 a, N .u16 b, N .u8 c, N .u8 d].toArray] [] [] (fun r : Value × Chunk => Own 5 1 r.1 (dirEntB a b c d).length (bc (dirEntB a b c d)) r.2) (fun r => r.1) (fun r => [r.2]) := by
  refine Spec.of Tryz.func170 rfl Tryz.ntmps170 (by simp) fun w => ?_
  refine T.sr <| Rl.e Ef.bxA fun b1 hb1 => Rl.q (Qt.as (v := .slice none 0 0)) <| Rl.nilK <| ?_
  refine T.sr <| Rl.q (Qt.as (v := .slice none 0 0)) <| Rl.nilK <| ?_
  refine T.add0 ?_
  refine T.sr <| Rl.q Qt.mv <| Rl.q Qt.fa0 <| Rl.q Qt.ld <| Rl.e (Ef.call (S := fput32_s (xs := []) (x := a) (Own.nil 5 1))) fun r7 h7 => Rl.q Qt.as <| Rl.nilK <| ?_
  refine T.sr <| Rl.q Qt.mv <| Rl.q Qt.fa <| Rl.q Qt.ld <| Rl.e (Ef.call (S := fput16_s (xs := [] ++ leB 4 a) (x := b) h7)) fun r11 h11 => Rl.q Qt.as <| Rl.nilK <| ?_
  refine T.sr <| Rl.q Qt.mv <| Rl.q Qt.fa <| Rl.q Qt.ld <| Rl.e Ef.bs fun b15 hb15 => Rl.e (Ef.ap (own := h11) (vs := [N .u8 c]) (hl := ⟨rfl, rfl, by simp [leB_length, maxLen], by simp [leB_length]⟩)) fun v16 hv16 => Rl.q Qt.as <| Rl.nilK <| ?_
  refine T.sr <| Rl.q Qt.mv <| Rl.q Qt.fa <| Rl.q Qt.ld <| Rl.e Ef.bs fun b20 hb20 => Rl.e (Ef.ap (own := (Own.b1 (xs := [] ++ leB 4 a ++ leB 2 b) hv16 (by omega))) (vs := [N .u8 d]) (hl := ⟨rfl, rfl, by simp [leB_length, maxLen], by simp [leB_length]⟩)) fun v21 hv21 => Rl.q Qt.as <| Rl.nilK <| ?_
  refine T.sr <| Rl.q Qt.mv <| Rl.q Qt.as <| Rl.nilK <| ?_
  refine T.ret <| Ex.ret1 (.inl rfl) rfl ?_ rfl
  exact fun w h => ⟨v21, by simpa only [dirEntB, List.nil_append, List.append_assoc] using (Own.b1 (xs := [] ++ leB 4 a ++ leB 2 b ++ leB 1 c) hv21 (by omega)), rfl, h.re⟩
def grpDescB (a b c d e f : Nat) : List UInt8 := leB 4 a ++ (leB 4 b ++ (leB 4 c ++ (leB 2 d ++ (leB 2 e ++ (leB 2 f ++ (leB 2 0 ++ (leB 4 0 ++ (leB 2 0 ++ (leB 2 0 ++ (leB 2 0 ++ (leB 2 0)))))))))))
theorem grpDesc_s (a b c d e f : Nat)  :
    Spec Tryz.prog 107 [.agg [N .u32 a, N .u32 b, N .u32 c, N .u16 d, N .u16 e, N .u16 f, N .u16 0, N .u32 0, N .u16 0, N .u16 0, N .u16 0, N .u16 0].toArray] [] [] (fun r : Value × Chunk => Own 5 1 r.1 (grpDescB a b c d e f).length (bc (grpDescB a b c d e f)) r.2) (fun r => r.1) (fun r => [r.2]) := by
  refine Spec.of Tryz.func107 rfl Tryz.ntmps107 (by simp) fun w => ?_
  refine T.sr <| Rl.e Ef.bxA fun b1 hb1 => Rl.q (Qt.as (v := .slice none 0 0)) <| Rl.nilK <| ?_
  refine T.sr <| Rl.q (Qt.as (v := .slice none 0 0)) <| Rl.nilK <| ?_
  refine T.add0 ?_
  refine T.sr <| Rl.q Qt.mv <| Rl.q Qt.fa0 <| Rl.q Qt.ld <| Rl.e (Ef.call (S := fput32_s (xs := []) (x := a) (Own.nil 5 1))) fun r7 h7 => Rl.q Qt.as <| Rl.nilK <| ?_
  refine T.sr <| Rl.q Qt.mv <| Rl.q Qt.fa <| Rl.q Qt.ld <| Rl.e (Ef.call (S := fput32_s (xs := [] ++ leB 4 a) (x := b) h7)) fun r11 h11 => Rl.q Qt.as <| Rl.nilK <| ?_
  refine T.sr <| Rl.q Qt.mv <| Rl.q Qt.fa <| Rl.q Qt.ld <| Rl.e (Ef.call (S := fput32_s (xs := [] ++ leB 4 a ++ leB 4 b) (x := c) h11)) fun r15 h15 => Rl.q Qt.as <| Rl.nilK <| ?_
  refine T.sr <| Rl.q Qt.mv <| Rl.q Qt.fa <| Rl.q Qt.ld <| Rl.e (Ef.call (S := fput16_s (xs := [] ++ leB 4 a ++ leB 4 b ++ leB 4 c) (x := d) h15)) fun r19 h19 => Rl.q Qt.as <| Rl.nilK <| ?_
  refine T.sr <| Rl.q Qt.mv <| Rl.q Qt.fa <| Rl.q Qt.ld <| Rl.e (Ef.call (S := fput16_s (xs := [] ++ leB 4 a ++ leB 4 b ++ leB 4 c ++ leB 2 d) (x := e) h19)) fun r23 h23 => Rl.q Qt.as <| Rl.nilK <| ?_
  refine T.sr <| Rl.q Qt.mv <| Rl.q Qt.fa <| Rl.q Qt.ld <| Rl.e (Ef.call (S := fput16_s (xs := [] ++ leB 4 a ++ leB 4 b ++ leB 4 c ++ leB 2 d ++ leB 2 e) (x := f) h23)) fun r27 h27 => Rl.q Qt.as <| Rl.nilK <| ?_
  refine T.sr <| Rl.q Qt.mv <| Rl.q Qt.fa <| Rl.q Qt.ld <| Rl.e (Ef.call (S := fput16_s (xs := [] ++ leB 4 a ++ leB 4 b ++ leB 4 c ++ leB 2 d ++ leB 2 e ++ leB 2 f) (x := 0) h27)) fun r31 h31 => Rl.q Qt.as <| Rl.nilK <| ?_
  refine T.sr <| Rl.q Qt.mv <| Rl.q Qt.fa <| Rl.q Qt.ld <| Rl.e (Ef.call (S := fput32_s (xs := [] ++ leB 4 a ++ leB 4 b ++ leB 4 c ++ leB 2 d ++ leB 2 e ++ leB 2 f ++ leB 2 0) (x := 0) h31)) fun r35 h35 => Rl.q Qt.as <| Rl.nilK <| ?_
  refine T.sr <| Rl.q Qt.mv <| Rl.q Qt.fa <| Rl.q Qt.ld <| Rl.e (Ef.call (S := fput16_s (xs := [] ++ leB 4 a ++ leB 4 b ++ leB 4 c ++ leB 2 d ++ leB 2 e ++ leB 2 f ++ leB 2 0 ++ leB 4 0) (x := 0) h35)) fun r39 h39 => Rl.q Qt.as <| Rl.nilK <| ?_
  refine T.sr <| Rl.q Qt.mv <| Rl.q Qt.fa <| Rl.q Qt.ld <| Rl.e (Ef.call (S := fput16_s (xs := [] ++ leB 4 a ++ leB 4 b ++ leB 4 c ++ leB 2 d ++ leB 2 e ++ leB 2 f ++ leB 2 0 ++ leB 4 0 ++ leB 2 0) (x := 0) h39)) fun r43 h43 => Rl.q Qt.as <| Rl.nilK <| ?_
  refine T.sr <| Rl.q Qt.mv <| Rl.q Qt.fa <| Rl.q Qt.ld <| Rl.e (Ef.call (S := fput16_s (xs := [] ++ leB 4 a ++ leB 4 b ++ leB 4 c ++ leB 2 d ++ leB 2 e ++ leB 2 f ++ leB 2 0 ++ leB 4 0 ++ leB 2 0 ++ leB 2 0) (x := 0) h43)) fun r47 h47 => Rl.q Qt.as <| Rl.nilK <| ?_
  refine T.sr <| Rl.q Qt.mv <| Rl.q Qt.fa <| Rl.q Qt.ld <| Rl.e (Ef.call (S := fput16_s (xs := [] ++ leB 4 a ++ leB 4 b ++ leB 4 c ++ leB 2 d ++ leB 2 e ++ leB 2 f ++ leB 2 0 ++ leB 4 0 ++ leB 2 0 ++ leB 2 0 ++ leB 2 0) (x := 0) h47)) fun r51 h51 => Rl.q Qt.as <| Rl.nilK <| ?_
  refine T.sr <| Rl.q Qt.mv <| Rl.q Qt.as <| Rl.nilK <| ?_
  refine T.ret <| Ex.ret1 (.inl rfl) rfl ?_ rfl
  exact fun w h => ⟨r51, by simpa only [grpDescB, List.nil_append, List.append_assoc] using h51, rfl, h.re⟩
end SL
end Go.Proofs.YtlmiekcmjpnobaaGreatDoor
namespace Go.Proofs.YtlmiekcmjpnobaaGreatDoor
open Go
namespace SL
set_option maxRecDepth 20000

/-- The lazy buffer of path.Clean, nothing copied yet. -/
abbrev LB (s : List UInt8) (w : Nat) : Obj := .cells [SV s, .slice none 0 0, N .i64 w].toArray 252 (0, 0)
theorem lbAppend_s {b w : Nat} {s : List UInt8} {c : UInt8} (h : s[w]? = some c) (hs : s.length < 1000000) :
    Spec Tryz.prog 138 [Pt b, N .u8 c.toNat] [] [[(b, LB s w)]] (fun _ : Unit => True) (fun _ => .tuple #[]) (fun _ => [[(b, LB s (w + 1))]]) := by
  refine Spec.of Tryz.func138 rfl Tryz.ntmps138 (by simp) fun w => ?_
  have hw := (List.getElem?_eq_some_iff.1 h).1
  refine T.seq ?_
  refine T.sr <| Rl.q Qt.mv <| Rl.q Qt.nc <| Rl.q Qt.fa <| Rl.q Qt.ld <| Rl.q Qt.sleqNil <| Rl.nilK <| ?_
  refine T.condT ?_
  refine T.seq ?_
  refine T.sdr [] ?_ mixed
  refine Dr.qs [0, 1, 2, 3, 4, 5, 6, 7, 8, 9, 10, 11, 12, 13, 14, 15, 16, 17, 18, 19, 20, 21, 22] [] ?_
  refine Dq.q Qt.mv <| Dq.q Qt.nc <| Dq.q Qt.fa <| Dq.q Qt.ld <| Dq.q Qt.mv <| Dq.q Qt.nc <| Dq.q Qt.fa0 <| Dq.q Qt.ld <| ?_
  refine Dq.q Qt.lenS <| Dq.q Qt.ltT <| Dq.q Qt.mv <| Dq.gt <| Dq.q Qt.mv <| Dq.gt <| Dq.q Qt.nc <| Dq.gt <| Dq.q Qt.fa0 <| ?_
  refine Dq.gt <| Dq.q Qt.ld <| Dq.gt <| Dq.q Qt.mv <| Dq.gt <| Dq.q Qt.nc <| Dq.gt <| Dq.q Qt.fa <| ?_
  refine Dq.gt <| Dq.q Qt.ld <| Dq.gt <| Dq.q (Qt.ixS (hc := h)) <| Dq.gt <| Dq.q Qt.mv <| Dq.gt <| Dq.q (Qt.eqT (h := rfl)) <| ?_
  refine Dq.q Qt.pkT <| Dq.nil <| Dr.nilK <| ?_
  refine T.condT ?_
  refine T.sr <| Rl.q Qt.mv <| Rl.q Qt.nc <| Rl.q Qt.fa <| Rl.q Qt.ld <| Rl.q (Qt.add (b := 1)) <| Rl.q Qt.nc <| Rl.q Qt.fa <| ?_
  refine Rl.e0 Ef.st1 fun _ _ => Rl.nilK <| ?_
  refine T.ret <| Ex.Kret <| Ex.Kret <| Ex.ret0 (.inl rfl) ?_ rfl
  exact fun w h => ⟨(), trivial, rfl, h.re⟩

theorem lbString_q {b : Nat} {s : List UInt8} (hs : s.length < 1000000) : QSpec Tryz.prog 140 [Pt b] [[(b, LB s s.length)]] (SV s) := by
  refine QSpec.of Tryz.func140 rfl Tryz.ntmps140 (by simp) fun w => ?_
  refine T.sr <| Rl.q (Qt.as (v := SV [])) <| Rl.nilK <| ?_
  refine T.seq ?_
  refine T.sr <| Rl.q Qt.mv <| Rl.q Qt.nc <| Rl.q Qt.fa <| Rl.q Qt.ld <| Rl.q Qt.sleqNil <| Rl.nilK <| ?_
  refine T.condT ?_
  refine T.sdr [] ?_ mixed
  refine Dr.qs [0, 1, 2, 3, 4, 5, 6, 7, 8, 9] [] ?_
  refine Dq.q Qt.mv <| Dq.q Qt.nc <| Dq.q Qt.fa0 <| Dq.q Qt.ld <| Dq.q Qt.mv <| Dq.q Qt.nc <| Dq.q Qt.fa <| Dq.q Qt.ld <| ?_
  refine Dq.q (Qt.to (u := SV s) Qt.slS (by simp)) <| Dq.q Qt.as <| Dq.nil <| Dr.nilK <| ?_
  refine T.ret <| Ex.Kret <| Ex.ret1 (.inl rfl) rfl ?_ rfl
  exact fun w h => ⟨rfl, h.grown⟩

/-- A name of a directory, as it is given. -/
structure Nm (s : List UInt8) : Prop where
  has : 0 < s.length
  le : s.length ≤ 255
  noS : (47 : UInt8) ∉ s
  d1 : s ≠ [46]
  d2 : s ≠ [46, 46]
theorem Nm.ne {s : List UInt8} (h : Nm s) {i : Nat} {c : UInt8} (hc : s[i]? = some c) : c.toNat ≠ 47 := noSlash h.noS hc
theorem u8_eq {c : UInt8} {k : Nat} (h : c.toNat = k) (hk : k < 256) : c = UInt8.ofNat k := by
  apply UInt8.toNat_inj.1
  rw [h]; simp; omega
theorem Nm.d1' {s : List UInt8} (h : Nm s) {c : UInt8} (h0 : s[0]? = some c) (hc : c.toNat = 46) : 1 < s.length := by
  rcases Nat.lt_or_ge 1 s.length with h1 | h1
  · exact h1
  · exfalso
    have h2 := h.has
    match s, h with
    | [x], h => 
      simp at h0; subst h0
      exact h.d1 (by rw [u8_eq hc (by decide)]; decide)
    | [], _ => simp at h2
    | _ :: _ :: _, _ => simp at h1
theorem Nm.d2' {s : List UInt8} (h : Nm s) {c d : UInt8} (h0 : s[0]? = some c) (hc : c.toNat = 46) (h3 : s[1]? = some d) (hd : d.toNat = 46) : 2 < s.length := by
  rcases Nat.lt_or_ge 2 s.length with h1 | h1
  · exact h1
  · exfalso
    match s, h with
    | [x, y], h => 
      simp at h0 h3; subst h0; subst h3
      exact h.d2 (by rw [u8_eq hc (by decide), u8_eq hd (by decide)]; decide)
    | [], _ => simp at h0
    | [_], _ => simp at h3
    | _ :: _ :: _ :: _, _ => simp at h1
set_option maxHeartbeats 1000000 in
theorem clean_q {s : List UInt8} (h : Nm s) : QSpec Tryz.prog 96 [SV (47 :: s)] [] (SV (47 :: s)) := by
  refine QSpec.of Tryz.func96 rfl Tryz.ntmps96 (by simp) fun w => ?_
  have hlen : (47 :: s).length = s.length + 1 := rfl
  have hle := h.le
  have hhas := h.has
  obtain ⟨c0, hc0⟩ : ∃ c, s[0]? = some c := ⟨_, List.getElem?_eq_getElem hhas⟩
  have hc0' : (47 :: s)[1]? = some c0 := hc0
  have h47 := h.ne hc0
  refine T.sr <| Rl.q (Qt.as (v := SV [])) <| Rl.nilK <| ?_
  refine T.seq ?_
  refine T.sr <| Rl.q Qt.mv <| Rl.q (Qt.seqF (h := by simp)) <| Rl.nilK <| ?_
  refine T.condF ?_
  refine T.skip <| Ex.K <| ?_
  refine T.sr <| Rl.q Qt.mv <| Rl.q (Qt.ixS (c := 47) (hc := rfl)) <| Rl.q (Qt.eqT (b := 47) (h := rfl)) <| Rl.q Qt.as <| Rl.nilK <| ?_
  refine T.sr <| Rl.q Qt.mv <| Rl.q (Qt.toN (c := s.length + 1) Qt.lenS) <| Rl.q Qt.as <| Rl.nilK <| ?_
  refine T.sr <| Rl.q Qt.mv <| Rl.q Qt.bdN <| Rl.e Ef.alA fun b5 hb5 => Rl.e0 Ef.stN fun _ _ => Rl.nilK <| ?_
  refine T.sr <| Rl.q (Qt.as (v := N .i64 0)) <| Rl.q (Qt.as (v := N .i64 0)) <| Rl.nilK <| ?_
  refine T.seq ?_
  refine T.sr <| Rl.q Qt.mv <| Rl.nilK <| ?_
  refine T.condT ?_
  refine T.sr <| Rl.e (Ef.call (S := lbAppend_s (s := 47 :: s) (w := 0) (c := 47) rfl (by omega))) fun _ _ => Rl.nilK <| ?_
  refine T.region <| Rl.q (Qt.as (v := N .i64 1)) <| Rl.q (Qt.as (v := N .i64 1)) <| Rl.nil <| Ex.K <| ?_
  refine T.seq ?_
  refine T.block ?_
  refine T.rounds 1 ?_
  refine T.seq ?_
  refine T.sr <| Rl.q Qt.mv <| Rl.q Qt.mv <| Rl.q (Qt.ltT (a := 1)) <| Rl.nilK <| ?_
  refine T.condT ?_
  refine T.skip <| Ex.K <| ?_
  refine T.block ?_
  refine T.block ?_
  refine T.sr <| Rl.q Qt.mv <| Rl.q Qt.mv <| Rl.q (Qt.ixS (hc := hc0')) <| Rl.q (Qt.eqF (b := 47) (h := h47)) <| Rl.q Qt.as <| Rl.nilK <| ?_
  refine T.condF ?_
  refine T.join (α := Unit) (fun _u => [(3, .bool true), (4, N .i64 (s.length + 1)), (5, Pt b5), (7, N .i64 1), (0, SV (47 :: s)), (6, N .i64 1), (60, .bool false)]) (fun _u => [[(b5, LB (47 :: s) 1)]]) (fun _u => True) ?_ fun _ _ => ?_
  · refine T.region <| Rl.q Qt.mv <| Rl.q Qt.mv <| Rl.q (Qt.ixS (hc := hc0')) <| Rl.eqS (b := 46) (fun h64 => ?_) (fun h64 => ?_)
    · refine Rl.q Qt.mv <| Rl.gt <| Rl.q Qt.mv <| Rl.gt <| Rl.q (Qt.toN (c := 2) (Qt.add (a := 1) (b := 1) (h := by decide)) rfl) <| Rl.gt <| Rl.q Qt.mv <| Rl.gt <| Rl.q (Qt.eqF (a := 2) (h := by have := h.d1' hc0 h64; omega)) <| ?_
      refine Rl.gt <| Rl.q Qt.mv <| ?_
      obtain ⟨c1, hc1⟩ : ∃ c, s[1]? = some c := ⟨_, List.getElem?_eq_getElem (h.d1' hc0 h64)⟩
      refine Rl.gt <| Rl.q Qt.mv <| Rl.gt <| Rl.q Qt.mv <| Rl.gt <| Rl.q (Qt.toN (c := 2) (Qt.add (a := 1) (b := 1) (h := by decide)) rfl) <| Rl.gt <| Rl.q (Qt.ixS (l := 47 :: s) (hc := hc1)) <| ?_
      refine Rl.gt <| Rl.q (Qt.eqF (b := 47) (h := h.ne hc1)) <| Rl.gt <| Rl.q Qt.pkF <| Rl.q Qt.pkT <| Rl.q Qt.as <| Rl.nil <| ?_
      exact Ex.join () trivial (.cons rfl <| .cons rfl <| .cons rfl <| .cons rfl <| .cons rfl <| .cons rfl <| .cons rfl <| .nil)
    · refine Rl.q Qt.mv <| Rl.gf <| Rl.gf <| Rl.gf <| Rl.gf <| Rl.gfu <| Rl.guu <| Rl.guu <| Rl.guu <| Rl.guu <| Rl.guu <| Rl.gf <| Rl.q (Qt.pkF (v := .bool false)) <| ?_
      refine Rl.q Qt.as <| Rl.nil <| ?_
      exact Ex.join () trivial (.cons rfl <| .cons rfl <| .cons rfl <| .cons rfl <| .cons rfl <| .cons rfl <| .cons rfl <| .nil)
  · refine T.condF ?_
    refine T.join (α := Unit) (fun _u => [(3, .bool true), (4, N .i64 (s.length + 1)), (5, Pt b5), (7, N .i64 1), (0, SV (47 :: s)), (6, N .i64 1), (80, .bool false)]) (fun _u => [[(b5, LB (47 :: s) 1)]]) (fun _u => True) ?_ fun _ _ => ?_
    · refine T.region <| Rl.q Qt.mv <| Rl.q Qt.mv <| Rl.q (Qt.ixS (hc := hc0')) <| Rl.eqS (b := 46) (fun h84 => ?_) (fun h84 => ?_)
      · refine Rl.q Qt.mv <| ?_
        obtain ⟨c1, hc1⟩ : ∃ c, s[1]? = some c := ⟨_, List.getElem?_eq_getElem (h.d1' hc0 h84)⟩
        refine Rl.gt <| Rl.q Qt.mv <| Rl.gt <| Rl.q Qt.mv <| Rl.gt <| Rl.q (Qt.toN (c := 2) (Qt.add (a := 1) (b := 1) (h := by decide)) rfl) <| Rl.gt <| Rl.q (Qt.ixS (l := 47 :: s) (hc := hc1)) <| ?_
        refine Rl.gt <| Rl.eqS (b := 46) (fun h90 => ?_) (fun h90 => ?_)
        · refine Rl.q Qt.pkT <| Rl.q Qt.mv <| Rl.gt <| Rl.q Qt.mv <| Rl.gt <| Rl.q (Qt.toN (c := 3) (Qt.add (a := 1) (b := 2) (h := by decide)) rfl) <| Rl.gt <| Rl.q Qt.mv <| ?_
          refine Rl.gt <| Rl.q (Qt.eqF (a := 3) (h := by have := h.d2' hc0 h84 hc1 h90; omega)) <| Rl.gt <| Rl.q Qt.mv <| ?_
          obtain ⟨c2, hc2⟩ : ∃ c, s[2]? = some c := ⟨_, List.getElem?_eq_getElem (h.d2' hc0 h84 hc1 h90)⟩
          refine Rl.gt <| Rl.q Qt.mv <| Rl.gt <| Rl.q Qt.mv <| Rl.gt <| Rl.q (Qt.toN (c := 3) (Qt.add (a := 1) (b := 2) (h := by decide)) rfl) <| Rl.gt <| Rl.q (Qt.ixS (l := 47 :: s) (hc := hc2)) <| ?_
          refine Rl.gt <| Rl.q (Qt.eqF (b := 47) (h := h.ne hc2)) <| Rl.gt <| Rl.q Qt.pkF <| Rl.q Qt.pkT <| Rl.q Qt.as <| Rl.nil <| ?_
          exact Ex.join () trivial (.cons rfl <| .cons rfl <| .cons rfl <| .cons rfl <| .cons rfl <| .cons rfl <| .cons rfl <| .nil)
        · refine Rl.q Qt.pkT <| Rl.q Qt.mv <| Rl.gf <| Rl.gf <| Rl.gf <| Rl.gf <| Rl.gfu <| Rl.guu <| Rl.guu <| Rl.guu <| Rl.guu <| Rl.guu <| Rl.gf <| Rl.q (Qt.pkF (v := .bool false)) <| ?_
          refine Rl.q Qt.as <| Rl.nil <| ?_
          exact Ex.join () trivial (.cons rfl <| .cons rfl <| .cons rfl <| .cons rfl <| .cons rfl <| .cons rfl <| .cons rfl <| .nil)
      · refine Rl.q Qt.mv <| Rl.gf <| Rl.gf <| Rl.gf <| Rl.gf <| Rl.gf <| Rl.q (Qt.pkF (v := .bool false)) <| Rl.q Qt.mv <| ?_
        refine Rl.gf <| Rl.gf <| Rl.gf <| Rl.gf <| Rl.gfu <| Rl.guu <| Rl.guu <| Rl.guu <| Rl.guu <| Rl.guu <| Rl.gf <| Rl.q (Qt.pkF (v := .bool false)) <| ?_
        refine Rl.q Qt.as <| Rl.nil <| ?_
        exact Ex.join () trivial (.cons rfl <| .cons rfl <| .cons rfl <| .cons rfl <| .cons rfl <| .cons rfl <| .cons rfl <| .nil)
    · refine T.condF ?_
      refine T.seq ?_
      refine T.sr <| Rl.q Qt.mv <| Rl.q Qt.mv <| Rl.gt <| Rl.q Qt.fa <| Rl.gt <| Rl.q Qt.ld <| Rl.gt <| Rl.q (Qt.neF (b := 1) (h := rfl)) <| ?_
      refine Rl.q Qt.pkT <| Rl.q Qt.mv <| Rl.gt <| Rl.q Qt.mv <| Rl.gt <| Rl.q Qt.notT <| Rl.gt <| Rl.q Qt.mv <| ?_
      refine Rl.gf <| Rl.gf <| Rl.gf <| Rl.gt <| Rl.q (Qt.pkF (v := .bool false)) <| Rl.q Qt.pkF <| Rl.nilK <| ?_
      refine T.condF ?_
      refine T.skip <| Ex.K <| ?_
      refine T.block ?_
      refine T.loop (α := Nat) (fun r => [(3, .bool true), (4, N .i64 (s.length + 1)), (5, Pt b5), (7, N .i64 1), (0, SV (47 :: s)), (6, N .i64 (r + 1))]) (fun r => [[(b5, LB (47 :: s) (r + 1))]]) (fun r => r ≤ s.length) (fun r => s.length - r)
        0 (Nat.zero_le _) ?_ (fun r hr => ?_)
      · exact .cons rfl <| .cons rfl <| .cons rfl <| .cons rfl <| .cons rfl <| .cons rfl <| .nil
      refine T.seq ?_
      refine T.sr <| Rl.q Qt.mv <| Rl.q Qt.mv <| Rl.ltS (fun h40 => ?_) (fun h40 => ?_)
      · refine Rl.q Qt.mv <| ?_
        obtain ⟨cr, hcr⟩ : ∃ c, s[r]? = some c := ⟨_, List.getElem?_eq_getElem (by omega)⟩
        have hcr2 : (47 :: s)[r + 1]? = some cr := hcr
        refine Rl.gt <| Rl.q Qt.mv <| Rl.gt <| Rl.q Qt.mv <| Rl.gt <| Rl.q (Qt.ixS (hc := hcr2)) <| Rl.gt <| Rl.q (Qt.neT (b := 47) (h := h.ne hcr)) <| ?_
        refine Rl.q Qt.pkT <| Rl.nilK <| ?_
        refine T.condT ?_
        refine T.skip <| Ex.K <| ?_
        refine T.seq ?_
        refine T.block ?_
        refine T.region <| Rl.q Qt.mv <| Rl.q Qt.mv <| Rl.q (Qt.ixS (hc := hcr2)) <| Rl.e (Ef.call (S := lbAppend_s (s := 47 :: s) (w := r + 1) (c := cr) hcr2 (by omega))) fun _ _ => Rl.nil <| Ex.Bnormal <| Ex.K <| ?_
        refine T.region <| Rl.q Qt.mv <| Rl.q (Qt.add (b := 1)) <| Rl.q Qt.as <| Rl.nil <| ?_
        exact Ex.next (r + 1) (by omega) (by omega) (.cons rfl <| .cons rfl <| .cons rfl <| .cons rfl <| .cons rfl <| .cons rfl <| .nil)
      · refine Rl.q Qt.mv <| Rl.gf <| Rl.gf <| Rl.gf <| Rl.gf <| Rl.q (Qt.pkF (v := .bool false)) <| Rl.nilK <| ?_
        refine T.condF ?_
        refine T.exit <| Ex.Kexit <| Ex.Lexit <| Ex.Bhit <| Ex.Bnormal <| Ex.Bnormal <| Ex.LR <| ?_
        refine T.seq ?_
        refine T.sr <| Rl.q Qt.mv <| Rl.q Qt.mv <| Rl.q Qt.ltF <| Rl.nilK <| ?_
        refine T.condF ?_
        refine T.exit <| Ex.Kexit <| Ex.Rexit <| Ex.Bhit <| Ex.K <| ?_
        refine T.seq ?_
        obtain rfl : r = s.length := by omega
        refine T.sr <| Rl.q Qt.fa <| Rl.q Qt.ld <| Rl.q (Qt.eqF (b := 0) (h := by omega)) <| Rl.nilK <| ?_
        refine T.condF ?_
        refine T.skip <| Ex.K <| ?_
        refine T.sr <| Rl.e (Ef.qcall (S := lbString_q (s := 47 :: s) (by omega))) fun _ _ => Rl.q Qt.as <| Rl.nilK <| ?_
        refine T.ret <| Ex.ret1 (.inl rfl) rfl ?_ rfl
        exact fun w h => ⟨rfl, h.grown⟩
end SL
end Go.Proofs.YtlmiekcmjpnobaaGreatDoor
namespace Go.Proofs.YtlmiekcmjpnobaaGreatDoor
open Go
namespace SL
set_option maxRecDepth 20000

/-- An inode of the writer. -/
structure WI where
  size : Nat
  atime : Nat
  ctime : Nat
  mtime : Nat
  crtime : Nat
  num : Nat
  mode : Nat
  uid : Nat
  gid : Nat
  links : Nat
  xb : Nat
  bc : Nat
  maj : Nat
  min : Nat
  flags : Nat
  data : Value
  xin : Value
  kids : Value
abbrev WI.cells (x : WI) : List Value := [N .i64 x.size, N .u64 x.atime, N .u64 x.ctime, N .u64 x.mtime, N .u64 x.crtime, N .u32 x.num, N .u16 x.mode, N .u32 x.uid, N .u32 x.gid, N .u32 x.links, N .u32 x.xb, N .u32 x.bc, N .u32 x.maj, N .u32 x.min, N .u32 x.flags, x.data, x.xin, x.kids]
abbrev IOb (x : WI) : Obj := .cells x.cells.toArray 171 (0, 0)
variable {bW bA bN k cap i cM bM bR : Nat} {s : WS} {l : List Value} {fr : Nat × Nat} {v : Value} {x : WI}
theorem getInode_q (h : s.inodes = Sl bA 0 k cap) (hk : k < 1000000) (hi : 1 ≤ i ∧ i ≤ k) (hv : nth l (i - 1) = some v) : QSpec Tryz.prog 104 [Pt bW, N .u32 i] [[(bW, WO s)], [(bA, .cells l.toArray 156 fr)]] v := by
  refine QSpec.of Tryz.func104 rfl Tryz.ntmps104 (by simp) fun w => ?_
  refine T.sr <| Rl.q (Qt.as (v := .pointer none)) <| Rl.nilK <| ?_
  refine T.seq ?_
  refine T.sr <| Rl.q Qt.mv <| Rl.q (Qt.eqF (b := 0) (h := by omega)) <| Rl.q Qt.mv <| Rl.gt <| Rl.q Qt.mv <| Rl.gt <| Rl.q Qt.cv <| ?_
  refine Rl.gt <| Rl.q Qt.mv <| Rl.gt <| Rl.q Qt.nc <| Rl.gt <| Rl.q Qt.fa <| Rl.gt <| Rl.q (Qt.to (u := Sl bA 0 k cap) Qt.ld (h)) <| ?_
  refine Rl.gt <| Rl.q Qt.len <| Rl.gt <| Rl.q Qt.gtF <| Rl.q Qt.pkF <| Rl.nilK <| ?_
  refine T.condF ?_
  refine T.skip <| Ex.K <| ?_
  refine T.sr <| Rl.q Qt.mv <| Rl.q Qt.nc <| Rl.q Qt.fa <| Rl.q (Qt.to (u := Sl bA 0 k cap) Qt.ld (h)) <| Rl.q Qt.mv <| Rl.q (Qt.sub (b := 1)) <| Rl.q Qt.ia1 <| ?_
  refine Rl.q (Qt.ld (hv := by rw [Nat.zero_add]; exact hv)) <| Rl.q Qt.as <| Rl.nilK <| ?_
  refine T.ret <| Ex.ret1 (.inl rfl) rfl ?_ rfl
  exact fun w h => ⟨rfl, h.grown⟩

theorem root_q (h : s.inodes = Sl bA 0 k cap) (hk : k < 1000000) (hi : 2 ≤ k) (hv : nth l 1 = some v) : QSpec Tryz.prog 98 [Pt bW] [[(bW, WO s)], [(bA, .cells l.toArray 156 fr)]] v := by
  refine QSpec.of Tryz.func98 rfl Tryz.ntmps98 (by simp) fun w => ?_
  refine T.sr <| Rl.q (Qt.as (v := .pointer none)) <| Rl.nilK <| ?_
  refine T.sr <| Rl.q Qt.mv <| Rl.e (Ef.qcall (S := getInode_q (i := 2) h hk (by omega) hv)) fun _ _ => Rl.q Qt.as <| Rl.nilK <| ?_
  refine T.ret <| Ex.ret1 (.inl rfl) rfl ?_ rfl
  exact fun w h => ⟨rfl, h.grown⟩

theorem fileType_q (h : x.mode < 65536) : QSpec Tryz.prog 93 [Pt bN] [[(bN, IOb x)]] (N .u16 (x.mode &&& 61440)) := by
  refine QSpec.of Tryz.func93 rfl Tryz.ntmps93 (by simp) fun w => ?_
  refine T.sr <| Rl.q (Qt.as (v := N .u16 0)) <| Rl.nilK <| ?_
  refine T.sr <| Rl.q Qt.mv <| Rl.q Qt.nc <| Rl.q Qt.fa <| Rl.q Qt.ld <| Rl.q (Qt.and (b := 61440)) <| Rl.q Qt.as <| Rl.nilK <| ?_
  refine T.ret <| Ex.ret1 (.inl rfl) rfl ?_ rfl
  exact fun w h => ⟨rfl, h.grown⟩

theorem isDir_q (h : x.mode < 65536) : QSpec Tryz.prog 82 [Pt bN] [[(bN, IOb x)]] (.bool (decide (x.mode &&& 61440 = 16384))) := by
  refine QSpec.of Tryz.func82 rfl Tryz.ntmps82 (by simp) fun w => ?_
  refine T.sr <| Rl.q (Qt.as (v := .bool false)) <| Rl.nilK <| ?_
  refine T.sr <| Rl.q Qt.mv <| Rl.e (Ef.qcall (S := fileType_q h)) fun _ _ => Rl.q (Qt.eqD (b := 16384)) <| Rl.q Qt.as <| Rl.nilK <| ?_
  refine T.ret <| Ex.ret1 (.inl rfl) rfl ?_ rfl
  exact fun w h => ⟨rfl, h.grown⟩

theorem isDirT_q (h : x.mode < 65536) (hd : x.mode &&& 61440 = 16384) : QSpec Tryz.prog 82 [Pt bN] [[(bN, IOb x)]] (.bool true) := by
  have := isDir_q (bN := bN) h
  rwa [decide_eq_true hd] at this
theorem isDirF_q (h : x.mode < 65536) (hd : x.mode &&& 61440 ≠ 16384) : QSpec Tryz.prog 82 [Pt bN] [[(bN, IOb x)]] (.bool false) := by
  have := isDir_q (bN := bN) h
  rwa [decide_eq_false hd] at this
theorem findPath0_q : QSpec Tryz.prog 129 [Pt bW, Pt bN, SV []] [] (Pt bN) := by
  refine QSpec.of Tryz.func129 rfl Tryz.ntmps129 (by simp) fun w => ?_
  refine T.sr <| Rl.q (Qt.as (v := .pointer none)) <| Rl.nilK <| ?_
  refine T.sr <| Rl.q Qt.mv <| Rl.q Qt.as <| Rl.nilK <| ?_
  refine T.seq ?_
  refine T.block ?_
  refine T.rounds 0 ?_
  refine T.seq ?_
  refine T.sr <| Rl.q Qt.mv <| Rl.q Qt.pneSome <| Rl.q Qt.mv <| Rl.gt <| Rl.q Qt.mv <| Rl.gt <| Rl.q Qt.lenS <| ?_
  refine Rl.gt <| Rl.q (Qt.neF (a := 0) (b := 0) (h := by decide)) <| Rl.q Qt.pkT <| Rl.nilK <| ?_
  refine T.condF ?_
  refine T.exit <| Ex.Kexit <| Ex.Rexit <| Ex.Bhit <| Ex.K <| ?_
  refine T.sr <| Rl.q Qt.mv <| Rl.q Qt.as <| Rl.nilK <| ?_
  refine T.ret <| Ex.ret1 (.inl rfl) rfl ?_ rfl
  exact fun w h => ⟨rfl, h.grown⟩

theorem lastIndex_q {nm : List UInt8} (h : (47 : UInt8) ∉ nm) (hl : nm.length < 1000000) : QSpec Tryz.prog 141 [SV nm, N .u8 47] [] (.int .i64 (-1)) := by
  refine QSpec.of Tryz.func141 rfl Tryz.ntmps141 (by simp) fun w => ?_
  refine T.sr <| Rl.q (Qt.as (v := N .i64 0)) <| Rl.nilK <| ?_
  refine T.seq ?_
  refine T.sr <| Rl.q Qt.mv <| Rl.q Qt.lenS <| Rl.q (Qt.isub (a := (nm.length : Int)) (b := 1)) <| Rl.q Qt.as <| Rl.nilK <| ?_
  refine T.block ?_
  refine T.loop (α := Nat) (fun k => [(0, SV nm), (1, N .u8 47), (5, .int .i64 ((k : Int) - 1))]) (fun k => []) (fun k => k ≤ nm.length) (fun k => k)
    nm.length (Nat.le_refl _) ?_ (fun k hk => ?_)
  · exact .cons rfl <| .cons rfl <| .cons rfl <| .nil
  refine T.seq ?_
  rcases Nat.eq_zero_or_pos k with rfl | hk0
  · skip
    refine T.sr <| Rl.q Qt.mv <| Rl.q (Qt.igeF (b := 0) (h := by decide) (a := -1)) <| Rl.nilK <| ?_
    refine T.condF ?_
    refine T.exit <| Ex.Kexit <| Ex.Lexit <| Ex.Bhit <| Ex.K <| ?_
    refine T.sr <| Rl.q (Qt.as (v := .int .i64 (-1))) <| Rl.nilK <| ?_
    refine T.ret <| Ex.ret1 (.inl rfl) rfl ?_ rfl
    exact fun w h => ⟨rfl, h.grown⟩
  · obtain ⟨j, rfl⟩ : ∃ j, k = j + 1 := ⟨k - 1, by omega⟩
    rw [show (((j + 1 : Nat) : Int) - 1) = Int.ofNat j by simp]
    obtain ⟨c, hc⟩ : ∃ c, nm[j]? = some c := ⟨_, List.getElem?_eq_getElem (by omega)⟩
    refine T.sr <| Rl.q Qt.mv <| Rl.q (Qt.geT (b := 0) (a := j)) <| Rl.nilK <| ?_
    refine T.condT ?_
    refine T.skip <| Ex.K <| ?_
    refine T.seq ?_
    refine T.block ?_
    refine T.sr <| Rl.q Qt.mv <| Rl.q Qt.mv <| Rl.q (Qt.ixS (hc := hc)) <| Rl.q Qt.mv <| Rl.q (Qt.eqF (b := 47) (h := noSlash h hc)) <| Rl.nilK <| ?_
    refine T.condF ?_
    refine T.skip <| Ex.Bnormal <| Ex.K <| ?_
    refine T.region <| Rl.q Qt.mv <| Rl.q (Qt.isub (a := (j : Int)) (b := 1)) <| Rl.q Qt.as <| Rl.nil <| ?_
    exact Ex.next j (by omega) (by omega) (.cons rfl <| .cons rfl <| .cons rfl <| .nil)

theorem split_q {nm : List UInt8} (h : Nm nm) : QSpec Tryz.prog 97 [SV nm] [] (.tuple #[SV [], SV nm]) := by
  refine QSpec.of Tryz.func97 rfl Tryz.ntmps97 (by simp) fun w => ?_
  refine T.sr <| Rl.q (Qt.as (v := SV [])) <| Rl.q (Qt.as (v := SV [])) <| Rl.nilK <| ?_
  refine T.sr <| Rl.q Qt.mv <| Rl.e (Ef.qcall (S := lastIndex_q h.noS (by have := h.le; omega))) fun _ _ => Rl.q Qt.as <| Rl.nilK <| ?_
  refine T.sdr [] ?_ mixed
  refine Dr.qs [0, 1, 2, 3, 4, 5, 6, 7, 8, 9] [] ?_
  refine Dq.q Qt.mv <| Dq.q Qt.mv <| Dq.q (Qt.to (u := N .i64 0) (Qt.iadd (a := -1) (b := 1)) (rfl)) <| Dq.q (Qt.to (u := SV []) Qt.slS (by simp)) <| Dq.q Qt.mv <| Dq.q Qt.mv <| Dq.q (Qt.to (u := N .i64 0) (Qt.iadd (a := -1) (b := 1)) (rfl)) <| Dq.q (Qt.to (u := SV nm) Qt.slS (by simp)) <| ?_
  refine Dq.q Qt.as <| Dq.q Qt.as <| Dq.nil <| Dr.nilK <| ?_
  refine T.ret <| Ex.ret2 (.inl rfl) rfl rfl ?_ rfl
  exact fun w h => ⟨rfl, h.grown⟩

/-- What a name leads to. -/
def kidV (r : Option Value) : Value := r.getD (.pointer none)
theorem lookup_q {nm : List UInt8} {me : Bool} {m : MEs} (h : Nm nm) (hs : s.inodes = Sl bA 0 k cap) (hk : k < 1000000) (hi : 2 ≤ k) (hv : nth l 1 = some (Pt bR)) (hmode : x.mode < 65536) (hdir : x.mode &&& 61440 = 16384) (hkids : x.kids = .map (some bM))
    {r : Value} (hr : kidV (mget m nm) = r) (hme : r = .pointer none ∧ me = false ∨ ∃ p, r = .pointer (some p)) :
    QSpec Tryz.prog 81 [Pt bW, SV nm, .bool me] [[(bW, WO s)], [(bA, .cells l.toArray 156 fr)], [(bR, IOb x)], [(bM, .map (mE m) cM)]] (.tuple #[Pt bR, r, SV nm, .nilIface]) := by
  refine QSpec.of Tryz.func81 rfl Tryz.ntmps81 (by simp) fun w => ?_
  refine T.sr <| Rl.q (Qt.as (v := .pointer none)) <| Rl.q (Qt.as (v := .pointer none)) <| Rl.q (Qt.as (v := SV [])) <| Rl.q (Qt.as (v := .nilIface)) <| Rl.nilK <| ?_
  refine T.sr <| Rl.q Qt.mv <| Rl.e (Ef.qcall (S := root_q hs hk hi hv)) fun _ _ => Rl.q Qt.as <| Rl.nilK <| ?_
  refine T.sr <| Rl.q Qt.mv <| Rl.q (Qt.cat (s := [47]) (s2 := nm) (h := by have := h.le; show 1 + nm.length ≤ _; omega)) <| Rl.e (Ef.qcall (S := clean_q h)) fun _ _ => Rl.q (Qt.to (u := SV nm) (Qt.slS (cl := 1) (hb := ⟨by simp, Nat.le_refl _⟩)) (by simp)) <| Rl.q Qt.as <| Rl.nilK <| ?_
  refine T.seq ?_
  refine T.sr <| Rl.q Qt.mv <| Rl.q Qt.lenS <| Rl.q (Qt.eqF (b := 0) (h := by have := h.has; omega)) <| Rl.nilK <| ?_
  refine T.condF ?_
  refine T.skip <| Ex.K <| ?_
  refine T.sr <| Rl.q Qt.mv <| Rl.e (Ef.qcall (S := split_q h)) fun _ _ => Rl.q Qt.mv <| Rl.q Qt.ex <| Rl.q Qt.ex <| Rl.q Qt.as <| Rl.q Qt.as <| ?_
  refine Rl.nilK <| ?_
  refine T.seq ?_
  refine T.sr <| Rl.q Qt.mv <| Rl.q Qt.lenS <| Rl.q (Qt.eqF (b := 0) (h := by have := h.has; omega)) <| Rl.q Qt.mv <| Rl.gt <| Rl.q Qt.mv <| Rl.gt <| Rl.q Qt.lenS <| ?_
  refine Rl.gt <| Rl.q (Qt.gtF (b := 255) (h := h.le)) <| Rl.q Qt.pkF <| Rl.nilK <| ?_
  refine T.condF ?_
  refine T.skip <| Ex.K <| ?_
  refine T.sr <| Rl.q Qt.mv <| Rl.q Qt.mv <| Rl.q Qt.mv <| Rl.e (Ef.qcall (S := findPath0_q)) fun _ _ => Rl.q Qt.as <| Rl.nilK <| ?_
  refine T.seq ?_
  refine T.sr <| Rl.q Qt.mv <| Rl.q Qt.peqSome <| Rl.q Qt.mv <| Rl.gt <| Rl.q Qt.mv <| Rl.gt <| Rl.e (Ef.qcall (S := isDirT_q hmode hdir)) fun _ _ => ?_
  refine Rl.gt <| Rl.q Qt.notT <| Rl.q Qt.pkF <| Rl.nilK <| ?_
  refine T.condF ?_
  refine T.skip <| Ex.K <| ?_
  refine T.sr <| Rl.q Qt.mv <| Rl.q Qt.nc <| Rl.q Qt.fa <| Rl.q (Qt.to (u := .map (some bM)) Qt.ld (hkids)) <| Rl.q Qt.mv <| Rl.q (Qt.to (u := r) (Qt.lk (hv := rfl)) (hr)) <| Rl.q Qt.as <| ?_
  refine Rl.nilK <| ?_
  refine T.seq ?_
  rcases hme with ⟨rfl, rfl⟩ | ⟨p, rfl⟩
  · refine T.sr <| Rl.q Qt.mv <| Rl.q Qt.peqNil <| Rl.q Qt.mv <| Rl.gt <| Rl.q Qt.mv <| Rl.q Qt.pkT <| Rl.nilK <| ?_
    refine T.condF ?_
    refine T.skip <| Ex.K <| ?_
    refine T.sr <| Rl.q Qt.mv <| Rl.q Qt.mv <| Rl.q Qt.mv <| Rl.q Qt.as <| Rl.q Qt.as <| Rl.q Qt.as <| Rl.q (Qt.as (v := .nilIface)) <| ?_
    refine Rl.nilK <| ?_
    refine T.ret <| Ex.ret4 (.inl rfl) rfl rfl rfl rfl ?_ rfl
    exact fun w h => ⟨rfl, h.grown⟩
  · refine T.sr <| Rl.q Qt.mv <| Rl.q Qt.peqSome <| Rl.q Qt.mv <| Rl.gf <| Rl.q (Qt.pkF (v := .bool false)) <| Rl.nilK <| ?_
    refine T.condF ?_
    refine T.skip <| Ex.K <| ?_
    refine T.sr <| Rl.q Qt.mv <| Rl.q Qt.mv <| Rl.q Qt.mv <| Rl.q Qt.as <| Rl.q Qt.as <| Rl.q Qt.as <| Rl.q (Qt.as (v := .nilIface)) <| ?_
    refine Rl.nilK <| ?_
    refine T.ret <| Ex.ret4 (.inl rfl) rfl rfl rfl rfl ?_ rfl
    exact fun w h => ⟨rfl, h.grown⟩
end SL
end Go.Proofs.YtlmiekcmjpnobaaGreatDoor
namespace Go.Proofs.YtlmiekcmjpnobaaGreatDoor
open Go
namespace SL
set_option maxRecDepth 20000

/-- The disk holds these bytes, the last of which may be zeros that are not there yet. -/
def DskOk (v : Value) (E : Chunk) (xs : List UInt8) : Prop := ∃ ys, Own 5 1 v ys.length (bc ys) E ∧ ys.length ≤ xs.length ∧ xs = padZ ys xs.length
theorem DskOk.of {v : Value} {E : Chunk} {xs : List UInt8} (h : Own 5 1 v xs.length (bc xs) E) : DskOk v E xs := ⟨xs, h, Nat.le_refl _, (padZ_ge (Nat.le_refl _)).symm⟩
theorem wrB_app {ys xs bs : List UInt8} (h1 : ys.length ≤ xs.length) (h2 : xs = padZ ys xs.length) : wrB ys xs.length bs = xs ++ bs := by
  have h3 : padZ ys (xs.length + bs.length) = xs ++ List.replicate bs.length 0 := by
    rw [padZ, show xs.length + bs.length - ys.length = (xs.length - ys.length) + bs.length by omega, ← List.replicate_append_replicate, ← List.append_assoc]
    rw [padZ] at h2
    rw [← h2]
  rw [wrB, h3, putB, List.take_left' rfl, List.drop_eq_nil_of_le (by simp), List.append_nil]
theorem padZ_add (l : List UInt8) (n : Nat) : padZ l (l.length + n) = l ++ List.replicate n 0 := by rw [padZ, Nat.add_sub_cancel_left]
variable {bW bD bN b o k c e p : Nat} {R : List Value} {fr : Nat × Nat} {bs xs : List UInt8} {v : Value} {E : Chunk} {s : WS} {x : WI}
theorem write_a (hR : RowB R o bs) (hk : k = bs.length) (hd : DskOk v E xs) (hp : s.pos = xs.length) (h0 : 0 < bs.length) (h1 : s.pos + bs.length ≤ s.max) (h3 : s.max < 1099511627776) :
    Spec Tryz.prog 87 [Pt bW, Sl b o k c] [[(b, .cells R.toArray e fr)]] [[(s.disk, DO v s.pos)], E, [(bW, WO s)]]
      (fun r : Value × Chunk => DskOk r.1 r.2 (xs ++ bs)) (fun _ => .tuple #[N .i64 k, .nilIface]) (fun r => [[(s.disk, DO r.1 (s.pos + bs.length))], r.2, [(bW, WO { s with pos := s.pos + bs.length })]]) := by
  obtain ⟨ys, ho, hl, hx⟩ := hd
  intro w a1 a2 a3 a4
  have := write_s (bW := bW) (c := c) (e := e) (fr := fr) (s := s) hR hk ho h0 h1 (by omega) h3 w a1 a2 a3 a4
  rw [hp, wrB_app hl hx, ← hp] at this
  exact this.mono fun e w' ⟨r, hr, h⟩ => ⟨r, DskOk.of hr, h⟩

set_option maxHeartbeats 1000000 in
theorem put0_s (own : Own 5 1 v xs.length (bc xs) E) (h2 : xs.length < 1099511627776) (h0 : 0 < xs.length) :
    Spec Tryz.prog 106 [Pt bD, Sl b o 0 c] [[(b, .cells R.toArray e fr)]] [[(bD, DO v xs.length)], E] (fun _ : Unit => True) (fun _ => .tuple #[]) (fun _ => [[(bD, DO v xs.length)], E]) := by
  refine Spec.of Tryz.func106 rfl Tryz.ntmps106 (by simp) fun w => ?_
  obtain ⟨b2, cap, sp, hv, hc1, hc2, hE, hspl⟩ := own.some h0
  rw [hv, hE]
  simp only [maxLen] at hc2
  have hm0 : Nat.min 0 (xs.length - xs.length) = 0 := Nat.zero_min _
  refine T.seq ?_
  refine T.sr <| Rl.q Qt.mv <| Rl.q Qt.nc <| Rl.q Qt.fa <| Rl.q Qt.ld <| Rl.q Qt.mv <| Rl.q Qt.len <| Rl.q (Qt.toN (c := xs.length) Qt.add (rfl)) <| ?_
  refine Rl.q Qt.as <| Rl.nilK <| ?_
  refine T.sr <| Rl.q Qt.mv <| Rl.q Qt.mv <| Rl.q Qt.nc <| Rl.q Qt.fa0 <| Rl.q Qt.ld <| Rl.q Qt.len <| Rl.q Qt.gtF <| ?_
  refine Rl.nilK <| ?_
  refine T.condF ?_
  refine T.skip <| Ex.K <| ?_
  refine T.sdr [10] ?_ mixed
  refine Dr.qs [0, 1, 2, 3, 4, 5, 6, 7, 8, 9] [] ?_
  refine Dq.q Qt.mv <| Dq.q Qt.nc <| Dq.q Qt.fa0 <| Dq.q Qt.ld <| Dq.q Qt.mv <| Dq.q Qt.nc <| Dq.q Qt.fa <| Dq.q Qt.ld <| ?_
  refine Dq.q Qt.sl <| Dq.q Qt.mv <| Dq.nil <| ?_
  refine Dr.e 10 <| Eo.e rfl (Ef.cp (vs := []) (hs := by rw [hm0]; cases R <;> cases o <;> rfl) (hl := ⟨by rw [hm0]; unfold cutAt; simp only [List.length_append, bc_length] at *; split <;> omega, rfl⟩)) fun _ _ => Dr.nilK <| ?_
  refine T.region <| Rl.q Qt.mv <| Rl.q Qt.nc <| Rl.q Qt.fa <| Rl.q Qt.ld <| Rl.q Qt.mv <| Rl.q Qt.len <| Rl.q (Qt.toN (c := xs.length) Qt.add (rfl)) <| ?_
  refine Rl.q Qt.nc <| Rl.q Qt.fa <| Rl.e0 Ef.st1 fun _ _ => Rl.nil <| Ex.ret0 (.inr rfl) ?_ rfl
  have he : ∀ l o, putL l o [] = l := fun l o => by simp [putL]
  exact fun w h => ⟨(), trivial, rfl, by rw [he] at h; exact h.re⟩

theorem zero_a {n : Nat} (hd : DskOk v E xs) (hp : s.pos = xs.length) (h0 : 0 < n) (h1 : s.pos + n ≤ s.max) (h3 : s.max < 1099511627776) :
    Spec Tryz.prog 105 [Pt bW, N .i64 n] [] [[(s.disk, DO v s.pos)], E, [(bW, WO s)]]
      (fun r : Value × Chunk => DskOk r.1 r.2 (xs ++ List.replicate n 0)) (fun _ => .tuple #[N .i64 n, .nilIface]) (fun r => [[(s.disk, DO r.1 (s.pos + n))], r.2, [(bW, WO { s with pos := s.pos + n })]]) := by
  obtain ⟨ys, ho, hl, hx⟩ := hd
  intro w a1 a2 a3 a4
  have := zero_s (bW := bW) (s := s) ho h0 h1 (by omega) h3 w a1 a2 a3 a4
  rw [hp, wrB_app hl hx, ← hp] at this
  exact this.mono fun e w' ⟨r, hr, h⟩ => ⟨r, DskOk.of hr, h⟩
theorem zero0_s (own : Own 5 1 v xs.length (bc xs) E) (hp : s.pos = xs.length) (h0 : 0 < xs.length) (h1 : s.pos ≤ s.max) (h3 : s.max < 1099511627776) :
    Spec Tryz.prog 105 [Pt bW, N .i64 0] [] [[(s.disk, DO v s.pos)], E, [(bW, WO s)]] (fun _ : Unit => True) (fun _ => .tuple #[N .i64 0, .nilIface]) (fun _ => [[(s.disk, DO v s.pos)], E, [(bW, WO s)]]) := by
  refine Spec.of Tryz.func105 rfl Tryz.ntmps105 (by simp) fun w => ?_
  rw [hp]
  refine T.sr <| Rl.q (Qt.as (v := N .i64 0)) <| Rl.q (Qt.as (v := .nilIface)) <| Rl.nilK <| ?_
  refine T.seq ?_
  refine T.sr <| Rl.q Qt.mv <| Rl.q Qt.nc <| Rl.q Qt.fa <| Rl.q Qt.ld <| Rl.q Qt.ineNil <| Rl.nilK <| ?_
  refine T.condF ?_
  refine T.skip <| Ex.K <| ?_
  refine T.seq ?_
  refine T.sdr [] ?_ mixed
  refine Dr.qs [0, 1, 2, 3, 4, 5, 6, 7, 8, 9, 10] [] ?_
  refine Dq.q Qt.mv <| Dq.q Qt.nc <| Dq.q Qt.fa <| Dq.q Qt.ld <| Dq.q Qt.mv <| Dq.q Qt.add <| Dq.q Qt.mv <| Dq.q Qt.nc <| ?_
  refine Dq.q Qt.fa <| Dq.q Qt.ld <| Dq.q Qt.gtF <| Dq.nil <| Dr.nilK <| ?_
  refine T.condF ?_
  refine T.skip <| Ex.K <| ?_
  refine T.sdr [6] ?_ mixed
  refine Dr.qs [0, 1, 2, 3, 4] [] ?_
  refine Dq.q Qt.mv <| Dq.q Qt.nc <| Dq.q Qt.fa0 <| Dq.q Qt.ld <| Dq.q Qt.mv <| Dq.nil <| ?_
  refine Dr.e 5 <| Eo.e rfl Ef.mk fun b44 hb44 => ?_
  refine Dr.e 6 <| Eo.e rfl (Ef.call (S := put0_s own (by omega) h0)) fun _ _ => Dr.nilK <| ?_
  refine T.sr <| Rl.q Qt.mv <| Rl.q Qt.nc <| Rl.q Qt.fa <| Rl.q Qt.ld <| Rl.q Qt.mv <| Rl.q Qt.add <| Rl.q Qt.nc <| ?_
  refine Rl.q Qt.fa <| Rl.e0 Ef.st1 fun _ _ => Rl.nilK <| ?_
  refine T.sr <| Rl.q Qt.mv <| Rl.q Qt.as <| Rl.q (Qt.as (v := .nilIface)) <| Rl.nilK <| ?_
  refine T.ret <| Ex.ret2 (.inl rfl) rfl rfl ?_ rfl
  exact fun w h => ⟨(), trivial, rfl, h.re⟩

/-- How many bytes are wanted up to a whole block. -/
def upB (n : Nat) : Nat := (n + 4095) / 4096 * 4096
theorem wblock_v {n : Nat} (h : s.pos < 1099511627776) (hn : s.pos / 4096 = n) : QSpec Tryz.prog 89 [Pt bW] [[(bW, WO s)]] (N .u32 n) := hn ▸ wblock_q h
theorem nextBlock_s (hd : DskOk v E xs) (hp : s.pos = xs.length) (h1 : s.pos + 4096 ≤ s.max) (h3 : s.max < 1099511627776) :
    Spec Tryz.prog 160 [Pt bW] [] [[(s.disk, DO v s.pos)], E, [(bW, WO s)]] (fun r : Value × Chunk => DskOk r.1 r.2 (padZ xs (upB xs.length))) (fun _ => .tuple #[])
      (fun r => [[(s.disk, DO r.1 (upB xs.length))], r.2, [(bW, WO { s with pos := upB xs.length })]]) := by
  refine Spec.of Tryz.func160 rfl Tryz.ntmps160 (by simp) fun w => ?_
  have hu : upB xs.length = xs.length + (upB xs.length - xs.length) := by unfold upB; omega
  refine T.sr <| Rl.q Qt.mv <| Rl.q Qt.nc <| Rl.q Qt.fa <| Rl.q Qt.ld <| Rl.q (Qt.rem (b := 4096)) <| Rl.neS (b := 0) (fun h7 => ?_) (fun h7 => ?_)
  · refine Rl.nilK <| ?_
    refine T.condT ?_
    refine T.region <| Rl.q Qt.mv <| Rl.q Qt.mv <| Rl.q Qt.nc <| Rl.q Qt.fa <| Rl.q Qt.ld <| Rl.q (Qt.rem (b := 4096)) <| Rl.q (Qt.sub (a := 4096) (b := s.pos % 4096)) <| ?_
    refine Rl.e (Ef.call (S := zero_a (n := 4096 - s.pos % 4096) hd hp (by omega) (by omega) h3)) fun r hr => Rl.q Qt.mv <| Rl.q Qt.ex <| Rl.q Qt.ex <| Rl.nil <| Ex.ret0 (.inr rfl) ?_ rfl
    have e1 : s.pos + (4096 - s.pos % 4096) = upB xs.length := by rw [hp] at h7 ⊢; unfold upB; omega
    rw [e1]
    have e2 : 4096 - s.pos % 4096 = upB xs.length - xs.length := by omega
    rw [e2, ← padZ_add, ← hu] at hr
    exact fun w h => ⟨r, hr, rfl, h.re⟩
  · refine Rl.nilK <| ?_
    refine T.condF ?_
    refine T.skip <| Ex.ret0 (.inr rfl) ?_ rfl
    have e1 : s.pos = upB xs.length := by rw [hp] at h7 ⊢; unfold upB; omega
    have e2 : padZ xs (upB xs.length) = xs := padZ_ge (by omega)
    rw [← e2] at hd
    rw [← e1]
    exact fun w h => ⟨(v, E), by rw [e1]; exact hd, rfl, h.re⟩
end SL
end Go.Proofs.YtlmiekcmjpnobaaGreatDoor
namespace Go.Proofs.YtlmiekcmjpnobaaGreatDoor
open Go
namespace SL
set_option maxRecDepth 20000

variable {bW bD bN b o k c e p st nb : Nat} {R : List Value} {fr : Nat × Nat} {bs xs : List UInt8} {v : Value} {E : Chunk} {s : WS} {x : WI}
abbrev rootX (h0 h1 h2 a b : Nat) : List Value := [N .u16 h0, N .u16 h1, N .u16 h2, N .u16 0, N .u32 0, N .u32 0, N .u16 a, N .u16 0, N .u32 b, N .u32 0, N .u16 0, N .u16 0, N .u32 0, N .u32 0, N .u16 0, N .u16 0, N .u32 0, N .u32 0, N .u16 0, N .u16 0, N .u32 0]
theorem fillExtents_s (hn : 1 ≤ nb) (hnb : nb ≤ 32768) (hst : st < 268435456) :
    Spec Tryz.prog 161 [Pt b, .slice (some ⟨b, 5, none⟩) 1 4, N .u32 st, N .u32 0, N .u32 nb] [] [[(b, .cells (rootX 0 0 0 0 0).toArray 281 (0, 0))]] (fun _ : Unit => True) (fun _ => .tuple #[])
      (fun _ => [[(b, .cells (rootX 62218 1 4 nb st).toArray 281 (0, 0))]]) := by
  refine Spec.of Tryz.func161 rfl Tryz.ntmps161 (by simp) fun w => ?_
  refine T.sr <| Rl.q Qt.mv <| Rl.q Qt.mv <| Rl.q Qt.len <| Rl.q (Qt.cv (a := 1) (h := by decide)) <| Rl.q Qt.mv <| Rl.q Qt.cap <| Rl.q (Qt.cv (a := 4) (h := by decide)) <| ?_
  refine Rl.q Qt.bdN <| Rl.q Qt.nc <| Rl.e0 Ef.stN fun _ _ => Rl.nilK <| ?_
  refine T.sr <| Rl.q Qt.mv <| Rl.q Qt.len <| Rl.q (Qt.mv (v := N .i64 0)) <| Rl.nilK <| ?_
  refine T.block ?_
  refine T.rounds 1 ?_
  refine T.sr <| Rl.q (Qt.ltT (a := 0) (b := 1) (h := by decide)) <| Rl.nilK <| ?_
  refine T.seq ?_
  refine T.condT ?_
  refine T.skip <| Ex.K <| ?_
  refine T.seq ?_
  refine T.block ?_
  refine T.sr <| Rl.q Qt.mv <| Rl.q Qt.as <| Rl.nilK <| ?_
  refine T.sr <| Rl.q Qt.mv <| Rl.q Qt.mv <| Rl.q (Qt.cv (a := 0) (h := by decide)) <| Rl.q (Qt.toN (c := 0) (Qt.mul (a := 0) (b := 32768) (h := by decide)) rfl) <| Rl.q (Qt.add (b := 0)) <| Rl.q Qt.as <| Rl.nilK <| ?_
  refine T.sr <| Rl.q Qt.mv <| Rl.q Qt.mv <| Rl.q (Qt.toN (c := nb) Qt.sub (rfl)) <| Rl.q Qt.as <| Rl.nilK <| ?_
  refine T.seq ?_
  refine T.sr <| Rl.q Qt.mv <| Rl.q (Qt.gtF (b := 32768)) <| Rl.nilK <| ?_
  refine T.condF ?_
  refine T.skip <| Ex.K <| ?_
  refine T.sr <| Rl.q Qt.mv <| Rl.q Qt.mv <| Rl.q (Qt.toN (c := st) Qt.add) <| Rl.q Qt.as <| Rl.nilK <| ?_
  refine T.region <| Rl.q Qt.mv <| Rl.q Qt.mv <| Rl.q Qt.mv <| Rl.q Qt.mv <| Rl.q Qt.cv <| Rl.q Qt.mv <| Rl.q Qt.bdN <| ?_
  refine Rl.q (Qt.to (u := .pointer (some ⟨b, 5, none⟩)) Qt.ia (rfl)) <| Rl.e0 Ef.stN fun _ _ => Rl.nil <| Ex.Bnormal <| Ex.K <| ?_
  refine T.region <| Rl.q (Qt.toN (c := 1) (Qt.add (a := 0) (b := 1) (h := by decide)) rfl) <| Rl.q Qt.mv <| Rl.nil <| Ex.LR <| ?_
  refine T.sr <| Rl.q (Qt.ltF (a := 1) (b := 1) (h := by decide)) <| Rl.nilK <| ?_
  refine T.seq ?_
  refine T.condF ?_
  refine T.exit <| Ex.Kexit <| Ex.Rexit <| Ex.Bhit <| Ex.ret0 (.inr rfl) ?_ rfl
  exact fun w h => ⟨(), trivial, rfl, h.re⟩

/-- The extents of a file that lies in one piece. -/
def ext1B (st nb : Nat) : List UInt8 := extHdrB 62218 1 4 0 0 ++ (extLeafB 0 nb 0 st ++ (extLeafB 0 0 0 0 ++ (extLeafB 0 0 0 0 ++ extLeafB 0 0 0 0)))
theorem extHdrB_length (a b c d e : Nat) : (extHdrB a b c d e).length = 12 := by simp [extHdrB, leB_length]
theorem extLeafB_length (a b c d : Nat) : (extLeafB a b c d).length = 12 := by simp [extLeafB, leB_length]
theorem ext1B_length (st nb : Nat) : (ext1B st nb).length = 60 := by simp [ext1B, extHdrB_length, extLeafB_length]
set_option maxHeartbeats 2000000 in
theorem writeExtents_s (hd : DskOk v E xs) (hp : s.pos = xs.length) (hst : s.pos = st * 4096 + s.dw) (h0 : 0 < s.dw) (hdw : s.dw ≤ 134217728) (hnb : (s.dw + 4095) / 4096 = nb) (h1 : s.pos + 4096 ≤ s.max) (h3 : s.max < 1099511627776) (hbc : x.bc + nb < 4294967296) (hfl : x.flags < 4294967296) :
    Spec Tryz.prog 128 [Pt bW, Pt bN] [] [[(s.disk, DO v s.pos)], E, [(bW, WO s)], [(bN, IOb x)]]
      (fun r : (Value × Chunk) × (Value × Chunk) => DskOk r.1.1 r.1.2 (padZ xs ((st + nb) * 4096)) ∧ Own 5 1 r.2.1 60 (bc (ext1B st nb)) r.2.2) (fun _ => .nilIface)
      (fun r => [[(s.disk, DO r.1.1 ((st + nb) * 4096))], r.1.2, [(bW, WO { s with pos := (st + nb) * 4096 })], [(bN, IOb { x with data := r.2.1, flags := x.flags ||| 524288, bc := x.bc + nb })], r.2.2]) := by
  refine Spec.of Tryz.func128 rfl Tryz.ntmps128 (by simp) fun w => ?_
  have hup : upB xs.length = (st + nb) * 4096 := by unfold upB; omega
  have hnb1 : 1 ≤ nb := by omega
  have hnb2 : nb ≤ 32768 := by omega
  have hst2 : st < 268435456 := by omega
  refine T.sr <| Rl.q (Qt.as (v := .nilIface)) <| Rl.nilK <| ?_
  refine T.sdr [] ?_ mixed
  refine Dr.qs [0, 1, 2, 3, 4, 5, 6, 7, 8, 9] [] ?_
  refine Dq.q Qt.mv <| Dq.q Qt.nc <| Dq.q Qt.fa <| Dq.q Qt.ld <| Dq.q Qt.mv <| Dq.q Qt.nc <| Dq.q Qt.fa <| Dq.q Qt.ld <| ?_
  refine Dq.q (Qt.toN (c := st * 4096) (Qt.sub (a := s.pos) (b := s.dw)) (by omega)) <| Dq.q Qt.as <| Dq.nil <| Dr.nilK <| ?_
  refine T.seq ?_
  refine T.sr <| Rl.q Qt.mv <| Rl.q (Qt.toN (c := 0) (Qt.rem (b := 4096)) (by omega)) <| Rl.q (Qt.neF (a := 0) (b := 0) (h := by decide)) <| Rl.nilK <| ?_
  refine T.condF ?_
  refine T.skip <| Ex.K <| ?_
  refine T.sr <| Rl.q Qt.mv <| Rl.e (Ef.call (S := nextBlock_s hd hp h1 h3)) fun r41 hr41 => Rl.nilK <| ?_
  refine T.sr <| Rl.q Qt.mv <| Rl.q (Qt.toN (c := st) (Qt.quo (b := 4096)) (by omega)) <| Rl.q Qt.cv <| Rl.q Qt.as <| Rl.nilK <| ?_
  refine T.sr <| Rl.q Qt.mv <| Rl.e (Ef.qcall (S := wblock_v (s := { s with pos := upB xs.length }) (n := st + nb) (by show upB xs.length < _; omega) (by show upB xs.length / 4096 = _; omega))) fun _ _ => Rl.q Qt.mv <| Rl.q (Qt.toN (c := nb) Qt.sub (Nat.add_sub_cancel_left ..)) <| Rl.q Qt.as <| Rl.nilK <| ?_
  refine T.sr <| Rl.q Qt.mv <| Rl.q Qt.as <| Rl.nilK <| ?_
  refine T.sr <| Rl.q Qt.mv <| Rl.q (Qt.add (b := 32768)) <| Rl.q (Qt.sub (b := 1)) <| Rl.q (Qt.toN (c := 1) (Qt.quo (b := 32768)) (by omega)) <| Rl.q Qt.as <| Rl.nilK <| ?_
  refine T.sr <| Rl.q (Qt.as (v := .slice none 0 0)) <| Rl.nilK <| ?_
  refine T.seq ?_
  refine T.sr <| Rl.q Qt.mv <| Rl.q (Qt.eqF (a := 1) (b := 0) (h := by decide)) <| Rl.nilK <| ?_
  refine T.condF ?_
  refine T.sr <| Rl.q Qt.mv <| Rl.q (Qt.leT (a := 1) (b := 4) (h := by decide)) <| Rl.nilK <| ?_
  refine T.condT ?_
  refine T.sr <| Rl.e Ef.alA fun b11 hb11 => Rl.nilK <| ?_
  refine T.sr <| Rl.q Qt.fa0 <| Rl.q Qt.fa <| Rl.q Qt.mv <| Rl.q (Qt.to (u := .slice (some ⟨b11, 5, none⟩) 1 4) Qt.slA (rfl)) <| Rl.q Qt.mv <| Rl.q Qt.mv <| Rl.e (Ef.call (S := fillExtents_s hnb1 hnb2 hst2)) fun _ _ => ?_
  refine Rl.nilK <| ?_
  refine T.add0 ?_
  refine T.sr <| Rl.q Qt.mv <| Rl.q Qt.fa0 <| Rl.q Qt.ldA <| Rl.e (Ef.call (S := extHdr_s 62218 1 4 0 0)) fun r68 h68 => ?_
  rw [extHdrB_length] at h68
  obtain ⟨b68, c68, sp68, hv68, hc68, _, hE68, _⟩ := h68.some (by decide)
  rw [hv68, hE68]
  refine Rl.e (Ef.ap (own := Own.nil 5 1) (hs := seg_bcl (extHdrB_length ..)) (hl := ⟨rfl, bc_ones _, by decide, by decide⟩)) fun v69 hv69 => Rl.q Qt.as <| Rl.nilK <| ?_
  refine T.sr <| Rl.q Qt.fa <| Rl.q Qt.ldA <| Rl.q (Qt.mv (v := N .i64 0)) <| Rl.nilK <| ?_
  refine T.block ?_
  refine T.rounds 4 ?_
  refine T.sr <| Rl.q (Qt.ltT (a := 0) (b := 4) (h := by decide)) <| Rl.nilK <| ?_
  refine T.seq ?_
  refine T.condT ?_
  refine T.skip <| Ex.K <| ?_
  refine T.seq ?_
  refine T.block ?_
  refine T.sr <| Rl.q Qt.ixAg <| Rl.e Ef.alA fun b13 hb13 => Rl.e0 Ef.stN fun _ _ => Rl.nilK <| ?_
  refine T.region <| Rl.q Qt.mv <| Rl.q Qt.ldA <| Rl.e (Ef.call (S := extLeaf_s 0 nb 0 st)) fun r77a h77a => ?_
  rw [extLeafB_length] at h77a
  obtain ⟨b77a, c77a, sp77a, hv77a, hc77a, _, hE77a, _⟩ := h77a.some (by decide)
  rw [hv77a, hE77a]
  refine Rl.e (Ef.ap (own := hv69) (hs := seg_bcl (extLeafB_length ..)) (hl := ⟨rfl, bc_ones _, by decide, by decide⟩)) fun v78a hv78a => Rl.q Qt.as <| Rl.nil <| Ex.Bnormal <| Ex.K <| ?_
  refine T.region <| Rl.q (Qt.toN (c := 1) (Qt.add (a := 0) (b := 1) (h := by decide)) rfl) <| Rl.q Qt.mv <| Rl.nil <| Ex.LR <| ?_
  refine T.sr <| Rl.q (Qt.ltT (a := 1) (b := 4) (h := by decide)) <| Rl.nilK <| ?_
  refine T.seq ?_
  refine T.condT ?_
  refine T.skip <| Ex.K <| ?_
  refine T.seq ?_
  refine T.block ?_
  refine T.sr <| Rl.q Qt.ixAg <| Rl.e Ef.alA fun b13 hb13 => Rl.e0 Ef.stN fun _ _ => Rl.nilK <| ?_
  refine T.region <| Rl.q Qt.mv <| Rl.q Qt.ldA <| Rl.e (Ef.call (S := extLeaf_s 0 0 0 0)) fun r77b h77b => ?_
  rw [extLeafB_length] at h77b
  obtain ⟨b77b, c77b, sp77b, hv77b, hc77b, _, hE77b, _⟩ := h77b.some (by decide)
  rw [hv77b, hE77b]
  refine Rl.e (Ef.ap (own := hv78a) (hs := seg_bcl (extLeafB_length ..)) (hl := ⟨rfl, bc_ones _, by decide, by decide⟩)) fun v78b hv78b => Rl.q Qt.as <| Rl.nil <| Ex.Bnormal <| Ex.K <| ?_
  refine T.region <| Rl.q (Qt.toN (c := 2) (Qt.add (a := 1) (b := 1) (h := by decide)) rfl) <| Rl.q Qt.mv <| Rl.nil <| Ex.LR <| ?_
  refine T.sr <| Rl.q (Qt.ltT (a := 2) (b := 4) (h := by decide)) <| Rl.nilK <| ?_
  refine T.seq ?_
  refine T.condT ?_
  refine T.skip <| Ex.K <| ?_
  refine T.seq ?_
  refine T.block ?_
  refine T.sr <| Rl.q Qt.ixAg <| Rl.e Ef.alA fun b13 hb13 => Rl.e0 Ef.stN fun _ _ => Rl.nilK <| ?_
  refine T.region <| Rl.q Qt.mv <| Rl.q Qt.ldA <| Rl.e (Ef.call (S := extLeaf_s 0 0 0 0)) fun r77c h77c => ?_
  rw [extLeafB_length] at h77c
  obtain ⟨b77c, c77c, sp77c, hv77c, hc77c, _, hE77c, _⟩ := h77c.some (by decide)
  rw [hv77c, hE77c]
  refine Rl.e (Ef.ap (own := hv78b) (hs := seg_bcl (extLeafB_length ..)) (hl := ⟨rfl, bc_ones _, by decide, by decide⟩)) fun v78c hv78c => Rl.q Qt.as <| Rl.nil <| Ex.Bnormal <| Ex.K <| ?_
  refine T.region <| Rl.q (Qt.toN (c := 3) (Qt.add (a := 2) (b := 1) (h := by decide)) rfl) <| Rl.q Qt.mv <| Rl.nil <| Ex.LR <| ?_
  refine T.sr <| Rl.q (Qt.ltT (a := 3) (b := 4) (h := by decide)) <| Rl.nilK <| ?_
  refine T.seq ?_
  refine T.condT ?_
  refine T.skip <| Ex.K <| ?_
  refine T.seq ?_
  refine T.block ?_
  refine T.sr <| Rl.q Qt.ixAg <| Rl.e Ef.alA fun b13 hb13 => Rl.e0 Ef.stN fun _ _ => Rl.nilK <| ?_
  refine T.region <| Rl.q Qt.mv <| Rl.q Qt.ldA <| Rl.e (Ef.call (S := extLeaf_s 0 0 0 0)) fun r77d h77d => ?_
  rw [extLeafB_length] at h77d
  obtain ⟨b77d, c77d, sp77d, hv77d, hc77d, _, hE77d, _⟩ := h77d.some (by decide)
  rw [hv77d, hE77d]
  refine Rl.e (Ef.ap (own := hv78c) (hs := seg_bcl (extLeafB_length ..)) (hl := ⟨rfl, bc_ones _, by decide, by decide⟩)) fun v78d hv78d => Rl.q Qt.as <| Rl.nil <| Ex.Bnormal <| Ex.K <| ?_
  refine T.region <| Rl.q (Qt.toN (c := 4) (Qt.add (a := 3) (b := 1) (h := by decide)) rfl) <| Rl.q Qt.mv <| Rl.nil <| Ex.LR <| ?_
  refine T.sr <| Rl.q (Qt.ltF (a := 4) (b := 4) (h := by decide)) <| Rl.nilK <| ?_
  refine T.seq ?_
  refine T.condF ?_
  refine T.exit <| Ex.Kexit <| Ex.Rexit <| Ex.Bhit <| Ex.K <| ?_
  have hfin : Own 5 1 v78d.1 60 (bc (ext1B st nb)) v78d.2 := by simpa only [ext1B, bc_app, List.nil_append, List.append_assoc] using hv78d
  refine T.sr <| Rl.q Qt.mv <| Rl.q Qt.mv <| Rl.q Qt.nc <| Rl.q Qt.fa <| Rl.e0 Ef.st1 fun _ _ => Rl.nilK <| ?_
  refine T.sr <| Rl.q Qt.mv <| Rl.q Qt.nc <| Rl.q Qt.fa <| Rl.q Qt.ld <| Rl.q (Qt.or (b := 524288)) <| Rl.q Qt.nc <| Rl.q Qt.fa <| ?_
  refine Rl.e0 Ef.st1 fun _ _ => Rl.nilK <| ?_
  refine T.sr <| Rl.q Qt.mv <| Rl.q Qt.nc <| Rl.q Qt.fa <| Rl.q Qt.ld <| Rl.q Qt.mv <| Rl.q Qt.add <| Rl.q Qt.nc <| ?_
  refine Rl.q Qt.fa <| Rl.e0 Ef.st1 fun _ _ => Rl.nilK <| ?_
  refine T.sr <| Rl.q Qt.mv <| Rl.q Qt.nc <| Rl.q Qt.fa <| Rl.q Qt.ld <| Rl.q Qt.as <| Rl.nilK <| ?_
  refine T.ret <| Ex.ret1 (.inl rfl) rfl ?_ rfl
  exact fun w h => ⟨((r41.1, r41.2), (v78d.1, v78d.2)), ⟨by rw [← hup]; exact hr41, hfin⟩, rfl, by rw [hup] at h; exact h.re⟩
end SL
end Go.Proofs.YtlmiekcmjpnobaaGreatDoor
namespace Go.Proofs.YtlmiekcmjpnobaaGreatDoor
open Go
namespace SL
set_option maxRecDepth 20000

variable {bW bD bN b o k c e p st nb bX capX eX : Nat} {R : List Value} {fr : Nat × Nat} {bs xs zs : List UInt8} {v : Value} {E : Chunk} {s : WS} {x : WI}

theorem Write_s (hR : RowB R o bs) (hk : k = bs.length) (hd : DskOk v E xs) (hp : s.pos = xs.length) (h0 : 0 < bs.length) (h1 : s.pos + bs.length ≤ s.max) (h3 : s.max < 1099511627776) (hcur : s.cur = Pt bN) (hfl : x.flags &&& 268435456 = 0) (hfl2 : x.flags < 4294967296)
    (hdm : s.dw + bs.length ≤ s.dm) (hdm2 : s.dm < 9223372036854775808) :
    Spec Tryz.prog 52 [Pt bW, Sl b o k c] [[(b, .cells R.toArray e fr)], [(bN, IOb x)]] [[(s.disk, DO v s.pos)], E, [(bW, WO s)]]
      (fun r : Value × Chunk => DskOk r.1 r.2 (xs ++ bs)) (fun _ => .tuple #[N .i64 k, .nilIface]) (fun r => [[(s.disk, DO r.1 (s.pos + bs.length))], r.2, [(bW, WO { s with pos := s.pos + bs.length, dw := s.dw + bs.length })]]) := by
  refine Spec.of Tryz.func52 rfl Tryz.ntmps52 (by simp) fun w => ?_
  subst hk
  refine T.sr <| Rl.q (Qt.as (v := N .i64 0)) <| Rl.q (Qt.as (v := .nilIface)) <| Rl.nilK <| ?_
  refine T.seq ?_
  refine T.sr <| Rl.q Qt.mv <| Rl.q Qt.len <| Rl.q (Qt.eqF (b := 0)) <| Rl.nilK <| ?_
  refine T.condF ?_
  refine T.skip <| Ex.K <| ?_
  refine T.seq ?_
  refine T.sdr [] ?_ mixed
  refine Dr.qs [0, 1, 2, 3, 4, 5, 6, 7, 8, 9, 10, 11] [] ?_
  refine Dq.q Qt.mv <| Dq.q Qt.nc <| Dq.q Qt.fa <| Dq.q Qt.ld <| Dq.q Qt.mv <| Dq.q Qt.len <| Dq.q Qt.add <| Dq.q Qt.mv <| ?_
  refine Dq.q Qt.nc <| Dq.q Qt.fa <| Dq.q Qt.ld <| Dq.q Qt.gtF <| Dq.nil <| Dr.nilK <| ?_
  refine T.condF ?_
  refine T.skip <| Ex.K <| ?_
  refine T.seq ?_
  refine T.sr <| Rl.q Qt.mv <| Rl.q Qt.nc <| Rl.q Qt.fa <| Rl.q (Qt.to (u := Pt bN) Qt.ld (hcur)) <| Rl.q Qt.nc <| Rl.q Qt.fa <| Rl.q Qt.ld <| ?_
  refine Rl.q (Qt.and (b := 268435456) (h := ⟨by simp only [lim]; omega, by decide⟩)) <| Rl.q (Qt.neF (b := 0) (h := hfl)) <| Rl.nilK <| ?_
  refine T.condF ?_
  refine T.skip <| Ex.K <| ?_
  refine T.sr <| Rl.q Qt.mv <| Rl.q Qt.mv <| Rl.e (Ef.call (S := write_a hR rfl hd hp h0 h1 h3)) fun r hr => Rl.q Qt.mv <| Rl.q Qt.ex <| Rl.q Qt.ex <| Rl.q Qt.as <| ?_
  refine Rl.q Qt.as <| Rl.nilK <| ?_
  refine T.sr <| Rl.q Qt.mv <| Rl.q Qt.nc <| Rl.q Qt.fa <| Rl.q Qt.ld <| Rl.q Qt.mv <| Rl.q Qt.add <| Rl.q Qt.nc <| ?_
  refine Rl.q Qt.fa <| Rl.e0 Ef.st1 fun _ _ => Rl.nilK <| ?_
  refine T.sr <| Rl.q Qt.mv <| Rl.q Qt.mv <| Rl.q Qt.as <| Rl.q Qt.as <| Rl.nilK <| ?_
  refine T.ret <| Ex.ret2 (.inl rfl) rfl rfl ?_ rfl
  exact fun w h => ⟨r, hr, rfl, h.re⟩

theorem WriteInl_s (hR : RowB R o bs) (hk : k = bs.length) (h0 : 0 < bs.length) (hcur : s.cur = Pt bN) (hfl : x.flags &&& 268435456 ≠ 0) (hfl2 : x.flags < 4294967296) (hX : x.data = Sl bX 0 zs.length capX) (hcap : zs.length ≤ capX ∧ capX < 1000000)
    (hdm : s.dw + bs.length ≤ s.dm) (hdm2 : s.dm = zs.length) :
    Spec Tryz.prog 52 [Pt bW, Sl b o k c] [[(b, .cells R.toArray e fr)], [(bN, IOb x)]] [[(bX, BO zs eX (0, 0))], [(bW, WO s)]]
      (fun _ : Unit => True) (fun _ => .tuple #[N .i64 k, .nilIface]) (fun r => [[(bX, BO (putB zs s.dw bs) eX (0, 0))], [(bW, WO { s with dw := s.dw + bs.length })]]) := by
  refine Spec.of Tryz.func52 rfl Tryz.ntmps52 (by simp) fun w => ?_
  subst hk
  have hmin : Nat.min bs.length (zs.length - s.dw) = bs.length := Nat.min_eq_left (by omega)
  refine T.sr <| Rl.q (Qt.as (v := N .i64 0)) <| Rl.q (Qt.as (v := .nilIface)) <| Rl.nilK <| ?_
  refine T.seq ?_
  refine T.sr <| Rl.q Qt.mv <| Rl.q Qt.len <| Rl.q (Qt.eqF (b := 0)) <| Rl.nilK <| ?_
  refine T.condF ?_
  refine T.skip <| Ex.K <| ?_
  refine T.seq ?_
  refine T.sdr [] ?_ mixed
  refine Dr.qs [0, 1, 2, 3, 4, 5, 6, 7, 8, 9, 10, 11] [] ?_
  refine Dq.q Qt.mv <| Dq.q Qt.nc <| Dq.q Qt.fa <| Dq.q Qt.ld <| Dq.q Qt.mv <| Dq.q Qt.len <| Dq.q Qt.add <| Dq.q Qt.mv <| ?_
  refine Dq.q Qt.nc <| Dq.q Qt.fa <| Dq.q Qt.ld <| Dq.q Qt.gtF <| Dq.nil <| Dr.nilK <| ?_
  refine T.condF ?_
  refine T.skip <| Ex.K <| ?_
  refine T.seq ?_
  refine T.sr <| Rl.q Qt.mv <| Rl.q Qt.nc <| Rl.q Qt.fa <| Rl.q (Qt.to (u := Pt bN) Qt.ld (hcur)) <| Rl.q Qt.nc <| Rl.q Qt.fa <| Rl.q Qt.ld <| ?_
  refine Rl.q (Qt.and (b := 268435456) (h := ⟨by simp only [lim]; omega, by decide⟩)) <| Rl.q (Qt.neT (b := 0) (h := hfl)) <| Rl.nilK <| ?_
  refine T.condT ?_
  refine T.sdr [13] ?_ mixed
  refine Dr.qs [0, 1, 2, 3, 4, 5, 6, 7, 8, 9, 10, 11, 12] [] ?_
  refine Dq.q Qt.mv <| Dq.q Qt.nc <| Dq.q Qt.fa <| Dq.q (Qt.to (u := Pt bN) Qt.ld (hcur)) <| Dq.q Qt.nc <| Dq.q Qt.fa <| Dq.q (Qt.to (u := Sl bX 0 zs.length capX) Qt.ld (hX)) <| Dq.q Qt.mv <| ?_
  refine Dq.q Qt.nc <| Dq.q Qt.fa <| Dq.q Qt.ld <| Dq.q Qt.sl1 <| Dq.q Qt.mv <| Dq.nil <| ?_
  refine Dr.e 13 <| Eo.e rfl (Ef.cp (hs := by rw [hmin]; exact hR) (hl := ⟨by rw [hmin, bc_length]; omega, bc_ones _⟩)) fun _ _ => Dr.nilK <| ?_
  refine T.sr <| Rl.q Qt.mv <| Rl.q Qt.nc <| Rl.q Qt.fa <| Rl.q Qt.ld <| Rl.q Qt.mv <| Rl.q Qt.len <| Rl.q Qt.add <| ?_
  refine Rl.q Qt.nc <| Rl.q Qt.fa <| Rl.e0 Ef.st1 fun _ _ => Rl.nilK <| ?_
  refine T.sr <| Rl.q Qt.mv <| Rl.q Qt.len <| Rl.q Qt.as <| Rl.q (Qt.as (v := .nilIface)) <| Rl.nilK <| ?_
  refine T.ret <| Ex.Kret <| Ex.ret2 (.inl rfl) rfl rfl ?_ rfl
  exact fun w h => ⟨(), trivial, rfl, by rw [Nat.zero_add, putL_bcs] at h; exact h.re⟩

theorem fin_none_q (hi : s.init = true) (hcur : s.cur = .pointer none) : QSpec Tryz.prog 80 [Pt bW] [[(bW, WO s)]] .nilIface := by
  refine QSpec.of Tryz.func80 rfl Tryz.ntmps80 (by simp) fun w => ?_
  refine T.sr <| Rl.q (Qt.as (v := .nilIface)) <| Rl.nilK <| ?_
  refine T.seq ?_
  refine T.sr <| Rl.q Qt.mv <| Rl.q Qt.nc <| Rl.q Qt.fa <| Rl.q (Qt.to (u := .bool true) Qt.ld (by rw [hi])) <| Rl.q Qt.notT <| Rl.nilK <| ?_
  refine T.condF ?_
  refine T.skip <| Ex.K <| ?_
  refine T.seq ?_
  refine T.sr <| Rl.q Qt.mv <| Rl.q Qt.nc <| Rl.q Qt.fa <| Rl.q (Qt.to (u := .pointer none) Qt.ld (hcur)) <| Rl.q Qt.peqNil <| Rl.nilK <| ?_
  refine T.condT ?_
  refine T.sr <| Rl.q (Qt.as (v := .nilIface)) <| Rl.nilK <| ?_
  refine T.ret <| Ex.Kret <| Ex.ret1 (.inl rfl) rfl ?_ rfl
  exact fun w h => ⟨rfl, h.grown⟩

theorem fin_zero_s (hi : s.init = true) (hcur : s.cur = Pt bN) (hdw : s.dw = 0) (hdm : s.dm = 0) :
    Spec Tryz.prog 80 [Pt bW] [] [[(bW, WO s)]] (fun _ : Unit => True) (fun _ => .nilIface) (fun _ => [[(bW, WO { s with cur := .pointer none, dw := 0, dm := 0 })]]) := by
  refine Spec.of Tryz.func80 rfl Tryz.ntmps80 (by simp) fun w => ?_
  refine T.sr <| Rl.q (Qt.as (v := .nilIface)) <| Rl.nilK <| ?_
  refine T.seq ?_
  refine T.sr <| Rl.q Qt.mv <| Rl.q Qt.nc <| Rl.q Qt.fa <| Rl.q (Qt.to (u := .bool true) Qt.ld (by rw [hi])) <| Rl.q Qt.notT <| Rl.nilK <| ?_
  refine T.condF ?_
  refine T.skip <| Ex.K <| ?_
  refine T.seq ?_
  refine T.sr <| Rl.q Qt.mv <| Rl.q Qt.nc <| Rl.q Qt.fa <| Rl.q (Qt.to (u := Pt bN) Qt.ld (hcur)) <| Rl.q Qt.peqSome <| Rl.nilK <| ?_
  refine T.condF ?_
  refine T.skip <| Ex.K <| ?_
  refine T.seq ?_
  refine T.sdr [] ?_ mixed
  refine Dr.qs [0, 1, 2, 3, 4, 5, 6, 7, 8] [] ?_
  refine Dq.q Qt.mv <| Dq.q Qt.nc <| Dq.q Qt.fa <| Dq.q Qt.ld <| Dq.q Qt.mv <| Dq.q Qt.nc <| Dq.q Qt.fa <| Dq.q Qt.ld <| ?_
  refine Dq.q Qt.neF <| Dq.nil <| Dr.nilK <| ?_
  refine T.condF ?_
  refine T.skip <| Ex.K <| ?_
  refine T.seq ?_
  refine T.sr <| Rl.q Qt.mv <| Rl.q Qt.nc <| Rl.q Qt.fa <| Rl.q Qt.ld <| Rl.q (Qt.neF (b := 0)) <| Rl.q Qt.mv <| Rl.gf <| Rl.gf <| Rl.gf <| Rl.gf <| Rl.gf <| Rl.gf <| Rl.gf <| Rl.gf <| Rl.gf <| Rl.q (Qt.pkF (v := .bool false)) <| ?_
  refine Rl.nilK <| ?_
  refine T.condF ?_
  refine T.skip <| Ex.K <| ?_
  refine T.sr <| Rl.q Qt.mv <| Rl.q Qt.nc <| Rl.q Qt.fa <| Rl.e0 (Ef.st1 (v := N .i64 0)) fun _ _ => Rl.nilK <| ?_
  refine T.sr <| Rl.q Qt.mv <| Rl.q Qt.nc <| Rl.q Qt.fa <| Rl.e0 (Ef.st1 (v := N .i64 0)) fun _ _ => Rl.nilK <| ?_
  refine T.sr <| Rl.q Qt.mv <| Rl.q Qt.nc <| Rl.q Qt.fa <| Rl.e0 (Ef.st1 (v := .pointer none)) fun _ _ => Rl.nilK <| ?_
  refine T.sr <| Rl.q Qt.mv <| Rl.q Qt.nc <| Rl.q Qt.fa <| Rl.q Qt.ld <| Rl.q Qt.as <| Rl.nilK <| ?_
  refine T.ret <| Ex.ret1 (.inl rfl) rfl ?_ rfl
  exact fun w h => ⟨(), trivial, rfl, h.re⟩

theorem fin_inl_s (h0 : 0 < s.dm) (hi : s.init = true) (hcur : s.cur = Pt bN) (hdw : s.dw = s.dm) (hfl : x.flags &&& 268435456 ≠ 0) (hfl2 : x.flags < 4294967296) :
    Spec Tryz.prog 80 [Pt bW] [[(bN, IOb x)]] [[(bW, WO s)]] (fun _ : Unit => True) (fun _ => .nilIface) (fun _ => [[(bW, WO { s with cur := .pointer none, dw := 0, dm := 0 })]]) := by
  refine Spec.of Tryz.func80 rfl Tryz.ntmps80 (by simp) fun w => ?_
  refine T.sr <| Rl.q (Qt.as (v := .nilIface)) <| Rl.nilK <| ?_
  refine T.seq ?_
  refine T.sr <| Rl.q Qt.mv <| Rl.q Qt.nc <| Rl.q Qt.fa <| Rl.q (Qt.to (u := .bool true) Qt.ld (by rw [hi])) <| Rl.q Qt.notT <| Rl.nilK <| ?_
  refine T.condF ?_
  refine T.skip <| Ex.K <| ?_
  refine T.seq ?_
  refine T.sr <| Rl.q Qt.mv <| Rl.q Qt.nc <| Rl.q Qt.fa <| Rl.q (Qt.to (u := Pt bN) Qt.ld (hcur)) <| Rl.q Qt.peqSome <| Rl.nilK <| ?_
  refine T.condF ?_
  refine T.skip <| Ex.K <| ?_
  refine T.seq ?_
  refine T.sdr [] ?_ mixed
  refine Dr.qs [0, 1, 2, 3, 4, 5, 6, 7, 8] [] ?_
  refine Dq.q Qt.mv <| Dq.q Qt.nc <| Dq.q Qt.fa <| Dq.q Qt.ld <| Dq.q Qt.mv <| Dq.q Qt.nc <| Dq.q Qt.fa <| Dq.q Qt.ld <| ?_
  refine Dq.q Qt.neF <| Dq.nil <| Dr.nilK <| ?_
  refine T.condF ?_
  refine T.skip <| Ex.K <| ?_
  refine T.seq ?_
  refine T.sr <| Rl.q Qt.mv <| Rl.q Qt.nc <| Rl.q Qt.fa <| Rl.q Qt.ld <| Rl.q (Qt.neT (b := 0)) <| Rl.q Qt.mv <| Rl.gt <| Rl.q Qt.mv <| ?_
  refine Rl.gt <| Rl.q Qt.nc <| Rl.gt <| Rl.q Qt.fa <| Rl.gt <| Rl.q (Qt.to (u := Pt bN) Qt.ld (hcur)) <| Rl.gt <| Rl.q Qt.nc <| ?_
  refine Rl.gt <| Rl.q Qt.fa <| Rl.gt <| Rl.q Qt.ld <| Rl.gt <| Rl.q (Qt.and (b := 268435456) (h := ⟨by simp only [lim]; omega, by decide⟩)) <| Rl.gt <| Rl.q (Qt.eqF (b := 0) (h := hfl)) <| ?_
  refine Rl.q Qt.pkT <| Rl.nilK <| ?_
  refine T.condF ?_
  refine T.skip <| Ex.K <| ?_
  refine T.sr <| Rl.q Qt.mv <| Rl.q Qt.nc <| Rl.q Qt.fa <| Rl.e0 (Ef.st1 (v := N .i64 0)) fun _ _ => Rl.nilK <| ?_
  refine T.sr <| Rl.q Qt.mv <| Rl.q Qt.nc <| Rl.q Qt.fa <| Rl.e0 (Ef.st1 (v := N .i64 0)) fun _ _ => Rl.nilK <| ?_
  refine T.sr <| Rl.q Qt.mv <| Rl.q Qt.nc <| Rl.q Qt.fa <| Rl.e0 (Ef.st1 (v := .pointer none)) fun _ _ => Rl.nilK <| ?_
  refine T.sr <| Rl.q Qt.mv <| Rl.q Qt.nc <| Rl.q Qt.fa <| Rl.q Qt.ld <| Rl.q Qt.as <| Rl.nilK <| ?_
  refine T.ret <| Ex.ret1 (.inl rfl) rfl ?_ rfl
  exact fun w h => ⟨(), trivial, rfl, h.re⟩

theorem fin_ext_s (hi : s.init = true) (hcur : s.cur = Pt bN) (hdw : s.dw = s.dm) (hd : DskOk v E xs) (hp : s.pos = xs.length) (hst : s.pos = st * 4096 + s.dw) (h0 : 0 < s.dw) (hdw2 : s.dw ≤ 134217728) (hnb : (s.dw + 4095) / 4096 = nb) (h1 : s.pos + 4096 ≤ s.max) (h3 : s.max < 1099511627776) (hbc : x.bc + nb < 4294967296) (hfl : x.flags < 4294967296) (hinl : x.flags &&& 268435456 = 0) :
    Spec Tryz.prog 80 [Pt bW] [] [[(s.disk, DO v s.pos)], E, [(bW, WO s)], [(bN, IOb x)]]
      (fun r : (Value × Chunk) × (Value × Chunk) => DskOk r.1.1 r.1.2 (padZ xs ((st + nb) * 4096)) ∧ Own 5 1 r.2.1 60 (bc (ext1B st nb)) r.2.2) (fun _ => .nilIface)
      (fun r => [[(s.disk, DO r.1.1 ((st + nb) * 4096))], r.1.2, [(bW, WO { s with pos := (st + nb) * 4096, cur := .pointer none, dw := 0, dm := 0 })], [(bN, IOb { x with data := r.2.1, flags := x.flags ||| 524288, bc := x.bc + nb })], r.2.2]) := by
  refine Spec.of Tryz.func80 rfl Tryz.ntmps80 (by simp) fun w => ?_
  refine T.sr <| Rl.q (Qt.as (v := .nilIface)) <| Rl.nilK <| ?_
  refine T.seq ?_
  refine T.sr <| Rl.q Qt.mv <| Rl.q Qt.nc <| Rl.q Qt.fa <| Rl.q (Qt.to (u := .bool true) Qt.ld (by rw [hi])) <| Rl.q Qt.notT <| Rl.nilK <| ?_
  refine T.condF ?_
  refine T.skip <| Ex.K <| ?_
  refine T.seq ?_
  refine T.sr <| Rl.q Qt.mv <| Rl.q Qt.nc <| Rl.q Qt.fa <| Rl.q (Qt.to (u := Pt bN) Qt.ld (hcur)) <| Rl.q Qt.peqSome <| Rl.nilK <| ?_
  refine T.condF ?_
  refine T.skip <| Ex.K <| ?_
  refine T.seq ?_
  refine T.sdr [] ?_ mixed
  refine Dr.qs [0, 1, 2, 3, 4, 5, 6, 7, 8] [] ?_
  refine Dq.q Qt.mv <| Dq.q Qt.nc <| Dq.q Qt.fa <| Dq.q Qt.ld <| Dq.q Qt.mv <| Dq.q Qt.nc <| Dq.q Qt.fa <| Dq.q Qt.ld <| ?_
  refine Dq.q Qt.neF <| Dq.nil <| Dr.nilK <| ?_
  refine T.condF ?_
  refine T.skip <| Ex.K <| ?_
  refine T.seq ?_
  refine T.sr <| Rl.q Qt.mv <| Rl.q Qt.nc <| Rl.q Qt.fa <| Rl.q Qt.ld <| Rl.q (Qt.neT (b := 0)) <| Rl.q Qt.mv <| Rl.gt <| Rl.q Qt.mv <| ?_
  refine Rl.gt <| Rl.q Qt.nc <| Rl.gt <| Rl.q Qt.fa <| Rl.gt <| Rl.q (Qt.to (u := Pt bN) Qt.ld (hcur)) <| Rl.gt <| Rl.q Qt.nc <| ?_
  refine Rl.gt <| Rl.q Qt.fa <| Rl.gt <| Rl.q Qt.ld <| Rl.gt <| Rl.q (Qt.and (b := 268435456) (h := ⟨by simp only [lim]; omega, by decide⟩)) <| Rl.gt <| Rl.q (Qt.eqT (b := 0) (h := hinl)) <| ?_
  refine Rl.q Qt.pkT <| Rl.nilK <| ?_
  refine T.condT ?_
  refine T.sr <| Rl.q Qt.mv <| Rl.q Qt.mv <| Rl.q Qt.nc <| Rl.q Qt.fa <| Rl.q (Qt.to (u := Pt bN) Qt.ld (hcur)) <| Rl.e (Ef.call (S := writeExtents_s hd hp hst h0 hdw2 hnb h1 h3 hbc hfl)) fun r hr => Rl.q Qt.as <| ?_
  refine Rl.nilK <| ?_
  refine T.sr <| Rl.q Qt.mv <| Rl.q Qt.ineNil <| Rl.nilK <| ?_
  refine T.condF ?_
  refine T.skip <| Ex.K <| ?_
  refine T.sr <| Rl.q Qt.mv <| Rl.q Qt.nc <| Rl.q Qt.fa <| Rl.e0 (Ef.st1 (v := N .i64 0)) fun _ _ => Rl.nilK <| ?_
  refine T.sr <| Rl.q Qt.mv <| Rl.q Qt.nc <| Rl.q Qt.fa <| Rl.e0 (Ef.st1 (v := N .i64 0)) fun _ _ => Rl.nilK <| ?_
  refine T.sr <| Rl.q Qt.mv <| Rl.q Qt.nc <| Rl.q Qt.fa <| Rl.e0 (Ef.st1 (v := .pointer none)) fun _ _ => Rl.nilK <| ?_
  refine T.sr <| Rl.q Qt.mv <| Rl.q Qt.nc <| Rl.q Qt.fa <| Rl.q Qt.ld <| Rl.q Qt.as <| Rl.nilK <| ?_
  refine T.ret <| Ex.ret1 (.inl rfl) rfl ?_ rfl
  exact fun w h => ⟨r, hr, rfl, h.re⟩
end SL
end Go.Proofs.YtlmiekcmjpnobaaGreatDoor
namespace Go.Proofs.YtlmiekcmjpnobaaGreatDoor
open Go
namespace SL
set_option maxRecDepth 20000

theorem or_hi {a i : Nat} (b : Nat) (h : a < 2 ^ i) : a ||| b * 2 ^ i = a + 2 ^ i * b := by
  have := Nat.two_pow_add_eq_or_of_lt h b
  rw [Nat.mul_comm b, Nat.or_comm, ← this, Nat.add_comm]
theorem andNot3 {a : Nat} (h : a < 2 ^ 64) : a &&& (2 ^ 64 - 1 - 3) = a / 4 * 4 := by
  have e1 : (2 ^ 64 - 1 - 3 : Nat) = (2 ^ 62 - 1) * 2 ^ 2 := by decide
  have e2 : a / 4 * 4 = (a / 2 ^ 2) * 2 ^ 2 := rfl
  rw [e1, e2]
  apply Nat.eq_of_testBit_eq
  intro i
  rw [Nat.testBit_and, Nat.testBit_mul_two_pow, Nat.testBit_mul_two_pow, Nat.testBit_div_two_pow, Nat.testBit_two_pow_sub_one]
  by_cases h2 : 2 ≤ i
  · by_cases h3 : i - 2 < 62
    · simp [h2, h3]
    · have : a.testBit i = false := Nat.testBit_lt_two_pow (Nat.lt_of_lt_of_le h (Nat.pow_le_pow_right (by decide) (by omega)))
      simp [h2, h3, this]
  · simp [h2]
def byteAt (l : List UInt8) (i : Nat) : Nat := match l[i]? with | some c => c.toNat | none => 0
theorem leN_congr {l l' : List UInt8} : ∀ {n p p' : Nat}, (∀ i, i < n → byteAt l (p + i) = byteAt l' (p' + i)) → leN l p n = leN l' p' n
  | 0, _, _, _ => rfl
  | n + 1, p, p', h => by
    have h0 := h 0 (by omega)
    have ih := leN_congr (l := l) (l' := l') (n := n) (p := p + 1) (p' := p' + 1) (fun i hi => by have := h (i + 1) (by omega); rwa [show p + (i + 1) = p + 1 + i by omega, show p' + (i + 1) = p' + 1 + i by omega] at this)
    simp only [Nat.add_zero] at h0
    show byteAt l p + 256 * leN l (p + 1) n = byteAt l' p' + 256 * leN l' (p' + 1) n
    rw [h0, ih]
theorem byteAt_app_left {a b : List UInt8} {i : Nat} (h : i < a.length) : byteAt (a ++ b) i = byteAt a i := by simp only [byteAt, List.getElem?_append_left h]
theorem byteAt_app_right {a b : List UInt8} {i : Nat} (h : a.length ≤ i) : byteAt (a ++ b) i = byteAt b (i - a.length) := by simp only [byteAt, List.getElem?_append_right h]
theorem byteAt_rep (n i : Nat) : byteAt (List.replicate n 0) i = 0 := by
  simp only [byteAt, List.getElem?_replicate]
  by_cases h : i < n <;> simp [h]
theorem byteAt_out {l : List UInt8} {i : Nat} (h : l.length ≤ i) : byteAt l i = 0 := by simp only [byteAt, List.getElem?_eq_none h]
theorem byteAt_cut {l : List UInt8} {o k i : Nat} (h : i < k) : byteAt (cut l o k) i = byteAt l (o + i) := by simp only [byteAt, cut_get h]
theorem leN_pad {l : List UInt8} {a r j : Nat} (h : a + r = l.length) (n : Nat) : leN (cut l a r ++ List.replicate j 0) 0 n = leN l a n := by
  have hl : (cut l a r).length = r := cut_length (by omega)
  apply leN_congr
  intro i _
  rw [Nat.zero_add]
  by_cases hi : i < r
  · rw [byteAt_app_left (by omega), byteAt_cut hi]
  · rw [byteAt_app_right (by omega), byteAt_rep, byteAt_out (by omega)]
theorem RowB.sub {R : List Value} {o a b : Nat} {u : List UInt8} (h : RowB R o u) (hu : a + b ≤ u.length) : RowB R (o + a) (SL.cut u a b) := by
  unfold RowB
  rw [cut_length hu, h.part2 hu]
  rfl
variable {bW bD bN b o k c e p st nb bX capX eX : Nat} {R : List Value} {fr : Nat × Nat} {bs xs zs l : List UInt8} {v : Value} {E : Chunk} {s : WS} {x : WI}
theorem get32_q {z : Nat} (hR : RowB R o l) (hk : l.length = k) (h4 : 4 ≤ k) (hz : leN l 0 4 = z) : QSpec Tryz.prog 135 [Sl b o k c] [[(b, .cells R.toArray e fr)]] (N .u32 z) := by
  refine QSpec.of Tryz.func135 rfl Tryz.ntmps135 (by simp) fun w => ?_
  subst hk; subst hz
  have b0 := UInt8.toNat_lt l[0]
  have b1 := UInt8.toNat_lt l[1]
  have b2 := UInt8.toNat_lt l[2]
  have b3 := UInt8.toNat_lt l[3]
  refine T.sr <| Rl.q (Qt.as (v := N .u32 0)) <| Rl.nilK <| ?_
  refine T.sdr [] ?_ mixed
  refine Dr.qs [0, 1, 2, 3, 4, 5, 6, 7, 8, 9, 10, 11, 12, 13, 14, 15, 16, 17, 18, 19, 20, 21, 22] [] ?_
  refine Dq.q Qt.mv <| Dq.q (Qt.ia1 (i := 0)) <| Dq.q (Qt.ld (hv := hR.nth (i := 0) (by omega))) <| Dq.q Qt.cv <| Dq.q Qt.mv <| Dq.q (Qt.ia1 (i := 1)) <| Dq.q (Qt.ld (hv := hR.nth (i := 1) (by omega))) <| Dq.q Qt.cv <| ?_
  refine Dq.q (Qt.shl (b := 8)) <| Dq.q (Qt.toN (c := l[0].toNat + 2 ^ 8 * l[1].toNat) (Qt.or (h := by simp only [lim]; omega)) (or_hi _ b0)) <| Dq.q Qt.mv <| Dq.q (Qt.ia1 (i := 2)) <| Dq.q (Qt.ld (hv := hR.nth (i := 2) (by omega))) <| Dq.q Qt.cv <| Dq.q (Qt.shl (b := 16)) <| Dq.q (Qt.toN (c := l[0].toNat + 2 ^ 8 * l[1].toNat + 2 ^ 16 * l[2].toNat) (Qt.or (h := by simp only [lim]; omega)) (or_hi _ (by omega))) <| ?_
  refine Dq.q Qt.mv <| Dq.q (Qt.ia1 (i := 3)) <| Dq.q (Qt.ld (hv := hR.nth (i := 3) (by omega))) <| Dq.q Qt.cv <| Dq.q (Qt.shl (b := 24)) <| Dq.q (Qt.toN (c := leN l 0 4) (Qt.or (h := by simp only [lim]; omega)) (by rw [or_hi _ (by omega)]; rw [leN_in (show 0 < l.length by omega), leN_in (show 1 < l.length by omega), leN_in (show 2 < l.length by omega), leN_in (show 3 < l.length by omega)]; simp only [leN]; omega)) <| Dq.q Qt.as <| Dq.nil <| Dr.nilK <| ?_
  refine T.ret <| Ex.ret1 (.inl rfl) rfl ?_ rfl
  exact fun w h => ⟨rfl, h.grown⟩

set_option maxHeartbeats 1000000 in
theorem hashW_q {bv ov vl cv ev : Nat} {Rv : List Value} {fv : Nat × Nat} {name val : List UInt8} (hv : RowB Rv ov val) (hvl : val.length = vl) (hn2 : name.length < 1000000) (hv2 : vl < 1000000) (hcv : vl ≤ cv ∧ cv < 4611686018427387904) :
    QSpec Tryz.prog 175 [SV name, Sl bv ov vl cv] [[(bv, .cells Rv.toArray ev fv)]] (N .u32 (attrHash name val)) := by
  subst hvl
  refine QSpec.of Tryz.func175 rfl Tryz.ntmps175 (by simp) fun w => ?_
  refine T.sr <| Rl.q (Qt.as (v := N .u32 0)) <| Rl.nilK <| ?_
  refine T.sr <| Rl.q (Qt.as (v := N .u32 0)) <| Rl.nilK <| ?_
  refine T.seq ?_
  refine T.sr <| Rl.q (Qt.as (v := N .i64 0)) <| Rl.nilK <| ?_
  refine T.block ?_
  refine T.loop (α := Nat) (fun k => [(0, SV name), (1, Sl bv ov val.length cv), (5, N .u32 (hNam name k)), (6, N .i64 k)]) (fun k => []) (fun k => k ≤ name.length) (fun k => name.length - k)
    0 (Nat.zero_le _) ?_ (fun k hk => ?_)
  · exact .cons rfl <| .cons rfl <| .cons rfl <| .cons rfl <| .nil
  refine T.seq ?_
  refine T.sr <| Rl.q Qt.mv <| Rl.q Qt.mv <| Rl.q Qt.lenS <| Rl.ltS (fun h12 => ?_) (fun h12 => ?_)
  · refine Rl.nilK <| ?_
    refine T.condT ?_
    refine T.skip <| Ex.K <| ?_
    refine T.seq ?_
    refine T.block ?_
    have hlt := hNam_lt name k
    have hb := UInt8.toNat_lt name[k]
    have hd : hNam name k / 2 ^ 27 ≤ hNam name k := Nat.div_le_self _ _
    have hx : (hNam name k * 2 ^ 5 % 4294967296) ^^^ (hNam name k / 2 ^ 27) < 4294967296 := xor_lt (Nat.mod_lt _ (by decide)) (by omega)
    refine T.region <| Rl.q Qt.mv <| Rl.q (Qt.toN (c := hNam name k * 2 ^ 5 % 4294967296) (Qt.shlW (b := 5) (h := ⟨by decide, rfl⟩)) (rfl)) <| Rl.q Qt.mv <| Rl.q (Qt.shr (b := 27) (h := by decide)) <| Rl.q (Qt.xor (h := ⟨Nat.mod_lt _ (by decide), by simp only [lim]; omega⟩)) <| Rl.q Qt.mv <| Rl.q Qt.mv <| ?_
    refine Rl.q (Qt.ixS (hc := List.getElem?_eq_getElem h12)) <| Rl.q Qt.cv <| Rl.q (Qt.toN (c := hNam name (k + 1)) (Qt.xor (h := ⟨hx, by simp only [lim]; omega⟩)) (by simp only [hNam, hStepN, List.getElem?_eq_getElem h12, lim])) <| Rl.q Qt.as <| Rl.nil <| Ex.Bnormal <| Ex.K <| ?_
    refine T.region <| Rl.q Qt.mv <| Rl.q (Qt.add (b := 1)) <| Rl.q Qt.as <| Rl.nil <| ?_
    exact Ex.next (k + 1) (by omega) (by omega) (.cons rfl <| .cons rfl <| .cons rfl <| .cons rfl <| .nil)
  · refine Rl.nilK <| ?_
    refine T.condF ?_
    refine T.exit <| Ex.Kexit <| Ex.Lexit <| Ex.Bhit <| Ex.K <| ?_
    refine T.seq ?_
    obtain rfl : k = name.length := by omega
    refine T.sr <| Rl.q (Qt.as (v := N .i64 0)) <| Rl.nilK <| ?_
    refine T.block ?_
    refine T.loop (α := Nat) (fun k => [(1, Sl bv ov val.length cv), (5, N .u32 (hVal val (hNam name name.length) k)), (7, N .i64 (4 * k))]) (fun k => []) (fun k => k ≤ val.length / 4) (fun k => val.length / 4 - k)
      0 (Nat.zero_le _) ?_ (fun k hk => ?_)
    · exact .cons rfl <| .cons rfl <| .cons rfl <| .nil
    refine T.seq ?_
    refine T.sr <| Rl.q Qt.mv <| Rl.q (Qt.add (b := 3)) <| Rl.q Qt.mv <| Rl.q Qt.len <| Rl.ltS (fun h29 => ?_) (fun h29 => ?_)
    · refine Rl.nilK <| ?_
      refine T.condT ?_
      refine T.skip <| Ex.K <| ?_
      refine T.seq ?_
      refine T.block ?_
      have hlt := hVal_lt val (hNam_lt name name.length) k
      have hb := leN4_lt val (4 * k)
      have hd : hVal val (hNam name name.length) k / 2 ^ 16 ≤ hVal val (hNam name name.length) k := Nat.div_le_self _ _
      have hx : (hVal val (hNam name name.length) k * 2 ^ 16 % 4294967296) ^^^ (hVal val (hNam name name.length) k / 2 ^ 16) < 4294967296 := xor_lt (Nat.mod_lt _ (by decide)) (by omega)
      refine T.region <| Rl.q Qt.mv <| Rl.q (Qt.toN (c := hVal val (hNam name name.length) k * 2 ^ 16 % 4294967296) (Qt.shlW (b := 16) (h := ⟨by decide, rfl⟩)) (rfl)) <| Rl.q Qt.mv <| Rl.q (Qt.shr (b := 16) (h := by decide)) <| Rl.q (Qt.xor (h := ⟨Nat.mod_lt _ (by decide), by simp only [lim]; omega⟩)) <| Rl.q Qt.mv <| Rl.q Qt.mv <| ?_
      refine Rl.q Qt.mv <| Rl.q (Qt.add (b := 4)) <| Rl.q (Qt.to (u := Sl bv (ov + 4 * k) 4 (cv - 4 * k)) (Qt.sl1 (cl := 4 * k) (ch := 4 * k + 4)) (by rw [Nat.add_sub_cancel_left])) <| Rl.e (Ef.qcall (S := get32_q (hv.sub (a := 4 * k) (b := 4) (by omega)) (cut_length (by omega)) (Nat.le_refl _) (by rw [leN_cut (by omega)]))) fun _ _ => Rl.q (Qt.toN (c := hVal val (hNam name name.length) (k + 1)) (Qt.xor (h := ⟨hx, by simp only [lim]; omega⟩)) (rfl)) <| Rl.q Qt.as <| Rl.nil <| Ex.Bnormal <| Ex.K <| ?_
      refine T.region <| Rl.q Qt.mv <| Rl.q (Qt.toN (c := 4 * (k + 1)) (Qt.add (b := 4))) <| Rl.q Qt.as <| Rl.nil <| ?_
      exact Ex.next (k + 1) (by omega) (by omega) (.cons rfl <| .cons rfl <| .cons rfl <| .nil)
    · refine Rl.nilK <| ?_
      refine T.condF ?_
      refine T.exit <| Ex.Kexit <| Ex.Lexit <| Ex.Bhit <| Ex.K <| ?_
      refine T.seq ?_
      obtain rfl : k = val.length / 4 := by omega
      refine T.sr <| Rl.q Qt.mv <| Rl.q Qt.len <| Rl.q (Qt.rem (b := 4)) <| Rl.neS (b := 0) (fun h47 => ?_) (fun h47 => ?_)
      · refine Rl.nilK <| ?_
        refine T.condT ?_
        refine T.sr <| Rl.e Ef.alA fun b8 hb8 => Rl.nilK <| ?_
        have hmin : Nat.min (val.length - 4 * (val.length / 4)) 4 = val.length % 4 := by have : Nat.min (val.length - 4 * (val.length / 4)) 4 = min (val.length - 4 * (val.length / 4)) 4 := rfl; omega
        have hrow := hv.sub (a := 4 * (val.length / 4)) (b := val.length % 4) (by omega)
        have hcl : (cut val (4 * (val.length / 4)) (val.length % 4)).length = val.length % 4 := cut_length (by omega)
        refine T.sdr [6] ?_ mixed
        refine Dr.qs [0, 1, 2, 3, 4, 5] [] ?_
        refine Dq.q (Qt.to (u := Sl b8 0 4 4) Qt.slA (rfl)) <| Dq.q Qt.mv <| Dq.q Qt.mv <| Dq.q Qt.len <| Dq.q (Qt.toN (c := 4 * (val.length / 4)) (Qt.andNot (b := 3) (h := ⟨by simp only [lim]; omega, by decide⟩)) (by rw [Nat.mul_comm]; exact andNot3 (by omega))) <| Dq.q (Qt.sl1 (cl := 4 * (val.length / 4))) <| Dq.nil <| ?_
        refine Dr.e 6 <| Eo.e rfl (Ef.cp (vs := bc (cut val (4 * (val.length / 4)) (val.length % 4))) (hs := by rw [hmin]; have := hrow; unfold RowB at this; rwa [hcl] at this) (hl := ⟨by rw [hmin]; show _ ≤ 4; omega, bc_ones _⟩)) fun _ _ => Dr.nilK <| ?_
        have hlast : putL [N .u8 0, N .u8 0, N .u8 0, N .u8 0] 0 (bc (cut val (4 * (val.length / 4)) (val.length % 4))) = bc (cut val (4 * (val.length / 4)) (val.length % 4) ++ List.replicate (4 - val.length % 4) 0) := by
          rw [show [N .u8 0, N .u8 0, N .u8 0, N .u8 0] = bc (List.replicate 4 0) from rfl, putL_bcs]
          simp only [putB, List.take_zero, List.nil_append, Nat.zero_add, hcl, List.drop_replicate]
        rw [hlast]
        have hlt := hVal_lt val (hNam_lt name name.length) (val.length / 4)
        have hb := leN4_lt val (4 * (val.length / 4))
        have hd : hVal val (hNam name name.length) (val.length / 4) / 2 ^ 16 ≤ hVal val (hNam name name.length) (val.length / 4) := Nat.div_le_self _ _
        have hx : (hVal val (hNam name name.length) (val.length / 4) * 2 ^ 16 % 4294967296) ^^^ (hVal val (hNam name name.length) (val.length / 4) / 2 ^ 16) < 4294967296 := xor_lt (Nat.mod_lt _ (by decide)) (by omega)
        refine T.region <| Rl.q Qt.mv <| Rl.q (Qt.toN (c := hVal val (hNam name name.length) (val.length / 4) * 2 ^ 16 % 4294967296) (Qt.shlW (b := 16) (h := ⟨by decide, rfl⟩)) (rfl)) <| Rl.q Qt.mv <| Rl.q (Qt.shr (b := 16) (h := by decide)) <| Rl.q (Qt.xor (h := ⟨Nat.mod_lt _ (by decide), by simp only [lim]; omega⟩)) <| Rl.q (Qt.to (u := Sl b8 0 4 4) Qt.slA (rfl)) <| Rl.e (Ef.qcall (S := get32_q (k := 4) (l := cut val (4 * (val.length / 4)) (val.length % 4) ++ List.replicate (4 - val.length % 4) 0) (RowB.all _) (by rw [List.length_append, hcl, List.length_replicate]; omega) (Nat.le_refl _) (leN_pad (l := val) (by omega) 4))) fun _ _ => ?_
        refine Rl.q (Qt.toN (c := hVal val (hNam name name.length) (val.length / 4 + 1)) (Qt.xor (h := ⟨hx, by simp only [lim]; omega⟩)) (rfl)) <| Rl.q Qt.as <| Rl.nil <| Ex.K <| ?_
        refine T.sr <| Rl.q Qt.mv <| Rl.q Qt.as <| Rl.nilK <| ?_
        refine T.ret <| Ex.ret1 (.inl rfl) rfl ?_ rfl
        exact fun w h => ⟨by rw [attrHash, show (val.length + 3) / 4 = val.length / 4 + 1 by omega], h.grown⟩
      · refine Rl.nilK <| ?_
        refine T.condF ?_
        refine T.skip <| Ex.K <| ?_
        refine T.sr <| Rl.q Qt.mv <| Rl.q Qt.as <| Rl.nilK <| ?_
        refine T.ret <| Ex.ret1 (.inl rfl) rfl ?_ rfl
        exact fun w h => ⟨by rw [attrHash, show (val.length + 3) / 4 = val.length / 4 by omega], h.grown⟩
end SL
end Go.Proofs.YtlmiekcmjpnobaaGreatDoor
