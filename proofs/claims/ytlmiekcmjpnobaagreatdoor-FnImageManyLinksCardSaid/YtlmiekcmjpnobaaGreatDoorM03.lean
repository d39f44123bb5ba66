/- Part 3 of the proof of the card of 'laws.FnImageManyLinks': it returns true at every input. No condition. Texts: RB RC RD RE RF RG RH. -/
import Derived.Test.YtlmiekcmjpnobaaGreatDoorM02
namespace Go.Proofs.YtlmiekcmjpnobaaGreatDoor
open Go
namespace SL
set_option maxRecDepth 20000

/-- The cells of a volume. -/
abbrev VC (ino : Value) (nb : Nat) (img : Value) (gr pi : Nat) (own : Value) : List Value :=
  [ino, N .u64 nb, .slice none 0 0, img, N .u64 gr, N .u64 32768, N .u64 pi, N .u64 256, N .u64 32, own, .bool false]
abbrev VO (ino : Value) (nb : Nat) (img : Value) (gr pi : Nat) (own : Value) : Obj := .cells (VC ino nb img gr pi own).toArray 68 (0, 0)
/-- All bytes of a row, from its beginning. -/
abbrev BO (l : List UInt8) (e : Nat) (fr : Nat × Nat) : Obj := .cells (bc l).toArray e fr
theorem RowB.all (l : List UInt8) : RowB (bc l) 0 l := by
  unfold RowB
  rw [seg_eq (by simp [bc_length])]
  simp [← bc_length]
theorem RowB.part {l : List UInt8} {o k : Nat} (h : o + k ≤ l.length) : RowB (bc l) o ((l.drop o).take k) := by
  unfold RowB
  rw [List.length_take, List.length_drop, Nat.min_eq_left (by omega), seg_bc h]
/-- Bytes from a place on. -/
def cut (l : List UInt8) (o k : Nat) : List UInt8 := (l.drop o).take k
theorem cut_length {l : List UInt8} {o k : Nat} (h : o + k ≤ l.length) : (cut l o k).length = k := by simp [cut]; omega
theorem RowB.cut {l : List UInt8} {o k : Nat} (h : o + k ≤ l.length) : RowB (bc l) o (SL.cut l o k) := RowB.part h
/-- A row, with what stands behind its bytes. -/
abbrev CI (R : List Value) (e : Nat) (fr : Nat × Nat) : Obj := .cells R.toArray e fr
class RowC (R : outParam (List Value)) (l : List UInt8) : Prop where
  row : RowB R 0 l
instance (l : List UInt8) : RowC (bc l) l := ⟨RowB.all l⟩
theorem seg0_some : ∀ {R : List Value} {n : Nat} {vs : List Value}, seg R 0 n = some vs → n ≤ R.length ∧ R.take n = vs
  | R, 0, vs, h => ⟨Nat.zero_le _, by cases R <;> simp_all [seg]⟩
  | [], n + 1, vs, h => by simp [seg] at h
  | v :: r, n + 1, vs, h => by
    simp only [seg] at h
    cases hs : seg r 0 n with
    | none => rw [hs] at h; exact nomatch h
    | some ws =>
      obtain ⟨h1, h2⟩ := seg0_some hs
      rw [hs] at h
      simp only [Option.map_some, Option.some.injEq] at h
      exact ⟨by rw [List.length_cons]; omega, by rw [List.take_succ_cons, h2, h]⟩
theorem RowC.cells {R : List Value} {l : List UInt8} [h : RowC R l] {o k : Nat} (ho : o + k ≤ l.length) : seg R o k = some (bc (SL.cut l o k)) := by
  obtain ⟨h1, h2⟩ := seg0_some h.row
  rw [seg_eq (by omega)]
  congr 1
  unfold SL.cut
  rw [bc_take, bc_drop, ← h2, List.drop_take, List.take_take, Nat.min_eq_left (by omega)]
theorem RowC.cut {R : List Value} {l : List UInt8} [RowC R l] {o k : Nat} (h : o + k ≤ l.length) : RowB R o (SL.cut l o k) := by
  have h1 := RowC.cells (R := R) h
  unfold RowB
  rw [cut_length h]
  exact h1
theorem cut_get {l : List UInt8} {o k i : Nat} (h : i < k) : (cut l o k)[i]? = l[o + i]? := by simp [cut, h]
theorem leN_cut {l : List UInt8} {o k : Nat} : ∀ {n p : Nat}, p + n ≤ k → leN (cut l o k) p n = leN l (o + p) n
  | 0, _, _ => rfl
  | n + 1, p, h => by
    simp only [leN, cut_get (l := l) (o := o) (show p < k by omega)]
    rw [leN_cut (by omega)]
    rfl
variable {bV bI cap nb gr pi : Nat} {ino own : Value} {B : List UInt8} {RI : List Value} [RowC RI B] {frI : Nat × Nat} {eI : Nat}
/-- The slice of a place of a row. -/
abbrev Sl (b o k c : Nat) : Value := .slice (some ⟨b, o, none⟩) k c

theorem block_q {n : Nat} (hn : n < nb) (hl : nb * 4096 ≤ cap) (hc : cap < 9223372036854775808) :
    QSpec Tryz.prog 118 [.pointer (some ⟨bV, 0, none⟩), N .u64 n] [[(bV, VO ino nb (Sl bI 0 (nb * 4096) cap) gr pi own)]] (Sl bI (n * 4096) 4096 (cap - n * 4096)) := by
  refine QSpec.of Tryz.func118 rfl Tryz.ntmps118 (by simp) fun w => ?_
  refine T.sr <| Rl.q (Qt.as (v := .slice none 0 0)) <| Rl.nilK <| ?_
  refine T.seq ?_
  refine T.sr <| Rl.q Qt.mv <| Rl.q Qt.mv <| Rl.q Qt.nc <| Rl.q Qt.fa <| Rl.q Qt.ld <| Rl.q Qt.geF <| Rl.q Qt.mv <| ?_
  refine Rl.gt <| Rl.q Qt.mv <| Rl.gt <| Rl.q (Qt.add (b := 1)) <| Rl.gt <| Rl.q (Qt.mul (b := 4096)) <| Rl.gt <| Rl.q Qt.mv <| ?_
  refine Rl.gt <| Rl.q Qt.nc <| Rl.gt <| Rl.q Qt.fa <| Rl.gt <| Rl.q Qt.ld <| Rl.gt <| Rl.q Qt.len <| ?_
  refine Rl.gt <| Rl.q Qt.cv <| Rl.gt <| Rl.q (Qt.gtF (h := Nat.mul_le_mul_right 4096 hn)) <| Rl.q Qt.pkF <| Rl.nilK <| ?_
  refine T.condF ?_
  refine T.skip <| Ex.K <| ?_
  refine T.sr <| Rl.q Qt.mv <| Rl.q Qt.nc <| Rl.q Qt.fa <| Rl.q Qt.ld <| Rl.q Qt.mv <| Rl.q (Qt.mul (b := 4096)) <| Rl.q Qt.mv <| ?_
  refine Rl.q (Qt.add (b := 1)) <| Rl.q (Qt.mul (b := 4096)) <| Rl.q (Qt.to (u := Sl bI (n * 4096) 4096 (cap - n * 4096)) Qt.sl1 (by rw [Nat.zero_add, Nat.add_mul, Nat.add_sub_cancel_left, Nat.one_mul])) <| Rl.q Qt.as <| Rl.nilK <| ?_
  refine T.ret <| Ex.ret1 (.inl rfl) rfl ?_ rfl
  exact fun w h => ⟨rfl, h.grown⟩

theorem descriptor_q {n : Nat} (hn : n = 0) (hl : 1 < nb) (h2 : nb * 4096 ≤ cap) (hc : cap < 9223372036854775808) :
    QSpec Tryz.prog 158 [.pointer (some ⟨bV, 0, none⟩), N .u64 n] [[(bV, VO ino nb (Sl bI 0 (nb * 4096) cap) gr pi own)]] (Sl bI 4096 32 (cap - 4096)) := by
  subst hn
  refine QSpec.of Tryz.func158 rfl Tryz.ntmps158 (by simp) fun w => ?_
  refine T.sr <| Rl.q (Qt.as (v := .slice none 0 0)) <| Rl.nilK <| ?_
  refine T.sr <| Rl.q Qt.mv <| Rl.q Qt.mv <| Rl.q Qt.nc <| Rl.q Qt.fa <| Rl.q Qt.ld <| Rl.q Qt.mul <| Rl.q (Qt.toN (c := 4096) (Qt.add (a := 4096))) <| ?_
  refine Rl.q Qt.as <| Rl.nilK <| ?_
  refine T.seq ?_
  refine T.sdr [] ?_ mixed
  refine Dr.qs [0, 1, 2, 3, 4, 5, 6, 7, 8, 9, 10, 11, 12] [] ?_
  refine Dq.q Qt.mv <| Dq.q Qt.mv <| Dq.q Qt.nc <| Dq.q Qt.fa <| Dq.q Qt.ld <| Dq.q Qt.add <| Dq.q Qt.mv <| Dq.q Qt.nc <| ?_
  refine Dq.q Qt.fa <| Dq.q Qt.ld <| Dq.q Qt.len <| Dq.q Qt.cv <| Dq.q Qt.gtF <| Dq.nil <| Dr.nilK <| ?_
  refine T.condF ?_
  refine T.skip <| Ex.K <| ?_
  refine T.sdr [] ?_ mixed
  refine Dr.qs [0, 1, 2, 3, 4, 5, 6, 7, 8, 9, 10, 11, 12] [] ?_
  refine Dq.q Qt.mv <| Dq.q Qt.nc <| Dq.q Qt.fa <| Dq.q Qt.ld <| Dq.q Qt.mv <| Dq.q Qt.mv <| Dq.q Qt.mv <| Dq.q Qt.nc <| ?_
  refine Dq.q Qt.fa <| Dq.q Qt.ld <| Dq.q Qt.add <| Dq.q (Qt.to (u := Sl bI 4096 32 (cap - 4096)) Qt.sl1 (by simp)) <| Dq.q Qt.as <| Dq.nil <| Dr.nilK <| ?_
  refine T.ret <| Ex.ret1 (.inl rfl) rfl ?_ rfl
  exact fun w h => ⟨rfl, h.grown⟩

variable {eI : Nat} {frI : Nat × Nat}
/-- A number of the descriptor. -/
theorem part_q {n low k high : Nat} (hn : n = 0) (hB : B.length = nb * 4096) (hl : 1 < nb) (h2 : nb * 4096 ≤ cap) (hc : cap < 9223372036854775808) (hk : low + k ≤ 32) (hk8 : k ≤ 8) :
    QSpec Tryz.prog 120 [.pointer (some ⟨bV, 0, none⟩), N .u64 n, N .u64 low, N .u64 k, N .u64 high] [[(bV, VO ino nb (Sl bI 0 (nb * 4096) cap) gr pi own)], [(bI, CI RI eI frI)]] (N .u64 (leN B (4096 + low) k)) := by
  refine QSpec.of Tryz.func120 rfl Tryz.ntmps120 (by simp) fun w => ?_
  refine T.sr <| Rl.q (Qt.as (v := N .u64 0)) <| Rl.nilK <| ?_
  refine T.sr <| Rl.q Qt.mv <| Rl.q Qt.mv <| Rl.e (Ef.qcall (S := descriptor_q hn hl h2 hc)) fun _ _ => Rl.q Qt.as <| Rl.nilK <| ?_
  have hR : RowB RI 4096 (cut B 4096 32) := RowC.cut (by omega)
  have hL : (cut B 4096 32).length = 32 := cut_length (by omega)
  have hq := le_q (b := bI) (o := 4096) (cap := cap - 4096) (p := low) (n := k) (e := eI) (fr := frI) hR (by omega) hk8 (by omega)
  rw [hL, leN_cut hk] at hq
  refine T.sr <| Rl.q Qt.mv <| Rl.q Qt.mv <| Rl.q Qt.mv <| Rl.e (Ef.qcall (S := hq)) fun _ _ => Rl.q Qt.as <| Rl.nilK <| ?_
  refine T.seq ?_
  refine T.sr <| Rl.q Qt.mv <| Rl.q Qt.nc <| Rl.q Qt.fa <| Rl.q Qt.ld <| Rl.q Qt.mv <| Rl.gf <| Rl.gf <| Rl.gf <| Rl.gf <| Rl.gf <| Rl.q (Qt.pkF (v := .bool false)) <| ?_
  refine Rl.nilK <| ?_
  refine T.condF ?_
  refine T.skip <| Ex.K <| ?_
  refine T.sr <| Rl.q Qt.mv <| Rl.q Qt.as <| Rl.nilK <| ?_
  refine T.ret <| Ex.ret1 (.inl rfl) rfl ?_ rfl
  exact fun w h => ⟨rfl, h.grown⟩

section
variable (hB : B.length = nb * 4096) (hl : 1 < nb) (h2 : nb * 4096 ≤ cap) (hc : cap < 9223372036854775808)
include hB hl h2 hc
theorem blockBitmap_q {n : Nat} (hn : n = 0) :
    QSpec Tryz.prog 112 [.pointer (some ⟨bV, 0, none⟩), N .u64 n] [[(bV, VO ino nb (Sl bI 0 (nb * 4096) cap) gr pi own)], [(bI, CI RI eI frI)]] (N .u64 (leN B 4096 4)) := by
  refine QSpec.of Tryz.func112 rfl Tryz.ntmps112 (by simp) fun w => ?_
  refine T.sr <| Rl.q (Qt.as (v := N .u64 0)) <| Rl.nilK <| ?_
  refine T.sr <| Rl.q Qt.mv <| Rl.q Qt.mv <| Rl.e (Ef.qcall (S := part_q hn hB hl h2 hc (by decide) (by decide))) fun _ _ => Rl.q Qt.as <| Rl.nilK <| ?_
  refine T.ret <| Ex.ret1 (.inl rfl) rfl ?_ rfl
  exact fun w h => ⟨rfl, h.grown⟩

theorem inodeBitmap_q {n : Nat} (hn : n = 0) :
    QSpec Tryz.prog 113 [.pointer (some ⟨bV, 0, none⟩), N .u64 n] [[(bV, VO ino nb (Sl bI 0 (nb * 4096) cap) gr pi own)], [(bI, CI RI eI frI)]] (N .u64 (leN B 4100 4)) := by
  refine QSpec.of Tryz.func113 rfl Tryz.ntmps113 (by simp) fun w => ?_
  refine T.sr <| Rl.q (Qt.as (v := N .u64 0)) <| Rl.nilK <| ?_
  refine T.sr <| Rl.q Qt.mv <| Rl.q Qt.mv <| Rl.e (Ef.qcall (S := part_q hn hB hl h2 hc (by decide) (by decide))) fun _ _ => Rl.q Qt.as <| Rl.nilK <| ?_
  refine T.ret <| Ex.ret1 (.inl rfl) rfl ?_ rfl
  exact fun w h => ⟨rfl, h.grown⟩

theorem inodeTable_q {n : Nat} (hn : n = 0) :
    QSpec Tryz.prog 114 [.pointer (some ⟨bV, 0, none⟩), N .u64 n] [[(bV, VO ino nb (Sl bI 0 (nb * 4096) cap) gr pi own)], [(bI, CI RI eI frI)]] (N .u64 (leN B 4104 4)) := by
  refine QSpec.of Tryz.func114 rfl Tryz.ntmps114 (by simp) fun w => ?_
  refine T.sr <| Rl.q (Qt.as (v := N .u64 0)) <| Rl.nilK <| ?_
  refine T.sr <| Rl.q Qt.mv <| Rl.q Qt.mv <| Rl.e (Ef.qcall (S := part_q hn hB hl h2 hc (by decide) (by decide))) fun _ _ => Rl.q Qt.as <| Rl.nilK <| ?_
  refine T.ret <| Ex.ret1 (.inl rfl) rfl ?_ rfl
  exact fun w h => ⟨rfl, h.grown⟩

/-- The bytes of an inode. -/
theorem raw_q {k it : Nat} (hk : 1 ≤ k ∧ k ≤ pi) (hpi : pi < 4294967296) (hit : leN B 4104 4 = it) (hat : it * 4096 + pi * 256 ≤ nb * 4096) :
    QSpec Tryz.prog 117 [.pointer (some ⟨bV, 0, none⟩), N .u64 k] [[(bV, VO ino nb (Sl bI 0 (nb * 4096) cap) 1 pi own)], [(bI, CI RI eI frI)]]
      (Sl bI (it * 4096 + (k - 1) * 256) 256 (cap - (it * 4096 + (k - 1) * 256))) := by
  refine QSpec.of Tryz.func117 rfl Tryz.ntmps117 (by simp) fun w => ?_
  have hq := inodeTable_q (bV := bV) (bI := bI) (ino := ino) (own := own) (gr := 1) (pi := pi) (eI := eI) (frI := frI) hB hl h2 hc (n := 0) rfl
  rw [hit] at hq
  refine T.sr <| Rl.q (Qt.as (v := .slice none 0 0)) <| Rl.nilK <| ?_
  refine T.seq ?_
  refine T.sdr [] ?_ mixed
  refine Dr.qs [0, 1, 2, 3, 4, 5, 6, 7, 8, 9, 10, 11, 12, 13, 14] [] ?_
  refine Dq.q Qt.mv <| Dq.q (Qt.ltF (b := 1)) <| Dq.q Qt.mv <| Dq.gt <| Dq.q Qt.mv <| Dq.gt <| Dq.q Qt.mv <| Dq.gt <| Dq.q Qt.nc <| ?_
  refine Dq.gt <| Dq.q Qt.fa <| Dq.gt <| Dq.q Qt.ld <| Dq.gt <| Dq.q Qt.mv <| Dq.gt <| Dq.q Qt.nc <| ?_
  refine Dq.gt <| Dq.q Qt.fa <| Dq.gt <| Dq.q Qt.ld <| Dq.gt <| Dq.q (Qt.toN (c := pi) Qt.mul) <| Dq.gt <| Dq.q Qt.gtF <| ?_
  refine Dq.q Qt.pkF <| Dq.nil <| Dr.nilK <| ?_
  refine T.condF ?_
  refine T.skip <| Ex.K <| ?_
  refine T.sdr [] ?_ mixed
  refine Dr.qs [0, 1, 2, 3, 4, 5, 6, 7, 8, 9, 10, 11, 12, 13, 14, 15] [] ?_
  refine Dq.q Qt.mv <| Dq.q (Qt.sub (b := 1)) <| Dq.q Qt.mv <| Dq.q Qt.nc <| Dq.q Qt.fa <| Dq.q Qt.ld <| Dq.q (Qt.toN (c := 0) (Qt.quo (b := pi)) (Nat.div_eq_of_lt (by omega))) <| Dq.q Qt.mv <| ?_
  refine Dq.q (Qt.sub (b := 1)) <| Dq.q Qt.mv <| Dq.q Qt.nc <| Dq.q Qt.fa <| Dq.q Qt.ld <| Dq.q (Qt.toN (c := k - 1) (Qt.rem (b := pi)) (Nat.mod_eq_of_lt (by omega))) <| Dq.q Qt.as <| Dq.q Qt.as <| ?_
  refine Dq.nil <| Dr.nilK <| ?_
  refine T.sdr [] ?_ mixed
  refine Dr.qs [0, 1, 2, 3, 4, 5, 6, 7, 8, 9, 10, 11] [] ?_
  refine Dq.q Qt.mv <| Dq.q Qt.mv <| Dq.c rfl (hq) <| Dq.q (Qt.mul (b := 4096)) <| Dq.q Qt.mv <| Dq.q Qt.mv <| Dq.q Qt.nc <| Dq.q Qt.fa <| ?_
  refine Dq.q Qt.ld <| Dq.q Qt.mul <| Dq.q Qt.add <| Dq.q Qt.as <| Dq.nil <| Dr.nilK <| ?_
  refine T.seq ?_
  refine T.sdr [] ?_ mixed
  refine Dr.qs [0, 1, 2, 3, 4, 5, 6, 7, 8, 9, 10, 11, 12] [] ?_
  refine Dq.q Qt.mv <| Dq.q Qt.mv <| Dq.q Qt.nc <| Dq.q Qt.fa <| Dq.q Qt.ld <| Dq.q Qt.add <| Dq.q Qt.mv <| Dq.q Qt.nc <| ?_
  refine Dq.q Qt.fa <| Dq.q Qt.ld <| Dq.q Qt.len <| Dq.q Qt.cv <| Dq.q Qt.gtF <| Dq.nil <| Dr.nilK <| ?_
  refine T.condF ?_
  refine T.skip <| Ex.K <| ?_
  refine T.sdr [] ?_ mixed
  refine Dr.qs [0, 1, 2, 3, 4, 5, 6, 7, 8, 9, 10, 11, 12] [] ?_
  refine Dq.q Qt.mv <| Dq.q Qt.nc <| Dq.q Qt.fa <| Dq.q Qt.ld <| Dq.q Qt.mv <| Dq.q Qt.mv <| Dq.q Qt.mv <| Dq.q Qt.nc <| ?_
  refine Dq.q Qt.fa <| Dq.q Qt.ld <| Dq.q Qt.add <| Dq.q (Qt.to (u := Sl bI (it * 4096 + (k - 1) * 256) 256 (cap - (it * 4096 + (k - 1) * 256))) Qt.sl1 (by rw [Nat.zero_add, Nat.add_sub_cancel_left])) <| Dq.q Qt.as <| Dq.nil <| Dr.nilK <| ?_
  refine T.ret <| Ex.ret1 (.inl rfl) rfl ?_ rfl
  exact fun w h => ⟨rfl, h.grown⟩

end
end SL
end Go.Proofs.YtlmiekcmjpnobaaGreatDoor
namespace Go.Proofs.YtlmiekcmjpnobaaGreatDoor
open Go
namespace SL
set_option maxRecDepth 20000

/-- A number out of a part of a row of bytes. -/
theorem leB_q {B : List UInt8} {RI : List Value} [RowC RI B] {b o k cap p n e : Nat} {fr : Nat × Nat} (h : o + k ≤ B.length) (hp : p + n ≤ k) (h8 : n ≤ 8) (hl : B.length < 4611686018427387904) :
    QSpec Tryz.prog 62 [Sl b o k cap, N .u64 p, N .u64 n] [[(b, CI RI e fr)]] (N .u64 (leN B (o + p) n)) := by
  have hL : (cut B o k).length = k := cut_length h
  have hq := le_q (b := b) (o := o) (cap := cap) (p := p) (n := n) (e := e) (fr := fr) (RowC.cut h) (by omega) h8 (by omega)
  rw [hL, leN_cut hp] at hq
  exact hq
theorem leN4_lt (l : List UInt8) (p : Nat) : leN l p 4 < 4294967296 := leN_lt l 4 p
theorem leN2_lt (l : List UInt8) (p : Nat) : leN l p 2 < 65536 := leN_lt l 2 p
theorem leN1_lt (l : List UInt8) (p : Nat) : leN l p 1 < 256 := leN_lt l 1 p
def kindN (m : Nat) : Nat :=
  if m &&& 61440 = 32768 then 1 else if m &&& 61440 = 16384 then 2 else if m &&& 61440 = 8192 then 3 else if m &&& 61440 = 24576 then 4
  else if m &&& 61440 = 4096 then 5 else if m &&& 61440 = 49152 then 6 else if m &&& 61440 = 40960 then 7 else 0
theorem kindOf_q {m : Nat} (hm : m < 65536) : QSpec Tryz.prog 27 [N .u16 m] [] (N .u64 (kindN m)) := by
  refine QSpec.of Tryz.func27 rfl Tryz.ntmps27 (by simp) fun w => ?_
  refine T.sr <| Rl.q (Qt.as (v := N .u64 0)) <| Rl.nilK <| ?_
  refine T.seq ?_
  refine T.sr <| Rl.q Qt.mv <| Rl.q (Qt.and (b := 61440) (h := ⟨by simp only [lim]; omega, by decide⟩)) <| Rl.nilK <| ?_
  refine T.block ?_
  refine T.sr <| Rl.eqS (b := 32768) (fun h6 => ?_) (fun h6 => ?_)
  · refine Rl.q Qt.as <| Rl.nilK <| ?_
    refine T.condT ?_
    refine T.sr <| Rl.q (Qt.as (v := N .u64 1)) <| Rl.nilK <| ?_
    refine T.ret <| Ex.Bret <| Ex.Kret <| Ex.ret1 (.inl rfl) rfl ?_ rfl
    exact fun w h => ⟨by simp [kindN, *], h.grown⟩
  · refine Rl.q Qt.as <| Rl.nilK <| ?_
    refine T.condF ?_
    refine T.sr <| Rl.eqS (b := 16384) (fun h8 => ?_) (fun h8 => ?_)
    · refine Rl.q Qt.as <| Rl.nilK <| ?_
      refine T.condT ?_
      refine T.sr <| Rl.q (Qt.as (v := N .u64 2)) <| Rl.nilK <| ?_
      refine T.ret <| Ex.Bret <| Ex.Kret <| Ex.ret1 (.inl rfl) rfl ?_ rfl
      exact fun w h => ⟨by simp [kindN, *], h.grown⟩
    · refine Rl.q Qt.as <| Rl.nilK <| ?_
      refine T.condF ?_
      refine T.sr <| Rl.eqS (b := 8192) (fun h10 => ?_) (fun h10 => ?_)
      · refine Rl.q Qt.as <| Rl.nilK <| ?_
        refine T.condT ?_
        refine T.sr <| Rl.q (Qt.as (v := N .u64 3)) <| Rl.nilK <| ?_
        refine T.ret <| Ex.Bret <| Ex.Kret <| Ex.ret1 (.inl rfl) rfl ?_ rfl
        exact fun w h => ⟨by simp [kindN, *], h.grown⟩
      · refine Rl.q Qt.as <| Rl.nilK <| ?_
        refine T.condF ?_
        refine T.sr <| Rl.eqS (b := 24576) (fun h12 => ?_) (fun h12 => ?_)
        · refine Rl.q Qt.as <| Rl.nilK <| ?_
          refine T.condT ?_
          refine T.sr <| Rl.q (Qt.as (v := N .u64 4)) <| Rl.nilK <| ?_
          refine T.ret <| Ex.Bret <| Ex.Kret <| Ex.ret1 (.inl rfl) rfl ?_ rfl
          exact fun w h => ⟨by simp [kindN, *], h.grown⟩
        · refine Rl.q Qt.as <| Rl.nilK <| ?_
          refine T.condF ?_
          refine T.sr <| Rl.eqS (b := 4096) (fun h14 => ?_) (fun h14 => ?_)
          · refine Rl.q Qt.as <| Rl.nilK <| ?_
            refine T.condT ?_
            refine T.sr <| Rl.q (Qt.as (v := N .u64 5)) <| Rl.nilK <| ?_
            refine T.ret <| Ex.Bret <| Ex.Kret <| Ex.ret1 (.inl rfl) rfl ?_ rfl
            exact fun w h => ⟨by simp [kindN, *], h.grown⟩
          · refine Rl.q Qt.as <| Rl.nilK <| ?_
            refine T.condF ?_
            refine T.sr <| Rl.eqS (b := 49152) (fun h16 => ?_) (fun h16 => ?_)
            · refine Rl.q Qt.as <| Rl.nilK <| ?_
              refine T.condT ?_
              refine T.sr <| Rl.q (Qt.as (v := N .u64 6)) <| Rl.nilK <| ?_
              refine T.ret <| Ex.Bret <| Ex.Kret <| Ex.ret1 (.inl rfl) rfl ?_ rfl
              exact fun w h => ⟨by simp [kindN, *], h.grown⟩
            · refine Rl.q Qt.as <| Rl.nilK <| ?_
              refine T.condF ?_
              refine T.sr <| Rl.eqS (b := 40960) (fun h18 => ?_) (fun h18 => ?_)
              · refine Rl.q Qt.as <| Rl.nilK <| ?_
                refine T.condT ?_
                refine T.sr <| Rl.q (Qt.as (v := N .u64 7)) <| Rl.nilK <| ?_
                refine T.ret <| Ex.Bret <| Ex.Kret <| Ex.ret1 (.inl rfl) rfl ?_ rfl
                exact fun w h => ⟨by simp [kindN, *], h.grown⟩
              · refine Rl.q Qt.as <| Rl.nilK <| ?_
                refine T.condF ?_
                refine T.skip <| Ex.Bnormal <| Ex.K <| ?_
                refine T.sr <| Rl.q (Qt.as (v := N .u64 0)) <| Rl.nilK <| ?_
                refine T.ret <| Ex.ret1 (.inl rfl) rfl ?_ rfl
                exact fun w h => ⟨by simp [kindN, *], h.grown⟩

theorem moment_q {a x : Nat} (ha : a < 2147483648) (hx : x < 4294967296) : QSpec Tryz.prog 154 [N .u64 a, N .u64 x] [] (.agg #[N .i64 (a + (x &&& 3) * 2 ^ 32), N .i64 (x / 2 ^ 2)]) := by
  refine QSpec.of Tryz.func154 rfl Tryz.ntmps154 (by simp) fun w => ?_
  have h3 : x &&& 3 ≤ 3 := Nat.and_le_right
  have h4 : x / 2 ^ 2 ≤ x := Nat.div_le_self _ _
  refine T.sr <| Rl.e Ef.alA fun b4 hb4 => Rl.nilK <| ?_
  refine T.sr <| Rl.q Qt.mv <| Rl.q Qt.cv <| Rl.q Qt.cv <| Rl.q Qt.cv <| Rl.q Qt.mv <| Rl.q (Qt.and (b := 3) (h := ⟨by simp only [lim]; omega, by decide⟩)) <| Rl.q Qt.cv <| ?_
  refine Rl.q (Qt.shl (b := 32) (h := ⟨by decide, by simp only [lim]; omega⟩)) <| Rl.q (Qt.add (h := by simp only [lim]; omega)) <| Rl.q Qt.mv <| Rl.q (Qt.shr (b := 2)) <| Rl.q (Qt.cv (h := by simp only [lim]; omega)) <| Rl.q Qt.bd <| Rl.e0 Ef.st fun _ _ => Rl.nilK <| ?_
  refine T.ret <| Ex.retC (.inl rfl) rfl ?_ rfl
  exact fun w h => ⟨rfl, h.grown⟩

theorem putL_bc {l : List UInt8} {n : Nat} (v : UInt8) (h : n < l.length) : putL (bc l) n [N .u8 v.toNat] = bc (l.set n v) := by
  unfold putL bc
  rw [List.map_set, List.set_eq_take_append_cons_drop, if_pos (by simpa using h)]
  simp
/-- Bytes that mark some numbers. -/
def ownL (nb : Nat) (f : Nat → Bool) : List UInt8 := (List.range nb).map fun i => if f i then 1 else 0
theorem ownL_length (nb : Nat) (f : Nat → Bool) : (ownL nb f).length = nb := by simp [ownL]
theorem ownL_get {nb n : Nat} (f : Nat → Bool) (h : n < nb) : (ownL nb f)[n]? = some (if f n then 1 else 0) := by simp [ownL, h]
theorem ownL_set {nb n : Nat} (f : Nat → Bool) : (ownL nb f).set n 1 = ownL nb (fun i => f i || i == n) := by
  apply List.ext_getElem
  · simp [ownL]
  · intro i h1 h2
    simp only [List.getElem_set, ownL, List.getElem_map, List.getElem_range]
    by_cases h : n = i
    · subst h; simp
    · have h' : ¬ i = n := fun e => h e.symm
      simp [h, h']
theorem ownL_ext {nb : Nat} {f g : Nat → Bool} (h : ∀ i, i < nb → f i = g i) : ownL nb f = ownL nb g := by
  unfold ownL
  apply List.map_congr_left
  intro i hi
  rw [h i (List.mem_range.1 hi)]
variable {bV bI bO cap nb gr pi eO : Nat} {ino : Value} {img : Value} {f : Nat → Bool}
/-- A block that nothing had claimed. -/
theorem claim_s {n : Nat} (what : List UInt8) (hn : n < nb) (h0 : f n = false) (hw : what.length < 1000) (hnb : nb < 4611686018427387904) :
    Spec Tryz.prog 111 [.pointer (some ⟨bV, 0, none⟩), N .u64 n, SV what] [[(bV, VO ino nb img gr pi (Sl bO 0 nb nb))]] [[(bO, BO (ownL nb f) eO (0, 0))]]
      (fun _ : Unit => True) (fun _ => .tuple #[]) (fun _ => [[(bO, BO (ownL nb fun i => f i || i == n) eO (0, 0))]]) := by
  refine Spec.of Tryz.func111 rfl Tryz.ntmps111 (by simp) fun w => ?_
  refine T.seq ?_
  refine T.sr <| Rl.q Qt.mv <| Rl.q Qt.mv <| Rl.q Qt.nc <| Rl.q Qt.fa <| Rl.q Qt.ld <| Rl.q Qt.len <| Rl.q Qt.cv <| ?_
  refine Rl.q Qt.geF <| Rl.nilK <| ?_
  refine T.condF ?_
  refine T.skip <| Ex.K <| ?_
  refine T.sr <| Rl.q Qt.mv <| Rl.q Qt.mv <| Rl.q Qt.nc <| Rl.q Qt.fa <| Rl.q Qt.ld <| Rl.q Qt.mv <| Rl.q (Qt.to (u := .pointer (some ⟨bO, n, none⟩)) Qt.ia1 (by rw [Nat.zero_add])) <| ?_
  refine Rl.q (Qt.ld (hv := nth_bc (by rw [ownL_get f hn, h0]))) <| Rl.q (Qt.eqT (b := 0) (h := rfl)) <| Rl.q Qt.mv <| Rl.q Qt.cat <| Rl.q Qt.mv <| Rl.e (Ef.qcall (S := must_q _ _ _)) fun _ _ => Rl.nilK <| ?_
  refine T.region <| Rl.q Qt.mv <| Rl.q Qt.nc <| Rl.q Qt.fa <| Rl.q Qt.ld <| Rl.q Qt.mv <| Rl.q (Qt.to (u := .pointer (some ⟨bO, n, none⟩)) Qt.ia1 (by rw [Nat.zero_add])) <| Rl.e0 (Ef.st (v := N .u8 1) (hc := ⟨rfl, by rw [bc_length, ownL_length]; exact hn, rfl⟩)) fun _ _ => ?_
  refine Rl.nil <| Ex.ret0 (.inr rfl) ?_ rfl
  exact fun w h => ⟨(), trivial, rfl, by rw [show vcells (N .u8 1) = [N .u8 (1 : UInt8).toNat] from rfl, putL_bc 1 (by rw [ownL_length]; exact hn), ownL_set] at h; exact h⟩

theorem hasCopy_q (sb : Value) : QSpec Tryz.prog 110 [sb, N .u64 0] [] (.bool true) := by
  refine QSpec.of Tryz.func110 rfl Tryz.ntmps110 (by simp) fun w => ?_
  refine T.sr <| Rl.q (Qt.as (v := .bool false)) <| Rl.nilK <| ?_
  refine T.seq ?_
  refine T.sr <| Rl.q Qt.mv <| Rl.q (Qt.eqT (b := 0)) <| Rl.nilK <| ?_
  refine T.condT ?_
  refine T.sr <| Rl.q (Qt.as (v := .bool true)) <| Rl.nilK <| ?_
  refine T.ret <| Ex.Kret <| Ex.ret1 (.inl rfl) rfl ?_ rfl
  exact fun w h => ⟨rfl, h.grown⟩

def bitL (l : List UInt8) (i : Nat) : Bool := match l[i / 8]? with | some c => decide (c.toNat / 2 ^ (i % 8) &&& 1 = 1) | none => false
theorem bit_q {R : List Value} {b o k cap e i : Nat} {fr : Nat × Nat} {l : List UInt8} (hR : RowB R o l) (hi : i / 8 < l.length) (hk : l.length = k) (h64 : i < 18446744073709551616) :
    QSpec Tryz.prog 119 [Sl b o k cap, N .u64 i] [[(b, .cells R.toArray e fr)]] (.bool (bitL l i)) := by
  refine QSpec.of Tryz.func119 rfl Tryz.ntmps119 (by simp) fun w => ?_
  subst hk
  have hb := UInt8.toNat_lt l[i / 8]
  have hd : l[i / 8].toNat / 2 ^ (i % 8) ≤ l[i / 8].toNat := Nat.div_le_self _ _
  have he : bitL l i = decide (l[i / 8].toNat / 2 ^ (i % 8) &&& 1 = 1) := by simp only [bitL, List.getElem?_eq_getElem hi]
  rw [he]
  refine T.sr <| Rl.q (Qt.as (v := .bool false)) <| Rl.nilK <| ?_
  refine T.sr <| Rl.q Qt.mv <| Rl.q Qt.mv <| Rl.q (Qt.quo (b := 8)) <| Rl.q Qt.ia1 <| Rl.q (Qt.ld (hv := hR.nth hi)) <| Rl.q Qt.mv <| Rl.q (Qt.rem (b := 8)) <| ?_
  refine Rl.q (Qt.shr (h := by simp only [IntKind.bits]; omega)) <| Rl.q (Qt.and (b := 1) (h := ⟨by simp only [lim]; omega, by decide⟩)) <| Rl.q (Qt.eqD (b := 1)) <| Rl.q Qt.as <| Rl.nilK <| ?_
  refine T.ret <| Ex.ret1 (.inl rfl) rfl ?_ rfl
  exact fun w h => ⟨rfl, h.grown⟩

section
variable {B : List UInt8} {RI : List Value} [RowC RI B] {eI : Nat} {frI : Nat × Nat} {it tb : Nat}
/-- How an image of one group is laid out: the table of inodes begins at block it and has tb blocks; behind it are the two bitmaps. -/
structure Laid1 (B : List UInt8) (nb it tb : Nat) : Prop where
  len : B.length = nb * 4096
  hnb : nb = it + tb + 2
  hit : 2 ≤ it
  htb : 1 ≤ tb
  big : nb < 1000000
  bb : leN B 4096 4 = it + tb
  ib : leN B 4100 4 = it + tb + 1
  itab : leN B 4104 4 = it
  compat : leN B 1116 4 &&& 16 = 0
theorem readGroups_s (L : Laid1 B nb it tb) (hcap : nb * 4096 ≤ cap ∧ cap < 9223372036854775808) :
    Spec Tryz.prog 63 [.pointer (some ⟨bV, 0, none⟩), Sl bI 1024 1024 (cap - 1024)] [[(bV, VO ino nb (Sl bI 0 (nb * 4096) cap) 1 (tb * 16) (Sl bO 0 nb nb))], [(bI, CI RI eI frI)]] [[(bO, BO (ownL nb fun _ => false) eO (0, 0))]]
      (fun _ : Unit => True) (fun _ => .tuple #[]) (fun _ => [[(bO, BO (ownL nb fun i => decide (i < 2) || decide (it ≤ i)) eO (0, 0))]]) := by
  refine Spec.of Tryz.func63 rfl Tryz.ntmps63 (by simp) fun w => ?_
  have hlen := L.len
  have hnb := L.hnb
  have hit := L.hit
  have htb := L.htb
  have hbig := L.big
  have hcap1 := hcap.1
  have hcap2 := hcap.2
  have hB : B.length < 4611686018427387904 := by omega
  have hS : 1024 + 1024 ≤ B.length := by omega
  have hbb := blockBitmap_q (bV := bV) (bI := bI) (ino := ino) (own := Sl bO 0 nb nb) (gr := 1) (pi := tb * 16) (eI := eI) (frI := frI) hlen (by omega) hcap1 hcap2 (n := 0) rfl
  have hib := inodeBitmap_q (bV := bV) (bI := bI) (ino := ino) (own := Sl bO 0 nb nb) (gr := 1) (pi := tb * 16) (eI := eI) (frI := frI) hlen (by omega) hcap1 hcap2 (n := 0) rfl
  have hii := inodeTable_q (bV := bV) (bI := bI) (ino := ino) (own := Sl bO 0 nb nb) (gr := 1) (pi := tb * 16) (eI := eI) (frI := frI) hlen (by omega) hcap1 hcap2 (n := 0) rfl
  have hle := leN4_lt B 1116
  rw [L.bb] at hbb
  rw [L.ib] at hib
  rw [L.itab] at hii
  refine T.sdr [] ?_ mixed
  refine Dr.qs [0, 1, 2, 3, 4, 5, 6, 7, 8, 9, 10, 11, 12] [] ?_
  refine Dq.q Qt.mv <| Dq.q Qt.nc <| Dq.q Qt.fa <| Dq.q Qt.ld <| Dq.q Qt.mv <| Dq.q Qt.nc <| Dq.q Qt.fa <| Dq.q Qt.ld <| ?_
  refine Dq.q Qt.mul <| Dq.q (Qt.add (b := 4096)) <| Dq.q (Qt.toN (c := 4127) (Qt.sub (b := 1))) <| Dq.q (Qt.toN (c := 1) (Qt.quo (b := 4096))) <| Dq.q Qt.as <| Dq.nil <| Dr.nilK <| ?_
  refine T.sr <| Rl.q (Qt.as (v := N .u64 0)) <| Rl.nilK <| ?_
  refine T.seq ?_
  refine T.sr <| Rl.q Qt.mv <| Rl.e (Ef.qcall (S := leB_q (p := 92) (n := 4) hS (by decide) (by decide) hB)) fun _ _ => Rl.q (Qt.toN (c := 0) (Qt.and (b := 16)) (L.compat)) <| Rl.q (Qt.neF (b := 0)) <| Rl.nilK <| ?_
  refine T.condF ?_
  refine T.skip <| Ex.K <| ?_
  refine T.sdr [] ?_ mixed
  refine Dr.qs [0, 1, 2, 3, 4, 5, 6, 7, 8, 9, 10, 11, 12] [] ?_
  refine Dq.q Qt.mv <| Dq.q Qt.nc <| Dq.q Qt.fa <| Dq.q Qt.ld <| Dq.q Qt.mv <| Dq.q Qt.nc <| Dq.q Qt.fa <| Dq.q Qt.ld <| ?_
  refine Dq.q Qt.mul <| Dq.q (Qt.add (b := 4096)) <| Dq.q (Qt.sub (b := 1)) <| Dq.q (Qt.toN (c := tb) (Qt.quo (b := 4096))) <| Dq.q Qt.as <| Dq.nil <| Dr.nilK <| ?_
  refine T.sr <| Rl.q (Qt.as (v := N .u64 0)) <| Rl.nilK <| ?_
  refine T.block ?_
  refine T.rounds 1 ?_
  refine T.seq ?_
  refine T.sr <| Rl.q Qt.mv <| Rl.q Qt.mv <| Rl.q Qt.nc <| Rl.q Qt.fa <| Rl.q Qt.ld <| Rl.q Qt.ltT <| Rl.nilK <| ?_
  refine T.condT ?_
  refine T.skip <| Ex.K <| ?_
  refine T.seq ?_
  refine T.block ?_
  refine T.sr <| Rl.q Qt.mv <| Rl.q Qt.mv <| Rl.q Qt.nc <| Rl.q Qt.fa <| Rl.q Qt.ld <| Rl.q (Qt.toN (c := 0) (Qt.mul (a := 0) (b := 32768) (h := by decide)) (rfl)) <| Rl.q Qt.as <| ?_
  refine Rl.nilK <| ?_
  refine T.seq ?_
  refine T.sr <| Rl.q Qt.mv <| Rl.q Qt.mv <| Rl.e (Ef.qcall (S := hasCopy_q _)) fun _ _ => Rl.nilK <| ?_
  refine T.condT ?_
  refine T.sr <| Rl.q (Qt.as (v := N .u64 0)) <| Rl.nilK <| ?_
  refine T.block ?_
  refine T.loop (α := Nat) (fun i => [(0, .pointer (some ⟨bV, 0, none⟩)), (1, Sl bI 1024 1024 (cap - 1024)), (4, N .u64 1), (5, N .u64 0), (6, N .u64 tb), (7, N .u64 0), (8, N .u64 0), (9, N .u64 i)]) (fun i => [[(bO, BO (ownL nb fun j => decide (j < i)) eO (0, 0))]]) (fun i => i ≤ 2) (fun i => 2 - i)
    0 (by omega) ?_ (fun i hi => ?_)
  · exact .cons rfl <| .cons rfl <| .cons rfl <| .cons rfl <| .cons rfl <| .cons rfl <| .cons rfl <| .cons rfl <| .nil
  refine T.seq ?_
  refine T.sr <| Rl.q Qt.mv <| Rl.q Qt.mv <| Rl.q (Qt.add (a := 1)) <| Rl.q Qt.mv <| Rl.q (Qt.toN (c := 2) Qt.add) <| Rl.ltS (fun h63 => ?_) (fun h63 => ?_)
  · refine Rl.nilK <| ?_
    refine T.condT ?_
    refine T.skip <| Ex.K <| ?_
    refine T.seq ?_
    refine T.block ?_
    refine T.region <| Rl.q Qt.mv <| Rl.q Qt.mv <| Rl.q Qt.mv <| Rl.q (Qt.toN (c := i) Qt.add) <| Rl.e (Ef.call (S := claim_s (nb := nb) (f := fun j => decide (j < i)) (n := i) _ (by omega) (by simp) (by decide) (by omega))) fun _ _ => Rl.nil <| Ex.Bnormal <| Ex.K <| ?_
    refine T.region <| Rl.q Qt.mv <| Rl.q (Qt.add (b := 1)) <| Rl.q Qt.as <| Rl.nil <| ?_
    have e2 : ownL nb (fun j => decide (j < i) || j == i) = ownL nb (fun j => decide (j < i + 1)) := ownL_ext fun j hj => Bool.eq_iff_iff.2 (by simp; omega)
    rw [e2]
    exact Ex.next (i + 1) (by omega) (by omega) (.cons rfl <| .cons rfl <| .cons rfl <| .cons rfl <| .cons rfl <| .cons rfl <| .cons rfl <| .cons rfl <| .nil)
  · refine Rl.nilK <| ?_
    refine T.condF ?_
    refine T.exit <| Ex.Kexit <| Ex.Lexit <| Ex.Bhit <| Ex.K <| ?_
    refine T.sr <| Rl.q Qt.mv <| Rl.q Qt.mv <| Rl.q Qt.mv <| Rl.e (Ef.qcall (S := hbb)) fun _ _ => Rl.e (Ef.call (S := claim_s (nb := nb) (f := fun j => decide (j < i)) (n := it + tb) _ (by omega) (by simp; omega) (by decide) (by omega))) fun _ _ => Rl.nilK <| ?_
    refine T.sr <| Rl.q Qt.mv <| Rl.q Qt.mv <| Rl.q Qt.mv <| Rl.e (Ef.qcall (S := hib)) fun _ _ => Rl.e (Ef.call (S := claim_s (nb := nb) (f := fun j => decide (j < i) || j == it + tb) (n := it + tb + 1) _ (by omega) (by simp; omega) (by decide) (by omega))) fun _ _ => Rl.nilK <| ?_
    have e1 : ownL nb (fun j => (decide (j < i) || j == it + tb) || j == it + tb + 1) = ownL nb (fun j => decide (j < 2) || decide (it + tb ≤ j) || (decide (it ≤ j) && decide (j < it + 0))) := ownL_ext fun j hj => Bool.eq_iff_iff.2 (by simp; omega)
    rw [e1]
    refine T.sr <| Rl.q (Qt.as (v := N .u64 0)) <| Rl.nilK <| ?_
    refine T.block ?_
    refine T.loop (α := Nat) (fun k => [(0, .pointer (some ⟨bV, 0, none⟩)), (6, N .u64 tb), (7, N .u64 0), (10, N .u64 k)]) (fun k => [[(bO, BO (ownL nb fun j => decide (j < 2) || decide (it + tb ≤ j) || (decide (it ≤ j) && decide (j < it + k))) eO (0, 0))]]) (fun k => k ≤ tb) (fun k => tb - k)
      0 (by omega) ?_ (fun k hk => ?_)
    · exact .cons rfl <| .cons rfl <| .cons rfl <| .cons rfl <| .nil
    refine T.seq ?_
    refine T.sr <| Rl.q Qt.mv <| Rl.q Qt.mv <| Rl.ltS (fun h83 => ?_) (fun h83 => ?_)
    · refine Rl.nilK <| ?_
      refine T.condT ?_
      refine T.skip <| Ex.K <| ?_
      refine T.seq ?_
      refine T.block ?_
      refine T.region <| Rl.q Qt.mv <| Rl.q Qt.mv <| Rl.q Qt.mv <| Rl.e (Ef.qcall (S := hii)) fun _ _ => Rl.q Qt.mv <| Rl.q Qt.add <| Rl.e (Ef.call (S := claim_s (nb := nb) (f := fun j => decide (j < 2) || decide (it + tb ≤ j) || (decide (it ≤ j) && decide (j < it + k))) (n := it + k) _ (by omega) (by simp; omega) (by decide) (by omega))) fun _ _ => ?_
      refine Rl.nil <| Ex.Bnormal <| Ex.K <| ?_
      refine T.region <| Rl.q Qt.mv <| Rl.q (Qt.add (b := 1)) <| Rl.q Qt.as <| Rl.nil <| ?_
      have e3 : ownL nb (fun j => (decide (j < 2) || decide (it + tb ≤ j) || (decide (it ≤ j) && decide (j < it + k))) || j == it + k) = ownL nb (fun j => decide (j < 2) || decide (it + tb ≤ j) || (decide (it ≤ j) && decide (j < it + (k + 1)))) := ownL_ext fun j hj => Bool.eq_iff_iff.2 (by simp; omega)
      rw [e3]
      exact Ex.next (k + 1) (by omega) (by omega) (.cons rfl <| .cons rfl <| .cons rfl <| .cons rfl <| .nil)
    · refine Rl.nilK <| ?_
      refine T.condF ?_
      refine T.exit <| Ex.Kexit <| Ex.Lexit <| Ex.Bhit <| Ex.Bnormal <| Ex.K <| ?_
      refine T.region <| Rl.q Qt.mv <| Rl.q (Qt.add (b := 1)) <| Rl.q Qt.as <| Rl.nil <| Ex.LR <| ?_
      refine T.seq ?_
      refine T.sr <| Rl.q Qt.mv <| Rl.q Qt.mv <| Rl.q Qt.nc <| Rl.q Qt.fa <| Rl.q Qt.ld <| Rl.q Qt.ltF <| Rl.nilK <| ?_
      refine T.condF ?_
      refine T.exit <| Ex.Kexit <| Ex.Rexit <| Ex.Bhit <| Ex.ret0 (.inr rfl) ?_ rfl
      have e4 : ownL nb (fun j => decide (j < 2) || decide (it + tb ≤ j) || (decide (it ≤ j) && decide (j < it + k))) = ownL nb (fun j => decide (j < 2) || decide (it ≤ j)) := ownL_ext fun j hj => Bool.eq_iff_iff.2 (by simp; omega)
      exact fun w h => ⟨(), trivial, rfl, by rw [e4] at h; exact h⟩

end
end SL
end Go.Proofs.YtlmiekcmjpnobaaGreatDoor
namespace Go.Proofs.YtlmiekcmjpnobaaGreatDoor
open Go
namespace SL
set_option maxRecDepth 20000

/-- A number in n bytes, the lowest first. -/
def leB : Nat → Nat → List UInt8
  | 0, _ => []
  | n + 1, x => UInt8.ofNat x :: leB n (x / 256)
theorem leB_length : ∀ (n x : Nat), (leB n x).length = n
  | 0, _ => rfl
  | n + 1, x => by simp [leB, leB_length n]
theorem leN_app (a l : List UInt8) : ∀ (n p : Nat), leN (a ++ l) (a.length + p) n = leN l p n
  | 0, _ => rfl
  | n + 1, p => by
    have h : (a ++ l)[a.length + p]? = l[p]? := by rw [List.getElem?_append_right (by omega)]; congr 1; omega
    simp only [leN, h]
    rw [show a.length + p + 1 = a.length + (p + 1) by omega, leN_app a l n (p + 1)]
theorem leN_leB (r : List UInt8) : ∀ (n x : Nat), leN (leB n x ++ r) 0 n = x % 256 ^ n
  | 0, x => by simp [leN, Nat.mod_one]
  | n + 1, x => by
    have h1 := leN_app [UInt8.ofNat x] (leB n (x / 256) ++ r) n 0
    simp only [List.length_singleton, Nat.add_zero, List.singleton_append] at h1
    simp only [leN, leB, List.cons_append, List.getElem?_cons_zero, Nat.zero_add]
    have h2 : (UInt8.ofNat x).toNat = x % 256 := by simp
    rw [h1, leN_leB r n, h2, show 256 ^ (n + 1) = 256 * 256 ^ n by rw [Nat.pow_succ, Nat.mul_comm], Nat.mod_mul]
theorem leN_at {l a r : List UInt8} {n x p : Nat} (h : l = a ++ (leB n x ++ r)) (hp : p = a.length) (hx : x < 256 ^ n) : leN l p n = x := by
  subst h; subst hp
  have := leN_app a (leB n x ++ r) n 0
  rw [Nat.add_zero] at this
  rw [this, leN_leB, Nat.mod_eq_of_lt hx]
/-- A directory's record. -/
structure DRec where
  ino : Nat
  name : List UInt8
  kind : Nat
  pad : List UInt8
def DRec.len (r : DRec) : Nat := 8 + r.name.length + r.pad.length
def DRec.enc (r : DRec) : List UInt8 := leB 4 r.ino ++ (leB 2 r.len ++ (leB 1 r.name.length ++ (leB 1 r.kind ++ (r.name ++ r.pad))))
theorem DRec.enc_length (r : DRec) : r.enc.length = r.len := by simp [DRec.enc, DRec.len, leB_length]; omega
structure DRec.Ok (r : DRec) : Prop where
  ino : r.ino < 4294967296
  kind : r.kind < 256
  len : r.len % 4 = 0
  big : r.len < 65536
  name : r.name.length < 256
  has : r.ino ≠ 0 → 0 < r.name.length
def encL (l : List DRec) : List UInt8 := l.flatMap DRec.enc
/-- The cells of entries. -/
abbrev Ent := List UInt8 × Nat × Nat
def tri (l : List Ent) : List Value := l.flatMap fun e => [SV e.1, N .u64 e.2.1, N .u64 e.2.2]
theorem tri_length (l : List Ent) : (tri l).length = l.length * 3 := by
  induction l with
  | nil => rfl
  | cons e l ih => simp only [tri, List.flatMap_cons, List.length_append, List.length_cons, List.length_nil] at *; omega
theorem tri_app (l r : List Ent) : tri (l ++ r) = tri l ++ tri r := by simp [tri]
/-- The entries that records make. -/
def entL (l : List DRec) : List Ent := l.flatMap fun r => if r.ino = 0 then [] else [(r.name, r.ino, r.kind)]
def entC (l : List DRec) : List Value := tri (entL l)
def entN (l : List DRec) : Nat := (entL l).length
/-- What the reader holds of an inode. -/
structure XI where
  num : Nat
  mode : Nat
  uid : Nat
  gid : Nat
  size : Nat
  links : Nat
  sect : Nat
  flags : Nat
  t0 : Value
  t1 : Value
  t2 : Value
  t3 : Value
  t4 : Value
  t5 : Value
  t6 : Value
  t7 : Value
  maj : Nat
  min : Nat
  content : Value
  ents : Value
  xat : Value
  inl : Bool
  blocks : Nat
abbrev XI.cells (x : XI) : List Value := [N .u64 x.num, N .u16 x.mode, N .u32 x.uid, N .u32 x.gid, N .u64 x.size, N .u64 x.links, N .u64 x.sect, N .u64 x.flags,
  x.t0, x.t1, x.t2, x.t3, x.t4, x.t5, x.t6, x.t7, N .u32 x.maj, N .u32 x.min, x.content, x.ents, x.xat, .bool x.inl, N .u64 x.blocks]
abbrev XO (x : XI) : Obj := .cells x.cells.toArray 81 (0, 0)

theorem seg_app_left {l : List Value} {o a b : Nat} {u v : List Value} (h : seg l o (a + b) = some (u ++ v)) (hu : u.length = a) (hv : v.length = b) : seg l o a = some u := by
  obtain ⟨h1, h2⟩ := seg_nth h
  have hlen : o + a ≤ l.length ∨ a = 0 := by
    rcases Nat.eq_zero_or_pos a with h0 | h0
    · exact .inr h0
    · left
      have := h2 (a - 1) (by omega)
      have h3 : (u ++ v)[a - 1]? = some (u ++ v)[a - 1] := List.getElem?_eq_getElem (by rw [List.length_append]; omega)
      rw [nth_eq, h3] at this
      have := (List.getElem?_eq_some_iff.1 this).1
      omega
  rcases hlen with hlen | rfl
  · rw [seg_eq hlen]
    congr 1
    apply List.ext_getElem?
    intro i
    by_cases hi : i < a
    · have := h2 i (by omega)
      rw [nth_eq, List.getElem?_append_left (by omega)] at this
      rw [List.getElem?_take, if_pos hi, List.getElem?_drop, this]
    · rw [List.getElem?_take, if_neg hi, List.getElem?_eq_none (by omega)]
  · have : u = [] := List.eq_nil_of_length_eq_zero hu
    subst this
    cases l <;> cases o <;> rfl
theorem seg_app_right {l : List Value} {o a b : Nat} {u v : List Value} (h : seg l o (a + b) = some (u ++ v)) (hu : u.length = a) (hv : v.length = b) : seg l (o + a) b = some v := by
  obtain ⟨h1, h2⟩ := seg_nth h
  rcases Nat.eq_zero_or_pos b with h0 | h0
  · subst h0
    have : v = [] := List.eq_nil_of_length_eq_zero hv
    subst this
    cases l <;> cases (o + a) <;> rfl
  · have hlen : o + a + b ≤ l.length := by
      have := h2 (a + b - 1) (by omega)
      have h3 : (u ++ v)[a + b - 1]? = some (u ++ v)[a + b - 1] := List.getElem?_eq_getElem (by rw [List.length_append]; omega)
      rw [nth_eq, h3] at this
      have := (List.getElem?_eq_some_iff.1 this).1
      omega
    rw [seg_eq (by omega)]
    congr 1
    apply List.ext_getElem?
    intro i
    by_cases hi : i < b
    · have := h2 (a + i) (by omega)
      rw [nth_eq, List.getElem?_append_right (by omega)] at this
      rw [List.getElem?_take, if_pos hi, List.getElem?_drop, show o + a + i = o + (a + i) by omega, this]
      congr 1; omega
    · rw [List.getElem?_take, if_neg hi, List.getElem?_eq_none (by omega)]
theorem RowB.left {R : List Value} {o : Nat} {u v : List UInt8} (h : RowB R o (u ++ v)) : RowB R o u := by
  unfold RowB at *
  rw [List.length_append, bc_app] at h
  exact seg_app_left h (bc_length u) (bc_length v)
theorem RowB.right {R : List Value} {o : Nat} {u v : List UInt8} (h : RowB R o (u ++ v)) : RowB R (o + u.length) v := by
  unfold RowB at *
  rw [List.length_append, bc_app] at h
  exact seg_app_right h (bc_length u) (bc_length v)
/-- A number out of a known part of a row. -/
theorem leR_q {R : List Value} {b o k cap p n e x : Nat} {fr : Nat × Nat} {l : List UInt8} (hR : RowB R o l) (hk : k = l.length) (h1 : p + n < 18446744073709551616) (h2 : n ≤ 8) (hl : l.length < 9223372036854775808) (hx : leN l p n = x) :
    QSpec Tryz.prog 62 [Sl b o k cap, N .u64 p, N .u64 n] [[(b, .cells R.toArray e fr)]] (N .u64 x) := by
  subst hk; subst hx; exact le_q hR h1 h2 hl
theorem DRec.ino_at (r : DRec) (h : r.Ok) (z : List UInt8) : leN (r.enc ++ z) 0 4 = r.ino :=
  leN_at (a := []) (n := 4) (r := (leB 2 r.len ++ (leB 1 r.name.length ++ (leB 1 r.kind ++ (r.name ++ r.pad)))) ++ z) (by simp [DRec.enc]) rfl h.ino
theorem DRec.len_at (r : DRec) (h : r.Ok) (z : List UInt8) : leN (r.enc ++ z) 4 2 = r.len :=
  leN_at (a := leB 4 r.ino) (n := 2) (r := (leB 1 r.name.length ++ (leB 1 r.kind ++ (r.name ++ r.pad))) ++ z) (by simp [DRec.enc]) (by rw [leB_length]) h.big
theorem DRec.nlen_at (r : DRec) (h : r.Ok) (z : List UInt8) : leN (r.enc ++ z) 6 1 = r.name.length :=
  leN_at (a := leB 4 r.ino ++ leB 2 r.len) (n := 1) (r := (leB 1 r.kind ++ (r.name ++ r.pad)) ++ z) (by simp [DRec.enc]) (by simp [leB_length]) h.name
theorem DRec.kind_at (r : DRec) (h : r.Ok) (z : List UInt8) : leN (r.enc ++ z) 7 1 = r.kind :=
  leN_at (a := leB 4 r.ino ++ (leB 2 r.len ++ leB 1 r.name.length)) (n := 1) (r := (r.name ++ r.pad) ++ z) (by simp [DRec.enc]) (by simp [leB_length]) h.kind
theorem RowB.part2 {R : List Value} {o a b : Nat} {u : List UInt8} (h : RowB R o u) (hu : a + b ≤ u.length) : seg R (o + a) b = some (bc ((u.drop a).take b)) := by
  have h1 : u = u.take a ++ (u.drop a).take b ++ (u.drop a).drop b := by rw [List.append_assoc, List.take_append_drop, List.take_append_drop]
  rw [h1] at h
  have h2 := h.left.right
  unfold RowB at h2
  rw [List.length_take, Nat.min_eq_left (by omega), List.length_take, List.length_drop, Nat.min_eq_left (by omega)] at h2
  exact h2
theorem DRec.name_at (r : DRec) (z : List UInt8) : ((r.enc ++ z).drop 8).take r.name.length = r.name := by
  have h : r.enc ++ z = (leB 4 r.ino ++ (leB 2 r.len ++ (leB 1 r.name.length ++ leB 1 r.kind))) ++ (r.name ++ (r.pad ++ z)) := by simp [DRec.enc]
  rw [h, List.drop_left' (by simp [leB_length]), List.take_left' rfl]
theorem entN_le (l : List DRec) : entN l ≤ l.length := by
  induction l with
  | nil => exact Nat.le_refl _
  | cons r l ih =>
    unfold entN entL at *
    rw [List.flatMap_cons, List.length_append, List.length_cons]
    split <;> simp only [List.length_nil, List.length_cons] <;> omega
theorem entN_app (l r : List DRec) : entN (l ++ r) = entN l + entN r := by simp [entN, entL]
theorem entC_app (l r : List DRec) : entC (l ++ r) = entC l ++ entC r := by simp [entC, entL, tri]
structure NSt where
  dn : List DRec
  rs : List DRec
  o : Nat
  c : Nat
  v : Value
  E : Chunk
structure NOk (R : List Value) (recs : List DRec) (k : Nat) (xs : List Value) (y : NSt) : Prop where
  all : y.dn ++ y.rs = recs
  row : RowB R y.o (encL y.rs)
  cap : (encL y.rs).length ≤ y.c
  own : Own 87 3 y.v (k + entN y.dn) (xs ++ entC y.dn) y.E
  capb : y.c < 9223372036854775808
theorem encL_cons (r : DRec) (l : List DRec) : encL (r :: l) = r.enc ++ encL l := rfl
set_option maxHeartbeats 1000000 in
theorem names_s {bV bX b o cap k e kk : Nat} {x : XI} {R : List Value} {fr : Nat × Nat} {recs : List DRec} {xs : List Value} {E : Chunk} (hok : ∀ r ∈ recs, r.Ok) (hR : RowB R o (encL recs)) (hc : (encL recs).length ≤ cap)
    (hb : cap < 9223372036854775808) (own : Own 87 3 x.ents k xs E) (hk : k + recs.length < 1000000) (hkk : (encL recs).length = kk) :
    Spec Tryz.prog 157 [.pointer (some ⟨bV, 0, none⟩), .pointer (some ⟨bX, 0, none⟩), Sl b o kk cap] [[(b, .cells R.toArray e fr)]] [[(bX, XO x)], E]
      (fun r : Value × Chunk => Own 87 3 r.1 (k + entN recs) (xs ++ entC recs) r.2) (fun _ => .tuple #[]) (fun r => [[(bX, XO { x with ents := r.1 })], r.2]) := by
  subst hkk
  refine Spec.of Tryz.func157 rfl Tryz.ntmps157 (by simp) fun w => ?_
  refine T.block ?_
  refine T.loop (α := NSt) (fun y => [(0, .pointer (some ⟨bV, 0, none⟩)), (1, .pointer (some ⟨bX, 0, none⟩)), (2, Sl b y.o (encL y.rs).length y.c)]) (fun y => [[(bX, XO { x with ents := y.v })], y.E]) (fun y => NOk R recs k xs y) (fun y => y.rs.length)
    ⟨[], recs, o, cap, x.ents, E⟩ ⟨rfl, hR, hc, by simpa [entN, entC, entL, tri] using own, hb⟩ ?_ (fun y hy => ?_)
  · exact .cons rfl <| .cons rfl <| .cons rfl <| .nil
  refine T.seq ?_
  refine T.sr <| Rl.q Qt.mv <| Rl.q Qt.len <| Rl.gtS (b := 0) (fun h12 => ?_) (fun h12 => ?_)
  · refine Rl.nilK <| ?_
    refine T.condT ?_
    refine T.skip <| Ex.K <| ?_
    refine T.block ?_
    obtain ⟨r, rs, hrs⟩ : ∃ r rs, y.rs = r :: rs := by cases h : y.rs with | nil => rw [h] at h12; exact absurd h12 (by decide) | cons r rs => exact ⟨r, rs, rfl⟩
    have hin : r ∈ recs := by rw [← hy.all, hrs]; simp
    have hr := hok r hin
    have hrow := hy.row
    have hyc := hy.cap
    rw [hrs, encL_cons] at hrow hyc
    have hlen : (encL y.rs).length = (r.enc ++ encL rs).length := by rw [hrs, encL_cons]
    have hl2 : (encL y.rs).length = r.len + (encL rs).length := by rw [hlen, List.length_append, DRec.enc_length]
    have hl3 : r.len = 8 + r.name.length + r.pad.length := rfl
    have hcap : y.c < 9223372036854775808 := hy.capb
    have hyo := hy.own
    have hn4 := hr.len
    have hn1 := hr.big
    have hn2 := hr.name
    have hn3 := hr.kind
    have hn5 := hr.ino
    rw [← hlen] at hyc
    have hdn : y.dn.length + rs.length + 1 = recs.length := by rw [← hy.all, hrs]; simp; omega
    have hdl := entN_le y.dn
    refine T.sr <| Rl.q Qt.mv <| Rl.e (Ef.qcall (S := leR_q (x := r.len) hrow hlen (by decide) (by decide) (by omega) (r.len_at hr _))) fun _ _ => Rl.q Qt.mv <| Rl.e (Ef.qcall (S := leR_q (x := r.name.length) hrow hlen (by decide) (by decide) (by omega) (r.nlen_at hr _))) fun _ _ => Rl.q Qt.mv <| Rl.e (Ef.qcall (S := leR_q (x := r.kind) hrow hlen (by decide) (by decide) (by omega) (r.kind_at hr _))) fun _ _ => Rl.q Qt.as <| ?_
    refine Rl.q Qt.as <| Rl.q Qt.as <| Rl.nilK <| ?_
    refine T.seq ?_
    refine T.sr <| Rl.q Qt.mv <| Rl.q Qt.len <| Rl.q (Qt.ltF (b := 8)) <| Rl.q Qt.mv <| Rl.gt <| Rl.q Qt.mv <| Rl.gt <| Rl.q (Qt.ltF (b := 8)) <| ?_
    refine Rl.q Qt.pkF <| Rl.q Qt.mv <| Rl.gt <| Rl.q Qt.mv <| Rl.gt <| Rl.q (Qt.toN (c := 0) (Qt.rem (b := 4)) (hn4)) <| Rl.gt <| Rl.q (Qt.neF (b := 0)) <| ?_
    refine Rl.q Qt.pkF <| Rl.q Qt.mv <| Rl.gt <| Rl.q Qt.mv <| Rl.gt <| Rl.q Qt.mv <| Rl.gt <| Rl.q Qt.len <| ?_
    refine Rl.gt <| Rl.q Qt.cv <| Rl.gt <| Rl.q Qt.gtF <| Rl.q Qt.pkF <| Rl.q Qt.mv <| Rl.gt <| Rl.q Qt.mv <| ?_
    refine Rl.gt <| Rl.q (Qt.add (a := 8)) <| Rl.gt <| Rl.q Qt.mv <| Rl.gt <| Rl.q Qt.gtF <| Rl.q Qt.pkF <| Rl.nilK <| ?_
    refine T.condF ?_
    refine T.skip <| Ex.K <| ?_
    refine T.seq ?_
    refine T.sr <| Rl.q Qt.mv <| Rl.e (Ef.qcall (S := leR_q (x := r.ino) hrow hlen (by decide) (by decide) (by omega) (r.ino_at hr _))) fun _ _ => Rl.q Qt.as <| Rl.nilK <| ?_
    refine T.sr <| Rl.q Qt.mv <| Rl.neS (b := 0) (fun h53 => ?_) (fun h53 => ?_)
    · refine Rl.nilK <| ?_
      refine T.condT ?_
      refine T.sr <| Rl.q Qt.mv <| Rl.q Qt.mv <| Rl.q (Qt.gtT (b := 0) (h := hr.has h53)) <| Rl.q Qt.mv <| Rl.q Qt.nc <| Rl.q Qt.fa <| Rl.q Qt.ld <| ?_
      refine Rl.e (Ef.qcall (S := must_q _ _ _)) fun _ _ => Rl.nilK <| ?_
      have hnm := hr.has h53
      refine T.dr [14, 15, 16, 17] ?_ mixed
      refine Dr.qs [0, 1, 2, 3, 4, 5, 6, 7, 8, 9, 10, 11, 12] [true] ?_
      refine Dq.p Qt.mv <| Dq.q Qt.mv <| Dq.q Qt.nc <| Dq.q Qt.fa <| Dq.q Qt.ld <| Dq.q Qt.mv <| Dq.q Qt.mv <| Dq.q (Qt.add (a := 8)) <| ?_
      refine Dq.q (Qt.to (u := Sl b (y.o + 8) r.name.length (y.c - 8)) (Qt.sl1 (cl := 8)) (by rw [Nat.add_sub_cancel_left])) <| Dq.q (Qt.bts (s := r.name) (hs := by rw [hrow.part2 (by rw [← hlen]; omega), r.name_at])) <| Dq.q Qt.mv <| Dq.q Qt.mv <| Dq.q Qt.bd <| Dq.nil <| ?_
      refine Dr.e 13 <| Eo.e rfl Ef.bs fun b75 hb75 => ?_
      refine Dr.e 14 <| Eo.e rfl (Ef.ap (own := hyo)) fun v76 hv76 => ?_
      refine Dr.e 15 <| Eo.q rfl Qt.nc <| ?_
      refine Dr.e 16 <| Eo.q rfl Qt.fa <| ?_
      refine Dr.e 17 <| Eo.e0 rfl Ef.st1 fun _ _ => Dr.nil <| Ex.K <| ?_
      refine T.region <| Rl.q Qt.mv <| Rl.q Qt.mv <| Rl.q Qt.sl <| Rl.q Qt.as <| Rl.nil <| Ex.Bnormal <| ?_
      have hrow2 : RowB R (cutAt y.c r.len 1 y.o) (encL rs) := by
        unfold cutAt
        split
        · have : encL rs = [] := List.eq_nil_of_length_eq_zero (by omega)
          rw [this]; cases R <;> cases y.o <;> rfl
        · have := hrow.right; rwa [DRec.enc_length, ← Nat.mul_one r.len] at this
      have hq1 : (encL rs).length ≤ y.c - r.len := by omega
      have hq2 : y.c - r.len < 9223372036854775808 := by omega
      exact Ex.next ⟨y.dn ++ [r], rs, cutAt y.c r.len 1 y.o, y.c - r.len, v76.1, v76.2⟩ ⟨by rw [← hy.all, hrs]; simp, hrow2, hq1, by simpa [entN_app, entC_app, entN, entC, entL, tri, h53, Nat.add_assoc] using hv76, hq2⟩ (by rw [hrs]; simp) (.cons rfl <| .cons rfl <| .cons (by rw [hl2, Nat.add_sub_cancel_left]; rfl) <| .nil)
    · refine Rl.nilK <| ?_
      refine T.condF ?_
      refine T.skip <| Ex.K <| ?_
      refine T.region <| Rl.q Qt.mv <| Rl.q Qt.mv <| Rl.q Qt.sl <| Rl.q Qt.as <| Rl.nil <| Ex.Bnormal <| ?_
      have hrow2 : RowB R (cutAt y.c r.len 1 y.o) (encL rs) := by
        unfold cutAt
        split
        · have : encL rs = [] := List.eq_nil_of_length_eq_zero (by omega)
          rw [this]; cases R <;> cases y.o <;> rfl
        · have := hrow.right; rwa [DRec.enc_length, ← Nat.mul_one r.len] at this
      have hq1 : (encL rs).length ≤ y.c - r.len := by omega
      have hq2 : y.c - r.len < 9223372036854775808 := by omega
      exact Ex.next ⟨y.dn ++ [r], rs, cutAt y.c r.len 1 y.o, y.c - r.len, y.v, y.E⟩ ⟨by rw [← hy.all, hrs]; simp, hrow2, hq1, by simpa [entN_app, entC_app, entN, entC, entL, tri, h53, Nat.add_assoc] using hyo, hq2⟩ (by rw [hrs]; simp) (.cons rfl <| .cons rfl <| .cons (by rw [hl2, Nat.add_sub_cancel_left]; rfl) <| .nil)
  · refine Rl.nilK <| ?_
    refine T.condF ?_
    refine T.exit <| Ex.Kexit <| Ex.Lexit <| Ex.Bhit <| Ex.ret0 (.inr rfl) ?_ rfl
    have hnil : y.rs = [] := by cases h : y.rs with | nil => rfl | cons r rs => rw [h, encL_cons, List.length_append, DRec.enc_length] at h12; unfold DRec.len at h12; omega
    have hall := hy.all
    rw [hnil, List.append_nil] at hall
    exact fun w h => ⟨(y.v, y.E), hall ▸ hy.own, rfl, h⟩
end SL
end Go.Proofs.YtlmiekcmjpnobaaGreatDoor
namespace Go.Proofs.YtlmiekcmjpnobaaGreatDoor
open Go
namespace SL
set_option maxRecDepth 20000

theorem Own.some {e : TypeId} {sz k : Nat} {v : Value} {xs : List Value} {E : Chunk} (h : Own e sz v k xs E) (hk : 0 < k) :
    ∃ b cap sp, v = Sl b 0 k cap ∧ k ≤ cap ∧ cap ≤ maxLen ∧ E = [(b, .cells (xs ++ sp).toArray e (0, 0))] ∧ (xs ++ sp).length = cap * sz := by
  obtain ⟨_, ⟨_, h0, _⟩ | h⟩ := h
  · omega
  · exact h
theorem tri_cons (e : Ent) (l : List Ent) : tri (e :: l) = [SV e.1, N .u64 e.2.1, N .u64 e.2.2] ++ tri l := rfl
theorem tri_seg : ∀ {l : List Ent} {i : Nat} {e : Ent} (r : List Value), l[i]? = some e → seg (tri l ++ r) (i * 3) 3 = some [SV e.1, N .u64 e.2.1, N .u64 e.2.2]
  | e' :: l, 0, e, r, h => by
    simp only [List.getElem?_cons_zero, Option.some.injEq] at h
    subst h
    show seg (_ :: _ :: _ :: (tri l ++ r)) 0 3 = _
    cases (tri l ++ r) <;> rfl
  | e' :: l, i + 1, e, r, h => by
    have h2 := tri_seg r (show l[i]? = some e from h)
    rw [Nat.succ_mul]
    exact h2
theorem tri_nth {l : List Ent} {i j : Nat} {e : Ent} {v : Value} (r : List Value) (h : l[i]? = some e) (hj : j < 3) (hv : [SV e.1, N .u64 e.2.1, N .u64 e.2.2][j]? = some v) : nth (tri l ++ r) (i * 3 + j) = some v := by
  rw [(seg_nth (tri_seg r h)).2 j hj, hv]
/-- The bytes of blocks of records. -/
def blkB (l : List (List DRec)) : List UInt8 := l.flatMap encL
theorem blkB_cons (b : List DRec) (l : List (List DRec)) : blkB (b :: l) = encL b ++ blkB l := rfl
theorem blkB_length {l : List (List DRec)} (h : ∀ b ∈ l, (encL b).length = 4096) : (blkB l).length = l.length * 4096 := by
  induction l with
  | nil => rfl
  | cons b l ih =>
    rw [blkB_cons, List.length_append, h b (List.mem_cons_self ..), ih fun b hb => h b (List.mem_cons_of_mem _ hb), List.length_cons]
    omega
structure BSt where
  dn : List (List DRec)
  rs : List (List DRec)
  o : Nat
  c : Nat
  v : Value
  E : Chunk
structure BOk (R : List Value) (blks : List (List DRec)) (y : BSt) : Prop where
  all : y.dn ++ y.rs = blks
  row : RowB R y.o (blkB y.rs)
  cap : y.rs.length * 4096 ≤ y.c
  own : Own 87 3 y.v (entN y.dn.flatten) (entC y.dn.flatten) y.E
  capb : y.c < 9223372036854775808
theorem noSlash {s : List UInt8} {i : Nat} {c : UInt8} (h : (47 : UInt8) ∉ s) (hc : s[i]? = some c) : c.toNat ≠ 47 := fun e => by
  have : c = 47 := UInt8.toNat_inj.1 e
  subst this
  exact h (List.mem_of_getElem? hc)
set_option maxHeartbeats 4000000 in
theorem entries_s {bV bX b cap parent e : Nat} {x : XI} {R : List Value} {fr : Nat × Nat} {blks : List (List DRec)} {es : List Ent} (hok : ∀ l ∈ blks, ∀ r ∈ l, r.Ok) (hlen : ∀ l ∈ blks, (encL l).length = 4096)
    (hR : RowB R 0 (blkB blks)) (hx : x.content = Sl b 0 (blks.length * 4096) cap) (hcap : blks.length * 4096 ≤ cap ∧ cap < 9223372036854775808) (hne : 0 < blks.length) (hinl : x.inl = false)
    (hn0 : x.ents = .slice none 0 0) (hbig : blks.flatten.length < 1000000) (hes : entL blks.flatten = ([46], x.num, 2) :: ([46, 46], parent, 2) :: es)
    (hdis : ((entL blks.flatten).map (·.1)).Nodup) (hsl : ∀ z ∈ entL blks.flatten, (47 : UInt8) ∉ z.1 ∧ z.1.length < 1000) :
    Spec Tryz.prog 116 [.pointer (some ⟨bV, 0, none⟩), .pointer (some ⟨bX, 0, none⟩), N .u64 parent] [[(b, .cells R.toArray e fr)]] [[(bX, XO x)]]
      (fun r : Value × Chunk => Own 87 3 r.1 (entL blks.flatten).length (tri (entL blks.flatten)) r.2) (fun _ => .tuple #[]) (fun r => [[(bX, XO { x with ents := r.1 })], r.2]) := by
  refine Spec.of Tryz.func116 rfl Tryz.ntmps116 (by simp) fun w => ?_
  have hc1 := hcap.1
  have hc2 := hcap.2
  refine T.sr <| Rl.q Qt.mv <| Rl.q Qt.nc <| Rl.q Qt.fa <| Rl.q (Qt.to (u := Sl b 0 (blks.length * 4096) cap) Qt.ld (hx)) <| Rl.q Qt.as <| Rl.nilK <| ?_
  refine T.seq ?_
  refine T.sr <| Rl.q Qt.mv <| Rl.q Qt.nc <| Rl.q Qt.fa <| Rl.q (Qt.to (u := .bool false) Qt.ld (by simp [hinl])) <| Rl.nilK <| ?_
  refine T.condF ?_
  refine T.sr <| Rl.q Qt.mv <| Rl.q Qt.mv <| Rl.q Qt.len <| Rl.q (Qt.gtT (b := 0)) <| Rl.q Qt.mv <| Rl.gt <| Rl.q Qt.mv <| ?_
  refine Rl.gt <| Rl.q Qt.len <| Rl.gt <| Rl.q (Qt.toN (c := 0) (Qt.rem (b := 4096)) (by omega)) <| Rl.gt <| Rl.q (Qt.eqT (b := 0)) <| Rl.q Qt.pkT <| Rl.q Qt.mv <| ?_
  refine Rl.q Qt.nc <| Rl.q Qt.fa <| Rl.q Qt.ld <| Rl.e (Ef.qcall (S := must_q _ _ _)) fun _ _ => Rl.nilK <| ?_
  refine T.block ?_
  refine T.add0 ?_
  refine T.loop (α := BSt) (fun y => [(0, .pointer (some ⟨bV, 0, none⟩)), (1, .pointer (some ⟨bX, 0, none⟩)), (2, N .u64 parent), (6, Sl b y.o (y.rs.length * 4096) y.c)]) (fun y => [[(bX, XO { x with ents := y.v })], y.E]) (fun y => BOk R blks y) (fun y => y.rs.length)
    ⟨[], blks, 0, cap, x.ents, []⟩ ⟨rfl, hR, hc1, by rw [hn0]; exact Own.nil 87 3, hc2⟩ ?_ (fun y hy => ?_)
  · exact .cons rfl <| .cons rfl <| .cons rfl <| .cons rfl <| .nil
  refine T.seq ?_
  refine T.sr <| Rl.q Qt.mv <| Rl.q Qt.len <| Rl.geS (b := 4096) (fun h74 => ?_) (fun h74 => ?_)
  · refine Rl.nilK <| ?_
    refine T.condT ?_
    refine T.skip <| Ex.K <| ?_
    refine T.seq ?_
    refine T.block ?_
    obtain ⟨bb, bs, hbs⟩ : ∃ bb bs, y.rs = bb :: bs := by cases h : y.rs with | nil => rw [h] at h74; simp at h74 | cons bb bs => exact ⟨bb, bs, rfl⟩
    have hin : bb ∈ blks := by rw [← hy.all, hbs]; simp
    have hb4 := hlen bb hin
    have hrow := hy.row
    rw [hbs, blkB_cons] at hrow
    have hl2 : y.rs.length = bs.length + 1 := by rw [hbs]; rfl
    have hyc := hy.cap
    have hcb := hy.capb
    have hyo := hy.own
    have hl5 : (blkB bs).length = bs.length * 4096 := blkB_length fun l hl => hlen l (by rw [← hy.all, hbs]; simp [hl])
    have hfl : y.dn.flatten.length + bb.length ≤ blks.flatten.length := by rw [← hy.all, hbs]; simp only [List.flatten_append, List.flatten_cons, List.length_append]; omega
    have hdl := entN_le y.dn.flatten
    have hl6 : blks.length = y.dn.length + bs.length + 1 := by rw [← hy.all, hbs]; simp; omega
    refine T.region <| Rl.q Qt.mv <| Rl.q Qt.mv <| Rl.q Qt.mv <| Rl.q (Qt.to (u := Sl b y.o 4096 y.c) (Qt.sl1 (ch := 4096)) (rfl)) <| Rl.e (Ef.call (S := names_s (recs := bb) (k := entN y.dn.flatten) (xs := entC y.dn.flatten) (x := { x with ents := y.v }) (E := y.E) (fun r hr => hok bb hin r hr) hrow.left (by omega) hcb hyo (by omega) hb4)) fun v81 hv81 => Rl.nil <| Ex.Bnormal <| Ex.K <| ?_
    refine T.region <| Rl.q Qt.mv <| Rl.q (Qt.sl (cl := 4096)) <| Rl.q Qt.as <| Rl.nil <| ?_
    have hrow2 : RowB R (cutAt y.c 4096 1 y.o) (blkB bs) := by
      unfold cutAt
      split
      · have : blkB bs = [] := List.eq_nil_of_length_eq_zero (by omega)
        rw [this]; cases R <;> cases y.o <;> rfl
      · have := hrow.right; rwa [hb4] at this
    have hq1 : bs.length * 4096 ≤ y.c - 4096 := by omega
    have hq2 : y.c - 4096 < 9223372036854775808 := by omega
    exact Ex.next ⟨y.dn ++ [bb], bs, cutAt y.c 4096 1 y.o, y.c - 4096, v81.1, v81.2⟩ ⟨by rw [← hy.all, hbs]; simp, hrow2, hq1, by simpa [entN_app, entC_app] using hv81, hq2⟩ (by rw [hbs]; simp) (.cons rfl <| .cons rfl <| .cons rfl <| .cons (by rw [hl2, Nat.succ_mul, Nat.add_sub_cancel]; rfl) <| .nil)
  · refine Rl.nilK <| ?_
    refine T.condF ?_
    refine T.exit <| Ex.Kexit <| Ex.Lexit <| Ex.Bhit <| Ex.K <| ?_
    refine T.seq ?_
    have hnil : y.rs = [] := by cases h : y.rs with | nil => rfl | cons bb bs => rw [h, List.length_cons] at h74; omega
    have hall := hy.all
    rw [hnil, List.append_nil] at hall
    have hyo := hy.own
    rw [hall] at hyo
    have hN : (entL blks.flatten).length = es.length + 2 := by rw [hes]; rfl
    have hN2 := entN_le blks.flatten
    unfold entN entC at *
    obtain ⟨be, ce, sp, hv, hce, hce2, hE, hspl⟩ := hyo.some (by omega)
    rw [hv, hE]
    simp only [maxLen] at hce2
    have z0 : (entL blks.flatten)[0]? = some ([46], x.num, 2) := by rw [hes]; rfl
    have z1 : (entL blks.flatten)[1]? = some ([46, 46], parent, 2) := by rw [hes]; rfl
    refine T.sr <| Rl.q Qt.mv <| Rl.q Qt.nc <| Rl.q Qt.fa <| Rl.q Qt.ld <| Rl.q Qt.len <| Rl.q (Qt.ltF (b := 2)) <| Rl.q Qt.mv <| ?_
    refine Rl.gt <| Rl.q Qt.mv <| Rl.gt <| Rl.q Qt.nc <| Rl.gt <| Rl.q Qt.fa <| Rl.gt <| Rl.q Qt.ld <| ?_
    refine Rl.gt <| Rl.q (Qt.ia (i := 0)) <| Rl.gt <| Rl.q Qt.fa <| Rl.gt <| Rl.q (Qt.ld (hv := tri_nth (j := 0) sp z0 (by decide) rfl)) <| Rl.gt <| Rl.q (Qt.sneF (h := rfl)) <| ?_
    refine Rl.q Qt.pkF <| Rl.q Qt.mv <| Rl.gt <| Rl.q Qt.mv <| Rl.gt <| Rl.q Qt.nc <| Rl.gt <| Rl.q Qt.fa <| ?_
    refine Rl.gt <| Rl.q Qt.ld <| Rl.gt <| Rl.q (Qt.ia (i := 1)) <| Rl.gt <| Rl.q Qt.fa <| Rl.gt <| Rl.q (Qt.ld (hv := tri_nth (j := 0) sp z1 (by decide) rfl)) <| ?_
    refine Rl.gt <| Rl.q (Qt.sneF (h := rfl)) <| Rl.q Qt.pkF <| Rl.nilK <| ?_
    refine T.condF ?_
    refine T.skip <| Ex.K <| ?_
    refine T.sdr [] ?_ mixed
    refine Dr.qs [0, 1, 2, 3, 4, 5, 6, 7, 8, 9, 10, 11, 12, 13, 14, 15, 16, 17, 18, 19, 20, 21, 22, 23, 24, 25, 26, 27] [] ?_
    refine Dq.q Qt.mv <| Dq.q Qt.mv <| Dq.q Qt.nc <| Dq.q Qt.fa <| Dq.q Qt.ld <| Dq.q (Qt.ia (i := 0)) <| Dq.q Qt.fa <| Dq.q (Qt.ld (hv := tri_nth (j := 1) sp z0 (by decide) rfl)) <| ?_
    refine Dq.q Qt.mv <| Dq.q Qt.nc <| Dq.q Qt.fa <| Dq.q Qt.ld <| Dq.q (Qt.eqT (h := rfl)) <| Dq.q Qt.mv <| Dq.gt <| Dq.q Qt.mv <| ?_
    refine Dq.gt <| Dq.q Qt.nc <| Dq.gt <| Dq.q Qt.fa <| Dq.gt <| Dq.q Qt.ld <| Dq.gt <| Dq.q (Qt.ia (i := 0)) <| ?_
    refine Dq.gt <| Dq.q Qt.fa <| Dq.gt <| Dq.q (Qt.ld (hv := tri_nth (j := 2) sp z0 (by decide) rfl)) <| Dq.gt <| Dq.q (Qt.eqT (b := 2) (h := rfl)) <| Dq.q Qt.pkT <| Dq.q Qt.mv <| ?_
    refine Dq.q Qt.nc <| Dq.q Qt.fa <| Dq.q Qt.ld <| Dq.c rfl (must_q _ _ _) <| Dq.nil <| Dr.nilK <| ?_
    refine T.sdr [] ?_ mixed
    refine Dr.qs [0, 1, 2, 3, 4, 5, 6, 7, 8, 9, 10, 11, 12, 13, 14, 15, 16, 17, 18, 19, 20, 21, 22, 23, 24] [] ?_
    refine Dq.q Qt.mv <| Dq.q Qt.mv <| Dq.q Qt.nc <| Dq.q Qt.fa <| Dq.q Qt.ld <| Dq.q (Qt.ia (i := 1)) <| Dq.q Qt.fa <| Dq.q (Qt.ld (hv := tri_nth (j := 1) sp z1 (by decide) rfl)) <| ?_
    refine Dq.q Qt.mv <| Dq.q (Qt.eqT (h := rfl)) <| Dq.q Qt.mv <| Dq.gt <| Dq.q Qt.mv <| Dq.gt <| Dq.q Qt.nc <| Dq.gt <| Dq.q Qt.fa <| ?_
    refine Dq.gt <| Dq.q Qt.ld <| Dq.gt <| Dq.q (Qt.ia (i := 1)) <| Dq.gt <| Dq.q Qt.fa <| Dq.gt <| Dq.q (Qt.ld (hv := tri_nth (j := 2) sp z1 (by decide) rfl)) <| ?_
    refine Dq.gt <| Dq.q (Qt.eqT (b := 2) (h := rfl)) <| Dq.q Qt.pkT <| Dq.q Qt.mv <| Dq.q Qt.nc <| Dq.q Qt.fa <| Dq.q Qt.ld <| Dq.c rfl (must_q _ _ _) <| ?_
    refine Dq.nil <| Dr.nilK <| ?_
    refine T.sr <| Rl.q Qt.mv <| Rl.q Qt.nc <| Rl.q Qt.fa <| Rl.q Qt.ld <| Rl.q Qt.len <| Rl.q (Qt.mv (v := N .i64 0)) <| Rl.nilK <| ?_
    refine T.block ?_
    refine T.loop (α := Nat) (fun i => [(0, .pointer (some ⟨bV, 0, none⟩)), (1, .pointer (some ⟨bX, 0, none⟩)), (170, Sl be 0 (entL blks.flatten).length ce), (171, N .i64 (entL blks.flatten).length), (172, N .i64 i)]) (fun i => [[(bX, XO { x with ents := Sl be 0 (entL blks.flatten).length ce })], [(be, .cells (tri (entL blks.flatten) ++ sp).toArray 87 (0, 0))]]) (fun i => i ≤ (entL blks.flatten).length) (fun i => (entL blks.flatten).length - i)
      0 (Nat.zero_le _) ?_ (fun i hi => ?_)
    · exact .cons rfl <| .cons rfl <| .cons rfl <| .cons rfl <| .cons rfl <| .nil
    refine T.sr <| Rl.ltS (fun h173 => ?_) (fun h173 => ?_)
    · refine Rl.nilK <| ?_
      refine T.seq ?_
      refine T.condT ?_
      refine T.skip <| Ex.K <| ?_
      refine T.seq ?_
      refine T.block ?_
      obtain ⟨z, hz⟩ : ∃ z, (entL blks.flatten)[i]? = some z := ⟨_, List.getElem?_eq_getElem h173⟩
      have hzl := (hsl z (List.mem_of_getElem? hz)).2
      refine T.sr <| Rl.q Qt.mv <| Rl.q Qt.ia <| Rl.q (Qt.ldA (hv := by rw [Nat.zero_add]; exact tri_seg sp hz)) <| Rl.e Ef.alA fun b8 hb8 => Rl.q Qt.as <| Rl.e0 Ef.st fun _ _ => Rl.nilK <| ?_
      refine T.seq ?_
      refine T.sr <| Rl.q Qt.mv <| Rl.q Qt.nc <| Rl.q Qt.fa <| Rl.q Qt.ld <| Rl.q Qt.mv <| Rl.q (Qt.to (u := Sl be 0 i ce) Qt.sl (by simp [cutAt])) <| Rl.q Qt.len <| ?_
      refine Rl.q (Qt.mv (v := N .i64 0)) <| Rl.nilK <| ?_
      refine T.block ?_
      refine T.loop (α := Nat) (fun j => [(0, .pointer (some ⟨bV, 0, none⟩)), (1, .pointer (some ⟨bX, 0, none⟩)), (8, .pointer (some ⟨b8, 0, none⟩)), (170, Sl be 0 (entL blks.flatten).length ce), (171, N .i64 (entL blks.flatten).length), (172, N .i64 i), (182, Sl be 0 i ce), (183, N .i64 i), (184, N .i64 j)]) (fun j => [[(bX, XO { x with ents := Sl be 0 (entL blks.flatten).length ce })], [(be, .cells (tri (entL blks.flatten) ++ sp).toArray 87 (0, 0))], [(b8, .cells [SV z.1, N .u64 z.2.1, N .u64 z.2.2].toArray 87 (0, 0))]]) (fun j => j ≤ i) (fun j => i - j)
        0 (Nat.zero_le _) ?_ (fun j hj => ?_)
      · exact .cons rfl <| .cons rfl <| .cons rfl <| .cons rfl <| .cons rfl <| .cons rfl <| .cons rfl <| .cons rfl <| .cons rfl <| .nil
      refine T.sr <| Rl.ltS (fun h185 => ?_) (fun h185 => ?_)
      · refine Rl.nilK <| ?_
        refine T.seq ?_
        refine T.condT ?_
        refine T.skip <| Ex.K <| ?_
        refine T.seq ?_
        refine T.block ?_
        obtain ⟨u, hu⟩ : ∃ u, (entL blks.flatten)[j]? = some u := ⟨_, List.getElem?_eq_getElem (by omega)⟩
        have hne2 : z.1 ≠ u.1 := fun hzu => by
          have h1 := (List.getElem?_inj (l := (entL blks.flatten).map (·.1)) (by simpa using h173) hdis).1 (show _ = ((entL blks.flatten).map (·.1))[j]? by simp [hz, hu, hzu])
          omega
        refine T.sr <| Rl.q Qt.ia <| Rl.q (Qt.ldA (hv := by rw [Nat.zero_add]; exact tri_seg sp hu)) <| Rl.e Ef.alA fun b10 hb10 => Rl.e0 Ef.st fun _ _ => Rl.nilK <| ?_
        refine T.dr [] ?_ mixed
        refine Dr.qs [0, 1, 2, 3, 4, 5, 6, 7, 8, 9, 10] [] ?_
        refine Dq.q Qt.mv <| Dq.q Qt.fa <| Dq.q Qt.ld <| Dq.q Qt.fa <| Dq.q Qt.ld <| Dq.q (Qt.sneT (h := hne2)) <| Dq.q Qt.mv <| Dq.q Qt.nc <| ?_
        refine Dq.q Qt.fa <| Dq.q Qt.ld <| Dq.c rfl (must_q _ _ _) <| Dq.nil <| Dr.nil <| Ex.Bnormal <| Ex.K <| ?_
        refine T.region <| Rl.q (Qt.add (b := 1)) <| Rl.q Qt.mv <| Rl.nil <| ?_
        exact Ex.next (j + 1) (by omega) (by omega) (.cons rfl <| .cons rfl <| .cons rfl <| .cons rfl <| .cons rfl <| .cons rfl <| .cons rfl <| .cons rfl <| .cons rfl <| .nil)
      · refine Rl.nilK <| ?_
        refine T.seq ?_
        refine T.condF ?_
        refine T.exit <| Ex.Kexit <| Ex.Lexit <| Ex.Bhit <| Ex.K <| ?_
        refine T.sr <| Rl.q (Qt.as (v := N .i64 0)) <| Rl.nilK <| ?_
        refine T.block ?_
        refine T.loop (α := Nat) (fun j => [(0, .pointer (some ⟨bV, 0, none⟩)), (1, .pointer (some ⟨bX, 0, none⟩)), (8, .pointer (some ⟨b8, 0, none⟩)), (170, Sl be 0 (entL blks.flatten).length ce), (171, N .i64 (entL blks.flatten).length), (172, N .i64 i), (11, N .i64 j)]) (fun j => [[(bX, XO { x with ents := Sl be 0 (entL blks.flatten).length ce })], [(be, .cells (tri (entL blks.flatten) ++ sp).toArray 87 (0, 0))], [(b8, .cells [SV z.1, N .u64 z.2.1, N .u64 z.2.2].toArray 87 (0, 0))]]) (fun j => j ≤ z.1.length) (fun j => z.1.length - j)
          0 (Nat.zero_le _) ?_ (fun j hj => ?_)
        · exact .cons rfl <| .cons rfl <| .cons rfl <| .cons rfl <| .cons rfl <| .cons rfl <| .cons rfl <| .nil
        refine T.seq ?_
        refine T.sr <| Rl.q Qt.mv <| Rl.q Qt.fa <| Rl.q Qt.ld <| Rl.q Qt.lenS <| Rl.ltS (fun h204 => ?_) (fun h204 => ?_)
        · refine Rl.nilK <| ?_
          refine T.condT ?_
          refine T.skip <| Ex.K <| ?_
          refine T.seq ?_
          refine T.block ?_
          obtain ⟨cj, hcj⟩ : ∃ c, z.1[j]? = some c := ⟨_, List.getElem?_eq_getElem h204⟩
          refine T.dr [] ?_ mixed
          refine Dr.qs [0, 1, 2, 3, 4, 5, 6, 7, 8, 9, 10] [] ?_
          refine Dq.q Qt.mv <| Dq.q Qt.fa <| Dq.q Qt.ld <| Dq.q Qt.mv <| Dq.q (Qt.ixS (hc := hcj)) <| Dq.q (Qt.neT (b := 47) (h := noSlash (hsl _ (List.mem_of_getElem? hz)).1 hcj)) <| Dq.q Qt.mv <| Dq.q Qt.nc <| ?_
          refine Dq.q Qt.fa <| Dq.q Qt.ld <| Dq.c rfl (must_q _ _ _) <| Dq.nil <| Dr.nil <| Ex.Bnormal <| Ex.K <| ?_
          refine T.region <| Rl.q Qt.mv <| Rl.q (Qt.add (b := 1)) <| Rl.q Qt.as <| Rl.nil <| ?_
          exact Ex.next (j + 1) (by omega) (by omega) (.cons rfl <| .cons rfl <| .cons rfl <| .cons rfl <| .cons rfl <| .cons rfl <| .cons rfl <| .nil)
        · refine Rl.nilK <| ?_
          refine T.condF ?_
          refine T.exit <| Ex.Kexit <| Ex.Lexit <| Ex.Bhit <| Ex.Bnormal <| Ex.K <| ?_
          refine T.region <| Rl.q (Qt.add (b := 1)) <| Rl.q Qt.mv <| Rl.nil <| ?_
          exact Ex.next (i + 1) (by omega) (by omega) (.cons rfl <| .cons rfl <| .cons rfl <| .cons rfl <| .cons rfl <| .nil)
    · refine Rl.nilK <| ?_
      refine T.seq ?_
      refine T.condF ?_
      refine T.exit <| Ex.Kexit <| Ex.Lexit <| Ex.Bhit <| Ex.ret0 (.inr rfl) ?_ rfl
      exact fun w h => ⟨(Sl be 0 (entL blks.flatten).length ce, [(be, .cells (tri (entL blks.flatten) ++ sp).toArray 87 (0, 0))]), ⟨tri_length _, .inr ⟨be, ce, sp, rfl, hce, by simpa only [maxLen] using hce2, rfl, hspl⟩⟩, rfl, h⟩
end SL
end Go.Proofs.YtlmiekcmjpnobaaGreatDoor
namespace Go.Proofs.YtlmiekcmjpnobaaGreatDoor
open Go
namespace SL
set_option maxRecDepth 20000

theorem leBx_q {B : List UInt8} {RI : List Value} [RowC RI B] {b o k cap p n e x : Nat} {fr : Nat × Nat} (h : o + k ≤ B.length) (hp : p + n ≤ k) (h8 : n ≤ 8) (hl : B.length < 4611686018427387904) (hx : leN B (o + p) n = x) :
    QSpec Tryz.prog 62 [Sl b o k cap, N .u64 p, N .u64 n] [[(b, CI RI e fr)]] (N .u64 x) := hx ▸ leB_q h hp h8 hl
/-- The root of the extents of an inode that has one extent. -/
structure Ext1 (B : List UInt8) (ob start len : Nat) : Prop where
  magic : leN B ob 2 = 62218
  n : leN B (ob + 2) 2 = 1
  most : leN B (ob + 4) 2 = 4
  depth : leN B (ob + 6) 2 = 0
  frm : leN B (ob + 12) 4 = 0
  len : leN B (ob + 16) 2 = len
  hi : leN B (ob + 18) 2 = 0
  lo : leN B (ob + 20) 4 = start
def putB (l : List UInt8) (o : Nat) (vs : List UInt8) : List UInt8 := l.take o ++ vs ++ l.drop (o + vs.length)
theorem putL_bcs (l : List UInt8) (o : Nat) (vs : List UInt8) : putL (bc l) o (bc vs) = bc (putB l o vs) := by
  simp only [putL, putB, bc_app, bc_take, bc_drop, bc_length]
theorem cut_add (B : List UInt8) (s a b : Nat) : cut B s (a + b) = cut B s a ++ cut B (s + a) b := by
  simp only [cut, List.take_add, List.drop_drop]
def contL (B : List UInt8) (s size k : Nat) : List UInt8 := cut B s (min (k * 4096) size) ++ List.replicate (size - k * 4096) 0
theorem contL_length {B : List UInt8} {s size k : Nat} (h : s + size ≤ B.length) : (contL B s size k).length = size := by
  rw [contL, List.length_append, cut_length (by omega), List.length_replicate]; omega
theorem contL_step {B : List UInt8} {s size k : Nat} (h : s + size ≤ B.length) (hk : k * 4096 < size) :
    putB (contL B s size k) (k * 4096) (cut B (s + k * 4096) (Nat.min 4096 (size - k * 4096))) = contL B s size (k + 1) := by
  have hm : Nat.min 4096 (size - k * 4096) = min 4096 (size - k * 4096) := rfl
  have h1 : min (k * 4096) size = k * 4096 := Nat.min_eq_left (Nat.le_of_lt hk)
  have h2 : (cut B s (k * 4096)).length = k * 4096 := cut_length (by omega)
  have h3 : (cut B (s + k * 4096) (Nat.min 4096 (size - k * 4096))).length = Nat.min 4096 (size - k * 4096) := cut_length (by omega)
  have h4 : min ((k + 1) * 4096) size = k * 4096 + Nat.min 4096 (size - k * 4096) := by omega
  unfold putB contL
  rw [h1, h4, cut_add, List.take_left' h2, h3, List.drop_append, List.drop_eq_nil_of_le (by omega), h2, List.nil_append, List.append_assoc, List.append_assoc]
  congr 2
  rw [List.drop_replicate]
  congr 1
  omega
theorem contL_zero (B : List UInt8) (s size : Nat) : contL B s size 0 = List.replicate size 0 := by simp [contL, cut]
theorem contL_all {B : List UInt8} {s size k : Nat} (h : size ≤ k * 4096) : contL B s size k = cut B s size := by
  rw [contL, Nat.min_eq_right h, show size - k * 4096 = 0 by omega]
  simp
variable {bV bX bI bC bO bN cap nb pi cc ob start len size eI eO : Nat} {ino : Value} {x : XI} {B : List UInt8} {RI : List Value} [RowC RI B] {f : Nat → Bool} {frI : Nat × Nat}
set_option maxHeartbeats 4000000 in
theorem extents_s (X : Ext1 B ob start len) (hB : B.length = nb * 4096) (hcap : nb * 4096 ≤ cap) (hcap2 : cap < 9223372036854775808) (hob : ob + 60 ≤ nb * 4096) (hcc : 60 ≤ cc) (hcc2 : cc < 9223372036854775808) (hnb : nb < 1000000)
    (hst : start + len ≤ nb) (hl : 1 ≤ len) (hl2 : len ≤ 32768) (hs1 : (len - 1) * 4096 < size) (hs2 : size ≤ len * 4096) (hcont : x.content = Sl bC 0 size size) (hsz : x.size = size) (hbl : x.blocks < 1000000)
    (hf : ∀ j, start ≤ j → j < start + len → f j = false) :
    Spec Tryz.prog 177 [.pointer (some ⟨bV, 0, none⟩), .pointer (some ⟨bX, 0, none⟩), Sl bI ob 60 cc, N .i64 5, .pointer (some ⟨bN, 0, none⟩)]
      [[(bV, VO ino nb (Sl bI 0 (nb * 4096) cap) 1 pi (Sl bO 0 nb nb))], [(bI, CI RI eI frI)]] [[(bX, XO x)], [(bC, BO (List.replicate size 0) 5 (0, 0))], [(bO, BO (ownL nb f) eO (0, 0))], [(bN, .cells [N .u64 0].toArray 66 (0, 0))]]
      (fun _ : Unit => True) (fun _ => .tuple #[]) (fun _ => [[(bX, XO { x with blocks := x.blocks + len })], [(bC, BO (cut B (start * 4096) size) 5 (0, 0))],
        [(bO, BO (ownL nb fun j => f j || (decide (start ≤ j) && decide (j < start + len))) eO (0, 0))], [(bN, .cells [N .u64 len].toArray 66 (0, 0))]]) := by
  refine Spec.of Tryz.func177 rfl Tryz.ntmps177 (by simp) fun w => ?_
  have hBl : B.length < 4611686018427387904 := by omega
  have hO : ob + 60 ≤ B.length := by omega
  have hO2 : ob + 12 + 12 ≤ B.length := by omega
  refine T.sr <| Rl.q Qt.mv <| Rl.e (Ef.qcall (S := leBx_q (p := 2) (n := 2) hO (by decide) (by decide) hBl X.n)) fun _ _ => Rl.q Qt.mv <| Rl.e (Ef.qcall (S := leBx_q (p := 4) (n := 2) hO (by decide) (by decide) hBl X.most)) fun _ _ => Rl.q Qt.mv <| Rl.e (Ef.qcall (S := leBx_q (p := 6) (n := 2) hO (by decide) (by decide) hBl X.depth)) fun _ _ => Rl.q (Qt.cv (a := 0) (h := by decide)) <| ?_
  refine Rl.q Qt.as <| Rl.q Qt.as <| Rl.q Qt.as <| Rl.nilK <| ?_
  refine T.sdr [] ?_ mixed
  refine Dr.qs [0, 1, 2, 3, 4, 5, 6, 7, 8] [] ?_
  refine Dq.q Qt.mv <| Dq.q Qt.mv <| Dq.c rfl (leBx_q (p := 0) (n := 2) hO (by decide) (by decide) hBl X.magic) <| Dq.q (Qt.eqT (b := 62218) (h := rfl)) <| Dq.q Qt.mv <| Dq.q Qt.nc <| Dq.q Qt.fa <| Dq.q Qt.ld <| ?_
  refine Dq.c rfl (must_q _ _ _) <| Dq.nil <| Dr.nilK <| ?_
  refine T.sr <| Rl.q Qt.mv <| Rl.q Qt.mv <| Rl.q Qt.mv <| Rl.q (Qt.leT (h := by decide)) <| Rl.q Qt.mv <| Rl.gt <| Rl.q Qt.mv <| ?_
  refine Rl.gt <| Rl.q (Qt.toN (c := 48) (Qt.mul (a := 12) (b := 4) (h := by decide)) (rfl)) <| Rl.gt <| Rl.q (Qt.toN (c := 60) (Qt.add (a := 12) (b := 48) (h := by decide)) (rfl)) <| Rl.gt <| Rl.q Qt.mv <| Rl.gt <| Rl.q Qt.len <| ?_
  refine Rl.gt <| Rl.q (Qt.cv (a := 60) (h := by decide)) <| Rl.gt <| Rl.q (Qt.leT (h := by decide) (a := 60) (b := 60)) <| Rl.q Qt.pkT <| Rl.q Qt.mv <| Rl.q Qt.nc <| Rl.q Qt.fa <| ?_
  refine Rl.q Qt.ld <| Rl.e (Ef.qcall (S := must_q _ _ _)) fun _ _ => Rl.nilK <| ?_
  refine T.sr <| Rl.q Qt.mv <| Rl.q Qt.mv <| Rl.q (Qt.leT (b := 5) (h := by decide)) <| Rl.q Qt.mv <| Rl.gt <| Rl.q Qt.mv <| Rl.gt <| Rl.q (Qt.eqT (b := 5) (h := rfl)) <| ?_
  refine Rl.gt <| Rl.q Qt.mv <| Rl.gf <| Rl.gf <| Rl.gf <| Rl.gf <| Rl.gt <| Rl.q (Qt.pkT (v := .bool true)) <| ?_
  refine Rl.q Qt.pkT <| Rl.q Qt.mv <| Rl.q Qt.nc <| Rl.q Qt.fa <| Rl.q Qt.ld <| Rl.e (Ef.qcall (S := must_q _ _ _)) fun _ _ => Rl.nilK <| ?_
  refine T.seq ?_
  refine T.sr <| Rl.q Qt.mv <| Rl.e (Ef.qcall (S := leBx_q (p := 0) (n := 2) hO (by decide) (by decide) hBl X.magic)) fun _ _ => Rl.q (Qt.neF (b := 62218) (h := rfl)) <| Rl.q Qt.mv <| Rl.gt <| Rl.q Qt.mv <| Rl.gt <| Rl.q (Qt.toN (c := 12) (Qt.mul (a := 12) (b := 1) (h := by decide)) (rfl)) <| ?_
  refine Rl.gt <| Rl.q (Qt.toN (c := 24) (Qt.add (a := 12) (b := 12) (h := by decide)) (rfl)) <| Rl.gt <| Rl.q Qt.mv <| Rl.gt <| Rl.q Qt.len <| Rl.gt <| Rl.q (Qt.cv (a := 60) (h := by decide)) <| ?_
  refine Rl.gt <| Rl.q (Qt.gtF (h := by decide)) <| Rl.q Qt.pkF <| Rl.q Qt.mv <| Rl.gt <| Rl.q Qt.mv <| Rl.gt <| Rl.q (Qt.gtF (b := 5) (h := by decide)) <| ?_
  refine Rl.q Qt.pkF <| Rl.q Qt.mv <| Rl.gt <| Rl.q Qt.mv <| Rl.gt <| Rl.q (Qt.neF (b := 5) (h := rfl)) <| Rl.gt <| Rl.q Qt.mv <| ?_
  refine Rl.gf <| Rl.gf <| Rl.gf <| Rl.gf <| Rl.gt <| Rl.q (Qt.pkF (v := .bool false)) <| Rl.q Qt.pkF <| Rl.nilK <| ?_
  refine T.condF ?_
  refine T.skip <| Ex.K <| ?_
  refine T.sr <| Rl.q (Qt.as (v := N .u64 0)) <| Rl.nilK <| ?_
  refine T.block ?_
  refine T.rounds 1 ?_
  refine T.seq ?_
  refine T.sr <| Rl.q Qt.mv <| Rl.q Qt.mv <| Rl.q (Qt.ltT (h := by decide)) <| Rl.nilK <| ?_
  refine T.condT ?_
  refine T.skip <| Ex.K <| ?_
  refine T.seq ?_
  refine T.block ?_
  refine T.sr <| Rl.q Qt.mv <| Rl.q Qt.mv <| Rl.q (Qt.toN (c := 0) (Qt.mul (a := 12) (b := 0) (h := by decide)) (rfl)) <| Rl.q (Qt.toN (c := 12) (Qt.add (a := 12) (b := 0) (h := by decide)) (rfl)) <| Rl.q Qt.mv <| Rl.q (Qt.toN (c := 0) (Qt.mul (a := 12) (b := 0) (h := by decide)) (rfl)) <| Rl.q (Qt.toN (c := 24) (Qt.add (a := 24) (b := 0) (h := by decide)) (rfl)) <| ?_
  refine Rl.q (Qt.to (u := Sl bI (ob + 12) 12 (cc - 12)) (Qt.sl1 (cl := 12) (ch := 24)) (rfl)) <| Rl.q Qt.as <| Rl.nilK <| ?_
  refine T.sr <| Rl.q Qt.mv <| Rl.e (Ef.qcall (S := leBx_q (p := 0) (n := 4) hO2 (by decide) (by decide) hBl X.frm)) fun _ _ => Rl.q Qt.as <| Rl.nilK <| ?_
  refine T.sdr [] ?_ mixed
  refine Dr.qs [0, 1, 2, 3, 4, 5, 6, 7, 8, 9, 10] [] ?_
  refine Dq.q Qt.mv <| Dq.q Qt.mv <| Dq.q Qt.mv <| Dq.q Qt.nc <| Dq.q Qt.ld <| Dq.q (Qt.geT (h := by decide)) <| Dq.q Qt.mv <| Dq.q Qt.nc <| ?_
  refine Dq.q Qt.fa <| Dq.q Qt.ld <| Dq.c rfl (must_q _ _ _) <| Dq.nil <| Dr.nilK <| ?_
  refine T.seq ?_
  refine T.sr <| Rl.q Qt.mv <| Rl.q (Qt.gtF (b := 0) (h := by decide)) <| Rl.nilK <| ?_
  refine T.condF ?_
  refine T.skip <| Ex.K <| ?_
  refine T.sr <| Rl.q Qt.mv <| Rl.e (Ef.qcall (S := leBx_q (p := 4) (n := 2) hO2 (by decide) (by decide) hBl X.len)) fun _ _ => Rl.q Qt.mv <| Rl.e (Ef.qcall (S := leBx_q (p := 8) (n := 4) hO2 (by decide) (by decide) hBl X.lo)) fun _ _ => Rl.q Qt.mv <| Rl.e (Ef.qcall (S := leBx_q (p := 6) (n := 2) hO2 (by decide) (by decide) hBl X.hi)) fun _ _ => Rl.q (Qt.toN (c := 0) (Qt.shl (b := 32) (a := 0) (h := ⟨by decide, by decide⟩)) (Nat.zero_mul _)) <| ?_
  refine Rl.q (Qt.toN (c := start) (Qt.or (h := ⟨by simp only [lim]; omega, by decide⟩)) (Nat.or_zero _)) <| Rl.q Qt.as <| Rl.q Qt.as <| Rl.nilK <| ?_
  refine T.sr <| Rl.q Qt.mv <| Rl.q Qt.mv <| Rl.q (Qt.geT (b := 1)) <| Rl.q Qt.mv <| Rl.gt <| Rl.q Qt.mv <| Rl.gt <| Rl.q (Qt.leT (b := 32768)) <| ?_
  refine Rl.q Qt.pkT <| Rl.q Qt.mv <| Rl.q Qt.nc <| Rl.q Qt.fa <| Rl.q Qt.ld <| Rl.e (Ef.qcall (S := must_q _ _ _)) fun _ _ => Rl.nilK <| ?_
  refine T.seq ?_
  refine T.sr <| Rl.q Qt.mv <| Rl.q (Qt.gtF (b := 32768)) <| Rl.nilK <| ?_
  refine T.condF ?_
  refine T.skip <| Ex.K <| ?_
  refine T.seq ?_
  refine T.sr <| Rl.q (Qt.as (v := N .u64 0)) <| Rl.nilK <| ?_
  refine T.block ?_
  rw [show (List.replicate size 0 : List UInt8) = contL B (start * 4096) size 0 from (contL_zero _ _ _).symm, show ownL nb f = ownL nb (fun j => f j || (decide (start ≤ j) && decide (j < start + 0))) from ownL_ext fun j hj => Bool.eq_iff_iff.2 (by simp; omega)]
  refine T.loop (α := Nat) (fun k => [(0, .pointer (some ⟨bV, 0, none⟩)), (1, .pointer (some ⟨bX, 0, none⟩)), (4, .pointer (some ⟨bN, 0, none⟩)), (10, N .u64 1), (13, N .u64 0), (15, N .u64 0), (18, N .u64 len), (19, N .u64 start), (20, N .u64 k)]) (fun k => [[(bX, XO { x with blocks := x.blocks + k })], [(bC, BO (contL B (start * 4096) size k) 5 (0, 0))], [(bO, BO (ownL nb fun j => f j || (decide (start ≤ j) && decide (j < start + k))) eO (0, 0))], [(bN, .cells [N .u64 0].toArray 66 (0, 0))]]) (fun k => k ≤ len) (fun k => len - k)
    0 (Nat.zero_le _) ?_ (fun k hk => ?_)
  · exact .cons rfl <| .cons rfl <| .cons rfl <| .cons rfl <| .cons rfl <| .cons rfl <| .cons rfl <| .cons rfl <| .cons rfl <| .nil
  refine T.seq ?_
  refine T.sr <| Rl.q Qt.mv <| Rl.q Qt.mv <| Rl.ltS (fun h196 => ?_) (fun h196 => ?_)
  · refine Rl.nilK <| ?_
    refine T.condT ?_
    refine T.skip <| Ex.K <| ?_
    refine T.seq ?_
    refine T.block ?_
    have hka : (start + k) * 4096 + 4096 ≤ nb * 4096 := by have := Nat.mul_le_mul_right 4096 (show start + k + 1 ≤ nb by omega); omega
    have hkb : k * 4096 < size := by have := Nat.mul_le_mul_right 4096 (show k ≤ len - 1 by omega); omega
    have hsl : start * 4096 + size ≤ B.length := by have := Nat.mul_le_mul_right 4096 hst; omega
    have hmin : Nat.min 4096 (size - k * 4096) ≤ 4096 := Nat.min_le_left _ _
    have hmin2 : Nat.min 4096 (size - k * 4096) ≤ size - k * 4096 := Nat.min_le_right _ _
    have hq1 : (start + k) * 4096 + Nat.min 4096 (size - k * 4096) ≤ nb * 4096 := by omega
    have hq2 : k * 4096 + Nat.min 4096 (size - k * 4096) ≤ size := by omega
    refine T.sr <| Rl.q Qt.mv <| Rl.q Qt.mv <| Rl.q Qt.mv <| Rl.q Qt.add <| Rl.e (Ef.call (S := claim_s (nb := nb) (f := fun j => f j || (decide (start ≤ j) && decide (j < start + k))) (n := start + k) _ (by omega) (by simp [hf (start + k) (by omega) (by omega)]) (by decide) (by omega))) fun _ _ => Rl.nilK <| ?_
    refine T.sr <| Rl.q Qt.mv <| Rl.q Qt.nc <| Rl.q Qt.fa <| Rl.q Qt.ld <| Rl.q (Qt.toN (c := x.blocks + (k + 1)) (Qt.add (b := 1) (h := by simp only [lim]; show x.blocks + k + 1 < _; omega)) (rfl)) <| Rl.q Qt.nc <| Rl.q Qt.fa <| ?_
    refine Rl.e0 Ef.st1 fun _ _ => Rl.nilK <| ?_
    refine T.sr <| Rl.q Qt.mv <| Rl.q Qt.mv <| Rl.q (Qt.toN (c := k) (Qt.add (a := 0))) <| Rl.q (Qt.mul (b := 4096)) <| Rl.q Qt.as <| Rl.nilK <| ?_
    refine T.sr <| Rl.q Qt.mv <| Rl.q Qt.mv <| Rl.q Qt.nc <| Rl.q Qt.fa <| Rl.q (Qt.toN (c := size) Qt.ld (hsz)) <| Rl.q (Qt.ltT (h := by omega)) <| Rl.nilK <| ?_
    refine T.condT ?_
    refine T.dr [11] ?_ mixed
    refine Dr.qs [0, 1, 2, 3, 4, 5, 6, 7, 8, 9, 10] [] ?_
    refine Dq.q Qt.mv <| Dq.q Qt.nc <| Dq.q Qt.fa <| Dq.q (Qt.to (u := Sl bC 0 size size) Qt.ld (hcont)) <| Dq.q Qt.mv <| Dq.q (Qt.to (u := Sl bC (k * 4096) (size - k * 4096) (size - k * 4096)) Qt.sl1 (by rw [Nat.zero_add])) <| Dq.q Qt.mv <| Dq.q Qt.mv <| ?_
    refine Dq.q Qt.mv <| Dq.q Qt.add <| Dq.c rfl (block_q (n := start + k) (by omega) hcap hcap2) <| Dq.nil <| ?_
    refine Dr.e 11 <| Eo.e rfl (Ef.cp (hs := show seg RI ((start + k) * 4096) (Nat.min 4096 (size - k * 4096)) = some (bc ((B.drop ((start + k) * 4096)).take (Nat.min 4096 (size - k * 4096)))) from RowC.cells (l := B) (by rw [hB]; exact hq1)) (hl := ⟨by rw [bc_length, contL_length (by omega)]; exact hq2, bc_ones _⟩)) fun _ _ => Dr.nil <| Ex.Bnormal <| Ex.K <| ?_
    refine T.region <| Rl.q Qt.mv <| Rl.q (Qt.add (b := 1)) <| Rl.q Qt.as <| Rl.nil <| ?_
    have e1 : putL (bc (contL B (start * 4096) size k)) (k * 4096) (bc (((B.drop ((start + k) * 4096)).take (Nat.min 4096 (size - k * 4096))))) = bc (contL B (start * 4096) size (k + 1)) := by rw [putL_bcs, ← contL_step hsl hkb, cut, Nat.add_mul]
    have e2 : ownL nb (fun j => (f j || (decide (start ≤ j) && decide (j < start + k))) || j == start + k) = ownL nb (fun j => f j || (decide (start ≤ j) && decide (j < start + (k + 1)))) := ownL_ext fun j hj => by rw [Bool.or_assoc]; congr 1; exact Bool.eq_iff_iff.2 (by simp; omega)
    rw [e1, e2]
    exact Ex.next (k + 1) (by omega) (by omega) (.cons rfl <| .cons rfl <| .cons rfl <| .cons rfl <| .cons rfl <| .cons rfl <| .cons rfl <| .cons rfl <| .cons rfl <| .nil)
  · refine Rl.nilK <| ?_
    refine T.condF ?_
    refine T.exit <| Ex.Kexit <| Ex.Lexit <| Ex.Bhit <| Ex.K <| ?_
    refine T.region <| Rl.q Qt.mv <| Rl.q Qt.mv <| Rl.q Qt.mv <| Rl.q (Qt.toN (c := len) (Qt.add (a := 0))) <| Rl.q Qt.nc <| Rl.e0 Ef.st1 fun _ _ => Rl.nil <| Ex.Bnormal <| Ex.K <| ?_
    refine T.region <| Rl.q Qt.mv <| Rl.q (Qt.toN (c := 1) (Qt.add (b := 1) (a := 0) (h := by decide)) (rfl)) <| Rl.q Qt.as <| Rl.nil <| Ex.LR <| ?_
    refine T.seq ?_
    refine T.sr <| Rl.q Qt.mv <| Rl.q Qt.mv <| Rl.q (Qt.ltF (h := by decide)) <| Rl.nilK <| ?_
    refine T.condF ?_
    refine T.exit <| Ex.Kexit <| Ex.Rexit <| Ex.Bhit <| Ex.ret0 (.inr rfl) ?_ rfl
    obtain rfl : k = len := by omega
    exact fun w h => ⟨(), trivial, rfl, by rw [contL_all hs2] at h; exact h.re⟩
end SL
end Go.Proofs.YtlmiekcmjpnobaaGreatDoor
namespace Go.Proofs.YtlmiekcmjpnobaaGreatDoor
open Go
namespace SL
set_option maxRecDepth 20000

theorem mkBytes (n : Nat) : (List.replicate n (vcells (N .u8 0))).flatten = bc (List.replicate n 0) := by
  rw [show vcells (N .u8 0) = [N .u8 0] from rfl, flat_rep, bc, List.map_replicate]
  rfl
variable {bV bX bI bO cap nb pi cc oi start len eI eO : Nat} {ino own : Value} {x : XI} {B : List UInt8} {RI : List Value} [RowC RI B] {f : Nat → Bool} {frI : Nat × Nat} {rest : Value}
set_option maxHeartbeats 4000000 in
theorem content_ext_s (X : Ext1 B (oi + 40) start len) (hB : B.length = nb * 4096) (hcap : nb * 4096 ≤ cap) (hcap2 : cap < 9223372036854775808) (hob : oi + 256 ≤ nb * 4096) (hcc : 256 ≤ cc) (hcc2 : cc < 9223372036854775808) (hnb : nb < 1000000)
    (hst : start + len ≤ nb) (hl : 1 ≤ len) (hl2 : len ≤ 32768) (hs1 : (len - 1) * 4096 < x.size) (hs2 : x.size ≤ len * 4096) (hbl : x.blocks < 1000000)
    (hf : ∀ j, start ≤ j → j < start + len → f j = false) (hk : kindN x.mode = 1 ∨ kindN x.mode = 2 ∨ kindN x.mode = 7) (hmode : x.mode < 65536) (hinl : x.inl = false) (hfl : x.flags &&& 524288 ≠ 0) (hfl2 : x.flags < 4294967296) :
    Spec Tryz.prog 156 [.pointer (some ⟨bV, 0, none⟩), .pointer (some ⟨bX, 0, none⟩), Sl bI oi 256 cc, rest]
      [[(bV, VO ino nb (Sl bI 0 (nb * 4096) cap) 1 pi (Sl bO 0 nb nb))], [(bI, CI RI eI frI)]] [[(bX, XO x)], [(bO, BO (ownL nb f) eO (0, 0))]]
      (fun _ : Nat => True) (fun _ => .tuple #[]) (fun b => [[(bX, XO { x with content := Sl b 0 x.size x.size, blocks := x.blocks + len })], [(b, BO (cut B (start * 4096) x.size) 5 (0, 0))],
        [(bO, BO (ownL nb fun j => f j || (decide (start ≤ j) && decide (j < start + len))) eO (0, 0))]]) := by
  refine Spec.of Tryz.func156 rfl Tryz.ntmps156 (by simp) fun w => ?_
  have hsz : x.size ≤ nb * 4096 := by have := Nat.mul_le_mul_right 4096 (show len ≤ nb by omega); omega
  have hand : x.flags &&& 524288 ≤ 524288 := Nat.and_le_right
  refine T.sr <| Rl.q Qt.mv <| Rl.q (Qt.to (u := Sl bI (oi + 40) 60 (cc - 40)) (Qt.sl1 (cl := 40) (ch := 100)) (rfl)) <| Rl.q Qt.as <| Rl.nilK <| ?_
  refine T.seq ?_
  refine T.sr <| Rl.q Qt.mv <| Rl.q Qt.nc <| Rl.q Qt.fa <| Rl.q Qt.ld <| Rl.e (Ef.qcall (S := kindOf_q hmode)) fun _ _ => Rl.nilK <| ?_
  refine T.block ?_
  refine T.seq ?_
  refine T.sr <| Rl.q (Qt.eqF (b := 3)) <| Rl.q Qt.as <| Rl.nilK <| ?_
  refine T.condF ?_
  refine T.region <| Rl.q (Qt.eqF (b := 4)) <| Rl.q Qt.as <| Rl.nil <| Ex.K <| ?_
  refine T.condF ?_
  refine T.seq ?_
  refine T.sr <| Rl.q (Qt.eqF (b := 5)) <| Rl.q Qt.as <| Rl.nilK <| ?_
  refine T.condF ?_
  refine T.region <| Rl.q (Qt.eqF (b := 6)) <| Rl.q Qt.as <| Rl.nil <| Ex.K <| ?_
  refine T.condF ?_
  refine T.skip <| Ex.Bnormal <| Ex.K <| ?_
  refine T.sdr [] ?_ mixed
  refine Dr.qs [0, 1, 2, 3, 4, 5, 6, 7, 8, 9, 10, 11, 12, 13, 14, 15, 16] [] ?_
  refine Dq.q Qt.mv <| Dq.q Qt.mv <| Dq.q Qt.nc <| Dq.q Qt.fa <| Dq.q Qt.ld <| Dq.q Qt.mv <| Dq.q Qt.nc <| Dq.q Qt.fa <| ?_
  refine Dq.q Qt.ld <| Dq.q Qt.len <| Dq.q Qt.cv <| Dq.q Qt.leT <| Dq.q Qt.mv <| Dq.q Qt.nc <| Dq.q Qt.fa <| Dq.q Qt.ld <| ?_
  refine Dq.c rfl (must_q _ _ _) <| Dq.nil <| Dr.nilK <| ?_
  refine T.seq ?_
  refine T.sdr [] ?_ mixed
  refine Dr.qs [0, 1, 2, 3, 4, 5, 6, 7, 8, 9, 10] [] ?_
  refine Dq.q Qt.mv <| Dq.q Qt.nc <| Dq.q Qt.fa <| Dq.q Qt.ld <| Dq.q Qt.mv <| Dq.q Qt.nc <| Dq.q Qt.fa <| Dq.q Qt.ld <| ?_
  refine Dq.q Qt.len <| Dq.q Qt.cv <| Dq.q Qt.gtF <| Dq.nil <| Dr.nilK <| ?_
  refine T.condF ?_
  refine T.skip <| Ex.K <| ?_
  refine T.block ?_
  refine T.sr <| Rl.q Qt.mv <| Rl.q Qt.nc <| Rl.q Qt.fa <| Rl.q (Qt.to (u := .bool false) Qt.ld (by simp [hinl])) <| Rl.q Qt.as <| Rl.nilK <| ?_
  refine T.condF ?_
  refine T.sr <| Rl.q Qt.mv <| Rl.q Qt.nc <| Rl.q Qt.fa <| Rl.q Qt.ld <| Rl.q (Qt.and (b := 524288) (h := ⟨by simp only [lim]; omega, by decide⟩)) <| Rl.q (Qt.neT (b := 0) (h := hfl)) <| Rl.q Qt.as <| ?_
  refine Rl.nilK <| ?_
  refine T.condT ?_
  refine T.sr <| Rl.q Qt.mv <| Rl.q Qt.mv <| Rl.q Qt.nc <| Rl.q Qt.fa <| Rl.q Qt.ld <| Rl.e Ef.mk fun b199 hb199 => Rl.q Qt.nc <| ?_
  refine Rl.q Qt.fa <| Rl.e0 Ef.st1 fun _ _ => Rl.nilK <| ?_
  rw [mkBytes]
  refine T.sr <| Rl.e Ef.al1 fun b11 hb11 => Rl.e0 (Ef.st1 (v := N .u64 0)) fun _ _ => Rl.nilK <| ?_
  refine T.sr <| Rl.q Qt.mv <| Rl.q Qt.mv <| Rl.q Qt.mv <| Rl.e (Ef.call (S := extents_s (x := { x with content := Sl b199 0 x.size x.size }) (size := x.size) (f := f) X hB hcap hcap2 (by omega) (by omega) (by omega) hnb hst hl hl2 hs1 hs2 rfl rfl hbl hf)) fun _ _ => Rl.nilK <| ?_
  refine T.dr [] ?_ mixed
  refine Dr.qs [0, 1, 2, 3, 4, 5, 6, 7, 8, 9, 10, 11, 12, 13, 14] [] ?_
  refine Dq.q Qt.mv <| Dq.q Qt.ld <| Dq.q Qt.mv <| Dq.q Qt.nc <| Dq.q Qt.fa <| Dq.q Qt.ld <| Dq.q (Qt.add (b := 4096)) <| Dq.q (Qt.sub (b := 1)) <| ?_
  refine Dq.q (Qt.quo (b := 4096)) <| Dq.q (Qt.leT (h := by show len ≤ (x.size + 4096 - 1) / 4096; omega)) <| Dq.q Qt.mv <| Dq.q Qt.nc <| Dq.q Qt.fa <| Dq.q Qt.ld <| Dq.c rfl (must_q _ _ _) <| Dq.nil <| Dr.nil <| Ex.Bnormal <| Ex.ret0 (.inr rfl) ?_ rfl
  exact fun w h => ⟨b199, trivial, rfl, h.re⟩

set_option maxHeartbeats 4000000 in
theorem content_none_s (hB : B.length = nb * 4096) (hcap : nb * 4096 ≤ cap) (hcap2 : cap < 9223372036854775808) (hob : oi + 256 ≤ nb * 4096) (hcc : 256 ≤ cc) (hcc2 : cc < 9223372036854775808) (hnb : nb < 1000000) (hs : x.size = 0)
    (hk : kindN x.mode = 1) (hmode : x.mode < 65536) (hinl : x.inl = false) (hfl : x.flags &&& 524288 = 0) (hfl2 : x.flags < 4294967296) :
    QSpec Tryz.prog 156 [.pointer (some ⟨bV, 0, none⟩), .pointer (some ⟨bX, 0, none⟩), Sl bI oi 256 cc, rest]
      [[(bV, VO ino nb (Sl bI 0 (nb * 4096) cap) 1 pi own)], [(bX, XO x)]] (.tuple #[]) := by
  refine QSpec.of Tryz.func156 rfl Tryz.ntmps156 (by simp) fun w => ?_
  refine T.sr <| Rl.q Qt.mv <| Rl.q (Qt.to (u := Sl bI (oi + 40) 60 (cc - 40)) (Qt.sl1 (cl := 40) (ch := 100)) (rfl)) <| Rl.q Qt.as <| Rl.nilK <| ?_
  refine T.seq ?_
  refine T.sr <| Rl.q Qt.mv <| Rl.q Qt.nc <| Rl.q Qt.fa <| Rl.q Qt.ld <| Rl.e (Ef.qcall (S := kindOf_q hmode)) fun _ _ => Rl.nilK <| ?_
  refine T.block ?_
  refine T.seq ?_
  refine T.sr <| Rl.q (Qt.eqF (b := 3)) <| Rl.q Qt.as <| Rl.nilK <| ?_
  refine T.condF ?_
  refine T.region <| Rl.q (Qt.eqF (b := 4)) <| Rl.q Qt.as <| Rl.nil <| Ex.K <| ?_
  refine T.condF ?_
  refine T.seq ?_
  refine T.sr <| Rl.q (Qt.eqF (b := 5)) <| Rl.q Qt.as <| Rl.nilK <| ?_
  refine T.condF ?_
  refine T.region <| Rl.q (Qt.eqF (b := 6)) <| Rl.q Qt.as <| Rl.nil <| Ex.K <| ?_
  refine T.condF ?_
  refine T.skip <| Ex.Bnormal <| Ex.K <| ?_
  refine T.sdr [] ?_ mixed
  refine Dr.qs [0, 1, 2, 3, 4, 5, 6, 7, 8, 9, 10, 11, 12, 13, 14, 15, 16] [] ?_
  refine Dq.q Qt.mv <| Dq.q Qt.mv <| Dq.q Qt.nc <| Dq.q Qt.fa <| Dq.q Qt.ld <| Dq.q Qt.mv <| Dq.q Qt.nc <| Dq.q Qt.fa <| ?_
  refine Dq.q Qt.ld <| Dq.q Qt.len <| Dq.q Qt.cv <| Dq.q Qt.leT <| Dq.q Qt.mv <| Dq.q Qt.nc <| Dq.q Qt.fa <| Dq.q Qt.ld <| ?_
  refine Dq.c rfl (must_q _ _ _) <| Dq.nil <| Dr.nilK <| ?_
  refine T.seq ?_
  refine T.sdr [] ?_ mixed
  refine Dr.qs [0, 1, 2, 3, 4, 5, 6, 7, 8, 9, 10] [] ?_
  refine Dq.q Qt.mv <| Dq.q Qt.nc <| Dq.q Qt.fa <| Dq.q Qt.ld <| Dq.q Qt.mv <| Dq.q Qt.nc <| Dq.q Qt.fa <| Dq.q Qt.ld <| ?_
  refine Dq.q Qt.len <| Dq.q Qt.cv <| Dq.q Qt.gtF <| Dq.nil <| Dr.nilK <| ?_
  refine T.condF ?_
  refine T.skip <| Ex.K <| ?_
  refine T.block ?_
  refine T.sr <| Rl.q Qt.mv <| Rl.q Qt.nc <| Rl.q Qt.fa <| Rl.q (Qt.to (u := .bool false) Qt.ld (by simp [hinl])) <| Rl.q Qt.as <| Rl.nilK <| ?_
  refine T.condF ?_
  refine T.sr <| Rl.q Qt.mv <| Rl.q Qt.nc <| Rl.q Qt.fa <| Rl.q Qt.ld <| Rl.q (Qt.and (b := 524288) (h := ⟨by simp only [lim]; omega, by decide⟩)) <| Rl.q (Qt.neF (b := 0) (h := hfl)) <| Rl.q Qt.as <| ?_
  refine Rl.nilK <| ?_
  refine T.condF ?_
  refine T.sr <| Rl.q Qt.mv <| Rl.q Qt.nc <| Rl.q Qt.fa <| Rl.q Qt.ld <| Rl.e (Ef.qcall (S := kindOf_q hmode)) fun _ _ => Rl.q (Qt.eqF (b := 7)) <| Rl.q Qt.as <| ?_
  refine Rl.nilK <| ?_
  refine T.condF ?_
  refine T.dr [] ?_ mixed
  refine Dr.qs [0, 1, 2, 3, 4, 5, 6, 7, 8, 9, 10] [] ?_
  refine Dq.q Qt.mv <| Dq.q Qt.mv <| Dq.q Qt.nc <| Dq.q Qt.fa <| Dq.q Qt.ld <| Dq.q (Qt.eqT (b := 0) (h := hs)) <| Dq.q Qt.mv <| Dq.q Qt.nc <| ?_
  refine Dq.q Qt.fa <| Dq.q Qt.ld <| Dq.c rfl (must_q _ _ _) <| Dq.nil <| Dr.nil <| Ex.Bnormal <| Ex.ret0 (.inr rfl) ?_ rfl
  exact fun w h => ⟨rfl, h.grown⟩

set_option maxHeartbeats 4000000 in
theorem content_inl_s {br cr er : Nat} {Rr : List Value} {fr2 : Nat × Nat} {l2 : List UInt8} (hR : RowB Rr 0 l2) (hl2 : l2.length < 1000000) (hB : B.length = nb * 4096) (hcap : nb * 4096 ≤ cap) (hcap2 : cap < 9223372036854775808) (hob : oi + 256 ≤ nb * 4096) (hcc : 256 ≤ cc) (hcc2 : cc < 9223372036854775808) (hnb : nb < 1000000)
    (hsz : x.size ≤ 60 + l2.length) (hs3 : x.size ≤ nb * 4096) (hk : kindN x.mode = 1 ∨ kindN x.mode = 2) (hmode : x.mode < 65536) (hinl : x.inl = true) :
    Spec Tryz.prog 156 [.pointer (some ⟨bV, 0, none⟩), .pointer (some ⟨bX, 0, none⟩), Sl bI oi 256 cc, Sl br 0 l2.length cr]
      [[(bV, VO ino nb (Sl bI 0 (nb * 4096) cap) 1 pi own)], [(bI, CI RI eI frI)], [(br, .cells Rr.toArray er fr2)]] [[(bX, XO x)]]
      (fun r : Nat × Nat × List Value => RowB r.2.2 0 ((cut B (oi + 40) 60 ++ l2).take x.size) ∧ x.size ≤ r.2.1 ∧ r.2.1 ≤ 9223372036854775807) (fun _ => .tuple #[]) (fun r => [[(bX, XO { x with content := Sl r.1 0 x.size r.2.1 })], [(r.1, .cells r.2.2.toArray 5 (0, 0))]]) := by
  refine Spec.of Tryz.func156 rfl Tryz.ntmps156 (by simp) fun w => ?_
  have hcl : (cut B (oi + 40) 60).length = 60 := cut_length (by omega)
  refine T.sr <| Rl.q Qt.mv <| Rl.q (Qt.to (u := Sl bI (oi + 40) 60 (cc - 40)) (Qt.sl1 (cl := 40) (ch := 100)) (rfl)) <| Rl.q Qt.as <| Rl.nilK <| ?_
  refine T.seq ?_
  refine T.sr <| Rl.q Qt.mv <| Rl.q Qt.nc <| Rl.q Qt.fa <| Rl.q Qt.ld <| Rl.e (Ef.qcall (S := kindOf_q hmode)) fun _ _ => Rl.nilK <| ?_
  refine T.block ?_
  refine T.seq ?_
  refine T.sr <| Rl.q (Qt.eqF (b := 3)) <| Rl.q Qt.as <| Rl.nilK <| ?_
  refine T.condF ?_
  refine T.region <| Rl.q (Qt.eqF (b := 4)) <| Rl.q Qt.as <| Rl.nil <| Ex.K <| ?_
  refine T.condF ?_
  refine T.seq ?_
  refine T.sr <| Rl.q (Qt.eqF (b := 5)) <| Rl.q Qt.as <| Rl.nilK <| ?_
  refine T.condF ?_
  refine T.region <| Rl.q (Qt.eqF (b := 6)) <| Rl.q Qt.as <| Rl.nil <| Ex.K <| ?_
  refine T.condF ?_
  refine T.skip <| Ex.Bnormal <| Ex.K <| ?_
  refine T.sdr [] ?_ mixed
  refine Dr.qs [0, 1, 2, 3, 4, 5, 6, 7, 8, 9, 10, 11, 12, 13, 14, 15, 16] [] ?_
  refine Dq.q Qt.mv <| Dq.q Qt.mv <| Dq.q Qt.nc <| Dq.q Qt.fa <| Dq.q Qt.ld <| Dq.q Qt.mv <| Dq.q Qt.nc <| Dq.q Qt.fa <| ?_
  refine Dq.q Qt.ld <| Dq.q Qt.len <| Dq.q Qt.cv <| Dq.q Qt.leT <| Dq.q Qt.mv <| Dq.q Qt.nc <| Dq.q Qt.fa <| Dq.q Qt.ld <| ?_
  refine Dq.c rfl (must_q _ _ _) <| Dq.nil <| Dr.nilK <| ?_
  refine T.seq ?_
  refine T.sdr [] ?_ mixed
  refine Dr.qs [0, 1, 2, 3, 4, 5, 6, 7, 8, 9, 10] [] ?_
  refine Dq.q Qt.mv <| Dq.q Qt.nc <| Dq.q Qt.fa <| Dq.q Qt.ld <| Dq.q Qt.mv <| Dq.q Qt.nc <| Dq.q Qt.fa <| Dq.q Qt.ld <| ?_
  refine Dq.q Qt.len <| Dq.q Qt.cv <| Dq.q Qt.gtF <| Dq.nil <| Dr.nilK <| ?_
  refine T.condF ?_
  refine T.skip <| Ex.K <| ?_
  refine T.block ?_
  refine T.sr <| Rl.q Qt.mv <| Rl.q Qt.nc <| Rl.q Qt.fa <| Rl.q (Qt.to (u := .bool true) Qt.ld (by simp [hinl])) <| Rl.q Qt.as <| Rl.nilK <| ?_
  refine T.condT ?_
  refine T.sr <| Rl.q Qt.mv <| Rl.e Ef.bs0 fun b144 hb144 => Rl.q Qt.mv <| Rl.e (Ef.ap (own := Own.mk (e := 5) (sz := 1) (xs := []) (sp := []) (cap := 0) rfl (Nat.le_refl _) (by decide) rfl) (z := N .u8 0) (j := 60) (vs := bc (cut B (oi + 40) 60)) (hs := by rw [Nat.mul_one]; exact RowC.cells (l := B) (by omega)) (hl := ⟨rfl, bc_ones _, by decide, by decide⟩)) fun v146 hv146 => Rl.q Qt.mv <| Rl.e (Ef.ap (own := hv146) (z := N .u8 0) (j := l2.length) (vs := bc l2) (hs := by rw [Nat.mul_one]; exact hR) (hl := ⟨rfl, bc_ones _, by simp only [maxLen]; omega, by omega⟩)) fun v148 hv148 => Rl.q Qt.nc <| ?_
  refine Rl.q Qt.fa <| Rl.e0 Ef.st1 fun _ _ => Rl.nilK <| ?_
  obtain ⟨b, c, sp, hv, hc1, hc2, hE, hspl⟩ := hv148.some (by omega)
  rw [hv, hE]
  simp only [maxLen] at hc2
  refine T.sdr [] ?_ mixed
  refine Dr.qs [0, 1, 2, 3, 4, 5, 6, 7, 8, 9, 10, 11, 12, 13, 14, 15, 16] [] ?_
  refine Dq.q Qt.mv <| Dq.q Qt.mv <| Dq.q Qt.nc <| Dq.q Qt.fa <| Dq.q Qt.ld <| Dq.q Qt.mv <| Dq.q Qt.nc <| Dq.q Qt.fa <| ?_
  refine Dq.q Qt.ld <| Dq.q Qt.len <| Dq.q Qt.cv <| Dq.q (Qt.leT (h := hsz)) <| Dq.q Qt.mv <| Dq.q Qt.nc <| Dq.q Qt.fa <| Dq.q Qt.ld <| ?_
  refine Dq.c rfl (must_q _ _ _) <| Dq.nil <| Dr.nilK <| ?_
  refine T.dr [19] ?_ mixed
  refine Dr.qs [0, 1, 2, 3, 4, 5, 6, 7, 8, 9, 10, 11, 12, 13, 14, 15, 16, 17, 18] [] ?_
  refine Dq.q Qt.mv <| Dq.q Qt.mv <| Dq.q Qt.nc <| Dq.q Qt.fa <| Dq.q Qt.ld <| Dq.q Qt.mv <| Dq.q Qt.nc <| Dq.q Qt.fa <| ?_
  refine Dq.q Qt.ld <| Dq.q Qt.mv <| Dq.q Qt.nc <| Dq.q Qt.fa <| Dq.q Qt.ld <| Dq.q Qt.len <| Dq.q Qt.cv <| Dq.q (Qt.toN (c := x.size) Qt.min2 (Nat.min_eq_left hsz)) <| ?_
  refine Dq.q (Qt.to (u := Sl b 0 x.size c) Qt.sl1 (by simp [cutAt])) <| Dq.q Qt.nc <| Dq.q Qt.fa <| Dq.nil <| ?_
  refine Dr.e 19 <| Eo.e0 rfl Ef.st1 fun _ _ => Dr.nil <| Ex.Bnormal <| Ex.ret0 (.inr rfl) ?_ rfl
  have hrow : RowB (([] ++ bc (cut B (oi + 40) 60)) ++ bc l2 ++ sp) 0 ((cut B (oi + 40) 60 ++ l2).take x.size) := by
    have h1 := RowB.all ((cut B (oi + 40) 60 ++ l2))
    unfold RowB at *
    rw [List.length_take, Nat.min_eq_left (by rw [List.length_append, hcl]; exact hsz)]
    rw [List.nil_append, ← bc_app]
    rw [seg_eq (by simp [bc_length, hcl]; omega), List.drop_zero, List.take_append_of_le_length (by rw [bc_length, List.length_append, hcl]; exact hsz), bc_take]
  exact fun w h => ⟨(b, c, _), ⟨hrow, by show x.size ≤ c; omega, hc2⟩, rfl, h.re⟩
end SL
end Go.Proofs.YtlmiekcmjpnobaaGreatDoor
namespace Go.Proofs.YtlmiekcmjpnobaaGreatDoor
open Go
namespace SL
set_option maxRecDepth 20000

def prefL (i : Nat) : List UInt8 × Bool :=
  if i = 0 then ([], true) else if i = 1 then ([117, 115, 101, 114, 46], true)
  else if i = 2 then ([115, 121, 115, 116, 101, 109, 46, 112, 111, 115, 105, 120, 95, 97, 99, 108, 95, 97, 99, 99, 101, 115, 115], true)
  else if i = 3 then ([115, 121, 115, 116, 101, 109, 46, 112, 111, 115, 105, 120, 95, 97, 99, 108, 95, 100, 101, 102, 97, 117, 108, 116], true)
  else if i = 4 then ([116, 114, 117, 115, 116, 101, 100, 46], true) else if i = 6 then ([115, 101, 99, 117, 114, 105, 116, 121, 46], true)
  else if i = 7 then ([115, 121, 115, 116, 101, 109, 46], true) else if i = 8 then ([115, 121, 115, 116, 101, 109, 46, 114, 105, 99, 104, 97, 99, 108], true) else ([], false)
theorem prefix_q {i : Nat} : QSpec Tryz.prog 122 [N .u64 i] [] (.tuple #[SV (prefL i).1, .bool (prefL i).2]) := by
  refine QSpec.of Tryz.func122 rfl Tryz.ntmps122 (by simp) fun w => ?_
  refine T.sr <| Rl.q (Qt.as (v := SV [])) <| Rl.q (Qt.as (v := .bool false)) <| Rl.nilK <| ?_
  refine T.seq ?_
  refine T.sr <| Rl.q Qt.mv <| Rl.nilK <| ?_
  refine T.block ?_
  refine T.sr <| Rl.eqS (b := 0) (fun h6 => ?_) (fun h6 => ?_)
  · refine Rl.q Qt.as <| Rl.nilK <| ?_
    refine T.condT ?_
    refine T.sr <| Rl.q (Qt.as (v := SV [])) <| Rl.q (Qt.as (v := .bool true)) <| Rl.nilK <| ?_
    refine T.ret <| Ex.Bret <| Ex.Kret <| Ex.ret2 (.inl rfl) rfl rfl ?_ rfl
    exact fun w h => ⟨by simp [prefL, *], h.grown⟩
  · refine Rl.q Qt.as <| Rl.nilK <| ?_
    refine T.condF ?_
    refine T.sr <| Rl.eqS (b := 1) (fun h8 => ?_) (fun h8 => ?_)
    · refine Rl.q Qt.as <| Rl.nilK <| ?_
      refine T.condT ?_
      refine T.sr <| Rl.q (Qt.as (v := SV [117, 115, 101, 114, 46])) <| Rl.q (Qt.as (v := .bool true)) <| Rl.nilK <| ?_
      refine T.ret <| Ex.Bret <| Ex.Kret <| Ex.ret2 (.inl rfl) rfl rfl ?_ rfl
      exact fun w h => ⟨by simp [prefL, *], h.grown⟩
    · refine Rl.q Qt.as <| Rl.nilK <| ?_
      refine T.condF ?_
      refine T.sr <| Rl.eqS (b := 2) (fun h10 => ?_) (fun h10 => ?_)
      · refine Rl.q Qt.as <| Rl.nilK <| ?_
        refine T.condT ?_
        refine T.sr <| Rl.q (Qt.as (v := SV [115, 121, 115, 116, 101, 109, 46, 112, 111, 115, 105, 120, 95, 97, 99, 108, 95, 97, 99, 99, 101, 115, 115])) <| Rl.q (Qt.as (v := .bool true)) <| Rl.nilK <| ?_
        refine T.ret <| Ex.Bret <| Ex.Kret <| Ex.ret2 (.inl rfl) rfl rfl ?_ rfl
        exact fun w h => ⟨by simp [prefL, *], h.grown⟩
      · refine Rl.q Qt.as <| Rl.nilK <| ?_
        refine T.condF ?_
        refine T.sr <| Rl.eqS (b := 3) (fun h12 => ?_) (fun h12 => ?_)
        · refine Rl.q Qt.as <| Rl.nilK <| ?_
          refine T.condT ?_
          refine T.sr <| Rl.q (Qt.as (v := SV [115, 121, 115, 116, 101, 109, 46, 112, 111, 115, 105, 120, 95, 97, 99, 108, 95, 100, 101, 102, 97, 117, 108, 116])) <| Rl.q (Qt.as (v := .bool true)) <| Rl.nilK <| ?_
          refine T.ret <| Ex.Bret <| Ex.Kret <| Ex.ret2 (.inl rfl) rfl rfl ?_ rfl
          exact fun w h => ⟨by simp [prefL, *], h.grown⟩
        · refine Rl.q Qt.as <| Rl.nilK <| ?_
          refine T.condF ?_
          refine T.sr <| Rl.eqS (b := 4) (fun h14 => ?_) (fun h14 => ?_)
          · refine Rl.q Qt.as <| Rl.nilK <| ?_
            refine T.condT ?_
            refine T.sr <| Rl.q (Qt.as (v := SV [116, 114, 117, 115, 116, 101, 100, 46])) <| Rl.q (Qt.as (v := .bool true)) <| Rl.nilK <| ?_
            refine T.ret <| Ex.Bret <| Ex.Kret <| Ex.ret2 (.inl rfl) rfl rfl ?_ rfl
            exact fun w h => ⟨by simp [prefL, *], h.grown⟩
          · refine Rl.q Qt.as <| Rl.nilK <| ?_
            refine T.condF ?_
            refine T.sr <| Rl.eqS (b := 6) (fun h16 => ?_) (fun h16 => ?_)
            · refine Rl.q Qt.as <| Rl.nilK <| ?_
              refine T.condT ?_
              refine T.sr <| Rl.q (Qt.as (v := SV [115, 101, 99, 117, 114, 105, 116, 121, 46])) <| Rl.q (Qt.as (v := .bool true)) <| Rl.nilK <| ?_
              refine T.ret <| Ex.Bret <| Ex.Kret <| Ex.ret2 (.inl rfl) rfl rfl ?_ rfl
              exact fun w h => ⟨by simp [prefL, *], h.grown⟩
            · refine Rl.q Qt.as <| Rl.nilK <| ?_
              refine T.condF ?_
              refine T.sr <| Rl.eqS (b := 7) (fun h18 => ?_) (fun h18 => ?_)
              · refine Rl.q Qt.as <| Rl.nilK <| ?_
                refine T.condT ?_
                refine T.sr <| Rl.q (Qt.as (v := SV [115, 121, 115, 116, 101, 109, 46])) <| Rl.q (Qt.as (v := .bool true)) <| Rl.nilK <| ?_
                refine T.ret <| Ex.Bret <| Ex.Kret <| Ex.ret2 (.inl rfl) rfl rfl ?_ rfl
                exact fun w h => ⟨by simp [prefL, *], h.grown⟩
              · refine Rl.q Qt.as <| Rl.nilK <| ?_
                refine T.condF ?_
                refine T.sr <| Rl.eqS (b := 8) (fun h20 => ?_) (fun h20 => ?_)
                · refine Rl.q Qt.as <| Rl.nilK <| ?_
                  refine T.condT ?_
                  refine T.sr <| Rl.q (Qt.as (v := SV [115, 121, 115, 116, 101, 109, 46, 114, 105, 99, 104, 97, 99, 108])) <| Rl.q (Qt.as (v := .bool true)) <| Rl.nilK <| ?_
                  refine T.ret <| Ex.Bret <| Ex.Kret <| Ex.ret2 (.inl rfl) rfl rfl ?_ rfl
                  exact fun w h => ⟨by simp [prefL, *], h.grown⟩
                · refine Rl.q Qt.as <| Rl.nilK <| ?_
                  refine T.condF ?_
                  refine T.skip <| Ex.Bnormal <| Ex.K <| ?_
                  refine T.sr <| Rl.q (Qt.as (v := SV [])) <| Rl.q (Qt.as (v := .bool false)) <| Rl.nilK <| ?_
                  refine T.ret <| Ex.ret2 (.inl rfl) rfl rfl ?_ rfl
                  exact fun w h => ⟨by simp [prefL, *], h.grown⟩

/-! ### The hash of an attribute -/
def hStepN (h c : Nat) : Nat := ((h * 2 ^ 5 % 4294967296) ^^^ (h / 2 ^ 27)) ^^^ c
def hStepV (h c : Nat) : Nat := ((h * 2 ^ 16 % 4294967296) ^^^ (h / 2 ^ 16)) ^^^ c
def hNam (l : List UInt8) : Nat → Nat
  | 0 => 0
  | k + 1 => hStepN (hNam l k) (match l[k]? with | some c => c.toNat | none => 0)
def hVal (l : List UInt8) (h : Nat) : Nat → Nat
  | 0 => h
  | k + 1 => hStepV (hVal l h k) (leN l (4 * k) 4)
def attrHash (name val : List UInt8) : Nat := hVal val (hNam name name.length) ((val.length + 3) / 4)
theorem xor_lt {a b : Nat} (ha : a < 4294967296) (hb : b < 4294967296) : a ^^^ b < 4294967296 := Nat.xor_lt_two_pow (n := 32) ha hb
theorem hStepN_lt {h c : Nat} (hh : h < 4294967296) (hc : c < 4294967296) : hStepN h c < 4294967296 :=
  xor_lt (xor_lt (Nat.mod_lt _ (by decide)) (Nat.lt_of_le_of_lt (Nat.div_le_self _ _) hh)) hc
theorem hStepV_lt {h c : Nat} (hh : h < 4294967296) (hc : c < 4294967296) : hStepV h c < 4294967296 :=
  xor_lt (xor_lt (Nat.mod_lt _ (by decide)) (Nat.lt_of_le_of_lt (Nat.div_le_self _ _) hh)) hc
theorem hNam_lt (l : List UInt8) : ∀ k, hNam l k < 4294967296
  | 0 => by simp [hNam]
  | k + 1 => hStepN_lt (hNam_lt l k) (by split; exact Nat.lt_trans (UInt8.toNat_lt _) (by decide); decide)
theorem hVal_lt (l : List UInt8) {h : Nat} (hh : h < 4294967296) : ∀ k, hVal l h k < 4294967296
  | 0 => hh
  | k + 1 => hStepV_lt (hVal_lt l hh k) (leN4_lt l _)
theorem hash_q {bn on nl cn en bv ov vl cv ev : Nat} {Rn Rv : List Value} {fn fv : Nat × Nat} {name val : List UInt8} (hn : RowB Rn on name) (hv : RowB Rv ov val) (hnl : name.length = nl) (hvl : val.length = vl) (hn2 : nl < 1000000) (hv2 : vl < 1000000) :
    QSpec Tryz.prog 180 [Sl bn on nl cn, Sl bv ov vl cv] [[(bn, .cells Rn.toArray en fn)], [(bv, .cells Rv.toArray ev fv)]] (N .u32 (attrHash name val)) := by
  subst hnl hvl
  refine QSpec.of Tryz.func180 rfl Tryz.ntmps180 (by simp) fun w => ?_
  refine T.sr <| Rl.q (Qt.as (v := N .u32 0)) <| Rl.nilK <| ?_
  refine T.sr <| Rl.q (Qt.as (v := N .u32 0)) <| Rl.nilK <| ?_
  refine T.seq ?_
  refine T.sr <| Rl.q Qt.mv <| Rl.q Qt.len <| Rl.q (Qt.mv (v := N .i64 0)) <| Rl.nilK <| ?_
  refine T.block ?_
  refine T.loop (α := Nat) (fun k => [(0, Sl bn on name.length cn), (1, Sl bv ov val.length cv), (5, N .u32 (hNam name k)), (9, Sl bn on name.length cn), (10, N .i64 name.length), (11, N .i64 k)]) (fun k => []) (fun k => k ≤ name.length) (fun k => name.length - k)
    0 (Nat.zero_le _) ?_ (fun k hk => ?_)
  · exact .cons rfl <| .cons rfl <| .cons rfl <| .cons rfl <| .cons rfl <| .cons rfl <| .nil
  refine T.sr <| Rl.ltS (fun h12 => ?_) (fun h12 => ?_)
  · refine Rl.nilK <| ?_
    refine T.seq ?_
    refine T.condT ?_
    refine T.skip <| Ex.K <| ?_
    refine T.seq ?_
    refine T.block ?_
    have hlt := hNam_lt name k
    have hb := UInt8.toNat_lt name[k]
    have hd : hNam name k / 2 ^ 27 ≤ hNam name k := Nat.div_le_self _ _
    have hx : (hNam name k * 2 ^ 5 % 4294967296) ^^^ (hNam name k / 2 ^ 27) < 4294967296 := xor_lt (Nat.mod_lt _ (by decide)) (by omega)
    refine T.sr <| Rl.q Qt.ia1 <| Rl.q (Qt.ld (hv := hn.nth h12)) <| Rl.q Qt.as <| Rl.nilK <| ?_
    refine T.region <| Rl.q Qt.mv <| Rl.q (Qt.toN (c := hNam name k * 2 ^ 5 % 4294967296) (Qt.shlW (b := 5) (h := ⟨by decide, rfl⟩)) (rfl)) <| Rl.q Qt.mv <| Rl.q (Qt.shr (b := 27) (h := by decide)) <| Rl.q (Qt.xor (h := ⟨Nat.mod_lt _ (by decide), by simp only [lim]; omega⟩)) <| Rl.q Qt.mv <| Rl.q Qt.cv <| ?_
    refine Rl.q (Qt.toN (c := hNam name (k + 1)) (Qt.xor (h := ⟨hx, by simp only [lim]; omega⟩)) (by simp only [hNam, hStepN, List.getElem?_eq_getElem h12, lim])) <| Rl.q Qt.as <| Rl.nil <| Ex.Bnormal <| Ex.K <| ?_
    refine T.region <| Rl.q (Qt.add (b := 1)) <| Rl.q Qt.mv <| Rl.nil <| ?_
    exact Ex.next (k + 1) (by omega) (by omega) (.cons rfl <| .cons rfl <| .cons rfl <| .cons rfl <| .cons rfl <| .cons rfl <| .nil)
  · refine Rl.nilK <| ?_
    refine T.seq ?_
    refine T.condF ?_
    refine T.exit <| Ex.Kexit <| Ex.Lexit <| Ex.Bhit <| Ex.K <| ?_
    refine T.seq ?_
    obtain rfl : k = name.length := by omega
    refine T.sr <| Rl.q (Qt.as (v := N .i64 0)) <| Rl.nilK <| ?_
    refine T.block ?_
    refine T.loop (α := Nat) (fun k => [(1, Sl bv ov val.length cv), (5, N .u32 (hVal val (hNam name name.length) k)), (8, N .i64 (4 * k))]) (fun k => []) (fun k => k ≤ (val.length + 3) / 4) (fun k => (val.length + 3) / 4 - k)
      0 (Nat.zero_le _) ?_ (fun k hk => ?_)
    · exact .cons rfl <| .cons rfl <| .cons rfl <| .nil
    refine T.seq ?_
    refine T.sr <| Rl.q Qt.mv <| Rl.q Qt.mv <| Rl.q Qt.len <| Rl.ltS (fun h27 => ?_) (fun h27 => ?_)
    · refine Rl.nilK <| ?_
      refine T.condT ?_
      refine T.skip <| Ex.K <| ?_
      refine T.seq ?_
      refine T.block ?_
      have hlt := hVal_lt val (hNam_lt name name.length) k
      have hb := leN4_lt val (4 * k)
      have hd : hVal val (hNam name name.length) k / 2 ^ 16 ≤ hVal val (hNam name name.length) k := Nat.div_le_self _ _
      have hx : (hVal val (hNam name name.length) k * 2 ^ 16 % 4294967296) ^^^ (hVal val (hNam name name.length) k / 2 ^ 16) < 4294967296 := xor_lt (Nat.mod_lt _ (by decide)) (by omega)
      refine T.region <| Rl.q Qt.mv <| Rl.q (Qt.toN (c := hVal val (hNam name name.length) k * 2 ^ 16 % 4294967296) (Qt.shlW (b := 16) (h := ⟨by decide, rfl⟩)) (rfl)) <| Rl.q Qt.mv <| Rl.q (Qt.shr (b := 16) (h := by decide)) <| Rl.q (Qt.xor (h := ⟨Nat.mod_lt _ (by decide), by simp only [lim]; omega⟩)) <| Rl.q Qt.mv <| Rl.q Qt.mv <| ?_
      refine Rl.q Qt.cv <| Rl.e (Ef.qcall (S := leR_q (p := 4 * k) (n := 4) hv rfl (by omega) (by decide) (by omega) rfl)) fun _ _ => Rl.q (Qt.cv (h := by simp only [lim]; omega)) <| Rl.q (Qt.toN (c := hVal val (hNam name name.length) (k + 1)) (Qt.xor (h := ⟨hx, by simp only [lim]; omega⟩)) (rfl)) <| Rl.q Qt.as <| Rl.nil <| Ex.Bnormal <| Ex.K <| ?_
      refine T.region <| Rl.q Qt.mv <| Rl.q (Qt.toN (c := 4 * (k + 1)) (Qt.add (b := 4))) <| Rl.q Qt.as <| Rl.nil <| ?_
      exact Ex.next (k + 1) (by omega) (by omega) (.cons rfl <| .cons rfl <| .cons rfl <| .nil)
    · refine Rl.nilK <| ?_
      refine T.condF ?_
      refine T.exit <| Ex.Kexit <| Ex.Lexit <| Ex.Bhit <| Ex.K <| ?_
      obtain rfl : k = (val.length + 3) / 4 := by omega
      refine T.sr <| Rl.q Qt.mv <| Rl.q Qt.as <| Rl.nilK <| ?_
      refine T.ret <| Ex.ret1 (.inl rfl) rfl ?_ rfl
      exact fun w h => ⟨rfl, h.grown⟩

theorem hash_nil_q {bn on nl cn en : Nat} {Rn : List Value} {fn : Nat × Nat} {name : List UInt8} (hn : RowB Rn on name) (hnl : name.length = nl) (hn2 : nl < 1000000) :
    QSpec Tryz.prog 180 [Sl bn on nl cn, .slice none 0 0] [[(bn, .cells Rn.toArray en fn)]] (N .u32 (attrHash name [])) := by
  subst hnl
  refine QSpec.of Tryz.func180 rfl Tryz.ntmps180 (by simp) fun w => ?_
  refine T.sr <| Rl.q (Qt.as (v := N .u32 0)) <| Rl.nilK <| ?_
  refine T.sr <| Rl.q (Qt.as (v := N .u32 0)) <| Rl.nilK <| ?_
  refine T.seq ?_
  refine T.sr <| Rl.q Qt.mv <| Rl.q Qt.len <| Rl.q (Qt.mv (v := N .i64 0)) <| Rl.nilK <| ?_
  refine T.block ?_
  refine T.loop (α := Nat) (fun k => [(0, Sl bn on name.length cn), (1, .slice none 0 0), (5, N .u32 (hNam name k)), (9, Sl bn on name.length cn), (10, N .i64 name.length), (11, N .i64 k)]) (fun k => []) (fun k => k ≤ name.length) (fun k => name.length - k)
    0 (Nat.zero_le _) ?_ (fun k hk => ?_)
  · exact .cons rfl <| .cons rfl <| .cons rfl <| .cons rfl <| .cons rfl <| .cons rfl <| .nil
  refine T.sr <| Rl.ltS (fun h12 => ?_) (fun h12 => ?_)
  · refine Rl.nilK <| ?_
    refine T.seq ?_
    refine T.condT ?_
    refine T.skip <| Ex.K <| ?_
    refine T.seq ?_
    refine T.block ?_
    have hlt := hNam_lt name k
    have hb := UInt8.toNat_lt name[k]
    have hd : hNam name k / 2 ^ 27 ≤ hNam name k := Nat.div_le_self _ _
    have hx : (hNam name k * 2 ^ 5 % 4294967296) ^^^ (hNam name k / 2 ^ 27) < 4294967296 := xor_lt (Nat.mod_lt _ (by decide)) (by omega)
    refine T.sr <| Rl.q Qt.ia1 <| Rl.q (Qt.ld (hv := hn.nth h12)) <| Rl.q Qt.as <| Rl.nilK <| ?_
    refine T.region <| Rl.q Qt.mv <| Rl.q (Qt.toN (c := hNam name k * 2 ^ 5 % 4294967296) (Qt.shlW (b := 5) (h := ⟨by decide, rfl⟩)) (rfl)) <| Rl.q Qt.mv <| Rl.q (Qt.shr (b := 27) (h := by decide)) <| Rl.q (Qt.xor (h := ⟨Nat.mod_lt _ (by decide), by simp only [lim]; omega⟩)) <| Rl.q Qt.mv <| Rl.q Qt.cv <| ?_
    refine Rl.q (Qt.toN (c := hNam name (k + 1)) (Qt.xor (h := ⟨hx, by simp only [lim]; omega⟩)) (by simp only [hNam, hStepN, List.getElem?_eq_getElem h12, lim])) <| Rl.q Qt.as <| Rl.nil <| Ex.Bnormal <| Ex.K <| ?_
    refine T.region <| Rl.q (Qt.add (b := 1)) <| Rl.q Qt.mv <| Rl.nil <| ?_
    exact Ex.next (k + 1) (by omega) (by omega) (.cons rfl <| .cons rfl <| .cons rfl <| .cons rfl <| .cons rfl <| .cons rfl <| .nil)
  · refine Rl.nilK <| ?_
    refine T.seq ?_
    refine T.condF ?_
    refine T.exit <| Ex.Kexit <| Ex.Lexit <| Ex.Bhit <| Ex.K <| ?_
    refine T.seq ?_
    obtain rfl : k = name.length := by omega
    refine T.sr <| Rl.q (Qt.as (v := N .i64 0)) <| Rl.nilK <| ?_
    refine T.block ?_
    refine T.rounds 0 ?_
    refine T.seq ?_
    refine T.sr <| Rl.q Qt.mv <| Rl.q Qt.mv <| Rl.q Qt.len <| Rl.q (Qt.ltF (h := by decide)) <| Rl.nilK <| ?_
    refine T.condF ?_
    refine T.exit <| Ex.Kexit <| Ex.Rexit <| Ex.Bhit <| Ex.K <| ?_
    refine T.sr <| Rl.q Qt.mv <| Rl.q Qt.as <| Rl.nilK <| ?_
    refine T.ret <| Ex.ret1 (.inl rfl) rfl ?_ rfl
    exact fun w h => ⟨rfl, h.grown⟩

theorem hash_own_q {bn on nl cn en : Nat} {Rn : List Value} {fn : Nat × Nat} {name val : List UInt8} {v : Value} {E : Chunk} (hn : RowB Rn on name) (hnl : name.length = nl) (hn2 : nl < 1000000) (hv2 : val.length < 1000000) (own : Own 5 1 v val.length (bc val) E) :
    QSpec Tryz.prog 180 [Sl bn on nl cn, v] [[(bn, .cells Rn.toArray en fn)], E] (N .u32 (attrHash name val)) := by
  obtain ⟨_, ⟨rfl, h0, rfl⟩ | ⟨b, cap, sp, rfl, _, _, rfl, _⟩⟩ := own
  · have : val = [] := List.eq_nil_of_length_eq_zero h0
    subst this
    exact fun w hr => hash_nil_q hn hnl hn2 w (fun p hp => hr p (by simpa using hp))
  · refine hash_q hn (Rv := bc val ++ sp) (val := val) ?_ hnl rfl hn2 hv2
    unfold RowB
    rw [seg_eq (by rw [List.length_append, bc_length]; omega), List.drop_zero, List.take_left' (bc_length val)]
/-! ### One attribute, in the inode -/
theorem Own.form {e : TypeId} {sz k : Nat} {v : Value} {xs : List Value} {E : Chunk} (h : Own e sz v k xs E) : ∃ p c, v = .slice p k c := by
  obtain ⟨_, ⟨rfl, rfl, _⟩ | ⟨b, cap, sp, rfl, _⟩⟩ := h
  · exact ⟨none, 0, rfl⟩
  · exact ⟨_, _, rfl⟩
abbrev sysdata : List UInt8 := [115, 121, 115, 116, 101, 109, 46, 100, 97, 116, 97]
structure At1 (B : List UInt8) (o place : Nat) (val : List UInt8) : Prop where
  any : leN B o 4 ≠ 0
  nl : leN B o 1 = 4
  idx : leN B (o + 1) 1 = 7
  pl : leN B (o + 2) 2 = place
  ino : leN B (o + 4) 4 = 0
  sz : leN B (o + 8) 4 = val.length
  hs : leN B (o + 12) 4 = attrHash [100, 97, 116, 97] val
  nm : cut B (o + 16) 4 = [100, 97, 116, 97]
  fit : place + val.length ≤ 100
  vl : cut B (o + place) val.length = val
  al : 0 < val.length → place % 4 = 0
  low : 24 ≤ place
  fin : leN B (o + 20) 4 = 0
variable {bV bX bI cc o place eI : Nat} {x : XI} {B : List UInt8} {RI : List Value} [RowC RI B] {frI : Nat × Nat} {val : List UInt8}
set_option maxHeartbeats 4000000 in
theorem attributes_s (A : At1 B o place val) (ho : o + 100 ≤ B.length) (hBl : B.length < 4611686018427387904) (hcc : 100 < cc) (hcc2 : cc < 9223372036854775808) :
    Spec Tryz.prog 176 [.pointer (some ⟨bV, 0, none⟩), .pointer (some ⟨bX, 0, none⟩), Sl bI o 100 cc, Sl bI o 100 cc, .bool true] [[(bI, CI RI eI frI)], [(bX, XO x)]] []
      (fun r : (Value × Chunk) × (Value × Chunk) => Own 84 2 r.1.1 1 [SV sysdata, r.2.1] r.1.2 ∧ Own 5 1 r.2.1 val.length (bc val) r.2.2) (fun r => r.1.1) (fun r => [r.1.2, r.2.2]) := by
  refine Spec.of Tryz.func176 rfl Tryz.ntmps176 (by simp) fun w => ?_
  have hfit := A.fit
  have hlow := A.low
  have hvl : val.length ≤ 76 := by omega
  refine T.sr <| Rl.q (Qt.as (v := .slice none 0 0)) <| Rl.nilK <| ?_
  refine T.sr <| Rl.q (Qt.as (v := .slice none 0 0)) <| Rl.nilK <| ?_
  refine T.sr <| Rl.q Qt.mv <| Rl.q Qt.len <| Rl.q (Qt.cv (a := 100) (h := by decide)) <| Rl.q (Qt.as (v := N .u64 0)) <| Rl.q Qt.as <| Rl.nilK <| ?_
  refine T.sr <| Rl.q Qt.mv <| Rl.q Qt.len <| Rl.q Qt.mv <| Rl.q Qt.len <| Rl.q (Qt.toN (c := 0) (Qt.sub (a := 100) (b := 100) (h := by decide)) (rfl)) <| Rl.q (Qt.cv (a := 0) (h := by decide)) <| Rl.q Qt.as <| ?_
  refine Rl.nilK <| ?_
  refine T.seq ?_
  refine T.block ?_
  refine T.rounds 1 ?_
  refine T.seq ?_
  refine T.sr <| Rl.q Qt.mv <| Rl.q (Qt.toN (c := 4) (Qt.add (b := 4) (a := 0) (h := by decide)) (rfl)) <| Rl.q Qt.mv <| Rl.q Qt.len <| Rl.q (Qt.cv (a := 100) (h := by decide)) <| Rl.q (Qt.leT (h := by decide)) <| Rl.q Qt.mv <| ?_
  refine Rl.gt <| Rl.q Qt.mv <| Rl.gt <| Rl.q Qt.mv <| Rl.gt <| Rl.e (Ef.qcall (S := leBx_q (p := 0) (n := 4) ho (by decide) (by decide) hBl rfl)) fun _ _ => Rl.gt <| Rl.q (Qt.neT (b := 0) (h := A.any)) <| ?_
  refine Rl.q Qt.pkT <| Rl.nilK <| ?_
  refine T.condT ?_
  refine T.skip <| Ex.K <| ?_
  refine T.block ?_
  refine T.seq ?_
  refine T.sr <| Rl.q Qt.mv <| Rl.q (Qt.toN (c := 16) (Qt.add (b := 16) (a := 0) (h := by decide)) (rfl)) <| Rl.q Qt.mv <| Rl.q Qt.len <| Rl.q (Qt.cv (a := 100) (h := by decide)) <| Rl.q (Qt.gtF (h := by decide)) <| Rl.nilK <| ?_
  refine T.condF ?_
  refine T.skip <| Ex.K <| ?_
  refine T.sr <| Rl.q Qt.mv <| Rl.q Qt.mv <| Rl.e (Ef.qcall (S := leBx_q (p := 0) (n := 1) ho (by decide) (by decide) hBl A.nl)) fun _ _ => Rl.q Qt.mv <| Rl.q Qt.mv <| Rl.q (Qt.toN (c := 1) (Qt.add (b := 1) (a := 0) (h := by decide)) (rfl)) <| Rl.e (Ef.qcall (S := leBx_q (p := 1) (n := 1) ho (by decide) (by decide) hBl A.idx)) fun _ _ => ?_
  refine Rl.q Qt.mv <| Rl.q Qt.mv <| Rl.q (Qt.toN (c := 2) (Qt.add (b := 2) (a := 0) (h := by decide)) (rfl)) <| Rl.e (Ef.qcall (S := leBx_q (p := 2) (n := 2) ho (by decide) (by decide) hBl A.pl)) fun _ _ => Rl.q Qt.mv <| Rl.q Qt.mv <| Rl.q (Qt.toN (c := 8) (Qt.add (b := 8) (a := 0) (h := by decide)) (rfl)) <| Rl.e (Ef.qcall (S := leBx_q (p := 8) (n := 4) ho (by decide) (by decide) hBl A.sz)) fun _ _ => ?_
  refine Rl.q Qt.as <| Rl.q Qt.as <| Rl.q Qt.as <| Rl.q Qt.as <| Rl.nilK <| ?_
  refine T.sdr [] ?_ mixed
  refine Dr.qs [0, 1, 2, 3, 4, 5, 6, 7, 8, 9, 10] [] ?_
  refine Dq.q Qt.mv <| Dq.q Qt.mv <| Dq.q Qt.mv <| Dq.q (Qt.toN (c := 4) (Qt.add (b := 4) (a := 0) (h := by decide)) (rfl)) <| Dq.c rfl (leBx_q (p := 4) (n := 4) ho (by decide) (by decide) hBl A.ino) <| Dq.q (Qt.eqT (b := 0) (h := rfl)) <| Dq.q Qt.mv <| Dq.q Qt.nc <| ?_
  refine Dq.q Qt.fa <| Dq.q Qt.ld <| Dq.c rfl (must_q _ _ _) <| Dq.nil <| Dr.nilK <| ?_
  refine T.sr <| Rl.q Qt.mv <| Rl.e (Ef.qcall (S := prefix_q)) fun _ _ => Rl.q Qt.mv <| Rl.q Qt.ex <| Rl.q Qt.ex <| Rl.q Qt.as <| Rl.q Qt.as <| ?_
  refine Rl.nilK <| ?_
  refine T.sr <| Rl.q Qt.mv <| Rl.q Qt.mv <| Rl.q Qt.mv <| Rl.q Qt.nc <| Rl.q Qt.fa <| Rl.q Qt.ld <| Rl.e (Ef.qcall (S := must_q _ _ _)) fun _ _ => ?_
  refine Rl.nilK <| ?_
  refine T.seq ?_
  refine T.sr <| Rl.q Qt.mv <| Rl.q (Qt.toN (c := 16) (Qt.add (b := 16) (a := 0) (h := by decide)) (rfl)) <| Rl.q Qt.mv <| Rl.q (Qt.toN (c := 20) (Qt.add (a := 16) (b := 4) (h := by decide)) (rfl)) <| Rl.q Qt.mv <| Rl.q Qt.len <| Rl.q (Qt.cv (a := 100) (h := by decide)) <| ?_
  refine Rl.q (Qt.gtF (h := by decide) (a := 20) (b := 100)) <| Rl.q Qt.mv <| Rl.gt <| Rl.q Qt.mv <| Rl.gt <| Rl.q Qt.mv <| Rl.gt <| Rl.q Qt.add <| ?_
  refine Rl.gt <| Rl.q Qt.mv <| Rl.gt <| Rl.q Qt.len <| Rl.gt <| Rl.q (Qt.cv (a := 100) (h := by decide)) <| Rl.gt <| Rl.q (Qt.gtF (b := 100)) <| ?_
  refine Rl.q Qt.pkF <| Rl.q Qt.mv <| Rl.gt <| Rl.q Qt.mv <| Rl.gt <| Rl.q Qt.mv <| Rl.gt <| Rl.q Qt.add <| ?_
  refine Rl.gt <| Rl.q Qt.mv <| Rl.gt <| Rl.q Qt.ltF <| Rl.q Qt.pkF <| Rl.nilK <| ?_
  refine T.condF ?_
  refine T.skip <| Ex.K <| ?_
  refine T.sr <| Rl.q Qt.mv <| Rl.q Qt.mv <| Rl.q (Qt.toN (c := 16) (Qt.add (b := 16) (a := 0) (h := by decide)) (rfl)) <| Rl.q Qt.mv <| Rl.q (Qt.toN (c := 16) (Qt.add (b := 16) (a := 0) (h := by decide)) (rfl)) <| Rl.q Qt.mv <| Rl.q (Qt.toN (c := 20) (Qt.add (a := 16) (b := 4) (h := by decide)) (rfl)) <| ?_
  refine Rl.q (Qt.to (u := Sl bI (o + 16) 4 (cc - 16)) (Qt.sl1 (cl := 16) (ch := 20)) (rfl)) <| Rl.q Qt.as <| Rl.nilK <| ?_
  refine T.sr <| Rl.e Ef.bs0 fun b135 hb135 => Rl.q Qt.mv <| Rl.q Qt.mv <| Rl.q Qt.mv <| Rl.q Qt.mv <| Rl.q Qt.add <| Rl.q (Qt.to (u := Sl bI (o + place) val.length (cc - place)) Qt.sl1 (by rw [Nat.add_sub_cancel_left])) <| ?_
  refine Rl.e (Ef.ap (own := Own.mk (e := 5) (sz := 1) (xs := []) (sp := []) (cap := 0) rfl (Nat.le_refl _) (by decide) rfl) (z := N .u8 0) (j := val.length) (vs := bc val) (hs := by rw [Nat.mul_one, RowC.cells (l := B) (by omega)]; exact congrArg (fun z => some (bc z)) A.vl) (hl := ⟨rfl, bc_ones _, by simp only [maxLen]; omega, by omega⟩)) fun v142 hv142 => Rl.q Qt.as <| Rl.nilK <| ?_
  refine T.seq ?_
  have hv := hv142
  rw [Nat.zero_add, List.nil_append] at hv
  obtain ⟨p, c, hvf⟩ := hv.form
  rw [hvf]
  have hv3 := hvf ▸ hv
  have hq : QSpec Tryz.prog 180 [Sl bI (o + 16) 4 (cc - 16), .slice p val.length c] [[(bI, CI RI eI frI)], v142.2] (N .u32 (attrHash [100, 97, 116, 97] val)) := hash_own_q (name := [100, 97, 116, 97]) (by have := RowC.cut (l := B) (o := o + 16) (k := 4) (by omega); rw [A.nm] at this; exact this) rfl (by decide) (by omega) hv3
  refine T.sr <| Rl.q Qt.mv <| Rl.q Qt.mv <| Rl.q (Qt.toN (c := 12) (Qt.add (b := 12) (a := 0) (h := by decide)) (rfl)) <| Rl.e (Ef.qcall (S := leBx_q (p := 12) (n := 4) ho (by decide) (by decide) hBl A.hs)) fun _ _ => Rl.q Qt.as <| Rl.nilK <| ?_
  refine T.sr <| Rl.q Qt.mv <| Rl.q Qt.notT <| Rl.q Qt.mv <| Rl.gt <| Rl.q Qt.mv <| Rl.gt <| Rl.neS (b := 0) (fun h151 => ?_) (fun h151 => ?_)
  · refine Rl.q Qt.pkF <| Rl.nilK <| ?_
    refine T.condT ?_
    refine T.dr [] ?_ mixed
    refine Dr.qs [0, 1, 2, 3, 4, 5, 6, 7, 8, 9, 10, 11] [] ?_
    refine Dq.q Qt.mv <| Dq.q Qt.mv <| Dq.q Qt.mv <| Dq.q Qt.mv <| Dq.c rfl (hq) <| Dq.q (Qt.cv (h := Nat.lt_trans (hVal_lt _ (hNam_lt _ _) _) (by decide))) <| Dq.q (Qt.eqT (h := rfl)) <| Dq.q Qt.mv <| ?_
    refine Dq.q Qt.nc <| Dq.q Qt.fa <| Dq.q Qt.ld <| Dq.c rfl (must_q _ _ _) <| Dq.nil <| Dr.nil <| Ex.K <| ?_
    refine T.seq ?_
    refine T.sr <| Rl.q Qt.mv <| Rl.gtS (b := 0) (fun h166 => ?_) (fun h166 => ?_)
    · refine Rl.nilK <| ?_
      refine T.condT ?_
      refine T.sr <| Rl.q Qt.mv <| Rl.q Qt.mv <| Rl.q (Qt.toN (c := 0) (Qt.rem (b := 4)) (A.al h166)) <| Rl.q (Qt.eqT (b := 0) (h := rfl)) <| Rl.q Qt.mv <| Rl.q Qt.nc <| Rl.q Qt.fa <| ?_
      refine Rl.q Qt.ld <| Rl.e (Ef.qcall (S := must_q _ _ _)) fun _ _ => Rl.nilK <| ?_
      refine T.region <| Rl.q Qt.mv <| Rl.q Qt.mv <| Rl.q (Qt.toN (c := place) Qt.min2 (by omega)) <| Rl.q Qt.as <| Rl.nil <| Ex.K <| ?_
      refine T.add0 ?_
      refine T.sr <| Rl.q Qt.mv <| Rl.q Qt.mv <| Rl.q Qt.mv <| Rl.q (Qt.bts (l := RI) (s := [100, 97, 116, 97]) (hs := by rw [RowC.cells (l := B) (by omega)]; exact congrArg (fun z => some (bc z)) A.nm)) <| Rl.q (Qt.to (u := SV sysdata) (Qt.cat (h := by decide)) (rfl)) <| Rl.q Qt.mv <| Rl.q Qt.bd <| ?_
      refine Rl.e Ef.bs fun b186 hb186 => Rl.e (Ef.ap (own := Own.nil 84 2)) fun v187 hv187 => Rl.q Qt.as <| Rl.nilK <| ?_
      refine T.region <| Rl.q Qt.mv <| Rl.q Qt.mv <| Rl.q (Qt.toN (c := 20) (Qt.add (a := 16) (b := 4) (h := by decide)) (rfl)) <| Rl.q (Qt.toN (c := 23) (Qt.add (b := 3) (a := 20) (h := by decide)) (rfl)) <| Rl.q (Qt.toN (c := 5) (Qt.quo (b := 4) (a := 23) (h := by decide)) (rfl)) <| Rl.q (Qt.toN (c := 20) (Qt.mul (b := 4) (a := 5) (h := by decide)) (rfl)) <| Rl.q (Qt.toN (c := 20) (Qt.add (a := 0) (b := 20) (h := by decide)) (rfl)) <| ?_
      refine Rl.q Qt.as <| Rl.nil <| Ex.Bnormal <| Ex.LR <| ?_
      refine T.seq ?_
      refine T.sr <| Rl.q Qt.mv <| Rl.q (Qt.toN (c := 24) (Qt.add (b := 4) (a := 20) (h := by decide)) (rfl)) <| Rl.q Qt.mv <| Rl.q Qt.len <| Rl.q (Qt.cv (a := 100) (h := by decide)) <| Rl.q (Qt.leT (h := by decide)) <| Rl.q Qt.mv <| ?_
      refine Rl.gt <| Rl.q Qt.mv <| Rl.gt <| Rl.q Qt.mv <| Rl.gt <| Rl.e (Ef.qcall (S := leBx_q (p := 20) (n := 4) ho (by decide) (by decide) hBl A.fin)) fun _ _ => Rl.gt <| Rl.q (Qt.neF (b := 0) (h := rfl)) <| ?_
      refine Rl.q Qt.pkT <| Rl.nilK <| ?_
      refine T.condF ?_
      refine T.exit <| Ex.Kexit <| Ex.Rexit <| Ex.Bhit <| Ex.K <| ?_
      refine T.sr <| Rl.q Qt.mv <| Rl.q Qt.mv <| Rl.q (Qt.toN (c := 24) (Qt.add (b := 4) (a := 20) (h := by decide)) (rfl)) <| Rl.q Qt.mv <| Rl.q Qt.len <| Rl.q (Qt.cv (a := 100) (h := by decide)) <| Rl.q (Qt.leT (h := by decide) (a := 24) (b := 100)) <| ?_
      refine Rl.q Qt.mv <| Rl.gt <| Rl.q Qt.mv <| Rl.gt <| Rl.q Qt.mv <| Rl.gt <| Rl.q (Qt.toN (c := 20) (Qt.add (a := 0) (b := 20) (h := by decide)) (rfl)) <| Rl.gt <| Rl.q (Qt.toN (c := 24) (Qt.add (b := 4) (a := 20) (h := by decide)) (rfl)) <| ?_
      refine Rl.gt <| Rl.q Qt.mv <| Rl.gt <| Rl.q (Qt.leT (a := 24)) <| Rl.q Qt.pkT <| Rl.q Qt.mv <| Rl.q Qt.nc <| Rl.q Qt.fa <| ?_
      refine Rl.q Qt.ld <| Rl.e (Ef.qcall (S := must_q _ _ _)) fun _ _ => Rl.nilK <| ?_
      refine T.sr <| Rl.q Qt.mv <| Rl.q Qt.as <| Rl.nilK <| ?_
      refine T.ret <| Ex.ret1 (.inl rfl) rfl ?_ rfl
      exact fun w h => ⟨((v187.1, v187.2), (.slice p val.length c, v142.2)), ⟨by simpa using hv187, hv3⟩, rfl, h.re⟩
    · refine Rl.nilK <| ?_
      refine T.condF ?_
      refine T.skip <| Ex.K <| ?_
      refine T.add0 ?_
      refine T.sr <| Rl.q Qt.mv <| Rl.q Qt.mv <| Rl.q Qt.mv <| Rl.q (Qt.bts (l := RI) (s := [100, 97, 116, 97]) (hs := by rw [RowC.cells (l := B) (by omega)]; exact congrArg (fun z => some (bc z)) A.nm)) <| Rl.q (Qt.to (u := SV sysdata) (Qt.cat (h := by decide)) (rfl)) <| Rl.q Qt.mv <| Rl.q Qt.bd <| ?_
      refine Rl.e Ef.bs fun b186 hb186 => Rl.e (Ef.ap (own := Own.nil 84 2)) fun v187 hv187 => Rl.q Qt.as <| Rl.nilK <| ?_
      refine T.region <| Rl.q Qt.mv <| Rl.q Qt.mv <| Rl.q (Qt.toN (c := 20) (Qt.add (a := 16) (b := 4) (h := by decide)) (rfl)) <| Rl.q (Qt.toN (c := 23) (Qt.add (b := 3) (a := 20) (h := by decide)) (rfl)) <| Rl.q (Qt.toN (c := 5) (Qt.quo (b := 4) (a := 23) (h := by decide)) (rfl)) <| Rl.q (Qt.toN (c := 20) (Qt.mul (b := 4) (a := 5) (h := by decide)) (rfl)) <| Rl.q (Qt.toN (c := 20) (Qt.add (a := 0) (b := 20) (h := by decide)) (rfl)) <| ?_
      refine Rl.q Qt.as <| Rl.nil <| Ex.Bnormal <| Ex.LR <| ?_
      refine T.seq ?_
      refine T.sr <| Rl.q Qt.mv <| Rl.q (Qt.toN (c := 24) (Qt.add (b := 4) (a := 20) (h := by decide)) (rfl)) <| Rl.q Qt.mv <| Rl.q Qt.len <| Rl.q (Qt.cv (a := 100) (h := by decide)) <| Rl.q (Qt.leT (h := by decide)) <| Rl.q Qt.mv <| ?_
      refine Rl.gt <| Rl.q Qt.mv <| Rl.gt <| Rl.q Qt.mv <| Rl.gt <| Rl.e (Ef.qcall (S := leBx_q (p := 20) (n := 4) ho (by decide) (by decide) hBl A.fin)) fun _ _ => Rl.gt <| Rl.q (Qt.neF (b := 0) (h := rfl)) <| ?_
      refine Rl.q Qt.pkT <| Rl.nilK <| ?_
      refine T.condF ?_
      refine T.exit <| Ex.Kexit <| Ex.Rexit <| Ex.Bhit <| Ex.K <| ?_
      refine T.sr <| Rl.q Qt.mv <| Rl.q Qt.mv <| Rl.q (Qt.toN (c := 24) (Qt.add (b := 4) (a := 20) (h := by decide)) (rfl)) <| Rl.q Qt.mv <| Rl.q Qt.len <| Rl.q (Qt.cv (a := 100) (h := by decide)) <| Rl.q (Qt.leT (h := by decide) (a := 24) (b := 100)) <| ?_
      refine Rl.q Qt.mv <| Rl.gt <| Rl.q Qt.mv <| Rl.gt <| Rl.q Qt.mv <| Rl.gt <| Rl.q (Qt.toN (c := 20) (Qt.add (a := 0) (b := 20) (h := by decide)) (rfl)) <| Rl.gt <| Rl.q (Qt.toN (c := 24) (Qt.add (b := 4) (a := 20) (h := by decide)) (rfl)) <| ?_
      refine Rl.gt <| Rl.q Qt.mv <| Rl.gt <| Rl.q (Qt.leT (a := 24)) <| Rl.q Qt.pkT <| Rl.q Qt.mv <| Rl.q Qt.nc <| Rl.q Qt.fa <| ?_
      refine Rl.q Qt.ld <| Rl.e (Ef.qcall (S := must_q _ _ _)) fun _ _ => Rl.nilK <| ?_
      refine T.sr <| Rl.q Qt.mv <| Rl.q Qt.as <| Rl.nilK <| ?_
      refine T.ret <| Ex.ret1 (.inl rfl) rfl ?_ rfl
      exact fun w h => ⟨((v187.1, v187.2), (.slice p val.length c, v142.2)), ⟨by simpa using hv187, hv3⟩, rfl, h.re⟩
  · refine Rl.q Qt.pkF <| Rl.nilK <| ?_
    refine T.condF ?_
    refine T.skip <| Ex.K <| ?_
    refine T.seq ?_
    refine T.sr <| Rl.q Qt.mv <| Rl.gtS (b := 0) (fun h166 => ?_) (fun h166 => ?_)
    · refine Rl.nilK <| ?_
      refine T.condT ?_
      refine T.sr <| Rl.q Qt.mv <| Rl.q Qt.mv <| Rl.q (Qt.toN (c := 0) (Qt.rem (b := 4)) (A.al h166)) <| Rl.q (Qt.eqT (b := 0) (h := rfl)) <| Rl.q Qt.mv <| Rl.q Qt.nc <| Rl.q Qt.fa <| ?_
      refine Rl.q Qt.ld <| Rl.e (Ef.qcall (S := must_q _ _ _)) fun _ _ => Rl.nilK <| ?_
      refine T.region <| Rl.q Qt.mv <| Rl.q Qt.mv <| Rl.q (Qt.toN (c := place) Qt.min2 (by omega)) <| Rl.q Qt.as <| Rl.nil <| Ex.K <| ?_
      refine T.add0 ?_
      refine T.sr <| Rl.q Qt.mv <| Rl.q Qt.mv <| Rl.q Qt.mv <| Rl.q (Qt.bts (l := RI) (s := [100, 97, 116, 97]) (hs := by rw [RowC.cells (l := B) (by omega)]; exact congrArg (fun z => some (bc z)) A.nm)) <| Rl.q (Qt.to (u := SV sysdata) (Qt.cat (h := by decide)) (rfl)) <| Rl.q Qt.mv <| Rl.q Qt.bd <| ?_
      refine Rl.e Ef.bs fun b186 hb186 => Rl.e (Ef.ap (own := Own.nil 84 2)) fun v187 hv187 => Rl.q Qt.as <| Rl.nilK <| ?_
      refine T.region <| Rl.q Qt.mv <| Rl.q Qt.mv <| Rl.q (Qt.toN (c := 20) (Qt.add (a := 16) (b := 4) (h := by decide)) (rfl)) <| Rl.q (Qt.toN (c := 23) (Qt.add (b := 3) (a := 20) (h := by decide)) (rfl)) <| Rl.q (Qt.toN (c := 5) (Qt.quo (b := 4) (a := 23) (h := by decide)) (rfl)) <| Rl.q (Qt.toN (c := 20) (Qt.mul (b := 4) (a := 5) (h := by decide)) (rfl)) <| Rl.q (Qt.toN (c := 20) (Qt.add (a := 0) (b := 20) (h := by decide)) (rfl)) <| ?_
      refine Rl.q Qt.as <| Rl.nil <| Ex.Bnormal <| Ex.LR <| ?_
      refine T.seq ?_
      refine T.sr <| Rl.q Qt.mv <| Rl.q (Qt.toN (c := 24) (Qt.add (b := 4) (a := 20) (h := by decide)) (rfl)) <| Rl.q Qt.mv <| Rl.q Qt.len <| Rl.q (Qt.cv (a := 100) (h := by decide)) <| Rl.q (Qt.leT (h := by decide)) <| Rl.q Qt.mv <| ?_
      refine Rl.gt <| Rl.q Qt.mv <| Rl.gt <| Rl.q Qt.mv <| Rl.gt <| Rl.e (Ef.qcall (S := leBx_q (p := 20) (n := 4) ho (by decide) (by decide) hBl A.fin)) fun _ _ => Rl.gt <| Rl.q (Qt.neF (b := 0) (h := rfl)) <| ?_
      refine Rl.q Qt.pkT <| Rl.nilK <| ?_
      refine T.condF ?_
      refine T.exit <| Ex.Kexit <| Ex.Rexit <| Ex.Bhit <| Ex.K <| ?_
      refine T.sr <| Rl.q Qt.mv <| Rl.q Qt.mv <| Rl.q (Qt.toN (c := 24) (Qt.add (b := 4) (a := 20) (h := by decide)) (rfl)) <| Rl.q Qt.mv <| Rl.q Qt.len <| Rl.q (Qt.cv (a := 100) (h := by decide)) <| Rl.q (Qt.leT (h := by decide) (a := 24) (b := 100)) <| ?_
      refine Rl.q Qt.mv <| Rl.gt <| Rl.q Qt.mv <| Rl.gt <| Rl.q Qt.mv <| Rl.gt <| Rl.q (Qt.toN (c := 20) (Qt.add (a := 0) (b := 20) (h := by decide)) (rfl)) <| Rl.gt <| Rl.q (Qt.toN (c := 24) (Qt.add (b := 4) (a := 20) (h := by decide)) (rfl)) <| ?_
      refine Rl.gt <| Rl.q Qt.mv <| Rl.gt <| Rl.q (Qt.leT (a := 24)) <| Rl.q Qt.pkT <| Rl.q Qt.mv <| Rl.q Qt.nc <| Rl.q Qt.fa <| ?_
      refine Rl.q Qt.ld <| Rl.e (Ef.qcall (S := must_q _ _ _)) fun _ _ => Rl.nilK <| ?_
      refine T.sr <| Rl.q Qt.mv <| Rl.q Qt.as <| Rl.nilK <| ?_
      refine T.ret <| Ex.ret1 (.inl rfl) rfl ?_ rfl
      exact fun w h => ⟨((v187.1, v187.2), (.slice p val.length c, v142.2)), ⟨by simpa using hv187, hv3⟩, rfl, h.re⟩
    · refine Rl.nilK <| ?_
      refine T.condF ?_
      refine T.skip <| Ex.K <| ?_
      refine T.add0 ?_
      refine T.sr <| Rl.q Qt.mv <| Rl.q Qt.mv <| Rl.q Qt.mv <| Rl.q (Qt.bts (l := RI) (s := [100, 97, 116, 97]) (hs := by rw [RowC.cells (l := B) (by omega)]; exact congrArg (fun z => some (bc z)) A.nm)) <| Rl.q (Qt.to (u := SV sysdata) (Qt.cat (h := by decide)) (rfl)) <| Rl.q Qt.mv <| Rl.q Qt.bd <| ?_
      refine Rl.e Ef.bs fun b186 hb186 => Rl.e (Ef.ap (own := Own.nil 84 2)) fun v187 hv187 => Rl.q Qt.as <| Rl.nilK <| ?_
      refine T.region <| Rl.q Qt.mv <| Rl.q Qt.mv <| Rl.q (Qt.toN (c := 20) (Qt.add (a := 16) (b := 4) (h := by decide)) (rfl)) <| Rl.q (Qt.toN (c := 23) (Qt.add (b := 3) (a := 20) (h := by decide)) (rfl)) <| Rl.q (Qt.toN (c := 5) (Qt.quo (b := 4) (a := 23) (h := by decide)) (rfl)) <| Rl.q (Qt.toN (c := 20) (Qt.mul (b := 4) (a := 5) (h := by decide)) (rfl)) <| Rl.q (Qt.toN (c := 20) (Qt.add (a := 0) (b := 20) (h := by decide)) (rfl)) <| ?_
      refine Rl.q Qt.as <| Rl.nil <| Ex.Bnormal <| Ex.LR <| ?_
      refine T.seq ?_
      refine T.sr <| Rl.q Qt.mv <| Rl.q (Qt.toN (c := 24) (Qt.add (b := 4) (a := 20) (h := by decide)) (rfl)) <| Rl.q Qt.mv <| Rl.q Qt.len <| Rl.q (Qt.cv (a := 100) (h := by decide)) <| Rl.q (Qt.leT (h := by decide)) <| Rl.q Qt.mv <| ?_
      refine Rl.gt <| Rl.q Qt.mv <| Rl.gt <| Rl.q Qt.mv <| Rl.gt <| Rl.e (Ef.qcall (S := leBx_q (p := 20) (n := 4) ho (by decide) (by decide) hBl A.fin)) fun _ _ => Rl.gt <| Rl.q (Qt.neF (b := 0) (h := rfl)) <| ?_
      refine Rl.q Qt.pkT <| Rl.nilK <| ?_
      refine T.condF ?_
      refine T.exit <| Ex.Kexit <| Ex.Rexit <| Ex.Bhit <| Ex.K <| ?_
      refine T.sr <| Rl.q Qt.mv <| Rl.q Qt.mv <| Rl.q (Qt.toN (c := 24) (Qt.add (b := 4) (a := 20) (h := by decide)) (rfl)) <| Rl.q Qt.mv <| Rl.q Qt.len <| Rl.q (Qt.cv (a := 100) (h := by decide)) <| Rl.q (Qt.leT (h := by decide) (a := 24) (b := 100)) <| ?_
      refine Rl.q Qt.mv <| Rl.gt <| Rl.q Qt.mv <| Rl.gt <| Rl.q Qt.mv <| Rl.gt <| Rl.q (Qt.toN (c := 20) (Qt.add (a := 0) (b := 20) (h := by decide)) (rfl)) <| Rl.gt <| Rl.q (Qt.toN (c := 24) (Qt.add (b := 4) (a := 20) (h := by decide)) (rfl)) <| ?_
      refine Rl.gt <| Rl.q Qt.mv <| Rl.gt <| Rl.q (Qt.leT (a := 24)) <| Rl.q Qt.pkT <| Rl.q Qt.mv <| Rl.q Qt.nc <| Rl.q Qt.fa <| ?_
      refine Rl.q Qt.ld <| Rl.e (Ef.qcall (S := must_q _ _ _)) fun _ _ => Rl.nilK <| ?_
      refine T.sr <| Rl.q Qt.mv <| Rl.q Qt.as <| Rl.nilK <| ?_
      refine T.ret <| Ex.ret1 (.inl rfl) rfl ?_ rfl
      exact fun w h => ⟨((v187.1, v187.2), (.slice p val.length c, v142.2)), ⟨by simpa using hv187, hv3⟩, rfl, h.re⟩
end SL
end Go.Proofs.YtlmiekcmjpnobaaGreatDoor
