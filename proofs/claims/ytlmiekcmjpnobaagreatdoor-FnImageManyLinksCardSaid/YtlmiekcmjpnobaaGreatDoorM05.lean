/- Part 5 of the proof of the card of 'laws.FnImageManyLinks': it returns true at every input. No condition. Texts: WI WJ WK WL WM WN WO WP WQ WS. -/
import Derived.Test.YtlmiekcmjpnobaaGreatDoorM04
namespace Go.Proofs.YtlmiekcmjpnobaaGreatDoor
open Go
namespace SL
set_option maxRecDepth 20000

theorem putB_cons {l : List UInt8} {o : Nat} {a : UInt8} {r : List UInt8} (h : o < l.length) : putB l o (a :: r) = putB (l.set o a) (o + 1) r := by
  unfold putB
  rw [List.take_succ_eq_append_getElem (by simpa using h), List.take_set, List.drop_set_of_lt (by omega)]
  simp only [List.getElem_set_self, List.length_cons, List.append_assoc, List.singleton_append]
  rw [List.set_eq_of_length_le (by rw [List.length_take]; omega), show o + (r.length + 1) = o + 1 + r.length by omega]
theorem putB_nil {l : List UInt8} {o : Nat} : putB l o [] = l := by simp [putB]
theorem put1 {l : List UInt8} {o x : Nat} (h : o < l.length) : putL (bc l) o (vcells (N .u8 (x % lim .u8))) = bc (l.set o (UInt8.ofNat x)) := by
  rw [← putL_bc _ h]
  simp [vcells, lim]
theorem put1' {l : List UInt8} {o x : Nat} (h : o < l.length) (hx : x < 256) : putL (bc l) o (vcells (N .u8 x)) = bc (putB l o (leB 1 x)) := by
  have := put1 (x := x) h
  rw [show x % lim .u8 = x from Nat.mod_eq_of_lt hx] at this
  rw [this, show leB 1 x = [UInt8.ofNat x] from rfl, putB_cons h, putB_nil]
theorem putB_leB2 {l : List UInt8} {o x : Nat} (h : o + 2 ≤ l.length) : (l.set (o + 0) (UInt8.ofNat x)).set (o + 1) (UInt8.ofNat (x / 2 ^ 8)) = putB l o (leB 2 x) := by
  rw [show leB 2 x = [UInt8.ofNat x, UInt8.ofNat (x / 256)] from rfl, putB_cons (by omega), putB_cons (by rw [List.length_set]; omega), putB_nil]
  rfl
theorem putB_leB4 {l : List UInt8} {o x : Nat} (h : o + 4 ≤ l.length) : (((l.set (o + 0) (UInt8.ofNat x)).set (o + 1) (UInt8.ofNat (x / 2 ^ 8))).set (o + 2) (UInt8.ofNat (x / 2 ^ 16))).set (o + 3) (UInt8.ofNat (x / 2 ^ 24)) = putB l o (leB 4 x) := by
  rw [show leB 4 x = [UInt8.ofNat x, UInt8.ofNat (x / 256), UInt8.ofNat (x / 256 / 256), UInt8.ofNat (x / 256 / 256 / 256)] from rfl, putB_cons (by omega), putB_cons (by rw [List.length_set]; omega),
    putB_cons (by rw [List.length_set, List.length_set]; omega), putB_cons (by rw [List.length_set, List.length_set, List.length_set]; omega), putB_nil, Nat.div_div_eq_div_mul, Nat.div_div_eq_div_mul]
  rfl
variable {bW bD bN b o k c e p st nb bX capX eX x bx bS : Nat} {R : List Value} {fr : Nat × Nat} {bs xs zs l : List UInt8} {v : Value} {E : Chunk} {s : WS}
theorem iput32_s (h4 : 4 ≤ k) (ho : o + 4 ≤ l.length) (hx : x < 4294967296) :
    Spec Tryz.prog 147 [Sl b o k c, N .u32 x] [] [[(b, BO l e (0, 0))]] (fun _ : Unit => True) (fun _ => .tuple #[]) (fun _ => [[(b, BO (putB l o (leB 4 x)) e (0, 0))]]) := by
  refine Spec.of Tryz.func147 rfl Tryz.ntmps147 (by simp) fun w => ?_
  refine T.region <| Rl.q Qt.mv <| Rl.q Qt.mv <| Rl.q Qt.mv <| Rl.q Qt.mv <| Rl.q Qt.mv <| Rl.q Qt.cvW <| Rl.q Qt.mv <| ?_
  refine Rl.q (Qt.shr (b := 8)) <| Rl.q Qt.cvW <| Rl.q Qt.mv <| Rl.q (Qt.shr (b := 16)) <| Rl.q Qt.cvW <| Rl.q Qt.mv <| Rl.q (Qt.shr (b := 24)) <| Rl.q Qt.cvW <| ?_
  refine Rl.q (Qt.ia1 (i := 0)) <| Rl.e0 (Ef.st (hc := ⟨rfl, by show o + 0 + 1 ≤ _; rw [bc_length]; (try simp only [List.length_set]); omega, rfl⟩)) fun _ _ => Rl.q (Qt.ia1 (i := 1)) <| ?_
  rw [put1 (by (try simp only [List.length_set]); omega)]
  refine Rl.e0 (Ef.st (hc := ⟨rfl, by show o + 1 + 1 ≤ _; rw [bc_length]; (try simp only [List.length_set]); omega, rfl⟩)) fun _ _ => Rl.q (Qt.ia1 (i := 2)) <| ?_
  rw [put1 (by (try simp only [List.length_set]); omega)]
  refine Rl.e0 (Ef.st (hc := ⟨rfl, by show o + 2 + 1 ≤ _; rw [bc_length]; (try simp only [List.length_set]); omega, rfl⟩)) fun _ _ => Rl.q (Qt.ia1 (i := 3)) <| ?_
  rw [put1 (by (try simp only [List.length_set]); omega)]
  refine Rl.e0 (Ef.st (hc := ⟨rfl, by show o + 3 + 1 ≤ _; rw [bc_length]; (try simp only [List.length_set]); omega, rfl⟩)) fun _ _ => Rl.nil <| Ex.ret0 (.inr rfl) ?_ rfl
  rw [put1 (by (try simp only [List.length_set]); omega), putB_leB4 ho]
  exact fun w h => ⟨(), trivial, rfl, h.re⟩

theorem iput16_s (h4 : 2 ≤ k) (ho : o + 2 ≤ l.length) (hx : x < 65536) :
    Spec Tryz.prog 174 [Sl b o k c, N .u16 x] [] [[(b, BO l e (0, 0))]] (fun _ : Unit => True) (fun _ => .tuple #[]) (fun _ => [[(b, BO (putB l o (leB 2 x)) e (0, 0))]]) := by
  refine Spec.of Tryz.func174 rfl Tryz.ntmps174 (by simp) fun w => ?_
  refine T.region <| Rl.q Qt.mv <| Rl.q Qt.mv <| Rl.q Qt.mv <| Rl.q Qt.cvW <| Rl.q Qt.mv <| Rl.q (Qt.shr (b := 8)) <| Rl.q Qt.cvW <| ?_
  refine Rl.q (Qt.ia1 (i := 0)) <| Rl.e0 (Ef.st (hc := ⟨rfl, by show o + 0 + 1 ≤ _; rw [bc_length]; (try simp only [List.length_set]); omega, rfl⟩)) fun _ _ => Rl.q (Qt.ia1 (i := 1)) <| ?_
  rw [put1 (by (try simp only [List.length_set]); omega)]
  refine Rl.e0 (Ef.st (hc := ⟨rfl, by show o + 1 + 1 ≤ _; rw [bc_length]; (try simp only [List.length_set]); omega, rfl⟩)) fun _ _ => Rl.nil <| Ex.ret0 (.inr rfl) ?_ rfl
  rw [put1 (by (try simp only [List.length_set]); omega), putB_leB2 ho]
  exact fun w h => ⟨(), trivial, rfl, h.re⟩

/-- An attribute. -/
abbrev XA (nm : List UInt8) (i : Nat) (v : Value) : List Value := [SV nm, N .u8 i, v]
abbrev XAO (nm : List UInt8) (i : Nat) (v : Value) : Obj := .cells (XA nm i v).toArray 248 (0, 0)
def up4 (n : Nat) : Nat := (n + 3) / 4 * 4
theorem entryLen_q {nm : List UInt8} {i : Nat} (h : nm.length < 1000000) : QSpec Tryz.prog 137 [Pt bx] [[(bx, XAO nm i v)]] (N .i64 (up4 nm.length + 16)) := by
  refine QSpec.of Tryz.func137 rfl Tryz.ntmps137 (by simp) fun w => ?_
  have hu : up4 nm.length ≤ nm.length + 3 := by unfold up4; omega
  refine T.sr <| Rl.q (Qt.as (v := N .i64 0)) <| Rl.nilK <| ?_
  refine T.sr <| Rl.q Qt.mv <| Rl.q Qt.nc <| Rl.q Qt.fa0 <| Rl.q Qt.ld <| Rl.q Qt.lenS <| Rl.q (Qt.add (b := 3)) <| Rl.q (Qt.toN (c := up4 nm.length) (Qt.andNot (b := 3) (h := ⟨by simp only [lim]; omega, by decide⟩)) (andNot3 (a := nm.length + 3) (by omega))) <| ?_
  refine Rl.q (Qt.add (b := 16)) <| Rl.q Qt.as <| Rl.nilK <| ?_
  refine T.ret <| Ex.ret1 (.inl rfl) rfl ?_ rfl
  exact fun w h => ⟨rfl, h.grown⟩

theorem valueLen_q {nm : List UInt8} {i n : Nat} {q : Option Addr} (h : n < 1000000) : QSpec Tryz.prog 166 [Pt bx] [[(bx, XAO nm i (.slice q n c))]] (N .i64 (up4 n)) := by
  refine QSpec.of Tryz.func166 rfl Tryz.ntmps166 (by simp) fun w => ?_
  refine T.sr <| Rl.q (Qt.as (v := N .i64 0)) <| Rl.nilK <| ?_
  refine T.sr <| Rl.q Qt.mv <| Rl.q Qt.nc <| Rl.q Qt.fa <| Rl.q Qt.ld <| Rl.q Qt.len <| Rl.q (Qt.add (b := 3)) <| Rl.q (Qt.toN (c := up4 n) (Qt.andNot (b := 3) (h := ⟨by simp only [lim]; omega, by decide⟩)) (andNot3 (a := n + 3) (by omega))) <| ?_
  refine Rl.q Qt.as <| Rl.nilK <| ?_
  refine T.ret <| Ex.ret1 (.inl rfl) rfl ?_ rfl
  exact fun w h => ⟨rfl, h.grown⟩

theorem hasPrefixF_q {s p : List UInt8} (h : s.length < p.length) : QSpec Tryz.prog 178 [SV s, SV p] [] (.bool false) := by
  refine QSpec.of Tryz.func178 rfl Tryz.ntmps178 (by simp) fun w => ?_
  have hq : QSpec Tryz.prog 181 [SV s, SV p] [] (.bool false) := by
    refine QSpec.of Tryz.func181 rfl Tryz.ntmps181 (by simp) fun w => ?_
    refine T.sr <| Rl.q (Qt.as (v := .bool false)) <| Rl.nilK <| ?_
    refine T.sr <| Rl.q Qt.mv <| Rl.q Qt.lenS <| Rl.q Qt.mv <| Rl.q Qt.lenS <| Rl.q Qt.geF <| Rl.q Qt.mv <| Rl.gf <| Rl.gf <| Rl.gf <| Rl.gf <| Rl.gf <| Rl.gf <| Rl.q (Qt.pkF (v := .bool false)) <| ?_
    refine Rl.q Qt.as <| Rl.nilK <| ?_
    refine T.ret <| Ex.ret1 (.inl rfl) rfl ?_ rfl
    exact fun w h => ⟨rfl, h.grown⟩
  refine T.sr <| Rl.q (Qt.as (v := .bool false)) <| Rl.nilK <| ?_
  refine T.sr <| Rl.q Qt.mv <| Rl.q Qt.mv <| Rl.e (Ef.qcall (S := hq)) fun _ _ => Rl.q Qt.as <| Rl.nilK <| ?_
  refine T.ret <| Ex.ret1 (.inl rfl) rfl ?_ rfl
  exact fun w h => ⟨rfl, h.grown⟩

theorem hasPrefixT_q {s p : List UInt8} (h : p.length ≤ s.length) (h2 : s.take p.length = p) : QSpec Tryz.prog 178 [SV s, SV p] [] (.bool true) := by
  refine QSpec.of Tryz.func178 rfl Tryz.ntmps178 (by simp) fun w => ?_
  have hq : QSpec Tryz.prog 181 [SV s, SV p] [] (.bool true) := by
    refine QSpec.of Tryz.func181 rfl Tryz.ntmps181 (by simp) fun w => ?_
    refine T.sr <| Rl.q (Qt.as (v := .bool false)) <| Rl.nilK <| ?_
    refine T.sr <| Rl.q Qt.mv <| Rl.q Qt.lenS <| Rl.q Qt.mv <| Rl.q Qt.lenS <| Rl.q Qt.geT <| Rl.q Qt.mv <| Rl.gt <| Rl.q Qt.mv <| ?_
    refine Rl.gt <| Rl.q Qt.mv <| Rl.gt <| Rl.q Qt.lenS <| Rl.gt <| Rl.q (Qt.to (u := SV p) Qt.slS (by rw [List.drop_zero, h2])) <| Rl.gt <| Rl.q Qt.mv <| ?_
    refine Rl.gt <| Rl.q (Qt.seqT (h := rfl)) <| Rl.q Qt.pkT <| Rl.q Qt.as <| Rl.nilK <| ?_
    refine T.ret <| Ex.ret1 (.inl rfl) rfl ?_ rfl
    exact fun w h => ⟨rfl, h.grown⟩
  refine T.sr <| Rl.q (Qt.as (v := .bool false)) <| Rl.nilK <| ?_
  refine T.sr <| Rl.q Qt.mv <| Rl.q Qt.mv <| Rl.e (Ef.qcall (S := hq)) fun _ _ => Rl.q Qt.as <| Rl.nilK <| ?_
  refine T.ret <| Ex.ret1 (.inl rfl) rfl ?_ rfl
  exact fun w h => ⟨rfl, h.grown⟩

/-- The prefixes of attributes' names, as the program lays them. -/
abbrev GP : List Value := [N .u8 2, SV [115, 121, 115, 116, 101, 109, 46, 112, 111, 115, 105, 120, 95, 97, 99, 108, 95, 97, 99, 99, 101, 115, 115], N .u8 3, SV [115, 121, 115, 116, 101, 109, 46, 112, 111, 115, 105, 120, 95, 97, 99, 108, 95, 100, 101, 102, 97, 117, 108, 116], N .u8 8, SV [115, 121, 115, 116, 101, 109, 46, 114, 105, 99, 104, 97, 99, 108], N .u8 7, SV [115, 121, 115, 116, 101, 109, 46], N .u8 1, SV [117, 115, 101, 114, 46], N .u8 4, SV [116, 114, 117, 115, 116, 101, 100, 46], N .u8 6, SV [115, 101, 99, 117, 114, 105, 116, 121, 46]]
abbrev GPO (e : Nat) (fr : Nat × Nat) : Obj := .cells GP.toArray e fr
theorem compress_sys_q : QSpec Tryz.prog 165 [SV sysdata] [[(0, GPO e fr)]] (.tuple #[N .u8 7, SV [100, 97, 116, 97]]) := by
  refine QSpec.of Tryz.func165 rfl Tryz.ntmps165 (by simp) fun w => ?_
  refine T.sr <| Rl.q (Qt.as (v := N .u8 0)) <| Rl.q (Qt.as (v := SV [])) <| Rl.nilK <| ?_
  refine T.seq ?_
  refine T.sr <| Rl.q Qt.ldA <| Rl.q (Qt.mv (v := N .i64 0)) <| Rl.nilK <| ?_
  refine T.block ?_
  refine T.rounds 3 ?_
  refine T.sr <| Rl.q (Qt.ltT (a := 0) (b := 7) (h := by decide)) <| Rl.nilK <| ?_
  refine T.seq ?_
  refine T.condT ?_
  refine T.skip <| Ex.K <| ?_
  refine T.seq ?_
  refine T.block ?_
  refine T.sr <| Rl.q Qt.ixAg <| Rl.e Ef.alA fun b5 hb5 => Rl.e0 Ef.stN fun _ _ => Rl.nilK <| ?_
  refine T.sr <| Rl.q Qt.mv <| Rl.q Qt.fa <| Rl.q Qt.ld <| Rl.e (Ef.qcall (S := hasPrefixF_q (by decide))) fun _ _ => Rl.nilK <| ?_
  refine T.condF ?_
  refine T.skip <| Ex.Bnormal <| Ex.K <| ?_
  refine T.region <| Rl.q (Qt.toN (c := 1) (Qt.add (a := 0) (b := 1) (h := by decide)) rfl) <| Rl.q Qt.mv <| Rl.nil <| Ex.LR <| ?_
  refine T.sr <| Rl.q (Qt.ltT (a := 1) (b := 7) (h := by decide)) <| Rl.nilK <| ?_
  refine T.seq ?_
  refine T.condT ?_
  refine T.skip <| Ex.K <| ?_
  refine T.seq ?_
  refine T.block ?_
  refine T.sr <| Rl.q Qt.ixAg <| Rl.e Ef.alA fun b5 hb5 => Rl.e0 Ef.stN fun _ _ => Rl.nilK <| ?_
  refine T.sr <| Rl.q Qt.mv <| Rl.q Qt.fa <| Rl.q Qt.ld <| Rl.e (Ef.qcall (S := hasPrefixF_q (by decide))) fun _ _ => Rl.nilK <| ?_
  refine T.condF ?_
  refine T.skip <| Ex.Bnormal <| Ex.K <| ?_
  refine T.region <| Rl.q (Qt.toN (c := 2) (Qt.add (a := 1) (b := 1) (h := by decide)) rfl) <| Rl.q Qt.mv <| Rl.nil <| Ex.LR <| ?_
  refine T.sr <| Rl.q (Qt.ltT (a := 2) (b := 7) (h := by decide)) <| Rl.nilK <| ?_
  refine T.seq ?_
  refine T.condT ?_
  refine T.skip <| Ex.K <| ?_
  refine T.seq ?_
  refine T.block ?_
  refine T.sr <| Rl.q Qt.ixAg <| Rl.e Ef.alA fun b5 hb5 => Rl.e0 Ef.stN fun _ _ => Rl.nilK <| ?_
  refine T.sr <| Rl.q Qt.mv <| Rl.q Qt.fa <| Rl.q Qt.ld <| Rl.e (Ef.qcall (S := hasPrefixF_q (by decide))) fun _ _ => Rl.nilK <| ?_
  refine T.condF ?_
  refine T.skip <| Ex.Bnormal <| Ex.K <| ?_
  refine T.region <| Rl.q (Qt.toN (c := 3) (Qt.add (a := 2) (b := 1) (h := by decide)) rfl) <| Rl.q Qt.mv <| Rl.nil <| Ex.LR <| ?_
  refine T.sr <| Rl.q (Qt.ltT (a := 3) (b := 7) (h := by decide)) <| Rl.nilK <| ?_
  refine T.seq ?_
  refine T.condT ?_
  refine T.skip <| Ex.K <| ?_
  refine T.seq ?_
  refine T.block ?_
  refine T.sr <| Rl.q Qt.ixAg <| Rl.e Ef.alA fun b5 hb5 => Rl.e0 Ef.stN fun _ _ => Rl.nilK <| ?_
  refine T.sr <| Rl.q Qt.mv <| Rl.q Qt.fa <| Rl.q Qt.ld <| Rl.e (Ef.qcall (S := hasPrefixT_q (by decide) rfl)) fun _ _ => Rl.nilK <| ?_
  refine T.condT ?_
  refine T.sdr [] ?_ mixed
  refine Dr.qs [0, 1, 2, 3, 4, 5, 6, 7, 8] [] ?_
  refine Dq.q Qt.fa0 <| Dq.q Qt.ld <| Dq.q Qt.mv <| Dq.q Qt.fa <| Dq.q Qt.ld <| Dq.q Qt.lenS <| Dq.q (Qt.to (u := SV [100, 97, 116, 97]) (Qt.slS (hb := ⟨by decide, by decide⟩)) (rfl)) <| Dq.q Qt.as <| ?_
  refine Dq.q Qt.as <| Dq.nil <| Dr.nilK <| ?_
  refine T.ret <| Ex.Bret <| Ex.Kret <| Ex.Rret <| Ex.Bret <| Ex.Kret <| Ex.ret2 (.inl rfl) rfl rfl ?_ rfl
  exact fun w h => ⟨rfl, h.grown⟩
end SL
end Go.Proofs.YtlmiekcmjpnobaaGreatDoor
namespace Go.Proofs.YtlmiekcmjpnobaaGreatDoor
open Go
namespace SL
set_option maxRecDepth 20000

variable {bW bD bN b o k c e p st nb bX capX eX bx bS bA cA eA eG bv ov n cv ev : Nat} {R Rv sp : List Value} {fr frA frG fv : Nat × Nat} {bs xs zs l val : List UInt8} {v : Value} {E : Chunk} {s : WS} {x : WI}
abbrev data4 : List UInt8 := [100, 97, 116, 97]
theorem up4_le (n : Nat) : up4 n ≤ n + 3 := by unfold up4; omega
theorem up4_ge (n : Nat) : n ≤ up4 n := by unfold up4; omega
abbrev XS (i bl : Value) (a b : Nat) : Obj := .cells [i, bl, N .i64 a, N .i64 b].toArray 240 (0, 0)
theorem xinit_s {a b' : Nat} : Spec Tryz.prog 131 [Pt bS] [] [[(bS, XS (.slice none 0 0) (.slice none 0 0) a b')]] (fun _ : Unit => True) (fun _ => .tuple #[]) (fun _ => [[(bS, XS (.slice none 0 0) (.slice none 0 0) 96 4060)]]) := by
  refine Spec.of Tryz.func131 rfl Tryz.ntmps131 (by simp) fun w => ?_
  refine T.sr <| Rl.q Qt.mv <| Rl.q Qt.nc <| Rl.q Qt.fa <| Rl.e0 (Ef.st1 (v := N .i64 96)) fun _ _ => Rl.nilK <| ?_
  refine T.region <| Rl.q Qt.mv <| Rl.q Qt.nc <| Rl.q Qt.fa <| Rl.e0 (Ef.st1 (v := N .i64 4060)) fun _ _ => Rl.nil <| Ex.ret0 (.inr rfl) ?_ rfl
  exact fun w h => ⟨(), trivial, rfl, h.re⟩

abbrev T0 : Value := .agg #[.bool false, N .i64 0, N .i64 0]
theorem timeFs0_q : QSpec Tryz.prog 130 [.agg [.bool false, N .i64 0, N .i64 0].toArray] [] (N .u64 0) := by
  refine QSpec.of Tryz.func130 rfl Tryz.ntmps130 (by simp) fun w => ?_
  refine T.sr <| Rl.e Ef.bxA fun b1 hb1 => Rl.q (Qt.as (v := N .u64 0)) <| Rl.nilK <| ?_
  refine T.seq ?_
  refine T.sr <| Rl.q Qt.fa0 <| Rl.q Qt.ld <| Rl.q Qt.notF <| Rl.nilK <| ?_
  refine T.condT ?_
  refine T.sr <| Rl.q (Qt.as (v := N .u64 0)) <| Rl.nilK <| ?_
  refine T.ret <| Ex.Kret <| Ex.ret1 (.inl rfl) rfl ?_ rfl
  exact fun w h => ⟨rfl, h.grown⟩

theorem addXattr_sys_s {q : Option Addr} (hn : n ≤ 76) :
    Spec Tryz.prog 132 [Pt bS, SV sysdata, .slice q n c] [[(0, GPO eG frG)]] [[(bS, XS (.slice none 0 0) (.slice none 0 0) 96 4060)]]
      (fun r : Value × Chunk => Own 248 3 r.1 1 (XA data4 7 (.slice q n c)) r.2) (fun _ => .bool true) (fun r => [[(bS, XS r.1 (.slice none 0 0) (96 - (20 + up4 n)) 4060)], r.2]) := by
  refine Spec.of Tryz.func132 rfl Tryz.ntmps132 (by simp) fun w => ?_
  have hu : up4 n ≤ 76 := by unfold up4; omega
  refine T.sr <| Rl.q (Qt.as (v := .bool false)) <| Rl.nilK <| ?_
  refine T.sr <| Rl.q Qt.mv <| Rl.e (Ef.qcall (S := compress_sys_q)) fun _ _ => Rl.q Qt.mv <| Rl.q Qt.ex <| Rl.q Qt.ex <| Rl.q Qt.as <| Rl.q Qt.as <| ?_
  refine Rl.nilK <| ?_
  refine T.sr <| Rl.q Qt.mv <| Rl.q Qt.mv <| Rl.q Qt.mv <| Rl.q Qt.bdN <| Rl.e Ef.alA fun b8 hb8 => Rl.e0 Ef.stN fun _ _ => Rl.nilK <| ?_
  refine T.sr <| Rl.e (Ef.qcall (S := entryLen_q (nm := data4) (by decide))) fun _ _ => Rl.e (Ef.qcall (S := valueLen_q (n := n) (by omega))) fun _ _ => Rl.q (Qt.toN (c := 20 + up4 n) (Qt.add (h := by show 20 + up4 n < _; simp only [lim]; omega)) (rfl)) <| Rl.q Qt.as <| Rl.nilK <| ?_
  refine T.seq ?_
  refine T.sr <| Rl.q Qt.mv <| Rl.q Qt.nc <| Rl.q Qt.fa <| Rl.q Qt.ld <| Rl.q Qt.mv <| Rl.q Qt.geT <| Rl.nilK <| ?_
  refine T.condT ?_
  refine T.add0 ?_
  refine T.sdr [7, 8, 9, 10] ?_ mixed
  refine Dr.qs [0, 1, 2, 3, 4, 5] [true] ?_
  refine Dq.p Qt.mv <| Dq.q Qt.mv <| Dq.q Qt.nc <| Dq.q Qt.fa0 <| Dq.q Qt.ld <| Dq.q Qt.ldA <| Dq.nil <| ?_
  refine Dr.e 6 <| Eo.e rfl Ef.bs fun b34 hb34 => ?_
  refine Dr.e 7 <| Eo.e rfl (Ef.ap (own := Own.nil 248 3) (vs := XA data4 7 (.slice q n c))) fun v35 hv35 => ?_
  refine Dr.e 8 <| Eo.q rfl Qt.nc <| ?_
  refine Dr.e 9 <| Eo.q rfl Qt.fa0 <| ?_
  refine Dr.e 10 <| Eo.e0 rfl Ef.st1 fun _ _ => Dr.nilK <| ?_
  refine T.region <| Rl.q Qt.mv <| Rl.q Qt.nc <| Rl.q Qt.fa <| Rl.q Qt.ld <| Rl.q Qt.mv <| Rl.q Qt.sub <| Rl.q Qt.nc <| ?_
  refine Rl.q Qt.fa <| Rl.e0 Ef.st1 fun _ _ => Rl.nil <| Ex.K <| ?_
  refine T.sr <| Rl.q (Qt.as (v := .bool true)) <| Rl.nilK <| ?_
  refine T.ret <| Ex.ret1 (.inl rfl) rfl ?_ rfl
  exact fun w h => ⟨(v35.1, v35.2), hv35, rfl, h.re⟩

/-- Attributes of an inode with the one of data put over what was there. -/
def pxB (l val : List UInt8) : List UInt8 :=
  putB (putB (putB (putB (putB (putB (putB l 4 (leB 1 4)) 5 (leB 1 7)) 6 (leB 2 (100 - up4 val.length))) 12 (leB 4 val.length)) 16 (leB 4 (attrHash data4 val))) 20 data4) (104 - up4 val.length) val
theorem pxB_length (h : l.length = 104) (hv : val.length ≤ 76) : (pxB l val).length = 104 := by
  have h1 := up4_ge val.length
  have h2 : up4 val.length ≤ 76 := by unfold up4; omega
  unfold pxB
  have L1 : (putB l 4 (leB 1 4)).length = 104 := by rw [putB_length (by rw [leB_length]; omega), h]
  have L2 : (putB (putB l 4 (leB 1 4)) 5 (leB 1 7)).length = 104 := by rw [putB_length (by rw [leB_length]; omega), L1]
  have L3 : (putB (putB (putB l 4 (leB 1 4)) 5 (leB 1 7)) 6 (leB 2 (100 - up4 val.length))).length = 104 := by rw [putB_length (by rw [leB_length]; omega), L2]
  have L4 : (putB (putB (putB (putB l 4 (leB 1 4)) 5 (leB 1 7)) 6 (leB 2 (100 - up4 val.length))) 12 (leB 4 val.length)).length = 104 := by rw [putB_length (by rw [leB_length]; omega), L3]
  have L5 : (putB (putB (putB (putB (putB l 4 (leB 1 4)) 5 (leB 1 7)) 6 (leB 2 (100 - up4 val.length))) 12 (leB 4 val.length)) 16 (leB 4 (attrHash data4 val))).length = 104 := by rw [putB_length (by rw [leB_length]; omega), L4]
  have L6 : (putB (putB (putB (putB (putB (putB l 4 (leB 1 4)) 5 (leB 1 7)) 6 (leB 2 (100 - up4 val.length))) 12 (leB 4 val.length)) 16 (leB 4 (attrHash data4 val))) 20 data4).length = 104 := by rw [putB_length (by rw [L5]; decide), L5]
  rw [putB_length (by omega), L6]
theorem attrHash_lt (a b : List UInt8) : attrHash a b < 4294967296 := hVal_lt _ (hNam_lt _ _) _
set_option maxHeartbeats 2000000 in
theorem putXattrs1_s (hl : l.length = 104) (hv : RowB Rv ov val) (hvl : val.length = n) (hn : n ≤ 76) (hcv : n ≤ cv ∧ cv < 1000000) :
    Spec Tryz.prog 146 [Sl bA 0 1 cA, Sl b 4 100 100, N .u16 0] [[(bA, .cells (XA data4 7 (Sl bv ov n cv) ++ sp).toArray eA frA)], [(bv, .cells Rv.toArray ev fv)]] [[(b, BO l e (0, 0))]]
      (fun _ : Unit => True) (fun _ => .tuple #[]) (fun _ => [[(b, BO (pxB l val) e (0, 0))]]) := by
  subst hvl
  refine Spec.of Tryz.func146 rfl Tryz.ntmps146 (by simp) fun w => ?_
  have hu : up4 val.length ≤ 76 := by unfold up4; omega
  have hu2 := up4_ge val.length
  have hA := attrHash_lt data4 val
  have hm : Nat.min val.length (100 - (100 - up4 val.length)) = val.length := Nat.min_eq_left (by omega)
  refine T.sr <| Rl.q Qt.mv <| Rl.q Qt.len <| Rl.q (Qt.cv (a := 100) (h := by decide)) <| Rl.q Qt.mv <| Rl.q (Qt.add (a := 100)) <| Rl.q Qt.as <| Rl.nilK <| ?_
  refine T.sr <| Rl.q Qt.mv <| Rl.q Qt.as <| Rl.nilK <| ?_
  refine T.sr <| Rl.q Qt.mv <| Rl.q Qt.as <| Rl.nilK <| ?_
  refine T.sr <| Rl.q Qt.mv <| Rl.q Qt.len <| Rl.q (Qt.mv (v := N .i64 0)) <| Rl.nilK <| ?_
  refine T.block ?_
  refine T.rounds 1 ?_
  refine T.sr <| Rl.q (Qt.ltT (a := 0) (b := 1) (h := by decide)) <| Rl.nilK <| ?_
  refine T.seq ?_
  refine T.condT ?_
  refine T.skip <| Ex.K <| ?_
  refine T.seq ?_
  refine T.block ?_
  refine T.sr <| Rl.q (Qt.to (u := Pt bA) (Qt.ia (i := 0)) (rfl)) <| Rl.q (Qt.ldA (vs := XA data4 7 (Sl bv ov val.length cv)) (hv := seg_app _ _)) <| Rl.e Ef.alA fun b10 hb10 => Rl.e0 Ef.stN fun _ _ => Rl.nilK <| ?_
  refine T.sr <| Rl.e (Ef.qcall (S := valueLen_q (n := val.length) (by omega))) fun _ _ => Rl.q Qt.as <| Rl.nilK <| ?_
  refine T.sr <| Rl.q Qt.mv <| Rl.q Qt.mv <| Rl.q Qt.cv <| Rl.q Qt.sub <| Rl.q Qt.as <| Rl.nilK <| ?_
  refine T.sr <| Rl.q Qt.mv <| Rl.q Qt.fa0 <| Rl.q Qt.ld <| Rl.q Qt.lenS <| Rl.q (Qt.cv (a := 4) (h := by decide)) <| Rl.q (Qt.ia1 (i := 0)) <| Rl.e0 (Ef.st (hc := ⟨rfl, by show 4 + 0 + 1 ≤ _; rw [bc_length]; omega, rfl⟩)) fun _ _ => ?_
  refine Rl.nilK <| ?_
  rw [put1' (x := 4) (by omega) (by decide)]
  have L1 : (putB l 4 (leB 1 4)).length = 104 := by rw [putB_length (by rw [leB_length]; omega), hl]
  generalize hl1 : putB l (4 + 0) (leB 1 4) = l1
  have L1 : l1.length = 104 := by rw [← hl1]; exact L1
  refine T.sr <| Rl.q Qt.mv <| Rl.q Qt.fa <| Rl.q Qt.ld <| Rl.q (Qt.ia1 (i := 1)) <| Rl.e0 (Ef.st (hc := ⟨rfl, by show 4 + 1 + 1 ≤ _; rw [bc_length]; omega, rfl⟩)) fun _ _ => Rl.nilK <| ?_
  rw [put1' (x := 7) (by omega) (by decide)]
  generalize hl2 : putB l1 (4 + 1) (leB 1 7) = l2
  have L2 : l2.length = 104 := by rw [← hl2, putB_length (by rw [leB_length]; omega), L1]
  refine T.sr <| Rl.q Qt.mv <| Rl.q (Qt.sl1 (cl := 2)) <| Rl.q Qt.mv <| Rl.e (Ef.call (S := iput16_s (l := l2) (by decide) (by omega) (by omega))) fun _ _ => Rl.nilK <| ?_
  generalize hl3 : putB l2 (4 + 2) (leB 2 (100 - up4 val.length)) = l3
  have L3 : l3.length = 104 := by rw [← hl3, putB_length (by rw [leB_length]; omega), L2]
  refine T.sdr [6] ?_ mixed
  refine Dr.qs [0, 1, 2, 3, 4, 5] [] ?_
  refine Dq.q Qt.mv <| Dq.q (Qt.sl1 (cl := 8)) <| Dq.q Qt.fa <| Dq.q Qt.ld <| Dq.q Qt.len <| Dq.q Qt.cv <| Dq.nil <| ?_
  refine Dr.e 6 <| Eo.e rfl (Ef.call (S := iput32_s (l := l3) (by decide) (by omega) (by omega))) fun _ _ => Dr.nilK <| ?_
  generalize hl4 : putB l3 (4 + 8) (leB 4 val.length) = l4
  have L4 : l4.length = 104 := by rw [← hl4, putB_length (by rw [leB_length]; omega), L3]
  refine T.sdr [7] ?_ mixed
  refine Dr.qs [0, 1, 2, 3, 4, 5, 6] [] ?_
  refine Dq.q Qt.mv <| Dq.q (Qt.sl1 (cl := 12)) <| Dq.q Qt.fa0 <| Dq.q Qt.ld <| Dq.q Qt.fa <| Dq.q Qt.ld <| Dq.c rfl (hashW_q hv rfl (by decide) (by omega) ⟨hcv.1, by omega⟩) <| Dq.nil <| ?_
  refine Dr.e 7 <| Eo.e rfl (Ef.call (S := iput32_s (l := l4) (by decide) (by omega) hA)) fun _ _ => Dr.nilK <| ?_
  generalize hl5 : putB l4 (4 + 12) (leB 4 (attrHash data4 val)) = l5
  have L5 : l5.length = 104 := by rw [← hl5, putB_length (by rw [leB_length]; omega), L4]
  refine T.sdr [4] ?_ mixed
  refine Dr.qs [0, 1, 2, 3] [] ?_
  refine Dq.q Qt.mv <| Dq.q (Qt.sl1 (cl := 16)) <| Dq.q Qt.fa0 <| Dq.q Qt.ld <| Dq.nil <| ?_
  refine Dr.e 4 <| Eo.e rfl (Ef.cpS (hl := by show 4 + 16 + Nat.min 4 84 ≤ _; rw [bc_length, L5]; decide)) fun _ _ => Dr.nilK <| ?_
  have e6 : putL (bc l5) (4 + 16) (bc (List.take (Nat.min (List.length data4) 84) data4)) = bc (putB l5 20 data4) := putL_bcs _ _ _
  rw [e6]
  generalize hl6 : putB l5 20 data4 = l6
  have L6 : l6.length = 104 := by rw [← hl6, putB_length (by rw [L5]; decide), L5]
  refine T.sr <| Rl.q Qt.mv <| Rl.e (Ef.qcall (S := entryLen_q (nm := data4) (by decide))) fun _ _ => Rl.q (Qt.sl (cl := 20)) <| Rl.q Qt.as <| Rl.nilK <| ?_
  refine T.sdr [8] ?_ mixed
  refine Dr.qs [0, 1, 2, 3, 4, 5, 6, 7] [] ?_
  refine Dq.q Qt.mv <| Dq.q Qt.mv <| Dq.q Qt.len <| Dq.q Qt.mv <| Dq.q (Qt.sub (a := 100)) <| Dq.q Qt.sl <| Dq.q Qt.fa <| Dq.q Qt.ld <| ?_
  refine Dq.nil <| ?_
  refine Dr.e 8 <| Eo.e rfl (Ef.cp (vs := bc val) (hs := by rw [hm]; exact hv) (hl := ⟨by rw [hm, bc_length, L6]; unfold cutAt; split <;> omega, bc_ones _⟩)) fun _ _ => Dr.nilK <| ?_
  have e7 : putL (bc l6) (cutAt 100 (100 - up4 val.length) 1 4) (bc val) = bc (putB l6 (104 - up4 val.length) val) := by
    rw [putL_bcs]
    unfold cutAt
    split
    · have : val = [] := List.eq_nil_of_length_eq_zero (by omega)
      subst this; rw [putB_nil, putB_nil]
    · rw [show 4 + (100 - up4 val.length) * 1 = 104 - up4 val.length by omega]
  rw [e7]
  refine T.region <| Rl.q Qt.mv <| Rl.q Qt.mv <| Rl.q Qt.len <| Rl.q Qt.mv <| Rl.q (Qt.sub (a := 100)) <| Rl.q Qt.sl1 <| Rl.q Qt.as <| ?_
  refine Rl.nil <| Ex.Bnormal <| Ex.K <| ?_
  refine T.region <| Rl.q (Qt.toN (c := 1) (Qt.add (a := 0) (b := 1) (h := by decide)) rfl) <| Rl.q Qt.mv <| Rl.nil <| Ex.LR <| ?_
  refine T.sr <| Rl.q (Qt.ltF (a := 1) (b := 1) (h := by decide)) <| Rl.nilK <| ?_
  refine T.seq ?_
  refine T.condF ?_
  refine T.exit <| Ex.Kexit <| Ex.Rexit <| Ex.Bhit <| Ex.ret0 (.inr rfl) ?_ rfl
  have hfin : putB l6 (104 - up4 val.length) val = pxB l val := by subst hl6 hl5 hl4 hl3 hl2 hl1; rfl
  rw [hfin]
  exact fun w h => ⟨(), trivial, rfl, h.re⟩
end SL
end Go.Proofs.YtlmiekcmjpnobaaGreatDoor
namespace Go.Proofs.YtlmiekcmjpnobaaGreatDoor
open Go
namespace SL
set_option maxRecDepth 20000

section
variable {P : Program} {Ro : Heap} {m : Env} {H : Heap}
theorem Qt.mpeqNil {ty t t' kt vt : Nat} {x : Operand} (hx : ev m x = some (.map none) := by rfl) (h : MapT P t kt vt := by infer_instance) : Qt P (.binOp .eql t x (.const (.map none)) t') ty m H Ro (.bool true) := fun a w d ps af gd ha _ _ => by
  have h : ∀ d w, (Op.equalIn (d + 1) t (.map none) (.map none)).run P w = .ok true w := fun d w => by simp [Op.equalIn, h.und]
  simp only [execOp, ev_sound ha hx, ev_const, eqGuard, binOp, Sem.run_bind, Sem.run_pure, Result.andThen_ok, eqOp h, Bool.not_true, Bool.not_false, Bool.false_eq_true, ite_self]
  try rfl
end
variable {bW bD bN b o k c e p st nb bX capX eX bx bS bA cA eA eG bv ov n cv ev bF md size : Nat} {R Rv sp ptrs : List Value} {fr frA frG fv : Nat × Nat} {bs xs zs l val : List UInt8} {v vA : Value} {E EA : Chunk} {s : WS} {x : WI}
theorem writeXattrs0_q {a b' : Nat} (hx : x.xb = 0) : QSpec Tryz.prog 133 [Pt bW, Pt bN, Pt bS] [[(bN, IOb x)], [(bS, XS (.slice none 0 0) (.slice none 0 0) a b')]] .nilIface := by
  refine QSpec.of Tryz.func133 rfl Tryz.ntmps133 (by simp) fun w => ?_
  refine T.sr <| Rl.e Ef.bx1 fun b5 hb5 => Rl.q (Qt.as (v := .nilIface)) <| Rl.nilK <| ?_
  refine T.seq ?_
  refine T.sr <| Rl.q Qt.ld <| Rl.q Qt.nc <| Rl.q Qt.fa0 <| Rl.q Qt.ld <| Rl.q Qt.len <| Rl.q (Qt.neF (a := 0) (b := 0) (h := by decide)) <| Rl.nilK <| ?_
  refine T.condF ?_
  refine T.skip <| Ex.K <| ?_
  refine T.seq ?_
  refine T.sr <| Rl.q Qt.ld <| Rl.q Qt.nc <| Rl.q Qt.fa <| Rl.q Qt.ld <| Rl.q Qt.len <| Rl.q (Qt.neF (a := 0) (b := 0) (h := by decide)) <| Rl.q Qt.mv <| ?_
  refine Rl.gt <| Rl.q Qt.mv <| Rl.gt <| Rl.q Qt.nc <| Rl.gt <| Rl.q Qt.fa <| Rl.gt <| Rl.q (Qt.toN (c := 0) Qt.ld (hx)) <| ?_
  refine Rl.gt <| Rl.q (Qt.neF (a := 0) (b := 0) (h := by decide)) <| Rl.q Qt.pkF <| Rl.nilK <| ?_
  refine T.condF ?_
  refine T.skip <| Ex.K <| ?_
  refine T.sr <| Rl.q (Qt.as (v := .nilIface)) <| Rl.nilK <| ?_
  refine T.ret <| Ex.ret1 (.inl rfl) rfl ?_ rfl
  exact fun w h => ⟨rfl, h.grown⟩

def xinB (val : List UInt8) : List UInt8 := pxB (putB (List.replicate 104 0) 0 (leB 4 3925999616)) val
theorem xin0_length : (putB (List.replicate 104 0) 0 (leB 4 3925999616)).length = 104 := by rw [putB_length (by decide)]; decide
theorem xinB_length (h : val.length ≤ 76) : (xinB val).length = 104 := pxB_length xin0_length h
set_option maxHeartbeats 1000000 in
theorem writeXattrs1_s {a b' : Nat} (hx : x.xb = 0) (hv : RowB Rv ov val) (hvl : val.length = n) (hn : n ≤ 76) (hcv : n ≤ cv ∧ cv < 1000000) :
    Spec Tryz.prog 133 [Pt bW, Pt bN, Pt bS] [[(bS, XS (Sl bA 0 1 cA) (.slice none 0 0) a b')], [(bA, .cells (XA data4 7 (Sl bv ov n cv) ++ sp).toArray eA frA)], [(bv, .cells Rv.toArray ev fv)]] [[(bN, IOb x)]]
      (fun _ : Nat => True) (fun _ => .nilIface) (fun r => [[(bN, IOb { x with xin := Sl r 0 104 104 })], [(r, BO (xinB val) 5 (0, 0))]]) := by
  refine Spec.of Tryz.func133 rfl Tryz.ntmps133 (by simp) fun w => ?_
  refine T.sr <| Rl.e Ef.bx1 fun b5 hb5 => Rl.q (Qt.as (v := .nilIface)) <| Rl.nilK <| ?_
  refine T.seq ?_
  refine T.sr <| Rl.q Qt.ld <| Rl.q Qt.nc <| Rl.q Qt.fa0 <| Rl.q Qt.ld <| Rl.q Qt.len <| Rl.q (Qt.neT (a := 1) (b := 0) (h := by decide)) <| Rl.nilK <| ?_
  refine T.condT ?_
  refine T.sr <| Rl.q Qt.mv <| Rl.e (Ef.mk (k := 104) (c := 104)) fun b21 hb21 => Rl.q Qt.nc <| Rl.q Qt.fa <| Rl.e0 Ef.st1 fun _ _ => Rl.nilK <| ?_
  rw [mkBytes]
  refine T.sr <| Rl.q Qt.mv <| Rl.q Qt.nc <| Rl.q Qt.fa <| Rl.q Qt.ld <| Rl.q (Qt.to (u := Sl b21 0 104 104) (Qt.sl1 (cl := 0) (hb := by decide)) (rfl)) <| Rl.e (Ef.call (S := iput32_s (l := List.replicate 104 0) (by decide) (by decide) (by decide))) fun _ _ => Rl.nilK <| ?_
  refine T.dr [9] ?_ mixed
  refine Dr.qs [0, 1, 2, 3, 4, 5, 6, 7, 8] [] ?_
  refine Dq.q Qt.ld <| Dq.q Qt.nc <| Dq.q Qt.fa0 <| Dq.q Qt.ld <| Dq.q Qt.mv <| Dq.q Qt.nc <| Dq.q Qt.fa <| Dq.q Qt.ld <| ?_
  refine Dq.q (Qt.to (u := Sl b21 4 100 100) (Qt.sl1 (cl := 4) (hb := by decide)) (rfl)) <| Dq.nil <| ?_
  refine Dr.e 9 <| Eo.e rfl (Ef.call (S := putXattrs1_s (l := putB (List.replicate 104 0) 0 (leB 4 3925999616)) xin0_length hv hvl hn hcv)) fun _ _ => Dr.nil <| Ex.K <| ?_
  refine T.seq ?_
  refine T.sr <| Rl.q Qt.ld <| Rl.q Qt.nc <| Rl.q Qt.fa <| Rl.q Qt.ld <| Rl.q Qt.len <| Rl.q (Qt.neF (a := 0) (b := 0) (h := by decide)) <| Rl.q Qt.mv <| ?_
  refine Rl.gt <| Rl.q Qt.mv <| Rl.gt <| Rl.q Qt.nc <| Rl.gt <| Rl.q Qt.fa <| Rl.gt <| Rl.q (Qt.toN (c := 0) Qt.ld (hx)) <| ?_
  refine Rl.gt <| Rl.q (Qt.neF (a := 0) (b := 0) (h := by decide)) <| Rl.q Qt.pkF <| Rl.nilK <| ?_
  refine T.condF ?_
  refine T.skip <| Ex.K <| ?_
  refine T.sr <| Rl.q (Qt.as (v := .nilIface)) <| Rl.nilK <| ?_
  refine T.ret <| Ex.ret1 (.inl rfl) rfl ?_ rfl
  exact fun w h => ⟨b21, trivial, rfl, h.re⟩

abbrev FC (size md : Nat) (xm : Value) : List Value := [SV [], N .i64 size, N .u16 md, N .u32 0, N .u32 0, .bool false, N .i64 0, N .i64 0, .bool false, N .i64 0, N .i64 0, .bool false, N .i64 0, N .i64 0, .bool false, N .i64 0, N .i64 0, N .u32 0, N .u32 0, xm]
abbrev FO (size md : Nat) : Obj := .cells (FC size md (.map none)).toArray 165 (0, 0)
theorem mok0 : MOk [] 0 := ⟨by simp, by simp, by simp⟩
abbrev mkI (num mode size links flags : Nat) (data xin kids : Value) : WI := ⟨size, 0, 0, 0, 0, num, mode, 0, 0, links, 0, 0, 0, 0, flags, data, xin, kids⟩
set_option maxHeartbeats 2000000 in
theorem makeDir_s (hm : md < 65536) (hd : md &&& 61440 = 16384) (hs : s.inodes = vA) (own : Own 156 1 vA k ptrs EA) (hk : k < 1000000) :
    Spec Tryz.prog 84 [Pt bW, Pt bF, .pointer none] [] [[(bW, WO s)], [(bF, FO 0 md)], EA]
      (fun r : (Nat × Nat) × (Value × Chunk) => Own 156 1 r.2.1 (k + 1) (ptrs ++ [Pt r.1.1]) r.2.2) (fun r => .tuple #[Pt r.1.1, .nilIface])
      (fun r => [[(bW, WO { s with inodes := r.2.1 })], r.2.2, [(r.1.1, IOb (mkI (k + 1) md 0 1 262144 (.slice none 0 0) (.slice none 0 0) (.map (some r.1.2))))], [(r.1.2, .map (mE []) 0)]]) := by
  refine Spec.of Tryz.func84 rfl Tryz.ntmps84 (by simp) fun w => ?_
  obtain ⟨p0, c0, hvf⟩ := own.form
  have hs2 : s.inodes = .slice p0 k c0 := by rw [hs, hvf]
  refine T.sr <| Rl.q (Qt.as (v := .pointer none)) <| Rl.q (Qt.as (v := .nilIface)) <| Rl.nilK <| ?_
  refine T.sr <| Rl.q Qt.mv <| Rl.q Qt.nc <| Rl.q Qt.fa <| Rl.q Qt.ld <| Rl.q Qt.as <| Rl.nilK <| ?_
  refine T.seq ?_
  refine T.sr <| Rl.q Qt.mv <| Rl.q (Qt.toN (c := 16384) (Qt.and (b := 61440) (h := ⟨by simp only [lim]; omega, by decide⟩)) (hd)) <| Rl.q (Qt.eqF (a := 16384) (b := 0) (h := by decide)) <| Rl.nilK <| ?_
  refine T.condF ?_
  refine T.skip <| Ex.K <| ?_
  refine T.sr <| Rl.q Qt.mv <| Rl.q (Qt.toN (c := 16384) (Qt.and (b := 61440) (h := ⟨by simp only [lim]; omega, by decide⟩)) (hd)) <| Rl.q Qt.as <| Rl.nilK <| ?_
  refine T.sr <| Rl.q Qt.mv <| Rl.q Qt.nc <| Rl.q Qt.fa <| Rl.q (Qt.to (u := .slice p0 k c0) Qt.ld (hs2)) <| Rl.q Qt.len <| Rl.q (Qt.add (b := 1)) <| Rl.q Qt.cv <| ?_
  refine Rl.q Qt.as <| Rl.nilK <| ?_
  refine T.seq ?_
  refine T.sr <| Rl.q Qt.mv <| Rl.q Qt.peqNil <| Rl.nilK <| ?_
  refine T.condT ?_
  refine T.sr <| Rl.q Qt.mv <| Rl.q Qt.bdN <| Rl.e Ef.bxA fun b51 hb51 => Rl.q Qt.as <| Rl.nilK <| ?_
  refine T.sr <| Rl.q Qt.mv <| Rl.q (Qt.eqT (a := 16384) (b := 16384) (h := by decide)) <| Rl.nilK <| ?_
  refine T.condT ?_
  refine T.sr <| Rl.q Qt.mv <| Rl.e Ef.mm fun b55 hb55 => Rl.q Qt.nc <| Rl.q Qt.fa <| Rl.e0 Ef.st1 fun _ _ => Rl.nilK <| ?_
  refine T.region <| Rl.q Qt.mv <| Rl.q Qt.nc <| Rl.q Qt.fa <| Rl.e0 (Ef.st1 (v := N .u32 1)) fun _ _ => Rl.nil <| Ex.K <| ?_
  refine T.sr <| Rl.q Qt.mv <| Rl.q Qt.mv <| Rl.q Qt.nc <| Rl.q Qt.fa <| Rl.e0 Ef.st1 fun _ _ => Rl.nilK <| ?_
  refine T.sr <| Rl.q Qt.mv <| Rl.q Qt.mv <| Rl.q Qt.nc <| Rl.q Qt.fa <| Rl.q Qt.ld <| Rl.q Qt.nc <| Rl.q Qt.fa <| ?_
  refine Rl.e0 Ef.st1 fun _ _ => Rl.nilK <| ?_
  refine T.sr <| Rl.q Qt.mv <| Rl.q Qt.mv <| Rl.q Qt.nc <| Rl.q Qt.fa <| Rl.q Qt.ld <| Rl.q Qt.nc <| Rl.q Qt.fa <| ?_
  refine Rl.e0 Ef.st1 fun _ _ => Rl.nilK <| ?_
  refine T.sr <| Rl.q Qt.mv <| Rl.q Qt.nc <| Rl.q Qt.fa <| Rl.e0 (Ef.st1 (v := N .u32 262144)) fun _ _ => Rl.nilK <| ?_
  refine T.sr <| Rl.q Qt.mv <| Rl.q Qt.mv <| Rl.q Qt.nc <| Rl.q Qt.fa <| Rl.q Qt.ldA <| Rl.e (Ef.qcall (S := timeFs0_q)) fun _ _ => Rl.q Qt.nc <| ?_
  refine Rl.q Qt.fa <| Rl.e0 Ef.st1 fun _ _ => Rl.nilK <| ?_
  refine T.sr <| Rl.q Qt.mv <| Rl.q Qt.mv <| Rl.q Qt.nc <| Rl.q Qt.fa <| Rl.q Qt.ldA <| Rl.e (Ef.qcall (S := timeFs0_q)) fun _ _ => Rl.q Qt.nc <| ?_
  refine Rl.q Qt.fa <| Rl.e0 Ef.st1 fun _ _ => Rl.nilK <| ?_
  refine T.sr <| Rl.q Qt.mv <| Rl.q Qt.mv <| Rl.q Qt.nc <| Rl.q Qt.fa <| Rl.q Qt.ldA <| Rl.e (Ef.qcall (S := timeFs0_q)) fun _ _ => Rl.q Qt.nc <| ?_
  refine Rl.q Qt.fa <| Rl.e0 Ef.st1 fun _ _ => Rl.nilK <| ?_
  refine T.sr <| Rl.q Qt.mv <| Rl.q Qt.mv <| Rl.q Qt.nc <| Rl.q Qt.fa <| Rl.q Qt.ldA <| Rl.e (Ef.qcall (S := timeFs0_q)) fun _ _ => Rl.q Qt.nc <| ?_
  refine Rl.q Qt.fa <| Rl.e0 Ef.st1 fun _ _ => Rl.nilK <| ?_
  refine T.sr <| Rl.q Qt.mv <| Rl.q Qt.mv <| Rl.q Qt.nc <| Rl.q Qt.fa <| Rl.q Qt.ld <| Rl.q Qt.nc <| Rl.q Qt.fa <| ?_
  refine Rl.e0 Ef.st1 fun _ _ => Rl.nilK <| ?_
  refine T.sr <| Rl.q Qt.mv <| Rl.q Qt.mv <| Rl.q Qt.nc <| Rl.q Qt.fa <| Rl.q Qt.ld <| Rl.q Qt.nc <| Rl.q Qt.fa <| ?_
  refine Rl.e0 Ef.st1 fun _ _ => Rl.nilK <| ?_
  refine T.sr <| Rl.q Qt.mv <| Rl.q Qt.nc <| Rl.q Qt.fa <| Rl.e0 (Ef.st1 (v := .slice none 0 0)) fun _ _ => Rl.nilK <| ?_
  refine T.seq ?_
  refine T.sr <| Rl.q Qt.mv <| Rl.q Qt.nc <| Rl.q Qt.fa <| Rl.q Qt.ld <| Rl.q Qt.mpeqNil <| Rl.nilK <| ?_
  refine T.condT ?_
  refine T.region <| Rl.q Qt.mv <| Rl.e Ef.mm fun b144 hb144 => Rl.q Qt.nc <| Rl.q Qt.fa <| Rl.e0 Ef.st1 fun _ _ => Rl.nil <| Ex.K <| ?_
  refine T.sr <| Rl.e Ef.mm fun b147 hb147 => Rl.q Qt.as <| Rl.nilK <| ?_
  refine T.seq ?_
  refine T.sr <| Rl.q Qt.mv <| Rl.q Qt.nc <| Rl.q Qt.fa <| Rl.q Qt.ld <| Rl.q Qt.len <| Rl.q (Qt.gtF (a := 0) (b := 0) (h := by decide)) <| Rl.nilK <| ?_
  refine T.condF ?_
  refine T.skip <| Ex.K <| ?_
  refine T.sr <| Rl.q Qt.mv <| Rl.q Qt.nc <| Rl.q Qt.fa <| Rl.e0 (Ef.st1 (v := .slice none 0 0)) fun _ _ => Rl.nilK <| ?_
  refine T.sr <| Rl.e Ef.alA fun b12 hb12 => Rl.nilK <| ?_
  refine T.sr <| Rl.e (Ef.call (S := xinit_s)) fun _ _ => Rl.nilK <| ?_
  refine T.sr <| Rl.q (Qt.as (v := N .i64 0)) <| Rl.nilK <| ?_
  refine T.seq ?_
  refine T.sr <| Rl.q Qt.mv <| Rl.nilK <| ?_
  refine T.block ?_
  refine T.sr <| Rl.q (Qt.eqF (a := 16384) (b := 32768) (h := by decide)) <| Rl.q Qt.as <| Rl.nilK <| ?_
  refine T.condF ?_
  refine T.sr <| Rl.q (Qt.eqF (a := 16384) (b := 40960) (h := by decide)) <| Rl.q Qt.as <| Rl.nilK <| ?_
  refine T.condF ?_
  refine T.seq ?_
  refine T.sr <| Rl.q (Qt.eqT (a := 16384) (b := 16384) (h := by decide)) <| Rl.q Qt.as <| Rl.nilK <| ?_
  refine T.condT ?_
  refine T.skip <| Ex.K <| ?_
  refine T.condT ?_
  refine T.skip <| Ex.Bnormal <| Ex.K <| ?_
  refine T.seq ?_
  refine T.sr <| Rl.q Qt.mv <| Rl.e Ef.rg fun b265 hb265 => Rl.nilK <| ?_
  refine T.block ?_
  refine T.rounds 0 ?_
  refine T.sr <| Rl.nx mok0 (sn := []) (by simp) (fun e he hn => ?_) (fun hall => ?_)
  · exact absurd he (by simp)
  · refine Rl.q Qt.ex <| Rl.nilK <| ?_
    refine T.seq ?_
    refine T.condF ?_
    refine T.exit <| Ex.Kexit <| Ex.Rexit <| Ex.Bhit <| Ex.K <| ?_
    refine T.seq ?_
    refine T.sr <| Rl.q Qt.mv <| Rl.q Qt.nc <| Rl.q Qt.fa <| Rl.q Qt.ld <| Rl.q Qt.lenM <| Rl.q (Qt.neF (a := 0) (b := 0) (h := by decide)) <| Rl.nilK <| ?_
    refine T.condF ?_
    refine T.skip <| Ex.K <| ?_
    refine T.seq ?_
    refine T.sr <| Rl.q Qt.mv <| Rl.q Qt.mv <| Rl.e (Ef.qcall (S := writeXattrs0_q (x := mkI (k + 1) md 0 1 262144 (.slice none 0 0) (.slice none 0 0) (.map (some b55))) rfl)) fun _ _ => Rl.q Qt.as <| Rl.nilK <| ?_
    refine T.sr <| Rl.q Qt.mv <| Rl.q Qt.ineNil <| Rl.nilK <| ?_
    refine T.condF ?_
    refine T.skip <| Ex.K <| ?_
    refine T.sr <| Rl.q Qt.mv <| Rl.q Qt.mv <| Rl.q Qt.nc <| Rl.q Qt.fa0 <| Rl.e0 Ef.st1 fun _ _ => Rl.nilK <| ?_
    refine T.seq ?_
    refine T.sr <| Rl.q Qt.mv <| Rl.q (Qt.eqF (a := 16384) (b := 40960) (h := by decide)) <| Rl.q Qt.mv <| Rl.gf <| Rl.gf <| Rl.q (Qt.pkF (v := .bool false)) <| Rl.nilK <| ?_
    refine T.condF ?_
    refine T.skip <| Ex.K <| ?_
    refine T.seq ?_
    refine T.sdr [] ?_ mixed
    refine Dr.qs [0, 1, 2, 3, 4, 5, 6, 7, 8, 9, 10, 11] [] ?_
    refine Dq.q Qt.mv <| Dq.q Qt.nc <| Dq.q Qt.fa <| Dq.q Qt.ld <| Dq.q (Qt.toN (c := k) (Qt.sub (b := 1)) (Nat.add_sub_cancel ..)) <| Dq.q Qt.cv <| Dq.q Qt.mv <| Dq.q Qt.nc <| ?_
    refine Dq.q Qt.fa <| Dq.q (Qt.to (u := .slice p0 k c0) Qt.ld (hs2)) <| Dq.q Qt.len <| Dq.q Qt.geT <| Dq.nil <| Dr.nilK <| ?_
    refine T.condT ?_
    refine T.region <| Rl.q Qt.mv <| Rl.q Qt.mv <| Rl.q Qt.nc <| Rl.q Qt.fa <| Rl.q (Qt.to (u := vA) Qt.ld (hs)) <| Rl.q Qt.mv <| Rl.e Ef.bs fun b419 hb419 => ?_
    refine Rl.e (Ef.ap (own := own) (vs := [Pt b51])) fun v420 hv420 => Rl.q Qt.nc <| Rl.q Qt.fa <| Rl.e0 Ef.st1 fun _ _ => Rl.nil <| Ex.K <| ?_
    refine T.sr <| Rl.q Qt.mv <| Rl.q Qt.as <| Rl.q (Qt.as (v := .nilIface)) <| Rl.nilK <| ?_
    refine T.ret <| Ex.ret2 (.inl rfl) rfl rfl ?_ rfl
    exact fun w h => ⟨((b51, b55), (v420.1, v420.2)), hv420, rfl, h.re⟩
end SL
end Go.Proofs.YtlmiekcmjpnobaaGreatDoor
namespace Go.Proofs.YtlmiekcmjpnobaaGreatDoor
open Go
namespace SL
set_option maxRecDepth 20000

variable {bW bD bN b o k c e p st nb bX capX eX bx bS bA cA eA eG bv ov n cv ev bF md size : Nat} {R Rv sp ptrs : List Value} {fr frA frG fv : Nat × Nat} {bs xs zs l val : List UInt8} {v vA : Value} {E EA : Chunk} {s : WS} {x : WI}

set_option maxHeartbeats 2000000 in
theorem makeReg_s (hs : s.inodes = vA) (own : Own 156 1 vA k ptrs EA) (hk : k < 1000000) (hni : ¬ (size ≤ 136 ∧ s.inl = true)) (hsz : size ≤ 1048576) :
    Spec Tryz.prog 84 [Pt bW, Pt bF, .pointer none] [] [[(bW, WO s)], [(bF, FO size 0)], EA]
      (fun r : (Nat × Nat) × (Value × Chunk) => Own 156 1 r.2.1 (k + 1) (ptrs ++ [Pt r.1.1]) r.2.2) (fun r => .tuple #[Pt r.1.1, .nilIface])
      (fun r => [[(bW, WO { s with inodes := r.2.1 })], r.2.2, [(r.1.1, IOb (mkI (k + 1) 32768 size 0 262144 (.slice none 0 0) (.slice none 0 0) (.map none)))], [(bF, .cells (FC size 0 (.map (some r.1.2))).toArray 165 (0, 0))]]) := by
  refine Spec.of Tryz.func84 rfl Tryz.ntmps84 (by simp) fun w => ?_
  obtain ⟨p0, c0, hvf⟩ := own.form
  have hs2 : s.inodes = .slice p0 k c0 := by rw [hs, hvf]
  refine T.sr <| Rl.q (Qt.as (v := .pointer none)) <| Rl.q (Qt.as (v := .nilIface)) <| Rl.nilK <| ?_
  refine T.sr <| Rl.q Qt.mv <| Rl.q Qt.nc <| Rl.q Qt.fa <| Rl.q Qt.ld <| Rl.q Qt.as <| Rl.nilK <| ?_
  refine T.seq ?_
  refine T.sr <| Rl.q Qt.mv <| Rl.q (Qt.toN (c := 0) (Qt.and (a := 0) (b := 61440) (h := by decide)) rfl) <| Rl.q (Qt.eqT (a := 0) (b := 0) (h := by decide)) <| Rl.nilK <| ?_
  refine T.condT ?_
  refine T.region <| Rl.q Qt.mv <| Rl.q (Qt.toN (c := 32768) (Qt.or (a := 0) (b := 32768) (h := by decide)) rfl) <| Rl.q Qt.as <| Rl.nil <| Ex.K <| ?_
  refine T.sr <| Rl.q Qt.mv <| Rl.q (Qt.toN (c := 32768) (Qt.and (a := 32768) (b := 61440) (h := by decide)) rfl) <| Rl.q Qt.as <| Rl.nilK <| ?_
  refine T.sr <| Rl.q Qt.mv <| Rl.q Qt.nc <| Rl.q Qt.fa <| Rl.q (Qt.to (u := .slice p0 k c0) Qt.ld (hs2)) <| Rl.q Qt.len <| Rl.q (Qt.add (b := 1)) <| Rl.q Qt.cv <| ?_
  refine Rl.q Qt.as <| Rl.nilK <| ?_
  refine T.seq ?_
  refine T.sr <| Rl.q Qt.mv <| Rl.q Qt.peqNil <| Rl.nilK <| ?_
  refine T.condT ?_
  refine T.sr <| Rl.q Qt.mv <| Rl.q Qt.bdN <| Rl.e Ef.bxA fun b51 hb51 => Rl.q Qt.as <| Rl.nilK <| ?_
  refine T.sr <| Rl.q Qt.mv <| Rl.q (Qt.eqF (a := 32768) (b := 16384) (h := by decide)) <| Rl.nilK <| ?_
  refine T.condF ?_
  refine T.skip <| Ex.K <| ?_
  refine T.sr <| Rl.q Qt.mv <| Rl.q Qt.mv <| Rl.q Qt.nc <| Rl.q Qt.fa <| Rl.e0 Ef.st1 fun _ _ => Rl.nilK <| ?_
  refine T.sr <| Rl.q Qt.mv <| Rl.q Qt.mv <| Rl.q Qt.nc <| Rl.q Qt.fa <| Rl.q Qt.ld <| Rl.q Qt.nc <| Rl.q Qt.fa <| ?_
  refine Rl.e0 Ef.st1 fun _ _ => Rl.nilK <| ?_
  refine T.sr <| Rl.q Qt.mv <| Rl.q Qt.mv <| Rl.q Qt.nc <| Rl.q Qt.fa <| Rl.q Qt.ld <| Rl.q Qt.nc <| Rl.q Qt.fa <| ?_
  refine Rl.e0 Ef.st1 fun _ _ => Rl.nilK <| ?_
  refine T.sr <| Rl.q Qt.mv <| Rl.q Qt.nc <| Rl.q Qt.fa <| Rl.e0 (Ef.st1 (v := N .u32 262144)) fun _ _ => Rl.nilK <| ?_
  refine T.sr <| Rl.q Qt.mv <| Rl.q Qt.mv <| Rl.q Qt.nc <| Rl.q Qt.fa <| Rl.q Qt.ldA <| Rl.e (Ef.qcall (S := timeFs0_q)) fun _ _ => Rl.q Qt.nc <| ?_
  refine Rl.q Qt.fa <| Rl.e0 Ef.st1 fun _ _ => Rl.nilK <| ?_
  refine T.sr <| Rl.q Qt.mv <| Rl.q Qt.mv <| Rl.q Qt.nc <| Rl.q Qt.fa <| Rl.q Qt.ldA <| Rl.e (Ef.qcall (S := timeFs0_q)) fun _ _ => Rl.q Qt.nc <| ?_
  refine Rl.q Qt.fa <| Rl.e0 Ef.st1 fun _ _ => Rl.nilK <| ?_
  refine T.sr <| Rl.q Qt.mv <| Rl.q Qt.mv <| Rl.q Qt.nc <| Rl.q Qt.fa <| Rl.q Qt.ldA <| Rl.e (Ef.qcall (S := timeFs0_q)) fun _ _ => Rl.q Qt.nc <| ?_
  refine Rl.q Qt.fa <| Rl.e0 Ef.st1 fun _ _ => Rl.nilK <| ?_
  refine T.sr <| Rl.q Qt.mv <| Rl.q Qt.mv <| Rl.q Qt.nc <| Rl.q Qt.fa <| Rl.q Qt.ldA <| Rl.e (Ef.qcall (S := timeFs0_q)) fun _ _ => Rl.q Qt.nc <| ?_
  refine Rl.q Qt.fa <| Rl.e0 Ef.st1 fun _ _ => Rl.nilK <| ?_
  refine T.sr <| Rl.q Qt.mv <| Rl.q Qt.mv <| Rl.q Qt.nc <| Rl.q Qt.fa <| Rl.q Qt.ld <| Rl.q Qt.nc <| Rl.q Qt.fa <| ?_
  refine Rl.e0 Ef.st1 fun _ _ => Rl.nilK <| ?_
  refine T.sr <| Rl.q Qt.mv <| Rl.q Qt.mv <| Rl.q Qt.nc <| Rl.q Qt.fa <| Rl.q Qt.ld <| Rl.q Qt.nc <| Rl.q Qt.fa <| ?_
  refine Rl.e0 Ef.st1 fun _ _ => Rl.nilK <| ?_
  refine T.sr <| Rl.q Qt.mv <| Rl.q Qt.nc <| Rl.q Qt.fa <| Rl.e0 (Ef.st1 (v := .slice none 0 0)) fun _ _ => Rl.nilK <| ?_
  refine T.seq ?_
  refine T.sr <| Rl.q Qt.mv <| Rl.q Qt.nc <| Rl.q Qt.fa <| Rl.q Qt.ld <| Rl.q Qt.mpeqNil <| Rl.nilK <| ?_
  refine T.condT ?_
  refine T.region <| Rl.q Qt.mv <| Rl.e Ef.mm fun b144 hb144 => Rl.q Qt.nc <| Rl.q Qt.fa <| Rl.e0 Ef.st1 fun _ _ => Rl.nil <| Ex.K <| ?_
  refine T.sr <| Rl.e Ef.mm fun b147 hb147 => Rl.q Qt.as <| Rl.nilK <| ?_
  refine T.seq ?_
  refine T.sr <| Rl.q Qt.mv <| Rl.q Qt.nc <| Rl.q Qt.fa <| Rl.q Qt.ld <| Rl.q Qt.len <| Rl.q (Qt.gtF (a := 0) (b := 0) (h := by decide)) <| Rl.nilK <| ?_
  refine T.condF ?_
  refine T.skip <| Ex.K <| ?_
  refine T.sr <| Rl.q Qt.mv <| Rl.q Qt.nc <| Rl.q Qt.fa <| Rl.e0 (Ef.st1 (v := .slice none 0 0)) fun _ _ => Rl.nilK <| ?_
  refine T.sr <| Rl.e Ef.alA fun b12 hb12 => Rl.nilK <| ?_
  refine T.sr <| Rl.e (Ef.call (S := xinit_s)) fun _ _ => Rl.nilK <| ?_
  refine T.sr <| Rl.q (Qt.as (v := N .i64 0)) <| Rl.nilK <| ?_
  refine T.join (α := Unit) (fun _u => [(0, Pt bW), (1, Pt bF), (2, Pt b51), (9, N .u16 32768), (11, .map (some b147)), (12, Pt b12), (13, N .i64 size)]) (fun _u => [[(b12, XS (.slice none 0 0) (.slice none 0 0) 96 4060)], [(b147, .map (mE []) 0)], [(b144, .map (mE []) 0)], [(b51, IOb (mkI (k + 1) 32768 0 0 262144 (.slice none 0 0) (.slice none 0 0) (.map none)))], [(bW, WO s)], [(bF, .cells (FC size 0 (.map (some b144))).toArray 165 (0, 0))], EA]) (fun _u => True) ?_ fun _ _ => ?_
  · refine T.sr <| Rl.q Qt.mv <| Rl.nilK <| ?_
    refine T.block ?_
    refine T.sr <| Rl.q (Qt.eqT (a := 32768) (b := 32768) (h := by decide)) <| Rl.q Qt.as <| Rl.nilK <| ?_
    refine T.condT ?_
    refine T.sr <| Rl.q Qt.mv <| Rl.q Qt.nc <| Rl.q Qt.fa <| Rl.q Qt.ld <| Rl.q Qt.as <| Rl.nilK <| ?_
    refine T.seq ?_
    refine T.sr <| Rl.q Qt.mv <| Rl.q Qt.nc <| Rl.q Qt.fa <| Rl.q Qt.ld <| Rl.q (Qt.gtF (b := 137438953472)) <| Rl.nilK <| ?_
    refine T.condF ?_
    refine T.skip <| Ex.K <| ?_
    refine T.sr <| Rl.q Qt.mv <| Rl.q Qt.nc <| Rl.q Qt.fa <| Rl.q Qt.ld <| Rl.leS (b := 136) (fun h183 => ?_) (fun h183 => ?_)
    · refine Rl.q Qt.mv <| ?_
      have hinl : s.inl = false := by
        cases h : s.inl with
        | false => rfl
        | true => exact absurd ⟨h183, h⟩ hni
      refine Rl.gt <| Rl.q Qt.mv <| Rl.gt <| Rl.q Qt.nc <| Rl.gt <| Rl.q Qt.fa <| Rl.gt <| Rl.q (Qt.to (u := .bool false) Qt.ld (by rw [hinl])) <| ?_
      refine Rl.q Qt.pkT <| Rl.nilK <| ?_
      refine T.condF ?_
      refine T.skip <| Ex.Bnormal <| ?_
      exact Ex.join () trivial (.cons rfl <| .cons rfl <| .cons rfl <| .cons rfl <| .cons rfl <| .cons rfl <| .cons rfl <| .nil)
    · refine Rl.q Qt.mv <| Rl.gf <| Rl.gf <| Rl.gf <| Rl.gf <| Rl.q (Qt.pkF (v := .bool false)) <| Rl.nilK <| ?_
      refine T.condF ?_
      refine T.skip <| Ex.Bnormal <| ?_
      exact Ex.join () trivial (.cons rfl <| .cons rfl <| .cons rfl <| .cons rfl <| .cons rfl <| .cons rfl <| .cons rfl <| .nil)
  · refine T.seq ?_
    refine T.sr <| Rl.q Qt.mv <| Rl.e Ef.rg fun b265 hb265 => Rl.nilK <| ?_
    refine T.block ?_
    refine T.rounds 0 ?_
    refine T.sr <| Rl.nx mok0 (sn := []) (by simp) (fun e he hn => ?_) (fun hall => ?_)
    · exact absurd he (by simp)
    · refine Rl.q Qt.ex <| Rl.nilK <| ?_
      refine T.seq ?_
      refine T.condF ?_
      refine T.exit <| Ex.Kexit <| Ex.Rexit <| Ex.Bhit <| Ex.K <| ?_
      refine T.seq ?_
      refine T.sr <| Rl.q Qt.mv <| Rl.q Qt.nc <| Rl.q Qt.fa <| Rl.q Qt.ld <| Rl.q Qt.lenM <| Rl.q (Qt.neF (a := 0) (b := 0) (h := by decide)) <| Rl.nilK <| ?_
      refine T.condF ?_
      refine T.skip <| Ex.K <| ?_
      refine T.seq ?_
      refine T.sr <| Rl.q Qt.mv <| Rl.q Qt.mv <| Rl.e (Ef.qcall (S := writeXattrs0_q (x := mkI (k + 1) 32768 0 0 262144 (.slice none 0 0) (.slice none 0 0) (.map none)) rfl)) fun _ _ => Rl.q Qt.as <| Rl.nilK <| ?_
      refine T.sr <| Rl.q Qt.mv <| Rl.q Qt.ineNil <| Rl.nilK <| ?_
      refine T.condF ?_
      refine T.skip <| Ex.K <| ?_
      refine T.sr <| Rl.q Qt.mv <| Rl.q Qt.mv <| Rl.q Qt.nc <| Rl.q Qt.fa0 <| Rl.e0 Ef.st1 fun _ _ => Rl.nilK <| ?_
      refine T.seq ?_
      refine T.sr <| Rl.q Qt.mv <| Rl.q (Qt.eqF (a := 32768) (b := 40960) (h := by decide)) <| Rl.q Qt.mv <| Rl.gf <| Rl.gf <| Rl.q (Qt.pkF (v := .bool false)) <| Rl.nilK <| ?_
      refine T.condF ?_
      refine T.skip <| Ex.K <| ?_
      refine T.seq ?_
      refine T.sdr [] ?_ mixed
      refine Dr.qs [0, 1, 2, 3, 4, 5, 6, 7, 8, 9, 10, 11] [] ?_
      refine Dq.q Qt.mv <| Dq.q Qt.nc <| Dq.q Qt.fa <| Dq.q Qt.ld <| Dq.q (Qt.toN (c := k) (Qt.sub (b := 1)) (Nat.add_sub_cancel ..)) <| Dq.q Qt.cv <| Dq.q Qt.mv <| Dq.q Qt.nc <| ?_
      refine Dq.q Qt.fa <| Dq.q (Qt.to (u := .slice p0 k c0) Qt.ld (hs2)) <| Dq.q Qt.len <| Dq.q Qt.geT <| Dq.nil <| Dr.nilK <| ?_
      refine T.condT ?_
      refine T.region <| Rl.q Qt.mv <| Rl.q Qt.mv <| Rl.q Qt.nc <| Rl.q Qt.fa <| Rl.q (Qt.to (u := vA) Qt.ld (hs)) <| Rl.q Qt.mv <| Rl.e Ef.bs fun b419 hb419 => ?_
      refine Rl.e (Ef.ap (own := own) (vs := [Pt b51])) fun v420 hv420 => Rl.q Qt.nc <| Rl.q Qt.fa <| Rl.e0 Ef.st1 fun _ _ => Rl.nil <| Ex.K <| ?_
      refine T.sr <| Rl.q Qt.mv <| Rl.q Qt.as <| Rl.q (Qt.as (v := .nilIface)) <| Rl.nilK <| ?_
      refine T.ret <| Ex.ret2 (.inl rfl) rfl rfl ?_ rfl
      exact fun w h => ⟨((b51, b144), (v420.1, v420.2)), hv420, rfl, h.re⟩

set_option maxHeartbeats 2000000 in
theorem makeRegInl_s (hs : s.inodes = vA) (own : Own 156 1 vA k ptrs EA) (hk : k < 1000000) (hinl : s.inl = true) (hsz : size ≤ 136) :
    Spec Tryz.prog 84 [Pt bW, Pt bF, .pointer none] [[(0, GPO eG frG)]] [[(bW, WO s)], [(bF, FO size 0)], EA]
      (fun r : (Nat × Nat × Nat × Nat) × (Value × Chunk) => Own 156 1 r.2.1 (k + 1) (ptrs ++ [Pt r.1.1]) r.2.2) (fun r => .tuple #[Pt r.1.1, .nilIface])
      (fun r => [[(bW, WO { s with inodes := r.2.1 })], r.2.2, [(r.1.1, IOb (mkI (k + 1) 32768 size 0 268697600 (Sl r.1.2.1 0 size size) (Sl r.1.2.2.1 0 104 104) (.map none)))], [(bF, .cells (FC size 0 (.map (some r.1.2.2.2))).toArray 165 (0, 0))], [(r.1.2.1, BO (List.replicate size 0) 5 (0, 0))], [(r.1.2.2.1, BO (xinB (List.replicate (size - 60) 0)) 5 (0, 0))]]) := by
  refine Spec.of Tryz.func84 rfl Tryz.ntmps84 (by simp) fun w => ?_
  obtain ⟨p0, c0, hvf⟩ := own.form
  have hs2 : s.inodes = .slice p0 k c0 := by rw [hs, hvf]
  refine T.sr <| Rl.q (Qt.as (v := .pointer none)) <| Rl.q (Qt.as (v := .nilIface)) <| Rl.nilK <| ?_
  refine T.sr <| Rl.q Qt.mv <| Rl.q Qt.nc <| Rl.q Qt.fa <| Rl.q Qt.ld <| Rl.q Qt.as <| Rl.nilK <| ?_
  refine T.seq ?_
  refine T.sr <| Rl.q Qt.mv <| Rl.q (Qt.toN (c := 0) (Qt.and (a := 0) (b := 61440) (h := by decide)) rfl) <| Rl.q (Qt.eqT (a := 0) (b := 0) (h := by decide)) <| Rl.nilK <| ?_
  refine T.condT ?_
  refine T.region <| Rl.q Qt.mv <| Rl.q (Qt.toN (c := 32768) (Qt.or (a := 0) (b := 32768) (h := by decide)) rfl) <| Rl.q Qt.as <| Rl.nil <| Ex.K <| ?_
  refine T.sr <| Rl.q Qt.mv <| Rl.q (Qt.toN (c := 32768) (Qt.and (a := 32768) (b := 61440) (h := by decide)) rfl) <| Rl.q Qt.as <| Rl.nilK <| ?_
  refine T.sr <| Rl.q Qt.mv <| Rl.q Qt.nc <| Rl.q Qt.fa <| Rl.q (Qt.to (u := .slice p0 k c0) Qt.ld (hs2)) <| Rl.q Qt.len <| Rl.q (Qt.add (b := 1)) <| Rl.q Qt.cv <| ?_
  refine Rl.q Qt.as <| Rl.nilK <| ?_
  refine T.seq ?_
  refine T.sr <| Rl.q Qt.mv <| Rl.q Qt.peqNil <| Rl.nilK <| ?_
  refine T.condT ?_
  refine T.sr <| Rl.q Qt.mv <| Rl.q Qt.bdN <| Rl.e Ef.bxA fun b51 hb51 => Rl.q Qt.as <| Rl.nilK <| ?_
  refine T.sr <| Rl.q Qt.mv <| Rl.q (Qt.eqF (a := 32768) (b := 16384) (h := by decide)) <| Rl.nilK <| ?_
  refine T.condF ?_
  refine T.skip <| Ex.K <| ?_
  refine T.sr <| Rl.q Qt.mv <| Rl.q Qt.mv <| Rl.q Qt.nc <| Rl.q Qt.fa <| Rl.e0 Ef.st1 fun _ _ => Rl.nilK <| ?_
  refine T.sr <| Rl.q Qt.mv <| Rl.q Qt.mv <| Rl.q Qt.nc <| Rl.q Qt.fa <| Rl.q Qt.ld <| Rl.q Qt.nc <| Rl.q Qt.fa <| ?_
  refine Rl.e0 Ef.st1 fun _ _ => Rl.nilK <| ?_
  refine T.sr <| Rl.q Qt.mv <| Rl.q Qt.mv <| Rl.q Qt.nc <| Rl.q Qt.fa <| Rl.q Qt.ld <| Rl.q Qt.nc <| Rl.q Qt.fa <| ?_
  refine Rl.e0 Ef.st1 fun _ _ => Rl.nilK <| ?_
  refine T.sr <| Rl.q Qt.mv <| Rl.q Qt.nc <| Rl.q Qt.fa <| Rl.e0 (Ef.st1 (v := N .u32 262144)) fun _ _ => Rl.nilK <| ?_
  refine T.sr <| Rl.q Qt.mv <| Rl.q Qt.mv <| Rl.q Qt.nc <| Rl.q Qt.fa <| Rl.q Qt.ldA <| Rl.e (Ef.qcall (S := timeFs0_q)) fun _ _ => Rl.q Qt.nc <| ?_
  refine Rl.q Qt.fa <| Rl.e0 Ef.st1 fun _ _ => Rl.nilK <| ?_
  refine T.sr <| Rl.q Qt.mv <| Rl.q Qt.mv <| Rl.q Qt.nc <| Rl.q Qt.fa <| Rl.q Qt.ldA <| Rl.e (Ef.qcall (S := timeFs0_q)) fun _ _ => Rl.q Qt.nc <| ?_
  refine Rl.q Qt.fa <| Rl.e0 Ef.st1 fun _ _ => Rl.nilK <| ?_
  refine T.sr <| Rl.q Qt.mv <| Rl.q Qt.mv <| Rl.q Qt.nc <| Rl.q Qt.fa <| Rl.q Qt.ldA <| Rl.e (Ef.qcall (S := timeFs0_q)) fun _ _ => Rl.q Qt.nc <| ?_
  refine Rl.q Qt.fa <| Rl.e0 Ef.st1 fun _ _ => Rl.nilK <| ?_
  refine T.sr <| Rl.q Qt.mv <| Rl.q Qt.mv <| Rl.q Qt.nc <| Rl.q Qt.fa <| Rl.q Qt.ldA <| Rl.e (Ef.qcall (S := timeFs0_q)) fun _ _ => Rl.q Qt.nc <| ?_
  refine Rl.q Qt.fa <| Rl.e0 Ef.st1 fun _ _ => Rl.nilK <| ?_
  refine T.sr <| Rl.q Qt.mv <| Rl.q Qt.mv <| Rl.q Qt.nc <| Rl.q Qt.fa <| Rl.q Qt.ld <| Rl.q Qt.nc <| Rl.q Qt.fa <| ?_
  refine Rl.e0 Ef.st1 fun _ _ => Rl.nilK <| ?_
  refine T.sr <| Rl.q Qt.mv <| Rl.q Qt.mv <| Rl.q Qt.nc <| Rl.q Qt.fa <| Rl.q Qt.ld <| Rl.q Qt.nc <| Rl.q Qt.fa <| ?_
  refine Rl.e0 Ef.st1 fun _ _ => Rl.nilK <| ?_
  refine T.sr <| Rl.q Qt.mv <| Rl.q Qt.nc <| Rl.q Qt.fa <| Rl.e0 (Ef.st1 (v := .slice none 0 0)) fun _ _ => Rl.nilK <| ?_
  refine T.seq ?_
  refine T.sr <| Rl.q Qt.mv <| Rl.q Qt.nc <| Rl.q Qt.fa <| Rl.q Qt.ld <| Rl.q Qt.mpeqNil <| Rl.nilK <| ?_
  refine T.condT ?_
  refine T.region <| Rl.q Qt.mv <| Rl.e Ef.mm fun b144 hb144 => Rl.q Qt.nc <| Rl.q Qt.fa <| Rl.e0 Ef.st1 fun _ _ => Rl.nil <| Ex.K <| ?_
  refine T.sr <| Rl.e Ef.mm fun b147 hb147 => Rl.q Qt.as <| Rl.nilK <| ?_
  refine T.seq ?_
  refine T.sr <| Rl.q Qt.mv <| Rl.q Qt.nc <| Rl.q Qt.fa <| Rl.q Qt.ld <| Rl.q Qt.len <| Rl.q (Qt.gtF (a := 0) (b := 0) (h := by decide)) <| Rl.nilK <| ?_
  refine T.condF ?_
  refine T.skip <| Ex.K <| ?_
  refine T.sr <| Rl.q Qt.mv <| Rl.q Qt.nc <| Rl.q Qt.fa <| Rl.e0 (Ef.st1 (v := .slice none 0 0)) fun _ _ => Rl.nilK <| ?_
  refine T.sr <| Rl.e Ef.alA fun b12 hb12 => Rl.nilK <| ?_
  refine T.sr <| Rl.e (Ef.call (S := xinit_s)) fun _ _ => Rl.nilK <| ?_
  refine T.sr <| Rl.q (Qt.as (v := N .i64 0)) <| Rl.nilK <| ?_
  refine T.seq ?_
  refine T.sr <| Rl.q Qt.mv <| Rl.nilK <| ?_
  refine T.block ?_
  refine T.sr <| Rl.q (Qt.eqT (a := 32768) (b := 32768) (h := by decide)) <| Rl.q Qt.as <| Rl.nilK <| ?_
  refine T.condT ?_
  refine T.sr <| Rl.q Qt.mv <| Rl.q Qt.nc <| Rl.q Qt.fa <| Rl.q Qt.ld <| Rl.q Qt.as <| Rl.nilK <| ?_
  refine T.seq ?_
  refine T.sr <| Rl.q Qt.mv <| Rl.q Qt.nc <| Rl.q Qt.fa <| Rl.q Qt.ld <| Rl.q (Qt.gtF (b := 137438953472)) <| Rl.nilK <| ?_
  refine T.condF ?_
  refine T.skip <| Ex.K <| ?_
  refine T.sr <| Rl.q Qt.mv <| Rl.q Qt.nc <| Rl.q Qt.fa <| Rl.q Qt.ld <| Rl.q (Qt.leT (b := 136)) <| Rl.q Qt.mv <| Rl.gt <| Rl.q Qt.mv <| ?_
  refine Rl.gt <| Rl.q Qt.nc <| Rl.gt <| Rl.q Qt.fa <| Rl.gt <| Rl.q (Qt.to (u := .bool true) Qt.ld (by rw [hinl])) <| Rl.q Qt.pkT <| Rl.nilK <| ?_
  refine T.condT ?_
  refine T.sr <| Rl.q Qt.mv <| Rl.q Qt.mv <| Rl.q Qt.nc <| Rl.q Qt.fa <| Rl.q Qt.ld <| Rl.e Ef.mk fun b195 hb195 => Rl.q Qt.nc <| ?_
  refine Rl.q Qt.fa <| Rl.e0 Ef.st1 fun _ _ => Rl.nilK <| ?_
  rw [mkBytes]
  refine T.sr <| Rl.q (Qt.as (v := N .i64 0)) <| Rl.nilK <| ?_
  refine T.join (α := Unit) (fun _u => [(0, Pt bW), (1, Pt bF), (2, Pt b51), (9, N .u16 32768), (11, .map (some b147)), (12, Pt b12), (13, N .i64 size), (14, N .i64 (size - 60)), (165, N .u16 32768)]) (fun _u => [[(b195, BO (List.replicate size 0) 5 (0, 0))], [(b12, XS (.slice none 0 0) (.slice none 0 0) 96 4060)], [(b147, .map (mE []) 0)], [(b144, .map (mE []) 0)], [(b51, IOb (mkI (k + 1) 32768 0 0 262144 (Sl b195 0 size size) (.slice none 0 0) (.map none)))], [(bW, WO s)], [(bF, .cells (FC size 0 (.map (some b144))).toArray 165 (0, 0))], EA]) (fun _u => True) ?_ fun _ _ => ?_
  · refine T.sr <| Rl.q Qt.mv <| Rl.q Qt.nc <| Rl.q Qt.fa <| Rl.q Qt.ld <| Rl.gtS (b := 60) (fun h202 => ?_) (fun h202 => ?_)
    · refine Rl.nilK <| ?_
      refine T.condT ?_
      refine T.region <| Rl.q Qt.mv <| Rl.q Qt.nc <| Rl.q Qt.fa <| Rl.q Qt.ld <| Rl.q (Qt.sub (b := 60)) <| Rl.q Qt.as <| Rl.nil <| ?_
      exact Ex.join () trivial (.cons rfl <| .cons rfl <| .cons rfl <| .cons rfl <| .cons rfl <| .cons rfl <| .cons rfl <| .cons rfl <| .cons rfl <| .nil)
    · refine Rl.nilK <| ?_
      refine T.condF ?_
      refine T.skip <| ?_
      have e14 : (0 : Nat) = size - 60 := by omega
      exact Ex.join () trivial (.cons rfl <| .cons rfl <| .cons rfl <| .cons rfl <| .cons rfl <| .cons rfl <| .cons rfl <| .cons (by rw [← e14]; rfl) <| .cons rfl <| .nil)
  · refine T.seq ?_
    refine T.sr <| Rl.q Qt.mv <| Rl.q Qt.nc <| Rl.q Qt.fa <| Rl.q Qt.ld <| Rl.q Qt.mv <| Rl.q (Qt.to (u := Sl b195 0 (size - 60) size) (Qt.sl (ch := size - 60)) (by unfold cutAt; simp)) <| Rl.e (Ef.call (S := addXattr_sys_s (by omega))) fun r214 h214 => ?_
    refine Rl.q Qt.notT <| Rl.nilK <| ?_
    refine T.condF ?_
    refine T.skip <| Ex.K <| ?_
    refine T.region <| Rl.q Qt.mv <| Rl.q Qt.nc <| Rl.q Qt.fa <| Rl.q Qt.ld <| Rl.q (Qt.toN (c := 268697600) (Qt.or (b := 268435456) (a := 262144) (h := by decide)) (rfl)) <| Rl.q Qt.nc <| Rl.q Qt.fa <| ?_
    refine Rl.e0 Ef.st1 fun _ _ => Rl.nil <| Ex.Bnormal <| Ex.K <| ?_
    refine T.seq ?_
    refine T.sr <| Rl.q Qt.mv <| Rl.e Ef.rg fun b265 hb265 => Rl.nilK <| ?_
    refine T.block ?_
    refine T.rounds 0 ?_
    refine T.sr <| Rl.nx mok0 (sn := []) (by simp) (fun e he hn => ?_) (fun hall => ?_)
    · exact absurd he (by simp)
    · refine Rl.q Qt.ex <| Rl.nilK <| ?_
      refine T.seq ?_
      refine T.condF ?_
      refine T.exit <| Ex.Kexit <| Ex.Rexit <| Ex.Bhit <| Ex.K <| ?_
      refine T.seq ?_
      refine T.sr <| Rl.q Qt.mv <| Rl.q Qt.nc <| Rl.q Qt.fa <| Rl.q Qt.ld <| Rl.q Qt.lenM <| Rl.q (Qt.neF (a := 0) (b := 0) (h := by decide)) <| Rl.nilK <| ?_
      refine T.condF ?_
      refine T.skip <| Ex.K <| ?_
      refine T.seq ?_
      obtain ⟨bA, cA, sp, hvA, hcA, _, hEA, _⟩ := h214.some (by decide)
      rw [hvA, hEA]
      have hrow : RowB (bc (List.replicate size 0)) 0 (List.replicate (size - 60) 0) := by
        have h0 := RowB.all (List.replicate size 0)
        rw [show List.replicate size (0 : UInt8) = List.replicate (size - 60) 0 ++ List.replicate (size - (size - 60)) 0 by rw [List.replicate_append_replicate]; congr 1; omega] at h0 ⊢
        exact h0.left
      refine T.sr <| Rl.q Qt.mv <| Rl.q Qt.mv <| Rl.e (Ef.call (S := writeXattrs1_s (x := mkI (k + 1) 32768 0 0 268697600 (Sl b195 0 size size) (.slice none 0 0) (.map none)) (val := List.replicate (size - 60) 0) (n := size - 60) (cv := size) (ov := 0) (bv := b195) rfl hrow (by rw [List.length_replicate]) (by omega) (by omega))) fun r365 _ => Rl.q Qt.as <| Rl.nilK <| ?_
      refine T.sr <| Rl.q Qt.mv <| Rl.q Qt.ineNil <| Rl.nilK <| ?_
      refine T.condF ?_
      refine T.skip <| Ex.K <| ?_
      refine T.sr <| Rl.q Qt.mv <| Rl.q Qt.mv <| Rl.q Qt.nc <| Rl.q Qt.fa0 <| Rl.e0 Ef.st1 fun _ _ => Rl.nilK <| ?_
      refine T.seq ?_
      refine T.sr <| Rl.q Qt.mv <| Rl.q (Qt.eqF (a := 32768) (b := 40960) (h := by decide)) <| Rl.q Qt.mv <| Rl.gf <| Rl.gf <| Rl.q (Qt.pkF (v := .bool false)) <| Rl.nilK <| ?_
      refine T.condF ?_
      refine T.skip <| Ex.K <| ?_
      refine T.seq ?_
      refine T.sdr [] ?_ mixed
      refine Dr.qs [0, 1, 2, 3, 4, 5, 6, 7, 8, 9, 10, 11] [] ?_
      refine Dq.q Qt.mv <| Dq.q Qt.nc <| Dq.q Qt.fa <| Dq.q Qt.ld <| Dq.q (Qt.toN (c := k) (Qt.sub (b := 1)) (Nat.add_sub_cancel ..)) <| Dq.q Qt.cv <| Dq.q Qt.mv <| Dq.q Qt.nc <| ?_
      refine Dq.q Qt.fa <| Dq.q (Qt.to (u := .slice p0 k c0) Qt.ld (hs2)) <| Dq.q Qt.len <| Dq.q Qt.geT <| Dq.nil <| Dr.nilK <| ?_
      refine T.condT ?_
      refine T.region <| Rl.q Qt.mv <| Rl.q Qt.mv <| Rl.q Qt.nc <| Rl.q Qt.fa <| Rl.q (Qt.to (u := vA) Qt.ld (hs)) <| Rl.q Qt.mv <| Rl.e Ef.bs fun b419 hb419 => ?_
      refine Rl.e (Ef.ap (own := own) (vs := [Pt b51])) fun v420 hv420 => Rl.q Qt.nc <| Rl.q Qt.fa <| Rl.e0 Ef.st1 fun _ _ => Rl.nil <| Ex.K <| ?_
      refine T.sr <| Rl.q Qt.mv <| Rl.q Qt.as <| Rl.q (Qt.as (v := .nilIface)) <| Rl.nilK <| ?_
      refine T.ret <| Ex.ret2 (.inl rfl) rfl rfl ?_ rfl
      exact fun w h => ⟨((b51, b195, r365, b144), (v420.1, v420.2)), hv420, rfl, h.re⟩
end SL
end Go.Proofs.YtlmiekcmjpnobaaGreatDoor
namespace Go.Proofs.YtlmiekcmjpnobaaGreatDoor
open Go
namespace SL
set_option maxRecDepth 20000

section
variable {P : Program} {Ro : Heap} {m : Env} {H : Heap}
theorem Qt.pneNS {ty t t' e : Nat} {x y : Operand} {p : Addr} (hx : ev m x = some (.pointer none) := by rfl) (hy : ev m y = some (.pointer (some p)) := by rfl) (h : PtrT P t e := by infer_instance) : Qt P (.binOp .neq t x y t') ty m H Ro (.bool true) := fun a w d ps af gd ha _ _ => by
  have h : ∀ d w, (Op.equalIn (d + 1) t (.pointer none) (.pointer (some p))).run P w = .ok false w := fun d w => by simp [Op.equalIn, h.und]
  simp only [execOp, ev_sound ha hx, ev_sound ha hy, eqGuard, binOp, Sem.run_bind, Sem.run_pure, Result.andThen_ok, eqOp h, Bool.not_false]
  try rfl
end

variable {bW bD bN b o k c e p st nb bX capX eX bx bS bA cA eA eG bv ov n cv ev bF md size bR bM cM : Nat} {R Rv sp ptrs : List Value} {fr frA frG fv : Nat × Nat} {bs xs zs l val nm : List UInt8} {v vA : Value} {E EA : Chunk} {s : WS} {x xr : WI} {m : MEs}

set_option maxHeartbeats 2000000 in
theorem createDir_s {spA : List Value} (hi : s.init = true) (hcur : s.cur = .pointer none) (hnm : Nm nm) (hinA : s.inodes = Sl bA 0 k cA) (own : Own 156 1 (Sl bA 0 k cA) k ptrs [(bA, .cells (ptrs ++ spA).toArray 156 (0, 0))]) (hk : k < 1000000) (hk2 : 2 ≤ k) (hv : nth ptrs 1 = some (Pt bR))
    (hmode : xr.mode < 65536) (hdir : xr.mode &&& 61440 = 16384) (hkids : xr.kids = .map (some bM)) (hlinks : xr.links < 65000) (hfree : mget m nm = none) (hm : md < 65536) (hd : md &&& 61440 = 16384) :
    Spec Tryz.prog 50 [Pt bW, SV nm, Pt bF] [] [[(bW, WO s)], [(bF, FO 0 md)], [(bA, .cells (ptrs ++ spA).toArray 156 (0, 0))], [(bR, IOb xr)], [(bM, .map (mE m) cM)]]
      (fun r : (Nat × Nat) × (Value × Chunk) => Own 156 1 r.2.1 (k + 1) (ptrs ++ [Pt r.1.1]) r.2.2) (fun _ => .nilIface)
      (fun r => [[(bW, WO { s with inodes := r.2.1 })], r.2.2, [(bR, IOb { xr with links := xr.links + 1 })], [(bM, .map (mE (mset m nm (Pt r.1.1) cM)) (mclk m nm cM))], [(r.1.1, IOb (mkI (k + 1) md 0 2 262144 (.slice none 0 0) (.slice none 0 0) (.map (some r.1.2))))], [(r.1.2, .map (mE []) 0)]]) := by
  refine Spec.of Tryz.func50 rfl Tryz.ntmps50 (by simp) fun w => ?_
  refine T.sr <| Rl.q (Qt.as (v := .nilIface)) <| Rl.nilK <| ?_
  refine T.seq ?_
  refine T.sr <| Rl.q Qt.mv <| Rl.e (Ef.qcall (S := fin_none_q hi hcur)) fun _ _ => Rl.q Qt.as <| Rl.nilK <| ?_
  refine T.sr <| Rl.q Qt.mv <| Rl.q Qt.ineNil <| Rl.nilK <| ?_
  refine T.condF ?_
  refine T.skip <| Ex.K <| ?_
  refine T.sr <| Rl.q Qt.mv <| Rl.q Qt.mv <| Rl.e (Ef.qcall (S := lookup_q (me := false) (m := m) (l := ptrs ++ spA) (k := k) (cap := cA) (cM := cM) (x := xr) (bM := bM) hnm hinA hk hk2 (nth_app hv) hmode hdir hkids (by rw [hfree]; rfl) (.inl ⟨rfl, rfl⟩))) fun _ _ => Rl.q Qt.mv <| Rl.q Qt.ex <| Rl.q Qt.ex <| Rl.q Qt.ex <| ?_
  refine Rl.q Qt.ex <| Rl.q Qt.as <| Rl.q Qt.as <| Rl.q Qt.as <| Rl.q Qt.as <| Rl.nilK <| ?_
  refine T.seq ?_
  refine T.sr <| Rl.q Qt.mv <| Rl.q Qt.ineNil <| Rl.nilK <| ?_
  refine T.condF ?_
  refine T.skip <| Ex.K <| ?_
  refine T.sr <| Rl.q (Qt.as (v := .pointer none)) <| Rl.nilK <| ?_
  refine T.seq ?_
  refine T.sr <| Rl.q Qt.mv <| Rl.q Qt.pneNil <| Rl.nilK <| ?_
  refine T.condF ?_
  refine T.sr <| Rl.q Qt.mv <| Rl.q Qt.nc <| Rl.q Qt.fa <| Rl.q Qt.ld <| Rl.q (Qt.toN (c := 16384) (Qt.and (b := 61440) (h := ⟨by simp only [lim]; omega, by decide⟩)) (hd)) <| Rl.q (Qt.eqT (a := 16384) (b := 16384) (h := rfl)) <| Rl.q Qt.mv <| ?_
  refine Rl.gt <| Rl.q Qt.mv <| Rl.gt <| Rl.q Qt.nc <| Rl.gt <| Rl.q Qt.fa <| Rl.gt <| Rl.q Qt.ld <| ?_
  refine Rl.gt <| Rl.q (Qt.geF (b := 65000)) <| Rl.q Qt.pkT <| Rl.nilK <| ?_
  refine T.condF ?_
  refine T.skip <| Ex.K <| ?_
  refine T.sr <| Rl.q Qt.mv <| Rl.q Qt.mv <| Rl.q Qt.mv <| Rl.e (Ef.call (S := makeDir_s (s := s) hm hd hinA own hk)) fun r hr => Rl.q Qt.mv <| Rl.q Qt.ex <| Rl.q Qt.ex <| ?_
  refine Rl.q Qt.as <| Rl.q Qt.as <| Rl.nilK <| ?_
  refine T.seq ?_
  refine T.sr <| Rl.q Qt.mv <| Rl.q Qt.ineNil <| Rl.nilK <| ?_
  refine T.condF ?_
  refine T.skip <| Ex.K <| ?_
  refine T.seq ?_
  refine T.sr <| Rl.q Qt.mv <| Rl.q Qt.mv <| Rl.q (Qt.pneNS) <| Rl.nilK <| ?_
  refine T.condT ?_
  refine T.seq ?_
  refine T.sr <| Rl.q Qt.mv <| Rl.q Qt.pneNil <| Rl.nilK <| ?_
  refine T.condF ?_
  refine T.skip <| Ex.K <| ?_
  refine T.sr <| Rl.q Qt.mv <| Rl.q Qt.nc <| Rl.q Qt.fa <| Rl.q (Qt.to (u := .map (some bM)) Qt.ld (hkids)) <| Rl.q Qt.mv <| Rl.q Qt.mv <| Rl.e0 Ef.mu fun _ _ => ?_
  refine Rl.nilK <| ?_
  refine T.sr <| Rl.q Qt.mv <| Rl.q Qt.nc <| Rl.q Qt.fa <| Rl.q Qt.ld <| Rl.q (Qt.add (b := 1)) <| Rl.q Qt.nc <| Rl.q Qt.fa <| ?_
  refine Rl.e0 Ef.st1 fun _ _ => Rl.nilK <| ?_
  refine T.sr <| Rl.q Qt.mv <| Rl.e (Ef.qcall (S := isDirT_q (x := (mkI (k + 1) md 0 2 262144 (.slice none 0 0) (.slice none 0 0) (.map (some r.1.2)))) hm hd)) fun _ _ => Rl.nilK <| ?_
  refine T.condT ?_
  refine T.region <| Rl.q Qt.mv <| Rl.q Qt.nc <| Rl.q Qt.fa <| Rl.q Qt.ld <| Rl.q (Qt.add (b := 1)) <| Rl.q Qt.nc <| Rl.q Qt.fa <| ?_
  refine Rl.e0 Ef.st1 fun _ _ => Rl.nil <| Ex.K <| ?_
  refine T.seq ?_
  refine T.sr <| Rl.q Qt.mv <| Rl.q Qt.nc <| Rl.q Qt.fa <| Rl.q Qt.ld <| Rl.q (Qt.toN (c := 16384) (Qt.and (b := 61440) (h := ⟨by simp only [lim]; omega, by decide⟩)) (hd)) <| Rl.q (Qt.eqF (a := 16384) (b := 32768) (h := by decide)) <| Rl.nilK <| ?_
  refine T.condF ?_
  refine T.skip <| Ex.K <| ?_
  refine T.sr <| Rl.q (Qt.as (v := .nilIface)) <| Rl.nilK <| ?_
  refine T.ret <| Ex.ret1 (.inl rfl) rfl ?_ rfl
  exact fun w h => ⟨r, hr, rfl, h.re⟩


end SL
end Go.Proofs.YtlmiekcmjpnobaaGreatDoor
namespace Go.Proofs.YtlmiekcmjpnobaaGreatDoor
open Go
namespace SL
set_option maxRecDepth 20000

variable {bW bD bN b o k c e p st nb bX capX eX bx bS bA cA eA eG bv ov n cv ev bF md size bR bM cM : Nat} {R Rv sp ptrs : List Value} {fr frA frG fv : Nat × Nat} {bs xs zs l val nm : List UInt8} {v vA : Value} {E EA : Chunk} {s : WS} {x xr : WI} {m : MEs}
abbrev lfN : List UInt8 := [108, 111, 115, 116, 43, 102, 111, 117, 110, 100]
theorem lfNm : Nm lfN := ⟨by decide, by decide, by decide, by decide, by decide⟩
abbrev nilP : Value := .pointer none
abbrev ptr0 (bR bL : Nat) : List Value := [nilP, Pt bR, nilP, nilP, nilP, nilP, nilP, nilP, nilP, nilP, Pt bL]
abbrev rootI (links bM : Nat) : WI := mkI 2 16877 0 links 262144 (.slice none 0 0) (.slice none 0 0) (.map (some bM))
abbrev lfI (bM : Nat) : WI := mkI 11 16832 0 2 262144 (.slice none 0 0) (.slice none 0 0) (.map (some bM))
set_option maxHeartbeats 2000000 in
theorem init_s (hi : s.init = false) (hcur : s.cur = .pointer none) (hmax : s.max = 17179869184) :
    Spec Tryz.prog 127 [Pt bW] [] [[(bW, WO s)], [(s.disk, DO v p)]]
      (fun r : (Nat × Nat × Nat × Nat) × (Value × Chunk) => Own 156 1 r.2.1 11 (ptr0 r.1.1 r.1.2.2.1) r.2.2) (fun _ => .nilIface)
      (fun r => [[(bW, WO { s with inodes := r.2.1, pos := 8192, init := true, gd := 1 })], [(s.disk, DO v 8192)], r.2.2, [(r.1.1, IOb (rootI 3 r.1.2.1))], [(r.1.2.1, .map (mE [(lfN, Pt r.1.2.2.1, 0)]) 1)], [(r.1.2.2.1, IOb (lfI r.1.2.2.2))], [(r.1.2.2.2, .map (mE []) 0)]]) := by
  refine Spec.of Tryz.func127 rfl Tryz.ntmps127 (by simp) fun w => ?_
  refine T.sr <| Rl.q (Qt.as (v := .nilIface)) <| Rl.nilK <| ?_
  refine T.sr <| Rl.q Qt.mv <| Rl.e (Ef.mk (k := 1) (c := 32)) fun b9 hb9 => Rl.q Qt.nc <| Rl.q Qt.fa <| Rl.e0 Ef.st1 fun _ _ => Rl.nilK <| ?_
  rw [show (List.replicate 32 (vcells (.pointer none))).flatten = [nilP] ++ List.replicate 31 nilP from rfl]
  have own9 : Own 156 1 (Sl b9 0 1 32) 1 [nilP] [(b9, .cells ([nilP] ++ List.replicate 31 nilP).toArray 156 (0, 0))] := Own.mk rfl (by decide) (by simp [maxLen]) rfl
  refine T.sr <| Rl.q Qt.mv <| Rl.q Qt.bdN <| Rl.e Ef.bxA fun b15 hb15 => Rl.e (Ef.call (S := makeDir_s (md := 16877) (s := { s with inodes := Sl b9 0 1 32 }) (k := 1) (ptrs := [nilP]) (by decide) (by decide) rfl own9 (by decide))) fun r16 own16 => Rl.q Qt.mv <| Rl.q Qt.ex <| Rl.q Qt.ex <| ?_
  refine Rl.q Qt.as <| Rl.q Qt.as <| Rl.nilK <| ?_
  refine T.sr <| Rl.q Qt.mv <| Rl.q Qt.nc <| Rl.q Qt.fa <| Rl.q Qt.ld <| Rl.q (Qt.add (b := 1)) <| Rl.q Qt.nc <| Rl.q Qt.fa <| ?_
  refine Rl.e0 Ef.st1 fun _ _ => Rl.nilK <| ?_
  obtain ⟨q16, c16, hv16⟩ := own16.form
  refine T.sdr [12, 13, 14, 15] ?_ mixed
  refine Dr.qs [0, 1, 2, 3, 4, 5, 6, 7, 8, 9, 10, 11] [true] ?_
  refine Dq.p Qt.mv <| Dq.q Qt.mv <| Dq.q Qt.nc <| Dq.q Qt.fa <| Dq.q Qt.ld <| Dq.q Qt.mv <| Dq.q Qt.nc <| Dq.q Qt.fa <| ?_
  refine Dq.q (Qt.to (u := .slice q16 (1 + 1) c16) Qt.ld (hv16)) <| Dq.q Qt.len <| Dq.q (Qt.toN (c := 9) (Qt.sub (a := 11) (b := 2) (h := by decide)) rfl) <| Dq.q (Qt.toN (c := 8) (Qt.sub (a := 9) (b := 1) (h := by decide)) rfl) <| Dq.nil <| ?_
  refine Dr.e 12 <| Eo.e rfl (Ef.apZ (own := own16) (j := 8)) fun v38 hv38 => ?_
  refine Dr.e 13 <| Eo.q rfl Qt.nc <| ?_
  refine Dr.e 14 <| Eo.q rfl Qt.fa <| ?_
  refine Dr.e 15 <| Eo.e0 rfl Ef.st1 fun _ _ => Dr.nilK <| ?_
  have own38 : Own 156 1 v38.1 10 [nilP, Pt r16.1.1, nilP, nilP, nilP, nilP, nilP, nilP, nilP, nilP] v38.2 := hv38
  refine T.sr <| Rl.q Qt.mv <| Rl.q Qt.nc <| Rl.q Qt.fa <| Rl.q (Qt.toN (c := 17179869184) Qt.ld (hmax)) <| Rl.q (Qt.toN (c := 17179869183) (Qt.sub (a := 17179869184) (b := 1) (h := by decide)) rfl) <| Rl.q (Qt.toN (c := 4194303) (Qt.quo (a := 17179869183) (b := 4096) (h := by decide)) rfl) <| Rl.q (Qt.toN (c := 4194304) (Qt.add (a := 4194303) (b := 1) (h := by decide)) rfl) <| ?_
  refine Rl.q Qt.as <| Rl.nilK <| ?_
  refine T.sr <| Rl.q Qt.mv <| Rl.q (Qt.toN (c := 4194303) (Qt.sub (a := 4194304) (b := 1) (h := by decide)) rfl) <| Rl.q (Qt.toN (c := 127) (Qt.quo (a := 4194303) (b := 32768) (h := by decide)) rfl) <| Rl.q (Qt.toN (c := 128) (Qt.add (a := 127) (b := 1) (h := by decide)) rfl) <| Rl.q Qt.as <| Rl.nilK <| ?_
  refine T.sr <| Rl.q Qt.mv <| Rl.q Qt.mv <| Rl.q (Qt.toN (c := 127) (Qt.sub (a := 128) (b := 1) (h := by decide)) rfl) <| Rl.q (Qt.toN (c := 0) (Qt.quo (a := 127) (b := 128) (h := by decide)) rfl) <| Rl.q (Qt.toN (c := 1) (Qt.add (a := 0) (b := 1) (h := by decide)) rfl) <| Rl.q (Qt.cv (a := 1) (h := by decide)) <| Rl.q Qt.nc <| ?_
  refine Rl.q Qt.fa <| Rl.e0 Ef.st1 fun _ _ => Rl.nilK <| ?_
  refine T.sr <| Rl.q Qt.mv <| Rl.q Qt.mv <| Rl.q Qt.nc <| Rl.q Qt.fa <| Rl.q (Qt.toN (c := 1) Qt.ld (rfl)) <| Rl.q (Qt.toN (c := 2) (Qt.add (a := 1) (b := 1) (h := by decide)) rfl) <| Rl.e (Ef.call (S := seekBlock_s (s := { s with inodes := v38.1, gd := 1 }) (by decide))) fun _ _ => ?_
  refine Rl.nilK <| ?_
  refine T.sr <| Rl.q Qt.mv <| Rl.q Qt.nc <| Rl.q Qt.fa <| Rl.e0 (Ef.st1 (v := .bool true)) fun _ _ => Rl.nilK <| ?_
  refine T.seq ?_
  obtain ⟨bA, cA, spA, hvA, hcA, hcA2, hEA, hspA⟩ := own38.some (by decide)
  rw [hvA, hEA] at own38
  rw [hvA, hEA]
  refine T.sr <| Rl.q Qt.mv <| Rl.q Qt.bdN <| Rl.e Ef.bxA fun b72 hb72 => Rl.e (Ef.call (S := createDir_s (md := 16832) (s := { s with inodes := Sl bA 0 10 cA, pos := 8192, init := true, gd := 1 }) (nm := lfN) (bR := r16.1.1) (bM := r16.1.2) (k := 10) (ptrs := [nilP, Pt r16.1.1, nilP, nilP, nilP, nilP, nilP, nilP, nilP, nilP]) (xr := rootI 2 r16.1.2) (m := []) rfl hcur lfNm rfl own38 (by decide) (by decide) rfl (by show 16877 < 65536; decide) (by show 16877 &&& 61440 = 16384; decide) rfl (by show 2 < 65000; decide) rfl (by decide) (by decide))) fun r73 own73 => Rl.q Qt.as <| Rl.nilK <| ?_
  refine T.sr <| Rl.q Qt.mv <| Rl.q Qt.ineNil <| Rl.nilK <| ?_
  refine T.condF ?_
  refine T.skip <| Ex.K <| ?_
  refine T.sr <| Rl.q Qt.mv <| Rl.q Qt.nc <| Rl.q Qt.fa <| Rl.q Qt.ld <| Rl.q Qt.as <| Rl.nilK <| ?_
  refine T.ret <| Ex.ret1 (.inl rfl) rfl ?_ rfl
  exact fun w h => ⟨((r16.1.1, r16.1.2, r73.1.1, r73.1.2), (r73.2.1, r73.2.2)), own73, rfl, h.re⟩
end SL
end Go.Proofs.YtlmiekcmjpnobaaGreatDoor
namespace Go.Proofs.YtlmiekcmjpnobaaGreatDoor
open Go
namespace SL
set_option maxRecDepth 20000

variable {bW bD bN b o k c e p st nb bX capX eX bx bS bA cA eA eG bv ov n cv ev bF md size bR bM cM : Nat} {R Rv sp ptrs : List Value} {fr frA frG fv : Nat × Nat} {bs xs zs l val nm : List UInt8} {v vA : Value} {E EA : Chunk} {s : WS} {x xr : WI} {m : MEs}
theorem fin_init_s (hi : s.init = false) (hcur : s.cur = .pointer none) (hmax : s.max = 17179869184) :
    Spec Tryz.prog 80 [Pt bW] [] [[(bW, WO s)], [(s.disk, DO v p)]]
      (fun r : (Nat × Nat × Nat × Nat) × (Value × Chunk) => Own 156 1 r.2.1 11 (ptr0 r.1.1 r.1.2.2.1) r.2.2) (fun _ => .nilIface)
      (fun r => [[(bW, WO { s with inodes := r.2.1, pos := 8192, init := true, gd := 1 })], [(s.disk, DO v 8192)], r.2.2, [(r.1.1, IOb (rootI 3 r.1.2.1))], [(r.1.2.1, .map (mE [(lfN, Pt r.1.2.2.1, 0)]) 1)], [(r.1.2.2.1, IOb (lfI r.1.2.2.2))], [(r.1.2.2.2, .map (mE []) 0)]]) := by
  refine Spec.of Tryz.func80 rfl Tryz.ntmps80 (by simp) fun w => ?_
  refine T.sr <| Rl.q (Qt.as (v := .nilIface)) <| Rl.nilK <| ?_
  refine T.seq ?_
  refine T.sr <| Rl.q Qt.mv <| Rl.q Qt.nc <| Rl.q Qt.fa <| Rl.q (Qt.to (u := .bool false) Qt.ld (by rw [hi])) <| Rl.q Qt.notF <| Rl.nilK <| ?_
  refine T.condT ?_
  refine T.sr <| Rl.q Qt.mv <| Rl.e (Ef.call (S := init_s hi hcur hmax)) fun q hq => Rl.q Qt.as <| Rl.nilK <| ?_
  refine T.sr <| Rl.q Qt.mv <| Rl.q Qt.ineNil <| Rl.nilK <| ?_
  refine T.condF ?_
  refine T.skip <| Ex.K <| ?_
  refine T.seq ?_
  refine T.sr <| Rl.q Qt.mv <| Rl.q Qt.nc <| Rl.q Qt.fa <| Rl.q (Qt.to (u := .pointer none) Qt.ld (hcur)) <| Rl.q Qt.peqNil <| Rl.nilK <| ?_
  refine T.condT ?_
  refine T.sr <| Rl.q (Qt.as (v := .nilIface)) <| Rl.nilK <| ?_
  refine T.ret <| Ex.Kret <| Ex.ret1 (.inl rfl) rfl ?_ rfl
  exact fun w h => ⟨q, hq, rfl, h.re⟩

set_option maxHeartbeats 2000000 in
theorem create0Reg_s (hi : s.init = false) (hcur : s.cur = .pointer none) (hmax : s.max = 17179869184) (hnm : Nm nm) (hne : lfN ≠ nm) (hni : ¬ (size ≤ 136 ∧ s.inl = true)) (hsz : size ≤ 1048576) :
    Spec Tryz.prog 50 [Pt bW, SV nm, Pt bF] [] [[(bW, WO s)], [(s.disk, DO v p)], [(bF, FO size 0)]]
      (fun r : ((Nat × Nat × Nat × Nat) × (Value × Chunk)) × ((Nat × Nat) × (Value × Chunk)) => Own 156 1 r.2.2.1 12 (ptr0 r.1.1.1 r.1.1.2.2.1 ++ [Pt r.2.1.1]) r.2.2.2) (fun _ => .nilIface)
      (fun r => [[(bW, WO { s with inodes := r.2.2.1, pos := 8192, init := true, gd := 1, name := nm, cur := Pt r.2.1.1, dw := 0, dm := size })], [(s.disk, DO v 8192)], r.2.2.2, [(r.1.1.1, IOb (rootI 3 r.1.1.2.1))],
        [(r.1.1.2.1, .map (mE [(lfN, Pt r.1.1.2.2.1, 0), (nm, Pt r.2.1.1, 1)]) 2)], [(r.1.1.2.2.1, IOb (lfI r.1.1.2.2.2))], [(r.1.1.2.2.2, .map (mE []) 0)], [(r.2.1.1, IOb (mkI 12 32768 size 1 262144 (.slice none 0 0) (.slice none 0 0) (.map none)))]]) := by
  refine Spec.of Tryz.func50 rfl Tryz.ntmps50 (by simp) fun w => ?_
  have hfree : ∀ z : Value, mget [(lfN, z, 0)] nm = none := fun z => by rw [mget, if_neg hne]; rfl
  refine T.sr <| Rl.q (Qt.as (v := .nilIface)) <| Rl.nilK <| ?_
  refine T.seq ?_
  refine T.sr <| Rl.q Qt.mv <| Rl.e (Ef.call (S := fin_init_s hi hcur hmax)) fun q hq => Rl.q Qt.as <| Rl.nilK <| ?_
  refine T.sr <| Rl.q Qt.mv <| Rl.q Qt.ineNil <| Rl.nilK <| ?_
  refine T.condF ?_
  refine T.skip <| Ex.K <| ?_
  have hq2 := hq
  obtain ⟨bA, cA, spA, hvA, hcA, hcA2, hEA, hspA⟩ := hq.some (by decide)
  rw [hvA, hEA] at hq2
  rw [hvA, hEA]
  refine T.sr <| Rl.q Qt.mv <| Rl.q Qt.mv <| Rl.e (Ef.qcall (S := lookup_q (s := { s with inodes := Sl bA 0 11 cA, pos := 8192, init := true, gd := 1 }) (me := false) (m := [(lfN, Pt q.1.2.2.1, 0)]) (l := ptr0 q.1.1 q.1.2.2.1 ++ spA) (k := 11) (cap := cA) (cM := 1) (x := rootI 3 q.1.2.1) (bM := q.1.2.1) (bR := q.1.1) hnm rfl (by decide) (by decide) rfl (by show 16877 < 65536; decide) (by show 16877 &&& 61440 = 16384; decide) rfl (by rw [hfree]; rfl) (.inl ⟨rfl, rfl⟩))) fun _ _ => Rl.q Qt.mv <| Rl.q Qt.ex <| Rl.q Qt.ex <| Rl.q Qt.ex <| ?_
  refine Rl.q Qt.ex <| Rl.q Qt.as <| Rl.q Qt.as <| Rl.q Qt.as <| Rl.q Qt.as <| Rl.nilK <| ?_
  refine T.seq ?_
  refine T.sr <| Rl.q Qt.mv <| Rl.q Qt.ineNil <| Rl.nilK <| ?_
  refine T.condF ?_
  refine T.skip <| Ex.K <| ?_
  refine T.sr <| Rl.q (Qt.as (v := .pointer none)) <| Rl.nilK <| ?_
  refine T.seq ?_
  refine T.sr <| Rl.q Qt.mv <| Rl.q Qt.pneNil <| Rl.nilK <| ?_
  refine T.condF ?_
  refine T.sr <| Rl.q Qt.mv <| Rl.q Qt.nc <| Rl.q Qt.fa <| Rl.q Qt.ld <| Rl.q (Qt.toN (c := 0) (Qt.and (a := 0) (b := 61440) (h := by decide)) rfl) <| Rl.q (Qt.eqF (a := 0) (b := 16384) (h := by decide)) <| Rl.q Qt.mv <| ?_
  refine Rl.gf <| Rl.gf <| Rl.gf <| Rl.gf <| Rl.gf <| Rl.q (Qt.pkF (v := .bool false)) <| Rl.nilK <| ?_
  refine T.condF ?_
  refine T.skip <| Ex.K <| ?_
  refine T.sr <| Rl.q Qt.mv <| Rl.q Qt.mv <| Rl.q Qt.mv <| Rl.e (Ef.call (S := makeReg_s (s := { s with inodes := Sl bA 0 11 cA, pos := 8192, init := true, gd := 1 }) (k := 11) rfl hq2 (by decide) hni hsz)) fun r hr => Rl.q Qt.mv <| Rl.q Qt.ex <| Rl.q Qt.ex <| ?_
  refine Rl.q Qt.as <| Rl.q Qt.as <| Rl.nilK <| ?_
  refine T.seq ?_
  refine T.sr <| Rl.q Qt.mv <| Rl.q Qt.ineNil <| Rl.nilK <| ?_
  refine T.condF ?_
  refine T.skip <| Ex.K <| ?_
  refine T.seq ?_
  refine T.sr <| Rl.q Qt.mv <| Rl.q Qt.mv <| Rl.q (Qt.pneNS) <| Rl.nilK <| ?_
  refine T.condT ?_
  refine T.seq ?_
  refine T.sr <| Rl.q Qt.mv <| Rl.q Qt.pneNil <| Rl.nilK <| ?_
  refine T.condF ?_
  refine T.skip <| Ex.K <| ?_
  refine T.sr <| Rl.q Qt.mv <| Rl.q Qt.nc <| Rl.q Qt.fa <| Rl.q Qt.ld <| Rl.q Qt.mv <| Rl.q Qt.mv <| Rl.e0 Ef.mu fun _ _ => ?_
  refine Rl.nilK <| ?_
  have hms : mset [(lfN, Pt q.1.2.2.1, 0)] nm (Pt r.1.1) 1 = [(lfN, Pt q.1.2.2.1, 0), (nm, Pt r.1.1, 1)] := by rw [mset, if_neg hne]; rfl
  have hmc : mclk [(lfN, Pt q.1.2.2.1, 0)] nm 1 = 2 := by rw [mclk, hfree]
  rw [hms, hmc]
  refine T.sr <| Rl.q Qt.mv <| Rl.q Qt.nc <| Rl.q Qt.fa <| Rl.q Qt.ld <| Rl.q (Qt.add (b := 1)) <| Rl.q Qt.nc <| Rl.q Qt.fa <| ?_
  refine Rl.e0 Ef.st1 fun _ _ => Rl.nilK <| ?_
  refine T.sr <| Rl.q Qt.mv <| Rl.e (Ef.qcall (S := isDirF_q (x := (mkI 12 32768 size 1 262144 (.slice none 0 0) (.slice none 0 0) (.map none))) (by show 32768 < 65536; decide) (by show 32768 &&& 61440 ≠ 16384; decide))) fun _ _ => Rl.nilK <| ?_
  refine T.condF ?_
  refine T.skip <| Ex.K <| ?_
  refine T.seq ?_
  refine T.sr <| Rl.q Qt.mv <| Rl.q Qt.nc <| Rl.q Qt.fa <| Rl.q Qt.ld <| Rl.q (Qt.toN (c := 32768) (Qt.and (a := 32768) (b := 61440) (h := by decide)) rfl) <| Rl.q (Qt.eqT (a := 32768) (b := 32768) (h := rfl)) <| Rl.nilK <| ?_
  refine T.condT ?_
  refine T.region <| Rl.q Qt.mv <| Rl.q Qt.mv <| Rl.q Qt.mv <| Rl.q Qt.mv <| Rl.q Qt.nc <| Rl.q Qt.fa <| Rl.q Qt.ld <| ?_
  refine Rl.e (Ef.call (S := startInode_s (s := { s with inodes := r.2.1, pos := 8192, init := true, gd := 1 }) hcur)) fun _ _ => Rl.nil <| Ex.K <| ?_
  refine T.sr <| Rl.q (Qt.as (v := .nilIface)) <| Rl.nilK <| ?_
  refine T.ret <| Ex.ret1 (.inl rfl) rfl ?_ rfl
  exact fun w h => ⟨(q, r), hr, rfl, h.re⟩

set_option maxHeartbeats 2000000 in
theorem create0Inl_s (hi : s.init = false) (hcur : s.cur = .pointer none) (hmax : s.max = 17179869184) (hnm : Nm nm) (hne : lfN ≠ nm) (hinl : s.inl = true) (hsz : size ≤ 136) :
    Spec Tryz.prog 50 [Pt bW, SV nm, Pt bF] [[(0, GPO eG frG)]] [[(bW, WO s)], [(s.disk, DO v p)], [(bF, FO size 0)]]
      (fun r : ((Nat × Nat × Nat × Nat) × (Value × Chunk)) × ((Nat × Nat × Nat × Nat) × (Value × Chunk)) => Own 156 1 r.2.2.1 12 (ptr0 r.1.1.1 r.1.1.2.2.1 ++ [Pt r.2.1.1]) r.2.2.2) (fun _ => .nilIface)
      (fun r => [[(bW, WO { s with inodes := r.2.2.1, pos := 8192, init := true, gd := 1, name := nm, cur := Pt r.2.1.1, dw := 0, dm := size })], [(s.disk, DO v 8192)], r.2.2.2, [(r.1.1.1, IOb (rootI 3 r.1.1.2.1))],
        [(r.1.1.2.1, .map (mE [(lfN, Pt r.1.1.2.2.1, 0), (nm, Pt r.2.1.1, 1)]) 2)], [(r.1.1.2.2.1, IOb (lfI r.1.1.2.2.2))], [(r.1.1.2.2.2, .map (mE []) 0)], [(r.2.1.1, IOb (mkI 12 32768 size 1 268697600 (Sl r.2.1.2.1 0 size size) (Sl r.2.1.2.2.1 0 104 104) (.map none)))], [(r.2.1.2.1, BO (List.replicate size 0) 5 (0, 0))], [(r.2.1.2.2.1, BO (xinB (List.replicate (size - 60) 0)) 5 (0, 0))]]) := by
  refine Spec.of Tryz.func50 rfl Tryz.ntmps50 (by simp) fun w => ?_
  have hfree : ∀ z : Value, mget [(lfN, z, 0)] nm = none := fun z => by rw [mget, if_neg hne]; rfl
  refine T.sr <| Rl.q (Qt.as (v := .nilIface)) <| Rl.nilK <| ?_
  refine T.seq ?_
  refine T.sr <| Rl.q Qt.mv <| Rl.e (Ef.call (S := fin_init_s hi hcur hmax)) fun q hq => Rl.q Qt.as <| Rl.nilK <| ?_
  refine T.sr <| Rl.q Qt.mv <| Rl.q Qt.ineNil <| Rl.nilK <| ?_
  refine T.condF ?_
  refine T.skip <| Ex.K <| ?_
  have hq2 := hq
  obtain ⟨bA, cA, spA, hvA, hcA, hcA2, hEA, hspA⟩ := hq.some (by decide)
  rw [hvA, hEA] at hq2
  rw [hvA, hEA]
  refine T.sr <| Rl.q Qt.mv <| Rl.q Qt.mv <| Rl.e (Ef.qcall (S := lookup_q (s := { s with inodes := Sl bA 0 11 cA, pos := 8192, init := true, gd := 1 }) (me := false) (m := [(lfN, Pt q.1.2.2.1, 0)]) (l := ptr0 q.1.1 q.1.2.2.1 ++ spA) (k := 11) (cap := cA) (cM := 1) (x := rootI 3 q.1.2.1) (bM := q.1.2.1) (bR := q.1.1) hnm rfl (by decide) (by decide) rfl (by show 16877 < 65536; decide) (by show 16877 &&& 61440 = 16384; decide) rfl (by rw [hfree]; rfl) (.inl ⟨rfl, rfl⟩))) fun _ _ => Rl.q Qt.mv <| Rl.q Qt.ex <| Rl.q Qt.ex <| Rl.q Qt.ex <| ?_
  refine Rl.q Qt.ex <| Rl.q Qt.as <| Rl.q Qt.as <| Rl.q Qt.as <| Rl.q Qt.as <| Rl.nilK <| ?_
  refine T.seq ?_
  refine T.sr <| Rl.q Qt.mv <| Rl.q Qt.ineNil <| Rl.nilK <| ?_
  refine T.condF ?_
  refine T.skip <| Ex.K <| ?_
  refine T.sr <| Rl.q (Qt.as (v := .pointer none)) <| Rl.nilK <| ?_
  refine T.seq ?_
  refine T.sr <| Rl.q Qt.mv <| Rl.q Qt.pneNil <| Rl.nilK <| ?_
  refine T.condF ?_
  refine T.sr <| Rl.q Qt.mv <| Rl.q Qt.nc <| Rl.q Qt.fa <| Rl.q Qt.ld <| Rl.q (Qt.toN (c := 0) (Qt.and (a := 0) (b := 61440) (h := by decide)) rfl) <| Rl.q (Qt.eqF (a := 0) (b := 16384) (h := by decide)) <| Rl.q Qt.mv <| ?_
  refine Rl.gf <| Rl.gf <| Rl.gf <| Rl.gf <| Rl.gf <| Rl.q (Qt.pkF (v := .bool false)) <| Rl.nilK <| ?_
  refine T.condF ?_
  refine T.skip <| Ex.K <| ?_
  refine T.sr <| Rl.q Qt.mv <| Rl.q Qt.mv <| Rl.q Qt.mv <| Rl.e (Ef.call (S := makeRegInl_s (s := { s with inodes := Sl bA 0 11 cA, pos := 8192, init := true, gd := 1 }) (k := 11) rfl hq2 (by decide) hinl hsz)) fun r hr => Rl.q Qt.mv <| Rl.q Qt.ex <| Rl.q Qt.ex <| ?_
  refine Rl.q Qt.as <| Rl.q Qt.as <| Rl.nilK <| ?_
  refine T.seq ?_
  refine T.sr <| Rl.q Qt.mv <| Rl.q Qt.ineNil <| Rl.nilK <| ?_
  refine T.condF ?_
  refine T.skip <| Ex.K <| ?_
  refine T.seq ?_
  refine T.sr <| Rl.q Qt.mv <| Rl.q Qt.mv <| Rl.q (Qt.pneNS) <| Rl.nilK <| ?_
  refine T.condT ?_
  refine T.seq ?_
  refine T.sr <| Rl.q Qt.mv <| Rl.q Qt.pneNil <| Rl.nilK <| ?_
  refine T.condF ?_
  refine T.skip <| Ex.K <| ?_
  refine T.sr <| Rl.q Qt.mv <| Rl.q Qt.nc <| Rl.q Qt.fa <| Rl.q Qt.ld <| Rl.q Qt.mv <| Rl.q Qt.mv <| Rl.e0 Ef.mu fun _ _ => ?_
  refine Rl.nilK <| ?_
  have hms : mset [(lfN, Pt q.1.2.2.1, 0)] nm (Pt r.1.1) 1 = [(lfN, Pt q.1.2.2.1, 0), (nm, Pt r.1.1, 1)] := by rw [mset, if_neg hne]; rfl
  have hmc : mclk [(lfN, Pt q.1.2.2.1, 0)] nm 1 = 2 := by rw [mclk, hfree]
  rw [hms, hmc]
  refine T.sr <| Rl.q Qt.mv <| Rl.q Qt.nc <| Rl.q Qt.fa <| Rl.q Qt.ld <| Rl.q (Qt.add (b := 1)) <| Rl.q Qt.nc <| Rl.q Qt.fa <| ?_
  refine Rl.e0 Ef.st1 fun _ _ => Rl.nilK <| ?_
  refine T.sr <| Rl.q Qt.mv <| Rl.e (Ef.qcall (S := isDirF_q (x := (mkI 12 32768 size 1 268697600 (Sl r.1.2.1 0 size size) (Sl r.1.2.2.1 0 104 104) (.map none))) (by show 32768 < 65536; decide) (by show 32768 &&& 61440 ≠ 16384; decide))) fun _ _ => Rl.nilK <| ?_
  refine T.condF ?_
  refine T.skip <| Ex.K <| ?_
  refine T.seq ?_
  refine T.sr <| Rl.q Qt.mv <| Rl.q Qt.nc <| Rl.q Qt.fa <| Rl.q Qt.ld <| Rl.q (Qt.toN (c := 32768) (Qt.and (a := 32768) (b := 61440) (h := by decide)) rfl) <| Rl.q (Qt.eqT (a := 32768) (b := 32768) (h := rfl)) <| Rl.nilK <| ?_
  refine T.condT ?_
  refine T.region <| Rl.q Qt.mv <| Rl.q Qt.mv <| Rl.q Qt.mv <| Rl.q Qt.mv <| Rl.q Qt.nc <| Rl.q Qt.fa <| Rl.q Qt.ld <| ?_
  refine Rl.e (Ef.call (S := startInode_s (s := { s with inodes := r.2.1, pos := 8192, init := true, gd := 1 }) hcur)) fun _ _ => Rl.nil <| Ex.K <| ?_
  refine T.sr <| Rl.q (Qt.as (v := .nilIface)) <| Rl.nilK <| ?_
  refine T.ret <| Ex.ret1 (.inl rfl) rfl ?_ rfl
  exact fun w h => ⟨(q, r), hr, rfl, h.re⟩
end SL
end Go.Proofs.YtlmiekcmjpnobaaGreatDoor
namespace Go.Proofs.YtlmiekcmjpnobaaGreatDoor
open Go
namespace SL
set_option maxRecDepth 20000

section
variable {P : Program} {Ro : Heap}
theorem Spec.frame {f : FuncId} {α : Type} {args : List Value} {Rc Hp Hp' F : Heap} {φ : α → Prop} {ret : α → Value} {Hq : α → Heap} (S : Spec P f args Rc Hp φ ret Hq) (pk : Pk Hp' Hp F) (hr : SubR Rc F Ro) :
    Spec P f args Ro Hp' φ ret (fun x => Hq x ++ F) := fun w h1 h2 h3 h4 => by
  have hh := Hs.init h1 h3 h2 h4
  have hF := hh.drop (H' := F) (X := Hp) (List.perm_append_comm.trans pk.perm)
  have hP := hh.pick pk
  have hnd := (pk.perm.map (fun p : Nat × Obj => p.1)).nodup_iff.2 hh.nodup
  rw [List.map_append, List.nodup_append] at hnd
  have hdis : ∀ b ∈ keys Rc, b ∉ keys Hp := fun b hb hk => by
    obtain ⟨p, hp, rfl⟩ := List.mem_map.1 hb
    obtain ⟨q, hq, e⟩ := List.mem_map.1 hk
    rcases hr.mem p hp with h1 | h1
    · exact hnd.2.2 q.1 (List.mem_map_of_mem hq) p.1 (List.mem_map_of_mem h1) e
    · have h2 := hh.roold p h1
      have h3 := hP.own q hq
      rw [e] at h3
      rcases h3 with h3 | h3
      · exact h2.2 h3
      · omega
  exact (S w hP.sub (hr.ok hF.sub hh.ro) hP.nodup hdis).mono fun e w' ⟨x, hx, he, hq⟩ => ⟨x, hx, he, hh.call pk hq⟩
theorem Spec.conv {f : FuncId} {α β : Type} {args : List Value} {Hp : Heap} {φ : α → Prop} {ret : α → Value} {Hq : α → Heap} {ψ : β → Prop} {ret' : β → Value} {Hq' : β → Heap} (S : Spec P f args Ro Hp φ ret Hq)
    (k : ∀ x, φ x → ∃ y, ψ y ∧ ret x = ret' y ∧ ∃ X, Pk (Hq x) (Hq' y) X) : Spec P f args Ro Hp ψ ret' Hq' := fun w h1 h2 h3 h4 =>
  (S w h1 h2 h3 h4).mono fun e w' ⟨x, hx, he, hq⟩ => by
    obtain ⟨y, hy, hr, X, pk⟩ := k x hx
    exact ⟨y, hy, he.trans (congrArg _ hr), hq.pick pk⟩
theorem QSpec.spec {f : FuncId} {args : List Value} {Rc Hp : Heap} {v : Value} (S : QSpec P f args Rc v) (hr : ∀ p ∈ Rc.flatten, p ∈ Hp.flatten) : Spec P f args [] Hp (fun _ : Unit => True) (fun _ => v) (fun _ => Hp) := fun w h1 h2 h3 h4 =>
  (S w (fun p hp => h1 p (hr p hp))).mono fun e w' ⟨he, hg⟩ => ⟨(), trivial, he, (Hs.init h1 h3 h2 h4).grow hg⟩
end
variable {bW bD bN b o k c e p st nb bX capX eX bx bS bA cA eA eG bv ov n cv ev bF md size bR bM cM : Nat} {R Rv sp ptrs : List Value} {fr frA frG fv : Nat × Nat} {bs xs zs val nm : List UInt8} {l : List Value} {v vA : Value} {E EA D : Chunk} {s : WS} {x xr : WI} {m : MEs}
/-- What is kept of a file behind finishing it: how its inode is then, and its data. -/
abbrev FinS (bW bN : Nat) (s : WS) (v : Value) (E : Chunk) (x : WI) (D : Chunk) (xs' : List UInt8) (x' : Value → WI) (dat : Value → Chunk → Prop) : Prop :=
  Spec Tryz.prog 80 [Pt bW] [] [[(s.disk, DO v s.pos)], E, [(bW, WO s)], [(bN, IOb x)], D] (fun r : (Value × Chunk) × (Value × Chunk) => DskOk r.1.1 r.1.2 xs' ∧ dat r.2.1 r.2.2) (fun _ => .nilIface)
    (fun r => [[(s.disk, DO r.1.1 xs'.length)], r.1.2, [(bW, WO { s with pos := xs'.length, cur := .pointer none, dw := 0, dm := 0 })], [(bN, IOb (x' r.2.1))], r.2.2])
theorem finS_none (hi : s.init = true) (hcur : s.cur = .pointer none) (hdw : s.dw = 0) (hdm : s.dm = 0) (hd : DskOk v E xs) (hp : s.pos = xs.length) : FinS bW bN s v E x D xs (fun _ => x) (fun _ C => C = D) := by
  have hS := QSpec.spec (P := Tryz.prog) (Hp := [[(s.disk, DO v s.pos)], E, [(bW, WO s)], [(bN, IOb x)], D]) (fin_none_q (bW := bW) hi hcur) (by simp)
  refine hS.conv fun _ _ => ⟨((v, E), (nilP, D)), ⟨hd, rfl⟩, rfl, [], ?_⟩
  have es : { s with pos := xs.length, cur := .pointer none, dw := 0, dm := 0 } = s := by rw [← hp, ← hcur]; cases s; simp_all
  show Pk _ [[(s.disk, DO v xs.length)], E, [(bW, WO { s with pos := xs.length, cur := .pointer none, dw := 0, dm := 0 })], [(bN, IOb x)], D] []
  rw [es, ← hp]
  exact .cons .here <| .cons .here <| .cons .here <| .cons .here <| .cons .here .nil
theorem finS_zero (hi : s.init = true) (hcur : s.cur = Pt bN) (hdw : s.dw = 0) (hdm : s.dm = 0) (hd : DskOk v E xs) (hp : s.pos = xs.length) : FinS bW bN s v E x D xs (fun _ => x) (fun _ C => C = D) := by
  have hS := (fin_zero_s (bW := bW) hi hcur hdw hdm).frame (Ro := []) (Hp' := [[(s.disk, DO v s.pos)], E, [(bW, WO s)], [(bN, IOb x)], D]) (F := [[(s.disk, DO v s.pos)], E, [(bN, IOb x)], D]) (.cons (.there (.there .here)) .nil) .nil
  refine hS.conv fun _ _ => ⟨((v, E), (nilP, D)), ⟨hd, rfl⟩, rfl, [], ?_⟩
  show Pk _ [[(s.disk, DO v xs.length)], E, [(bW, WO { s with pos := xs.length, cur := .pointer none, dw := 0, dm := 0 })], [(bN, IOb x)], D] []
  rw [← hp]
  exact .cons (.there .here) <| .cons (.there .here) <| .cons .here <| .cons .here <| .cons .here .nil
theorem finS_inl (hi : s.init = true) (hcur : s.cur = Pt bN) (h0 : 0 < s.dm) (hdw : s.dw = s.dm) (hfl : x.flags &&& 268435456 ≠ 0) (hfl2 : x.flags < 4294967296) (hd : DskOk v E xs) (hp : s.pos = xs.length) : FinS bW bN s v E x D xs (fun _ => x) (fun _ C => C = D) := by
  have hS0 := fin_inl_s (bW := bW) h0 hi hcur hdw hfl hfl2
  have hS : Spec Tryz.prog 80 [Pt bW] [] [[(s.disk, DO v s.pos)], E, [(bW, WO s)], [(bN, IOb x)], D] (fun _ : Unit => True) (fun _ => .nilIface) (fun _ => [[(bW, WO { s with cur := .pointer none, dw := 0, dm := 0 })]] ++ [[(s.disk, DO v s.pos)], E, [(bN, IOb x)], D]) :=
    hS0.frame (.cons (.there (.there .here)) .nil) (SubR.left (.there (.there .here)) .nil)
  refine hS.conv fun _ _ => ⟨((v, E), (nilP, D)), ⟨hd, rfl⟩, rfl, [], ?_⟩
  show Pk _ [[(s.disk, DO v xs.length)], E, [(bW, WO { s with pos := xs.length, cur := .pointer none, dw := 0, dm := 0 })], [(bN, IOb x)], D] []
  rw [← hp]
  exact .cons (.there .here) <| .cons (.there .here) <| .cons .here <| .cons .here <| .cons .here .nil
theorem finS_ext (hi : s.init = true) (hcur : s.cur = Pt bN) (hdw : s.dw = s.dm) (hd : DskOk v E xs) (hp : s.pos = xs.length) (hst : s.pos = st * 4096 + s.dw) (h0 : 0 < s.dw) (hdw2 : s.dw ≤ 134217728) (hnb : (s.dw + 4095) / 4096 = nb) (h1 : s.pos + 4096 ≤ s.max) (h3 : s.max < 1099511627776) (hbc : x.bc + nb < 4294967296) (hfl : x.flags < 4294967296) (hinl : x.flags &&& 268435456 = 0) :
    FinS bW bN s v E x D (padZ xs ((st + nb) * 4096)) (fun a => { x with data := a, flags := x.flags ||| 524288, bc := x.bc + nb }) (fun a C => Own 5 1 a 60 (bc (ext1B st nb)) C) := by
  have hS0 := fin_ext_s (bW := bW) (bN := bN) hi hcur hdw hd hp hst h0 hdw2 hnb h1 h3 hbc hfl hinl
  have hS := hS0.frame (Ro := []) (Hp' := [[(s.disk, DO v s.pos)], E, [(bW, WO s)], [(bN, IOb x)], D]) (F := [D]) (.cons .here <| .cons .here <| .cons .here <| .cons .here .nil) .nil
  have hl : (padZ xs ((st + nb) * 4096)).length = (st + nb) * 4096 := by
    rw [padZ_length]; exact Nat.max_eq_right (by omega)
  refine hS.conv fun r hr => ⟨r, hr, rfl, [D], ?_⟩
  rw [hl]
  exact .cons .here <| .cons .here <| .cons .here <| .cons .here <| .cons .here .nil
set_option maxHeartbeats 2000000 in
/-- One more name, in the root, for a file whose inode is the last. -/
theorem link_s {old : List UInt8} {x' : Value → WI} {dat : Value → Chunk → Prop} {xs' : List UInt8} {L : Nat} (F : FinS bW bN s v E x D xs' x' dat) (hx : ∀ a, (x' a).mode = 32768 ∧ (x' a).links = L) (hL : L < 60000)
    (hnm : Nm nm) (hold : Nm old) (hinA : s.inodes = Sl bA 0 k cA) (hk : k < 1000000) (hk2 : 2 ≤ k) (hv : nth l 1 = some (Pt bR)) (hmode : xr.mode < 65536) (hdir : xr.mode &&& 61440 = 16384) (hkids : xr.kids = .map (some bM))
    (hfree : mget m nm = none) (hhas : mget m old = some (Pt bN)) :
    Spec Tryz.prog 53 [Pt bW, SV old, SV nm] [[(bA, .cells l.toArray 156 fr)], [(bR, IOb xr)]] [[(s.disk, DO v s.pos)], E, [(bW, WO s)], [(bN, IOb x)], D, [(bM, .map (mE m) cM)]]
      (fun r : (Value × Chunk) × (Value × Chunk) => DskOk r.1.1 r.1.2 xs' ∧ dat r.2.1 r.2.2) (fun _ => .nilIface)
      (fun r => [[(s.disk, DO r.1.1 xs'.length)], r.1.2, [(bW, WO { s with pos := xs'.length, cur := .pointer none, dw := 0, dm := 0 })], [(bN, IOb { x' r.2.1 with links := L + 1 })], r.2.2, [(bM, .map (mE (mset m nm (Pt bN) cM)) (mclk m nm cM))]]) := by
  refine Spec.of Tryz.func53 rfl Tryz.ntmps53 (by simp) fun w => ?_
  have S2 : ∀ nmx me rr, Nm nmx → kidV (mget m nmx) = rr → (rr = .pointer none ∧ me = false ∨ ∃ p, rr = .pointer (some p)) → QSpec Tryz.prog 81 [Pt bW, SV nmx, .bool me] [[(bW, WO { s with pos := xs'.length, cur := .pointer none, dw := 0, dm := 0 })], [(bA, .cells l.toArray 156 fr)], [(bR, IOb xr)], [(bM, .map (mE m) cM)]] (.tuple #[Pt bR, rr, SV nmx, .nilIface]) :=
    fun nmx me rr h1 h2 h3 => lookup_q (s := { s with pos := xs'.length, cur := .pointer none, dw := 0, dm := 0 }) h1 hinA hk hk2 hv hmode hdir hkids h2 h3
  refine T.sr <| Rl.q (Qt.as (v := .nilIface)) <| Rl.nilK <| ?_
  refine T.seq ?_
  refine T.sr <| Rl.q Qt.mv <| Rl.e (Ef.call (S := F)) fun r hr => Rl.q Qt.as <| Rl.nilK <| ?_
  refine T.sr <| Rl.q Qt.mv <| Rl.q Qt.ineNil <| Rl.nilK <| ?_
  refine T.condF ?_
  refine T.skip <| Ex.K <| ?_
  refine T.sr <| Rl.q Qt.mv <| Rl.q Qt.mv <| Rl.e (Ef.qcall (S := S2 nm false (.pointer none) hnm (by rw [hfree]; rfl) (.inl ⟨rfl, rfl⟩))) fun _ _ => Rl.q Qt.mv <| Rl.q Qt.ex <| Rl.q Qt.ex <| Rl.q Qt.ex <| ?_
  refine Rl.q Qt.ex <| Rl.q Qt.as <| Rl.q Qt.as <| Rl.q Qt.as <| Rl.q Qt.as <| Rl.nilK <| ?_
  refine T.seq ?_
  refine T.sr <| Rl.q Qt.mv <| Rl.q Qt.ineNil <| Rl.nilK <| ?_
  refine T.condF ?_
  refine T.skip <| Ex.K <| ?_
  refine T.seq ?_
  refine T.sr <| Rl.q Qt.mv <| Rl.q Qt.pneNil <| Rl.q Qt.mv <| Rl.gf <| Rl.gf <| Rl.gfu <| Rl.guu <| Rl.guu <| Rl.guu <| Rl.guu <| Rl.guu <| Rl.gf <| Rl.q (Qt.pkF (v := .bool false)) <| ?_
  refine Rl.nilK <| ?_
  refine T.condF ?_
  refine T.skip <| Ex.K <| ?_
  refine T.sr <| Rl.q Qt.mv <| Rl.q Qt.mv <| Rl.e (Ef.qcall (S := S2 old true (Pt bN) hold (by rw [hhas]; rfl) (.inr ⟨_, rfl⟩))) fun _ _ => Rl.q Qt.mv <| Rl.q Qt.ex <| Rl.q Qt.ex <| Rl.q Qt.ex <| ?_
  refine Rl.q Qt.ex <| Rl.q Qt.as <| Rl.q Qt.as <| Rl.q Qt.as <| Rl.q Qt.as <| Rl.nilK <| ?_
  refine T.seq ?_
  refine T.sr <| Rl.q Qt.mv <| Rl.q Qt.ineNil <| Rl.nilK <| ?_
  refine T.condF ?_
  refine T.skip <| Ex.K <| ?_
  refine T.seq ?_
  refine T.sr <| Rl.q Qt.mv <| Rl.q Qt.nc <| Rl.q Qt.fa <| Rl.q (Qt.toN (c := 32768) Qt.ld ((hx _).1)) <| Rl.q (Qt.toN (c := 32768) (Qt.and (a := 32768) (b := 61440) (h := by decide)) rfl) <| Rl.nilK <| ?_
  refine T.block ?_
  refine T.sr <| Rl.q (Qt.eqF (a := 32768) (b := 16384) (h := by decide)) <| Rl.q Qt.as <| Rl.nilK <| ?_
  refine T.condF ?_
  refine T.skip <| Ex.Bnormal <| Ex.K <| ?_
  refine T.seq ?_
  refine T.sr <| Rl.q Qt.mv <| Rl.q Qt.mv <| Rl.q (Qt.pneNS) <| Rl.q Qt.mv <| Rl.gt <| Rl.q Qt.mv <| Rl.gt <| Rl.q Qt.nc <| ?_
  refine Rl.gt <| Rl.q Qt.fa <| Rl.gt <| Rl.q (Qt.toN (c := L) Qt.ld ((hx _).2)) <| Rl.gt <| Rl.q (Qt.geF (b := 65000)) <| Rl.q Qt.pkT <| Rl.nilK <| ?_
  refine T.condF ?_
  refine T.skip <| Ex.K <| ?_
  refine T.seq ?_
  refine T.sr <| Rl.q Qt.mv <| Rl.q Qt.pneNil <| Rl.nilK <| ?_
  refine T.condF ?_
  refine T.skip <| Ex.K <| ?_
  refine T.sr <| Rl.q Qt.mv <| Rl.q Qt.nc <| Rl.q Qt.fa <| Rl.q (Qt.toN (c := L) Qt.ld ((hx _).2)) <| Rl.q (Qt.add (b := 1)) <| Rl.q Qt.nc <| Rl.q Qt.fa <| ?_
  refine Rl.e0 Ef.st1 fun _ _ => Rl.nilK <| ?_
  refine T.sr <| Rl.q Qt.mv <| Rl.q Qt.nc <| Rl.q Qt.fa <| Rl.q (Qt.to (u := .map (some bM)) Qt.ld (hkids)) <| Rl.q Qt.mv <| Rl.q Qt.mv <| Rl.e0 Ef.mu fun _ _ => ?_
  refine Rl.nilK <| ?_
  refine T.sr <| Rl.q (Qt.as (v := .nilIface)) <| Rl.nilK <| ?_
  refine T.ret <| Ex.ret1 (.inl rfl) rfl ?_ rfl
  exact fun w h => ⟨r, hr, rfl, h.re⟩
end SL
end Go.Proofs.YtlmiekcmjpnobaaGreatDoor
namespace Go.Proofs.YtlmiekcmjpnobaaGreatDoor
open Go
namespace SL
set_option maxRecDepth 20000

theorem nth_mid {A B : List Value} {blk : List UInt8} {a n i j : Nat} {v : Value} (hA : A.length = a) (hb : blk.length = n) (hv : nth B i = some v) (hj : j = a + n + i) : nth (A ++ (bc blk ++ B)) j = some v := by
  subst hj; subst hA; subst hb
  rw [nth_eq] at hv ⊢
  rw [List.getElem?_append_right (by omega), List.getElem?_append_right (by rw [bc_length]; omega), bc_length, ← hv]
  congr 1; omega
theorem seg_mid {A B : List Value} {blk : List UInt8} {a n : Nat} (hA : A.length = a) (hb : blk.length = n) : seg (A ++ (bc blk ++ B)) a (n * 1) = some (bc blk) := by
  subst hA; subst hb
  rw [seg_eq (by simp [bc_length]), Nat.mul_one, List.drop_left, ← bc_length, List.take_left]
theorem Own.ba (xs : List UInt8) {v : Value} {E : Chunk} {blk : List UInt8} {n : Nat} (hb : blk.length = n) (h : Own 5 1 v (xs.length + n) (bc xs ++ bc blk) E) : Own 5 1 v (xs ++ blk).length (bc (xs ++ blk)) E := by
  rw [bc_app, List.length_append, hb]; exact h
def inoB (a0 a1 a2 a3 a4 a5 a6 a7 a8 a9 a10 a11 g0 g1 g2 g3 g4 g5 g6 g7 g8 g9 g10 g11 g12 g13 g14 g15 g16 g17 g18 : Nat) (blk : List UInt8) : List UInt8 := leB 2 a0 ++ (leB 2 a1 ++ (leB 4 a2 ++ (leB 4 a3 ++ (leB 4 a4 ++ (leB 4 a5 ++ (leB 4 a6 ++ (leB 2 a7 ++ (leB 2 a8 ++ (leB 4 a9 ++ (leB 4 a10 ++ (leB 4 a11 ++ (blk ++ (leB 4 g0 ++ (leB 4 g1 ++ (leB 4 g2 ++ (leB 4 g3 ++ (leB 2 g4 ++ (leB 2 g5 ++ (leB 2 g6 ++ (leB 2 g7 ++ (leB 2 g8 ++ (leB 2 g9 ++ (leB 2 g10 ++ (leB 2 g11 ++ (leB 4 g12 ++ (leB 4 g13 ++ (leB 4 g14 ++ (leB 4 g15 ++ (leB 4 g16 ++ (leB 4 g17 ++ (leB 4 g18)))))))))))))))))))))))))))))))
theorem inoB_length {a0 a1 a2 a3 a4 a5 a6 a7 a8 a9 a10 a11 g0 g1 g2 g3 g4 g5 g6 g7 g8 g9 g10 g11 g12 g13 g14 g15 g16 g17 g18 : Nat} {blk : List UInt8} (hb : blk.length = 60) : (inoB a0 a1 a2 a3 a4 a5 a6 a7 a8 a9 a10 a11 g0 g1 g2 g3 g4 g5 g6 g7 g8 g9 g10 g11 g12 g13 g14 g15 g16 g17 g18 blk).length = 160 := by simp [inoB, leB_length, hb]
set_option maxHeartbeats 4000000 in
theorem ino_s {a0 a1 a2 a3 a4 a5 a6 a7 a8 a9 a10 a11 g0 g1 g2 g3 g4 g5 g6 g7 g8 g9 g10 g11 g12 g13 g14 g15 g16 g17 g18 : Nat} {blk : List UInt8} (hb : blk.length = 60) :
    Spec Tryz.prog 148 [.agg ([N .u16 a0, N .u16 a1, N .u32 a2, N .u32 a3, N .u32 a4, N .u32 a5, N .u32 a6, N .u16 a7, N .u16 a8, N .u32 a9, N .u32 a10, N .u32 a11] ++ (bc blk ++ [N .u32 g0, N .u32 g1, N .u32 g2, N .u32 g3, N .u16 g4, N .u16 g5, N .u16 g6, N .u16 g7, N .u16 g8, N .u16 g9, N .u16 g10, N .u16 g11, N .u32 g12, N .u32 g13, N .u32 g14, N .u32 g15, N .u32 g16, N .u32 g17, N .u32 g18])).toArray] [] [] (fun r : Value × Chunk => Own 5 1 r.1 160 (bc (inoB a0 a1 a2 a3 a4 a5 a6 a7 a8 a9 a10 a11 g0 g1 g2 g3 g4 g5 g6 g7 g8 g9 g10 g11 g12 g13 g14 g15 g16 g17 g18 blk)) r.2) (fun r => r.1) (fun r => [r.2]) := by
  refine Spec.of Tryz.func148 rfl Tryz.ntmps148 (by simp) fun w => ?_
  refine T.sr <| Rl.e Ef.bxA fun b1 hb1 => Rl.q (Qt.as (v := .slice none 0 0)) <| Rl.nilK <| ?_
  refine T.sr <| Rl.q (Qt.as (v := .slice none 0 0)) <| Rl.nilK <| ?_
  refine T.add0 ?_
  refine T.sr <| Rl.q Qt.mv <| Rl.q Qt.fa0 <| Rl.q Qt.ld <| Rl.e (Ef.call (S := fput16_s (xs := []) (x := a0) (Own.nil 5 1) (by simp [leB_length, hb]))) fun r7 h7 => Rl.q Qt.as <| Rl.nilK <| ?_
  refine T.sr <| Rl.q Qt.mv <| Rl.q Qt.fa <| Rl.q Qt.ld <| Rl.e (Ef.call (S := fput16_s (xs := [] ++ leB 2 a0) (x := a1) h7 (by simp [leB_length, hb]))) fun r11 h11 => Rl.q Qt.as <| Rl.nilK <| ?_
  refine T.sr <| Rl.q Qt.mv <| Rl.q Qt.fa <| Rl.q Qt.ld <| Rl.e (Ef.call (S := fput32_s (xs := [] ++ leB 2 a0 ++ leB 2 a1) (x := a2) h11 (by simp [leB_length, hb]))) fun r15 h15 => Rl.q Qt.as <| Rl.nilK <| ?_
  refine T.sr <| Rl.q Qt.mv <| Rl.q Qt.fa <| Rl.q Qt.ld <| Rl.e (Ef.call (S := fput32_s (xs := [] ++ leB 2 a0 ++ leB 2 a1 ++ leB 4 a2) (x := a3) h15 (by simp [leB_length, hb]))) fun r19 h19 => Rl.q Qt.as <| Rl.nilK <| ?_
  refine T.sr <| Rl.q Qt.mv <| Rl.q Qt.fa <| Rl.q Qt.ld <| Rl.e (Ef.call (S := fput32_s (xs := [] ++ leB 2 a0 ++ leB 2 a1 ++ leB 4 a2 ++ leB 4 a3) (x := a4) h19 (by simp [leB_length, hb]))) fun r23 h23 => Rl.q Qt.as <| Rl.nilK <| ?_
  refine T.sr <| Rl.q Qt.mv <| Rl.q Qt.fa <| Rl.q Qt.ld <| Rl.e (Ef.call (S := fput32_s (xs := [] ++ leB 2 a0 ++ leB 2 a1 ++ leB 4 a2 ++ leB 4 a3 ++ leB 4 a4) (x := a5) h23 (by simp [leB_length, hb]))) fun r27 h27 => Rl.q Qt.as <| Rl.nilK <| ?_
  refine T.sr <| Rl.q Qt.mv <| Rl.q Qt.fa <| Rl.q Qt.ld <| Rl.e (Ef.call (S := fput32_s (xs := [] ++ leB 2 a0 ++ leB 2 a1 ++ leB 4 a2 ++ leB 4 a3 ++ leB 4 a4 ++ leB 4 a5) (x := a6) h27 (by simp [leB_length, hb]))) fun r31 h31 => Rl.q Qt.as <| Rl.nilK <| ?_
  refine T.sr <| Rl.q Qt.mv <| Rl.q Qt.fa <| Rl.q Qt.ld <| Rl.e (Ef.call (S := fput16_s (xs := [] ++ leB 2 a0 ++ leB 2 a1 ++ leB 4 a2 ++ leB 4 a3 ++ leB 4 a4 ++ leB 4 a5 ++ leB 4 a6) (x := a7) h31 (by simp [leB_length, hb]))) fun r35 h35 => Rl.q Qt.as <| Rl.nilK <| ?_
  refine T.sr <| Rl.q Qt.mv <| Rl.q Qt.fa <| Rl.q Qt.ld <| Rl.e (Ef.call (S := fput16_s (xs := [] ++ leB 2 a0 ++ leB 2 a1 ++ leB 4 a2 ++ leB 4 a3 ++ leB 4 a4 ++ leB 4 a5 ++ leB 4 a6 ++ leB 2 a7) (x := a8) h35 (by simp [leB_length, hb]))) fun r39 h39 => Rl.q Qt.as <| Rl.nilK <| ?_
  refine T.sr <| Rl.q Qt.mv <| Rl.q Qt.fa <| Rl.q Qt.ld <| Rl.e (Ef.call (S := fput32_s (xs := [] ++ leB 2 a0 ++ leB 2 a1 ++ leB 4 a2 ++ leB 4 a3 ++ leB 4 a4 ++ leB 4 a5 ++ leB 4 a6 ++ leB 2 a7 ++ leB 2 a8) (x := a9) h39 (by simp [leB_length, hb]))) fun r43 h43 => Rl.q Qt.as <| Rl.nilK <| ?_
  refine T.sr <| Rl.q Qt.mv <| Rl.q Qt.fa <| Rl.q Qt.ld <| Rl.e (Ef.call (S := fput32_s (xs := [] ++ leB 2 a0 ++ leB 2 a1 ++ leB 4 a2 ++ leB 4 a3 ++ leB 4 a4 ++ leB 4 a5 ++ leB 4 a6 ++ leB 2 a7 ++ leB 2 a8 ++ leB 4 a9) (x := a10) h43 (by simp [leB_length, hb]))) fun r47 h47 => Rl.q Qt.as <| Rl.nilK <| ?_
  refine T.sr <| Rl.q Qt.mv <| Rl.q Qt.fa <| Rl.q Qt.ld <| Rl.e (Ef.call (S := fput32_s (xs := [] ++ leB 2 a0 ++ leB 2 a1 ++ leB 4 a2 ++ leB 4 a3 ++ leB 4 a4 ++ leB 4 a5 ++ leB 4 a6 ++ leB 2 a7 ++ leB 2 a8 ++ leB 4 a9 ++ leB 4 a10) (x := a11) h47 (by simp [leB_length, hb]))) fun r51 h51 => Rl.q Qt.as <| Rl.nilK <| ?_
  refine T.sr <| Rl.q Qt.mv <| Rl.q Qt.fa <| Rl.q (Qt.to (u := Sl b1 12 60 60) Qt.slA (rfl)) <| Rl.e (Ef.ap (own := h51) (vs := bc blk) (hs := by exact seg_mid (a := 12) rfl hb) (hl := ⟨rfl, bc_ones _, by simp [leB_length, maxLen], by simp [leB_length]⟩)) fun v55 hv55 => Rl.q Qt.as <| Rl.nilK <| ?_
  have h55 := Own.ba (xs := [] ++ leB 2 a0 ++ leB 2 a1 ++ leB 4 a2 ++ leB 4 a3 ++ leB 4 a4 ++ leB 4 a5 ++ leB 4 a6 ++ leB 2 a7 ++ leB 2 a8 ++ leB 4 a9 ++ leB 4 a10 ++ leB 4 a11) (n := 60) hb hv55
  refine T.sr <| Rl.q Qt.mv <| Rl.q Qt.fa <| Rl.q (Qt.ld (hv := by exact nth_mid (a := 12) (n := 60) (i := 0) rfl hb rfl rfl)) <| Rl.e (Ef.call (S := fput32_s (xs := [] ++ leB 2 a0 ++ leB 2 a1 ++ leB 4 a2 ++ leB 4 a3 ++ leB 4 a4 ++ leB 4 a5 ++ leB 4 a6 ++ leB 2 a7 ++ leB 2 a8 ++ leB 4 a9 ++ leB 4 a10 ++ leB 4 a11 ++ blk) (x := g0) h55 (by simp [leB_length, hb]))) fun r59 h59 => Rl.q Qt.as <| Rl.nilK <| ?_
  refine T.sr <| Rl.q Qt.mv <| Rl.q Qt.fa <| Rl.q (Qt.ld (hv := by exact nth_mid (a := 12) (n := 60) (i := 1) rfl hb rfl rfl)) <| Rl.e (Ef.call (S := fput32_s (xs := [] ++ leB 2 a0 ++ leB 2 a1 ++ leB 4 a2 ++ leB 4 a3 ++ leB 4 a4 ++ leB 4 a5 ++ leB 4 a6 ++ leB 2 a7 ++ leB 2 a8 ++ leB 4 a9 ++ leB 4 a10 ++ leB 4 a11 ++ blk ++ leB 4 g0) (x := g1) h59 (by simp [leB_length, hb]))) fun r63 h63 => Rl.q Qt.as <| Rl.nilK <| ?_
  refine T.sr <| Rl.q Qt.mv <| Rl.q Qt.fa <| Rl.q (Qt.ld (hv := by exact nth_mid (a := 12) (n := 60) (i := 2) rfl hb rfl rfl)) <| Rl.e (Ef.call (S := fput32_s (xs := [] ++ leB 2 a0 ++ leB 2 a1 ++ leB 4 a2 ++ leB 4 a3 ++ leB 4 a4 ++ leB 4 a5 ++ leB 4 a6 ++ leB 2 a7 ++ leB 2 a8 ++ leB 4 a9 ++ leB 4 a10 ++ leB 4 a11 ++ blk ++ leB 4 g0 ++ leB 4 g1) (x := g2) h63 (by simp [leB_length, hb]))) fun r67 h67 => Rl.q Qt.as <| Rl.nilK <| ?_
  refine T.sr <| Rl.q Qt.mv <| Rl.q Qt.fa <| Rl.q (Qt.ld (hv := by exact nth_mid (a := 12) (n := 60) (i := 3) rfl hb rfl rfl)) <| Rl.e (Ef.call (S := fput32_s (xs := [] ++ leB 2 a0 ++ leB 2 a1 ++ leB 4 a2 ++ leB 4 a3 ++ leB 4 a4 ++ leB 4 a5 ++ leB 4 a6 ++ leB 2 a7 ++ leB 2 a8 ++ leB 4 a9 ++ leB 4 a10 ++ leB 4 a11 ++ blk ++ leB 4 g0 ++ leB 4 g1 ++ leB 4 g2) (x := g3) h67 (by simp [leB_length, hb]))) fun r71 h71 => Rl.q Qt.as <| Rl.nilK <| ?_
  refine T.sr <| Rl.q Qt.mv <| Rl.q Qt.fa <| Rl.q (Qt.ld (hv := by exact nth_mid (a := 12) (n := 60) (i := 4) rfl hb rfl rfl)) <| Rl.e (Ef.call (S := fput16_s (xs := [] ++ leB 2 a0 ++ leB 2 a1 ++ leB 4 a2 ++ leB 4 a3 ++ leB 4 a4 ++ leB 4 a5 ++ leB 4 a6 ++ leB 2 a7 ++ leB 2 a8 ++ leB 4 a9 ++ leB 4 a10 ++ leB 4 a11 ++ blk ++ leB 4 g0 ++ leB 4 g1 ++ leB 4 g2 ++ leB 4 g3) (x := g4) h71 (by simp [leB_length, hb]))) fun r75 h75 => Rl.q Qt.as <| Rl.nilK <| ?_
  refine T.sr <| Rl.q Qt.mv <| Rl.q Qt.fa <| Rl.q (Qt.ld (hv := by exact nth_mid (a := 12) (n := 60) (i := 5) rfl hb rfl rfl)) <| Rl.e (Ef.call (S := fput16_s (xs := [] ++ leB 2 a0 ++ leB 2 a1 ++ leB 4 a2 ++ leB 4 a3 ++ leB 4 a4 ++ leB 4 a5 ++ leB 4 a6 ++ leB 2 a7 ++ leB 2 a8 ++ leB 4 a9 ++ leB 4 a10 ++ leB 4 a11 ++ blk ++ leB 4 g0 ++ leB 4 g1 ++ leB 4 g2 ++ leB 4 g3 ++ leB 2 g4) (x := g5) h75 (by simp [leB_length, hb]))) fun r79 h79 => Rl.q Qt.as <| Rl.nilK <| ?_
  refine T.sr <| Rl.q Qt.mv <| Rl.q Qt.fa <| Rl.q (Qt.ld (hv := by exact nth_mid (a := 12) (n := 60) (i := 6) rfl hb rfl rfl)) <| Rl.e (Ef.call (S := fput16_s (xs := [] ++ leB 2 a0 ++ leB 2 a1 ++ leB 4 a2 ++ leB 4 a3 ++ leB 4 a4 ++ leB 4 a5 ++ leB 4 a6 ++ leB 2 a7 ++ leB 2 a8 ++ leB 4 a9 ++ leB 4 a10 ++ leB 4 a11 ++ blk ++ leB 4 g0 ++ leB 4 g1 ++ leB 4 g2 ++ leB 4 g3 ++ leB 2 g4 ++ leB 2 g5) (x := g6) h79 (by simp [leB_length, hb]))) fun r83 h83 => Rl.q Qt.as <| Rl.nilK <| ?_
  refine T.sr <| Rl.q Qt.mv <| Rl.q Qt.fa <| Rl.q (Qt.ld (hv := by exact nth_mid (a := 12) (n := 60) (i := 7) rfl hb rfl rfl)) <| Rl.e (Ef.call (S := fput16_s (xs := [] ++ leB 2 a0 ++ leB 2 a1 ++ leB 4 a2 ++ leB 4 a3 ++ leB 4 a4 ++ leB 4 a5 ++ leB 4 a6 ++ leB 2 a7 ++ leB 2 a8 ++ leB 4 a9 ++ leB 4 a10 ++ leB 4 a11 ++ blk ++ leB 4 g0 ++ leB 4 g1 ++ leB 4 g2 ++ leB 4 g3 ++ leB 2 g4 ++ leB 2 g5 ++ leB 2 g6) (x := g7) h83 (by simp [leB_length, hb]))) fun r87 h87 => Rl.q Qt.as <| Rl.nilK <| ?_
  refine T.sr <| Rl.q Qt.mv <| Rl.q Qt.fa <| Rl.q (Qt.ld (hv := by exact nth_mid (a := 12) (n := 60) (i := 8) rfl hb rfl rfl)) <| Rl.e (Ef.call (S := fput16_s (xs := [] ++ leB 2 a0 ++ leB 2 a1 ++ leB 4 a2 ++ leB 4 a3 ++ leB 4 a4 ++ leB 4 a5 ++ leB 4 a6 ++ leB 2 a7 ++ leB 2 a8 ++ leB 4 a9 ++ leB 4 a10 ++ leB 4 a11 ++ blk ++ leB 4 g0 ++ leB 4 g1 ++ leB 4 g2 ++ leB 4 g3 ++ leB 2 g4 ++ leB 2 g5 ++ leB 2 g6 ++ leB 2 g7) (x := g8) h87 (by simp [leB_length, hb]))) fun r91 h91 => Rl.q Qt.as <| Rl.nilK <| ?_
  refine T.sr <| Rl.q Qt.mv <| Rl.q Qt.fa <| Rl.q (Qt.ld (hv := by exact nth_mid (a := 12) (n := 60) (i := 9) rfl hb rfl rfl)) <| Rl.e (Ef.call (S := fput16_s (xs := [] ++ leB 2 a0 ++ leB 2 a1 ++ leB 4 a2 ++ leB 4 a3 ++ leB 4 a4 ++ leB 4 a5 ++ leB 4 a6 ++ leB 2 a7 ++ leB 2 a8 ++ leB 4 a9 ++ leB 4 a10 ++ leB 4 a11 ++ blk ++ leB 4 g0 ++ leB 4 g1 ++ leB 4 g2 ++ leB 4 g3 ++ leB 2 g4 ++ leB 2 g5 ++ leB 2 g6 ++ leB 2 g7 ++ leB 2 g8) (x := g9) h91 (by simp [leB_length, hb]))) fun r95 h95 => Rl.q Qt.as <| Rl.nilK <| ?_
  refine T.sr <| Rl.q Qt.mv <| Rl.q Qt.fa <| Rl.q (Qt.ld (hv := by exact nth_mid (a := 12) (n := 60) (i := 10) rfl hb rfl rfl)) <| Rl.e (Ef.call (S := fput16_s (xs := [] ++ leB 2 a0 ++ leB 2 a1 ++ leB 4 a2 ++ leB 4 a3 ++ leB 4 a4 ++ leB 4 a5 ++ leB 4 a6 ++ leB 2 a7 ++ leB 2 a8 ++ leB 4 a9 ++ leB 4 a10 ++ leB 4 a11 ++ blk ++ leB 4 g0 ++ leB 4 g1 ++ leB 4 g2 ++ leB 4 g3 ++ leB 2 g4 ++ leB 2 g5 ++ leB 2 g6 ++ leB 2 g7 ++ leB 2 g8 ++ leB 2 g9) (x := g10) h95 (by simp [leB_length, hb]))) fun r99 h99 => Rl.q Qt.as <| Rl.nilK <| ?_
  refine T.sr <| Rl.q Qt.mv <| Rl.q Qt.fa <| Rl.q (Qt.ld (hv := by exact nth_mid (a := 12) (n := 60) (i := 11) rfl hb rfl rfl)) <| Rl.e (Ef.call (S := fput16_s (xs := [] ++ leB 2 a0 ++ leB 2 a1 ++ leB 4 a2 ++ leB 4 a3 ++ leB 4 a4 ++ leB 4 a5 ++ leB 4 a6 ++ leB 2 a7 ++ leB 2 a8 ++ leB 4 a9 ++ leB 4 a10 ++ leB 4 a11 ++ blk ++ leB 4 g0 ++ leB 4 g1 ++ leB 4 g2 ++ leB 4 g3 ++ leB 2 g4 ++ leB 2 g5 ++ leB 2 g6 ++ leB 2 g7 ++ leB 2 g8 ++ leB 2 g9 ++ leB 2 g10) (x := g11) h99 (by simp [leB_length, hb]))) fun r103 h103 => Rl.q Qt.as <| Rl.nilK <| ?_
  refine T.sr <| Rl.q Qt.mv <| Rl.q Qt.fa <| Rl.q (Qt.ld (hv := by exact nth_mid (a := 12) (n := 60) (i := 12) rfl hb rfl rfl)) <| Rl.e (Ef.call (S := fput32_s (xs := [] ++ leB 2 a0 ++ leB 2 a1 ++ leB 4 a2 ++ leB 4 a3 ++ leB 4 a4 ++ leB 4 a5 ++ leB 4 a6 ++ leB 2 a7 ++ leB 2 a8 ++ leB 4 a9 ++ leB 4 a10 ++ leB 4 a11 ++ blk ++ leB 4 g0 ++ leB 4 g1 ++ leB 4 g2 ++ leB 4 g3 ++ leB 2 g4 ++ leB 2 g5 ++ leB 2 g6 ++ leB 2 g7 ++ leB 2 g8 ++ leB 2 g9 ++ leB 2 g10 ++ leB 2 g11) (x := g12) h103 (by simp [leB_length, hb]))) fun r107 h107 => Rl.q Qt.as <| Rl.nilK <| ?_
  refine T.sr <| Rl.q Qt.mv <| Rl.q Qt.fa <| Rl.q (Qt.ld (hv := by exact nth_mid (a := 12) (n := 60) (i := 13) rfl hb rfl rfl)) <| Rl.e (Ef.call (S := fput32_s (xs := [] ++ leB 2 a0 ++ leB 2 a1 ++ leB 4 a2 ++ leB 4 a3 ++ leB 4 a4 ++ leB 4 a5 ++ leB 4 a6 ++ leB 2 a7 ++ leB 2 a8 ++ leB 4 a9 ++ leB 4 a10 ++ leB 4 a11 ++ blk ++ leB 4 g0 ++ leB 4 g1 ++ leB 4 g2 ++ leB 4 g3 ++ leB 2 g4 ++ leB 2 g5 ++ leB 2 g6 ++ leB 2 g7 ++ leB 2 g8 ++ leB 2 g9 ++ leB 2 g10 ++ leB 2 g11 ++ leB 4 g12) (x := g13) h107 (by simp [leB_length, hb]))) fun r111 h111 => Rl.q Qt.as <| Rl.nilK <| ?_
  refine T.sr <| Rl.q Qt.mv <| Rl.q Qt.fa <| Rl.q (Qt.ld (hv := by exact nth_mid (a := 12) (n := 60) (i := 14) rfl hb rfl rfl)) <| Rl.e (Ef.call (S := fput32_s (xs := [] ++ leB 2 a0 ++ leB 2 a1 ++ leB 4 a2 ++ leB 4 a3 ++ leB 4 a4 ++ leB 4 a5 ++ leB 4 a6 ++ leB 2 a7 ++ leB 2 a8 ++ leB 4 a9 ++ leB 4 a10 ++ leB 4 a11 ++ blk ++ leB 4 g0 ++ leB 4 g1 ++ leB 4 g2 ++ leB 4 g3 ++ leB 2 g4 ++ leB 2 g5 ++ leB 2 g6 ++ leB 2 g7 ++ leB 2 g8 ++ leB 2 g9 ++ leB 2 g10 ++ leB 2 g11 ++ leB 4 g12 ++ leB 4 g13) (x := g14) h111 (by simp [leB_length, hb]))) fun r115 h115 => Rl.q Qt.as <| Rl.nilK <| ?_
  refine T.sr <| Rl.q Qt.mv <| Rl.q Qt.fa <| Rl.q (Qt.ld (hv := by exact nth_mid (a := 12) (n := 60) (i := 15) rfl hb rfl rfl)) <| Rl.e (Ef.call (S := fput32_s (xs := [] ++ leB 2 a0 ++ leB 2 a1 ++ leB 4 a2 ++ leB 4 a3 ++ leB 4 a4 ++ leB 4 a5 ++ leB 4 a6 ++ leB 2 a7 ++ leB 2 a8 ++ leB 4 a9 ++ leB 4 a10 ++ leB 4 a11 ++ blk ++ leB 4 g0 ++ leB 4 g1 ++ leB 4 g2 ++ leB 4 g3 ++ leB 2 g4 ++ leB 2 g5 ++ leB 2 g6 ++ leB 2 g7 ++ leB 2 g8 ++ leB 2 g9 ++ leB 2 g10 ++ leB 2 g11 ++ leB 4 g12 ++ leB 4 g13 ++ leB 4 g14) (x := g15) h115 (by simp [leB_length, hb]))) fun r119 h119 => Rl.q Qt.as <| Rl.nilK <| ?_
  refine T.sr <| Rl.q Qt.mv <| Rl.q Qt.fa <| Rl.q (Qt.ld (hv := by exact nth_mid (a := 12) (n := 60) (i := 16) rfl hb rfl rfl)) <| Rl.e (Ef.call (S := fput32_s (xs := [] ++ leB 2 a0 ++ leB 2 a1 ++ leB 4 a2 ++ leB 4 a3 ++ leB 4 a4 ++ leB 4 a5 ++ leB 4 a6 ++ leB 2 a7 ++ leB 2 a8 ++ leB 4 a9 ++ leB 4 a10 ++ leB 4 a11 ++ blk ++ leB 4 g0 ++ leB 4 g1 ++ leB 4 g2 ++ leB 4 g3 ++ leB 2 g4 ++ leB 2 g5 ++ leB 2 g6 ++ leB 2 g7 ++ leB 2 g8 ++ leB 2 g9 ++ leB 2 g10 ++ leB 2 g11 ++ leB 4 g12 ++ leB 4 g13 ++ leB 4 g14 ++ leB 4 g15) (x := g16) h119 (by simp [leB_length, hb]))) fun r123 h123 => Rl.q Qt.as <| Rl.nilK <| ?_
  refine T.sr <| Rl.q Qt.mv <| Rl.q Qt.fa <| Rl.q (Qt.ld (hv := by exact nth_mid (a := 12) (n := 60) (i := 17) rfl hb rfl rfl)) <| Rl.e (Ef.call (S := fput32_s (xs := [] ++ leB 2 a0 ++ leB 2 a1 ++ leB 4 a2 ++ leB 4 a3 ++ leB 4 a4 ++ leB 4 a5 ++ leB 4 a6 ++ leB 2 a7 ++ leB 2 a8 ++ leB 4 a9 ++ leB 4 a10 ++ leB 4 a11 ++ blk ++ leB 4 g0 ++ leB 4 g1 ++ leB 4 g2 ++ leB 4 g3 ++ leB 2 g4 ++ leB 2 g5 ++ leB 2 g6 ++ leB 2 g7 ++ leB 2 g8 ++ leB 2 g9 ++ leB 2 g10 ++ leB 2 g11 ++ leB 4 g12 ++ leB 4 g13 ++ leB 4 g14 ++ leB 4 g15 ++ leB 4 g16) (x := g17) h123 (by simp [leB_length, hb]))) fun r127 h127 => Rl.q Qt.as <| Rl.nilK <| ?_
  refine T.sr <| Rl.q Qt.mv <| Rl.q Qt.fa <| Rl.q (Qt.ld (hv := by exact nth_mid (a := 12) (n := 60) (i := 18) rfl hb rfl rfl)) <| Rl.e (Ef.call (S := fput32_s (xs := [] ++ leB 2 a0 ++ leB 2 a1 ++ leB 4 a2 ++ leB 4 a3 ++ leB 4 a4 ++ leB 4 a5 ++ leB 4 a6 ++ leB 2 a7 ++ leB 2 a8 ++ leB 4 a9 ++ leB 4 a10 ++ leB 4 a11 ++ blk ++ leB 4 g0 ++ leB 4 g1 ++ leB 4 g2 ++ leB 4 g3 ++ leB 2 g4 ++ leB 2 g5 ++ leB 2 g6 ++ leB 2 g7 ++ leB 2 g8 ++ leB 2 g9 ++ leB 2 g10 ++ leB 2 g11 ++ leB 4 g12 ++ leB 4 g13 ++ leB 4 g14 ++ leB 4 g15 ++ leB 4 g16 ++ leB 4 g17) (x := g18) h127 (by simp [leB_length, hb]))) fun r131 h131 => Rl.q Qt.as <| Rl.nilK <| ?_
  refine T.sr <| Rl.q Qt.mv <| Rl.q Qt.as <| Rl.nilK <| ?_
  refine T.ret <| Ex.ret1 (.inl rfl) rfl ?_ rfl
  rw [← inoB_length (a0 := a0) (a1 := a1) (a2 := a2) (a3 := a3) (a4 := a4) (a5 := a5) (a6 := a6) (a7 := a7) (a8 := a8) (a9 := a9) (a10 := a10) (a11 := a11) (g0 := g0) (g1 := g1) (g2 := g2) (g3 := g3) (g4 := g4) (g5 := g5) (g6 := g6) (g7 := g7) (g8 := g8) (g9 := g9) (g10 := g10) (g11 := g11) (g12 := g12) (g13 := g13) (g14 := g14) (g15 := g15) (g16 := g16) (g17 := g17) (g18 := g18) hb]
  exact fun w h => ⟨r131, by simpa only [inoB, List.nil_append, List.append_assoc] using h131, rfl, h.re⟩
end SL
end Go.Proofs.YtlmiekcmjpnobaaGreatDoor
namespace Go.Proofs.YtlmiekcmjpnobaaGreatDoor
open Go
namespace SL
set_option maxRecDepth 20000

section
variable {P : Program} {n : Nat} {g : Gx} {Ro : Heap} {m : Env} {H : Heap} {ty t u e b o k c : Nat} {x y : Operand}
/-- 'copy(x, nil)'. -/
theorem Ef.cpN (hx : ev m x = some (.slice (some ⟨b, o, none⟩) k c) := by rfl) (hy : ev m y = some (.slice none 0 0) := by rfl) (ht : SlT P t e 1 := by infer_instance) :
    Ef P g Ro (.call ⟨.builtin .copy, #[x, y], #[t, u]⟩) ty m H (fun _ : Unit => True) (fun _ => N .i64 0) (fun _ => H) := by
  intro a w dst ps af gd K ha hh hk
  simp only [sw, execOp, resolve, Sem.run_bind, Sem.run_pure, Result.andThen_ok, invoke, builtin, List.map_toArray, List.map_cons, List.map_nil, ev_sound ha hx, ev_sound ha hy,
    Builtin.copy_, a0, a1, ht.und, ht.size, Builtin.lenOf, fcN, Nat.zero_min, storeCells, goInt]
  exact hk () _ trivial hh
end
theorem putL_set {l : List Value} {o : Nat} {v : Value} (h : o < l.length) : putL l o [v] = l.set o v := by
  rw [List.set_eq_take_append_cons_drop, if_pos h]; simp [putL]
theorem fillL_set {place : Nat → Option (Nat × Nat)} {z : List Value} {i o : Nat} {v : Value} {r : List (Nat × Value)} (hp : place i = some (o, 1)) (h1 : one v = true) (ho : o < z.length) : fillL place z ((i, v) :: r) = fillL place (z.set o v) r := by
  have h2 : (Nat.beq [v].length 1 && Nat.ble (o + 1) z.length) = true := by
    simp only [List.length_singleton, Bool.and_eq_true]; exact ⟨rfl, Nat.ble_eq_true_of_le ho⟩
  simp only [fillL, hp, one_vcells h1]
  rw [h2, cond_true, putL_set ho]
theorem fillL_A {place : Nat → Option (Nat × Nat)} {A R : List Value} {i o : Nat} {v : Value} {r : List (Nat × Value)} (hp : place i = some (o, 1)) (h1 : one v = true) (ho : o < A.length) : fillL place (A ++ R) ((i, v) :: r) = fillL place (A.set o v ++ R) r := by
  rw [fillL_set hp h1 (by rw [List.length_append]; omega), List.set_append_left _ _ ho]
theorem fillL_B {place : Nat → Option (Nat × Nat)} {A M B : List Value} {i o j : Nat} {v : Value} {r : List (Nat × Value)} (hp : place i = some (o, 1)) (h1 : one v = true) (hA : A.length = 12) (hM : M.length = 60) (hj : j < B.length) (ho : o = 72 + j) :
    fillL place (A ++ (M ++ B)) ((i, v) :: r) = fillL place (A ++ (M ++ B.set j v)) r := by
  subst ho
  rw [fillL_set hp h1 (by rw [List.length_append, List.length_append]; omega), List.set_append_right _ _ (by omega), List.set_append_right _ _ (by omega), hA, hM, show 72 + j - 12 - 60 = j by omega]
abbrev inoA0 : List Value := [N .u16 0, N .u16 0, N .u32 0, N .u32 0, N .u32 0, N .u32 0, N .u32 0, N .u16 0, N .u16 0, N .u32 0, N .u32 0, N .u32 0]
abbrev inoB0 : List Value := [N .u32 0, N .u32 0, N .u32 0, N .u32 0, N .u16 0, N .u16 0, N .u16 0, N .u16 0, N .u16 0, N .u16 0, N .u16 0, N .u16 0, N .u32 0, N .u32 0, N .u32 0, N .u32 0, N .u32 0, N .u32 0, N .u32 0]
theorem z60 : (bc (List.replicate 60 0)).length = 60 := by rw [bc_length, List.length_replicate]
theorem fill_ino (a0 a1 a7 a2 g2 a8 a9 a10 g1 g6 g7 a3 g14 a4 g12 a5 g13 g15 g16 : Nat) : fillL (fun i => ([(0, 1), (1, 1), (2, 1), (3, 1), (4, 1), (5, 1), (6, 1), (7, 1), (8, 1), (9, 1), (10, 1), (11, 1), (12, 60), (72, 1), (73, 1), (74, 1), (75, 1), (76, 1), (77, 1), (78, 1), (79, 1), (80, 1), (81, 1), (82, 1), (83, 1), (84, 1), (85, 1), (86, 1), (87, 1), (88, 1), (89, 1), (90, 1)] : List (Nat × Nat))[i]?) (inoA0 ++ (bc (List.replicate 60 0) ++ inoB0)) [(0, N .u16 a0), (1, N .u16 a1), (7, N .u16 a7), (2, N .u32 a2), (15, N .u32 g2), (8, N .u16 a8), (9, N .u32 a9), (10, N .u32 a10), (14, N .u32 g1), (19, N .u16 g6), (20, N .u16 g7), (23, N .u16 24), (3, N .u32 a3), (27, N .u32 g14), (4, N .u32 a4), (25, N .u32 g12), (5, N .u32 a5), (26, N .u32 g13), (28, N .u32 g15), (29, N .u32 g16)] =
    some ([N .u16 a0, N .u16 a1, N .u32 a2, N .u32 a3, N .u32 a4, N .u32 a5, N .u32 0, N .u16 a7, N .u16 a8, N .u32 a9, N .u32 a10, N .u32 0] ++ (bc (List.replicate 60 0) ++ [N .u32 0, N .u32 g1, N .u32 g2, N .u32 0, N .u16 0, N .u16 0, N .u16 g6, N .u16 g7, N .u16 0, N .u16 0, N .u16 24, N .u16 0, N .u32 g12, N .u32 g13, N .u32 g14, N .u32 g15, N .u32 g16, N .u32 0, N .u32 0])) :=
  (fillL_A rfl rfl (by simp)).trans <| (fillL_A rfl rfl (by simp)).trans <| (fillL_A rfl rfl (by simp)).trans <| (fillL_A rfl rfl (by simp)).trans <| (fillL_B (j := 2) rfl rfl (by simp) z60 (by simp) rfl).trans <| (fillL_A rfl rfl (by simp)).trans <| (fillL_A rfl rfl (by simp)).trans <| (fillL_A rfl rfl (by simp)).trans <| (fillL_B (j := 1) rfl rfl (by simp) z60 (by simp) rfl).trans <| (fillL_B (j := 6) rfl rfl (by simp) z60 (by simp) rfl).trans <| (fillL_B (j := 7) rfl rfl (by simp) z60 (by simp) rfl).trans <| (fillL_B (j := 10) rfl rfl (by simp) z60 (by simp) rfl).trans <| (fillL_A rfl rfl (by simp)).trans <| (fillL_B (j := 14) rfl rfl (by simp) z60 (by simp) rfl).trans <| (fillL_A rfl rfl (by simp)).trans <| (fillL_B (j := 12) rfl rfl (by simp) z60 (by simp) rfl).trans <| (fillL_A rfl rfl (by simp)).trans <| (fillL_B (j := 13) rfl rfl (by simp) z60 (by simp) rfl).trans <| (fillL_B (j := 15) rfl rfl (by simp) z60 (by simp) rfl).trans <| (fillL_B (j := 16) rfl rfl (by simp) z60 (by simp) rfl).trans <| rfl
instance zero262 : Zero Tryz.prog 262 (.agg (inoA0 ++ (bc (List.replicate 60 0) ++ inoB0)).toArray) := ⟨fun w => Tryz.zeroValue262 w⟩
theorem putL_agg {l Z : List Value} (h : Z.length = l.length) : putL l 0 (vcells (.agg Z.toArray)) = Z := by
  simp [putL, vcells, h]
theorem putL_mid {A B : List Value} {blk d : List UInt8} {a : Nat} (hA : A.length = a) (hd : d.length ≤ blk.length) : putL (A ++ (bc blk ++ B)) a (bc d) = A ++ (bc (putB blk 0 d) ++ B) := by
  subst hA
  unfold putL putB
  rw [List.take_left, List.drop_append, List.drop_eq_nil_of_le (by omega), List.nil_append, Nat.add_sub_cancel_left, List.drop_append_of_le_length (by rw [bc_length, bc_length]; exact hd), bc_length]
  simp only [List.take_zero, List.nil_append, Nat.zero_add, bc_app, bc_drop, List.append_assoc]
theorem seg_all (l : List Value) : seg l 0 l.length = some l := by rw [seg_eq (by omega)]; simp
/-- The parts of an inode ahead of its block, and behind it. -/
abbrev inoA (x : WI) : List Value := [N .u16 x.mode, N .u16 ((x.uid &&& 65535) % 65536), N .u32 ((x.size &&& 4294967295) % 4294967296), N .u32 (x.atime % 4294967296), N .u32 (x.ctime % 4294967296), N .u32 (x.mtime % 4294967296), N .u32 0, N .u16 ((x.gid &&& 65535) % 65536),
  N .u16 (x.links % 65536), N .u32 x.bc, N .u32 x.flags, N .u32 0]
abbrev inoZ (x : WI) : List Value := [N .u32 0, N .u32 x.xb, N .u32 (x.size / 2 ^ 32 % 4294967296), N .u32 0, N .u16 0, N .u16 0, N .u16 (x.uid / 2 ^ 16 % 65536), N .u16 (x.gid / 2 ^ 16 % 65536), N .u16 0, N .u16 0, N .u16 24, N .u16 0,
  N .u32 (x.ctime / 2 ^ 32 % 4294967296), N .u32 (x.mtime / 2 ^ 32 % 4294967296), N .u32 (x.atime / 2 ^ 32 % 4294967296), N .u32 (x.crtime % 4294967296), N .u32 (x.crtime / 2 ^ 32 % 4294967296), N .u32 0, N .u32 0]
def inoOf (x : WI) (blk : List UInt8) : List UInt8 := inoB x.mode ((x.uid &&& 65535) % 65536) ((x.size &&& 4294967295) % 4294967296) (x.atime % 4294967296) (x.ctime % 4294967296) (x.mtime % 4294967296) 0 ((x.gid &&& 65535) % 65536) (x.links % 65536) x.bc x.flags 0
  0 x.xb (x.size / 2 ^ 32 % 4294967296) 0 0 0 (x.uid / 2 ^ 16 % 65536) (x.gid / 2 ^ 16 % 65536) 0 0 24 0 (x.ctime / 2 ^ 32 % 4294967296) (x.mtime / 2 ^ 32 % 4294967296) (x.atime / 2 ^ 32 % 4294967296) (x.crtime % 4294967296) (x.crtime / 2 ^ 32 % 4294967296) 0 0 blk
theorem inoOf_length (x : WI) {blk : List UInt8} (hb : blk.length = 60) : (inoOf x blk).length = 160 := inoB_length hb
/-- An inode of the table: its data and attributes as bytes. -/
structure TE where
  b : Nat
  x : WI
  dl : List UInt8
  xl : List UInt8
  XC : Chunk
def blkOf (d : List UInt8) : List UInt8 := putB (List.replicate 60 0) 0 (d.take 60)
theorem blkOf_length (d : List UInt8) : (blkOf d).length = 60 := by rw [blkOf, putB_length (by rw [List.length_take, List.length_replicate]; omega)]; simp
def teX (e : TE) : List UInt8 := if 60 < e.dl.length then pxB e.xl (e.dl.drop 60) else e.xl
def teB (e : TE) : List UInt8 := (inoOf e.x (blkOf e.dl)).take 152 ++ (teX e ++ List.replicate (104 - (teX e).length) 0)
def oteB : Option TE → List UInt8
  | none => List.replicate 256 0
  | some e => teB e
def tabB (l : List (Option TE)) : List UInt8 := l.flatMap oteB
def oteP : Option TE → Value
  | none => .pointer none
  | some e => Pt e.b
def oteX : Option TE → Chunk
  | none => []
  | some e => e.XC
def tabX (l : List (Option TE)) : Chunk := l.flatMap oteX
def RdD (DC : Chunk) (v : Value) (l : List UInt8) : Prop := (v = .slice none 0 0 ∧ l = []) ∨
  ∃ (b c e : Nat) (R : List Value) (fr : Nat × Nat), v = Sl b 0 l.length c ∧ (b, .cells R.toArray e fr) ∈ DC ∧ RowB R 0 l ∧ l.length ≤ c ∧ (60 < l.length → c < 1000000)
def XinD (v : Value) (l : List UInt8) (C : Chunk) : Prop := (v = .slice none 0 0 ∧ l = [] ∧ C = []) ∨ ∃ b : Nat, v = Sl b 0 104 104 ∧ C = [(b, BO l 5 (0, 0))] ∧ l.length = 104
theorem XinD.form {v : Value} {l : List UInt8} {C : Chunk} (h : XinD v l C) : ∃ p c, v = .slice p l.length c := by
  rcases h with ⟨rfl, rfl, _⟩ | ⟨b, rfl, _, hl⟩
  · exact ⟨none, 0, rfl⟩
  · exact ⟨_, 104, by rw [hl]⟩
structure TEok (PC DC : Chunk) (e : TE) : Prop where
  io : (e.b, IOb e.x) ∈ PC
  dat : RdD DC e.x.data e.dl
  kind : e.x.mode &&& 61440 = 16384 ∨ e.x.mode &&& 61440 = 32768
  xin : XinD e.x.xin e.xl e.XC
  dl : e.dl.length ≤ 136
  inl : 60 < e.dl.length → e.xl.length = 104
  mode : e.x.mode < 65536
  uid : e.x.uid < 4294967296
  gid : e.x.gid < 4294967296
  size : e.x.size < 9223372036854775808
theorem teX_length {PC DC : Chunk} {e : TE} (h : TEok PC DC e) : (teX e).length ≤ 104 := by
  unfold teX
  have hd := h.dl
  split
  · rename_i h1
    rw [pxB_length (h.inl h1) (by rw [List.length_drop]; omega)]; omega
  · rcases h.xin with ⟨_, hl, _⟩ | ⟨_, _, _, hl⟩
    · rw [hl]; simp
    · omega
theorem RdD.three {DC : Chunk} {v : Value} {l : List UInt8} (h : RdD DC v l) : (v = .slice none 0 0 ∧ l = []) ∨ (∃ (b c e : Nat) (R : List Value) (fr : Nat × Nat), v = Sl b 0 l.length c ∧ (b, .cells R.toArray e fr) ∈ DC ∧ RowB R 0 l ∧ l.length ≤ c ∧ l.length ≤ 60) ∨
    (∃ (b c e : Nat) (R : List Value) (fr : Nat × Nat), v = Sl b 0 l.length c ∧ (b, .cells R.toArray e fr) ∈ DC ∧ RowB R 0 l ∧ l.length ≤ c ∧ c < 1000000 ∧ 60 < l.length) := by
  rcases h with h | ⟨b, c, e, R, fr, h1, h2, h3, h4, h5⟩
  · exact .inl h
  · rcases Nat.lt_or_ge 60 l.length with h6 | h6
    · exact .inr (.inr ⟨b, c, e, R, fr, h1, h2, h3, h4, h5 h6, h6⟩)
    · exact .inr (.inl ⟨b, c, e, R, fr, h1, h2, h3, h4, h6⟩)
theorem Qt.bdA {P : Program} {Ro : Heap} {m : Env} {H : Heap} {ty t k e sz : Nat} {xs : List (Nat × Operand)} {us : List (Nat × Value)} {z vs : List Value} (h : ArT P t k e sz := by infer_instance) (hz : Zero P t (.agg z.toArray) := by infer_instance) (hx : pev m xs = some us := by rfl)
    (hf : fillL (fun i => some (i * sz, sz)) z us = some vs := by rfl) : Qt P (.build t xs.toArray) ty m H Ro (.agg vs.toArray) := fun a w d pos af gd ha _ _ => by
  have h3 := pev_sound ha hx
  have h4 := fill_eq hf
  simp only [execOp, Instr.build, Sem.run_bind, hz.run, h.und, h.size, Result.andThen_ok, Value.cells, List.map_toArray, h3, h4, Sem.run_pure]
theorem T.rem {P : Program} {n : Nat} {g : Gx} {Ro : Heap} {c : Code} {m : Env} {H H1 : Heap} {C : Chunk} {Q : Post} (r : Rem H C H1) (h : T P n g Ro c m (C :: H1) Q) : T P n g Ro c m H Q := fun a w hs hh => h a w hs (hh.rem r)
theorem seg_is {l : List Value} {k : Nat} (h : l.length = k) : seg l 0 k = some l := by subst h; exact seg_all l
theorem blkOf_nil : blkOf [] = List.replicate 60 0 := putB_nil
theorem teB_length {PC DC : Chunk} {e : TE} (h : TEok PC DC e) : (teB e).length = 256 := by
  have h1 := teX_length h
  have h2 := inoOf_length e.x (blkOf_length e.dl)
  simp only [teB, List.length_append, List.length_take, List.length_replicate, h2]; omega
theorem tabB_length {PC DC : Chunk} {l : List (Option TE)} (h : ∀ e, some e ∈ l → TEok PC DC e) : (tabB l).length = l.length * 256 := by
  induction l with
  | nil => rfl
  | cons o l ih =>
    rw [show tabB (o :: l) = oteB o ++ tabB l from rfl, List.length_append, ih fun e he => h e (List.mem_cons_of_mem _ he), List.length_cons]
    have : (oteB o).length = 256 := by
      cases o with
      | none => simp [oteB]
      | some e => exact teB_length (h e (List.mem_cons_self ..))
    omega
theorem tabB_take {l : List (Option TE)} {i : Nat} {o : Option TE} (h : l[i]? = some o) : tabB (l.take (i + 1)) = tabB (l.take i) ++ oteB o := by
  rw [List.take_add_one, h]; simp [tabB]
theorem RowB.take60 {R : List Value} {l : List UInt8} {n : Nat} (h : RowB R 0 l) (hn : n ≤ l.length) : seg R 0 n = some (bc (l.take n)) := by
  have h1 : RowB R 0 (l.take n ++ l.drop n) := by rw [List.take_append_drop]; exact h
  have h2 := h1.left
  unfold RowB at h2
  rwa [List.length_take, Nat.min_eq_left hn] at h2
theorem RowB.drop60 {R : List Value} {l : List UInt8} {n : Nat} (h : RowB R 0 l) (hn : n ≤ l.length) : RowB R n (l.drop n) := by
  have h1 : RowB R 0 (l.take n ++ l.drop n) := by rw [List.take_append_drop]; exact h
  have h2 := h1.right
  rwa [List.length_take, Nat.min_eq_left hn, Nat.zero_add] at h2
theorem tabX_cons (o : Option TE) (l : List (Option TE)) : tabX (o :: l) = oteX o ++ tabX l := rfl
theorem T.split {P : Program} {n : Nat} {g : Gx} {Ro : Heap} {c : Code} {m : Env} {A : Heap} {C D : Chunk} {Q : Post} (h : T P n g Ro c m (C :: D :: A) Q) : T P n g Ro c m ((C ++ D) :: A) Q :=
  fun a w hs hh => h a w hs (hh.perm (by simp))
variable {bW bA k cap : Nat} {s : WS} {xs : List UInt8} {v : Value} {E : Chunk} {sp : List Value} {fr : Nat × Nat} {PC DC : Chunk} {ents : List (Option TE)}
set_option synthInstance.maxSize 100000 in
set_option synthInstance.maxHeartbeats 4000000 in
set_option maxHeartbeats 8000000 in
theorem table_s {tbl : Nat} (hok : ∀ e, some e ∈ ents → TEok PC DC e) (hin : s.inodes = Sl bA 0 ents.length cap) (hle : ents.length < 100000) (hd : DskOk v E xs) (hp : s.pos = xs.length) (ht : ents.length * 256 < tbl) (ht2 : tbl < 1000000000) (hmax : s.pos + tbl ≤ s.max) (h3 : s.max < 1099511627776) :
    Spec Tryz.prog 103 [Pt bW, N .u32 tbl] [[(bA, .cells (ents.map oteP ++ sp).toArray 156 fr)], PC, DC] [[(s.disk, DO v s.pos)], E, [(bW, WO s)], tabX ents]
      (fun r : Value × Chunk => DskOk r.1 r.2 (padZ (xs ++ tabB ents) (s.pos + tbl))) (fun _ => .nilIface) (fun r => [[(s.disk, DO r.1 (s.pos + tbl))], r.2, [(bW, WO { s with pos := s.pos + tbl })]]) := by
  refine Spec.of Tryz.func103 rfl Tryz.ntmps103 (by simp) fun w => ?_
  refine T.sr <| Rl.q (Qt.as (v := .nilIface)) <| Rl.nilK <| ?_
  refine T.seq ?_
  refine T.sr <| Rl.q Qt.mv <| Rl.q Qt.nc <| Rl.q Qt.fa <| Rl.q (Qt.to (u := Sl bA 0 ents.length cap) Qt.ld (hin)) <| Rl.q Qt.len <| Rl.q (Qt.mv (v := N .i64 0)) <| Rl.nilK <| ?_
  refine T.block ?_
  refine T.loop (α := Nat × (Value × Chunk)) (fun y => [(0, Pt bW), (1, N .u32 tbl), (20, Sl bA 0 ents.length cap), (21, N .i64 ents.length), (22, N .i64 y.1)]) (fun y => [[(s.disk, DO y.2.1 (s.pos + y.1 * 256))], y.2.2, [(bW, WO { s with pos := s.pos + y.1 * 256 })], tabX (ents.drop y.1)]) (fun y => y.1 ≤ ents.length ∧ DskOk y.2.1 y.2.2 (xs ++ tabB (ents.take y.1))) (fun y => ents.length - y.1)
    (0, (v, E)) ⟨Nat.zero_le _, by simpa [tabB] using hd⟩ ?_ (fun y hy => ?_)
  · exact .cons rfl <| .cons rfl <| .cons rfl <| .cons rfl <| .cons rfl <| .nil
  refine T.sr <| Rl.ltS (fun h23 => ?_) (fun h23 => ?_)
  · refine Rl.nilK <| ?_
    refine T.seq ?_
    refine T.condT ?_
    refine T.skip <| Ex.K <| ?_
    refine T.seq ?_
    refine T.block ?_
    obtain ⟨i, ve, Ee⟩ := y
    obtain ⟨hi, hye⟩ := hy
    have hye : DskOk ve Ee (xs ++ tabB (ents.take i)) := hye
    have hi : i ≤ ents.length := hi
    have h23 : i < ents.length := h23
    obtain ⟨oe, hoe⟩ : ∃ o, ents[i]? = some o := ⟨_, List.getElem?_eq_getElem h23⟩
    have hoeP : nth (ents.map oteP) i = some (oteP oe) := by rw [nth_eq, List.getElem?_map, hoe]; rfl
    have hp24 : nth (ents.map oteP ++ sp) i = some (oteP oe) := nth_app hoeP
    refine T.sr <| Rl.q (Qt.to (u := .pointer (some ⟨bA, i, none⟩)) Qt.ia1 (by rw [Nat.zero_add])) <| Rl.q (Qt.ld (v := oteP oe) (hv := hp24)) <| Rl.q Qt.as <| Rl.nilK <| ?_
    refine T.sr <| Rl.q (Qt.as (v := .slice none 0 0)) <| Rl.nilK <| ?_
    have hdrop : ents.drop i = oe :: ents.drop (i + 1) := by rw [List.drop_eq_getElem_cons h23]; congr 1; exact Option.some.inj ((List.getElem?_eq_getElem h23).symm.trans hoe)
    refine T.rem (C := tabX (ents.drop i)) (.there (.there (.there .here))) ?_
    rw [hdrop, tabX_cons]
    refine T.split ?_
    refine T.join (α := Value × Chunk) (fun z => [(0, Pt bW), (1, N .u32 tbl), (20, Sl bA 0 ents.length cap), (21, N .i64 ents.length), (22, N .i64 i), (7, z.1)]) (fun z => [[(s.disk, DO ve (s.pos + i * 256))], Ee, [(bW, WO { s with pos := s.pos + i * 256 })], tabX (ents.drop (i + 1)), z.2]) (fun z => Own 5 1 z.1 256 (bc (oteB oe)) z.2) ?_ fun z hz => ?_
    · rcases oe with _ | e
      · refine T.sr <| Rl.q Qt.mv <| Rl.q Qt.pneNil <| Rl.nilK <| ?_
        refine T.condF ?_
        refine T.region <| Rl.e (Ef.mk (k := 256) (c := 256)) fun b210 hb210 => Rl.q Qt.as <| Rl.nil <| ?_
        rw [mkBytes, ← List.append_nil (bc _)]
        exact Ex.join (Sl b210 0 256 256, [(b210, .cells (bc (List.replicate 256 0) ++ []).toArray 5 (0, 0))]) (Own.mk (by simp [oteB, bc_length]) (by decide) (by simp [maxLen]) (by simp [oteB, bc_length])) (.cons rfl <| .cons rfl <| .cons rfl <| .cons rfl <| .cons rfl <| .cons rfl <| .nil)
      · have he : TEok PC DC e := hok e (List.mem_of_getElem? hoe)
        haveI hio : InH [[(bA, .cells (ents.map oteP ++ sp).toArray 156 fr)], PC, DC] e.b (IOb e.x) := ⟨by simp [he.io]⟩
        have hmode := he.mode
        have huid := he.uid
        have hgid := he.gid
        have hsize := he.size
        refine T.sr <| Rl.q Qt.mv <| Rl.q Qt.pneSome <| Rl.nilK <| ?_
        refine T.condT ?_
        refine T.sdr [103] ?_ mixed
        refine Dr.qsM [0, 1, 2, 3, 4, 5, 6, 7, 8, 9, 10, 11, 12, 13, 14, 15, 16, 17, 18, 19, 20, 21, 22, 23, 24, 25, 26, 27, 28, 29, 30, 31, 32, 33, 34, 35, 36, 37, 38, 39, 40, 41, 42, 43, 44, 45, 46, 47, 48, 49, 50, 51, 52, 53, 54, 55, 56, 57, 58, 59, 60, 61, 62, 63, 64, 65, 66, 67, 68, 69, 70, 71, 72, 73, 74, 75, 76, 77, 78, 79, 80, 81, 82, 83, 84, 85, 86, 87, 88, 89, 90, 91, 92, 93, 94, 95, 96, 97, 98, 99, 100, 101] [] ?_
        refine Dq.q Qt.mv <| Dq.q Qt.nc <| Dq.q Qt.fa <| Dq.q Qt.ld <| Dq.q Qt.mv <| Dq.q Qt.nc <| Dq.q Qt.fa <| Dq.q Qt.ld <| ?_
        refine Dq.q (Qt.and (b := 65535) (h := ⟨by simp only [lim]; omega, by decide⟩)) <| Dq.q Qt.cvW <| Dq.q Qt.mv <| Dq.q Qt.nc <| Dq.q Qt.fa <| Dq.q Qt.ld <| Dq.q (Qt.and (b := 65535) (h := ⟨by simp only [lim]; omega, by decide⟩)) <| Dq.q Qt.cvW <| ?_
        refine Dq.q Qt.mv <| Dq.q Qt.nc <| Dq.q Qt.fa0 <| Dq.q Qt.ld <| Dq.q (Qt.and (b := 4294967295) (h := ⟨by simp only [lim]; omega, by decide⟩)) <| Dq.q Qt.cvW <| Dq.q Qt.mv <| Dq.q Qt.nc <| ?_
        refine Dq.q Qt.fa0 <| Dq.q Qt.ld <| Dq.q (Qt.shr (b := 32)) <| Dq.q Qt.cvW <| Dq.q Qt.mv <| Dq.q Qt.nc <| Dq.q Qt.fa <| Dq.q Qt.ld <| ?_
        refine Dq.q Qt.cvW <| Dq.q Qt.mv <| Dq.q Qt.nc <| Dq.q Qt.fa <| Dq.q Qt.ld <| Dq.q Qt.mv <| Dq.q Qt.nc <| Dq.q Qt.fa <| ?_
        refine Dq.q Qt.ld <| Dq.q Qt.mv <| Dq.q Qt.nc <| Dq.q Qt.fa <| Dq.q Qt.ld <| Dq.q Qt.mv <| Dq.q Qt.nc <| Dq.q Qt.fa <| ?_
        refine Dq.q Qt.ld <| Dq.q (Qt.shr (b := 16)) <| Dq.q Qt.cvW <| Dq.q Qt.mv <| Dq.q Qt.nc <| Dq.q Qt.fa <| Dq.q Qt.ld <| Dq.q (Qt.shr (b := 16)) <| ?_
        refine Dq.q Qt.cvW <| Dq.q Qt.mv <| Dq.q Qt.nc <| Dq.q Qt.fa <| Dq.q Qt.ld <| Dq.q Qt.cvW <| Dq.q Qt.mv <| Dq.q Qt.nc <| ?_
        refine Dq.q Qt.fa <| Dq.q Qt.ld <| Dq.q (Qt.shr (b := 32)) <| Dq.q Qt.cvW <| Dq.q Qt.mv <| Dq.q Qt.nc <| Dq.q Qt.fa <| Dq.q Qt.ld <| ?_
        refine Dq.q Qt.cvW <| Dq.q Qt.mv <| Dq.q Qt.nc <| Dq.q Qt.fa <| Dq.q Qt.ld <| Dq.q (Qt.shr (b := 32)) <| Dq.q Qt.cvW <| Dq.q Qt.mv <| ?_
        refine Dq.q Qt.nc <| Dq.q Qt.fa <| Dq.q Qt.ld <| Dq.q Qt.cvW <| Dq.q Qt.mv <| Dq.q Qt.nc <| Dq.q Qt.fa <| Dq.q Qt.ld <| ?_
        refine Dq.q (Qt.shr (b := 32)) <| Dq.q Qt.cvW <| Dq.q Qt.mv <| Dq.q Qt.nc <| Dq.q Qt.fa <| Dq.q Qt.ld <| Dq.q Qt.cvW <| Dq.q Qt.mv <| ?_
        refine Dq.q Qt.nc <| Dq.q Qt.fa <| Dq.q Qt.ld <| Dq.q (Qt.shr (b := 32)) <| Dq.q Qt.cvW <| Dq.q (Qt.bd (vs := inoA e.x ++ (bc (List.replicate 60 0) ++ inoZ e.x)) (hf := by exact fill_ino ..)) <| Dq.nil <| ?_
        refine Dr.e 102 <| Eo.e rfl Ef.alA fun b8 hb8 => ?_
        refine Dr.e 103 <| Eo.e0 rfl (Ef.st (hc := ⟨rfl, by show 0 + 91 ≤ _; simp only [List.length_append, bc_length, List.length_replicate, List.length_cons, List.length_nil]; omega, by simp only [vcells, ones, List.all_append]; rw [show (bc (List.replicate 60 0)).all one = true from bc_ones _]; rfl⟩)) fun _ _ => Dr.nilK <| ?_
        refine T.join (α := Chunk) (fun XC2 => [(0, Pt bW), (1, N .u32 tbl), (20, Sl bA 0 ents.length cap), (21, N .i64 ents.length), (22, N .i64 i), (6, Pt e.b), (8, Pt b8)]) (fun XC2 => [[(b8, .cells (inoA e.x ++ (bc (blkOf e.dl) ++ inoZ e.x)).toArray 262 (0, 0))], XC2, tabX (ents.drop (i + 1)), [(s.disk, DO ve (s.pos + i * 256))], Ee, [(bW, WO { s with pos := s.pos + i * 256 })]]) (fun XC2 => XinD e.x.xin (teX e) XC2) ?_ fun XC2 hx2 => ?_
        · rw [putL_agg (by rfl)]
          have hcdl := he.dl
          refine T.sr <| Rl.q Qt.mv <| Rl.q Qt.nc <| Rl.q Qt.fa <| Rl.q Qt.ld <| Rl.q (Qt.and (b := 61440)) <| Rl.nilK <| ?_
          refine T.block ?_
          refine T.join (α := Unit) (fun _u => [(0, Pt bW), (1, N .u32 tbl), (20, Sl bA 0 ents.length cap), (21, N .i64 ents.length), (22, N .i64 i), (6, Pt e.b), (8, Pt b8), (135, .bool true)]) (fun _u => [[(b8, .cells (inoA e.x ++ (bc (List.replicate 60 0) ++ inoZ e.x)).toArray 262 (0, 0))], e.XC, tabX (ents.drop (i + 1)), [(s.disk, DO ve (s.pos + i * 256))], Ee, [(bW, WO { s with pos := s.pos + i * 256 })]]) (fun _u => True) ?_ fun _ _ => ?_
          · rcases he.kind with hk7 | hk7
            · rw [hk7]
              refine T.sr <| Rl.q (Qt.eqT (a := 16384) (b := 16384) (h := by decide)) <| Rl.q Qt.as <| Rl.nilK <| ?_
              refine T.condT ?_
              refine T.skip <| ?_
              exact Ex.join () trivial (.cons rfl <| .cons rfl <| .cons rfl <| .cons rfl <| .cons rfl <| .cons rfl <| .cons rfl <| .cons rfl <| .nil)
            · rw [hk7]
              refine T.sr <| Rl.q (Qt.eqF (a := 32768) (b := 16384) (h := by decide)) <| Rl.q Qt.as <| Rl.nilK <| ?_
              refine T.condF ?_
              refine T.sr <| Rl.q (Qt.eqT (a := 32768) (b := 32768) (h := by decide)) <| Rl.q Qt.as <| Rl.nilK <| ?_
              refine T.condT ?_
              refine T.skip <| ?_
              exact Ex.join () trivial (.cons rfl <| .cons rfl <| .cons rfl <| .cons rfl <| .cons rfl <| .cons rfl <| .cons rfl <| .cons rfl <| .nil)
          · refine T.condT ?_
            rcases he.dat.three with ⟨hdv, hdl⟩ | ⟨db, dc, de, dR, dfr, hdv, hmem, hrow, hdc, h60⟩ | ⟨db, dc, de, dR, dfr, hdv, hmem, hrow, hdc, hdc2, h60⟩
            · refine T.sdr [6, 7] ?_ mixed
              refine Dr.qs [0, 1, 2, 3, 4, 5] [] ?_
              refine Dq.q Qt.fa <| Dq.q (Qt.to (u := Sl b8 12 60 60) Qt.slA (rfl)) <| Dq.q Qt.mv <| Dq.q Qt.nc <| Dq.q Qt.fa <| Dq.q (Qt.to (u := .slice none 0 0) Qt.ld (hdv)) <| Dq.nil <| ?_
              refine Dr.e 6 <| Eo.e rfl (Ef.cpN) fun _ _ => ?_
              refine Dr.reset [] ?_
              refine Dr.qs [7] [] ?_
              refine Dq.q Qt.as <| Dq.nil <| Dr.nilK <| ?_
              refine T.sr <| Rl.q Qt.mv <| Rl.q Qt.mv <| Rl.q Qt.nc <| Rl.q Qt.fa <| Rl.q (Qt.to (u := .slice none 0 0) Qt.ld (hdv)) <| Rl.q Qt.len <| Rl.q Qt.ltF <| ?_
              refine Rl.nilK <| ?_
              refine T.condF ?_
              refine T.skip <| Ex.Bnormal <| ?_
              have hx3 : XinD e.x.xin (teX e) e.XC := by rw [teX, if_neg (by rw [hdl]; decide)]; exact he.xin
              have hb3 : List.replicate 60 0 = blkOf e.dl := by rw [hdl, blkOf_nil]
              rw [hb3]
              exact Ex.join e.XC hx3 (.cons rfl <| .cons rfl <| .cons rfl <| .cons rfl <| .cons rfl <| .cons rfl <| .cons rfl <| .nil)
            · haveI hid : InH [[(bA, .cells (ents.map oteP ++ sp).toArray 156 fr)], PC, DC] db (.cells dR.toArray de dfr) := ⟨by simp [hmem]⟩
              have hmn : Nat.min e.dl.length 60 = e.dl.length := Nat.min_eq_left h60
              refine T.sdr [6, 7] ?_ mixed
              refine Dr.qs [0, 1, 2, 3, 4, 5] [] ?_
              refine Dq.q Qt.fa <| Dq.q (Qt.to (u := Sl b8 12 60 60) Qt.slA (rfl)) <| Dq.q Qt.mv <| Dq.q Qt.nc <| Dq.q Qt.fa <| Dq.q (Qt.to (u := Sl db 0 e.dl.length dc) Qt.ld (hdv)) <| Dq.nil <| ?_
              refine Dr.e 6 <| Eo.e rfl (Ef.cp (vs := bc (e.dl.take 60)) (hs := by rw [hmn, List.take_of_length_le h60, ← bc_length]; rw [bc_length]; exact hrow) (hl := ⟨by rw [hmn]; simp only [List.length_append, bc_length, List.length_replicate, List.length_cons, List.length_nil]; omega, bc_ones _⟩)) fun _ _ => ?_
              refine Dr.reset [] ?_
              refine Dr.qs [7] [] ?_
              refine Dq.q Qt.as <| Dq.nil <| Dr.nilK <| ?_
              rw [hmn, putL_mid (a := 12) rfl (by rw [List.length_take, List.length_replicate]; omega)]
              rw [show putB (List.replicate 60 0) 0 (e.dl.take 60) = blkOf e.dl from rfl]
              refine T.sr <| Rl.q Qt.mv <| Rl.q Qt.mv <| Rl.q Qt.nc <| Rl.q Qt.fa <| Rl.q (Qt.to (u := Sl db 0 e.dl.length dc) Qt.ld (hdv)) <| Rl.q Qt.len <| Rl.q Qt.ltF <| ?_
              refine Rl.nilK <| ?_
              refine T.condF ?_
              refine T.skip <| Ex.Bnormal <| ?_
              have hx3 : XinD e.x.xin (teX e) e.XC := by rw [teX, if_neg (by omega)]; exact he.xin
              exact Ex.join e.XC hx3 (.cons rfl <| .cons rfl <| .cons rfl <| .cons rfl <| .cons rfl <| .cons rfl <| .cons rfl <| .nil)
            · haveI hid : InH [[(bA, .cells (ents.map oteP ++ sp).toArray 156 fr)], PC, DC] db (.cells dR.toArray de dfr) := ⟨by simp [hmem]⟩
              have hmn : Nat.min e.dl.length 60 = 60 := Nat.min_eq_right (by omega)
              have hd136 := he.dl
              have hrow60 := hrow.drop60 (n := 60) (by omega)
              obtain ⟨bx, hxv, hxC, hxlen⟩ : ∃ b : Nat, e.x.xin = Sl b 0 104 104 ∧ e.XC = [(b, BO e.xl 5 (0, 0))] ∧ e.xl.length = 104 := by
                rcases he.xin with ⟨_, hl, _⟩ | h
                · exact absurd (he.inl h60) (by rw [hl]; decide)
                · exact h
              rw [hxC]
              refine T.sdr [6, 7] ?_ mixed
              refine Dr.qs [0, 1, 2, 3, 4, 5] [] ?_
              refine Dq.q Qt.fa <| Dq.q (Qt.to (u := Sl b8 12 60 60) Qt.slA (rfl)) <| Dq.q Qt.mv <| Dq.q Qt.nc <| Dq.q Qt.fa <| Dq.q (Qt.to (u := Sl db 0 e.dl.length dc) Qt.ld (hdv)) <| Dq.nil <| ?_
              refine Dr.e 6 <| Eo.e rfl (Ef.cp (vs := bc (e.dl.take 60)) (hs := by rw [hmn]; exact hrow.take60 (by omega)) (hl := ⟨by rw [hmn]; simp only [List.length_append, bc_length, List.length_replicate, List.length_cons, List.length_nil]; omega, bc_ones _⟩)) fun _ _ => ?_
              refine Dr.reset [] ?_
              refine Dr.qs [7] [] ?_
              refine Dq.q Qt.as <| Dq.nil <| Dr.nilK <| ?_
              rw [hmn, putL_mid (a := 12) rfl (by rw [List.length_take, List.length_replicate]; omega)]
              rw [show putB (List.replicate 60 0) 0 (e.dl.take 60) = blkOf e.dl from rfl]
              refine T.sr <| Rl.q Qt.mv <| Rl.q Qt.mv <| Rl.q Qt.nc <| Rl.q Qt.fa <| Rl.q (Qt.to (u := Sl db 0 e.dl.length dc) Qt.ld (hdv)) <| Rl.q Qt.len <| Rl.q Qt.ltT <| ?_
              refine Rl.nilK <| ?_
              refine T.condT ?_
              refine T.sr <| Rl.q Qt.mv <| Rl.q Qt.nc <| Rl.q Qt.fa <| Rl.q (Qt.to (u := Sl db 0 e.dl.length dc) Qt.ld (hdv)) <| Rl.q Qt.mv <| Rl.q (Qt.to (u := Sl db 60 (e.dl.length - 60) (dc - 60)) (Qt.sl1 (cl := 60)) (by rw [Nat.zero_add])) <| Rl.q Qt.bdN <| ?_
              refine Rl.q (Qt.bdA (vs := XA data4 7 (Sl db 60 (e.dl.length - 60) (dc - 60))) (hf := by rfl)) <| Rl.e Ef.alA fun b10 hb10 => Rl.e0 Ef.stN fun _ _ => Rl.nilK <| ?_
              have hpx1 := putXattrs1_s (l := e.xl) (val := e.dl.drop 60) (n := e.dl.length - 60) (cv := dc - 60) (ov := 60) (bv := db) (sp := []) (bA := b10) (cA := 1) (b := bx) (e := 5) (eA := 263) (frA := (0, 0)) (ev := de) (fv := dfr) (Rv := dR) hxlen hrow60 (by rw [List.length_drop]) (by omega) (by omega)
              rw [List.append_nil] at hpx1
              refine T.dr [6] ?_ mixed
              refine Dr.qs [0, 1, 2, 3, 4, 5] [] ?_
              refine Dq.q (Qt.to (u := Sl b10 0 1 1) Qt.slA (rfl)) <| Dq.q Qt.mv <| Dq.q Qt.nc <| Dq.q Qt.fa <| Dq.q (Qt.to (u := Sl bx 0 104 104) Qt.ld (hxv)) <| Dq.q (Qt.to (u := Sl bx 4 100 100) (Qt.sl1 (cl := 4)) (rfl)) <| Dq.nil <| ?_
              refine Dr.e 6 <| Eo.e rfl (Ef.call (S := hpx1) (hr := by infer_instance)) fun _ _ => Dr.nil <| Ex.Bnormal <| ?_
              have hx3 : XinD e.x.xin (teX e) [(bx, BO (pxB e.xl (e.dl.drop 60)) 5 (0, 0))] := by
                rw [teX, if_pos h60]
                exact .inr ⟨bx, hxv, rfl, pxB_length hxlen (by rw [List.length_drop]; have := he.dl; omega)⟩
              exact Ex.join [(bx, BO (pxB e.xl (e.dl.drop 60)) 5 (0, 0))] hx3 (.cons rfl <| .cons rfl <| .cons rfl <| .cons rfl <| .cons rfl <| .cons rfl <| .cons rfl <| .nil)
        · refine T.sr <| Rl.q (Qt.to (u := .agg (inoA e.x ++ (bc (blkOf e.dl) ++ inoZ e.x)).toArray) (Qt.ldA (vs := inoA e.x ++ (bc (blkOf e.dl) ++ inoZ e.x)) (hv := seg_is (by rw [List.length_append, List.length_append, bc_length, blkOf_length]; rfl))) (rfl)) <| Rl.e (Ef.call (S := ino_s (blkOf_length e.dl))) fun r194 h194 => ?_
          obtain ⟨bI, cI, spI, hvI, hcI, hcI2, hEI, hspI⟩ := h194.some (by decide)
          have hIl := inoOf_length e.x (blkOf_length e.dl)
          rw [show inoB _ _ _ _ _ _ _ _ _ _ _ _ _ _ _ _ _ _ _ _ _ _ _ _ _ _ _ _ _ _ _ (blkOf e.dl) = inoOf e.x (blkOf e.dl) from rfl] at hEI hspI
          generalize hI : inoOf e.x (blkOf e.dl) = I at hEI hspI hIl
          rw [hvI, hEI]
          rw [show bc I ++ spI = bc (I.take 152) ++ (bc (I.drop 152) ++ spI) by rw [← List.append_assoc, ← bc_app, List.take_append_drop]] at hspI ⊢
          refine Rl.q (Qt.to (u := Sl bI 0 152 cI) (Qt.sl1 (ch := 152) (hb := ⟨by decide, by omega, by omega⟩)) (rfl)) <| Rl.q Qt.as <| Rl.nilK <| ?_
          refine T.join (α := Value × Chunk) (fun z => [(0, Pt bW), (1, N .u32 tbl), (20, Sl bA 0 ents.length cap), (21, N .i64 ents.length), (22, N .i64 i), (6, Pt e.b), (7, z.1)]) (fun z => [tabX (ents.drop (i + 1)), [(s.disk, DO ve (s.pos + i * 256))], Ee, [(bW, WO { s with pos := s.pos + i * 256 })], z.2]) (fun z => Own 5 1 z.1 (152 + (teX e).length) (bc ((inoOf e.x (blkOf e.dl)).take 152 ++ teX e)) z.2) ?_ fun z hz => ?_
          · rcases hx2 with ⟨hxv, hxl2, hxC⟩ | ⟨bx, hxv, hxC, hxlen⟩
            · refine T.region <| Rl.q Qt.mv <| Rl.q Qt.mv <| Rl.q Qt.nc <| Rl.q Qt.fa <| Rl.q (Qt.to (u := .slice none 0 0) Qt.ld (hxv)) <| Rl.e (Ef.apN (own := Own.mk (e := 5) (sz := 1) (k := 152) (xs := bc (I.take 152)) (by rw [bc_length, List.length_take, hIl]; rfl) (by omega) hcI2 hspI)) fun v201 hv201 => Rl.q Qt.as <| ?_
              refine Rl.nil <| ?_
              have hq201 : Own 5 1 v201.1 (152 + (teX e).length) (bc ((inoOf e.x (blkOf e.dl)).take 152 ++ teX e)) v201.2 := by rw [hI, hxl2, List.append_nil]; exact hv201
              exact Ex.join (v201.1, v201.2) hq201 (.cons rfl <| .cons rfl <| .cons rfl <| .cons rfl <| .cons rfl <| .cons rfl <| .cons rfl <| .nil)
            · rw [hxC]
              refine T.region <| Rl.q Qt.mv <| Rl.q Qt.mv <| Rl.q Qt.nc <| Rl.q Qt.fa <| Rl.q (Qt.to (u := Sl bx 0 104 104) Qt.ld (hxv)) <| Rl.e (Ef.ap (own := Own.mk (e := 5) (sz := 1) (k := 152) (xs := bc (I.take 152)) (by rw [bc_length, List.length_take, hIl]; rfl) (by omega) hcI2 hspI) (vs := bc (teX e)) (hs := seg_is (by rw [bc_length, hxlen])) (hl := ⟨rfl, bc_ones _, by simp only [maxLen]; omega, by omega⟩)) fun v201 hv201 => Rl.q Qt.as <| ?_
              refine Rl.nil <| ?_
              have hq201 : Own 5 1 v201.1 (152 + (teX e).length) (bc ((inoOf e.x (blkOf e.dl)).take 152 ++ teX e)) v201.2 := by rw [hI, hxlen, bc_app]; exact hv201
              exact Ex.join (v201.1, v201.2) hq201 (.cons rfl <| .cons rfl <| .cons rfl <| .cons rfl <| .cons rfl <| .cons rfl <| .cons rfl <| .nil)
          · obtain ⟨px, cx, hpx⟩ := hx2.form
            have hXl := teX_length he
            refine T.region <| Rl.q Qt.mv <| Rl.q Qt.mv <| Rl.q Qt.nc <| Rl.q Qt.fa <| Rl.q (Qt.to (u := .slice px (teX e).length cx) Qt.ld (hpx)) <| Rl.q Qt.len <| Rl.q (Qt.sub (a := 104)) <| ?_
            refine Rl.e (Ef.apZ (own := hz)) fun v209 hv209 => Rl.q Qt.as <| Rl.nil <| ?_
            have hq209 : Own 5 1 v209.1 256 (bc (teB e)) v209.2 := by
              have hl := teX_length he
              rw [show 256 = 152 + (teX e).length + (104 - (teX e).length) by omega, teB, ← List.append_assoc, bc_app _ (List.replicate _ 0), bc_rep]
              exact hv209
            exact Ex.join (v209.1, v209.2) hq209 (.cons rfl <| .cons rfl <| .cons rfl <| .cons rfl <| .cons rfl <| .cons rfl <| .nil)
    · obtain ⟨b7, c7, sp7, hv7, hc7, hc72, hE7, hsp7⟩ := hz.some (by decide)
      rw [hv7, hE7]
      have hlen7 : (oteB oe).length = 256 := by cases oe with | none => simp [oteB] | some e => exact teB_length (hok e (List.mem_of_getElem? hoe))
      have hrow7 : RowB (bc (oteB oe) ++ sp7) 0 (oteB oe) := by unfold RowB; rw [← bc_length]; exact seg_app _ _
      have hxl : (xs ++ tabB (ents.take i)).length = s.pos + i * 256 := by rw [List.length_append, tabB_length (fun e he => hok e (List.mem_of_mem_take he)), List.length_take, Nat.min_eq_left (by omega), hp]
      refine T.sr <| Rl.q Qt.mv <| Rl.q Qt.mv <| Rl.e (Ef.call (S := write_a (s := { s with pos := s.pos + i * 256 }) (bs := oteB oe) hrow7 hlen7.symm hye hxl.symm (by omega) (by rw [hlen7]; show s.pos + i * 256 + 256 ≤ s.max; omega) h3)) fun r214 h214 => Rl.q Qt.mv <| Rl.q Qt.ex <| Rl.q Qt.ex <| Rl.q Qt.as <| ?_
      refine Rl.q Qt.as <| Rl.nilK <| ?_
      refine T.sr <| Rl.q Qt.mv <| Rl.q Qt.ineNil <| Rl.nilK <| ?_
      refine T.condF ?_
      refine T.skip <| Ex.Bnormal <| Ex.K <| ?_
      refine T.region <| Rl.q (Qt.add (b := 1)) <| Rl.q Qt.mv <| Rl.nil <| ?_
      have hnx : DskOk r214.1 r214.2 (xs ++ tabB (ents.take (i + 1))) := by
        rw [tabB_take hoe, ← List.append_assoc]; exact h214
      rw [hlen7, show s.pos + i * 256 + 256 = s.pos + (i + 1) * 256 by omega]
      exact Ex.next (i + 1, (r214.1, r214.2)) ⟨by omega, hnx⟩ (by show ents.length - (i + 1) < ents.length - i; omega) (.cons rfl <| .cons rfl <| .cons rfl <| .cons rfl <| .cons rfl <| .nil)
  · refine Rl.nilK <| ?_
    refine T.seq ?_
    refine T.condF ?_
    refine T.exit <| Ex.Kexit <| Ex.Lexit <| Ex.Bhit <| Ex.K <| ?_
    obtain ⟨i, ve, Ee⟩ := y
    obtain ⟨hi, hye⟩ := hy
    have hi : i ≤ ents.length := hi
    have h23 : ents.length ≤ i := h23
    obtain rfl : i = ents.length := by omega
    have hye : DskOk ve Ee (xs ++ tabB ents) := by have h := hye; rwa [List.take_length] at h
    have hxl2 : (xs ++ tabB ents).length = s.pos + ents.length * 256 := by rw [List.length_append, tabB_length hok, hp]
    refine T.sr <| Rl.q Qt.mv <| Rl.q Qt.mv <| Rl.q Qt.nc <| Rl.q Qt.fa <| Rl.q (Qt.to (u := Sl bA 0 ents.length cap) Qt.ld (hin)) <| Rl.q Qt.len <| Rl.q (Qt.mul (b := 256)) <| ?_
    refine Rl.q Qt.cv <| Rl.q Qt.sub <| Rl.q Qt.as <| Rl.nilK <| ?_
    refine T.seq ?_
    refine T.sr <| Rl.q Qt.mv <| Rl.q Qt.mv <| Rl.q Qt.cv <| Rl.e (Ef.call (S := zero_a (s := { s with pos := s.pos + ents.length * 256 }) (n := tbl - ents.length * 256) hye hxl2.symm (by omega) (by show s.pos + ents.length * 256 + _ ≤ s.max; omega) h3)) fun r234 h234 => Rl.q Qt.mv <| Rl.q Qt.ex <| Rl.q Qt.ex <| ?_
    refine Rl.q Qt.as <| Rl.q Qt.as <| Rl.nilK <| ?_
    refine T.sr <| Rl.q Qt.mv <| Rl.q Qt.ineNil <| Rl.nilK <| ?_
    refine T.condF ?_
    refine T.skip <| Ex.K <| ?_
    refine T.sr <| Rl.q (Qt.as (v := .nilIface)) <| Rl.nilK <| ?_
    refine T.ret <| Ex.ret1 (.inl rfl) rfl ?_ rfl
    have hpd : padZ (xs ++ tabB ents) (s.pos + tbl) = xs ++ tabB ents ++ List.replicate (tbl - ents.length * 256) 0 := by rw [padZ, hxl2, show s.pos + tbl - (s.pos + ents.length * 256) = tbl - ents.length * 256 by omega]
    rw [← hpd] at h234
    rw [show s.pos + ents.length * 256 + (tbl - ents.length * 256) = s.pos + tbl by omega]
    exact fun w h => ⟨r234, h234, rfl, h.re⟩
end SL
end Go.Proofs.YtlmiekcmjpnobaaGreatDoor
