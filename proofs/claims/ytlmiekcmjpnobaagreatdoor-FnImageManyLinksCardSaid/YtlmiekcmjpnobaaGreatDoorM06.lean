/- Part 6 of the proof of the card of 'laws.FnImageManyLinks': it returns true at every input. No condition. Texts: WR WT WU WV WW WX. -/
import Derived.Test.YtlmiekcmjpnobaaGreatDoorM05
namespace Go.Proofs.YtlmiekcmjpnobaaGreatDoor
open Go
namespace SL
set_option maxRecDepth 20000

theorem nth_rep {n i : Nat} {v : Value} (h : i < n) : nth (List.replicate n v) i = some v := by simp [nth_eq, h]
theorem rep_leB {xs : List UInt8} {i : Nat} : xs ++ List.replicate (4 * i) 0 ++ leB 4 0 = xs ++ List.replicate (4 * (i + 1)) 0 := by
  rw [show leB 4 0 = List.replicate 4 0 from rfl, List.append_assoc, List.replicate_append_replicate, Nat.mul_succ]
theorem leB8_0 : leB 4 0 ++ leB 4 0 = leB 8 0 := rfl
theorem fput64_s {xs : List UInt8} {v : Value} {E : Chunk} {x : Nat} (hx : x = 0) (own : Own 5 1 v xs.length (bc xs) E) (h : xs.length < 900000) :
    Spec Tryz.prog 151 [v, N .u64 x] [] [E] (fun r : Value × Chunk => Own 5 1 r.1 (xs ++ leB 8 x).length (bc (xs ++ leB 8 x)) r.2) (fun r => r.1) (fun r => [r.2]) := by
  subst hx
  refine Spec.of Tryz.func151 rfl Tryz.ntmps151 (by simp) fun w => ?_
  refine T.sr <| Rl.q (Qt.as (v := .slice none 0 0)) <| Rl.nilK <| ?_
  refine T.sr <| Rl.q Qt.mv <| Rl.q Qt.mv <| Rl.q (Qt.cv (a := 0) (h := by decide)) <| Rl.e (Ef.call (S := fput32_s (xs := xs) (x := 0) own (by omega))) fun r8 h8 => Rl.q Qt.mv <| Rl.q (Qt.toN (c := 0) (Qt.shr (a := 0) (b := 32) (h := by decide)) rfl) <| Rl.q (Qt.cv (a := 0) (h := by decide)) <| ?_
  refine Rl.e (Ef.call (S := fput32_s (xs := xs ++ leB 4 0) (x := 0) h8 (by rw [List.length_append, leB_length]; omega))) fun r12 h12 => Rl.q Qt.as <| Rl.nilK <| ?_
  refine T.ret <| Ex.ret1 (.inl rfl) rfl ?_ rfl
  exact fun w h => ⟨r12, by rw [List.append_assoc, leB8_0] at h12; exact h12, rfl, h.re⟩

def sbC (s0 s1 s3 s4 s10 s29 : Nat) : List Value := [N .u32 s0, N .u32 s1, N .u32 0, N .u32 s3, N .u32 s4, N .u32 0, N .u32 2, N .u32 2, N .u32 32768, N .u32 32768, N .u32 s10, N .u32 0, N .u32 0, N .u16 0, N .u16 0, N .u16 61267, N .u16 1, N .u16 1, N .u16 0, N .u32 0, N .u32 0, N .u32 0, N .u32 1, N .u16 0, N .u16 0, N .u32 11, N .u16 256, N .u16 0, N .u32 520, N .u32 s29, N .u32 4170, N .u8 0, N .u8 0, N .u8 0, N .u8 0, N .u8 0, N .u8 0, N .u8 0, N .u8 0, N .u8 0, N .u8 0, N .u8 0, N .u8 0, N .u8 0, N .u8 0, N .u8 0, N .u8 0, N .u8 0, N .u8 0, N .u8 0, N .u8 0, N .u8 0, N .u8 0, N .u8 0, N .u8 0, N .u8 0, N .u8 0, N .u8 0, N .u8 0, N .u8 0, N .u8 0, N .u8 0, N .u8 0, N .u8 0, N .u8 0, N .u8 0, N .u8 0, N .u8 0, N .u8 0, N .u8 0, N .u8 0, N .u8 0, N .u8 0, N .u8 0, N .u8 0, N .u8 0, N .u8 0, N .u8 0, N .u8 0, N .u8 0, N .u8 0, N .u8 0, N .u8 0, N .u8 0, N .u8 0, N .u8 0, N .u8 0, N .u8 0, N .u8 0, N .u8 0, N .u8 0, N .u8 0, N .u8 0, N .u8 0, N .u8 0, N .u8 0, N .u8 0, N .u8 0, N .u8 0, N .u8 0, N .u8 0, N .u8 0, N .u8 0, N .u8 0, N .u8 0, N .u8 0, N .u8 0, N .u8 0, N .u8 0, N .u8 0, N .u8 0, N .u8 0, N .u8 0, N .u8 0, N .u8 0, N .u8 0, N .u8 0, N .u8 0, N .u8 0, N .u8 0, N .u8 0, N .u8 0, N .u8 0, N .u8 0, N .u8 0, N .u8 0, N .u8 0, N .u32 0, N .u8 0, N .u8 0, N .u16 0, N .u8 0, N .u8 0, N .u8 0, N .u8 0, N .u8 0, N .u8 0, N .u8 0, N .u8 0, N .u8 0, N .u8 0, N .u8 0, N .u8 0, N .u8 0, N .u8 0, N .u8 0, N .u8 0, N .u32 0, N .u32 0, N .u32 0, N .u32 0, N .u32 0, N .u32 0, N .u32 0, N .u8 0, N .u8 0, N .u16 0, N .u32 0, N .u32 0, N .u32 0, N .u32 0, N .u32 0, N .u32 0, N .u32 0, N .u32 0, N .u32 0, N .u32 0, N .u32 0, N .u32 0, N .u32 0, N .u32 0, N .u32 0, N .u32 0, N .u32 0, N .u32 0, N .u32 0, N .u32 0, N .u32 0, N .u32 0, N .u32 0, N .u16 24, N .u16 24, N .u32 0, N .u16 0, N .u16 0, N .u64 0, N .u32 0, N .u8 31, N .u8 0, N .u16 0, N .u64 0, N .u32 0, N .u32 0, N .u64 0, N .u32 0, N .u32 0, N .u32 0, N .u32 0, N .u64 0, N .u8 0, N .u8 0, N .u8 0, N .u8 0, N .u8 0, N .u8 0, N .u8 0, N .u8 0, N .u8 0, N .u8 0, N .u8 0, N .u8 0, N .u8 0, N .u8 0, N .u8 0, N .u8 0, N .u8 0, N .u8 0, N .u8 0, N .u8 0, N .u8 0, N .u8 0, N .u8 0, N .u8 0, N .u8 0, N .u8 0, N .u8 0, N .u8 0, N .u8 0, N .u8 0, N .u8 0, N .u8 0, N .u32 0, N .u32 0, N .u32 0, N .u32 0, N .u64 0, N .u8 0, N .u8 0, N .u8 0, N .u8 0, N .u8 0, N .u8 0, N .u8 0, N .u8 0, N .u8 0, N .u8 0, N .u8 0, N .u8 0, N .u8 0, N .u8 0, N .u8 0, N .u8 0, N .u8 0, N .u8 0, N .u8 0, N .u8 0, N .u8 0, N .u8 0, N .u8 0, N .u8 0, N .u8 0, N .u8 0, N .u8 0, N .u8 0, N .u8 0, N .u8 0, N .u8 0, N .u8 0, N .u8 0, N .u8 0, N .u8 0, N .u8 0, N .u8 0, N .u8 0, N .u8 0, N .u8 0, N .u8 0, N .u8 0, N .u8 0, N .u8 0, N .u8 0, N .u8 0, N .u8 0, N .u8 0, N .u8 0, N .u8 0, N .u8 0, N .u8 0, N .u8 0, N .u8 0, N .u8 0, N .u8 0, N .u8 0, N .u8 0, N .u8 0, N .u8 0, N .u8 0, N .u8 0, N .u8 0, N .u8 0, N .u8 0, N .u8 0, N .u8 0, N .u8 0, N .u8 0, N .u8 0, N .u8 0, N .u8 0, N .u8 0, N .u8 0, N .u8 0, N .u8 0, N .u8 0, N .u8 0, N .u8 0, N .u8 0, N .u8 0, N .u8 0, N .u8 0, N .u8 0, N .u8 0, N .u8 0, N .u8 0, N .u8 0, N .u8 0, N .u8 0, N .u8 0, N .u8 0, N .u8 0, N .u8 0, N .u8 0, N .u8 0, N .u32 0, N .u32 0, N .u32 0, N .u32 0, N .u32 0, N .u8 0, N .u8 0, N .u8 0, N .u8 0, N .u8 0, N .u8 0, N .u8 0, N .u8 0, N .u8 0, N .u8 0, N .u8 0, N .u8 0, N .u8 0, N .u8 0, N .u8 0, N .u8 0, N .u8 0, N .u8 0, N .u8 0, N .u8 0, N .u32 11, N .u32 0, N .u32 0, N .u8 0, N .u8 0, N .u8 0, N .u8 0, N .u8 0, N .u8 0, N .u8 0, N .u8 0, N .u32 0, N .u32 0, N .u32 0, N .u32 0, N .u32 0, N .u32 0, N .u32 0, N .u32 0, N .u32 0, N .u32 0, N .u32 0, N .u32 0, N .u32 0, N .u32 0, N .u32 0, N .u32 0, N .u32 0, N .u32 0, N .u32 0, N .u32 0, N .u32 0, N .u32 0, N .u32 0, N .u32 0, N .u32 0, N .u32 0, N .u32 0, N .u32 0, N .u32 0, N .u32 0, N .u32 0, N .u32 0, N .u32 0, N .u32 0, N .u32 0, N .u32 0, N .u32 0, N .u32 0, N .u32 0, N .u32 0, N .u32 0, N .u32 0, N .u32 0, N .u32 0, N .u32 0, N .u32 0, N .u32 0, N .u32 0, N .u32 0, N .u32 0, N .u32 0, N .u32 0, N .u32 0, N .u32 0, N .u32 0, N .u32 0, N .u32 0, N .u32 0, N .u32 0, N .u32 0, N .u32 0, N .u32 0, N .u32 0, N .u32 0, N .u32 0, N .u32 0, N .u32 0, N .u32 0, N .u32 0, N .u32 0, N .u32 0, N .u32 0, N .u32 0, N .u32 0, N .u32 0, N .u32 0, N .u32 0, N .u32 0, N .u32 0, N .u32 0, N .u32 0, N .u32 0, N .u32 0, N .u32 0, N .u32 0, N .u32 0, N .u32 0, N .u32 0, N .u32 0, N .u32 0, N .u32 0, N .u32 0, N .u32 0, N .u32 0, N .u32 0, N .u32 0, N .u32 0]
def sbB (s0 s1 s3 s4 s10 s29 : Nat) : List UInt8 := leB 4 s0 ++ (leB 4 s1 ++ (leB 4 0 ++ (leB 4 s3 ++ (leB 4 s4 ++ (leB 4 0 ++ (leB 4 2 ++ (leB 4 2 ++ (leB 4 32768 ++ (leB 4 32768 ++ (leB 4 s10 ++ (leB 4 0 ++ (leB 4 0 ++ (leB 2 0 ++ (leB 2 0 ++ (leB 2 61267 ++ (leB 2 1 ++ (leB 2 1 ++ (leB 2 0 ++ (leB 4 0 ++ (leB 4 0 ++ (leB 4 0 ++ (leB 4 1 ++ (leB 2 0 ++ (leB 2 0 ++ (leB 4 11 ++ (leB 2 256 ++ (leB 2 0 ++ (leB 4 520 ++ (leB 4 s29 ++ (leB 4 4170 ++ (List.replicate 16 0 ++ (List.replicate 16 0 ++ (List.replicate 64 0 ++ (leB 4 0 ++ (leB 1 0 ++ (leB 1 0 ++ (leB 2 0 ++ (List.replicate 16 0 ++ (leB 4 0 ++ (leB 4 0 ++ (leB 4 0 ++ (List.replicate (4 * 4) 0 ++ (leB 1 0 ++ (leB 1 0 ++ (leB 2 0 ++ (leB 4 0 ++ (leB 4 0 ++ (leB 4 0 ++ (List.replicate (4 * 17) 0 ++ (leB 4 0 ++ (leB 4 0 ++ (leB 4 0 ++ (leB 2 24 ++ (leB 2 24 ++ (leB 4 0 ++ (leB 2 0 ++ (leB 2 0 ++ (leB 8 0 ++ (leB 4 0 ++ (leB 1 31 ++ (leB 1 0 ++ (leB 2 0 ++ (leB 8 0 ++ (leB 4 0 ++ (leB 4 0 ++ (leB 8 0 ++ (leB 4 0 ++ (leB 4 0 ++ (leB 4 0 ++ (leB 4 0 ++ (leB 8 0 ++ (List.replicate 32 0 ++ (leB 4 0 ++ (leB 4 0 ++ (leB 4 0 ++ (leB 4 0 ++ (leB 8 0 ++ (List.replicate 32 0 ++ (List.replicate 64 0 ++ (leB 4 0 ++ (leB 4 0 ++ (leB 4 0 ++ (List.replicate (4 * 2) 0 ++ (List.replicate 4 0 ++ (List.replicate 16 0 ++ (leB 4 11 ++ (leB 4 0 ++ (leB 4 0 ++ (leB 1 0 ++ (leB 1 0 ++ (leB 1 0 ++ (leB 1 0 ++ (leB 1 0 ++ (leB 1 0 ++ (List.replicate 2 0 ++ (List.replicate (4 * 96) 0 ++ (leB 4 0)))))))))))))))))))))))))))))))))))))))))))))))))))))))))))))))))))))))))))))))))))))))))))))))))
set_option maxHeartbeats 8000000 in
theorem sb_s {s0 s1 s3 s4 s10 s29 : Nat} : Spec Tryz.prog 108 [.agg (sbC s0 s1 s3 s4 s10 s29).toArray] [] [] (fun r : Value × Chunk => Own 5 1 r.1 1024 (bc (sbB s0 s1 s3 s4 s10 s29)) r.2) (fun r => r.1) (fun r => [r.2]) := by
  refine Spec.of Tryz.func108 rfl Tryz.ntmps108 (by simp) fun w => ?_
  refine T.sr <| Rl.e Ef.bxA fun b1 hb1 => Rl.q (Qt.as (v := .slice none 0 0)) <| Rl.nilK <| ?_
  refine T.sr <| Rl.q (Qt.as (v := .slice none 0 0)) <| Rl.nilK <| ?_
  refine T.add0 ?_
  obtain ⟨x0, hx0⟩ : ∃ l : List UInt8, l = [] := ⟨_, rfl⟩
  have hl0 : x0.length = 0 := by rw [hx0]; rfl
  have ho0 : Own 5 1 (.slice none 0 0) x0.length (bc x0) [] := by rw [hx0]; exact Own.nil 5 1
  refine T.sr <| Rl.q Qt.mv <| Rl.q Qt.fa0 <| Rl.q Qt.ld <| Rl.e (Ef.call (S := fput32_s (xs := x0) (x := s0) ho0 (by omega))) fun r15 h15 => Rl.q Qt.as <| Rl.nilK <| ?_
  have ho1' := h15
  obtain ⟨x1, hx1⟩ : ∃ l, l = x0 ++ leB 4 s0 := ⟨_, rfl⟩
  rw [← hx1] at ho1'
  have hl1 : x1.length = 4 := by rw [hx1, List.length_append, hl0]; first | rw [leB_length] | rw [List.length_replicate]
  refine T.sr <| Rl.q Qt.mv <| Rl.q Qt.fa <| Rl.q Qt.ld <| Rl.e (Ef.call (S := fput32_s (xs := x1) (x := s1) ho1' (by omega))) fun r19 h19 => Rl.q Qt.as <| Rl.nilK <| ?_
  have ho2' := h19
  obtain ⟨x2, hx2⟩ : ∃ l, l = x1 ++ leB 4 s1 := ⟨_, rfl⟩
  rw [← hx2] at ho2'
  have hl2 : x2.length = 8 := by rw [hx2, List.length_append, hl1]; first | rw [leB_length] | rw [List.length_replicate]
  refine T.sr <| Rl.q Qt.mv <| Rl.q Qt.fa <| Rl.q Qt.ld <| Rl.e (Ef.call (S := fput32_s (xs := x2) (x := 0) ho2' (by omega))) fun r23 h23 => Rl.q Qt.as <| Rl.nilK <| ?_
  have ho3' := h23
  obtain ⟨x3, hx3⟩ : ∃ l, l = x2 ++ leB 4 0 := ⟨_, rfl⟩
  rw [← hx3] at ho3'
  have hl3 : x3.length = 12 := by rw [hx3, List.length_append, hl2]; first | rw [leB_length] | rw [List.length_replicate]
  refine T.sr <| Rl.q Qt.mv <| Rl.q Qt.fa <| Rl.q Qt.ld <| Rl.e (Ef.call (S := fput32_s (xs := x3) (x := s3) ho3' (by omega))) fun r27 h27 => Rl.q Qt.as <| Rl.nilK <| ?_
  have ho4' := h27
  obtain ⟨x4, hx4⟩ : ∃ l, l = x3 ++ leB 4 s3 := ⟨_, rfl⟩
  rw [← hx4] at ho4'
  have hl4 : x4.length = 16 := by rw [hx4, List.length_append, hl3]; first | rw [leB_length] | rw [List.length_replicate]
  refine T.sr <| Rl.q Qt.mv <| Rl.q Qt.fa <| Rl.q Qt.ld <| Rl.e (Ef.call (S := fput32_s (xs := x4) (x := s4) ho4' (by omega))) fun r31 h31 => Rl.q Qt.as <| Rl.nilK <| ?_
  have ho5' := h31
  obtain ⟨x5, hx5⟩ : ∃ l, l = x4 ++ leB 4 s4 := ⟨_, rfl⟩
  rw [← hx5] at ho5'
  have hl5 : x5.length = 20 := by rw [hx5, List.length_append, hl4]; first | rw [leB_length] | rw [List.length_replicate]
  refine T.sr <| Rl.q Qt.mv <| Rl.q Qt.fa <| Rl.q Qt.ld <| Rl.e (Ef.call (S := fput32_s (xs := x5) (x := 0) ho5' (by omega))) fun r35 h35 => Rl.q Qt.as <| Rl.nilK <| ?_
  have ho6' := h35
  obtain ⟨x6, hx6⟩ : ∃ l, l = x5 ++ leB 4 0 := ⟨_, rfl⟩
  rw [← hx6] at ho6'
  have hl6 : x6.length = 24 := by rw [hx6, List.length_append, hl5]; first | rw [leB_length] | rw [List.length_replicate]
  refine T.sr <| Rl.q Qt.mv <| Rl.q Qt.fa <| Rl.q Qt.ld <| Rl.e (Ef.call (S := fput32_s (xs := x6) (x := 2) ho6' (by omega))) fun r39 h39 => Rl.q Qt.as <| Rl.nilK <| ?_
  have ho7' := h39
  obtain ⟨x7, hx7⟩ : ∃ l, l = x6 ++ leB 4 2 := ⟨_, rfl⟩
  rw [← hx7] at ho7'
  have hl7 : x7.length = 28 := by rw [hx7, List.length_append, hl6]; first | rw [leB_length] | rw [List.length_replicate]
  refine T.sr <| Rl.q Qt.mv <| Rl.q Qt.fa <| Rl.q Qt.ld <| Rl.e (Ef.call (S := fput32_s (xs := x7) (x := 2) ho7' (by omega))) fun r43 h43 => Rl.q Qt.as <| Rl.nilK <| ?_
  have ho8' := h43
  obtain ⟨x8, hx8⟩ : ∃ l, l = x7 ++ leB 4 2 := ⟨_, rfl⟩
  rw [← hx8] at ho8'
  have hl8 : x8.length = 32 := by rw [hx8, List.length_append, hl7]; first | rw [leB_length] | rw [List.length_replicate]
  refine T.sr <| Rl.q Qt.mv <| Rl.q Qt.fa <| Rl.q Qt.ld <| Rl.e (Ef.call (S := fput32_s (xs := x8) (x := 32768) ho8' (by omega))) fun r47 h47 => Rl.q Qt.as <| Rl.nilK <| ?_
  have ho9' := h47
  obtain ⟨x9, hx9⟩ : ∃ l, l = x8 ++ leB 4 32768 := ⟨_, rfl⟩
  rw [← hx9] at ho9'
  have hl9 : x9.length = 36 := by rw [hx9, List.length_append, hl8]; first | rw [leB_length] | rw [List.length_replicate]
  refine T.sr <| Rl.q Qt.mv <| Rl.q Qt.fa <| Rl.q Qt.ld <| Rl.e (Ef.call (S := fput32_s (xs := x9) (x := 32768) ho9' (by omega))) fun r51 h51 => Rl.q Qt.as <| Rl.nilK <| ?_
  have ho10' := h51
  obtain ⟨x10, hx10⟩ : ∃ l, l = x9 ++ leB 4 32768 := ⟨_, rfl⟩
  rw [← hx10] at ho10'
  have hl10 : x10.length = 40 := by rw [hx10, List.length_append, hl9]; first | rw [leB_length] | rw [List.length_replicate]
  refine T.sr <| Rl.q Qt.mv <| Rl.q Qt.fa <| Rl.q Qt.ld <| Rl.e (Ef.call (S := fput32_s (xs := x10) (x := s10) ho10' (by omega))) fun r55 h55 => Rl.q Qt.as <| Rl.nilK <| ?_
  have ho11' := h55
  obtain ⟨x11, hx11⟩ : ∃ l, l = x10 ++ leB 4 s10 := ⟨_, rfl⟩
  rw [← hx11] at ho11'
  have hl11 : x11.length = 44 := by rw [hx11, List.length_append, hl10]; first | rw [leB_length] | rw [List.length_replicate]
  refine T.sr <| Rl.q Qt.mv <| Rl.q Qt.fa <| Rl.q Qt.ld <| Rl.e (Ef.call (S := fput32_s (xs := x11) (x := 0) ho11' (by omega))) fun r59 h59 => Rl.q Qt.as <| Rl.nilK <| ?_
  have ho12' := h59
  obtain ⟨x12, hx12⟩ : ∃ l, l = x11 ++ leB 4 0 := ⟨_, rfl⟩
  rw [← hx12] at ho12'
  have hl12 : x12.length = 48 := by rw [hx12, List.length_append, hl11]; first | rw [leB_length] | rw [List.length_replicate]
  refine T.sr <| Rl.q Qt.mv <| Rl.q Qt.fa <| Rl.q Qt.ld <| Rl.e (Ef.call (S := fput32_s (xs := x12) (x := 0) ho12' (by omega))) fun r63 h63 => Rl.q Qt.as <| Rl.nilK <| ?_
  have ho13' := h63
  obtain ⟨x13, hx13⟩ : ∃ l, l = x12 ++ leB 4 0 := ⟨_, rfl⟩
  rw [← hx13] at ho13'
  have hl13 : x13.length = 52 := by rw [hx13, List.length_append, hl12]; first | rw [leB_length] | rw [List.length_replicate]
  refine T.sr <| Rl.q Qt.mv <| Rl.q Qt.fa <| Rl.q Qt.ld <| Rl.e (Ef.call (S := fput16_s (xs := x13) (x := 0) ho13' (by omega))) fun r67 h67 => Rl.q Qt.as <| Rl.nilK <| ?_
  have ho14' := h67
  obtain ⟨x14, hx14⟩ : ∃ l, l = x13 ++ leB 2 0 := ⟨_, rfl⟩
  rw [← hx14] at ho14'
  have hl14 : x14.length = 54 := by rw [hx14, List.length_append, hl13]; first | rw [leB_length] | rw [List.length_replicate]
  refine T.sr <| Rl.q Qt.mv <| Rl.q Qt.fa <| Rl.q Qt.ld <| Rl.e (Ef.call (S := fput16_s (xs := x14) (x := 0) ho14' (by omega))) fun r71 h71 => Rl.q Qt.as <| Rl.nilK <| ?_
  have ho15' := h71
  obtain ⟨x15, hx15⟩ : ∃ l, l = x14 ++ leB 2 0 := ⟨_, rfl⟩
  rw [← hx15] at ho15'
  have hl15 : x15.length = 56 := by rw [hx15, List.length_append, hl14]; first | rw [leB_length] | rw [List.length_replicate]
  refine T.sr <| Rl.q Qt.mv <| Rl.q Qt.fa <| Rl.q Qt.ld <| Rl.e (Ef.call (S := fput16_s (xs := x15) (x := 61267) ho15' (by omega))) fun r75 h75 => Rl.q Qt.as <| Rl.nilK <| ?_
  have ho16' := h75
  obtain ⟨x16, hx16⟩ : ∃ l, l = x15 ++ leB 2 61267 := ⟨_, rfl⟩
  rw [← hx16] at ho16'
  have hl16 : x16.length = 58 := by rw [hx16, List.length_append, hl15]; first | rw [leB_length] | rw [List.length_replicate]
  refine T.sr <| Rl.q Qt.mv <| Rl.q Qt.fa <| Rl.q Qt.ld <| Rl.e (Ef.call (S := fput16_s (xs := x16) (x := 1) ho16' (by omega))) fun r79 h79 => Rl.q Qt.as <| Rl.nilK <| ?_
  have ho17' := h79
  obtain ⟨x17, hx17⟩ : ∃ l, l = x16 ++ leB 2 1 := ⟨_, rfl⟩
  rw [← hx17] at ho17'
  have hl17 : x17.length = 60 := by rw [hx17, List.length_append, hl16]; first | rw [leB_length] | rw [List.length_replicate]
  refine T.sr <| Rl.q Qt.mv <| Rl.q Qt.fa <| Rl.q Qt.ld <| Rl.e (Ef.call (S := fput16_s (xs := x17) (x := 1) ho17' (by omega))) fun r83 h83 => Rl.q Qt.as <| Rl.nilK <| ?_
  have ho18' := h83
  obtain ⟨x18, hx18⟩ : ∃ l, l = x17 ++ leB 2 1 := ⟨_, rfl⟩
  rw [← hx18] at ho18'
  have hl18 : x18.length = 62 := by rw [hx18, List.length_append, hl17]; first | rw [leB_length] | rw [List.length_replicate]
  refine T.sr <| Rl.q Qt.mv <| Rl.q Qt.fa <| Rl.q Qt.ld <| Rl.e (Ef.call (S := fput16_s (xs := x18) (x := 0) ho18' (by omega))) fun r87 h87 => Rl.q Qt.as <| Rl.nilK <| ?_
  have ho19' := h87
  obtain ⟨x19, hx19⟩ : ∃ l, l = x18 ++ leB 2 0 := ⟨_, rfl⟩
  rw [← hx19] at ho19'
  have hl19 : x19.length = 64 := by rw [hx19, List.length_append, hl18]; first | rw [leB_length] | rw [List.length_replicate]
  refine T.sr <| Rl.q Qt.mv <| Rl.q Qt.fa <| Rl.q Qt.ld <| Rl.e (Ef.call (S := fput32_s (xs := x19) (x := 0) ho19' (by omega))) fun r91 h91 => Rl.q Qt.as <| Rl.nilK <| ?_
  have ho20' := h91
  obtain ⟨x20, hx20⟩ : ∃ l, l = x19 ++ leB 4 0 := ⟨_, rfl⟩
  rw [← hx20] at ho20'
  have hl20 : x20.length = 68 := by rw [hx20, List.length_append, hl19]; first | rw [leB_length] | rw [List.length_replicate]
  refine T.sr <| Rl.q Qt.mv <| Rl.q Qt.fa <| Rl.q Qt.ld <| Rl.e (Ef.call (S := fput32_s (xs := x20) (x := 0) ho20' (by omega))) fun r95 h95 => Rl.q Qt.as <| Rl.nilK <| ?_
  have ho21' := h95
  obtain ⟨x21, hx21⟩ : ∃ l, l = x20 ++ leB 4 0 := ⟨_, rfl⟩
  rw [← hx21] at ho21'
  have hl21 : x21.length = 72 := by rw [hx21, List.length_append, hl20]; first | rw [leB_length] | rw [List.length_replicate]
  refine T.sr <| Rl.q Qt.mv <| Rl.q Qt.fa <| Rl.q Qt.ld <| Rl.e (Ef.call (S := fput32_s (xs := x21) (x := 0) ho21' (by omega))) fun r99 h99 => Rl.q Qt.as <| Rl.nilK <| ?_
  have ho22' := h99
  obtain ⟨x22, hx22⟩ : ∃ l, l = x21 ++ leB 4 0 := ⟨_, rfl⟩
  rw [← hx22] at ho22'
  have hl22 : x22.length = 76 := by rw [hx22, List.length_append, hl21]; first | rw [leB_length] | rw [List.length_replicate]
  refine T.sr <| Rl.q Qt.mv <| Rl.q Qt.fa <| Rl.q Qt.ld <| Rl.e (Ef.call (S := fput32_s (xs := x22) (x := 1) ho22' (by omega))) fun r103 h103 => Rl.q Qt.as <| Rl.nilK <| ?_
  have ho23' := h103
  obtain ⟨x23, hx23⟩ : ∃ l, l = x22 ++ leB 4 1 := ⟨_, rfl⟩
  rw [← hx23] at ho23'
  have hl23 : x23.length = 80 := by rw [hx23, List.length_append, hl22]; first | rw [leB_length] | rw [List.length_replicate]
  refine T.sr <| Rl.q Qt.mv <| Rl.q Qt.fa <| Rl.q Qt.ld <| Rl.e (Ef.call (S := fput16_s (xs := x23) (x := 0) ho23' (by omega))) fun r107 h107 => Rl.q Qt.as <| Rl.nilK <| ?_
  have ho24' := h107
  obtain ⟨x24, hx24⟩ : ∃ l, l = x23 ++ leB 2 0 := ⟨_, rfl⟩
  rw [← hx24] at ho24'
  have hl24 : x24.length = 82 := by rw [hx24, List.length_append, hl23]; first | rw [leB_length] | rw [List.length_replicate]
  refine T.sr <| Rl.q Qt.mv <| Rl.q Qt.fa <| Rl.q Qt.ld <| Rl.e (Ef.call (S := fput16_s (xs := x24) (x := 0) ho24' (by omega))) fun r111 h111 => Rl.q Qt.as <| Rl.nilK <| ?_
  have ho25' := h111
  obtain ⟨x25, hx25⟩ : ∃ l, l = x24 ++ leB 2 0 := ⟨_, rfl⟩
  rw [← hx25] at ho25'
  have hl25 : x25.length = 84 := by rw [hx25, List.length_append, hl24]; first | rw [leB_length] | rw [List.length_replicate]
  refine T.sr <| Rl.q Qt.mv <| Rl.q Qt.fa <| Rl.q Qt.ld <| Rl.e (Ef.call (S := fput32_s (xs := x25) (x := 11) ho25' (by omega))) fun r115 h115 => Rl.q Qt.as <| Rl.nilK <| ?_
  have ho26' := h115
  obtain ⟨x26, hx26⟩ : ∃ l, l = x25 ++ leB 4 11 := ⟨_, rfl⟩
  rw [← hx26] at ho26'
  have hl26 : x26.length = 88 := by rw [hx26, List.length_append, hl25]; first | rw [leB_length] | rw [List.length_replicate]
  refine T.sr <| Rl.q Qt.mv <| Rl.q Qt.fa <| Rl.q Qt.ld <| Rl.e (Ef.call (S := fput16_s (xs := x26) (x := 256) ho26' (by omega))) fun r119 h119 => Rl.q Qt.as <| Rl.nilK <| ?_
  have ho27' := h119
  obtain ⟨x27, hx27⟩ : ∃ l, l = x26 ++ leB 2 256 := ⟨_, rfl⟩
  rw [← hx27] at ho27'
  have hl27 : x27.length = 90 := by rw [hx27, List.length_append, hl26]; first | rw [leB_length] | rw [List.length_replicate]
  refine T.sr <| Rl.q Qt.mv <| Rl.q Qt.fa <| Rl.q Qt.ld <| Rl.e (Ef.call (S := fput16_s (xs := x27) (x := 0) ho27' (by omega))) fun r123 h123 => Rl.q Qt.as <| Rl.nilK <| ?_
  have ho28' := h123
  obtain ⟨x28, hx28⟩ : ∃ l, l = x27 ++ leB 2 0 := ⟨_, rfl⟩
  rw [← hx28] at ho28'
  have hl28 : x28.length = 92 := by rw [hx28, List.length_append, hl27]; first | rw [leB_length] | rw [List.length_replicate]
  refine T.sr <| Rl.q Qt.mv <| Rl.q Qt.fa <| Rl.q Qt.ld <| Rl.e (Ef.call (S := fput32_s (xs := x28) (x := 520) ho28' (by omega))) fun r127 h127 => Rl.q Qt.as <| Rl.nilK <| ?_
  have ho29' := h127
  obtain ⟨x29, hx29⟩ : ∃ l, l = x28 ++ leB 4 520 := ⟨_, rfl⟩
  rw [← hx29] at ho29'
  have hl29 : x29.length = 96 := by rw [hx29, List.length_append, hl28]; first | rw [leB_length] | rw [List.length_replicate]
  refine T.sr <| Rl.q Qt.mv <| Rl.q Qt.fa <| Rl.q Qt.ld <| Rl.e (Ef.call (S := fput32_s (xs := x29) (x := s29) ho29' (by omega))) fun r131 h131 => Rl.q Qt.as <| Rl.nilK <| ?_
  have ho30' := h131
  obtain ⟨x30, hx30⟩ : ∃ l, l = x29 ++ leB 4 s29 := ⟨_, rfl⟩
  rw [← hx30] at ho30'
  have hl30 : x30.length = 100 := by rw [hx30, List.length_append, hl29]; first | rw [leB_length] | rw [List.length_replicate]
  refine T.sr <| Rl.q Qt.mv <| Rl.q Qt.fa <| Rl.q Qt.ld <| Rl.e (Ef.call (S := fput32_s (xs := x30) (x := 4170) ho30' (by omega))) fun r135 h135 => Rl.q Qt.as <| Rl.nilK <| ?_
  have ho31' := h135
  obtain ⟨x31, hx31⟩ : ∃ l, l = x30 ++ leB 4 4170 := ⟨_, rfl⟩
  rw [← hx31] at ho31'
  have hl31 : x31.length = 104 := by rw [hx31, List.length_append, hl30]; first | rw [leB_length] | rw [List.length_replicate]
  refine T.sr <| Rl.q Qt.mv <| Rl.q Qt.fa <| Rl.q (Qt.to (u := Sl b1 31 16 16) Qt.slA (rfl)) <| Rl.e (Ef.ap (own := ho31') (o := 31) (j := 16) (vs := bc (List.replicate 16 0)) (hs := by rfl) (hl := ⟨rfl, bc_ones _, by simp only [maxLen]; omega, by omega⟩)) fun v139 hv139 => Rl.q Qt.as <| Rl.nilK <| ?_
  have ho32' := Own.ba x31 (n := 16) (by rw [List.length_replicate]) hv139
  obtain ⟨x32, hx32⟩ : ∃ l, l = x31 ++ List.replicate 16 0 := ⟨_, rfl⟩
  rw [← hx32] at ho32'
  have hl32 : x32.length = 120 := by rw [hx32, List.length_append, hl31]; first | rw [leB_length] | rw [List.length_replicate]
  refine T.sr <| Rl.q Qt.mv <| Rl.q Qt.fa <| Rl.q (Qt.to (u := Sl b1 47 16 16) Qt.slA (rfl)) <| Rl.e (Ef.ap (own := ho32') (o := 47) (j := 16) (vs := bc (List.replicate 16 0)) (hs := by rfl) (hl := ⟨rfl, bc_ones _, by simp only [maxLen]; omega, by omega⟩)) fun v143 hv143 => Rl.q Qt.as <| Rl.nilK <| ?_
  have ho33' := Own.ba x32 (n := 16) (by rw [List.length_replicate]) hv143
  obtain ⟨x33, hx33⟩ : ∃ l, l = x32 ++ List.replicate 16 0 := ⟨_, rfl⟩
  rw [← hx33] at ho33'
  have hl33 : x33.length = 136 := by rw [hx33, List.length_append, hl32]; first | rw [leB_length] | rw [List.length_replicate]
  refine T.sr <| Rl.q Qt.mv <| Rl.q Qt.fa <| Rl.q (Qt.to (u := Sl b1 63 64 64) Qt.slA (rfl)) <| Rl.e (Ef.ap (own := ho33') (o := 63) (j := 64) (vs := bc (List.replicate 64 0)) (hs := by rfl) (hl := ⟨rfl, bc_ones _, by simp only [maxLen]; omega, by omega⟩)) fun v147 hv147 => Rl.q Qt.as <| Rl.nilK <| ?_
  have ho34' := Own.ba x33 (n := 64) (by rw [List.length_replicate]) hv147
  obtain ⟨x34, hx34⟩ : ∃ l, l = x33 ++ List.replicate 64 0 := ⟨_, rfl⟩
  rw [← hx34] at ho34'
  have hl34 : x34.length = 200 := by rw [hx34, List.length_append, hl33]; first | rw [leB_length] | rw [List.length_replicate]
  refine T.sr <| Rl.q Qt.mv <| Rl.q Qt.fa <| Rl.q Qt.ld <| Rl.e (Ef.call (S := fput32_s (xs := x34) (x := 0) ho34' (by omega))) fun r151 h151 => Rl.q Qt.as <| Rl.nilK <| ?_
  have ho35' := h151
  obtain ⟨x35, hx35⟩ : ∃ l, l = x34 ++ leB 4 0 := ⟨_, rfl⟩
  rw [← hx35] at ho35'
  have hl35 : x35.length = 204 := by rw [hx35, List.length_append, hl34]; first | rw [leB_length] | rw [List.length_replicate]
  refine T.sr <| Rl.q Qt.mv <| Rl.q Qt.fa <| Rl.q Qt.ld <| Rl.e Ef.bs fun b155 hb155 => Rl.e (Ef.ap (own := ho35') (vs := [N .u8 0]) (hl := ⟨rfl, rfl, by simp only [maxLen]; omega, by omega⟩)) fun v156 hv156 => Rl.q Qt.as <| Rl.nilK <| ?_
  have ho36' := Own.b1 x35 hv156 (by decide)
  obtain ⟨x36, hx36⟩ : ∃ l, l = x35 ++ leB 1 0 := ⟨_, rfl⟩
  rw [← hx36] at ho36'
  have hl36 : x36.length = 205 := by rw [hx36, List.length_append, hl35]; first | rw [leB_length] | rw [List.length_replicate]
  refine T.sr <| Rl.q Qt.mv <| Rl.q Qt.fa <| Rl.q Qt.ld <| Rl.e Ef.bs fun b160 hb160 => Rl.e (Ef.ap (own := ho36') (vs := [N .u8 0]) (hl := ⟨rfl, rfl, by simp only [maxLen]; omega, by omega⟩)) fun v161 hv161 => Rl.q Qt.as <| Rl.nilK <| ?_
  have ho37' := Own.b1 x36 hv161 (by decide)
  obtain ⟨x37, hx37⟩ : ∃ l, l = x36 ++ leB 1 0 := ⟨_, rfl⟩
  rw [← hx37] at ho37'
  have hl37 : x37.length = 206 := by rw [hx37, List.length_append, hl36]; first | rw [leB_length] | rw [List.length_replicate]
  refine T.sr <| Rl.q Qt.mv <| Rl.q Qt.fa <| Rl.q Qt.ld <| Rl.e (Ef.call (S := fput16_s (xs := x37) (x := 0) ho37' (by omega))) fun r165 h165 => Rl.q Qt.as <| Rl.nilK <| ?_
  have ho38' := h165
  obtain ⟨x38, hx38⟩ : ∃ l, l = x37 ++ leB 2 0 := ⟨_, rfl⟩
  rw [← hx38] at ho38'
  have hl38 : x38.length = 208 := by rw [hx38, List.length_append, hl37]; first | rw [leB_length] | rw [List.length_replicate]
  refine T.sr <| Rl.q Qt.mv <| Rl.q Qt.fa <| Rl.q (Qt.to (u := Sl b1 131 16 16) Qt.slA (rfl)) <| Rl.e (Ef.ap (own := ho38') (o := 131) (j := 16) (vs := bc (List.replicate 16 0)) (hs := by rfl) (hl := ⟨rfl, bc_ones _, by simp only [maxLen]; omega, by omega⟩)) fun v169 hv169 => Rl.q Qt.as <| Rl.nilK <| ?_
  have ho39' := Own.ba x38 (n := 16) (by rw [List.length_replicate]) hv169
  obtain ⟨x39, hx39⟩ : ∃ l, l = x38 ++ List.replicate 16 0 := ⟨_, rfl⟩
  rw [← hx39] at ho39'
  have hl39 : x39.length = 224 := by rw [hx39, List.length_append, hl38]; first | rw [leB_length] | rw [List.length_replicate]
  refine T.sr <| Rl.q Qt.mv <| Rl.q Qt.fa <| Rl.q Qt.ld <| Rl.e (Ef.call (S := fput32_s (xs := x39) (x := 0) ho39' (by omega))) fun r173 h173 => Rl.q Qt.as <| Rl.nilK <| ?_
  have ho40' := h173
  obtain ⟨x40, hx40⟩ : ∃ l, l = x39 ++ leB 4 0 := ⟨_, rfl⟩
  rw [← hx40] at ho40'
  have hl40 : x40.length = 228 := by rw [hx40, List.length_append, hl39]; first | rw [leB_length] | rw [List.length_replicate]
  refine T.sr <| Rl.q Qt.mv <| Rl.q Qt.fa <| Rl.q Qt.ld <| Rl.e (Ef.call (S := fput32_s (xs := x40) (x := 0) ho40' (by omega))) fun r177 h177 => Rl.q Qt.as <| Rl.nilK <| ?_
  have ho41' := h177
  obtain ⟨x41, hx41⟩ : ∃ l, l = x40 ++ leB 4 0 := ⟨_, rfl⟩
  rw [← hx41] at ho41'
  have hl41 : x41.length = 232 := by rw [hx41, List.length_append, hl40]; first | rw [leB_length] | rw [List.length_replicate]
  refine T.sr <| Rl.q Qt.mv <| Rl.q Qt.fa <| Rl.q Qt.ld <| Rl.e (Ef.call (S := fput32_s (xs := x41) (x := 0) ho41' (by omega))) fun r181 h181 => Rl.q Qt.as <| Rl.nilK <| ?_
  refine T.seq ?_
  have ho42' := h181
  obtain ⟨x42, hx42⟩ : ∃ l, l = x41 ++ leB 4 0 := ⟨_, rfl⟩
  rw [← hx42] at ho42'
  have hl42 : x42.length = 236 := by rw [hx42, List.length_append, hl41]; first | rw [leB_length] | rw [List.length_replicate]
  refine T.sr <| Rl.q Qt.fa <| Rl.q (Qt.ldA (vs := List.replicate 4 (N .u32 0)) (hv := by rfl)) <| Rl.q (Qt.mv (v := N .i64 0)) <| Rl.nilK <| ?_
  refine T.block ?_
  refine T.loop (α := Nat × (Value × Chunk)) (fun y => [(1, Pt b1), (3, y.2.1), (183, .agg (List.replicate 4 (N .u32 0)).toArray), (184, N .i64 y.1)]) (fun y => [y.2.2, [(b1, .cells (sbC s0 s1 s3 s4 s10 s29).toArray 216 (0, 0))]]) (fun y => y.1 ≤ 4 ∧ Own 5 1 y.2.1 (x42 ++ List.replicate (4 * y.1) 0).length (bc (x42 ++ List.replicate (4 * y.1) 0)) y.2.2) (fun y => 4 - y.1)
    (0, (r181.1, r181.2)) ⟨Nat.zero_le _, by simpa using ho42'⟩ ?_ (fun y hy => ?_)
  · exact .cons rfl <| .cons rfl <| .cons rfl <| .cons rfl <| .nil
  refine T.sr <| Rl.ltS (b := 4) (fun h185 => ?_) (fun h185 => ?_)
  · refine Rl.nilK <| ?_
    refine T.seq ?_
    refine T.condT ?_
    refine T.skip <| Ex.K <| ?_
    refine T.seq ?_
    refine T.block ?_
    refine T.sr <| Rl.q (Qt.ixA (i := y.1) (v := N .u32 0) (hv := nth_rep h185)) <| Rl.q Qt.as <| Rl.nilK <| ?_
    refine T.region <| Rl.q Qt.mv <| Rl.q Qt.mv <| Rl.e (Ef.call (S := fput32_s (xs := x42 ++ List.replicate (4 * y.1) 0) (x := 0) hy.2 (by rw [List.length_append, List.length_replicate]; omega))) fun r189 h189 => Rl.q Qt.as <| Rl.nil <| Ex.Bnormal <| Ex.K <| ?_
    refine T.region <| Rl.q (Qt.add (b := 1)) <| Rl.q Qt.mv <| Rl.nil <| ?_
    exact Ex.next (y.1 + 1, (r189.1, r189.2)) ⟨by omega, by rw [← rep_leB]; exact h189⟩ (by show 4 - (y.1 + 1) < 4 - y.1; omega) (.cons rfl <| .cons rfl <| .cons rfl <| .cons rfl <| .nil)
  · refine Rl.nilK <| ?_
    refine T.seq ?_
    refine T.condF ?_
    refine T.exit <| Ex.Kexit <| Ex.Lexit <| Ex.Bhit <| Ex.K <| ?_
    obtain ⟨i42, v42, E42⟩ := y
    obtain ⟨hi42, hy42⟩ := hy
    have hy42 : Own 5 1 v42 (x42 ++ List.replicate (4 * i42) 0).length (bc (x42 ++ List.replicate (4 * i42) 0)) E42 := hy42
    have hi42 : i42 ≤ 4 := hi42
    have hge42 : 4 ≤ i42 := h185
    obtain rfl : i42 = 4 := by omega
    have ho43' := hy42
    obtain ⟨x43, hx43⟩ : ∃ l, l = x42 ++ List.replicate (4 * 4) 0 := ⟨_, rfl⟩
    rw [← hx43] at ho43'
    have hl43 : x43.length = 252 := by rw [hx43, List.length_append, hl42]; first | rw [leB_length] | rw [List.length_replicate]
    refine T.sr <| Rl.q Qt.mv <| Rl.q Qt.fa <| Rl.q Qt.ld <| Rl.e Ef.bs fun b194 hb194 => Rl.e (Ef.ap (own := ho43') (vs := [N .u8 0]) (hl := ⟨rfl, rfl, by simp only [maxLen]; omega, by omega⟩)) fun v195 hv195 => Rl.q Qt.as <| Rl.nilK <| ?_
    have ho44' := Own.b1 x43 hv195 (by decide)
    obtain ⟨x44, hx44⟩ : ∃ l, l = x43 ++ leB 1 0 := ⟨_, rfl⟩
    rw [← hx44] at ho44'
    have hl44 : x44.length = 253 := by rw [hx44, List.length_append, hl43]; first | rw [leB_length] | rw [List.length_replicate]
    refine T.sr <| Rl.q Qt.mv <| Rl.q Qt.fa <| Rl.q Qt.ld <| Rl.e Ef.bs fun b199 hb199 => Rl.e (Ef.ap (own := ho44') (vs := [N .u8 0]) (hl := ⟨rfl, rfl, by simp only [maxLen]; omega, by omega⟩)) fun v200 hv200 => Rl.q Qt.as <| Rl.nilK <| ?_
    have ho45' := Own.b1 x44 hv200 (by decide)
    obtain ⟨x45, hx45⟩ : ∃ l, l = x44 ++ leB 1 0 := ⟨_, rfl⟩
    rw [← hx45] at ho45'
    have hl45 : x45.length = 254 := by rw [hx45, List.length_append, hl44]; first | rw [leB_length] | rw [List.length_replicate]
    refine T.sr <| Rl.q Qt.mv <| Rl.q Qt.fa <| Rl.q Qt.ld <| Rl.e (Ef.call (S := fput16_s (xs := x45) (x := 0) ho45' (by omega))) fun r204 h204 => Rl.q Qt.as <| Rl.nilK <| ?_
    have ho46' := h204
    obtain ⟨x46, hx46⟩ : ∃ l, l = x45 ++ leB 2 0 := ⟨_, rfl⟩
    rw [← hx46] at ho46'
    have hl46 : x46.length = 256 := by rw [hx46, List.length_append, hl45]; first | rw [leB_length] | rw [List.length_replicate]
    refine T.sr <| Rl.q Qt.mv <| Rl.q Qt.fa <| Rl.q Qt.ld <| Rl.e (Ef.call (S := fput32_s (xs := x46) (x := 0) ho46' (by omega))) fun r208 h208 => Rl.q Qt.as <| Rl.nilK <| ?_
    have ho47' := h208
    obtain ⟨x47, hx47⟩ : ∃ l, l = x46 ++ leB 4 0 := ⟨_, rfl⟩
    rw [← hx47] at ho47'
    have hl47 : x47.length = 260 := by rw [hx47, List.length_append, hl46]; first | rw [leB_length] | rw [List.length_replicate]
    refine T.sr <| Rl.q Qt.mv <| Rl.q Qt.fa <| Rl.q Qt.ld <| Rl.e (Ef.call (S := fput32_s (xs := x47) (x := 0) ho47' (by omega))) fun r212 h212 => Rl.q Qt.as <| Rl.nilK <| ?_
    have ho48' := h212
    obtain ⟨x48, hx48⟩ : ∃ l, l = x47 ++ leB 4 0 := ⟨_, rfl⟩
    rw [← hx48] at ho48'
    have hl48 : x48.length = 264 := by rw [hx48, List.length_append, hl47]; first | rw [leB_length] | rw [List.length_replicate]
    refine T.sr <| Rl.q Qt.mv <| Rl.q Qt.fa <| Rl.q Qt.ld <| Rl.e (Ef.call (S := fput32_s (xs := x48) (x := 0) ho48' (by omega))) fun r216 h216 => Rl.q Qt.as <| Rl.nilK <| ?_
    refine T.seq ?_
    have ho49' := h216
    obtain ⟨x49, hx49⟩ : ∃ l, l = x48 ++ leB 4 0 := ⟨_, rfl⟩
    rw [← hx49] at ho49'
    have hl49 : x49.length = 268 := by rw [hx49, List.length_append, hl48]; first | rw [leB_length] | rw [List.length_replicate]
    refine T.sr <| Rl.q Qt.fa <| Rl.q (Qt.ldA (vs := List.replicate 17 (N .u32 0)) (hv := by rfl)) <| Rl.q (Qt.mv (v := N .i64 0)) <| Rl.nilK <| ?_
    refine T.block ?_
    refine T.loop (α := Nat × (Value × Chunk)) (fun y => [(1, Pt b1), (3, y.2.1), (218, .agg (List.replicate 17 (N .u32 0)).toArray), (219, N .i64 y.1)]) (fun y => [y.2.2, [(b1, .cells (sbC s0 s1 s3 s4 s10 s29).toArray 216 (0, 0))]]) (fun y => y.1 ≤ 17 ∧ Own 5 1 y.2.1 (x49 ++ List.replicate (4 * y.1) 0).length (bc (x49 ++ List.replicate (4 * y.1) 0)) y.2.2) (fun y => 17 - y.1)
      (0, (r216.1, r216.2)) ⟨Nat.zero_le _, by simpa using ho49'⟩ ?_ (fun y hy => ?_)
    · exact .cons rfl <| .cons rfl <| .cons rfl <| .cons rfl <| .nil
    refine T.sr <| Rl.ltS (b := 17) (fun h220 => ?_) (fun h220 => ?_)
    · refine Rl.nilK <| ?_
      refine T.seq ?_
      refine T.condT ?_
      refine T.skip <| Ex.K <| ?_
      refine T.seq ?_
      refine T.block ?_
      refine T.sr <| Rl.q (Qt.ixA (i := y.1) (v := N .u32 0) (hv := nth_rep h220)) <| Rl.q Qt.as <| Rl.nilK <| ?_
      refine T.region <| Rl.q Qt.mv <| Rl.q Qt.mv <| Rl.e (Ef.call (S := fput32_s (xs := x49 ++ List.replicate (4 * y.1) 0) (x := 0) hy.2 (by rw [List.length_append, List.length_replicate]; omega))) fun r224 h224 => Rl.q Qt.as <| Rl.nil <| Ex.Bnormal <| Ex.K <| ?_
      refine T.region <| Rl.q (Qt.add (b := 1)) <| Rl.q Qt.mv <| Rl.nil <| ?_
      exact Ex.next (y.1 + 1, (r224.1, r224.2)) ⟨by omega, by rw [← rep_leB]; exact h224⟩ (by show 17 - (y.1 + 1) < 17 - y.1; omega) (.cons rfl <| .cons rfl <| .cons rfl <| .cons rfl <| .nil)
    · refine Rl.nilK <| ?_
      refine T.seq ?_
      refine T.condF ?_
      refine T.exit <| Ex.Kexit <| Ex.Lexit <| Ex.Bhit <| Ex.K <| ?_
      obtain ⟨i49, v49, E49⟩ := y
      obtain ⟨hi49, hy49⟩ := hy
      have hy49 : Own 5 1 v49 (x49 ++ List.replicate (4 * i49) 0).length (bc (x49 ++ List.replicate (4 * i49) 0)) E49 := hy49
      have hi49 : i49 ≤ 17 := hi49
      have hge49 : 17 ≤ i49 := h220
      obtain rfl : i49 = 17 := by omega
      have ho50' := hy49
      obtain ⟨x50, hx50⟩ : ∃ l, l = x49 ++ List.replicate (4 * 17) 0 := ⟨_, rfl⟩
      rw [← hx50] at ho50'
      have hl50 : x50.length = 336 := by rw [hx50, List.length_append, hl49]; first | rw [leB_length] | rw [List.length_replicate]
      refine T.sr <| Rl.q Qt.mv <| Rl.q Qt.fa <| Rl.q Qt.ld <| Rl.e (Ef.call (S := fput32_s (xs := x50) (x := 0) ho50' (by omega))) fun r229 h229 => Rl.q Qt.as <| Rl.nilK <| ?_
      have ho51' := h229
      obtain ⟨x51, hx51⟩ : ∃ l, l = x50 ++ leB 4 0 := ⟨_, rfl⟩
      rw [← hx51] at ho51'
      have hl51 : x51.length = 340 := by rw [hx51, List.length_append, hl50]; first | rw [leB_length] | rw [List.length_replicate]
      refine T.sr <| Rl.q Qt.mv <| Rl.q Qt.fa <| Rl.q Qt.ld <| Rl.e (Ef.call (S := fput32_s (xs := x51) (x := 0) ho51' (by omega))) fun r233 h233 => Rl.q Qt.as <| Rl.nilK <| ?_
      have ho52' := h233
      obtain ⟨x52, hx52⟩ : ∃ l, l = x51 ++ leB 4 0 := ⟨_, rfl⟩
      rw [← hx52] at ho52'
      have hl52 : x52.length = 344 := by rw [hx52, List.length_append, hl51]; first | rw [leB_length] | rw [List.length_replicate]
      refine T.sr <| Rl.q Qt.mv <| Rl.q Qt.fa <| Rl.q Qt.ld <| Rl.e (Ef.call (S := fput32_s (xs := x52) (x := 0) ho52' (by omega))) fun r237 h237 => Rl.q Qt.as <| Rl.nilK <| ?_
      have ho53' := h237
      obtain ⟨x53, hx53⟩ : ∃ l, l = x52 ++ leB 4 0 := ⟨_, rfl⟩
      rw [← hx53] at ho53'
      have hl53 : x53.length = 348 := by rw [hx53, List.length_append, hl52]; first | rw [leB_length] | rw [List.length_replicate]
      refine T.sr <| Rl.q Qt.mv <| Rl.q Qt.fa <| Rl.q Qt.ld <| Rl.e (Ef.call (S := fput16_s (xs := x53) (x := 24) ho53' (by omega))) fun r241 h241 => Rl.q Qt.as <| Rl.nilK <| ?_
      have ho54' := h241
      obtain ⟨x54, hx54⟩ : ∃ l, l = x53 ++ leB 2 24 := ⟨_, rfl⟩
      rw [← hx54] at ho54'
      have hl54 : x54.length = 350 := by rw [hx54, List.length_append, hl53]; first | rw [leB_length] | rw [List.length_replicate]
      refine T.sr <| Rl.q Qt.mv <| Rl.q Qt.fa <| Rl.q Qt.ld <| Rl.e (Ef.call (S := fput16_s (xs := x54) (x := 24) ho54' (by omega))) fun r245 h245 => Rl.q Qt.as <| Rl.nilK <| ?_
      have ho55' := h245
      obtain ⟨x55, hx55⟩ : ∃ l, l = x54 ++ leB 2 24 := ⟨_, rfl⟩
      rw [← hx55] at ho55'
      have hl55 : x55.length = 352 := by rw [hx55, List.length_append, hl54]; first | rw [leB_length] | rw [List.length_replicate]
      refine T.sr <| Rl.q Qt.mv <| Rl.q Qt.fa <| Rl.q Qt.ld <| Rl.e (Ef.call (S := fput32_s (xs := x55) (x := 0) ho55' (by omega))) fun r249 h249 => Rl.q Qt.as <| Rl.nilK <| ?_
      have ho56' := h249
      obtain ⟨x56, hx56⟩ : ∃ l, l = x55 ++ leB 4 0 := ⟨_, rfl⟩
      rw [← hx56] at ho56'
      have hl56 : x56.length = 356 := by rw [hx56, List.length_append, hl55]; first | rw [leB_length] | rw [List.length_replicate]
      refine T.sr <| Rl.q Qt.mv <| Rl.q Qt.fa <| Rl.q Qt.ld <| Rl.e (Ef.call (S := fput16_s (xs := x56) (x := 0) ho56' (by omega))) fun r253 h253 => Rl.q Qt.as <| Rl.nilK <| ?_
      have ho57' := h253
      obtain ⟨x57, hx57⟩ : ∃ l, l = x56 ++ leB 2 0 := ⟨_, rfl⟩
      rw [← hx57] at ho57'
      have hl57 : x57.length = 358 := by rw [hx57, List.length_append, hl56]; first | rw [leB_length] | rw [List.length_replicate]
      refine T.sr <| Rl.q Qt.mv <| Rl.q Qt.fa <| Rl.q Qt.ld <| Rl.e (Ef.call (S := fput16_s (xs := x57) (x := 0) ho57' (by omega))) fun r257 h257 => Rl.q Qt.as <| Rl.nilK <| ?_
      have ho58' := h257
      obtain ⟨x58, hx58⟩ : ∃ l, l = x57 ++ leB 2 0 := ⟨_, rfl⟩
      rw [← hx58] at ho58'
      have hl58 : x58.length = 360 := by rw [hx58, List.length_append, hl57]; first | rw [leB_length] | rw [List.length_replicate]
      refine T.sr <| Rl.q Qt.mv <| Rl.q Qt.fa <| Rl.q Qt.ld <| Rl.e (Ef.call (S := fput64_s (xs := x58) (x := 0) rfl ho58' (by omega))) fun r261 h261 => Rl.q Qt.as <| Rl.nilK <| ?_
      have ho59' := h261
      obtain ⟨x59, hx59⟩ : ∃ l, l = x58 ++ leB 8 0 := ⟨_, rfl⟩
      rw [← hx59] at ho59'
      have hl59 : x59.length = 368 := by rw [hx59, List.length_append, hl58]; first | rw [leB_length] | rw [List.length_replicate]
      refine T.sr <| Rl.q Qt.mv <| Rl.q Qt.fa <| Rl.q Qt.ld <| Rl.e (Ef.call (S := fput32_s (xs := x59) (x := 0) ho59' (by omega))) fun r265 h265 => Rl.q Qt.as <| Rl.nilK <| ?_
      have ho60' := h265
      obtain ⟨x60, hx60⟩ : ∃ l, l = x59 ++ leB 4 0 := ⟨_, rfl⟩
      rw [← hx60] at ho60'
      have hl60 : x60.length = 372 := by rw [hx60, List.length_append, hl59]; first | rw [leB_length] | rw [List.length_replicate]
      refine T.sr <| Rl.q Qt.mv <| Rl.q Qt.fa <| Rl.q Qt.ld <| Rl.e Ef.bs fun b269 hb269 => Rl.e (Ef.ap (own := ho60') (vs := [N .u8 31]) (hl := ⟨rfl, rfl, by simp only [maxLen]; omega, by omega⟩)) fun v270 hv270 => Rl.q Qt.as <| Rl.nilK <| ?_
      have ho61' := Own.b1 x60 hv270 (by decide)
      obtain ⟨x61, hx61⟩ : ∃ l, l = x60 ++ leB 1 31 := ⟨_, rfl⟩
      rw [← hx61] at ho61'
      have hl61 : x61.length = 373 := by rw [hx61, List.length_append, hl60]; first | rw [leB_length] | rw [List.length_replicate]
      refine T.sr <| Rl.q Qt.mv <| Rl.q Qt.fa <| Rl.q Qt.ld <| Rl.e Ef.bs fun b274 hb274 => Rl.e (Ef.ap (own := ho61') (vs := [N .u8 0]) (hl := ⟨rfl, rfl, by simp only [maxLen]; omega, by omega⟩)) fun v275 hv275 => Rl.q Qt.as <| Rl.nilK <| ?_
      have ho62' := Own.b1 x61 hv275 (by decide)
      obtain ⟨x62, hx62⟩ : ∃ l, l = x61 ++ leB 1 0 := ⟨_, rfl⟩
      rw [← hx62] at ho62'
      have hl62 : x62.length = 374 := by rw [hx62, List.length_append, hl61]; first | rw [leB_length] | rw [List.length_replicate]
      refine T.sr <| Rl.q Qt.mv <| Rl.q Qt.fa <| Rl.q Qt.ld <| Rl.e (Ef.call (S := fput16_s (xs := x62) (x := 0) ho62' (by omega))) fun r279 h279 => Rl.q Qt.as <| Rl.nilK <| ?_
      have ho63' := h279
      obtain ⟨x63, hx63⟩ : ∃ l, l = x62 ++ leB 2 0 := ⟨_, rfl⟩
      rw [← hx63] at ho63'
      have hl63 : x63.length = 376 := by rw [hx63, List.length_append, hl62]; first | rw [leB_length] | rw [List.length_replicate]
      refine T.sr <| Rl.q Qt.mv <| Rl.q Qt.fa <| Rl.q Qt.ld <| Rl.e (Ef.call (S := fput64_s (xs := x63) (x := 0) rfl ho63' (by omega))) fun r283 h283 => Rl.q Qt.as <| Rl.nilK <| ?_
      have ho64' := h283
      obtain ⟨x64, hx64⟩ : ∃ l, l = x63 ++ leB 8 0 := ⟨_, rfl⟩
      rw [← hx64] at ho64'
      have hl64 : x64.length = 384 := by rw [hx64, List.length_append, hl63]; first | rw [leB_length] | rw [List.length_replicate]
      refine T.sr <| Rl.q Qt.mv <| Rl.q Qt.fa <| Rl.q Qt.ld <| Rl.e (Ef.call (S := fput32_s (xs := x64) (x := 0) ho64' (by omega))) fun r287 h287 => Rl.q Qt.as <| Rl.nilK <| ?_
      have ho65' := h287
      obtain ⟨x65, hx65⟩ : ∃ l, l = x64 ++ leB 4 0 := ⟨_, rfl⟩
      rw [← hx65] at ho65'
      have hl65 : x65.length = 388 := by rw [hx65, List.length_append, hl64]; first | rw [leB_length] | rw [List.length_replicate]
      refine T.sr <| Rl.q Qt.mv <| Rl.q Qt.fa <| Rl.q Qt.ld <| Rl.e (Ef.call (S := fput32_s (xs := x65) (x := 0) ho65' (by omega))) fun r291 h291 => Rl.q Qt.as <| Rl.nilK <| ?_
      have ho66' := h291
      obtain ⟨x66, hx66⟩ : ∃ l, l = x65 ++ leB 4 0 := ⟨_, rfl⟩
      rw [← hx66] at ho66'
      have hl66 : x66.length = 392 := by rw [hx66, List.length_append, hl65]; first | rw [leB_length] | rw [List.length_replicate]
      refine T.sr <| Rl.q Qt.mv <| Rl.q Qt.fa <| Rl.q Qt.ld <| Rl.e (Ef.call (S := fput64_s (xs := x66) (x := 0) rfl ho66' (by omega))) fun r295 h295 => Rl.q Qt.as <| Rl.nilK <| ?_
      have ho67' := h295
      obtain ⟨x67, hx67⟩ : ∃ l, l = x66 ++ leB 8 0 := ⟨_, rfl⟩
      rw [← hx67] at ho67'
      have hl67 : x67.length = 400 := by rw [hx67, List.length_append, hl66]; first | rw [leB_length] | rw [List.length_replicate]
      refine T.sr <| Rl.q Qt.mv <| Rl.q Qt.fa <| Rl.q Qt.ld <| Rl.e (Ef.call (S := fput32_s (xs := x67) (x := 0) ho67' (by omega))) fun r299 h299 => Rl.q Qt.as <| Rl.nilK <| ?_
      have ho68' := h299
      obtain ⟨x68, hx68⟩ : ∃ l, l = x67 ++ leB 4 0 := ⟨_, rfl⟩
      rw [← hx68] at ho68'
      have hl68 : x68.length = 404 := by rw [hx68, List.length_append, hl67]; first | rw [leB_length] | rw [List.length_replicate]
      refine T.sr <| Rl.q Qt.mv <| Rl.q Qt.fa <| Rl.q Qt.ld <| Rl.e (Ef.call (S := fput32_s (xs := x68) (x := 0) ho68' (by omega))) fun r303 h303 => Rl.q Qt.as <| Rl.nilK <| ?_
      have ho69' := h303
      obtain ⟨x69, hx69⟩ : ∃ l, l = x68 ++ leB 4 0 := ⟨_, rfl⟩
      rw [← hx69] at ho69'
      have hl69 : x69.length = 408 := by rw [hx69, List.length_append, hl68]; first | rw [leB_length] | rw [List.length_replicate]
      refine T.sr <| Rl.q Qt.mv <| Rl.q Qt.fa <| Rl.q Qt.ld <| Rl.e (Ef.call (S := fput32_s (xs := x69) (x := 0) ho69' (by omega))) fun r307 h307 => Rl.q Qt.as <| Rl.nilK <| ?_
      have ho70' := h307
      obtain ⟨x70, hx70⟩ : ∃ l, l = x69 ++ leB 4 0 := ⟨_, rfl⟩
      rw [← hx70] at ho70'
      have hl70 : x70.length = 412 := by rw [hx70, List.length_append, hl69]; first | rw [leB_length] | rw [List.length_replicate]
      refine T.sr <| Rl.q Qt.mv <| Rl.q Qt.fa <| Rl.q Qt.ld <| Rl.e (Ef.call (S := fput32_s (xs := x70) (x := 0) ho70' (by omega))) fun r311 h311 => Rl.q Qt.as <| Rl.nilK <| ?_
      have ho71' := h311
      obtain ⟨x71, hx71⟩ : ∃ l, l = x70 ++ leB 4 0 := ⟨_, rfl⟩
      rw [← hx71] at ho71'
      have hl71 : x71.length = 416 := by rw [hx71, List.length_append, hl70]; first | rw [leB_length] | rw [List.length_replicate]
      refine T.sr <| Rl.q Qt.mv <| Rl.q Qt.fa <| Rl.q Qt.ld <| Rl.e (Ef.call (S := fput64_s (xs := x71) (x := 0) rfl ho71' (by omega))) fun r315 h315 => Rl.q Qt.as <| Rl.nilK <| ?_
      have ho72' := h315
      obtain ⟨x72, hx72⟩ : ∃ l, l = x71 ++ leB 8 0 := ⟨_, rfl⟩
      rw [← hx72] at ho72'
      have hl72 : x72.length = 424 := by rw [hx72, List.length_append, hl71]; first | rw [leB_length] | rw [List.length_replicate]
      refine T.sr <| Rl.q Qt.mv <| Rl.q Qt.fa <| Rl.q (Qt.to (u := Sl b1 199 32 32) Qt.slA (rfl)) <| Rl.e (Ef.ap (own := ho72') (o := 199) (j := 32) (vs := bc (List.replicate 32 0)) (hs := by rfl) (hl := ⟨rfl, bc_ones _, by simp only [maxLen]; omega, by omega⟩)) fun v319 hv319 => Rl.q Qt.as <| Rl.nilK <| ?_
      have ho73' := Own.ba x72 (n := 32) (by rw [List.length_replicate]) hv319
      obtain ⟨x73, hx73⟩ : ∃ l, l = x72 ++ List.replicate 32 0 := ⟨_, rfl⟩
      rw [← hx73] at ho73'
      have hl73 : x73.length = 456 := by rw [hx73, List.length_append, hl72]; first | rw [leB_length] | rw [List.length_replicate]
      refine T.sr <| Rl.q Qt.mv <| Rl.q Qt.fa <| Rl.q Qt.ld <| Rl.e (Ef.call (S := fput32_s (xs := x73) (x := 0) ho73' (by omega))) fun r323 h323 => Rl.q Qt.as <| Rl.nilK <| ?_
      have ho74' := h323
      obtain ⟨x74, hx74⟩ : ∃ l, l = x73 ++ leB 4 0 := ⟨_, rfl⟩
      rw [← hx74] at ho74'
      have hl74 : x74.length = 460 := by rw [hx74, List.length_append, hl73]; first | rw [leB_length] | rw [List.length_replicate]
      refine T.sr <| Rl.q Qt.mv <| Rl.q Qt.fa <| Rl.q Qt.ld <| Rl.e (Ef.call (S := fput32_s (xs := x74) (x := 0) ho74' (by omega))) fun r327 h327 => Rl.q Qt.as <| Rl.nilK <| ?_
      have ho75' := h327
      obtain ⟨x75, hx75⟩ : ∃ l, l = x74 ++ leB 4 0 := ⟨_, rfl⟩
      rw [← hx75] at ho75'
      have hl75 : x75.length = 464 := by rw [hx75, List.length_append, hl74]; first | rw [leB_length] | rw [List.length_replicate]
      refine T.sr <| Rl.q Qt.mv <| Rl.q Qt.fa <| Rl.q Qt.ld <| Rl.e (Ef.call (S := fput32_s (xs := x75) (x := 0) ho75' (by omega))) fun r331 h331 => Rl.q Qt.as <| Rl.nilK <| ?_
      have ho76' := h331
      obtain ⟨x76, hx76⟩ : ∃ l, l = x75 ++ leB 4 0 := ⟨_, rfl⟩
      rw [← hx76] at ho76'
      have hl76 : x76.length = 468 := by rw [hx76, List.length_append, hl75]; first | rw [leB_length] | rw [List.length_replicate]
      refine T.sr <| Rl.q Qt.mv <| Rl.q Qt.fa <| Rl.q Qt.ld <| Rl.e (Ef.call (S := fput32_s (xs := x76) (x := 0) ho76' (by omega))) fun r335 h335 => Rl.q Qt.as <| Rl.nilK <| ?_
      have ho77' := h335
      obtain ⟨x77, hx77⟩ : ∃ l, l = x76 ++ leB 4 0 := ⟨_, rfl⟩
      rw [← hx77] at ho77'
      have hl77 : x77.length = 472 := by rw [hx77, List.length_append, hl76]; first | rw [leB_length] | rw [List.length_replicate]
      refine T.sr <| Rl.q Qt.mv <| Rl.q Qt.fa <| Rl.q Qt.ld <| Rl.e (Ef.call (S := fput64_s (xs := x77) (x := 0) rfl ho77' (by omega))) fun r339 h339 => Rl.q Qt.as <| Rl.nilK <| ?_
      have ho78' := h339
      obtain ⟨x78, hx78⟩ : ∃ l, l = x77 ++ leB 8 0 := ⟨_, rfl⟩
      rw [← hx78] at ho78'
      have hl78 : x78.length = 480 := by rw [hx78, List.length_append, hl77]; first | rw [leB_length] | rw [List.length_replicate]
      refine T.sr <| Rl.q Qt.mv <| Rl.q Qt.fa <| Rl.q (Qt.to (u := Sl b1 236 32 32) Qt.slA (rfl)) <| Rl.e (Ef.ap (own := ho78') (o := 236) (j := 32) (vs := bc (List.replicate 32 0)) (hs := by rfl) (hl := ⟨rfl, bc_ones _, by simp only [maxLen]; omega, by omega⟩)) fun v343 hv343 => Rl.q Qt.as <| Rl.nilK <| ?_
      have ho79' := Own.ba x78 (n := 32) (by rw [List.length_replicate]) hv343
      obtain ⟨x79, hx79⟩ : ∃ l, l = x78 ++ List.replicate 32 0 := ⟨_, rfl⟩
      rw [← hx79] at ho79'
      have hl79 : x79.length = 512 := by rw [hx79, List.length_append, hl78]; first | rw [leB_length] | rw [List.length_replicate]
      refine T.sr <| Rl.q Qt.mv <| Rl.q Qt.fa <| Rl.q (Qt.to (u := Sl b1 268 64 64) Qt.slA (rfl)) <| Rl.e (Ef.ap (own := ho79') (o := 268) (j := 64) (vs := bc (List.replicate 64 0)) (hs := by rfl) (hl := ⟨rfl, bc_ones _, by simp only [maxLen]; omega, by omega⟩)) fun v347 hv347 => Rl.q Qt.as <| Rl.nilK <| ?_
      have ho80' := Own.ba x79 (n := 64) (by rw [List.length_replicate]) hv347
      obtain ⟨x80, hx80⟩ : ∃ l, l = x79 ++ List.replicate 64 0 := ⟨_, rfl⟩
      rw [← hx80] at ho80'
      have hl80 : x80.length = 576 := by rw [hx80, List.length_append, hl79]; first | rw [leB_length] | rw [List.length_replicate]
      refine T.sr <| Rl.q Qt.mv <| Rl.q Qt.fa <| Rl.q Qt.ld <| Rl.e (Ef.call (S := fput32_s (xs := x80) (x := 0) ho80' (by omega))) fun r351 h351 => Rl.q Qt.as <| Rl.nilK <| ?_
      have ho81' := h351
      obtain ⟨x81, hx81⟩ : ∃ l, l = x80 ++ leB 4 0 := ⟨_, rfl⟩
      rw [← hx81] at ho81'
      have hl81 : x81.length = 580 := by rw [hx81, List.length_append, hl80]; first | rw [leB_length] | rw [List.length_replicate]
      refine T.sr <| Rl.q Qt.mv <| Rl.q Qt.fa <| Rl.q Qt.ld <| Rl.e (Ef.call (S := fput32_s (xs := x81) (x := 0) ho81' (by omega))) fun r355 h355 => Rl.q Qt.as <| Rl.nilK <| ?_
      have ho82' := h355
      obtain ⟨x82, hx82⟩ : ∃ l, l = x81 ++ leB 4 0 := ⟨_, rfl⟩
      rw [← hx82] at ho82'
      have hl82 : x82.length = 584 := by rw [hx82, List.length_append, hl81]; first | rw [leB_length] | rw [List.length_replicate]
      refine T.sr <| Rl.q Qt.mv <| Rl.q Qt.fa <| Rl.q Qt.ld <| Rl.e (Ef.call (S := fput32_s (xs := x82) (x := 0) ho82' (by omega))) fun r359 h359 => Rl.q Qt.as <| Rl.nilK <| ?_
      refine T.seq ?_
      have ho83' := h359
      obtain ⟨x83, hx83⟩ : ∃ l, l = x82 ++ leB 4 0 := ⟨_, rfl⟩
      rw [← hx83] at ho83'
      have hl83 : x83.length = 588 := by rw [hx83, List.length_append, hl82]; first | rw [leB_length] | rw [List.length_replicate]
      refine T.sr <| Rl.q Qt.fa <| Rl.q (Qt.ldA (vs := List.replicate 2 (N .u32 0)) (hv := by rfl)) <| Rl.q (Qt.mv (v := N .i64 0)) <| Rl.nilK <| ?_
      refine T.block ?_
      refine T.loop (α := Nat × (Value × Chunk)) (fun y => [(1, Pt b1), (3, y.2.1), (361, .agg (List.replicate 2 (N .u32 0)).toArray), (362, N .i64 y.1)]) (fun y => [y.2.2, [(b1, .cells (sbC s0 s1 s3 s4 s10 s29).toArray 216 (0, 0))]]) (fun y => y.1 ≤ 2 ∧ Own 5 1 y.2.1 (x83 ++ List.replicate (4 * y.1) 0).length (bc (x83 ++ List.replicate (4 * y.1) 0)) y.2.2) (fun y => 2 - y.1)
        (0, (r359.1, r359.2)) ⟨Nat.zero_le _, by simpa using ho83'⟩ ?_ (fun y hy => ?_)
      · exact .cons rfl <| .cons rfl <| .cons rfl <| .cons rfl <| .nil
      refine T.sr <| Rl.ltS (b := 2) (fun h363 => ?_) (fun h363 => ?_)
      · refine Rl.nilK <| ?_
        refine T.seq ?_
        refine T.condT ?_
        refine T.skip <| Ex.K <| ?_
        refine T.seq ?_
        refine T.block ?_
        refine T.sr <| Rl.q (Qt.ixA (i := y.1) (v := N .u32 0) (hv := nth_rep h363)) <| Rl.q Qt.as <| Rl.nilK <| ?_
        refine T.region <| Rl.q Qt.mv <| Rl.q Qt.mv <| Rl.e (Ef.call (S := fput32_s (xs := x83 ++ List.replicate (4 * y.1) 0) (x := 0) hy.2 (by rw [List.length_append, List.length_replicate]; omega))) fun r367 h367 => Rl.q Qt.as <| Rl.nil <| Ex.Bnormal <| Ex.K <| ?_
        refine T.region <| Rl.q (Qt.add (b := 1)) <| Rl.q Qt.mv <| Rl.nil <| ?_
        exact Ex.next (y.1 + 1, (r367.1, r367.2)) ⟨by omega, by rw [← rep_leB]; exact h367⟩ (by show 2 - (y.1 + 1) < 2 - y.1; omega) (.cons rfl <| .cons rfl <| .cons rfl <| .cons rfl <| .nil)
      · refine Rl.nilK <| ?_
        refine T.seq ?_
        refine T.condF ?_
        refine T.exit <| Ex.Kexit <| Ex.Lexit <| Ex.Bhit <| Ex.K <| ?_
        obtain ⟨i83, v83, E83⟩ := y
        obtain ⟨hi83, hy83⟩ := hy
        have hy83 : Own 5 1 v83 (x83 ++ List.replicate (4 * i83) 0).length (bc (x83 ++ List.replicate (4 * i83) 0)) E83 := hy83
        have hi83 : i83 ≤ 2 := hi83
        have hge83 : 2 ≤ i83 := h363
        obtain rfl : i83 = 2 := by omega
        have ho84' := hy83
        obtain ⟨x84, hx84⟩ : ∃ l, l = x83 ++ List.replicate (4 * 2) 0 := ⟨_, rfl⟩
        rw [← hx84] at ho84'
        have hl84 : x84.length = 596 := by rw [hx84, List.length_append, hl83]; first | rw [leB_length] | rw [List.length_replicate]
        refine T.sr <| Rl.q Qt.mv <| Rl.q Qt.fa <| Rl.q (Qt.to (u := Sl b1 337 4 4) Qt.slA (rfl)) <| Rl.e (Ef.ap (own := ho84') (o := 337) (j := 4) (vs := bc (List.replicate 4 0)) (hs := by rfl) (hl := ⟨rfl, bc_ones _, by simp only [maxLen]; omega, by omega⟩)) fun v372 hv372 => Rl.q Qt.as <| Rl.nilK <| ?_
        have ho85' := Own.ba x84 (n := 4) (by rw [List.length_replicate]) hv372
        obtain ⟨x85, hx85⟩ : ∃ l, l = x84 ++ List.replicate 4 0 := ⟨_, rfl⟩
        rw [← hx85] at ho85'
        have hl85 : x85.length = 600 := by rw [hx85, List.length_append, hl84]; first | rw [leB_length] | rw [List.length_replicate]
        refine T.sr <| Rl.q Qt.mv <| Rl.q Qt.fa <| Rl.q (Qt.to (u := Sl b1 341 16 16) Qt.slA (rfl)) <| Rl.e (Ef.ap (own := ho85') (o := 341) (j := 16) (vs := bc (List.replicate 16 0)) (hs := by rfl) (hl := ⟨rfl, bc_ones _, by simp only [maxLen]; omega, by omega⟩)) fun v376 hv376 => Rl.q Qt.as <| Rl.nilK <| ?_
        have ho86' := Own.ba x85 (n := 16) (by rw [List.length_replicate]) hv376
        obtain ⟨x86, hx86⟩ : ∃ l, l = x85 ++ List.replicate 16 0 := ⟨_, rfl⟩
        rw [← hx86] at ho86'
        have hl86 : x86.length = 616 := by rw [hx86, List.length_append, hl85]; first | rw [leB_length] | rw [List.length_replicate]
        refine T.sr <| Rl.q Qt.mv <| Rl.q Qt.fa <| Rl.q Qt.ld <| Rl.e (Ef.call (S := fput32_s (xs := x86) (x := 11) ho86' (by omega))) fun r380 h380 => Rl.q Qt.as <| Rl.nilK <| ?_
        have ho87' := h380
        obtain ⟨x87, hx87⟩ : ∃ l, l = x86 ++ leB 4 11 := ⟨_, rfl⟩
        rw [← hx87] at ho87'
        have hl87 : x87.length = 620 := by rw [hx87, List.length_append, hl86]; first | rw [leB_length] | rw [List.length_replicate]
        refine T.sr <| Rl.q Qt.mv <| Rl.q Qt.fa <| Rl.q Qt.ld <| Rl.e (Ef.call (S := fput32_s (xs := x87) (x := 0) ho87' (by omega))) fun r384 h384 => Rl.q Qt.as <| Rl.nilK <| ?_
        have ho88' := h384
        obtain ⟨x88, hx88⟩ : ∃ l, l = x87 ++ leB 4 0 := ⟨_, rfl⟩
        rw [← hx88] at ho88'
        have hl88 : x88.length = 624 := by rw [hx88, List.length_append, hl87]; first | rw [leB_length] | rw [List.length_replicate]
        refine T.sr <| Rl.q Qt.mv <| Rl.q Qt.fa <| Rl.q Qt.ld <| Rl.e (Ef.call (S := fput32_s (xs := x88) (x := 0) ho88' (by omega))) fun r388 h388 => Rl.q Qt.as <| Rl.nilK <| ?_
        have ho89' := h388
        obtain ⟨x89, hx89⟩ : ∃ l, l = x88 ++ leB 4 0 := ⟨_, rfl⟩
        rw [← hx89] at ho89'
        have hl89 : x89.length = 628 := by rw [hx89, List.length_append, hl88]; first | rw [leB_length] | rw [List.length_replicate]
        refine T.sr <| Rl.q Qt.mv <| Rl.q Qt.fa <| Rl.q Qt.ld <| Rl.e Ef.bs fun b392 hb392 => Rl.e (Ef.ap (own := ho89') (vs := [N .u8 0]) (hl := ⟨rfl, rfl, by simp only [maxLen]; omega, by omega⟩)) fun v393 hv393 => Rl.q Qt.as <| Rl.nilK <| ?_
        have ho90' := Own.b1 x89 hv393 (by decide)
        obtain ⟨x90, hx90⟩ : ∃ l, l = x89 ++ leB 1 0 := ⟨_, rfl⟩
        rw [← hx90] at ho90'
        have hl90 : x90.length = 629 := by rw [hx90, List.length_append, hl89]; first | rw [leB_length] | rw [List.length_replicate]
        refine T.sr <| Rl.q Qt.mv <| Rl.q Qt.fa <| Rl.q Qt.ld <| Rl.e Ef.bs fun b397 hb397 => Rl.e (Ef.ap (own := ho90') (vs := [N .u8 0]) (hl := ⟨rfl, rfl, by simp only [maxLen]; omega, by omega⟩)) fun v398 hv398 => Rl.q Qt.as <| Rl.nilK <| ?_
        have ho91' := Own.b1 x90 hv398 (by decide)
        obtain ⟨x91, hx91⟩ : ∃ l, l = x90 ++ leB 1 0 := ⟨_, rfl⟩
        rw [← hx91] at ho91'
        have hl91 : x91.length = 630 := by rw [hx91, List.length_append, hl90]; first | rw [leB_length] | rw [List.length_replicate]
        refine T.sr <| Rl.q Qt.mv <| Rl.q Qt.fa <| Rl.q Qt.ld <| Rl.e Ef.bs fun b402 hb402 => Rl.e (Ef.ap (own := ho91') (vs := [N .u8 0]) (hl := ⟨rfl, rfl, by simp only [maxLen]; omega, by omega⟩)) fun v403 hv403 => Rl.q Qt.as <| Rl.nilK <| ?_
        have ho92' := Own.b1 x91 hv403 (by decide)
        obtain ⟨x92, hx92⟩ : ∃ l, l = x91 ++ leB 1 0 := ⟨_, rfl⟩
        rw [← hx92] at ho92'
        have hl92 : x92.length = 631 := by rw [hx92, List.length_append, hl91]; first | rw [leB_length] | rw [List.length_replicate]
        refine T.sr <| Rl.q Qt.mv <| Rl.q Qt.fa <| Rl.q Qt.ld <| Rl.e Ef.bs fun b407 hb407 => Rl.e (Ef.ap (own := ho92') (vs := [N .u8 0]) (hl := ⟨rfl, rfl, by simp only [maxLen]; omega, by omega⟩)) fun v408 hv408 => Rl.q Qt.as <| Rl.nilK <| ?_
        have ho93' := Own.b1 x92 hv408 (by decide)
        obtain ⟨x93, hx93⟩ : ∃ l, l = x92 ++ leB 1 0 := ⟨_, rfl⟩
        rw [← hx93] at ho93'
        have hl93 : x93.length = 632 := by rw [hx93, List.length_append, hl92]; first | rw [leB_length] | rw [List.length_replicate]
        refine T.sr <| Rl.q Qt.mv <| Rl.q Qt.fa <| Rl.q Qt.ld <| Rl.e Ef.bs fun b412 hb412 => Rl.e (Ef.ap (own := ho93') (vs := [N .u8 0]) (hl := ⟨rfl, rfl, by simp only [maxLen]; omega, by omega⟩)) fun v413 hv413 => Rl.q Qt.as <| Rl.nilK <| ?_
        have ho94' := Own.b1 x93 hv413 (by decide)
        obtain ⟨x94, hx94⟩ : ∃ l, l = x93 ++ leB 1 0 := ⟨_, rfl⟩
        rw [← hx94] at ho94'
        have hl94 : x94.length = 633 := by rw [hx94, List.length_append, hl93]; first | rw [leB_length] | rw [List.length_replicate]
        refine T.sr <| Rl.q Qt.mv <| Rl.q Qt.fa <| Rl.q Qt.ld <| Rl.e Ef.bs fun b417 hb417 => Rl.e (Ef.ap (own := ho94') (vs := [N .u8 0]) (hl := ⟨rfl, rfl, by simp only [maxLen]; omega, by omega⟩)) fun v418 hv418 => Rl.q Qt.as <| Rl.nilK <| ?_
        have ho95' := Own.b1 x94 hv418 (by decide)
        obtain ⟨x95, hx95⟩ : ∃ l, l = x94 ++ leB 1 0 := ⟨_, rfl⟩
        rw [← hx95] at ho95'
        have hl95 : x95.length = 634 := by rw [hx95, List.length_append, hl94]; first | rw [leB_length] | rw [List.length_replicate]
        refine T.sr <| Rl.q Qt.mv <| Rl.q Qt.fa <| Rl.q (Qt.to (u := Sl b1 366 2 2) Qt.slA (rfl)) <| Rl.e (Ef.ap (own := ho95') (o := 366) (j := 2) (vs := bc (List.replicate 2 0)) (hs := by rfl) (hl := ⟨rfl, bc_ones _, by simp only [maxLen]; omega, by omega⟩)) fun v422 hv422 => Rl.q Qt.as <| Rl.nilK <| ?_
        refine T.seq ?_
        have ho96' := Own.ba x95 (n := 2) (by rw [List.length_replicate]) hv422
        obtain ⟨x96, hx96⟩ : ∃ l, l = x95 ++ List.replicate 2 0 := ⟨_, rfl⟩
        rw [← hx96] at ho96'
        have hl96 : x96.length = 636 := by rw [hx96, List.length_append, hl95]; first | rw [leB_length] | rw [List.length_replicate]
        refine T.sr <| Rl.q Qt.fa <| Rl.q (Qt.ldA (vs := List.replicate 96 (N .u32 0)) (hv := by rfl)) <| Rl.q (Qt.mv (v := N .i64 0)) <| Rl.nilK <| ?_
        refine T.block ?_
        refine T.loop (α := Nat × (Value × Chunk)) (fun y => [(1, Pt b1), (3, y.2.1), (424, .agg (List.replicate 96 (N .u32 0)).toArray), (425, N .i64 y.1)]) (fun y => [y.2.2, [(b1, .cells (sbC s0 s1 s3 s4 s10 s29).toArray 216 (0, 0))]]) (fun y => y.1 ≤ 96 ∧ Own 5 1 y.2.1 (x96 ++ List.replicate (4 * y.1) 0).length (bc (x96 ++ List.replicate (4 * y.1) 0)) y.2.2) (fun y => 96 - y.1)
          (0, (v422.1, v422.2)) ⟨Nat.zero_le _, by simpa using ho96'⟩ ?_ (fun y hy => ?_)
        · exact .cons rfl <| .cons rfl <| .cons rfl <| .cons rfl <| .nil
        refine T.sr <| Rl.ltS (b := 96) (fun h426 => ?_) (fun h426 => ?_)
        · refine Rl.nilK <| ?_
          refine T.seq ?_
          refine T.condT ?_
          refine T.skip <| Ex.K <| ?_
          refine T.seq ?_
          refine T.block ?_
          refine T.sr <| Rl.q (Qt.ixA (i := y.1) (v := N .u32 0) (hv := nth_rep h426)) <| Rl.q Qt.as <| Rl.nilK <| ?_
          refine T.region <| Rl.q Qt.mv <| Rl.q Qt.mv <| Rl.e (Ef.call (S := fput32_s (xs := x96 ++ List.replicate (4 * y.1) 0) (x := 0) hy.2 (by rw [List.length_append, List.length_replicate]; omega))) fun r430 h430 => Rl.q Qt.as <| Rl.nil <| Ex.Bnormal <| Ex.K <| ?_
          refine T.region <| Rl.q (Qt.add (b := 1)) <| Rl.q Qt.mv <| Rl.nil <| ?_
          exact Ex.next (y.1 + 1, (r430.1, r430.2)) ⟨by omega, by rw [← rep_leB]; exact h430⟩ (by show 96 - (y.1 + 1) < 96 - y.1; omega) (.cons rfl <| .cons rfl <| .cons rfl <| .cons rfl <| .nil)
        · refine Rl.nilK <| ?_
          refine T.seq ?_
          refine T.condF ?_
          refine T.exit <| Ex.Kexit <| Ex.Lexit <| Ex.Bhit <| Ex.K <| ?_
          obtain ⟨i96, v96, E96⟩ := y
          obtain ⟨hi96, hy96⟩ := hy
          have hy96 : Own 5 1 v96 (x96 ++ List.replicate (4 * i96) 0).length (bc (x96 ++ List.replicate (4 * i96) 0)) E96 := hy96
          have hi96 : i96 ≤ 96 := hi96
          have hge96 : 96 ≤ i96 := h426
          obtain rfl : i96 = 96 := by omega
          have ho97' := hy96
          obtain ⟨x97, hx97⟩ : ∃ l, l = x96 ++ List.replicate (4 * 96) 0 := ⟨_, rfl⟩
          rw [← hx97] at ho97'
          have hl97 : x97.length = 1020 := by rw [hx97, List.length_append, hl96]; first | rw [leB_length] | rw [List.length_replicate]
          refine T.sr <| Rl.q Qt.mv <| Rl.q Qt.fa <| Rl.q Qt.ld <| Rl.e (Ef.call (S := fput32_s (xs := x97) (x := 0) ho97' (by omega))) fun r435 h435 => Rl.q Qt.as <| Rl.nilK <| ?_
          have ho98' := h435
          obtain ⟨x98, hx98⟩ : ∃ l, l = x97 ++ leB 4 0 := ⟨_, rfl⟩
          rw [← hx98] at ho98'
          have hl98 : x98.length = 1024 := by rw [hx98, List.length_append, hl97]; first | rw [leB_length] | rw [List.length_replicate]
          refine T.sr <| Rl.q Qt.mv <| Rl.q Qt.as <| Rl.nilK <| ?_
          refine T.ret <| Ex.ret1 (.inl rfl) rfl ?_ rfl
          rw [hl98] at ho98'
          have hfin : x98 = sbB s0 s1 s3 s4 s10 s29 := by
            subst hx98 hx97 hx96 hx95 hx94 hx93 hx92 hx91 hx90 hx89 hx88 hx87 hx86 hx85 hx84 hx83 hx82 hx81 hx80 hx79 hx78 hx77 hx76 hx75 hx74 hx73 hx72 hx71 hx70 hx69 hx68 hx67 hx66 hx65 hx64 hx63 hx62 hx61 hx60 hx59 hx58 hx57 hx56 hx55 hx54 hx53 hx52 hx51 hx50 hx49 hx48 hx47 hx46 hx45 hx44 hx43 hx42 hx41 hx40 hx39 hx38 hx37 hx36 hx35 hx34 hx33 hx32 hx31 hx30 hx29 hx28 hx27 hx26 hx25 hx24 hx23 hx22 hx21 hx20 hx19 hx18 hx17 hx16 hx15 hx14 hx13 hx12 hx11 hx10 hx9 hx8 hx7 hx6 hx5 hx4 hx3 hx2 hx1 hx0
            simp only [sbB, List.nil_append, List.append_assoc]
          rw [hfin] at ho98'
          exact fun w h => ⟨r435, ho98', rfl, h.re⟩
end SL
end Go.Proofs.YtlmiekcmjpnobaaGreatDoor
namespace Go.Proofs.YtlmiekcmjpnobaaGreatDoor
open Go
namespace SL
set_option maxRecDepth 20000

/-- How many groups. -/
def gcN (b n ipg : Nat) : Nat := let d := 32768 - ipg * 256 / 4096 - 2; (max b ((n - 1) / ipg * d + 1) + d - 1) / d
theorem groupCount_q {b n ipg : Nat} (hb : b < 1000000) (hn : 1 ≤ n ∧ n ≤ 100000) (hi : 16 ≤ ipg ∧ ipg ≤ 32768) : QSpec Tryz.prog 145 [N .u32 b, N .u32 n, N .u32 ipg] [] (N .u32 (gcN b n ipg)) := by
  refine QSpec.of Tryz.func145 rfl Tryz.ntmps145 (by simp) fun w => ?_
  have hd : 30718 ≤ 32768 - ipg * 256 / 4096 - 2 := by omega
  have hd2 : 32768 - ipg * 256 / 4096 - 2 ≤ 32768 := by omega
  have hq : (n - 1) / ipg ≤ 6250 := by have h1 : (n - 1) / ipg ≤ (n - 1) / 16 := Nat.div_le_div_left hi.1 (by decide); omega
  have hm : (n - 1) / ipg * (32768 - ipg * 256 / 4096 - 2) ≤ 6250 * 32768 := Nat.mul_le_mul hq hd2
  refine T.sr <| Rl.q (Qt.as (v := N .u32 0)) <| Rl.nilK <| ?_
  refine T.sr <| Rl.q Qt.mv <| Rl.q (Qt.mul (b := 256)) <| Rl.q (Qt.quo (b := 4096)) <| Rl.q Qt.as <| Rl.nilK <| ?_
  refine T.sr <| Rl.q Qt.mv <| Rl.q (Qt.sub (a := 32768)) <| Rl.q (Qt.sub (b := 2)) <| Rl.q Qt.as <| Rl.nilK <| ?_
  refine T.sr <| Rl.q Qt.mv <| Rl.q (Qt.sub (b := 1)) <| Rl.q Qt.mv <| Rl.q Qt.quo <| Rl.q Qt.mv <| Rl.q (Qt.toN (c := (n - 1) / ipg * (32768 - ipg * 256 / 4096 - 2)) (Qt.mul (h := by simp only [lim]; omega)) (rfl)) <| Rl.q (Qt.add (b := 1)) <| ?_
  refine Rl.q Qt.as <| Rl.nilK <| ?_
  refine T.seq ?_
  refine T.sr <| Rl.q Qt.mv <| Rl.q Qt.mv <| Rl.ltS (fun h25 => ?_) (fun h25 => ?_)
  · refine Rl.nilK <| ?_
    refine T.condT ?_
    refine T.region <| Rl.q Qt.mv <| Rl.q Qt.as <| Rl.nil <| Ex.K <| ?_
    refine T.sr <| Rl.q Qt.mv <| Rl.q Qt.mv <| Rl.q Qt.add <| Rl.q (Qt.sub (b := 1)) <| Rl.q Qt.mv <| Rl.q Qt.quo <| Rl.q Qt.as <| ?_
    refine Rl.nilK <| ?_
    refine T.ret <| Ex.ret1 (.inl rfl) rfl ?_ rfl
    exact fun w h => ⟨by rw [gcN]; congr 2; rw [Nat.max_eq_right (Nat.le_of_lt h25)], h.grown⟩
  · refine Rl.nilK <| ?_
    refine T.condF ?_
    refine T.skip <| Ex.K <| ?_
    refine T.sr <| Rl.q Qt.mv <| Rl.q Qt.mv <| Rl.q Qt.add <| Rl.q (Qt.sub (b := 1)) <| Rl.q Qt.mv <| Rl.q Qt.quo <| Rl.q Qt.as <| ?_
    refine Rl.nilK <| ?_
    refine T.ret <| Ex.ret1 (.inl rfl) rfl ?_ rfl
    exact fun w h => ⟨by rw [gcN]; congr 2; rw [Nat.max_eq_left h25], h.grown⟩

theorem gcN_one {b n ipg : Nat} (hb : b ≤ 30000) (hn : 1 ≤ n ∧ n ≤ ipg) (hi : ipg ≤ 32768) : gcN b n ipg = 1 := by
  have h0 : (n - 1) / ipg = 0 := Nat.div_eq_of_lt (by omega)
  have hd : 30718 ≤ 32768 - ipg * 256 / 4096 - 2 := by omega
  show (max b ((n - 1) / ipg * (32768 - ipg * 256 / 4096 - 2) + 1) + (32768 - ipg * 256 / 4096 - 2) - 1) / (32768 - ipg * 256 / 4096 - 2) = 1
  rw [h0, Nat.zero_mul]
  generalize 32768 - ipg * 256 / 4096 - 2 = d at *
  rw [Nat.div_eq_iff (by omega)]
  omega
theorem best_q {b n : Nat} (hb : b ≤ 30000) (hn : 1 ≤ n ∧ n ≤ 16) : QSpec Tryz.prog 102 [N .u32 b, N .u32 n] [] (.tuple #[N .u32 1, N .u32 16]) := by
  refine QSpec.of Tryz.func102 rfl Tryz.ntmps102 (by simp) fun w => ?_
  refine T.sr <| Rl.q (Qt.as (v := N .u32 0)) <| Rl.q (Qt.as (v := N .u32 0)) <| Rl.nilK <| ?_
  refine T.sr <| Rl.q (Qt.as (v := N .u32 4294967295)) <| Rl.nilK <| ?_
  refine T.seq ?_
  refine T.sr <| Rl.q (Qt.as (v := N .u32 16)) <| Rl.nilK <| ?_
  refine T.block ?_
  refine T.loop (α := Nat) (fun k => [(0, N .u32 b), (1, N .u32 n), (4, N .u32 (if k = 1 then 4294967295 else 1)), (5, N .u32 (if k = 1 then 0 else 16)), (6, N .u32 (k * 16))]) (fun k => []) (fun k => 1 ≤ k ∧ k ≤ 2049) (fun k => 2049 - k)
    1 ⟨by decide, by decide⟩ ?_ (fun k hk => ?_)
  · exact .cons rfl <| .cons rfl <| .cons rfl <| .cons rfl <| .cons rfl <| .nil
  refine T.seq ?_
  refine T.sr <| Rl.q Qt.mv <| Rl.leS (b := 32768) (fun h9 => ?_) (fun h9 => ?_)
  · refine Rl.nilK <| ?_
    refine T.condT ?_
    refine T.skip <| Ex.K <| ?_
    refine T.seq ?_
    refine T.block ?_
    refine T.sr <| Rl.q Qt.mv <| Rl.q Qt.mv <| Rl.q Qt.mv <| Rl.e (Ef.qcall (S := groupCount_q (by omega) (by omega) (by omega))) fun _ _ => Rl.q Qt.as <| Rl.nilK <| ?_
    rw [gcN_one hb ⟨hn.1, by omega⟩ (by omega)]
    rcases Nat.eq_or_lt_of_le hk.1 with rfl | hk1
    · refine T.sr <| Rl.q Qt.mv <| Rl.q Qt.mv <| Rl.q (Qt.ltT (h := by decide)) <| Rl.nilK <| ?_
      refine T.condT ?_
      refine T.sr <| Rl.q Qt.mv <| Rl.q Qt.as <| Rl.nilK <| ?_
      refine T.region <| Rl.q Qt.mv <| Rl.q Qt.as <| Rl.nil <| Ex.Bnormal <| Ex.K <| ?_
      refine T.region <| Rl.q Qt.mv <| Rl.q (Qt.add (b := 16)) <| Rl.q Qt.as <| Rl.nil <| ?_
      exact Ex.next 2 (by omega) (by omega) (.cons rfl <| .cons rfl <| .cons rfl <| .cons rfl <| .cons rfl <| .nil)
    · have hk2 : ¬ (k = 1) := by omega
      simp only [hk2, if_false]
      refine T.sr <| Rl.q Qt.mv <| Rl.q Qt.mv <| Rl.q (Qt.ltF (h := by decide)) <| Rl.nilK <| ?_
      refine T.condF ?_
      refine T.skip <| Ex.Bnormal <| Ex.K <| ?_
      refine T.region <| Rl.q Qt.mv <| Rl.q (Qt.add (b := 16)) <| Rl.q Qt.as <| Rl.nil <| ?_
      exact Ex.next (k + 1) (by omega) (by omega) (.cons rfl <| .cons rfl <| .cons (by rw [if_neg (by omega)]; rfl) <| .cons (by rw [if_neg (by omega)]; rfl) <| .cons (by rw [Nat.succ_mul]; rfl) <| .nil)
  · refine Rl.nilK <| ?_
    refine T.condF ?_
    refine T.exit <| Ex.Kexit <| Ex.Lexit <| Ex.Bhit <| Ex.K <| ?_
    refine T.ret <| Ex.ret2 (.inl rfl) rfl rfl ?_ rfl
    exact fun w h => ⟨by rw [if_neg (by omega), if_neg (by omega)], h.grown⟩

theorem modeType_q {md : Nat} (hm : md < 65536) : QSpec Tryz.prog 172 [N .u16 md] [] (N .u8 (kindN md)) := by
  refine QSpec.of Tryz.func172 rfl Tryz.ntmps172 (by simp) fun w => ?_
  refine T.sr <| Rl.q (Qt.as (v := N .u8 0)) <| Rl.nilK <| ?_
  refine T.sr <| Rl.q Qt.mv <| Rl.q (Qt.and (b := 61440) (h := ⟨by simp only [lim]; omega, by decide⟩)) <| Rl.nilK <| ?_
  refine T.block ?_
  refine T.sr <| Rl.eqS (b := 32768) (fun h6 => ?_) (fun h6 => ?_)
  · refine Rl.q Qt.as <| Rl.nilK <| ?_
    refine T.condT ?_
    refine T.sr <| Rl.q (Qt.as (v := N .u8 1)) <| Rl.nilK <| ?_
    refine T.ret <| Ex.Bret <| Ex.ret1 (.inl rfl) rfl ?_ rfl
    exact fun w h => ⟨by simp [kindN, *], h.grown⟩
  · refine Rl.q Qt.as <| Rl.nilK <| ?_
    refine T.condF ?_
    refine T.sr <| Rl.eqS (b := 16384) (fun h8 => ?_) (fun h8 => ?_)
    · refine Rl.q Qt.as <| Rl.nilK <| ?_
      refine T.condT ?_
      refine T.sr <| Rl.q (Qt.as (v := N .u8 2)) <| Rl.nilK <| ?_
      refine T.ret <| Ex.Bret <| Ex.ret1 (.inl rfl) rfl ?_ rfl
      exact fun w h => ⟨by simp [kindN, *], h.grown⟩
    · refine Rl.q Qt.as <| Rl.nilK <| ?_
      refine T.condF ?_
      refine T.sr <| Rl.eqS (b := 8192) (fun h10 => ?_) (fun h10 => ?_)
      · refine Rl.q Qt.as <| Rl.nilK <| ?_
        refine T.condT ?_
        refine T.sr <| Rl.q (Qt.as (v := N .u8 3)) <| Rl.nilK <| ?_
        refine T.ret <| Ex.Bret <| Ex.ret1 (.inl rfl) rfl ?_ rfl
        exact fun w h => ⟨by simp [kindN, *], h.grown⟩
      · refine Rl.q Qt.as <| Rl.nilK <| ?_
        refine T.condF ?_
        refine T.sr <| Rl.eqS (b := 24576) (fun h12 => ?_) (fun h12 => ?_)
        · refine Rl.q Qt.as <| Rl.nilK <| ?_
          refine T.condT ?_
          refine T.sr <| Rl.q (Qt.as (v := N .u8 4)) <| Rl.nilK <| ?_
          refine T.ret <| Ex.Bret <| Ex.ret1 (.inl rfl) rfl ?_ rfl
          exact fun w h => ⟨by simp [kindN, *], h.grown⟩
        · refine Rl.q Qt.as <| Rl.nilK <| ?_
          refine T.condF ?_
          refine T.sr <| Rl.eqS (b := 4096) (fun h14 => ?_) (fun h14 => ?_)
          · refine Rl.q Qt.as <| Rl.nilK <| ?_
            refine T.condT ?_
            refine T.sr <| Rl.q (Qt.as (v := N .u8 5)) <| Rl.nilK <| ?_
            refine T.ret <| Ex.Bret <| Ex.ret1 (.inl rfl) rfl ?_ rfl
            exact fun w h => ⟨by simp [kindN, *], h.grown⟩
          · refine Rl.q Qt.as <| Rl.nilK <| ?_
            refine T.condF ?_
            refine T.sr <| Rl.eqS (b := 49152) (fun h16 => ?_) (fun h16 => ?_)
            · refine Rl.q Qt.as <| Rl.nilK <| ?_
              refine T.condT ?_
              refine T.sr <| Rl.q (Qt.as (v := N .u8 6)) <| Rl.nilK <| ?_
              refine T.ret <| Ex.Bret <| Ex.ret1 (.inl rfl) rfl ?_ rfl
              exact fun w h => ⟨by simp [kindN, *], h.grown⟩
            · refine Rl.q Qt.as <| Rl.nilK <| ?_
              refine T.condF ?_
              refine T.sr <| Rl.eqS (b := 40960) (fun h18 => ?_) (fun h18 => ?_)
              · refine Rl.q Qt.as <| Rl.nilK <| ?_
                refine T.condT ?_
                refine T.sr <| Rl.q (Qt.as (v := N .u8 7)) <| Rl.nilK <| ?_
                refine T.ret <| Ex.Bret <| Ex.ret1 (.inl rfl) rfl ?_ rfl
                exact fun w h => ⟨by simp [kindN, *], h.grown⟩
              · refine Rl.q Qt.as <| Rl.nilK <| ?_
                refine T.condF ?_
                refine T.sr <| Rl.q (Qt.as (v := N .u8 0)) <| Rl.nilK <| ?_
                refine T.ret <| Ex.Bret <| Ex.ret1 (.inl rfl) rfl ?_ rfl
                exact fun w h => ⟨by simp [kindN, *], h.grown⟩
end SL
end Go.Proofs.YtlmiekcmjpnobaaGreatDoor
namespace Go.Proofs.YtlmiekcmjpnobaaGreatDoor
open Go
namespace SL
set_option maxRecDepth 20000

theorem Write0s_q {bW c : Nat} {q : Option Addr} : QSpec Tryz.prog 52 [Pt bW, .slice q 0 c] [] (.tuple #[N .i64 0, .nilIface]) := by
  refine QSpec.of Tryz.func52 rfl Tryz.ntmps52 (by simp) fun w => ?_
  refine T.sr <| Rl.q (Qt.as (v := N .i64 0)) <| Rl.q (Qt.as (v := .nilIface)) <| Rl.nilK <| ?_
  refine T.seq ?_
  refine T.sr <| Rl.q Qt.mv <| Rl.q Qt.len <| Rl.q (Qt.eqT (a := 0) (b := 0) (h := by decide)) <| Rl.nilK <| ?_
  refine T.condT ?_
  refine T.sr <| Rl.q (Qt.as (v := N .i64 0)) <| Rl.q (Qt.as (v := .nilIface)) <| Rl.nilK <| ?_
  refine T.ret <| Ex.Kret <| Ex.ret2 (.inl rfl) rfl rfl ?_ rfl
  exact fun w h => ⟨rfl, h.grown⟩

/-- The record that fills a block. -/
def zrec (L : Nat) : DRec := ⟨0, [], 0, List.replicate (L - 8) 0⟩
/-- The record of an entry. -/
def erec (ino : Nat) (nm : List UInt8) (kind : Nat) : DRec := ⟨ino, nm, kind, List.replicate (up4 (8 + nm.length) - (8 + nm.length)) 0⟩
theorem zrec_enc {L : Nat} (h : 8 ≤ L) : (zrec L).enc = dirEntB 0 L 0 0 ++ List.replicate (L - 8) 0 := by
  have : (zrec L).len = L := by simp [zrec, DRec.len]; omega
  simp only [DRec.enc, this]
  simp [zrec, dirEntB]
theorem zrec_length {L : Nat} (h : 8 ≤ L) : (zrec L).enc.length = L := by
  rw [zrec_enc h, List.length_append, List.length_replicate]; simp [dirEntB, leB_length]; omega
theorem erec_len (ino : Nat) (nm : List UInt8) (kind : Nat) : (erec ino nm kind).len = up4 (8 + nm.length) := by
  have := up4_ge (8 + nm.length)
  simp [erec, DRec.len]; omega
theorem erec_enc (ino : Nat) (nm : List UInt8) (kind : Nat) : (erec ino nm kind).enc = dirEntB ino (up4 (8 + nm.length)) nm.length kind ++ (nm ++ List.replicate (up4 (8 + nm.length) - (8 + nm.length)) 0) := by
  simp only [DRec.enc, erec_len]
  simp [erec, dirEntB]
theorem dirEntB_length (a b c d : Nat) : (dirEntB a b c d).length = 8 := by simp [dirEntB, leB_length]
/-- The writer at a place of the disk, behind where its file begins. -/
abbrev wsAt (s : WS) (base n : Nat) : WS := { s with pos := n, dw := n - base }
variable {bW bN bP bL bQ bA bT base L k cap : Nat} {xs nm : List UInt8} {v : Value} {E : Chunk} {s : WS} {x y : WI} {l : List Value} {fr : Nat × Nat}
set_option maxHeartbeats 1000000 in
theorem fblock_s (hd : DskOk v E xs) (hb : base ≤ xs.length) (hL : 12 ≤ L ∧ L ≤ 4096) (h1 : xs.length + L ≤ s.max) (h3 : s.max < 1099511627776) (hcur : s.cur = Pt bN) (hfl : x.flags &&& 268435456 = 0) (hfl2 : x.flags < 4294967296) (hdm : s.dm = 9223372036854775807) :
    Spec Tryz.prog 169 [Pt bL, Pt bP] [[(bP, .cells [Pt bW].toArray 116 (0, 0))], [(bN, IOb x)]] [[(bL, .cells [N .i64 L].toArray 3 (0, 0))], [(s.disk, DO v xs.length)], E, [(bW, WO (wsAt s base xs.length))]]
      (fun r : Value × Chunk => DskOk r.1 r.2 (xs ++ (zrec L).enc)) (fun _ => .nilIface)
      (fun r => [[(bL, .cells [N .i64 4096].toArray 3 (0, 0))], [(s.disk, DO r.1 (xs.length + L))], r.2, [(bW, WO (wsAt s base (xs.length + L)))]]) := by
  refine Spec.of Tryz.func169 rfl Tryz.ntmps169 (by simp) fun w => ?_
  refine T.sr <| Rl.q (Qt.as (v := .nilIface)) <| Rl.nilK <| ?_
  refine T.seq ?_
  refine T.sr <| Rl.q Qt.ld <| Rl.q (Qt.gtT (b := 0)) <| Rl.nilK <| ?_
  refine T.condT ?_
  refine T.sr <| Rl.q Qt.ld <| Rl.q Qt.cv <| Rl.q Qt.bdN <| Rl.e Ef.alA fun b3 hb3 => Rl.e0 Ef.stN fun _ _ => Rl.nilK <| ?_
  refine T.sdr [3, 4, 5, 6, 7, 8] ?_ mixed
  refine Dr.qs [0, 1] [] ?_
  refine Dq.q Qt.ld <| Dq.q Qt.ldA <| Dq.nil <| ?_
  refine Dr.e 2 <| Eo.e rfl (Ef.call (S := dirEnt_s 0 L 0 0 (by decide) (by decide))) fun r14 h14 => ?_
  rw [dirEntB_length] at h14
  obtain ⟨b14, c14, sp14, hv14, hc14, _, hE14, _⟩ := h14.some (by decide)
  rw [hv14, hE14]
  have hR14 : RowB (bc (dirEntB 0 L 0 0) ++ sp14) 0 (dirEntB 0 L 0 0) := by unfold RowB; rw [← bc_length]; exact seg_app _ _
  refine Dr.e 3 <| Eo.e rfl (Ef.call (S := Write_s (s := wsAt s base xs.length) (bN := bN) (x := x) (bs := dirEntB 0 L 0 0) hR14 (dirEntB_length ..).symm hd rfl (by rw [dirEntB_length]; decide) (by rw [dirEntB_length]; show xs.length + 8 ≤ s.max; omega) h3 hcur hfl hfl2 (by rw [dirEntB_length]; show xs.length - base + 8 ≤ s.dm; omega) (by show s.dm < _; omega))) fun r15 h15 => ?_
  refine Dr.reset [] ?_
  refine Dr.qs [4, 5, 6, 7, 8] [] ?_
  refine Dq.q Qt.mv <| Dq.q Qt.ex <| Dq.q Qt.ex <| Dq.q Qt.as <| Dq.q Qt.as <| Dq.nil <| Dr.nilK <| ?_
  refine T.seq ?_
  rw [dirEntB_length]
  rw [show xs.length - base + 8 = xs.length + 8 - base by omega]
  refine T.sr <| Rl.q Qt.mv <| Rl.q Qt.ineNil <| Rl.nilK <| ?_
  refine T.condF ?_
  refine T.skip <| Ex.K <| ?_
  refine T.sr <| Rl.q Qt.ld <| Rl.q (Qt.sub (b := 8)) <| Rl.e0 Ef.st1 fun _ _ => Rl.nilK <| ?_
  refine T.seq ?_
  refine T.sr <| Rl.q Qt.ld <| Rl.q (Qt.ltF (b := 4)) <| Rl.nilK <| ?_
  refine T.condF ?_
  refine T.skip <| Ex.K <| ?_
  refine T.sdr [3, 4, 5, 6, 7] ?_ mixed
  refine Dr.qs [0, 1] [] ?_
  refine Dq.q Qt.ld <| Dq.q Qt.ld <| Dq.nil <| ?_
  refine Dr.e 2 <| Eo.e rfl Ef.mk fun b29 hb29 => ?_
  rw [mkBytes]
  refine Dr.e 3 <| Eo.e rfl (Ef.call (S := Write_s (s := wsAt s base (xs.length + 8)) (xs := xs ++ dirEntB 0 L 0 0) (bN := bN) (x := x) (bs := List.replicate (L - 8) 0) (RowB.all _) (by rw [List.length_replicate]) h15 (by rw [List.length_append, dirEntB_length]) (by rw [List.length_replicate]; omega) (by rw [List.length_replicate]; show xs.length + 8 + (L - 8) ≤ s.max; omega) h3 hcur hfl hfl2 (by rw [List.length_replicate]; show xs.length + 8 - base + (L - 8) ≤ s.dm; omega) (by show s.dm < _; omega))) fun r30 h30 => ?_
  refine Dr.reset [] ?_
  refine Dr.qs [4, 5, 6, 7] [] ?_
  refine Dq.q Qt.mv <| Dq.q Qt.ex <| Dq.q Qt.ex <| Dq.q Qt.as <| Dq.nil <| Dr.nilK <| ?_
  rw [List.length_replicate]
  rw [show xs.length + 8 - base + (L - 8) = xs.length + L - base by omega, show xs.length + 8 + (L - 8) = xs.length + L by omega]
  refine T.sr <| Rl.q Qt.mv <| Rl.q Qt.ineNil <| Rl.nilK <| ?_
  refine T.condF ?_
  refine T.skip <| Ex.K <| ?_
  refine T.sr <| Rl.e0 (Ef.st1 (v := N .i64 4096)) fun _ _ => Rl.nilK <| ?_
  refine T.sr <| Rl.q (Qt.as (v := .nilIface)) <| Rl.nilK <| ?_
  refine T.ret <| Ex.ret1 (.inl rfl) rfl ?_ rfl
  have hz : xs ++ dirEntB 0 L 0 0 ++ List.replicate (L - 8) 0 = xs ++ (zrec L).enc := by rw [zrec_enc (by omega), List.append_assoc]
  rw [hz] at h30
  exact fun w h => ⟨r30, h30, rfl, h.re⟩

theorem Qt.andM4 {P : Program} {m : Env} {H Ro : Heap} {ty t t' a : Nat} {x : Operand} (hx : nv m x = some (.i64, a) := by rfl) (h : a < 9223372036854775808) : Qt P (.binOp .and t x (.const (.int .i64 (-4))) t') ty m H Ro (N .i64 (a / 4 * 4)) := fun w _ d ps af gd ha _ _ => by
  have h1 : (a : Int) % 2 ^ 64 = (a : Int) := Int.emod_eq_of_lt (by omega) (by omega)
  have h2 := andNot3 (a := a) (by omega)
  have e := wrap_in (k := .i64) (c := a / 4 * 4) (by simp only [lim]; omega)
  have h3 : a % 18446744073709551616 = a := Nat.mod_eq_of_lt (by omega)
  have h4 : (BitVec.ofNat 64 a &&& 18446744073709551612#64).toNat = a / 4 * 4 := by
    rw [BitVec.toNat_and, BitVec.toNat_ofNat, show a % 2 ^ 64 = a from h3]
    exact h2
  simp only [execOp, nv_sound ha hx, ev_const, eqGuard, binOp, Op.intBits]
  simp [IntKind.bits]
  show IntKind.i64.wrap (((BitVec.ofNat 64 a &&& 18446744073709551612#64).toNat : Nat) : Int) = _
  rw [h4]
  simpa using e
/-- A directory that is written: bytes, and how many are left in the block. -/
def entStep (st : List UInt8 × Nat) (ino : Nat) (nm : List UInt8) (kind : Nat) : List UInt8 × Nat :=
  if st.2 < up4 (8 + nm.length) + 12 then (st.1 ++ (zrec st.2).enc ++ (erec ino nm kind).enc, 4096 - up4 (8 + nm.length)) else (st.1 ++ (erec ino nm kind).enc, st.2 - up4 (8 + nm.length))
set_option maxHeartbeats 2000000 in
theorem wentry_s {ino : Nat} (hd : DskOk v E xs) (hb : base ≤ xs.length) (hL : 12 ≤ L ∧ L ≤ 4096) (hn : 1 ≤ nm.length ∧ nm.length ≤ 255) (h1 : xs.length + L + 300 ≤ s.max) (h3 : s.max < 1099511627776) (hcur : s.cur = Pt bN) (hfl : x.flags &&& 268435456 = 0) (hfl2 : x.flags < 4294967296) (hdm : s.dm = 9223372036854775807)
    (hinA : s.inodes = Sl bA 0 k cap) (hk : k < 1000000) (hi : 1 ≤ ino ∧ ino ≤ k) (hv : nth l (ino - 1) = some (Pt bT)) (hmode : y.mode < 65536) :
    Spec Tryz.prog 171 [N .u32 ino, SV nm, Pt bL, Pt bQ, Pt bP] [[(bP, .cells [Pt bW].toArray 116 (0, 0))], [(bQ, .cells [.func (.func 169) #[] #[Pt bL, Pt bP]].toArray 131 (0, 0))], [(bN, IOb x)], [(bA, .cells l.toArray 156 fr)], [(bT, IOb y)]]
      [[(bL, .cells [N .i64 L].toArray 3 (0, 0))], [(s.disk, DO v xs.length)], E, [(bW, WO (wsAt s base xs.length))]]
      (fun r : Value × Chunk => DskOk r.1 r.2 (entStep (xs, L) ino nm (kindN y.mode)).1) (fun _ => .nilIface)
      (fun r => [[(bL, .cells [N .i64 (entStep (xs, L) ino nm (kindN y.mode)).2].toArray 3 (0, 0))], [(s.disk, DO r.1 (entStep (xs, L) ino nm (kindN y.mode)).1.length)], r.2, [(bW, WO (wsAt s base (entStep (xs, L) ino nm (kindN y.mode)).1.length))]]) := by
  refine Spec.of Tryz.func171 rfl Tryz.ntmps171 (by simp) fun w => ?_
  have hu : up4 (8 + nm.length) ≤ nm.length + 11 := by unfold up4; omega
  have hu2 := up4_ge (8 + nm.length)
  have hu3 : up4 (8 + nm.length) ≤ 264 := by unfold up4; omega
  have hkind : kindN y.mode < 256 := by unfold kindN; repeat (first | omega | split)
  refine T.sr <| Rl.q (Qt.as (v := .nilIface)) <| Rl.nilK <| ?_
  refine T.sr <| Rl.q Qt.mv <| Rl.q Qt.lenS <| Rl.q (Qt.add (a := 8)) <| Rl.q Qt.as <| Rl.nilK <| ?_
  refine T.sr <| Rl.q Qt.mv <| Rl.q (Qt.add (b := 3)) <| Rl.q (Qt.toN (c := up4 (8 + nm.length)) (Qt.andM4 (a := 8 + nm.length + 3) (h := by omega)) (rfl)) <| Rl.q Qt.as <| Rl.nilK <| ?_
  refine T.join (α := (Nat × List UInt8) × (Value × Chunk)) (fun z => [(0, N .u32 ino), (1, SV nm), (2, Pt bL), (4, Pt bP), (8, N .i64 (8 + nm.length)), (9, N .i64 (up4 (8 + nm.length)))]) (fun z => [[(bL, .cells [N .i64 z.1.1].toArray 3 (0, 0))], [(s.disk, DO z.2.1 z.1.2.length)], z.2.2, [(bW, WO (wsAt s base z.1.2.length))]]) (fun z => (z.1.2, z.1.1) = (if L < up4 (8 + nm.length) + 12 then (xs ++ (zrec L).enc, 4096) else (xs, L)) ∧ DskOk z.2.1 z.2.2 z.1.2) ?_ fun z hz => ?_
  · refine T.sr <| Rl.q Qt.ld <| Rl.q Qt.mv <| Rl.q (Qt.add (b := 12)) <| Rl.ltS (fun h24 => ?_) (fun h24 => ?_)
    · refine Rl.nilK <| ?_
      refine T.condT ?_
      refine T.sr <| Rl.q Qt.ld <| Rl.e (Ef.callC (S := fblock_s (s := s) (bN := bN) (x := x) hd hb hL (by omega) h3 hcur hfl hfl2 hdm)) fun r26 h26 => Rl.q Qt.as <| Rl.nilK <| ?_
      refine T.sr <| Rl.q Qt.mv <| Rl.q Qt.ineNil <| Rl.nilK <| ?_
      refine T.condF ?_
      refine T.skip <| ?_
      have hzl := zrec_length (L := L) (by omega)
      rw [show xs.length + L = (xs ++ (zrec L).enc).length by rw [List.length_append, hzl]]
      exact Ex.join ((4096, xs ++ (zrec L).enc), (r26.1, r26.2)) ⟨by rw [if_pos h24], h26⟩ (.cons rfl <| .cons rfl <| .cons rfl <| .cons rfl <| .cons rfl <| .cons rfl <| .nil)
    · refine Rl.nilK <| ?_
      refine T.condF ?_
      refine T.skip <| ?_
      exact Ex.join ((L, xs), (v, E)) ⟨by rw [if_neg (by omega)], hd⟩ (.cons rfl <| .cons rfl <| .cons rfl <| .cons rfl <| .cons rfl <| .cons rfl <| .nil)
  · obtain ⟨⟨L2, ys⟩, v2, E2⟩ := z
    obtain ⟨hz1, hz2⟩ := hz
    have hz2 : DskOk v2 E2 ys := hz2
    have hz1 : (ys, L2) = (if L < up4 (8 + nm.length) + 12 then (xs ++ (zrec L).enc, 4096) else (xs, L)) := hz1
    have hzl := zrec_length (L := L) (by omega)
    have hfin : entStep (xs, L) ino nm (kindN y.mode) = (ys ++ (erec ino nm (kindN y.mode)).enc, L2 - up4 (8 + nm.length)) := by
      unfold entStep
      by_cases h : L < up4 (8 + nm.length) + 12
      · rw [if_pos h] at hz1 ⊢; cases hz1; rfl
      · rw [if_neg h] at hz1 ⊢; cases hz1; rfl
    have hL2 : up4 (8 + nm.length) + 12 ≤ L2 ∧ L2 ≤ 4096 ∧ xs.length ≤ ys.length ∧ ys.length ≤ xs.length + L := by
      by_cases h : L < up4 (8 + nm.length) + 12
      · rw [if_pos h] at hz1; cases hz1; rw [List.length_append, hzl]; omega
      · rw [if_neg h] at hz1; cases hz1; omega
    rw [hfin]
    clear hz1 hfin
    have hel : (erec ino nm (kindN y.mode)).enc.length = up4 (8 + nm.length) := by rw [DRec.enc_length, erec_len]
    refine T.sr <| Rl.q Qt.mv <| Rl.q Qt.mv <| Rl.q Qt.cv <| Rl.q Qt.mv <| Rl.q Qt.lenS <| Rl.q Qt.cv <| Rl.q Qt.ld <| ?_
    refine Rl.q Qt.mv <| Rl.e (Ef.qcall (S := getInode_q (s := wsAt s base ys.length) hinA hk hi hv)) fun _ _ => Rl.q Qt.nc <| Rl.q Qt.fa <| Rl.q Qt.ld <| Rl.e (Ef.qcall (S := modeType_q hmode)) fun _ _ => Rl.q Qt.bdN <| Rl.e Ef.alA fun b11 hb11 => ?_
    refine Rl.e0 Ef.stN fun _ _ => Rl.nilK <| ?_
    refine T.sdr [3, 4, 5, 6, 7, 8] ?_ mixed
    refine Dr.qs [0, 1] [] ?_
    refine Dq.q Qt.ld <| Dq.q Qt.ldA <| Dq.nil <| ?_
    refine Dr.e 2 <| Eo.e rfl (Ef.call (S := dirEnt_s ino (up4 (8 + nm.length)) nm.length (kindN y.mode) (by omega) hkind)) fun r47 h47 => ?_
    rw [dirEntB_length] at h47
    obtain ⟨b47, c47, sp47, hv47, hc47, _, hE47, _⟩ := h47.some (by decide)
    rw [hv47, hE47]
    have hR47 : RowB (bc (dirEntB ino (up4 (8 + nm.length)) nm.length (kindN y.mode)) ++ sp47) 0 (dirEntB ino (up4 (8 + nm.length)) nm.length (kindN y.mode)) := by unfold RowB; rw [← bc_length]; exact seg_app _ _
    refine Dr.e 3 <| Eo.e rfl (Ef.call (S := Write_s (s := wsAt s base ys.length) (bN := bN) (x := x) (bs := dirEntB ino (up4 (8 + nm.length)) nm.length (kindN y.mode)) hR47 (dirEntB_length ..).symm hz2 rfl (by rw [dirEntB_length]; decide) (by rw [dirEntB_length]; show ys.length + 8 ≤ s.max; omega) h3 hcur hfl hfl2 (by rw [dirEntB_length]; show ys.length - base + 8 ≤ s.dm; omega) (by show s.dm < _; omega))) fun r48 h48 => ?_
    refine Dr.reset [] ?_
    refine Dr.qs [4, 5, 6, 7, 8] [] ?_
    refine Dq.q Qt.mv <| Dq.q Qt.ex <| Dq.q Qt.ex <| Dq.q Qt.as <| Dq.q Qt.as <| Dq.nil <| Dr.nilK <| ?_
    refine T.seq ?_
    rw [dirEntB_length]
    rw [show ys.length - base + 8 = ys.length + 8 - base by omega]
    refine T.sr <| Rl.q Qt.mv <| Rl.q Qt.ineNil <| Rl.nilK <| ?_
    refine T.condF ?_
    refine T.skip <| Ex.K <| ?_
    refine T.sr <| Rl.q Qt.ld <| Rl.q Qt.mv <| Rl.e Ef.sb fun r57 hr57 => ?_
    have hR58 : RowB (bc nm ++ List.replicate (r57.2 - nm.length) (N .u8 0)) 0 nm := by unfold RowB; rw [← bc_length]; exact seg_app _ _
    refine Rl.e (Ef.call (S := Write_s (s := wsAt s base (ys.length + 8)) (xs := ys ++ dirEntB ino (up4 (8 + nm.length)) nm.length (kindN y.mode)) (bN := bN) (x := x) (bs := nm) hR58 rfl h48 (by rw [List.length_append, dirEntB_length]) (by omega) (by show ys.length + 8 + nm.length ≤ s.max; omega) h3 hcur hfl hfl2 (by show ys.length + 8 - base + nm.length ≤ s.dm; omega) (by show s.dm < _; omega))) fun r58 h58 => Rl.q Qt.mv <| Rl.q Qt.ex <| Rl.q Qt.ex <| Rl.q Qt.as <| Rl.nilK <| ?_
    refine T.seq ?_
    rw [show ys.length + 8 - base + nm.length = ys.length + 8 + nm.length - base by omega]
    refine T.sr <| Rl.q Qt.mv <| Rl.q Qt.ineNil <| Rl.nilK <| ?_
    refine T.condF ?_
    refine T.skip <| Ex.K <| ?_
    refine T.sr <| Rl.e Ef.alA fun b14 hb14 => Rl.nilK <| ?_
    rcases Nat.eq_or_lt_of_le hu2 with hpad | hpad
    · refine T.sdr [] ?_ mixed
      refine Dr.qs [0, 1, 2, 3, 4, 5, 6, 7, 8, 9] [] ?_
      refine Dq.q Qt.ld <| Dq.q Qt.mv <| Dq.q Qt.mv <| Dq.q Qt.sub <| Dq.q (Qt.to (u := Sl b14 0 0 4) Qt.slA (by rw [← hpad, Nat.sub_self]; rfl)) <| Dq.c rfl (Write0s_q) <| Dq.q Qt.mv <| Dq.q Qt.ex <| ?_
      refine Dq.q Qt.ex <| Dq.q Qt.as <| Dq.nil <| Dr.nilK <| ?_
      refine T.seq ?_
      refine T.sr <| Rl.q Qt.mv <| Rl.q Qt.ineNil <| Rl.nilK <| ?_
      refine T.condF ?_
      refine T.skip <| Ex.K <| ?_
      refine T.sr <| Rl.q Qt.ld <| Rl.q Qt.mv <| Rl.q Qt.sub <| Rl.e0 Ef.st1 fun _ _ => Rl.nilK <| ?_
      refine T.sr <| Rl.q (Qt.as (v := .nilIface)) <| Rl.nilK <| ?_
      refine T.ret <| Ex.ret1 (.inl rfl) rfl ?_ rfl
      have hz : ys ++ dirEntB ino (up4 (8 + nm.length)) nm.length (kindN y.mode) ++ nm = ys ++ (erec ino nm (kindN y.mode)).enc := by rw [erec_enc, ← hpad, Nat.sub_self]; simp
      rw [hz] at h58
      have hlz : ys.length + 8 + nm.length = (ys ++ (erec ino nm (kindN y.mode)).enc).length := by rw [List.length_append, hel]; omega
      rw [hlz]
      exact fun w h => ⟨r58, h58, rfl, h.re⟩
    · have hR70 : RowB [N .u8 0, N .u8 0, N .u8 0, N .u8 0] 0 (List.replicate (up4 (8 + nm.length) - (8 + nm.length)) 0) := by
        have h4 : up4 (8 + nm.length) - (8 + nm.length) ≤ 4 := by omega
        have h5 := RowB.all (List.replicate 4 0)
        rw [show List.replicate 4 (0 : UInt8) = List.replicate (up4 (8 + nm.length) - (8 + nm.length)) 0 ++ List.replicate (4 - (up4 (8 + nm.length) - (8 + nm.length))) 0 by rw [List.replicate_append_replicate]; congr 1; omega] at h5
        have h6 := h5.left
        rwa [← show List.replicate 4 (0 : UInt8) = List.replicate (up4 (8 + nm.length) - (8 + nm.length)) 0 ++ List.replicate (4 - (up4 (8 + nm.length) - (8 + nm.length))) 0 by rw [List.replicate_append_replicate]; congr 1; omega] at h6
      refine T.sdr [5, 6, 7, 8, 9] ?_ mixed
      refine Dr.qs [0, 1, 2, 3, 4] [] ?_
      refine Dq.q Qt.ld <| Dq.q Qt.mv <| Dq.q Qt.mv <| Dq.q Qt.sub <| Dq.q (Qt.to (u := Sl b14 0 (up4 (8 + nm.length) - (8 + nm.length)) 4) Qt.slA (rfl)) <| Dq.nil <| ?_
      refine Dr.e 5 <| Eo.e rfl (Ef.call (S := Write_s (s := wsAt s base (ys.length + 8 + nm.length)) (xs := ys ++ dirEntB ino (up4 (8 + nm.length)) nm.length (kindN y.mode) ++ nm) (bN := bN) (x := x) (o := 0) (c := 4) (R := [N .u8 0, N .u8 0, N .u8 0, N .u8 0]) (bs := List.replicate (up4 (8 + nm.length) - (8 + nm.length)) 0) hR70 (by rw [List.length_replicate]) h58 (by rw [List.length_append, List.length_append, dirEntB_length]) (by rw [List.length_replicate]; omega) (by rw [List.length_replicate]; show ys.length + 8 + nm.length + _ ≤ s.max; omega) h3 hcur hfl hfl2 (by rw [List.length_replicate]; show ys.length + 8 + nm.length - base + _ ≤ s.dm; omega) (by show s.dm < _; omega))) fun r70 h70 => ?_
      refine Dr.reset [] ?_
      refine Dr.qs [6, 7, 8, 9] [] ?_
      refine Dq.q Qt.mv <| Dq.q Qt.ex <| Dq.q Qt.ex <| Dq.q Qt.as <| Dq.nil <| Dr.nilK <| ?_
      refine T.seq ?_
      refine T.sr <| Rl.q Qt.mv <| Rl.q Qt.ineNil <| Rl.nilK <| ?_
      refine T.condF ?_
      refine T.skip <| Ex.K <| ?_
      refine T.sr <| Rl.q Qt.ld <| Rl.q Qt.mv <| Rl.q Qt.sub <| Rl.e0 Ef.st1 fun _ _ => Rl.nilK <| ?_
      refine T.sr <| Rl.q (Qt.as (v := .nilIface)) <| Rl.nilK <| ?_
      refine T.ret <| Ex.ret1 (.inl rfl) rfl ?_ rfl
      have hz : ys ++ dirEntB ino (up4 (8 + nm.length)) nm.length (kindN y.mode) ++ nm ++ List.replicate (up4 (8 + nm.length) - (8 + nm.length)) 0 = ys ++ (erec ino nm (kindN y.mode)).enc := by rw [erec_enc]; simp only [List.append_assoc]
      rw [hz] at h70
      rw [List.length_replicate]
      have hlz : ys.length + 8 + nm.length + (up4 (8 + nm.length) - (8 + nm.length)) = (ys ++ (erec ino nm (kindN y.mode)).enc).length := by rw [List.length_append, hel]; omega
      rw [show ys.length + 8 + nm.length - base + (up4 (8 + nm.length) - (8 + nm.length)) = ys.length + 8 + nm.length + (up4 (8 + nm.length) - (8 + nm.length)) - base by omega]
      rw [hlz]
      exact fun w h => ⟨r70, h70, rfl, h.re⟩
end SL
end Go.Proofs.YtlmiekcmjpnobaaGreatDoor
namespace Go.Proofs.YtlmiekcmjpnobaaGreatDoor
open Go
namespace SL
set_option maxRecDepth 20000

def lessN (p q : Nat) (a b : List UInt8) : Bool := if p = q then Op.bytesLess a b else decide (p < q)
section
variable {i j n cC b1 b2 b4 b13 bC bD bM cM : Nat} {l : List (List UInt8)} {na nb : List UInt8} {sp : List Value} {x y1 y2 : WI} {m : MEs}

theorem less173_q (ha : l[i]? = some na) (hb : l[j]? = some nb) (hga : mget m na = some (Pt b1)) (hgb : mget m nb = some (Pt b2)) (hkids : x.kids = .map (some bM)) (hn : l.length = n) :
    QSpec Tryz.prog 173 [N .i64 i, N .i64 j, Pt b4, Pt b13] [[(b4, .cells [Pt bD].toArray 156 (0, 0))], [(b13, .cells [Sl bC 0 n cC].toArray 53 (0, 0))], [(bC, .cells (l.map SV ++ sp).toArray 9 (0, 0))], [(bD, IOb x)], [(bM, .map (mE m) cM)], [(b1, IOb y1)], [(b2, IOb y2)]] (.bool (lessN y1.num y2.num na nb)) := by
  refine QSpec.of Tryz.func173 rfl Tryz.ntmps173 (by simp) fun w => ?_
  have hi := (List.getElem?_eq_some_iff.1 ha).1
  have hj := (List.getElem?_eq_some_iff.1 hb).1
  have ha2 : nth (l.map SV ++ sp) (0 + i) = some (SV na) := by rw [Nat.zero_add]; exact nth_app (by rw [nth_eq, List.getElem?_map, ha]; rfl)
  have hb2 : nth (l.map SV ++ sp) (0 + j) = some (SV nb) := by rw [Nat.zero_add]; exact nth_app (by rw [nth_eq, List.getElem?_map, hb]; rfl)
  refine T.sr <| Rl.q (Qt.as (v := .bool false)) <| Rl.nilK <| ?_
  refine T.sdr [] ?_ mixed
  refine Dr.qs [0, 1, 2, 3, 4, 5, 6, 7, 8, 9, 10, 11, 12] [] ?_
  refine Dq.q Qt.ld <| Dq.q Qt.nc <| Dq.q Qt.fa <| Dq.q (Qt.to (u := .map (some bM)) Qt.ld (hkids)) <| Dq.q Qt.ld <| Dq.q Qt.mv <| Dq.q Qt.ia1 <| Dq.q (Qt.ld (hv := ha2)) <| ?_
  refine Dq.q (Qt.to (u := Pt b1) (Qt.lk (hv := rfl)) (by rw [hga]; rfl)) <| Dq.q Qt.nc <| Dq.q Qt.fa <| Dq.q Qt.ld <| Dq.q Qt.as <| Dq.nil <| Dr.nilK <| ?_
  refine T.sdr [] ?_ mixed
  refine Dr.qs [0, 1, 2, 3, 4, 5, 6, 7, 8, 9, 10, 11, 12] [] ?_
  refine Dq.q Qt.ld <| Dq.q Qt.nc <| Dq.q Qt.fa <| Dq.q (Qt.to (u := .map (some bM)) Qt.ld (hkids)) <| Dq.q Qt.ld <| Dq.q Qt.mv <| Dq.q Qt.ia1 <| Dq.q (Qt.ld (hv := hb2)) <| ?_
  refine Dq.q (Qt.to (u := Pt b2) (Qt.lk (hv := rfl)) (by rw [hgb]; rfl)) <| Dq.q Qt.nc <| Dq.q Qt.fa <| Dq.q Qt.ld <| Dq.q Qt.as <| Dq.nil <| Dr.nilK <| ?_
  refine T.seq ?_
  refine T.sr <| Rl.q Qt.mv <| Rl.q Qt.mv <| Rl.eqS (fun h35 => ?_) (fun h35 => ?_)
  · refine Rl.nilK <| ?_
    refine T.condT ?_
    cases hbl : Op.bytesLess na nb
    · refine T.sdr [] ?_ mixed
      refine Dr.qs [0, 1, 2, 3, 4, 5, 6, 7, 8, 9] [] ?_
      refine Dq.q Qt.ld <| Dq.q Qt.mv <| Dq.q Qt.ia1 <| Dq.q (Qt.ld (hv := ha2)) <| Dq.q Qt.ld <| Dq.q Qt.mv <| Dq.q Qt.ia1 <| Dq.q (Qt.ld (hv := hb2)) <| ?_
      refine Dq.q (Qt.sltF (h := hbl)) <| Dq.q Qt.as <| Dq.nil <| Dr.nilK <| ?_
      refine T.ret <| Ex.Kret <| Ex.ret1 (.inl rfl) rfl ?_ rfl
      exact fun w h => ⟨by rw [lessN, if_pos h35, hbl], h.grown⟩
    · refine T.sdr [] ?_ mixed
      refine Dr.qs [0, 1, 2, 3, 4, 5, 6, 7, 8, 9] [] ?_
      refine Dq.q Qt.ld <| Dq.q Qt.mv <| Dq.q Qt.ia1 <| Dq.q (Qt.ld (hv := ha2)) <| Dq.q Qt.ld <| Dq.q Qt.mv <| Dq.q Qt.ia1 <| Dq.q (Qt.ld (hv := hb2)) <| ?_
      refine Dq.q (Qt.sltT (h := hbl)) <| Dq.q Qt.as <| Dq.nil <| Dr.nilK <| ?_
      refine T.ret <| Ex.Kret <| Ex.ret1 (.inl rfl) rfl ?_ rfl
      exact fun w h => ⟨by rw [lessN, if_pos h35, hbl], h.grown⟩
  · refine Rl.nilK <| ?_
    refine T.condF ?_
    refine T.skip <| Ex.K <| ?_
    refine T.sr <| Rl.q Qt.mv <| Rl.q Qt.mv <| Rl.ltS (fun h47 => ?_) (fun h47 => ?_)
    · refine Rl.q Qt.as <| Rl.nilK <| ?_
      refine T.ret <| Ex.ret1 (.inl rfl) rfl ?_ rfl
      exact fun w h => ⟨by rw [lessN, if_neg h35, decide_eq_true h47], h.grown⟩
    · refine Rl.q Qt.as <| Rl.nilK <| ?_
      refine T.ret <| Ex.ret1 (.inl rfl) rfl ?_ rfl
      exact fun w h => ⟨by rw [lessN, if_neg h35, decide_eq_false (by omega)], h.grown⟩

theorem less144_q (ha : l[i]? = some na) (hb : l[j]? = some nb) (hga : mget m na = some (Pt b1)) (hgb : mget m nb = some (Pt b2)) (hkids : x.kids = .map (some bM)) (hn : l.length = n) :
    QSpec Tryz.prog 144 [N .i64 i, N .i64 j, Pt b4, Pt b13] [[(b4, .cells [Pt bD].toArray 156 (0, 0))], [(b13, .cells [Sl bC 0 n cC].toArray 53 (0, 0))], [(bC, .cells (l.map SV ++ sp).toArray 9 (0, 0))], [(bD, IOb x)], [(bM, .map (mE m) cM)], [(b1, IOb y1)], [(b2, IOb y2)]] (.bool (lessN y1.num y2.num na nb)) := by
  refine QSpec.of Tryz.func144 rfl Tryz.ntmps144 (by simp) fun w => ?_
  have hi := (List.getElem?_eq_some_iff.1 ha).1
  have hj := (List.getElem?_eq_some_iff.1 hb).1
  have ha2 : nth (l.map SV ++ sp) (0 + i) = some (SV na) := by rw [Nat.zero_add]; exact nth_app (by rw [nth_eq, List.getElem?_map, ha]; rfl)
  have hb2 : nth (l.map SV ++ sp) (0 + j) = some (SV nb) := by rw [Nat.zero_add]; exact nth_app (by rw [nth_eq, List.getElem?_map, hb]; rfl)
  refine T.sr <| Rl.q (Qt.as (v := .bool false)) <| Rl.nilK <| ?_
  refine T.sdr [] ?_ mixed
  refine Dr.qs [0, 1, 2, 3, 4, 5, 6, 7, 8, 9, 10, 11, 12] [] ?_
  refine Dq.q Qt.ld <| Dq.q Qt.nc <| Dq.q Qt.fa <| Dq.q (Qt.to (u := .map (some bM)) Qt.ld (hkids)) <| Dq.q Qt.ld <| Dq.q Qt.mv <| Dq.q Qt.ia1 <| Dq.q (Qt.ld (hv := ha2)) <| ?_
  refine Dq.q (Qt.to (u := Pt b1) (Qt.lk (hv := rfl)) (by rw [hga]; rfl)) <| Dq.q Qt.nc <| Dq.q Qt.fa <| Dq.q Qt.ld <| Dq.q Qt.as <| Dq.nil <| Dr.nilK <| ?_
  refine T.sdr [] ?_ mixed
  refine Dr.qs [0, 1, 2, 3, 4, 5, 6, 7, 8, 9, 10, 11, 12] [] ?_
  refine Dq.q Qt.ld <| Dq.q Qt.nc <| Dq.q Qt.fa <| Dq.q (Qt.to (u := .map (some bM)) Qt.ld (hkids)) <| Dq.q Qt.ld <| Dq.q Qt.mv <| Dq.q Qt.ia1 <| Dq.q (Qt.ld (hv := hb2)) <| ?_
  refine Dq.q (Qt.to (u := Pt b2) (Qt.lk (hv := rfl)) (by rw [hgb]; rfl)) <| Dq.q Qt.nc <| Dq.q Qt.fa <| Dq.q Qt.ld <| Dq.q Qt.as <| Dq.nil <| Dr.nilK <| ?_
  refine T.seq ?_
  refine T.sr <| Rl.q Qt.mv <| Rl.q Qt.mv <| Rl.eqS (fun h35 => ?_) (fun h35 => ?_)
  · refine Rl.nilK <| ?_
    refine T.condT ?_
    cases hbl : Op.bytesLess na nb
    · refine T.sdr [] ?_ mixed
      refine Dr.qs [0, 1, 2, 3, 4, 5, 6, 7, 8, 9] [] ?_
      refine Dq.q Qt.ld <| Dq.q Qt.mv <| Dq.q Qt.ia1 <| Dq.q (Qt.ld (hv := ha2)) <| Dq.q Qt.ld <| Dq.q Qt.mv <| Dq.q Qt.ia1 <| Dq.q (Qt.ld (hv := hb2)) <| ?_
      refine Dq.q (Qt.sltF (h := hbl)) <| Dq.q Qt.as <| Dq.nil <| Dr.nilK <| ?_
      refine T.ret <| Ex.Kret <| Ex.ret1 (.inl rfl) rfl ?_ rfl
      exact fun w h => ⟨by rw [lessN, if_pos h35, hbl], h.grown⟩
    · refine T.sdr [] ?_ mixed
      refine Dr.qs [0, 1, 2, 3, 4, 5, 6, 7, 8, 9] [] ?_
      refine Dq.q Qt.ld <| Dq.q Qt.mv <| Dq.q Qt.ia1 <| Dq.q (Qt.ld (hv := ha2)) <| Dq.q Qt.ld <| Dq.q Qt.mv <| Dq.q Qt.ia1 <| Dq.q (Qt.ld (hv := hb2)) <| ?_
      refine Dq.q (Qt.sltT (h := hbl)) <| Dq.q Qt.as <| Dq.nil <| Dr.nilK <| ?_
      refine T.ret <| Ex.Kret <| Ex.ret1 (.inl rfl) rfl ?_ rfl
      exact fun w h => ⟨by rw [lessN, if_pos h35, hbl], h.grown⟩
  · refine Rl.nilK <| ?_
    refine T.condF ?_
    refine T.skip <| Ex.K <| ?_
    refine T.sr <| Rl.q Qt.mv <| Rl.q Qt.mv <| Rl.ltS (fun h47 => ?_) (fun h47 => ?_)
    · refine Rl.q Qt.as <| Rl.nilK <| ?_
      refine T.ret <| Ex.ret1 (.inl rfl) rfl ?_ rfl
      exact fun w h => ⟨by rw [lessN, if_neg h35, decide_eq_true h47], h.grown⟩
    · refine Rl.q Qt.as <| Rl.nilK <| ?_
      refine T.ret <| Ex.ret1 (.inl rfl) rfl ?_ rfl
      exact fun w h => ⟨by rw [lessN, if_neg h35, decide_eq_false (by omega)], h.grown⟩

end
/-- Sinking: the element at j goes down as long as it is less than the one below. -/
def sinkD (K : List UInt8 → List UInt8 → Bool) : Nat → List (List UInt8) → List (List UInt8)
  | 0, l => l
  | j + 1, l => match l[j + 1]?, l[j]? with
    | some a, some b => if K a b then sinkD K j ((l.set (j + 1) b).set j a) else l
    | _, _ => l
def sortD (K : List UInt8 → List UInt8 → Bool) : Nat → List (List UInt8) → List (List UInt8)
  | 0, l => l
  | i + 1, l => sinkD K i (sortD K i l)
theorem split2 {l : List (List UInt8)} {j : Nat} {a b : List UInt8} (h1 : l[j + 1]? = some a) (h2 : l[j]? = some b) : ∃ pre post, l = pre ++ b :: a :: post ∧ pre.length = j := by
  have hl := (List.getElem?_eq_some_iff.1 h1).1
  refine ⟨l.take j, l.drop (j + 2), ?_, by rw [List.length_take]; omega⟩
  obtain ⟨_, e2⟩ := List.getElem?_eq_some_iff.1 h2
  obtain ⟨_, e1⟩ := List.getElem?_eq_some_iff.1 h1
  rw [← e1, ← e2, List.getElem_cons_drop, List.getElem_cons_drop, List.take_append_drop]
theorem swap_eq {pre post : List (List UInt8)} {a b : List UInt8} {j : Nat} (h : pre.length = j) : ((pre ++ b :: a :: post).set (j + 1) b).set j a = pre ++ a :: b :: post := by
  subst h
  rw [List.set_append_right _ _ (by omega), List.set_append_right _ _ (Nat.le_refl _), Nat.add_sub_cancel_left, Nat.sub_self]
  rfl
theorem sinkD_perm (K : List UInt8 → List UInt8 → Bool) : ∀ (j : Nat) (l : List (List UInt8)), (sinkD K j l).Perm l
  | 0, l => .refl _
  | j + 1, l => by
    unfold sinkD
    split
    · rename_i a b h1 h2
      split
      · obtain ⟨pre, post, rfl, hp⟩ := split2 h1 h2
        rw [swap_eq hp]
        refine (sinkD_perm K j _).trans ?_
        exact .append_left pre (.swap ..)
      · exact .refl _
    · exact .refl _
theorem sortD_perm (K : List UInt8 → List UInt8 → Bool) : ∀ (i : Nat) (l : List (List UInt8)), (sortD K i l).Perm l
  | 0, l => .refl _
  | i + 1, l => (sinkD_perm K i _).trans (sortD_perm K i l)
end SL
end Go.Proofs.YtlmiekcmjpnobaaGreatDoor
namespace Go.Proofs.YtlmiekcmjpnobaaGreatDoor
open Go
namespace SL
set_option maxRecDepth 20000

theorem startAt_s {bW bN n : Nat} {s : WS} {nm : List UInt8} (h : s.cur = .pointer none) :
    Spec Tryz.prog 85 [Pt bW, SV nm, Pt bN, N .i64 n] [] [[(bW, WO s)]] (fun _ : Unit => True) (fun _ => .tuple #[]) (fun _ => [[(bW, WO (wsAt { s with name := nm, cur := Pt bN, dm := n } s.pos s.pos))]]) := by
  have := startInode_s (bW := bW) (bN := bN) (n := n) (nm := nm) h
  simpa only [wsAt, Nat.sub_self] using this
theorem entStep_ok {st : List UInt8 × Nat} {ino kd : Nat} {nm : List UInt8} (h : 12 ≤ st.2 ∧ st.2 ≤ 4096) (hn : nm.length ≤ 255) :
    (12 ≤ (entStep st ino nm kd).2 ∧ (entStep st ino nm kd).2 ≤ 4096) ∧ st.1.length ≤ (entStep st ino nm kd).1.length ∧ (entStep st ino nm kd).1.length ≤ st.1.length + 4400 := by
  have hu : up4 (8 + nm.length) ≤ 264 := by unfold up4; omega
  have hel : (erec ino nm kd).enc.length = up4 (8 + nm.length) := by rw [DRec.enc_length, erec_len]
  unfold entStep
  split
  · simp only [List.length_append, zrec_length (L := st.2) (by omega), hel]; omega
  · simp only [List.length_append, hel]; omega
/-- The entries of a directory, one behind the other. -/
def entsD (st : List UInt8 × Nat) (l : List (Nat × List UInt8 × Nat)) : List UInt8 × Nat := l.foldl (fun st e => entStep st e.1 e.2.1 e.2.2) st
def dirOut (xs : List UInt8) (l : List (Nat × List UInt8 × Nat)) : List UInt8 := (entsD (xs, 4096) l).1 ++ (zrec (entsD (xs, 4096) l).2).enc
theorem entsD_ok : ∀ {l : List (Nat × List UInt8 × Nat)} {st : List UInt8 × Nat}, (12 ≤ st.2 ∧ st.2 ≤ 4096) → (∀ e ∈ l, e.2.1.length ≤ 255) →
    (12 ≤ (entsD st l).2 ∧ (entsD st l).2 ≤ 4096) ∧ st.1.length ≤ (entsD st l).1.length ∧ (entsD st l).1.length ≤ st.1.length + l.length * 4400
  | [], st, h, _ => ⟨h, Nat.le_refl _, by simp [entsD]⟩
  | e :: l, st, h, hn => by
    have h1 := entStep_ok (ino := e.1) (kd := e.2.2) h (hn e (List.mem_cons_self ..))
    have h2 := entsD_ok (l := l) h1.1 (fun e he => hn e (List.mem_cons_of_mem _ he))
    have h3 : entsD st (e :: l) = entsD (entStep st e.1 e.2.1 e.2.2) l := rfl
    rw [h3, List.length_cons]
    exact ⟨h2.1, by omega, by omega⟩
theorem entsD_snoc (st : List UInt8 × Nat) (l : List (Nat × List UInt8 × Nat)) (e : Nat × List UInt8 × Nat) : entsD st (l ++ [e]) = entStep (entsD st l) e.1 e.2.1 e.2.2 := by simp [entsD]
/-- A name of a directory: the inode that it leads to. -/
structure Kid (Tg : Nat → WI → Prop) (arr : List Value) (k : Nat) (m : MEs) (nm : List UInt8) (ino kd : Nat) : Prop where
  get : ∃ b y, mget m nm = some (Pt b) ∧ Tg b y ∧ y.num = ino ∧ y.mode < 65536 ∧ kindN y.mode = kd ∧ nth arr (ino - 1) = some (Pt b)
  ino : 1 ≤ ino ∧ ino ≤ k
  len : 1 ≤ nm.length ∧ nm.length ≤ 255
variable {bW bN bD bPar bA bM cM k cap pn pmo : Nat} {xs xs' : List UInt8} {v : Value} {E D RC : Chunk} {s : WS} {x xp : WI} {ypf : Value → WI} {l : List Value} {fr : Nat × Nat} {x' : Value → WI} {dat : Value → Chunk → Prop} {m : MEs}

set_option synthInstance.maxHeartbeats 400000 in
set_option maxHeartbeats 4000000 in
theorem wdir0_s (F : FinS bW bN s v E xp D xs' x' dat) (hinA : s.inodes = Sl bA 0 k cap) (hk : k < 1000000) (h3 : s.max < 1099511627776) (hroom : xs'.length + 20000 ≤ s.max) (hfl : x.flags &&& 268435456 = 0) (hfl2 : x.flags < 4294967296) (hmode : x.mode < 65536) (hkids : x.kids = .map (some bM))
    (hxi : 1 ≤ x.num ∧ x.num ≤ k) (hxv : nth l (x.num - 1) = some (Pt bD)) (hypn : ∀ a, (ypf a).num = pn) (hypm : ∀ a, (ypf a).mode = pmo) (hpi : 1 ≤ pn ∧ pn ≤ k) (hpv : nth l (pn - 1) = some (Pt bPar)) (hpm : pmo < 65536) (hptg : ∀ a, (bPar = bD ∧ ypf a = x) ∨ (bPar = bN ∧ ypf a = x' a) ∨ (bPar, IOb (ypf a)) ∈ RC) :
    Spec Tryz.prog 143 [Pt bW, Pt bD, Pt bPar] [[(bA, .cells l.toArray 156 fr)], [(bM, .map (mE []) 0)], RC] [[(s.disk, DO v s.pos)], E, [(bW, WO s)], [(bN, IOb xp)], D, [(bD, IOb x)]]
      (fun r : ((Value × Chunk) × (Value × Chunk)) × (Value × Chunk) => dat r.1.2.1 r.1.2.2 ∧ DskOk r.2.1 r.2.2 (dirOut xs' [(x.num, [46], kindN x.mode), (pn, [46, 46], kindN pmo)])) (fun _ => .nilIface)
      (fun r => [[(s.disk, DO r.2.1 (dirOut xs' [(x.num, [46], kindN x.mode), (pn, [46, 46], kindN pmo)]).length)], r.2.2, [(bW, WO { s with pos := (dirOut xs' [(x.num, [46], kindN x.mode), (pn, [46, 46], kindN pmo)]).length, name := [], cur := Pt bD, dw := (dirOut xs' [(x.num, [46], kindN x.mode), (pn, [46, 46], kindN pmo)]).length - xs'.length, dm := (dirOut xs' [(x.num, [46], kindN x.mode), (pn, [46, 46], kindN pmo)]).length - xs'.length })], [(bN, IOb (x' r.1.2.1))], r.1.2.2, [(bD, IOb { x with size := (dirOut xs' [(x.num, [46], kindN x.mode), (pn, [46, 46], kindN pmo)]).length - xs'.length })]]) := by
  refine Spec.of Tryz.func143 rfl Tryz.ntmps143 (by simp) fun w => ?_
  refine T.sr <| Rl.e Ef.bx1 fun b3 hb3 => Rl.e Ef.bx1 fun b4 hb4 => Rl.q (Qt.as (v := .nilIface)) <| Rl.nilK <| ?_
  refine T.seq ?_
  refine T.sr <| Rl.q Qt.ld <| Rl.e (Ef.call (S := F)) fun r hr => Rl.q Qt.as <| Rl.nilK <| ?_
  refine T.sr <| Rl.q Qt.mv <| Rl.q Qt.ineNil <| Rl.nilK <| ?_
  refine T.condF ?_
  refine T.skip <| Ex.K <| ?_
  have hypn2 := hypn r.2.1
  have hypm2 := hypm r.2.1
  have hptg2 := hptg r.2.1
  clear hypn hypm hptg
  revert hypn2 hypm2 hptg2
  generalize ypf r.2.1 = yp
  intro hypn2 hypm2 hptg2
  subst hypn2 hypm2
  refine T.sr <| Rl.q Qt.ld <| Rl.q Qt.ld <| Rl.e (Ef.call (S := startAt_s (s := { s with pos := xs'.length, cur := .pointer none, dw := 0, dm := 0 }) rfl)) fun _ _ => Rl.nilK <| ?_
  refine T.sr <| Rl.e Ef.al1 fun b8 hb8 => Rl.e0 (Ef.st1 (v := N .i64 4096)) fun _ _ => Rl.nilK <| ?_
  refine T.sr <| Rl.q Qt.mf <| Rl.e Ef.al1 fun b9 hb9 => Rl.e0 Ef.st1 fun _ _ => Rl.nilK <| ?_
  refine T.sr <| Rl.q Qt.mf <| Rl.q Qt.as <| Rl.nilK <| ?_
  refine T.seq ?_
  refine T.sr <| Rl.q Qt.mv <| Rl.q Qt.ld <| Rl.q Qt.nc <| Rl.q Qt.fa <| Rl.q Qt.ld <| Rl.e (Ef.callC (S := wentry_s (s := { s with name := [], cur := Pt bD, dm := 9223372036854775807 }) (bN := bD) (x := x) (k := k) (cap := cap) (l := l) (fr := fr) (base := xs'.length) (nm := [46]) (xs := xs') (L := 4096) (bT := bD) (y := x) hr.1 (Nat.le_refl _) (by decide) (by decide) (by show xs'.length + 4096 + 300 ≤ s.max; omega) h3 rfl hfl hfl2 rfl hinA hk hxi hxv hmode)) fun r38 h38 => Rl.q Qt.as <| ?_
  refine Rl.nilK <| ?_
  obtain ⟨st1, hst1⟩ : ∃ st, st = entStep (xs', 4096) x.num [46] (kindN x.mode) := ⟨_, rfl⟩
  rw [← hst1] at h38 ⊢
  have hs1 := entStep_ok (st := (xs', 4096)) (ino := x.num) (kd := kindN x.mode) (nm := [46]) ⟨by show 12 ≤ 4096; decide, by show 4096 ≤ 4096; decide⟩ (by decide)
  rw [← hst1] at hs1
  have hs1a : xs'.length ≤ st1.1.length := hs1.2.1
  have hs1b : st1.1.length ≤ xs'.length + 4400 := hs1.2.2
  refine T.sr <| Rl.q Qt.mv <| Rl.q Qt.ineNil <| Rl.nilK <| ?_
  refine T.condF ?_
  refine T.skip <| Ex.K <| ?_
  refine T.seq ?_
  refine T.sr <| Rl.q Qt.mv <| Rl.q Qt.mv <| Rl.q Qt.nc <| Rl.q Qt.fa <| Rl.q (Qt.ld (l := yp.cells) (e := 171) (fr := (0, 0)) (hb := by rcases hptg2 with ⟨e1, e2⟩ | ⟨e1, e2⟩ | htm; (rw [e1, e2]; infer_instance); (rw [e1, e2]; infer_instance); (haveI : InH [[(bA, .cells l.toArray 156 fr)], [(bM, .map (mE []) 0)], RC] bPar (IOb yp) := ⟨by simp [htm]⟩; infer_instance)) (hv := rfl)) <| Rl.e (Ef.callC (S := wentry_s (s := { s with name := [], cur := Pt bD, dm := 9223372036854775807 }) (bN := bD) (x := x) (k := k) (cap := cap) (l := l) (fr := fr) (base := xs'.length) (nm := [46, 46]) (xs := st1.1) (L := st1.2) (bT := bPar) (y := yp) h38 hs1.2.1 hs1.1 (by decide) (by show st1.1.length + st1.2 + 300 ≤ s.max; omega) h3 rfl hfl hfl2 rfl hinA hk hpi hpv hpm) (hr := by rcases hptg2 with ⟨e1, e2⟩ | ⟨e1, e2⟩ | htm; (rw [e1, e2]; infer_instance); (rw [e1, e2]; infer_instance); (haveI : InH [[(bA, .cells l.toArray 156 fr)], [(bM, .map (mE []) 0)], RC] bPar (IOb yp) := ⟨by simp [htm]⟩; infer_instance))) fun r47 h47 => Rl.q Qt.as <| ?_
  refine Rl.nilK <| ?_
  obtain ⟨st2, hst2⟩ : ∃ st, st = entStep st1 yp.num [46, 46] (kindN yp.mode) := ⟨_, rfl⟩
  rw [show entStep (st1.1, st1.2) yp.num [46, 46] (kindN yp.mode) = st2 from hst2.symm] at h47 ⊢
  have hs2 := entStep_ok (st := st1) (ino := yp.num) (kd := kindN yp.mode) (nm := [46, 46]) hs1.1 (by decide)
  rw [← hst2] at hs2
  have hs2a := hs2.2.1
  have hs2b := hs2.2.2
  refine T.sr <| Rl.q Qt.mv <| Rl.q Qt.ineNil <| Rl.nilK <| ?_
  refine T.condF ?_
  refine T.skip <| Ex.K <| ?_
  refine T.sr <| Rl.e Ef.al1 fun b13 hb13 => Rl.nilK <| ?_
  refine T.seq ?_
  refine T.sr <| Rl.q Qt.ld <| Rl.q Qt.nc <| Rl.q Qt.fa <| Rl.q (Qt.to (u := .map (some bM)) Qt.ld (hkids)) <| Rl.e Ef.rg fun b55 hb55 => Rl.nilK <| ?_
  refine T.block ?_
  refine T.rounds 0 ?_
  refine T.sr <| Rl.nx mok0 (sn := []) (by simp) (fun e he hn => ?_) (fun hall => ?_)
  · exact absurd he (by simp)
  · refine Rl.q Qt.ex <| Rl.nilK <| ?_
    refine T.seq ?_
    refine T.condF ?_
    refine T.exit <| Ex.Kexit <| Ex.Rexit <| Ex.Bhit <| Ex.K <| ?_
    refine T.sr <| Rl.q Qt.mf <| Rl.q Qt.as <| Rl.nilK <| ?_
    refine T.seq ?_
    refine T.sr <| Rl.q (Qt.as (v := N .i64 1)) <| Rl.nilK <| ?_
    refine T.block ?_
    refine T.rounds 0 ?_
    refine T.seq ?_
    refine T.sr <| Rl.q Qt.mv <| Rl.q Qt.ld <| Rl.q Qt.len <| Rl.q (Qt.ltF (a := 1) (b := 0) (h := by decide)) <| Rl.nilK <| ?_
    refine T.condF ?_
    refine T.exit <| Ex.Kexit <| Ex.Rexit <| Ex.Bhit <| Ex.K <| ?_
    refine T.seq ?_
    refine T.sr <| Rl.q Qt.ld <| Rl.q Qt.len <| Rl.q (Qt.mv (v := N .i64 0)) <| Rl.nilK <| ?_
    refine T.block ?_
    refine T.rounds 0 ?_
    refine T.sr <| Rl.q (Qt.ltF (a := 0) (b := 0) (h := by decide)) <| Rl.nilK <| ?_
    refine T.seq ?_
    refine T.condF ?_
    refine T.exit <| Ex.Kexit <| Ex.Rexit <| Ex.Bhit <| Ex.K <| ?_
    refine T.seq ?_
    obtain ⟨stF, hstF⟩ : ∃ st, st = st2 := ⟨_, rfl⟩
    have hdF := h47
    rw [← hstF] at hdF hs2 hs2a hs2b ⊢
    have hsF : (12 ≤ stF.2 ∧ stF.2 ≤ 4096) ∧ xs'.length ≤ stF.1.length ∧ stF.1.length ≤ xs'.length + 8800 := ⟨hs2.1, by omega, by omega⟩
    refine T.sr <| Rl.q Qt.ld <| Rl.e (Ef.callC (S := fblock_s (s := { s with name := [], cur := Pt bD, dm := 9223372036854775807 }) (bN := bD) (x := x) (base := xs'.length) (xs := stF.1) (L := stF.2) hdF hsF.2.1 hsF.1 (by show stF.1.length + stF.2 ≤ s.max; omega) h3 rfl hfl hfl2 rfl)) fun r123 h123 => Rl.q Qt.as <| Rl.nilK <| ?_
    refine T.sr <| Rl.q Qt.mv <| Rl.q Qt.ineNil <| Rl.nilK <| ?_
    refine T.condF ?_
    refine T.skip <| Ex.K <| ?_
    refine T.sdr [10] ?_ mixed
    refine Dr.qs [0, 1, 2, 3, 4, 5, 6, 7, 8, 9] [] ?_
    refine Dq.q Qt.ld <| Dq.q Qt.nc <| Dq.q Qt.fa <| Dq.q Qt.ld <| Dq.q Qt.ld <| Dq.q Qt.nc <| Dq.q Qt.fa <| Dq.q Qt.ld <| ?_
    refine Dq.q Qt.nc <| Dq.q Qt.fa0 <| Dq.nil <| ?_
    refine Dr.e 10 <| Eo.e0 rfl Ef.st1 fun _ _ => Dr.nilK <| ?_
    refine T.sdr [7] ?_ mixed
    refine Dr.qs [0, 1, 2, 3, 4, 5, 6] [] ?_
    refine Dq.q Qt.ld <| Dq.q Qt.ld <| Dq.q Qt.nc <| Dq.q Qt.fa <| Dq.q Qt.ld <| Dq.q Qt.nc <| Dq.q Qt.fa <| Dq.nil <| ?_
    refine Dr.e 7 <| Eo.e0 rfl Ef.st1 fun _ _ => Dr.nilK <| ?_
    refine T.sr <| Rl.q (Qt.as (v := .nilIface)) <| Rl.nilK <| ?_
    refine T.ret <| Ex.ret1 (.inl rfl) rfl ?_ rfl
    have hzl := zrec_length (L := stF.2) (by omega)
    have hO : dirOut xs' [(x.num, [46], kindN x.mode), (yp.num, [46, 46], kindN yp.mode)] = stF.1 ++ (zrec stF.2).enc := by rw [hstF, hst2, hst1]; simp only [dirOut, entsD, List.foldl]
    have hlen : (dirOut xs' [(x.num, [46], kindN x.mode), (yp.num, [46, 46], kindN yp.mode)]).length = stF.1.length + stF.2 := by rw [hO, List.length_append, hzl]
    rw [← hO] at h123
    rw [← hlen]
    exact fun w h => ⟨(r, r123), ⟨hr.2, h123⟩, rfl, h.re⟩
end SL
end Go.Proofs.YtlmiekcmjpnobaaGreatDoor
namespace Go.Proofs.YtlmiekcmjpnobaaGreatDoor
open Go
namespace SL
set_option maxRecDepth 20000

def TgP (bD bN : Nat) (x xa : WI) (RC : Chunk) (b : Nat) (y : WI) : Prop := (b = bD ∧ y = x) ∨ (b = bN ∧ y = xa) ∨ (b, IOb y) ∈ RC
theorem seen_perm {m es : MEs} {c : Nat} (hok : MOk m c) (h1 : ∀ e ∈ es, e ∈ m) (h2 : (es.map (·.2.2)).Nodup) (h3 : ∀ e ∈ m, e.2.2 ∈ es.map (·.2.2)) : es.Perm m := by
  have inj : ∀ (l : MEs), (l.map (·.2.2)).Nodup → ∀ e ∈ l, ∀ f ∈ l, f.2.2 = e.2.2 → f = e := by
    intro l
    induction l with
    | nil => intro _ e he; cases he
    | cons a l ih =>
      intro hn e he f hf h
      simp only [List.map_cons, List.nodup_cons] at hn
      rcases List.mem_cons.1 he with rfl | he1
      · rcases List.mem_cons.1 hf with rfl | hf1
        · rfl
        · exact absurd (h ▸ List.mem_map_of_mem hf1) hn.1
      · rcases List.mem_cons.1 hf with rfl | hf1
        · exact absurd (h.symm ▸ List.mem_map_of_mem he1) hn.1
        · exact ih hn.2 e he1 f hf1 h
  have nd : ∀ (l : MEs), (l.map (·.2.2)).Nodup → l.Nodup := fun l h => by
    induction l with
    | nil => exact List.nodup_nil
    | cons a l ih =>
      simp only [List.map_cons, List.nodup_cons] at h
      exact List.nodup_cons.2 ⟨fun hm => h.1 (List.mem_map_of_mem hm), ih h.2⟩
  refine (List.perm_ext_iff_of_nodup (nd es h2) (nd m hok.born)).2 fun e => ⟨h1 e, fun he => ?_⟩
  obtain ⟨f, hf, h⟩ := List.mem_map.1 (h3 e he)
  have := inj m hok.born e he f (h1 f hf) h
  exact this ▸ hf
theorem row_set {l : List (List UInt8)} {sp : List Value} {j : Nat} {a : List UInt8} (h : j < l.length) : putL (l.map SV ++ sp) j (vcells (SV a)) = (l.set j a).map SV ++ sp := by
  rw [show vcells (SV a) = [SV a] from rfl, putL_set (by rw [List.length_append, List.length_map]; omega), List.set_append_left _ _ (by rw [List.length_map]; exact h), List.map_set]
theorem less_v {i j n cC b1 b2 b4 b13 bC bD bM cM : Nat} {l : List (List UInt8)} {na nb : List UInt8} {sp : List Value} {x y1 y2 : WI} {m : MEs} {r : Bool} (ha : l[i]? = some na) (hb : l[j]? = some nb) (hga : mget m na = some (Pt b1)) (hgb : mget m nb = some (Pt b2)) (hkids : x.kids = .map (some bM)) (hn : l.length = n) (hr : lessN y1.num y2.num na nb = r) :
    QSpec Tryz.prog 173 [N .i64 i, N .i64 j, Pt b4, Pt b13] [[(b4, .cells [Pt bD].toArray 156 (0, 0))], [(b13, .cells [Sl bC 0 n cC].toArray 53 (0, 0))], [(bC, .cells (l.map SV ++ sp).toArray 9 (0, 0))], [(bD, IOb x)], [(bM, .map (mE m) cM)], [(b1, IOb y1)], [(b2, IOb y2)]] (.bool r) :=
  hr ▸ less173_q ha hb hga hgb hkids hn
variable {bW bN bD bPar bA bM cM k cap : Nat} {xs xs' : List UInt8} {v : Value} {E D RC : Chunk} {s : WS} {x xp yp : WI} {l : List Value} {fr : Nat × Nat} {x' : Value → WI} {dat : Value → Chunk → Prop} {m : MEs} {Nf Kf : List UInt8 → Nat}
abbrev lessK (Nf : List UInt8 → Nat) (a b : List UInt8) : Bool := lessN (Nf a) (Nf b) a b
def NamesOk (Nf : List UInt8 → Nat) (m : MEs) (ns : List (List UInt8)) : Prop := ∃ l0 : List (List UInt8), l0.Perm (m.map (·.1)) ∧ ns = sortD (lessK Nf) l0.length l0
theorem NamesOk.perm {ns : List (List UInt8)} (h : NamesOk Nf m ns) : ns.Perm (m.map (·.1)) := by
  obtain ⟨l0, h1, rfl⟩ := h
  exact (sortD_perm _ _ _).trans h1
def kidE (Nf Kf : List UInt8 → Nat) (nm : List UInt8) : Nat × List UInt8 × Nat := (Nf nm, nm, Kf nm)

set_option synthInstance.maxHeartbeats 400000 in
set_option maxHeartbeats 8000000 in
theorem wdirN_s (F : FinS bW bN s v E xp D xs' x' dat) (hinA : s.inodes = Sl bA 0 k cap) (hk : k < 1000000) (h3 : s.max < 1099511627776) (hml : m.length < 100000) (hroom : xs'.length + m.length * 4400 + 30000 ≤ s.max) (hfl : x.flags &&& 268435456 = 0) (hfl2 : x.flags < 4294967296) (hmode : x.mode < 65536) (hkids : x.kids = .map (some bM))
    (hxi : 1 ≤ x.num ∧ x.num ≤ k) (hxv : nth l (x.num - 1) = some (Pt bD)) (hpi : 1 ≤ yp.num ∧ yp.num ≤ k) (hpv : nth l (yp.num - 1) = some (Pt bPar)) (hpm : yp.mode < 65536) (hptg : ∀ a, TgP bD bN x (x' a) RC bPar yp) (hm0 : 0 < m.length) (hmok : MOk m cM)
    (hkid : ∀ a, ∀ nm ∈ m.map (·.1), Kid (TgP bD bN x (x' a) RC) l k m nm (Nf nm) (Kf nm)) :
    Spec Tryz.prog 143 [Pt bW, Pt bD, Pt bPar] [[(bA, .cells l.toArray 156 fr)], [(bM, .map (mE m) cM)], RC] [[(s.disk, DO v s.pos)], E, [(bW, WO s)], [(bN, IOb xp)], D, [(bD, IOb x)]]
      (fun r : ((Value × Chunk) × (Value × Chunk)) × (List (List UInt8) × (Value × Chunk)) => dat r.1.2.1 r.1.2.2 ∧ NamesOk Nf m r.2.1 ∧ DskOk r.2.2.1 r.2.2.2 (dirOut xs' ((x.num, [46], kindN x.mode) :: (yp.num, [46, 46], kindN yp.mode) :: r.2.1.map (kidE Nf Kf)))) (fun _ => .nilIface)
      (fun r => [[(s.disk, DO r.2.2.1 (dirOut xs' ((x.num, [46], kindN x.mode) :: (yp.num, [46, 46], kindN yp.mode) :: r.2.1.map (kidE Nf Kf))).length)], r.2.2.2, [(bW, WO { s with pos := (dirOut xs' ((x.num, [46], kindN x.mode) :: (yp.num, [46, 46], kindN yp.mode) :: r.2.1.map (kidE Nf Kf))).length, name := [], cur := Pt bD, dw := (dirOut xs' ((x.num, [46], kindN x.mode) :: (yp.num, [46, 46], kindN yp.mode) :: r.2.1.map (kidE Nf Kf))).length - xs'.length, dm := (dirOut xs' ((x.num, [46], kindN x.mode) :: (yp.num, [46, 46], kindN yp.mode) :: r.2.1.map (kidE Nf Kf))).length - xs'.length })], [(bN, IOb (x' r.1.2.1))], r.1.2.2, [(bD, IOb { x with size := (dirOut xs' ((x.num, [46], kindN x.mode) :: (yp.num, [46, 46], kindN yp.mode) :: r.2.1.map (kidE Nf Kf))).length - xs'.length })]]) := by
  refine Spec.of Tryz.func143 rfl Tryz.ntmps143 (by simp) fun w => ?_
  have hlenk : ∀ q ∈ m.map (·.1), 1 ≤ q.length ∧ q.length ≤ 255 := fun q hq => (hkid nilP q hq).len
  refine T.sr <| Rl.e Ef.bx1 fun b3 hb3 => Rl.e Ef.bx1 fun b4 hb4 => Rl.q (Qt.as (v := .nilIface)) <| Rl.nilK <| ?_
  refine T.seq ?_
  refine T.sr <| Rl.q Qt.ld <| Rl.e (Ef.call (S := F)) fun r hr => Rl.q Qt.as <| Rl.nilK <| ?_
  refine T.sr <| Rl.q Qt.mv <| Rl.q Qt.ineNil <| Rl.nilK <| ?_
  refine T.condF ?_
  refine T.skip <| Ex.K <| ?_
  refine T.sr <| Rl.q Qt.ld <| Rl.q Qt.ld <| Rl.e (Ef.call (S := startAt_s (s := { s with pos := xs'.length, cur := .pointer none, dw := 0, dm := 0 }) rfl)) fun _ _ => Rl.nilK <| ?_
  refine T.sr <| Rl.e Ef.al1 fun b8 hb8 => Rl.e0 (Ef.st1 (v := N .i64 4096)) fun _ _ => Rl.nilK <| ?_
  refine T.sr <| Rl.q Qt.mf <| Rl.e Ef.al1 fun b9 hb9 => Rl.e0 Ef.st1 fun _ _ => Rl.nilK <| ?_
  refine T.sr <| Rl.q Qt.mf <| Rl.q Qt.as <| Rl.nilK <| ?_
  refine T.seq ?_
  refine T.sr <| Rl.q Qt.mv <| Rl.q Qt.ld <| Rl.q Qt.nc <| Rl.q Qt.fa <| Rl.q Qt.ld <| Rl.e (Ef.callC (S := wentry_s (s := { s with name := [], cur := Pt bD, dm := 9223372036854775807 }) (bN := bD) (x := x) (k := k) (cap := cap) (l := l) (fr := fr) (base := xs'.length) (nm := [46]) (xs := xs') (L := 4096) (bT := bD) (y := x) hr.1 (Nat.le_refl _) (by decide) (by decide) (by show xs'.length + 4096 + 300 ≤ s.max; omega) h3 rfl hfl hfl2 rfl hinA hk hxi hxv hmode)) fun r38 h38 => Rl.q Qt.as <| ?_
  refine Rl.nilK <| ?_
  obtain ⟨st1, hst1⟩ : ∃ st, st = entStep (xs', 4096) x.num [46] (kindN x.mode) := ⟨_, rfl⟩
  rw [← hst1] at h38 ⊢
  have hs1 := entStep_ok (st := (xs', 4096)) (ino := x.num) (kd := kindN x.mode) (nm := [46]) ⟨by show 12 ≤ 4096; decide, by show 4096 ≤ 4096; decide⟩ (by decide)
  rw [← hst1] at hs1
  have hs1a : xs'.length ≤ st1.1.length := hs1.2.1
  have hs1b : st1.1.length ≤ xs'.length + 4400 := hs1.2.2
  refine T.sr <| Rl.q Qt.mv <| Rl.q Qt.ineNil <| Rl.nilK <| ?_
  refine T.condF ?_
  refine T.skip <| Ex.K <| ?_
  refine T.seq ?_
  refine T.sr <| Rl.q Qt.mv <| Rl.q Qt.mv <| Rl.q Qt.nc <| Rl.q Qt.fa <| Rl.q (Qt.ld (l := yp.cells) (e := 171) (fr := (0, 0)) (hb := by (rcases hptg r.2.1 with ⟨e1, e2⟩ | ⟨e1, e2⟩ | htm; (rw [e1, e2]; infer_instance); (rw [e1, e2]; infer_instance); (haveI : InH [[(bA, .cells l.toArray 156 fr)], [(bM, .map (mE m) cM)], RC] bPar (IOb yp) := ⟨by simp [htm]⟩; infer_instance))) (hv := rfl)) <| Rl.e (Ef.callC (S := wentry_s (s := { s with name := [], cur := Pt bD, dm := 9223372036854775807 }) (bN := bD) (x := x) (k := k) (cap := cap) (l := l) (fr := fr) (base := xs'.length) (nm := [46, 46]) (xs := st1.1) (L := st1.2) (bT := bPar) (y := yp) h38 hs1.2.1 hs1.1 (by decide) (by show st1.1.length + st1.2 + 300 ≤ s.max; omega) h3 rfl hfl hfl2 rfl hinA hk hpi hpv hpm) (hr := by (rcases hptg r.2.1 with ⟨e1, e2⟩ | ⟨e1, e2⟩ | htm; (rw [e1, e2]; infer_instance); (rw [e1, e2]; infer_instance); (haveI : InH [[(bA, .cells l.toArray 156 fr)], [(bM, .map (mE m) cM)], RC] bPar (IOb yp) := ⟨by simp [htm]⟩; infer_instance)))) fun r47 h47 => Rl.q Qt.as <| ?_
  refine Rl.nilK <| ?_
  obtain ⟨st2, hst2⟩ : ∃ st, st = entStep st1 yp.num [46, 46] (kindN yp.mode) := ⟨_, rfl⟩
  rw [show entStep (st1.1, st1.2) yp.num [46, 46] (kindN yp.mode) = st2 from hst2.symm] at h47 ⊢
  have hs2 := entStep_ok (st := st1) (ino := yp.num) (kd := kindN yp.mode) (nm := [46, 46]) hs1.1 (by decide)
  rw [← hst2] at hs2
  have hs2a := hs2.2.1
  have hs2b := hs2.2.2
  refine T.sr <| Rl.q Qt.mv <| Rl.q Qt.ineNil <| Rl.nilK <| ?_
  refine T.condF ?_
  refine T.skip <| Ex.K <| ?_
  refine T.sr <| Rl.e Ef.al1 fun b13 hb13 => Rl.nilK <| ?_
  refine T.seq ?_
  refine T.sr <| Rl.q Qt.ld <| Rl.q Qt.nc <| Rl.q Qt.fa <| Rl.q (Qt.to (u := .map (some bM)) Qt.ld (hkids)) <| Rl.e Ef.rg fun b55 hb55 => Rl.nilK <| ?_
  refine T.block ?_
  refine T.add0 ?_
  refine T.loop (α := MEs × (Value × Chunk)) (fun z => [(3, Pt b3), (4, Pt b4), (9, Pt b9), (10, .func (.func 171) #[] #[Pt b8, Pt b9, Pt b3]), (13, Pt b13), (55, Pt b55)]) (fun z => [[(b13, .cells [z.2.1].toArray 53 (0, 0))], z.2.2, [(b55, .mapIter (some bM) cM (z.1.map (·.2.2)).toArray cM)], [(b8, .cells [N .i64 st2.2].toArray 3 (0, 0))], [(s.disk, DO r47.1 st2.1.length)], r47.2, [(bW, WO (wsAt { s with name := [], cur := Pt bD, dm := 9223372036854775807 } xs'.length st2.1.length))], [(b9, .cells [.func (.func 169) #[] #[Pt b8, Pt b3]].toArray 131 (0, 0))], [(bN, IOb (x' r.2.1))], r.2.2, [(b4, .cells [Pt bD].toArray 156 (0, 0))], [(b3, .cells [Pt bW].toArray 116 (0, 0))], [(bD, IOb x)]]) (fun z => (∀ e ∈ z.1, e ∈ m) ∧ (z.1.map (·.2.2)).Nodup ∧ Own 9 1 z.2.1 z.1.length (z.1.map fun e => SV e.1) z.2.2) (fun z => m.length - z.1.length)
    ([], (.slice none 0 0, [])) ⟨fun e he => absurd he (by simp), List.nodup_nil, Own.nil 9 1⟩ ?_ (fun z hz => ?_)
  · exact .cons rfl <| .cons rfl <| .cons rfl <| .cons rfl <| .cons rfl <| .cons rfl <| .nil
  obtain ⟨es, ve, Ee⟩ := z
  obtain ⟨hes1, hes2, heso⟩ := hz
  have hes1 : ∀ e ∈ es, e ∈ m := hes1
  have hes2 : (es.map (·.2.2)).Nodup := hes2
  have heso : Own 9 1 ve es.length (es.map fun e => SV e.1) Ee := heso
  have hesl : es.length ≤ m.length := by have h := List.Nodup.length_le_of_subset hes2 (l₂ := m.map (·.2.2)) (fun q hq => by obtain ⟨e, he, rfl⟩ := List.mem_map.1 hq; exact List.mem_map_of_mem (hes1 e he)); simpa using h
  refine T.sr <| Rl.nx hmok (sn := es.map (·.2.2)) (fun q hq => by obtain ⟨f, hf, rfl⟩ := List.mem_map.1 hq; exact List.mem_map_of_mem (hes1 f hf)) (fun e he hn => ?_) (fun hall => ?_)
  · refine Rl.q Qt.ex <| Rl.nilK <| ?_
    refine T.seq ?_
    refine T.condT ?_
    refine T.skip <| Ex.K <| ?_
    refine T.block ?_
    refine T.sr <| Rl.q (Qt.en (he := he) (hok := hmok)) <| Rl.q Qt.ex <| Rl.q Qt.as <| Rl.nilK <| ?_
    refine T.region <| Rl.q Qt.ld <| Rl.q Qt.mv <| Rl.e Ef.bs fun b62 hb62 => Rl.e (Ef.ap (own := heso) (vs := [SV e.1])) fun v63 hv63 => Rl.e0 Ef.st1 fun _ _ => Rl.nil <| Ex.Bnormal <| ?_
    have hnx1 : ∀ f ∈ es ++ [e], f ∈ m := fun f hf => by rcases List.mem_append.1 hf with h | h; exact hes1 f h; rw [List.mem_singleton.1 h]; exact he
    have hnx2 : ((es ++ [e]).map (·.2.2)).Nodup := by rw [List.map_append, List.map_singleton]; exact List.nodup_append.2 ⟨hes2, List.nodup_cons.2 ⟨by simp, List.nodup_nil⟩, fun a ha b hb => by rw [List.mem_singleton.1 hb]; exact fun h => hn (h ▸ ha)⟩
    have hlx : es.length < m.length := by have h := List.Nodup.length_le_of_subset hnx2 (l₂ := m.map (·.2.2)) (fun q hq => by obtain ⟨f, hf, rfl⟩ := List.mem_map.1 hq; exact List.mem_map_of_mem (hnx1 f hf)); simp at h; omega
    rw [show es.map (·.2.2) ++ [e.2.2] = (es ++ [e]).map (·.2.2) by simp]
    exact Ex.next (es ++ [e], (v63.1, v63.2)) ⟨hnx1, hnx2, by simpa using hv63⟩ (by show m.length - (es ++ [e]).length < m.length - es.length; rw [List.length_append, List.length_singleton]; omega) (.cons rfl <| .cons rfl <| .cons rfl <| .cons rfl <| .cons rfl <| .cons rfl <| .nil)
  · refine Rl.q Qt.ex <| Rl.nilK <| ?_
    refine T.seq ?_
    refine T.condF ?_
    refine T.exit <| Ex.Kexit <| Ex.Lexit <| Ex.Bhit <| Ex.K <| ?_
    have hperm := seen_perm hmok hes1 hes2 hall
    have hlen := hperm.length_eq
    obtain ⟨bC, cC, spC, hvC, hcC, hcC2, hEC, hspC⟩ := heso.some (by omega)
    rw [hvC, hEC]
    obtain ⟨n, hn⟩ : ∃ n, n = es.length := ⟨_, rfl⟩
    obtain ⟨l0, hl0⟩ : ∃ q, q = es.map (·.1) := ⟨_, rfl⟩
    have hl0p : l0.Perm (m.map (·.1)) := by rw [hl0]; exact hperm.map _
    have hl0n : l0.length = n := by rw [hl0, List.length_map, hn]
    rw [show (es.map fun e => SV e.1) = l0.map SV by rw [hl0, List.map_map]; rfl, ← hn]
    have hn1 : 1 ≤ n := by omega
    have hnm : n = m.length := by omega
    clear heso hall hspC hvC hEC
    simp only [maxLen] at hcC2
    refine T.sr <| Rl.q Qt.mf <| Rl.q Qt.as <| Rl.nilK <| ?_
    refine T.seq ?_
    refine T.sr <| Rl.q (Qt.as (v := N .i64 1)) <| Rl.nilK <| ?_
    refine T.block ?_
    refine T.loop (α := Nat × List (List UInt8)) (fun z => [(3, Pt b3), (4, Pt b4), (9, Pt b9), (10, .func (.func 171) #[] #[Pt b8, Pt b9, Pt b3]), (13, Pt b13), (15, .func (.func 173) #[] #[Pt b4, Pt b13]), (16, N .i64 z.1)]) (fun z => [[(b13, .cells [Sl bC 0 n cC].toArray 53 (0, 0))], [(bC, .cells (z.2.map SV ++ spC).toArray 9 (0, 0))], [(b8, .cells [N .i64 st2.2].toArray 3 (0, 0))], [(s.disk, DO r47.1 st2.1.length)], r47.2, [(bW, WO (wsAt { s with name := [], cur := Pt bD, dm := 9223372036854775807 } xs'.length st2.1.length))], [(b9, .cells [.func (.func 169) #[] #[Pt b8, Pt b3]].toArray 131 (0, 0))], [(bN, IOb (x' r.2.1))], r.2.2, [(b4, .cells [Pt bD].toArray 156 (0, 0))], [(b3, .cells [Pt bW].toArray 116 (0, 0))], [(bD, IOb x)]]) (fun z => 1 ≤ z.1 ∧ z.1 ≤ n ∧ z.2 = sortD (lessK Nf) z.1 l0) (fun z => n - z.1)
      (1, l0) ⟨Nat.le_refl _, hn1, rfl⟩ ?_ (fun z hz => ?_)
    · exact .cons rfl <| .cons rfl <| .cons rfl <| .cons rfl <| .cons rfl <| .cons rfl <| .cons rfl <| .nil
    refine T.seq ?_
    obtain ⟨i, li⟩ := z
    obtain ⟨hi1, hi2, hli⟩ := hz
    have hi1 : 1 ≤ i := hi1
    have hi2 : i ≤ n := hi2
    have hli : li = sortD (lessK Nf) i l0 := hli
    have hlip : li.Perm l0 := by rw [hli]; exact sortD_perm _ _ _
    have hlil : li.length = n := by rw [hlip.length_eq, hl0n]
    refine T.sr <| Rl.q Qt.mv <| Rl.q Qt.ld <| Rl.q Qt.len <| Rl.ltS (fun h68 => ?_) (fun h68 => ?_)
    · refine Rl.nilK <| ?_
      refine T.condT ?_
      refine T.skip <| Ex.K <| ?_
      refine T.seq ?_
      refine T.block ?_
      refine T.sr <| Rl.q Qt.mv <| Rl.q Qt.as <| Rl.nilK <| ?_
      refine T.block ?_
      refine T.loop (α := Nat × List (List UInt8)) (fun z => [(3, Pt b3), (4, Pt b4), (9, Pt b9), (10, .func (.func 171) #[] #[Pt b8, Pt b9, Pt b3]), (13, Pt b13), (15, .func (.func 173) #[] #[Pt b4, Pt b13]), (16, N .i64 i), (17, N .i64 z.1)]) (fun z => [[(b13, .cells [Sl bC 0 n cC].toArray 53 (0, 0))], [(bC, .cells (z.2.map SV ++ spC).toArray 9 (0, 0))], [(b8, .cells [N .i64 st2.2].toArray 3 (0, 0))], [(s.disk, DO r47.1 st2.1.length)], r47.2, [(bW, WO (wsAt { s with name := [], cur := Pt bD, dm := 9223372036854775807 } xs'.length st2.1.length))], [(b9, .cells [.func (.func 169) #[] #[Pt b8, Pt b3]].toArray 131 (0, 0))], [(bN, IOb (x' r.2.1))], r.2.2, [(b4, .cells [Pt bD].toArray 156 (0, 0))], [(b3, .cells [Pt bW].toArray 116 (0, 0))], [(bD, IOb x)]]) (fun z => z.1 ≤ i ∧ z.2.length = n ∧ z.2.Perm l0 ∧ sinkD (lessK Nf) z.1 z.2 = sinkD (lessK Nf) i li) (fun z => z.1)
        (i, li) ⟨Nat.le_refl _, hlil, hlip, rfl⟩ ?_ (fun z hz => ?_)
      · exact .cons rfl <| .cons rfl <| .cons rfl <| .cons rfl <| .cons rfl <| .cons rfl <| .cons rfl <| .cons rfl <| .nil
      refine T.seq ?_
      obtain ⟨jj, lj⟩ := z
      obtain ⟨hj1, hjl, hjp, hjs⟩ := hz
      have hj1 : jj ≤ i := hj1
      have hjl : lj.length = n := hjl
      have hjp : lj.Perm l0 := hjp
      have hjs : sinkD (lessK Nf) jj lj = sinkD (lessK Nf) i li := hjs
      have h68 : i < n := h68
      have hc : jj = 0 ∨ (∃ j a b, jj = j + 1 ∧ lj[j + 1]? = some a ∧ lj[j]? = some b ∧ lessK Nf a b = true) ∨ (∃ j a b, jj = j + 1 ∧ lj[j + 1]? = some a ∧ lj[j]? = some b ∧ lessK Nf a b = false) := by
        rcases Nat.eq_zero_or_pos jj with h | h
        · exact .inl h
        · have e1 : lj[jj - 1 + 1]? = some (lj[jj - 1 + 1]'(by omega)) := List.getElem?_eq_getElem _
          have e2 : lj[jj - 1]? = some (lj[jj - 1]'(by omega)) := List.getElem?_eq_getElem _
          cases hK : lessK Nf (lj[jj - 1 + 1]'(by omega)) (lj[jj - 1]'(by omega)) with
          | true => exact .inr (.inl ⟨jj - 1, _, _, by omega, e1, e2, hK⟩)
          | false => exact .inr (.inr ⟨jj - 1, _, _, by omega, e1, e2, hK⟩)
      rcases hc with hj0 | ⟨j, a, b, rfl, hja, hjb, hK⟩ | ⟨j, a, b, rfl, hja, hjb, hK⟩
      · subst hj0
        refine T.sr <| Rl.q Qt.mv <| Rl.q (Qt.gtF (b := 0) (h := Nat.le_refl 0)) <| Rl.q Qt.mv <| Rl.gf <| Rl.gf <| Rl.gf <| Rl.gf <| Rl.gf <| Rl.q (Qt.pkF (v := .bool false)) <| ?_
        refine Rl.nilK <| ?_
        refine T.condF ?_
        refine T.exit <| Ex.Kexit <| Ex.Lexit <| Ex.Bhit <| Ex.Bnormal <| Ex.K <| ?_
        refine T.region <| Rl.q Qt.mv <| Rl.q (Qt.add (b := 1)) <| Rl.q Qt.as <| Rl.nil <| ?_
        have hso : lj = sortD (lessK Nf) (i + 1) l0 := by rw [sortD, ← hli, ← hjs]; rfl
        exact Ex.next (i + 1, lj) ⟨by omega, by omega, hso⟩ (by show n - (i + 1) < n - i; omega) (.cons rfl <| .cons rfl <| .cons rfl <| .cons rfl <| .cons rfl <| .cons rfl <| .cons rfl <| .nil)
      · have hma : a ∈ m.map (·.1) := hl0p.mem_iff.1 (hjp.mem_iff.1 (List.mem_of_getElem? hja))
        have hmb : b ∈ m.map (·.1) := hl0p.mem_iff.1 (hjp.mem_iff.1 (List.mem_of_getElem? hjb))
        obtain ⟨b1, y1, hg1, hT1, hyn1, _, _, _⟩ := (hkid r.2.1 a hma).get
        obtain ⟨b2, y2, hg2, hT2, hyn2, _, _, _⟩ := (hkid r.2.1 b hmb).get
        rw [lessK, ← hyn1, ← hyn2] at hK
        have hjlt := (List.getElem?_eq_some_iff.1 hja).1
        have hjb1 : nth (lj.map SV ++ spC) (0 + j) = some (SV b) := by rw [Nat.zero_add]; exact nth_app (by rw [nth_eq, List.getElem?_map, hjb]; rfl)
        have hja1 : nth (lj.map SV ++ spC) (0 + (j + 1)) = some (SV a) := by rw [Nat.zero_add]; exact nth_app (by rw [nth_eq, List.getElem?_map, hja]; rfl)
        refine T.sr <| Rl.q Qt.mv <| Rl.q (Qt.gtT (b := 0)) <| Rl.q Qt.mv <| Rl.gt <| Rl.q Qt.mv <| Rl.gt <| Rl.q Qt.mv <| ?_
        refine Rl.gt <| Rl.q Qt.mv <| Rl.gt <| Rl.q (Qt.sub (b := 1)) <| Rl.gt <| Rl.e (Ef.qcallC (S := less_v (bC := bC) (cC := cC) (bD := bD) (x := x) (l := lj) (sp := spC) (na := a) (nb := b) (b1 := b1) (b2 := b2) (y1 := y1) (y2 := y2) (m := m) (cM := cM) hja hjb hg1 hg2 hkids hjl hK) (hr := by (rcases hT1 with ⟨e1, e2⟩ | ⟨e1, e2⟩ | htm; (rw [e1, e2]; (rcases hT2 with ⟨e1, e2⟩ | ⟨e1, e2⟩ | htm; (rw [e1, e2]; infer_instance); (rw [e1, e2]; infer_instance); (haveI : InH [[(bA, .cells l.toArray 156 fr)], [(bM, .map (mE m) cM)], RC] b2 (IOb y2) := ⟨by simp [htm]⟩; infer_instance))); (rw [e1, e2]; (rcases hT2 with ⟨e1, e2⟩ | ⟨e1, e2⟩ | htm; (rw [e1, e2]; infer_instance); (rw [e1, e2]; infer_instance); (haveI : InH [[(bA, .cells l.toArray 156 fr)], [(bM, .map (mE m) cM)], RC] b2 (IOb y2) := ⟨by simp [htm]⟩; infer_instance))); (haveI : InH [[(bA, .cells l.toArray 156 fr)], [(bM, .map (mE m) cM)], RC] b1 (IOb y1) := ⟨by simp [htm]⟩; (rcases hT2 with ⟨e1, e2⟩ | ⟨e1, e2⟩ | htm; (rw [e1, e2]; infer_instance); (rw [e1, e2]; infer_instance); (haveI : InH [[(bA, .cells l.toArray 156 fr)], [(bM, .map (mE m) cM)], RC] b2 (IOb y2) := ⟨by simp [htm]⟩; infer_instance)))))) fun _ _ => Rl.q Qt.pkT <| Rl.nilK <| ?_
        refine T.condT ?_
        refine T.skip <| Ex.K <| ?_
        refine T.seq ?_
        refine T.block ?_
        have hs1w : putL (lj.map SV ++ spC) (0 + (j + 1)) (vcells (SV b)) = (lj.set (j + 1) b).map SV ++ spC := by rw [Nat.zero_add]; exact row_set hjlt
        have hs3w : putL ((lj.set (j + 1) b).map SV ++ spC) (0 + (j + 1 - 1)) (vcells (SV a)) = ((lj.set (j + 1) b).set j a).map SV ++ spC := by rw [Nat.zero_add, Nat.add_sub_cancel]; exact row_set (by rw [List.length_set]; omega)
        refine T.dr [15, 16, 17] ?_ mixed
        refine Dr.qs [0, 1, 3, 4, 5, 6, 7, 8, 9, 10, 11, 12, 13, 14] [false, false, true, true] ?_
        refine Dq.q Qt.ld <| Dq.q Qt.mv <| Dq.p Qt.mv <| Dq.p (Qt.sub (b := 1)) <| Dq.q Qt.ld <| Dq.q Qt.mv <| Dq.q (Qt.sub (b := 1)) <| Dq.q Qt.ia1 <| ?_
        refine Dq.q (Qt.ld (v := SV b) (hv := hjb1)) <| Dq.q Qt.ld <| Dq.q Qt.mv <| Dq.q Qt.ia1 <| Dq.q (Qt.ld (v := SV a) (hv := hja1)) <| Dq.q Qt.ia1 <| Dq.nil <| ?_
        refine Dr.e2 2 15 ?_ ?_
        · refine Eo.q rfl Qt.ld <| ?_
          refine Dr.e 15 <| Eo.e0 rfl (Ef.st (hc := ⟨rfl, by show 0 + (j + 1) + 1 ≤ _; simp only [List.length_append, List.length_map]; omega, rfl⟩)) fun _ _ => ?_
          refine Dr.reset [17] ?_
          refine Dr.qs [16] [] ?_
          refine Dq.q Qt.ia1 <| Dq.nil <| ?_
          refine Dr.e 17 <| Eo.e0 rfl (Ef.st (hc := ⟨rfl, by show 0 + (j + 1 - 1) + 1 ≤ _; show _ ≤ (putL (lj.map SV ++ spC) (0 + (j + 1)) (vcells (SV b))).length; rw [hs1w]; simp only [List.length_append, List.length_map, List.length_set]; omega, rfl⟩)) fun _ _ => Dr.nil <| Ex.Bnormal <| Ex.K <| ?_
          rw [hs1w, hs3w]
          refine T.region <| Rl.q Qt.mv <| Rl.q (Qt.sub (b := 1)) <| Rl.q Qt.as <| Rl.nil <| ?_
          have hswp : ((lj.set (j + 1) b).set j a).Perm l0 := by
            obtain ⟨pr, po, rfl, hp⟩ := split2 hja hjb
            rw [swap_eq hp]
            exact (List.Perm.append_left pr (.swap ..)).trans hjp
          have hswk : sinkD (lessK Nf) j ((lj.set (j + 1) b).set j a) = sinkD (lessK Nf) i li := by
            rw [← hjs]
            show _ = sinkD (lessK Nf) (j + 1) lj
            have hK2 : lessK Nf a b = true := by rw [lessK, ← hyn1, ← hyn2]; exact hK
            simp only [sinkD, hja, hjb, hK2, if_true]
          exact Ex.next (j, (lj.set (j + 1) b).set j a) ⟨by omega, by rw [List.length_set, List.length_set]; exact hjl, hswp, hswk⟩ (by show j < j + 1; omega) (.cons rfl <| .cons rfl <| .cons rfl <| .cons rfl <| .cons rfl <| .cons rfl <| .cons rfl <| .cons rfl <| .nil)
        · refine Eo.e0 rfl (Ef.st (hc := ⟨rfl, by show 0 + (j + 1) + 1 ≤ _; simp only [List.length_append, List.length_map]; omega, rfl⟩)) fun _ _ => ?_
          refine Dr.reset [17] ?_
          refine Dr.e 2 <| Eo.q rfl Qt.ld <| ?_
          refine Dr.e 16 <| Eo.q rfl Qt.ia1 <| ?_
          refine Dr.e 17 <| Eo.e0 rfl (Ef.st (hc := ⟨rfl, by show 0 + (j + 1 - 1) + 1 ≤ _; show _ ≤ (putL (lj.map SV ++ spC) (0 + (j + 1)) (vcells (SV b))).length; rw [hs1w]; simp only [List.length_append, List.length_map, List.length_set]; omega, rfl⟩)) fun _ _ => Dr.nil <| Ex.Bnormal <| Ex.K <| ?_
          rw [hs1w, hs3w]
          refine T.region <| Rl.q Qt.mv <| Rl.q (Qt.sub (b := 1)) <| Rl.q Qt.as <| Rl.nil <| ?_
          have hswp : ((lj.set (j + 1) b).set j a).Perm l0 := by
            obtain ⟨pr, po, rfl, hp⟩ := split2 hja hjb
            rw [swap_eq hp]
            exact (List.Perm.append_left pr (.swap ..)).trans hjp
          have hswk : sinkD (lessK Nf) j ((lj.set (j + 1) b).set j a) = sinkD (lessK Nf) i li := by
            rw [← hjs]
            show _ = sinkD (lessK Nf) (j + 1) lj
            have hK2 : lessK Nf a b = true := by rw [lessK, ← hyn1, ← hyn2]; exact hK
            simp only [sinkD, hja, hjb, hK2, if_true]
          exact Ex.next (j, (lj.set (j + 1) b).set j a) ⟨by omega, by rw [List.length_set, List.length_set]; exact hjl, hswp, hswk⟩ (by show j < j + 1; omega) (.cons rfl <| .cons rfl <| .cons rfl <| .cons rfl <| .cons rfl <| .cons rfl <| .cons rfl <| .cons rfl <| .nil)
      · have hma : a ∈ m.map (·.1) := hl0p.mem_iff.1 (hjp.mem_iff.1 (List.mem_of_getElem? hja))
        have hmb : b ∈ m.map (·.1) := hl0p.mem_iff.1 (hjp.mem_iff.1 (List.mem_of_getElem? hjb))
        obtain ⟨b1, y1, hg1, hT1, hyn1, _, _, _⟩ := (hkid r.2.1 a hma).get
        obtain ⟨b2, y2, hg2, hT2, hyn2, _, _, _⟩ := (hkid r.2.1 b hmb).get
        rw [lessK, ← hyn1, ← hyn2] at hK
        have hjlt := (List.getElem?_eq_some_iff.1 hja).1
        have hjb1 : nth (lj.map SV ++ spC) (0 + j) = some (SV b) := by rw [Nat.zero_add]; exact nth_app (by rw [nth_eq, List.getElem?_map, hjb]; rfl)
        have hja1 : nth (lj.map SV ++ spC) (0 + (j + 1)) = some (SV a) := by rw [Nat.zero_add]; exact nth_app (by rw [nth_eq, List.getElem?_map, hja]; rfl)
        refine T.sr <| Rl.q Qt.mv <| Rl.q (Qt.gtT (b := 0)) <| Rl.q Qt.mv <| Rl.gt <| Rl.q Qt.mv <| Rl.gt <| Rl.q Qt.mv <| ?_
        refine Rl.gt <| Rl.q Qt.mv <| Rl.gt <| Rl.q (Qt.sub (b := 1)) <| Rl.gt <| Rl.e (Ef.qcallC (S := less_v (bC := bC) (cC := cC) (bD := bD) (x := x) (l := lj) (sp := spC) (na := a) (nb := b) (b1 := b1) (b2 := b2) (y1 := y1) (y2 := y2) (m := m) (cM := cM) hja hjb hg1 hg2 hkids hjl hK) (hr := by (rcases hT1 with ⟨e1, e2⟩ | ⟨e1, e2⟩ | htm; (rw [e1, e2]; (rcases hT2 with ⟨e1, e2⟩ | ⟨e1, e2⟩ | htm; (rw [e1, e2]; infer_instance); (rw [e1, e2]; infer_instance); (haveI : InH [[(bA, .cells l.toArray 156 fr)], [(bM, .map (mE m) cM)], RC] b2 (IOb y2) := ⟨by simp [htm]⟩; infer_instance))); (rw [e1, e2]; (rcases hT2 with ⟨e1, e2⟩ | ⟨e1, e2⟩ | htm; (rw [e1, e2]; infer_instance); (rw [e1, e2]; infer_instance); (haveI : InH [[(bA, .cells l.toArray 156 fr)], [(bM, .map (mE m) cM)], RC] b2 (IOb y2) := ⟨by simp [htm]⟩; infer_instance))); (haveI : InH [[(bA, .cells l.toArray 156 fr)], [(bM, .map (mE m) cM)], RC] b1 (IOb y1) := ⟨by simp [htm]⟩; (rcases hT2 with ⟨e1, e2⟩ | ⟨e1, e2⟩ | htm; (rw [e1, e2]; infer_instance); (rw [e1, e2]; infer_instance); (haveI : InH [[(bA, .cells l.toArray 156 fr)], [(bM, .map (mE m) cM)], RC] b2 (IOb y2) := ⟨by simp [htm]⟩; infer_instance)))))) fun _ _ => Rl.q Qt.pkT <| Rl.nilK <| ?_
        refine T.condF ?_
        refine T.exit <| Ex.Kexit <| Ex.Lexit <| Ex.Bhit <| Ex.Bnormal <| Ex.K <| ?_
        refine T.region <| Rl.q Qt.mv <| Rl.q (Qt.add (b := 1)) <| Rl.q Qt.as <| Rl.nil <| ?_
        have hK2 : lessK Nf a b = false := by rw [lessK, ← hyn1, ← hyn2]; exact hK
        have hso : lj = sortD (lessK Nf) (i + 1) l0 := by rw [sortD, ← hli, ← hjs]; simp only [sinkD, hja, hjb, hK2]; rfl
        exact Ex.next (i + 1, lj) ⟨by omega, by omega, hso⟩ (by show n - (i + 1) < n - i; omega) (.cons rfl <| .cons rfl <| .cons rfl <| .cons rfl <| .cons rfl <| .cons rfl <| .cons rfl <| .nil)
    · refine Rl.nilK <| ?_
      refine T.condF ?_
      refine T.exit <| Ex.Kexit <| Ex.Lexit <| Ex.Bhit <| Ex.K <| ?_
      refine T.seq ?_
      have h68 : n ≤ i := h68
      obtain rfl : n = i := by omega
      obtain ⟨ns, rfl⟩ : ∃ q, q = li := ⟨_, rfl⟩
      have hns : ns = sortD (lessK Nf) l0.length l0 := by rw [hl0n]; exact hli
      have hnok : NamesOk Nf m ns := ⟨l0, hl0p, hns⟩
      have hnsl : ns.length = n := by rw [hnok.perm.length_eq, List.length_map]; omega
      have hnsm : ∀ q ∈ ns, q ∈ m.map (·.1) := fun q hq => hnok.perm.mem_iff.1 hq
      refine T.sr <| Rl.q Qt.ld <| Rl.q Qt.len <| Rl.q (Qt.mv (v := N .i64 0)) <| Rl.nilK <| ?_
      refine T.block ?_
      refine T.loop (α := Nat × (Value × Chunk)) (fun z => [(3, Pt b3), (4, Pt b4), (9, Pt b9), (10, .func (.func 171) #[] #[Pt b8, Pt b9, Pt b3]), (13, Pt b13), (99, Sl bC 0 n cC), (100, N .i64 n), (101, N .i64 z.1)]) (fun z => [[(b13, .cells [Sl bC 0 n cC].toArray 53 (0, 0))], [(bC, .cells (ns.map SV ++ spC).toArray 9 (0, 0))], [(b8, .cells [N .i64 (entsD st2 ((ns.take z.1).map (kidE Nf Kf))).2].toArray 3 (0, 0))], [(s.disk, DO z.2.1 (entsD st2 ((ns.take z.1).map (kidE Nf Kf))).1.length)], z.2.2, [(bW, WO (wsAt { s with name := [], cur := Pt bD, dm := 9223372036854775807 } xs'.length (entsD st2 ((ns.take z.1).map (kidE Nf Kf))).1.length))], [(b9, .cells [.func (.func 169) #[] #[Pt b8, Pt b3]].toArray 131 (0, 0))], [(bN, IOb (x' r.2.1))], r.2.2, [(b4, .cells [Pt bD].toArray 156 (0, 0))], [(b3, .cells [Pt bW].toArray 116 (0, 0))], [(bD, IOb x)]]) (fun z => z.1 ≤ n ∧ DskOk z.2.1 z.2.2 (entsD st2 ((ns.take z.1).map (kidE Nf Kf))).1) (fun z => n - z.1)
        (0, (r47.1, r47.2)) ⟨Nat.zero_le _, h47⟩ ?_ (fun z hz => ?_)
      · exact .cons rfl <| .cons rfl <| .cons rfl <| .cons rfl <| .cons rfl <| .cons rfl <| .cons rfl <| .cons rfl <| .nil
      refine T.sr <| Rl.ltS (fun h102 => ?_) (fun h102 => ?_)
      · refine Rl.nilK <| ?_
        refine T.seq ?_
        refine T.condT ?_
        refine T.skip <| Ex.K <| ?_
        refine T.seq ?_
        refine T.block ?_
        obtain ⟨i, vi, Ei⟩ := z
        obtain ⟨hi, hdi⟩ := hz
        have hi : i ≤ n := hi
        have h102 : i < n := h102
        obtain ⟨sti, hsti⟩ : ∃ st, st = entsD st2 ((ns.take i).map (kidE Nf Kf)) := ⟨_, rfl⟩
        have hdi : DskOk vi Ei sti.1 := by rw [hsti]; exact hdi
        rw [← hsti]
        obtain ⟨nm, hnm0⟩ : ∃ q, ns[i]? = some q := ⟨_, List.getElem?_eq_getElem (by omega)⟩
        have hkid := hkid r.2.1 nm (hnsm nm (List.mem_of_getElem? hnm0))
        obtain ⟨b1, y1, hg1, hT1, hyn, hkm, hkk, hkv⟩ := hkid.get
        have hki := hkid.ino
        have hkl := hkid.len
        rw [← hyn] at hki hkv
        have hsi := entsD_ok (st := st2) (l := (ns.take i).map (kidE Nf Kf)) hs2.1 (fun e he => by obtain ⟨q, hq, rfl⟩ := List.mem_map.1 he; exact (hlenk q (hnsm q (List.mem_of_mem_take hq))).2)
        rw [← hsti, List.length_map, List.length_take, Nat.min_eq_left (by omega)] at hsi
        have hsi : (12 ≤ sti.2 ∧ sti.2 ≤ 4096) ∧ xs'.length ≤ sti.1.length ∧ sti.1.length ≤ xs'.length + 8800 + i * 4400 := ⟨hsi.1, by omega, by omega⟩
        have himul : i * 4400 ≤ m.length * 4400 := Nat.mul_le_mul_right _ (by omega)
        have hnm1 : nth (ns.map SV ++ spC) (0 + i) = some (SV nm) := by rw [Nat.zero_add]; exact nth_app (by rw [nth_eq, List.getElem?_map, hnm0]; rfl)
        refine T.sr <| Rl.q Qt.ia1 <| Rl.q (Qt.ld (v := SV nm) (hv := hnm1)) <| Rl.q Qt.as <| Rl.nilK <| ?_
        refine T.sr <| Rl.q Qt.ld <| Rl.q Qt.nc <| Rl.q Qt.fa <| Rl.q (Qt.to (u := .map (some bM)) Qt.ld (hkids)) <| Rl.q Qt.mv <| Rl.q (Qt.to (u := Pt b1) (Qt.lk (hv := rfl)) (by rw [hg1]; rfl)) <| Rl.q Qt.as <| ?_
        refine Rl.nilK <| ?_
        refine T.sr <| Rl.q Qt.mv <| Rl.q Qt.mv <| Rl.q Qt.nc <| Rl.q Qt.fa <| Rl.q (Qt.ld (l := y1.cells) (e := 171) (fr := (0, 0)) (hb := by (rcases hT1 with ⟨e1, e2⟩ | ⟨e1, e2⟩ | htm; (rw [e1, e2]; infer_instance); (rw [e1, e2]; infer_instance); (haveI : InH [[(bA, .cells l.toArray 156 fr)], [(bM, .map (mE m) cM)], RC] b1 (IOb y1) := ⟨by simp [htm]⟩; infer_instance))) (hv := rfl)) <| Rl.q Qt.mv <| Rl.e (Ef.callC (S := wentry_s (s := { s with name := [], cur := Pt bD, dm := 9223372036854775807 }) (bN := bD) (x := x) (k := k) (cap := cap) (l := l) (fr := fr) (base := xs'.length) (ino := y1.num) (nm := nm) (xs := sti.1) (L := sti.2) (bT := b1) (y := y1) hdi hsi.2.1 hsi.1 hkl (by show sti.1.length + sti.2 + 300 ≤ s.max; omega) h3 rfl hfl hfl2 rfl hinA hk hki hkv hkm) (hr := by (rcases hT1 with ⟨e1, e2⟩ | ⟨e1, e2⟩ | htm; (rw [e1, e2]; infer_instance); (rw [e1, e2]; infer_instance); (haveI : InH [[(bA, .cells l.toArray 156 fr)], [(bM, .map (mE m) cM)], RC] b1 (IOb y1) := ⟨by simp [htm]⟩; infer_instance)))) fun r117 h117 => ?_
        refine Rl.q Qt.as <| Rl.nilK <| ?_
        refine T.sr <| Rl.q Qt.mv <| Rl.q Qt.ineNil <| Rl.nilK <| ?_
        refine T.condF ?_
        refine T.skip <| Ex.Bnormal <| Ex.K <| ?_
        refine T.region <| Rl.q (Qt.add (b := 1)) <| Rl.q Qt.mv <| Rl.nil <| ?_
        have hstn : entsD st2 ((ns.take (i + 1)).map (kidE Nf Kf)) = entStep (sti.1, sti.2) y1.num nm (kindN y1.mode) := by
          rw [List.take_add_one, hnm0, List.map_append, show (Option.some nm).toList = [nm] from rfl, List.map_singleton, entsD_snoc, ← hsti, hyn, hkk]; rfl
        rw [← hstn]
        exact Ex.next (i + 1, (r117.1, r117.2)) ⟨by omega, by rw [hstn]; exact h117⟩ (by show n - (i + 1) < n - i; omega) (.cons rfl <| .cons rfl <| .cons rfl <| .cons rfl <| .cons rfl <| .cons rfl <| .cons rfl <| .cons rfl <| .nil)
      · refine Rl.nilK <| ?_
        refine T.seq ?_
        refine T.condF ?_
        refine T.exit <| Ex.Kexit <| Ex.Lexit <| Ex.Bhit <| Ex.K <| ?_
        refine T.seq ?_
        obtain ⟨i, vi, Ei⟩ := z
        obtain ⟨hi, hdi⟩ := hz
        have hi : i ≤ n := hi
        have h102 : n ≤ i := h102
        obtain rfl : n = i := by omega
        obtain ⟨stF, hstF⟩ : ∃ st, st = entsD st2 (ns.map (kidE Nf Kf)) := ⟨_, rfl⟩
        rw [show ns.take n = ns by rw [← hnsl]; exact List.take_length] at hdi
        have hdF : DskOk vi Ei stF.1 := by rw [hstF]; exact hdi
        rw [show ns.take n = ns by rw [← hnsl]; exact List.take_length, ← hstF]
        have hsF0 := entsD_ok (st := st2) (l := ns.map (kidE Nf Kf)) hs2.1 (fun e he => by obtain ⟨q, hq, rfl⟩ := List.mem_map.1 he; exact (hlenk q (hnsm q hq)).2)
        rw [← hstF, List.length_map, hnsl] at hsF0
        have himul : n * 4400 = m.length * 4400 := by rw [hnm]
        have hsF : (12 ≤ stF.2 ∧ stF.2 ≤ 4096) ∧ xs'.length ≤ stF.1.length ∧ stF.1.length ≤ xs'.length + 8800 + m.length * 4400 := ⟨hsF0.1, by omega, by omega⟩
        refine T.sr <| Rl.q Qt.ld <| Rl.e (Ef.callC (S := fblock_s (s := { s with name := [], cur := Pt bD, dm := 9223372036854775807 }) (bN := bD) (x := x) (base := xs'.length) (xs := stF.1) (L := stF.2) hdF hsF.2.1 hsF.1 (by show stF.1.length + stF.2 ≤ s.max; omega) h3 rfl hfl hfl2 rfl)) fun r123 h123 => Rl.q Qt.as <| Rl.nilK <| ?_
        refine T.sr <| Rl.q Qt.mv <| Rl.q Qt.ineNil <| Rl.nilK <| ?_
        refine T.condF ?_
        refine T.skip <| Ex.K <| ?_
        refine T.sdr [10] ?_ mixed
        refine Dr.qs [0, 1, 2, 3, 4, 5, 6, 7, 8, 9] [] ?_
        refine Dq.q Qt.ld <| Dq.q Qt.nc <| Dq.q Qt.fa <| Dq.q Qt.ld <| Dq.q Qt.ld <| Dq.q Qt.nc <| Dq.q Qt.fa <| Dq.q Qt.ld <| ?_
        refine Dq.q Qt.nc <| Dq.q Qt.fa0 <| Dq.nil <| ?_
        refine Dr.e 10 <| Eo.e0 rfl Ef.st1 fun _ _ => Dr.nilK <| ?_
        refine T.sdr [7] ?_ mixed
        refine Dr.qs [0, 1, 2, 3, 4, 5, 6] [] ?_
        refine Dq.q Qt.ld <| Dq.q Qt.ld <| Dq.q Qt.nc <| Dq.q Qt.fa <| Dq.q Qt.ld <| Dq.q Qt.nc <| Dq.q Qt.fa <| Dq.nil <| ?_
        refine Dr.e 7 <| Eo.e0 rfl Ef.st1 fun _ _ => Dr.nilK <| ?_
        refine T.sr <| Rl.q (Qt.as (v := .nilIface)) <| Rl.nilK <| ?_
        refine T.ret <| Ex.ret1 (.inl rfl) rfl ?_ rfl
        have hzl := zrec_length (L := stF.2) (by omega)
        have hO : (dirOut xs' ((x.num, [46], kindN x.mode) :: (yp.num, [46, 46], kindN yp.mode) :: ns.map (kidE Nf Kf))) = stF.1 ++ (zrec stF.2).enc := by rw [hstF, hst2, hst1]; simp only [dirOut, entsD, List.foldl_cons]
        have hlen : (dirOut xs' ((x.num, [46], kindN x.mode) :: (yp.num, [46, 46], kindN yp.mode) :: ns.map (kidE Nf Kf))).length = stF.1.length + stF.2 := by rw [hO, List.length_append, hzl]
        rw [← hO] at h123
        rw [← hlen]
        exact fun w h => ⟨(r, (ns, r123)), ⟨hr.2, hnok, h123⟩, rfl, h.re⟩
end SL
end Go.Proofs.YtlmiekcmjpnobaaGreatDoor
