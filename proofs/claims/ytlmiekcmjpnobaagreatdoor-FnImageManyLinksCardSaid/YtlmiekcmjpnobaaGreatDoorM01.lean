/- Part 1 of the proof of the card of 'laws.FnImageManyLinks': it returns true at every input. No condition. Texts: SL SM SO SN SE SF SA SC SD. -/
import Derived.WalkKit
import Derived.Orders
import Derived.LoopN
namespace Go.Proofs.YtlmiekcmjpnobaaGreatDoor
open Go
namespace SL

/-! ### States -/
abbrev Env := List (Nat × Value)
abbrev Chunk := List (Nat × Obj)
abbrev Heap := List Chunk

def look : Env → Nat → Option Value
  | [], _ => none
  | (k, v) :: r, t => bif Nat.beq k t then some v else look r t

def ev (m : Env) : Operand → Option Value
  | .tmp t => look m t
  | .const v => some v
  | .global g => some (.pointer (some ⟨g, 0, none⟩))
  | .func f => some (.func (.func f) #[] #[])

def evs (m : Env) : List Operand → Option (List Value)
  | [] => some []
  | x :: xs => match ev m x, evs m xs with
    | some v, some vs => some (v :: vs)
    | _, _ => none

/-- What is known of the temporaries. -/
def Agree (m : Env) (a : Act) : Prop := ∀ t v, look m t = some v → a.tmps.getD t undef = v

structure St (n : Nat) (m : Env) (a : Act) : Prop where
  size : a.tmps.size = n
  nd : a.defers = []
  ag : Agree m a

theorem ev_sound {m : Env} {a : Act} (h : Agree m a) {x : Operand} {v : Value} (hx : ev m x = some v) : a.eval x = v := by
  cases x with
  | tmp t => exact h t v hx
  | const u => simpa [ev, Act.eval] using hx
  | global g => simpa [ev, Act.eval] using hx
  | func f => simpa [ev, Act.eval] using hx

theorem evs_sound {m : Env} {a : Act} (h : Agree m a) : ∀ {xs : List Operand} {vs : List Value}, evs m xs = some vs → xs.map a.eval = vs
  | [], vs, hx => by simpa [evs] using hx
  | x :: xs, vs, hx => by
    unfold evs at hx
    cases hv : ev m x with
    | none => simp [hv] at hx
    | some v =>
      cases hs : evs m xs with
      | none => simp [hv, hs] at hx
      | some us =>
        simp [hv, hs] at hx
        subst hx
        simp [ev_sound h hv, evs_sound h hs]

theorem look_cons_self (d : Nat) (v : Value) (m : Env) : look ((d, v) :: m) d = some v := by simp [look]

theorem St.put {n : Nat} {m : Env} {a : Act} (h : St n m a) {d : Nat} (hd : Nat.blt d n = true) (v : Value) : St n ((d, v) :: m) (a.put (some d) v) := by
  have hd' : d < n := by simpa [Nat.blt_eq] using hd
  refine ⟨by simp [Act.put, h.size], h.nd, fun t u hu => ?_⟩
  simp only [look] at hu
  cases hb : Nat.beq d t with
  | true =>
    have e : d = t := Nat.eq_of_beq_eq_true hb
    simp [hb] at hu
    subst e; subst hu
    simp [Act.put, h.size, hd']
  | false =>
    have e : d ≠ t := Nat.ne_of_beq_eq_false hb
    simp [hb] at hu
    have := h.ag t u hu
    simp only [Act.put, Array.getD_eq_getD_getElem?] at this ⊢
    rw [Array.getElem?_setIfInBounds_ne e]
    exact this

theorem St.put_none {n : Nat} {m : Env} {a : Act} (h : St n m a) (v : Value) : St n m (a.put none v) := h

/-! ### Worlds that only grow -/
structure Grow (w w' : World) : Prop where
  os : w'.os = w.os
  tape : w'.tape = w.tape
  output : w'.output = w.output
  size : w.heap.size ≤ w'.heap.size
  old : ∀ b, b < w.heap.size → w'.heap[b]? = w.heap[b]?

theorem Grow.refl (w : World) : Grow w w := ⟨rfl, rfl, rfl, Nat.le_refl _, fun _ _ => rfl⟩
theorem Grow.trans {a b c : World} (h : Grow a b) (k : Grow b c) : Grow a c :=
  ⟨k.os.trans h.os, k.tape.trans h.tape, k.output.trans h.output, Nat.le_trans h.size k.size,
   fun i hi => (k.old i (Nat.lt_of_lt_of_le hi h.size)).trans (h.old i hi)⟩
theorem Grow.draw (w : World) (n : Nat) : Grow w { w with drawn := n } := ⟨rfl, rfl, rfl, Nat.le_refl _, fun _ _ => rfl⟩
theorem Grow.keeps {w w' : World} (h : Grow w w') {b : Nat} {o : Obj} (hb : w.heap[b]? = some o) : w'.heap[b]? = some o := by
  rw [h.old b (Array.getElem?_eq_some_iff.1 hb).1, hb]

/-! ### What is known of memory -/
def Sub (H : Heap) (w : World) : Prop := ∀ p ∈ H.flatten, w.heap[p.1]? = some p.2

def keys (H : Heap) : List Nat := H.flatten.map (·.1)

/-- 'w0': the world in which the function was entered; 'K0': the blocks of w0 that it may write. -/
structure Gx where
  K0 : List Nat
  w0 : World

structure Hs (g : Gx) (Ro : Heap) (w : World) (H : Heap) : Prop where
  sub : Sub H w
  ro : Sub Ro w
  roold : ∀ p ∈ Ro.flatten, p.1 < g.w0.heap.size ∧ p.1 ∉ g.K0
  nodup : (keys H).Nodup
  own : ∀ p ∈ H.flatten, p.1 ∈ g.K0 ∨ g.w0.heap.size ≤ p.1
  old : ∀ b, b < g.w0.heap.size → b ∉ g.K0 → w.heap[b]? = g.w0.heap[b]?
  size : g.w0.heap.size ≤ w.heap.size
  os : w.os = g.w0.os
  tape : w.tape = g.w0.tape
  output : w.output = g.w0.output

theorem Hs.grow {g : Gx} {Ro : Heap} {w w' : World} {H : Heap} (h : Hs g Ro w H) (k : Grow w w') : Hs g Ro w' H :=
  ⟨fun p hp => k.keeps (h.sub p hp), fun p hp => k.keeps (h.ro p hp), h.roold, h.nodup, h.own,
   fun b hb hk => (k.old b (Nat.lt_of_lt_of_le hb h.size)).trans (h.old b hb hk), Nat.le_trans h.size k.size,
   k.os.trans h.os, k.tape.trans h.tape, k.output.trans h.output⟩

/-- A world with the known blocks at the head of a call. -/
theorem Hs.init {w : World} {H Ro : Heap} (hs : Sub H w) (hn : (keys H).Nodup) (hr : Sub Ro w) (hd : ∀ b ∈ keys Ro, b ∉ keys H) : Hs ⟨keys H, w⟩ Ro w H :=
  ⟨hs, hr, fun p hp => ⟨(Array.getElem?_eq_some_iff.1 (hr p hp)).1, hd _ (List.mem_map_of_mem hp)⟩, hn,
   fun _ hp => .inl (List.mem_map_of_mem hp), fun _ _ _ => rfl, Nat.le_refl _, rfl, rfl, rfl⟩

theorem mem_keys {H : Heap} {p : Nat × Obj} (h : p ∈ H.flatten) : p.1 ∈ keys H := List.mem_map_of_mem h

/-! ### Finding a block: by instances, the heap being written out -/
class InH (H : Heap) (b : Nat) (o : outParam Obj) : Prop where
  mem : (b, o) ∈ H.flatten
instance InH.tail {c : Chunk} {H : Heap} {b : Nat} {o : Obj} [h : InH H b o] : InH (c :: H) b o := ⟨by simpa using Or.inr (by simpa using h.mem)⟩
instance InH.head {H : Heap} {b : Nat} {o : Obj} : InH ([(b, o)] :: H) b o := ⟨by simp⟩
instance InH.app_nil {H : Heap} {b : Nat} {o : Obj} [h : InH H b o] : InH ([] ++ H) b o := h
instance InH.app_cons {c : Chunk} {A B : Heap} {b : Nat} {o : Obj} [h : InH (c :: (A ++ B)) b o] : InH ((c :: A) ++ B) b o := h
class InB (H Ro : Heap) (b : Nat) (o : outParam Obj) : Prop where
  mem : (b, o) ∈ H.flatten ∨ (b, o) ∈ Ro.flatten
instance (priority := low) InB.right {H Ro : Heap} {b : Nat} {o : Obj} [h : InH Ro b o] : InB H Ro b o := ⟨.inr h.mem⟩
instance InB.left {H Ro : Heap} {b : Nat} {o : Obj} [h : InH H b o] : InB H Ro b o := ⟨.inl h.mem⟩
theorem InB.at {H Ro : Heap} {b : Nat} {o : Obj} (h : InB H Ro b o) {w : World} (hs : Sub H w) (hr : Sub Ro w) : w.heap[b]? = some o := by
  rcases h.mem with h | h
  · exact hs _ h
  · exact hr _ h

/-- A block's contents are turned. -/
class UpH (H : Heap) (b : Nat) (o : outParam Obj) (o' : Obj) (H' : outParam Heap) : Prop where
  split : ∃ A B : Chunk, H.flatten = A ++ (b, o) :: B ∧ H'.flatten = A ++ (b, o') :: B
instance UpH.tail {c : Chunk} {H H' : Heap} {b : Nat} {o o' : Obj} [h : UpH H b o o' H'] : UpH (c :: H) b o o' (c :: H') := by
  obtain ⟨A, B, h1, h2⟩ := h.split
  exact ⟨⟨c ++ A, B, by simp [h1], by simp [h2]⟩⟩
instance UpH.head {H : Heap} {b : Nat} {o o' : Obj} : UpH ([(b, o)] :: H) b o o' ([(b, o')] :: H) := ⟨⟨[], H.flatten, by simp, by simp⟩⟩

theorem UpH.mem {H H' : Heap} {b : Nat} {o o' : Obj} (h : UpH H b o o' H') : (b, o) ∈ H.flatten := by
  obtain ⟨A, B, h1, _⟩ := h.split
  simp [h1]

/-- A world in which one known block has new contents. -/
theorem Hs.upd {g : Gx} {Ro : Heap} {w w' : World} {H H' : Heap} {b : Nat} {o o' : Obj} (h : Hs g Ro w H) (u : UpH H b o o' H')
    (hb : w'.heap[b]? = some o') (ho : ∀ k, k ≠ b → w'.heap[k]? = w.heap[k]?) (hsz : w'.heap.size = w.heap.size)
    (hos : w'.os = w.os) (ht : w'.tape = w.tape) (hout : w'.output = w.output) : Hs g Ro w' H' := by
  obtain ⟨A, B, h1, h2⟩ := u.split
  have hkeys : keys H' = keys H := by simp [keys, h1, h2]
  have hn := h.nodup
  rw [keys, h1] at hn
  simp only [List.map_append, List.map_cons, List.nodup_append, List.nodup_cons, List.mem_map, List.mem_cons] at hn
  have hown := h.own _ u.mem
  have hne : ∀ p ∈ Ro.flatten, p.1 ≠ b := by
    intro p hp e
    have := h.roold p hp
    rcases hown with h' | h'
    · exact this.2 (e ▸ h')
    · omega
  refine ⟨fun p hp => ?_, fun p hp => ?_, h.roold, hkeys ▸ h.nodup, fun p hp => ?_, fun k hk hk0 => ?_, ?_, hos.trans h.os, ht.trans h.tape, hout.trans h.output⟩
  · rw [h2] at hp
    rcases List.mem_append.1 hp with hA | hB
    · have : p.1 ≠ b := fun e => hn.2.2 p.1 ⟨p, hA, rfl⟩ b (.inl rfl) e
      rw [ho _ this]; exact h.sub p (by rw [h1]; exact List.mem_append_left _ hA)
    · rcases List.mem_cons.1 hB with e | hB
      · subst e; exact hb
      · have : p.1 ≠ b := fun e => hn.2.1.1 ⟨p, hB, e⟩
        rw [ho _ this]; exact h.sub p (by rw [h1]; exact List.mem_append_right _ (List.mem_cons_of_mem _ hB))
  · rw [ho _ (hne p hp)]; exact h.ro p hp
  · have : p.1 ∈ keys H' := mem_keys hp
    rw [hkeys] at this
    obtain ⟨q, hq, e⟩ := List.mem_map.1 this
    rw [← e]; exact h.own q hq
  · have : k ≠ b := by
      intro e
      rcases hown with h' | h'
      · exact hk0 (e ▸ h')
      · simp only at h'; omega
    rw [ho _ this]; exact h.old k hk hk0
  · rw [hsz]; exact h.size

/-- A world with a new block. -/
theorem Hs.new {g : Gx} {Ro : Heap} {w : World} {H : Heap} (h : Hs g Ro w H) (o : Obj) : Hs g Ro { w with heap := w.heap.push o } ([(w.heap.size, o)] :: H) := by
  have hlt : ∀ p ∈ H.flatten, p.1 < w.heap.size := fun p hp => (Array.getElem?_eq_some_iff.1 (h.sub p hp)).1
  have hold : ∀ k, k < w.heap.size → (w.heap.push o)[k]? = w.heap[k]? := fun k hk => by rw [Array.getElem?_push, if_neg (by omega)]
  refine ⟨fun p hp => ?_, fun p hp => ?_, h.roold, ?_, fun p hp => ?_, fun k hk hk0 => ?_, ?_, h.os, h.tape, h.output⟩
  · rcases List.mem_cons.1 (show p ∈ (w.heap.size, o) :: H.flatten from hp) with e | hp'
    · subst e; simp
    · rw [hold _ (hlt p hp')]; exact h.sub p hp'
  · rw [hold _ (Array.getElem?_eq_some_iff.1 (h.ro p hp)).1]; exact h.ro p hp
  · simp only [keys, List.flatten_cons, List.singleton_append, List.map_cons, List.nodup_cons]
    refine ⟨fun hm => ?_, h.nodup⟩
    obtain ⟨q, hq, e⟩ := List.mem_map.1 hm
    have := hlt q hq
    omega
  · rcases List.mem_cons.1 (show p ∈ (w.heap.size, o) :: H.flatten from hp) with e | hp'
    · subst e; exact .inr h.size
    · exact h.own p hp'
  · rw [hold _ (Nat.lt_of_lt_of_le hk h.size)]; exact h.old k hk hk0
  · simp only [Array.size_push]; have := h.size; omega

/-- Some known blocks are forgotten, or stand in another order. -/
theorem Hs.drop {g : Gx} {Ro : Heap} {w : World} {H H' X : Heap} (h : Hs g Ro w H) (hp : (H'.flatten ++ X.flatten).Perm H.flatten) : Hs g Ro w H' := by
  have hm : ∀ p ∈ H'.flatten, p ∈ H.flatten := fun p hp' => hp.mem_iff.1 (List.mem_append_left _ hp')
  refine ⟨fun p hp' => h.sub p (hm p hp'), h.ro, h.roold, ?_, fun p hp' => h.own p (hm p hp'), h.old, h.size, h.os, h.tape, h.output⟩
  have := (hp.map (fun p : Nat × Obj => p.1)).nodup_iff.2 h.nodup
  simp only [List.map_append] at this
  exact (List.nodup_append.1 this).1
end SL
end Go.Proofs.YtlmiekcmjpnobaaGreatDoor
namespace Go.Proofs.YtlmiekcmjpnobaaGreatDoor
open Go
namespace SL
variable {P : Program} {n : Nat} {g : Gx} {Ro : Heap}

/-! ### Code -/
abbrev Post := Exit → Act → World → Prop
def T (P : Program) (n : Nat) (g : Gx) (Ro : Heap) (c : Code) (m : Env) (H : Heap) (Q : Post) : Prop :=
  ∀ a w, St n m a → Hs g Ro w H → c.wp P Q a w
def Ex (n : Nat) (g : Gx) (Ro : Heap) (e : Exit) (m : Env) (H : Heap) (Q : Post) : Prop :=
  ∀ a w, St n m a → Hs g Ro w H → Q e a w
/-- What stands behind a piece of code. -/
def K (P : Program) (c : Code) (Q : Post) : Post := Exit.then (fun a w => c.wp P Q a w) Q

section
variable {m : Env} {H : Heap} {Q : Post} {c c1 c2 : Code} {id : Nat}
theorem T.seq (h : T P n g Ro c1 m H (K P c2 Q)) : T P n g Ro (.seq c1 c2) m H Q := fun a w hs hh => wp_seq (h a w hs hh)
theorem T.skip (h : Ex n g Ro .normal m H Q) : T P n g Ro .skip m H Q := fun a w hs hh => wp_skip (h a w hs hh)
theorem T.exit (h : Ex n g Ro (.exit id) m H Q) : T P n g Ro (.exit id) m H Q := fun a w hs hh => wp_exit (h a w hs hh)
theorem T.ret (h : Ex n g Ro .ret m H Q) : T P n g Ro .ret m H Q := fun a w hs hh => wp_ret (h a w hs hh)
theorem T.block (h : T P n g Ro c m H (Exit.inBlock id Q)) : T P n g Ro (.block id c) m H Q := fun a w hs hh => wp_block (h a w hs hh)
theorem T.condT {x : Operand} (h : T P n g Ro c1 m H Q) (hx : ev m x = some (.bool true) := by rfl) : T P n g Ro (.cond x c1 c2) m H Q :=
  fun a w hs hh => wp_cond_true (ev_sound hs.ag hx) (h a w hs hh)
theorem T.condF {x : Operand} (h : T P n g Ro c2 m H Q) (hx : ev m x = some (.bool false) := by rfl) : T P n g Ro (.cond x c1 c2) m H Q :=
  fun a w hs hh => wp_cond_false (ev_sound hs.ag hx) (h a w hs hh)
theorem Ex.K (h : T P n g Ro c m H Q) : Ex n g Ro .normal m H (K P c Q) := h
theorem Ex.Kret (h : Ex n g Ro .ret m H Q) : Ex n g Ro .ret m H (SL.K P c Q) := h
theorem Ex.Kexit (h : Ex n g Ro (.exit id) m H Q) : Ex n g Ro (.exit id) m H (SL.K P c Q) := h
theorem Ex.Bnormal (h : Ex n g Ro .normal m H Q) : Ex n g Ro .normal m H (Exit.inBlock id Q) := h
theorem Ex.Bret (h : Ex n g Ro .ret m H Q) : Ex n g Ro .ret m H (Exit.inBlock id Q) := h
theorem Ex.Bhit (h : Ex n g Ro .normal m H Q) : Ex n g Ro (.exit id) m H (Exit.inBlock id Q) := fun a w hs hh => by
  simp only [Exit.inBlock, if_true]; exact h a w hs hh
theorem Ex.Bmiss {id' : Nat} (h : Ex n g Ro (.exit id') m H Q) (hne : id' ≠ id := by decide) : Ex n g Ro (.exit id') m H (Exit.inBlock id Q) := fun a w hs hh => by
  simp only [Exit.inBlock, hne, if_false]; exact h a w hs hh
end

/-! ### Forgetting -/
inductive Sel (m : Env) : Env → Prop
  | nil : Sel m []
  | cons {k : Nat} {v : Value} {m' : Env} : look m k = some v → Sel m m' → Sel m ((k, v) :: m')
theorem Sel.look {m m' : Env} (h : Sel m m') : ∀ t v, look m' t = some v → SL.look m t = some v := by
  induction h with
  | nil => intro t v h; simp [SL.look] at h
  | @cons k v m' hk _ ih =>
    intro t u hu
    simp only [SL.look] at hu
    cases hb : Nat.beq k t with
    | true =>
      simp [hb] at hu
      have := Nat.eq_of_beq_eq_true hb
      subst this; subst hu; exact hk
    | false => simp [hb] at hu; exact ih t u hu
theorem St.sel {m m' : Env} {a : Act} (h : St n m a) (s : Sel m m') : St n m' a := ⟨h.size, h.nd, fun t v hv => h.ag t v (s.look t v hv)⟩

/-- Picking chunks out of a heap: 'Pk H A B': the chunks A, then B, are those of H. -/
inductive Rem : Heap → Chunk → Heap → Prop
  | here {c : Chunk} {H : Heap} : Rem (c :: H) c H
  | there {c d : Chunk} {H H' : Heap} : Rem H c H' → Rem (d :: H) c (d :: H')
inductive Pk : Heap → Heap → Heap → Prop
  | nil {H : Heap} : Pk H [] H
  | cons {H H' A B : Heap} {c : Chunk} : Rem H c H' → Pk H' A B → Pk H (c :: A) B
theorem Rem.perm {H H' : Heap} {c : Chunk} (h : Rem H c H') : (c ++ H'.flatten).Perm H.flatten := by
  induction h with
  | here => simp
  | there _ ih =>
    rename_i c d H H' _
    simp only [List.flatten_cons]
    rw [← List.append_assoc]
    refine (List.perm_append_comm.append_right _).trans ?_
    rw [List.append_assoc]
    exact ih.append_left _
theorem Pk.perm {H A B : Heap} (h : Pk H A B) : (A.flatten ++ B.flatten).Perm H.flatten := by
  induction h with
  | nil => simp
  | cons hr _ ih =>
    simp only [List.flatten_cons, List.append_assoc]
    exact (ih.append_left _).trans hr.perm
theorem Hs.pick {w : World} {H A B : Heap} (h : Hs g Ro w H) (p : Pk H A B) : Hs g Ro w A := h.drop (X := B) p.perm
theorem Hs.re {w : World} {H A X : Heap} (h : Hs g Ro w H) (p : Pk H A X := by (repeat first | exact Pk.nil | apply Pk.cons | exact Rem.here | apply Rem.there)) : Hs g Ro w A := h.pick p
theorem Hs.perm {w : World} {H A : Heap} (h : Hs g Ro w H) (p : A.flatten.Perm H.flatten) : Hs g Ro w A := h.drop (X := []) (by simpa using p)

theorem T.weak {c : Code} {m m' : Env} {H H' X : Heap} {Q : Post} (h : T P n g Ro c m' H' Q) (s : Sel m m') (p : Pk H H' X) : T P n g Ro c m H Q :=
  fun a w hs hh => h a w (hs.sel s) (hh.pick p)
theorem T.wk {c : Code} {m m' : Env} {H : Heap} {Q : Post} (h : T P n g Ro c m' H Q) (s : Sel m m') : T P n g Ro c m H Q :=
  fun a w hs hh => h a w (hs.sel s) hh
theorem T.wkH {c : Code} {m : Env} {H H' X : Heap} {Q : Post} (h : T P n g Ro c m H' Q) (p : Pk H H' X) : T P n g Ro c m H Q :=
  fun a w hs hh => h a w hs (hh.pick p)
theorem Ex.weak {e : Exit} {m m' : Env} {H H' X : Heap} {Q : Post} (h : Ex n g Ro e m' H' Q) (s : Sel m m') (p : Pk H H' X) : Ex n g Ro e m H Q :=
  fun a w hs hh => h a w (hs.sel s) (hh.pick p)

/-- The ways through 'x' meet again ahead of 'z'. -/
def J {α : Type} (n : Nat) (g : Gx) (Ro : Heap) (mj : α → Env) (Hj : α → Heap) (φ : α → Prop) (Q : Post) : Post :=
  Exit.then (fun a w => ∃ y, φ y ∧ St n (mj y) a ∧ Hs g Ro w (Hj y)) Q
theorem T.join {α : Type} (mj : α → Env) (Hj : α → Heap) (φ : α → Prop) {x z : Code} {m : Env} {H : Heap} {Q : Post}
    (h1 : T P n g Ro x m H (J n g Ro mj Hj φ Q)) (h2 : ∀ y, φ y → T P n g Ro z (mj y) (Hj y) Q) : T P n g Ro (.seq x z) m H Q :=
  fun a w hs hh => wp_seq (wp_mono (h1 a w hs hh) fun e a w hq => by
    cases e with
    | normal => obtain ⟨y, hy, hs', hh'⟩ := hq; exact h2 y hy a w hs' hh'
    | _ => exact hq)
theorem Ex.join {α : Type} {mj : α → Env} {Hj : α → Heap} {φ : α → Prop} {m : Env} {H X : Heap} {Q : Post} (y : α) (hy : φ y)
    (s : Sel m (mj y)) (p : Pk H (Hj y) X := by (repeat first | exact Pk.nil | apply Pk.cons | exact Rem.here | apply Rem.there)) : Ex n g Ro .normal m H (J n g Ro mj Hj φ Q) := fun _ _ hs hh => ⟨y, hy, hs.sel s, hh.pick p⟩
theorem Ex.Jret {α : Type} {mj : α → Env} {Hj : α → Heap} {φ : α → Prop} {m : Env} {H : Heap} {Q : Post} (h : Ex n g Ro .ret m H Q) :
    Ex n g Ro .ret m H (J n g Ro mj Hj φ Q) := h
theorem Ex.Jexit {α : Type} {mj : α → Env} {Hj : α → Heap} {φ : α → Prop} {m : Env} {H : Heap} {Q : Post} {id : Nat} (h : Ex n g Ro (.exit id) m H Q) :
    Ex n g Ro (.exit id) m H (J n g Ro mj Hj φ Q) := h

/-- A loop. -/
def L {α : Type} (n : Nat) (g : Gx) (Ro : Heap) (mf : α → Env) (Hf : α → Heap) (φ : α → Prop) (μ : α → Nat) (x : α) (Q : Post) : Post :=
  Exit.then (fun a w => ∃ y, φ y ∧ μ y < μ x ∧ St n (mf y) a ∧ Hs g Ro w (Hf y)) Q
theorem T.loop {α : Type} (mf : α → Env) (Hf : α → Heap) (φ : α → Prop) (μ : α → Nat) {c : Code} {m : Env} {H X : Heap} {Q : Post}
    (x0 : α) (h0 : φ x0) (s : Sel m (mf x0))
    (round : ∀ x, φ x → T P n g Ro c (mf x) (Hf x) (L n g Ro mf Hf φ μ x Q)) (p : Pk H (Hf x0) X := by (repeat first | exact Pk.nil | apply Pk.cons | exact Rem.here | apply Rem.there)) : T P n g Ro (.loop c) m H Q := by
  intro a w hs hh b kk cs
  have key : ∀ k x a w, μ x = k → φ x → St n (mf x) a → Hs g Ro w (Hf x) →
      ∃ e a' w', Q e a' w' ∧ Arrives P (lone (b.at a (.code c :: .inLoop c :: kk)) cs w) b kk cs e a' w' := by
    intro k
    induction k using Nat.strongRecOn with
    | _ k ih =>
      intro x a w hk hx hs hh
      obtain ⟨e, a₁, w₁, hq, harr⟩ := round x hx a w hs hh b (.inLoop c :: kk) cs
      cases e with
      | normal =>
        obtain ⟨y, hy, hlt, hs', hh'⟩ := hq
        obtain ⟨e₂, a₂, w₂, hq₂, harr₂⟩ := ih (μ y) (hk ▸ hlt) y a₁ w₁ rfl hy hs' hh'
        exact ⟨e₂, a₂, w₂, hq₂, .of_steps (Steps.trans harr (.one step_inLoop)) harr₂⟩
      | exit id => exact ⟨_, a₁, w₁, hq, .pass (x := .inLoop c) rfl (fun _ _ => .inl (by simp)) harr⟩
      | goto l => exact ⟨_, a₁, w₁, hq, .pass (x := .inLoop c) rfl (fun _ _ => .inl (by simp)) harr⟩
      | ret => exact ⟨_, a₁, w₁, hq, .pass (x := .inLoop c) rfl (fun _ _ => .inl (by simp)) harr⟩
      | panic ch => exact ⟨_, a₁, w₁, hq, .pass (x := .inLoop c) rfl (fun _ _ => .inl (by simp)) harr⟩
      | outgrown => exact ⟨_, a₁, w₁, hq, .pass (x := .inLoop c) rfl (fun _ _ => .inl (by simp)) harr⟩
  obtain ⟨e, a', w', hq, harr⟩ := key _ x0 a w rfl h0 (hs.sel s) (hh.pick p)
  exact ⟨e, a', w', hq, .of_steps (.one step_loop) harr⟩
theorem Ex.next {α : Type} {mf : α → Env} {Hf : α → Heap} {φ : α → Prop} {μ : α → Nat} {x : α} {m : Env} {H X : Heap} {Q : Post} (y : α) (hy : φ y) (hlt : μ y < μ x)
    (s : Sel m (mf y)) (p : Pk H (Hf y) X := by (repeat first | exact Pk.nil | apply Pk.cons | exact Rem.here | apply Rem.there)) : Ex n g Ro .normal m H (L n g Ro mf Hf φ μ x Q) := fun _ _ hs hh => ⟨y, hy, hlt, hs.sel s, hh.pick p⟩
theorem Ex.Lret {α : Type} {mf : α → Env} {Hf : α → Heap} {φ : α → Prop} {μ : α → Nat} {x : α} {m : Env} {H : Heap} {Q : Post} (h : Ex n g Ro .ret m H Q) :
    Ex n g Ro .ret m H (L n g Ro mf Hf φ μ x Q) := h
theorem Ex.Lexit {α : Type} {mf : α → Env} {Hf : α → Heap} {φ : α → Prop} {μ : α → Nat} {x : α} {m : Env} {H : Heap} {Q : Post} {id : Nat} (h : Ex n g Ro (.exit id) m H Q) :
    Ex n g Ro (.exit id) m H (L n g Ro mf Hf φ μ x Q) := h

/-- A loop of some rounds that are walked one by one: k more are allowed. -/
def LR (P : Program) (c : Code) (Q : Post) (k : Nat) : Post := Exit.then (Code.rounds P c Q k) Q
theorem T.rounds {c : Code} {m : Env} {H : Heap} {Q : Post} (k : Nat) (h : T P n g Ro c m H (LR P c Q k)) : T P n g Ro (.loop c) m H Q :=
  fun a w hs hh => wp_loop_rounds (k + 1) (h a w hs hh)
theorem Ex.LR {c : Code} {m : Env} {H : Heap} {Q : Post} {k : Nat} (h : T P n g Ro c m H (SL.LR P c Q k)) : Ex n g Ro .normal m H (SL.LR P c Q (k + 1)) :=
  fun a w hs hh => h a w hs hh
theorem Ex.Rret {c : Code} {m : Env} {H : Heap} {Q : Post} {k : Nat} (h : Ex n g Ro .ret m H Q) : Ex n g Ro .ret m H (SL.LR P c Q k) := h
theorem Ex.Rexit {c : Code} {m : Env} {H : Heap} {Q : Post} {k id : Nat} (h : Ex n g Ro (.exit id) m H Q) : Ex n g Ro (.exit id) m H (SL.LR P c Q k) := h

/-! ### Functions -/
def Spec (P : Program) (f : FuncId) {α : Type} (args : List Value) (Ro Hp : Heap) (φ : α → Prop) (ret : α → Value) (Hq : α → Heap) : Prop :=
  ∀ w, Sub Hp w → Sub Ro w → (keys Hp).Nodup → (∀ b ∈ keys Ro, b ∉ keys Hp) →
    Calls P f args.toArray w (fun e w' => ∃ x, φ x ∧ e = .returned (ret x) ∧ Hs ⟨keys Hp, w⟩ Ro w' (Hq x))
/-- A function that writes nothing that was there. -/
def QSpec (P : Program) (f : FuncId) (args : List Value) (Ro : Heap) (v : Value) : Prop :=
  ∀ w, Sub Ro w → Calls P f args.toArray w (fun e w' => e = .returned v ∧ Grow w w')
def number : Nat → List Value → Env
  | _, [] => []
  | k, v :: vs => (k, v) :: number (k + 1) vs
theorem look_number : ∀ (vs : List Value) (k t : Nat) (v : Value), look (number k vs) t = some v → ∃ i, t = k + i ∧ vs[i]? = some v
  | [], _, _, _, h => by simp [number, look] at h
  | u :: us, k, t, v, h => by
    simp only [number, look] at h
    cases hb : Nat.beq k t with
    | true => simp [hb] at h; exact ⟨0, (Nat.eq_of_beq_eq_true hb).symm, by simp [h]⟩
    | false =>
      simp [hb] at h
      obtain ⟨i, e, hi⟩ := look_number us (k + 1) t v h
      exact ⟨i + 1, by omega, by simpa using hi⟩
theorem St.enter (vs : List Value) (n : Nat) (h : vs.length ≤ n) : St n (number 0 vs) { tmps := vs.toArray ++ Array.replicate (n - vs.toArray.size) undef, defers := [] } := by
  refine ⟨by simp; omega, rfl, fun t v hv => ?_⟩
  obtain ⟨i, e, hi⟩ := look_number vs 0 t v hv
  simp only [Nat.zero_add] at e
  subst e
  obtain ⟨hlt, e⟩ := List.getElem?_eq_some_iff.1 hi
  simp [Array.getElem?_append, hlt, e]
theorem calls_of_T {f : FuncId} {fn : Func} {c : Code} {vs : List Value} {w : World} {R : Ending → World → Prop} {H : Heap}
    (hf : P.funcs[f]? = some fn) (hb : fn.body = some c) (hn : fn.ntmps = n) (hl : vs.length ≤ n)
    (hg : Hs g Ro w H) (h : T P n g Ro c (number 0 vs) H (bodyPost P fn R)) : Calls P f vs.toArray w R :=
  calls_of_wp hf hb (h _ w (by rw [hn]; exact St.enter vs n hl) hg)
theorem Spec.of {f : FuncId} {fn : Func} {c : Code} {α : Type} {vs : List Value} {Hp : Heap} {φ : α → Prop} {ret : α → Value} {Hq : α → Heap}
    (hf : P.funcs[f]? = some fn) (hb : fn.body = some c) (hn : fn.ntmps = n) (hl : vs.length ≤ n)
    (h : ∀ w, T P n ⟨keys Hp, w⟩ Ro c (number 0 vs) Hp (bodyPost P fn fun e w' => ∃ x, φ x ∧ e = .returned (ret x) ∧ Hs ⟨keys Hp, w⟩ Ro w' (Hq x))) :
    Spec P f vs Ro Hp φ ret Hq := fun w hs hr hnd hd => calls_of_T hf hb hn hl (Hs.init hs hnd hr hd) (h w)
theorem Hs.grown {w0 w : World} {H : Heap} (h : Hs ⟨[], w0⟩ Ro w H) : Grow w0 w :=
  ⟨h.os, h.tape, h.output, h.size, fun b hb => h.old b hb (by simp)⟩
theorem QSpec.of {f : FuncId} {fn : Func} {c : Code} {vs : List Value} {v : Value}
    (hf : P.funcs[f]? = some fn) (hb : fn.body = some c) (hn : fn.ntmps = n) (hl : vs.length ≤ n)
    (h : ∀ w, T P n ⟨[], w⟩ Ro c (number 0 vs) [] (bodyPost P fn fun e w' => e = .returned v ∧ Grow w w')) : QSpec P f vs Ro v :=
  fun w hr => calls_of_T hf hb hn hl (Hs.init (H := []) (by simp [Sub]) (by simp [keys]) hr (by simp [keys])) (h w)

section
variable {m : Env} {H : Heap} {fn : Func} {R : Ending → World → Prop}
theorem Ex.ret0 {e : Exit} (he : e = .ret ∨ e = .normal) (h : ∀ w, Hs g Ro w H → R (.returned (.tuple #[])) w) (hr : fn.results = #[]) : Ex n g Ro e m H (bodyPost P fn R) := by
  intro a w hs hh
  rcases he with rfl | rfl <;> exact ⟨hs.nd, _, results_none hr _ _ _, h w hh⟩
theorem Ex.ret1 {e : Exit} (he : e = .ret ∨ e = .normal) {t : Nat} {v : Value} (hv : look m t = some v) (h : ∀ w, Hs g Ro w H → R (.returned v) w) (hr : fn.results = #[.tmp t]) :
    Ex n g Ro e m H (bodyPost P fn R) := by
  intro a w hs hh
  have := hs.ag t v hv
  rcases he with rfl | rfl <;> exact ⟨hs.nd, _, by rw [results_tmp hr, this], h w hh⟩
theorem Ex.ret2 {e : Exit} (he : e = .ret ∨ e = .normal) {t u : Nat} {v x : Value} (hv : look m t = some v) (hx : look m u = some x)
    (h : ∀ w, Hs g Ro w H → R (.returned (.tuple #[v, x])) w) (hr : fn.results = #[.tmp t, .tmp u]) : Ex n g Ro e m H (bodyPost P fn R) := by
  intro a w hs hh
  have h1 := hs.ag t v hv
  have h2 := hs.ag u x hx
  rcases he with rfl | rfl <;> exact ⟨hs.nd, _, by rw [results_tmp2 hr, h1, h2], h w hh⟩
theorem results_tmp3 {fn : Func} {t u s : Tmp} (h : fn.results = #[.tmp t, .tmp u, .tmp s]) (tmps : Array Value) (P : Program) (w : World) :
    (results fn tmps).run P w = .ok (.tuple #[tmps.getD t undef, tmps.getD u undef, tmps.getD s undef]) w := by
  simp [results, h]
theorem results_tmp4 {fn : Func} {t u s r : Tmp} (h : fn.results = #[.tmp t, .tmp u, .tmp s, .tmp r]) (tmps : Array Value) (P : Program) (w : World) :
    (results fn tmps).run P w = .ok (.tuple #[tmps.getD t undef, tmps.getD u undef, tmps.getD s undef, tmps.getD r undef]) w := by
  simp [results, h]
theorem Ex.ret3 {e : Exit} (he : e = .ret ∨ e = .normal) {t u s : Nat} {v x y : Value} (hv : look m t = some v) (hx : look m u = some x) (hy : look m s = some y)
    (h : ∀ w, Hs g Ro w H → R (.returned (.tuple #[v, x, y])) w) (hr : fn.results = #[.tmp t, .tmp u, .tmp s]) : Ex n g Ro e m H (bodyPost P fn R) := by
  intro a w hs hh
  have h1 := hs.ag t v hv
  have h2 := hs.ag u x hx
  have h3 := hs.ag s y hy
  rcases he with rfl | rfl <;> exact ⟨hs.nd, _, by rw [results_tmp3 hr, h1, h2, h3], h w hh⟩
theorem Ex.ret4 {e : Exit} (he : e = .ret ∨ e = .normal) {t u s r : Nat} {v x y z : Value} (hv : look m t = some v) (hx : look m u = some x) (hy : look m s = some y) (hz : look m r = some z)
    (h : ∀ w, Hs g Ro w H → R (.returned (.tuple #[v, x, y, z])) w) (hr : fn.results = #[.tmp t, .tmp u, .tmp s, .tmp r]) : Ex n g Ro e m H (bodyPost P fn R) := by
  intro a w hs hh
  have h1 := hs.ag t v hv
  have h2 := hs.ag u x hx
  have h3 := hs.ag s y hy
  have h4 := hs.ag r z hz
  rcases he with rfl | rfl <;> exact ⟨hs.nd, _, by rw [results_tmp4 hr, h1, h2, h3, h4], h w hh⟩
end
end SL
end Go.Proofs.YtlmiekcmjpnobaaGreatDoor
namespace Go.Proofs.YtlmiekcmjpnobaaGreatDoor
open Go
namespace SL
variable {P : Program} {n : Nat} {g : Gx} {Ro : Heap}

/-- A list of operations, carried out in its order. -/
def Rl (P : Program) (n : Nat) (g : Gx) (Ro : Heap) (ops : Array Oper) (Q : Post) (l : List Oper) (m : Env) (H : Heap) : Prop :=
  ∀ a w, St n m a → Hs g Ro w H → wpList P ops Q l a w

/-- An operation that yields v and leaves the world alone, wherever these temporaries and these blocks are known. -/
def Qt (P : Program) (op : Op) (ty : TypeId) (m : Env) (H Ro : Heap) (v : Value) : Prop :=
  ∀ a w d ps af gd, Agree m a → Sub H w → Sub Ro w → (execOp a.eval ⟨d, op, ty, ps, af, gd⟩).run P w = .ok (.value v) w

section
variable {ops : Array Oper} {Q : Post} {m : Env} {H : Heap} {rest l : List Oper} {d j : Nat} {op : Op} {ty : TypeId} {ps : String} {af : Array Edge} {v : Value} {id : Nat} {c : Code}

theorem T.region (h : Rl P n g Ro l.toArray Q l m H) : T P n g Ro (.region id l.toArray false) m H Q := fun a w hs hh => wp_region_lit (h a w hs hh)
theorem T.sr (h : Rl P n g Ro l.toArray (K P c Q) l m H) : T P n g Ro (.seq (.region id l.toArray false) c) m H Q := T.seq (T.region h)
theorem Rl.nil (h : Ex n g Ro .normal m H Q) : Rl P n g Ro ops Q [] m H := fun a w hs hh => wpList_nil (h a w hs hh)
theorem Rl.nilK (h : T P n g Ro c m H Q) : Rl P n g Ro ops (K P c Q) [] m H := fun a w hs hh => wpList_nil (h a w hs hh)
theorem Rl.q (hq : Qt P op ty m H Ro v) (k : Rl P n g Ro ops Q rest ((d, v) :: m) H) (hd : Nat.blt d n = true := by rfl) :
    Rl P n g Ro ops Q (⟨some d, op, ty, ps, af, none⟩ :: rest) m H := fun a w hs hh =>
  wpList_plain rfl fun K' hK => by
    unfold Oper.wp
    rw [hq a w _ _ _ _ hs.ag hh.sub hh.ro]
    exact hK _ _ (k _ w (hs.put hd v) hh)
/-- A guarded operation. -/
def guardOn (ops : Array Oper) (m : Env) (j : Nat) : Option Value := ((ops[j]?).bind (·.dst)).bind (look m)
theorem wanted_of {a : Act} {b want : Bool} {o : Oper} (ha : Agree m a) (hg : guardOn ops m j = some (.bool b)) (ho : o.guard = some (j, want)) :
    Region.wanted o (yielded ops a.tmps) = (b == want) := by
  unfold guardOn at hg
  unfold Region.wanted yielded
  simp only [ho]
  cases hd : (ops[j]?).bind (·.dst) with
  | none => simp [hd] at hg
  | some t =>
    simp [hd] at hg
    have := ha t _ hg
    simp only [Option.bind_some]
    have h2 : a.tmps[t]? = some (.bool b) := by
      simp only [Array.getD_eq_getD_getElem?] at this
      cases h : a.tmps[t]? with
      | none => rw [h] at this; simp [undef] at this
      | some u => rw [h] at this; simpa using this
    rw [h2]
    cases b <;> cases want <;> rfl
theorem Rl.gt {b : Bool} (k : Rl P n g Ro ops Q (⟨some d, op, ty, ps, af, none⟩ :: rest) m H) (hg : guardOn ops m j = some (.bool b) := by rfl) :
    Rl P n g Ro ops Q (⟨some d, op, ty, ps, af, some (j, b)⟩ :: rest) m H := fun a w hs hh => by
  have := k a w hs hh
  unfold wpList at this ⊢
  rw [if_pos (by simp [Region.wanted])] at this
  rw [if_pos (by rw [wanted_of hs.ag hg rfl]; simp)]
  exact this
theorem Rl.gf {b b' : Bool} (k : Rl P n g Ro ops Q rest m H) (hg : guardOn ops m j = some (.bool b') := by rfl) (hb : b' ≠ b := by decide) (hd : (look m d).isNone = true := by rfl) :
    Rl P n g Ro ops Q (⟨some d, op, ty, ps, af, some (j, b)⟩ :: rest) m H := fun a w hs hh => by
  unfold wpList
  rw [if_neg (by rw [wanted_of hs.ag hg rfl]; simpa using hb)]
  refine k _ w ⟨by simp [Act.put, hs.size], hs.nd, fun t v hv => ?_⟩ hh
  have hne : d ≠ t := fun e => by subst e; rw [hv] at hd; simp at hd
  have := hs.ag t v hv
  simp only [Act.put, Array.getD_eq_getD_getElem?] at this ⊢
  rw [Array.getElem?_setIfInBounds_ne hne]
  exact this
end

/-! ### Facts on types, as instances -/
class SizeOf (P : Program) (t : TypeId) (k : outParam Nat) : Prop where
  run : ∀ w, (sizeOf t).run P w = .ok k w
class One (P : Program) (t : TypeId) : Prop where
  agg : ∀ w, (isAgg t).run P w = .ok false w
  size : ∀ w, (sizeOf t).run P w = .ok 1 w
class Agg (P : Program) (t : TypeId) (k : outParam Nat) : Prop where
  agg : ∀ w, (isAgg t).run P w = .ok true w
  size : ∀ w, (sizeOf t).run P w = .ok k w
class SlT (P : Program) (t : TypeId) (e sz : outParam Nat) : Prop where
  und : ∀ w, (underlying t).run P w = .ok (.slice e) w
  size : ∀ w, (sizeOf e).run P w = .ok sz w
class ArT (P : Program) (t : TypeId) (k e sz : outParam Nat) : Prop where
  und : ∀ w, (underlying t).run P w = .ok (.array k e) w
  size : ∀ w, (sizeOf e).run P w = .ok sz w
class IntT (P : Program) (t : TypeId) (k : outParam IntKind) : Prop where
  und : ∀ w, (underlying t).run P w = .ok (.int k) w
class Zero (P : Program) (t : TypeId) (v : outParam Value) : Prop where
  run : ∀ w, (zeroValue t).run P w = .ok v w
class Fld (P : Program) (s f : Nat) (k : outParam Nat) : Prop where
  run : ∀ (b o : Nat) w, (Instr.fieldAt s (.pointer (some ⟨b, o, none⟩)) f).run P w = .ok (.pointer (some ⟨b, o + k, none⟩)) w
class CallOk (P : Program) (f : FuncId) : Prop where
  run : ∀ (args : Array Value) w, (callFunc f args).run P w = .ok (.enter f args) w
theorem addr_add (b o k : Nat) : (⟨b, o, none⟩ : Addr).add k = ⟨b, o + k, none⟩ := by
  unfold Addr.add
  split
  · rename_i h; subst h; rfl
  · rfl
theorem Fld.of {s f k z : Nat} {fs : Array Field} {fd : Field} (hu : ∀ w, (underlying s).run P w = .ok (.struct fs) w) (hf : fs[f]? = some fd) (hk : fd.offset = k)
    (hz : ∀ w, (sizeOf fd.type).run P w = .ok (z + 1) w) : Fld P s f k := ⟨fun b o w => by
  simp [Instr.fieldAt, hu, hf, Instr.sureAddr, fieldPlace, hz, hk, addr_add]⟩

/-! ### Operations that only compute -/
section
variable {m : Env} {H : Heap} {ty : TypeId} {x y z : Operand} {v u : Value}
theorem Qt.mv (hx : ev m x = some v := by rfl) : Qt P (.move x) ty m H Ro v := fun a w d ps af gd ha _ _ => by simp [execOp, ev_sound ha hx]
theorem Qt.as (hx : ev m x = some v := by rfl) : Qt P (.assign x) ty m H Ro v := fun a w d ps af gd ha _ _ => by simp [execOp, ev_sound ha hx]
theorem Qt.pkT (hx : ev m x = some (.bool true) := by rfl) (hy : ev m y = some v := by rfl) : Qt P (.pick x y z) ty m H Ro v := fun a w d ps af gd ha _ _ => by
  simp [execOp, ev_sound ha hx, ev_sound ha hy, asBool]
theorem Qt.pkF (hx : ev m x = some (.bool false) := by rfl) (hz : ev m z = some v := by rfl) : Qt P (.pick x y z) ty m H Ro v := fun a w d ps af gd ha _ _ => by
  simp [execOp, ev_sound ha hx, ev_sound ha hz, asBool]
theorem Qt.nc {p : Addr} (hx : ev m x = some (.pointer (some p)) := by rfl) : Qt P (.nilCheck x) ty m H Ro (.pointer (some p)) := fun a w d ps af gd ha _ _ => by
  simp [execOp, ev_sound ha hx]
theorem Qt.ncf {f : FuncId} {fi ca : Array Value} (hx : ev m x = some (.func (.func f) fi ca) := by rfl) : Qt P (.nilCheck x) ty m H Ro (.func (.func f) fi ca) := fun a w d ps af gd ha _ _ => by
  simp [execOp, ev_sound ha hx]
theorem Qt.fa {s f k b o : Nat} [h : Fld P s f k] (hx : ev m x = some (.pointer (some ⟨b, o, none⟩)) := by rfl) :
    Qt P (.fieldAddr s x f) ty m H Ro (.pointer (some ⟨b, o + k, none⟩)) := fun a w d ps af gd ha _ _ => by
  simp [execOp, ev_sound ha hx, h.run]
def nth : List Value → Nat → Option Value
  | [], _ => none
  | v :: _, 0 => some v
  | _ :: r, k + 1 => nth r k
theorem nth_eq : ∀ (l : List Value) (k : Nat), nth l k = l[k]?
  | [], _ => by simp [nth]
  | _ :: _, 0 => by simp [nth]
  | _ :: r, k + 1 => by simp [nth, nth_eq r k]
theorem cell_of {w : World} {b o : Nat} {l : List Value} {t : TypeId} {fr : Nat × Nat} (hb : w.heap[b]? = some (.cells l.toArray t fr)) (hv : nth l o = some v) :
    w.cell? ⟨b, o, none⟩ = some v := by
  rw [nth_eq] at hv
  simp [World.cell?, hb, hv]
theorem Qt.ld {t b o : Nat} {l : List Value} {e : TypeId} {fr : Nat × Nat} [h1 : One P t] (hx : ev m x = some (.pointer (some ⟨b, o, none⟩)) := by rfl)
    (hb : InB H Ro b (.cells l.toArray e fr) := by infer_instance) (hv : nth l o = some v := by rfl) : Qt P (.load t x) ty m H Ro v := fun a w d ps af gd ha hs hr => by
  simp [execOp, ev_sound ha hx, Instr.loadAt, Instr.sureAddr, loadVar, h1.agg, cell_of (hb.at hs hr) hv]
def seg : List Value → Nat → Nat → Option (List Value)
  | _, _, 0 => some []
  | [], _, _ + 1 => none
  | v :: r, 0, k + 1 => (seg r 0 k).map (v :: ·)
  | _ :: r, o + 1, k + 1 => seg r o (k + 1)
theorem seg_nth : ∀ {l : List Value} {o k : Nat} {vs : List Value}, seg l o k = some vs → vs.length = k ∧ ∀ i, i < k → nth l (o + i) = vs[i]?
  | l, o, 0, vs, h => by
    have : vs = [] := by cases l <;> cases o <;> simpa [seg] using h.symm
    subst this; exact ⟨rfl, fun i hi => by omega⟩
  | [], _, _ + 1, vs, h => by simp [seg] at h
  | v :: r, 0, k + 1, vs, h => by
    simp only [seg, Option.map_eq_some_iff] at h
    obtain ⟨us, hu, rfl⟩ := h
    obtain ⟨h1, h2⟩ := seg_nth hu
    refine ⟨by simp [h1], fun i hi => ?_⟩
    cases i with
    | zero => simp [nth]
    | succ i => simpa [nth, Nat.add_comm] using h2 i (by omega)
  | _ :: r, o + 1, k + 1, vs, h => by
    simp only [seg] at h
    obtain ⟨h1, h2⟩ := seg_nth h
    exact ⟨h1, fun i hi => by rw [show o + 1 + i = (o + i) + 1 by omega]; simpa [nth] using h2 i hi⟩
theorem run_loadCellsFrom (w : World) (a : Addr) (vs : List Value) : ∀ (k i : Nat) (acc : Array Value), i + k = vs.length → (∀ j, i ≤ j → j < vs.length → w.cell? (a.add j) = vs[j]?) →
    (loadCellsFrom a i k acc).run P w = .ok (acc ++ (vs.drop i).toArray) w
  | 0, i, acc, hk, _ => by
    have : vs.drop i = [] := List.drop_eq_nil_of_le (by omega)
    simp [loadCellsFrom, this]
  | k + 1, i, acc, hk, hc => by
    have hi : i < vs.length := by omega
    have h := hc i (Nat.le_refl _) hi
    rw [List.getElem?_eq_getElem hi] at h
    have ih := run_loadCellsFrom w a vs k (i + 1) (acc.push vs[i]) (by omega) (fun j hj hl => hc j (by omega) hl)
    simp only [loadCellsFrom, Sem.run_bind, run_load, h, Result.andThen_ok, ih]
    congr 1
    rw [List.drop_eq_getElem_cons hi]
    apply Array.ext'
    simp
theorem Qt.ldA {t b o k : Nat} {l vs : List Value} {e : TypeId} {fr : Nat × Nat} [h1 : Agg P t k] (hx : ev m x = some (.pointer (some ⟨b, o, none⟩)) := by rfl)
    (hb : InB H Ro b (.cells l.toArray e fr) := by infer_instance) (hv : seg l o k = some vs := by rfl) : Qt P (.load t x) ty m H Ro (.agg vs.toArray) := fun a w d ps af gd ha hs hr => by
  obtain ⟨h2, h3⟩ := seg_nth hv
  have hc := run_loadCellsFrom (P := P) w ⟨b, o, none⟩ vs k 0 #[] (by omega) (fun j _ hj => by
    rw [addr_add]
    have := h3 j (by omega)
    rw [List.getElem?_eq_getElem hj] at this ⊢
    exact cell_of (hb.at hs hr) this)
  simp [execOp, ev_sound ha hx, Instr.loadAt, Instr.sureAddr, loadVar, h1.agg, h1.size, loadCells, hc]
end
end SL
end Go.Proofs.YtlmiekcmjpnobaaGreatDoor
namespace Go.Proofs.YtlmiekcmjpnobaaGreatDoor
open Go
namespace SL
variable {P : Program} {n : Nat} {g : Gx} {Ro : Heap}

/-- Above all numbers of a kind. -/
def lim : IntKind → Nat
  | .i8 => 128
  | .i16 => 32768
  | .i32 => 2147483648
  | .i64 => 9223372036854775808
  | .u8 => 256
  | .u16 => 65536
  | .u32 => 4294967296
  | .u64 => 18446744073709551616
theorem wrap_in {k : IntKind} {c : Nat} (h : c < lim k) : k.wrap (c : Int) = (c : Int) := by
  cases k <;> simp only [lim] at h <;> simp only [IntKind.wrap, IntKind.bits, IntKind.signed, Bool.true_and, Bool.false_and, Bool.false_eq_true, if_false, ge_iff_le, decide_eq_true_eq] <;> (try split) <;> omega
theorem wrap_u {k : IntKind} (hk : k.signed = false) (c : Nat) : k.wrap (c : Int) = ((c % lim k : Nat) : Int) := by
  cases k <;> simp only [IntKind.signed] at hk <;> first | (simp at hk; done) | (simp only [lim, IntKind.wrap, IntKind.bits, IntKind.signed, Bool.false_and, Bool.false_eq_true, if_false]; omega)
theorem two_bits {k : IntKind} {c : Nat} (h : c < lim k) : c < 2 ^ k.bits := by cases k <;> simp only [lim, IntKind.bits] at * <;> omega
/-- A number that is not below 0, of any kind. -/
def na (m : Env) (x : Operand) : Option Nat :=
  match ev m x with
  | some (.int _ (.ofNat a)) => some a
  | _ => none
/-- .. with its kind. -/
def nv (m : Env) (x : Operand) : Option (IntKind × Nat) :=
  match ev m x with
  | some (.int k (.ofNat a)) => some (k, a)
  | _ => none
/-- Any number, with its kind. -/
def iv (m : Env) (x : Operand) : Option (IntKind × Int) :=
  match ev m x with
  | some (.int k a) => some (k, a)
  | _ => none
section
variable {m : Env} {a : Act} {x : Operand} {k : IntKind} {c : Nat} {i : Int}
theorem na_sound (ha : Agree m a) (h : na m x = some c) : ∃ j, a.eval x = .int j (c : Int) := by
  unfold na at h
  split at h
  · rename_i j a' hx; cases h; exact ⟨j, ev_sound ha hx⟩
  · cases h
theorem nv_sound (ha : Agree m a) (h : nv m x = some (k, c)) : a.eval x = .int k (c : Int) := by
  unfold nv at h
  split at h
  · rename_i j a' hx; cases h; exact ev_sound ha hx
  · cases h
theorem iv_sound (ha : Agree m a) (h : iv m x = some (k, i)) : a.eval x = .int k i := by
  unfold iv at h
  split at h
  · rename_i j a' hx; cases h; exact ev_sound ha hx
  · cases h
end
inductive Bop | and | or | xor
def Bop.f : Bop → Nat → Nat → Nat
  | .and => (· &&& ·)
  | .or => (· ||| ·)
  | .xor => (· ^^^ ·)
theorem lim_pow (k : IntKind) : ∃ e, lim k = 2 ^ e := by
  cases k
  · exact ⟨7, rfl⟩
  · exact ⟨15, rfl⟩
  · exact ⟨31, rfl⟩
  · exact ⟨63, rfl⟩
  · exact ⟨8, rfl⟩
  · exact ⟨16, rfl⟩
  · exact ⟨32, rfl⟩
  · exact ⟨64, rfl⟩
theorem lim_bits {k : IntKind} {a b : Nat} (ha : a < lim k) (hb : b < lim k) (o : Bop) : o.f a b < lim k := by
  obtain ⟨e, he⟩ := lim_pow k
  rw [he] at ha hb ⊢
  cases o
  · exact Nat.and_lt_two_pow _ hb
  · exact Nat.or_lt_two_pow ha hb
  · exact Nat.xor_lt_two_pow ha hb
/-- A number of a kind, as a value. -/
abbrev N (k : IntKind) (a : Nat) : Value := .int k (Int.ofNat a)
/-- A text, as a value. -/
abbrev SV (l : List UInt8) : Value := .string ⟨l.toArray⟩

section
variable {m : Env} {H : Heap} {ty t t' : TypeId} {x y : Operand} {a b : Nat} {v : Value}
theorem Qt.toN {op : Op} {K : IntKind} {c : Nat} (h : Qt P op ty m H Ro (N K a)) (e : a = c := by omega) : Qt P op ty m H Ro (N K c) := e ▸ h
theorem Qt.to {op : Op} {u : Value} (h : Qt P op ty m H Ro v) (e : v = u) : Qt P op ty m H Ro u := e ▸ h
theorem Qt.add {K : IntKind} (hx : nv m x = some (K, a) := by rfl) (hy : nv m y = some (K, b) := by rfl) (h : a + b < lim K := by (simp only [lim]; omega)) :
    Qt P (.binOp .add t x y t') ty m H Ro (N K (a + b)) := fun w _ d ps af gd ha _ _ => by
  have e := wrap_in h
  simp only [Int.natCast_add] at e
  simp [execOp, nv_sound ha hx, nv_sound ha hy, eqGuard, binOp, Op.intArith, e]
theorem Qt.mul {K : IntKind} (hx : nv m x = some (K, a) := by rfl) (hy : nv m y = some (K, b) := by rfl) (h : a * b < lim K := by (simp only [lim]; omega)) :
    Qt P (.binOp .mul t x y t') ty m H Ro (N K (a * b)) := fun w _ d ps af gd ha _ _ => by
  have e := wrap_in h
  simp only [Int.natCast_mul] at e
  simp [execOp, nv_sound ha hx, nv_sound ha hy, eqGuard, binOp, Op.intArith, e]
theorem Qt.sub {K : IntKind} (hx : nv m x = some (K, a) := by rfl) (hy : nv m y = some (K, b) := by rfl) (h : b ≤ a ∧ a < lim K := by (simp only [lim]; omega)) :
    Qt P (.binOp .sub t x y t') ty m H Ro (N K (a - b)) := fun w _ d ps af gd ha _ _ => by
  have e := wrap_in (k := K) (c := a - b) (by omega)
  rw [Int.ofNat_sub h.1] at e
  simp [execOp, nv_sound ha hx, nv_sound ha hy, eqGuard, binOp, Op.intArith, e, Int.ofNat_sub h.1]
theorem Qt.quo {K : IntKind} (hx : nv m x = some (K, a) := by rfl) (hy : nv m y = some (K, b) := by rfl) (h : 0 < b ∧ a < lim K := by (simp only [lim]; omega)) :
    Qt P (.binOp .quo t x y t') ty m H Ro (N K (a / b)) := fun w _ d ps af gd ha _ _ => by
  have e := wrap_in (k := K) (c := a / b) (Nat.lt_of_le_of_lt (Nat.div_le_self _ _) h.2)
  have h0 : b ≠ 0 := by omega
  simp only [Int.natCast_ediv] at e
  simp [execOp, nv_sound ha hx, nv_sound ha hy, eqGuard, binOp, Op.intDiv, h0, e]
theorem Qt.rem {K : IntKind} (hx : nv m x = some (K, a) := by rfl) (hy : nv m y = some (K, b) := by rfl) (h : 0 < b := by omega) :
    Qt P (.binOp .rem t x y t') ty m H Ro (N K (a % b)) := fun w _ d ps af gd ha _ _ => by
  have h0 : b ≠ 0 := by omega
  simp [execOp, nv_sound ha hx, nv_sound ha hy, eqGuard, binOp, Op.intDiv, h0, ← Int.ofNat_tmod]
theorem Qt.and {K : IntKind} (hx : nv m x = some (K, a) := by rfl) (hy : nv m y = some (K, b) := by rfl) (h : a < lim K ∧ b < lim K := by (simp only [lim]; omega)) :
    Qt P (.binOp .and t x y t') ty m H Ro (N K (a &&& b)) := fun w _ d ps af gd ha _ _ => by
  have ea := Nat.mod_eq_of_lt (two_bits h.1)
  have eb := Nat.mod_eq_of_lt (two_bits h.2)
  have e : K.wrap ((a &&& b : Nat) : Int) = _ := wrap_in (lim_bits h.1 h.2 .and)
  simp [execOp, nv_sound ha hx, nv_sound ha hy, eqGuard, binOp, Op.intBits, ea, eb, e]
theorem Qt.or {K : IntKind} (hx : nv m x = some (K, a) := by rfl) (hy : nv m y = some (K, b) := by rfl) (h : a < lim K ∧ b < lim K := by (simp only [lim]; omega)) :
    Qt P (.binOp .or t x y t') ty m H Ro (N K (a ||| b)) := fun w _ d ps af gd ha _ _ => by
  have ea := Nat.mod_eq_of_lt (two_bits h.1)
  have eb := Nat.mod_eq_of_lt (two_bits h.2)
  have e : K.wrap ((a ||| b : Nat) : Int) = _ := wrap_in (lim_bits h.1 h.2 .or)
  simp [execOp, nv_sound ha hx, nv_sound ha hy, eqGuard, binOp, Op.intBits, ea, eb, e]
theorem Qt.xor {K : IntKind} (hx : nv m x = some (K, a) := by rfl) (hy : nv m y = some (K, b) := by rfl) (h : a < lim K ∧ b < lim K := by (simp only [lim]; omega)) :
    Qt P (.binOp .xor t x y t') ty m H Ro (N K (a ^^^ b)) := fun w _ d ps af gd ha _ _ => by
  have ea := Nat.mod_eq_of_lt (two_bits h.1)
  have eb := Nat.mod_eq_of_lt (two_bits h.2)
  have e : K.wrap ((a ^^^ b : Nat) : Int) = _ := wrap_in (lim_bits h.1 h.2 .xor)
  simp [execOp, nv_sound ha hx, nv_sound ha hy, eqGuard, binOp, Op.intBits, ea, eb, e]
theorem Qt.andNot {K : IntKind} (hx : nv m x = some (K, a) := by rfl) (hy : nv m y = some (K, b) := by rfl) (h : a < lim K ∧ b < lim K := by (simp only [lim]; omega)) :
    Qt P (.binOp .andNot t x y t') ty m H Ro (N K (a &&& (2 ^ K.bits - 1 - b))) := fun w _ d ps af gd ha _ _ => by
  have ea := Nat.mod_eq_of_lt (two_bits h.1)
  have eb := Nat.mod_eq_of_lt (two_bits h.2)
  have e := wrap_in (k := K) (c := a &&& (2 ^ K.bits - 1 - b)) (Nat.lt_of_le_of_lt Nat.and_le_left h.1)
  simp [execOp, nv_sound ha hx, nv_sound ha hy, eqGuard, binOp, Op.intBits, ea, eb, e]
theorem Qt.shl {K : IntKind} (hx : nv m x = some (K, a) := by rfl) (hy : na m y = some b := by rfl) (h : b ≤ K.bits ∧ a * 2 ^ b < lim K := by (simp only [lim, IntKind.bits]; omega)) :
    Qt P (.binOp .shl t x y t') ty m H Ro (N K (a * 2 ^ b)) := fun w _ d ps af gd ha _ _ => by
  obtain ⟨j, e2⟩ := na_sound ha hy
  have e := wrap_in h.2
  simp only [Int.natCast_mul, Int.natCast_pow, Int.cast_ofNat_Int] at e
  simp [execOp, nv_sound ha hx, e2, eqGuard, binOp, Op.shift, show ¬ ((b : Int) < 0) by omega, Nat.min_eq_left h.1, e]
theorem Qt.shlW {K : IntKind} (hx : nv m x = some (K, a) := by rfl) (hy : na m y = some b := by rfl) (h : b ≤ K.bits ∧ K.signed = false := by (simp only [IntKind.signed, IntKind.bits]; omega)) :
    Qt P (.binOp .shl t x y t') ty m H Ro (N K (a * 2 ^ b % lim K)) := fun w _ d ps af gd ha _ _ => by
  obtain ⟨j, e2⟩ := na_sound ha hy
  have e := wrap_u h.2 (a * 2 ^ b)
  simp only [Int.natCast_mul, Int.natCast_pow, Int.cast_ofNat_Int] at e
  simp [execOp, nv_sound ha hx, e2, eqGuard, binOp, Op.shift, show ¬ ((b : Int) < 0) by omega, Nat.min_eq_left h.1, e]
theorem Qt.shr {K : IntKind} (hx : nv m x = some (K, a) := by rfl) (hy : na m y = some b := by rfl) (h : b ≤ K.bits := by (simp only [IntKind.bits]; omega)) :
    Qt P (.binOp .shr t x y t') ty m H Ro (N K (a / 2 ^ b)) := fun w _ d ps af gd ha _ _ => by
  obtain ⟨j, e2⟩ := na_sound ha hy
  have e : (a : Int).fdiv (2 ^ b) = ((a / 2 ^ b : Nat) : Int) := by rw [Int.fdiv_eq_ediv_of_nonneg _ (by exact_mod_cast Nat.zero_le (2 ^ b))]; simp
  simp [execOp, nv_sound ha hx, e2, eqGuard, binOp, Op.shift, show ¬ ((b : Int) < 0) by omega, Nat.min_eq_left h, e]
theorem Qt.notT (hx : ev m x = some (.bool true) := by rfl) : Qt P (.unOp .not t x) ty m H Ro (.bool false) := fun w _ d ps af gd ha _ _ => by
  simp [execOp, ev_sound ha hx, Op.unary]
theorem Qt.notF (hx : ev m x = some (.bool false) := by rfl) : Qt P (.unOp .not t x) ty m H Ro (.bool true) := fun w _ d ps af gd ha _ _ => by
  simp [execOp, ev_sound ha hx, Op.unary]
theorem Qt.cv {K : IntKind} {s : TypeId} {J : IntKind} [hs : IntT P s J] [hd : IntT P t K] (hx : na m x = some a := by rfl) (h : a < lim K := by (simp only [lim]; omega)) :
    Qt P (.convert s t x) ty m H Ro (N K a) := fun w _ d ps af gd ha _ _ => by
  obtain ⟨j, e2⟩ := na_sound ha hx
  simp [execOp, e2, convert, hs.und, hd.und, Conv.intToInt, wrap_in h]
theorem Qt.cvW {K : IntKind} {s : TypeId} {J : IntKind} [hs : IntT P s J] [hd : IntT P t K] (hx : na m x = some a := by rfl) (h : K.signed = false := by rfl) :
    Qt P (.convert s t x) ty m H Ro (N K (a % lim K)) := fun w _ d ps af gd ha _ _ => by
  obtain ⟨j, e2⟩ := na_sound ha hx
  simp [execOp, e2, convert, hs.und, hd.und, Conv.intToInt, wrap_u h]
theorem Qt.ltT {K : IntKind} (hx : nv m x = some (K, a) := by rfl) (hy : nv m y = some (K, b) := by rfl) (h : a < b := by omega) :
    Qt P (.binOp .lss t x y t') ty m H Ro (.bool true) := fun w _ d ps af gd ha _ _ => by
  simp [execOp, nv_sound ha hx, nv_sound ha hy, eqGuard, binOp, Op.intCmp]; omega
theorem Qt.ltF {K : IntKind} (hx : nv m x = some (K, a) := by rfl) (hy : nv m y = some (K, b) := by rfl) (h : b ≤ a := by omega) :
    Qt P (.binOp .lss t x y t') ty m H Ro (.bool false) := fun w _ d ps af gd ha _ _ => by
  simp [execOp, nv_sound ha hx, nv_sound ha hy, eqGuard, binOp, Op.intCmp]; omega
theorem Qt.iltT {K : IntKind} {a b : Int} (hx : iv m x = some (K, a) := by rfl) (hy : iv m y = some (K, b) := by rfl) (h : a < b := by omega) :
    Qt P (.binOp .lss t x y t') ty m H Ro (.bool true) := fun w _ d ps af gd ha _ _ => by
  simp [execOp, iv_sound ha hx, iv_sound ha hy, eqGuard, binOp, Op.intCmp]; omega
theorem Qt.iltF {K : IntKind} {a b : Int} (hx : iv m x = some (K, a) := by rfl) (hy : iv m y = some (K, b) := by rfl) (h : b ≤ a := by omega) :
    Qt P (.binOp .lss t x y t') ty m H Ro (.bool false) := fun w _ d ps af gd ha _ _ => by
  simp [execOp, iv_sound ha hx, iv_sound ha hy, eqGuard, binOp, Op.intCmp]; omega
theorem Qt.leT {K : IntKind} (hx : nv m x = some (K, a) := by rfl) (hy : nv m y = some (K, b) := by rfl) (h : a ≤ b := by omega) :
    Qt P (.binOp .leq t x y t') ty m H Ro (.bool true) := fun w _ d ps af gd ha _ _ => by
  simp [execOp, nv_sound ha hx, nv_sound ha hy, eqGuard, binOp, Op.intCmp]; omega
theorem Qt.leF {K : IntKind} (hx : nv m x = some (K, a) := by rfl) (hy : nv m y = some (K, b) := by rfl) (h : b < a := by omega) :
    Qt P (.binOp .leq t x y t') ty m H Ro (.bool false) := fun w _ d ps af gd ha _ _ => by
  simp [execOp, nv_sound ha hx, nv_sound ha hy, eqGuard, binOp, Op.intCmp]; omega
theorem Qt.ileT {K : IntKind} {a b : Int} (hx : iv m x = some (K, a) := by rfl) (hy : iv m y = some (K, b) := by rfl) (h : a ≤ b := by omega) :
    Qt P (.binOp .leq t x y t') ty m H Ro (.bool true) := fun w _ d ps af gd ha _ _ => by
  simp [execOp, iv_sound ha hx, iv_sound ha hy, eqGuard, binOp, Op.intCmp]; omega
theorem Qt.ileF {K : IntKind} {a b : Int} (hx : iv m x = some (K, a) := by rfl) (hy : iv m y = some (K, b) := by rfl) (h : b < a := by omega) :
    Qt P (.binOp .leq t x y t') ty m H Ro (.bool false) := fun w _ d ps af gd ha _ _ => by
  simp [execOp, iv_sound ha hx, iv_sound ha hy, eqGuard, binOp, Op.intCmp]; omega
theorem Qt.gtT {K : IntKind} (hx : nv m x = some (K, a) := by rfl) (hy : nv m y = some (K, b) := by rfl) (h : b < a := by omega) :
    Qt P (.binOp .gtr t x y t') ty m H Ro (.bool true) := fun w _ d ps af gd ha _ _ => by
  simp [execOp, nv_sound ha hx, nv_sound ha hy, eqGuard, binOp, Op.intCmp]; omega
theorem Qt.gtF {K : IntKind} (hx : nv m x = some (K, a) := by rfl) (hy : nv m y = some (K, b) := by rfl) (h : a ≤ b := by omega) :
    Qt P (.binOp .gtr t x y t') ty m H Ro (.bool false) := fun w _ d ps af gd ha _ _ => by
  simp [execOp, nv_sound ha hx, nv_sound ha hy, eqGuard, binOp, Op.intCmp]; omega
theorem Qt.igtT {K : IntKind} {a b : Int} (hx : iv m x = some (K, a) := by rfl) (hy : iv m y = some (K, b) := by rfl) (h : b < a := by omega) :
    Qt P (.binOp .gtr t x y t') ty m H Ro (.bool true) := fun w _ d ps af gd ha _ _ => by
  simp [execOp, iv_sound ha hx, iv_sound ha hy, eqGuard, binOp, Op.intCmp]; omega
theorem Qt.igtF {K : IntKind} {a b : Int} (hx : iv m x = some (K, a) := by rfl) (hy : iv m y = some (K, b) := by rfl) (h : a ≤ b := by omega) :
    Qt P (.binOp .gtr t x y t') ty m H Ro (.bool false) := fun w _ d ps af gd ha _ _ => by
  simp [execOp, iv_sound ha hx, iv_sound ha hy, eqGuard, binOp, Op.intCmp]; omega
theorem Qt.geT {K : IntKind} (hx : nv m x = some (K, a) := by rfl) (hy : nv m y = some (K, b) := by rfl) (h : b ≤ a := by omega) :
    Qt P (.binOp .geq t x y t') ty m H Ro (.bool true) := fun w _ d ps af gd ha _ _ => by
  simp [execOp, nv_sound ha hx, nv_sound ha hy, eqGuard, binOp, Op.intCmp]; omega
theorem Qt.geF {K : IntKind} (hx : nv m x = some (K, a) := by rfl) (hy : nv m y = some (K, b) := by rfl) (h : a < b := by omega) :
    Qt P (.binOp .geq t x y t') ty m H Ro (.bool false) := fun w _ d ps af gd ha _ _ => by
  simp [execOp, nv_sound ha hx, nv_sound ha hy, eqGuard, binOp, Op.intCmp]; omega
theorem Qt.igeT {K : IntKind} {a b : Int} (hx : iv m x = some (K, a) := by rfl) (hy : iv m y = some (K, b) := by rfl) (h : b ≤ a := by omega) :
    Qt P (.binOp .geq t x y t') ty m H Ro (.bool true) := fun w _ d ps af gd ha _ _ => by
  simp [execOp, iv_sound ha hx, iv_sound ha hy, eqGuard, binOp, Op.intCmp]; omega
theorem Qt.igeF {K : IntKind} {a b : Int} (hx : iv m x = some (K, a) := by rfl) (hy : iv m y = some (K, b) := by rfl) (h : a < b := by omega) :
    Qt P (.binOp .geq t x y t') ty m H Ro (.bool false) := fun w _ d ps af gd ha _ _ => by
  simp [execOp, iv_sound ha hx, iv_sound ha hy, eqGuard, binOp, Op.intCmp]; omega
theorem Qt.eqT {K : IntKind} (hx : nv m x = some (K, a) := by rfl) (hy : nv m y = some (K, b) := by rfl) (h : a = b := by omega) :
    Qt P (.binOp .eql t x y t') ty m H Ro (.bool true) := fun w _ d ps af gd ha _ _ => by
  simp [execOp, nv_sound ha hx, nv_sound ha hy, eqGuard, binOp, Op.intCmp]; omega
theorem Qt.eqF {K : IntKind} (hx : nv m x = some (K, a) := by rfl) (hy : nv m y = some (K, b) := by rfl) (h : a ≠ b := by omega) :
    Qt P (.binOp .eql t x y t') ty m H Ro (.bool false) := fun w _ d ps af gd ha _ _ => by
  simp [execOp, nv_sound ha hx, nv_sound ha hy, eqGuard, binOp, Op.intCmp]; omega
theorem Qt.ieqT {K : IntKind} {a b : Int} (hx : iv m x = some (K, a) := by rfl) (hy : iv m y = some (K, b) := by rfl) (h : a = b := by omega) :
    Qt P (.binOp .eql t x y t') ty m H Ro (.bool true) := fun w _ d ps af gd ha _ _ => by
  simp [execOp, iv_sound ha hx, iv_sound ha hy, eqGuard, binOp, Op.intCmp]; omega
theorem Qt.ieqF {K : IntKind} {a b : Int} (hx : iv m x = some (K, a) := by rfl) (hy : iv m y = some (K, b) := by rfl) (h : a ≠ b := by omega) :
    Qt P (.binOp .eql t x y t') ty m H Ro (.bool false) := fun w _ d ps af gd ha _ _ => by
  simp [execOp, iv_sound ha hx, iv_sound ha hy, eqGuard, binOp, Op.intCmp]; omega
theorem Qt.eqD {K : IntKind} (hx : nv m x = some (K, a) := by rfl) (hy : nv m y = some (K, b) := by rfl) : Qt P (.binOp .eql t x y t') ty m H Ro (.bool (decide (a = b))) := by
  by_cases h : a = b
  · rw [decide_eq_true h]; exact Qt.eqT hx hy h
  · rw [decide_eq_false h]; exact Qt.eqF hx hy h
theorem Qt.neT {K : IntKind} (hx : nv m x = some (K, a) := by rfl) (hy : nv m y = some (K, b) := by rfl) (h : a ≠ b := by omega) :
    Qt P (.binOp .neq t x y t') ty m H Ro (.bool true) := fun w _ d ps af gd ha _ _ => by
  simp [execOp, nv_sound ha hx, nv_sound ha hy, eqGuard, binOp, Op.intCmp]; omega
theorem Qt.neF {K : IntKind} (hx : nv m x = some (K, a) := by rfl) (hy : nv m y = some (K, b) := by rfl) (h : a = b := by omega) :
    Qt P (.binOp .neq t x y t') ty m H Ro (.bool false) := fun w _ d ps af gd ha _ _ => by
  simp [execOp, nv_sound ha hx, nv_sound ha hy, eqGuard, binOp, Op.intCmp]; omega
theorem Qt.ineT {K : IntKind} {a b : Int} (hx : iv m x = some (K, a) := by rfl) (hy : iv m y = some (K, b) := by rfl) (h : a ≠ b := by omega) :
    Qt P (.binOp .neq t x y t') ty m H Ro (.bool true) := fun w _ d ps af gd ha _ _ => by
  simp [execOp, iv_sound ha hx, iv_sound ha hy, eqGuard, binOp, Op.intCmp]; omega
theorem Qt.ineF {K : IntKind} {a b : Int} (hx : iv m x = some (K, a) := by rfl) (hy : iv m y = some (K, b) := by rfl) (h : a = b := by omega) :
    Qt P (.binOp .neq t x y t') ty m H Ro (.bool false) := fun w _ d ps af gd ha _ _ => by
  simp [execOp, iv_sound ha hx, iv_sound ha hy, eqGuard, binOp, Op.intCmp]; omega
end
section
variable {ops : Array Oper} {Q : Post} {m : Env} {H : Heap} {rest : List Oper} {d : Nat} {ty t t' : TypeId} {ps : String} {af : Array Edge} {x y : Operand} {a b : Nat}
theorem Rl.ltS {K : IntKind} (hT : a < b → Rl P n g Ro ops Q rest ((d, .bool true) :: m) H) (hF : b ≤ a → Rl P n g Ro ops Q rest ((d, .bool false) :: m) H)
    (hx : nv m x = some (K, a) := by rfl) (hy : nv m y = some (K, b) := by rfl) (hd : Nat.blt d n = true := by rfl) : Rl P n g Ro ops Q (⟨some d, .binOp .lss t x y t', ty, ps, af, none⟩ :: rest) m H := by
  by_cases h : a < b
  · exact Rl.q (Qt.ltT hx hy h) (hT h) hd
  · exact Rl.q (Qt.ltF hx hy (by omega)) (hF (by omega)) hd
theorem Rl.leS {K : IntKind} (hT : a ≤ b → Rl P n g Ro ops Q rest ((d, .bool true) :: m) H) (hF : b < a → Rl P n g Ro ops Q rest ((d, .bool false) :: m) H)
    (hx : nv m x = some (K, a) := by rfl) (hy : nv m y = some (K, b) := by rfl) (hd : Nat.blt d n = true := by rfl) : Rl P n g Ro ops Q (⟨some d, .binOp .leq t x y t', ty, ps, af, none⟩ :: rest) m H := by
  by_cases h : a ≤ b
  · exact Rl.q (Qt.leT hx hy h) (hT h) hd
  · exact Rl.q (Qt.leF hx hy (by omega)) (hF (by omega)) hd
theorem Rl.gtS {K : IntKind} (hT : b < a → Rl P n g Ro ops Q rest ((d, .bool true) :: m) H) (hF : a ≤ b → Rl P n g Ro ops Q rest ((d, .bool false) :: m) H)
    (hx : nv m x = some (K, a) := by rfl) (hy : nv m y = some (K, b) := by rfl) (hd : Nat.blt d n = true := by rfl) : Rl P n g Ro ops Q (⟨some d, .binOp .gtr t x y t', ty, ps, af, none⟩ :: rest) m H := by
  by_cases h : b < a
  · exact Rl.q (Qt.gtT hx hy h) (hT h) hd
  · exact Rl.q (Qt.gtF hx hy (by omega)) (hF (by omega)) hd
theorem Rl.geS {K : IntKind} (hT : b ≤ a → Rl P n g Ro ops Q rest ((d, .bool true) :: m) H) (hF : a < b → Rl P n g Ro ops Q rest ((d, .bool false) :: m) H)
    (hx : nv m x = some (K, a) := by rfl) (hy : nv m y = some (K, b) := by rfl) (hd : Nat.blt d n = true := by rfl) : Rl P n g Ro ops Q (⟨some d, .binOp .geq t x y t', ty, ps, af, none⟩ :: rest) m H := by
  by_cases h : b ≤ a
  · exact Rl.q (Qt.geT hx hy h) (hT h) hd
  · exact Rl.q (Qt.geF hx hy (by omega)) (hF (by omega)) hd
theorem Rl.eqS {K : IntKind} (hT : a = b → Rl P n g Ro ops Q rest ((d, .bool true) :: m) H) (hF : a ≠ b → Rl P n g Ro ops Q rest ((d, .bool false) :: m) H)
    (hx : nv m x = some (K, a) := by rfl) (hy : nv m y = some (K, b) := by rfl) (hd : Nat.blt d n = true := by rfl) : Rl P n g Ro ops Q (⟨some d, .binOp .eql t x y t', ty, ps, af, none⟩ :: rest) m H := by
  by_cases h : a = b
  · exact Rl.q (Qt.eqT hx hy h) (hT h) hd
  · exact Rl.q (Qt.eqF hx hy (by omega)) (hF (by omega)) hd
theorem Rl.neS {K : IntKind} (hT : a ≠ b → Rl P n g Ro ops Q rest ((d, .bool true) :: m) H) (hF : a = b → Rl P n g Ro ops Q rest ((d, .bool false) :: m) H)
    (hx : nv m x = some (K, a) := by rfl) (hy : nv m y = some (K, b) := by rfl) (hd : Nat.blt d n = true := by rfl) : Rl P n g Ro ops Q (⟨some d, .binOp .neq t x y t', ty, ps, af, none⟩ :: rest) m H := by
  by_cases h : a ≠ b
  · exact Rl.q (Qt.neT hx hy h) (hT h) hd
  · exact Rl.q (Qt.neF hx hy (by omega)) (hF (by omega)) hd
end
end SL
end Go.Proofs.YtlmiekcmjpnobaaGreatDoor
namespace Go.Proofs.YtlmiekcmjpnobaaGreatDoor
open Go
namespace SL
variable {P : Program} {n : Nat} {g : Gx} {Ro : Heap}

/-- What an operation comes to, panics and all else shut out. -/
def sw (P : Program) (o : Oper) (a : Act) (w : World) (K : Act → World → Prop) : Prop :=
  match (execOp a.eval o).run P w with
  | .ok (.value v) w' => K (a.put o.dst v) w'
  | .ok .skip w' => K (a.put o.dst undef) w'
  | .ok (.enter f args) w' => Calls P f args w' (fun e w'' => ∃ v, e = .returned v ∧ K (a.put o.dst v) w'')
  | _ => False
theorem sw.wp {o : Oper} {a : Act} {w : World} {K : Act → World → Prop} {Q : Post} (h : sw P o a w K) : o.wp P a w K Q := by
  unfold sw at h
  unfold Oper.wp
  generalize (execOp a.eval o).run P w = r at *
  cases r with
  | ok x w' =>
    cases x <;> simp only at h <;> simp only [Oper.upon]
    case value => exact h
    case skip => exact h
    case enter => exact h.mono fun e w'' ⟨v, he, hk⟩ => by subst he; exact hk
  | halt x w' => simp at h

/-- An operation that turns what is known: for some x with φ x it yields v x, and leaves the blocks H' x. -/
def Ef {α : Type} (P : Program) (g : Gx) (Ro : Heap) (op : Op) (ty : TypeId) (m : Env) (H : Heap) (φ : α → Prop) (v : α → Value) (H' : α → Heap) : Prop :=
  ∀ a w dst ps af gd (K : Act → World → Prop), Agree m a → Hs g Ro w H → (∀ x w', φ x → Hs g Ro w' (H' x) → K (a.put dst (v x)) w') → sw P ⟨dst, op, ty, ps, af, gd⟩ a w K

section
variable {ops : Array Oper} {Q : Post} {m : Env} {H : Heap} {rest : List Oper} {d : Nat} {op : Op} {ty : TypeId} {ps : String} {af : Array Edge} {α : Type} {φ : α → Prop} {v : α → Value} {H' : α → Heap}
theorem Rl.e (he : Ef P g Ro op ty m H φ v H') (k : ∀ x, φ x → Rl P n g Ro ops Q rest ((d, v x) :: m) (H' x)) (hd : Nat.blt d n = true := by rfl) :
    Rl P n g Ro ops Q (⟨some d, op, ty, ps, af, none⟩ :: rest) m H := fun a w hs hh =>
  wpList_plain rfl fun _ hK => (he a w _ _ _ _ _ hs.ag hh fun x w' hx hh' => hK _ _ (k x hx _ w' (hs.put hd (v x)) hh')).wp
theorem Rl.e0 (he : Ef P g Ro op ty m H φ v H') (k : ∀ x, φ x → Rl P n g Ro ops Q rest m (H' x)) :
    Rl P n g Ro ops Q (⟨none, op, ty, ps, af, none⟩ :: rest) m H := fun a w hs hh =>
  wpList_plain rfl fun _ hK => (he a w none _ _ _ _ hs.ag hh fun x w' hx hh' => hK _ _ (k x hx _ w' hs hh')).wp
end
/-- One way of finding a chunk. -/
theorem Hs.rem {w : World} {H H' : Heap} {c : Chunk} (h : Hs g Ro w H) (r : Rem H c H') : Hs g Ro w (c :: H') := h.perm (by simpa using r.perm)
theorem Hs.put {w : World} {H : Heap} {b : Nat} {o o' : Obj} (h : Hs g Ro w ([(b, o)] :: H)) (w' : World)
    (hb : w'.heap[b]? = some o') (ho : ∀ k, k ≠ b → w'.heap[k]? = w.heap[k]?) (hsz : w'.heap.size = w.heap.size)
    (hos : w'.os = w.os) (ht : w'.tape = w.tape) (hout : w'.output = w.output) : Hs g Ro w' ([(b, o')] :: H) :=
  h.upd (b := b) UpH.head hb ho hsz hos ht hout
theorem Hs.at {w : World} {H : Heap} {b : Nat} {o : Obj} (h : Hs g Ro w ([(b, o)] :: H)) : w.heap[b]? = some o := h.sub (b, o) (by simp)

/-! ### Lengths, indexes, cuts -/
class StrT (P : Program) (t : TypeId) : Prop where
  und : ∀ w, (underlying t).run P w = .ok .string w
class PArT (P : Program) (t : TypeId) (k e sz : outParam Nat) : Prop where
  ptr : ∃ t', (∀ w, (underlying t).run P w = .ok (.pointer t') w) ∧ (∀ w, (underlying t').run P w = .ok (.array k e) w)
  size : ∀ w, (sizeOf e).run P w = .ok sz w
section
variable {m : Env} {H : Heap} {ty t : TypeId} {x y : Operand} {b o k cap i e sz : Nat} {l : List UInt8}
theorem Qt.len {p : Option Addr} {c : Nat} [h : SlT P t e sz] (hx : ev m x = some (.slice p c cap) := by rfl) :
    Qt P (.call ⟨.builtin .len, #[x], #[t]⟩) ty m H Ro (N .i64 c) := fun a w d ps af gd ha _ _ => by
  simp [execOp, resolve, invoke, builtin, Builtin.len_, ev_sound ha hx, h.und, goInt]
theorem Qt.lenS [h : StrT P t] (hx : ev m x = some (SV l) := by rfl) :
    Qt P (.call ⟨.builtin .len, #[x], #[t]⟩) ty m H Ro (N .i64 l.length) := fun a w d ps af gd ha _ _ => by
  have e : (⟨l.toArray⟩ : ByteArray).size = l.length := by simp [ByteArray.size]
  simp [execOp, resolve, invoke, builtin, Builtin.len_, ev_sound ha hx, h.und, goInt, e]
theorem Qt.ia [h : SlT P t e sz] (hx : ev m x = some (.slice (some ⟨b, o, none⟩) k cap) := by rfl) (hy : na m y = some i := by rfl) (hi : i < k := by omega) :
    Qt P (.indexAddr t x y) ty m H Ro (.pointer (some ⟨b, o + i * sz, none⟩)) := fun a w d ps af gd ha _ _ => by
  obtain ⟨j, e2⟩ := na_sound ha hy
  simp [execOp, Instr.indexAt, asIntOf, ev_sound ha hx, e2, h.und, h.size, hi, addr_add]
theorem Qt.ia1 [h : SlT P t e 1] (hx : ev m x = some (.slice (some ⟨b, o, none⟩) k cap) := by rfl) (hy : na m y = some i := by rfl) (hi : i < k := by omega) :
    Qt P (.indexAddr t x y) ty m H Ro (.pointer (some ⟨b, o + i, none⟩)) := by
  have := Qt.ia (P := P) (H := H) (Ro := Ro) (ty := ty) (t := t) hx hy hi
  rwa [Nat.mul_one] at this
theorem Qt.iaA [h : ArT P t k e sz] (hx : ev m x = some (.pointer (some ⟨b, o, none⟩)) := by rfl) (hy : na m y = some i := by rfl) (hi : i < k := by omega) :
    Qt P (.indexAddr t x y) ty m H Ro (.pointer (some ⟨b, o + i * sz, none⟩)) := fun a w d ps af gd ha _ _ => by
  obtain ⟨j, e2⟩ := na_sound ha hy
  simp [execOp, Instr.indexAt, asIntOf, ev_sound ha hx, e2, h.und, h.size, hi, addr_add, Instr.sureAddr]
theorem Qt.iaA1 [h : ArT P t k e 1] (hx : ev m x = some (.pointer (some ⟨b, o, none⟩)) := by rfl) (hy : na m y = some i := by rfl) (hi : i < k := by omega) :
    Qt P (.indexAddr t x y) ty m H Ro (.pointer (some ⟨b, o + i, none⟩)) := by
  have := Qt.iaA (P := P) (H := H) (Ro := Ro) (ty := ty) (t := t) hx hy hi
  rwa [Nat.mul_one] at this
theorem Qt.ixS {c : UInt8} [h : StrT P t] (hx : ev m x = some (SV l) := by rfl) (hy : na m y = some i := by rfl) (hc : l[i]? = some c) :
    Qt P (.index t x y) ty m H Ro (N .u8 c.toNat) := fun a w d ps af gd ha _ _ => by
  obtain ⟨j, e2⟩ := na_sound ha hy
  obtain ⟨hlt, e⟩ := List.getElem?_eq_some_iff.1 hc
  have e3 : (⟨l.toArray⟩ : ByteArray)[i]? = some c := by
    have h0 : i < (ByteArray.mk l.toArray).size := by simpa [ByteArray.size] using hlt
    rw [getElem?_pos (ByteArray.mk l.toArray) i h0]
    simp [← e, ByteArray.getElem_eq_getElem_data]
  simp [execOp, Instr.index, asIntOf, ev_sound ha hx, e2, h.und, e3]
/-- An element of an array value. -/
theorem Qt.ixA {vs : List Value} {v : Value} [h : ArT P t k e 1] [h1 : One P e] (hx : ev m x = some (.agg vs.toArray) := by rfl) (hy : na m y = some i := by rfl)
    (hi : i < k := by omega) (hv : nth vs i = some v := by rfl) : Qt P (.index t x y) ty m H Ro v := fun a w d ps af gd ha _ _ => by
  obtain ⟨j, e2⟩ := na_sound ha hy
  rw [nth_eq] at hv
  simp [execOp, Instr.index, asIntOf, ev_sound ha hx, e2, h.und, h.size, hi, part, h1.agg, hv]
/-- An operand that may be missing. -/
def nao (m : Env) (x : Option Operand) (dflt : Nat) : Option Nat :=
  match x with
  | none => some dflt
  | some y => na m y
theorem bound_sound {a : Act} (ha : Agree m a) {w : World} {c k : Nat} {co : BoundsCode} (hx : na m x = some c) (h : c ≤ k) :
    (Instr.sliceBound (a.eval x) k co).run P w = .ok c w := by
  obtain ⟨j, e2⟩ := na_sound ha hx
  simp [Instr.sliceBound, asIntOf, e2, h]
theorem bounds_sound {a : Act} (ha : Agree m a) {w : World} {s : Bool} {lo hi : Option Operand} {cl ch : Nat} (hl : nao m lo 0 = some cl) (hh : nao m hi k = some ch) (h1 : cl ≤ ch) (h2 : ch ≤ cap) :
    (Instr.sliceBounds s k cap (lo.map a.eval) (hi.map a.eval) none).run P w = .ok (cl, ch, cap) w := by
  unfold Instr.sliceBounds
  cases lo <;> cases hi <;> simp only [nao, Option.some.injEq] at hl hh
  · subst hl; subst hh; simp
  · subst hl; simp only [Option.map_some, Option.map_none, Sem.run_bind, Sem.run_pure, Result.andThen_ok, bound_sound ha hh h2]
  · subst hh; simp only [Option.map_some, Option.map_none, Sem.run_bind, Sem.run_pure, Result.andThen_ok, Option.isSome_none, Bool.false_eq_true, if_false, bound_sound ha hl h1]
  · simp only [Option.map_some, Sem.run_bind, Sem.run_pure, Result.andThen_ok, Option.isSome_none, Bool.false_eq_true, if_false, bound_sound ha hh h2, bound_sound ha hl h1]
/-- Where a cut begins. -/
def cutAt (cap l sz o : Nat) : Nat := if cap = l then o else o + l * sz
theorem Qt.sl {lo hi : Option Operand} {cl ch : Nat} [h : SlT P t e sz] (hx : ev m x = some (.slice (some ⟨b, o, none⟩) k cap) := by rfl) (hl : nao m lo 0 = some cl := by rfl)
    (hh : nao m hi k = some ch := by rfl) (hb : cl ≤ ch ∧ ch ≤ cap := by omega) :
    Qt P (.slice t x lo hi none) ty m H Ro (.slice (some ⟨b, cutAt cap cl sz o, none⟩) (ch - cl) (cap - cl)) := fun a w d ps af gd ha _ _ => by
  simp [execOp, Instr.sliceAt, Instr.slice, ev_sound ha hx, h.und, h.size, bounds_sound ha hl hh hb.1 hb.2, addr_add, cutAt]
  split <;> rfl
/-- .. inside, of elements of one cell. -/
theorem Qt.sl1 {lo hi : Option Operand} {cl ch : Nat} [h : SlT P t e 1] (hx : ev m x = some (.slice (some ⟨b, o, none⟩) k cap) := by rfl) (hl : nao m lo 0 = some cl := by rfl)
    (hh : nao m hi k = some ch := by rfl) (hb : cl ≤ ch ∧ ch ≤ cap ∧ cl < cap := by omega) :
    Qt P (.slice t x lo hi none) ty m H Ro (.slice (some ⟨b, o + cl, none⟩) (ch - cl) (cap - cl)) := by
  have := Qt.sl (P := P) (H := H) (Ro := Ro) (ty := ty) (t := t) hx hl hh ⟨hb.1, hb.2.1⟩
  rwa [cutAt, if_neg (by omega), Nat.mul_one] at this
theorem Qt.slS {lo hi : Option Operand} {cl ch : Nat} [h : StrT P t] (hx : ev m x = some (SV l) := by rfl) (hl : nao m lo 0 = some cl := by rfl)
    (hh : nao m hi l.length = some ch := by rfl) (hb : cl ≤ ch ∧ ch ≤ l.length := by omega) :
    Qt P (.slice t x lo hi none) ty m H Ro (SV ((l.take ch).drop cl)) := fun a w d ps af gd ha _ _ => by
  have e : (⟨l.toArray⟩ : ByteArray).size = l.length := by simp [ByteArray.size]
  have := bounds_sound (P := P) (s := false) (w := w) (cap := l.length) (k := l.length) ha hl hh hb.1 hb.2
  simp [execOp, Instr.sliceAt, Instr.slice, ev_sound ha hx, h.und, e, this]
  rw [List.drop_take]
  apply ByteArray.ext
  simp
theorem Qt.slA {lo hi : Option Operand} {cl ch : Nat} [h : ArT P t k e sz] (hx : ev m x = some (.pointer (some ⟨b, o, none⟩)) := by rfl) (hl : nao m lo 0 = some cl := by rfl)
    (hh : nao m hi k = some ch := by rfl) (hb : cl ≤ ch ∧ ch ≤ k := by omega) :
    Qt P (.slice t x lo hi none) ty m H Ro (.slice (some ⟨b, cutAt k cl sz o, none⟩) (ch - cl) (k - cl)) := fun a w d ps af gd ha _ _ => by
  simp [execOp, Instr.sliceAt, Instr.sureAddr, ev_sound ha hx, h.und, h.size, bounds_sound ha hl hh hb.1 hb.2, addr_add, cutAt]
  split <;> rfl
end
end SL
end Go.Proofs.YtlmiekcmjpnobaaGreatDoor
namespace Go.Proofs.YtlmiekcmjpnobaaGreatDoor
open Go
namespace SL
variable {P : Program} {n : Nat} {g : Gx} {Ro : Heap}

/-- The cells of a value. -/
def vcells : Value → List Value
  | .agg cs => cs.toList
  | v => [v]
theorem vcells_eq (v : Value) : v.cells.toList = vcells v := by cases v <;> rfl
theorem vcells_arr (v : Value) : v.cells = (vcells v).toArray := by rw [← vcells_eq]
def one : Value → Bool
  | .agg _ | .tuple _ => false
  | _ => true
theorem one_eq (v : Value) : v.oneCell' = one v := by cases v <;> rfl
def ones (l : List Value) : Bool := l.all one
/-- A row with new cells from a place on. -/
def putL (l : List Value) (o : Nat) (vs : List Value) : List Value := l.take o ++ vs ++ l.drop (o + vs.length)
theorem length_putL {l vs : List Value} {o : Nat} (h : o + vs.length ≤ l.length) : (putL l o vs).length = l.length := by simp [putL]; omega

theorem setRow_up {w : World} {H : Heap} {b : Nat} {l l' : List Value} {t : TypeId} (hh : Hs g Ro w ([(b, .cells l.toArray t (0, 0))] :: H)) :
    Hs g Ro (w.setRow b l'.toArray) ([(b, .cells l'.toArray t (0, 0))] :: H) :=
  hh.put _ (setRow_heap w b _ _ t _ hh.at) (fun k hk => setRow_other w b k _ hk) (by simp [World.setRow]) rfl rfl rfl
theorem run_stores {w : World} {b o : Nat} {l vs : List Value} {t : TypeId} (hb : w.heap[b]? = some (.cells l.toArray t (0, 0))) (hl : o + vs.length ≤ l.length) (h1 : ones vs = true) :
    (storeCells ⟨b, o, none⟩ vs).run P w = .ok () (w.setRow b (putL l o vs).toArray) := by
  have := run_storeCells_at P b o t vs 0 l.toArray w hb (by simpa using hl) (fun v hv => by rw [one_eq]; exact List.all_eq_true.1 h1 v hv)
  simpa [putL] using this

section
variable {m : Env} {H H1 : Heap} {ty t e sz b o : Nat} {x y : Operand} {v : Value} {l vs : List Value}
/-! ### New blocks -/
theorem Ef.al (hz : Zero P t v) : Ef P g Ro (.alloc t) ty m H (fun b => g.w0.heap.size ≤ b) (fun b => .pointer (some ⟨b, 0, none⟩)) (fun b => [(b, .cells (vcells v).toArray t (0, 0))] :: H) := by
  intro a w dst ps af gd K ha hh hk
  simp only [sw, execOp, Instr.alloc, Sem.run_bind, hz.run, Result.andThen_ok, newVar, newRow, Sem.run_pure, run_newObj, vcells_arr]
  exact hk w.heap.size _ hh.size (hh.new _)
theorem Ef.bx (hx : ev m x = some v := by rfl) : Ef P g Ro (.box t x) ty m H (fun b => g.w0.heap.size ≤ b) (fun b => .pointer (some ⟨b, 0, none⟩)) (fun b => [(b, .cells (vcells v).toArray t (0, 0))] :: H) := by
  intro a w dst ps af gd K ha hh hk
  simp only [sw, execOp, Instr.box, Sem.run_bind, ev_sound ha hx, Result.andThen_ok, newVar, newRow, Sem.run_pure, run_newObj, vcells_arr]
  exact hk w.heap.size _ hh.size (hh.new _)
/-! ### Stores -/
theorem Ef.st (hx : ev m x = some (.pointer (some ⟨b, o, none⟩)) := by rfl) (hy : ev m y = some v := by rfl) (hs : SizeOf P t sz := by infer_instance)
    (hr : Rem H [(b, .cells l.toArray e (0, 0))] H1 := by (repeat first | exact Rem.here | apply Rem.there))
    (hc : (vcells v).length = sz ∧ o + sz ≤ l.length ∧ ones (vcells v) = true := by exact ⟨rfl, by decide, rfl⟩) :
    Ef P g Ro (.store t x y) ty m H (fun _ : Unit => True) (fun _ => undef) (fun _ => [(b, .cells (putL l o (vcells v)).toArray e (0, 0))] :: H1) := by
  intro a w dst ps af gd K ha hh hk
  have h1 := hh.rem hr
  have h2 : v.cells.size = sz := by rw [← hc.1, ← vcells_eq]; simp
  have h3 := run_stores (P := P) (vs := vcells v) h1.at (by rw [hc.1]; exact hc.2.1) hc.2.2
  simp only [sw, execOp, Instr.storeAt, Instr.sureAddr, storeVar, Sem.run_bind, Sem.run_pure, ev_sound ha hx, ev_sound ha hy, Result.andThen_ok, hs.run, h2, ne_eq, not_true, if_false, vcells_eq, h3]
  exact hk () _ trivial (setRow_up h1)
end
/-! ### Literals -/
theorem foldl_put (off : Nat) : ∀ (l : List Value) (k : Nat) (z : Array Value), off + k + l.length ≤ z.size →
    (l.zipIdx k).foldl (fun cs (x : Value × Nat) => cs.setIfInBounds (off + x.2) x.1) z = (putL z.toList (off + k) l).toArray
  | [], k, z, _ => by simp [putL]
  | v :: l, k, z, h => by
    have h' : off + k < z.size := by simp at h; omega
    rw [List.zipIdx_cons, List.foldl_cons, foldl_put off l (k + 1) _ (by simp at h ⊢; omega)]
    simp only [putL, Array.toList_setIfInBounds]
    rw [List.take_set, show off + (k + 1) = (off + k) + 1 from rfl, List.take_succ_eq_append_getElem (by simpa using h'), List.set_append, List.drop_set_of_lt (by omega)]
    simp [Nat.min_eq_left (Nat.le_of_lt h')]
    congr 1
    omega
def fillL (place : Nat → Option (Nat × Nat)) : List Value → List (Nat × Value) → Option (List Value)
  | z, [] => some z
  | z, (i, v) :: r =>
    match place i with
    | some (o, s) => bif Nat.beq (vcells v).length s && Nat.ble (o + s) z.length then fillL place (putL z o (vcells v)) r else none
    | none => none
theorem fill_eq {place : Nat → Option (Nat × Nat)} : ∀ {parts : List (Nat × Value)} {z r : List Value}, fillL place z parts = some r → Instr.fill place z.toArray parts = some r.toArray
  | [], z, r, h => by simp [fillL] at h; simp [Instr.fill, h]
  | (i, v) :: parts, z, r, h => by
    simp only [fillL] at h
    cases hp : place i with
    | none => simp [hp] at h
    | some os =>
      obtain ⟨o, s⟩ := os
      simp only [hp] at h
      cases hb : (Nat.beq (vcells v).length s && Nat.ble (o + s) z.length) with
      | false => simp [hb] at h
      | true =>
        simp only [hb, cond_true] at h
        simp only [Bool.and_eq_true] at hb
        have h1 : (vcells v).length = s := Nat.eq_of_beq_eq_true hb.1
        have h2 : o + s ≤ z.length := Nat.le_of_ble_eq_true hb.2
        have h3 : v.cells.size = s := by rw [← h1, ← vcells_eq]; simp
        have h4 : ¬ (o + s > z.length) := by omega
        simp only [Instr.fill, hp, h3, List.size_toArray, ne_eq, not_true, h4, decide_false, Bool.or_self, Bool.false_eq_true, if_false]
        have h5 := foldl_put o (vcells v) 0 z.toArray (by simp; omega)
        rw [show (v.cells.zipIdx.foldl (fun cs x => match x with | (c, j) => cs.setIfInBounds (o + j) c) z.toArray) = (putL z o (vcells v)).toArray from by
          rw [← Array.foldl_toList, Array.toList_zipIdx, vcells_eq]; simpa using h5]
        exact fill_eq h
theorem zrow (z : List Value) : ∀ k, ((Array.range (k * z.length)).map fun i => z.toArray[i % z.toArray.size]!) = (List.replicate k z).flatten.toArray := by
  intro k
  apply Array.ext'
  simp only [Array.toList_map, Array.toList_range]
  induction k with
  | zero => simp
  | succ k ih =>
    rw [Nat.succ_mul, List.range_add, List.map_append, ih, List.replicate_succ', List.flatten_append]
    congr 1
    simp only [List.map_map, List.flatten_cons, List.flatten_nil, List.append_nil]
    apply List.ext_getElem
    · simp
    · intro i h1 h2
      have : (k * z.length + i) % z.length = i := by rw [Nat.mul_comm, Nat.mul_add_mod]; exact Nat.mod_eq_of_lt h2
      simp [this, h2]
/-- Where the parts of a struct lie. -/
class Plc (P : Program) (t : TypeId) (ps : outParam (List (Nat × Nat))) : Prop where
  run : ∃ fs : Array Field, (∀ w, (underlying t).run P w = .ok (.struct fs) w) ∧ ∀ w, (fs.mapM fun f => do pure (f.offset, ← sizeOf f.type) : Sem (Array (Nat × Nat))).run P w = .ok ps.toArray w
inductive Sizes (P : Program) : List Field → List (Nat × Nat) → Prop
  | nil : Sizes P [] []
  | cons {f : Field} {k : Nat} {fs : List Field} {ps : List (Nat × Nat)} : (∀ w, (sizeOf f.type).run P w = .ok k w) → Sizes P fs ps → Sizes P (f :: fs) ((f.offset, k) :: ps)
theorem Sizes.run {fs : List Field} {ps : List (Nat × Nat)} (h : Sizes P fs ps) (w : World) :
    (fs.toArray.mapM fun f => do pure (f.offset, ← sizeOf f.type) : Sem (Array (Nat × Nat))).run P w = .ok ps.toArray w := by
  rw [List.mapM_toArray]
  suffices h2 : (fs.mapM fun f => do pure (f.offset, ← sizeOf f.type) : Sem (List (Nat × Nat))).run P w = .ok ps w by
    simp only [Sem.run_map, h2, Result.andThen_ok]
  induction h with
  | nil => rfl
  | cons hk _ ih => simp only [List.mapM_cons, Sem.run_bind, hk, Result.andThen_ok, Sem.run_pure, ih]
theorem Plc.of {t : TypeId} {fs : List Field} {ps : List (Nat × Nat)} (hu : ∀ w, (underlying t).run P w = .ok (.struct fs.toArray) w) (h : Sizes P fs ps) : Plc P t ps := ⟨fs.toArray, hu, h.run⟩
def pev (m : Env) : List (Nat × Operand) → Option (List (Nat × Value))
  | [] => some []
  | (i, x) :: r => match ev m x, pev m r with
    | some v, some vs => some ((i, v) :: vs)
    | _, _ => none
theorem pev_sound {m : Env} {a : Act} (h : Agree m a) : ∀ {xs : List (Nat × Operand)} {vs : List (Nat × Value)}, pev m xs = some vs → xs.map (fun p => (p.1, a.eval p.2)) = vs
  | [], vs, hx => by simpa [pev] using hx
  | (i, x) :: xs, vs, hx => by
    unfold pev at hx
    cases hv : ev m x with
    | none => simp [hv] at hx
    | some v =>
      cases hs : pev m xs with
      | none => simp [hv, hs] at hx
      | some us =>
        simp [hv, hs] at hx
        subst hx
        simp [ev_sound h hv, pev_sound h hs]
section
variable {m : Env} {H H1 : Heap} {ty t e sz b o k : Nat} {x y : Operand} {v : Value} {l vs z : List Value} {xs : List (Nat × Operand)} {us : List (Nat × Value)} {ps : List (Nat × Nat)}
theorem Qt.bd (h : Plc P t ps := by infer_instance) (hz : Zero P t (.agg z.toArray) := by infer_instance) (hx : pev m xs = some us := by rfl) (hf : fillL (fun i => ps[i]?) z us = some vs := by rfl) :
    Qt P (.build t xs.toArray) ty m H Ro (.agg vs.toArray) := fun a w d pos af gd ha _ _ => by
  obtain ⟨fs, h1, h2⟩ := h.run
  have h3 := pev_sound ha hx
  have h4 : Instr.fill (fun i => ps.toArray[i]?) z.toArray us = some vs.toArray := by
    rw [show (fun i => ps.toArray[i]?) = (fun i => ps[i]?) from by funext i; simp]
    exact fill_eq hf
  simp only [execOp, Instr.build, Sem.run_bind, hz.run, h1, h2, Result.andThen_ok, Value.cells, List.map_toArray, h3, h4, Sem.run_pure]
theorem Ef.bs0 (h : SlT P t e sz := by infer_instance) :
    Ef P g Ro (.buildSlice t 0 #[]) ty m H (fun b => g.w0.heap.size ≤ b) (fun b => .slice (some ⟨b, 0, none⟩) 0 0) (fun b => [(b, .cells [].toArray e (0, 0))] :: H) := by
  intro a w dst pos af gd K ha hh hk
  have h0 : Array.range 0 = #[] := rfl
  simp only [sw, execOp, Instr.buildSlice, Sem.run_bind, h.und, h.size, Result.andThen_ok, Nat.zero_mul, if_true, Sem.run_pure, List.map_toArray, List.map_nil, Instr.fill, newRow, h0]
  exact hk w.heap.size _ hh.size (hh.new _)
theorem Ef.bs (h : SlT P t e sz := by infer_instance) (hz : Zero P e v := by infer_instance) (hx : pev m xs = some us := by rfl)
    (hf : fillL (fun i => some (i * sz, sz)) (List.replicate k (vcells v)).flatten us = some vs := by rfl) (hk : (vcells v).length = sz ∧ k * sz ≤ 16777216 ∧ 0 < k * sz := by decide) :
    Ef P g Ro (.buildSlice t k xs.toArray) ty m H (fun b => g.w0.heap.size ≤ b) (fun b => .slice (some ⟨b, 0, none⟩) k k) (fun b => [(b, .cells vs.toArray e (0, 0))] :: H) := by
  intro a w dst pos af gd K ha hh hk'
  have h1 : ¬ (k * sz > 2 ^ 24) := by omega
  have h2 : k * sz ≠ 0 := by omega
  have h3 : ((Array.range (k * sz)).map fun i => (vcells v).toArray[i % (vcells v).toArray.size]!) = (List.replicate k (vcells v)).flatten.toArray := by
    rw [← zrow, hk.1]
  have h4 := fill_eq hf
  have h5 := pev_sound ha hx
  simp only [sw, execOp, Instr.buildSlice, Sem.run_bind, h.und, h.size, hz.run, Result.andThen_ok, h1, h2, if_false, vcells_arr, List.map_toArray, h3, h4, h5, Sem.run_pure, newRow, run_newObj]
  exact hk' w.heap.size _ hh.size (hh.new _)
end
end SL
end Go.Proofs.YtlmiekcmjpnobaaGreatDoor
namespace Go.Proofs.YtlmiekcmjpnobaaGreatDoor
open Go
namespace SL
variable {P : Program} {n : Nat} {g : Gx} {Ro : Heap}

/-- A slice that owns its row: k elements of sz cells, whose cells are xs; E: the block (none if the slice is nil). -/
def Own (e : TypeId) (sz : Nat) (v : Value) (k : Nat) (xs : List Value) (E : Chunk) : Prop :=
  xs.length = k * sz ∧
  ((v = .slice none 0 0 ∧ k = 0 ∧ E = []) ∨
   ∃ b cap sp, v = .slice (some ⟨b, 0, none⟩) k cap ∧ k ≤ cap ∧ cap ≤ maxLen ∧ E = [(b, .cells (xs ++ sp).toArray e (0, 0))] ∧ (xs ++ sp).length = cap * sz)
theorem Own.nil (e : TypeId) (sz : Nat) : Own e sz (.slice none 0 0) 0 [] [] := ⟨by simp, .inl ⟨rfl, rfl, rfl⟩⟩
theorem Own.mk {e : TypeId} {sz b k cap : Nat} {xs sp : List Value} (h1 : xs.length = k * sz) (h2 : k ≤ cap) (h3 : cap ≤ maxLen) (h4 : (xs ++ sp).length = cap * sz) :
    Own e sz (.slice (some ⟨b, 0, none⟩) k cap) k xs [(b, .cells (xs ++ sp).toArray e (0, 0))] := ⟨h1, .inr ⟨b, cap, sp, rfl, h2, h3, rfl, h4⟩⟩

class Byt (P : Program) (e : TypeId) (bs : outParam Nat) : Prop where
  run : ∃ i : TypeInfo, (∀ w, (typeInfo e).run P w = .ok i w) ∧ i.bytes = bs
/-- What an append takes over: j elements, whose cells are 'news'. -/
structure Src (P : Program) (w : World) (sz : Nat) (x : Value) (j : Nat) (news : List Value) : Prop where
  len : ∀ w', (Builtin.lenOf x).run P w' = .ok j w'
  cells : ∀ w', Grow w w' → (Builtin.firstCells sz j x).run P w' = .ok news.toArray w'
  size : news.length = j * sz
  one : ones news = true
theorem Src.nil (w : World) (sz : Nat) : Src P w sz (.slice none 0 0) 0 [] := ⟨fun _ => rfl, fun _ _ => rfl, by simp, rfl⟩
theorem row_load {w : World} {b o k : Nat} {l vs : List Value} {e : TypeId} {fr : Nat × Nat} (hb : w.heap[b]? = some (.cells l.toArray e fr)) (hv : seg l o k = some vs) :
    (loadCells ⟨b, o, none⟩ k).run P w = .ok vs.toArray w := by
  obtain ⟨h2, h3⟩ := seg_nth hv
  have hc := run_loadCellsFrom (P := P) w ⟨b, o, none⟩ vs k 0 #[] (by omega) (fun j _ hj => by
    rw [addr_add]
    have := h3 j (by omega)
    rw [List.getElem?_eq_getElem hj] at this ⊢
    exact cell_of hb this)
  simpa [loadCells] using hc
theorem Src.slice {w : World} {sz b o j c : Nat} {l vs : List Value} {e : TypeId} {fr : Nat × Nat} (hb : w.heap[b]? = some (.cells l.toArray e fr)) (hv : seg l o (j * sz) = some vs) (h1 : ones vs = true) :
    Src P w sz (.slice (some ⟨b, o, none⟩) j c) j vs :=
  ⟨fun _ => rfl, fun _ hg => by simpa [Builtin.firstCells] using row_load (hg.keeps hb) hv, (seg_nth hv).1, h1⟩
theorem seg_app : ∀ (xs sp : List Value), seg (xs ++ sp) 0 xs.length = some xs
  | [], sp => by cases sp <;> rfl
  | x :: xs, sp => by simp [seg, seg_app xs sp]
theorem grownCap_two (w : World) {need old : Nat} {e : TypeId} (h : need ≤ maxLen) : need ≤ grownCap w need old e ∧ grownCap w need old e ≤ maxLen :=
  ⟨grownCap_ge w need old e, grownCap_le_maxLen w need old e h⟩
theorem Hs.skip0 {w : World} {H : Heap} (h : Hs g Ro w ([] :: H)) : Hs g Ro w H := h.perm (by simp)
theorem Hs.add0 {w : World} {H : Heap} (h : Hs g Ro w H) : Hs g Ro w ([] :: H) := h.perm (by simp)
theorem Hs.dropHead {w : World} {H : Heap} {E : Chunk} (h : Hs g Ro w (E :: H)) : Hs g Ro w H := h.drop (X := [E]) (by simpa using List.perm_append_comm)

theorem fcS (sz k l c : Nat) (a : Addr) : Builtin.firstCells sz k (.slice (some a) l c) = loadCells a (k * sz) := rfl
theorem fcN (sz k l c : Nat) : Builtin.firstCells sz k (.slice none l c) = pure #[] := rfl
theorem a0 {α : Type} (x y : α) : (#[x, y] : Array α)[0]? = some x := rfl
theorem a1 {α : Type} (x y : α) : (#[x, y] : Array α)[1]? = some y := rfl
theorem run_app {w : World} {H : Heap} {E : Chunk} {t ty e sz bs k j : Nat} {v x z : Value} {xs news : List Value}
    (ht : SlT P t e sz) (hz : Zero P e z) (hzs : (vcells z).length = sz) (hb : Byt P e bs) (own : Own e sz v k xs E) (src : Src P w sz x j news)
    (hh : Hs g Ro w (E :: H)) (hl : k + j ≤ maxLen ∧ (k + j) * bs ≤ 140737488355328) :
    ∃ v' E' w', (Builtin.append_ #[t, t] ty #[v, x]).run P w = .ok v' w' ∧ Own e sz v' (k + j) (xs ++ news) E' ∧ Hs g Ro w' (E' :: H) := by
  obtain ⟨ti, hti, hbs⟩ := hb.run
  subst hbs
  have hml : k + j ≤ 9223372036854775807 := by have := hl.1; simp only [maxLen] at this; omega
  have hmax : ¬ (((k + j : Nat) : Int) > IntKind.i64.max) := by
    have h1 : IntKind.i64.max = 9223372036854775807 := by decide
    omega
  have grown : ∀ old, old < k + j → ∃ v' E' w', (Result.ok (Value.slice (some ⟨w.heap.size, 0, none⟩) (k + j) (grownCap w (k + j) old e)) (w.drew.alloc (.cells (xs.toArray ++ news.toArray ++ Builtin.zeroCells z.cells (grownCap w (k + j) old e - (k + j))) e)) : Result Value) = .ok v' w' ∧
      Own e sz v' (k + j) (xs ++ news) E' ∧ Hs g Ro w' (E' :: H) := by
    intro old ho
    obtain ⟨h5, h6⟩ := grownCap_two w (old := old) (e := e) hl.1
    refine ⟨_, [(w.heap.size, .cells (xs ++ news ++ (Builtin.zeroCells z.cells (grownCap w (k + j) old e - (k + j))).toList).toArray e (0, 0))], _, rfl, ?_, ?_⟩
    · refine ⟨by simp [own.1, src.size, Nat.add_mul], .inr ⟨_, _, _, rfl, h5, h6, rfl, ?_⟩⟩
      have hzc : z.cells.size = sz := by rw [← hzs, ← vcells_eq]; simp
      have h9 : (k + j) * sz + (grownCap w (k + j) old e - (k + j)) * sz = grownCap w (k + j) old e * sz := by
        rw [← Nat.add_mul]; congr 1; omega
      simp only [List.length_append, Array.length_toList, size_zeroCells, hzc, own.1, src.size]
      rw [← Nat.add_mul, h9]
    · have he : ∀ Z : Array Value, xs.toArray ++ news.toArray ++ Z = (xs ++ news ++ Z.toList).toArray := fun Z => by apply Array.ext'; simp
      rw [he]
      exact (hh.dropHead.grow (Grow.draw w (w.drawn + 1))).new _
  obtain ⟨hx0, ⟨rfl, rfl, rfl⟩ | ⟨b, cap, sp, rfl, hkc, hcm, rfl, hlen⟩⟩ := own
  · have hxs : xs = [] := List.eq_nil_of_length_eq_zero (by simpa using hx0)
    subst hxs
    by_cases hj : j = 0
    · subst hj
      have hn : news = [] := List.eq_nil_of_length_eq_zero (by simpa using src.size)
      subst hn
      refine ⟨.slice none 0 0, [], w, ?_, Own.nil e sz, hh⟩
      have hc := src.cells w (Grow.refl w)
      simp only [Builtin.append_, a0, a1, Sem.run_bind, ht.und, ht.size, Result.andThen_ok, Sem.run_pure, Bool.false_eq_true, if_false, src.len, Nat.add_zero, Nat.le_refl, if_true, Bool.not_false, hc]
    · obtain ⟨v', E', w', he, h⟩ := grown 0 (by omega)
      refine ⟨v', E', w', ?_, h⟩
      rw [← he]
      have hfit := growslice_fits (need := 0 + j) (old := 0) (bytes := ti.bytes) (by omega) hl.2
      have hc := src.cells w.drew (Grow.draw w _)
      have h0 : ¬ (0 + j ≤ 0) := by omega
      have h48 : ¬ (Builtin.nextslicecap (0 + j) 0 * ti.bytes > 2 ^ 48) := by omega
      have hq : (Question.appendCap (0 + j) 0 e).forced = false := rfl
      simp only [Builtin.append_, a0, a1, Sem.run_bind, ht.und, ht.size, Result.andThen_ok, Sem.run_pure, Bool.false_eq_true, if_false, src.len, h0, hti, hmax, false_and, h48, run_choose, hq,
        run_askRoom, fcN, Bool.not_false, if_true, show ({ w with drawn := w.drawn + 1 } : World) = w.drew from rfl, hc, hz.run, newRow, run_newObj]
      rfl
  · have hsg : seg (xs ++ sp) 0 (k * sz) = some xs := by rw [← hx0]; exact seg_app xs sp
    by_cases hroom : k + j ≤ cap
    · have hc := src.cells w (Grow.refl w)
      have hfit : 0 + k * sz + news.length ≤ (xs ++ sp).length := by rw [src.size, hlen, Nat.zero_add, ← Nat.add_mul]; exact Nat.mul_le_mul_right _ hroom
      have hst := run_stores (P := P) (o := 0 + k * sz) (vs := news) hh.at hfit src.one
      have hput : putL (xs ++ sp) (0 + k * sz) news = (xs ++ news) ++ sp.drop news.length := by
        unfold putL
        rw [Nat.zero_add, ← hx0, List.take_left, List.drop_append]
        simp
      refine ⟨.slice (some ⟨b, 0, none⟩) (k + j) cap, [(b, .cells ((xs ++ news) ++ sp.drop news.length).toArray e (0, 0))], w.setRow b (putL (xs ++ sp) (0 + k * sz) news).toArray, ?_, ?_, ?_⟩
      · simp only [Builtin.append_, a0, a1, Sem.run_bind, ht.und, ht.size, Result.andThen_ok, Sem.run_pure, Bool.false_eq_true, if_false, src.len, hroom, if_true, Bool.not_false, hc, addr_add, hst]
      · refine Own.mk (by simp [hx0, src.size, Nat.add_mul]) hroom hcm ?_
        rw [← hlen]
        simp only [List.length_append, List.length_drop] at hfit ⊢
        omega
      · rw [hput]; exact setRow_up hh
    · obtain ⟨v', E', w', he, h⟩ := grown cap (by omega)
      refine ⟨v', E', w', ?_, h⟩
      rw [← he]
      have hfit := growslice_fits (need := k + j) (old := cap) (bytes := ti.bytes) (by omega) hl.2
      have hc := src.cells w.drew (Grow.draw w _)
      have h48 : ¬ (Builtin.nextslicecap (k + j) cap * ti.bytes > 2 ^ 48) := by omega
      have hq : (Question.appendCap (k + j) cap e).forced = false := rfl
      have hold := row_load (P := P) (w := w.drew) (b := b) (o := 0) (e := e) (fr := (0, 0)) hh.at hsg
      simp only [Builtin.append_, a0, a1, Sem.run_bind, ht.und, ht.size, Result.andThen_ok, Sem.run_pure, Bool.false_eq_true, if_false, src.len, hroom, hti, hmax, false_and, h48, run_choose, hq,
        run_askRoom, fcS, Bool.not_false, if_true, show ({ w with drawn := w.drawn + 1 } : World) = w.drew from rfl, hold, hc, hz.run, newRow, run_newObj]
      rfl

theorem flat_rep (z : Value) : ∀ j, (List.replicate j [z]).flatten = List.replicate j z
  | 0 => rfl
  | j + 1 => by rw [List.replicate_succ, List.flatten_cons, flat_rep z j]; rfl
/-- Zeros are appended (Go's 'append(s, make([]T, n)...)'). -/
theorem run_appz {w : World} {H : Heap} {E : Chunk} {t u ty e bs k j : Nat} {K : IntKind} {v z : Value} {xs : List Value}
    (ht : SlT P t e 1) (hu : IntT P u K) (hz : Zero P e z) (hz1 : one z = true) (hb : Byt P e bs) (own : Own e 1 v k xs E)
    (hh : Hs g Ro w (E :: H)) (hl : k + j < 140737488355328 ∧ (k + j) * bs ≤ 140737488355328 ∧ bs ≠ 0) :
    ∃ v' E' w', (Builtin.append_ #[t, u] ty #[v, .int .i64 (j : Int)]).run P w = .ok v' w' ∧ Own e 1 v' (k + j) (xs ++ List.replicate j z) E' ∧ Hs g Ro w' (E' :: H) := by
  obtain ⟨ti, hti, hbs⟩ := hb.run
  subst hbs
  have hml : k + j ≤ maxLen := by simp only [maxLen]; omega
  have hw : IntKind.i64.wrap (j : Int) = (j : Int) := wrap_in (by simp only [lim]; omega)
  have hneg : ¬ ((j : Int) < 0) := by omega
  have h248 : ¬ ((j : Int) * (ti.bytes : Int) > 2 ^ 48) := by
    have : j * ti.bytes ≤ (k + j) * ti.bytes := Nat.mul_le_mul_right _ (by omega)
    have h2 : ((j * ti.bytes : Nat) : Int) ≤ ((140737488355328 : Nat) : Int) := Int.ofNat_le.2 (by omega)
    rw [Int.natCast_mul] at h2
    omega
  have hmax : ¬ (((k + j : Nat) : Int) > IntKind.i64.max) := by
    have h1 : IntKind.i64.max = 9223372036854775807 := by decide
    omega
  have hzc : vcells z = [z] := by cases z <;> first | rfl | simp [one] at hz1
  have hzcs : z.cells = #[z] := by rw [vcells_arr, hzc]
  have hzl : Builtin.zeroCells z.cells j = (List.replicate j z).toArray := by
    have := zrow [z] j
    simp only [List.length_cons, List.length_nil, Nat.zero_add, Nat.mul_one] at this
    simp only [Builtin.zeroCells, hzcs, List.size_toArray, List.length_cons, List.length_nil, Nat.zero_add, Nat.mul_one] at this ⊢
    rw [this, flat_rep]
  have hj0 : ∀ w' : World, ((if j * 1 = 0 then pure #[] else do pure (Builtin.zeroCells (← zeroValue e).cells j)) : Sem (Array Value)).run P w' = .ok (List.replicate j z).toArray w' := by
    intro w'
    by_cases h : j = 0
    · subst h; rfl
    · simp only [Nat.mul_one, h, if_false, Sem.run_bind, hz.run, Result.andThen_ok, Sem.run_pure, hzl]
  have grown : ∀ old, old < k + j → ∃ v' E' w', (Result.ok (Value.slice (some ⟨w.heap.size, 0, none⟩) (k + j) (grownCap w (k + j) old e)) (w.drew.alloc (.cells (xs.toArray ++ (List.replicate j z).toArray ++ Builtin.zeroCells z.cells (grownCap w (k + j) old e - (k + j))) e)) : Result Value) = .ok v' w' ∧
      Own e 1 v' (k + j) (xs ++ List.replicate j z) E' ∧ Hs g Ro w' (E' :: H) := by
    intro old ho
    obtain ⟨h5, h6⟩ := grownCap_two w (old := old) (e := e) hml
    refine ⟨_, [(w.heap.size, .cells (xs ++ List.replicate j z ++ (Builtin.zeroCells z.cells (grownCap w (k + j) old e - (k + j))).toList).toArray e (0, 0))], _, rfl, ?_, ?_⟩
    · refine ⟨by simp [own.1], .inr ⟨_, _, _, rfl, h5, h6, rfl, ?_⟩⟩
      simp only [List.length_append, Array.length_toList, size_zeroCells, hzcs, own.1, List.length_replicate, List.size_toArray, List.length_cons, List.length_nil]
      omega
    · have he : ∀ Z : Array Value, xs.toArray ++ (List.replicate j z).toArray ++ Z = (xs ++ List.replicate j z ++ Z.toList).toArray := fun Z => by apply Array.ext'; simp
      rw [he]
      exact (hh.dropHead.grow (Grow.draw w (w.drawn + 1))).new _
  obtain ⟨hx0, ⟨rfl, rfl, rfl⟩ | ⟨b, cap, sp, rfl, hkc, hcm, rfl, hlen⟩⟩ := own
  · have hxs : xs = [] := List.eq_nil_of_length_eq_zero (by simpa using hx0)
    subst hxs
    by_cases hj : j = 0
    · subst hj
      refine ⟨.slice none 0 0, [], w, ?_, Own.nil e 1, hh⟩
      simp only [Int.natCast_zero] at hw hneg h248
      simp only [Builtin.append_, a0, a1, Sem.run_bind, ht.und, ht.size, hu.und, Result.andThen_ok, Sem.run_pure, if_true, asInt, asIntOf, Int.natCast_zero, hw, hneg, hti, h248, if_false, Int.toNat_zero, Nat.add_zero, Nat.le_refl, Bool.not_true, Bool.false_eq_true, Nat.zero_mul]
    · obtain ⟨v', E', w', he, h⟩ := grown 0 (by omega)
      refine ⟨v', E', w', ?_, h⟩
      rw [← he]
      have hfit := growslice_fits (need := 0 + j) (old := 0) (bytes := ti.bytes) (by omega) hl.2.1
      have h0 : ¬ (0 + j ≤ 0) := by omega
      have h48 : ¬ (Builtin.nextslicecap (0 + j) 0 * ti.bytes > 2 ^ 48) := by omega
      have hq : (Question.appendCap (0 + j) 0 e).forced = false := rfl
      simp only [Builtin.append_, a0, a1, Sem.run_bind, ht.und, ht.size, hu.und, Result.andThen_ok, Sem.run_pure, if_true, asInt, asIntOf, hw, hneg, hti, h248, if_false, Int.toNat_natCast, h0, hmax, false_and, h48, run_choose, hq, Bool.false_eq_true,
        run_askRoom, fcN, Bool.not_true, hj0, show ({ w with drawn := w.drawn + 1 } : World) = w.drew from rfl, hz.run, newRow, run_newObj]
      rfl
  · have hsg : seg (xs ++ sp) 0 (k * 1) = some xs := by rw [← hx0]; exact seg_app xs sp
    have hone : ones (List.replicate j z) = true := by simp [ones, hz1]
    by_cases hroom : k + j ≤ cap
    · have hfit : 0 + k * 1 + (List.replicate j z).length ≤ (xs ++ sp).length := by rw [hlen, List.length_replicate]; omega
      have hst := run_stores (P := P) (o := 0 + k * 1) (vs := List.replicate j z) hh.at hfit hone
      have hput : putL (xs ++ sp) (0 + k * 1) (List.replicate j z) = (xs ++ List.replicate j z) ++ sp.drop (List.replicate j z).length := by
        unfold putL
        rw [Nat.zero_add, ← hx0, List.take_left, List.drop_append]
        simp
      refine ⟨.slice (some ⟨b, 0, none⟩) (k + j) cap, [(b, .cells ((xs ++ List.replicate j z) ++ sp.drop (List.replicate j z).length).toArray e (0, 0))], w.setRow b (putL (xs ++ sp) (0 + k * 1) (List.replicate j z)).toArray, ?_, ?_, ?_⟩
      · simp only [Builtin.append_, a0, a1, Sem.run_bind, ht.und, ht.size, hu.und, Result.andThen_ok, Sem.run_pure, if_true, asInt, asIntOf, hw, hneg, hti, h248, if_false, Int.toNat_natCast, hroom, Bool.not_true, Bool.false_eq_true, hj0, addr_add, hst]
      · refine Own.mk (by simp [hx0]) hroom hcm ?_
        rw [← hlen]
        simp only [List.length_append, List.length_drop] at hfit ⊢
        omega
      · rw [hput]; exact setRow_up hh
    · obtain ⟨v', E', w', he, h⟩ := grown cap (by omega)
      refine ⟨v', E', w', ?_, h⟩
      rw [← he]
      have hfit := growslice_fits (need := k + j) (old := cap) (bytes := ti.bytes) (by omega) hl.2.1
      have h48 : ¬ (Builtin.nextslicecap (k + j) cap * ti.bytes > 2 ^ 48) := by omega
      have hq : (Question.appendCap (k + j) cap e).forced = false := rfl
      have hold := row_load (P := P) (w := w.drew) (b := b) (o := 0) (e := e) (fr := (0, 0)) hh.at hsg
      simp only [Builtin.append_, a0, a1, Sem.run_bind, ht.und, ht.size, hu.und, Result.andThen_ok, Sem.run_pure, if_true, asInt, asIntOf, hw, hneg, hti, h248, if_false, Int.toNat_natCast, hroom, hmax, false_and, h48, run_choose, hq, Bool.false_eq_true,
        run_askRoom, fcS, Bool.not_true, hj0, show ({ w with drawn := w.drawn + 1 } : World) = w.drew from rfl, hold, hz.run, newRow, run_newObj]
      rfl

section
variable {m : Env} {H H1 : Heap} {E : Chunk} {ty t u e sz bs b o k j c : Nat} {x y : Operand} {v z : Value} {l xs vs : List Value} {fr : Nat × Nat}
/-- 'append(x, y...)', x a slice that owns its row, y the elements of a known row. -/
theorem Ef.ap (own : Own e sz v k xs E) (hx : ev m x = some v := by rfl) (hy : ev m y = some (.slice (some ⟨b, o, none⟩) j c) := by rfl)
    (ht : SlT P t e sz := by infer_instance) (hz : Zero P e z := by infer_instance) (hb : Byt P e bs := by infer_instance)
    (hr : Rem H E H1 := by (repeat first | exact Rem.here | apply Rem.there)) (hm : InB H Ro b (.cells l.toArray u fr) := by infer_instance)
    (hs : seg l o (j * sz) = some vs := by rfl) (hl : (vcells z).length = sz ∧ ones vs = true ∧ k + j ≤ maxLen ∧ (k + j) * bs ≤ 140737488355328 := by exact ⟨rfl, rfl, by simp only [maxLen]; omega, by omega⟩) :
    Ef P g Ro (.call ⟨.builtin .append, #[x, y], #[t, t]⟩) ty m H (fun r : Value × Chunk => Own e sz r.1 (k + j) (xs ++ vs) r.2) (fun r => r.1) (fun r => r.2 :: H1) := by
  intro a w dst ps af gd K ha hh hk
  have src := Src.slice (P := P) (c := c) (hm.at hh.sub hh.ro) hs hl.2.1
  obtain ⟨v', E', w', h1, h2, h3⟩ := run_app (ty := ty) ht hz hl.1 hb own src (hh.rem hr) hl.2.2
  simp only [sw, execOp, resolve, Sem.run_bind, Sem.run_pure, Result.andThen_ok, invoke, builtin, List.map_toArray, List.map_cons, List.map_nil, ev_sound ha hx, ev_sound ha hy, h1]
  exact hk (v', E') w' h2 h3
theorem Ef.apN (own : Own e sz v k xs E) (hx : ev m x = some v := by rfl) (hy : ev m y = some (.slice none 0 0) := by rfl)
    (ht : SlT P t e sz := by infer_instance) (hz : Zero P e z := by infer_instance) (hb : Byt P e bs := by infer_instance)
    (hr : Rem H E H1 := by (repeat first | exact Rem.here | apply Rem.there)) (hl : (vcells z).length = sz ∧ k ≤ maxLen ∧ k * bs ≤ 140737488355328 := by exact ⟨rfl, by simp only [maxLen]; omega, by omega⟩) :
    Ef P g Ro (.call ⟨.builtin .append, #[x, y], #[t, t]⟩) ty m H (fun r : Value × Chunk => Own e sz r.1 k xs r.2) (fun r => r.1) (fun r => r.2 :: H1) := by
  intro a w dst ps af gd K ha hh hk
  obtain ⟨v', E', w', h1, h2, h3⟩ := run_app (ty := ty) ht hz hl.1 hb own (Src.nil (P := P) w sz) (hh.rem hr) hl.2
  rw [List.append_nil] at h2
  simp only [sw, execOp, resolve, Sem.run_bind, Sem.run_pure, Result.andThen_ok, invoke, builtin, List.map_toArray, List.map_cons, List.map_nil, ev_sound ha hx, ev_sound ha hy, h1]
  exact hk (v', E') w' h2 h3
theorem Ef.apZ {K : IntKind} (own : Own e 1 v k xs E) (hx : ev m x = some v := by rfl) (hy : nv m y = some (.i64, j) := by rfl)
    (ht : SlT P t e 1 := by infer_instance) (hu : IntT P u K := by infer_instance) (hz : Zero P e z := by infer_instance) (hb : Byt P e bs := by infer_instance)
    (hr : Rem H E H1 := by (repeat first | exact Rem.here | apply Rem.there)) (hl : one z = true ∧ k + j < 140737488355328 ∧ (k + j) * bs ≤ 140737488355328 ∧ bs ≠ 0 := by exact ⟨rfl, by omega, by omega, by decide⟩) :
    Ef P g Ro (.call ⟨.builtin .append, #[x, y], #[t, u]⟩) ty m H (fun r : Value × Chunk => Own e 1 r.1 (k + j) (xs ++ List.replicate j z) r.2) (fun r => r.1) (fun r => r.2 :: H1) := by
  intro a w dst ps af gd K ha hh hk
  obtain ⟨v', E', w', h1, h2, h3⟩ := run_appz (ty := ty) ht hu hz hl.1 hb own (hh.rem hr) hl.2
  simp only [sw, execOp, resolve, Sem.run_bind, Sem.run_pure, Result.andThen_ok, invoke, builtin, List.map_toArray, List.map_cons, List.map_nil, ev_sound ha hx, nv_sound ha hy, h1]
  exact hk (v', E') w' h2 h3
end
end SL
end Go.Proofs.YtlmiekcmjpnobaaGreatDoor
namespace Go.Proofs.YtlmiekcmjpnobaaGreatDoor
open Go
namespace SL
variable {P : Program} {n : Nat} {g : Gx} {Ro : Heap}

/-- Bytes as cells. -/
def bc (l : List UInt8) : List Value := l.map fun b => N .u8 b.toNat
theorem bc_length (l : List UInt8) : (bc l).length = l.length := by simp [bc]
theorem bc_app (l r : List UInt8) : bc (l ++ r) = bc l ++ bc r := by simp [bc]
theorem bc_ones (l : List UInt8) : ones (bc l) = true := by simp [ones, bc, one]
theorem bc_take (l : List UInt8) (k : Nat) : bc (l.take k) = (bc l).take k := by simp [bc, List.map_take]
theorem bc_drop (l : List UInt8) (k : Nat) : bc (l.drop k) = (bc l).drop k := by simp [bc, List.map_drop]
theorem nth_bc {l : List UInt8} {i : Nat} {c : UInt8} (h : l[i]? = some c) : nth (bc l) i = some (N .u8 c.toNat) := by simp [nth_eq, bc, h]
theorem nth_get {l : List UInt8} {i : Nat} (h : i < l.length) : nth (bc l) i = some (N .u8 l[i].toNat) := nth_bc (List.getElem?_eq_getElem h)
theorem nth_app {l r : List Value} {i : Nat} {v : Value} (h : nth l i = some v) : nth (l ++ r) i = some v := by
  rw [nth_eq] at h ⊢
  rw [List.getElem?_append_left (List.getElem?_eq_some_iff.1 h).1, h]
theorem seg_eq : ∀ {l : List Value} {o k : Nat}, o + k ≤ l.length → seg l o k = some ((l.drop o).take k)
  | l, o, 0, _ => by cases l <;> cases o <;> simp [seg]
  | [], _, _ + 1, h => by simp at h
  | v :: r, 0, k + 1, h => by
    have h2 : 0 + k ≤ r.length := by simp at h; omega
    simp only [seg, seg_eq h2, List.drop_zero, Option.map_some, List.take_succ_cons]
  | _ :: r, o + 1, k + 1, h => by
    have h2 : o + (k + 1) ≤ r.length := by simp at h; omega
    simp only [seg, seg_eq h2, List.drop_succ_cons]
theorem seg_bc {l : List UInt8} {o k : Nat} (h : o + k ≤ l.length) : seg (bc l) o k = some (bc ((l.drop o).take k)) := by
  rw [seg_eq (by rw [bc_length]; exact h), bc_take, bc_drop]
theorem ones_seg {l : List Value} {o k : Nat} (h : ones l = true) : ones ((l.drop o).take k) = true :=
  List.all_eq_true.2 fun v hv => List.all_eq_true.1 h v (List.mem_of_mem_drop (List.mem_of_mem_take hv))

section
variable {m : Env} {H H1 : Heap} {ty t u e sz bs b o k j c : Nat} {x y z : Operand} {v : Value} {l l2 vs : List Value} {fr : Nat × Nat} {s : List UInt8}
/-! ### copy -/
/-- 'copy(x, y)': into a known row, from a known row (of elements of one cell). -/
theorem Ef.cp {b2 o2 j2 c2 e2 e3 : Nat} (hx : ev m x = some (.slice (some ⟨b, o, none⟩) k c) := by rfl) (hy : ev m y = some (.slice (some ⟨b2, o2, none⟩) j2 c2) := by rfl)
    (ht : SlT P t e 1 := by infer_instance) (hr : Rem H [(b, .cells l.toArray e2 (0, 0))] H1 := by (repeat first | exact Rem.here | apply Rem.there))
    (hm : InB H Ro b2 (.cells l2.toArray e3 fr) := by infer_instance) (hs : seg l2 o2 (Nat.min j2 k) = some vs := by rfl)
    (hl : o + Nat.min j2 k ≤ l.length ∧ ones vs = true := by exact ⟨by omega, rfl⟩) :
    Ef P g Ro (.call ⟨.builtin .copy, #[x, y], #[t, u]⟩) ty m H (fun _ : Unit => True) (fun _ => N .i64 (Nat.min j2 k)) (fun _ => [(b, .cells (putL l o vs).toArray e2 (0, 0))] :: H1) := by
  intro a w dst ps af gd K ha hh hk
  have h2 := row_load (P := P) (hm.at hh.sub hh.ro) hs
  have h1 := hh.rem hr
  have h3 := run_stores (P := P) (o := o) (vs := vs) h1.at (by rw [(seg_nth hs).1]; exact hl.1) hl.2
  simp only [sw, execOp, resolve, Sem.run_bind, Sem.run_pure, Result.andThen_ok, invoke, builtin, List.map_toArray, List.map_cons, List.map_nil, ev_sound ha hx, ev_sound ha hy,
    Builtin.copy_, a0, a1, ht.und, ht.size, Builtin.lenOf, fcS, Nat.mul_one, h2, h3, goInt]
  exact hk () _ trivial (setRow_up h1)
/-- 'copy(x, s)': from a text. -/
theorem Ef.cpS {e2 : Nat} (hx : ev m x = some (.slice (some ⟨b, o, none⟩) k c) := by rfl) (hy : ev m y = some (SV s) := by rfl)
    (ht : SlT P t e 1 := by infer_instance) (hr : Rem H [(b, .cells l.toArray e2 (0, 0))] H1 := by (repeat first | exact Rem.here | apply Rem.there))
    (hl : o + Nat.min s.length k ≤ l.length := by omega) :
    Ef P g Ro (.call ⟨.builtin .copy, #[x, y], #[t, u]⟩) ty m H (fun _ : Unit => True) (fun _ => N .i64 (Nat.min s.length k)) (fun _ => [(b, .cells (putL l o (bc (s.take (Nat.min s.length k)))).toArray e2 (0, 0))] :: H1) := by
  intro a w dst ps af gd K ha hh hk
  have h1 := hh.rem hr
  have e0 : (⟨s.toArray⟩ : ByteArray).size = s.length := by simp [ByteArray.size]
  have h2 : (((⟨s.toArray⟩ : ByteArray).extract 0 (Nat.min s.length k)).data.map fun b => Value.int .u8 (b.toNat : Int)) = (bc (s.take (Nat.min s.length k))).toArray := by
    apply Array.ext'
    simp [bc]
    rfl
  have hk2 : Nat.min s.length k ≤ s.length := Nat.min_le_left _ _
  have h3 := run_stores (P := P) (o := o) (vs := bc (s.take (Nat.min s.length k))) h1.at (by rw [bc_length, List.length_take, Nat.min_eq_left hk2]; exact hl) (bc_ones _)
  simp only [sw, execOp, resolve, Sem.run_bind, Sem.run_pure, Result.andThen_ok, invoke, builtin, List.map_toArray, List.map_cons, List.map_nil, ev_sound ha hx, ev_sound ha hy,
    Builtin.copy_, a0, a1, ht.und, ht.size, Builtin.lenOf, Builtin.firstCells, e0, h2, h3, goInt]
  exact hk () _ trivial (setRow_up h1)
/-! ### make -/
theorem Ef.mk {K : IntKind} {J : IntKind} (hx : nv m x = some (K, k) := by rfl) (hy : nv m y = some (J, c) := by rfl) (ht : SlT P t e sz := by infer_instance) (hz : Zero P e v := by infer_instance)
    (hb : Byt P e bs := by infer_instance) (hl : (vcells v).length = sz ∧ k ≤ c ∧ c < 140737488355328 ∧ bs * c ≤ 140737488355328 := by exact ⟨rfl, by omega, by omega, by omega⟩) :
    Ef P g Ro (.makeSlice t x y) ty m H (fun b => g.w0.heap.size ≤ b) (fun b => .slice (some ⟨b, 0, none⟩) k c) (fun b => [(b, .cells (List.replicate c (vcells v)).flatten.toArray e (0, 0))] :: H) := by
  intro a w dst ps af gd K' ha hh hk
  obtain ⟨ti, hti, hbs⟩ := hb.run
  subst hbs
  have w1 : IntKind.i64.wrap (k : Int) = (k : Int) := wrap_in (by simp only [lim]; omega)
  have w2 : IntKind.i64.wrap (c : Int) = (c : Int) := wrap_in (by simp only [lim]; omega)
  have h1 : decide ((c : Int) < 0) = false := by simp
  have h2 : decide ((ti.bytes : Int) * (c : Int) > 2 ^ 48) = false := by
    have h2 : ((ti.bytes * c : Nat) : Int) ≤ ((140737488355328 : Nat) : Int) := Int.ofNat_le.2 (by omega)
    rw [Int.natCast_mul] at h2
    simp only [decide_eq_false_iff_not]; omega
  have h3 : decide ((k : Int) < 0) = false := by simp
  have h4 : decide ((k : Int) > (c : Int)) = false := by simp; omega
  by_cases h0 : c * sz = 0
  · have h5 : (List.replicate c (vcells v)).flatten = [] := List.eq_nil_of_length_eq_zero (by simp [hl.1, h0])
    have h6 : Array.range 0 = #[] := rfl
    simp only [sw, execOp, Instr.makeSlice, Sem.run_bind, ht.und, ht.size, Result.andThen_ok, asInt, asIntOf, nv_sound ha hx, nv_sound ha hy, Sem.run_pure, hti, w1, w2, h1, h2, h3, h4, Bool.or_self, Bool.false_eq_true, if_false,
      run_askRoom, Int.toNat_natCast, h0, if_true, newRow, run_newObj, h6, Array.map_empty]
    have := hk w.heap.size _ hh.size (hh.new (.cells (List.replicate c (vcells v)).flatten.toArray e))
    rw [h5] at this
    exact this
  · have h5 : ((Array.range (c * sz)).map fun i => (vcells v).toArray[i % (vcells v).toArray.size]!) = (List.replicate c (vcells v)).flatten.toArray := by rw [← zrow, hl.1]
    simp only [sw, execOp, Instr.makeSlice, Sem.run_bind, ht.und, ht.size, Result.andThen_ok, asInt, asIntOf, nv_sound ha hx, nv_sound ha hy, Sem.run_pure, hti, w1, w2, h1, h2, h3, h4, Bool.or_self, Bool.false_eq_true, if_false,
      run_askRoom, Int.toNat_natCast, h0, hz.run, vcells_arr, h5, newRow, run_newObj]
    exact hk w.heap.size _ hh.size (hh.new _)
/-! ### texts and bytes -/
class BytT (P : Program) (t : TypeId) (e : outParam Nat) : Prop where
  und : ∀ w, (underlying t).run P w = .ok (.slice e) w
  elem : ∀ w, (underlying e).run P w = .ok (.int .u8) w
theorem Ef.sb (hx : ev m x = some (SV s) := by rfl) (hu : StrT P u := by infer_instance) (ht : BytT P t e := by infer_instance) :
    Ef P g Ro (.convert u t x) ty m H (fun r : Nat × Nat => g.w0.heap.size ≤ r.1 ∧ s.length ≤ r.2) (fun r => .slice (some ⟨r.1, 0, none⟩) s.length r.2)
      (fun r => [(r.1, .cells (bc s ++ List.replicate (r.2 - s.length) (N .u8 0)).toArray e (r.2, r.2 + 1))] :: H) := by
  intro a w dst ps af gd K ha hh hk
  have e0 : (⟨s.toArray⟩ : ByteArray).size = s.length := by simp [ByteArray.size]
  have hq : (Question.appendCap s.length 0 e).forced = false := rfl
  have hge := grownCap_ge w s.length 0 e
  have e1 : ((⟨s.toArray⟩ : ByteArray).data.map fun b => Value.int .u8 (b.toNat : Int)) ++ Array.replicate (grownCap w s.length 0 e - s.length) (.int .u8 0) =
      (bc s ++ List.replicate (grownCap w s.length 0 e - s.length) (N .u8 0)).toArray := by
    apply Array.ext'
    simp [bc]
    rfl
  have hsz : (bc s ++ List.replicate (grownCap w s.length 0 e - s.length) (N .u8 0)).toArray.size = grownCap w s.length 0 e := by simp [bc]; omega
  have hnew := (hh.grow (Grow.draw w (w.drawn + 1))).new (.cells (bc s ++ List.replicate (grownCap w s.length 0 e - s.length) (N .u8 0)).toArray e (0, 0))
  generalize hR : bc s ++ List.replicate (grownCap w s.length 0 e - s.length) (N .u8 0) = R at *
  generalize hC : grownCap w s.length 0 e = C at *
  simp only [sw, execOp, convert, Sem.run_bind, hu.und, ht.und, ht.elem, Result.andThen_ok, ev_sound ha hx, Conv.stringToBytes, e0, run_choose, hq, Bool.false_eq_true, if_false,
    show (Question.appendCap s.length 0 e).cut (w.tape w.drawn (.appendCap s.length 0 e)) = C from hC, e1, newRow, run_newObj, Sem.run_pure, markStringish, run_shape]
  have hsh : World.shape? { w with heap := w.heap.push (.cells R.toArray e (0, 0)), drawn := w.drawn + 1 } w.heap.size = some (e, C) := by
    simp [World.shape?]
    simpa using hsz
  simp only [hsh, run_freeze, Result.andThen_ok]
  refine hk (w.heap.size, C) _ ⟨hh.size, hge⟩ ?_
  simp only
  rw [hR]
  refine hnew.put _ ?_ (fun q hq => ?_) ?_ ?_ ?_ ?_
  · simp only [World.freeze, Nat.one_ne_zero, if_false, Array.getElem?_modify, if_true]
    simp
  · simp [World.freeze, Array.getElem?_modify, Ne.symm hq]
  · simp [World.freeze]
  · simp [World.freeze]
  · simp [World.freeze]
  · simp [World.freeze]
end
end SL
end Go.Proofs.YtlmiekcmjpnobaaGreatDoor
namespace Go.Proofs.YtlmiekcmjpnobaaGreatDoor
open Go
namespace SL
variable {P : Program} {n : Nat} {g : Gx} {Ro : Heap}

class IfT (P : Program) (t : TypeId) : Prop where
  und : ∃ ms, ∀ w, (underlying t).run P w = .ok (.interface ms) w
class NoIf (P : Program) (t : TypeId) : Prop where
  und : ∃ d, (∀ w, (underlying t).run P w = .ok d w) ∧ ∀ ms, d ≠ .interface ms
class PtrT (P : Program) (t : TypeId) (e : outParam Nat) : Prop where
  und : ∀ w, (underlying t).run P w = .ok (.pointer e) w
  size : ∃ k, ∀ w, (sizeOf e).run P w = .ok (k + 1) w

theorem nilL : (Value.nilIface matches .nilIface) = true := rfl

section
variable {m : Env} {H H1 : Heap} {ty t t' u e sz b o k j c : Nat} {x y z : Operand} {v : Value} {l vs : List Value} {fr : Nat × Nat} {s s2 : List UInt8} {f : FuncId}
theorem fold_push : ∀ (s : List UInt8) (r : ByteArray), (s.map fun b => (Int.ofNat b.toNat)).foldl (fun r n => r.push (UInt8.ofNat n.toNat)) r = ⟨r.data ++ s.toArray⟩
  | [], r => by simp
  | c :: s, r => by
    rw [List.map_cons, List.foldl_cons, fold_push s]
    have : UInt8.ofNat (Int.ofNat c.toNat).toNat = c := by simp
    rw [this]
    apply ByteArray.ext
    simp [ByteArray.push]
theorem run_bts {w : World} {cap : Nat} {p : Addr} {s : List UInt8} (h : (loadCells p k).run P w = .ok (bc s).toArray w) : (Conv.bytesToString (.slice (some p) k cap)).run P w = .ok (SV s) w := by
  rw [run_bytesToString w p k cap (s.map fun b => (Int.ofNat b.toNat)) (by rw [h]; simp [bc])]
  rw [fold_push]
  simp [ByteArray.empty, ByteArray.emptyWithCapacity]
  rfl
theorem Qt.bts (hx : ev m x = some (.slice (some ⟨b, o, none⟩) k c) := by rfl) (hs : seg l o k = some (bc s)) (hm : InB H Ro b (.cells l.toArray e fr) := by infer_instance)
    (ht : BytT P t u := by infer_instance) (hu : StrT P t' := by infer_instance) : Qt P (.convert t t' x) ty m H Ro (SV s) := fun a w d ps af gd ha hh hr => by
  have h := run_bts (P := P) (cap := c) (row_load (P := P) (hm.at hh hr) hs)
  simp only [execOp, convert, Sem.run_bind, ht.und, ht.elem, hu.und, Result.andThen_ok, ev_sound ha hx, h]
  rfl
theorem Qt.mf {fi ca : List Operand} {fv cv : List Value} (hf : evs m fi = some fv := by rfl) (hc : evs m ca = some cv := by rfl) :
    Qt P (.makeFunc (.func f) fi.toArray ca.toArray) ty m H Ro (.func (.func f) fv.toArray cv.toArray) := fun a w d ps af gd ha _ _ => by
  simp [execOp, Instr.makeFunc, evs_sound ha hf, evs_sound ha hc]
theorem Qt.ex (hx : ev m x = some (.tuple vs.toArray) := by rfl) (hv : nth vs k = some v := by rfl) : Qt P (.extract x k) ty m H Ro v := fun a w d ps af gd ha _ _ => by
  rw [nth_eq] at hv
  simp [execOp, Instr.extract, ev_sound ha hx, hv]
/-! ### Tests -/
theorem ev_const (a : Act) (v : Value) : a.eval (.const v) = v := rfl
theorem eqOp {r : Bool} {v u : Value} (h : ∀ d w, (Op.equalIn (d + 1) t v u).run P w = .ok r w) (w : World) : (Op.equal t v u).run P w = .ok r w := h 9999 w
theorem Qt.beq {p q : Bool} (hx : ev m x = some (.bool p) := by rfl) (hy : ev m y = some (.bool q) := by rfl) (hu : ∀ w, (underlying t).run P w = .ok .bool w) :
    Qt P (.binOp .eql t x y t') ty m H Ro (.bool (p == q)) := fun a w d ps af gd ha _ _ => by
  have h : ∀ d w, (Op.equalIn (d + 1) t (.bool p) (.bool q)).run P w = .ok (p == q) w := fun d w => by simp [Op.equalIn, hu]
  simp only [execOp, ev_sound ha hx, ev_sound ha hy, eqGuard, binOp, Sem.run_bind, Sem.run_pure, Result.andThen_ok, eqOp h]
  rfl
theorem Qt.seqT (hx : ev m x = some (SV s) := by rfl) (hy : ev m y = some (SV s2) := by rfl) (h : s = s2) : Qt P (.binOp .eql t x y t') ty m H Ro (.bool true) := fun a w d ps af gd ha _ _ => by
  simp [execOp, ev_sound ha hx, ev_sound ha hy, eqGuard, binOp, Op.stringOp, h]
theorem Qt.seqF (hx : ev m x = some (SV s) := by rfl) (hy : ev m y = some (SV s2) := by rfl) (h : s ≠ s2) : Qt P (.binOp .eql t x y t') ty m H Ro (.bool false) := fun a w d ps af gd ha _ _ => by
  simp [execOp, ev_sound ha hx, ev_sound ha hy, eqGuard, binOp, Op.stringOp, h]
theorem Qt.sneT (hx : ev m x = some (SV s) := by rfl) (hy : ev m y = some (SV s2) := by rfl) (h : s ≠ s2) : Qt P (.binOp .neq t x y t') ty m H Ro (.bool true) := fun a w d ps af gd ha _ _ => by
  simp [execOp, ev_sound ha hx, ev_sound ha hy, eqGuard, binOp, Op.stringOp, h]
theorem Qt.sneF (hx : ev m x = some (SV s) := by rfl) (hy : ev m y = some (SV s2) := by rfl) (h : s = s2) : Qt P (.binOp .neq t x y t') ty m H Ro (.bool false) := fun a w d ps af gd ha _ _ => by
  simp [execOp, ev_sound ha hx, ev_sound ha hy, eqGuard, binOp, Op.stringOp, h]
theorem Qt.sltT (hx : ev m x = some (SV s) := by rfl) (hy : ev m y = some (SV s2) := by rfl) (h : Op.bytesLess s s2 = true) : Qt P (.binOp .lss t x y t') ty m H Ro (.bool true) := fun a w d ps af gd ha _ _ => by
  simp [execOp, ev_sound ha hx, ev_sound ha hy, eqGuard, binOp, Op.stringOp, h]
theorem Qt.sltF (hx : ev m x = some (SV s) := by rfl) (hy : ev m y = some (SV s2) := by rfl) (h : Op.bytesLess s s2 = false) : Qt P (.binOp .lss t x y t') ty m H Ro (.bool false) := fun a w d ps af gd ha _ _ => by
  simp [execOp, ev_sound ha hx, ev_sound ha hy, eqGuard, binOp, Op.stringOp, h]
theorem Qt.cat (hx : ev m x = some (SV s) := by rfl) (hy : ev m y = some (SV s2) := by rfl) (h : s.length + s2.length ≤ 9223372036854775807 := by (simp only [List.length_append, List.length_cons, List.length_nil]; omega)) :
    Qt P (.binOp .add t x y t') ty m H Ro (SV (s ++ s2)) := fun a w d ps af gd ha _ _ => by
  have e1 : (⟨s.toArray⟩ : ByteArray).size = s.length := by simp [ByteArray.size]
  have e2 : (⟨s2.toArray⟩ : ByteArray).size = s2.length := by simp [ByteArray.size]
  have h1 : IntKind.i64.max = 9223372036854775807 := by decide
  have h2 : ¬ (((s.length + s2.length : Nat) : Int) > 9223372036854775807) := by omega
  have e3 : (⟨s.toArray⟩ : ByteArray) ++ ⟨s2.toArray⟩ = ⟨(s ++ s2).toArray⟩ := by apply ByteArray.ext; simp
  simp only [execOp, Sem.run_bind, ev_sound ha hx, ev_sound ha hy, eqGuard, binOp, Op.stringOp, e1, e2, h1, h2, if_false, e3, Sem.run_pure]
  rfl
/-- An interface value against the literal nil. -/
theorem Qt.ineNil (hx : ev m x = some .nilIface := by rfl) (h : IfT P t := by infer_instance) : Qt P (.binOp .neq t x (.const .nilIface) t') ty m H Ro (.bool false) := fun a w d ps af gd ha _ _ => by
  obtain ⟨ms, hm⟩ := h.und
  have h : ∀ d w, (Op.equalIn (d + 1) t .nilIface .nilIface).run P w = .ok true w := fun d w => by simp [Op.equalIn, hm]
  simp only [execOp, ev_sound ha hx, ev_const, eqGuard, binOp, Sem.run_bind, Sem.run_pure, Result.andThen_ok, eqOp h, Bool.or_true, if_true, Bool.not_true, Bool.false_eq_true, ite_self]
  try rfl
theorem Qt.ieqNil (hx : ev m x = some .nilIface := by rfl) (h : IfT P t := by infer_instance) : Qt P (.binOp .eql t x (.const .nilIface) t') ty m H Ro (.bool true) := fun a w d ps af gd ha _ _ => by
  obtain ⟨ms, hm⟩ := h.und
  have h : ∀ d w, (Op.equalIn (d + 1) t .nilIface .nilIface).run P w = .ok true w := fun d w => by simp [Op.equalIn, hm]
  simp only [execOp, ev_sound ha hx, ev_const, eqGuard, binOp, Sem.run_bind, Sem.run_pure, Result.andThen_ok, eqOp h, Bool.or_true, if_true, Bool.not_true, Bool.false_eq_true, ite_self]
  try rfl
/-- A pointer against nil. -/
theorem Qt.peqNil (hx : ev m x = some (.pointer none) := by rfl) (h : PtrT P t e := by infer_instance) : Qt P (.binOp .eql t x (.const (.pointer none)) t') ty m H Ro (.bool true) := fun a w d ps af gd ha _ _ => by
  have h : ∀ d w, (Op.equalIn (d + 1) t (.pointer none) (.pointer none)).run P w = .ok true w := fun d w => by simp [Op.equalIn, h.und]
  simp only [execOp, ev_sound ha hx, ev_const, eqGuard, binOp, Sem.run_bind, Sem.run_pure, Result.andThen_ok, eqOp h, Bool.not_true, Bool.false_eq_true, ite_self]
  try rfl
theorem Qt.peqSome {p : Addr} (hx : ev m x = some (.pointer (some p)) := by rfl) (h : PtrT P t e := by infer_instance) : Qt P (.binOp .eql t x (.const (.pointer none)) t') ty m H Ro (.bool false) := fun a w d ps af gd ha _ _ => by
  have h : ∀ d w, (Op.equalIn (d + 1) t (.pointer (some p)) (.pointer none)).run P w = .ok false w := fun d w => by simp [Op.equalIn, h.und]
  simp only [execOp, ev_sound ha hx, ev_const, eqGuard, binOp, Sem.run_bind, Sem.run_pure, Result.andThen_ok, eqOp h, Bool.not_true, Bool.false_eq_true, ite_self]
  try rfl
theorem Qt.pneNil (hx : ev m x = some (.pointer none) := by rfl) (h : PtrT P t e := by infer_instance) : Qt P (.binOp .neq t x (.const (.pointer none)) t') ty m H Ro (.bool false) := fun a w d ps af gd ha _ _ => by
  have h : ∀ d w, (Op.equalIn (d + 1) t (.pointer none) (.pointer none)).run P w = .ok true w := fun d w => by simp [Op.equalIn, h.und]
  simp only [execOp, ev_sound ha hx, ev_const, eqGuard, binOp, Sem.run_bind, Sem.run_pure, Result.andThen_ok, eqOp h, Bool.not_true, Bool.false_eq_true, ite_self]
  try rfl
theorem Qt.pneSome {p : Addr} (hx : ev m x = some (.pointer (some p)) := by rfl) (h : PtrT P t e := by infer_instance) : Qt P (.binOp .neq t x (.const (.pointer none)) t') ty m H Ro (.bool true) := fun a w d ps af gd ha _ _ => by
  have h : ∀ d w, (Op.equalIn (d + 1) t (.pointer (some p)) (.pointer none)).run P w = .ok false w := fun d w => by simp [Op.equalIn, h.und]
  simp only [execOp, ev_sound ha hx, ev_const, eqGuard, binOp, Sem.run_bind, Sem.run_pure, Result.andThen_ok, eqOp h, Bool.not_true, Bool.not_false, Bool.false_eq_true, ite_self]
  try rfl
/-- A slice against nil. -/
theorem Qt.sleqNil (hx : ev m x = some (.slice none 0 0) := by rfl) (h : SlT P t e sz := by infer_instance) : Qt P (.binOp .eql t x (.const (.slice none 0 0)) t') ty m H Ro (.bool true) := fun a w d ps af gd ha _ _ => by
  have h : ∀ d w, (Op.equalIn (d + 1) t (.slice none 0 0) (.slice none 0 0)).run P w = .ok true w := fun d w => by simp [Op.equalIn, h.und]
  simp only [execOp, ev_sound ha hx, ev_const, eqGuard, binOp, Sem.run_bind, Sem.run_pure, Result.andThen_ok, eqOp h, Bool.not_true, Bool.false_eq_true, ite_self]
  try rfl
/-! ### Calls -/
/-- Chunks that are known, in H or in Ro. -/
class SubR (Rc H Ro : Heap) : Prop where
  mem : ∀ p ∈ Rc.flatten, p ∈ H.flatten ∨ p ∈ Ro.flatten
instance SubR.nil {H Ro : Heap} : SubR [] H Ro := ⟨by simp⟩
instance SubR.cons {b : Nat} {o : Obj} {Rc H Ro : Heap} [h1 : InB H Ro b o] [h2 : SubR Rc H Ro] : SubR ([(b, o)] :: Rc) H Ro := ⟨fun p hp => by
  rcases List.mem_cons.1 (show p ∈ (b, o) :: Rc.flatten from hp) with e | hp'
  · subst e; exact h1.mem
  · exact h2.mem p hp'⟩
instance (priority := high) SubR.self {H Ro : Heap} : SubR H H Ro := ⟨fun _ hp => .inl hp⟩
instance SubR.more {c : Chunk} {Rc H Ro : Heap} [h : SubR Rc H Ro] : SubR Rc (c :: H) Ro := ⟨fun p hp => by
  rcases h.mem p hp with h | h
  · exact .inl (by simpa using Or.inr (by simpa using h))
  · exact .inr h⟩
theorem SubR.ok {Rc H : Heap} {w : World} (h : SubR Rc H Ro) (hs : Sub H w) (hr : Sub Ro w) : Sub Rc w := fun p hp => by
  rcases h.mem p hp with h | h
  · exact hs p h
  · exact hr p h
theorem SubR.left {c : Chunk} {Rc H H1 Ro : Heap} (r : Rem H c H1) (h : SubR Rc H Ro) : SubR (c :: Rc) H Ro := ⟨fun p hp => by
  rcases List.mem_append.1 (show p ∈ c ++ Rc.flatten from hp) with hp | hp
  · exact .inl (r.perm.mem_iff.1 (List.mem_append_left _ hp))
  · exact h.mem p hp⟩
theorem SubR.right {c : Chunk} {Rc H R1 Ro : Heap} (r : Rem Ro c R1) (h : SubR Rc H Ro) : SubR (c :: Rc) H Ro := ⟨fun p hp => by
  rcases List.mem_append.1 (show p ∈ c ++ Rc.flatten from hp) with hp | hp
  · exact .inr (r.perm.mem_iff.1 (List.mem_append_left _ hp))
  · exact h.mem p hp⟩
/-- The frame of a call: Hp is handed over, F stays. -/
theorem Hs.call {Rc Hp F Hq H : Heap} {w w' : World} (hh : Hs g Ro w H) (pk : Pk H Hp F) (h : Hs ⟨keys Hp, w⟩ Rc w' Hq) : Hs g Ro w' (Hq ++ F) := by
  have hperm := pk.perm
  have hin : ∀ p ∈ F.flatten, p ∈ H.flatten := fun p hp => hperm.mem_iff.1 (List.mem_append_right _ hp)
  have hpin : ∀ p ∈ Hp.flatten, p ∈ H.flatten := fun p hp => hperm.mem_iff.1 (List.mem_append_left _ hp)
  have hnd := (hperm.map (fun p : Nat × Obj => p.1)).nodup_iff.2 hh.nodup
  rw [List.map_append, List.nodup_append] at hnd
  have hlt : ∀ p ∈ H.flatten, p.1 < w.heap.size := fun p hp => (Array.getElem?_eq_some_iff.1 (hh.sub p hp)).1
  have hkeep : ∀ b o, w.heap[b]? = some o → b ∉ keys Hp → w'.heap[b]? = some o := fun b o hb hk => by
    rw [h.old b (Array.getElem?_eq_some_iff.1 hb).1 hk, hb]
  have hF : ∀ p ∈ F.flatten, p.1 ∉ keys Hp := fun p hp hk => hnd.2.2 p.1 hk p.1 (List.mem_map_of_mem hp) rfl
  have hRo : ∀ p ∈ Ro.flatten, p.1 ∉ keys Hp := fun p hp hk => by
    obtain ⟨q, hq, e⟩ := List.mem_map.1 hk
    have h1 := hh.own q (hpin q hq)
    have h2 := hh.roold p hp
    rw [e] at h1
    rcases h1 with h1 | h1
    · exact h2.2 h1
    · omega
  have hown : ∀ p ∈ Hq.flatten, p.1 ∈ g.K0 ∨ g.w0.heap.size ≤ p.1 := fun p hp => by
    rcases h.own p hp with h1 | h1
    · obtain ⟨q, hq, e⟩ := List.mem_map.1 h1
      rw [← e]; exact hh.own q (hpin q hq)
    · exact .inr (Nat.le_trans hh.size h1)
  refine ⟨fun p hp => ?_, fun p hp => hkeep _ _ (hh.ro p hp) (hRo p hp), hh.roold, ?_, fun p hp => ?_, fun b hb hk => ?_, Nat.le_trans hh.size h.size, h.os.trans hh.os, h.tape.trans hh.tape, h.output.trans hh.output⟩
  · rw [List.flatten_append] at hp
    rcases List.mem_append.1 hp with hp | hp
    · exact h.sub p hp
    · exact hkeep _ _ (hh.sub p (hin p hp)) (hF p hp)
  · simp only [keys, List.flatten_append, List.map_append]
    refine List.nodup_append.2 ⟨h.nodup, hnd.2.1, fun a ha b hb e => ?_⟩
    subst e
    obtain ⟨p, hp, rfl⟩ := List.mem_map.1 ha
    obtain ⟨q, hq, e⟩ := List.mem_map.1 hb
    rcases h.own p hp with h1 | h1
    · exact hF q hq (e ▸ h1)
    · have := hlt q (hin q hq)
      simp only at h1
      omega
  · rw [List.flatten_append] at hp
    rcases List.mem_append.1 hp with hp | hp
    · exact hown p hp
    · exact hh.own p (hin p hp)
  · have : b ∉ keys Hp := fun hk' => by
      obtain ⟨q, hq, e⟩ := List.mem_map.1 hk'
      rcases hh.own q (hpin q hq) with h1 | h1
      · exact hk (e ▸ h1)
      · omega
    rw [h.old b (Nat.lt_of_lt_of_le hb hh.size) this]
    exact hh.old b hb hk
theorem Ef.call {α : Type} {Rc Hp F : Heap} {φ : α → Prop} {ret : α → Value} {Hq : α → Heap} {xs : List Operand} {args : List Value} {ts : Array TypeId} (hx : evs m xs = some args := by rfl)
    (S : Spec P f args Rc Hp φ ret Hq) (pk : Pk H Hp F := by (repeat first | exact Pk.nil | apply Pk.cons | exact Rem.here | apply Rem.there)) (hr : SubR Rc F Ro := by (repeat first | exact SubR.nil | refine SubR.right .here ?_ | refine SubR.right (.there .here) ?_ | refine SubR.right (.there (.there .here)) ?_ | refine SubR.right (.there (.there (.there .here))) ?_ | refine SubR.right (.there (.there (.there (.there .here)))) ?_ | refine SubR.left .here ?_ | refine SubR.left (.there .here) ?_ | refine SubR.left (.there (.there .here)) ?_ | refine SubR.left (.there (.there (.there .here))) ?_ | refine SubR.left (.there (.there (.there (.there .here)))) ?_ | refine SubR.left (.there (.there (.there (.there (.there .here))))) ?_ | refine SubR.left (.there (.there (.there (.there (.there (.there .here)))))) ?_ | refine SubR.left (.there (.there (.there (.there (.there (.there (.there .here))))))) ?_ | refine SubR.left (.there (.there (.there (.there (.there (.there (.there (.there .here)))))))) ?_ | refine SubR.left (.there (.there (.there (.there (.there (.there (.there (.there (.there .here))))))))) ?_)) (hf : CallOk P f := by infer_instance) :
    Ef P g Ro (.call ⟨.value (.func f), xs.toArray, ts⟩) ty m H φ ret (fun x => Hq x ++ F) := by
  intro a w dst ps af gd K ha hh hk
  have hF := hh.drop (H' := F) (X := Hp) (List.perm_append_comm.trans pk.perm)
  have hP := hh.pick pk
  have hnd := (pk.perm.map (fun p : Nat × Obj => p.1)).nodup_iff.2 hh.nodup
  rw [List.map_append, List.nodup_append] at hnd
  have hdis : ∀ b ∈ keys Rc, b ∉ keys Hp := fun b hb hk => by
    obtain ⟨p, hp, rfl⟩ := List.mem_map.1 hb
    obtain ⟨q, hq, e⟩ := List.mem_map.1 hk
    rcases hr.mem p hp with h1 | h1
    · exact hnd.2.2 q.1 (List.mem_map_of_mem hq) p.1 (List.mem_map_of_mem h1) e
    · have h2 := hh.roold p h1
      have h3 := hP.own q hq
      rw [e] at h3
      rcases h3 with h3 | h3
      · exact h2.2 h3
      · omega
  have hc := S w hP.sub (hr.ok hF.sub hh.ro) hP.nodup hdis
  unfold sw
  rw [show (execOp a.eval ⟨dst, .call ⟨.value (.func f), xs.toArray, ts⟩, ty, ps, af, gd⟩) = callFunc f (#[] ++ xs.toArray.map a.eval ++ #[]) from rfl, hf.run]
  simp only [List.map_toArray, evs_sound ha hx, Array.append_empty, Array.empty_append]
  exact hc.mono fun e w' ⟨x, hx', he, hq⟩ => ⟨_, he, hk x w' hx' (hh.call pk hq)⟩
/-- A call of a function that writes nothing that was there. -/
theorem Ef.qcall {Rc : Heap} {xs : List Operand} {args : List Value} {ts : Array TypeId} (hx : evs m xs = some args := by rfl)
    (S : QSpec P f args Rc v) (hr : SubR Rc H Ro := by (repeat first | exact SubR.nil | refine SubR.right .here ?_ | refine SubR.right (.there .here) ?_ | refine SubR.right (.there (.there .here)) ?_ | refine SubR.right (.there (.there (.there .here))) ?_ | refine SubR.right (.there (.there (.there (.there .here)))) ?_ | refine SubR.left .here ?_ | refine SubR.left (.there .here) ?_ | refine SubR.left (.there (.there .here)) ?_ | refine SubR.left (.there (.there (.there .here))) ?_ | refine SubR.left (.there (.there (.there (.there .here)))) ?_ | refine SubR.left (.there (.there (.there (.there (.there .here))))) ?_ | refine SubR.left (.there (.there (.there (.there (.there (.there .here)))))) ?_ | refine SubR.left (.there (.there (.there (.there (.there (.there (.there .here))))))) ?_ | refine SubR.left (.there (.there (.there (.there (.there (.there (.there (.there .here)))))))) ?_ | refine SubR.left (.there (.there (.there (.there (.there (.there (.there (.there (.there .here))))))))) ?_)) (hf : CallOk P f := by infer_instance) :
    Ef P g Ro (.call ⟨.value (.func f), xs.toArray, ts⟩) ty m H (fun _ : Unit => True) (fun _ => v) (fun _ => H) := by
  intro a w dst ps af gd K ha hh hk
  have hc := S w (hr.ok hh.sub hh.ro)
  unfold sw
  rw [show (execOp a.eval ⟨dst, .call ⟨.value (.func f), xs.toArray, ts⟩, ty, ps, af, gd⟩) = callFunc f (#[] ++ xs.toArray.map a.eval ++ #[]) from rfl, hf.run]
  simp only [List.map_toArray, evs_sound ha hx, Array.append_empty, Array.empty_append]
  exact hc.mono fun e w' ⟨he, hq⟩ => ⟨_, he, hk () w' trivial (hh.grow hq)⟩
/-- A call through a function value. -/
theorem Ef.callC {α : Type} {Rc Hp F : Heap} {φ : α → Prop} {ret : α → Value} {Hq : α → Heap} {xs : List Operand} {args fi ca us : List Value} {ts : Array TypeId} (hc : ev m x = some (.func (.func f) fi.toArray ca.toArray) := by rfl) (hx : evs m xs = some args := by rfl)
    (S : Spec P f us Rc Hp φ ret Hq) (hus : us = fi ++ args ++ ca := by rfl)
    (pk : Pk H Hp F := by (repeat first | exact Pk.nil | apply Pk.cons | exact Rem.here | apply Rem.there)) (hr : SubR Rc F Ro := by (repeat first | exact SubR.nil | refine SubR.right .here ?_ | refine SubR.right (.there .here) ?_ | refine SubR.right (.there (.there .here)) ?_ | refine SubR.right (.there (.there (.there .here))) ?_ | refine SubR.right (.there (.there (.there (.there .here)))) ?_ | refine SubR.left .here ?_ | refine SubR.left (.there .here) ?_ | refine SubR.left (.there (.there .here)) ?_ | refine SubR.left (.there (.there (.there .here))) ?_ | refine SubR.left (.there (.there (.there (.there .here)))) ?_ | refine SubR.left (.there (.there (.there (.there (.there .here))))) ?_ | refine SubR.left (.there (.there (.there (.there (.there (.there .here)))))) ?_ | refine SubR.left (.there (.there (.there (.there (.there (.there (.there .here))))))) ?_ | refine SubR.left (.there (.there (.there (.there (.there (.there (.there (.there .here)))))))) ?_ | refine SubR.left (.there (.there (.there (.there (.there (.there (.there (.there (.there .here))))))))) ?_)) (hf : CallOk P f := by infer_instance) :
    Ef P g Ro (.call ⟨.value x, xs.toArray, ts⟩) ty m H φ ret (fun x => Hq x ++ F) := by
  intro a w dst ps af gd K ha hh hk
  have hF := hh.drop (H' := F) (X := Hp) (List.perm_append_comm.trans pk.perm)
  have hP := hh.pick pk
  have hnd := (pk.perm.map (fun p : Nat × Obj => p.1)).nodup_iff.2 hh.nodup
  rw [List.map_append, List.nodup_append] at hnd
  have hdis : ∀ b ∈ keys Rc, b ∉ keys Hp := fun b hb hk => by
    obtain ⟨p, hp, rfl⟩ := List.mem_map.1 hb
    obtain ⟨q, hq, e⟩ := List.mem_map.1 hk
    rcases hr.mem p hp with h1 | h1
    · exact hnd.2.2 q.1 (List.mem_map_of_mem hq) p.1 (List.mem_map_of_mem h1) e
    · have h2 := hh.roold p h1
      have h3 := hP.own q hq
      rw [e] at h3
      rcases h3 with h3 | h3
      · exact h2.2 h3
      · omega
  have hcall := S w hP.sub (hr.ok hF.sub hh.ro) hP.nodup hdis
  subst hus
  unfold sw
  simp only [execOp, resolve, List.map_toArray, evs_sound ha hx, ev_sound ha hc, Deferred.ofValue, Sem.run_bind, Sem.run_pure, Result.andThen_ok, invoke, List.append_toArray, hf.run]
  exact hcall.mono fun e w' ⟨x, hx', he, hq⟩ => ⟨_, he, hk x w' hx' (hh.call pk hq)⟩
theorem Ef.qcallC {Rc : Heap} {xs : List Operand} {args fi ca us : List Value} {ts : Array TypeId} (hc : ev m x = some (.func (.func f) fi.toArray ca.toArray) := by rfl) (hx : evs m xs = some args := by rfl)
    (S : QSpec P f us Rc v) (hus : us = fi ++ args ++ ca := by rfl)
    (hr : SubR Rc H Ro := by (repeat first | exact SubR.nil | refine SubR.right .here ?_ | refine SubR.right (.there .here) ?_ | refine SubR.right (.there (.there .here)) ?_ | refine SubR.right (.there (.there (.there .here))) ?_ | refine SubR.right (.there (.there (.there (.there .here)))) ?_ | refine SubR.left .here ?_ | refine SubR.left (.there .here) ?_ | refine SubR.left (.there (.there .here)) ?_ | refine SubR.left (.there (.there (.there .here))) ?_ | refine SubR.left (.there (.there (.there (.there .here)))) ?_ | refine SubR.left (.there (.there (.there (.there (.there .here))))) ?_ | refine SubR.left (.there (.there (.there (.there (.there (.there .here)))))) ?_ | refine SubR.left (.there (.there (.there (.there (.there (.there (.there .here))))))) ?_ | refine SubR.left (.there (.there (.there (.there (.there (.there (.there (.there .here)))))))) ?_ | refine SubR.left (.there (.there (.there (.there (.there (.there (.there (.there (.there .here))))))))) ?_)) (hf : CallOk P f := by infer_instance) :
    Ef P g Ro (.call ⟨.value x, xs.toArray, ts⟩) ty m H (fun _ : Unit => True) (fun _ => v) (fun _ => H) := by
  intro a w dst ps af gd K ha hh hk
  have hcall := S w (hr.ok hh.sub hh.ro)
  subst hus
  unfold sw
  simp only [execOp, resolve, List.map_toArray, evs_sound ha hx, ev_sound ha hc, Deferred.ofValue, Sem.run_bind, Sem.run_pure, Result.andThen_ok, invoke, List.append_toArray, hf.run]
  exact hcall.mono fun e w' ⟨he, hq⟩ => ⟨_, he, hk () w' trivial (hh.grow hq)⟩
end
end SL
end Go.Proofs.YtlmiekcmjpnobaaGreatDoor
