/- Part 2 of the proof of the card of 'laws.FnImageManyLinks': it returns true at every input. No condition. Texts: SR SP ST SX SY RA. -/
import Derived.Test.YtlmiekcmjpnobaaGreatDoorM01
import Derived.Test.YtlmiekcmjpnobaaGreatDoorProg
namespace Go.Proofs.YtlmiekcmjpnobaaGreatDoor
open Go
namespace SL
variable {P : Program} {n : Nat} {g : Gx} {Ro : Heap} {ops : Array Oper} {C : World → Prop} {Q : Post}

theorem Grow.of_drawn {w : World} : Grow w { w with drawn := w.drawn + 1 } := Grow.draw w _

/-- One operation of the region, by its number. -/
def swOp (P : Program) (ops : Array Oper) (i : Nat) (K : Act → World → Prop) (a : Act) (w : World) : Prop :=
  match ops[i]? with
  | none => K a w
  | some o => if Region.wanted o (yielded ops a.tmps) then sw P o a w K else K (a.put o.dst undef) w
theorem sw.mono {o : Oper} {a : Act} {w : World} {K K' : Act → World → Prop} (h : ∀ a w, K a w → K' a w) (hh : sw P o a w K) : sw P o a w K' := by
  unfold sw at *
  generalize (execOp a.eval o).run P w = r at *
  cases r with
  | ok x w' =>
    cases x <;> simp only at hh ⊢
    case value => exact h _ _ hh
    case skip => exact h _ _ hh
    case enter => exact hh.mono fun e w'' ⟨v, he, hk⟩ => ⟨v, he, h _ _ hk⟩
  | halt x w' => exact hh.elim
theorem swOp.mono {i : Nat} {a : Act} {w : World} {K K' : Act → World → Prop} (h : ∀ a w, K a w → K' a w) (hh : swOp P ops i K a w) : swOp P ops i K' a w := by
  unfold swOp at *
  split
  · rename_i e; simp only [e] at hh; exact h _ _ hh
  · rename_i o e
    simp only [e] at hh
    split
    · rename_i hw; simp only [hw, if_true] at hh; exact sw.mono h hh
    · rename_i hw; simp only [hw] at hh; exact h _ _ hh
/-- An operation j waits for i, by steps. -/
inductive Dp (ops : Array Oper) (j : Nat) : Nat → Prop
  | one {o : Oper} {e : Edge} : ops[j]? = some o → e ∈ o.after → Region.binds .any e = true → Dp ops j e.on
  | more {k : Nat} {o : Oper} {e : Edge} : Dp ops j k → ops[k]? = some o → e ∈ o.after → Region.binds .any e = true → Dp ops j e.on
def Closed (ops : Array Oper) (ld : Array Bool) : Prop := ∀ k ok, ops[k]? = some ok → ld.getD k false = true → ∀ e ∈ ok.after, Region.binds .any e = true → ld.getD e.on false = true
theorem Closed.dp {ld : Array Bool} (h : Closed ops ld) {j i : Nat} (hj : ld.getD j false = true) (hd : Dp ops j i) : ld.getD i false = true := by
  induction hd with
  | one ho he hb => exact h _ _ ho hj _ he hb
  | more _ ho he hb ih => exact h _ _ ho ih _ he hb
/-- All that j waits for, marked; operations wait for earlier ones only. -/
def stepM (ops : Array Oper) (mk : Array Bool) (k : Nat) : Array Bool :=
  if mk.getD k false then match ops[k]? with
    | some o => o.after.toList.foldl (fun mk e => if Region.binds .any e then mk.setIfInBounds e.on true else mk) mk
    | none => mk
  else mk
def ancM (ops : Array Oper) (j : Nat) : Array Bool := (List.range ops.size).reverse.foldl (stepM ops) ((Array.replicate ops.size false).setIfInBounds j true)
theorem ancM_sound {j : Nat} {P : Nat → Prop} (hP : ∀ k o e, P k → ops[k]? = some o → e ∈ o.after → Region.binds .any e = true → P e.on) :
    ∀ (l : List Nat) (mk : Array Bool), (∀ i, mk.getD i false = true → P i) → ∀ i, (l.foldl (stepM ops) mk).getD i false = true → P i
  | [], _, h, i, hi => h i hi
  | k :: l, mk, h, i, hi => by
    refine ancM_sound (j := j) hP l (stepM ops mk k) (fun i hi => ?_) i hi
    unfold stepM at hi
    split at hi
    · rename_i hk
      have hPk : P k := h k hk
      split at hi
      · rename_i o ho
        have key : ∀ (es : List Edge) (mk : Array Bool), (∀ i, mk.getD i false = true → P i) → (∀ e ∈ es, e ∈ o.after) →
            ∀ i, (es.foldl (fun mk e => if Region.binds .any e then mk.setIfInBounds e.on true else mk) mk).getD i false = true → P i := by
          intro es
          induction es with
          | nil => intro mk h _ i hi; exact h i hi
          | cons e es ih =>
            intro mk h hin i hi
            refine ih _ (fun i hi => ?_) (fun e' he' => hin e' (List.mem_cons_of_mem _ he')) i hi
            simp only at hi
            split at hi
            · rename_i hb
              by_cases he : e.on = i
              · subst he; exact hP k o e hPk ho (hin e (List.mem_cons_self ..)) hb
              · rw [getD_set_ne false he] at hi; exact h i hi
            · exact h i hi
        exact key o.after.toList mk h (fun e he => by simpa using he) i hi
      · exact h i hi
    · exact h i hi
theorem ancM_dp {j i : Nat} (h : (ancM ops j).getD i false = true) : i = j ∨ Dp ops j i := by
  refine ancM_sound (ops := ops) (j := j) (P := fun i => i = j ∨ Dp ops j i) (fun k o e hk ho he hb => ?_) _ _ (fun i hi => ?_) i h
  · rcases hk with rfl | hk
    · exact .inr (.one ho he hb)
    · exact .inr (.more hk ho he hb)
  · by_cases he : j = i
    · exact .inl he.symm
    · rw [getD_set_ne false he] at hi
      simp [Array.getElem?_replicate] at hi
      split at hi <;> simp at hi
theorem Closed.step {ld : Array Bool} (h : Closed ops ld) {j : Nat} (hj : j ∈ Region.ready .any ops ld) : Closed ops (ld.setIfInBounds j true) := by
  intro k ok hk hl e he hb
  obtain ⟨_, oj, hoj, hall⟩ := mem_ready.1 hj
  by_cases hjk : j = k
  · subst hjk
    rw [hoj] at hk
    cases hk
    exact getD_set_true (hall e he hb)
  · rw [getD_set_ne false hjk] at hl
    exact getD_set_true (h k ok hk hl e he hb)
/-- None of bs is done. -/
def NoB (bs : List Nat) (ld : Array Bool) : Prop := ∀ j, bs.contains j = true → ld.getD j false = false
theorem NoB.of_set {bs : List Nat} {ld : Array Bool} {i : Nat} (h : NoB bs (ld.setIfInBounds i true)) : NoB bs ld := fun j hj => by
  have h1 := h j hj
  by_cases e : i = j
  · subst e
    rcases Nat.lt_or_ge i ld.size with h' | h'
    · simp [h'] at h1
    · simp [Array.getElem?_eq_none h']
  · rwa [getD_set_ne false e] at h1
theorem NoB.set {bs : List Nat} {ld : Array Bool} {i : Nat} (h : NoB bs ld) (hi : bs.contains i = false) : NoB bs (ld.setIfInBounds i true) := fun j hj => by
  have e : i ≠ j := fun e => by subst e; rw [hi] at hj; cases hj
  rw [getD_set_ne false e]; exact h j hj
/-- Whatever order is picked from here on, whatever else is drawn or made beside; worlds stay in the class C, but behind the operations of bs. -/
def Any (P : Program) (ops : Array Oper) (bs : List Nat) (C : World → Prop) (R : Act → World → Prop) : Nat → Array Bool → Act → World → Prop
  | 0, ld, a, w => Region.ready .any ops ld = [] ∧ ∀ w', Grow w w' → R a w'
  | fuel + 1, ld, a, w => ∀ w', Grow w w' → (Region.ready .any ops ld = [] → R a w') ∧
      ∀ i ∈ Region.ready .any ops ld, swOp P ops i (fun a' w'' => (bs.contains i = false → NoB bs ld → C w'') ∧ Any P ops bs C R fuel (ld.setIfInBounds i true) a' w'') a w'
section
variable {bs : List Nat} {R : Act → World → Prop}
theorem Any.grow : ∀ {fuel : Nat} {ld : Array Bool} {a : Act} {w w' : World}, Any P ops bs C R fuel ld a w → Grow w w' → Any P ops bs C R fuel ld a w'
  | 0, _, _, _, _, h, k => ⟨h.1, fun w'' hg => h.2 w'' (k.trans hg)⟩
  | _ + 1, _, _, _, _, h, k => fun w'' hg => h w'' (k.trans hg)
theorem Any.sound : ∀ (fuel : Nat) (ld : Array Bool) (a : Act) (w : World), Any P ops bs C (fun a w => Q .normal a w) fuel ld a w → wpAny P .any ops Q fuel ld a w
  | 0, _, _, w, h => ⟨h.1, h.2 w (Grow.refl w)⟩
  | fuel + 1, ld, a, w, h => by
    have h' := h w (Grow.refl w)
    refine ⟨h'.1, fun i hi => ?_⟩
    have h2 := h'.2 i hi
    unfold swOp at h2
    unfold wpOp
    split
    · rename_i e; simp only [e] at h2; exact Any.sound fuel _ _ _ h2.2
    · rename_i o e
      simp only [e] at h2
      split
      · rename_i hw; simp only [hw, if_true] at h2; exact .inl (sw.wp (sw.mono (fun a w h => Any.sound fuel _ _ _ h.2) h2))
      · rename_i hw; simp only [hw] at h2; exact Any.sound fuel _ _ _ h2.2
end
/-- In this state the operation leaves v in its temporary, in every world of the class, and only grows it. -/
def Look (P : Program) (ops : Array Oper) (C : World → Prop) (o : Oper) (v : Value) (a : Act) : Prop :=
  (Region.wanted o (yielded ops a.tmps) = true ∧ ∀ w, C w → match (execOp a.eval o).run P w with
    | .ok (.value u) w' => w' = w ∧ u = v
    | .ok (.enter f args) w' => w' = w ∧ Calls P f args w (fun e w'' => e = .returned v ∧ Grow w w'')
    | _ => False) ∨
  (Region.wanted o (yielded ops a.tmps) = false ∧ v = undef)
theorem Look.same {o : Oper} {v : Value} {a a' : Act} (hy : Look P ops C o v a) (he : execOp a'.eval o = execOp a.eval o)
    (hw : Region.wanted o (yielded ops a'.tmps) = Region.wanted o (yielded ops a.tmps)) : Look P ops C o v a' := by
  unfold Look at *
  rw [he, hw]
  exact hy
theorem Look.swOp {i : Nat} {o : Oper} {v : Value} {a : Act} (hi : ops[i]? = some o) (hy : Look P ops C o v a) {K : Act → World → Prop} {w : World} (hC : C w)
    (h : ∀ w', Grow w w' → K (a.put o.dst v) w') : swOp P ops i K a w := by
  unfold SL.swOp
  simp only [hi]
  rcases hy with ⟨hw, hv⟩ | ⟨hw, rfl⟩
  · simp only [hw, if_true]
    have h2 := hv w hC
    unfold sw
    generalize (execOp a.eval o).run P w = r at *
    cases r with
    | ok x w' =>
      cases x <;> simp only at h2 ⊢
      case value => obtain ⟨rfl, rfl⟩ := h2; exact h _ (Grow.refl _)
      case enter => obtain ⟨rfl, hc⟩ := h2; exact hc.mono fun e w'' ⟨he, hg⟩ => ⟨v, he, h _ hg⟩
    | halt x w' => exact h2.elim
  · simp only [hw, Bool.false_eq_true, if_false]; exact h _ (Grow.refl _)
theorem swOp.put {j : Nat} {oi oj : Oper} {v : Value} (hj : ops[j]? = some oj) (hap : oi.apart ops oj = true)
    (hsi : ∀ cs b, oi.op ≠ .select cs b) (hsj : ∀ cs b, oj.op ≠ .select cs b) {K : Act → World → Prop} {a : Act} {w : World}
    (hy : Look P ops C oi v a) (h : swOp P ops j K (a.put oi.dst v) w) : swOp P ops j (fun a' w' => Look P ops C oi v a' ∧ K (a'.put oi.dst v) w') a w := by
  obtain ⟨h1, h2, h3⟩ := Oper.apart_spec hap
  have keep : ∀ u, Look P ops C oi v (a.put oj.dst u) := fun u => hy.same (execOp_put oi hsi a oj.dst u h3) (wanted_put oi a oj.dst u h3)
  unfold swOp at *
  simp only [hj] at *
  rw [wanted_put oj a oi.dst v h1] at h
  split
  · rename_i hw
    simp only [hw, if_true] at h
    unfold sw at *
    rw [execOp_put oj hsj a oi.dst v h1] at h
    generalize (execOp a.eval oj).run P w = r at *
    cases r with
    | ok x w' =>
      cases x <;> simp only at h ⊢
      case value u => exact ⟨keep u, by rw [← Act.put_comm a v u h2]; exact h⟩
      case skip => exact ⟨keep _, by rw [← Act.put_comm a v undef h2]; exact h⟩
      case enter f args => exact h.mono fun e w'' ⟨u, he, hk⟩ => ⟨u, he, keep u, by rw [← Act.put_comm a v u h2]; exact hk⟩
    | halt x w' => exact h
  · rename_i hw
    simp only [hw] at h
    exact ⟨keep _, by rw [← Act.put_comm a v undef h2]; exact h⟩
theorem Any.first {bs : List Nat} {R : Act → World → Prop} {C' : World → Prop} {i : Nat} {oi : Oper} {v : Value} (hi : ops[i]? = some oi) (hsel : ∀ (j : Nat) (o : Oper) cs b, ops[j]? = some o → o.op ≠ .select cs b)
    (hC : ∀ w w', C w → Grow w w' → C w') (hk : ∀ ld w, Closed ops ld → ld.getD i true = false → (NoB bs ld → C w) → C' w) (hib : bs.contains i = false) : ∀ (fuel : Nat) (ld : Array Bool) (a : Act) (w : World), Closed ops ld →
      (∀ j oj, ops[j]? = some oj → j ≠ i → ld.getD j true = false → (∀ e ∈ oj.after, Region.binds .any e = true → e.on ≠ i) → oi.apart ops oj = true) →
      i ∈ Region.ready .any ops ld → (NoB bs ld → C w) → Look P ops C' oi v a → Any P ops bs C R fuel (ld.setIfInBounds i true) (a.put oi.dst v) w → Any P ops bs C R (fuel + 1) ld a w := by
  intro fuel
  induction fuel with
  | zero =>
    intro ld a w hcl _ hr hw hy H w' hg
    refine ⟨fun h => (by rw [h] at hr; cases hr), fun j hj => ?_⟩
    by_cases hji : j = i
    · subst hji
      exact hy.swOp hi (hk ld w' hcl (mem_ready.1 hr).1 fun hn => hC _ _ (hw hn) hg) fun w'' hg' => ⟨fun _ hn => hC _ _ (hC _ _ (hw hn) hg) hg', H.grow (hg.trans hg')⟩
    · have := ready_mono hj hji
      rw [H.1] at this
      cases this
  | succ fuel ih =>
    intro ld a w hcl hfree hr hw hy H w' hg
    refine ⟨fun h => (by rw [h] at hr; cases hr), fun j hj => ?_⟩
    by_cases hji : j = i
    · subst hji
      exact hy.swOp hi (hk ld w' hcl (mem_ready.1 hr).1 fun hn => hC _ _ (hw hn) hg) fun w'' hg' => ⟨fun _ hn => hC _ _ (hC _ _ (hw hn) hg) hg', H.grow (hg.trans hg')⟩
    · have h1 := (H w' hg).2 j (ready_mono hj hji)
      obtain ⟨hjun, oj, hoj, hall⟩ := mem_ready.1 hj
      have hnot : ∀ e ∈ oj.after, Region.binds .any e = true → e.on ≠ i := fun e he hb heq => by
        have h1 := hall e he hb
        have h0 := (mem_ready.1 hr).1
        rw [heq] at h1
        rcases Nat.lt_or_ge i ld.size with h' | h'
        · simp [h'] at h0 h1; rw [h0] at h1; cases h1
        · simp [Array.getElem?_eq_none h'] at h1
      have h2 := swOp.put hoj (hfree j oj hoj hji hjun hnot) (fun cs b => hsel i oi cs b hi) (fun cs b => hsel j oj cs b hoj) hy h1
      have hfree' : ∀ k ok, ops[k]? = some ok → k ≠ i → (ld.setIfInBounds j true).getD k true = false →
          (∀ e ∈ ok.after, Region.binds .any e = true → e.on ≠ i) → oi.apart ops ok = true := fun k ok hk hki hun hno => by
        refine hfree k ok hk hki ?_ hno
        by_cases hjk : j = k
        · subst hjk; exact hjun
        · rw [getD_set_ne true hjk] at hun; exact hun
      have hgo : ∀ w'', (bs.contains j = false → NoB bs (ld.setIfInBounds i true) → C w'') → NoB bs (ld.setIfInBounds j true) → C w'' := fun w'' h3 hn => by
        have hjb : bs.contains j = false := by
          cases hb : bs.contains j with
          | false => rfl
          | true =>
            have h4 := hn j hb
            rcases Nat.lt_or_ge j ld.size with h' | h'
            · simp [h'] at h4
            · simp [Array.getElem?_eq_none h'] at hjun
        exact h3 hjb (hn.of_set.set hib)
      refine swOp.mono (fun a' w'' h3 => ⟨fun hb hn => h3.2.1 hb (hn.set hib), ih (ld.setIfInBounds j true) a' w'' (hcl.step hj) hfree' (ready_mono hr (Ne.symm hji)) (hgo w'' h3.2.1) h3.1 ?_⟩) h2
      rw [Array.setIfInBounds_comm _ _ hji]
      exact h3.2.2

/-! ### The rules -/
/-- What is known of the worlds of a region: these blocks. -/
def Cl (Hst Ro : Heap) (w : World) : Prop := Sub Hst w ∧ Sub Ro w
theorem Cl.grow {Hst Ro : Heap} {w w' : World} (h : Cl Hst Ro w) (k : Grow w w') : Cl Hst Ro w' := ⟨fun p hp => k.keeps (h.1 p hp), fun p hp => k.keeps (h.2 p hp)⟩
def Dr (P : Program) (n : Nat) (g : Gx) (Ro : Heap) (ops : Array Oper) (bs : List Nat) (Hst : Heap) (Q : Post) (fuel : Nat) (ld : Array Bool) (m : Env) (H : Heap) : Prop :=
  ∀ a w, St n m a → Hs g Ro w H → Closed ops ld → Any P ops bs (Cl Hst Ro) (fun a w => Q .normal a w) fuel ld a w
def lexL (ops : Array Oper) : Array Bool → List Nat → Bool
  | _, [] => true
  | ld, i :: r => (Region.ready .any ops ld).contains i && Region.free .any ops ld i && lexL ops (ld.setIfInBounds i true) r
def marks (ld : Array Bool) : List Nat → Array Bool
  | [] => ld
  | i :: r => marks (ld.setIfInBounds i true) r
/-- One operation that only looks, from what is known of the temporaries. -/
def QStep (P : Program) (n : Nat) (Ro : Heap) (ops : Array Oper) (Hst : Heap) (pu : Bool) (o : Oper) (m : Env) (v : Value) (m' : Env) : Prop :=
  ∀ a, St n m a → Look P ops (if pu then fun _ => True else Cl Hst Ro) o v a ∧ St n m' (a.put o.dst v)
/-- Operations that only look, one behind the other; then k. -/
def Dq (P : Program) (n : Nat) (Ro : Heap) (ops : Array Oper) (Hst : Heap) (k : Env → Prop) : List Bool → List Oper → Env → Prop
  | _, [], m => k m
  | pu, o :: r, m => ∃ v m', QStep P n Ro ops Hst (pu.headD false) o m v m' ∧ Dq P n Ro ops Hst k pu.tail r m'
section
variable {Hst H : Heap} {m : Env} {k : Env → Prop} {r l : List Oper} {d j fuel i : Nat} {op : Op} {ty : TypeId} {ps : String} {af : Array Edge} {v : Value} {bs : List Nat} {ld : Array Bool}
variable {pu : List Bool}
theorem Dq.nil (h : k m) : Dq P n Ro ops Hst k pu [] m := by unfold Dq; exact h
theorem Dq.q (hq : Qt P op ty m Hst Ro v) (h : Dq P n Ro ops Hst k pu.tail r ((d, v) :: m)) (hd : Nat.blt d n = true := by rfl) (hp : pu.headD false = false := by rfl) : Dq P n Ro ops Hst k pu (⟨some d, op, ty, ps, af, none⟩ :: r) m := by
  refine ⟨v, _, fun a hs => ?_, h⟩
  rw [hp]
  exact ⟨.inl ⟨rfl, fun w hw => by rw [hq a w _ _ _ _ hs.ag hw.1 hw.2]; exact ⟨rfl, rfl⟩⟩, hs.put hd v⟩
/-- .. that does not look at memory. -/
theorem Dq.p (hq : Qt P op ty m [] [] v) (h : Dq P n Ro ops Hst k pu.tail r ((d, v) :: m)) (hd : Nat.blt d n = true := by rfl) : Dq P n Ro ops Hst k pu (⟨some d, op, ty, ps, af, none⟩ :: r) m :=
  ⟨v, _, fun a hs => ⟨.inl ⟨rfl, fun w _ => by rw [hq a w _ _ _ _ hs.ag (by simp [Sub]) (by simp [Sub])]; exact ⟨rfl, rfl⟩⟩, hs.put hd v⟩, h⟩
theorem Dq.c {Rc : Heap} {f : FuncId} {xs : List Operand} {args : List Value} {ts : Array TypeId} (hx : evs m xs = some args := by rfl) (S : QSpec P f args Rc v) (h : Dq P n Ro ops Hst k pu.tail r ((d, v) :: m))
    (hr : SubR Rc Hst Ro := by (repeat first | exact SubR.nil | refine SubR.right .here ?_ | refine SubR.right (.there .here) ?_ | refine SubR.right (.there (.there .here)) ?_ | refine SubR.right (.there (.there (.there .here))) ?_ | refine SubR.right (.there (.there (.there (.there .here)))) ?_ | refine SubR.left .here ?_ | refine SubR.left (.there .here) ?_ | refine SubR.left (.there (.there .here)) ?_ | refine SubR.left (.there (.there (.there .here))) ?_ | refine SubR.left (.there (.there (.there (.there .here)))) ?_ | refine SubR.left (.there (.there (.there (.there (.there .here))))) ?_ | refine SubR.left (.there (.there (.there (.there (.there (.there .here)))))) ?_ | refine SubR.left (.there (.there (.there (.there (.there (.there (.there .here))))))) ?_ | refine SubR.left (.there (.there (.there (.there (.there (.there (.there (.there .here)))))))) ?_ | refine SubR.left (.there (.there (.there (.there (.there (.there (.there (.there (.there .here))))))))) ?_)) (hf : CallOk P f := by infer_instance) (hd : Nat.blt d n = true := by rfl) (hp : pu.headD false = false := by rfl) :
    Dq P n Ro ops Hst k pu (⟨some d, .call ⟨.value (.func f), xs.toArray, ts⟩, ty, ps, af, none⟩ :: r) m := by
  refine ⟨v, _, fun a hs => ?_, h⟩
  rw [hp]
  exact ⟨.inl ⟨rfl, fun w hw => by
    rw [show (execOp a.eval ⟨some d, .call ⟨.value (.func f), xs.toArray, ts⟩, ty, ps, af, none⟩) = callFunc f (#[] ++ xs.toArray.map a.eval ++ #[]) from rfl, hf.run]
    simp only [List.map_toArray, evs_sound hs.ag hx, Array.append_empty, Array.empty_append]
    exact ⟨trivial, S w (hr.ok hw.1 hw.2)⟩⟩, hs.put hd v⟩
theorem Dq.cc {Rc : Heap} {f : FuncId} {x : Operand} {xs : List Operand} {args fi ca us : List Value} {ts : Array TypeId} (hc : ev m x = some (.func (.func f) fi.toArray ca.toArray) := by rfl) (hx : evs m xs = some args := by rfl)
    (S : QSpec P f us Rc v) (h : Dq P n Ro ops Hst k pu.tail r ((d, v) :: m)) (hus : us = fi ++ args ++ ca := by rfl)
    (hr : SubR Rc Hst Ro := by (repeat first | exact SubR.nil | refine SubR.right .here ?_ | refine SubR.right (.there .here) ?_ | refine SubR.right (.there (.there .here)) ?_ | refine SubR.right (.there (.there (.there .here))) ?_ | refine SubR.right (.there (.there (.there (.there .here)))) ?_ | refine SubR.left .here ?_ | refine SubR.left (.there .here) ?_ | refine SubR.left (.there (.there .here)) ?_ | refine SubR.left (.there (.there (.there .here))) ?_ | refine SubR.left (.there (.there (.there (.there .here)))) ?_ | refine SubR.left (.there (.there (.there (.there (.there .here))))) ?_ | refine SubR.left (.there (.there (.there (.there (.there (.there .here)))))) ?_ | refine SubR.left (.there (.there (.there (.there (.there (.there (.there .here))))))) ?_ | refine SubR.left (.there (.there (.there (.there (.there (.there (.there (.there .here)))))))) ?_ | refine SubR.left (.there (.there (.there (.there (.there (.there (.there (.there (.there .here))))))))) ?_)) (hf : CallOk P f := by infer_instance) (hd : Nat.blt d n = true := by rfl) (hp : pu.headD false = false := by rfl) :
    Dq P n Ro ops Hst k pu (⟨some d, .call ⟨.value x, xs.toArray, ts⟩, ty, ps, af, none⟩ :: r) m := by
  refine ⟨v, _, fun a hs => ?_, h⟩
  rw [hp]
  exact ⟨.inl ⟨rfl, fun w hw => by
    have hcall := S w (hr.ok hw.1 hw.2)
    subst hus
    simp only [execOp, resolve, List.map_toArray, evs_sound hs.ag hx, ev_sound hs.ag hc, Deferred.ofValue, Sem.run_bind, Sem.run_pure, Result.andThen_ok, invoke, List.append_toArray, hf.run]
    first | exact hcall | exact ⟨rfl, hcall⟩ | exact ⟨trivial, hcall⟩⟩, hs.put hd v⟩
theorem Dq.gt {b : Bool} (h : Dq P n Ro ops Hst k pu (⟨some d, op, ty, ps, af, none⟩ :: r) m) (hg : guardOn ops m j = some (.bool b) := by rfl) :
    Dq P n Ro ops Hst k pu (⟨some d, op, ty, ps, af, some (j, b)⟩ :: r) m := by
  obtain ⟨v, m', hq, hk⟩ := h
  refine ⟨v, m', fun a hs => ⟨?_, (hq a hs).2⟩, hk⟩
  rcases (hq a hs).1 with ⟨_, h2⟩ | ⟨h1, _⟩
  · exact .inl ⟨by rw [wanted_of hs.ag hg rfl]; simp, h2⟩
  · simp [Region.wanted] at h1
theorem Dq.gf {b b' : Bool} (h : Dq P n Ro ops Hst k pu.tail r m) (hg : guardOn ops m j = some (.bool b') := by rfl) (hb : b' ≠ b := by decide) (hd : (look m d).isNone = true := by rfl) :
    Dq P n Ro ops Hst k pu (⟨some d, op, ty, ps, af, some (j, b)⟩ :: r) m :=
  ⟨undef, m, fun a hs => ⟨.inr ⟨by rw [wanted_of hs.ag hg rfl]; simpa using hb, rfl⟩, by simp [Act.put, hs.size], hs.nd, fun t v hv => by
    have hne : d ≠ t := fun e => by subst e; rw [hv] at hd; simp at hd
    have := hs.ag t v hv
    simp only [Act.put, Array.getD_eq_getD_getElem?] at this ⊢
    rw [Array.getElem?_setIfInBounds_ne hne]
    exact this⟩, h⟩
/-- What a region is asked, once. -/
def okQ (ms : List (Array Bool)) (bs : List Nat) : List Bool → List Nat → Bool
  | _, [] => true
  | pu, i :: r => !bs.contains i && (pu.headD false || ms.all fun m => m.getD i false) && okQ ms bs pu.tail r
def okR (ops : Array Oper) (bs qs : List Nat) (pu : List Bool) (ld : Array Bool) : Bool :=
  Region.noSelect ops && lexL ops ld qs && okQ (bs.map (ancM ops)) bs pu qs
theorem Closed.marks_step {ld : Array Bool} {i : Nat} {r : List Nat} (h : Closed ops ld) (hB : lexL ops ld (i :: r) = true) : Closed ops (ld.setIfInBounds i true) := by
  simp only [lexL, Bool.and_eq_true] at hB
  exact h.step (by simpa using hB.1.1)
theorem Dr.qs_aux (hns : Region.noSelect ops = true) : ∀ (qs : List Nat) (l : List Oper) (pu : List Bool) (ld : Array Bool) (m : Env), okQ (bs.map (ancM ops)) bs pu qs = true →
    qs.map (fun i => ops[i]?) = l.map some → lexL ops ld qs = true → SubR Hst H Ro →
    Dq P n Ro ops Hst (fun m' => Dr P n g Ro ops bs Hst Q fuel (marks ld qs) m' H) pu l m → Dr P n g Ro ops bs Hst Q (fuel + qs.length) ld m H
  | [], l, pu, ld, m, _, hl, _, _, h => by
    have : l = [] := by cases l <;> simp at hl ⊢
    subst this
    unfold Dq at h
    exact h
  | i :: qs, [], pu, ld, m, _, hl, _, _, h => by simp at hl
  | i :: qs, o :: l, pu, ld, m, hb, hl, hB, hsub, h => by
    obtain ⟨v, m', hq, hk⟩ := h
    simp only [List.map_cons, List.cons.injEq] at hl
    have hB' := hB
    simp only [lexL, Bool.and_eq_true] at hB'
    simp only [okQ, Bool.and_eq_true, Bool.or_eq_true, Bool.not_eq_true', List.all_eq_true] at hb
    intro a w hs hh hcl
    have ih := Dr.qs_aux hns qs l pu.tail (ld.setIfInBounds i true) m' hb.2 hl.2 hB'.2 hsub hk
    have hC : Cl Hst Ro w := ⟨hsub.ok hh.sub hh.ro, hh.ro⟩
    cases hp : pu.headD false with
    | true =>
      rw [hp] at hq
      exact Any.first (C' := fun _ => True) hl.1 (Region.noSelect_spec hns) (fun w w' h k => Cl.grow h k) (fun _ _ _ _ _ => trivial) hb.1.1 (fuel + qs.length) ld a w hcl
        (Region.free_spec hl.1 hB'.1.2) (by simpa using hB'.1.1) (fun _ => hC) (hq a hs).1 (ih _ w (hq a hs).2 hh (hcl.marks_step hB))
    | false =>
      rw [hp] at hq
      have hdep : ∀ j ∈ bs, Dp ops j i := by
        rcases hb.1.2 with h1 | h1
        · rw [hp] at h1; cases h1
        · intro j hj
          rcases ancM_dp (h1 _ (List.mem_map_of_mem hj)) with h2 | h2
          · subst h2
            have h3 := hb.1.1
            simp [hj] at h3
          · exact h2
      refine Any.first (C' := Cl Hst Ro) hl.1 (Region.noSelect_spec hns) (fun w w' h k => Cl.grow h k) (fun ld' w' hc' hun hw => hw fun j hj => ?_) hb.1.1 (fuel + qs.length) ld a w hcl
        (Region.free_spec hl.1 hB'.1.2) (by simpa using hB'.1.1) (fun _ => hC) (hq a hs).1 (ih _ w (hq a hs).2 hh (hcl.marks_step hB))
      cases hd : ld'.getD j false with
      | false => rfl
      | true =>
        have hjb := hdep j (by simpa using hj)
        have h4 := hc'.dp hd hjb
        rcases Nat.lt_or_ge i ld'.size with h' | h'
        · simp [h'] at hun h4; rw [hun] at h4; cases h4
        · simp [Array.getElem?_eq_none h'] at h4
/-- The operations of these numbers, in their order. -/
def pickS : List Oper → Nat → List Nat → List Oper
  | [], _, _ => []
  | o :: r, k, q => match q with
    | [] => []
    | i :: q => bif Nat.beq k i then o :: pickS r (k + 1) q else pickS r (k + 1) (i :: q)
def okS : List Oper → Nat → List Nat → Bool
  | [], _, q => q.isEmpty
  | _ :: r, k, q => match q with
    | [] => true
    | i :: q => bif Nat.beq k i then okS r (k + 1) q else okS r (k + 1) (i :: q)
theorem pickS_spec : ∀ {l pre : List Oper} {k : Nat} {q : List Nat}, pre.length = k → okS l k q = true → q.map (fun i => (pre ++ l)[i]?) = (pickS l k q).map some
  | [], pre, k, q, _, h => by
    have : q = [] := by simpa [okS] using h
    subst this; rfl
  | o :: r, pre, k, [], _, _ => rfl
  | o :: r, pre, k, i :: q, hk, h => by
    simp only [okS, pickS] at h ⊢
    have ih := fun q h => pickS_spec (l := r) (pre := pre ++ [o]) (k := k + 1) (q := q) (by simp [hk]) h
    simp only [List.append_assoc, List.singleton_append] at ih
    cases hb : Nat.beq k i with
    | true =>
      have e := Nat.eq_of_beq_eq_true hb
      subst e
      rw [hb, cond_true] at h
      have h1 : (pre ++ o :: r)[k]? = some o := by rw [List.getElem?_append_right (by omega)]; simp [hk]
      simp only [List.map_cons, cond_true, h1, ih q h]
    | false =>
      rw [hb, cond_false] at h
      rw [cond_false]
      exact ih (i :: q) h
theorem Dr.qs {l0 : List Oper} {fuel' : Nat} (ql : List Nat) (pu : List Bool) (h : Dq P n Ro l0.toArray Hst (fun m' => Dr P n g Ro l0.toArray bs Hst Q fuel (marks ld ql) m' H) pu (pickS l0 0 ql) m)
    (hl : okS l0 0 ql = true := by kernel_rfl) (hB : okR l0.toArray bs ql pu ld = true := by kernel_rfl) (hf : fuel + ql.length = fuel' := by rfl) (hsub : SubR Hst H Ro := by infer_instance) :
    Dr P n g Ro l0.toArray bs Hst Q fuel' ld m H := by
  subst hf
  simp only [okR, Bool.and_eq_true] at hB
  refine Dr.qs_aux hB.1.1 ql _ pu ld m hB.2 ?_ hB.1.2 hsub h
  have := pickS_spec (pre := []) (k := 0) rfl hl
  simpa using this
theorem T.draw {id : Nat} (bs : List Nat) (Hst : Heap) (h : Dr P n g Ro l.toArray bs Hst Q l.length (Array.replicate l.length false) m H) (hm : P.follows .mixedOrders = true) :
    T P n g Ro (.region id l.toArray true) m H Q := fun a w hs hh => wp_region_any hm (by
  have h2 := h a w hs hh (fun k ok _ hl => by
    simp [Array.getElem?_replicate] at hl; split at hl <;> simp at hl)
  simpa using Any.sound _ _ _ _ (h2.grow (Grow.draw w (w.drawn + 1))))
theorem Dr.nil (h : Ex n g Ro .normal m H Q) (hr : Region.ready .any ops ld = [] := by kernel_rfl) : Dr P n g Ro ops bs Hst Q fuel ld m H := fun a w hs hh _ => by
  have h2 : ∀ w', Grow w w' → Q .normal a w' := fun w' hg => h a w' hs (hh.grow hg)
  cases fuel with
  | zero => exact ⟨hr, h2⟩
  | succ f => exact fun w' hg => ⟨fun _ => h2 w' hg, by rw [hr]; simp⟩
/-- What an operation that turns memory is asked. -/
def Eo (P : Program) (n : Nat) (g : Gx) (Ro : Heap) (ops : Array Oper) (bs : List Nat) (Hst : Heap) (Q : Post) (fuel : Nat) (ld : Array Bool) (m : Env) (H : Heap) (i : Nat) : Prop :=
  ∀ a w, St n m a → Hs g Ro w H → swOp P ops i (fun a' w'' => (bs.contains i = false → NoB bs ld → Cl Hst Ro w'') ∧ (Closed ops (ld.setIfInBounds i true) → Any P ops bs (Cl Hst Ro) (fun a w => Q .normal a w) fuel (ld.setIfInBounds i true) a' w'')) a w
theorem Eo.e {α : Type} {φ : α → Prop} {v : α → Value} {H' : α → Heap} (hi : ops[i]? = some ⟨some d, op, ty, ps, af, none⟩) (he : Ef P g Ro op ty m H φ v H') (k : ∀ x, φ x → Dr P n g Ro ops bs Hst Q fuel (ld.setIfInBounds i true) ((d, v x) :: m) (H' x))
    (hC : bs.contains i = true ∨ ∀ x, SubR Hst (H' x) Ro := by first | exact Or.inl rfl | exact Or.inr fun _ => inferInstance) (hd : Nat.blt d n = true := by rfl) :
    Eo P n g Ro ops bs Hst Q fuel ld m H i := fun a w hs hh => by
  unfold swOp
  simp only [hi]
  rw [if_pos (by simp [Region.wanted])]
  refine he a w _ _ _ _ _ hs.ag hh fun x w' hx hh' => ⟨fun hb _ => ?_, fun hcl => k x hx _ w' (hs.put hd (v x)) hh' hcl⟩
  rcases hC with hC | hC
  · rw [hC] at hb; cases hb
  · exact ⟨(hC x).ok hh'.sub hh'.ro, hh'.ro⟩
theorem Eo.e0 {α : Type} {φ : α → Prop} {v : α → Value} {H' : α → Heap} (hi : ops[i]? = some ⟨none, op, ty, ps, af, none⟩) (he : Ef P g Ro op ty m H φ v H') (k : ∀ x, φ x → Dr P n g Ro ops bs Hst Q fuel (ld.setIfInBounds i true) m (H' x))
    (hC : bs.contains i = true ∨ ∀ x, SubR Hst (H' x) Ro := by first | exact Or.inl rfl | exact Or.inr fun _ => inferInstance) :
    Eo P n g Ro ops bs Hst Q fuel ld m H i := fun a w hs hh => by
  unfold swOp
  simp only [hi]
  rw [if_pos (by simp [Region.wanted])]
  refine he a w none _ _ _ _ hs.ag hh fun x w' hx hh' => ⟨fun hb _ => ?_, fun hcl => k x hx _ w' hs hh' hcl⟩
  rcases hC with hC | hC
  · rw [hC] at hb; cases hb
  · exact ⟨(hC x).ok hh'.sub hh'.ro, hh'.ro⟩
theorem Dr.e {fuel' : Nat} (i : Nat) (h : Eo P n g Ro ops bs Hst Q fuel ld m H i) (hr : Region.ready .any ops ld = [i] := by kernel_rfl) (hf : fuel + 1 = fuel' := by rfl) : Dr P n g Ro ops bs Hst Q fuel' ld m H := by
  subst hf
  refine fun a w hs hh hcl w' hg => ⟨fun h0 => (by rw [hr] at h0; cases h0), fun j hj => ?_⟩
  have hj' := hj
  rw [hr, List.mem_singleton] at hj
  subst hj
  exact swOp.mono (fun a' w'' h => ⟨h.1, h.2 (hcl.step hj')⟩) (h a w' hs (hh.grow hg))
theorem Dr.e2 {fuel' : Nat} (i j : Nat) (h1 : Eo P n g Ro ops bs Hst Q fuel ld m H i) (h2 : Eo P n g Ro ops bs Hst Q fuel ld m H j) (hr : Region.ready .any ops ld = [i, j] := by kernel_rfl) (hf : fuel + 1 = fuel' := by rfl) :
    Dr P n g Ro ops bs Hst Q fuel' ld m H := by
  subst hf
  refine fun a w hs hh hcl w' hg => ⟨fun h0 => (by rw [hr] at h0; cases h0), fun k hk => ?_⟩
  have hk' := hk
  rw [hr] at hk
  simp only [List.mem_cons, List.mem_nil_iff, or_false] at hk
  rcases hk with rfl | rfl
  · exact swOp.mono (fun a' w'' h => ⟨h.1, h.2 (hcl.step hk')⟩) (h1 a w' hs (hh.grow hg))
  · exact swOp.mono (fun a' w'' h => ⟨h.1, h.2 (hcl.step hk')⟩) (h2 a w' hs (hh.grow hg))
end

section
variable {pu : List Bool} {Hst H : Heap} {m : Env} {k : Env → Prop} {r : List Oper} {d : Nat} {ty t t' : TypeId} {ps : String} {af : Array Edge} {x y : Operand} {a b : Nat}
end
class MemC (E : Chunk) (H : Heap) : Prop where
  mem : E ∈ H
instance MemC.tail {E c : Chunk} {H : Heap} [h : MemC E H] : MemC E (c :: H) := ⟨List.mem_cons_of_mem _ h.mem⟩
instance MemC.head {E : Chunk} {H : Heap} : MemC E (E :: H) := ⟨List.mem_cons_self ..⟩
instance (priority := low) SubR.chunk {E : Chunk} {Rc H Ro : Heap} [h1 : MemC E H] [h2 : SubR Rc H Ro] : SubR (E :: Rc) H Ro := ⟨fun p hp => by
  rcases List.mem_append.1 (show p ∈ E ++ Rc.flatten from hp) with hp | hp
  · exact .inl (List.mem_flatten.2 ⟨E, h1.mem, hp⟩)
  · exact h2.mem p hp⟩
section
variable {H : Heap} {m : Env} {l : List Oper} {id : Nat} {bs : List Nat} {Hst : Heap} {fuel i d : Nat} {ld : Array Bool} {op : Op} {ty : TypeId} {ps : String} {af : Array Edge} {v : Value}
/-- A region that draws its order. -/
theorem T.dr (bs : List Nat) (h : Dr P n g Ro l.toArray bs H Q l.length (Array.replicate l.length false) m H) (hm : P.follows .mixedOrders = true) :
    T P n g Ro (.region id l.toArray true) m H Q := T.draw bs H h hm
theorem T.sdr {c : Code} (bs : List Nat) (h : Dr P n g Ro l.toArray bs H (K P c Q) l.length (Array.replicate l.length false) m H) (hm : P.follows .mixedOrders = true) :
    T P n g Ro (.seq (.region id l.toArray true) c) m H Q := T.seq (T.dr bs h hm)
theorem Dr.nilK {c : Code} (h : T P n g Ro c m H Q) (hr : Region.ready .any ops ld = [] := by kernel_rfl) : Dr P n g Ro ops bs Hst (SL.K P c Q) fuel ld m H := Dr.nil (Ex.K h) hr
theorem Eo.q (hi : ops[i]? = some ⟨some d, op, ty, ps, af, none⟩) (hq : Qt P op ty m H Ro v) (k : Dr P n g Ro ops bs Hst Q fuel (ld.setIfInBounds i true) ((d, v) :: m) H)
    (hC : bs.contains i = true ∨ SubR Hst H Ro := by first | exact Or.inl rfl | exact Or.inr inferInstance) (hd : Nat.blt d n = true := by rfl) :
    Eo P n g Ro ops bs Hst Q fuel ld m H i := fun a w hs hh => by
  unfold swOp
  simp only [hi]
  rw [if_pos (by simp [Region.wanted])]
  unfold sw
  rw [hq a w _ _ _ _ hs.ag hh.sub hh.ro]
  refine ⟨fun hb _ => ?_, fun hcl => k _ w (hs.put hd v) hh hcl⟩
  rcases hC with hC | hC
  · rw [hC] at hb; cases hb
  · exact ⟨hC.ok hh.sub hh.ro, hh.ro⟩
end
end SL
end Go.Proofs.YtlmiekcmjpnobaaGreatDoor
namespace Go.Proofs.YtlmiekcmjpnobaaGreatDoor
open Go
namespace SL
variable {P : Program} {n : Nat} {g : Gx} {Ro : Heap}

/-! ### Stores of one cell into a row that is written out -/
class PutC (l : List Value) (o : Nat) (v : Value) (l' : outParam (List Value)) : Prop where
  eq : putL l o [v] = l' ∧ o + 1 ≤ l.length
instance PutC.tail {x v : Value} {l l' : List Value} {o : Nat} [h : PutC l o v l'] : PutC (x :: l) (o + 1) v (x :: l') := ⟨by
  obtain ⟨h1, h2⟩ := h.eq
  constructor
  · rw [← h1]; simp only [putL, List.take_succ_cons, List.length_cons, List.length_nil, List.cons_append, List.drop_succ_cons, Nat.zero_add]
  · simp; omega⟩
instance PutC.head {x v : Value} {l : List Value} : PutC (x :: l) 0 v (v :: l) := ⟨by simp [putL], by simp⟩
theorem one_vcells {v : Value} (h : one v = true) : vcells v = [v] := by cases v <;> first | rfl | simp [one] at h
theorem Own.one {e : TypeId} {sz k : Nat} {v : Value} {xs : List Value} {E : Chunk} (h : Own e sz v k xs E) : SL.one v = true := by
  obtain ⟨_, ⟨rfl, _⟩ | ⟨b, cap, sp, rfl, _⟩⟩ := h <;> rfl
section
variable {m : Env} {H H1 : Heap} {ty t e b o : Nat} {x y : Operand} {v : Value} {l l' : List Value}
theorem Ef.st1 (hx : ev m x = some (.pointer (some ⟨b, o, none⟩)) := by rfl) (hy : ev m y = some v := by rfl) (hs : SizeOf P t 1 := by infer_instance)
    (hr : Rem H [(b, .cells l.toArray e (0, 0))] H1 := by (repeat first | exact Rem.here | apply Rem.there)) (h1 : one v = true := by first | rfl | exact Own.one (by assumption))
    (hp : PutC l o v l' := by infer_instance) :
    Ef P g Ro (.store t x y) ty m H (fun _ : Unit => True) (fun _ => undef) (fun _ => [(b, .cells l'.toArray e (0, 0))] :: H1) := by
  obtain ⟨h2, h3⟩ := hp.eq
  have h4 := one_vcells h1
  have := Ef.st (P := P) (g := g) (Ro := Ro) (ty := ty) hx hy hs hr (by rw [h4]; exact ⟨rfl, h3, by simp [ones, h1]⟩)
  rw [h4, h2] at this
  exact this
end

section
variable {m : Env} {H : Heap} {ty t : Nat} {x : Operand} {v : Value} {z : List Value}
theorem Ef.al1 (hz : Zero P t v := by infer_instance) (h1 : one v = true := by rfl) : Ef P g Ro (.alloc t) ty m H (fun b => g.w0.heap.size ≤ b) (fun b => .pointer (some ⟨b, 0, none⟩)) (fun b => [(b, .cells [v].toArray t (0, 0))] :: H) := by
  have := Ef.al (P := P) (g := g) (Ro := Ro) (ty := ty) (m := m) (H := H) hz
  rwa [one_vcells h1] at this
theorem Ef.alA (hz : Zero P t (.agg z.toArray) := by infer_instance) : Ef P g Ro (.alloc t) ty m H (fun b => g.w0.heap.size ≤ b) (fun b => .pointer (some ⟨b, 0, none⟩)) (fun b => [(b, .cells z.toArray t (0, 0))] :: H) :=
  Ef.al (P := P) (g := g) (Ro := Ro) (ty := ty) (m := m) (H := H) hz
theorem Ef.bx1 (hx : ev m x = some v := by rfl) (h1 : one v = true := by first | rfl | exact Own.one (by assumption)) : Ef P g Ro (.box t x) ty m H (fun b => g.w0.heap.size ≤ b) (fun b => .pointer (some ⟨b, 0, none⟩)) (fun b => [(b, .cells [v].toArray t (0, 0))] :: H) := by
  have := Ef.bx (P := P) (g := g) (Ro := Ro) (ty := ty) (t := t) (m := m) (H := H) hx
  rwa [one_vcells h1] at this
theorem Ef.bxA (hx : ev m x = some (.agg z.toArray) := by rfl) : Ef P g Ro (.box t x) ty m H (fun b => g.w0.heap.size ≤ b) (fun b => .pointer (some ⟨b, 0, none⟩)) (fun b => [(b, .cells z.toArray t (0, 0))] :: H) :=
  Ef.bx (P := P) (g := g) (Ro := Ro) (ty := ty) (t := t) (m := m) (H := H) hx
end
/-- A chunk of no blocks. -/
theorem T.add0 {c : Code} {m : Env} {H : Heap} {Q : Post} (h : T P n g Ro c m ([] :: H) Q) : T P n g Ro c m H Q := fun a w hs hh => h a w hs hh.add0

/-! ### A struct as a result -/
section
variable {m : Env} {H : Heap} {fn : Func} {R : Ending → World → Prop}
theorem results_cell1 {fn : Func} {t : Tmp} {ty : TypeId} (h : fn.results = #[.cell t ty]) {tmps : Array Value} {w : World} {v : Value} {a : Addr} (ha : tmps.getD t undef = .pointer (some a))
    (hv : (loadVar ty a).run P w = .ok v w) : (results fn tmps).run P w = .ok v w := by
  simp only [results, h, List.mapM_toArray, List.mapM_cons, List.mapM_nil, Sem.run_bind, Sem.run_map, ha, asAddr, Sem.run_pure, Result.andThen_ok, hv]
  rfl
theorem Ex.retC {e : Exit} (he : e = .ret ∨ e = .normal) {t b k : Nat} {ty el : TypeId} {l vs : List Value} {fr : Nat × Nat} [ha : Agg P ty k] (hv : look m t = some (.pointer (some ⟨b, 0, none⟩)))
    (h : ∀ w, Hs g Ro w H → R (.returned (.agg vs.toArray)) w) (hr : fn.results = #[.cell t ty]) (hb : InB H Ro b (.cells l.toArray el fr) := by infer_instance) (hs : seg l 0 k = some vs := by rfl) :
    Ex n g Ro e m H (bodyPost P fn R) := by
  intro a w hs' hh
  have h1 := hs'.ag t _ hv
  have h2 : (loadVar ty ⟨b, 0, none⟩).run P w = .ok (.agg vs.toArray) w := by
    simp only [loadVar, Sem.run_bind, ha.agg, ha.size, Result.andThen_ok, if_true, row_load (P := P) (hb.at hh.sub hh.ro) hs, Sem.run_pure]
  rcases he with rfl | rfl <;> exact ⟨hs'.nd, _, results_cell1 hr h1 h2, h w hh⟩
end

/-! ### Least and greatest -/
section
variable {m : Env} {H : Heap} {ty t t' e sz : Nat} {x y : Operand} {a b c : Nat} {ts : Array TypeId}
theorem Qt.min2 {K : IntKind} (hx : nv m x = some (K, a) := by rfl) (hy : nv m y = some (K, b) := by rfl) :
    Qt P (.call ⟨.builtin .min, #[x, y], ts⟩) ty m H Ro (N K (min a b)) := fun w _ d ps af gd ha _ _ => by
  have e : (if (Int.ofNat b) < (Int.ofNat a) then (Int.ofNat b) else (Int.ofNat a)) = Int.ofNat (min a b) := by
    split <;> rename_i h <;> simp only [Int.ofNat_eq_natCast] at * <;> omega
  simp only [execOp, resolve, Sem.run_bind, Sem.run_pure, Result.andThen_ok, invoke, builtin, Builtin.min_, List.map_toArray, List.map_cons, List.map_nil, nv_sound ha hx, nv_sound ha hy, List.foldlM_cons, List.foldlM_nil, Builtin.min2]
  exact congrArg (fun z => Result.ok (Next.value (.int K z)) _) e
theorem Qt.cap {p : Option Addr} [h : SlT P t e sz] (hx : ev m x = some (.slice p a c) := by rfl) :
    Qt P (.call ⟨.builtin .cap, #[x], #[t]⟩) ty m H Ro (N .i64 c) := fun w _ d ps af gd ha _ _ => by
  simp [execOp, resolve, invoke, builtin, Builtin.cap_, ev_sound ha hx, h.und, goInt]
end

/-! ### Cells of values, and rows that are written out -/
/-- The cells of a value. -/
class Vc (v : Value) (cs : outParam (List Value)) : Prop where
  eq : vcells v = cs
  ones : SL.ones cs = true
class Ones (l : List Value) : Prop where
  eq : SL.ones l = true
theorem Vc.of {v : Value} (h : one v = true) : Vc v [v] := ⟨one_vcells h, by simp [SL.ones, h]⟩
instance Vc.int {k : IntKind} {i : Int} : Vc (.int k i) [.int k i] := .of rfl
instance Vc.bool {b : Bool} : Vc (.bool b) [.bool b] := .of rfl
instance Vc.string {s : ByteArray} : Vc (.string s) [.string s] := .of rfl
instance Vc.pointer {p : Option Addr} : Vc (.pointer p) [.pointer p] := .of rfl
instance Vc.slice {p : Option Addr} {k c : Nat} : Vc (.slice p k c) [.slice p k c] := .of rfl
instance Vc.map {p : Option Nat} : Vc (.map p) [.map p] := .of rfl
instance Vc.nilIface : Vc .nilIface [.nilIface] := .of rfl
instance Vc.iface {t : Nat} {v : Value} : Vc (.iface t v) [.iface t v] := .of rfl
instance Ones.nil : Ones [] := ⟨rfl⟩
instance Ones.cons {v : Value} {l : List Value} [h1 : Vc v [v]] [h2 : Ones l] : Ones (v :: l) := ⟨by
  have h3 := h1.ones
  simp only [SL.ones, List.all_cons, List.all_nil, Bool.and_true] at h3
  have h4 := h2.eq
  simp only [SL.ones] at h4
  simp [SL.ones, h3, h4]⟩
instance Vc.agg {l : List Value} [h : Ones l] : Vc (.agg l.toArray) l := ⟨by simp [vcells], h.eq⟩
class PutN (l : List Value) (o : Nat) (vs : List Value) (l' : outParam (List Value)) : Prop where
  eq : putL l o vs = l' ∧ o + vs.length ≤ l.length
instance PutN.nil {l : List Value} : PutN l 0 [] l := ⟨by simp [putL], by simp⟩
instance PutN.cons {x v : Value} {l vs l' : List Value} [h : PutN l 0 vs l'] : PutN (x :: l) 0 (v :: vs) (v :: l') := ⟨by
  obtain ⟨h1, h2⟩ := h.eq
  constructor
  · rw [← h1]; simp [putL]
  · simp at h2 ⊢; omega⟩
instance PutN.tail {x : Value} {l vs l' : List Value} {o : Nat} [h : PutN l o vs l'] : PutN (x :: l) (o + 1) vs (x :: l') := ⟨by
  obtain ⟨h1, h2⟩ := h.eq
  constructor
  · rw [← h1]; simp only [putL, List.take_succ_cons, List.cons_append, Nat.add_right_comm, List.drop_succ_cons]
  · simp; omega⟩
class PsAt (ps : List (Nat × Nat)) (i : Nat) (o s : outParam Nat) : Prop where
  eq : ps[i]? = some (o, s)
instance PsAt.head {o s : Nat} {ps : List (Nat × Nat)} : PsAt ((o, s) :: ps) 0 o s := ⟨rfl⟩
instance PsAt.tail {i o s : Nat} {p : Nat × Nat} {ps : List (Nat × Nat)} [h : PsAt ps i o s] : PsAt (p :: ps) (i + 1) o s := ⟨by simpa using h.eq⟩
class LenIs (l : List Value) (n : Nat) : Prop where
  eq : l.length = n
instance LenIs.nil : LenIs [] 0 := ⟨rfl⟩
instance LenIs.cons {v : Value} {l : List Value} {n : Nat} [h : LenIs l n] : LenIs (v :: l) (n + 1) := ⟨by simp [h.eq]⟩
class FillN (ps : List (Nat × Nat)) (z : List Value) (us : List (Nat × Value)) (vs : outParam (List Value)) : Prop where
  eq : fillL (fun i => ps[i]?) z us = some vs
instance FillN.nil {ps : List (Nat × Nat)} {z : List Value} : FillN ps z [] z := ⟨rfl⟩
instance FillN.cons {ps : List (Nat × Nat)} {z z' cs w : List Value} {i o s : Nat} {v : Value} {r : List (Nat × Value)} [h1 : PsAt ps i o s] [h2 : Vc v cs] [h3 : LenIs cs s] [h4 : PutN z o cs z'] [h5 : FillN ps z' r w] :
    FillN ps z ((i, v) :: r) w := ⟨by
  obtain ⟨h6, h7⟩ := h4.eq
  have h8 : Nat.beq cs.length s = true := by rw [h3.eq]; exact Nat.beq_refl s
  have h9 : Nat.ble (o + s) z.length = true := Nat.ble_eq_true_of_le (by rw [← h3.eq]; exact h7)
  have hp : (fun i => ps[i]?) i = some (o, s) := h1.eq
  simp only [fillL, h1.eq, h2.eq, h8, h9, Bool.and_self, cond_true, h6]
  exact h5.eq⟩
section
variable {m : Env} {H H1 : Heap} {ty t e sz b o : Nat} {x y : Operand} {v : Value} {l l' cs vs z : List Value} {xs : List (Nat × Operand)} {us : List (Nat × Value)} {ps : List (Nat × Nat)}
theorem Qt.bdN (h : Plc P t ps := by infer_instance) (hz : Zero P t (.agg z.toArray) := by infer_instance) (hx : pev m xs = some us := by rfl) (hf : FillN ps z us vs := by infer_instance) :
    Qt P (.build t xs.toArray) ty m H Ro (.agg vs.toArray) := Qt.bd h hz hx hf.eq
theorem Ef.stN (hx : ev m x = some (.pointer (some ⟨b, o, none⟩)) := by rfl) (hy : ev m y = some v := by rfl) (hs : SizeOf P t sz := by infer_instance)
    (hr : Rem H [(b, .cells l.toArray e (0, 0))] H1 := by (repeat first | exact Rem.here | apply Rem.there)) (hv : Vc v cs := by infer_instance) (hn : LenIs cs sz := by infer_instance)
    (hp : PutN l o cs l' := by infer_instance) :
    Ef P g Ro (.store t x y) ty m H (fun _ : Unit => True) (fun _ => undef) (fun _ => [(b, .cells l'.toArray e (0, 0))] :: H1) := by
  obtain ⟨h2, h3⟩ := hp.eq
  have := Ef.st (P := P) (g := g) (Ro := Ro) (ty := ty) hx hy hs hr (by rw [hv.eq]; exact ⟨hn.eq, by rw [← hn.eq]; exact h3, hv.ones⟩)
  rw [hv.eq, h2] at this
  exact this
end

/-! ### Maps -/
/-- Entries: key, value, birth. -/
abbrev MEs := List (List UInt8 × Value × Nat)
def mEntry (e : List UInt8 × Value × Nat) : MapEntry := { key := SV e.1, val := e.2.1, born := e.2.2 }
def mE (l : MEs) : Array MapEntry := (l.map mEntry).toArray
def mget : MEs → List UInt8 → Option Value
  | [], _ => none
  | e :: r, s => if e.1 = s then some e.2.1 else mget r s
def mset : MEs → List UInt8 → Value → Nat → MEs
  | [], s, v, c => [(s, v, c)]
  | e :: r, s, v, c => if e.1 = s then (s, v, e.2.2) :: r else e :: mset r s v c
def mclk (l : MEs) (s : List UInt8) (c : Nat) : Nat := match mget l s with | some _ => c | none => c + 1
/-- Births are below the clock, and each its own; so are keys. -/
structure MOk (l : MEs) (c : Nat) : Prop where
  lt : ∀ e ∈ l, e.2.2 < c
  born : (l.map (·.2.2)).Nodup
  keys : (l.map (·.1)).Nodup
class MapT (P : Program) (t : TypeId) (kt vt : outParam Nat) : Prop where
  und : ∀ w, (underlying t).run P w = .ok (.map kt vt) w
  key : ∀ w, (underlying kt).run P w = .ok .string w
def mplace : MEs → List UInt8 → Nat → Option (Nat × Value)
  | [], _, _ => none
  | e :: r, s, i => if e.1 = s then some (i, e.2.1) else mplace r s (i + 1)
theorem mplace_get : ∀ (l : MEs) (s : List UInt8) (i : Nat), (mplace l s i).map (·.2) = mget l s
  | [], _, _ => rfl
  | e :: r, s, i => by
    simp only [mplace, mget]
    split
    · rfl
    · exact mplace_get r s (i + 1)
theorem byteArray_beq (a b : ByteArray) : (a == b) = true ↔ a = b := by
  cases a with | mk a =>
  cases b with | mk b =>
  show (ByteArray.beq ⟨a⟩ ⟨b⟩) = true ↔ _
  simp [ByteArray.beq]
theorem text_beq (s t : List UInt8) : ((⟨s.toArray⟩ : ByteArray) == ⟨t.toArray⟩) = decide (s = t) := by
  by_cases h : s = t
  · subst h; rw [decide_eq_true rfl]; exact (byteArray_beq _ _).2 rfl
  · have h2 : (⟨s.toArray⟩ : ByteArray) ≠ ⟨t.toArray⟩ := fun e => h (by simpa using congrArg (fun b : ByteArray => b.data.toList) e)
    rw [decide_eq_false h]
    cases hb : ((⟨s.toArray⟩ : ByteArray) == ⟨t.toArray⟩) with
    | false => rfl
    | true => exact absurd ((byteArray_beq _ _).1 hb) h2
theorem findNow_eq : ∀ (l : MEs) (s : List UInt8) (i : Nat), Instr.findNow .string (SV s) (l.map mEntry) i = some (mplace l s i)
  | [], _, _ => rfl
  | e :: r, s, i => by
    simp only [List.map_cons, Instr.findNow, mEntry, Instr.sameNow, text_beq, mplace]
    by_cases h : e.1 = s
    · simp [h]
    · have h' : ¬ s = e.1 := fun e => h e.symm
      simp only [h', decide_false, h, if_false]
      exact findNow_eq r s (i + 1)
theorem run_findKey {w : World} {kt : TypeId} (h : ∀ w, (underlying kt).run P w = .ok .string w) (l : MEs) (s : List UInt8) :
    (Instr.findKey kt (SV s) (mE l).toList).run P w = .ok (mplace l s 0) w := by
  have e : (mE l).toList = l.map mEntry := rfl
  simp only [Instr.findKey, Sem.run_bind, h, Result.andThen_ok, e, findNow_eq, Sem.run_pure]
theorem run_checkKey {w : World} {kt : TypeId} {em : Bool} (h : ∀ w, (underlying kt).run P w = .ok .string w) (s : List UInt8) :
    (Instr.checkKey em 10000 kt (SV s)).run P w = .ok () w := by
  have : ∀ k, (Instr.checkKey em (k + 1) kt (SV s)).run P w = .ok () w := fun k => by
    simp only [Instr.checkKey, Sem.run_bind, h, Result.andThen_ok]
    rfl
  exact this 9999
theorem run_getMap {w : World} {r c : Nat} {es : Array MapEntry} (hb : w.heap[r]? = some (.map es c)) : (getObj r).run P w = .ok (.map es c) w := by simp [getObj, Sem.run, hb]
theorem run_getIter {w : World} {r : Nat} {a : Option Nat} {b : Nat} {s : Array Nat} {c : Nat} (hb : w.heap[r]? = some (.mapIter a b s c)) : (getObj r).run P w = .ok (.mapIter a b s c) w := by simp [getObj, Sem.run, hb]
def setB (w : World) (r : Nat) (o : Obj) : World := { w with heap := w.heap.setIfInBounds r o }
theorem run_setMap {w : World} {r c : Nat} {es : Array MapEntry} (o : Obj) (hb : w.heap[r]? = some (.map es c)) : (setObj r o).run P w = .ok () (setB w r o) := by simp [setObj, Sem.run, hb, setB]
theorem run_setIter {w : World} {r : Nat} {a : Option Nat} {b : Nat} {s : Array Nat} {c : Nat} (o : Obj) (hb : w.heap[r]? = some (.mapIter a b s c)) : (setObj r o).run P w = .ok () (setB w r o) := by simp [setObj, Sem.run, hb, setB]
theorem Hs.setB {w : World} {H : Heap} {r : Nat} {o o' : Obj} (h : Hs g Ro w ([(r, o)] :: H)) : Hs g Ro (SL.setB w r o') ([(r, o')] :: H) := by
  have hb := h.at
  have hlt := (Array.getElem?_eq_some_iff.1 hb).1
  refine h.put _ ?_ (fun k hk => ?_) ?_ rfl rfl rfl
  · simp [SL.setB, hlt]
  · simp [SL.setB, Array.getElem?_setIfInBounds_ne (Ne.symm hk)]
  · simp [SL.setB]
section
variable {m : Env} {H H1 : Heap} {ty t kt vt b c : Nat} {x y z : Operand} {v : Value} {l : MEs} {s : List UInt8} {r : Option Value}
theorem run_look {w : World} (h : MapT P t kt vt) (hz : Zero P vt v) (hb : w.heap[b]? = some (.map (mE l) c)) (hv : mget l s = r) (ok : Bool) :
    (Instr.lookup t (.map (some b)) (SV s) ok).run P w = .ok (if ok then .tuple #[r.getD v, .bool r.isSome] else r.getD v) w := by
  have hp := mplace_get l s 0
  rw [hv] at hp
  simp only [Instr.lookup, Sem.run_bind, h.und, Result.andThen_ok, run_getMap hb, Sem.run_pure, run_checkKey h.key, run_findKey h.key]
  cases hm : mplace l s 0 with
  | none =>
    rw [hm] at hp
    simp only [Option.map_none] at hp
    subst hp
    simp only [Sem.run_bind, hz.run, Result.andThen_ok, Sem.run_pure]
    rfl
  | some p =>
    rw [hm] at hp
    simp only [Option.map_some] at hp
    subst hp
    rfl
/-- Reading a map. -/
theorem Qt.lk (hx : ev m x = some (.map (some b)) := by rfl) (hy : ev m y = some (SV s) := by rfl) (hv : mget l s = r) (hm : InB H Ro b (.map (mE l) c) := by infer_instance)
    (ht : MapT P t kt vt := by infer_instance) (hz : Zero P vt v := by infer_instance) : Qt P (.lookup t x y false) ty m H Ro (r.getD v) := fun a w d ps af gd ha hh hr => by
  simp only [execOp, ev_sound ha hx, ev_sound ha hy, Sem.run_bind, run_look ht hz (hm.at hh hr) hv, Result.andThen_ok]
  rfl
theorem Qt.lenM (hx : ev m x = some (.map (some b)) := by rfl) (hm : InB H Ro b (.map (mE l) c) := by infer_instance) (ht : MapT P t kt vt := by infer_instance) :
    Qt P (.call ⟨.builtin .len, #[x], #[t]⟩) ty m H Ro (N .i64 l.length) := fun a w d ps af gd ha hh hr => by
  have hb := hm.at hh hr
  have e : (mE l).size = l.length := by simp [mE]
  simp [execOp, resolve, invoke, builtin, Builtin.len_, ev_sound ha hx, ht.und, goInt, run_getMap hb, e]
/-- A new map. -/
theorem Ef.mm : Ef P g Ro (.makeMap t none) ty m H (fun b => g.w0.heap.size ≤ b) (fun b => .map (some b)) (fun b => [(b, .map (mE []) 0)] :: H) := by
  intro a w dst ps af gd K ha hh hk
  simp only [sw, execOp, Option.map_none, Instr.makeMap, Sem.run_bind, Sem.run_pure, Result.andThen_ok, run_newObj]
  exact hk w.heap.size _ hh.size (hh.new _)
theorem modify_at (f : MapEntry → MapEntry) (l : MEs) (s : List UInt8) (v' : Value) (c0 : Nat) (hf : ∀ e : List UInt8 × Value × Nat, e.1 = s → f (mEntry e) = mEntry (s, v', e.2.2)) :
    ∀ k p, mplace l s k = some p → ∃ i, p.1 = k + i ∧ (l.map mEntry).modify i f = (mset l s v' c0).map mEntry ∧ ((l.map mEntry)[i]?).map (·.key) = some (SV s) := by
  induction l with
  | nil => intro k p h; cases h
  | cons e r ih =>
    intro k p h
    simp only [mplace] at h
    by_cases he : e.1 = s
    · rw [if_pos he] at h
      cases h
      refine ⟨0, rfl, ?_, ?_⟩
      · simp [mset, he, hf e he]
      · simp [mEntry, he]
    · rw [if_neg he] at h
      obtain ⟨i, h1, h2, h3⟩ := ih (k + 1) p h
      refine ⟨i + 1, by omega, ?_, ?_⟩
      · simp [mset, he, h2]
      · simpa using h3
theorem mset_new : ∀ (l : MEs) (s : List UInt8) (v' : Value) (c0 k : Nat), mplace l s k = none → mset l s v' c0 = l ++ [(s, v', c0)]
  | [], _, _, _, _, _ => rfl
  | e :: r, s, v', c0, k, h => by
    simp only [mplace] at h
    by_cases he : e.1 = s
    · rw [if_pos he] at h; cases h
    · rw [if_neg he] at h
      simp [mset, he, mset_new r s v' c0 (k + 1) h]
theorem Ef.mu (hx : ev m x = some (.map (some b)) := by rfl) (hy : ev m y = some (SV s) := by rfl) (hz : ev m z = some v := by rfl)
    (hr : Rem H [(b, .map (mE l) c)] H1 := by (repeat first | exact Rem.here | apply Rem.there)) (ht : MapT P t kt vt := by infer_instance) :
    Ef P g Ro (.mapUpdate t x y z) ty m H (fun _ : Unit => True) (fun _ => undef) (fun _ => [(b, .map (mE (mset l s v c)) (mclk l s c))] :: H1) := by
  intro a w dst ps af gd K ha hh hk
  have h1 := hh.rem hr
  have hb := h1.at
  simp only [sw, execOp, Instr.mapUpdate, Sem.run_bind, ht.und, Result.andThen_ok, ev_sound ha hx, ev_sound ha hy, ev_sound ha hz, run_getMap hb, run_checkKey ht.key, run_findKey ht.key]
  cases hm : mplace l s 0 with
  | none =>
    have hg : mget l s = none := by rw [← mplace_get l s 0, hm]; rfl
    have e : (mE l).push { key := SV s, val := v, born := c } = mE (mset l s v c) := by
      rw [mset_new l s v c 0 hm]
      apply Array.ext'
      simp [mE, mEntry]
    simp only [run_setMap _ hb, Result.andThen_ok, Sem.run_pure, e]
    have := hk () _ trivial h1.setB
    simp only [mclk, hg] at this
    exact this
  | some p =>
    obtain ⟨i, v0⟩ := p
    have hg : mget l s = some v0 := by rw [← mplace_get l s 0, hm]; rfl
    obtain ⟨j, hj, e1, e2⟩ := modify_at (fun e => { e with key := SV s, val := v }) l s v c (fun e he => by simp [mEntry]) 0 (i, v0) hm
    simp only [Nat.zero_add] at hj
    subst hj
    have hkey : ((mE l)[i]?.map (·.key)) = some (SV s) := by simpa [mE] using e2
    have hstay : (Instr.keyThatStays (((mE l)[i]?.map (·.key)).getD (SV s)) (SV s)).run P w = .ok (SV s) w := by
      rw [hkey]
      have : Instr.sameBits 10000 (SV s) (SV s) = true := by
        unfold Instr.sameBits
        exact (text_beq s s).trans (by simp)
      simp only [Instr.keyThatStays, Option.getD_some, this, if_true, Sem.run_pure]
    have e : (mE l).modify i (fun e => { e with key := SV s, val := v }) = mE (mset l s v c) := by
      apply Array.ext'
      simp only [Array.toList_modify]
      exact e1
    simp only [Sem.run_bind, hstay, run_setMap _ hb, Result.andThen_ok, Sem.run_pure, e]
    have := hk () _ trivial h1.setB
    simp only [mclk, hg] at this
    exact this
/-- Ranging over a map. -/
theorem Ef.rg (hx : ev m x = some (.map (some b)) := by rfl) (hm : InB H Ro b (.map (mE l) c) := by infer_instance) (ht : MapT P t kt vt := by infer_instance) :
    Ef P g Ro (.range t x) ty m H (fun i => g.w0.heap.size ≤ i) (fun i => .pointer (some ⟨i, 0, none⟩)) (fun i => [(i, .mapIter (some b) c #[] c)] :: H) := by
  intro a w dst ps af gd K ha hh hk
  have hb := hm.at hh.sub hh.ro
  simp only [sw, execOp, Instr.range, Sem.run_bind, ht.und, Result.andThen_ok, ev_sound ha hx, run_getMap hb, Sem.run_pure, run_newObj]
  exact hk w.heap.size _ hh.size (hh.new _)
theorem Qt.en {i : Nat} {sn : List Nat} {e : List UInt8 × Value × Nat} (hx : ev m x = some (.pointer (some ⟨i, 0, none⟩)) := by rfl)
    (hi : InB H Ro i (.mapIter (some b) c (sn ++ [e.2.2]).toArray c) := by infer_instance) (he : e ∈ l) (hok : MOk l c) (hm : InB H Ro b (.map (mE l) c) := by infer_instance) :
    Qt P (.entry x) ty m H Ro (.tuple #[SV e.1, e.2.1]) := fun a w d ps af gd ha hh hr => by
  have hb := hm.at hh hr
  have hb2 := hi.at hh hr
  have hback : (sn ++ [e.2.2]).toArray.back? = some e.2.2 := by simp
  have hfind : (mE l).find? (·.born == e.2.2) = some (mEntry e) := by
    have : ∀ l : MEs, (l.map (·.2.2)).Nodup → e ∈ l → (l.map mEntry).find? (·.born == e.2.2) = some (mEntry e) := by
      intro l
      induction l with
      | nil => intro _ h; cases h
      | cons f r ih =>
        intro hn h
        simp only [List.map_cons, List.nodup_cons] at hn
        rcases List.mem_cons.1 h with rfl | h
        · simp [mEntry]
        · have : f.2.2 ≠ e.2.2 := fun h2 => hn.1 (h2 ▸ List.mem_map_of_mem h)
          have h3 : ((mEntry f).born == e.2.2) = false := by simpa [mEntry] using this
          rw [List.map_cons, List.find?_cons, h3]
          exact ih hn.2 h
    have h2 := this l hok.born he
    simpa [mE] using h2
  simp only [execOp, Instr.entry, Sem.run_bind, ev_sound ha hx, run_getIter hb2, run_getMap hb, Result.andThen_ok, hback, bne_self_eq_false, Bool.false_eq_true, if_false, hfind, Sem.run_pure]
  rfl
end
section
variable {ops : Array Oper} {Q : Post} {m : Env} {H H1 : Heap} {rest : List Oper} {d ty b c i : Nat} {ps : String} {af : Array Edge} {x : Operand} {l : MEs} {sn : List Nat}
/-- The next entry of a map that is ranged over. -/
theorem Rl.nx (hok : MOk l c) (hsn : ∀ k ∈ sn, k ∈ l.map (·.2.2))
    (hT : ∀ e, e ∈ l → e.2.2 ∉ sn → Rl P n g Ro ops Q rest ((d, .tuple #[.bool true, SV e.1, e.2.1]) :: m) ([(i, .mapIter (some b) c (sn ++ [e.2.2]).toArray c)] :: H1))
    (hF : (∀ e ∈ l, e.2.2 ∈ sn) → Rl P n g Ro ops Q rest ((d, .tuple #[.bool false]) :: m) H)
    (hx : ev m x = some (.pointer (some ⟨i, 0, none⟩)) := by rfl)
    (hr : Rem H [(i, .mapIter (some b) c sn.toArray c)] H1 := by (repeat first | exact Rem.here | apply Rem.there)) (hm : InB H Ro b (.map (mE l) c) := by infer_instance)
    (hd : Nat.blt d n = true := by rfl) : Rl P n g Ro ops Q (⟨some d, .next x false, ty, ps, af, none⟩ :: rest) m H := fun a w hs hh => by
  refine wpList_plain rfl fun K' hK => ?_
  have h1 := hh.rem hr
  have hb := hm.at hh.sub hh.ro
  unfold Oper.wp
  have hsz : (mE l).size = l.length := by simp [mE]
  have hsn0 : sn.toArray.isEmpty = true → sn = [] := by cases sn <;> simp
  have hgone : (!sn.toArray.isEmpty && !(mE l).isEmpty && (mE l).all (·.born ≥ c)) = false := by
    cases hl : l with
    | nil => simp [mE]
    | cons e r =>
      have := hok.lt e (by rw [hl]; exact List.mem_cons_self ..)
      have h2 : decide (c ≤ (mEntry e).born) = false := decide_eq_false (by show ¬ c ≤ e.2.2; omega)
      simp [mE, h2]
  have hleft : ((mE l).filter fun e => !sn.toArray.contains e.born) = mE (l.filter fun e => !sn.contains e.2.2) := by
    apply Array.ext'
    simp only [Array.toList_filter, mE, List.filter_map]
    congr 1
    apply List.filter_congr
    intro e _
    simp only [mEntry, Function.comp_apply, List.contains_toArray]
  have hold : ((mE (l.filter fun e => !sn.contains e.2.2)).filter (·.born < c)) = mE (l.filter fun e => !sn.contains e.2.2) := by
    apply Array.ext'
    simp only [Array.toList_filter, mE]
    rw [List.filter_eq_self]
    intro e he
    obtain ⟨f, hf, rfl⟩ := List.mem_map.1 he
    have := hok.lt f (List.mem_filter.1 hf).1
    exact decide_eq_true (show f.2.2 < c from this)
  have hnew : ((mE (l.filter fun e => !sn.contains e.2.2)).filter (·.born ≥ c)) = #[] := by
    apply Array.ext'
    simp only [Array.toList_filter, mE]
    show List.filter _ _ = []
    rw [List.filter_eq_nil_iff]
    intro e he
    obtain ⟨f, hf, rfl⟩ := List.mem_map.1 he
    have := hok.lt f (List.mem_filter.1 hf).1
    simp only [ge_iff_le, decide_eq_true_eq, mEntry]; omega
  simp only [execOp, Instr.next, Sem.run_bind, ev_sound hs.ag hx, run_getIter h1.at, run_getMap hb, Result.andThen_ok, hgone, Bool.false_eq_true, if_false, hleft, hold, hnew, Array.append_empty]
  cases hl : l.filter fun e => !sn.contains e.2.2 with
  | nil =>
    have hall : ∀ e ∈ l, e.2.2 ∈ sn := fun e he => by
      have := List.filter_eq_nil_iff.1 hl e he
      simpa using this
    have e0 : (if (mE ([] : MEs)).isEmpty then (#[none] : Array (Option MapEntry)) else #[]) ++ (mE ([] : MEs)).map some = #[none] := by simp [mE]
    have hf : (Question.mapNext 1).forced = true := rfl
    simp only [e0, run_choose, show (#[none] : Array (Option MapEntry)).size = 1 from rfl, hf, if_true, Result.andThen_ok, Sem.run_pure, show (#[none] : Array (Option MapEntry))[0]? = some none from rfl]
    exact hK _ _ (hF hall _ w (hs.put hd _) hh)
  | cons e0 r0 =>
    generalize hL : e0 :: r0 = L at *
    have hne : (mE L).isEmpty = false := by subst hL; simp [mE]
    have ecand : (if (mE L).isEmpty then (#[none] : Array (Option MapEntry)) else #[]) ++ (mE L).map some = (mE L).map some := by simp [hne]
    have hpos : 0 < L.length := by subst hL; simp
    have fin : ∀ q w2, q < L.length → Grow w w2 → ∃ e, e ∈ l ∧ e.2.2 ∉ sn ∧ ((mE L).map some)[q]? = some (some (mEntry e)) := fun q w2 hq hg => by
      have hm : L[q] ∈ l.filter fun e => !sn.contains e.2.2 := by rw [hl]; exact List.getElem_mem hq
      rw [List.mem_filter] at hm
      refine ⟨L[q], hm.1, by simpa using hm.2, ?_⟩
      simp [mE, hq]
    simp only [ecand, run_choose, Array.size_map, show (mE L).size = L.length from by simp [mE]]
    have go : ∀ q w2, q < L.length → Grow w w2 → ∃ e, e ∈ l ∧ e.2.2 ∉ sn ∧ ((mE L).map some)[q]? = some (some (mEntry e)) ∧
        (setObj i (.mapIter (some b) c (sn.toArray.push (mEntry e).born) c)).run P w2 = .ok () (SL.setB w2 i (.mapIter (some b) c (sn ++ [e.2.2]).toArray c)) ∧
        Hs g Ro (SL.setB w2 i (.mapIter (some b) c (sn ++ [e.2.2]).toArray c)) ([(i, .mapIter (some b) c (sn ++ [e.2.2]).toArray c)] :: H1) := fun q w2 hq hg => by
      obtain ⟨e, h2, h3, h4⟩ := fin q w2 hq hg
      have h5 := h1.grow hg
      refine ⟨e, h2, h3, h4, ?_, h5.setB⟩
      rw [run_setIter _ h5.at]
      simp [mEntry]
    by_cases hf : (Question.mapNext L.length).forced = true
    · obtain ⟨e, h2, h3, h4, h5, h6⟩ := go 0 w hpos (Grow.refl w)
      simp only [hf, if_true, Result.andThen_ok, h4, Sem.run_bind, h5, Sem.run_pure]
      exact hK _ _ (hT e h2 h3 _ _ (hs.put hd _) h6)
    · have hf' : (Question.mapNext L.length).forced = false := by simpa using hf
      have hcut : (Question.mapNext L.length).cut (w.tape w.drawn (.mapNext L.length)) < L.length := Nat.mod_lt _ hpos
      obtain ⟨e, h2, h3, h4, h5, h6⟩ := go _ _ hcut (Grow.draw w (w.drawn + 1))
      simp only [hf', Bool.false_eq_true, if_false, Result.andThen_ok, h4, Sem.run_bind, h5, Sem.run_pure]
      exact hK _ _ (hT e h2 h3 _ _ (hs.put hd _) h6)
end
end SL
end Go.Proofs.YtlmiekcmjpnobaaGreatDoor
namespace Go.Proofs.YtlmiekcmjpnobaaGreatDoor
open Go
namespace SL
instance : SizeOf Tryz.prog 2 1 := ⟨Tryz.sizeOf2⟩
instance : SizeOf Tryz.prog 3 1 := ⟨Tryz.sizeOf3⟩
instance : SizeOf Tryz.prog 4 1 := ⟨Tryz.sizeOf4⟩
instance : SizeOf Tryz.prog 5 1 := ⟨Tryz.sizeOf5⟩
instance : SizeOf Tryz.prog 9 1 := ⟨Tryz.sizeOf9⟩
instance : SizeOf Tryz.prog 26 1 := ⟨Tryz.sizeOf26⟩
instance : SizeOf Tryz.prog 28 1 := ⟨Tryz.sizeOf28⟩
instance : SizeOf Tryz.prog 39 1 := ⟨Tryz.sizeOf39⟩
instance : SizeOf Tryz.prog 40 1 := ⟨Tryz.sizeOf40⟩
instance : SizeOf Tryz.prog 43 1 := ⟨Tryz.sizeOf43⟩
instance : SizeOf Tryz.prog 46 1 := ⟨Tryz.sizeOf46⟩
instance : SizeOf Tryz.prog 48 24 := ⟨Tryz.sizeOf48⟩
instance : SizeOf Tryz.prog 53 1 := ⟨Tryz.sizeOf53⟩
instance : SizeOf Tryz.prog 55 2 := ⟨Tryz.sizeOf55⟩
instance : SizeOf Tryz.prog 57 1 := ⟨Tryz.sizeOf57⟩
instance : SizeOf Tryz.prog 59 18 := ⟨Tryz.sizeOf59⟩
instance : SizeOf Tryz.prog 65 1 := ⟨Tryz.sizeOf65⟩
instance : SizeOf Tryz.prog 66 1 := ⟨Tryz.sizeOf66⟩
instance : SizeOf Tryz.prog 79 1 := ⟨Tryz.sizeOf79⟩
instance : SizeOf Tryz.prog 81 23 := ⟨Tryz.sizeOf81⟩
instance : SizeOf Tryz.prog 84 2 := ⟨Tryz.sizeOf84⟩
instance : SizeOf Tryz.prog 87 3 := ⟨Tryz.sizeOf87⟩
instance : SizeOf Tryz.prog 103 22 := ⟨Tryz.sizeOf103⟩
instance : SizeOf Tryz.prog 131 1 := ⟨Tryz.sizeOf131⟩
instance : SizeOf Tryz.prog 155 1 := ⟨Tryz.sizeOf155⟩
instance : SizeOf Tryz.prog 156 1 := ⟨Tryz.sizeOf156⟩
instance : SizeOf Tryz.prog 162 3 := ⟨Tryz.sizeOf162⟩
instance : SizeOf Tryz.prog 163 1 := ⟨Tryz.sizeOf163⟩
instance : SizeOf Tryz.prog 167 1 := ⟨Tryz.sizeOf167⟩
instance : SizeOf Tryz.prog 169 1 := ⟨Tryz.sizeOf169⟩
instance : SizeOf Tryz.prog 199 12 := ⟨Tryz.sizeOf199⟩
instance : SizeOf Tryz.prog 204 1 := ⟨Tryz.sizeOf204⟩
instance : SizeOf Tryz.prog 216 465 := ⟨Tryz.sizeOf216⟩
instance : SizeOf Tryz.prog 238 1 := ⟨Tryz.sizeOf238⟩
instance : SizeOf Tryz.prog 248 3 := ⟨Tryz.sizeOf248⟩
instance : SizeOf Tryz.prog 252 3 := ⟨Tryz.sizeOf252⟩
instance : SizeOf Tryz.prog 262 91 := ⟨Tryz.sizeOf262⟩
instance : SizeOf Tryz.prog 263 3 := ⟨Tryz.sizeOf263⟩
instance : SizeOf Tryz.prog 277 5 := ⟨Tryz.sizeOf277⟩
instance : SizeOf Tryz.prog 279 4 := ⟨Tryz.sizeOf279⟩
instance : SizeOf Tryz.prog 293 2 := ⟨Tryz.sizeOf293⟩
instance : SizeOf Tryz.prog 299 4 := ⟨Tryz.sizeOf299⟩
instance : One Tryz.prog 2 := ⟨Tryz.isAgg2, Tryz.sizeOf2⟩
instance : One Tryz.prog 3 := ⟨Tryz.isAgg3, Tryz.sizeOf3⟩
instance : One Tryz.prog 4 := ⟨Tryz.isAgg4, Tryz.sizeOf4⟩
instance : One Tryz.prog 5 := ⟨Tryz.isAgg5, Tryz.sizeOf5⟩
instance : One Tryz.prog 9 := ⟨Tryz.isAgg9, Tryz.sizeOf9⟩
instance : One Tryz.prog 26 := ⟨Tryz.isAgg26, Tryz.sizeOf26⟩
instance : One Tryz.prog 39 := ⟨Tryz.isAgg39, Tryz.sizeOf39⟩
instance : One Tryz.prog 40 := ⟨Tryz.isAgg40, Tryz.sizeOf40⟩
instance : One Tryz.prog 43 := ⟨Tryz.isAgg43, Tryz.sizeOf43⟩
instance : One Tryz.prog 46 := ⟨Tryz.isAgg46, Tryz.sizeOf46⟩
instance : One Tryz.prog 53 := ⟨Tryz.isAgg53, Tryz.sizeOf53⟩
instance : One Tryz.prog 56 := ⟨Tryz.isAgg56, Tryz.sizeOf56⟩
instance : One Tryz.prog 57 := ⟨Tryz.isAgg57, Tryz.sizeOf57⟩
instance : One Tryz.prog 65 := ⟨Tryz.isAgg65, Tryz.sizeOf65⟩
instance : One Tryz.prog 66 := ⟨Tryz.isAgg66, Tryz.sizeOf66⟩
instance : One Tryz.prog 79 := ⟨Tryz.isAgg79, Tryz.sizeOf79⟩
instance : One Tryz.prog 109 := ⟨Tryz.isAgg109, Tryz.sizeOf109⟩
instance : One Tryz.prog 113 := ⟨Tryz.isAgg113, Tryz.sizeOf113⟩
instance : One Tryz.prog 116 := ⟨Tryz.isAgg116, Tryz.sizeOf116⟩
instance : One Tryz.prog 119 := ⟨Tryz.isAgg119, Tryz.sizeOf119⟩
instance : One Tryz.prog 131 := ⟨Tryz.isAgg131, Tryz.sizeOf131⟩
instance : One Tryz.prog 155 := ⟨Tryz.isAgg155, Tryz.sizeOf155⟩
instance : One Tryz.prog 156 := ⟨Tryz.isAgg156, Tryz.sizeOf156⟩
instance : One Tryz.prog 163 := ⟨Tryz.isAgg163, Tryz.sizeOf163⟩
instance : One Tryz.prog 166 := ⟨Tryz.isAgg166, Tryz.sizeOf166⟩
instance : One Tryz.prog 167 := ⟨Tryz.isAgg167, Tryz.sizeOf167⟩
instance : One Tryz.prog 169 := ⟨Tryz.isAgg169, Tryz.sizeOf169⟩
instance : One Tryz.prog 197 := ⟨Tryz.isAgg197, Tryz.sizeOf197⟩
instance : One Tryz.prog 203 := ⟨Tryz.isAgg203, Tryz.sizeOf203⟩
instance : One Tryz.prog 204 := ⟨Tryz.isAgg204, Tryz.sizeOf204⟩
instance : One Tryz.prog 205 := ⟨Tryz.isAgg205, Tryz.sizeOf205⟩
instance : One Tryz.prog 238 := ⟨Tryz.isAgg238, Tryz.sizeOf238⟩
instance : One Tryz.prog 244 := ⟨Tryz.isAgg244, Tryz.sizeOf244⟩
instance : One Tryz.prog 297 := ⟨Tryz.isAgg297, Tryz.sizeOf297⟩
instance : Agg Tryz.prog 28 1 := ⟨Tryz.isAgg28, Tryz.sizeOf28⟩
instance : Agg Tryz.prog 42 3 := ⟨Tryz.isAgg42, Tryz.sizeOf42⟩
instance : Agg Tryz.prog 45 20 := ⟨Tryz.isAgg45, Tryz.sizeOf45⟩
instance : Agg Tryz.prog 48 24 := ⟨Tryz.isAgg48, Tryz.sizeOf48⟩
instance : Agg Tryz.prog 55 2 := ⟨Tryz.isAgg55, Tryz.sizeOf55⟩
instance : Agg Tryz.prog 59 18 := ⟨Tryz.isAgg59, Tryz.sizeOf59⟩
instance : Agg Tryz.prog 81 23 := ⟨Tryz.isAgg81, Tryz.sizeOf81⟩
instance : Agg Tryz.prog 84 2 := ⟨Tryz.isAgg84, Tryz.sizeOf84⟩
instance : Agg Tryz.prog 87 3 := ⟨Tryz.isAgg87, Tryz.sizeOf87⟩
instance : Agg Tryz.prog 103 22 := ⟨Tryz.isAgg103, Tryz.sizeOf103⟩
instance : Agg Tryz.prog 162 3 := ⟨Tryz.isAgg162, Tryz.sizeOf162⟩
instance : Agg Tryz.prog 199 12 := ⟨Tryz.isAgg199, Tryz.sizeOf199⟩
instance : Agg Tryz.prog 208 4 := ⟨Tryz.isAgg208, Tryz.sizeOf208⟩
instance : Agg Tryz.prog 209 17 := ⟨Tryz.isAgg209, Tryz.sizeOf209⟩
instance : Agg Tryz.prog 211 2 := ⟨Tryz.isAgg211, Tryz.sizeOf211⟩
instance : Agg Tryz.prog 214 96 := ⟨Tryz.isAgg214, Tryz.sizeOf214⟩
instance : Agg Tryz.prog 216 465 := ⟨Tryz.isAgg216, Tryz.sizeOf216⟩
instance : Agg Tryz.prog 248 3 := ⟨Tryz.isAgg248, Tryz.sizeOf248⟩
instance : Agg Tryz.prog 262 91 := ⟨Tryz.isAgg262, Tryz.sizeOf262⟩
instance : Agg Tryz.prog 277 5 := ⟨Tryz.isAgg277, Tryz.sizeOf277⟩
instance : Agg Tryz.prog 279 4 := ⟨Tryz.isAgg279, Tryz.sizeOf279⟩
instance : Agg Tryz.prog 280 16 := ⟨Tryz.isAgg280, Tryz.sizeOf280⟩
instance : Agg Tryz.prog 293 2 := ⟨Tryz.isAgg293, Tryz.sizeOf293⟩
instance : Agg Tryz.prog 294 14 := ⟨Tryz.isAgg294, Tryz.sizeOf294⟩
instance : Agg Tryz.prog 299 4 := ⟨Tryz.isAgg299, Tryz.sizeOf299⟩
instance : SlT Tryz.prog 22 48 24 := ⟨Tryz.runUnderlying22, Tryz.sizeOf48⟩
instance : SlT Tryz.prog 25 103 22 := ⟨Tryz.runUnderlying25, Tryz.sizeOf103⟩
instance : SlT Tryz.prog 26 59 18 := ⟨Tryz.runUnderlying26, Tryz.sizeOf59⟩
instance : SlT Tryz.prog 43 140 2 := ⟨Tryz.runUnderlying43, Tryz.sizeOf140⟩
instance : SlT Tryz.prog 46 5 1 := ⟨Tryz.runUnderlying46, Tryz.sizeOf5⟩
instance : SlT Tryz.prog 53 9 1 := ⟨Tryz.runUnderlying53, Tryz.sizeOf9⟩
instance : SlT Tryz.prog 56 84 2 := ⟨Tryz.runUnderlying56, Tryz.sizeOf84⟩
instance : SlT Tryz.prog 57 3 1 := ⟨Tryz.runUnderlying57, Tryz.sizeOf3⟩
instance : SlT Tryz.prog 65 81 23 := ⟨Tryz.runUnderlying65, Tryz.sizeOf81⟩
instance : SlT Tryz.prog 79 87 3 := ⟨Tryz.runUnderlying79, Tryz.sizeOf87⟩
instance : SlT Tryz.prog 96 4 1 := ⟨Tryz.runUnderlying96, Tryz.sizeOf4⟩
instance : SlT Tryz.prog 98 66 1 := ⟨Tryz.runUnderlying98, Tryz.sizeOf66⟩
instance : SlT Tryz.prog 115 113 1 := ⟨Tryz.runUnderlying115, Tryz.sizeOf113⟩
instance : SlT Tryz.prog 155 156 1 := ⟨Tryz.runUnderlying155, Tryz.sizeOf156⟩
instance : SlT Tryz.prog 194 199 12 := ⟨Tryz.runUnderlying194, Tryz.sizeOf199⟩
instance : SlT Tryz.prog 238 248 3 := ⟨Tryz.runUnderlying238, Tryz.sizeOf248⟩
instance : SlT Tryz.prog 271 55 2 := ⟨Tryz.runUnderlying271, Tryz.sizeOf55⟩
instance : SlT Tryz.prog 284 279 4 := ⟨Tryz.runUnderlying284, Tryz.sizeOf279⟩
instance : ArT Tryz.prog 179 4096 5 1 := ⟨Tryz.runUnderlying179, Tryz.sizeOf5⟩
instance : ArT Tryz.prog 195 8192 5 1 := ⟨Tryz.runUnderlying195, Tryz.sizeOf5⟩
instance : ArT Tryz.prog 206 16 5 1 := ⟨Tryz.runUnderlying206, Tryz.sizeOf5⟩
instance : ArT Tryz.prog 207 64 5 1 := ⟨Tryz.runUnderlying207, Tryz.sizeOf5⟩
instance : ArT Tryz.prog 208 4 40 1 := ⟨Tryz.runUnderlying208, Tryz.sizeOf40⟩
instance : ArT Tryz.prog 209 17 40 1 := ⟨Tryz.runUnderlying209, Tryz.sizeOf40⟩
instance : ArT Tryz.prog 210 32 5 1 := ⟨Tryz.runUnderlying210, Tryz.sizeOf5⟩
instance : ArT Tryz.prog 211 2 40 1 := ⟨Tryz.runUnderlying211, Tryz.sizeOf40⟩
instance : ArT Tryz.prog 212 4 5 1 := ⟨Tryz.runUnderlying212, Tryz.sizeOf5⟩
instance : ArT Tryz.prog 213 2 5 1 := ⟨Tryz.runUnderlying213, Tryz.sizeOf5⟩
instance : ArT Tryz.prog 214 96 40 1 := ⟨Tryz.runUnderlying214, Tryz.sizeOf40⟩
instance : ArT Tryz.prog 260 60 5 1 := ⟨Tryz.runUnderlying260, Tryz.sizeOf5⟩
instance : ArT Tryz.prog 263 1 248 3 := ⟨Tryz.runUnderlying263, Tryz.sizeOf248⟩
instance : ArT Tryz.prog 280 4 279 4 := ⟨Tryz.runUnderlying280, Tryz.sizeOf279⟩
instance : ArT Tryz.prog 294 7 293 2 := ⟨Tryz.runUnderlying294, Tryz.sizeOf293⟩
instance : StrT Tryz.prog 9 := ⟨Tryz.runUnderlying9⟩
instance : IntT Tryz.prog 2 .i64 := ⟨Tryz.runUnderlying2⟩
instance : IntT Tryz.prog 3 .i64 := ⟨Tryz.runUnderlying3⟩
instance : IntT Tryz.prog 5 .u8 := ⟨Tryz.runUnderlying5⟩
instance : IntT Tryz.prog 21 .i32 := ⟨Tryz.runUnderlying21⟩
instance : IntT Tryz.prog 39 .u16 := ⟨Tryz.runUnderlying39⟩
instance : IntT Tryz.prog 40 .u32 := ⟨Tryz.runUnderlying40⟩
instance : IntT Tryz.prog 66 .u64 := ⟨Tryz.runUnderlying66⟩
instance : IntT Tryz.prog 166 .u32 := ⟨Tryz.runUnderlying166⟩
instance : IfT Tryz.prog 119 := ⟨_, Tryz.runUnderlying119⟩
instance : PtrT Tryz.prog 156 171 := ⟨Tryz.runUnderlying156, _, Tryz.sizeOf171⟩
instance : MapT Tryz.prog 163 9 46 := ⟨Tryz.runUnderlying163, Tryz.runUnderlying9⟩
instance : MapT Tryz.prog 169 9 156 := ⟨Tryz.runUnderlying169, Tryz.runUnderlying9⟩
instance : BytT Tryz.prog 46 5 := ⟨Tryz.runUnderlying46, Tryz.runUnderlying5⟩
instance : Byt Tryz.prog 3 8 := ⟨_, Tryz.typeInfo3, rfl⟩
instance : Byt Tryz.prog 4 1 := ⟨_, Tryz.typeInfo4, rfl⟩
instance : Byt Tryz.prog 5 1 := ⟨_, Tryz.typeInfo5, rfl⟩
instance : Byt Tryz.prog 9 16 := ⟨_, Tryz.typeInfo9, rfl⟩
instance : Byt Tryz.prog 48 232 := ⟨_, Tryz.typeInfo48, rfl⟩
instance : Byt Tryz.prog 59 200 := ⟨_, Tryz.typeInfo59, rfl⟩
instance : Byt Tryz.prog 66 8 := ⟨_, Tryz.typeInfo66, rfl⟩
instance : Byt Tryz.prog 81 216 := ⟨_, Tryz.typeInfo81, rfl⟩
instance : Byt Tryz.prog 84 40 := ⟨_, Tryz.typeInfo84, rfl⟩
instance : Byt Tryz.prog 87 32 := ⟨_, Tryz.typeInfo87, rfl⟩
instance : Byt Tryz.prog 103 184 := ⟨_, Tryz.typeInfo103, rfl⟩
instance : Byt Tryz.prog 113 8 := ⟨_, Tryz.typeInfo113, rfl⟩
instance : Byt Tryz.prog 156 8 := ⟨_, Tryz.typeInfo156, rfl⟩
instance : Byt Tryz.prog 199 32 := ⟨_, Tryz.typeInfo199, rfl⟩
instance : Byt Tryz.prog 248 48 := ⟨_, Tryz.typeInfo248, rfl⟩
instance : Zero Tryz.prog 3 (N .i64 0) := ⟨Tryz.zeroValue3⟩
instance : Zero Tryz.prog 4 (Value.bool false) := ⟨Tryz.zeroValue4⟩
instance : Zero Tryz.prog 5 (N .u8 0) := ⟨Tryz.zeroValue5⟩
instance : Zero Tryz.prog 9 (Value.string { data := #[] }) := ⟨Tryz.zeroValue9⟩
instance : Zero Tryz.prog 28 (Value.agg #[Value.slice none 0 0]) := ⟨Tryz.zeroValue28⟩
instance : Zero Tryz.prog 45 (Value.agg #[Value.string { data := #[] }, N .i64 0, N .u16 0, N .u32 0, N .u32 0, Value.bool false, N .i64 0, N .i64 0, Value.bool false, N .i64 0, N .i64 0, Value.bool false, N .i64 0, N .i64 0, Value.bool false, N .i64 0, N .i64 0, N .u32 0, N .u32 0, Value.slice none 0 0]) := ⟨Tryz.zeroValue45⟩
instance : Zero Tryz.prog 46 (Value.slice none 0 0) := ⟨Tryz.zeroValue46⟩
instance : Zero Tryz.prog 48 (Value.agg #[N .i64 0, Value.string { data := #[] }, Value.string { data := #[] }, Value.string { data := #[] }, N .i64 0, N .u16 0, N .u32 0, N .u32 0, Value.bool false, N .i64 0, N .i64 0, Value.bool false, N .i64 0, N .i64 0, Value.bool false, N .i64 0, N .i64 0, Value.bool false, N .i64 0, N .i64 0, N .u32 0, N .u32 0, Value.slice none 0 0, Value.slice none 0 0]) := ⟨Tryz.zeroValue48⟩
instance : Zero Tryz.prog 53 (Value.slice none 0 0) := ⟨Tryz.zeroValue53⟩
instance : Zero Tryz.prog 55 (Value.agg #[N .i64 0, N .i64 0]) := ⟨Tryz.zeroValue55⟩
instance : Zero Tryz.prog 59 (Value.agg #[N .u16 0, N .u32 0, N .u32 0, N .i64 0, N .i64 0, N .i64 0, N .i64 0, N .i64 0, N .i64 0, N .i64 0, N .i64 0, N .u32 0, N .u32 0, Value.slice none 0 0, Value.string { data := #[] }, Value.slice none 0 0, Value.slice none 0 0, Value.slice none 0 0]) := ⟨Tryz.zeroValue59⟩
instance : Zero Tryz.prog 66 (N .u64 0) := ⟨Tryz.zeroValue66⟩
instance : Zero Tryz.prog 68 (Value.agg #[Value.slice none 0 0, N .u64 0, Value.slice none 0 0, Value.slice none 0 0, N .u64 0, N .u64 0, N .u64 0, N .u64 0, N .u64 0, Value.slice none 0 0, Value.bool false]) := ⟨Tryz.zeroValue68⟩
instance : Zero Tryz.prog 81 (Value.agg #[N .u64 0, N .u16 0, N .u32 0, N .u32 0, N .u64 0, N .u64 0, N .u64 0, N .u64 0, N .i64 0, N .i64 0, N .i64 0, N .i64 0, N .i64 0, N .i64 0, N .i64 0, N .i64 0, N .u32 0, N .u32 0, Value.slice none 0 0, Value.slice none 0 0, Value.slice none 0 0, Value.bool false, N .u64 0]) := ⟨Tryz.zeroValue81⟩
instance : Zero Tryz.prog 84 (Value.agg #[Value.string { data := #[] }, Value.slice none 0 0]) := ⟨Tryz.zeroValue84⟩
instance : Zero Tryz.prog 87 (Value.agg #[Value.string { data := #[] }, N .u64 0, N .u64 0]) := ⟨Tryz.zeroValue87⟩
instance : Zero Tryz.prog 103 (Value.agg #[N .i64 0, N .i64 0, Value.string { data := #[] }, N .i64 0, N .u16 0, N .u32 0, N .u32 0, Value.bool false, N .i64 0, N .i64 0, Value.bool false, N .i64 0, N .i64 0, Value.bool false, N .i64 0, N .i64 0, Value.bool false, N .i64 0, N .i64 0, N .u32 0, N .u32 0, Value.slice none 0 0]) := ⟨Tryz.zeroValue103⟩
instance : Zero Tryz.prog 111 (Value.agg #[Value.slice none 0 0, N .i64 0]) := ⟨Tryz.zeroValue111⟩
instance : Zero Tryz.prog 113 Value.nilFunc := ⟨Tryz.zeroValue113⟩
instance : Zero Tryz.prog 131 Value.nilFunc := ⟨Tryz.zeroValue131⟩
instance : Zero Tryz.prog 156 (Value.pointer none) := ⟨Tryz.zeroValue156⟩
instance : Zero Tryz.prog 158 (Value.agg #[Value.pointer none, Value.slice none 0 0, Value.string { data := #[] }, Value.pointer none, N .i64 0, N .i64 0, N .i64 0, Value.nilIface, Value.bool false, Value.bool false, N .i64 0, N .u32 0]) := ⟨Tryz.zeroValue158⟩
instance : Zero Tryz.prog 162 (Value.agg #[Value.bool false, N .i64 0, N .i64 0]) := ⟨Tryz.zeroValue162⟩
instance : Zero Tryz.prog 165 (Value.agg #[Value.string { data := #[] }, N .i64 0, N .u16 0, N .u32 0, N .u32 0, Value.bool false, N .i64 0, N .i64 0, Value.bool false, N .i64 0, N .i64 0, Value.bool false, N .i64 0, N .i64 0, Value.bool false, N .i64 0, N .i64 0, N .u32 0, N .u32 0, Value.map none]) := ⟨Tryz.zeroValue165⟩
instance : Zero Tryz.prog 171 (Value.agg #[N .i64 0, N .u64 0, N .u64 0, N .u64 0, N .u64 0, N .u32 0, N .u16 0, N .u32 0, N .u32 0, N .u32 0, N .u32 0, N .u32 0, N .u32 0, N .u32 0, N .u32 0, Value.slice none 0 0, Value.slice none 0 0, Value.map none]) := ⟨Tryz.zeroValue171⟩
instance : Zero Tryz.prog 179 (Value.agg Tryz.zeroCells179) := ⟨Tryz.zeroValue179⟩
instance : Zero Tryz.prog 195 (Value.agg Tryz.zeroCells195) := ⟨Tryz.zeroValue195⟩
instance : Zero Tryz.prog 199 (Value.agg #[N .u32 0, N .u32 0, N .u32 0, N .u16 0, N .u16 0, N .u16 0, N .u16 0, N .u32 0, N .u16 0, N .u16 0, N .u16 0, N .u16 0]) := ⟨Tryz.zeroValue199⟩
instance : Zero Tryz.prog 212 (Value.agg #[N .u8 0, N .u8 0, N .u8 0, N .u8 0]) := ⟨Tryz.zeroValue212⟩
instance : Zero Tryz.prog 216 (Value.agg Tryz.zeroCells216) := ⟨Tryz.zeroValue216⟩
instance : Zero Tryz.prog 240 (Value.agg #[Value.slice none 0 0, Value.slice none 0 0, N .i64 0, N .i64 0]) := ⟨Tryz.zeroValue240⟩
instance : Zero Tryz.prog 248 (Value.agg #[Value.string { data := #[] }, N .u8 0, Value.slice none 0 0]) := ⟨Tryz.zeroValue248⟩
instance : Zero Tryz.prog 252 (Value.agg #[Value.string { data := #[] }, Value.slice none 0 0, N .i64 0]) := ⟨Tryz.zeroValue252⟩
instance : Zero Tryz.prog 263 (Value.agg #[Value.string { data := #[] }, N .u8 0, Value.slice none 0 0]) := ⟨Tryz.zeroValue263⟩
instance : Zero Tryz.prog 277 (Value.agg #[N .u16 0, N .u16 0, N .u16 0, N .u16 0, N .u32 0]) := ⟨Tryz.zeroValue277⟩
instance : Zero Tryz.prog 279 (Value.agg #[N .u32 0, N .u16 0, N .u16 0, N .u32 0]) := ⟨Tryz.zeroValue279⟩
instance : Zero Tryz.prog 281 (Value.agg #[N .u16 0, N .u16 0, N .u16 0, N .u16 0, N .u32 0, N .u32 0, N .u16 0, N .u16 0, N .u32 0, N .u32 0, N .u16 0, N .u16 0, N .u32 0, N .u32 0, N .u16 0, N .u16 0, N .u32 0, N .u32 0, N .u16 0, N .u16 0, N .u32 0]) := ⟨Tryz.zeroValue281⟩
instance : Zero Tryz.prog 293 (Value.agg #[N .u8 0, Value.string { data := #[] }]) := ⟨Tryz.zeroValue293⟩
instance : Zero Tryz.prog 299 (Value.agg #[N .u32 0, N .u16 0, N .u8 0, N .u8 0]) := ⟨Tryz.zeroValue299⟩
instance : Fld Tryz.prog 28 0 0 := .of Tryz.runUnderlying28 rfl rfl Tryz.sizeOf26
instance : Fld Tryz.prog 42 0 0 := .of Tryz.runUnderlying42 rfl rfl Tryz.sizeOf4
instance : Fld Tryz.prog 42 1 1 := .of Tryz.runUnderlying42 rfl rfl Tryz.sizeOf2
instance : Fld Tryz.prog 42 2 2 := .of Tryz.runUnderlying42 rfl rfl Tryz.sizeOf3
instance : Fld Tryz.prog 45 0 0 := .of Tryz.runUnderlying45 rfl rfl Tryz.sizeOf9
instance : Fld Tryz.prog 45 1 1 := .of Tryz.runUnderlying45 rfl rfl Tryz.sizeOf2
instance : Fld Tryz.prog 45 2 2 := .of Tryz.runUnderlying45 rfl rfl Tryz.sizeOf39
instance : Fld Tryz.prog 45 3 3 := .of Tryz.runUnderlying45 rfl rfl Tryz.sizeOf40
instance : Fld Tryz.prog 45 4 4 := .of Tryz.runUnderlying45 rfl rfl Tryz.sizeOf40
instance : Fld Tryz.prog 45 5 5 := .of Tryz.runUnderlying45 rfl rfl Tryz.sizeOf42
instance : Fld Tryz.prog 45 6 8 := .of Tryz.runUnderlying45 rfl rfl Tryz.sizeOf42
instance : Fld Tryz.prog 45 7 11 := .of Tryz.runUnderlying45 rfl rfl Tryz.sizeOf42
instance : Fld Tryz.prog 45 8 14 := .of Tryz.runUnderlying45 rfl rfl Tryz.sizeOf42
instance : Fld Tryz.prog 45 9 17 := .of Tryz.runUnderlying45 rfl rfl Tryz.sizeOf40
instance : Fld Tryz.prog 45 10 18 := .of Tryz.runUnderlying45 rfl rfl Tryz.sizeOf40
instance : Fld Tryz.prog 45 11 19 := .of Tryz.runUnderlying45 rfl rfl Tryz.sizeOf43
instance : Fld Tryz.prog 48 0 0 := .of Tryz.runUnderlying48 rfl rfl Tryz.sizeOf3
instance : Fld Tryz.prog 48 1 1 := .of Tryz.runUnderlying48 rfl rfl Tryz.sizeOf9
instance : Fld Tryz.prog 48 2 2 := .of Tryz.runUnderlying48 rfl rfl Tryz.sizeOf9
instance : Fld Tryz.prog 48 3 3 := .of Tryz.runUnderlying48 rfl rfl Tryz.sizeOf45
instance : Fld Tryz.prog 48 4 23 := .of Tryz.runUnderlying48 rfl rfl Tryz.sizeOf46
instance : Fld Tryz.prog 55 1 1 := .of Tryz.runUnderlying55 rfl rfl Tryz.sizeOf2
instance : Fld Tryz.prog 59 0 0 := .of Tryz.runUnderlying59 rfl rfl Tryz.sizeOf39
instance : Fld Tryz.prog 59 9 13 := .of Tryz.runUnderlying59 rfl rfl Tryz.sizeOf46
instance : Fld Tryz.prog 59 12 16 := .of Tryz.runUnderlying59 rfl rfl Tryz.sizeOf53
instance : Fld Tryz.prog 59 13 17 := .of Tryz.runUnderlying59 rfl rfl Tryz.sizeOf57
instance : Fld Tryz.prog 68 0 0 := .of Tryz.runUnderlying68 rfl rfl Tryz.sizeOf65
instance : Fld Tryz.prog 68 1 1 := .of Tryz.runUnderlying68 rfl rfl Tryz.sizeOf66
instance : Fld Tryz.prog 68 2 2 := .of Tryz.runUnderlying68 rfl rfl Tryz.sizeOf53
instance : Fld Tryz.prog 68 3 3 := .of Tryz.runUnderlying68 rfl rfl Tryz.sizeOf46
instance : Fld Tryz.prog 68 4 4 := .of Tryz.runUnderlying68 rfl rfl Tryz.sizeOf66
instance : Fld Tryz.prog 68 5 5 := .of Tryz.runUnderlying68 rfl rfl Tryz.sizeOf66
instance : Fld Tryz.prog 68 6 6 := .of Tryz.runUnderlying68 rfl rfl Tryz.sizeOf66
instance : Fld Tryz.prog 68 7 7 := .of Tryz.runUnderlying68 rfl rfl Tryz.sizeOf66
instance : Fld Tryz.prog 68 8 8 := .of Tryz.runUnderlying68 rfl rfl Tryz.sizeOf66
instance : Fld Tryz.prog 68 9 9 := .of Tryz.runUnderlying68 rfl rfl Tryz.sizeOf46
instance : Fld Tryz.prog 68 10 10 := .of Tryz.runUnderlying68 rfl rfl Tryz.sizeOf4
instance : Fld Tryz.prog 81 0 0 := .of Tryz.runUnderlying81 rfl rfl Tryz.sizeOf66
instance : Fld Tryz.prog 81 1 1 := .of Tryz.runUnderlying81 rfl rfl Tryz.sizeOf39
instance : Fld Tryz.prog 81 2 2 := .of Tryz.runUnderlying81 rfl rfl Tryz.sizeOf40
instance : Fld Tryz.prog 81 3 3 := .of Tryz.runUnderlying81 rfl rfl Tryz.sizeOf40
instance : Fld Tryz.prog 81 4 4 := .of Tryz.runUnderlying81 rfl rfl Tryz.sizeOf66
instance : Fld Tryz.prog 81 5 5 := .of Tryz.runUnderlying81 rfl rfl Tryz.sizeOf66
instance : Fld Tryz.prog 81 6 6 := .of Tryz.runUnderlying81 rfl rfl Tryz.sizeOf66
instance : Fld Tryz.prog 81 7 7 := .of Tryz.runUnderlying81 rfl rfl Tryz.sizeOf66
instance : Fld Tryz.prog 81 8 8 := .of Tryz.runUnderlying81 rfl rfl Tryz.sizeOf55
instance : Fld Tryz.prog 81 9 10 := .of Tryz.runUnderlying81 rfl rfl Tryz.sizeOf55
instance : Fld Tryz.prog 81 10 12 := .of Tryz.runUnderlying81 rfl rfl Tryz.sizeOf55
instance : Fld Tryz.prog 81 11 14 := .of Tryz.runUnderlying81 rfl rfl Tryz.sizeOf55
instance : Fld Tryz.prog 81 12 16 := .of Tryz.runUnderlying81 rfl rfl Tryz.sizeOf40
instance : Fld Tryz.prog 81 13 17 := .of Tryz.runUnderlying81 rfl rfl Tryz.sizeOf40
instance : Fld Tryz.prog 81 14 18 := .of Tryz.runUnderlying81 rfl rfl Tryz.sizeOf46
instance : Fld Tryz.prog 81 15 19 := .of Tryz.runUnderlying81 rfl rfl Tryz.sizeOf79
instance : Fld Tryz.prog 81 16 20 := .of Tryz.runUnderlying81 rfl rfl Tryz.sizeOf56
instance : Fld Tryz.prog 81 17 21 := .of Tryz.runUnderlying81 rfl rfl Tryz.sizeOf4
instance : Fld Tryz.prog 81 18 22 := .of Tryz.runUnderlying81 rfl rfl Tryz.sizeOf66
instance : Fld Tryz.prog 84 0 0 := .of Tryz.runUnderlying84 rfl rfl Tryz.sizeOf9
instance : Fld Tryz.prog 84 1 1 := .of Tryz.runUnderlying84 rfl rfl Tryz.sizeOf46
instance : Fld Tryz.prog 87 0 0 := .of Tryz.runUnderlying87 rfl rfl Tryz.sizeOf9
instance : Fld Tryz.prog 87 1 1 := .of Tryz.runUnderlying87 rfl rfl Tryz.sizeOf66
instance : Fld Tryz.prog 87 2 2 := .of Tryz.runUnderlying87 rfl rfl Tryz.sizeOf66
instance : Fld Tryz.prog 103 0 0 := .of Tryz.runUnderlying103 rfl rfl Tryz.sizeOf3
instance : Fld Tryz.prog 103 1 1 := .of Tryz.runUnderlying103 rfl rfl Tryz.sizeOf3
instance : Fld Tryz.prog 111 0 0 := .of Tryz.runUnderlying111 rfl rfl Tryz.sizeOf46
instance : Fld Tryz.prog 111 1 1 := .of Tryz.runUnderlying111 rfl rfl Tryz.sizeOf2
instance : Fld Tryz.prog 158 0 0 := .of Tryz.runUnderlying158 rfl rfl Tryz.sizeOf109
instance : Fld Tryz.prog 158 1 1 := .of Tryz.runUnderlying158 rfl rfl Tryz.sizeOf155
instance : Fld Tryz.prog 158 2 2 := .of Tryz.runUnderlying158 rfl rfl Tryz.sizeOf9
instance : Fld Tryz.prog 158 3 3 := .of Tryz.runUnderlying158 rfl rfl Tryz.sizeOf156
instance : Fld Tryz.prog 158 4 4 := .of Tryz.runUnderlying158 rfl rfl Tryz.sizeOf2
instance : Fld Tryz.prog 158 5 5 := .of Tryz.runUnderlying158 rfl rfl Tryz.sizeOf2
instance : Fld Tryz.prog 158 6 6 := .of Tryz.runUnderlying158 rfl rfl Tryz.sizeOf2
instance : Fld Tryz.prog 158 7 7 := .of Tryz.runUnderlying158 rfl rfl Tryz.sizeOf119
instance : Fld Tryz.prog 158 8 8 := .of Tryz.runUnderlying158 rfl rfl Tryz.sizeOf4
instance : Fld Tryz.prog 158 9 9 := .of Tryz.runUnderlying158 rfl rfl Tryz.sizeOf4
instance : Fld Tryz.prog 158 10 10 := .of Tryz.runUnderlying158 rfl rfl Tryz.sizeOf2
instance : Fld Tryz.prog 158 11 11 := .of Tryz.runUnderlying158 rfl rfl Tryz.sizeOf40
instance : Fld Tryz.prog 162 0 0 := .of Tryz.runUnderlying162 rfl rfl Tryz.sizeOf4
instance : Fld Tryz.prog 165 1 1 := .of Tryz.runUnderlying165 rfl rfl Tryz.sizeOf2
instance : Fld Tryz.prog 165 2 2 := .of Tryz.runUnderlying165 rfl rfl Tryz.sizeOf39
instance : Fld Tryz.prog 165 3 3 := .of Tryz.runUnderlying165 rfl rfl Tryz.sizeOf40
instance : Fld Tryz.prog 165 4 4 := .of Tryz.runUnderlying165 rfl rfl Tryz.sizeOf40
instance : Fld Tryz.prog 165 5 5 := .of Tryz.runUnderlying165 rfl rfl Tryz.sizeOf162
instance : Fld Tryz.prog 165 6 8 := .of Tryz.runUnderlying165 rfl rfl Tryz.sizeOf162
instance : Fld Tryz.prog 165 7 11 := .of Tryz.runUnderlying165 rfl rfl Tryz.sizeOf162
instance : Fld Tryz.prog 165 8 14 := .of Tryz.runUnderlying165 rfl rfl Tryz.sizeOf162
instance : Fld Tryz.prog 165 9 17 := .of Tryz.runUnderlying165 rfl rfl Tryz.sizeOf40
instance : Fld Tryz.prog 165 10 18 := .of Tryz.runUnderlying165 rfl rfl Tryz.sizeOf40
instance : Fld Tryz.prog 165 11 19 := .of Tryz.runUnderlying165 rfl rfl Tryz.sizeOf163
instance : Fld Tryz.prog 171 0 0 := .of Tryz.runUnderlying171 rfl rfl Tryz.sizeOf2
instance : Fld Tryz.prog 171 1 1 := .of Tryz.runUnderlying171 rfl rfl Tryz.sizeOf66
instance : Fld Tryz.prog 171 2 2 := .of Tryz.runUnderlying171 rfl rfl Tryz.sizeOf66
instance : Fld Tryz.prog 171 3 3 := .of Tryz.runUnderlying171 rfl rfl Tryz.sizeOf66
instance : Fld Tryz.prog 171 4 4 := .of Tryz.runUnderlying171 rfl rfl Tryz.sizeOf66
instance : Fld Tryz.prog 171 5 5 := .of Tryz.runUnderlying171 rfl rfl Tryz.sizeOf166
instance : Fld Tryz.prog 171 6 6 := .of Tryz.runUnderlying171 rfl rfl Tryz.sizeOf39
instance : Fld Tryz.prog 171 7 7 := .of Tryz.runUnderlying171 rfl rfl Tryz.sizeOf40
instance : Fld Tryz.prog 171 8 8 := .of Tryz.runUnderlying171 rfl rfl Tryz.sizeOf40
instance : Fld Tryz.prog 171 9 9 := .of Tryz.runUnderlying171 rfl rfl Tryz.sizeOf40
instance : Fld Tryz.prog 171 10 10 := .of Tryz.runUnderlying171 rfl rfl Tryz.sizeOf40
instance : Fld Tryz.prog 171 11 11 := .of Tryz.runUnderlying171 rfl rfl Tryz.sizeOf40
instance : Fld Tryz.prog 171 12 12 := .of Tryz.runUnderlying171 rfl rfl Tryz.sizeOf40
instance : Fld Tryz.prog 171 13 13 := .of Tryz.runUnderlying171 rfl rfl Tryz.sizeOf40
instance : Fld Tryz.prog 171 14 14 := .of Tryz.runUnderlying171 rfl rfl Tryz.sizeOf167
instance : Fld Tryz.prog 171 15 15 := .of Tryz.runUnderlying171 rfl rfl Tryz.sizeOf46
instance : Fld Tryz.prog 171 16 16 := .of Tryz.runUnderlying171 rfl rfl Tryz.sizeOf46
instance : Fld Tryz.prog 171 17 17 := .of Tryz.runUnderlying171 rfl rfl Tryz.sizeOf169
instance : Fld Tryz.prog 199 0 0 := .of Tryz.runUnderlying199 rfl rfl Tryz.sizeOf40
instance : Fld Tryz.prog 199 1 1 := .of Tryz.runUnderlying199 rfl rfl Tryz.sizeOf40
instance : Fld Tryz.prog 199 2 2 := .of Tryz.runUnderlying199 rfl rfl Tryz.sizeOf40
instance : Fld Tryz.prog 199 3 3 := .of Tryz.runUnderlying199 rfl rfl Tryz.sizeOf39
instance : Fld Tryz.prog 199 4 4 := .of Tryz.runUnderlying199 rfl rfl Tryz.sizeOf39
instance : Fld Tryz.prog 199 5 5 := .of Tryz.runUnderlying199 rfl rfl Tryz.sizeOf39
instance : Fld Tryz.prog 199 6 6 := .of Tryz.runUnderlying199 rfl rfl Tryz.sizeOf197
instance : Fld Tryz.prog 199 7 7 := .of Tryz.runUnderlying199 rfl rfl Tryz.sizeOf40
instance : Fld Tryz.prog 199 8 8 := .of Tryz.runUnderlying199 rfl rfl Tryz.sizeOf39
instance : Fld Tryz.prog 199 9 9 := .of Tryz.runUnderlying199 rfl rfl Tryz.sizeOf39
instance : Fld Tryz.prog 199 10 10 := .of Tryz.runUnderlying199 rfl rfl Tryz.sizeOf39
instance : Fld Tryz.prog 199 11 11 := .of Tryz.runUnderlying199 rfl rfl Tryz.sizeOf39
instance : Fld Tryz.prog 216 0 0 := .of Tryz.runUnderlying216 rfl rfl Tryz.sizeOf40
instance : Fld Tryz.prog 216 1 1 := .of Tryz.runUnderlying216 rfl rfl Tryz.sizeOf40
instance : Fld Tryz.prog 216 2 2 := .of Tryz.runUnderlying216 rfl rfl Tryz.sizeOf40
instance : Fld Tryz.prog 216 3 3 := .of Tryz.runUnderlying216 rfl rfl Tryz.sizeOf40
instance : Fld Tryz.prog 216 4 4 := .of Tryz.runUnderlying216 rfl rfl Tryz.sizeOf40
instance : Fld Tryz.prog 216 5 5 := .of Tryz.runUnderlying216 rfl rfl Tryz.sizeOf40
instance : Fld Tryz.prog 216 6 6 := .of Tryz.runUnderlying216 rfl rfl Tryz.sizeOf40
instance : Fld Tryz.prog 216 7 7 := .of Tryz.runUnderlying216 rfl rfl Tryz.sizeOf40
instance : Fld Tryz.prog 216 8 8 := .of Tryz.runUnderlying216 rfl rfl Tryz.sizeOf40
instance : Fld Tryz.prog 216 9 9 := .of Tryz.runUnderlying216 rfl rfl Tryz.sizeOf40
instance : Fld Tryz.prog 216 10 10 := .of Tryz.runUnderlying216 rfl rfl Tryz.sizeOf40
instance : Fld Tryz.prog 216 11 11 := .of Tryz.runUnderlying216 rfl rfl Tryz.sizeOf40
instance : Fld Tryz.prog 216 12 12 := .of Tryz.runUnderlying216 rfl rfl Tryz.sizeOf40
instance : Fld Tryz.prog 216 13 13 := .of Tryz.runUnderlying216 rfl rfl Tryz.sizeOf39
instance : Fld Tryz.prog 216 14 14 := .of Tryz.runUnderlying216 rfl rfl Tryz.sizeOf39
instance : Fld Tryz.prog 216 15 15 := .of Tryz.runUnderlying216 rfl rfl Tryz.sizeOf39
instance : Fld Tryz.prog 216 16 16 := .of Tryz.runUnderlying216 rfl rfl Tryz.sizeOf39
instance : Fld Tryz.prog 216 17 17 := .of Tryz.runUnderlying216 rfl rfl Tryz.sizeOf39
instance : Fld Tryz.prog 216 18 18 := .of Tryz.runUnderlying216 rfl rfl Tryz.sizeOf39
instance : Fld Tryz.prog 216 19 19 := .of Tryz.runUnderlying216 rfl rfl Tryz.sizeOf40
instance : Fld Tryz.prog 216 20 20 := .of Tryz.runUnderlying216 rfl rfl Tryz.sizeOf40
instance : Fld Tryz.prog 216 21 21 := .of Tryz.runUnderlying216 rfl rfl Tryz.sizeOf40
instance : Fld Tryz.prog 216 22 22 := .of Tryz.runUnderlying216 rfl rfl Tryz.sizeOf40
instance : Fld Tryz.prog 216 23 23 := .of Tryz.runUnderlying216 rfl rfl Tryz.sizeOf39
instance : Fld Tryz.prog 216 24 24 := .of Tryz.runUnderlying216 rfl rfl Tryz.sizeOf39
instance : Fld Tryz.prog 216 25 25 := .of Tryz.runUnderlying216 rfl rfl Tryz.sizeOf40
instance : Fld Tryz.prog 216 26 26 := .of Tryz.runUnderlying216 rfl rfl Tryz.sizeOf39
instance : Fld Tryz.prog 216 27 27 := .of Tryz.runUnderlying216 rfl rfl Tryz.sizeOf39
instance : Fld Tryz.prog 216 28 28 := .of Tryz.runUnderlying216 rfl rfl Tryz.sizeOf203
instance : Fld Tryz.prog 216 29 29 := .of Tryz.runUnderlying216 rfl rfl Tryz.sizeOf204
instance : Fld Tryz.prog 216 30 30 := .of Tryz.runUnderlying216 rfl rfl Tryz.sizeOf205
instance : Fld Tryz.prog 216 31 31 := .of Tryz.runUnderlying216 rfl rfl Tryz.sizeOf206
instance : Fld Tryz.prog 216 32 47 := .of Tryz.runUnderlying216 rfl rfl Tryz.sizeOf206
instance : Fld Tryz.prog 216 33 63 := .of Tryz.runUnderlying216 rfl rfl Tryz.sizeOf207
instance : Fld Tryz.prog 216 34 127 := .of Tryz.runUnderlying216 rfl rfl Tryz.sizeOf40
instance : Fld Tryz.prog 216 35 128 := .of Tryz.runUnderlying216 rfl rfl Tryz.sizeOf5
instance : Fld Tryz.prog 216 36 129 := .of Tryz.runUnderlying216 rfl rfl Tryz.sizeOf5
instance : Fld Tryz.prog 216 37 130 := .of Tryz.runUnderlying216 rfl rfl Tryz.sizeOf39
instance : Fld Tryz.prog 216 38 131 := .of Tryz.runUnderlying216 rfl rfl Tryz.sizeOf206
instance : Fld Tryz.prog 216 39 147 := .of Tryz.runUnderlying216 rfl rfl Tryz.sizeOf40
instance : Fld Tryz.prog 216 40 148 := .of Tryz.runUnderlying216 rfl rfl Tryz.sizeOf40
instance : Fld Tryz.prog 216 41 149 := .of Tryz.runUnderlying216 rfl rfl Tryz.sizeOf40
instance : Fld Tryz.prog 216 42 150 := .of Tryz.runUnderlying216 rfl rfl Tryz.sizeOf208
instance : Fld Tryz.prog 216 43 154 := .of Tryz.runUnderlying216 rfl rfl Tryz.sizeOf5
instance : Fld Tryz.prog 216 44 155 := .of Tryz.runUnderlying216 rfl rfl Tryz.sizeOf5
instance : Fld Tryz.prog 216 45 156 := .of Tryz.runUnderlying216 rfl rfl Tryz.sizeOf39
instance : Fld Tryz.prog 216 46 157 := .of Tryz.runUnderlying216 rfl rfl Tryz.sizeOf40
instance : Fld Tryz.prog 216 47 158 := .of Tryz.runUnderlying216 rfl rfl Tryz.sizeOf40
instance : Fld Tryz.prog 216 48 159 := .of Tryz.runUnderlying216 rfl rfl Tryz.sizeOf40
instance : Fld Tryz.prog 216 49 160 := .of Tryz.runUnderlying216 rfl rfl Tryz.sizeOf209
instance : Fld Tryz.prog 216 50 177 := .of Tryz.runUnderlying216 rfl rfl Tryz.sizeOf40
instance : Fld Tryz.prog 216 51 178 := .of Tryz.runUnderlying216 rfl rfl Tryz.sizeOf40
instance : Fld Tryz.prog 216 52 179 := .of Tryz.runUnderlying216 rfl rfl Tryz.sizeOf40
instance : Fld Tryz.prog 216 53 180 := .of Tryz.runUnderlying216 rfl rfl Tryz.sizeOf39
instance : Fld Tryz.prog 216 54 181 := .of Tryz.runUnderlying216 rfl rfl Tryz.sizeOf39
instance : Fld Tryz.prog 216 55 182 := .of Tryz.runUnderlying216 rfl rfl Tryz.sizeOf40
instance : Fld Tryz.prog 216 56 183 := .of Tryz.runUnderlying216 rfl rfl Tryz.sizeOf39
instance : Fld Tryz.prog 216 57 184 := .of Tryz.runUnderlying216 rfl rfl Tryz.sizeOf39
instance : Fld Tryz.prog 216 58 185 := .of Tryz.runUnderlying216 rfl rfl Tryz.sizeOf66
instance : Fld Tryz.prog 216 59 186 := .of Tryz.runUnderlying216 rfl rfl Tryz.sizeOf40
instance : Fld Tryz.prog 216 60 187 := .of Tryz.runUnderlying216 rfl rfl Tryz.sizeOf5
instance : Fld Tryz.prog 216 61 188 := .of Tryz.runUnderlying216 rfl rfl Tryz.sizeOf5
instance : Fld Tryz.prog 216 62 189 := .of Tryz.runUnderlying216 rfl rfl Tryz.sizeOf39
instance : Fld Tryz.prog 216 63 190 := .of Tryz.runUnderlying216 rfl rfl Tryz.sizeOf66
instance : Fld Tryz.prog 216 64 191 := .of Tryz.runUnderlying216 rfl rfl Tryz.sizeOf40
instance : Fld Tryz.prog 216 65 192 := .of Tryz.runUnderlying216 rfl rfl Tryz.sizeOf40
instance : Fld Tryz.prog 216 66 193 := .of Tryz.runUnderlying216 rfl rfl Tryz.sizeOf66
instance : Fld Tryz.prog 216 67 194 := .of Tryz.runUnderlying216 rfl rfl Tryz.sizeOf40
instance : Fld Tryz.prog 216 68 195 := .of Tryz.runUnderlying216 rfl rfl Tryz.sizeOf40
instance : Fld Tryz.prog 216 69 196 := .of Tryz.runUnderlying216 rfl rfl Tryz.sizeOf40
instance : Fld Tryz.prog 216 70 197 := .of Tryz.runUnderlying216 rfl rfl Tryz.sizeOf40
instance : Fld Tryz.prog 216 71 198 := .of Tryz.runUnderlying216 rfl rfl Tryz.sizeOf66
instance : Fld Tryz.prog 216 72 199 := .of Tryz.runUnderlying216 rfl rfl Tryz.sizeOf210
instance : Fld Tryz.prog 216 73 231 := .of Tryz.runUnderlying216 rfl rfl Tryz.sizeOf40
instance : Fld Tryz.prog 216 74 232 := .of Tryz.runUnderlying216 rfl rfl Tryz.sizeOf40
instance : Fld Tryz.prog 216 75 233 := .of Tryz.runUnderlying216 rfl rfl Tryz.sizeOf40
instance : Fld Tryz.prog 216 76 234 := .of Tryz.runUnderlying216 rfl rfl Tryz.sizeOf40
instance : Fld Tryz.prog 216 77 235 := .of Tryz.runUnderlying216 rfl rfl Tryz.sizeOf66
instance : Fld Tryz.prog 216 78 236 := .of Tryz.runUnderlying216 rfl rfl Tryz.sizeOf210
instance : Fld Tryz.prog 216 79 268 := .of Tryz.runUnderlying216 rfl rfl Tryz.sizeOf207
instance : Fld Tryz.prog 216 80 332 := .of Tryz.runUnderlying216 rfl rfl Tryz.sizeOf40
instance : Fld Tryz.prog 216 81 333 := .of Tryz.runUnderlying216 rfl rfl Tryz.sizeOf40
instance : Fld Tryz.prog 216 82 334 := .of Tryz.runUnderlying216 rfl rfl Tryz.sizeOf40
instance : Fld Tryz.prog 216 83 335 := .of Tryz.runUnderlying216 rfl rfl Tryz.sizeOf211
instance : Fld Tryz.prog 216 84 337 := .of Tryz.runUnderlying216 rfl rfl Tryz.sizeOf212
instance : Fld Tryz.prog 216 85 341 := .of Tryz.runUnderlying216 rfl rfl Tryz.sizeOf206
instance : Fld Tryz.prog 216 86 357 := .of Tryz.runUnderlying216 rfl rfl Tryz.sizeOf40
instance : Fld Tryz.prog 216 87 358 := .of Tryz.runUnderlying216 rfl rfl Tryz.sizeOf40
instance : Fld Tryz.prog 216 88 359 := .of Tryz.runUnderlying216 rfl rfl Tryz.sizeOf40
instance : Fld Tryz.prog 216 89 360 := .of Tryz.runUnderlying216 rfl rfl Tryz.sizeOf5
instance : Fld Tryz.prog 216 90 361 := .of Tryz.runUnderlying216 rfl rfl Tryz.sizeOf5
instance : Fld Tryz.prog 216 91 362 := .of Tryz.runUnderlying216 rfl rfl Tryz.sizeOf5
instance : Fld Tryz.prog 216 92 363 := .of Tryz.runUnderlying216 rfl rfl Tryz.sizeOf5
instance : Fld Tryz.prog 216 93 364 := .of Tryz.runUnderlying216 rfl rfl Tryz.sizeOf5
instance : Fld Tryz.prog 216 94 365 := .of Tryz.runUnderlying216 rfl rfl Tryz.sizeOf5
instance : Fld Tryz.prog 216 95 366 := .of Tryz.runUnderlying216 rfl rfl Tryz.sizeOf213
instance : Fld Tryz.prog 216 96 368 := .of Tryz.runUnderlying216 rfl rfl Tryz.sizeOf214
instance : Fld Tryz.prog 216 97 464 := .of Tryz.runUnderlying216 rfl rfl Tryz.sizeOf40
instance : Fld Tryz.prog 240 0 0 := .of Tryz.runUnderlying240 rfl rfl Tryz.sizeOf238
instance : Fld Tryz.prog 240 1 1 := .of Tryz.runUnderlying240 rfl rfl Tryz.sizeOf238
instance : Fld Tryz.prog 240 2 2 := .of Tryz.runUnderlying240 rfl rfl Tryz.sizeOf3
instance : Fld Tryz.prog 240 3 3 := .of Tryz.runUnderlying240 rfl rfl Tryz.sizeOf3
instance : Fld Tryz.prog 248 0 0 := .of Tryz.runUnderlying248 rfl rfl Tryz.sizeOf9
instance : Fld Tryz.prog 248 1 1 := .of Tryz.runUnderlying248 rfl rfl Tryz.sizeOf5
instance : Fld Tryz.prog 248 2 2 := .of Tryz.runUnderlying248 rfl rfl Tryz.sizeOf46
instance : Fld Tryz.prog 252 0 0 := .of Tryz.runUnderlying252 rfl rfl Tryz.sizeOf9
instance : Fld Tryz.prog 252 1 1 := .of Tryz.runUnderlying252 rfl rfl Tryz.sizeOf46
instance : Fld Tryz.prog 252 2 2 := .of Tryz.runUnderlying252 rfl rfl Tryz.sizeOf3
instance : Fld Tryz.prog 262 0 0 := .of Tryz.runUnderlying262 rfl rfl Tryz.sizeOf39
instance : Fld Tryz.prog 262 1 1 := .of Tryz.runUnderlying262 rfl rfl Tryz.sizeOf39
instance : Fld Tryz.prog 262 2 2 := .of Tryz.runUnderlying262 rfl rfl Tryz.sizeOf40
instance : Fld Tryz.prog 262 3 3 := .of Tryz.runUnderlying262 rfl rfl Tryz.sizeOf40
instance : Fld Tryz.prog 262 4 4 := .of Tryz.runUnderlying262 rfl rfl Tryz.sizeOf40
instance : Fld Tryz.prog 262 5 5 := .of Tryz.runUnderlying262 rfl rfl Tryz.sizeOf40
instance : Fld Tryz.prog 262 6 6 := .of Tryz.runUnderlying262 rfl rfl Tryz.sizeOf40
instance : Fld Tryz.prog 262 7 7 := .of Tryz.runUnderlying262 rfl rfl Tryz.sizeOf39
instance : Fld Tryz.prog 262 8 8 := .of Tryz.runUnderlying262 rfl rfl Tryz.sizeOf39
instance : Fld Tryz.prog 262 9 9 := .of Tryz.runUnderlying262 rfl rfl Tryz.sizeOf40
instance : Fld Tryz.prog 262 10 10 := .of Tryz.runUnderlying262 rfl rfl Tryz.sizeOf167
instance : Fld Tryz.prog 262 11 11 := .of Tryz.runUnderlying262 rfl rfl Tryz.sizeOf40
instance : Fld Tryz.prog 262 12 12 := .of Tryz.runUnderlying262 rfl rfl Tryz.sizeOf260
instance : Fld Tryz.prog 262 13 72 := .of Tryz.runUnderlying262 rfl rfl Tryz.sizeOf40
instance : Fld Tryz.prog 262 14 73 := .of Tryz.runUnderlying262 rfl rfl Tryz.sizeOf40
instance : Fld Tryz.prog 262 15 74 := .of Tryz.runUnderlying262 rfl rfl Tryz.sizeOf40
instance : Fld Tryz.prog 262 16 75 := .of Tryz.runUnderlying262 rfl rfl Tryz.sizeOf40
instance : Fld Tryz.prog 262 17 76 := .of Tryz.runUnderlying262 rfl rfl Tryz.sizeOf39
instance : Fld Tryz.prog 262 18 77 := .of Tryz.runUnderlying262 rfl rfl Tryz.sizeOf39
instance : Fld Tryz.prog 262 19 78 := .of Tryz.runUnderlying262 rfl rfl Tryz.sizeOf39
instance : Fld Tryz.prog 262 20 79 := .of Tryz.runUnderlying262 rfl rfl Tryz.sizeOf39
instance : Fld Tryz.prog 262 21 80 := .of Tryz.runUnderlying262 rfl rfl Tryz.sizeOf39
instance : Fld Tryz.prog 262 22 81 := .of Tryz.runUnderlying262 rfl rfl Tryz.sizeOf39
instance : Fld Tryz.prog 262 23 82 := .of Tryz.runUnderlying262 rfl rfl Tryz.sizeOf39
instance : Fld Tryz.prog 262 24 83 := .of Tryz.runUnderlying262 rfl rfl Tryz.sizeOf39
instance : Fld Tryz.prog 262 25 84 := .of Tryz.runUnderlying262 rfl rfl Tryz.sizeOf40
instance : Fld Tryz.prog 262 26 85 := .of Tryz.runUnderlying262 rfl rfl Tryz.sizeOf40
instance : Fld Tryz.prog 262 27 86 := .of Tryz.runUnderlying262 rfl rfl Tryz.sizeOf40
instance : Fld Tryz.prog 262 28 87 := .of Tryz.runUnderlying262 rfl rfl Tryz.sizeOf40
instance : Fld Tryz.prog 262 29 88 := .of Tryz.runUnderlying262 rfl rfl Tryz.sizeOf40
instance : Fld Tryz.prog 262 30 89 := .of Tryz.runUnderlying262 rfl rfl Tryz.sizeOf40
instance : Fld Tryz.prog 262 31 90 := .of Tryz.runUnderlying262 rfl rfl Tryz.sizeOf40
instance : Fld Tryz.prog 277 0 0 := .of Tryz.runUnderlying277 rfl rfl Tryz.sizeOf39
instance : Fld Tryz.prog 277 1 1 := .of Tryz.runUnderlying277 rfl rfl Tryz.sizeOf39
instance : Fld Tryz.prog 277 2 2 := .of Tryz.runUnderlying277 rfl rfl Tryz.sizeOf39
instance : Fld Tryz.prog 277 3 3 := .of Tryz.runUnderlying277 rfl rfl Tryz.sizeOf39
instance : Fld Tryz.prog 277 4 4 := .of Tryz.runUnderlying277 rfl rfl Tryz.sizeOf40
instance : Fld Tryz.prog 279 0 0 := .of Tryz.runUnderlying279 rfl rfl Tryz.sizeOf40
instance : Fld Tryz.prog 279 1 1 := .of Tryz.runUnderlying279 rfl rfl Tryz.sizeOf39
instance : Fld Tryz.prog 279 2 2 := .of Tryz.runUnderlying279 rfl rfl Tryz.sizeOf39
instance : Fld Tryz.prog 279 3 3 := .of Tryz.runUnderlying279 rfl rfl Tryz.sizeOf40
instance : Fld Tryz.prog 281 0 0 := .of Tryz.runUnderlying281 rfl rfl Tryz.sizeOf277
instance : Fld Tryz.prog 281 1 5 := .of Tryz.runUnderlying281 rfl rfl Tryz.sizeOf280
instance : Fld Tryz.prog 293 0 0 := .of Tryz.runUnderlying293 rfl rfl Tryz.sizeOf5
instance : Fld Tryz.prog 293 1 1 := .of Tryz.runUnderlying293 rfl rfl Tryz.sizeOf9
instance : Fld Tryz.prog 299 0 0 := .of Tryz.runUnderlying299 rfl rfl Tryz.sizeOf166
instance : Fld Tryz.prog 299 1 1 := .of Tryz.runUnderlying299 rfl rfl Tryz.sizeOf39
instance : Fld Tryz.prog 299 2 2 := .of Tryz.runUnderlying299 rfl rfl Tryz.sizeOf5
instance : Fld Tryz.prog 299 3 3 := .of Tryz.runUnderlying299 rfl rfl Tryz.sizeOf297
instance : Plc Tryz.prog 45 [(0, 1), (1, 1), (2, 1), (3, 1), (4, 1), (5, 3), (8, 3), (11, 3), (14, 3), (17, 1), (18, 1), (19, 1)] := .of Tryz.runUnderlying45 (.cons Tryz.sizeOf9 <| .cons Tryz.sizeOf2 <| .cons Tryz.sizeOf39 <| .cons Tryz.sizeOf40 <| .cons Tryz.sizeOf40 <| .cons Tryz.sizeOf42 <| .cons Tryz.sizeOf42 <| .cons Tryz.sizeOf42 <| .cons Tryz.sizeOf42 <| .cons Tryz.sizeOf40 <| .cons Tryz.sizeOf40 <| .cons Tryz.sizeOf43 .nil)
instance : Plc Tryz.prog 48 [(0, 1), (1, 1), (2, 1), (3, 20), (23, 1)] := .of Tryz.runUnderlying48 (.cons Tryz.sizeOf3 <| .cons Tryz.sizeOf9 <| .cons Tryz.sizeOf9 <| .cons Tryz.sizeOf45 <| .cons Tryz.sizeOf46 .nil)
instance : Plc Tryz.prog 55 [(0, 1), (1, 1)] := .of Tryz.runUnderlying55 (.cons Tryz.sizeOf2 <| .cons Tryz.sizeOf2 .nil)
instance : Plc Tryz.prog 59 [(0, 1), (1, 1), (2, 1), (3, 2), (5, 2), (7, 2), (9, 2), (11, 1), (12, 1), (13, 1), (14, 1), (15, 1), (16, 1), (17, 1)] := .of Tryz.runUnderlying59 (.cons Tryz.sizeOf39 <| .cons Tryz.sizeOf40 <| .cons Tryz.sizeOf40 <| .cons Tryz.sizeOf55 <| .cons Tryz.sizeOf55 <| .cons Tryz.sizeOf55 <| .cons Tryz.sizeOf55 <| .cons Tryz.sizeOf40 <| .cons Tryz.sizeOf40 <| .cons Tryz.sizeOf46 <| .cons Tryz.sizeOf9 <| .cons Tryz.sizeOf56 <| .cons Tryz.sizeOf53 <| .cons Tryz.sizeOf57 .nil)
instance : Plc Tryz.prog 68 [(0, 1), (1, 1), (2, 1), (3, 1), (4, 1), (5, 1), (6, 1), (7, 1), (8, 1), (9, 1), (10, 1)] := .of Tryz.runUnderlying68 (.cons Tryz.sizeOf65 <| .cons Tryz.sizeOf66 <| .cons Tryz.sizeOf53 <| .cons Tryz.sizeOf46 <| .cons Tryz.sizeOf66 <| .cons Tryz.sizeOf66 <| .cons Tryz.sizeOf66 <| .cons Tryz.sizeOf66 <| .cons Tryz.sizeOf66 <| .cons Tryz.sizeOf46 <| .cons Tryz.sizeOf4 .nil)
instance : Plc Tryz.prog 81 [(0, 1), (1, 1), (2, 1), (3, 1), (4, 1), (5, 1), (6, 1), (7, 1), (8, 2), (10, 2), (12, 2), (14, 2), (16, 1), (17, 1), (18, 1), (19, 1), (20, 1), (21, 1), (22, 1)] := .of Tryz.runUnderlying81 (.cons Tryz.sizeOf66 <| .cons Tryz.sizeOf39 <| .cons Tryz.sizeOf40 <| .cons Tryz.sizeOf40 <| .cons Tryz.sizeOf66 <| .cons Tryz.sizeOf66 <| .cons Tryz.sizeOf66 <| .cons Tryz.sizeOf66 <| .cons Tryz.sizeOf55 <| .cons Tryz.sizeOf55 <| .cons Tryz.sizeOf55 <| .cons Tryz.sizeOf55 <| .cons Tryz.sizeOf40 <| .cons Tryz.sizeOf40 <| .cons Tryz.sizeOf46 <| .cons Tryz.sizeOf79 <| .cons Tryz.sizeOf56 <| .cons Tryz.sizeOf4 <| .cons Tryz.sizeOf66 .nil)
instance : Plc Tryz.prog 84 [(0, 1), (1, 1)] := .of Tryz.runUnderlying84 (.cons Tryz.sizeOf9 <| .cons Tryz.sizeOf46 .nil)
instance : Plc Tryz.prog 87 [(0, 1), (1, 1), (2, 1)] := .of Tryz.runUnderlying87 (.cons Tryz.sizeOf9 <| .cons Tryz.sizeOf66 <| .cons Tryz.sizeOf66 .nil)
instance : Plc Tryz.prog 103 [(0, 1), (1, 1), (2, 20)] := .of Tryz.runUnderlying103 (.cons Tryz.sizeOf3 <| .cons Tryz.sizeOf3 <| .cons Tryz.sizeOf45 .nil)
instance : Plc Tryz.prog 111 [(0, 1), (1, 1)] := .of Tryz.runUnderlying111 (.cons Tryz.sizeOf46 <| .cons Tryz.sizeOf2 .nil)
instance : Plc Tryz.prog 158 [(0, 1), (1, 1), (2, 1), (3, 1), (4, 1), (5, 1), (6, 1), (7, 1), (8, 1), (9, 1), (10, 1), (11, 1)] := .of Tryz.runUnderlying158 (.cons Tryz.sizeOf109 <| .cons Tryz.sizeOf155 <| .cons Tryz.sizeOf9 <| .cons Tryz.sizeOf156 <| .cons Tryz.sizeOf2 <| .cons Tryz.sizeOf2 <| .cons Tryz.sizeOf2 <| .cons Tryz.sizeOf119 <| .cons Tryz.sizeOf4 <| .cons Tryz.sizeOf4 <| .cons Tryz.sizeOf2 <| .cons Tryz.sizeOf40 .nil)
instance : Plc Tryz.prog 162 [(0, 1), (1, 1), (2, 1)] := .of Tryz.runUnderlying162 (.cons Tryz.sizeOf4 <| .cons Tryz.sizeOf2 <| .cons Tryz.sizeOf3 .nil)
instance : Plc Tryz.prog 165 [(0, 1), (1, 1), (2, 1), (3, 1), (4, 1), (5, 3), (8, 3), (11, 3), (14, 3), (17, 1), (18, 1), (19, 1)] := .of Tryz.runUnderlying165 (.cons Tryz.sizeOf9 <| .cons Tryz.sizeOf2 <| .cons Tryz.sizeOf39 <| .cons Tryz.sizeOf40 <| .cons Tryz.sizeOf40 <| .cons Tryz.sizeOf162 <| .cons Tryz.sizeOf162 <| .cons Tryz.sizeOf162 <| .cons Tryz.sizeOf162 <| .cons Tryz.sizeOf40 <| .cons Tryz.sizeOf40 <| .cons Tryz.sizeOf163 .nil)
instance : Plc Tryz.prog 171 [(0, 1), (1, 1), (2, 1), (3, 1), (4, 1), (5, 1), (6, 1), (7, 1), (8, 1), (9, 1), (10, 1), (11, 1), (12, 1), (13, 1), (14, 1), (15, 1), (16, 1), (17, 1)] := .of Tryz.runUnderlying171 (.cons Tryz.sizeOf2 <| .cons Tryz.sizeOf66 <| .cons Tryz.sizeOf66 <| .cons Tryz.sizeOf66 <| .cons Tryz.sizeOf66 <| .cons Tryz.sizeOf166 <| .cons Tryz.sizeOf39 <| .cons Tryz.sizeOf40 <| .cons Tryz.sizeOf40 <| .cons Tryz.sizeOf40 <| .cons Tryz.sizeOf40 <| .cons Tryz.sizeOf40 <| .cons Tryz.sizeOf40 <| .cons Tryz.sizeOf40 <| .cons Tryz.sizeOf167 <| .cons Tryz.sizeOf46 <| .cons Tryz.sizeOf46 <| .cons Tryz.sizeOf169 .nil)
instance : Plc Tryz.prog 199 [(0, 1), (1, 1), (2, 1), (3, 1), (4, 1), (5, 1), (6, 1), (7, 1), (8, 1), (9, 1), (10, 1), (11, 1)] := .of Tryz.runUnderlying199 (.cons Tryz.sizeOf40 <| .cons Tryz.sizeOf40 <| .cons Tryz.sizeOf40 <| .cons Tryz.sizeOf39 <| .cons Tryz.sizeOf39 <| .cons Tryz.sizeOf39 <| .cons Tryz.sizeOf197 <| .cons Tryz.sizeOf40 <| .cons Tryz.sizeOf39 <| .cons Tryz.sizeOf39 <| .cons Tryz.sizeOf39 <| .cons Tryz.sizeOf39 .nil)
instance : Plc Tryz.prog 216 [(0, 1), (1, 1), (2, 1), (3, 1), (4, 1), (5, 1), (6, 1), (7, 1), (8, 1), (9, 1), (10, 1), (11, 1), (12, 1), (13, 1), (14, 1), (15, 1), (16, 1), (17, 1), (18, 1), (19, 1), (20, 1), (21, 1), (22, 1), (23, 1), (24, 1), (25, 1), (26, 1), (27, 1), (28, 1), (29, 1), (30, 1), (31, 16), (47, 16), (63, 64), (127, 1), (128, 1), (129, 1), (130, 1), (131, 16), (147, 1), (148, 1), (149, 1), (150, 4), (154, 1), (155, 1), (156, 1), (157, 1), (158, 1), (159, 1), (160, 17), (177, 1), (178, 1), (179, 1), (180, 1), (181, 1), (182, 1), (183, 1), (184, 1), (185, 1), (186, 1), (187, 1), (188, 1), (189, 1), (190, 1), (191, 1), (192, 1), (193, 1), (194, 1), (195, 1), (196, 1), (197, 1), (198, 1), (199, 32), (231, 1), (232, 1), (233, 1), (234, 1), (235, 1), (236, 32), (268, 64), (332, 1), (333, 1), (334, 1), (335, 2), (337, 4), (341, 16), (357, 1), (358, 1), (359, 1), (360, 1), (361, 1), (362, 1), (363, 1), (364, 1), (365, 1), (366, 2), (368, 96), (464, 1)] := .of Tryz.runUnderlying216 (.cons Tryz.sizeOf40 <| .cons Tryz.sizeOf40 <| .cons Tryz.sizeOf40 <| .cons Tryz.sizeOf40 <| .cons Tryz.sizeOf40 <| .cons Tryz.sizeOf40 <| .cons Tryz.sizeOf40 <| .cons Tryz.sizeOf40 <| .cons Tryz.sizeOf40 <| .cons Tryz.sizeOf40 <| .cons Tryz.sizeOf40 <| .cons Tryz.sizeOf40 <| .cons Tryz.sizeOf40 <| .cons Tryz.sizeOf39 <| .cons Tryz.sizeOf39 <| .cons Tryz.sizeOf39 <| .cons Tryz.sizeOf39 <| .cons Tryz.sizeOf39 <| .cons Tryz.sizeOf39 <| .cons Tryz.sizeOf40 <| .cons Tryz.sizeOf40 <| .cons Tryz.sizeOf40 <| .cons Tryz.sizeOf40 <| .cons Tryz.sizeOf39 <| .cons Tryz.sizeOf39 <| .cons Tryz.sizeOf40 <| .cons Tryz.sizeOf39 <| .cons Tryz.sizeOf39 <| .cons Tryz.sizeOf203 <| .cons Tryz.sizeOf204 <| .cons Tryz.sizeOf205 <| .cons Tryz.sizeOf206 <| .cons Tryz.sizeOf206 <| .cons Tryz.sizeOf207 <| .cons Tryz.sizeOf40 <| .cons Tryz.sizeOf5 <| .cons Tryz.sizeOf5 <| .cons Tryz.sizeOf39 <| .cons Tryz.sizeOf206 <| .cons Tryz.sizeOf40 <| .cons Tryz.sizeOf40 <| .cons Tryz.sizeOf40 <| .cons Tryz.sizeOf208 <| .cons Tryz.sizeOf5 <| .cons Tryz.sizeOf5 <| .cons Tryz.sizeOf39 <| .cons Tryz.sizeOf40 <| .cons Tryz.sizeOf40 <| .cons Tryz.sizeOf40 <| .cons Tryz.sizeOf209 <| .cons Tryz.sizeOf40 <| .cons Tryz.sizeOf40 <| .cons Tryz.sizeOf40 <| .cons Tryz.sizeOf39 <| .cons Tryz.sizeOf39 <| .cons Tryz.sizeOf40 <| .cons Tryz.sizeOf39 <| .cons Tryz.sizeOf39 <| .cons Tryz.sizeOf66 <| .cons Tryz.sizeOf40 <| .cons Tryz.sizeOf5 <| .cons Tryz.sizeOf5 <| .cons Tryz.sizeOf39 <| .cons Tryz.sizeOf66 <| .cons Tryz.sizeOf40 <| .cons Tryz.sizeOf40 <| .cons Tryz.sizeOf66 <| .cons Tryz.sizeOf40 <| .cons Tryz.sizeOf40 <| .cons Tryz.sizeOf40 <| .cons Tryz.sizeOf40 <| .cons Tryz.sizeOf66 <| .cons Tryz.sizeOf210 <| .cons Tryz.sizeOf40 <| .cons Tryz.sizeOf40 <| .cons Tryz.sizeOf40 <| .cons Tryz.sizeOf40 <| .cons Tryz.sizeOf66 <| .cons Tryz.sizeOf210 <| .cons Tryz.sizeOf207 <| .cons Tryz.sizeOf40 <| .cons Tryz.sizeOf40 <| .cons Tryz.sizeOf40 <| .cons Tryz.sizeOf211 <| .cons Tryz.sizeOf212 <| .cons Tryz.sizeOf206 <| .cons Tryz.sizeOf40 <| .cons Tryz.sizeOf40 <| .cons Tryz.sizeOf40 <| .cons Tryz.sizeOf5 <| .cons Tryz.sizeOf5 <| .cons Tryz.sizeOf5 <| .cons Tryz.sizeOf5 <| .cons Tryz.sizeOf5 <| .cons Tryz.sizeOf5 <| .cons Tryz.sizeOf213 <| .cons Tryz.sizeOf214 <| .cons Tryz.sizeOf40 .nil)
instance : Plc Tryz.prog 248 [(0, 1), (1, 1), (2, 1)] := .of Tryz.runUnderlying248 (.cons Tryz.sizeOf9 <| .cons Tryz.sizeOf5 <| .cons Tryz.sizeOf46 .nil)
instance : Plc Tryz.prog 252 [(0, 1), (1, 1), (2, 1)] := .of Tryz.runUnderlying252 (.cons Tryz.sizeOf9 <| .cons Tryz.sizeOf46 <| .cons Tryz.sizeOf3 .nil)
instance : Plc Tryz.prog 262 [(0, 1), (1, 1), (2, 1), (3, 1), (4, 1), (5, 1), (6, 1), (7, 1), (8, 1), (9, 1), (10, 1), (11, 1), (12, 60), (72, 1), (73, 1), (74, 1), (75, 1), (76, 1), (77, 1), (78, 1), (79, 1), (80, 1), (81, 1), (82, 1), (83, 1), (84, 1), (85, 1), (86, 1), (87, 1), (88, 1), (89, 1), (90, 1)] := .of Tryz.runUnderlying262 (.cons Tryz.sizeOf39 <| .cons Tryz.sizeOf39 <| .cons Tryz.sizeOf40 <| .cons Tryz.sizeOf40 <| .cons Tryz.sizeOf40 <| .cons Tryz.sizeOf40 <| .cons Tryz.sizeOf40 <| .cons Tryz.sizeOf39 <| .cons Tryz.sizeOf39 <| .cons Tryz.sizeOf40 <| .cons Tryz.sizeOf167 <| .cons Tryz.sizeOf40 <| .cons Tryz.sizeOf260 <| .cons Tryz.sizeOf40 <| .cons Tryz.sizeOf40 <| .cons Tryz.sizeOf40 <| .cons Tryz.sizeOf40 <| .cons Tryz.sizeOf39 <| .cons Tryz.sizeOf39 <| .cons Tryz.sizeOf39 <| .cons Tryz.sizeOf39 <| .cons Tryz.sizeOf39 <| .cons Tryz.sizeOf39 <| .cons Tryz.sizeOf39 <| .cons Tryz.sizeOf39 <| .cons Tryz.sizeOf40 <| .cons Tryz.sizeOf40 <| .cons Tryz.sizeOf40 <| .cons Tryz.sizeOf40 <| .cons Tryz.sizeOf40 <| .cons Tryz.sizeOf40 <| .cons Tryz.sizeOf40 .nil)
instance : Plc Tryz.prog 277 [(0, 1), (1, 1), (2, 1), (3, 1), (4, 1)] := .of Tryz.runUnderlying277 (.cons Tryz.sizeOf39 <| .cons Tryz.sizeOf39 <| .cons Tryz.sizeOf39 <| .cons Tryz.sizeOf39 <| .cons Tryz.sizeOf40 .nil)
instance : Plc Tryz.prog 279 [(0, 1), (1, 1), (2, 1), (3, 1)] := .of Tryz.runUnderlying279 (.cons Tryz.sizeOf40 <| .cons Tryz.sizeOf39 <| .cons Tryz.sizeOf39 <| .cons Tryz.sizeOf40 .nil)
instance : Plc Tryz.prog 299 [(0, 1), (1, 1), (2, 1), (3, 1)] := .of Tryz.runUnderlying299 (.cons Tryz.sizeOf166 <| .cons Tryz.sizeOf39 <| .cons Tryz.sizeOf5 <| .cons Tryz.sizeOf297 .nil)
instance : CallOk Tryz.prog 10 := ⟨Tryz.call10⟩
instance : CallOk Tryz.prog 11 := ⟨Tryz.call11⟩
instance : CallOk Tryz.prog 16 := ⟨Tryz.call16⟩
instance : CallOk Tryz.prog 17 := ⟨Tryz.call17⟩
instance : CallOk Tryz.prog 18 := ⟨Tryz.call18⟩
instance : CallOk Tryz.prog 19 := ⟨Tryz.call19⟩
instance : CallOk Tryz.prog 20 := ⟨Tryz.call20⟩
instance : CallOk Tryz.prog 24 := ⟨Tryz.call24⟩
instance : CallOk Tryz.prog 25 := ⟨Tryz.call25⟩
instance : CallOk Tryz.prog 26 := ⟨Tryz.call26⟩
instance : CallOk Tryz.prog 27 := ⟨Tryz.call27⟩
instance : CallOk Tryz.prog 29 := ⟨Tryz.call29⟩
instance : CallOk Tryz.prog 36 := ⟨Tryz.call36⟩
instance : CallOk Tryz.prog 37 := ⟨Tryz.call37⟩
instance : CallOk Tryz.prog 38 := ⟨Tryz.call38⟩
instance : CallOk Tryz.prog 47 := ⟨Tryz.call47⟩
instance : CallOk Tryz.prog 48 := ⟨Tryz.call48⟩
instance : CallOk Tryz.prog 49 := ⟨Tryz.call49⟩
instance : CallOk Tryz.prog 50 := ⟨Tryz.call50⟩
instance : CallOk Tryz.prog 51 := ⟨Tryz.call51⟩
instance : CallOk Tryz.prog 52 := ⟨Tryz.call52⟩
instance : CallOk Tryz.prog 53 := ⟨Tryz.call53⟩
instance : CallOk Tryz.prog 57 := ⟨Tryz.call57⟩
instance : CallOk Tryz.prog 58 := ⟨Tryz.call58⟩
instance : CallOk Tryz.prog 59 := ⟨Tryz.call59⟩
instance : CallOk Tryz.prog 60 := ⟨Tryz.call60⟩
instance : CallOk Tryz.prog 61 := ⟨Tryz.call61⟩
instance : CallOk Tryz.prog 62 := ⟨Tryz.call62⟩
instance : CallOk Tryz.prog 63 := ⟨Tryz.call63⟩
instance : CallOk Tryz.prog 64 := ⟨Tryz.call64⟩
instance : CallOk Tryz.prog 65 := ⟨Tryz.call65⟩
instance : CallOk Tryz.prog 79 := ⟨Tryz.call79⟩
instance : CallOk Tryz.prog 80 := ⟨Tryz.call80⟩
instance : CallOk Tryz.prog 81 := ⟨Tryz.call81⟩
instance : CallOk Tryz.prog 82 := ⟨Tryz.call82⟩
instance : CallOk Tryz.prog 84 := ⟨Tryz.call84⟩
instance : CallOk Tryz.prog 85 := ⟨Tryz.call85⟩
instance : CallOk Tryz.prog 86 := ⟨Tryz.call86⟩
instance : CallOk Tryz.prog 87 := ⟨Tryz.call87⟩
instance : CallOk Tryz.prog 89 := ⟨Tryz.call89⟩
instance : CallOk Tryz.prog 90 := ⟨Tryz.call90⟩
instance : CallOk Tryz.prog 93 := ⟨Tryz.call93⟩
instance : CallOk Tryz.prog 96 := ⟨Tryz.call96⟩
instance : CallOk Tryz.prog 97 := ⟨Tryz.call97⟩
instance : CallOk Tryz.prog 98 := ⟨Tryz.call98⟩
instance : CallOk Tryz.prog 101 := ⟨Tryz.call101⟩
instance : CallOk Tryz.prog 102 := ⟨Tryz.call102⟩
instance : CallOk Tryz.prog 103 := ⟨Tryz.call103⟩
instance : CallOk Tryz.prog 104 := ⟨Tryz.call104⟩
instance : CallOk Tryz.prog 105 := ⟨Tryz.call105⟩
instance : CallOk Tryz.prog 106 := ⟨Tryz.call106⟩
instance : CallOk Tryz.prog 107 := ⟨Tryz.call107⟩
instance : CallOk Tryz.prog 108 := ⟨Tryz.call108⟩
instance : CallOk Tryz.prog 110 := ⟨Tryz.call110⟩
instance : CallOk Tryz.prog 111 := ⟨Tryz.call111⟩
instance : CallOk Tryz.prog 112 := ⟨Tryz.call112⟩
instance : CallOk Tryz.prog 113 := ⟨Tryz.call113⟩
instance : CallOk Tryz.prog 114 := ⟨Tryz.call114⟩
instance : CallOk Tryz.prog 115 := ⟨Tryz.call115⟩
instance : CallOk Tryz.prog 116 := ⟨Tryz.call116⟩
instance : CallOk Tryz.prog 117 := ⟨Tryz.call117⟩
instance : CallOk Tryz.prog 118 := ⟨Tryz.call118⟩
instance : CallOk Tryz.prog 119 := ⟨Tryz.call119⟩
instance : CallOk Tryz.prog 120 := ⟨Tryz.call120⟩
instance : CallOk Tryz.prog 122 := ⟨Tryz.call122⟩
instance : CallOk Tryz.prog 127 := ⟨Tryz.call127⟩
instance : CallOk Tryz.prog 128 := ⟨Tryz.call128⟩
instance : CallOk Tryz.prog 129 := ⟨Tryz.call129⟩
instance : CallOk Tryz.prog 130 := ⟨Tryz.call130⟩
instance : CallOk Tryz.prog 131 := ⟨Tryz.call131⟩
instance : CallOk Tryz.prog 132 := ⟨Tryz.call132⟩
instance : CallOk Tryz.prog 133 := ⟨Tryz.call133⟩
instance : CallOk Tryz.prog 135 := ⟨Tryz.call135⟩
instance : CallOk Tryz.prog 137 := ⟨Tryz.call137⟩
instance : CallOk Tryz.prog 138 := ⟨Tryz.call138⟩
instance : CallOk Tryz.prog 140 := ⟨Tryz.call140⟩
instance : CallOk Tryz.prog 141 := ⟨Tryz.call141⟩
instance : CallOk Tryz.prog 143 := ⟨Tryz.call143⟩
instance : CallOk Tryz.prog 144 := ⟨Tryz.call144⟩
instance : CallOk Tryz.prog 145 := ⟨Tryz.call145⟩
instance : CallOk Tryz.prog 146 := ⟨Tryz.call146⟩
instance : CallOk Tryz.prog 147 := ⟨Tryz.call147⟩
instance : CallOk Tryz.prog 148 := ⟨Tryz.call148⟩
instance : CallOk Tryz.prog 149 := ⟨Tryz.call149⟩
instance : CallOk Tryz.prog 150 := ⟨Tryz.call150⟩
instance : CallOk Tryz.prog 151 := ⟨Tryz.call151⟩
instance : CallOk Tryz.prog 153 := ⟨Tryz.call153⟩
instance : CallOk Tryz.prog 154 := ⟨Tryz.call154⟩
instance : CallOk Tryz.prog 155 := ⟨Tryz.call155⟩
instance : CallOk Tryz.prog 156 := ⟨Tryz.call156⟩
instance : CallOk Tryz.prog 157 := ⟨Tryz.call157⟩
instance : CallOk Tryz.prog 158 := ⟨Tryz.call158⟩
instance : CallOk Tryz.prog 160 := ⟨Tryz.call160⟩
instance : CallOk Tryz.prog 161 := ⟨Tryz.call161⟩
instance : CallOk Tryz.prog 162 := ⟨Tryz.call162⟩
instance : CallOk Tryz.prog 163 := ⟨Tryz.call163⟩
instance : CallOk Tryz.prog 165 := ⟨Tryz.call165⟩
instance : CallOk Tryz.prog 166 := ⟨Tryz.call166⟩
instance : CallOk Tryz.prog 169 := ⟨Tryz.call169⟩
instance : CallOk Tryz.prog 170 := ⟨Tryz.call170⟩
instance : CallOk Tryz.prog 171 := ⟨Tryz.call171⟩
instance : CallOk Tryz.prog 172 := ⟨Tryz.call172⟩
instance : CallOk Tryz.prog 173 := ⟨Tryz.call173⟩
instance : CallOk Tryz.prog 174 := ⟨Tryz.call174⟩
instance : CallOk Tryz.prog 175 := ⟨Tryz.call175⟩
instance : CallOk Tryz.prog 176 := ⟨Tryz.call176⟩
instance : CallOk Tryz.prog 177 := ⟨Tryz.call177⟩
instance : CallOk Tryz.prog 178 := ⟨Tryz.call178⟩
instance : CallOk Tryz.prog 180 := ⟨Tryz.call180⟩
instance : CallOk Tryz.prog 181 := ⟨Tryz.call181⟩
theorem mixed : Tryz.prog.follows .mixedOrders = true := by kernel_rfl
end SL
end Go.Proofs.YtlmiekcmjpnobaaGreatDoor
namespace Go.Proofs.YtlmiekcmjpnobaaGreatDoor
open Go
namespace SL
variable {P : Program} {n : Nat} {g : Gx} {Ro : Heap} {ops : Array Oper} {Q : Post} {m : Env} {H : Heap} {rest : List Oper} {d j : Nat} {op : Op} {ty : TypeId} {ps : String} {af : Array Edge}
theorem wanted_undef {a : Act} {want : Bool} {o : Oper} (ha : Agree m a) (hg : guardOn ops m j = some undef) (ho : o.guard = some (j, want)) :
    Region.wanted o (yielded ops a.tmps) = false := by
  unfold guardOn at hg
  unfold Region.wanted yielded
  simp only [ho]
  cases hd : (ops[j]?).bind (·.dst) with
  | none => simp [hd] at hg
  | some t =>
    simp [hd] at hg
    have := ha t _ hg
    simp only [Option.bind_some]
    cases h2 : a.tmps[t]? with
    | none => rfl
    | some u =>
      simp only [Array.getD_eq_getD_getElem?, h2, Option.getD_some] at this
      subst this
      rfl
theorem Rl.gfu {b b' : Bool} (k : Rl P n g Ro ops Q rest ((d, undef) :: m) H) (hg : guardOn ops m j = some (.bool b') := by rfl) (hb : b' ≠ b := by decide) (hd : Nat.blt d n = true := by rfl) :
    Rl P n g Ro ops Q (⟨some d, op, ty, ps, af, some (j, b)⟩ :: rest) m H := fun a w hs hh => by
  unfold wpList
  rw [if_neg (by rw [wanted_of hs.ag hg rfl]; simpa using hb)]
  exact k _ w (hs.put hd undef) hh
theorem Rl.guu {b : Bool} (k : Rl P n g Ro ops Q rest ((d, undef) :: m) H) (hg : guardOn ops m j = some undef := by rfl) (hd : Nat.blt d n = true := by rfl) :
    Rl P n g Ro ops Q (⟨some d, op, ty, ps, af, some (j, b)⟩ :: rest) m H := fun a w hs hh => by
  unfold wpList
  rw [if_neg (by rw [wanted_undef hs.ag hg rfl]; decide)]
  exact k _ w (hs.put hd undef) hh
variable {Hst : Heap} {k : Env → Prop} {pu : List Bool} {r : List Oper}
theorem wrap64 {c : Int} (h : -9223372036854775808 ≤ c) (h2 : c < 9223372036854775808) : IntKind.i64.wrap c = c := by
  simp only [IntKind.wrap, IntKind.bits, IntKind.signed, Bool.true_and, ge_iff_le, decide_eq_true_eq] <;> (try split) <;> omega
section
variable {ty t t' : TypeId} {x y : Operand} {a b : Int}
theorem Qt.iadd (hx : iv m x = some (.i64, a) := by rfl) (hy : iv m y = some (.i64, b) := by rfl) (h : -9223372036854775808 ≤ a + b ∧ a + b < 9223372036854775808 := by omega) :
    Qt P (.binOp .add t x y t') ty m H Ro (.int .i64 (a + b)) := fun w _ d ps af gd ha _ _ => by
  have e := wrap64 h.1 h.2
  simp [execOp, iv_sound ha hx, iv_sound ha hy, eqGuard, binOp, Op.intArith, e]
theorem Qt.isub (hx : iv m x = some (.i64, a) := by rfl) (hy : iv m y = some (.i64, b) := by rfl) (h : -9223372036854775808 ≤ a - b ∧ a - b < 9223372036854775808 := by omega) :
    Qt P (.binOp .sub t x y t') ty m H Ro (.int .i64 (a - b)) := fun w _ d ps af gd ha _ _ => by
  have e := wrap64 h.1 h.2
  simp [execOp, iv_sound ha hx, iv_sound ha hy, eqGuard, binOp, Op.intArith, e]
end
theorem seg_take {l vs : List Value} {o k : Nat} (h : seg l o k = some vs) : (l.drop o).take k = vs := by
  obtain ⟨h1, h2⟩ := seg_nth h
  apply List.ext_getElem?
  intro i
  by_cases hi : i < k
  · rw [List.getElem?_take, if_pos hi, List.getElem?_drop, ← nth_eq, h2 i hi]
  · rw [List.getElem?_take, if_neg hi, List.getElem?_eq_none (by omega)]
theorem Qt.ixAg {ty t k e sz i : Nat} {x y : Operand} {vs ws : List Value} [h : ArT P t k e sz] [h1 : Agg P e sz] (hx : ev m x = some (.agg vs.toArray) := by rfl) (hy : na m y = some i := by rfl)
    (hi : i < k := by omega) (hv : seg vs (i * sz) sz = some ws := by rfl) : Qt P (.index t x y) ty m H Ro (.agg ws.toArray) := fun a w d ps af gd ha _ _ => by
  obtain ⟨j, e2⟩ := na_sound ha hy
  simp [execOp, Instr.index, asIntOf, ev_sound ha hx, e2, h.und, h.size, hi, part, h1.agg, h1.size]
  exact seg_take hv
/-- A part of a row that a slice owns. -/
theorem seg_bcl {X : List UInt8} {sp : List Value} {j : Nat} (h : X.length = j) : seg (bc X ++ sp) 0 (j * 1) = some (bc X) := by
  rw [Nat.mul_one, ← h, ← bc_length]; exact seg_app _ _
theorem Spec.imp {f : FuncId} {α : Type} {args : List Value} {Hp : Heap} {φ ψ : α → Prop} {ret : α → Value} {Hq : α → Heap} (h : Spec P f args Ro Hp φ ret Hq) (k : ∀ x, φ x → ψ x) : Spec P f args Ro Hp ψ ret Hq :=
  fun w a b c d => (h w a b c d).mono fun _ _ ⟨x, hx, r⟩ => ⟨x, k x hx, r⟩
theorem Qt.fa0 {ty s f b o : Nat} {x : Operand} [h : Fld P s f 0] (hx : ev m x = some (.pointer (some ⟨b, o, none⟩)) := by rfl) :
    Qt P (.fieldAddr s x f) ty m H Ro (.pointer (some ⟨b, o, none⟩)) := fun a w d ps af gd ha _ _ => by
  simp [execOp, ev_sound ha hx, h.run]
instance InH.lapp_nil {H : Heap} {b : Nat} {o : Obj} [h : InH H b o] : InH (List.append [] H) b o := h
instance InH.lapp_cons {c : Chunk} {A B : Heap} {b : Nat} {o : Obj} [h : InH (c :: (List.append A B)) b o] : InH (List.append (c :: A) B) b o := h
end SL
end Go.Proofs.YtlmiekcmjpnobaaGreatDoor
namespace Go.Proofs.YtlmiekcmjpnobaaGreatDoor
open Go
namespace SL
def tb (m k : Nat) : Bool := Nat.beq (Nat.land (Nat.shiftRight m k) 1) 1
theorem tb_eq (m k : Nat) : tb m k = m.testBit k := by
  have h : Nat.land (Nat.shiftRight m k) 1 = (m >>> k) &&& 1 := rfl
  unfold tb Nat.testBit
  rw [h, Nat.and_comm]
  have h2 : 1 &&& m >>> k = (m >>> k) % 2 := Nat.one_and_eq_mod_two _
  rw [h2]
  rcases Nat.mod_two_eq_zero_or_one (m >>> k) with h | h <;> rw [h] <;> rfl
def orM (l : List Nat) : Nat := l.foldr (fun t m => Nat.lor (2 ^ t) m) 0
theorem orM_tb (l : List Nat) (t : Nat) : (orM l).testBit t = l.contains t := by
  induction l with
  | nil => simp [orM]
  | cons a l ih =>
    have : orM (a :: l) = 2 ^ a ||| orM l := rfl
    rw [this, Nat.testBit_or, ih, Nat.testBit_two_pow, List.contains_cons]
    congr 1
    by_cases h : a = t
    · subst h; simp
    · have h' : ¬ t = a := fun e => h e.symm
      simp [h, h']
def dstM (o : Oper) : Nat := match o.dst with | some d => 2 ^ d | none => 0
abbrev Row := Nat × Nat × Nat
def mrow (ops : Array Oper) (o : Oper) : Row := (orM ((o.after.toList.filter (Region.binds .any)).map (·.on)), orM (o.looksAt ops), dstM o)
def apM (x y : Row) : Bool := Nat.beq (Nat.land x.2.2 (Nat.lor y.2.1 y.2.2)) 0 && Nat.beq (Nat.land y.2.2 x.2.1) 0
theorem and_zero_tb {a b t : Nat} (h : a &&& b = 0) (ha : a.testBit t = true) : b.testBit t = false := by
  have := congrArg (·.testBit t) h
  simp only [Nat.testBit_and, Nat.zero_testBit, ha, Bool.true_and] at this
  exact this
theorem apM_sound {ops : Array Oper} {x y : Oper} (h : apM (mrow ops x) (mrow ops y) = true) : x.apart ops y = true := by
  simp only [apM, Bool.and_eq_true] at h
  have h1 := Nat.eq_of_beq_eq_true h.1
  have h2 := Nat.eq_of_beq_eq_true h.2
  change (mrow ops x).2.2 &&& ((mrow ops y).2.1 ||| (mrow ops y).2.2) = 0 at h1
  change (mrow ops y).2.2 &&& (mrow ops x).2.1 = 0 at h2
  unfold Oper.apart
  rw [Bool.and_eq_true]
  constructor
  · cases hx : x.dst with
    | none => rfl
    | some d =>
      have hd : (mrow ops x).2.2.testBit d = true := by simp only [mrow, dstM, hx]; exact Nat.testBit_two_pow_self
      have h3 := and_zero_tb h1 hd
      rw [Nat.testBit_or, Bool.or_eq_false_iff] at h3
      have h4 : (y.looksAt ops).contains d = false := by rw [← orM_tb]; exact h3.1
      simp only [h4, Bool.not_false, Bool.true_and]
      cases hy : y.dst with
      | none => rfl
      | some e =>
        have h5 := h3.2
        simp only [mrow, dstM, hy, Nat.testBit_two_pow] at h5
        have : e ≠ d := by simpa using h5
        simpa using this
  · cases hy : y.dst with
    | none => rfl
    | some d =>
      have hd : (mrow ops y).2.2.testBit d = true := by simp only [mrow, dstM, hy]; exact Nat.testBit_two_pow_self
      have h3 := and_zero_tb h2 hd
      have h4 : (x.looksAt ops).contains d = false := by rw [← orM_tb]; exact h3
      simp only [h4, Bool.not_false]
def freeM (ld i : Nat) (x : Row) : List Row → Nat → Bool
  | [], _ => true
  | y :: r, j => (Nat.beq j i || tb ld j || tb y.1 i || apM x y) && freeM ld i x r (j + 1)
def lexM (all : List Row) : List Row → Nat → List Nat → Nat → Bool
  | _, _, [], _ => true
  | [], _, _ :: _, _ => false
  | x :: r, k, i :: q, ld => bif Nat.beq k i then Nat.beq (Nat.land x.1 ld) x.1 && !tb ld k && freeM ld k x all 0 && lexM all r (k + 1) q (Nat.lor ld (2 ^ k)) else lexM all r (k + 1) (i :: q) ld
structure MkOk (ops : Array Oper) (ld : Nat) (arr : Array Bool) : Prop where
  size : arr.size = ops.size
  bits : ∀ j, j < ops.size → arr[j]? = some (ld.testBit j)
  high : ∀ j, ops.size ≤ j → ld.testBit j = false
theorem freeM_sound {ops : Array Oper} {ld i : Nat} {arr : Array Bool} {oi : Oper} (hm : MkOk ops ld arr) : ∀ (l : List Oper) (j : Nat), (∀ k, l[k]? = ops[j + k]?) → freeM ld i (mrow ops oi) (l.map (mrow ops)) j = true →
    ∀ k oj, j ≤ k → ops[k]? = some oj → (k == i || arr.getD k true || (oj.after.any (fun e => Region.binds .any e && e.on == i) || oi.apart ops oj)) = true
  | [], j, hl, _, k, oj, hk, ho => by
    have := hl (k - j)
    rw [show j + (k - j) = k by omega, ho] at this
    simp at this
  | y :: l, j, hl, h, k, oj, hk, ho => by
    simp only [List.map_cons, freeM, Bool.and_eq_true] at h
    rcases Nat.eq_or_lt_of_le hk with rfl | hk
    · have h0 := hl 0
      rw [Nat.add_zero, ho] at h0
      simp at h0
      subst h0
      have h1 := h.1
      simp only [Bool.or_eq_true] at h1 ⊢
      rcases h1 with ((h1 | h1) | h1) | h1
      · exact .inl (.inl (by simpa using Nat.eq_of_beq_eq_true h1))
      · refine .inl (.inr ?_)
        rw [tb_eq] at h1
        have := hm.bits j (Array.getElem?_eq_some_iff.1 ho).1
        simp [Array.getD_eq_getD_getElem?, this, h1]
      · refine .inr (.inl ?_)
        rw [tb_eq] at h1
        simp only [mrow, orM_tb] at h1
        rw [List.contains_iff_mem, List.mem_map] at h1
        obtain ⟨e, he, hei⟩ := h1
        rw [List.mem_filter] at he
        rw [Array.any_eq_true']
        exact ⟨e, by simpa using he.1, by simp [he.2, hei]⟩
      · exact .inr (.inr (apM_sound h1))
    · exact freeM_sound hm l (j + 1) (fun q => by have := hl (q + 1); rw [List.getElem?_cons_succ] at this; rw [this]; congr 1; omega) h.2 k oj hk ho
theorem MkOk.set {ops : Array Oper} {ld k : Nat} {arr : Array Bool} (h : MkOk ops ld arr) (hk : k < ops.size) : MkOk ops (Nat.lor ld (2 ^ k)) (arr.setIfInBounds k true) := by
  refine ⟨by simp [h.size], fun j hj => ?_, fun j hj => ?_⟩
  rotate_left
  · change (ld ||| 2 ^ k).testBit j = _
    rw [Nat.testBit_or, Nat.testBit_two_pow, h.high j hj]
    simp; omega
  have h1 := h.bits j hj
  have h2 : (Nat.lor ld (2 ^ k)).testBit j = (ld.testBit j || decide (k = j)) := by
    change (ld ||| 2 ^ k).testBit j = _
    rw [Nat.testBit_or, Nat.testBit_two_pow]
  rw [h2]
  by_cases he : k = j
  · subst he
    rw [Array.getElem?_setIfInBounds_self_of_lt (by rw [h.size]; exact hj)]; simp
  · rw [Array.getElem?_setIfInBounds_ne he, h1]; simp [he]
theorem lexM_sound {ops : Array Oper} : ∀ (l pre : List Oper) (k : Nat) (q : List Nat) (ld : Nat) (arr : Array Bool), pre ++ l = ops.toList → pre.length = k → MkOk ops ld arr →
    lexM (ops.toList.map (mrow ops)) (l.map (mrow ops)) k q ld = true → lexL ops arr q = true
  | l, pre, k, [], ld, arr, _, _, _, _ => by simp [lexL]
  | [], pre, k, i :: q, ld, arr, _, _, _, h => by simp [lexM] at h
  | o :: l, pre, k, i :: q, ld, arr, hp, hk, hm, h => by
    simp only [List.map_cons, lexM] at h
    have hp' : (pre ++ [o]) ++ l = ops.toList := by rw [← hp]; simp
    have hk' : (pre ++ [o]).length = k + 1 := by simp [hk]
    cases hb : Nat.beq k i with
    | false =>
      rw [hb, cond_false] at h
      exact lexM_sound l _ _ _ _ _ hp' hk' hm h
    | true =>
      rw [hb, cond_true] at h
      have e := Nat.eq_of_beq_eq_true hb
      subst e
      simp only [Bool.and_eq_true] at h
      obtain ⟨⟨⟨h1, h2⟩, h3⟩, h4⟩ := h
      have ho : ops[k]? = some o := by
        rw [← Array.getElem?_toList, ← hp, List.getElem?_append_right (by omega)]; simp [hk]
      have hlt : k < ops.size := (Array.getElem?_eq_some_iff.1 ho).1
      have hbit := hm.bits k hlt
      rw [Bool.not_eq_true', tb_eq] at h2
      have h1 : (mrow ops o).1 &&& ld = (mrow ops o).1 := Nat.eq_of_beq_eq_true h1
      simp only [lexL, Bool.and_eq_true]
      refine ⟨⟨?_, ?_⟩, lexM_sound l _ _ _ _ _ hp' hk' (hm.set hlt) h4⟩
      · rw [List.contains_iff_mem]
        refine mem_ready.2 ⟨?_, o, ho, fun e he hbd => ?_⟩
        · simp [Array.getD_eq_getD_getElem?, hbit, h2]
        · have h5 : (mrow ops o).1.testBit e.on = true := by
            simp only [mrow, orM_tb]
            rw [List.contains_iff_mem, List.mem_map]
            exact ⟨e, List.mem_filter.2 ⟨by simpa using he, hbd⟩, rfl⟩
          have h6 : ld.testBit e.on = true := by
            have := congrArg (·.testBit e.on) h1
            simp only [Nat.testBit_and, h5, Bool.true_and] at this
            exact this
          have hsz : e.on < arr.size ∨ arr.size ≤ e.on := Nat.lt_or_ge _ _
          rcases hsz with hsz | hsz
          · rw [hm.size] at hsz
            simp [Array.getD_eq_getD_getElem?, hm.bits _ hsz, h6]
          · rw [hm.size] at hsz
            rw [hm.high _ hsz] at h6; cases h6
      · unfold Region.free
        rw [ho]
        simp only [List.all_eq_true, List.mem_range]
        intro j hj
        obtain ⟨oj, hoj⟩ : ∃ oj, ops[j]? = some oj := ⟨_, Array.getElem?_eq_getElem hj⟩
        have := freeM_sound hm ops.toList 0 (fun q => by simp) h3 j oj (Nat.zero_le _) hoj
        rw [hoj]
        exact this
theorem MkOk.init (l : List Oper) : MkOk l.toArray 0 (Array.replicate l.length false) :=
  ⟨by simp, fun j hj => by simp at hj; simp [Array.getElem?_replicate, hj], fun _ _ => Nat.zero_testBit _⟩
section
variable {P : Program} {n : Nat} {g : Gx} {Ro : Heap} {Q : Post} {Hst H : Heap} {m : Env} {fuel : Nat} {bs : List Nat}
theorem Dr.qsM {l0 : List Oper} {fuel' : Nat} (ql : List Nat) (pu : List Bool) (h : Dq P n Ro l0.toArray Hst (fun m' => Dr P n g Ro l0.toArray bs Hst Q fuel (marks (Array.replicate l0.length false) ql) m' H) pu (pickS l0 0 ql) m)
    (hl : okS l0 0 ql = true := by kernel_rfl) (hns : Region.noSelect l0.toArray = true := by kernel_rfl) (hx : lexM (l0.map (mrow l0.toArray)) (l0.map (mrow l0.toArray)) 0 ql 0 = true := by kernel_rfl)
    (hq : okQ (bs.map (ancM l0.toArray)) bs pu ql = true := by kernel_rfl) (hf : fuel + ql.length = fuel' := by rfl) (hsub : SubR Hst H Ro := by infer_instance) :
    Dr P n g Ro l0.toArray bs Hst Q fuel' (Array.replicate l0.length false) m H := by
  subst hf
  have hB : lexL l0.toArray (Array.replicate l0.length false) ql = true := lexM_sound l0 [] 0 ql 0 _ (by simp) rfl (MkOk.init l0) (by simpa using hx)
  refine Dr.qs_aux hns ql _ pu _ m hq ?_ hB hsub h
  have := pickS_spec (pre := []) (k := 0) rfl hl
  simpa using this
end
section
variable {P : Program} {n : Nat} {g : Gx} {Ro : Heap} {Q : Post} {Hst H : Heap} {m : Env} {fuel : Nat} {bs bs' : List Nat} {ops : Array Oper} {C C' : World → Prop} {R : Act → World → Prop}
theorem Any.reset : ∀ {fuel : Nat} {ld : Array Bool} {a : Act} {w : World}, (∃ j, bs.contains j = true ∧ ld.getD j false = true) → Any P ops bs' C' R fuel ld a w → Any P ops bs C R fuel ld a w
  | 0, _, _, _, _, h => h
  | _ + 1, ld, _, _, ⟨j, hj, hl⟩, h => fun w' hg => ⟨(h w' hg).1, fun i hi => swOp.mono (fun a' w'' h2 => ⟨fun _ hn => absurd hl (by rw [hn j hj]; decide), Any.reset ⟨j, hj, getD_set_true hl⟩ h2.2⟩) ((h w' hg).2 i hi)⟩
/-- Behind an operation that turns memory: what is known now is what counts. -/
theorem Dr.reset {ld : Array Bool} (bs' : List Nat) (h : Dr P n g Ro ops bs' H Q fuel ld m H) (hb : (bs.any fun j => ld.getD j false) = true := by kernel_rfl) : Dr P n g Ro ops bs Hst Q fuel ld m H := fun a w hs hh hc => by
  refine Any.reset ?_ (h a w hs hh hc)
  obtain ⟨j, hj, hl⟩ := List.any_eq_true.1 hb
  exact ⟨j, by simpa using hj, hl⟩
end
instance SubR.app1 {c : Chunk} {Rc H Ro : Heap} [h : SubR Rc H Ro] : SubR Rc ([c] ++ H) Ro := SubR.more (c := c) (h := h)
instance SubR.app0 {Rc H Ro : Heap} [h : SubR Rc H Ro] : SubR Rc ([] ++ H) Ro := h
end SL
end Go.Proofs.YtlmiekcmjpnobaaGreatDoor
namespace Go.Proofs.YtlmiekcmjpnobaaGreatDoor
open Go
namespace SL
set_option maxRecDepth 20000

theorem must_q (v : Value) (w : Value) (k : Value) : QSpec Tryz.prog 61 [v, .bool true, w, k] [] (.tuple #[]) := by
  refine QSpec.of Tryz.func61 rfl Tryz.ntmps61 (by simp) fun w => ?_
  refine T.sr <| Rl.q Qt.mv <| Rl.q Qt.notT <| Rl.nilK <| ?_
  refine T.condF ?_
  refine T.skip <| Ex.ret0 (.inr rfl) ?_ rfl
  exact fun w h => ⟨rfl, h.grown⟩

/-- The number in n bytes from a place on, the lowest first; 0 beyond the end. -/
def leN (l : List UInt8) (p : Nat) : Nat → Nat
  | 0 => 0
  | n + 1 => (match l[p]? with | some c => c.toNat | none => 0) + 256 * leN l (p + 1) n
def RowB (R : List Value) (o : Nat) (l : List UInt8) : Prop := seg R o l.length = some (bc l)
theorem RowB.nth {R : List Value} {o i : Nat} {l : List UInt8} (h : RowB R o l) (hi : i < l.length) : SL.nth R (o + i) = some (N .u8 l[i].toNat) := by
  rw [(seg_nth h).2 i hi]
  simp [bc, hi]
theorem leN_lt (l : List UInt8) : ∀ n p, leN l p n < 256 ^ n
  | 0, p => by simp [leN]
  | n + 1, p => by
    have := leN_lt l n (p + 1)
    have h2 : (match l[p]? with | some c => c.toNat | none => 0) < 256 := by split <;> first | omega | exact UInt8.toNat_lt _
    simp only [leN, Nat.pow_succ]
    omega
theorem pow256 {k : Nat} (h : k ≤ 7) : 256 ^ k ≤ 72057594037927936 := Nat.le_trans (Nat.pow_le_pow_right (by decide) h) (by decide)
theorem or_byte (a c : Nat) (h : c < 256) : a * 2 ^ 8 ||| c = c + 256 * a := by
  have := Nat.two_pow_add_eq_or_of_lt (i := 8) (b := c) h a
  rw [Nat.mul_comm, ← this]; omega
theorem leN_in {l : List UInt8} {p n : Nat} (h : p < l.length) : leN l p (n + 1) = l[p].toNat + 256 * leN l (p + 1) n := by simp [leN, h]
theorem leN_out {l : List UInt8} {p n : Nat} (h : l.length ≤ p) : leN l p (n + 1) = 256 * leN l (p + 1) n := by simp [leN, h]
theorem le_q {R : List Value} {b o cap p n e : Nat} {fr : Nat × Nat} {l : List UInt8} (hR : RowB R o l) (h1 : p + n < 18446744073709551616) (h2 : n ≤ 8) (hl : l.length < 9223372036854775808) :
    QSpec Tryz.prog 62 [.slice (some ⟨b, o, none⟩) l.length cap, N .u64 p, N .u64 n] [[(b, .cells R.toArray e fr)]] (N .u64 (leN l p n)) := by
  refine QSpec.of Tryz.func62 rfl Tryz.ntmps62 (by simp) fun w => ?_
  refine T.sr <| Rl.q (Qt.as (v := N .u64 0)) <| Rl.nilK <| ?_
  refine T.sr <| Rl.q (Qt.as (v := N .u64 0)) <| Rl.nilK <| ?_
  refine T.seq ?_
  refine T.sr <| Rl.q Qt.mv <| Rl.q Qt.as <| Rl.nilK <| ?_
  refine T.block ?_
  refine T.loop (α := Nat) (fun i => [(0, .slice (some ⟨b, o, none⟩) l.length cap), (1, N .u64 p), (8, N .u64 i), (7, N .u64 (leN l (p + i) (n - i)))]) (fun i => []) (fun i => i ≤ n) (fun i => i)
    n (Nat.le_refl n) ?_ (fun i hi => ?_)
  · exact .cons rfl <| .cons rfl <| .cons rfl <| .cons (by rw [Nat.sub_self]; rfl) <| .nil
  refine T.seq ?_
  refine T.sr <| Rl.q Qt.mv <| Rl.gtS (b := 0) (fun h12 => ?_) (fun h12 => ?_)
  · refine Rl.nilK <| ?_
    refine T.condT ?_
    refine T.skip <| Ex.K <| ?_
    refine T.seq ?_
    refine T.block ?_
    have hlt := leN_lt l (n - i) (p + i)
    have h256 := pow256 (k := n - i) (by omega)
    obtain ⟨i, rfl⟩ : ∃ k, i = k + 1 := ⟨i - 1, by omega⟩
    have hq : leN l (p + (i + 1)) (n - (i + 1)) * 256 < 18446744073709551616 := by omega
    refine T.sr <| Rl.q Qt.mv <| Rl.q (Qt.shl (b := 8) (h := ⟨by decide, by simp only [lim]; omega⟩)) <| Rl.q Qt.as <| Rl.nilK <| ?_
    refine T.sr <| Rl.q Qt.mv <| Rl.q Qt.mv <| Rl.q Qt.add <| Rl.q (Qt.toN (c := p + i) (Qt.sub (b := 1))) <| Rl.q Qt.as <| Rl.nilK <| ?_
    refine T.sr <| Rl.q Qt.mv <| Rl.q Qt.mv <| Rl.q Qt.geT <| Rl.q Qt.mv <| Rl.gt <| Rl.q Qt.mv <| Rl.gt <| Rl.q Qt.mv <| ?_
    refine Rl.gt <| Rl.q Qt.len <| Rl.gt <| Rl.q Qt.cv <| Rl.gt <| Rl.ltS (fun h29 => ?_) (fun h29 => ?_)
    · refine Rl.q Qt.pkT <| Rl.nilK <| ?_
      refine T.condT ?_
      have hb := UInt8.toNat_lt l[p + i]
      refine T.region <| Rl.q Qt.mv <| Rl.q Qt.mv <| Rl.q Qt.mv <| Rl.q Qt.ia1 <| Rl.q (Qt.ld (hv := hR.nth h29)) <| Rl.q Qt.cv <| Rl.q (Qt.toN (c := leN l (p + i) (n - i)) (Qt.or (h := by simp only [lim]; omega)) (by rw [or_byte _ _ hb, show n - i = n - (i + 1) + 1 by omega, leN_in h29]; rfl)) <| ?_
      refine Rl.q Qt.as <| Rl.nil <| Ex.Bnormal <| Ex.K <| ?_
      refine T.region <| Rl.q Qt.mv <| Rl.q (Qt.toN (c := i) (Qt.sub (b := 1))) <| Rl.q Qt.as <| Rl.nil <| ?_
      exact Ex.next i (by omega) (by omega) (.cons rfl <| .cons rfl <| .cons rfl <| .cons rfl <| .nil)
    · refine Rl.q Qt.pkT <| Rl.nilK <| ?_
      refine T.condF ?_
      refine T.skip <| Ex.Bnormal <| Ex.K <| ?_
      refine T.region <| Rl.q Qt.mv <| Rl.q (Qt.toN (c := i) (Qt.sub (b := 1))) <| Rl.q Qt.as <| Rl.nil <| ?_
      exact Ex.next i (by omega) (by omega) (.cons rfl <| .cons rfl <| .cons rfl <| .cons (by rw [show n - i = n - (i + 1) + 1 by omega, leN_out h29, Nat.mul_comm]; rfl) <| .nil)
  · refine Rl.nilK <| ?_
    refine T.condF ?_
    refine T.exit <| Ex.Kexit <| Ex.Lexit <| Ex.Bhit <| Ex.K <| ?_
    refine T.sr <| Rl.q Qt.mv <| Rl.q Qt.as <| Rl.nilK <| ?_
    refine T.ret <| Ex.ret1 (.inl rfl) rfl ?_ rfl
    exact fun w h => ⟨by rw [Nat.le_zero.1 h12]; rfl, h.grown⟩
end SL
end Go.Proofs.YtlmiekcmjpnobaaGreatDoor
