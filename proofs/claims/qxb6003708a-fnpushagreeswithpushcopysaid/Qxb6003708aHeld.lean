/-
  A region that draws its order, whose LAST operation writes a cell that the region reads ('x.f = append(x.f, ..)'): as Derived/OrdersHeld.lean, but S need not hold behind the operation m that waits for all others.
-/
import Derived.Test.Qxb6003708aRows
import Derived.WalkKit
import Derived.Deep.RegionHeld3
namespace Go.Proofs.Qxb6003708a.Held
open Go
section
variable {P : Program} {ops : Array Oper} {Q : Exit → Act → World → Prop} {md : Region.Mode} {S : World → Prop} {m : Nat}

def wpAnyN (P : Program) (md : Region.Mode) (ops : Array Oper) (Q : Exit → Act → World → Prop) (S : World → Prop) (m : Nat) : Nat → Array Bool → Act → World → Prop
  | 0, listed, a, w => Region.ready md ops listed = [] ∧ Q .normal a w
  | fuel + 1, listed, a, w =>
    (Region.ready md ops listed = [] → Q .normal a w) ∧
    ∀ i ∈ Region.ready md ops listed, wpOp P ops Q i (fun a' w' => (i ≠ m → S w') ∧ wpAnyN P md ops Q S m fuel (listed.setIfInBounds i true) a' w') a w

theorem wpAny_of : ∀ (fuel : Nat) (listed : Array Bool) (a : Act) (w : World), wpAnyN P md ops Q S m fuel listed a w → wpAny P md ops Q fuel listed a w
  | 0, _, _, _, h => h
  | fuel + 1, _, _, _, h => ⟨h.1, fun i hi => wpOp_mono (fun a' w' h' => wpAny_of fuel _ a' w' h'.2) (h.2 i hi)⟩

/-- Operation m waits for operation i. -/
def waits (md : Region.Mode) (ops : Array Oper) (m i : Nat) : Bool := ((ops[m]?).map fun o => o.after.any fun e => Region.binds md e && e.on == i).getD false

theorem first_aux {i : Nat} {oi : Oper} {v : Value} (hi : ops[i]? = some oi) (hsel : ∀ (j : Nat) (o : Oper) cs b, ops[j]? = some o → o.op ≠ .select cs b)
    (hQ : ∀ c a w, Q (.panic c) (a.put oi.dst v) w → Q (.panic c) a w) (hm : (waits md ops m i || decide (ops.size ≤ m)) = true) :
    ∀ (fuel : Nat) (listed : Array Bool) (a : Act) (w : World),
      (∀ j oj, ops[j]? = some oj → j ≠ i → listed.getD j true = false → (∀ e ∈ oj.after, Region.binds md e = true → e.on ≠ i) → oi.apart ops oj = true) →
      i ∈ Region.ready md ops listed → YieldsIf P ops S oi v a → S w →
      wpAnyN P md ops Q S m fuel (listed.setIfInBounds i true) (a.put oi.dst v) w → wpAnyN P md ops Q S m (fuel + 1) listed a w := by
  intro fuel
  induction fuel with
  | zero =>
    intro listed a w _ hr hy hS H
    refine ⟨fun h => (by rw [h] at hr; cases hr), fun j hj => ?_⟩
    by_cases hji : j = i
    · subst hji; exact hy.wpOp hi hS ⟨fun _ => hS, H⟩
    · have := ready_mono hj hji
      rw [H.1] at this
      cases this
  | succ fuel ih =>
    intro listed a w hfree hr hy hS H
    refine ⟨fun h => (by rw [h] at hr; cases hr), fun j hj => ?_⟩
    by_cases hji : j = i
    · subst hji; exact hy.wpOp hi hS ⟨fun _ => hS, H⟩
    · have h1 := H.2 j (ready_mono hj hji)
      obtain ⟨hjun, oj, hoj, hall⟩ := mem_ready.1 hj
      have hnot : ∀ e ∈ oj.after, Region.binds md e = true → e.on ≠ i := fun e he hb heq => by
        have h1 := hall e he hb
        have h0 := (mem_ready.1 hr).1
        rw [heq] at h1
        rcases Nat.lt_or_ge i listed.size with h' | h'
        · simp [h'] at h0 h1; rw [h0] at h1; cases h1
        · simp [Array.getElem?_eq_none h'] at h1
      have hjm : j ≠ m := by
        rintro rfl
        rcases Bool.or_eq_true_iff.1 hm with hm | hm
        case inr =>
          have h1 := (Array.getElem?_eq_some_iff.1 hoj).1
          have h2 := of_decide_eq_true hm
          omega
        unfold waits at hm
        rw [hoj] at hm
        simp only [Option.map_some, Option.getD_some, Array.any_eq_true, Bool.and_eq_true, beq_iff_eq] at hm
        obtain ⟨k, hk, hb, he⟩ := hm
        exact hnot _ (Array.getElem_mem hk) hb he
      have h2 := wpOp_putIf hoj (hfree j oj hoj hji hjun hnot) (fun cs b => hsel i oi cs b hi) (fun cs b => hsel j oj cs b hoj) hQ hy h1
      have hfree' : ∀ k ok, ops[k]? = some ok → k ≠ i → (listed.setIfInBounds j true).getD k true = false →
          (∀ e ∈ ok.after, Region.binds md e = true → e.on ≠ i) → oi.apart ops ok = true := fun k ok hk hki hun hno => by
        refine hfree k ok hk hki ?_ hno
        by_cases hjk : j = k
        · subst hjk; exact hjun
        · rw [getD_set_ne true hjk] at hun; exact hun
      refine wpOp_mono (fun a' w' h3 => ⟨h3.2.1, ih (listed.setIfInBounds j true) a' w' hfree' (ready_mono hr (Ne.symm hji)) h3.1 (h3.2.1 hjm) ?_⟩) h2
      rw [Array.setIfInBounds_comm _ _ hji]
      exact h3.2.2

/-- Take number 'i' first. -/
theorem take {i : Nat} {oi : Oper} {v : Value} {fuel : Nat} {listed : Array Bool} {a : Act} {w : World} (hi : ops[i]? = some oi)
    (hs : Region.noSelect ops = true) (hf : Region.free md ops listed i = true) (hr : (Region.ready md ops listed).contains i = true) (hm : (waits md ops m i || decide (ops.size ≤ m)) = true)
    (hQ : ∀ c a w, Q (.panic c) (a.put oi.dst v) w → Q (.panic c) a w) (hS : S w) (hy : YieldsIf P ops S oi v a)
    (h : wpAnyN P md ops Q S m fuel (listed.setIfInBounds i true) (a.put oi.dst v) w) : wpAnyN P md ops Q S m (fuel + 1) listed a w :=
  first_aux hi (Region.noSelect_spec hs) hQ hm fuel listed a w (Region.free_spec hi hf) (by simpa using hr) hy hS h

/-- Take number 'i' first, its slot named. -/
theorem takeAt (i : Nat) (d : Tmp) {oi : Oper} {v : Value} {fuel : Nat} {listed : Array Bool} {a : Act} {w : World} (hi : ops[i]? = some oi) (hd : oi.dst = some d) (hg : oi.guard = none)
    (hs : Region.noSelect ops = true) (hf : Region.free md ops listed i = true) (hr : (Region.ready md ops listed).contains i = true) (hm : (waits md ops m i || decide (ops.size ≤ m)) = true)
    (hQ : ∀ c a w, Q (.panic c) (a.put (some d) v) w → Q (.panic c) a w) (hS : S w) (hy : ∀ w, S w → (execOp a.eval oi).run P w = .ok (.value v) w)
    (h : wpAnyN P md ops Q S m fuel (listed.setIfInBounds i true) (a.put (some d) v) w) : wpAnyN P md ops Q S m (fuel + 1) listed a w :=
  take hi hs hf hr hm (by rw [hd]; exact hQ) hS (.inl ⟨by simp [Region.wanted, hg], hy⟩) (by rw [hd]; exact h)

/-- The one that may come up comes up. -/
theorem one {i : Nat} {o : Oper} {fuel : Nat} {listed : Array Bool} {a : Act} {w : World} (hi : ops[i]? = some o) (hg : o.guard = none) (hr : Region.ready md ops listed = [i])
    (h : ∀ K' : Act → World → Prop, Shut (∀ a w, (i ≠ m → S w) → wpAnyN P md ops Q S m fuel (listed.setIfInBounds i true) a w → K' a w) → Oper.wp P o a w K' Q) :
    wpAnyN P md ops Q S m (fuel + 1) listed a w := by
  refine ⟨fun h0 => (by rw [hr] at h0; cases h0), fun j hj => ?_⟩
  rw [hr] at hj
  obtain rfl : j = i := by simpa using hj
  refine wpOp_step hi (fun K' hK => ?_)
  rw [if_pos (by simp [Region.wanted, hg])]
  exact h K' (fun a w hS hW => hK a w ⟨hS, hW⟩)

/-- Two may come up. -/
theorem two {i j : Nat} {o o' : Oper} {fuel : Nat} {listed : Array Bool} {a : Act} {w : World} (hi : ops[i]? = some o) (hg : o.guard = none) (hj : ops[j]? = some o') (hg' : o'.guard = none) (hr : Region.ready md ops listed = [i, j])
    (h : ∀ K' : Act → World → Prop, Shut (∀ a w, (i ≠ m → S w) → wpAnyN P md ops Q S m fuel (listed.setIfInBounds i true) a w → K' a w) → Oper.wp P o a w K' Q)
    (h' : ∀ K' : Act → World → Prop, Shut (∀ a w, (j ≠ m → S w) → wpAnyN P md ops Q S m fuel (listed.setIfInBounds j true) a w → K' a w) → Oper.wp P o' a w K' Q) :
    wpAnyN P md ops Q S m (fuel + 1) listed a w := by
  refine ⟨fun h0 => (by rw [hr] at h0; cases h0), fun k hk => ?_⟩
  rw [hr] at hk
  rcases List.mem_cons.1 hk with rfl | hk
  · refine wpOp_step hi (fun K' hK => ?_)
    rw [if_pos (by simp [Region.wanted, hg])]
    exact h K' (fun a w hS hW => hK a w ⟨hS, hW⟩)
  · obtain rfl : k = j := by simpa using hk
    refine wpOp_step hj (fun K' hK => ?_)
    rw [if_pos (by simp [Region.wanted, hg'])]
    exact h' K' (fun a w hS hW => hK a w ⟨hS, hW⟩)

theorem done {listed : Array Bool} {a : Act} {w : World} (hr : Region.ready md ops listed = []) (h : Q .normal a w) :
    ∀ fuel, wpAnyN P md ops Q S m fuel listed a w
  | 0 => ⟨hr, h⟩
  | _ + 1 => ⟨fun _ => h, by rw [hr]; simp⟩

/-- 'make([]T, 0, n)' at the operation: where the new row lies is a letter. -/
theorem wp_make_own {o : Oper} {a : Act} {w : World} {K : Act → World → Prop} (l c : Operand) (t : TypeId) (hop : o.op = Op.makeSlice t l c)
    (base : Nat) (e : TypeId) (i : TypeInfo) (z : Value) (size : Nat) (h1 : P.underlying t = some (.slice e)) (h2 : P.info? e = some i) (h3 : i.zero = some z) (h4 : i.size = size)
    (kl kc : IntKind) (n : Nat) (hl : a.eval l = .int kl 0) (hc : a.eval c = .int kc (n : Int)) (b2 : i.bytes * n ≤ 281474976710656) (b3 : n ≤ maxLen) (b4 : base ≤ w.heap.size)
    (hK : ∀ h w', w'.ownsRow base e size (.slice (some ⟨h, 0, none⟩) 0 n) 0 [] → w.grownBy w' none → w.heap.size < w'.heap.size → K (a.put o.dst (.slice (some ⟨h, 0, none⟩) 0 n)) w') : o.wp P a w K Q := by
  obtain ⟨w', hrun, r1, r2⟩ := run_make_own (P := P) w base t e i z size h1 h2 h3 h4 kl kc n b2 b3 b4
  unfold Oper.wp
  simp [execOp, hop, hl, hc, hrun, Result.andThen]
  refine hK _ w' r1 r2 ?_
  rcases r1.2 with ⟨h, _⟩ | ⟨g, cap, cur, h, _, hg, _⟩
  · simp at h
  · simp only [Value.slice.injEq, Option.some.injEq, Addr.mk.injEq] at h
    rw [h.1.1]
    rcases Nat.lt_or_ge g w'.heap.size with h' | h'
    · exact h'
    · simp [Array.getElem?_eq_none h'] at hg

/-- The beginning. -/
theorem start {id : Nat} {a : Act} {w : World} (S : World → Prop) (m : Nat) (hm : P.follows .mixedOrders = true) (hS : S w.drew)
    (h : S w.drew → wpAnyN P .any ops Q S m ops.size (Array.replicate ops.size false) a w.drew) : (Code.region id ops true).wp P Q a w :=
  wp_region_any hm (wpAny_of _ _ _ _ (h hS))
end
end Go.Proofs.Qxb6003708a.Held
