import Derived.Test.Qxb6003708aCompareWalk
import Derived.ProofKit
import Derived.OpenShut
import Derived.ShutString
import Derived.Lib.SmallJoins
namespace Go.Proofs.Qxb6003708a.fnCompare
open Go.ChangeShapes Go.WideShapes Go.ChangeAt Go.RowKit Go.Joins
open Go.Proofs.Qxb6003708a.Lst Go.Proofs.Qxb6003708a.Read

theorem own : ownKnob Try.prog.godebug = none := by kernel_rfl
theorem cells39 : Try.prog.cellsOf 39 = 4 := by kernel_rfl

/-- A LotIn as data. -/
def datum {H : Type} (x : LotX) : DataW H := .agg [.lit (.string x.A.data.toList), .lit (.string x.C.data.toList), .lit (.string x.I.data.toList), .lit (.int .i32 x.reg)]

theorem open39 {H : Type} {enc : TypeId × Value → H} {W : World} {base b0 : Nat} {r : Reach} {sp : Nat → Bool} {held : Bool} {v : Value} {d : DataW H} {p : List MemPlace}
    (hv : Value.okWide Try.prog W r b0 39 v) (h : DataW.Trod enc Try.prog W base sp held 39 v d p) :
    ∃ x : LotX, v = inV x ∧ d = datum x ∧ p = [] ∧ x.A.size ≤ maxLen ∧ x.C.size ≤ maxLen ∧ x.I.size ≤ maxLen ∧ (Lit.int .i32 x.reg).wf = true := by
  obtain ⟨c0, c1, c2, c3, y0, y1, y2, y3, m, rfl, rfl, rfl, hy0, hy1, hy2, hy3⟩ := open_agg4 Try.underlying39 (by kernel_rfl) cells39 hv h
  obtain ⟨a, e0, rfl, wa⟩ := DataW.trod_string Try.underlying9 hy0
  obtain ⟨b, e1, rfl, wb⟩ := DataW.trod_string Try.underlying9 hy1
  obtain ⟨c, e2, rfl, wc⟩ := DataW.trod_string Try.underlying9 hy2
  obtain ⟨n, e3, rfl, wn⟩ := DataW.trod_int Try.underlying21 hy3
  simp at e0 e1 e2 e3
  subst e0 e1 e2 e3
  exact ⟨⟨a, b, c, n⟩, rfl, rfl, rfl, wa, wb, wc, wn⟩
theorem shut39 {H : Type} {enc : TypeId × Value → H} (x : LotX) (wa : x.A.size ≤ maxLen) (wb : x.C.size ≤ maxLen) (wc : x.I.size ≤ maxLen) (wn : (Lit.int .i32 x.reg).wf = true) (W : World) (base : Nat) (sp : Nat → Bool) (held : Bool) :
    DataW.Trod enc Try.prog W base sp held 39 (inV x) (datum x) [] :=
  shut_agg4 (y0 := (.lit (.string x.A.data.toList), [])) (y1 := (.lit (.string x.C.data.toList), [])) (y2 := (.lit (.string x.I.data.toList), [])) (y3 := (.lit (.int .i32 x.reg), [])) Try.underlying39 (by kernel_rfl) cells39
    ⟨1, by simp [DataW.trod, Try.underlying9, wa]⟩ ⟨1, by simp [DataW.trod, Try.underlying9, wb]⟩ ⟨1, by simp [DataW.trod, Try.underlying9, wc]⟩ ⟨1, by simp [DataW.trod, Try.underlying21, wn]⟩

set_option maxRecDepth 100000 in
theorem lifted (os : Os) (started : os.Started) (H : Type) (enc : TypeId × Value → H) :
    ReturnsInHanded {} Try.checked os 5 .any (Rows.fnCompareOrdersByAccountClassDateIDSpec.pre6 enc Try.prog Try.f5 Rows.fnCompareOrdersByAccountClassDateIDRow.domain false) (Rows.fnCompareOrdersByAccountClassDateIDSpec.post enc Try.prog Try.f5 false true false false) := by
  refine returnsInHanded_of_change (C := Try.checked) own started (by kernel_rfl) Try.func5
    (ChangeSpec.witness6 (enc := enc) (C := Try.checked) false ⟨#[], #[.agg #[.string ByteArray.empty, .string ByteArray.empty, .string ByteArray.empty, .int .i32 0], .agg #[.string ByteArray.empty, .string ByteArray.empty, .string ByteArray.empty, .int .i32 0], .agg #[.string ByteArray.empty, .string ByteArray.empty, .string ByteArray.empty, .int .i32 0]], []⟩ 8 (by kernel_rfl) (by kernel_rfl) (by kernel_rfl) (by kernel_rfl)) ?_
  intro W base args ds gs before hval0 hW hcnd _
  have hval : ∀ (j : Nat) t v, Try.f5.params[j]? = some t → args[j]? = some v → Value.okWide Try.prog W .any base t v := hval0
  have hW' := hW
  obtain ⟨p, q, hA0, hV, rfl, hfz, hnd⟩ := hW
  have hA : DataW.TrodAll enc Try.prog W 0 (fun _ => true) true Try.f5.params.toList args.toList ds p := hA0
  rw [Try.params5] at hA hval
  obtain ⟨v0, vs0, d0, ds0, p0, q0, hargs, rfl, rfl, h0, r0⟩ := trodAll_cons hA
  obtain ⟨v1, vs1, d1, ds1, p1, q1, rfl, rfl, rfl, h1, r1⟩ := trodAll_cons r0
  obtain ⟨v2, vs2, d2, ds2, p2, q2, rfl, rfl, rfl, h2, r2⟩ := trodAll_cons r1
  obtain ⟨rfl, rfl, rfl⟩ := trodAll_nil r2
  obtain rfl : args = #[v0, v1, v2] := by cases args; simp_all
  obtain ⟨rfl, rfl⟩ := trodVars_none hV
  obtain ⟨x, rfl, rfl, rfl, xa, xc, xi, xr⟩ := open39 (hval 0 39 v0 rfl rfl) h0
  obtain ⟨y, rfl, rfl, rfl, ya, yc, yi, yr⟩ := open39 (hval 1 39 v1 rfl rfl) h1
  obtain ⟨z, rfl, rfl, rfl, za, zc, zi, zr⟩ := open39 (hval 2 39 v2 rfl rfl) h2
  clear hA0 hval0
  refine (Law5.walk x y z xa xc xi ya yc yi za zc zi W).mono fun e W' ⟨he, bel⟩ => ?_
  subst he
  exact ⟨_, rfl, _, _, _, [], _, [], hW', trodAll_mk1 (shut_bool Try.underlying4 _), (trodAll_cons_mk (shut39 x xa xc xi xr _ _ _ _) (trodAll_cons_mk (shut39 y ya yc yi yr _ _ _ _) (trodAll_cons_mk (shut39 z za zc zi zr _ _ _ _) trodAll_mk0))), rfl, bel.frame _, fun h => by cases h⟩

theorem over : Rows.fnCompareOrdersByAccountClassDateIDRow.holds Try.pinned (OpenSpec.ofChange Rows.fnCompareOrdersByAccountClassDateIDSpec) :=
  OpenClaim.holds_of_wide 5 Try.f5 rfl rfl rfl rfl rfl rfl rfl ⟨rfl, rfl, rfl, rfl, rfl⟩ rfl rfl rfl rfl rfl (by kernel_rfl) Try.func5 (by kernel_rfl)
    (of_decide_eq_true (by kernel_rfl)) (by unfold Func.isWrapper; first | (rw [if_pos (by decide +kernel)]; kernel_rfl) | (rw [if_neg (by decide +kernel)]; exact ⟨rfl, rfl⟩))
    (fun os started H enc _ => lifted os started H enc)

theorem proved : Rows.FnCompareOrdersByAccountClassDateIDSaid :=
  over
end Go.Proofs.Qxb6003708a.fnCompare
