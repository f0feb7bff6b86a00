import Derived.WalkKit
import Derived.ProofKit
import Derived.ChangeOld
import Derived.Below
namespace Go.Proofs.Qxb6607687a
open Go.ChangeShapes Go.WideShapes Go.ChangeAt Go.RowKit

theorem below_trodAll {H : Type} {enc : TypeId × Value → H} {P : Program} (hl : laidOutB P = true) {W W' : World} (hb : Below W.heap.size W W') :
    ∀ (ts : List TypeId) (vs : List Value) (ds : List (DataW H)) (ps : List MemPlace), (∀ t ∈ ts, P.readableRec t = true ∧ t < P.types.size) →
      DataW.TrodAll enc P W 0 (fun _ => true) true ts vs ds ps → (∀ x ∈ ps, x.block < W.heap.size) →
      DataW.TrodAll enc P W' 0 (fun b => decide (b < W.heap.size)) true ts vs ds ps
  | [], [], [], _, _, h, _ => h
  | t :: ts, v :: vs, d :: ds, ps, hr, h, hlt => by
    obtain ⟨p, q, h1, h2, rfl⟩ := h
    exact ⟨p, q, Below.trod hl (hr t (by simp)).1 (hr t (by simp)).2 h1 hb (fun x hx => hlt x (List.mem_append_left _ hx)),
      below_trodAll hl hb ts vs ds q (fun t ht => hr t (by simp [ht])) h2 (fun x hx => hlt x (List.mem_append_right _ hx)), rfl⟩
  | [], [], _ :: _, _, _, h, _ => h.elim
  | [], _ :: _, ds, _, _, h, _ => by cases ds <;> exact h.elim
  | _ :: _, [], ds, _, _, h, _ => by cases ds <;> exact h.elim
  | _ :: _, _ :: _, [], _, _, h, _ => h.elim

theorem trodAll_length {H : Type} {enc : TypeId × Value → H} {P : Program} {W : World} {base : Nat} {sp : Nat → Bool} {held : Bool} :
    ∀ (ts : List TypeId) (vs : List Value) (ds : List (DataW H)) (ps : List MemPlace), DataW.TrodAll enc P W base sp held ts vs ds ps → ds.length = ts.length ∧ vs.length = ts.length
  | [], [], [], _, _ => ⟨rfl, rfl⟩
  | _ :: ts, _ :: vs, _ :: ds, _, h => by
    obtain ⟨_, q, _, h2, _⟩ := h
    have := trodAll_length ts vs ds q h2
    simp [this.1, this.2]
  | [], [], _ :: _, _, h => h.elim
  | [], _ :: _, ds, _, h => by cases ds <;> exact h.elim
  | _ :: _, [], ds, _, h => by cases ds <;> exact h.elim
  | _ :: _, _ :: _, [], _, h => h.elim

/-- THE FRAME OF EVERY LAW OF THIS SEAT: the walk returns true and turns nothing that was there: the row's step. -/
theorem law_lift {C : Checked} {os : Os} {f : FuncId} {fn : Func} {s : ChangeSpec} {conds : List PathCond} {tb : TypeId} {H : Type} {enc : TypeId × Value → H}
    (own : ownKnob C.prog.godebug = none) (started : os.Started) (noInit : C.prog.inits.idxOf? f = none) (hfn : C.prog.funcs[f]? = some fn)
    (laid : laidOutB C.prog = true) (readable : ∀ t ∈ fn.params.toList, C.prog.readableRec t = true ∧ t < C.prog.types.size) (hvars : s.vars = [])
    (hres : fn.resultTypes = #[tb]) (hbool : C.prog.underlying tb = some .bool)
    (hspec : ∀ ds : List (DataW H), ds.length = fn.params.toList.length → (s.fn H ds).results = [.lit (.bool true)] ∧ (s.fn H ds).args = ds ∧ (s.fn H ds).vars = [])
    (witness : ∃ (w : World) (tape : Tape) (i : Input), w.os = os ∧ (w.forCall tape i).Shaped C.prog ∧ i.vars = [] ∧ Input.okWide C.prog (w.forCall tape i) .any w.heap.size f i ∧
      s.pre6 enc C.prog fn conds false (w.forCall tape i).memory i.args ∧ ({} : Assume).holds C.prog (lone (Frame.enter C.prog f i.args .normal) [] (w.forCall tape i)))
    (walk : ∀ (W : World) (base : Nat) (args : Array Value) (ds : List (DataW H)) (ps : List MemPlace),
      (∀ (j : Nat) t v, fn.params[j]? = some t → args[j]? = some v → Value.okWide C.prog W .any base t v) →
      DataW.TrodAll enc C.prog W 0 (fun _ => true) true fn.params.toList args.toList ds ps → (∀ x ∈ ps, x.block < W.heap.size) →
      Calls C.prog f args W fun e W' => e = .returned (.bool true) ∧ Below W.heap.size W W') :
    ReturnsInHanded {} C os f .any (s.pre6 enc C.prog fn conds false) (s.post enc C.prog fn false true false false) := by
  refine returnsInHanded_of_change own started noInit hfn witness ?_
  intro W base args ds gs before hval hW _ _
  have hW' := hW
  obtain ⟨p, q, hA, hV, rfl, hfz, hnd⟩ := hW
  rw [hvars] at hV
  obtain ⟨rfl, rfl⟩ := trodVars_none hV
  have hlt : ∀ x ∈ p, x.block < W.heap.size := fun x hx => hW'.lt x (by simp [hx])
  refine (walk W base args ds p hval hA hlt).mono fun e W' ⟨he, hb⟩ => ?_
  have hlen : ds.length = fn.params.toList.length := by
    exact (trodAll_length _ _ _ _ hA).1
  obtain ⟨e1, e2, e3⟩ := hspec ds hlen
  refine ⟨.bool true, he, ds, [], _, [], p, [], hW', ?_, ?_, ?_, hb.frame _, fun h => by cases h⟩
  · simp only [List.append_nil, e1]
    rw [hres]
    exact trodAll_mk1 (shut_bool hbool _)
  · simp only [List.append_nil, e2]
    exact below_trodAll laid hb _ _ _ _ readable hA hlt
  · simp only [List.append_nil, e3, hvars]
    rfl
end Go.Proofs.Qxb6607687a
