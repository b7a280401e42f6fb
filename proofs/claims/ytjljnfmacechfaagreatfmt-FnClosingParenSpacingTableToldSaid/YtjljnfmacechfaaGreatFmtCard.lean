/-
  The frame of a law's card: the walk says that the call returns true and that nothing old has turned.
-/
import Derived.Test.YtjljnfmacechfaaGreatFmtLaid
import Derived.Test.YtjljnfmacechfaaGreatFmtTie
import Derived.OpenVars
import Derived.Stop.JoinedTold
import Derived.SevenTiedAt
import Derived.Stop.JoinedAt
namespace Go.Proofs.YtjljnfmacechfaaGreatFmt
open Go.ChangeShapes Go.WideShapes Go.ChangeAt Go.RowKit Go.Kit
open Go.Extern.Stop Go.Stop Go.Extern

theorem ownK : ownKnob Tryz.prog.godebug = none := by kernel_rfl
theorem laidOutK : laidOutB Tryz.pinned.checked.prog = true := by kernel_rfl
theorem stopsK : Tryz.pinned.checked.prog.stops = ["fmt.Sprintf, its operands' methods called"] := by kernel_rfl
theorem stopKnobsK : Tryz.pinned.checked.prog.stopKnobs = [] := by kernel_rfl
theorem quietK (os : Os) : Stop.quiet Tryz.pinned.checked.prog os := by
  intro k hk
  rw [stopKnobsK] at hk
  cases hk

theorem mapsRowedK : mapsRowed Tryz.pinned.checked.prog = true := by kernel_rfl
theorem envWordedK : Tryz.pinned.checked.prog.envWorded = true := by kernel_rfl
theorem looksK : true = Tryz.pinned.checked.prog.looks [] := by kernel_rfl
theorem mayEnterK : Tryz.pinned.checked.prog.mayEnter = true := by kernel_rfl
theorem stopsHeardK : Tryz.pinned.checked.prog.stopsHeard = true := by kernel_rfl

section
variable {H : Type} {enc : TypeId × Value → H} {P : Program}
theorem trodAll_below (hl : laidOutB P = true) {W W' : World} (hb : Below W.heap.size W W') :
    ∀ {ts : List TypeId} {vs : List Value} {ds : List (DataW H)} {ps : List MemPlace}, (ts.all fun t => P.readableRec t && decide (t < P.types.size)) = true → DataW.TrodAll enc P W 0 (fun _ => true) true ts vs ds ps →
      DataW.TrodAll enc P W' 0 (fun b => decide (b < W.heap.size)) true ts vs ds ps
  | [], [], [], _, _, h => h
  | t :: ts, v :: vs, d :: ds, ps, hv, h => by
    have hlt := h.lt
    obtain ⟨p, q, h1, h2, e⟩ := h
    simp only [List.all_cons, Bool.and_eq_true, decide_eq_true_eq] at hv
    exact ⟨p, q, Below.trod hl hv.1.1 hv.1.2 h1 hb fun x hx => hlt x (by rw [e]; simp [hx]), trodAll_below hl hb (by simpa using hv.2) h2, e⟩
  | [], _ :: _, _, _, _, h => h.elim
  | [], [], _ :: _, _, _, h => h.elim
  | _ :: _, [], _, _, _, h => h.elim
  | _ :: _, _ :: _, [], _, _, h => h.elim

theorem truth_post {f : Func} {s : ChangeSpec} {apart handsOn : Bool} {W W' : World} {args : Array Value} {ds gs : List (DataW H)} {before : List MemPlace} (hl : laidOutB P = true)
    (hps : (f.params.toList.all fun t => P.readableRec t && decide (t < P.types.size)) = true) (hvs : varsRowed P s.vars = true) {tb : TypeId} (hr : f.resultTypes = #[tb]) (htb : P.underlying tb = some .bool)
    (hW : DataW.Whole enc P f.params.toList s.vars apart W args.toList ds gs before) (hfn : s.fn H (ds ++ gs) = { results := [.lit (.bool true)], args := ds, vars := gs }) (hB : Below W.heap.size W W') (fresh : Bool) :
    s.post enc P f apart fresh handsOn false W args (.bool true) W' := by
  have hW' := hW
  obtain ⟨p, q, hA, hV, _, _, _⟩ := hW
  refine ⟨ds, gs, before, [], p, q, hW', ?_, ?_, ?_, hB.frame _, fun h => by cases h⟩
  · rw [hfn, hr]
    exact trodAll_mk1 (shut_bool htb true)
  · rw [hfn]; exact trodAll_below hl hB hps hA
  · rw [hfn]; exact Below.trodVars hl hB hvs hV
end
end Go.Proofs.YtjljnfmacechfaaGreatFmt
