/-
  bytes.Buffer: String.
-/
import Derived.Test.YtjljnfmacechfaaGreatFmtSbbD
import Derived.Test.YtjljnfmacechfaaGreatFmtMa
namespace Go.Proofs.YtjljnfmacechfaaGreatFmt
open Go.RowKit

abbrev bbS (b : Nat) : Sink := ⟨39, ⟨b, 0, none⟩, 345, fun _ => true, bbI b⟩

set_option maxHeartbeats 1000000 in
set_option maxRecDepth 100000 in
theorem bb_string {b : Nat} {w : World} {F : Nat → Prop} {l : List UInt8} (h : bbI b w F l) :
    Calls Tryz.prog 22 #[.pointer (some ⟨b, 0, none⟩)] w fun e w' => e = .returned (.string ⟨l.toArray⟩) ∧ Upd (fun _ => False) w w' := by
  obtain ⟨v, lr, hb, hv, hne, hF⟩ := h
  have c0 : w.cell? ⟨b, 0, none⟩ = some v := cell_at hb 0
  have c1 : w.cell? ⟨b, 1, none⟩ = some (.int .i64 0) := cell_at hb 1
  have hst : ∀ k, (convert 22 9 v).run Tryz.prog (w.drewN k) = .ok (.string ⟨l.toArray⟩) (w.drewN k) := fun k => str_of_row (hv.stable ((Upd.refl (fun _ => False) w).drewN k) fun _ _ h => h)
  obtain ⟨vo, vc, hvf⟩ := hv.form
  have hle : l.length ≤ vc := by
    rcases hv.2 with ⟨h1, h0⟩ | ⟨g, cap, cur, h1, _, hg, hnc, hcm, hcs, htk⟩
    · rw [h1] at hvf; injection hvf with h2 h3 h4; omega
    · rw [h1] at hvf; injection hvf with h2 h3 h4; subst h4; exact hnc
  subst hvf
  clear hb hv hne hF
  go_enter Tryz.func22, Tryz.ntmps22
  go_wp2
  go_quiet (fail)
  go_wp2
  go_ret
  exact ⟨rfl, (Upd.refl _ w).drewN _⟩
end Go.Proofs.YtjljnfmacechfaaGreatFmt
