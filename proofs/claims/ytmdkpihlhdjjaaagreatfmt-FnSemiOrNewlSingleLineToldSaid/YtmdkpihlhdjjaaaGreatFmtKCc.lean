/-
  n010_157: rightParen, semiRsrv on a Printer that is built out of a state.
-/
import Derived.Test.YtmdkpihlhdjjaaaGreatFmtKCaX
import Derived.Test.YtmdkpihlhdjjaaaGreatFmtKVh
namespace Go.Proofs.YtmdkpihlhdjjaaaGreatFmt
open Go.RowKit

theorem mIndent_bytes (v : VS) : ∀ c ∈ mIndent v, c = 255 ∨ c = 9 ∨ c = 32 := by
  intro c hc
  unfold mIndent at hc
  split at hc
  · cases hc
  · split at hc
    · cases hc
    · split at hc
      · simp only [List.mem_append, List.mem_singleton, List.mem_replicate] at hc
        rcases hc with (h | ⟨_, h⟩) | h
        · exact .inl h
        · exact .inr (.inl h)
        · exact .inl h
      · exact .inr (.inr (List.mem_replicate.1 hc).2)

/-- The bounds of a state. -/
structure VS.Bd (v : VS) : Prop where
  kl : v.k * v.lv ≤ 65536
  lv : v.lv ≤ 65536
  ln : v.ln ≤ 2147483648
theorem mIndent_le (v : VS) (h : v.Bd) : (mIndent v).length ≤ 65540 := by
  have h1 := h.kl
  have h2 := h.lv
  unfold mIndent
  split
  · simp
  · split
    · simp
    · split
      · simp only [List.length_append, List.length_replicate, List.length_singleton]; omega
      · rw [List.length_replicate]; omega
theorem mRp_len (v : VS) (L : Nat) : (mRp v L).length ≤ (mIndent v).length + 2 := by
  unfold mRp
  split
  · simp
  · exact mNls_len v L
theorem sRp_ws1 (v : VS) (L : Nat) : (sRp v L).ws = 1 := by
  unfold sRp
  split <;> rfl
theorem sNls_ln (v : VS) (L : Nat) : (sNls v L).ln = v.ln ∨ (sNls v L).ln = max v.ln L := by
  unfold sNls sIndent sNl
  split
  · exact .inl rfl
  · split
    · split <;> exact .inr rfl
    · exact .inl rfl
theorem sRp_ln (v : VS) (L : Nat) : (sRp v L).ln = v.ln ∨ (sRp v L).ln = max v.ln L := by
  unfold sRp
  split
  · exact .inl rfl
  · exact sNls_ln v L

theorem PX.fin {T : Sink} {pb b : Nat} {tv : Value} {B : Base} {w : World} {l : List UInt8} {v : VS} (x : PX T pb b tv B w l v) : Upd (fun j => j = pb ∨ B.F0 j) B.w0 w := by
  obtain ⟨F, h, x⟩ := x
  exact x.upd


end Go.Proofs.YtmdkpihlhdjjaaaGreatFmt
