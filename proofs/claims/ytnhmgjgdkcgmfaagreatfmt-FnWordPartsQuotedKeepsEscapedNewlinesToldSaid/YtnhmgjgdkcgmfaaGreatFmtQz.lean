/-
  n010_39: a plain word is made; letters and digits are told; two slices of bytes are compared; Print of the word and of a comment.
-/
import Derived.Test.YtnhmgjgdkcgmfaaGreatFmtSame
import Derived.Test.YtnhmgjgdkcgmfaaGreatFmtPgW
import Derived.Test.YtnhmgjgdkcgmfaaGreatFmtPgN
import Derived.Test.YtnhmgjgdkcgmfaaGreatFmtPeG
namespace Go.Proofs.YtnhmgjgdkcgmfaaGreatFmt
open Go.RowKit



theorem trimRight_none (l : List UInt8) (h : ∀ x ∈ l, x ≠ 92) : Lib.trimRightB l 92 = l := by
  unfold Lib.trimRightB
  have : l.reverse.dropWhile (· == 92) = l.reverse := by
    cases hr : l.reverse with
    | nil => rfl
    | cons a t =>
      have ha : a ≠ 92 := h a (List.mem_reverse.1 (by rw [hr]; simp))
      rw [List.dropWhile_cons_of_neg (by simpa using ha)]
  rw [this, List.reverse_reverse]
theorem litText_plain (l : List UInt8) (h : ∀ x ∈ l, x ≠ 92) : litText l = l := by
  unfold litText
  rw [trimRight_none l h, Nat.sub_self]
  rfl


/-- Print of a word of literals. -/
theorem pg_word {S : Sink} (hs : S.Law Tryz.prog 531) (hok : ∀ c, S.okb c = true) {pb b tb : Nat} {s : PS} {w : World} {O Fs : Nat → Prop} (h : PrAny pb b tb s w O) (hkp : s.kp = false) (hm : (s.mi && s.si) = false) (hkk : s.k ≤ 1073741824)
    (hI : S.I w Fs []) (hdF : ∀ k, O k → ¬ Fs k) {wb rb : Nat} {p : LitP} {ps : List LitP} (hW : WordAt (fun k => O k ∨ Fs k) wb rb w (p :: ps)) (hv : ∀ q ∈ p :: ps, ∀ x ∈ q.v.data.toList, twOk x = true) (hl : partsSize (p :: ps) + 1 ≤ LIM) :
    Calls Tryz.prog 23 #[.pointer (some ⟨pb, 0, none⟩), .iface S.ty (.pointer (some S.ptr)), .iface 103 (.pointer (some ⟨wb, 0, none⟩))] w fun e w' => e = .returned .nilIface ∧ PrintL S pb b tb s O Fs (partsText (p :: ps)) w w' := by
  have hO := h.own
  obtain ⟨g, G, h, hO'⟩ := h
  obtain rfl : O = PrOwn pb b g tb G := funext fun k => propext (hO' k)
  have hps := partsSize_length (p :: ps)
  have hlen : (partsText (p :: ps)).length + 1 ≤ LIM := by have := partsText_len (p :: ps); omega
  have hlc : p.l1 < 4294967296 := (hW.2.2.2.2 p (by simp)).2.2.1
  have hpos : ∀ W, Upd (fun k => PrOwn pb b g tb G k ∨ Fs k) w W → Calls Tryz.prog 34 #[.pointer (some ⟨wb, 0, none⟩)] W fun e w' => e = .returned (posV p.o1 p.l1) ∧ Upd (fun _ => False) W w' :=
    fun W hu => word_pos (hW.next hu fun k hk => .inl hk) (by unfold LIM at hl; simp only [List.length_cons] at hps; omega)
  have hmid : PgMid S pb b tb (PrOwn pb b g tb G) Fs w s (p.l1 / 16384) 36 #[.pointer (some ⟨pb, 0, none⟩), .pointer (some ⟨wb, 0, none⟩)] (partsText (p :: ps)) := by
    rintro twd fg W F s' ⟨cc, cl, rfl⟩ hP hF hu
    refine (p_word (tw_law hs hok tb twd fg) (tw_wstr hs hok tb twd fg) rfl hP (hW.next hu fun k hk => ?_) (by simp) (fun q r e => by
      injection e with e1 e2
      subst e1
      exact Nat.le_refl _) (fun q hq x hx => ⟨hv q hq x hx, fun e => ?_⟩) (by simp only [List.length_nil]; omega)).mono ?_
    · rcases hk with h | h
      · exact .inl (.inl (h ▸ hO))
      · exact hF k h
    · have := hv q hq x hx
      rw [e] at this
      exact absurd this (by decide)
    · rintro e w' ⟨rfl, hr⟩
      refine ⟨rfl, _, ?_, ?_, hr⟩
      · exact ⟨rfl, rfl, rfl, rfl, rfl, rfl, rfl, rfl, rfl, Nat.zero_le _⟩
      · exact Nat.zero_le _
  by_cases hk0 : s.k = 0 <;> cases hmi : s.mi
  · exact pg_word_0n hs hok h hkp hk0 hmi hkk hI hdF hlen hlc hpos hmid
  · exact pg_word_0m hs hok h hkp hk0 hmi (by rw [hmi] at hm; exact hm) hkk hI hdF hlen hlc hpos hmid
  · exact pg_word_kn hs hok h hkp hk0 hmi hkk hI hdF hlen hlc hpos hmid
  · exact pg_word_km hs hok h hkp hk0 hmi (by rw [hmi] at hm; exact hm) hkk hI hdF hlen hlc hpos hmid

/-- Print of a comment: refused. -/
theorem pg_comment {S : Sink} (hs : S.Law Tryz.prog 531) (hok : ∀ c, S.okb c = true) {pb b tb : Nat} {s : PS} {w : World} {O Fs : Nat → Prop} (h : PrAny pb b tb s w O) (hkp : s.kp = false) (hm : (s.mi && s.si) = false) (hkk : s.k ≤ 1073741824)
    (hI : S.I w Fs []) (hdF : ∀ k, O k → ¬ Fs k) (wb : Nat) :
    Calls Tryz.prog 23 #[.pointer (some ⟨pb, 0, none⟩), .iface S.ty (.pointer (some S.ptr)), .iface 266 (.pointer (some ⟨wb, 0, none⟩))] w fun e w' => (∃ t v, e = .returned (.iface t v)) ∧ PrintL S pb b tb s O Fs [] w w' := by
  obtain ⟨g, G, h, hO'⟩ := h
  obtain rfl : O = PrOwn pb b g tb G := funext fun k => propext (hO' k)
  by_cases hk0 : s.k = 0 <;> cases hmi : s.mi
  · exact pg_comment_0n hs hok h hkp hk0 hmi hkk hI hdF
  · exact pg_comment_0m hs hok h hkp hk0 hmi (by rw [hmi] at hm; exact hm) hkk hI hdF
  · exact pg_comment_kn hs hok h hkp hk0 hmi hkk hI hdF
  · exact pg_comment_km hs hok h hkp hk0 hmi (by rw [hmi] at hm; exact hm) hkk hI hdF
end Go.Proofs.YtnhmgjgdkcgmfaaGreatFmt
