/-
  n010_39: a plain word is made; letters and digits are told; two slices of bytes are compared; Print of the word and of a comment.
-/
import Derived.Test.YtmopcbjmeepinaaGreatFmtRRRSame
import Derived.Test.YtmopcbjmeepinaaGreatFmtRRRPgW
import Derived.Test.YtmopcbjmeepinaaGreatFmtRRRPgN
import Derived.Test.YtmopcbjmeepinaaGreatFmtRRRPeG
namespace Go.Proofs.YtmopcbjmeepinaaGreatFmtRRR
open Go.RowKit

/-- The three variables of a plain word. -/
def wordObjs (n : Nat) (s : ByteArray) : List Obj :=
  [.cells #[.int .u32 0, .int .u32 0, .int .u32 0, .int .u32 0, .string s] 82, .cells #[.iface 80 (.pointer (some ⟨n, 0, none⟩))] 85, .cells #[.slice (some ⟨n + 1, 0, none⟩) 1 1] 143]

set_option maxRecDepth 100000 in
theorem zz_word (s : ByteArray) (w : World) : Calls Tryz.prog 24 #[.string s] w fun e w' => e = .returned (.pointer (some ⟨w.heap.size + 2, 0, none⟩)) ∧ w' = (wordObjs w.heap.size s).foldl World.alloc w := by
  simp only [wordObjs, List.foldl_cons, List.foldl_nil]
  go_enter Tryz.func24, Tryz.ntmps24
  go_wp2
  go_ret
  exact ⟨rfl, rfl⟩

def plainP (n : Nat) (s : ByteArray) : LitP := ⟨n, 0, 0, 0, 0, s⟩

theorem zz_word_at {G : Nat → Prop} (s : ByteArray) (w : World) (hG : ∀ k, G k → k < w.heap.size) : WordAt G (w.heap.size + 2) (w.heap.size + 1) ((wordObjs w.heap.size s).foldl World.alloc w) [plainP w.heap.size s] := by
  have hb := fun i o (h : (wordObjs w.heap.size s)[i]? = some o) => allocs_get (wordObjs w.heap.size s) w h
  have hn : ∀ k, w.heap.size ≤ k → ¬ G k := fun k hk h => by have := hG k h; omega
  refine ⟨⟨1, hb 2 _ rfl⟩, hn _ (by omega), hb 1 _ rfl, hn _ (by omega), fun p hp => ?_⟩
  rw [List.mem_singleton] at hp
  subst hp
  exact ⟨hb 0 _ rfl, hn _ (Nat.le_refl _), Nat.zero_lt_succ _, Nat.zero_lt_succ _⟩

def isAl (c : UInt8) : Bool := (97 ≤ c.toNat && c.toNat ≤ 122) || (65 ≤ c.toNat && c.toNat ≤ 90) || (48 ≤ c.toNat && c.toNat ≤ 57)

set_option maxRecDepth 100000 in
set_option maxHeartbeats 4000000 in
theorem zz_alnum (s : ByteArray) (hs : s.size ≤ 1099511627776) (w : World) : Calls Tryz.prog 19 #[.string s] w fun e w' => e = .returned (.bool (s.data.toList.all isAl)) ∧ w' = w := by
  have hsz : (s.size : Int) ≤ 1099511627776 := by omega
  clear hs
  obtain ⟨r, hr⟩ : ∃ r, s.data.toList.all isAl = r := ⟨_, rfl⟩
  rw [hr]
  have HR := Lib.hid hr
  clear hr
  go_enter Tryz.func19, Tryz.ntmps19
  go_wp2_with fail
  go_loopg [3] (s.size) (fun k v3 wr => ∃ i : Nat, v3 = .int .i64 (i : Int) ∧ i + k = s.size ∧ wr = w ∧ ∀ x ∈ s.data.toList.take i, isAl x = true)
  case atStart => exact ⟨0, rfl, by omega, rfl, by simp⟩
  case round =>
    obtain ⟨i, rfl, hik, rfl, hall⟩ := hrel
    have HK := Lib.hid (And.intro hik hall)
    clear hik hall
    by_cases hlt : i < s.size
    · have hltI : (i : Int) < (s.size : Int) := by omega
      obtain ⟨c, hc⟩ : ∃ c, s[i]'hlt = c := ⟨_, rfl⟩
      have hcl : s.data.toList[i]'hlt = c := hc
      have hc255 : (c.toNat : Int) ≤ 255 := by have := c.toNat_lt; omega
      have hcase : ((c.toNat : Int) < 48 ∧ isAl c = false) ∨ (48 ≤ (c.toNat : Int) ∧ (c.toNat : Int) ≤ 57 ∧ isAl c = true) ∨ (58 ≤ (c.toNat : Int) ∧ (c.toNat : Int) ≤ 64 ∧ isAl c = false) ∨ (65 ≤ (c.toNat : Int) ∧ (c.toNat : Int) ≤ 90 ∧ isAl c = true) ∨
          (91 ≤ (c.toNat : Int) ∧ (c.toNat : Int) ≤ 96 ∧ isAl c = false) ∨ (97 ≤ (c.toNat : Int) ∧ (c.toNat : Int) ≤ 122 ∧ isAl c = true) ∨ (123 ≤ (c.toNat : Int) ∧ isAl c = false) := by
        simp only [isAl, Bool.or_eq_false_iff, Bool.and_eq_false_iff, Bool.or_eq_true, Bool.and_eq_true, decide_eq_true_eq, decide_eq_false_iff_not]
        omega
      have hbad : isAl c = false → r = false := fun h => by
        rw [← HR.out, List.all_eq_false]
        exact ⟨c, hcl ▸ List.getElem_mem _, by simp [h]⟩
      have hgood : isAl c = true → ∀ x ∈ s.data.toList.take (i + 1), isAl x = true := fun h x hx => by
        rw [List.take_succ_eq_append_getElem hlt, List.mem_append, List.mem_singleton] at hx
        rcases hx with hx | hx
        · exact HK.out.2 x hx
        · rw [hx, hcl]; exact h
      have HB := Lib.hid (And.intro hbad hgood)
      clear hbad hgood hcl
      rcases hcase with ⟨h1, h2⟩ | ⟨h1, h3, h2⟩ | ⟨h1, h3, h2⟩ | ⟨h1, h3, h2⟩ | ⟨h1, h3, h2⟩ | ⟨h1, h3, h2⟩ | ⟨h1, h2⟩
      all_goals
        have H2 := Lib.hid h2
        clear h2
        go_wp2_with fail
      all_goals
        first
          | (exfalso
             simp only [Bool.not_eq_false', decide_eq_true_eq] at *
             omega)
          | (go_roundg (s.size - (i + 1))
             case measure => have := HK.out.1; omega
             case rel => exact ⟨i + 1, by go_num, by have := HK.out.1; omega, rfl, HB.out.2 H2.out⟩)
          | (go_ret
             rw [HB.out.1 H2.out]
             exact ⟨rfl, rfl⟩)
    · obtain rfl : i = s.size := by have := HK.out.1; omega
      go_wp2_with fail
      go_ret
      have hr : r = true := by
        rw [← HR.out, List.all_eq_true]
        intro x hx
        refine HK.out.2 x ?_
        rw [show s.size = s.data.toList.length from rfl, List.take_length]
        exact hx
      rw [hr]
      exact ⟨rfl, rfl⟩

theorem trimRight_none (l : List UInt8) (h : ∀ x ∈ l, x ≠ 92) : Lib.trimRightB l 92 = l := by
  unfold Lib.trimRightB
  have : l.reverse.dropWhile (· == 92) = l.reverse := by
    cases hr : l.reverse with
    | nil => rfl
    | cons a t =>
      have ha : a ≠ 92 := h a (List.mem_reverse.1 (by rw [hr]; simp))
      rw [List.dropWhile_cons_of_neg (by simpa using ha)]
  rw [this, List.reverse_reverse]
theorem litText_plain (l : List UInt8) (h : ∀ x ∈ l, x ≠ 92) : litText l = l := by
  unfold litText
  rw [trimRight_none l h, Nat.sub_self]
  rfl

/-- Print of a word of literals. -/
theorem pg_word {S : Sink} (hs : S.Law Tryz.prog 548) (hok : ∀ c, S.okb c = true) {pb b tb : Nat} {s : PS} {w : World} {O Fs : Nat → Prop} (h : PrAny pb b tb s w O) (hkp : s.kp = false) (hm : (s.mi && s.si) = false) (hkk : s.k ≤ 1073741824)
    (hI : S.I w Fs []) (hdF : ∀ k, O k → ¬ Fs k) {wb rb : Nat} {p : LitP} {ps : List LitP} (hW : WordAt (fun k => O k ∨ Fs k) wb rb w (p :: ps)) (hv : ∀ q ∈ p :: ps, ∀ x ∈ q.v.data.toList, twOk x = true) (hl : partsSize (p :: ps) + 1 ≤ LIM) :
    Calls Tryz.prog 17 #[.pointer (some ⟨pb, 0, none⟩), .iface S.ty (.pointer (some S.ptr)), .iface 45 (.pointer (some ⟨wb, 0, none⟩))] w fun e w' => e = .returned .nilIface ∧ PrintL S pb b tb s O Fs (partsText (p :: ps)) w w' := by
  have hO := h.own
  obtain ⟨g, G, h, hO'⟩ := h
  obtain rfl : O = PrOwn pb b g tb G := funext fun k => propext (hO' k)
  have hps := partsSize_length (p :: ps)
  have hlen : (partsText (p :: ps)).length + 1 ≤ LIM := by have := partsText_len (p :: ps); omega
  have hlc : p.l1 < 4294967296 := (hW.2.2.2.2 p (by simp)).2.2.1
  have hpos : ∀ W, Upd (fun k => PrOwn pb b g tb G k ∨ Fs k) w W → Calls Tryz.prog 62 #[.pointer (some ⟨wb, 0, none⟩)] W fun e w' => e = .returned (posV p.o1 p.l1) ∧ Upd (fun _ => False) W w' :=
    fun W hu => word_pos (hW.next hu fun k hk => .inl hk) (by unfold LIM at hl; simp only [List.length_cons] at hps; omega)
  have hmid : PgMid S pb b tb (PrOwn pb b g tb G) Fs w s (p.l1 / 16384) 64 #[.pointer (some ⟨pb, 0, none⟩), .pointer (some ⟨wb, 0, none⟩)] (partsText (p :: ps)) := by
    rintro twd fg W F s' ⟨cc, cl, rfl⟩ hP hF hu
    refine (p_word (tw_law hs hok tb twd fg) (tw_wstr hs hok tb twd fg) rfl hP (hW.next hu fun k hk => ?_) (by simp) (fun q r e => by
      injection e with e1 e2
      subst e1
      exact Nat.le_refl _) (fun q hq x hx => ⟨hv q hq x hx, fun e => ?_⟩) (by simp only [List.length_nil]; omega)).mono ?_
    · rcases hk with h | h
      · exact .inl (.inl (h ▸ hO))
      · exact hF k h
    · have := hv q hq x hx
      rw [e] at this
      exact absurd this (by decide)
    · rintro e w' ⟨rfl, hr⟩
      refine ⟨rfl, _, ?_, ?_, hr⟩
      · exact ⟨rfl, rfl, rfl, rfl, rfl, rfl, rfl, rfl, rfl, Nat.zero_le _⟩
      · exact Nat.zero_le _
  by_cases hk0 : s.k = 0 <;> cases hmi : s.mi
  · exact pg_word_0n hs hok h hkp hk0 hmi hkk hI hdF hlen hlc hpos hmid
  · exact pg_word_0m hs hok h hkp hk0 hmi (by rw [hmi] at hm; exact hm) hkk hI hdF hlen hlc hpos hmid
  · exact pg_word_kn hs hok h hkp hk0 hmi hkk hI hdF hlen hlc hpos hmid
  · exact pg_word_km hs hok h hkp hk0 hmi (by rw [hmi] at hm; exact hm) hkk hI hdF hlen hlc hpos hmid

/-- Print of a comment: refused. -/
theorem pg_comment {S : Sink} (hs : S.Law Tryz.prog 548) (hok : ∀ c, S.okb c = true) {pb b tb : Nat} {s : PS} {w : World} {O Fs : Nat → Prop} (h : PrAny pb b tb s w O) (hkp : s.kp = false) (hm : (s.mi && s.si) = false) (hkk : s.k ≤ 1073741824)
    (hI : S.I w Fs []) (hdF : ∀ k, O k → ¬ Fs k) (wb : Nat) :
    Calls Tryz.prog 17 #[.pointer (some ⟨pb, 0, none⟩), .iface S.ty (.pointer (some S.ptr)), .iface 37 (.pointer (some ⟨wb, 0, none⟩))] w fun e w' => (∃ t v, e = .returned (.iface t v)) ∧ PrintL S pb b tb s O Fs [] w w' := by
  obtain ⟨g, G, h, hO'⟩ := h
  obtain rfl : O = PrOwn pb b g tb G := funext fun k => propext (hO' k)
  by_cases hk0 : s.k = 0 <;> cases hmi : s.mi
  · exact pg_comment_0n hs hok h hkp hk0 hmi hkk hI hdF
  · exact pg_comment_0m hs hok h hkp hk0 hmi (by rw [hmi] at hm; exact hm) hkk hI hdF
  · exact pg_comment_kn hs hok h hkp hk0 hmi hkk hI hdF
  · exact pg_comment_km hs hok h hkp hk0 hmi (by rw [hmi] at hm; exact hm) hkk hI hdF
end Go.Proofs.YtmopcbjmeepinaaGreatFmtRRR
