/-
  n010_39: a plain word is made; letters and digits are told; two slices of bytes are compared; Print of the word and of a comment.
-/
import Derived.Test.YtlblpdbldnnllaaGreatFmtSame
import Derived.Test.YtlblpdbldnnllaaGreatFmtPgW
import Derived.Test.YtlblpdbldnnllaaGreatFmtPgN
import Derived.Test.YtlblpdbldnnllaaGreatFmtPeG
namespace Go.Proofs.YtlblpdbldnnllaaGreatFmt
open Go.RowKit

/-- The three variables of a plain word. -/
def wordObjs (n : Nat) (s : ByteArray) : List Obj :=
  [.cells #[.int .u32 0, .int .u32 0, .int .u32 0, .int .u32 0, .string s] 121, .cells #[.iface 70 (.pointer (some ⟨n, 0, none⟩))] 113, .cells #[.slice (some ⟨n + 1, 0, none⟩) 1 1] 124]

set_option maxRecDepth 100000 in
theorem zz_word (s : ByteArray) (w : World) : Calls Tryz.prog 25 #[.string s] w fun e w' => e = .returned (.pointer (some ⟨w.heap.size + 2, 0, none⟩)) ∧ w' = (wordObjs w.heap.size s).foldl World.alloc w := by
  simp only [wordObjs, List.foldl_cons, List.foldl_nil]
  go_enter Tryz.func25, Tryz.ntmps25
  go_wp2
  go_ret
  exact ⟨rfl, rfl⟩

def plainP (n : Nat) (s : ByteArray) : LitP := ⟨n, 0, 0, 0, 0, s⟩

theorem zz_word_at {G : Nat → Prop} (s : ByteArray) (w : World) (hG : ∀ k, G k → k < w.heap.size) : WordAt G (w.heap.size + 2) (w.heap.size + 1) ((wordObjs w.heap.size s).foldl World.alloc w) [plainP w.heap.size s] := by
  have hb := fun i o (h : (wordObjs w.heap.size s)[i]? = some o) => allocs_get (wordObjs w.heap.size s) w h
  have hn : ∀ k, w.heap.size ≤ k → ¬ G k := fun k hk h => by have := hG k h; omega
  refine ⟨⟨1, hb 2 _ rfl⟩, hn _ (by omega), hb 1 _ rfl, hn _ (by omega), fun p hp => ?_⟩
  rw [List.mem_singleton] at hp
  subst hp
  exact ⟨hb 0 _ rfl, hn _ (Nat.le_refl _), Nat.zero_lt_succ _, Nat.zero_lt_succ _⟩

def isAl (c : UInt8) : Bool := (97 ≤ c.toNat && c.toNat ≤ 122) || (65 ≤ c.toNat && c.toNat ≤ 90) || (48 ≤ c.toNat && c.toNat ≤ 57)

set_option maxRecDepth 100000 in
set_option maxHeartbeats 4000000 in
theorem zz_alnum (s : ByteArray) (hs : s.size ≤ 1099511627776) (w : World) : Calls Tryz.prog 15 #[.string s] w fun e w' => e = .returned (.bool (s.data.toList.all isAl)) ∧ w' = w := by
  have hsz : (s.size : Int) ≤ 1099511627776 := by omega
  clear hs
  obtain ⟨r, hr⟩ : ∃ r, s.data.toList.all isAl = r := ⟨_, rfl⟩
  rw [hr]
  have HR := Lib.hid hr
  clear hr
  go_enter Tryz.func15, Tryz.ntmps15
  go_wp2_with fail
  go_loopg [3] (s.size) (fun k v3 wr => ∃ i : Nat, v3 = .int .i64 (i : Int) ∧ i + k = s.size ∧ wr = w ∧ ∀ x ∈ s.data.toList.take i, isAl x = true)
  case atStart => exact ⟨0, rfl, by omega, rfl, by simp⟩
  case round =>
    obtain ⟨i, rfl, hik, rfl, hall⟩ := hrel
    have HK := Lib.hid (And.intro hik hall)
    clear hik hall
    by_cases hlt : i < s.size
    · have hltI : (i : Int) < (s.size : Int) := by omega
      obtain ⟨c, hc⟩ : ∃ c, s[i]'hlt = c := ⟨_, rfl⟩
      have hcl : s.data.toList[i]'hlt = c := hc
      have hc255 : (c.toNat : Int) ≤ 255 := by have := c.toNat_lt; omega
      have hcase : ((c.toNat : Int) < 48 ∧ isAl c = false) ∨ (48 ≤ (c.toNat : Int) ∧ (c.toNat : Int) ≤ 57 ∧ isAl c = true) ∨ (58 ≤ (c.toNat : Int) ∧ (c.toNat : Int) ≤ 64 ∧ isAl c = false) ∨ (65 ≤ (c.toNat : Int) ∧ (c.toNat : Int) ≤ 90 ∧ isAl c = true) ∨
          (91 ≤ (c.toNat : Int) ∧ (c.toNat : Int) ≤ 96 ∧ isAl c = false) ∨ (97 ≤ (c.toNat : Int) ∧ (c.toNat : Int) ≤ 122 ∧ isAl c = true) ∨ (123 ≤ (c.toNat : Int) ∧ isAl c = false) := by
        simp only [isAl, Bool.or_eq_false_iff, Bool.and_eq_false_iff, Bool.or_eq_true, Bool.and_eq_true, decide_eq_true_eq, decide_eq_false_iff_not]
        omega
      have hbad : isAl c = false → r = false := fun h => by
        rw [← HR.out, List.all_eq_false]
        exact ⟨c, hcl ▸ List.getElem_mem _, by simp [h]⟩
      have hgood : isAl c = true → ∀ x ∈ s.data.toList.take (i + 1), isAl x = true := fun h x hx => by
        rw [List.take_succ_eq_append_getElem hlt, List.mem_append, List.mem_singleton] at hx
        rcases hx with hx | hx
        · exact HK.out.2 x hx
        · rw [hx, hcl]; exact h
      have HB := Lib.hid (And.intro hbad hgood)
      clear hbad hgood hcl
      rcases hcase with ⟨h1, h2⟩ | ⟨h1, h3, h2⟩ | ⟨h1, h3, h2⟩ | ⟨h1, h3, h2⟩ | ⟨h1, h3, h2⟩ | ⟨h1, h3, h2⟩ | ⟨h1, h2⟩
      all_goals
        have H2 := Lib.hid h2
        clear h2
        go_wp2_with fail
      all_goals
        first
          | (exfalso
             simp only [Bool.not_eq_false', decide_eq_true_eq] at *
             omega)
          | (go_roundg (s.size - (i + 1))
             case measure => have := HK.out.1; omega
             case rel => exact ⟨i + 1, by go_num, by have := HK.out.1; omega, rfl, HB.out.2 H2.out⟩)
          | (go_ret
             rw [HB.out.1 H2.out]
             exact ⟨rfl, rfl⟩)
    · obtain rfl : i = s.size := by have := HK.out.1; omega
      go_wp2_with fail
      go_ret
      have hr : r = true := by
        rw [← HR.out, List.all_eq_true]
        intro x hx
        refine HK.out.2 x ?_
        rw [show s.size = s.data.toList.length from rfl, List.take_length]
        exact hx
      rw [hr]
      exact ⟨rfl, rfl⟩

set_option maxRecDepth 100000 in
set_option maxHeartbeats 2000000 in
theorem same_slices {w : World} {v1 v2 : Value} {l : List UInt8} (h1 : Row w v1 l) (h2 : Row w v2 l) (hl : l.length ≤ 1099511627776) : Calls Tryz.prog 35 #[v1, v2] w fun e w' => e = .returned (.bool true) ∧ Upd (fun _ => False) w w' := by
  have hlI : (l.length : Int) ≤ 1099511627776 := by omega
  by_cases h0 : l = []
  · subst h0
    obtain ⟨ao, c, rfl⟩ : ∃ ao c, v1 = .slice ao 0 c := h1.form
    obtain ⟨ao2, c2, rfl⟩ : ∃ ao c, v2 = .slice ao 0 c := h2.form
    clear h1 h2 hl hlI
    go_enter Tryz.func35, Tryz.ntmps35
    go_wp2_with fail
    go_loopg [5] 0 (fun _ v5 wr => Upd (fun _ => False) w wr ∧ v5 = .int .i64 0)
    case atStart => exact ⟨Upd.refl _ _, rfl⟩
    case round =>
      obtain ⟨hu, rfl⟩ := hrel
      have HU := Lib.hid hu
      clear hu
      go_wp2_with fail
      go_ret
      exact ⟨rfl, HU.out⟩
  · obtain ⟨g, c, rfl⟩ : ∃ g c, v1 = .slice (some ⟨g, 0, none⟩) l.length c := by
      rcases h1.2 with ⟨h1, h2⟩ | ⟨g, cap, cur, h1, _⟩
      · exact absurd (List.eq_nil_of_length_eq_zero h2) h0
      · exact ⟨g, cap, h1⟩
    obtain ⟨g2, c2, rfl⟩ : ∃ g c, v2 = .slice (some ⟨g, 0, none⟩) l.length c := by
      rcases h2.2 with ⟨h1, h2⟩ | ⟨g, cap, cur, h1, _⟩
      · exact absurd (List.eq_nil_of_length_eq_zero h2) h0
      · exact ⟨g, cap, h1⟩
    obtain ⟨n, hn⟩ : ∃ n, n = l.length := ⟨_, rfl⟩
    have hc : ∀ i (hi : i < l.length), w.cell? ⟨g, i, none⟩ = some (.int .u8 ((l[i]'hi).toNat : Int)) := fun i hi => by
      have := h1.cells rfl i (.int .u8 ((l[i]'hi).toNat : Int)) (by simp [bv, hi]; rfl)
      rwa [Addr.add_base] at this
    have hc2 : ∀ i (hi : i < l.length), w.cell? ⟨g2, i, none⟩ = some (.int .u8 ((l[i]'hi).toNat : Int)) := fun i hi => by
      have := h2.cells rfl i (.int .u8 ((l[i]'hi).toNat : Int)) (by simp [bv, hi]; rfl)
      rwa [Addr.add_base] at this
    rw [← hn] at hlI ⊢
    have HC := Lib.hid (And.intro hc (And.intro hc2 hn))
    clear h1 h2 hl hc hc2 hn h0
    go_enter Tryz.func35, Tryz.ntmps35
    go_wp2_with fail
    go_loopg [5] n (fun k v5 wr => Upd (fun _ => False) w wr ∧ ∃ i : Nat, v5 = .int .i64 (i : Int) ∧ i + k = n)
    case atStart => exact ⟨Upd.refl _ _, 0, rfl, by omega⟩
    case round =>
      obtain ⟨hu, i, rfl, hik⟩ := hrel
      by_cases hlt : i < n
      · have hltI : (i : Int) < (n : Int) := by omega
        have hi : i < l.length := by rw [← HC.out.2.2]; exact hlt
        have d0 := hu.cell (HC.out.1 i hi) fun h => h
        have d1 := hu.cell (HC.out.2.1 i hi) fun h => h
        obtain ⟨x, hx⟩ : ∃ x, x = l[i]'hi := ⟨_, rfl⟩
        rw [← hx] at d0 d1
        have HU := Lib.hid hu
        have HK := Lib.hid hik
        clear hu hx hik
        go_wp2_with fail
        go_region
        all_goals
          go_wp2_with fail
          go_roundg (n - (i + 1))
          case measure => have := HK.out; omega
          case rel => exact ⟨HU.out.drew, i + 1, by go_num, by have := HK.out; omega⟩
      · obtain rfl : i = n := by omega
        have HU := Lib.hid hu
        clear hu hik
        go_wp2_with fail
        go_ret
        exact ⟨rfl, HU.out⟩

theorem trimRight_none (l : List UInt8) (h : ∀ x ∈ l, x ≠ 92) : Lib.trimRightB l 92 = l := by
  unfold Lib.trimRightB
  have : l.reverse.dropWhile (· == 92) = l.reverse := by
    cases hr : l.reverse with
    | nil => rfl
    | cons a t =>
      have ha : a ≠ 92 := h a (List.mem_reverse.1 (by rw [hr]; simp))
      rw [List.dropWhile_cons_of_neg (by simpa using ha)]
  rw [this, List.reverse_reverse]
theorem litText_plain (l : List UInt8) (h : ∀ x ∈ l, x ≠ 92) : litText l = l := by
  unfold litText
  rw [trimRight_none l h, Nat.sub_self]
  rfl

theorem al_tw {c : UInt8} (h : isAl c = true) : twOk c = true ∧ c ≠ 92 := by
  simp only [isAl, Bool.or_eq_true, Bool.and_eq_true, decide_eq_true_eq] at h
  have h' : c ≠ 9 ∧ c ≠ 11 ∧ c ≠ 12 ∧ c ≠ 255 ∧ c ≠ 92 := by
    refine ⟨?_, ?_, ?_, ?_, ?_⟩ <;> (rintro rfl; revert h; decide)
  simp [twOk, h']

theorem plain_text {s : ByteArray} (h : s.data.toList.all isAl = true) (n : Nat) : partsText [plainP n s] = s.data.toList := by
  rw [List.all_eq_true] at h
  simp only [partsText, plainP, List.flatMap_cons, List.flatMap_nil, List.append_nil]
  exact litText_plain _ fun x hx => (al_tw (h x hx)).2
theorem plain_ok {s : ByteArray} (h : s.data.toList.all isAl = true) (n : Nat) : ∀ q ∈ [plainP n s], ∀ x ∈ q.v.data.toList, twOk x = true := by
  rw [List.all_eq_true] at h
  intro q hq x hx
  rw [List.mem_singleton] at hq
  subst hq
  exact (al_tw (h x hx)).1
theorem plain_size (s : ByteArray) (n : Nat) : partsSize [plainP n s] = s.size + 1 := by simp [partsSize, plainP]

/-- The empty sink, and the word behind it. -/
theorem sink_word {pb b tb : Nat} {ps : PS} {w1 : World} {O : Nat → Prop} (hA : PrAny pb b tb ps w1 O) (s : ByteArray) :
    let W := (wordObjs (w1.heap.size + 1) s).foldl World.alloc (w1.alloc (.cells #[.slice none 0 0] 39))
    PrAny pb b tb ps W O ∧ zsI w1.heap.size W (fun j => j = w1.heap.size) [] ∧ (∀ j, O j → ¬ j = w1.heap.size) ∧ Upd (fun _ => False) w1 W ∧
      WordAt (fun k => O k ∨ k = w1.heap.size) ((w1.heap.size + 1) + 2) ((w1.heap.size + 1) + 1) W [plainP (w1.heap.size + 1) s] := by
  have hlt := hA.lt
  have hz : (w1.alloc (.cells #[.slice none 0 0] 39)).heap.size = w1.heap.size + 1 := by simp
  have hu1 := allocs_upd (wordObjs (w1.heap.size + 1) s) (w1.alloc (.cells #[.slice none 0 0] 39))
  have hu0 : Upd (fun _ => False) w1 (w1.alloc (.cells #[.slice none 0 0] 39)) := (Upd.refl _ w1).alloc _
  have hw := zz_word_at (G := fun k => O k ∨ k = w1.heap.size) s (w1.alloc (.cells #[.slice none 0 0] 39)) (fun k hk => by
    rw [hz]
    rcases hk with h | h
    · have := hlt k h; omega
    · omega)
  rw [hz] at hw
  exact ⟨hA.stable (hu0.trans hu1) fun _ _ h => h, (zs_law w1.heap.size).stable (zs_zero (heap_alloc_new w1 _)) hu1 (fun _ _ h => h), fun j hj e => by have := hlt j hj; omega, hu0.trans hu1, hw⟩


/-- Print of a word of literals. -/
theorem pg_word {S : Sink} (hs : S.Law Tryz.prog 539) (hok : ∀ c, S.okb c = true) {pb b tb : Nat} {s : PS} {w : World} {O Fs : Nat → Prop} (h : PrAny pb b tb s w O) (hkp : s.kp = false) (hm : (s.mi && s.si) = false) (hkk : s.k ≤ 1073741824)
    (hI : S.I w Fs []) (hdF : ∀ k, O k → ¬ Fs k) {wb rb : Nat} {p : LitP} {ps : List LitP} (hW : WordAt (fun k => O k ∨ Fs k) wb rb w (p :: ps)) (hv : ∀ q ∈ p :: ps, ∀ x ∈ q.v.data.toList, twOk x = true) (hl : partsSize (p :: ps) + 1 ≤ LIM) :
    Calls Tryz.prog 24 #[.pointer (some ⟨pb, 0, none⟩), .iface S.ty (.pointer (some S.ptr)), .iface 43 (.pointer (some ⟨wb, 0, none⟩))] w fun e w' => e = .returned .nilIface ∧ PrintL S pb b tb s O Fs (partsText (p :: ps)) w w' := by
  have hO := h.own
  obtain ⟨g, G, h, hO'⟩ := h
  obtain rfl : O = PrOwn pb b g tb G := funext fun k => propext (hO' k)
  have hps := partsSize_length (p :: ps)
  have hlen : (partsText (p :: ps)).length + 1 ≤ LIM := by have := partsText_len (p :: ps); omega
  have hlc : p.l1 < 4294967296 := (hW.2.2.2.2 p (by simp)).2.2.1
  have hpos : ∀ W, Upd (fun k => PrOwn pb b g tb G k ∨ Fs k) w W → Calls Tryz.prog 53 #[.pointer (some ⟨wb, 0, none⟩)] W fun e w' => e = .returned (posV p.o1 p.l1) ∧ Upd (fun _ => False) W w' :=
    fun W hu => word_pos (hW.next hu fun k hk => .inl hk) (by unfold LIM at hl; simp only [List.length_cons] at hps; omega)
  have hmid : PgMid S pb b tb (PrOwn pb b g tb G) Fs w s (p.l1 / 16384) 55 #[.pointer (some ⟨pb, 0, none⟩), .pointer (some ⟨wb, 0, none⟩)] (partsText (p :: ps)) := by
    rintro twd fg W F s' ⟨cc, cl, rfl⟩ hP hF hu
    refine (p_word (tw_law hs hok tb twd fg) (tw_wstr hs hok tb twd fg) rfl hP (hW.next hu fun k hk => ?_) (by simp) (fun q r e => by
      injection e with e1 e2
      subst e1
      exact Nat.le_refl _) (fun q hq x hx => ⟨hv q hq x hx, fun e => ?_⟩) (by simp only [List.length_nil]; omega)).mono ?_
    · rcases hk with h | h
      · exact .inl (.inl (h ▸ hO))
      · exact hF k h
    · have := hv q hq x hx
      rw [e] at this
      exact absurd this (by decide)
    · rintro e w' ⟨rfl, hr⟩
      refine ⟨rfl, _, ?_, ?_, hr⟩
      · exact ⟨rfl, rfl, rfl, rfl, rfl, rfl, rfl, rfl, rfl, Nat.zero_le _⟩
      · exact Nat.zero_le _
  by_cases hk0 : s.k = 0 <;> cases hmi : s.mi
  · exact pg_word_0n hs hok h hkp hk0 hmi hkk hI hdF hlen hlc hpos hmid
  · exact pg_word_0m hs hok h hkp hk0 hmi (by rw [hmi] at hm; exact hm) hkk hI hdF hlen hlc hpos hmid
  · exact pg_word_kn hs hok h hkp hk0 hmi hkk hI hdF hlen hlc hpos hmid
  · exact pg_word_km hs hok h hkp hk0 hmi (by rw [hmi] at hm; exact hm) hkk hI hdF hlen hlc hpos hmid

/-- Print of a comment: refused. -/
theorem pg_comment {S : Sink} (hs : S.Law Tryz.prog 539) (hok : ∀ c, S.okb c = true) {pb b tb : Nat} {s : PS} {w : World} {O Fs : Nat → Prop} (h : PrAny pb b tb s w O) (hkp : s.kp = false) (hm : (s.mi && s.si) = false) (hkk : s.k ≤ 1073741824)
    (hI : S.I w Fs []) (hdF : ∀ k, O k → ¬ Fs k) (wb : Nat) :
    Calls Tryz.prog 24 #[.pointer (some ⟨pb, 0, none⟩), .iface S.ty (.pointer (some S.ptr)), .iface 57 (.pointer (some ⟨wb, 0, none⟩))] w fun e w' => (∃ t v, e = .returned (.iface t v)) ∧ PrintL S pb b tb s O Fs [] w w' := by
  obtain ⟨g, G, h, hO'⟩ := h
  obtain rfl : O = PrOwn pb b g tb G := funext fun k => propext (hO' k)
  by_cases hk0 : s.k = 0 <;> cases hmi : s.mi
  · exact pg_comment_0n hs hok h hkp hk0 hmi hkk hI hdF
  · exact pg_comment_0m hs hok h hkp hk0 hmi (by rw [hmi] at hm; exact hm) hkk hI hdF
  · exact pg_comment_kn hs hok h hkp hk0 hmi hkk hI hdF
  · exact pg_comment_km hs hok h hkp hk0 hmi (by rw [hmi] at hm; exact hm) hkk hI hdF
end Go.Proofs.YtlblpdbldnnllaaGreatFmt
