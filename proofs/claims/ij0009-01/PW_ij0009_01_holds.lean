import PyProof.Rows.All
import Wide.All
import OpenK.AllK
import Wide.FinOn
import Lean
import PySem.Challenge.RW_ij0009_01
set_option Elab.async false
set_option maxRecDepth 100000
set_option maxHeartbeats 8000000
set_option linter.unusedVariables false
set_option rowWalk.seconds 0
section
open PySem PySem.W PyProof.Rows PySem.Spec PySem.Calls
namespace Mine
/-- a run never lowers the count of tokens -/
theorem runs_toks {M : Model} {Γ : PySem.Ctx} {p : Pos} {t : Sem Fin} {fs : List Frame} {s s' : Shared} {e : End} (h : Runs M Γ p t fs s e s') : s.toks ≤ s'.toks := by
  induction h <;> (try simp only [Shared.setGen] at *) <;> (try dsimp only at *) <;> omega
theorem wakes_toks {M : Model} {Γ : PySem.Ctx} {p : Pos} {g : Nat} {r : Resume} {s s' : Shared} {res : GenResult} (h : Wakes M Γ p g r s res s') : s.toks ≤ s'.toks := by
  unfold Wakes at h
  split at h
  · exact h.elim
  · split at h
    · obtain ⟨e, s₁, hr, _, _, rfl⟩ := h
      (have q := runs_toks hr; exact q)
    · obtain ⟨_, rfl⟩ := h; exact Nat.le_refl _
    · obtain ⟨_, rfl⟩ := h; exact Nat.le_refl _
  · obtain ⟨e, s₁, hr, _, _, rfl⟩ := h
    (have q := runs_toks hr; exact q)
  · obtain ⟨_, rfl⟩ := h; exact Nat.le_refl _
  · obtain ⟨_, rfl⟩ := h; exact Nat.le_refl _
theorem wp_toks {α : Type} {M : Model} {Γ : PySem.Ctx} (t : Sem α) {Q : α → Pos → Shared → Prop} {E : Value → Pos → Shared → Prop} (n : Nat) :
    ∀ {p : Pos} {s : Shared}, n ≤ s.toks → Sem.wp M Γ t (fun a p s' => n ≤ s'.toks → Q a p s') E p s → Sem.wp M Γ t Q E p s := by
  induction t with
  | pure a => intro p s hn h; simp only [Sem.wp] at *; exact h hn
  | raise e => intro p s hn h; simp only [Sem.wp] at *; exact h
  | unsupported => intro p s hn h; simp only [Sem.wp] at *
  | finish => intro p s hn h; simp only [Sem.wp] at *
  | rule _ k ih => intro p s hn h; simp only [Sem.wp] at *; exact ih _ hn h
  | «at» _ k ih => intro p s hn h; simp only [Sem.wp] at *; exact ih _ hn h
  | load a _ k ih => intro p s hn h; simp only [Sem.wp] at *; obtain ⟨o, e, h⟩ := h; exact ⟨o, e, ih _ hn h⟩
  | update a _ f k ih => intro p s hn h; simp only [Sem.wp] at *; obtain ⟨e, h⟩ := h; exact ⟨e, ih _ hn h⟩
  | loadIfAlive a k ih => intro p s hn h; simp only [Sem.wp] at *; exact ih _ hn h
  | point _ k ih => intro p s hn h; simp only [Sem.wp] at *; exact ih _ hn h
  | register => intro p s hn h; simp only [Sem.wp] at *
  | alloc o k ih => intro p s hn h; simp only [Sem.wp] at *; exact ih _ hn h
  | fresh k ih => intro p s hn h; simp only [Sem.wp] at *; exact ih _ (Nat.le_succ_of_le hn) h
  | ask k ih => intro p s hn h; simp only [Sem.wp] at *; exact ih _ hn h
  | choose _ _ k ih => intro p s hn h; simp only [Sem.wp] at *; obtain ⟨e, h⟩ := h; exact ⟨e, ih _ hn h⟩
  | os _ _ k ih => intro p s hn h; simp only [Sem.wp] at *; exact ih _ hn h
  | call c hd g l k ih =>
    intro p s hn h
    simp only [Sem.wp] at *
    obtain ⟨r, s', hr, h⟩ := h
    exact ⟨r, s', hr, ih _ (Nat.le_trans hn (runs_toks hr)) h⟩
  | handled _ k ih => intro p s hn h; simp only [Sem.wp] at *; exact ih _ hn h
  | genState _ k ih => intro p s hn h; simp only [Sem.wp] at *; obtain ⟨o, e, h⟩ := h; exact ⟨o, e, ih _ hn h⟩
  | newGen _ k ih => intro p s hn h; simp only [Sem.wp] at *; exact ih _ hn h
  | resume g r l k ih =>
    intro p s hn h
    simp only [Sem.wp] at *
    obtain ⟨r, s', hr, h⟩ := h
    exact ⟨r, s', hr, ih _ (Nat.le_trans hn (wakes_toks hr)) h⟩
  | yield => intro p s hn h; simp only [Sem.wp] at *
  | stack k ih => intro p s hn h; simp only [Sem.wp] at *; exact ih _ hn h
  | fork => intro p s hn h; simp only [Sem.wp] at *
  | thread k ih => intro p s hn h; simp only [Sem.wp] at *; exact ih _ hn h
  | await => intro p s hn h; simp only [Sem.wp] at *
section
variable {α : Type} {M : Model} {A : Around} {E : Value → Shared → Prop} {s : Shared}
theorem wpAny_toks {t : Sem α} {Q : α → Shared → Prop} (n : Nat) (hn : n ≤ s.toks) (h : wpAny M A t (fun a s' => n ≤ s'.toks → Q a s') E s) : wpAny M A t Q E s :=
  fun Γ p hΓ => wp_toks t n hn (h Γ p hΓ)
theorem tk_gen {t : Sem α} {Q : α → Shared → Prop} {h : Heap} {g : Array GenState} {d : Drawn} {n : Nat} {o : OsState} (h0 : 0 < n) (k : ∀ tk, 0 < tk → wpAny M A t Q E ⟨h, g, d, tk, o⟩) : wpAny M A t Q E ⟨h, g, d, n, o⟩ := k n h0
end
end Mine
end
section
open PySem PySem.Builtin PySem.Builtin.Str PySem.StrLaws
namespace Mine
/-- replace on lists of numbers; the first number says how many signs are still to be skipped -/
def rp (y z : List Nat) : Nat → List Nat → List Nat
  | _, [] => []
  | k + 1, _ :: r => rp y z k r
  | 0, c :: r => if y.isPrefixOf (c :: r) = true then z ++ rp y z (y.length - 1) r else c :: rp y z 0 r
def occL (y : List Nat) : Nat → Nat → List Nat → List Nat
  | _, _, [] => []
  | i, k + 1, _ :: r => occL y (i + 1) k r
  | i, 0, c :: r => if y.isPrefixOf (c :: r) = true then i :: occL y (i + 1) (y.length - 1) r else occL y (i + 1) 0 r

theorem isPrefixOf_take (y l : List Nat) : y.isPrefixOf l = (l.take y.length == y) := by
  induction y generalizing l with
  | nil => cases l <;> rfl
  | cons a y ih =>
    cases l with
    | nil => rfl
    | cons b l =>
      rw [List.isPrefixOf_cons_cons, ih]
      simp only [List.length_cons, List.take_succ_cons]
      rw [Bool.eq_iff_iff]
      simp only [Bool.and_eq_true, beq_iff_eq, List.cons.injEq]
      constructor
      · rintro ⟨h1, h2⟩; exact ⟨h1.symm, h2⟩
      · rintro ⟨h1, h2⟩; exact ⟨h1.symm, h2⟩

theorem sub_prefix {x y : Str} {i c : Nat} {r : List Nat} (hi : x.cps.toList.drop i = c :: r) : (i + y.length ≤ x.length ∧ subAt x y i = true) ↔ y.cps.toList.isPrefixOf (c :: r) = true := by
  rw [subAt_eq, hi, isPrefixOf_take]
  have e : y.length = y.cps.toList.length := by simp [Str.length]
  rw [e]
  have hl : x.length = i + (r.length + 1) := by
    have := congrArg List.length hi
    simp only [List.length_drop, List.length_cons, Array.length_toList] at this
    have h2 : x.length = x.cps.size := rfl
    omega
  constructor
  · exact fun h => h.2
  · intro h
    refine ⟨?_, h⟩
    have := congrArg List.length (eq_of_beq h)
    simp only [List.length_take, List.length_cons] at this
    omega

theorem occ_run (x y : Str) (hy : y.cps.toList ≠ []) (lim : Nat) (hlim : x.length < lim) : ∀ (l : List Nat) (i : Nat) (st : Array Nat × Nat), x.cps.toList.drop i = l → i + l.length = x.length → st.1.size ≤ i →
    (forIn (List.range' i (l.length + 1)) st (occBody x y x.length lim)).run.fst.toList = st.1.toList ++ occL y.cps.toList i (st.2 - i) l
  | [], i, st, hd, hl, hs => by
    have hn : ¬ (((st.1.size < lim ∧ st.2 ≤ i) ∧ i + y.length ≤ x.length) ∧ subAt x y i = true) := by
      rintro ⟨⟨_, h⟩, _⟩
      have : 0 < y.cps.toList.length := List.length_pos_iff.mpr hy
      have e : y.length = y.cps.toList.length := by simp [Str.length]
      simp only [List.length_nil] at hl
      omega
    simp only [List.length_nil, Nat.zero_add, List.range'_one, List.forIn_cons]
    unfold occBody
    rw [if_neg hn]
    simp [occL]
  | c :: r, i, st, hd, hl, hs => by
    have hd' : x.cps.toList.drop (i + 1) = r := by
      rw [← List.drop_drop, hd]; rfl
    simp only [List.length_cons] at hl
    have hr : List.range' i ((c :: r).length + 1) = i :: List.range' (i + 1) (r.length + 1) := by
      simp [List.range'_succ]
    rw [hr, List.forIn_cons]
    by_cases hf : st.2 ≤ i
    · have e0 : st.2 - i = 0 := by omega
      rw [e0]
      by_cases hp : y.cps.toList.isPrefixOf (c :: r) = true
      · have hq := (sub_prefix (y := y) hd).mpr hp
        have hb : occBody x y x.length lim i st = pure (ForInStep.yield (st.1.push i, i + y.length)) := by
          unfold occBody
          rw [if_pos ⟨⟨⟨by omega, hf⟩, hq.1⟩, hq.2⟩]
        rw [hb]
        have ih := occ_run x y hy lim hlim r (i + 1) (st.1.push i, i + y.length) hd' (by omega) (by simp; omega)
        simp only [pure_bind]
        rw [ih]
        have e : y.length = y.cps.toList.length := by simp [Str.length]
        have e2 : i + y.length - (i + 1) = y.cps.toList.length - 1 := by omega
        simp only [occL, hp, if_true, e2]
        simp
      · have hb : occBody x y x.length lim i st = pure (ForInStep.yield (st.1, st.2)) := by
          unfold occBody
          rw [if_neg]
          rintro ⟨⟨⟨_, _⟩, h3⟩, h4⟩
          exact hp ((sub_prefix (y := y) hd).mp ⟨h3, h4⟩)
        rw [hb]
        have ih := occ_run x y hy lim hlim r (i + 1) (st.1, st.2) hd' (by omega) (by simp; omega)
        simp only [pure_bind]
        rw [ih]
        have e2 : st.2 - (i + 1) = 0 := by omega
        have hp' : y.cps.toList.isPrefixOf (c :: r) = false := Bool.eq_false_iff.mpr hp
        simp only [occL, hp', e2]
        simp
    · have hb : occBody x y x.length lim i st = pure (ForInStep.yield (st.1, st.2)) := by
        unfold occBody
        rw [if_neg]
        rintro ⟨⟨⟨_, h⟩, _⟩, _⟩
        exact hf h
      rw [hb]
      have ih := occ_run x y hy lim hlim r (i + 1) (st.1, st.2) hd' (by omega) (by simp; omega)
      simp only [pure_bind]
      rw [ih]
      have e : st.2 - i = (st.2 - (i + 1)) + 1 := by omega
      rw [e]
      simp only [occL]

theorem drop_take_snoc {l r : List Nat} {a i c : Nat} (ha : a ≤ i) (hd : l.drop i = c :: r) : (l.drop a).take (i + 1 - a) = (l.drop a).take (i - a) ++ [c] := by
  have e : i + 1 - a = (i - a) + 1 := by omega
  have hg : (l.drop a)[i - a]? = some c := by
    rw [List.getElem?_drop]
    have e2 : a + (i - a) = i := by omega
    rw [e2]
    have h := congrArg (fun l : List Nat => l[0]?) hd
    simpa [List.getElem?_drop] using h
  rw [e, List.take_add_one, hg]
  rfl

theorem join_cons_parts (x z : Str) (w a c : Nat) (cs : List Nat) : (Str.join z (strSub x a c :: partsFrom x w (c + w) cs)).cps.toList = (x.cps.toList.drop a).take (c - a) ++ z.cps.toList ++ (Str.join z (partsFrom x w (c + w) cs)).cps.toList := by
  obtain ⟨p, r, e⟩ := partsFrom_ne x w (c + w) cs
  rw [e]
  show (strSub x a c ++ z ++ Str.join z (p :: r)).cps.toList = _
  simp only [Str.cps_append, Array.toList_append, strSub_toList]

theorem parts_run (x y z : Str) (hy : y.cps.toList ≠ []) : ∀ (l : List Nat) (i k a : Nat), x.cps.toList.drop i = l → i + l.length = x.length → a ≤ i + k → (0 < k → a = i + k) →
    (Str.join z (partsFrom x y.length a (occL y.cps.toList i k l))).cps.toList = (x.cps.toList.drop a).take (i - a) ++ rp y.cps.toList z.cps.toList k l
  | [], i, k, a, hd, hl, ha, hk => by
    simp only [occL, rp, List.append_nil, partsFrom]
    show (strSub x a x.length).cps.toList = _
    rw [strSub_toList]
    simp only [List.length_nil] at hl
    have e : x.length = i := by omega
    rw [e]
  | c :: r, i, k + 1, a, hd, hl, ha, hk => by
    have hd' : x.cps.toList.drop (i + 1) = r := by
      rw [← List.drop_drop, hd]; rfl
    simp only [List.length_cons] at hl
    have e := hk (by omega)
    have ih := parts_run x y z hy r (i + 1) k a hd' (by omega) (by omega) (by omega)
    simp only [occL, rp]
    rw [ih]
    have e1 : i + 1 - a = 0 := by omega
    have e2 : i - a = 0 := by omega
    rw [e1, e2]
  | c :: r, i, 0, a, hd, hl, ha, hk => by
    have hd' : x.cps.toList.drop (i + 1) = r := by
      rw [← List.drop_drop, hd]; rfl
    simp only [List.length_cons] at hl
    by_cases hp : y.cps.toList.isPrefixOf (c :: r) = true
    · have e : y.length = y.cps.toList.length := by simp [Str.length]
      have hpos : 0 < y.cps.toList.length := List.length_pos_iff.mpr hy
      have ih := parts_run x y z hy r (i + 1) (y.cps.toList.length - 1) (i + y.length) hd' (by omega) (by omega) (by omega)
      simp only [occL, rp, hp, if_true, partsFrom]
      rw [join_cons_parts, ih]
      have e1 : i + 1 - (i + y.length) = 0 := by omega
      rw [e1]
      simp
    · have hp' : y.cps.toList.isPrefixOf (c :: r) = false := Bool.eq_false_iff.mpr hp
      have ih := parts_run x y z hy r (i + 1) 0 a hd' (by omega) (by omega) (by omega)
      simp only [occL, rp, hp']
      rw [if_neg Bool.false_ne_true, if_neg Bool.false_ne_true, ih, drop_take_snoc (by omega) hd]
      simp

theorem occL_none_rp (y z : List Nat) : ∀ (l : List Nat) (i k : Nat), occL y i k l = [] → k = 0 → rp y z k l = l
  | [], _, _, _, _ => by simp [rp]
  | c :: r, i, k, h, hk => by
    subst hk
    by_cases hp : y.isPrefixOf (c :: r) = true
    · simp only [occL, hp, if_true] at h; cases h
    · simp only [occL] at h
      rw [if_neg hp] at h
      simp only [rp]
      rw [if_neg hp, occL_none_rp y z r (i + 1) 0 h rfl]

/-- the library's replace is rp -/
theorem replace_rp (x y z : Str) (hy : y.cps.toList ≠ []) : (Txt.replace x y z).cps.toList = rp y.cps.toList z.cps.toList 0 x.cps.toList := by
  have ho : occurrences x y 0 x.length (x.length + 1) = occL y.cps.toList 0 0 x.cps.toList := by
    rw [occ_eq]
    have h := occ_run x y hy (x.length + 1) (by omega) x.cps.toList 0 (#[], 0) (by simp) (by simp [Str.length]) (by simp)
    have e : x.length + 1 - 0 = x.cps.toList.length + 1 := by simp [Str.length]
    rw [e, h]
    simp
  have hyl : (y.length == 0) = false := by
    have e : y.length = y.cps.toList.length := by simp [Str.length]
    have hpos : 0 < y.cps.toList.length := List.length_pos_iff.mpr hy
    rw [beq_eq_false_iff_ne]; omega
  unfold Txt.replace
  rw [hyl, Bool.false_and, Bool.or_false, ho]
  split
  · rename_i he
    rw [occL_none_rp _ _ _ 0 0 (List.isEmpty_iff.mp he) rfl]
  · rw [glued_eq_join, partsBetween_eq, parts_run x y z hy x.cps.toList 0 0 0 (by simp) (by simp [Str.length]) (by omega) (by omega)]
    simp

theorem rp_length {y z : List Nat} {B : Nat} (hz : z.length ≤ B) (hB : 1 ≤ B) : ∀ (l : List Nat) (k : Nat), (rp y z k l).length ≤ B * l.length
  | [], _ => by simp [rp]
  | c :: r, k + 1 => by
    have ih := rp_length (y := y) hz hB r k
    simp only [rp, List.length_cons, Nat.mul_add, Nat.mul_one]
    omega
  | c :: r, 0 => by
    have ih1 := rp_length (y := y) hz hB r (y.length - 1)
    have ih2 := rp_length (y := y) hz hB r 0
    simp only [rp]
    split
    · simp only [List.length_append, List.length_cons, Nat.mul_add, Nat.mul_one]; omega
    · simp only [List.length_cons, Nat.mul_add, Nat.mul_one]; omega
theorem replace_length {x y z : Str} {B : Nat} (hy : y.cps.toList ≠ []) (hz : z.cps.toList.length ≤ B) (hB : 1 ≤ B) : (Txt.replace x y z).length ≤ B * x.length := by
  have h := rp_length (y := y.cps.toList) hz hB x.cps.toList 0
  rw [← replace_rp x y z hy] at h
  simpa [Str.length] using h
end Mine
end
section
open PySem PySem.W PyProof.Rows PySem.Spec PySem.Calls PySem.Builtin
namespace Mine
theorem args_dec2 (a c : Value) : argsOk "bytes.decode" ⟨[a, c], []⟩ := by unfold argsOk; kernel_rfl
theorem dec_entry {c : UInt8} {cs : List UInt8} {t u : Tok} : «bytes.decode» ⟨[.bytes (c :: cs).toArray t, .str (PySem.Str.ofString "latin-1") u], []⟩ = (mkStr (PySem.Str.ofString "utf-8") >>= fun _ => mkStr (PySem.Str.ofString "latin-1") >>= fun e => mkStr (PySem.Str.ofString "bytes.decode") >>= fun d =>
    call (.builtin "_codecs.decode.text") [.bytes (c :: cs).toArray t, e, .none, d] >>= fun v => ret v) := by kernel_rfl
theorem dec_entry0 {t u : Tok} : «bytes.decode» ⟨[.bytes #[] t, .str (PySem.Str.ofString "latin-1") u], []⟩ = (PySem.rule "bytes.decode.empty" >>= fun _ => retStr Str.empty) := by kernel_rfl
theorem dec_road {id : String} {b : Array UInt8} : _codecs.decodeRoad id b (PySem.Str.ofString "latin-1") none [] = (_codecs.runDecoder id _codecs.latin1Decoder none true b 0 [] >>= fun r => mkStr ⟨r.1⟩) := by kernel_rfl
theorem dec_loop {S : Type} (b : Array UInt8) (h : b.size ≤ sizeLine) {f : Nat → Nat × Array Nat × S → Sem (ForInStep (Nat × Array Nat × S))}
    (hf : ∀ x p out st, p < b.size → out.size ≤ sizeLine → f x (p, out, st) = pure (ForInStep.yield (p + 1, out ++ [(b.getD p 0).toNat].toArray, st))) :
    ∀ (l : List Nat) (p : Nat) (out : Array Nat) (st : S), out.size = p → p + l.length = b.size → forIn l (p, out, st) f = (pure (b.size, out ++ ((b.toList.drop p).map (·.toNat)).toArray, st) : Sem _)
  | [], p, out, st, ho, hl => by
    simp only [List.length_nil, Nat.add_zero] at hl
    subst hl
    rw [List.forIn_nil, List.drop_of_length_le (by simp)]
    simp
  | x :: l, p, out, st, ho, hl => by
    simp only [List.length_cons] at hl
    have e : b.toList.drop p = b.getD p 0 :: b.toList.drop (p + 1) := by
      rw [List.drop_eq_getElem_cons (by simp; omega)]
      congr 1
      simp only [Array.getElem_toList, Array.getD]
      rw [dif_pos (by omega)]; rfl
    rw [List.forIn_cons, hf x p out st (by omega) (by omega)]
    show forIn l (p + 1, out ++ [(b.getD p 0).toNat].toArray, st) f = _
    rw [dec_loop b h hf l (p + 1) _ st (by simp; omega) (by omega), e]
    simp
theorem dec_run (id : String) (b : Array UInt8) (h : b.size ≤ sizeLine) : _codecs.runDecoder id _codecs.latin1Decoder none true b 0 [] = pure ((b.toList.map (·.toNat)).toArray, b.size) := by
  unfold _codecs.runDecoder
  simp only [Std.Legacy.Range.forIn_eq_forIn_range', Std.Legacy.Range.size]
  rw [dec_loop b h ?_ _ 0 #[] _ rfl (by simp)]
  · show (pure (_, _) : Sem (Array Nat × Nat)) = pure _
    simp
  · intro x p out st hp ho
    rw [if_neg (Nat.not_lt.mpr ho), if_neg (Nat.not_le.mpr hp)]
    rfl
/-- octets as signs -/
def latin (b : Array UInt8) : Str := ⟨(b.toList.map (·.toNat)).toArray⟩
theorem meets_text1 {b : Array UInt8} {t t1 t2 : Tok} {d : PySem.Str} : Meets («_codecs.decode.text» ⟨[.bytes b t, .str (PySem.Str.ofString "latin-1") t1, .none, .str d t2], []⟩) (fun _ R s => b.size ≤ sizeLine ∧ R (.ok (.ret (.str (latin b) s.toks))) { s with toks := s.toks + 1 }) := by
  refine .of_wp fun prog w A R s hS => ?_
  obtain ⟨hsz, h⟩ := hS
  show wpAny _ _ (Bytes.bytesLike _ (.bytes b t) >>= fun r => _) _ _ s
  refine wpAny_bind (wpAny_of_eq KBd.like_eq ?_)
  refine wpAny_bind (wpAny_of_eq KBd.held_eq ?_)
  show wpAny _ _ (_codecs.decodeRoad _ b (PySem.Str.ofString "latin-1") none [] >>= fun v => _) _ _ s
  rw [dec_road, dec_run _ b hsz]
  refine wpAny_bind (wpAny_bind (wpAny_pure ?_))
  exact wpAny_mkStr (wpAny_pure ⟨_, rfl, h⟩) (by simpa [Str.length] using hsz)
theorem meets_dec1 {b : Array UInt8} {t u : Tok} : Meets («bytes.decode» ⟨[.bytes b t, .str (PySem.Str.ofString "latin-1") u], []⟩) (fun _ R s => b.size ≤ sizeLine ∧ ∀ t' k, R (.ok (.ret (.str (latin b) t'))) { s with toks := k }) := by
  refine .of_wp fun prog w A R s hS => ?_
  obtain ⟨hsz, h⟩ := hS
  obtain ⟨l⟩ := b
  cases l with
  | nil =>
    rw [show (Array.mk ([] : List UInt8)) = #[] from rfl, dec_entry0]
    refine wpAny_bind (wpAny_rule ?_)
    exact wpAny_bind (wpAny_mkStr (wpAny_pure ⟨_, rfl, h _ _⟩) (by decide))
  | cons c cs =>
    rw [show (Array.mk (c :: cs)) = (c :: cs).toArray from rfl, dec_entry]
    refine wpAny_bind (wpAny_mkStr ?_ (by decide))
    refine wpAny_bind (wpAny_mkStr ?_ (by decide))
    refine wpAny_bind (wpAny_mkStr ?_ (by decide))
    exact wpAny_bind (call_function_meets KBd.kind_text KBd.plain_text KBd.entry_text (KBd.args_text _ _ _ _) meets_text1 ⟨hsz, wpAny_pure ⟨_, rfl, h _ _⟩⟩)
section
variable {prog : Program} {w : World} {A : Around} {E : Value → Shared → Prop} {s : Shared} {b : Array UInt8} {t u : Tok}
theorem decode1 {Q : Value → Shared → Prop} (hsz : b.size ≤ 100000) (n : Nat) (hn : n ≤ s.toks) (h : ∀ t' k, n ≤ k → Q (.str (latin b) t') { s with toks := k }) :
    wpAny (model prog w) A (call (.builtin "bytes.decode") [.bytes b t, .str (PySem.Str.ofString "latin-1") u]) Q E s :=
  wpAny_toks n hn (call_meets FB.slot_bytes_decode (typeIs_bytes _ _ _) FB.entry_bytes_decode (args_dec2 _ _) meets_dec1 ⟨by rw [sizeLine_eq]; omega, fun t' k h1 => h t' k h1⟩)
end
end Mine
end
section
open PySem PySem.W PyProof.Rows PySem.Spec PySem.Calls
namespace Mine
theorem allLt_all {d : Addr} {l : List (Addr × Obj)} (h : AllLt d l) : ∀ p ∈ l, @LT.lt Nat _ p.1 d := by
  induction l with
  | nil => intro p hp; exact absurd hp List.not_mem_nil
  | cons q r ih =>
    intro p hp
    rcases List.mem_cons.mp hp with rfl | hp
    · exact h.1
    · exact ih h.2 p hp
section
variable {prog : Program} {w : World} {A : Around} {h₀ : Heap} {L : Addr} {m : Str → Option Value} {news : List (Addr × Obj)} {s : Shared} {E : Value → Shared → Prop}

theorem replace_tk {Q : Value → Shared → Prop} {x y z : Str} {t u v : Tok} (n : Nat) (hn : n ≤ s.toks) (hu : @LT.lt Nat _ 0 u) (huv : @LT.lt Nat _ u v) (hyz : (y == z) = false) (hx : x.length ≤ 1048576) (hz : z.length ≤ 14) (hy : y.cps.toList ≠ []) (hz5 : z.cps.toList.length ≤ 5)
    (hq : ∀ t' k, n ≤ k → (Txt.replace x y z).length ≤ 5 * x.length → Q (.str (Txt.replace x y z) t') { s with toks := k }) : wpAny (model prog w) A (call (.builtin "str.replace") [.str x t, .str y u, .str z v]) Q E s :=
  wpAny_toks n hn (SC.replaceW (Nat.ne_of_gt hu) (Nat.ne_of_gt (Nat.lt_trans hu huv)) (Nat.ne_of_lt huv) hyz hx hz fun t' k h => hq t' k h (replace_length hy hz5 (by decide)))

theorem truthy_emptyK {K : Frag} {d : Addr} {n : Nat} {Q : Bool → Shared → Prop} (F : Fr h₀ L s.heap m) (X₀ : K.In h₀) (hl : K.lookup d = some ⟨.type "dict", none, .dict #[] n, #[]⟩) (lo : (d == sysModules) = false)
    (h : Q false { s with toks := s.toks + 1 + 1 }) : wpAny (model prog w) A (truthy (.ref d)) Q E s :=
  have hm : s.heap.DictOf (strKind prog w) d [] := ⟨_, #[], n, (X₀.keeps F.keep) _ _ hl, ⟨rfl, rfl, rfl⟩, rfl, (fun _ h => nomatch h), .nil, .nil⟩
  wpAny_truthy_dict lo hm (by decide) h
end
/-- k octets from pos on -/
def cut (b : Array UInt8) (pos k : Nat) : Array UInt8 := ((b.toList.drop pos).take k).toArray
theorem cut_size (b : Array UInt8) (pos k : Nat) : (cut b pos k).size = min k (b.size - pos) := by
  simp [cut]
/-- what a call of the stream's own function does: the contract of the nested def -/
def TakeOk (prog : Program) (w : World) (K : Frag) (p : Program) (loose : List Str) (mean : ExcName → Option Value) (mg mb : Str → Option Value) (b : Array UInt8) (f c pl c2 c1 : Addr) (fd : FuncData) (oc o2 o1 : Obj) : Prop :=
  ∀ (A : Around) (env : Env) (outer : List Env) (A₀ : Around) (base h₀ : Heap) (L : Addr) (m : Str → Option Value) (rest : List (Addr × Obj)) (s : Shared) (Q E : Value → Shared → Prop)
    (pos : Nat) (pt : Tok) (n : Nat) (k : Nat) (tn : Tok),
    Below A₀ base outer h₀ → Fr h₀ L s.heap m → K.In h₀ → Top p loose mean mg mb h₀ → A.frames = some (env :: outer) → env.frame = some L → env.scope.kind = .function →
    News h₀ L s.heap ((f, ⟨.type "function", none, .func fd, #[]⟩) :: (c, oc) :: (pl, listOf #[.int pos pt] n) :: (c2, o2) :: (c1, o1) :: rest) → (∀ q ∈ rest, @Ne Nat q.1 pl) →
    b.size ≤ 100000 → pos ≤ b.size → k ≤ 100000 → A.depth + 1 < recursionLimit → A.units + 20 < cLine →
    (∀ t h' tk pt', Fr h₀ L h' m → News h₀ L h' ((f, ⟨.type "function", none, .func fd, #[]⟩) :: (c, oc) :: (pl, listOf #[.int ((pos + (cut b pos k).size : Nat) : Int) pt'] n) :: (c2, o2) :: (c1, o1) :: rest) →
      Q (.bytes (cut b pos k) t) { s with heap := h', toks := tk }) →
    wpAny (model prog w) A (call (.ref f) [.int k tn]) Q E s

theorem cut_end (b : Array UInt8) (k : Nat) : cut b b.size k = #[] := by
  have h : (cut b b.size k).size = 0 := by rw [cut_size]; omega
  exact Array.eq_empty_of_size_eq_zero h
theorem news_int {h₀ h : Heap} {L pl : Addr} {t : Tok} {n : Nat} {z z' : Int} {pre post : List (Addr × Obj)} (e : z = z') (N : News h₀ L h (pre ++ (pl, listOf #[.int z t] n) :: post)) : News h₀ L h (pre ++ (pl, listOf #[.int z' t] n) :: post) := e ▸ N
theorem picked_cut (b : Array UInt8) (pos k : Nat) (hpos : pos ≤ b.size) : KBy.picked b (some ([(pos : Int)].getD (Int.toNat 0) 0)) (some ([(pos : Int)].getD (Int.toNat 0) 0 + (k : Int))) = cut b pos k := by
  have e0 : [(pos : Int)].getD (Int.toNat 0) 0 = (pos : Int) := rfl
  have e1 : (pos : Int) + (k : Int) = ((pos + k : Nat) : Int) := by omega
  rw [e0, e1, KBc.picked_eq]
  simp only [Option.elim, clipAt_nat, cut]
  congr 1
  have hl : b.toList.length = b.size := by simp
  rw [Nat.min_eq_left hpos]
  apply List.ext_getElem?
  intro i
  simp only [List.getElem?_take, List.getElem?_drop]
  by_cases h1 : i < k
  · rw [if_pos h1]
    by_cases h2 : i < min (pos + k) b.size - pos
    · rw [if_pos h2]
    · rw [if_neg h2, List.getElem?_eq_none (by omega)]
  · rw [if_neg h1, if_neg (by omega)]
theorem cut_one (b : Array UInt8) (pos : Nat) (h : pos < b.size) : KBw.bInts (cut b pos 1) = [((b.toList.getD pos 0).toNat : Int)] := by
  have hl : b.toList.length = b.size := by simp
  have e : b.toList.drop pos = b.toList.getD pos 0 :: b.toList.drop (pos + 1) := by
    rw [List.drop_eq_getElem_cons (by omega)]
    congr 1
    simp [List.getD_eq_getElem?_getD, h]
  unfold KBw.bInts cut
  rw [e]
  simp
/-- what escape and unescape reckon -/
def escS (x : Str) : Str := Txt.replace (Txt.replace (Txt.replace x (Str.ofString "&") (Str.ofString "&amp;")) (Str.ofString ">") (Str.ofString "&gt;")) (Str.ofString "<") (Str.ofString "&lt;")
def uneS (x : Str) : Str := Txt.replace (Txt.replace (Txt.replace x (Str.ofString "&lt;") (Str.ofString "<")) (Str.ofString "&gt;") (Str.ofString ">")) (Str.ofString "&amp;") (Str.ofString "&")
end Mine
end
section
open PySem PySem.W PyProof.Rows PySem.Spec PySem.Calls
namespace Mine
/-- a text out of the list of its signs -/
def S (l : List Nat) : Str := ⟨l.toArray⟩
theorem S_list (l : List Nat) : (S l).cps.toList = l := by simp [S]
theorem S_self (x : Str) : S x.cps.toList = x := by simp [S]
theorem S_len (l : List Nat) : (S l).length = l.length := by simp [S, Str.length]
theorem S_app (a b : List Nat) : S a ++ S b = S (a ++ b) := by
  rw [← S_self (S a ++ S b)]
  congr 1
  rw [Str.cps_append, Array.toList_append, S_list, S_list]
/-- _law_reference -/
def refL (n : Nat) : List Nat := if n = 38 then [38, 97, 109, 112, 59] else if n = 60 then [38, 108, 116, 59] else if n = 62 then [38, 103, 116, 59] else [n]
theorem refL_38 {n : Nat} (h : n = 38) : S (refL n) = Str.ofString "&amp;" := by subst h; decide +kernel
theorem refL_60 {n : Nat} (h : n = 60) : S (refL n) = Str.ofString "&lt;" := by subst h; decide +kernel
theorem refL_62 {n : Nat} (h : n = 62) : S (refL n) = Str.ofString "&gt;" := by subst h; decide +kernel
theorem refL_no {n : Nat} (h1 : ¬ n = 38) (h2 : ¬ n = 60) (h3 : ¬ n = 62) : S (refL n) = ⟨#[n]⟩ := by
  unfold refL
  rw [if_neg h1, if_neg h2, if_neg h3]; rfl
theorem q_str {Q : Value → Shared → Prop} {a b : Str} {t : Tok} {s : Shared} (e : a = b) (h : Q (.str a t) s) : Q (.str b t) s := e ▸ h
theorem one_eq {n c : Nat} {y : Str} (h : y = ⟨#[c]⟩) : ((⟨#[n]⟩ : Str) == y) = decide (n = c) := by
  subst h
  by_cases h : n = c
  · subst h; simp
  · rw [decide_eq_false h]
    refine beq_false_of_ne fun e => h ?_
    have := congrArg (fun x : Str => x.cps.toList) e
    simpa using this
end Mine
end
section
open PySem PySem.W PyProof.Rows PySem.Spec PySem.Calls
namespace Mine
/-- where a walk is to stop -/
def StopP (P : Prop) : Prop := P
theorem stopP {P : Prop} (h : StopP P) : P := h
theorem kst_self {m₁ : Str → Option Value} {ps : List (Str × Value)} (h : ∀ q ∈ ps, m₁ q.1 = some q.2) : kstB m₁ ps = m₁ := funext fun z => kstB_eq h fun _ => rfl
section
variable {prog : Program} {w : World} {A : Around} {E : Value → Shared → Prop} {s : Shared} {env : Env} {h₀ : Heap} {x : Str} {body : List Stmt} {Q : Flow → Shared → Prop}

/-- how a turn of a loop ends: the words at the next turn -/
abbrev TurnEnd {σ : Type} (h₀ : Heap) (L : Addr) (Led : Nat → σ → List (Addr × Obj)) (ps : Nat → σ → List (Str × Value)) (P : Nat → σ → Prop) (i : Nat) (own : List (Addr × Obj)) (s : Shared) (Q' : Flow → Shared → Prop) : Prop :=
  ∀ f c' (m' : Str → Option Value) h' tk', (f = .next ∨ f = .cont) → P i c' → (∀ q ∈ ps i c', m' q.1 = some q.2) → (∀ q ∈ own, ∀ b ∈ (Led i c').map (·.1), @Ne Nat q.1 b) →
        Fr h₀ L h' m' → News h₀ L h' (Led i c' ++ own) → Q' f { s with heap := h', toks := tk' }
/-- a for over a list of the ledger, by what holds between the turns: Led the ledger, ps the names, P the word -/
theorem loop_list {σ : Type} {l : Addr} {vs : List Value} {nn : Nat} {m₀ : Str → Option Value} {news : List (Addr × Obj)} (Led : Nat → σ → List (Addr × Obj)) (ps : Nat → σ → List (Str × Value)) (P : Nat → σ → Prop) (c₀ : σ)
    (hh : A.handled = none) (hl : ∀ i c, (l, listOf vs.toArray nn) ∈ Led i c) (F : Fr h₀ env.locals s.heap m₀) (N : News h₀ env.locals s.heap news) (hsub : ∀ p ∈ Led 0 c₀, p ∈ news) (hp : P 0 c₀) (hk : ∀ q ∈ ps 0 c₀, m₀ q.1 = some q.2)
    (turn : ∀ i v c (u : Str → Option Value) h tk own (Q' : Flow → Shared → Prop), vs[i]? = some v → P i c → (∀ q ∈ own, ∀ b ∈ (Led i c).map (·.1), @Ne Nat q.1 b) →
      Fr h₀ env.locals h (fun y => if y = x then some v else kstB u (ps i c) y) → News h₀ env.locals h (Led i c ++ own) →
      TurnEnd h₀ env.locals Led ps P (i + 1) own s Q' →
      (∀ v s', Q (.ret v) s' → Q' (.ret v) s') →
      wpAny (model prog w) A (execs body env) Q' E { s with heap := h, toks := tk })
    (done : ∀ c (u : Str → Option Value) h tk, P vs.length c → Fr h₀ env.locals h (kstB u (ps vs.length c)) → News h₀ env.locals h (Led vs.length c) → Q .next { s with heap := h, toks := tk }) :
    wpAny (model prog w) A (pyIter (.ref l)) (fun it s₂ => LoopAtV prog w A h₀ env x body Q E it s₂) E s := by
  refine kdl_iter (news := Led 0 c₀) (fun i m nx => ∃ c, nx = Led i c ∧ P i c ∧ ∀ q ∈ ps i c, m q.1 = some q.2) hh (hl _ _) F (fun p hp => N p (hsub p hp)) ⟨c₀, rfl, hp, hk⟩ ?_ ?_
  · rintro i v m₁ nx h tk own hv hoff _ ⟨c, rfl, hP, hK⟩ F₁ N₁
    refine turn i v c m₁ h tk own _ hv hP hoff ?_ N₁ ?_ ?_
    · rw [kst_self hK]; exact F₁
    · intro f c' m' h' tk' hf hP' hK' hoff' F' N'
      have e : InvEndG h₀ env.locals (fun m' nx => (l, listOf vs.toArray nn) ∈ nx ∧ ∃ c, nx = Led (i + 1) c ∧ P (i + 1) c ∧ ∀ q ∈ ps (i + 1) c, m' q.1 = some q.2) own { s with heap := h, toks := tk } { s with heap := h', toks := tk' } :=
        ⟨h', tk', m', _, Led (i + 1) c', rfl, F', N', fun p hp => List.mem_append.mpr (.inl hp), fun p hp => List.mem_append.mpr (.inr hp), hoff', hl _ _, c', rfl, hP', hK'⟩
      rcases hf with rfl | rfl
      · exact e
      · exact e
    · intro v s' hq; exact hq
  · rintro m₁ nx h tk ⟨c, rfl, hP, hK⟩ F₁ N₁
    exact done c m₁ h tk hP (by rw [kst_self hK]; exact F₁) N₁
/-- a for over a text -/
theorem loop_text {σ : Type} {xt : Str} {tx : Tok} {m₀ : Str → Option Value} {news : List (Addr × Obj)} (Led : Nat → σ → List (Addr × Obj)) (ps : Nat → σ → List (Str × Value)) (P : Nat → σ → Prop) (c₀ : σ) (adr : List Addr)
    (hh : A.handled = none) (hadr : ∀ i c, (Led i c).map (·.1) = adr) (F : Fr h₀ env.locals s.heap m₀) (N : News h₀ env.locals s.heap news) (hsub : ∀ p ∈ Led 0 c₀, p ∈ news) (hp : P 0 c₀) (hk : ∀ q ∈ ps 0 c₀, m₀ q.1 = some q.2)
    (turn : ∀ i n t c (u : Str → Option Value) h tk own (Q' : Flow → Shared → Prop), xt.cps.toList[i]? = some n → P i c → (∀ q ∈ own, ∀ b ∈ (Led i c).map (·.1), @Ne Nat q.1 b) →
      Fr h₀ env.locals h (fun y => if y = x then some (.str ⟨#[n]⟩ t) else kstB u (ps i c) y) → News h₀ env.locals h (Led i c ++ own) →
      TurnEnd h₀ env.locals Led ps P (i + 1) own s Q' →
      (∀ v s', Q (.ret v) s' → Q' (.ret v) s') →
      wpAny (model prog w) A (execs body env) Q' E { s with heap := h, toks := tk })
    (done : ∀ c (u : Str → Option Value) h tk, P xt.cps.toList.length c → Fr h₀ env.locals h (kstB u (ps xt.cps.toList.length c)) → News h₀ env.locals h (Led xt.cps.toList.length c) → Q .next { s with heap := h, toks := tk }) :
    wpAny (model prog w) A (pyIter (.str xt tx)) (fun it s₂ => LoopAtV prog w A h₀ env x body Q E it s₂) E s := by
  refine wpAny_pyIter_str fun o St hW hst => ?_
  have W := hW A hh
  have N₀ : News h₀ env.locals s.heap (Led 0 c₀) := fun p hp => N p (hsub p hp)
  refine loop_invN (fun i m nx => ∃ c, nx = Led i c ∧ P i c ∧ ∀ q ∈ ps i c, m q.1 = some q.2) W ?_ ?_ ?_ ?_ hst (F.push _) (fun p hp => ⟨Heap.get?_push_of_some _ (N₀ p hp).1, (N₀ p hp).2⟩) ⟨c₀, rfl, hp, hk⟩ ?_ ?_
  · intro hm
    exact absurd F.ns.lt ((List.mem_singleton.mp hm) ▸ Nat.lt_irrefl _)
  · intro b' hb
    rw [List.mem_singleton.mp hb]
    exact next_is_new F
  · intro p hp hI
    exact absurd (Heap.lt_size (N₀ p hp).1) ((List.mem_singleton.mp hI) ▸ Nat.lt_irrefl _)
  · intro p hp hI
    exact absurd (Heap.lt_size (N₀ p hp).1) ((List.mem_singleton.mp hI) ▸ Nat.lt_irrefl _)
  · rintro i v m₁ nx h tk own hi ⟨n, u, hn, rfl⟩ _ hoff ⟨c, rfl, hP, hK⟩ F₁ N₁
    rw [hadr 0 c₀] at hoff ⊢
    refine turn i n u c m₁ h tk own _ (by simpa using hn) hP ?_ ?_ N₁ ?_ ?_
    · rw [hadr i c]; exact hoff
    · rw [kst_self hK]; exact F₁
    · intro f c' m' h' tk' hf hP' hK' hoff' F' N'
      have e : InvEndN h₀ env.locals (fun m nx => ∃ c, nx = Led (i + 1) c ∧ P (i + 1) c ∧ ∀ q ∈ ps (i + 1) c, m q.1 = some q.2) own adr { s with heap := h, toks := tk } { s with heap := h', toks := tk' } :=
        ⟨h', tk', m', _, Led (i + 1) c', rfl, F', N', fun p hp => List.mem_append.mpr (.inl hp), fun p hp => List.mem_append.mpr (.inr hp), hadr _ _, c', rfl, hP', hK'⟩
      rcases hf with rfl | rfl
      · exact e
      · exact e
    · intro v s' hq; exact hq
  · rintro m₁ nx h tk ⟨c, rfl, hP, hK⟩ F₁ N₁
    have e : xt.cps.toList.length = xt.cps.size := by simp
    refine done c m₁ h tk (by rw [e]; exact hP) (by rw [kst_self (by rw [e]; exact hK)]; exact F₁) (by rw [e]; exact N₁)
end
end Mine
end
section
open PySem PySem.W PyProof.Rows PySem.Spec PySem.Calls
namespace Mine
/-- _law_wholly_come, sign by sign -/
def comeStep (edge : Int) (c : List Nat × Nat) (n : Nat) : List Nat × Nat := (if ((c.2 + (refL n).length : Nat) : Int) ≤ edge then c.1 ++ [n] else c.1, c.2 + (refL n).length)
def comeL (edge : Int) (l : List Nat) : List Nat × Nat := l.foldl (comeStep edge) ([], 0)
theorem comeL_snoc (edge : Int) (l : List Nat) (n : Nat) : comeL edge (l ++ [n]) = comeStep edge (comeL edge l) n := by simp [comeL]
theorem refL_len_le (n : Nat) : (refL n).length ≤ 5 := by unfold refL; split <;> (try split) <;> (try split) <;> simp
theorem refL_len_pos (n : Nat) : 0 < (refL n).length := by unfold refL; split <;> (try split) <;> (try split) <;> simp
theorem comeL_bound (edge : Int) : ∀ l : List Nat, ∀ c : List Nat × Nat, (l.foldl (comeStep edge) c).1.length ≤ c.1.length + l.length ∧ (l.foldl (comeStep edge) c).2 ≤ c.2 + 5 * l.length
  | [], c => by simp
  | n :: r, c => by
    have ih := comeL_bound edge r (comeStep edge c n)
    have h1 : (comeStep edge c n).1.length ≤ c.1.length + 1 := by unfold comeStep; dsimp only; split <;> simp
    have h2 : (comeStep edge c n).2 ≤ c.2 + 5 := by have := refL_len_le n; unfold comeStep; dsimp only; omega
    simp only [List.foldl_cons, List.length_cons]
    omega
theorem comeL_le (edge : Int) (l : List Nat) : (comeL edge l).1.length ≤ l.length ∧ (comeL edge l).2 ≤ 5 * l.length := by
  have := comeL_bound edge l ([], 0)
  simpa [comeL] using this
theorem take_snoc {l : List Nat} {i n : Nat} (h : l[i]? = some n) : l.take (i + 1) = l.take i ++ [n] := by
  rw [List.take_add_one, h]; rfl
theorem S_snoc (l : List Nat) (n : Nat) : S l ++ ⟨#[n]⟩ = S (l ++ [n]) := S_app l [n]
theorem S_nil : S [] = Str.ofString "" := by decide +kernel
end Mine
end
section
open PySem PySem.W PyProof.Rows PySem.Spec PySem.Calls
namespace Mine
/-- _law_torn_as_written, sign by sign -/
def cutsIn (es : List Int) (a b : Int) : Bool := es.any fun e => decide (a < e) && decide (e < b)
def tornStep (es : List Int) (c : List Nat × Nat) (n : Nat) : List Nat × Nat := (c.1 ++ (if cutsIn es (c.2 : Int) ((c.2 + (refL n).length : Nat) : Int) = true then refL n else [n]), c.2 + (refL n).length)
def tornL (es : List Int) (l : List Nat) : List Nat × Nat := l.foldl (tornStep es) ([], 0)
theorem tornL_snoc (es : List Int) (l : List Nat) (n : Nat) : tornL es (l ++ [n]) = tornStep es (tornL es l) n := by simp [tornL]
theorem tornL_bound (es : List Int) : ∀ l : List Nat, ∀ c : List Nat × Nat, (l.foldl (tornStep es) c).1.length ≤ c.1.length + 5 * l.length ∧ (l.foldl (tornStep es) c).2 ≤ c.2 + 5 * l.length
  | [], c => by simp
  | n :: r, c => by
    have ih := tornL_bound es r (tornStep es c n)
    have h0 := refL_len_le n
    have h1 : (tornStep es c n).1.length ≤ c.1.length + 5 := by
      unfold tornStep; dsimp only; rw [List.length_append]; split
      · omega
      · simp
    have h2 : (tornStep es c n).2 ≤ c.2 + 5 := by unfold tornStep; dsimp only; omega
    simp only [List.foldl_cons, List.length_cons]
    omega
theorem tornL_le (es : List Int) (l : List Nat) : (tornL es l).1.length ≤ 5 * l.length ∧ (tornL es l).2 ≤ 5 * l.length := by
  have := tornL_bound es l ([], 0)
  simpa [tornL] using this
theorem ne_tail {rest own : List (Addr × Obj)} {a : Nat} {adr : List Addr} (h1 : ∀ p ∈ rest, @Ne Nat p.1 a) (h2 : ∀ q ∈ own, ∀ b ∈ adr, @Ne Nat q.1 b) (hm : a ∈ adr) : ∀ p ∈ rest ++ own, p.1 ≠ a := fun p hp =>
  (List.mem_append.mp hp).elim (h1 p) fun h => h2 p h a hm
theorem fold_filter (p : Int → Bool) (es : List Int) : ∀ l : List Int, es.foldl (fun l k => if p k = true then l ++ [k] else l) l = l ++ es.filter p := by
  induction es with
  | nil => intro l; simp
  | cons k r ih =>
    intro l
    simp only [List.foldl_cons, List.filter_cons]
    rw [ih]
    split <;> simp
theorem torn_cond (es : List Int) (a b : Int) : decide (es.foldl (fun l k => if a < k ∧ k < b then l ++ [k] else l) [] = []) = !cutsIn es a b := by
  have e : (fun (l : List Int) k => if a < k ∧ k < b then l ++ [k] else l) = fun l k => if (decide (a < k) && decide (k < b)) = true then l ++ [k] else l := by
    funext l k
    simp only [Bool.and_eq_true, decide_eq_true_eq]
  rw [e, fold_filter, List.nil_append]
  unfold cutsIn
  rw [Bool.eq_iff_iff]
  simp only [decide_eq_true_eq, List.filter_eq_nil_iff, Bool.not_eq_true', List.any_eq_false, Bool.not_eq_true]
end Mine
end
section
open PySem PySem.W PyProof.Rows PySem.Spec PySem.Calls
namespace Mine
theorem slice_text (x : Str) (l u : Option Int) : Txt.slice x l u = StrLaws.sliceText x l u := rfl
theorem slice_hi (l : List Nat) (a : Option Int) (b : Int) (hb : (l.length : Int) ≤ b) : Txt.slice (S l) a (some b) = Txt.slice (S l) a (some (l.length : Int)) := by
  have e : Builtin.Str.strSliceIndices a (some b) 1 (S l).length = Builtin.Str.strSliceIndices a (some (l.length : Int)) 1 (S l).length := by
    rw [S_len]
    unfold Builtin.Str.strSliceIndices
    have h1 : ¬ b < 0 := by omega
    have h2 : ¬ (l.length : Int) < 0 := by omega
    have h3 : max 0 (min b (l.length : Int)) = max 0 (min (l.length : Int) (l.length : Int)) := by omega
    simp only [h1, h2, if_false, h3, show (1 : Int) > 0 from by decide, if_true]
  unfold Txt.slice
  rw [e]
theorem slice_ss (l : List Nat) (a k : Nat) (ha : a ≤ l.length) : Txt.slice (S l) (some (a : Int)) (some ((a : Int) + (k : Int))) = S ((l.drop a).take k) := by
  by_cases h : a + k ≤ l.length
  · rw [slice_text, ← Int.natCast_add, StrLaws.sliceText_nat (S l) (Nat.le_add_right a k) (by rw [S_len]; exact h)]
    show S _ = S _
    rw [S_list, Nat.add_sub_cancel_left]
  · rw [slice_hi l _ _ (by omega), slice_text, StrLaws.sliceText_nat (S l) ha (by rw [S_len]; exact Nat.le_refl _)]
    show S _ = S _
    rw [S_list, List.take_of_length_le (by rw [List.length_drop]; omega), List.take_of_length_le (by rw [List.length_drop]; omega)]
theorem slice_sn (l : List Nat) (a : Nat) (ha : a ≤ l.length) : Txt.slice (S l) (some (a : Int)) none = S (l.drop a) := by
  rw [slice_text, StrLaws.sliceText_from ⟨by omega, by rw [S_list]; omega⟩]
  show S _ = S _
  rw [S_list, Int.toNat_natCast, List.take_of_length_le (by rw [List.length_drop]; omega)]
theorem slice_ns (l : List Nat) (a : Nat) (ha : a ≤ l.length) : Txt.slice (S l) none (some (a : Int)) = S (l.take a) := by
  rw [slice_text, StrLaws.sliceText_to ⟨by omega, by rw [S_list]; omega⟩]
  show S _ = S _
  rw [S_list, List.drop_zero]
  congr 1
/-- _law_pieces -/
def pcStep (l : List Nat) (c : List (List Nat) × Nat) (k : Int) : List (List Nat) × Nat := (c.1 ++ [(l.drop c.2).take k.toNat], c.2 + ((l.drop c.2).take k.toNat).length)
def pcL (l : List Nat) (ks : List Int) : List (List Nat) × Nat := ks.foldl (pcStep l) ([], 0)
def piecesL (l : List Nat) (ks : List Int) : List (List Nat) := (pcL l ks).1 ++ [l.drop (pcL l ks).2]
theorem pcL_snoc (l : List Nat) (ks : List Int) (k : Int) : pcL l (ks ++ [k]) = pcStep l (pcL l ks) k := by simp [pcL]
theorem pc_le (l : List Nat) : ∀ (ks : List Int) (c : List (List Nat) × Nat), c.2 ≤ l.length → (ks.foldl (pcStep l) c).2 ≤ l.length
  | [], _, h => h
  | k :: r, c, h => pc_le l r (pcStep l c k) (by unfold pcStep; dsimp only; rw [List.length_take, List.length_drop]; omega)
theorem pcL_le (l : List Nat) (ks : List Int) : (pcL l ks).2 ≤ l.length := pc_le l ks _ (Nat.zero_le _)
theorem pc_count (l : List Nat) : ∀ (ks : List Int) (c : List (List Nat) × Nat), (ks.foldl (pcStep l) c).1.length = c.1.length + ks.length
  | [], _ => by simp
  | k :: r, c => by simp only [List.foldl_cons]; rw [pc_count l r]; simp [pcStep]; omega
theorem pcL_count (l : List Nat) (ks : List Int) : (pcL l ks).1.length = ks.length := by unfold pcL; rw [pc_count]; simp
theorem take_snocI {l : List Int} {i : Nat} {n : Int} (h : l[i]? = some n) : l.take (i + 1) = l.take i ++ [n] := by
  rw [List.take_add_one, h]; rfl
theorem news_head {h₀ h : Heap} {L a : Addr} {o : Obj} {r : List (Addr × Obj)} (N9 : News h₀ L h ((a, o) :: r)) : ∃ l5 : Addr, l5 = a := ⟨a, rfl⟩
end Mine
end
section
open PySem PySem.W PyProof.Rows PySem.Spec PySem.Calls
namespace Mine
theorem strs_at {vs : List Value} {xs : List Str} (h : StrsAre vs xs) : ∀ {i : Nat} {v : Value}, vs[i]? = some v → ∃ x t, v = .str x t ∧ xs[i]? = some x := by
  induction h with
  | nil => intro i v hv; simp at hv
  | cons x t _ ih =>
    intro i v hv
    cases i with
    | zero => simp at hv; exact ⟨x, t, hv.symm, rfl⟩
    | succ i => exact ih (by simpa using hv)
/-- _law_counted -/
def oneCount (w : List Nat) : List Int := (w.length : Int) :: w.map Int.ofNat
def countL (ws : List (List Nat)) : List Int := ws.flatMap oneCount
theorem countL_snoc (ws : List (List Nat)) (w : List Nat) : countL (ws ++ [w]) = countL ws ++ oneCount w := by simp [countL]
theorem take_snocL {α : Type} {l : List α} {i : Nat} {n : α} (h : l[i]? = some n) : l.take (i + 1) = l.take i ++ [n] := by
  rw [List.take_add_one, h]; rfl
theorem countL_len (ws : List (List Nat)) : (countL ws).length = ws.length + (ws.map List.length).sum := by
  induction ws with
  | nil => rfl
  | cons w r ih => simp only [countL, List.flatMap_cons, List.length_append, List.map_cons, List.sum_cons, List.length_cons] at *; rw [ih]; simp [oneCount]; omega
theorem strs_atS {vs : List Value} {ps : List (List Nat)} (h : StrsAre vs (ps.map S)) {i : Nat} {v : Value} (hv : vs[i]? = some v) : ∃ w t, v = .str (S w) t ∧ ps[i]? = some w := by
  obtain ⟨x, t, e, hx⟩ := strs_at h hv
  rw [List.getElem?_map, Option.map_eq_some_iff] at hx
  obtain ⟨w, hw, rfl⟩ := hx
  exact ⟨w, t, e, hw⟩
theorem countL_le : ∀ (ps : List (List Nat)), (∀ w ∈ ps, w.length ≤ 1000) → (countL ps).length ≤ 1001 * ps.length
  | [], _ => by simp [countL]
  | w :: r, h => by
    have ih := countL_le r fun x hx => h x (List.mem_cons_of_mem _ hx)
    have h1 := h w List.mem_cons_self
    simp only [countL, List.flatMap_cons, List.length_append, List.length_cons, oneCount, List.length_map] at *
    omega
theorem countL_take (ps : List (List Nat)) (h : ∀ w ∈ ps, w.length ≤ 1000) (i : Nat) : (countL (ps.take i)).length ≤ 1001 * ps.length := by
  have h1 := countL_le (ps.take i) fun w hw => h w (List.mem_of_mem_take hw)
  have h2 : (ps.take i).length ≤ ps.length := by rw [List.length_take]; omega
  omega
end Mine
end
section
open PySem PySem.W PyProof.Rows PySem.Spec PySem.Calls
namespace Mine
/-- item by item -/
def AllY {α : Type} (Y : α → Value → Prop) : List α → List Value → Prop
  | [], [] => True
  | a :: r, y :: q => Y a y ∧ AllY Y r q
  | _, _ => False
theorem AllY.snoc {α : Type} {Y : α → Value → Prop} : ∀ {l : List α} {ys : List Value} {a : α} {y : Value}, AllY Y l ys → Y a y → AllY Y (l ++ [a]) (ys ++ [y])
  | [], [], _, _, _, h => ⟨h, trivial⟩
  | _ :: _, _ :: _, _, _, ⟨h1, h2⟩, h => ⟨h1, AllY.snoc h2 h⟩
theorem AllY.ints {α : Type} {g : α → Int} : ∀ {l : List α} {ys : List Value}, AllY (fun a y => ∃ t, y = .int (g a) t) l ys → IntsAre ys (l.map g)
  | [], [], _ => .nil
  | _ :: _, _ :: _, ⟨⟨t, h1⟩, h2⟩ => h1 ▸ .cons _ t (AllY.ints h2)
theorem AllY.strs {α : Type} {g : α → Str} : ∀ {l : List α} {ys : List Value}, AllY (fun a y => ∃ t, y = .str (g a) t) l ys → StrsAre ys (l.map g)
  | [], [], _ => .nil
  | _ :: _, _ :: _, ⟨⟨t, h1⟩, h2⟩ => h1 ▸ .cons _ t (AllY.strs h2)
/-- the end of one element -/
def ElEnd {α : Type} (Y : α → Value → Prop) (a : α) (news : List (Addr × Obj)) (y : Value) (news' : List (Addr × Obj)) : Prop := news' = news ∧ Y a y
section
variable {prog : Program} {w : World} {A : Around} {E : Value → Shared → Prop} {s : Shared} {h₀ : Heap} {L : Addr} {m : Str → Option Value} {env : Env}
theorem comp_rest {α : Type} {elt : Expr} {x : Str} {scope : Scope} {cl : List (Str × Addr)} {S : List (Addr × Obj) → Prop} {P : Nat → Value → Prop} {Fin : List Value → List (Addr × Obj) → Prop} {news : List (Addr × Obj)} {n : Nat} (l : List α) (V Y : α → Value → Prop) (hl : l.length = n)
    (hP : ∀ i v, i < n → P i v → ∃ a, l[i]? = some a ∧ V a v)
    (turn : ∀ a v I oI C oC D m₂ ys h tk (E' : Value → Shared → Prop), a ∈ l → V a v → LCg.NsObj oC m₂ → m₂ x = some v → Fr h₀ L h m → News h₀ L h ((I, oI) :: (C, oC) :: (D, LCg.lst ys) :: news) → LCg.Off3 I C D news → ((@Ne Nat I C) ∧ (@Ne Nat I D) ∧ (@Ne Nat C D)) →
      wpAny (model prog w) A (eval elt (compEnvC scope cl C env)) (LCg.CompEnd h₀ L m { s with heap := h, toks := tk } I oI C oC D (LCg.lst ys) S (fun y news' => ElEnd Y a news y news')) E' { s with heap := h, toks := tk })
    (fin : ∀ ys, AllY Y l ys → Fin ys news) : LCg.CompRest prog w A h₀ L m env elt x scope cl s S P Fin n 0 [] news := by
  have key : ∀ (j i : Nat) (ys : List Value), i + j = n → AllY Y (l.take i) ys → LCg.CompRest prog w A h₀ L m env elt x scope cl s S P Fin j i ys news := by
    intro j
    induction j with
    | zero =>
      intro i ys hi hy
      have e : i = l.length := by omega
      subst e
      rw [List.take_length] at hy
      exact LCg.CompRest.zero (fin ys hy)
    | succ j ih =>
      intro i ys hi hy
      refine LCg.CompRest.succ ?_
      intro v I oI C oC D m₂ h tk E' hv hC hx F N off ne
      obtain ⟨a, ha, hV⟩ := hP i v (by omega) hv
      refine wpAny_mono (turn a v I oI C oC D m₂ ys h tk E' (List.mem_of_getElem? ha) hV hC hx F N off ne) (fun y s₂ hq => ?_) fun _ _ e => e
      obtain ⟨h', tk', nw, e, F', N', off', hS, hn, hY⟩ := hq
      rw [hn] at N' off' hS
      refine ⟨h', tk', news, e, F', N', off', hS, ?_⟩
      refine ih (i + 1) _ (by omega) ?_
      rw [take_snocL ha]
      exact hy.snoc hY
  exact key n 0 [] (by omega) (by simp only [List.take_zero]; exact trivial)
/-- the source of a comprehension is a text -/
def SrcS (prog : Program) (w : World) (A : Around) (h₀ : Heap) (L : Addr) (m : Str → Option Value) (env : Env) (elt : Expr) (x : Str) (scope : Scope) (cl : List (Str × Addr)) (Fin : Shared → List Value → List (Addr × Obj) → Prop) (xv : Value) (s₁ : Shared) : Prop :=
  ∃ xt t news, xv = .str xt t ∧ A.handled = none ∧ Fr h₀ L s₁.heap m ∧ News h₀ L s₁.heap news ∧ xt.cps.size ≤ sizeLine ∧
    ∀ s₂ : Shared, (∃ h, s₂ = { s₁ with heap := h }) → LCg.CompRest prog w A h₀ L m env elt x scope cl s₂ (fun _ => True) (SignAt xt) (Fin s₂) xt.cps.size 0 [] news
theorem SrcS.intro {elt : Expr} {x : Str} {scope : Scope} {cl : List (Str × Addr)} {Fin : Shared → List Value → List (Addr × Obj) → Prop} {xt : Str} {t : Tok} {news : List (Addr × Obj)} {s₁ : Shared}
    (hh : A.handled = none) (F : Fr h₀ L s₁.heap m) (N : News h₀ L s₁.heap news) (hsz : xt.cps.size ≤ sizeLine)
    (h : ∀ g, LCg.CompRest prog w A h₀ L m env elt x scope cl { s₁ with heap := g } (fun _ => True) (SignAt xt) (Fin { s₁ with heap := g }) xt.cps.size 0 [] news) :
    SrcS prog w A h₀ L m env elt x scope cl Fin (.str xt t) s₁ := ⟨xt, t, news, rfl, hh, F, N, hsz, fun _ ⟨g, e⟩ => e ▸ h g⟩
theorem sign_items {xt : Str} : ∀ i v, i < xt.cps.size → SignAt xt i v → ∃ a, xt.cps.toList[i]? = some a ∧ (∃ t, v = Value.str ⟨#[a]⟩ t) := by
  rintro i v hi ⟨n, u, hn, rfl⟩
  exact ⟨n, by simpa using hn, u, rfl⟩
theorem str_hIo {I : Addr} {c : String} {xt : Str} {t : Tok} : ∀ i h, Heap.IsStrIter h I c xt t i → ∃ o, h.get? I = some o := by
  rintro i h ⟨o, e, _⟩
  exact ⟨o, e⟩
theorem ListComp_S {elt iter : Expr} {x : Str} {px : Pos} {scope : Scope} {cl : List (Str × Addr)} {pos : Pos} {Q : Value → Shared → Prop} (F₀ : Fr h₀ L s.heap m)
    (hclos : closureFor scope env = pure cl) (hcell : ∀ y ∈ scope.names, y.2 ≠ .cell) (hkind : scope.kind = .function)
    (hnames : ∀ y ∈ scope.names, y.2 = .local → scope.names.lookup y.1 = some .local) (hx : scope.names.lookup x = some .local)
    (h : wpAny (model prog w) A (eval iter env) (SrcS prog w A h₀ L m env elt x scope cl (fun s₂ => LCg.FinE h₀ L m s₂ Q)) E s)
    (hs : ∀ x, foldedSetIterable iter env x = pure x := by intro _; rfl) :
    wpAny (model prog w) A (eval (.ListComp elt [⟨.Name x px, iter, [], 0⟩] scope pos) env) Q E s := by
  rw [eval_ListComp]
  refine wpAny_comprehension_free (use := none) rfl hs hclos hkind hnames (wpAny_mono h (fun xv s₁ h₁ => ?_) fun _ _ e => e)
  obtain ⟨xt, t, news, rfl, hh, F, N, hsz, R⟩ := h₁
  have fin : ∀ s₂ : Shared, (∃ h, s₂ = { s₁ with heap := h }) → ∀ D C h tk m' ys news', Fr h₀ L h m → News h₀ L h ((D, LCg.lst ys) :: news') → LCg.Off1 D news' → h.Ns C m' → h₀.get? C = none → h₀.get? D = none → C ≠ L → D ≠ L → C ≠ D → (∀ p ∈ news', p.1 ≠ C) → LCg.FinE h₀ L m s₂ Q ys news' →
      ∃ m', h.Ns C m' ∧ ∀ h'', Heap.SameBut C h h'' → Q (.ref D) { s₂ with heap := h'', toks := tk } := by
    intro s₂ _ D C h tk m' ys news' F' N' o1 hn hC₀ hD₀ hCL hDL hCD offC fin
    refine ⟨m', hn, fun h'' hs'' => fin D h'' tk (F'.change hs'' hCL hC₀) (fun p hp => ?_) o1⟩
    refine ⟨hs''.extBut _ _ ?_ (N' p hp).1, (N' p hp).2⟩
    rcases List.mem_cons.mp hp with rfl | hp
    · exact Ne.symm hCD
    · exact offC p hp
  cases ha : xt.cps.all (· < 128)
  · refine wpAny_pyIter_wide ha ?_
    have W := Walks.strWide (prog := prog) (w := w) hh s₁.heap.objs.size xt t
    refine LCg.block_U W hsz str_hIo (fun i h h' o nw st e e' _ _ _ => W.frame i h h' st fun b hb o₂ e₂ => by rw [List.mem_singleton.mp hb] at e₂ ⊢; rw [e] at e₂; cases e₂; exact e') hcell hkind hx ⟨_, Heap.get?_push_size _ rfl, rfl, rfl⟩ (fun b hb => ?_)
      (F.keeps fun _ _ e => Heap.get?_push_of_some _ e) (N.grown fun _ _ e => Heap.get?_push_of_some _ e) (Nat.ne_of_lt F.ns.lt) (next_is_new F) (fun p hp => Nat.ne_of_lt (Heap.lt_size (N p hp).1)) trivial (R _ ⟨_, rfl⟩) (fin _ ⟨_, rfl⟩)
    rw [List.mem_singleton.mp hb]
    show s₁.heap.objs.size < (s₁.heap.push _).objs.size
    rw [Heap.size_push]; exact Nat.lt_succ_self _
  · refine wpAny_pyIter_ascii ha ?_
    have W := Walks.strAscii (prog := prog) (w := w) hh s₁.heap.objs.size xt t
    refine LCg.block_U W hsz str_hIo (fun i h h' o nw st e e' _ _ _ => W.frame i h h' st fun b hb o₂ e₂ => by rw [List.mem_singleton.mp hb] at e₂ ⊢; rw [e] at e₂; cases e₂; exact e') hcell hkind hx ⟨_, Heap.get?_push_size _ rfl, rfl, rfl⟩ (fun b hb => ?_)
      (F.keeps fun _ _ e => Heap.get?_push_of_some _ e) (N.grown fun _ _ e => Heap.get?_push_of_some _ e) (Nat.ne_of_lt F.ns.lt) (next_is_new F) (fun p hp => Nat.ne_of_lt (Heap.lt_size (N p hp).1)) trivial (R _ ⟨_, rfl⟩) (fin _ ⟨_, rfl⟩)
    rw [List.mem_singleton.mp hb]
    show s₁.heap.objs.size < (s₁.heap.push _).objs.size
    rw [Heap.size_push]; exact Nat.lt_succ_self _
end
theorem upd_mid {d : Addr} {o o' : Obj} : ∀ (pre : List (Addr × Obj)) {post : List (Addr × Obj)}, (∀ p ∈ pre, p.1 ≠ d) → (∀ p ∈ post, p.1 ≠ d) → Upd d o o' (pre ++ (d, o) :: post) (pre ++ (d, o') :: post)
  | [], _, _, h => .head h
  | q :: r, _, h1, h2 => .tail (h1 q List.mem_cons_self) (upd_mid r (fun p hp => h1 p (List.mem_cons_of_mem _ hp)) h2)
theorem ext_any {prog : Program} {w : World} {A : Around} {E : Value → Shared → Prop} {s : Shared} {h₀ : Heap} {L D b : Addr} {m : Str → Option Value} {news : List (Addr × Obj)} {its : Array Value} {ys : List Value} {n n2 : Nat} {g : Obj → List (Addr × Obj)} {Q : Value → Shared → Prop}
    (F : Fr h₀ L s.heap m) (N : News h₀ L s.heap news) (hb : (b, listOf ys.toArray n2) ∈ news) (U : UpdF D (listOf its n) news g) (hz : its.size + ys.length ≤ 16000000)
    (h : ∀ h' n', Fr h₀ L h' m → News h₀ L h' (g (listOf (its.toList ++ ys).toArray n')) → Q .none { s with heap := h' }) : wpAny (model prog w) A (call (.builtin "list.extend") [.ref D, .ref b]) Q E s := by
  obtain ⟨pre, post, e1, e2, a, c⟩ := U.split
  have hs : its.size + ys.toArray.size ≤ sizeLine := by have e : ys.toArray.size = ys.length := List.size_toArray; rw [sizeLine_eq, e]; omega
  have hd := PyProof.Rows.extend_door hs
  have hw : its.toList.length ≤ sizeLine := by rw [sizeLine_eq]; simp; omega
  by_cases hy : ys = []
  · subst hy
    subst e1
    refine kxn_extend F N hb (by simp) (upd_mid pre a c) hd hw (Nat.le_succ_of_le hs) fun h' F' N' => h h' n F' ?_
    rw [e2, List.append_nil, Array.toArray_toList]
    exact N'
  · subst e1
    refine kl_extend F N hb (l := its.toList ++ ys) (by simp) (by simpa using hy) (upd_mid pre a c) hd hw (Nat.le_succ_of_le hs) fun h' F' N' => h h' (n + 1) F' ?_
    rw [e2]
    exact N'
end Mine
end
section
open PySem PySem.W PyProof.Rows PySem.Spec PySem.Calls
namespace Mine
/-- escape, unescape on lists of signs -/
def uneL (l : List Nat) : List Nat := rp [38, 97, 109, 112, 59] [38] 0 (rp [38, 103, 116, 59] [62] 0 (rp [38, 108, 116, 59] [60] 0 l))
def escL (l : List Nat) : List Nat := rp [60] [38, 108, 116, 59] 0 (rp [62] [38, 103, 116, 59] 0 (rp [38] [38, 97, 109, 112, 59] 0 l))
theorem S_eq {x : Str} {l : List Nat} (h : x.cps.toList = l) : x = S l := by subst h; rfl
theorem replace_S (l : List Nat) (y z : Str) (hy : y.cps.toList ≠ []) : Txt.replace (S l) y z = S (rp y.cps.toList z.cps.toList 0 l) := S_eq (replace_rp (S l) y z hy)
theorem escS_S (l : List Nat) : escS (S l) = S (escL l) := by
  unfold escS escL
  rw [replace_S _ _ _ (by decide +kernel), replace_S _ _ _ (by decide +kernel), replace_S _ _ _ (by decide +kernel)]
  rw [show (Str.ofString "&").cps.toList = [38] from by decide +kernel, show (Str.ofString "&amp;").cps.toList = [38, 97, 109, 112, 59] from by decide +kernel, show (Str.ofString ">").cps.toList = [62] from by decide +kernel,
    show (Str.ofString "&gt;").cps.toList = [38, 103, 116, 59] from by decide +kernel, show (Str.ofString "<").cps.toList = [60] from by decide +kernel, show (Str.ofString "&lt;").cps.toList = [38, 108, 116, 59] from by decide +kernel]
theorem uneS_S (l : List Nat) : uneS (S l) = S (uneL l) := by
  unfold uneS uneL
  rw [replace_S _ _ _ (by decide +kernel), replace_S _ _ _ (by decide +kernel), replace_S _ _ _ (by decide +kernel)]
  rw [show (Str.ofString "&").cps.toList = [38] from by decide +kernel, show (Str.ofString "&amp;").cps.toList = [38, 97, 109, 112, 59] from by decide +kernel, show (Str.ofString ">").cps.toList = [62] from by decide +kernel,
    show (Str.ofString "&gt;").cps.toList = [38, 103, 116, 59] from by decide +kernel, show (Str.ofString "<").cps.toList = [60] from by decide +kernel, show (Str.ofString "&lt;").cps.toList = [38, 108, 116, 59] from by decide +kernel]
theorem rp_shrink {y z : List Nat} (h : z.length ≤ y.length) (hy : y ≠ []) : ∀ (l : List Nat) (k : Nat), (rp y z k l).length + k ≤ l.length + k ∧ (rp y z k l).length ≤ l.length - k
  | [], _ => by simp [rp]
  | c :: r, k + 1 => by
    have ih := rp_shrink h hy r k
    simp only [rp, List.length_cons]
    omega
  | c :: r, 0 => by
    have hp : 0 < y.length := List.length_pos_iff.mpr hy
    simp only [rp]
    split
    · rename_i hpre
      have hl := (List.isPrefixOf_iff_prefix.mp hpre).length_le
      have ih := rp_shrink h hy r (y.length - 1)
      simp only [List.length_append, List.length_cons] at *
      omega
    · have ih := rp_shrink h hy r 0
      simp only [List.length_cons] at *
      omega
theorem uneL_len (l : List Nat) : (uneL l).length ≤ l.length := by
  unfold uneL
  have h1 := (rp_shrink (y := [38, 108, 116, 59]) (z := [60]) (by decide) (by decide) l 0).1
  have h2 := (rp_shrink (y := [38, 103, 116, 59]) (z := [62]) (by decide) (by decide) (rp [38, 108, 116, 59] [60] 0 l) 0).1
  have h3 := (rp_shrink (y := [38, 97, 109, 112, 59]) (z := [38]) (by decide) (by decide) (rp [38, 103, 116, 59] [62] 0 (rp [38, 108, 116, 59] [60] 0 l)) 0).1
  omega
/-- the places of & -/
def marksL (l : List Nat) : List Int := (rangeKs 0 l.length).foldl (fun m k => if l.getD k.toNat 0 = 38 then m ++ [k] else m) []
def lastMark (l : List Nat) : Nat := ((marksL l).getD ((marksL l).length - 1) 0).toNat
def keepAt (l : List Nat) : Nat := if marksL l ≠ [] ∧ 59 ∉ l.drop (lastMark l) then lastMark l else l.length
def bothStep (c : List Nat × List Nat) (w : List Nat) : List Nat × List Nat := ((c.1 ++ w).drop (keepAt (c.1 ++ w)), c.2 ++ uneL ((c.1 ++ w).take (keepAt (c.1 ++ w))))
def bothL (ws : List (List Nat)) : List Nat × List Nat := ws.foldl bothStep ([], [])
theorem bothL_snoc (ws : List (List Nat)) (w : List Nat) : bothL (ws ++ [w]) = bothStep (bothL ws) w := by simp [bothL]
def aloneL (ws : List (List Nat)) : List Nat := ws.flatMap uneL
theorem aloneL_snoc (ws : List (List Nat)) (w : List Nat) : aloneL (ws ++ [w]) = aloneL ws ++ uneL w := by simp [aloneL]
def edStep (c : List Int × Nat) (w : List Nat) : List Int × Nat := (c.1 ++ [((c.2 + w.length : Nat) : Int)], c.2 + w.length)
def edL (ws : List (List Nat)) : List Int × Nat := ws.foldl edStep ([0], 0)
theorem edL_snoc (ws : List (List Nat)) (w : List Nat) : edL (ws ++ [w]) = edStep (edL ws) w := by simp [edL]
theorem edL_sum (ws : List (List Nat)) : (edL ws).2 = ws.flatten.length := by
  have h : ∀ (ws : List (List Nat)) (c : List Int × Nat), (ws.foldl edStep c).2 = c.2 + ws.flatten.length := by
    intro ws
    induction ws with
    | nil => intro c; simp
    | cons w r ih => intro c; simp only [List.foldl_cons]; rw [ih]; simp [edStep]; omega
  unfold edL; rw [h]; simp
theorem edL_len (ws : List (List Nat)) : (edL ws).1.length = ws.length + 1 := by
  have h : ∀ (ws : List (List Nat)) (c : List Int × Nat), (ws.foldl edStep c).1.length = c.1.length + ws.length := by
    intro ws
    induction ws with
    | nil => intro c; simp
    | cons w r ih => intro c; simp only [List.foldl_cons]; rw [ih]; simp [edStep]; omega
  unfold edL; rw [h]; simp; omega
theorem edL_last (ws : List (List Nat)) : (edL ws).1.getD ((edL ws).1.length - 1) 0 = ((edL ws).2 : Int) := by
  rcases List.eq_nil_or_concat ws with rfl | ⟨r, w, rfl⟩
  · rfl
  · rw [List.concat_eq_append, edL_snoc]
    simp [edStep]
theorem edL_le (ws : List (List Nat)) (N : Nat) (h : ws.flatten.length ≤ N) : (edL ws).2 ≤ N := by rw [edL_sum]; exact h
/-- where a counted piece stands in the octets -/
theorem octets_at {b : Array UInt8} {ps : List (List Nat)} {tail : List Int} {i : Nat} {w : List Nat} (hb : KBw.bInts b = countL ps ++ tail) (hw : ps[i]? = some w) :
    (countL (ps.take i)).length + 1 + w.length ≤ b.size ∧ (b.toList.getD (countL (ps.take i)).length 0).toNat = w.length ∧ latin (cut b ((countL (ps.take i)).length + 1) w.length) = S w := by
  have hsplit : ps = ps.take i ++ w :: ps.drop (i + 1) := by
    have h9 := List.take_append_drop (i + 1) ps
    rw [take_snocL hw, List.append_assoc] at h9
    exact h9.symm
  have hc : KBw.bInts b = countL (ps.take i) ++ ((w.length : Int) :: (w.map Int.ofNat ++ (countL (ps.drop (i + 1)) ++ tail))) := by
    rw [hb]
    conv => lhs; rw [hsplit]
    simp [countL, oneCount]
  generalize hp : countL (ps.take i) = pre at hc
  have hbl : b.toList.map (fun c => (c.toNat : Int)) = pre ++ ((w.length : Int) :: (w.map Int.ofNat ++ (countL (ps.drop (i + 1)) ++ tail))) := hc
  have hlen := congrArg List.length hbl
  simp only [List.length_map, Array.length_toList, List.length_append, List.length_cons] at hlen
  have hd : (b.toList.map (fun c => (c.toNat : Int))).drop pre.length = ((w.length : Int) :: (w.map Int.ofNat ++ (countL (ps.drop (i + 1)) ++ tail))) := by rw [hbl, List.drop_left]
  have hd1 : (b.toList.map (fun c => (c.toNat : Int))).drop (pre.length + 1) = w.map Int.ofNat ++ (countL (ps.drop (i + 1)) ++ tail) := by
    rw [← List.drop_drop, hd]; rfl
  refine ⟨by omega, ?_, ?_⟩
  · have h1 := congrArg (fun l : List Int => l[0]?) hd
    simp only [List.getElem?_drop, Nat.add_zero, List.getElem?_map, List.getElem?_cons_zero] at h1
    rw [Option.map_eq_some_iff] at h1
    obtain ⟨c, hc1, hc2⟩ := h1
    rw [List.getD_eq_getElem?_getD, hc1]
    show c.toNat = w.length
    omega
  · have h1 : ((b.toList.drop (pre.length + 1)).take w.length).map (fun c => (c.toNat : Int)) = w.map Int.ofNat := by
      rw [List.map_take, List.map_drop, hd1, List.take_append_of_le_length (by simp), List.take_of_length_le (by simp)]
    have h2 : ((b.toList.drop (pre.length + 1)).take w.length).map (fun c => c.toNat) = w := by
      have h3 := congrArg (List.map Int.toNat) h1
      simpa [List.map_map, Function.comp_def] using h3
    unfold latin cut
    show S _ = S _
    rw [List.toList_toArray, h2]
end Mine
end
section
open PySem PySem.W PyProof.Rows PySem.Spec PySem.Calls
namespace Mine
theorem aloneL_len (ws : List (List Nat)) : (aloneL ws).length ≤ ws.flatten.length := by
  induction ws with
  | nil => simp [aloneL]
  | cons w r ih =>
    have h1 := uneL_len w
    simp only [aloneL, List.flatMap_cons, List.length_append, List.flatten_cons] at *
    omega
theorem bothL_len' : ∀ (ws : List (List Nat)) (c : List Nat × List Nat), (ws.foldl bothStep c).1.length + (ws.foldl bothStep c).2.length ≤ c.1.length + c.2.length + ws.flatten.length
  | [], c => by simp
  | w :: r, c => by
    have ih := bothL_len' r (bothStep c w)
    have h1 := uneL_len ((c.1 ++ w).take (keepAt (c.1 ++ w)))
    have h2 : (bothStep c w).1.length + (bothStep c w).2.length ≤ c.1.length + c.2.length + w.length := by
      unfold bothStep
      dsimp only
      rw [List.length_append, List.length_drop]
      rw [List.length_take, List.length_append] at h1
      rw [List.length_append]
      omega
    simp only [List.foldl_cons, List.flatten_cons, List.length_append]
    omega
theorem bothL_len (ws : List (List Nat)) : (bothL ws).1.length + (bothL ws).2.length ≤ ws.flatten.length := by
  have := bothL_len' ws ([], [])
  simpa [bothL] using this
theorem flat_take (ps : List (List Nat)) (i : Nat) : (ps.take i).flatten.length ≤ ps.flatten.length := by
  have h := congrArg (fun l : List (List Nat) => l.flatten.length) (List.take_append_drop i ps)
  simp only [List.flatten_append, List.length_append] at h
  omega
theorem uneS_len (x : Str) : (uneS x).length ≤ x.length := by
  rw [S_eq (x := x) rfl, uneS_S, S_len, S_len]
  exact uneL_len _
theorem pos_of {l : List Int} (h : decide (l = []) = false) : 0 < l.length := by
  cases l with
  | nil => simp at h
  | cons => simp
theorem item_amp {l : List Nat} {k : Int} (h0 : 0 ≤ k) (h1 : k < l.length) : (Txt.item (S l) k == Str.ofString "&") = decide (l.getD k.toNat 0 = 38) := by
  obtain ⟨n, rfl⟩ := Int.eq_ofNat_of_zero_le h0
  have hn : n < l.length := by omega
  have e : Txt.item (S l) (n : Int) = ⟨#[l.getD n 0]⟩ := by
    unfold Txt.item
    congr 2
    have h2 : (S l).cps[n]? = some l[n] := by
      show l.toArray[n]? = _
      simp [hn]
    unfold Txt.charAt
    rw [StrLaws.at_nonneg h0 (by simpa using h2)]
    simp [List.getD_eq_getElem?_getD, hn]
  rw [e, Int.toNat_natCast]
  exact one_eq (by decide +kernel)
end Mine
end
section
open PySem PySem.W PyProof.Rows PySem.Spec PySem.Calls
namespace Mine
/-- the places of &, as the walk says them -/
abbrev mk9 (l : List Nat) (n : Nat) : List Int := List.foldl (fun m k => if l.getD k.toNat 0 = 38 then m ++ [k] else m) [] (rangeKs 0 n)
theorem mk9_eq (l : List Nat) : mk9 l (((S l).length : Int) - 0).toNat = marksL l := by
  have e : (((S l).length : Int) - 0).toNat = l.length := by rw [S_len]; omega
  rw [e]; rfl
theorem last_idx (n : Nat) : (-1 + (n : Int)).toNat = n - 1 := by omega
theorem foldP_mem (p : Int → Prop) [DecidablePred p] : ∀ (ks m : List Int) (x : Int), x ∈ ks.foldl (fun m k => if p k then m ++ [k] else m) m → x ∈ m ∨ x ∈ ks
  | [], _, _, h => .inl h
  | k :: r, m, x, h => by
    rcases foldP_mem p r _ x h with h | h
    · dsimp only at h
      split at h
      · rcases List.mem_append.mp h with h | h
        · exact .inl h
        · exact .inr (List.mem_singleton.mp h ▸ List.mem_cons_self)
      · exact .inl h
    · exact .inr (List.mem_cons_of_mem _ h)
theorem marks_bound (l : List Nat) : ∀ x ∈ marksL l, 0 ≤ x ∧ x < l.length := by
  intro x hx
  rcases foldP_mem _ _ _ _ hx with h | h
  · cases h
  · have := mem_rangeKs h
    omega
theorem last_cast (l : List Nat) : (marksL l).getD ((marksL l).length - 1) 0 = (lastMark l : Int) ∧ lastMark l ≤ l.length := by
  unfold lastMark
  by_cases h : (marksL l).length = 0
  · have e : marksL l = [] := List.length_eq_zero_iff.mp h
    rw [e]; simp
  · have hlt : (marksL l).length - 1 < (marksL l).length := by omega
    have hb := marks_bound l ((marksL l)[(marksL l).length - 1]) (List.getElem_mem hlt)
    rw [List.getD_eq_getElem?_getD, List.getElem?_eq_getElem hlt]
    simp only [Option.getD_some]
    omega
theorem keepAt_le (l : List Nat) : keepAt l ≤ l.length := by
  unfold keepAt
  split
  · exact (last_cast l).2
  · exact Nat.le_refl _
theorem semi_in (x : Str) : (Builtin.Str.occurrences x (Str.ofString ";") 0 x.length 1).isEmpty = !decide (59 ∈ x.cps.toList) := by
  have h := StrLaws.found_one x 59
  rw [show (Str.ofString ";") = ⟨#[59]⟩ from by decide +kernel]
  rw [← h, Bool.not_not]
theorem keep_A {l : List Nat} (h : decide (mk9 l (((S l).length : Int) - 0).toNat = []) = true) : ((S l).length : Int) = (keepAt l : Nat) := by
  rw [mk9_eq, decide_eq_true_eq] at h
  unfold keepAt
  rw [if_neg (by rw [h]; simp), S_len]
theorem slice_mark {l : List Nat} : Txt.slice (S l) (some ((mk9 l (((S l).length : Int) - 0).toNat).getD (-1 + ((mk9 l (((S l).length : Int) - 0).toNat).length : Int)).toNat 0)) none = S (l.drop (lastMark l)) := by
  rw [mk9_eq, last_idx, (last_cast l).1, slice_sn _ _ (last_cast l).2]
theorem keep_B {l : List Nat} (h1 : decide (mk9 l (((S l).length : Int) - 0).toNat = []) = false)
    (h2 : (Builtin.Str.occurrences (Txt.slice (S l) (some ((mk9 l (((S l).length : Int) - 0).toNat).getD (-1 + ((mk9 l (((S l).length : Int) - 0).toNat).length : Int)).toNat 0)) none) (Str.ofString ";") 0 (Txt.slice (S l) (some ((mk9 l (((S l).length : Int) - 0).toNat).getD (-1 + ((mk9 l (((S l).length : Int) - 0).toNat).length : Int)).toNat 0)) none).length 1).isEmpty = true) :
    (mk9 l (((S l).length : Int) - 0).toNat).getD (-1 + ((mk9 l (((S l).length : Int) - 0).toNat).length : Int)).toNat 0 = (keepAt l : Nat) := by
  rw [semi_in, slice_mark, S_list] at h2
  rw [mk9_eq, decide_eq_false_iff_not] at h1
  rw [mk9_eq, last_idx, (last_cast l).1]
  unfold keepAt
  rw [if_pos ⟨h1, by simpa using h2⟩]
theorem keep_C {l : List Nat}
    (h2 : (Builtin.Str.occurrences (Txt.slice (S l) (some ((mk9 l (((S l).length : Int) - 0).toNat).getD (-1 + ((mk9 l (((S l).length : Int) - 0).toNat).length : Int)).toNat 0)) none) (Str.ofString ";") 0 (Txt.slice (S l) (some ((mk9 l (((S l).length : Int) - 0).toNat).getD (-1 + ((mk9 l (((S l).length : Int) - 0).toNat).length : Int)).toNat 0)) none).length 1).isEmpty = false) :
    ((S l).length : Int) = (keepAt l : Nat) := by
  rw [semi_in, slice_mark, S_list] at h2
  unfold keepAt
  rw [if_neg (by simp at h2; exact fun h => h.2 h2), S_len]
/-- the last edge, as the walk says it -/
abbrev edNow (ps : List (List Nat)) (i : Nat) (w : List Nat) : List Int := (edL (List.take i ps)).1 ++ [(edL (List.take i ps)).1.getD (-1 + ((edL (List.take i ps)).1.length : Int)).toNat 0 + ((S w).length : Int)]
theorem ed_turn {ps : List (List Nat)} {i : Nat} {w : List Nat} (hw : ps[i]? = some w) : edNow ps i w = (edL (ps.take (i + 1))).1 := by
  unfold edNow
  rw [last_idx, edL_last, take_snocL hw, edL_snoc, S_len, ← Int.natCast_add]
  rfl
theorem ed_last {ps : List (List Nat)} {i : Nat} {w : List Nat} (hw : ps[i]? = some w) : (edNow ps i w).getD (-1 + ((edNow ps i w).length : Int)).toNat 0 = ((edL (ps.take (i + 1))).2 : Nat) := by
  rw [ed_turn hw, last_idx, edL_last]
theorem told_eq {l t : List Nat} {kk : Int} (hk : kk = (keepAt l : Nat)) : S t ++ uneS (Txt.slice (S l) none (some kk)) = S (t ++ uneL (l.take (keepAt l))) := by
  rw [hk, slice_ns _ _ (keepAt_le l), uneS_S, S_app]
theorem left_eq {l : List Nat} {kk : Int} (hk : kk = (keepAt l : Nat)) : Txt.slice (S l) (some kk) none = S (l.drop (keepAt l)) := by
  rw [hk, slice_sn _ _ (keepAt_le l)]
theorem str_abs {x y : Str} (h : x = y) (h2 : (x != y) = true) : False := by subst h; simp at h2
theorem S_beq (a b : List Nat) : (S a == S b) = decide (a = b) := by
  by_cases h : a = b
  · subst h; simp
  · have h2 : S a ≠ S b := fun e => h (by rw [← S_list a, ← S_list b, e])
    rw [decide_eq_false h]
    exact beq_false_of_ne h2
theorem count_next {ps : List (List Nat)} {i : Nat} {w : List Nat} (hw : ps[i]? = some w) : (countL (ps.take (i + 1))).length = (countL (ps.take i)).length + 1 + w.length := by
  rw [take_snocL hw, countL_snoc]
  simp [oneCount]
  omega
theorem alone_next {ps : List (List Nat)} {i : Nat} {w : List Nat} (hw : ps[i]? = some w) : S (aloneL (ps.take i)) ++ S (uneL w) = S (aloneL (ps.take (i + 1))) := by
  rw [take_snocL hw, aloneL_snoc, S_app]
theorem led_back {g h : Heap} {L : Addr} {a0 a1 x1 x2 x3 x4 x5 x6 x7 l o : Addr × Obj} {t : List (Addr × Obj)} (N : News g L h (a0 :: a1 :: x1 :: x2 :: x3 :: x4 :: x5 :: x6 :: x7 :: l :: o :: t)) : News g L h (l :: o :: x1 :: x2 :: x3 :: x4 :: x5 :: x6 :: x7 :: t) := by
  refine cb_drop N (fun q hq => ?_)
  simp only [List.mem_cons] at hq ⊢
  rcases hq with h | h | h | h | h | h | h | h | h | h <;> simp [h]
/-- told, and what is said to have come -/
theorem told_law {ps : List (List Nat)} {i : Nat} {w ll lt xt : List Nat} (hw : ps[i]? = some w) (hll : ll = (bothL (ps.take i)).1) (hlt : lt = (bothL (ps.take i)).2)
    (hlaw : (bothL (ps.take (i + 1))).2 = (comeL ((edL (ps.take (i + 1))).2 : Nat) xt).1) {kk : Int} (hk : kk = (keepAt (ll ++ w) : Nat)) :
    S lt ++ uneS (Txt.slice (S (ll ++ w)) none (some kk)) = S (comeL ((edNow ps i w).getD (-1 + ((edNow ps i w).length : Int)).toNat 0) xt).1 := by
  rw [ed_last hw, ← hlaw, told_eq hk, take_snocL hw, bothL_snoc, hll, hlt]
  rfl
theorem both_next {ps : List (List Nat)} {i : Nat} {w ll lt : List Nat} (hw : ps[i]? = some w) (hll : ll = (bothL (ps.take i)).1) (hlt : lt = (bothL (ps.take i)).2) {kk : Int} (hk : kk = (keepAt (ll ++ w) : Nat)) :
    Txt.slice (S (ll ++ w)) (some kk) none = S (bothL (ps.take (i + 1))).1 ∧ S lt ++ uneS (Txt.slice (S (ll ++ w)) none (some kk)) = S (bothL (ps.take (i + 1))).2 := by
  rw [left_eq hk, told_eq hk, take_snocL hw, bothL_snoc, hll, hlt]
  exact ⟨rfl, rfl⟩
end Mine
end
section
open PySem PySem.W PyProof.Rows PySem.Spec PySem.Calls
namespace Mine
/-- a text, written with references -/
def refs (l : List Nat) : List Nat := (l.map refL).flatten
theorem refs_nil : refs [] = [] := rfl
theorem refs_cons (n : Nat) (l : List Nat) : refs (n :: l) = refL n ++ refs l := rfl
theorem refs_app (a b : List Nat) : refs (a ++ b) = refs a ++ refs b := by simp [refs]
/-- what stands wholly within the first e signs, and the part of a reference behind it -/
def spl : Nat → List Nat → List Nat × List Nat
  | _, [] => ([], [])
  | e, n :: r => if (refL n).length ≤ e then (n :: (spl (e - (refL n).length) r).1, (spl (e - (refL n).length) r).2) else ([], (refL n).take e)
theorem spl_take : ∀ (l : List Nat) (e : Nat), (refs l).take e = refs (spl e l).1 ++ (spl e l).2
  | [], e => by simp [refs, spl]
  | n :: r, e => by
    rw [refs_cons]
    unfold spl
    split
    · rename_i h
      rw [List.take_append, List.take_of_length_le h, spl_take r]
      simp only [refs_cons, List.append_assoc]
    · rename_i h
      rw [List.take_append_of_le_length (by omega)]
      rfl
theorem come_off (e : Nat) : ∀ (l : List Nat) (acc : List Nat) (off : Nat), e < off + 1 → (l.foldl (comeStep (e : Int)) (acc, off)).1 = acc
  | [], _, _, _ => rfl
  | n :: r, acc, off, h => by
    have hp := refL_len_pos n
    rw [List.foldl_cons]
    have e1 : comeStep (e : Int) (acc, off) n = (acc, off + (refL n).length) := by
      unfold comeStep
      dsimp only
      rw [if_neg (by omega)]
    rw [e1]
    exact come_off e r acc _ (by omega)
theorem come_spl' (e : Nat) : ∀ (l : List Nat) (acc : List Nat) (off : Nat), off ≤ e → (l.foldl (comeStep (e : Int)) (acc, off)).1 = acc ++ (spl (e - off) l).1
  | [], acc, off, h => by simp [spl]
  | n :: r, acc, off, h => by
    have hp := refL_len_pos n
    rw [List.foldl_cons]
    unfold spl
    by_cases h1 : (refL n).length ≤ e - off
    · have e1 : comeStep (e : Int) (acc, off) n = (acc ++ [n], off + (refL n).length) := by
        unfold comeStep
        dsimp only
        rw [if_pos (by omega)]
      rw [e1, if_pos h1, come_spl' e r _ _ (by omega), Nat.sub_sub]
      simp
    · have e1 : comeStep (e : Int) (acc, off) n = (acc, off + (refL n).length) := by
        unfold comeStep
        dsimp only
        rw [if_neg (by omega)]
      rw [e1, if_neg h1, come_off e r _ _ (by omega)]
      simp
theorem come_spl (e : Nat) (l : List Nat) : (comeL (e : Int) l).1 = (spl e l).1 := by
  have := come_spl' e l [] 0 (Nat.zero_le _)
  simpa [comeL] using this
theorem refL_cases (n : Nat) : n = 38 ∧ refL n = [38, 97, 109, 112, 59] ∨ n = 60 ∧ refL n = [38, 108, 116, 59] ∨ n = 62 ∧ refL n = [38, 103, 116, 59] ∨ n ≠ 38 ∧ n ≠ 60 ∧ n ≠ 62 ∧ refL n = [n] := by
  unfold refL
  by_cases h1 : n = 38
  · left; exact ⟨h1, by simp [h1]⟩
  · by_cases h2 : n = 60
    · right; left; exact ⟨h2, by simp [h2]⟩
    · by_cases h3 : n = 62
      · right; right; left; exact ⟨h3, by simp [h3]⟩
      · right; right; right; exact ⟨h1, h2, h3, by simp [h1, h2, h3]⟩
/-- a part of a reference that is still to come, in pieces -/
theorem part_cases (n e : Nat) (h : e < (refL n).length) : (refL n).take e = [] ∨ ∃ b, (refL n).take e = 38 :: b ∧ 38 ∉ b ∧ 59 ∉ b ∧ refs ((refL n).drop e) = (refL n).drop e := by
  rcases refL_cases n with ⟨_, hr⟩ | ⟨_, hr⟩ | ⟨_, hr⟩ | ⟨_, _, _, hr⟩
  all_goals rw [hr] at h ⊢
  · have : e = 0 ∨ e = 1 ∨ e = 2 ∨ e = 3 ∨ e = 4 := by simp at h; omega
    rcases this with rfl | rfl | rfl | rfl | rfl
    · left; rfl
    all_goals exact .inr ⟨_, rfl, by decide, by decide, by decide⟩
  · have : e = 0 ∨ e = 1 ∨ e = 2 ∨ e = 3 := by simp at h; omega
    rcases this with rfl | rfl | rfl | rfl
    · left; rfl
    all_goals exact .inr ⟨_, rfl, by decide, by decide, by decide⟩
  · have : e = 0 ∨ e = 1 ∨ e = 2 ∨ e = 3 := by simp at h; omega
    rcases this with rfl | rfl | rfl | rfl
    · left; rfl
    all_goals exact .inr ⟨_, rfl, by decide, by decide, by decide⟩
  · have : e = 0 := by simp at h; omega
    subst this
    left; rfl
def PartOk (z : List Nat) : Prop := z = [] ∨ ∃ b, z = 38 :: b ∧ 38 ∉ b ∧ 59 ∉ b
theorem PartOk.no {z : List Nat} (h : PartOk z) : 59 ∉ z := by
  rcases h with rfl | ⟨b, rfl, _, h2⟩
  · simp
  · simp [h2]
theorem spl_part : ∀ (l : List Nat) (e : Nat), PartOk (spl e l).2
  | [], e => .inl rfl
  | n :: r, e => by
    unfold spl
    split
    · exact spl_part r _
    · rename_i h
      rcases part_cases n e (by omega) with h1 | ⟨b, h1, h2, h3, _⟩
      · exact .inl h1
      · exact .inr ⟨b, h1, h2, h3⟩
/-- more signs come: the whole ones are those and more; a part that is still open is filled first -/
theorem spl_more : ∀ (l : List Nat) (e k : Nat), ∃ D, (spl (e + k) l).1 = (spl e l).1 ++ D ∧ ((spl e l).2 = [] ∨ D = [] ∨ ∃ n zs D', D = n :: D' ∧ refL n = (spl e l).2 ++ zs ∧ zs ≠ [] ∧ refs zs = zs ∧ (spl e l).2 ≠ [])
  | [], e, k => ⟨[], by simp [spl], .inr (.inl rfl)⟩
  | n :: r, e, k => by
    by_cases h : (refL n).length ≤ e
    · obtain ⟨D, h1, h2⟩ := spl_more r (e - (refL n).length) k
      refine ⟨D, ?_, ?_⟩
      · unfold spl
        rw [if_pos h, if_pos (by omega), show e + k - (refL n).length = e - (refL n).length + k from by omega, h1]
        rfl
      · unfold spl
        rw [if_pos h]
        exact h2
    · by_cases h3 : (refL n).length ≤ e + k
      · refine ⟨n :: (spl (e + k - (refL n).length) r).1, ?_, ?_⟩
        · have e1 : spl (e + k) (n :: r) = (n :: (spl (e + k - (refL n).length) r).1, (spl (e + k - (refL n).length) r).2) := by rw [spl, if_pos h3]
          have e2 : spl e (n :: r) = ([], (refL n).take e) := by rw [spl, if_neg h]
          rw [e1, e2]
          rfl
        · rcases part_cases n e (by omega) with h4 | ⟨b, h4, _, _, h5⟩
          · left
            unfold spl
            rw [if_neg h]
            exact h4
          · refine .inr (.inr ⟨n, (refL n).drop e, _, rfl, ?_, ?_, h5, ?_⟩)
            · unfold spl
              rw [if_neg h]
              exact (List.take_append_drop e (refL n)).symm
            · intro h6
              have := List.drop_eq_nil_iff.mp h6
              omega
            · unfold spl
              rw [if_neg h]
              show (refL n).take e ≠ []
              rw [h4]
              exact fun h7 => nomatch h7
      · refine ⟨[], ?_, .inr (.inl rfl)⟩
        unfold spl
        rw [if_neg h, if_neg h3]
        rfl
/-- one replace over a written text -/
theorem rp_none {y z : List Nat} (hy : 59 ∈ y) : ∀ (l : List Nat), 59 ∉ l → rp y z 0 l = l
  | [], _ => rfl
  | c :: r, h => by
    have h9 : ¬ y.isPrefixOf (c :: r) = true := fun h2 => h ((List.isPrefixOf_iff_prefix.mp h2).subset hy)
    rw [rp, if_neg h9, rp_none hy r (fun h3 => h (List.mem_cons_of_mem _ h3))]
theorem rp_pass {y z : List Nat} (f g : Nat → List Nat) (hf : ∀ n t, rp y z 0 (f n ++ t) = g n ++ rp y z 0 t) (t : List Nat) : ∀ l : List Nat, rp y z 0 ((l.map f).flatten ++ t) = (l.map g).flatten ++ rp y z 0 t
  | [] => rfl
  | n :: r => by
    simp only [List.map_cons, List.flatten_cons, List.append_assoc]
    rw [hf, rp_pass f g hf t r]
def refB (n : Nat) : List Nat := if n = 60 then [60] else refL n
def refC (n : Nat) : List Nat := if n = 62 then [62] else refB n
theorem une_refs (l z : List Nat) (hz : 59 ∉ z) : uneL (refs l ++ z) = l ++ z := by
  have p1 : ∀ n t, rp [38, 108, 116, 59] [60] 0 (refL n ++ t) = refB n ++ rp [38, 108, 116, 59] [60] 0 t := by
    intro n t
    unfold refB
    rcases refL_cases n with ⟨hn, hr⟩ | ⟨hn, hr⟩ | ⟨hn, hr⟩ | ⟨h1, h2, h3, hr⟩
    · subst hn; rw [hr]; simp [rp, List.isPrefixOf]
    · subst hn; rw [hr]; simp [rp, List.isPrefixOf]
    · subst hn; rw [hr]; simp [rp, List.isPrefixOf]
    · rw [hr, if_neg h2]
      have h4 : ¬ 38 = n := fun e => h1 e.symm
      simp [rp, List.isPrefixOf, h4]
  have p2 : ∀ n t, rp [38, 103, 116, 59] [62] 0 (refB n ++ t) = refC n ++ rp [38, 103, 116, 59] [62] 0 t := by
    intro n t
    unfold refC refB
    rcases refL_cases n with ⟨hn, hr⟩ | ⟨hn, hr⟩ | ⟨hn, hr⟩ | ⟨h1, h2, h3, hr⟩
    · subst hn; rw [hr]; simp [rp, List.isPrefixOf]
    · subst hn; simp [rp, List.isPrefixOf]
    · subst hn; rw [hr]; simp [rp, List.isPrefixOf]
    · rw [hr, if_neg h2, if_neg h3]
      have h4 : ¬ 38 = n := fun e => h1 e.symm
      simp [rp, List.isPrefixOf, h4]
  have p3 : ∀ n t, rp [38, 97, 109, 112, 59] [38] 0 (refC n ++ t) = [n] ++ rp [38, 97, 109, 112, 59] [38] 0 t := by
    intro n t
    unfold refC refB
    rcases refL_cases n with ⟨hn, hr⟩ | ⟨hn, hr⟩ | ⟨hn, hr⟩ | ⟨h1, h2, h3, hr⟩
    · subst hn; rw [hr]; simp [rp, List.isPrefixOf]
    · subst hn; simp [rp, List.isPrefixOf]
    · subst hn; simp [rp, List.isPrefixOf]
    · rw [hr, if_neg h2, if_neg h3]
      have h4 : ¬ 38 = n := fun e => h1 e.symm
      simp [rp, List.isPrefixOf, h4]
  unfold uneL refs
  rw [rp_pass _ _ p1, rp_none (by decide) z hz, rp_pass _ _ p2, rp_none (by decide) z hz, rp_pass _ _ p3, rp_none (by decide) z hz]
  congr 1
  induction l with
  | nil => rfl
  | cons a r ih => simp only [List.map_cons, List.flatten_cons, ih]; rfl
/-- the places of & -/
theorem rangeKs_snoc (n : Nat) : rangeKs 0 (n + 1) = rangeKs 0 n ++ [(n : Int)] := by
  unfold rangeKs
  rw [List.range_succ, List.map_append]
  simp
theorem marks_go (p q : Int → Prop) [DecidablePred p] [DecidablePred q] : ∀ (ks m : List Int), (∀ k ∈ ks, (p k ↔ q k)) → ks.foldl (fun m k => if p k then m ++ [k] else m) m = ks.foldl (fun m k => if q k then m ++ [k] else m) m
  | [], _, _ => rfl
  | k :: r, m, h => by
    simp only [List.foldl_cons]
    have h1 := h k List.mem_cons_self
    by_cases hp : p k
    · rw [if_pos hp, if_pos (h1.mp hp)]; exact marks_go p q r _ (fun k hk => h k (List.mem_cons_of_mem _ hk))
    · rw [if_neg hp, if_neg (fun hq => hp (h1.mpr hq))]; exact marks_go p q r _ (fun k hk => h k (List.mem_cons_of_mem _ hk))
theorem marks_snoc (l : List Nat) (n : Nat) : marksL (l ++ [n]) = marksL l ++ if n = 38 then [(l.length : Int)] else [] := by
  unfold marksL
  rw [List.length_append, List.length_singleton, rangeKs_snoc, List.foldl_append]
  rw [marks_go (fun k => (l ++ [n]).getD k.toNat 0 = 38) (fun k => l.getD k.toNat 0 = 38) (rangeKs 0 l.length) [] (fun k hk => by
    have h9 := mem_rangeKs hk
    have h8 : k.toNat < l.length := by omega
    show (l ++ [n]).getD k.toNat 0 = 38 ↔ l.getD k.toNat 0 = 38
    rw [List.getD_eq_getElem?_getD, List.getD_eq_getElem?_getD, List.getElem?_append_left h8])]
  have e : (l ++ [n]).getD l.length 0 = n := by simp [List.getD_eq_getElem?_getD]
  simp only [List.foldl_cons, List.foldl_nil, Int.toNat_natCast, e]
  split <;> simp
theorem marks_app (a : List Nat) : ∀ (b : List Nat), 38 ∉ b → marksL (a ++ b) = marksL a := by
  intro b
  generalize hr : b.reverse = rb
  induction rb generalizing b with
  | nil =>
    intro _
    have : b = [] := by simpa using hr
    rw [this, List.append_nil]
  | cons n r ih =>
    intro h
    have e : b = r.reverse ++ [n] := by
      have := congrArg List.reverse hr
      simpa using this
    rw [e] at h ⊢
    rw [← List.append_assoc, marks_snoc, ih r.reverse (by simp) (fun h2 => h (List.mem_append_left _ h2)), if_neg (fun h2 => h (by simp [h2])), List.append_nil]
theorem marks_none (b : List Nat) (h : 38 ∉ b) : marksL b = [] := by
  have := marks_app [] b h
  rw [List.nil_append] at this
  rw [this]; rfl
theorem marks_last (a b : List Nat) (h : 38 ∉ b) : marksL (a ++ 38 :: b) = marksL a ++ [(a.length : Int)] := by
  have e : a ++ 38 :: b = (a ++ [38]) ++ b := by simp
  rw [e, marks_app _ _ h, marks_snoc, if_pos rfl]
theorem last_of (a b : List Nat) (h : 38 ∉ b) : lastMark (a ++ 38 :: b) = a.length := by
  unfold lastMark
  rw [marks_last a b h]
  simp
theorem refs_marks (l : List Nat) : 38 ∉ refs l ∨ ∃ a b, refs l = a ++ 38 :: b ∧ 38 ∉ b ∧ 59 ∈ b := by
  generalize hr : l.reverse = rl
  induction rl generalizing l with
  | nil =>
    have : l = [] := by simpa using hr
    rw [this]; left; simp [refs]
  | cons n r ih =>
    have e : l = r.reverse ++ [n] := by
      have := congrArg List.reverse hr
      simpa using this
    rw [e, refs_app, refs_cons, refs_nil, List.append_nil]
    rcases refL_cases n with ⟨hn, hr⟩ | ⟨hn, hr⟩ | ⟨hn, hr⟩ | ⟨h1, h2, h3, hr⟩
    · exact .inr ⟨_, _, by rw [hr], by decide, by decide⟩
    · exact .inr ⟨_, _, by rw [hr], by decide, by decide⟩
    · exact .inr ⟨_, _, by rw [hr], by decide, by decide⟩
    · rcases ih r.reverse (by simp) with h | ⟨a, b, h4, h5, h6⟩
      · left; rw [hr]; simp only [List.mem_append, List.mem_singleton, not_or]; exact ⟨h, fun e => h1 e.symm⟩
      · right
        refine ⟨a, b ++ [n], by rw [h4, hr]; simp, ?_, by simp [h6]⟩
        simp only [List.mem_append, List.mem_singleton, not_or]; exact ⟨h5, fun e => h1 e.symm⟩
theorem keep_refs (D z : List Nat) (hz : PartOk z) : keepAt (refs D ++ z) = (refs D).length := by
  rcases hz with rfl | ⟨b, rfl, h1, h2⟩
  · rw [List.append_nil]
    unfold keepAt
    rw [if_neg]
    rintro ⟨h3, h4⟩
    rcases refs_marks D with h | ⟨a, b, h5, h6, h7⟩
    · exact h3 (marks_none _ h)
    · rw [h5, last_of a b h6, List.drop_left] at h4
      exact h4 (List.mem_cons_of_mem _ h7)
  · unfold keepAt
    rw [if_pos, last_of _ _ h1]
    rw [last_of _ _ h1, List.drop_left, marks_last _ _ h1]
    refine ⟨by simp, ?_⟩
    simp [h2]
theorem both_spl (l : List Nat) : ∀ (rs : List (List Nat)), rs.reverse.flatten <+: refs l → bothL rs.reverse = ((spl rs.reverse.flatten.length l).2, (spl rs.reverse.flatten.length l).1)
  | [], _ => by
    cases l with
    | nil => rfl
    | cons n r =>
      have := refL_len_pos n
      simp only [List.reverse_nil, List.flatten_nil, List.length_nil]
      unfold spl
      rw [if_neg (by omega)]
      rfl
  | w :: r, h => by
    rw [List.reverse_cons, List.flatten_append, List.flatten_cons, List.flatten_nil, List.append_nil] at h ⊢
    have ih := both_spl l r ((List.prefix_append _ _).trans h)
    rw [bothL_snoc, ih, List.length_append]
    generalize hq : r.reverse.flatten = q at h ⊢
    obtain ⟨D, h1, _⟩ := spl_more l q.length w.length
    have h2 : q = refs (spl q.length l).1 ++ (spl q.length l).2 := by
      rw [← spl_take]
      exact List.prefix_iff_eq_take.mp ((List.prefix_append _ _).trans h)
    have h3 : q ++ w = refs (spl (q.length + w.length) l).1 ++ (spl (q.length + w.length) l).2 := by
      rw [← spl_take, ← List.length_append]
      exact List.prefix_iff_eq_take.mp h
    have h4 : (spl q.length l).2 ++ w = refs D ++ (spl (q.length + w.length) l).2 := by
      rw [h1, refs_app] at h3
      conv at h3 => lhs; rw [h2]
      rw [List.append_assoc, List.append_assoc] at h3
      exact List.append_cancel_left h3
    unfold bothStep
    dsimp only
    rw [h4, keep_refs _ _ (spl_part _ _), List.drop_left, List.take_left, h1]
    have h5 := une_refs D [] (by simp)
    rw [List.append_nil, List.append_nil] at h5
    rw [h5]
theorem both_law (l : List Nat) (qs : List (List Nat)) (h : qs.flatten <+: refs l) : (bothL qs).2 = (comeL ((edL qs).2 : Nat) l).1 := by
  have := both_spl l qs.reverse (by rw [List.reverse_reverse]; exact h)
  rw [List.reverse_reverse] at this
  rw [this, come_spl, edL_sum]
/-- the torn references -/
def tw (es : List Int) : Nat → List Nat → List Nat
  | _, [] => []
  | off, n :: r => (if cutsIn es (off : Int) ((off + (refL n).length : Nat) : Int) = true then refL n else [n]) ++ tw es (off + (refL n).length) r
theorem torn_tw (es : List Int) : ∀ (l acc : List Nat) (off : Nat), (l.foldl (tornStep es) (acc, off)).1 = acc ++ tw es off l
  | [], acc, off => by simp [tw]
  | n :: r, acc, off => by
    rw [List.foldl_cons]
    show (r.foldl (tornStep es) (acc ++ _, off + _)).1 = _
    rw [torn_tw es r, List.append_assoc]
    rfl
theorem tw_app (es : List Int) : ∀ (a b : List Nat) (off : Nat), tw es off (a ++ b) = tw es off a ++ tw es (off + (refs a).length) b
  | [], b, off => by simp [tw, refs]
  | n :: r, b, off => by
    rw [List.cons_append, tw, tw_app es r, tw, refs_cons, List.length_append, List.append_assoc, Nat.add_assoc]
theorem tw_none (es : List Int) : ∀ (l : List Nat) (off : Nat), (∀ e ∈ es, e ≤ (off : Int) ∨ ((off + (refs l).length : Nat) : Int) ≤ e) → tw es off l = l
  | [], _, _ => rfl
  | n :: r, off, h => by
    rw [refs_cons, List.length_append] at h
    have hp := refL_len_pos n
    have h1 : ¬ cutsIn es (off : Int) ((off + (refL n).length : Nat) : Int) = true := by
      intro h2
      obtain ⟨e, he, h3⟩ := List.any_eq_true.mp h2
      simp only [Bool.and_eq_true, decide_eq_true_eq] at h3
      have := h e he
      omega
    rw [tw, if_neg h1, tw_none es r (off + (refL n).length) (fun e he => by have := h e he; omega)]
    rfl
theorem tw_more (es : List Int) (e' : Int) : ∀ (l : List Nat) (off : Nat), ((off + (refs l).length : Nat) : Int) ≤ e' → tw (es ++ [e']) off l = tw es off l
  | [], _, _ => rfl
  | n :: r, off, h => by
    rw [refs_cons, List.length_append] at h
    have h1 : cutsIn (es ++ [e']) (off : Int) ((off + (refL n).length : Nat) : Int) = cutsIn es (off : Int) ((off + (refL n).length : Nat) : Int) := by
      unfold cutsIn
      rw [List.any_append]
      have : ([e'].any fun e => decide ((off : Int) < e) && decide (e < ((off + (refL n).length : Nat) : Int))) = false := by
        simp only [List.any_cons, List.any_nil, Bool.or_false, Bool.and_eq_false_iff, decide_eq_false_iff_not]
        right; omega
      rw [this, Bool.or_false]
    rw [tw, h1, tw_more es e' r _ (by omega), tw]
theorem ed_bound : ∀ (rs : List (List Nat)), (∀ e ∈ (edL rs.reverse).1, e ≤ ((edL rs.reverse).2 : Int)) ∧ ((edL rs.reverse).2 : Int) ∈ (edL rs.reverse).1
  | [] => by simp [edL]
  | w :: r => by
    have ih := ed_bound r
    rw [List.reverse_cons, edL_snoc]
    unfold edStep
    dsimp only
    refine ⟨fun e he => ?_, by simp⟩
    rcases List.mem_append.mp he with h | h
    · have := ih.1 e h; omega
    · have := List.mem_singleton.mp h; omega
theorem alone_spl (l : List Nat) : ∀ (rs : List (List Nat)), rs.reverse.flatten <+: refs l →
    aloneL rs.reverse = tw (edL rs.reverse).1 0 (spl rs.reverse.flatten.length l).1 ++ (spl rs.reverse.flatten.length l).2
  | [], _ => by
    cases l with
    | nil => rfl
    | cons n r =>
      have := refL_len_pos n
      simp only [List.reverse_nil, List.flatten_nil, List.length_nil]
      unfold spl
      rw [if_neg (by omega)]
      rfl
  | w :: r, h => by
    have hb := ed_bound r
    rw [edL_sum] at hb
    rw [List.reverse_cons] at *
    rw [edL_snoc]
    unfold edStep
    dsimp only
    rw [edL_sum]
    rw [List.flatten_append, List.flatten_cons, List.flatten_nil, List.append_nil] at h ⊢
    have ih := alone_spl l r ((List.prefix_append _ _).trans h)
    rw [aloneL_snoc, ih, List.length_append]
    generalize hq : r.reverse.flatten = q at *
    obtain ⟨D, h1, hc⟩ := spl_more l q.length w.length
    have hz := spl_part l q.length
    have hz' := spl_part l (q.length + w.length)
    have h2 : q = refs (spl q.length l).1 ++ (spl q.length l).2 := by
      rw [← spl_take]
      exact List.prefix_iff_eq_take.mp ((List.prefix_append _ _).trans h)
    have h3 : q ++ w = refs (spl (q.length + w.length) l).1 ++ (spl (q.length + w.length) l).2 := by
      rw [← spl_take, ← List.length_append]
      exact List.prefix_iff_eq_take.mp h
    have h4 : (spl q.length l).2 ++ w = refs D ++ (spl (q.length + w.length) l).2 := by
      rw [h1, refs_app] at h3
      conv at h3 => lhs; rw [h2]
      rw [List.append_assoc, List.append_assoc] at h3
      exact List.append_cancel_left h3
    have hl1 : q.length = (refs (spl q.length l).1).length + (spl q.length l).2.length := by
      have := congrArg List.length h2
      rwa [List.length_append] at this
    have hl2 : (spl q.length l).2.length + w.length = (refs D).length + (spl (q.length + w.length) l).2.length := by
      have := congrArg List.length h4
      rwa [List.length_append, List.length_append] at this
    rw [h1]
    generalize spl q.length l = sp at *
    generalize spl (q.length + w.length) l = sq at *
    generalize (edL r.reverse).1 = es at *
    obtain ⟨T1, z⟩ := sp
    obtain ⟨T2, z'⟩ := sq
    dsimp only at *
    have hq2 : (q.length : Int) = ((refs T1).length : Int) + (z.length : Int) := by omega
    rw [tw_app, tw_more _ _ T1 0 (by omega), List.append_assoc, List.append_assoc]
    congr 1
    rw [Nat.zero_add]
    rcases hc with rfl | rfl | ⟨n, zs, D', rfl, hr, hzs, hrz, hzn⟩
    · rw [List.nil_append] at h4 ⊢
      rw [List.length_nil] at *
      rw [h4, une_refs D z' hz'.no, tw_none]
      intro e he
      rcases List.mem_append.mp he with h9 | h9
      · have := hb.1 e h9; omega
      · have h8 := List.mem_singleton.mp h9; rw [List.length_append] at h8; omega
    · have h5 : z ++ w = z' := h4
      have h6 : 59 ∉ w := fun h7 => hz'.no (by rw [← h5]; exact List.mem_append_right _ h7)
      have h7 := une_refs [] w h6
      rw [refs_nil, List.nil_append] at h7
      rw [h7, h5]
      rfl
    · rw [refs_cons, hr, List.append_assoc, List.append_assoc] at h4
      have h5 := List.append_cancel_left h4
      have h6 := une_refs (zs ++ D') z' hz'.no
      rw [refs_app, hrz, List.append_assoc] at h6
      rw [h5, h6]
      have hzl : 0 < zs.length := List.length_pos_iff.mpr hzs
      have hrl : (refL n).length = z.length + zs.length := by rw [hr, List.length_append]
      rw [refs_cons, List.length_append] at hl2
      rw [tw]
      have hz0 : 0 < z.length := List.length_pos_iff.mpr hzn
      have hcut : cutsIn (es ++ [((q.length + (zs ++ (refs D' ++ z')).length : Nat) : Int)]) ((refs T1).length : Int) (((refs T1).length + (refL n).length : Nat) : Int) = true := by
        refine List.any_eq_true.mpr ⟨(q.length : Int), List.mem_append_left _ hb.2, ?_⟩
        simp only [Bool.and_eq_true, decide_eq_true_eq]
        omega
      rw [if_pos hcut, tw_none, hr]
      · simp
      · intro e he
        rcases List.mem_append.mp he with h9 | h9
        · have := hb.1 e h9; omega
        · have := List.mem_singleton.mp h9
          rw [h5] at hl2
          omega
theorem spl_all : ∀ l : List Nat, spl (refs l).length l = (l, [])
  | [] => rfl
  | n :: r => by
    unfold spl
    rw [refs_cons, List.length_append, if_pos (by omega), Nat.add_sub_cancel_left, spl_all r]
theorem alone_law (l : List Nat) (ps : List (List Nat)) (h : ps.flatten = refs l) : aloneL ps = (tornL (edL ps).1 l).1 := by
  have := alone_spl l ps.reverse (by rw [List.reverse_reverse, h]; exact List.prefix_refl _)
  rw [List.reverse_reverse, h, spl_all] at this
  rw [this]
  unfold tornL
  rw [torn_tw]
  simp
end Mine
end
section
open PySem PySem.W PyProof.Rows PySem.Spec PySem.Calls
namespace Mine
theorem strs_carried : ∀ {ys : List Value} {zs : List Str}, StrsAre ys zs → CarriedAll ys (zs.map PyData.str)
  | _, _, .nil => .nil
  | _, _, .cons _ _ h => .cons (.str _ _) (strs_carried h)
theorem foldl_app (ws : List (List Nat)) (a : List Nat) : ws.foldl (fun acc p => acc ++ p) a = a ++ ws.flatten := by
  induction ws generalizing a with
  | nil => simp
  | cons w r ih => simp [ih]
theorem app_nothing (a b : Str) : a ++ Str.ofString "" ++ b = a ++ b := by
  rw [← S_nil, ← S_self a, ← S_self b, S_app, S_app, S_app, List.append_nil]
theorem join_text : ∀ (ws : List (List Nat)), Txt.join (Str.ofString "") (ws.map S) = S ws.flatten := by
  intro ws
  show Builtin.Str.glued (Str.ofString "") (ws.map S) = S ws.flatten
  rw [StrLaws.glued_eq_join]
  induction ws with
  | nil => rw [List.flatten_nil, S_nil]; rfl
  | cons w r ih =>
    cases r with
    | nil => rw [List.flatten_cons, List.flatten_nil, List.append_nil]; rfl
    | cons y q =>
      rw [List.flatten_cons, ← S_app, ← ih]
      exact app_nothing _ _
section
variable {prog : Program} {w : World} {A : Around} {E : Value → Shared → Prop} {s : Shared} {h₀ : Heap} {L : Addr} {m : Str → Option Value}
theorem join_S {D : Addr} {ys : List Value} {n : Nat} {ls : List (List Nat)} {t : Tok} {news : List (Addr × Obj)} {Q : Value → Shared → Prop} (N : News h₀ L s.heap news) (hm : (D, listOf ys.toArray n) ∈ news) (hc : StrsAre ys (ls.map S))
    (hB : ∀ w ∈ ls, w.length ≤ 10) (hn : ls.length ≤ 1048576) (h : ∀ t' k, Q (.str (S ls.flatten) t') { s with toks := k }) :
    wpAny (model prog w) A (call (.builtin "str.join") [.str (Str.ofString "") t, .ref D]) Q E s := by
  refine KT.join_B (l := ls) (g := S) 10 (News.isList N hm) (by have := strs_carried hc; rwa [List.map_map] at this) (fun a ha => by rw [S_len]; exact hB a ha) hn (by decide) ?_
  intro t' k
  rw [join_text]
  exact h t' k
end
theorem item_S {l : List Nat} {k : Int} (h0 : 0 ≤ k) (h1 : k < l.length) : Txt.item (S l) k = S [l.getD k.toNat 0] := by
  obtain ⟨n, rfl⟩ := Int.eq_ofNat_of_zero_le h0
  have hn : n < l.length := by omega
  have e : Txt.item (S l) (n : Int) = ⟨#[l.getD n 0]⟩ := by
    unfold Txt.item
    congr 2
    have h2 : (S l).cps[n]? = some l[n] := by
      show l.toArray[n]? = _
      simp [hn]
    unfold Txt.charAt
    rw [StrLaws.at_nonneg h0 (by simpa using h2)]
    simp [List.getD_eq_getElem?_getD, hn]
  rw [e, Int.toNat_natCast]
  rfl
/-- the sign of a number -/
def sgn (k : Int) : Nat := [38, 60, 62, 108, 116, 59].getD (Int.fmod k 6).toNat 0
def sgnL (ks : List Int) : List (List Nat) := ks.map fun k => [sgn k]
theorem sgnL_len (ks : List Int) : (sgnL ks).flatten.length = ks.length := by
  induction ks with
  | nil => rfl
  | cons k r ih => simp only [sgnL, List.map_cons, List.flatten_cons, List.length_append, List.length_cons, List.length_nil] at *; omega
theorem item_sgn (k : Int) : Txt.item (Str.ofString "&<>lt;") (Int.fmod k 6) = S [sgn k] := by
  have e : Str.ofString "&<>lt;" = S [38, 60, 62, 108, 116, 59] := by decide +kernel
  rw [e]
  refine item_S (Int.fmod_nonneg_of_pos k (by decide)) ?_
  exact Int.fmod_lt_of_pos k (by decide)
theorem strs_signs {ys : List Value} {ks : List Int} (h : StrsAre ys (ks.map fun k => Txt.item (Str.ofString "&<>lt;") (Int.fmod k 6))) : StrsAre ys ((sgnL ks).map S) := by
  unfold sgnL
  rw [List.map_map]
  have e : (fun k => Txt.item (Str.ofString "&<>lt;") (Int.fmod k 6)) = S ∘ (fun k => [sgn k]) := by
    funext k; exact item_sgn k
  rw [← e]; exact h
theorem strs_refs {ys : List Value} {l : List Nat} (h : StrsAre ys (l.map fun a => S (refL a))) : StrsAre ys ((l.map refL).map S) := by
  rw [List.map_map]; exact h
theorem ints_abs {vs : List Value} {ns : List Int} (h : IntsAre vs ns) : ∃ ks, ks = ns ∧ IntsAre vs ks ∧ vs.length = ks.length := ⟨ns, rfl, h, h.length⟩
theorem refL_le (n : Nat) : (refL n).length ≤ 5 := by
  unfold refL
  repeat' split
  all_goals simp
theorem rp_one (c : Nat) (z : List Nat) : ∀ l, rp [c] z 0 l = l.flatMap fun x => if x = c then z else [x]
  | [] => rfl
  | x :: r => by
    rw [List.flatMap_cons, ← rp_one c z r]
    have e : rp [c] z 0 (x :: r) = if [c].isPrefixOf (x :: r) = true then z ++ rp [c] z ([c].length - 1) r else x :: rp [c] z 0 r := by rw [rp]
    rw [e]
    by_cases h : x = c
    · subst h; simp
    · rw [if_neg h, if_neg (by simpa using fun e => h e.symm)]
      rfl
theorem esc_flat (l : List Nat) : escL l = (l.map refL).flatten := by
  unfold escL
  rw [rp_one, rp_one, rp_one, List.flatMap_assoc, List.flatMap_assoc, ← List.flatMap_def]
  congr 1
  funext x
  unfold refL
  by_cases h1 : x = 38
  · subst h1; rfl
  · by_cases h2 : x = 60
    · subst h2; rfl
    · by_cases h3 : x = 62
      · subst h3; rfl
      · simp [h1, h2, h3]
theorem escS_refs (l : List Nat) : escS (S l) = S (l.map refL).flatten := by rw [escS_S, esc_flat]
theorem news_two {g h : Heap} {L : Addr} {news : List (Addr × Obj)} {a b : Addr × Obj} (N : News g L h news) (ha : a ∈ news) (hb : b ∈ news) : News g L h [a, b] := by
  refine cb_drop N (fun q hq => ?_)
  rcases List.mem_cons.mp hq with h | h
  · exact h ▸ ha
  · exact List.mem_singleton.mp h ▸ hb
theorem refs_len (l : List Nat) : (l.map refL).flatten.length ≤ 5 * l.length := by
  induction l with
  | nil => simp
  | cons a r ih =>
    have h := refL_le a
    simp only [List.map_cons, List.flatten_cons, List.length_append, List.length_cons]
    omega
theorem pc_flat (w : List Nat) : ∀ (ks : List Int) (c : List (List Nat) × Nat), c.1.flatten ++ w.drop c.2 = w → (ks.foldl (pcStep w) c).1.flatten ++ w.drop (ks.foldl (pcStep w) c).2 = w
  | [], _, h => h
  | k :: r, c, h => by
    refine pc_flat w r _ ?_
    unfold pcStep
    dsimp only
    rw [List.flatten_append, List.flatten_cons, List.flatten_nil, List.append_nil, List.append_assoc]
    have e : (w.drop c.2).take k.toNat ++ w.drop (c.2 + ((w.drop c.2).take k.toNat).length) = w.drop c.2 := by
      rw [← List.drop_drop, List.length_take]
      by_cases hk : k.toNat ≤ (w.drop c.2).length
      · rw [Nat.min_eq_left hk, List.take_append_drop]
      · rw [Nat.min_eq_right (by omega), List.drop_length, List.append_nil, List.take_of_length_le (by omega)]
    rw [e]
    exact h
theorem pcL_flat (w : List Nat) (ks : List Int) : (pcL w ks).1.flatten ++ w.drop (pcL w ks).2 = w := pc_flat w ks _ rfl
theorem pieces_flat (w : List Nat) (ks : List Int) : (piecesL w ks).flatten = w := by
  unfold piecesL
  rw [List.flatten_append, List.flatten_cons, List.flatten_nil, List.append_nil]
  exact pcL_flat w ks
theorem pieces_len (w : List Nat) (ks : List Int) : (piecesL w ks).length = ks.length + 1 := by
  unfold piecesL
  rw [List.length_append, pcL_count]; rfl
theorem mem_flat {ps : List (List Nat)} {w : List Nat} (h : w ∈ ps) : w.length ≤ ps.flatten.length := by
  induction ps with
  | nil => cases h
  | cons a r ih =>
    simp only [List.flatten_cons, List.length_append]
    rcases List.mem_cons.mp h with rfl | h
    · omega
    · have := ih h; omega
theorem sizes_ok {vs : List Int} {ks : List Int} (h : ks = vs.map (fun k => Int.fmod k 36)) : ∀ e ∈ [3] ++ ks.map (fun k => Int.fdiv k 6), 0 ≤ e ∧ e ≤ 1000 := by
  intro e he
  rcases List.mem_cons.mp he with rfl | he
  · decide
  · obtain ⟨k, hk, rfl⟩ := List.mem_map.mp he
    rw [h] at hk
    obtain ⟨v, _, rfl⟩ := List.mem_map.mp hk
    have h1 := Int.fmod_nonneg_of_pos v (by decide : (0:Int) < 36)
    have h2 := Int.fmod_lt_of_pos v (by decide : (0:Int) < 36)
    rw [Int.fdiv_eq_ediv_of_nonneg _ (by decide : (0:Int) ≤ 6)]
    omega
theorem countL_length (ps : List (List Nat)) : (countL ps).length = ps.length + ps.flatten.length := by
  induction ps with
  | nil => rfl
  | cons a r ih => simp only [countL, List.flatMap_cons, List.length_append, List.flatten_cons, List.length_cons, oneCount, List.length_map] at *; omega
theorem sgn_lt (k : Int) : sgn k < 128 := by
  unfold sgn
  have h1 := Int.fmod_nonneg_of_pos k (by decide : (0:Int) < 6)
  have h2 := Int.fmod_lt_of_pos k (by decide : (0:Int) < 6)
  generalize Int.fmod k 6 = j at *
  obtain ⟨n, rfl⟩ := Int.eq_ofNat_of_zero_le h1
  rw [Int.toNat_natCast]
  have h3 : n < 6 := by omega
  revert h3
  clear h1 h2
  revert n
  decide
theorem text_lt (ks : List Int) : ∀ c ∈ 60 :: 38 :: (sgnL ks).flatten, c < 128 := by
  intro c hc
  rcases List.mem_cons.mp hc with rfl | hc
  · decide
  rcases List.mem_cons.mp hc with rfl | hc
  · decide
  obtain ⟨l, hl, hc⟩ := List.mem_flatten.mp hc
  obtain ⟨k, _, rfl⟩ := List.mem_map.mp hl
  rw [List.mem_singleton.mp hc]
  exact sgn_lt k
theorem refs_lt {l : List Nat} (h : ∀ c ∈ l, c < 128) : ∀ c ∈ (l.map refL).flatten, c < 128 := by
  intro c hc
  obtain ⟨w, hw, hc⟩ := List.mem_flatten.mp hc
  obtain ⟨k, hk, rfl⟩ := List.mem_map.mp hw
  have h9 := h k hk
  revert hc
  unfold refL
  repeat' split
  all_goals (intro hc; simp only [List.mem_cons, List.not_mem_nil, or_false] at hc; omega)
theorem count_ok {ps : List (List Nat)} (h1 : ∀ w ∈ ps, w.length ≤ 70) (h2 : ∀ c ∈ ps.flatten, c < 128) : ∀ n ∈ countL ps ++ [4, 38, 108, 116], 0 ≤ n ∧ n < 256 := by
  intro n hn
  rcases List.mem_append.mp hn with hn | hn
  · obtain ⟨w, hw, hn⟩ := List.mem_flatMap.mp hn
    rcases List.mem_cons.mp hn with rfl | hn
    · have := h1 w hw; omega
    · obtain ⟨c, hc, rfl⟩ := List.mem_map.mp hn
      have := h2 c (List.mem_flatten.mpr ⟨w, hw, hc⟩)
      simp only [Int.ofNat_eq_natCast]; omega
  · simp only [List.mem_cons, List.not_mem_nil, or_false] at hn; omega
theorem bytes_made : ∀ {ns : List Int}, AllB ns → ∃ b, b = (ns.map fun n => n.toNat.toUInt8).toArray ∧ KBw.bInts b = ns ∧ b.size = ns.length := by
  intro ns h
  refine ⟨_, rfl, ?_, by simp⟩
  induction ns with
  | nil => rfl
  | cons n r ih =>
    have e := ih h.tail
    unfold KBw.bInts at *
    simp only [List.map_cons, List.map_map] at *
    rw [h.head, e]
/-- what unescape has told behind each piece -/
theorem law_both (l : List Nat) (ks : List Int) (i : Nat) (w : List Nat) (hw : (piecesL (l.map refL).flatten ks)[i]? = some w) :
    (bothL ((piecesL (l.map refL).flatten ks).take (i + 1))).2 = (comeL ((edL ((piecesL (l.map refL).flatten ks).take (i + 1))).2 : Nat) l).1 := by
  refine both_law l _ ?_
  have h := pieces_flat (l.map refL).flatten ks
  have h2 := congrArg List.flatten (List.take_append_drop (i + 1) (piecesL (l.map refL).flatten ks))
  rw [List.flatten_append, h] at h2
  exact ⟨_, h2⟩
theorem law_alone (l : List Nat) (ks : List Int) : decide (aloneL (piecesL (l.map refL).flatten ks) = (tornL (edL (piecesL (l.map refL).flatten ks)).1 l).1) = true := decide_eq_true (alone_law l _ (pieces_flat (l.map refL).flatten ks))
theorem short_count {b : Array UInt8} {l : List Int} {n : Nat} {r : List Int} (h : KBw.bInts b = l ++ (n : Int) :: r) : (b.toList.getD l.length 0).toNat = n := by
  have e : (KBw.bInts b)[l.length]? = some (n : Int) := by rw [h]; simp
  unfold KBw.bInts at e
  rw [List.getElem?_map] at e
  rw [List.getD_eq_getElem?_getD]
  cases h2 : b.toList[l.length]? with
  | none => rw [h2] at e; simp at e
  | some c => rw [h2] at e; simp only [Option.map_some, Option.some.injEq, Option.getD_some] at *; omega
theorem text_eq (l : List Nat) : Str.ofString "<&" ++ S l = S (60 :: 38 :: l) := by
  have e : Str.ofString "<&" = S [60, 38] := by decide +kernel
  rw [e, S_app]; rfl
end Mine
end
section
open PySem PySem.W PyProof.Rows
namespace Mine
open_top hd for PySem.Challenge.rw_ij0009_01
end Mine
end
section
open PySem PySem.W PyProof.Rows PySem.Spec PySem.Calls
namespace Mine
section
variable {w : World} {p : Program} {loose : List Str} {mean : ExcName → Option Value} {mg mb : Str → Option Value} {dp un : Nat} {gd : Option (List Code)} {cn : Str} {cs : Scope} {a : Addr} {ccd : Value} {cl : List (Str × Addr)} {outer : List Env} {A₀ : Around} {base h₀ : Heap} {L : Addr} {m : Str → Option Value} {news : List (Addr × Obj)} {s : Shared} {Q E : Value → Shared → Prop}
local macro_rules | `(tactic| walk_at "truthy ref") => `(tactic| (k_here; k_dflt (refine' truthy_emptyK ?k1 ?k2 ?k3 ?k4 ?_; (case k1 => k_asm); (case k2 => k_asm); (case k3 => k_is); (case k4 => rfl); k_whole)))
local macro_rules | `(tactic| walk_at "execs cons") => `(tactic| (k_here; (refine tk_gen (by (fail_if_success assumption); first | omega | (with_unfolding_all exact Nat.succ_pos _)) ?_); intro tk htk))
local macro_rules | `(tactic| walk_at "execs nil") => `(tactic| (k_here; (refine tk_gen (by (fail_if_success assumption); first | omega | (with_unfolding_all exact Nat.succ_pos _)) ?_); intro tk htk))
local macro_rules | `(tactic| walk_at "call builtin:str.replace") => `(tactic| (k_here; (refine replace_tk 1 (by dsimp only; omega) (by omega) (by omega) (by decide) (by first | assumption | omega) (by decide) (by decide) (by decide) ?_); intro t' k' hk' hl'))
local macro_rules | `(tactic| walk_at "call builtin:bytes.decode") => `(tactic| (k_here; (refine decode1 (by first | assumption | omega) 0 (Nat.zero_le _) ?_); intro t' k' hk'))
local macro_rules | `(tactic| k_room) => `(tactic| first | ktr_room | ((simp only [depth_mark, depth_deeper]); ktr_room))
local macro_rules | `(tactic| k_units) => `(tactic| ktr_units)
local macro_rules | `(tactic| units_room) => `(tactic| ktr_units)
local macro_rules | `(tactic| walk_at "CompEnd") => `(tactic| k_extra "mycompend")
local macro_rules | `(tactic| k_all) => `(tactic| k_extra "rest")
local macro_rules | `(tactic| walk_at "call ref") => `(tactic| k_extra "mycall")
local macro_rules | `(tactic| walk_at "eval ListComp") => `(tactic| k_extra "mycomp")
local macro_rules | `(tactic| walk_at "exec Assign cons ListComp") => `(tactic| k_extra "mycompA")
local macro_rules | `(tactic| walk_at "CompSrcT") => `(tactic| k_extra "mysrcT")
local macro_rules | `(tactic| walk_at "call builtin:list.extend") => `(tactic| (k_here; (with_reducible show wpAny _ _ (call (Value.builtin _) [Value.ref _, Value.ref _]) _ _ _); k_dflt (refine ext_any (by k_asm) (by k_asm) (by k_mem) (by k_updF) (by k_extra "ext") ?_); intro h' n' F' N'; (try dsimp only at N'); (try k_sweep)))
local macro_rules | `(tactic| walk_at "KCiEl") => `(tactic| k_extra "myciel")
local macro_rules | `(tactic| walk_at "KCiNo") => `(tactic| k_extra "mycino")
local macro_rules | `(tactic| walk_at "SrcS") => `(tactic| k_extra "mysrcS")
local macro_rules | `(tactic| walk_at "CompSrc") => `(tactic| k_extra "mysrc")
local macro_rules | `(tactic| walk_at "pyIter str") => `(tactic| k_extra "myiter")
local macro_rules | `(tactic| walk_at "pyIter ref") => `(tactic| first | k_extra "myiter" | (with_reducible refine stopP ?_))
local macro_rules | `(tactic| walk_at "exec For Name Name cons nil") => `(tactic| (k_here; (rename Fr _ _ _ _ => lF'); (with_unfolding_all refine' For_invVF lF' ?k1 ?k2 ?_; (case k1 => exact rfl); (case k2 => exact rfl); k_whole)))
local macro_rules | `(tactic| walk_at "call builtin:len") => `(tactic| (k_here; (with_reducible show wpAny _ _ (call (Value.builtin "len") [Value.str _ _]) _ _ _); (refine PyProof.Rows.len_str (by first | omega | ((simp only [S_len, List.length_append]); omega)) ?_)))
local macro_rules | `(tactic| walk_at "binaryOp Add str str") => `(tactic| (k_here; (refine PyProof.Rows.add_str ?_ (by (rw [sizeLine_eq]); first | k_extra "len" | omega | ((simp only [S_len, PySem.Str.length_append, List.length_append]); omega))); intro t' k'; (try (rw [S_app]))))
local macro_rules | `(tactic| walk_at "callWith ref") => `(tactic| (k_here; k_dflt (first
  | (refine' callWith_F ?k1 ?_; (case k1 => exact FnAt.of (by k_asm) (by k_mem)); k_whole)
  | (refine' callWith_F0 ?k1 ?_; (case k1 => exact FnAt.of (by k_asm) (by k_mem)); k_whole; try dsimp only [List.nil_append, List.cons_append]))))

theorem escape_tells {x : Str} {tx : Tok} (B : Below A₀ base outer h₀) (F : Fr h₀ L s.heap m) (X : (hd.heap_39 w.params).In h₀) (T : Top p loose mean mg mb h₀) (hk : cs.kind = .function)
    (hdp : dp + 1 < recursionLimit) (hu : un + 8 < cLine) (N : News h₀ L s.heap news)
    (hx : x.length ≤ 1000)
    (ret : ∀ t h' tk, Fr h₀ L h' m → News h₀ L h' news → Q (.str (escS x) t) { s with heap := h', toks := tk }) :
    wpAny (model PySem.Challenge.rw_ij0009_01.row.prog w) (ktrTop dp un gd cn cs L a ccd cl outer) (call (.ref 30) [.str x tx]) Q E s := by
  w_top off
  k_with_none
  k_with "enter" => (first
    | (refine' code_def ?k1 ?k2 ?k3 ?k4 ?k5 ?kA ?kF ?kK ?k6 ?k7 ?k8 ?k9 ?kB ?_ ?c2 ?c3 ?c4 ?c5; (case kA => exact rfl); (case kF => exact rfl); (case kK => first | exact rfl | assumption); (case k1 => k_asm); (case k2 => k_asm); (case k3 => k_asm); (case k4 => k_asm); (case k5 => k_asm); (case k6 => k_is); (case k7 => k_is); (case k8 => ktr_room); (case k9 => first | exact BindsTo.of_eq rfl | exact binds_K (by k_in) rfl (by k_is) rfl rfl rfl | fail "enter: no rule for these arguments"); (case c5 => decide); (case kB => exact locs rfl); (case c2 => exact rfl); (case c3 => exact rfl); (case c4 => exact rfl); k_whole; intro g' L' h' FG' F' N' B' X' T'; (try dsimp only); (try k_lift B'); (try k_fold))
    | (refine' code_defC ?k1 ?k2 ?k3 ?k4 ?k5 ?kA ?kF ?kK ?k6 ?k7 ?k8 ?k9 ?kB ?kD ?_ ?c2 ?c3 ?c4; (case kA => exact rfl); (case kF => exact rfl); (case kK => first | exact rfl | assumption); (case k1 => k_asm); (case k2 => k_asm); (case k3 => k_asm); (case k4 => k_asm); (case k5 => k_asm); (case k6 => k_is); (case k7 => k_is); (case k8 => ktr_room); (case k9 => first | exact BindsTo.of_eq rfl | exact binds_K (by k_in) rfl (by k_is) rfl rfl rfl | fail "enter: no rule for these arguments"); (case kB => exact rfl); (case kD => decide +kernel); (case c2 => exact rfl); (case c3 => exact rfl); (case c4 => exact rfl); k_whole; intro g' L' h' tk' cells' FG' F' N' Y' B' X' T' l1; (try k_lt l1); k_cells Y'; (try simp only [List.cons_append, List.nil_append] at N'); (try dsimp only); (try k_lift B'); (try k_fold)))
  k_with "entern" => (refine' code_nest ?k1 ?k2 ?k3 ?k4 ?k5 ?kA ?kF ?kK ?k6 ?k7 ?k8 ?k9 ?kB ?_ ?c2 ?c3 ?c4 ?c5; (case kA => assumption); (case kF => assumption); (case kK => first | exact rfl | assumption); (case k1 => k_asm); (case k2 => k_asm); (case k3 => k_asm); (case k4 => k_asm); (case k5 => k_asm); (case k6 => k_mem); (case k7 => exact codeRec_news (by k_asm) (by k_mem) (by assumption) (by assumption)); (case k8 => ktr_room); (case k9 => exact BindsTo.of_eq rfl); (case c5 => decide); (case kB => exact locs rfl); (case c2 => exact rfl); (case c3 => exact rfl); (case c4 => exact rfl); k_whole; intro g' L' h' FG' F' N' B' X' T'; (try dsimp only); (try k_lift B'); (try k_fold))
  revert X; k_fill; intro X
  refine wpAny_call ?_
  k_dflt (k_extra "enter")
  k_steps
  rename Fr _ _ _ _ => F9
  rename News _ _ _ _ => N9
  exact ret _ _ _ F9 N9

theorem unescape_tells {x : Str} {tx : Tok} (B : Below A₀ base outer h₀) (F : Fr h₀ L s.heap m) (X : (hd.heap_39 w.params).In h₀) (T : Top p loose mean mg mb h₀) (hk : cs.kind = .function)
    (hdp : dp + 1 < recursionLimit) (hu : un + 8 < cLine) (N : News h₀ L s.heap news)
    (hx : x.length ≤ 1000)
    (ret : ∀ t h' tk, Fr h₀ L h' m → News h₀ L h' news → Q (.str (uneS x) t) { s with heap := h', toks := tk }) :
    wpAny (model PySem.Challenge.rw_ij0009_01.row.prog w) (ktrTop dp un gd cn cs L a ccd cl outer) (call (.ref 39) [.str x tx]) Q E s := by
  w_top off
  k_with_none
  k_with "enter" => (first
    | (refine' code_def ?k1 ?k2 ?k3 ?k4 ?k5 ?kA ?kF ?kK ?k6 ?k7 ?k8 ?k9 ?kB ?_ ?c2 ?c3 ?c4 ?c5; (case kA => exact rfl); (case kF => exact rfl); (case kK => first | exact rfl | assumption); (case k1 => k_asm); (case k2 => k_asm); (case k3 => k_asm); (case k4 => k_asm); (case k5 => k_asm); (case k6 => k_is); (case k7 => k_is); (case k8 => ktr_room); (case k9 => first | exact BindsTo.of_eq rfl | exact binds_K (by k_in) rfl (by k_is) rfl rfl rfl | fail "enter: no rule for these arguments"); (case c5 => decide); (case kB => exact locs rfl); (case c2 => exact rfl); (case c3 => exact rfl); (case c4 => exact rfl); k_whole; intro g' L' h' FG' F' N' B' X' T'; (try dsimp only); (try k_lift B'); (try k_fold))
    | (refine' code_defC ?k1 ?k2 ?k3 ?k4 ?k5 ?kA ?kF ?kK ?k6 ?k7 ?k8 ?k9 ?kB ?kD ?_ ?c2 ?c3 ?c4; (case kA => exact rfl); (case kF => exact rfl); (case kK => first | exact rfl | assumption); (case k1 => k_asm); (case k2 => k_asm); (case k3 => k_asm); (case k4 => k_asm); (case k5 => k_asm); (case k6 => k_is); (case k7 => k_is); (case k8 => ktr_room); (case k9 => first | exact BindsTo.of_eq rfl | exact binds_K (by k_in) rfl (by k_is) rfl rfl rfl | fail "enter: no rule for these arguments"); (case kB => exact rfl); (case kD => decide +kernel); (case c2 => exact rfl); (case c3 => exact rfl); (case c4 => exact rfl); k_whole; intro g' L' h' tk' cells' FG' F' N' Y' B' X' T' l1; (try k_lt l1); k_cells Y'; (try simp only [List.cons_append, List.nil_append] at N'); (try dsimp only); (try k_lift B'); (try k_fold)))
  k_with "entern" => (refine' code_nest ?k1 ?k2 ?k3 ?k4 ?k5 ?kA ?kF ?kK ?k6 ?k7 ?k8 ?k9 ?kB ?_ ?c2 ?c3 ?c4 ?c5; (case kA => assumption); (case kF => assumption); (case kK => first | exact rfl | assumption); (case k1 => k_asm); (case k2 => k_asm); (case k3 => k_asm); (case k4 => k_asm); (case k5 => k_asm); (case k6 => k_mem); (case k7 => exact codeRec_news (by k_asm) (by k_mem) (by assumption) (by assumption)); (case k8 => ktr_room); (case k9 => exact BindsTo.of_eq rfl); (case c5 => decide); (case kB => exact locs rfl); (case c2 => exact rfl); (case c3 => exact rfl); (case c4 => exact rfl); k_whole; intro g' L' h' FG' F' N' B' X' T'; (try dsimp only); (try k_lift B'); (try k_fold))
  revert X; k_fill; intro X
  refine wpAny_call ?_
  k_dflt (k_extra "enter")
  k_steps
  rename Fr _ _ _ _ => F9
  rename News _ _ _ _ => N9
  exact ret _ _ _ F9 N9

end
end Mine
end
section
open PySem PySem.W PyProof.Rows PySem.Spec PySem.Calls
namespace Mine
section
variable {w : World} {p : Program} {loose : List Str} {mean : ExcName → Option Value} {mg mb : Str → Option Value} {dp un : Nat} {gd : Option (List Code)} {cn : Str} {cs : Scope} {a : Addr} {ccd : Value} {cl : List (Str × Addr)} {outer : List Env} {A₀ : Around} {base h₀ : Heap} {L : Addr} {m : Str → Option Value} {news : List (Addr × Obj)} {s : Shared} {Q E : Value → Shared → Prop}
local macro_rules | `(tactic| walk_at "truthy ref") => `(tactic| (k_here; k_dflt (refine' truthy_emptyK ?k1 ?k2 ?k3 ?k4 ?_; (case k1 => k_asm); (case k2 => k_asm); (case k3 => k_is); (case k4 => rfl); k_whole)))
local macro_rules | `(tactic| walk_at "execs cons") => `(tactic| (k_here; (refine tk_gen (by (fail_if_success assumption); first | omega | (with_unfolding_all exact Nat.succ_pos _)) ?_); intro tk htk))
local macro_rules | `(tactic| walk_at "execs nil") => `(tactic| (k_here; (refine tk_gen (by (fail_if_success assumption); first | omega | (with_unfolding_all exact Nat.succ_pos _)) ?_); intro tk htk))
local macro_rules | `(tactic| walk_at "call builtin:str.replace") => `(tactic| (k_here; (refine replace_tk 1 (by dsimp only; omega) (by omega) (by omega) (by decide) (by first | assumption | omega) (by decide) (by decide) (by decide) ?_); intro t' k' hk' hl'))
local macro_rules | `(tactic| walk_at "call builtin:bytes.decode") => `(tactic| (k_here; (refine decode1 (by first | assumption | omega) 0 (Nat.zero_le _) ?_); intro t' k' hk'))
local macro_rules | `(tactic| k_room) => `(tactic| first | ktr_room | ((simp only [depth_mark, depth_deeper]); ktr_room))
local macro_rules | `(tactic| k_units) => `(tactic| ktr_units)
local macro_rules | `(tactic| units_room) => `(tactic| ktr_units)
local macro_rules | `(tactic| walk_at "CompEnd") => `(tactic| k_extra "mycompend")
local macro_rules | `(tactic| k_all) => `(tactic| k_extra "rest")
local macro_rules | `(tactic| walk_at "call ref") => `(tactic| k_extra "mycall")
local macro_rules | `(tactic| walk_at "eval ListComp") => `(tactic| k_extra "mycomp")
local macro_rules | `(tactic| walk_at "exec Assign cons ListComp") => `(tactic| k_extra "mycompA")
local macro_rules | `(tactic| walk_at "CompSrcT") => `(tactic| k_extra "mysrcT")
local macro_rules | `(tactic| walk_at "call builtin:list.extend") => `(tactic| (k_here; (with_reducible show wpAny _ _ (call (Value.builtin _) [Value.ref _, Value.ref _]) _ _ _); k_dflt (refine ext_any (by k_asm) (by k_asm) (by k_mem) (by k_updF) (by k_extra "ext") ?_); intro h' n' F' N'; (try dsimp only at N'); (try k_sweep)))
local macro_rules | `(tactic| walk_at "KCiEl") => `(tactic| k_extra "myciel")
local macro_rules | `(tactic| walk_at "KCiNo") => `(tactic| k_extra "mycino")
local macro_rules | `(tactic| walk_at "SrcS") => `(tactic| k_extra "mysrcS")
local macro_rules | `(tactic| walk_at "CompSrc") => `(tactic| k_extra "mysrc")
local macro_rules | `(tactic| walk_at "pyIter str") => `(tactic| k_extra "myiter")
local macro_rules | `(tactic| walk_at "pyIter ref") => `(tactic| first | k_extra "myiter" | (with_reducible refine stopP ?_))
local macro_rules | `(tactic| walk_at "exec For Name Name cons nil") => `(tactic| (k_here; (rename Fr _ _ _ _ => lF'); (with_unfolding_all refine' For_invVF lF' ?k1 ?k2 ?_; (case k1 => exact rfl); (case k2 => exact rfl); k_whole)))
local macro_rules | `(tactic| walk_at "call builtin:len") => `(tactic| (k_here; (with_reducible show wpAny _ _ (call (Value.builtin "len") [Value.str _ _]) _ _ _); (refine PyProof.Rows.len_str (by first | omega | ((simp only [S_len, List.length_append]); omega)) ?_)))
local macro_rules | `(tactic| walk_at "binaryOp Add str str") => `(tactic| (k_here; (refine PyProof.Rows.add_str ?_ (by (rw [sizeLine_eq]); first | k_extra "len" | omega | ((simp only [S_len, PySem.Str.length_append, List.length_append]); omega))); intro t' k'; (try (rw [S_app]))))
local macro_rules | `(tactic| walk_at "callWith ref") => `(tactic| (k_here; k_dflt (first
  | (refine' callWith_F ?k1 ?_; (case k1 => exact FnAt.of (by k_asm) (by k_mem)); k_whole)
  | (refine' callWith_F0 ?k1 ?_; (case k1 => exact FnAt.of (by k_asm) (by k_mem)); k_whole; try dsimp only [List.nil_append, List.cons_append]))))

theorem stream_new {b : Array UInt8} {tb : Tok} {rest : List (Addr × Obj)} (B : Below A₀ base outer h₀) (F : Fr h₀ L s.heap m) (X : (hd.heap_39 w.params).In h₀) (T : Top p loose mean mg mb h₀) (hk : cs.kind = .function)
    (hdp : dp + 4 < recursionLimit) (hu : un + 40 < cLine) (codeHd : CodeHd base 80 76) (N : News h₀ L s.heap ((76, tabObj #[]) :: rest))
    (l0 : ∀ p ∈ rest, @Ne Nat p.1 76) (hx : b.size ≤ 100000)
    (ret : ∀ (x d f c pl c2 c1 : Addr) (oc o2 o1 : Obj) (fd : FuncData) (kv kr vt pt : Tok) h' tk, (∀ q ∈ rest, @LT.lt Nat _ q.1 c1) → @LT.lt Nat _ 76 c1 → @LT.lt Nat _ c1 c2 → @LT.lt Nat _ c2 pl → @LT.lt Nat _ pl c → @LT.lt Nat _ c f → @LT.lt Nat _ f d → @LT.lt Nat _ d x → Fr h₀ L h' m →
      News h₀ L h' ((x, instObj 70 d) :: (d, dictOf [⟨PyData.keyHash w.params (Str.ofString "value"), .str (Str.ofString "value") kv, .int 0 vt⟩, ⟨PyData.keyHash w.params (Str.ofString "read"), .str (Str.ofString "read") kr, .ref f⟩] 2) :: (f, ⟨.type "function", none, .func fd, #[]⟩) :: (c, oc) :: (pl, listOf #[.int 0 pt] 0) :: (c2, o2) :: (c1, o1) :: (76, tabObj (#[] ++ #[rawInt ((40 : Nat) : Int), rawInt ((4 : Nat) : Int), .ref c])) :: rest) →
      TakeOk PySem.Challenge.rw_ij0009_01.row.prog w (hd.heap_39 w.params) p loose mean mg mb b f c pl c2 c1 fd oc o2 o1 →
      Q (.ref x) { s with heap := h', toks := tk }) :
    wpAny (model PySem.Challenge.rw_ij0009_01.row.prog w) (ktrTop dp un gd cn cs L a ccd cl outer) (call (.ref 81) [.bytes b tb]) Q E s := by
  w_top off
  k_with_none
  k_with "enter" => (first
    | (refine' code_def ?k1 ?k2 ?k3 ?k4 ?k5 ?kA ?kF ?kK ?k6 ?k7 ?k8 ?k9 ?kB ?_ ?c2 ?c3 ?c4 ?c5; (case kA => exact rfl); (case kF => exact rfl); (case kK => first | exact rfl | assumption); (case k1 => k_asm); (case k2 => k_asm); (case k3 => k_asm); (case k4 => k_asm); (case k5 => k_asm); (case k6 => k_is); (case k7 => k_is); (case k8 => ktr_room); (case k9 => first | exact BindsTo.of_eq rfl | exact binds_K (by k_in) rfl (by k_is) rfl rfl rfl | fail "enter: no rule for these arguments"); (case c5 => decide); (case kB => exact locs rfl); (case c2 => exact rfl); (case c3 => exact rfl); (case c4 => exact rfl); k_whole; intro g' L' h' FG' F' N' B' X' T'; (try dsimp only); (try k_lift B'); (try k_fold))
    | (refine' code_defC ?k1 ?k2 ?k3 ?k4 ?k5 ?kA ?kF ?kK ?k6 ?k7 ?k8 ?k9 ?kB ?kD ?_ ?c2 ?c3 ?c4; (case kA => exact rfl); (case kF => exact rfl); (case kK => first | exact rfl | assumption); (case k1 => k_asm); (case k2 => k_asm); (case k3 => k_asm); (case k4 => k_asm); (case k5 => k_asm); (case k6 => k_is); (case k7 => k_is); (case k8 => ktr_room); (case k9 => first | exact BindsTo.of_eq rfl | exact binds_K (by k_in) rfl (by k_is) rfl rfl rfl | fail "enter: no rule for these arguments"); (case kB => exact rfl); (case kD => decide +kernel); (case c2 => exact rfl); (case c3 => exact rfl); (case c4 => exact rfl); k_whole; intro g' L' h' tk' cells' FG' F' N' Y' B' X' T' l1; (try k_lt l1); k_cells Y'; (try simp only [List.cons_append, List.nil_append] at N'); (try dsimp only); (try k_lift B'); (try k_fold)))
  k_with "entern" => (refine' code_nest ?k1 ?k2 ?k3 ?k4 ?k5 ?kA ?kF ?kK ?k6 ?k7 ?k8 ?k9 ?kB ?_ ?c2 ?c3 ?c4 ?c5; (case kA => assumption); (case kF => assumption); (case kK => first | exact rfl | assumption); (case k1 => k_asm); (case k2 => k_asm); (case k3 => k_asm); (case k4 => k_asm); (case k5 => k_asm); (case k6 => k_mem); (case k7 => exact codeRec_news (by k_asm) (by k_mem) (by assumption) (by assumption)); (case k8 => ktr_room); (case k9 => exact BindsTo.of_eq rfl); (case c5 => decide); (case kB => exact locs rfl); (case c2 => exact rfl); (case c3 => exact rfl); (case c4 => exact rfl); k_whole; intro g' L' h' FG' F' N' B' X' T'; (try dsimp only); (try k_lift B'); (try k_fold))
  revert X; k_fill; intro X
  refine wpAny_call ?_
  k_dflt (k_extra "enter")
  have lr := allLt_all l1.2
  k_with "rest" => (intro p9 hp9; (have q9 := lr p9 hp9); (have q8 := l0 p9 hp9); refine neN ?_; (try dsimp only); omega)
  k_steps
  all_goals (try k_data)
  rename Fr _ _ _ _ => F9
  rename News _ _ _ _ => N9
  refine' ret _ _ _ _ _ _ _ _ _ _ _ _ _ _ _ _ _ ?r0 ?r1 ?r2 ?r3 ?r4 ?r5 ?r6 ?r7 ?F ?N ?K
  case N => exact N9
  case F => exact F9
  case r0 => exact fun q hq => Nat.lt_succ_of_lt (lr q hq)
  case r1 => omega
  case r2 => omega
  case r3 => omega
  case r4 => omega
  case r5 => omega
  case r6 => omega
  case r7 => omega
  (try clear F9 N9 ret B F X N); (try clear FG'); (try clear B'); (try clear X'); (try clear T')
  unfold TakeOk
  intro A env outer A₀ base h₀ L m rest s Q E pos pt n k tn B F X T hA hf hk N hrest hb hpos hkk hdp hu ret
  obtain ⟨ks, hks⟩ : ∃ ks, KBw.bInts b = ks := ⟨_, rfl⟩
  have hkl : ks.length = b.size := by rw [← hks, KBw.ints_length]
  k_with "rest" => (intro p9 hp9; (have q9 := hrest p9 hp9); refine neN ?_; (try dsimp only); omega)
  refine wpAny_call ?_
  k_dflt (k_extra "entern")
  k_steps
  rename Fr _ _ _ _ => F9
  rename News _ _ _ _ => N9
  rw [picked_cut b pos k hpos]
  refine ret _ _ _ _ F9 (news_int (pre := [_, _]) ?_ N9)
  have e0 : [(pos : Int)].getD (Int.toNat 0) 0 = (pos : Int) := rfl
  have e1 : (pos : Int) + (k : Int) = ((pos + k : Nat) : Int) := by omega
  rw [e0, e1, cut_size]
  simp only [clipAt_nat]
  omega

theorem uint1_tells {x d f c pl c2 c1 : Addr} {oc o2 o1 : Obj} {fd : FuncData} {kv kr vt : Tok} {b : Array UInt8} {pos : Nat} {pt : Tok} {rest : List (Addr × Obj)} (B : Below A₀ base outer h₀) (F : Fr h₀ L s.heap m) (X : (hd.heap_39 w.params).In h₀) (T : Top p loose mean mg mb h₀) (hk : cs.kind = .function)
    (hdp : dp + 3 < recursionLimit) (hu : un + 40 < cLine)
    (N : News h₀ L s.heap ((x, instObj 70 d) :: (d, dictOf [⟨PyData.keyHash w.params (Str.ofString "value"), .str (Str.ofString "value") kv, .int 0 vt⟩, ⟨PyData.keyHash w.params (Str.ofString "read"), .str (Str.ofString "read") kr, .ref f⟩] 2) :: (f, ⟨.type "function", none, .func fd, #[]⟩) :: (c, oc) :: (pl, listOf #[.int pos pt] 0) :: (c2, o2) :: (c1, o1) :: rest))
    (hT : TakeOk PySem.Challenge.rw_ij0009_01.row.prog w (hd.heap_39 w.params) p loose mean mg mb b f c pl c2 c1 fd oc o2 o1) (hdx : @LT.lt Nat _ d x) (hfd : @LT.lt Nat _ f d) (hplf : @LT.lt Nat _ pl f) (hrest : ∀ q ∈ rest, @Ne Nat q.1 pl)
    (hb : b.size ≤ 100000) (hpos : pos < b.size)
    (ret : ∀ t h' tk pt', Fr h₀ L h' m → News h₀ L h' ((x, instObj 70 d) :: (d, dictOf [⟨PyData.keyHash w.params (Str.ofString "value"), .str (Str.ofString "value") kv, .int 0 vt⟩, ⟨PyData.keyHash w.params (Str.ofString "read"), .str (Str.ofString "read") kr, .ref f⟩] 2) :: (f, ⟨.type "function", none, .func fd, #[]⟩) :: (c, oc) :: (pl, listOf #[.int ((pos + 1 : Nat) : Int) pt'] 0) :: (c2, o2) :: (c1, o1) :: rest) → Q (.int ((b.toList.getD pos 0).toNat : Nat) t) { s with heap := h', toks := tk }) :
    wpAny (model PySem.Challenge.rw_ij0009_01.row.prog w) (ktrTop dp un gd cn cs L a ccd cl outer) (call (.ref 46) [.ref x]) Q E s := by
  w_top off
  k_with_none
  k_with "enter" => (first
    | (refine' code_def ?k1 ?k2 ?k3 ?k4 ?k5 ?kA ?kF ?kK ?k6 ?k7 ?k8 ?k9 ?kB ?_ ?c2 ?c3 ?c4 ?c5; (case kA => exact rfl); (case kF => exact rfl); (case kK => first | exact rfl | assumption); (case k1 => k_asm); (case k2 => k_asm); (case k3 => k_asm); (case k4 => k_asm); (case k5 => k_asm); (case k6 => k_is); (case k7 => k_is); (case k8 => ktr_room); (case k9 => first | exact BindsTo.of_eq rfl | exact binds_K (by k_in) rfl (by k_is) rfl rfl rfl | fail "enter: no rule for these arguments"); (case c5 => decide); (case kB => exact locs rfl); (case c2 => exact rfl); (case c3 => exact rfl); (case c4 => exact rfl); k_whole; intro g' L' h' FG' F' N' B' X' T'; (try dsimp only); (try k_lift B'); (try k_fold))
    | (refine' code_defC ?k1 ?k2 ?k3 ?k4 ?k5 ?kA ?kF ?kK ?k6 ?k7 ?k8 ?k9 ?kB ?kD ?_ ?c2 ?c3 ?c4; (case kA => exact rfl); (case kF => exact rfl); (case kK => first | exact rfl | assumption); (case k1 => k_asm); (case k2 => k_asm); (case k3 => k_asm); (case k4 => k_asm); (case k5 => k_asm); (case k6 => k_is); (case k7 => k_is); (case k8 => ktr_room); (case k9 => first | exact BindsTo.of_eq rfl | exact binds_K (by k_in) rfl (by k_is) rfl rfl rfl | fail "enter: no rule for these arguments"); (case kB => exact rfl); (case kD => decide +kernel); (case c2 => exact rfl); (case c3 => exact rfl); (case c4 => exact rfl); k_whole; intro g' L' h' tk' cells' FG' F' N' Y' B' X' T' l1; (try k_lt l1); k_cells Y'; (try simp only [List.cons_append, List.nil_append] at N'); (try dsimp only); (try k_lift B'); (try k_fold)))
  k_with "entern" => (refine' code_nest ?k1 ?k2 ?k3 ?k4 ?k5 ?kA ?kF ?kK ?k6 ?k7 ?k8 ?k9 ?kB ?_ ?c2 ?c3 ?c4 ?c5; (case kA => assumption); (case kF => assumption); (case kK => first | exact rfl | assumption); (case k1 => k_asm); (case k2 => k_asm); (case k3 => k_asm); (case k4 => k_asm); (case k5 => k_asm); (case k6 => k_mem); (case k7 => exact codeRec_news (by k_asm) (by k_mem) (by assumption) (by assumption)); (case k8 => ktr_room); (case k9 => exact BindsTo.of_eq rfl); (case c5 => decide); (case kB => exact locs rfl); (case c2 => exact rfl); (case c3 => exact rfl); (case c4 => exact rfl); k_whole; intro g' L' h' FG' F' N' B' X' T'; (try dsimp only); (try k_lift B'); (try k_fold))
  k_with "mycall" => (k_here; k_dflt (refine' hT _ _ _ _ _ _ _ _ ((x, instObj 70 d) :: (d, dictOf [⟨PyData.keyHash w.params (Str.ofString "value"), .str (Str.ofString "value") kv, .int 0 vt⟩, ⟨PyData.keyHash w.params (Str.ofString "read"), .str (Str.ofString "read") kr, .ref f⟩] 2) :: rest) _ _ _ pos pt 0 1 _ (by k_asm) (by k_asm) (by k_asm) (by k_asm) (by exact rfl) (by exact rfl) (by first | exact rfl | assumption) (by (refine cb_drop (by k_asm) ?_; kcj_all)) (by exact List.forall_mem_cons.mpr ⟨Nat.ne_of_gt (by omega), List.forall_mem_cons.mpr ⟨Nat.ne_of_gt (by omega), hrest⟩⟩) (by assumption) (by omega) (by omega) (by first | ktr_room | ((simp only [depth_mark, depth_deeper]); ktr_room)) (by ktr_units) ?_); intro t9 h9 tk9 pt9 F9 N9; (have hk9 := cut_one b pos hpos); (have hs9 : (cut b pos 1).size = 1 := by rw [cut_size]; omega); (rw [hs9] at N9); (try dsimp only))
  revert X; k_fill; intro X
  unfold TakeOk at hT
  refine wpAny_call ?_
  k_dflt (k_extra "enter")
  k_steps
  · rename Fr _ _ _ _ => F9
    rename News _ _ _ _ => N9
    exact ret _ _ _ _ F9 (cb_drop N9 (by kcj_all))
  · exact absurd Nat.zero_lt_one (by assumption)

end
end Mine
end
section
open PySem PySem.W PyProof.Rows PySem.Spec PySem.Calls
namespace Mine
section
variable {w : World} {p : Program} {loose : List Str} {mean : ExcName → Option Value} {mg mb : Str → Option Value} {dp un : Nat} {gd : Option (List Code)} {cn : Str} {cs : Scope} {a : Addr} {ccd : Value} {cl : List (Str × Addr)} {outer : List Env} {A₀ : Around} {base h₀ : Heap} {L : Addr} {m : Str → Option Value} {news : List (Addr × Obj)} {s : Shared} {Q E : Value → Shared → Prop}
local macro_rules | `(tactic| walk_at "truthy ref") => `(tactic| (k_here; k_dflt (refine' truthy_emptyK ?k1 ?k2 ?k3 ?k4 ?_; (case k1 => k_asm); (case k2 => k_asm); (case k3 => k_is); (case k4 => rfl); k_whole)))
local macro_rules | `(tactic| walk_at "execs cons") => `(tactic| (k_here; (refine tk_gen (by (fail_if_success assumption); first | omega | (with_unfolding_all exact Nat.succ_pos _)) ?_); intro tk htk))
local macro_rules | `(tactic| walk_at "execs nil") => `(tactic| (k_here; (refine tk_gen (by (fail_if_success assumption); first | omega | (with_unfolding_all exact Nat.succ_pos _)) ?_); intro tk htk))
local macro_rules | `(tactic| walk_at "call builtin:str.replace") => `(tactic| (k_here; (refine replace_tk 1 (by dsimp only; omega) (by omega) (by omega) (by decide) (by first | assumption | omega) (by decide) (by decide) (by decide) ?_); intro t' k' hk' hl'))
local macro_rules | `(tactic| walk_at "call builtin:bytes.decode") => `(tactic| (k_here; (refine decode1 (by first | assumption | omega) 0 (Nat.zero_le _) ?_); intro t' k' hk'))
local macro_rules | `(tactic| k_room) => `(tactic| first | ktr_room | ((simp only [depth_mark, depth_deeper]); ktr_room))
local macro_rules | `(tactic| k_units) => `(tactic| ktr_units)
local macro_rules | `(tactic| units_room) => `(tactic| ktr_units)
local macro_rules | `(tactic| walk_at "CompEnd") => `(tactic| k_extra "mycompend")
local macro_rules | `(tactic| k_all) => `(tactic| k_extra "rest")
local macro_rules | `(tactic| walk_at "call ref") => `(tactic| k_extra "mycall")
local macro_rules | `(tactic| walk_at "eval ListComp") => `(tactic| k_extra "mycomp")
local macro_rules | `(tactic| walk_at "exec Assign cons ListComp") => `(tactic| k_extra "mycompA")
local macro_rules | `(tactic| walk_at "CompSrcT") => `(tactic| k_extra "mysrcT")
local macro_rules | `(tactic| walk_at "call builtin:list.extend") => `(tactic| (k_here; (with_reducible show wpAny _ _ (call (Value.builtin _) [Value.ref _, Value.ref _]) _ _ _); k_dflt (refine ext_any (by k_asm) (by k_asm) (by k_mem) (by k_updF) (by k_extra "ext") ?_); intro h' n' F' N'; (try dsimp only at N'); (try k_sweep)))
local macro_rules | `(tactic| walk_at "KCiEl") => `(tactic| k_extra "myciel")
local macro_rules | `(tactic| walk_at "KCiNo") => `(tactic| k_extra "mycino")
local macro_rules | `(tactic| walk_at "SrcS") => `(tactic| k_extra "mysrcS")
local macro_rules | `(tactic| walk_at "CompSrc") => `(tactic| k_extra "mysrc")
local macro_rules | `(tactic| walk_at "pyIter str") => `(tactic| k_extra "myiter")
local macro_rules | `(tactic| walk_at "pyIter ref") => `(tactic| first | k_extra "myiter" | (with_reducible refine stopP ?_))
local macro_rules | `(tactic| walk_at "exec For Name Name cons nil") => `(tactic| (k_here; (rename Fr _ _ _ _ => lF'); (with_unfolding_all refine' For_invVF lF' ?k1 ?k2 ?_; (case k1 => exact rfl); (case k2 => exact rfl); k_whole)))
local macro_rules | `(tactic| walk_at "call builtin:len") => `(tactic| (k_here; (with_reducible show wpAny _ _ (call (Value.builtin "len") [Value.str _ _]) _ _ _); (refine PyProof.Rows.len_str (by first | omega | ((simp only [S_len, List.length_append]); omega)) ?_)))
local macro_rules | `(tactic| walk_at "binaryOp Add str str") => `(tactic| (k_here; (refine PyProof.Rows.add_str ?_ (by (rw [sizeLine_eq]); first | k_extra "len" | omega | ((simp only [S_len, PySem.Str.length_append, List.length_append]); omega))); intro t' k'; (try (rw [S_app]))))
local macro_rules | `(tactic| walk_at "callWith ref") => `(tactic| (k_here; k_dflt (first
  | (refine' callWith_F ?k1 ?_; (case k1 => exact FnAt.of (by k_asm) (by k_mem)); k_whole)
  | (refine' callWith_F0 ?k1 ?_; (case k1 => exact FnAt.of (by k_asm) (by k_mem)); k_whole; try dsimp only [List.nil_append, List.cons_append]))))

theorem string1_ok {x d f c pl c2 c1 : Addr} {oc o2 o1 : Obj} {fd : FuncData} {kv kr vt : Tok} {b : Array UInt8} {pos n : Nat} {pt : Tok} {rest : List (Addr × Obj)} (B : Below A₀ base outer h₀) (F : Fr h₀ L s.heap m) (X : (hd.heap_39 w.params).In h₀) (T : Top p loose mean mg mb h₀) (hk : cs.kind = .function)
    (hdp : dp + 5 < recursionLimit) (hu : un + 80 < cLine)
    (N : News h₀ L s.heap ((x, instObj 70 d) :: (d, dictOf [⟨PyData.keyHash w.params (Str.ofString "value"), .str (Str.ofString "value") kv, .int 0 vt⟩, ⟨PyData.keyHash w.params (Str.ofString "read"), .str (Str.ofString "read") kr, .ref f⟩] 2) :: (f, ⟨.type "function", none, .func fd, #[]⟩) :: (c, oc) :: (pl, listOf #[.int pos pt] 0) :: (c2, o2) :: (c1, o1) :: rest))
    (hT : TakeOk PySem.Challenge.rw_ij0009_01.row.prog w (hd.heap_39 w.params) p loose mean mg mb b f c pl c2 c1 fd oc o2 o1) (hdx : @LT.lt Nat _ d x) (hfd : @LT.lt Nat _ f d) (hplf : @LT.lt Nat _ pl f) (hrest : ∀ q ∈ rest, @Ne Nat q.1 pl)
    (hb : b.size ≤ 100000) (hpos : pos < b.size) (hn : (b.toList.getD pos 0).toNat = n) (hfit : pos + 1 + n ≤ b.size)
    (ret : ∀ t h' tk pt', Fr h₀ L h' m → News h₀ L h' ((x, instObj 70 d) :: (d, dictOf [⟨PyData.keyHash w.params (Str.ofString "value"), .str (Str.ofString "value") kv, .int 0 vt⟩, ⟨PyData.keyHash w.params (Str.ofString "read"), .str (Str.ofString "read") kr, .ref f⟩] 2) :: (f, ⟨.type "function", none, .func fd, #[]⟩) :: (c, oc) :: (pl, listOf #[.int ((pos + 1 + n : Nat) : Int) pt'] 0) :: (c2, o2) :: (c1, o1) :: rest) → Q (.str (latin (cut b (pos + 1) n)) t) { s with heap := h', toks := tk }) :
    wpAny (model PySem.Challenge.rw_ij0009_01.row.prog w) (ktrTop dp un gd cn cs L a ccd cl outer) (call (.ref 53) [.ref x]) Q E s := by
  w_top off
  k_with_none
  k_with "enter" => (first
    | (refine' code_def ?k1 ?k2 ?k3 ?k4 ?k5 ?kA ?kF ?kK ?k6 ?k7 ?k8 ?k9 ?kB ?_ ?c2 ?c3 ?c4 ?c5; (case kA => exact rfl); (case kF => exact rfl); (case kK => first | exact rfl | assumption); (case k1 => k_asm); (case k2 => k_asm); (case k3 => k_asm); (case k4 => k_asm); (case k5 => k_asm); (case k6 => k_is); (case k7 => k_is); (case k8 => ktr_room); (case k9 => first | exact BindsTo.of_eq rfl | exact binds_K (by k_in) rfl (by k_is) rfl rfl rfl | fail "enter: no rule for these arguments"); (case c5 => decide); (case kB => exact locs rfl); (case c2 => exact rfl); (case c3 => exact rfl); (case c4 => exact rfl); k_whole; intro g' L' h' FG' F' N' B' X' T'; (try dsimp only); (try k_lift B'); (try k_fold))
    | (refine' code_defC ?k1 ?k2 ?k3 ?k4 ?k5 ?kA ?kF ?kK ?k6 ?k7 ?k8 ?k9 ?kB ?kD ?_ ?c2 ?c3 ?c4; (case kA => exact rfl); (case kF => exact rfl); (case kK => first | exact rfl | assumption); (case k1 => k_asm); (case k2 => k_asm); (case k3 => k_asm); (case k4 => k_asm); (case k5 => k_asm); (case k6 => k_is); (case k7 => k_is); (case k8 => ktr_room); (case k9 => first | exact BindsTo.of_eq rfl | exact binds_K (by k_in) rfl (by k_is) rfl rfl rfl | fail "enter: no rule for these arguments"); (case kB => exact rfl); (case kD => decide +kernel); (case c2 => exact rfl); (case c3 => exact rfl); (case c4 => exact rfl); k_whole; intro g' L' h' tk' cells' FG' F' N' Y' B' X' T' l1; (try k_lt l1); k_cells Y'; (try simp only [List.cons_append, List.nil_append] at N'); (try dsimp only); (try k_lift B'); (try k_fold)))
  k_with "entern" => (refine' code_nest ?k1 ?k2 ?k3 ?k4 ?k5 ?kA ?kF ?kK ?k6 ?k7 ?k8 ?k9 ?kB ?_ ?c2 ?c3 ?c4 ?c5; (case kA => assumption); (case kF => assumption); (case kK => first | exact rfl | assumption); (case k1 => k_asm); (case k2 => k_asm); (case k3 => k_asm); (case k4 => k_asm); (case k5 => k_asm); (case k6 => k_mem); (case k7 => exact codeRec_news (by k_asm) (by k_mem) (by assumption) (by assumption)); (case k8 => ktr_room); (case k9 => exact BindsTo.of_eq rfl); (case c5 => decide); (case kB => exact locs rfl); (case c2 => exact rfl); (case c3 => exact rfl); (case c4 => exact rfl); k_whole; intro g' L' h' FG' F' N' B' X' T'; (try dsimp only); (try k_lift B'); (try k_fold))
  k_with "mycall" => (k_here; k_dflt (refine' hT _ _ _ _ _ _ _ _ ((x, instObj 70 d) :: (d, dictOf [⟨PyData.keyHash w.params (Str.ofString "value"), .str (Str.ofString "value") kv, .int 0 vt⟩, ⟨PyData.keyHash w.params (Str.ofString "read"), .str (Str.ofString "read") kr, .ref f⟩] 2) :: rest) _ _ _ (pos + 1) pt9 0 n _ (by k_asm) (by k_asm) (by k_asm) (by k_asm) (by exact rfl) (by exact rfl) (by first | exact rfl | assumption) (by (refine cb_drop (by k_asm) ?_; kcj_all)) (by exact List.forall_mem_cons.mpr ⟨Nat.ne_of_gt (by omega), List.forall_mem_cons.mpr ⟨Nat.ne_of_gt (by omega), hrest⟩⟩) (by assumption) (by omega) (by omega) (by first | ktr_room | ((simp only [depth_mark, depth_deeper]); ktr_room)) (by ktr_units) ?_); intro t9 h9 tk9 pt9 F9 N9; (obtain ⟨ks9, hk9⟩ : ∃ ks, KBw.bInts (cut b (pos + 1) n) = ks := ⟨_, rfl⟩); (have hs9 : ks9.length = (cut b (pos + 1) n).size := by rw [← hk9, KBw.ints_length]); (rw [cut_size] at hs9); (have hz9 : (cut b (pos + 1) n).size ≤ 100000 := by rw [cut_size]; omega); (try dsimp only))
  k_with "mycall" => (k_here; k_dflt (refine' uint1_tells (pos := pos) (pt := pt) (b := b) (c := c) (pl := pl) (c2 := c2) (c1 := c1) (oc := oc) (o2 := o2) (o1 := o1) (fd := fd) (by k_asm) (by k_asm) (by k_asm) (by k_asm) (by first | exact rfl | assumption) (by first | ktr_room | ((simp only [depth_mark, depth_deeper]); ktr_room)) (by ktr_units) (by (refine cb_drop (by k_asm) ?_; kcj_all)) hT hdx hfd hplf hrest hb hpos ?_); intro t9 h9 tk9 pt9 F9 N9; (rw [hn]); (try dsimp only))
  revert X; k_fill; intro X
  unfold TakeOk at hT
  have hn256 : n < 256 := by rw [← hn]; exact UInt8.toNat_lt _
  refine wpAny_call ?_
  k_dflt (k_extra "enter")
  k_steps
  · rename Fr _ _ _ _ => F9
    rename News _ _ _ _ => N9
    have e9 : ((pos + 1 : Nat) : Int) + ((cut b (pos + 1) n).size : Int) = ((pos + 1 + n : Nat) : Int) := by rw [cut_size]; omega
    refine ret _ _ _ _ F9 (news_int (pre := [_, _, _, _]) ?_ (cb_drop N9 (by kcj_all)))
    rw [cut_size]; omega
  · exfalso; omega

end
end Mine
end
section
open PySem PySem.W PyProof.Rows PySem.Spec PySem.Calls
namespace Mine
section
variable {w : World} {p : Program} {loose : List Str} {mean : ExcName → Option Value} {mg mb : Str → Option Value} {dp un : Nat} {gd : Option (List Code)} {cn : Str} {cs : Scope} {a : Addr} {ccd : Value} {cl : List (Str × Addr)} {outer : List Env} {A₀ : Around} {base h₀ : Heap} {L : Addr} {m : Str → Option Value} {news : List (Addr × Obj)} {s : Shared} {Q E : Value → Shared → Prop}
local macro_rules | `(tactic| walk_at "truthy ref") => `(tactic| (k_here; k_dflt (refine' truthy_emptyK ?k1 ?k2 ?k3 ?k4 ?_; (case k1 => k_asm); (case k2 => k_asm); (case k3 => k_is); (case k4 => rfl); k_whole)))
local macro_rules | `(tactic| walk_at "execs cons") => `(tactic| (k_here; (refine tk_gen (by (fail_if_success assumption); first | omega | (with_unfolding_all exact Nat.succ_pos _)) ?_); intro tk htk))
local macro_rules | `(tactic| walk_at "execs nil") => `(tactic| (k_here; (refine tk_gen (by (fail_if_success assumption); first | omega | (with_unfolding_all exact Nat.succ_pos _)) ?_); intro tk htk))
local macro_rules | `(tactic| walk_at "call builtin:str.replace") => `(tactic| (k_here; (refine replace_tk 1 (by dsimp only; omega) (by omega) (by omega) (by decide) (by first | assumption | omega) (by decide) (by decide) (by decide) ?_); intro t' k' hk' hl'))
local macro_rules | `(tactic| walk_at "call builtin:bytes.decode") => `(tactic| (k_here; (refine decode1 (by first | assumption | omega) 0 (Nat.zero_le _) ?_); intro t' k' hk'))
local macro_rules | `(tactic| k_room) => `(tactic| first | ktr_room | ((simp only [depth_mark, depth_deeper]); ktr_room))
local macro_rules | `(tactic| k_units) => `(tactic| ktr_units)
local macro_rules | `(tactic| units_room) => `(tactic| ktr_units)
local macro_rules | `(tactic| walk_at "CompEnd") => `(tactic| k_extra "mycompend")
local macro_rules | `(tactic| k_all) => `(tactic| k_extra "rest")
local macro_rules | `(tactic| walk_at "call ref") => `(tactic| k_extra "mycall")
local macro_rules | `(tactic| walk_at "eval ListComp") => `(tactic| k_extra "mycomp")
local macro_rules | `(tactic| walk_at "exec Assign cons ListComp") => `(tactic| k_extra "mycompA")
local macro_rules | `(tactic| walk_at "CompSrcT") => `(tactic| k_extra "mysrcT")
local macro_rules | `(tactic| walk_at "call builtin:list.extend") => `(tactic| (k_here; (with_reducible show wpAny _ _ (call (Value.builtin _) [Value.ref _, Value.ref _]) _ _ _); k_dflt (refine ext_any (by k_asm) (by k_asm) (by k_mem) (by k_updF) (by k_extra "ext") ?_); intro h' n' F' N'; (try dsimp only at N'); (try k_sweep)))
local macro_rules | `(tactic| walk_at "KCiEl") => `(tactic| k_extra "myciel")
local macro_rules | `(tactic| walk_at "KCiNo") => `(tactic| k_extra "mycino")
local macro_rules | `(tactic| walk_at "SrcS") => `(tactic| k_extra "mysrcS")
local macro_rules | `(tactic| walk_at "CompSrc") => `(tactic| k_extra "mysrc")
local macro_rules | `(tactic| walk_at "pyIter str") => `(tactic| k_extra "myiter")
local macro_rules | `(tactic| walk_at "pyIter ref") => `(tactic| first | k_extra "myiter" | (with_reducible refine stopP ?_))
local macro_rules | `(tactic| walk_at "exec For Name Name cons nil") => `(tactic| (k_here; (rename Fr _ _ _ _ => lF'); (with_unfolding_all refine' For_invVF lF' ?k1 ?k2 ?_; (case k1 => exact rfl); (case k2 => exact rfl); k_whole)))
local macro_rules | `(tactic| walk_at "call builtin:len") => `(tactic| (k_here; (with_reducible show wpAny _ _ (call (Value.builtin "len") [Value.str _ _]) _ _ _); (refine PyProof.Rows.len_str (by first | omega | ((simp only [S_len, List.length_append]); omega)) ?_)))
local macro_rules | `(tactic| walk_at "binaryOp Add str str") => `(tactic| (k_here; (refine PyProof.Rows.add_str ?_ (by (rw [sizeLine_eq]); first | k_extra "len" | omega | ((simp only [S_len, PySem.Str.length_append, List.length_append]); omega))); intro t' k'; (try (rw [S_app]))))
local macro_rules | `(tactic| walk_at "callWith ref") => `(tactic| (k_here; k_dflt (first
  | (refine' callWith_F ?k1 ?_; (case k1 => exact FnAt.of (by k_asm) (by k_mem)); k_whole)
  | (refine' callWith_F0 ?k1 ?_; (case k1 => exact FnAt.of (by k_asm) (by k_mem)); k_whole; try dsimp only [List.nil_append, List.cons_append]))))

theorem refused_tells {x d f c pl c2 c1 : Addr} {oc o2 o1 : Obj} {fd : FuncData} {kv kr vt : Tok} {b : Array UInt8} {pos n : Nat} {pt : Tok} {rest : List (Addr × Obj)} (B : Below A₀ base [] h₀) (F : Fr h₀ L s.heap m) (X : (hd.heap_39 w.params).In h₀) (T : Top p loose mean mg mb h₀) (hk : cs.kind = .function)
    (hdp : dp + 8 < recursionLimit) (hu : un + 150 < cLine)
    (N : News h₀ L s.heap ((x, instObj 70 d) :: (d, dictOf [⟨PyData.keyHash w.params (Str.ofString "value"), .str (Str.ofString "value") kv, .int 0 vt⟩, ⟨PyData.keyHash w.params (Str.ofString "read"), .str (Str.ofString "read") kr, .ref f⟩] 2) :: (f, ⟨.type "function", none, .func fd, #[]⟩) :: (c, oc) :: (pl, listOf #[.int pos pt] 0) :: (c2, o2) :: (c1, o1) :: rest))
    (hT : TakeOk PySem.Challenge.rw_ij0009_01.row.prog w (hd.heap_39 w.params) p loose mean mg mb b f c pl c2 c1 fd oc o2 o1) (hdx : @LT.lt Nat _ d x) (hfd : @LT.lt Nat _ f d) (hplf : @LT.lt Nat _ pl f) (hrest : ∀ q ∈ rest, @Ne Nat q.1 pl)
    (hb : b.size ≤ 100000) (hpos : pos < b.size) (hn : (b.toList.getD pos 0).toNat = n) (hfit : b.size < pos + 1 + n) (XB : (hd.heap_39 w.params).In base) (TB : Top p loose mean mg mb base)
    (ret : ∀ h' tk pt', Fr h₀ L h' m → News h₀ L h' ((x, instObj 70 d) :: (d, dictOf [⟨PyData.keyHash w.params (Str.ofString "value"), .str (Str.ofString "value") kv, .int 0 vt⟩, ⟨PyData.keyHash w.params (Str.ofString "read"), .str (Str.ofString "read") kr, .ref f⟩] 2) :: (f, ⟨.type "function", none, .func fd, #[]⟩) :: (c, oc) :: (pl, listOf #[.int ((b.size : Nat) : Int) pt'] 0) :: (c2, o2) :: (c1, o1) :: rest) → Q (.bool true) { s with heap := h', toks := tk }) :
    wpAny (model PySem.Challenge.rw_ij0009_01.row.prog w) (ktrTop dp un gd cn cs L a ccd [] []) (call (.ref 124) [.ref x]) Q E s := by
  w_top off
  k_with_none
  k_with "enter" => (first
    | (refine' code_def ?k1 ?k2 ?k3 ?k4 ?k5 ?kA ?kF ?kK ?k6 ?k7 ?k8 ?k9 ?kB ?_ ?c2 ?c3 ?c4 ?c5; (case kA => exact rfl); (case kF => exact rfl); (case kK => first | exact rfl | assumption); (case k1 => k_asm); (case k2 => k_asm); (case k3 => k_asm); (case k4 => k_asm); (case k5 => k_asm); (case k6 => k_is); (case k7 => k_is); (case k8 => ktr_room); (case k9 => first | exact BindsTo.of_eq rfl | exact binds_K (by k_in) rfl (by k_is) rfl rfl rfl | fail "enter: no rule for these arguments"); (case c5 => decide); (case kB => exact locs rfl); (case c2 => exact rfl); (case c3 => exact rfl); (case c4 => exact rfl); k_whole; intro g' L' h' FG' F' N' B' X' T'; (try dsimp only); (try k_lift B'); (try k_fold))
    | (refine' code_defC ?k1 ?k2 ?k3 ?k4 ?k5 ?kA ?kF ?kK ?k6 ?k7 ?k8 ?k9 ?kB ?kD ?_ ?c2 ?c3 ?c4; (case kA => exact rfl); (case kF => exact rfl); (case kK => first | exact rfl | assumption); (case k1 => k_asm); (case k2 => k_asm); (case k3 => k_asm); (case k4 => k_asm); (case k5 => k_asm); (case k6 => k_is); (case k7 => k_is); (case k8 => ktr_room); (case k9 => first | exact BindsTo.of_eq rfl | exact binds_K (by k_in) rfl (by k_is) rfl rfl rfl | fail "enter: no rule for these arguments"); (case kB => exact rfl); (case kD => decide +kernel); (case c2 => exact rfl); (case c3 => exact rfl); (case c4 => exact rfl); k_whole; intro g' L' h' tk' cells' FG' F' N' Y' B' X' T' l1; (try k_lt l1); k_cells Y'; (try simp only [List.cons_append, List.nil_append] at N'); (try dsimp only); (try k_lift B'); (try k_fold)))
  k_with "entern" => (refine' code_nest ?k1 ?k2 ?k3 ?k4 ?k5 ?kA ?kF ?kK ?k6 ?k7 ?k8 ?k9 ?kB ?_ ?c2 ?c3 ?c4 ?c5; (case kA => assumption); (case kF => assumption); (case kK => first | exact rfl | assumption); (case k1 => k_asm); (case k2 => k_asm); (case k3 => k_asm); (case k4 => k_asm); (case k5 => k_asm); (case k6 => k_mem); (case k7 => exact codeRec_news (by k_asm) (by k_mem) (by assumption) (by assumption)); (case k8 => ktr_room); (case k9 => exact BindsTo.of_eq rfl); (case c5 => decide); (case kB => exact locs rfl); (case c2 => exact rfl); (case c3 => exact rfl); (case c4 => exact rfl); k_whole; intro g' L' h' FG' F' N' B' X' T'; (try dsimp only); (try k_lift B'); (try k_fold))
  k_with "mycall" => (k_here; k_dflt (refine' hT _ _ _ _ _ _ _ _ ((x, instObj 70 d) :: (d, dictOf [⟨PyData.keyHash w.params (Str.ofString "value"), .str (Str.ofString "value") kv, .int 0 vt⟩, ⟨PyData.keyHash w.params (Str.ofString "read"), .str (Str.ofString "read") kr, .ref f⟩] 2) :: rest) _ _ _ (pos + 1) pt9 0 n _ (by k_asm) (by k_asm) (by k_asm) (by k_asm) (by exact rfl) (by exact rfl) (by first | exact rfl | assumption) (by (refine cb_drop (by k_asm) ?_; kcj_all)) (by exact List.forall_mem_cons.mpr ⟨Nat.ne_of_gt (by omega), List.forall_mem_cons.mpr ⟨Nat.ne_of_gt (by omega), hrest⟩⟩) (by assumption) (by omega) (by omega) (by first | ktr_room | ((simp only [depth_mark, depth_deeper]); ktr_room)) (by ktr_units) ?_); intro t9 h9 tk9 pt9 F9 N9; (obtain ⟨ks9, hk9⟩ : ∃ ks, KBw.bInts (cut b (pos + 1) n) = ks := ⟨_, rfl⟩); (have hs9 : ks9.length = (cut b (pos + 1) n).size := by rw [← hk9, KBw.ints_length]); (rw [cut_size] at hs9); (have hz9 : (cut b (pos + 1) n).size ≤ 100000 := by rw [cut_size]; omega); (have e9 : pos + 1 + (cut b (pos + 1) n).size = b.size := by rw [cut_size]; omega); (rw [e9] at N9); (try dsimp only))
  k_with "mycall" => (k_here; k_dflt (refine' hT _ _ _ _ _ _ _ _ ((x, instObj 70 d) :: (d, dictOf [⟨PyData.keyHash w.params (Str.ofString "value"), .str (Str.ofString "value") kv, .int 0 vt⟩, ⟨PyData.keyHash w.params (Str.ofString "read"), .str (Str.ofString "read") kr, .ref f⟩] 2) :: rest) _ _ _ b.size pt9 0 1 _ (by k_asm) (by k_asm) (by k_asm) (by k_asm) (by exact rfl) (by exact rfl) (by first | exact rfl | assumption) (by (refine cb_drop (by k_asm) ?_; kcj_all)) (by exact List.forall_mem_cons.mpr ⟨Nat.ne_of_gt (by omega), List.forall_mem_cons.mpr ⟨Nat.ne_of_gt (by omega), hrest⟩⟩) (by assumption) (by omega) (by omega) (by first | ktr_room | ((simp only [depth_mark, depth_deeper]); ktr_room)) (by ktr_units) ?_); intro t9 h9 tk9 pt9 F9 N9; (rw [cut_end]); (rw [cut_end] at N9); (try dsimp only))
  k_with "mycall" => (k_here; k_dflt (refine' uint1_tells (pos := pos) (pt := pt) (b := b) (c := c) (pl := pl) (c2 := c2) (c1 := c1) (oc := oc) (o2 := o2) (o1 := o1) (fd := fd) (by k_asm) (by k_asm) (by k_asm) (by k_asm) (by first | exact rfl | assumption) (by first | ktr_room | ((simp only [depth_mark, depth_deeper]); ktr_room)) (by ktr_units) (by (refine cb_drop (by k_asm) ?_; kcj_all)) hT hdx hfd hplf hrest hb hpos ?_); intro t9 h9 tk9 pt9 F9 N9; (rw [hn]); (try dsimp only))
  revert X; k_fill; intro X
  unfold TakeOk at hT
  have hn256 : n < 256 := by rw [← hn]; exact UInt8.toNat_lt _
  refine wpAny_call ?_
  k_dflt (refine' code_defS0 ?k1 ?k2 ?k3 ?k4 ?k5 ?kA ?k6 ?k7 ?k8 ?k9 ?kB ?_ ?cK ?c2 ?c3 ?c4 ?c5; (case kA => exact rfl); (case k2 => k_asm); (case k1 => k_asm); (case k3 => k_asm); (case k4 => k_asm); (case k5 => k_asm); (case k6 => k_is); (case k7 => k_is); (case k8 => ktr_room); (case k9 => exact BindsTo.of_eq rfl); (case kB => exact locs rfl); (case cK => first | exact rfl | assumption); (case c2 => exact rfl); (case c3 => exact rfl); (case c4 => exact rfl); (case c5 => decide); k_whole; intro g' L' h' FG' F' N' B' X' T' D'; (try dsimp only); (try k_lift B'); (try k_fold))
  k_steps
  · exfalso; omega
  · rename Fr _ _ _ _ => F9
    rename News _ _ _ _ => N9
    exact ret _ _ _ F9 (news_int (pre := [_, _, _, _]) rfl (cb_drop N9 (by kcj_all)))

end
end Mine
end
section
open PySem PySem.W PyProof.Rows PySem.Spec PySem.Calls
namespace Mine
section
variable {w : World} {p : Program} {loose : List Str} {mean : ExcName → Option Value} {mg mb : Str → Option Value} {dp un : Nat} {gd : Option (List Code)} {cn : Str} {cs : Scope} {a : Addr} {ccd : Value} {cl : List (Str × Addr)} {outer : List Env} {A₀ : Around} {base h₀ : Heap} {L : Addr} {m : Str → Option Value} {news : List (Addr × Obj)} {s : Shared} {Q E : Value → Shared → Prop}
local macro_rules | `(tactic| walk_at "truthy ref") => `(tactic| (k_here; k_dflt (refine' truthy_emptyK ?k1 ?k2 ?k3 ?k4 ?_; (case k1 => k_asm); (case k2 => k_asm); (case k3 => k_is); (case k4 => rfl); k_whole)))
local macro_rules | `(tactic| walk_at "execs cons") => `(tactic| (k_here; (refine tk_gen (by (fail_if_success assumption); first | omega | (with_unfolding_all exact Nat.succ_pos _)) ?_); intro tk htk))
local macro_rules | `(tactic| walk_at "execs nil") => `(tactic| (k_here; (refine tk_gen (by (fail_if_success assumption); first | omega | (with_unfolding_all exact Nat.succ_pos _)) ?_); intro tk htk))
local macro_rules | `(tactic| walk_at "call builtin:str.replace") => `(tactic| (k_here; (refine replace_tk 1 (by dsimp only; omega) (by omega) (by omega) (by decide) (by first | assumption | omega) (by decide) (by decide) (by decide) ?_); intro t' k' hk' hl'))
local macro_rules | `(tactic| walk_at "call builtin:bytes.decode") => `(tactic| (k_here; (refine decode1 (by first | assumption | omega) 0 (Nat.zero_le _) ?_); intro t' k' hk'))
local macro_rules | `(tactic| k_room) => `(tactic| first | ktr_room | ((simp only [depth_mark, depth_deeper]); ktr_room))
local macro_rules | `(tactic| k_units) => `(tactic| ktr_units)
local macro_rules | `(tactic| units_room) => `(tactic| ktr_units)
local macro_rules | `(tactic| walk_at "CompEnd") => `(tactic| k_extra "mycompend")
local macro_rules | `(tactic| k_all) => `(tactic| k_extra "rest")
local macro_rules | `(tactic| walk_at "call ref") => `(tactic| k_extra "mycall")
local macro_rules | `(tactic| walk_at "eval ListComp") => `(tactic| k_extra "mycomp")
local macro_rules | `(tactic| walk_at "exec Assign cons ListComp") => `(tactic| k_extra "mycompA")
local macro_rules | `(tactic| walk_at "CompSrcT") => `(tactic| k_extra "mysrcT")
local macro_rules | `(tactic| walk_at "call builtin:list.extend") => `(tactic| (k_here; (with_reducible show wpAny _ _ (call (Value.builtin _) [Value.ref _, Value.ref _]) _ _ _); k_dflt (refine ext_any (by k_asm) (by k_asm) (by k_mem) (by k_updF) (by k_extra "ext") ?_); intro h' n' F' N'; (try dsimp only at N'); (try k_sweep)))
local macro_rules | `(tactic| walk_at "KCiEl") => `(tactic| k_extra "myciel")
local macro_rules | `(tactic| walk_at "KCiNo") => `(tactic| k_extra "mycino")
local macro_rules | `(tactic| walk_at "SrcS") => `(tactic| k_extra "mysrcS")
local macro_rules | `(tactic| walk_at "CompSrc") => `(tactic| k_extra "mysrc")
local macro_rules | `(tactic| walk_at "pyIter str") => `(tactic| k_extra "myiter")
local macro_rules | `(tactic| walk_at "pyIter ref") => `(tactic| first | k_extra "myiter" | (with_reducible refine stopP ?_))
local macro_rules | `(tactic| walk_at "exec For Name Name cons nil") => `(tactic| (k_here; (rename Fr _ _ _ _ => lF'); (with_unfolding_all refine' For_invVF lF' ?k1 ?k2 ?_; (case k1 => exact rfl); (case k2 => exact rfl); k_whole)))
local macro_rules | `(tactic| walk_at "call builtin:len") => `(tactic| (k_here; (with_reducible show wpAny _ _ (call (Value.builtin "len") [Value.str _ _]) _ _ _); (refine PyProof.Rows.len_str (by first | omega | ((simp only [S_len, List.length_append]); omega)) ?_)))
local macro_rules | `(tactic| walk_at "binaryOp Add str str") => `(tactic| (k_here; (refine PyProof.Rows.add_str ?_ (by (rw [sizeLine_eq]); first | k_extra "len" | omega | ((simp only [S_len, PySem.Str.length_append, List.length_append]); omega))); intro t' k'; (try (rw [S_app]))))
local macro_rules | `(tactic| walk_at "callWith ref") => `(tactic| (k_here; k_dflt (first
  | (refine' callWith_F ?k1 ?_; (case k1 => exact FnAt.of (by k_asm) (by k_mem)); k_whole)
  | (refine' callWith_F0 ?k1 ?_; (case k1 => exact FnAt.of (by k_asm) (by k_mem)); k_whole; try dsimp only [List.nil_append, List.cons_append]))))

theorem reference_tells {n : Nat} {tx : Tok} (B : Below A₀ base outer h₀) (F : Fr h₀ L s.heap m) (X : (hd.heap_39 w.params).In h₀) (T : Top p loose mean mg mb h₀) (hk : cs.kind = .function)
    (hdp : dp + 1 < recursionLimit) (hu : un + 8 < cLine) (N : News h₀ L s.heap news)
    (ret : ∀ t h' tk, Fr h₀ L h' m → News h₀ L h' news → Q (.str (S (refL n)) t) { s with heap := h', toks := tk }) :
    wpAny (model PySem.Challenge.rw_ij0009_01.row.prog w) (ktrTop dp un gd cn cs L a ccd cl outer) (call (.ref 88) [.str ⟨#[n]⟩ tx]) Q E s := by
  w_top off
  k_with_none
  k_with "enter" => (first
    | (refine' code_def ?k1 ?k2 ?k3 ?k4 ?k5 ?kA ?kF ?kK ?k6 ?k7 ?k8 ?k9 ?kB ?_ ?c2 ?c3 ?c4 ?c5; (case kA => exact rfl); (case kF => exact rfl); (case kK => first | exact rfl | assumption); (case k1 => k_asm); (case k2 => k_asm); (case k3 => k_asm); (case k4 => k_asm); (case k5 => k_asm); (case k6 => k_is); (case k7 => k_is); (case k8 => ktr_room); (case k9 => first | exact BindsTo.of_eq rfl | exact binds_K (by k_in) rfl (by k_is) rfl rfl rfl | fail "enter: no rule for these arguments"); (case c5 => decide); (case kB => exact locs rfl); (case c2 => exact rfl); (case c3 => exact rfl); (case c4 => exact rfl); k_whole; intro g' L' h' FG' F' N' B' X' T'; (try dsimp only); (try k_lift B'); (try k_fold))
    | (refine' code_defC ?k1 ?k2 ?k3 ?k4 ?k5 ?kA ?kF ?kK ?k6 ?k7 ?k8 ?k9 ?kB ?kD ?_ ?c2 ?c3 ?c4; (case kA => exact rfl); (case kF => exact rfl); (case kK => first | exact rfl | assumption); (case k1 => k_asm); (case k2 => k_asm); (case k3 => k_asm); (case k4 => k_asm); (case k5 => k_asm); (case k6 => k_is); (case k7 => k_is); (case k8 => ktr_room); (case k9 => first | exact BindsTo.of_eq rfl | exact binds_K (by k_in) rfl (by k_is) rfl rfl rfl | fail "enter: no rule for these arguments"); (case kB => exact rfl); (case kD => decide +kernel); (case c2 => exact rfl); (case c3 => exact rfl); (case c4 => exact rfl); k_whole; intro g' L' h' tk' cells' FG' F' N' Y' B' X' T' l1; (try k_lt l1); k_cells Y'; (try simp only [List.cons_append, List.nil_append] at N'); (try dsimp only); (try k_lift B'); (try k_fold)))
  k_with "entern" => (refine' code_nest ?k1 ?k2 ?k3 ?k4 ?k5 ?kA ?kF ?kK ?k6 ?k7 ?k8 ?k9 ?kB ?_ ?c2 ?c3 ?c4 ?c5; (case kA => assumption); (case kF => assumption); (case kK => first | exact rfl | assumption); (case k1 => k_asm); (case k2 => k_asm); (case k3 => k_asm); (case k4 => k_asm); (case k5 => k_asm); (case k6 => k_mem); (case k7 => exact codeRec_news (by k_asm) (by k_mem) (by assumption) (by assumption)); (case k8 => ktr_room); (case k9 => exact BindsTo.of_eq rfl); (case c5 => decide); (case kB => exact locs rfl); (case c2 => exact rfl); (case c3 => exact rfl); (case c4 => exact rfl); k_whole; intro g' L' h' FG' F' N' B' X' T'; (try dsimp only); (try k_lift B'); (try k_fold))
  revert X; k_fill; intro X
  refine wpAny_call ?_
  k_dflt (k_extra "enter")
  have e38 : ((⟨#[n]⟩ : Str) == Str.ofString "&") = decide (n = 38) := one_eq (by decide +kernel)
  have e60 : ((⟨#[n]⟩ : Str) == Str.ofString "<") = decide (n = 60) := one_eq (by decide +kernel)
  have e62 : ((⟨#[n]⟩ : Str) == Str.ofString ">") = decide (n = 62) := one_eq (by decide +kernel)
  k_steps
  all_goals (rename Fr _ _ _ _ => F9; rename News _ _ _ _ => N9; (have r9 := fun t tk => ret t _ tk F9 N9); simp only [e38, e60, e62, decide_eq_true_eq, decide_eq_false_iff_not] at *)
  · exact q_str (refL_38 (by assumption)) (r9 _ _)
  · exact q_str (refL_60 (by assumption)) (r9 _ _)
  · exact q_str (refL_62 (by assumption)) (r9 _ _)
  · exact q_str (refL_no (by assumption) (by assumption) (by assumption)) (r9 _ _)

end
end Mine
end
section
open PySem PySem.W PyProof.Rows PySem.Spec PySem.Calls
namespace Mine
section
variable {w : World} {p : Program} {loose : List Str} {mean : ExcName → Option Value} {mg mb : Str → Option Value} {dp un : Nat} {gd : Option (List Code)} {cn : Str} {cs : Scope} {a : Addr} {ccd : Value} {cl : List (Str × Addr)} {outer : List Env} {A₀ : Around} {base h₀ : Heap} {L : Addr} {m : Str → Option Value} {news : List (Addr × Obj)} {s : Shared} {Q E : Value → Shared → Prop}
local macro_rules | `(tactic| walk_at "truthy ref") => `(tactic| (k_here; k_dflt (refine' truthy_emptyK ?k1 ?k2 ?k3 ?k4 ?_; (case k1 => k_asm); (case k2 => k_asm); (case k3 => k_is); (case k4 => rfl); k_whole)))
local macro_rules | `(tactic| walk_at "execs cons") => `(tactic| (k_here; (refine tk_gen (by (fail_if_success assumption); first | omega | (with_unfolding_all exact Nat.succ_pos _)) ?_); intro tk htk))
local macro_rules | `(tactic| walk_at "execs nil") => `(tactic| (k_here; (refine tk_gen (by (fail_if_success assumption); first | omega | (with_unfolding_all exact Nat.succ_pos _)) ?_); intro tk htk))
local macro_rules | `(tactic| walk_at "call builtin:str.replace") => `(tactic| (k_here; (refine replace_tk 1 (by dsimp only; omega) (by omega) (by omega) (by decide) (by first | assumption | omega) (by decide) (by decide) (by decide) ?_); intro t' k' hk' hl'))
local macro_rules | `(tactic| walk_at "call builtin:bytes.decode") => `(tactic| (k_here; (refine decode1 (by first | assumption | omega) 0 (Nat.zero_le _) ?_); intro t' k' hk'))
local macro_rules | `(tactic| k_room) => `(tactic| first | ktr_room | ((simp only [depth_mark, depth_deeper]); ktr_room))
local macro_rules | `(tactic| k_units) => `(tactic| ktr_units)
local macro_rules | `(tactic| units_room) => `(tactic| ktr_units)
local macro_rules | `(tactic| walk_at "CompEnd") => `(tactic| k_extra "mycompend")
local macro_rules | `(tactic| k_all) => `(tactic| k_extra "rest")
local macro_rules | `(tactic| walk_at "call ref") => `(tactic| k_extra "mycall")
local macro_rules | `(tactic| walk_at "eval ListComp") => `(tactic| k_extra "mycomp")
local macro_rules | `(tactic| walk_at "exec Assign cons ListComp") => `(tactic| k_extra "mycompA")
local macro_rules | `(tactic| walk_at "CompSrcT") => `(tactic| k_extra "mysrcT")
local macro_rules | `(tactic| walk_at "call builtin:list.extend") => `(tactic| (k_here; (with_reducible show wpAny _ _ (call (Value.builtin _) [Value.ref _, Value.ref _]) _ _ _); k_dflt (refine ext_any (by k_asm) (by k_asm) (by k_mem) (by k_updF) (by k_extra "ext") ?_); intro h' n' F' N'; (try dsimp only at N'); (try k_sweep)))
local macro_rules | `(tactic| walk_at "KCiEl") => `(tactic| k_extra "myciel")
local macro_rules | `(tactic| walk_at "KCiNo") => `(tactic| k_extra "mycino")
local macro_rules | `(tactic| walk_at "SrcS") => `(tactic| k_extra "mysrcS")
local macro_rules | `(tactic| walk_at "CompSrc") => `(tactic| k_extra "mysrc")
local macro_rules | `(tactic| walk_at "pyIter str") => `(tactic| k_extra "myiter")
local macro_rules | `(tactic| walk_at "pyIter ref") => `(tactic| first | k_extra "myiter" | (with_reducible refine stopP ?_))
local macro_rules | `(tactic| walk_at "exec For Name Name cons nil") => `(tactic| (k_here; (rename Fr _ _ _ _ => lF'); (with_unfolding_all refine' For_invVF lF' ?k1 ?k2 ?_; (case k1 => exact rfl); (case k2 => exact rfl); k_whole)))
local macro_rules | `(tactic| walk_at "call builtin:len") => `(tactic| (k_here; (with_reducible show wpAny _ _ (call (Value.builtin "len") [Value.str _ _]) _ _ _); (refine PyProof.Rows.len_str (by first | omega | ((simp only [S_len, List.length_append]); omega)) ?_)))
local macro_rules | `(tactic| walk_at "binaryOp Add str str") => `(tactic| (k_here; (refine PyProof.Rows.add_str ?_ (by (rw [sizeLine_eq]); first | k_extra "len" | omega | ((simp only [S_len, PySem.Str.length_append, List.length_append]); omega))); intro t' k'; (try (rw [S_app]))))
local macro_rules | `(tactic| walk_at "callWith ref") => `(tactic| (k_here; k_dflt (first
  | (refine' callWith_F ?k1 ?_; (case k1 => exact FnAt.of (by k_asm) (by k_mem)); k_whole)
  | (refine' callWith_F0 ?k1 ?_; (case k1 => exact FnAt.of (by k_asm) (by k_mem)); k_whole; try dsimp only [List.nil_append, List.cons_append]))))

theorem come_tells {xt : Str} {tx te : Tok} {edge : Int} (B : Below A₀ base outer h₀) (F : Fr h₀ L s.heap m) (X : (hd.heap_39 w.params).In h₀) (T : Top p loose mean mg mb h₀) (hk : cs.kind = .function)
    (hdp : dp + 2 < recursionLimit) (hu : un + 20 < cLine) (N : News h₀ L s.heap news)
    (hx : xt.length ≤ 1000)
    (ret : ∀ t h' tk, Fr h₀ L h' m → News h₀ L h' news → Q (.str (S (comeL edge xt.cps.toList).1) t) { s with heap := h', toks := tk }) :
    wpAny (model PySem.Challenge.rw_ij0009_01.row.prog w) (ktrTop dp un gd cn cs L a ccd cl outer) (call (.ref 112) [.str xt tx, .int edge te]) Q E s := by
  w_top off
  k_with_none
  k_with "enter" => (first
    | (refine' code_def ?k1 ?k2 ?k3 ?k4 ?k5 ?kA ?kF ?kK ?k6 ?k7 ?k8 ?k9 ?kB ?_ ?c2 ?c3 ?c4 ?c5; (case kA => exact rfl); (case kF => exact rfl); (case kK => first | exact rfl | assumption); (case k1 => k_asm); (case k2 => k_asm); (case k3 => k_asm); (case k4 => k_asm); (case k5 => k_asm); (case k6 => k_is); (case k7 => k_is); (case k8 => ktr_room); (case k9 => first | exact BindsTo.of_eq rfl | exact binds_K (by k_in) rfl (by k_is) rfl rfl rfl | fail "enter: no rule for these arguments"); (case c5 => decide); (case kB => exact locs rfl); (case c2 => exact rfl); (case c3 => exact rfl); (case c4 => exact rfl); k_whole; intro g' L' h' FG' F' N' B' X' T'; (try dsimp only); (try k_lift B'); (try k_fold))
    | (refine' code_defC ?k1 ?k2 ?k3 ?k4 ?k5 ?kA ?kF ?kK ?k6 ?k7 ?k8 ?k9 ?kB ?kD ?_ ?c2 ?c3 ?c4; (case kA => exact rfl); (case kF => exact rfl); (case kK => first | exact rfl | assumption); (case k1 => k_asm); (case k2 => k_asm); (case k3 => k_asm); (case k4 => k_asm); (case k5 => k_asm); (case k6 => k_is); (case k7 => k_is); (case k8 => ktr_room); (case k9 => first | exact BindsTo.of_eq rfl | exact binds_K (by k_in) rfl (by k_is) rfl rfl rfl | fail "enter: no rule for these arguments"); (case kB => exact rfl); (case kD => decide +kernel); (case c2 => exact rfl); (case c3 => exact rfl); (case c4 => exact rfl); k_whole; intro g' L' h' tk' cells' FG' F' N' Y' B' X' T' l1; (try k_lt l1); k_cells Y'; (try simp only [List.cons_append, List.nil_append] at N'); (try dsimp only); (try k_lift B'); (try k_fold)))
  k_with "entern" => (refine' code_nest ?k1 ?k2 ?k3 ?k4 ?k5 ?kA ?kF ?kK ?k6 ?k7 ?k8 ?k9 ?kB ?_ ?c2 ?c3 ?c4 ?c5; (case kA => assumption); (case kF => assumption); (case kK => first | exact rfl | assumption); (case k1 => k_asm); (case k2 => k_asm); (case k3 => k_asm); (case k4 => k_asm); (case k5 => k_asm); (case k6 => k_mem); (case k7 => exact codeRec_news (by k_asm) (by k_mem) (by assumption) (by assumption)); (case k8 => ktr_room); (case k9 => exact BindsTo.of_eq rfl); (case c5 => decide); (case kB => exact locs rfl); (case c2 => exact rfl); (case c3 => exact rfl); (case c4 => exact rfl); k_whole; intro g' L' h' FG' F' N' B' X' T'; (try dsimp only); (try k_lift B'); (try k_fold))
  k_with "mycall" => (k_here; k_dflt (refine' reference_tells (by k_asm) (by k_asm) (by k_asm) (by k_asm) (by first | exact rfl | assumption) (by first | ktr_room | ((simp only [depth_mark, depth_deeper]); ktr_room)) (by ktr_units) (by k_asm) ?_); intro t9 h9 tk9 F9 N9; (try dsimp only))
  k_with "myiter" => ((rename Fr _ _ _ _ => F5); (rename News _ _ _ _ => N5); k_dflt (refine loop_text (fun _ _ => news) (fun i (c : Str × Int × Tok × Tok) => [(Str.ofString "text", .str xt tx), (Str.ofString "edge", .int edge te), (Str.ofString "due", .str c.1 c.2.2.1), (Str.ofString "end", .int c.2.1 c.2.2.2)]) (fun i c => c.1 = S (comeL edge (xt.cps.toList.take i)).1 ∧ c.2.1 = ((comeL edge (xt.cps.toList.take i)).2 : Nat)) (_, _, _, _) (news.map (·.1)) (by rfl) (fun _ _ => rfl) F5 N5 (fun _ h => h) ⟨S_nil.symm, rfl⟩ (by kst_all) ?_ ?_); (rintro i n t ⟨due, en, t1, t2⟩ u h6 tk6 own Q6 hn ⟨hdue, hen⟩ hoff F6 N6 hend hret); (try clear F5 N5); (dsimp only [kstB] at F6 hdue hen); (have hle := comeL_le edge (xt.cps.toList.take i)); (have hxl : xt.cps.toList.length = xt.length := by simp [Str.length]); (have hil : (xt.cps.toList.take i).length ≤ xt.length := by rw [List.length_take]; omega); (have hdl : due.length ≤ 1000 := by rw [hdue, S_len]; omega); (have hone : (⟨#[n]⟩ : Str).length = 1 := rfl); (have hrl := refL_len_le n); rotate_left; (rintro ⟨due, en, t1, t2⟩ u h6 tk6 ⟨hdue, hen⟩ F6 N6); (try clear F5 N5); (dsimp only [kstB] at F6 hdue hen))
  revert X; k_fill; intro X
  refine wpAny_call ?_
  k_dflt (k_extra "enter")
  k_steps
  · rename Fr _ _ _ _ => F9
    rename News _ _ _ _ => N9
    rw [List.take_length] at hdue
    exact q_str hdue.symm (ret t1 _ _ F9 N9)
  · rename Fr _ _ _ _ => F9
    rename News _ _ _ _ => N9
    have hc : en + ((S (refL n)).length : Int) ≤ edge := by assumption
    rw [S_len] at hc
    refine hend .next (_, _, _, _) _ _ _ (.inl rfl) ?_ (by kst_all) hoff F9 N9
    dsimp only
    rw [take_snoc hn, comeL_snoc, hdue, hen, S_snoc, S_len]
    unfold comeStep
    rw [if_pos (by omega)]
    exact ⟨rfl, by dsimp only; omega⟩
  · rename Fr _ _ _ _ => F9
    rename News _ _ _ _ => N9
    have hc : ¬ (en + ((S (refL n)).length : Int) ≤ edge) := by assumption
    rw [S_len] at hc
    refine hend .next (_, _, _, _) _ _ _ (.inl rfl) ?_ (by kst_all) hoff F9 N9
    dsimp only
    rw [take_snoc hn, comeL_snoc, hen, S_len]
    unfold comeStep
    rw [if_neg (by omega)]
    exact ⟨hdue, by dsimp only; omega⟩

end
end Mine
end
section
open PySem PySem.W PyProof.Rows PySem.Spec PySem.Calls
namespace Mine
section
variable {w : World} {p : Program} {loose : List Str} {mean : ExcName → Option Value} {mg mb : Str → Option Value} {dp un : Nat} {gd : Option (List Code)} {cn : Str} {cs : Scope} {a : Addr} {ccd : Value} {cl : List (Str × Addr)} {outer : List Env} {A₀ : Around} {base h₀ : Heap} {L : Addr} {m : Str → Option Value} {news : List (Addr × Obj)} {s : Shared} {Q E : Value → Shared → Prop}
local macro_rules | `(tactic| walk_at "truthy ref") => `(tactic| (k_here; k_dflt (refine' truthy_emptyK ?k1 ?k2 ?k3 ?k4 ?_; (case k1 => k_asm); (case k2 => k_asm); (case k3 => k_is); (case k4 => rfl); k_whole)))
local macro_rules | `(tactic| walk_at "execs cons") => `(tactic| (k_here; (refine tk_gen (by (fail_if_success assumption); first | omega | (with_unfolding_all exact Nat.succ_pos _)) ?_); intro tk htk))
local macro_rules | `(tactic| walk_at "execs nil") => `(tactic| (k_here; (refine tk_gen (by (fail_if_success assumption); first | omega | (with_unfolding_all exact Nat.succ_pos _)) ?_); intro tk htk))
local macro_rules | `(tactic| walk_at "call builtin:str.replace") => `(tactic| (k_here; (refine replace_tk 1 (by dsimp only; omega) (by omega) (by omega) (by decide) (by first | assumption | omega) (by decide) (by decide) (by decide) ?_); intro t' k' hk' hl'))
local macro_rules | `(tactic| walk_at "call builtin:bytes.decode") => `(tactic| (k_here; (refine decode1 (by first | assumption | omega) 0 (Nat.zero_le _) ?_); intro t' k' hk'))
local macro_rules | `(tactic| k_room) => `(tactic| first | ktr_room | ((simp only [depth_mark, depth_deeper]); ktr_room))
local macro_rules | `(tactic| k_units) => `(tactic| ktr_units)
local macro_rules | `(tactic| units_room) => `(tactic| ktr_units)
local macro_rules | `(tactic| walk_at "CompEnd") => `(tactic| k_extra "mycompend")
local macro_rules | `(tactic| k_all) => `(tactic| k_extra "rest")
local macro_rules | `(tactic| walk_at "call ref") => `(tactic| k_extra "mycall")
local macro_rules | `(tactic| walk_at "eval ListComp") => `(tactic| k_extra "mycomp")
local macro_rules | `(tactic| walk_at "exec Assign cons ListComp") => `(tactic| k_extra "mycompA")
local macro_rules | `(tactic| walk_at "CompSrcT") => `(tactic| k_extra "mysrcT")
local macro_rules | `(tactic| walk_at "call builtin:list.extend") => `(tactic| (k_here; (with_reducible show wpAny _ _ (call (Value.builtin _) [Value.ref _, Value.ref _]) _ _ _); k_dflt (refine ext_any (by k_asm) (by k_asm) (by k_mem) (by k_updF) (by k_extra "ext") ?_); intro h' n' F' N'; (try dsimp only at N'); (try k_sweep)))
local macro_rules | `(tactic| walk_at "KCiEl") => `(tactic| k_extra "myciel")
local macro_rules | `(tactic| walk_at "KCiNo") => `(tactic| k_extra "mycino")
local macro_rules | `(tactic| walk_at "SrcS") => `(tactic| k_extra "mysrcS")
local macro_rules | `(tactic| walk_at "CompSrc") => `(tactic| k_extra "mysrc")
local macro_rules | `(tactic| walk_at "pyIter str") => `(tactic| k_extra "myiter")
local macro_rules | `(tactic| walk_at "pyIter ref") => `(tactic| first | k_extra "myiter" | (with_reducible refine stopP ?_))
local macro_rules | `(tactic| walk_at "exec For Name Name cons nil") => `(tactic| (k_here; (rename Fr _ _ _ _ => lF'); (with_unfolding_all refine' For_invVF lF' ?k1 ?k2 ?_; (case k1 => exact rfl); (case k2 => exact rfl); k_whole)))
local macro_rules | `(tactic| walk_at "call builtin:len") => `(tactic| (k_here; (with_reducible show wpAny _ _ (call (Value.builtin "len") [Value.str _ _]) _ _ _); (refine PyProof.Rows.len_str (by first | omega | ((simp only [S_len, List.length_append]); omega)) ?_)))
local macro_rules | `(tactic| walk_at "binaryOp Add str str") => `(tactic| (k_here; (refine PyProof.Rows.add_str ?_ (by (rw [sizeLine_eq]); first | k_extra "len" | omega | ((simp only [S_len, PySem.Str.length_append, List.length_append]); omega))); intro t' k'; (try (rw [S_app]))))
local macro_rules | `(tactic| walk_at "callWith ref") => `(tactic| (k_here; k_dflt (first
  | (refine' callWith_F ?k1 ?_; (case k1 => exact FnAt.of (by k_asm) (by k_mem)); k_whole)
  | (refine' callWith_F0 ?k1 ?_; (case k1 => exact FnAt.of (by k_asm) (by k_mem)); k_whole; try dsimp only [List.nil_append, List.cons_append]))))

theorem torn_tells {xt : Str} {tx : Tok} {le : Addr} {es : List Int} {us : List Value} {ne : Nat} {rest : List (Addr × Obj)} (B : Below A₀ base outer h₀) (F : Fr h₀ L s.heap m) (X : (hd.heap_39 w.params).In h₀) (T : Top p loose mean mg mb h₀) (hk : cs.kind = .function)
    (hdp : dp + 4 < recursionLimit) (hu : un + 200 < cLine) (N : News h₀ L s.heap ((le, listOf us.toArray ne) :: rest)) (hes : IntsAre us es)
    (hx : xt.length ≤ 1000) (hel : es.length ≤ 1000)
    (ret : ∀ t h' tk, Fr h₀ L h' m → News h₀ L h' ((le, listOf us.toArray ne) :: rest) → Q (.str (S (tornL es xt.cps.toList).1) t) { s with heap := h', toks := tk }) :
    wpAny (model PySem.Challenge.rw_ij0009_01.row.prog w) (ktrTop dp un gd cn cs L a ccd cl outer) (call (.ref 105) [.str xt tx, .ref le]) Q E s := by
  w_top off
  k_with_none
  k_with "enter" => (first
    | (refine' code_def ?k1 ?k2 ?k3 ?k4 ?k5 ?kA ?kF ?kK ?k6 ?k7 ?k8 ?k9 ?kB ?_ ?c2 ?c3 ?c4 ?c5; (case kA => exact rfl); (case kF => exact rfl); (case kK => first | exact rfl | assumption); (case k1 => k_asm); (case k2 => k_asm); (case k3 => k_asm); (case k4 => k_asm); (case k5 => k_asm); (case k6 => k_is); (case k7 => k_is); (case k8 => ktr_room); (case k9 => first | exact BindsTo.of_eq rfl | exact binds_K (by k_in) rfl (by k_is) rfl rfl rfl | fail "enter: no rule for these arguments"); (case c5 => decide); (case kB => exact locs rfl); (case c2 => exact rfl); (case c3 => exact rfl); (case c4 => exact rfl); k_whole; intro g' L' h' FG' F' N' B' X' T'; (try dsimp only); (try k_lift B'); (try k_fold))
    | (refine' code_defC ?k1 ?k2 ?k3 ?k4 ?k5 ?kA ?kF ?kK ?k6 ?k7 ?k8 ?k9 ?kB ?kD ?_ ?c2 ?c3 ?c4; (case kA => exact rfl); (case kF => exact rfl); (case kK => first | exact rfl | assumption); (case k1 => k_asm); (case k2 => k_asm); (case k3 => k_asm); (case k4 => k_asm); (case k5 => k_asm); (case k6 => k_is); (case k7 => k_is); (case k8 => ktr_room); (case k9 => first | exact BindsTo.of_eq rfl | exact binds_K (by k_in) rfl (by k_is) rfl rfl rfl | fail "enter: no rule for these arguments"); (case kB => exact rfl); (case kD => decide +kernel); (case c2 => exact rfl); (case c3 => exact rfl); (case c4 => exact rfl); k_whole; intro g' L' h' tk' cells' FG' F' N' Y' B' X' T' l1; (try k_lt l1); k_cells Y'; (try simp only [List.cons_append, List.nil_append] at N'); (try dsimp only); (try k_lift B'); (try k_fold)))
  k_with "entern" => (refine' code_nest ?k1 ?k2 ?k3 ?k4 ?k5 ?kA ?kF ?kK ?k6 ?k7 ?k8 ?k9 ?kB ?_ ?c2 ?c3 ?c4 ?c5; (case kA => assumption); (case kF => assumption); (case kK => first | exact rfl | assumption); (case k1 => k_asm); (case k2 => k_asm); (case k3 => k_asm); (case k4 => k_asm); (case k5 => k_asm); (case k6 => k_mem); (case k7 => exact codeRec_news (by k_asm) (by k_mem) (by assumption) (by assumption)); (case k8 => ktr_room); (case k9 => exact BindsTo.of_eq rfl); (case c5 => decide); (case kB => exact locs rfl); (case c2 => exact rfl); (case c3 => exact rfl); (case c4 => exact rfl); k_whole; intro g' L' h' FG' F' N' B' X' T'; (try dsimp only); (try k_lift B'); (try k_fold))
  k_with "mycall" => (k_here; k_dflt (refine' reference_tells (by k_asm) (by k_asm) (by k_asm) (by k_asm) (by first | exact rfl | assumption) (by first | ktr_room | ((simp only [depth_mark, depth_deeper]); ktr_room)) (by ktr_units) (by k_asm) ?_); intro t9 h9 tk9 F9 N9; (try dsimp only))
  revert X; k_fill; intro X
  refine wpAny_call ?_
  k_dflt (k_extra "enter")
  have lr := allLt_all l1.2
  k_with "rest" => (intro p9 hp9; (have q9 := lr p9 hp9); refine neN ?_; (try dsimp only); omega)
  k_with "rest" => (exact ne_tail (fun p9 hp9 => by (have q9 := lr p9 hp9); omega) hoff (by k_mem))
  k_with "myiter" => ((rename Fr _ _ _ _ => F5); (rename News _ _ _ _ => N5); k_dflt (refine loop_text (fun _ (c : Str × Obj × Obj × Option Value × Int × Tok × Tok) => (L' + 1 + 1, c.2.1) :: (L' + 1, c.2.2.1) :: (le, listOf us.toArray ne) :: rest) (fun i c => [(Str.ofString "text", .str xt tx), (Str.ofString "edges", .ref le), (Str.ofString "due", .str c.1 c.2.2.2.2.2.1)]) (fun i c => c.1 = S (tornL es (xt.cps.toList.take i)).1 ∧ c.2.2.2.2.1 = ((tornL es (xt.cps.toList.take i)).2 : Nat) ∧ c.2.1.data = .cell c.2.2.2.1 ∧ c.2.2.1.data = .cell (some (.int c.2.2.2.2.1 c.2.2.2.2.2.2))) (_, _, _, _, _, _, _) ((L' + 1 + 1) :: (L' + 1) :: le :: rest.map (·.1)) (by rfl) (fun _ _ => rfl) F5 N5 (fun _ h => h) ⟨S_nil.symm, rfl, by k_asm, by k_asm⟩ (by kst_all) ?_ ?_); (rintro i n t ⟨due, eo, so, ev, st, td, ts⟩ u h6 tk6 own Q6 hn ⟨hdue, hst, heo, hso⟩ hoff F6 N6 hend hret); (try clear F5 N5); (dsimp only [kstB] at F6 hdue hst heo hso); (simp only [List.cons_append] at N6); (simp only [List.map_cons] at hoff); (have hle := tornL_le es (xt.cps.toList.take i)); (have hxl : xt.cps.toList.length = xt.length := by simp [Str.length]); (have hil : (xt.cps.toList.take i).length ≤ xt.length := by rw [List.length_take]; omega); (have hdl : due.length ≤ 5000 := by rw [hdue, S_len]; omega); (have hone : (⟨#[n]⟩ : Str).length = 1 := rfl); (have hrl := refL_len_le n); (have hsl := S_len (refL n)); rotate_left; (rintro ⟨due, eo, so, ev, st, td, ts⟩ u h6 tk6 ⟨hdue, hst, heo, hso⟩ F6 N6); (try clear F5 N5); (dsimp only [kstB] at F6 hdue hst))
  k_with "mycomp" => (k_here; k_dflt (refine LCt.ListComp_T (F₀ := by k_asm) (by with_unfolding_all rfl) (by decide) (by rfl) (by decide) (by rfl) ?_))
  k_with "mysrcT" => (k_here; k_dflt (refine LCt.CompSrcT.ledger (by rfl) (by k_asm) (by k_asm) (show (le, ({ cls := .type "list", data := .seq us.toArray ne } : Obj)) ∈ _ by k_mem) (by rw [sizeLine_eq, List.size_toArray, hes.length]; omega) ?_); intro g5; (refine kci_list (fun l k => if st < k ∧ k < st + ((S (refL n)).length : Int) then l ++ [k] else l) hes (fun k5 t5 I5 oI5 C5 oC5 D5 m5 ys5 l5 h5 tk5 E5 hk5 hys5 hC5 hx5 F5 N5 off5 ne5 mk5 => ?_) ?_ ?_))
  k_with "mycompend" => (refine LCg.CompEnd.intro (by k_asm) (by k_asm) _ (fun _ h => h) off5 (.inr ⟨_, (by k_mem), rfl, _, rfl⟩) ?_)
  k_steps
  · rename Fr _ _ _ _ => F9
    rename News _ _ _ _ => N9
    rw [List.take_length] at hdue
    exact q_str hdue.symm (ret td _ _ F9 (cb_drop N9 (fun _ h => List.mem_cons_of_mem _ (List.mem_cons_of_mem _ h))))
  · rename Fr _ _ _ _ => F9
    rename News _ _ _ _ => N9
    have hc : decide (es.foldl (fun l k => if st < k ∧ k < st + ((S (refL n)).length : Int) then l ++ [k] else l) [] = []) = true := by assumption
    rw [torn_cond, hst, hsl, ← Int.natCast_add] at hc
    refine hend .next (_, _, _, _, _, _, _) _ _ _ (.inl rfl) ⟨?_, ?_, by k_asm, by k_asm⟩ (by kst_all) hoff F9 (cb_drop N9 (fun _ h => List.mem_cons_of_mem _ (List.mem_cons_of_mem _ h)))
    · rw [take_snoc hn, tornL_snoc]
      unfold tornStep
      dsimp only
      rw [if_neg (by simpa using hc), ← S_snoc, hdue]
    · rw [take_snoc hn, tornL_snoc]
      unfold tornStep
      dsimp only
      omega
  · rename Fr _ _ _ _ => F9
    rename News _ _ _ _ => N9
    have hc : decide (es.foldl (fun l k => if st < k ∧ k < st + ((S (refL n)).length : Int) then l ++ [k] else l) [] = []) = false := by assumption
    rw [torn_cond, hst, hsl, ← Int.natCast_add] at hc
    refine hend .next (_, _, _, _, _, _, _) _ _ _ (.inl rfl) ⟨?_, ?_, by k_asm, by k_asm⟩ (by kst_all) hoff F9 (cb_drop N9 (fun _ h => List.mem_cons_of_mem _ (List.mem_cons_of_mem _ h)))
    · rw [take_snoc hn, tornL_snoc]
      unfold tornStep
      dsimp only
      rw [if_pos (by simpa using hc), ← S_app, hdue]
    · rw [take_snoc hn, tornL_snoc]
      unfold tornStep
      dsimp only
      omega

end
end Mine
end
section
open PySem PySem.W PyProof.Rows PySem.Spec PySem.Calls
namespace Mine
section
variable {w : World} {p : Program} {loose : List Str} {mean : ExcName → Option Value} {mg mb : Str → Option Value} {dp un : Nat} {gd : Option (List Code)} {cn : Str} {cs : Scope} {a : Addr} {ccd : Value} {cl : List (Str × Addr)} {outer : List Env} {A₀ : Around} {base h₀ : Heap} {L : Addr} {m : Str → Option Value} {news : List (Addr × Obj)} {s : Shared} {Q E : Value → Shared → Prop}
local macro_rules | `(tactic| walk_at "truthy ref") => `(tactic| (k_here; k_dflt (refine' truthy_emptyK ?k1 ?k2 ?k3 ?k4 ?_; (case k1 => k_asm); (case k2 => k_asm); (case k3 => k_is); (case k4 => rfl); k_whole)))
local macro_rules | `(tactic| walk_at "execs cons") => `(tactic| (k_here; (refine tk_gen (by (fail_if_success assumption); first | omega | (with_unfolding_all exact Nat.succ_pos _)) ?_); intro tk htk))
local macro_rules | `(tactic| walk_at "execs nil") => `(tactic| (k_here; (refine tk_gen (by (fail_if_success assumption); first | omega | (with_unfolding_all exact Nat.succ_pos _)) ?_); intro tk htk))
local macro_rules | `(tactic| walk_at "call builtin:str.replace") => `(tactic| (k_here; (refine replace_tk 1 (by dsimp only; omega) (by omega) (by omega) (by decide) (by first | assumption | omega) (by decide) (by decide) (by decide) ?_); intro t' k' hk' hl'))
local macro_rules | `(tactic| walk_at "call builtin:bytes.decode") => `(tactic| (k_here; (refine decode1 (by first | assumption | omega) 0 (Nat.zero_le _) ?_); intro t' k' hk'))
local macro_rules | `(tactic| k_room) => `(tactic| first | ktr_room | ((simp only [depth_mark, depth_deeper]); ktr_room))
local macro_rules | `(tactic| k_units) => `(tactic| ktr_units)
local macro_rules | `(tactic| units_room) => `(tactic| ktr_units)
local macro_rules | `(tactic| walk_at "CompEnd") => `(tactic| k_extra "mycompend")
local macro_rules | `(tactic| k_all) => `(tactic| k_extra "rest")
local macro_rules | `(tactic| walk_at "call ref") => `(tactic| k_extra "mycall")
local macro_rules | `(tactic| walk_at "eval ListComp") => `(tactic| k_extra "mycomp")
local macro_rules | `(tactic| walk_at "exec Assign cons ListComp") => `(tactic| k_extra "mycompA")
local macro_rules | `(tactic| walk_at "CompSrcT") => `(tactic| k_extra "mysrcT")
local macro_rules | `(tactic| walk_at "call builtin:list.extend") => `(tactic| (k_here; (with_reducible show wpAny _ _ (call (Value.builtin _) [Value.ref _, Value.ref _]) _ _ _); k_dflt (refine ext_any (by k_asm) (by k_asm) (by k_mem) (by k_updF) (by k_extra "ext") ?_); intro h' n' F' N'; (try dsimp only at N'); (try k_sweep)))
local macro_rules | `(tactic| walk_at "KCiEl") => `(tactic| k_extra "myciel")
local macro_rules | `(tactic| walk_at "KCiNo") => `(tactic| k_extra "mycino")
local macro_rules | `(tactic| walk_at "SrcS") => `(tactic| k_extra "mysrcS")
local macro_rules | `(tactic| walk_at "CompSrc") => `(tactic| k_extra "mysrc")
local macro_rules | `(tactic| walk_at "pyIter str") => `(tactic| k_extra "myiter")
local macro_rules | `(tactic| walk_at "pyIter ref") => `(tactic| first | k_extra "myiter" | (with_reducible refine stopP ?_))
local macro_rules | `(tactic| walk_at "exec For Name Name cons nil") => `(tactic| (k_here; (rename Fr _ _ _ _ => lF'); (with_unfolding_all refine' For_invVF lF' ?k1 ?k2 ?_; (case k1 => exact rfl); (case k2 => exact rfl); k_whole)))
local macro_rules | `(tactic| walk_at "call builtin:len") => `(tactic| (k_here; (with_reducible show wpAny _ _ (call (Value.builtin "len") [Value.str _ _]) _ _ _); (refine PyProof.Rows.len_str (by first | omega | ((simp only [S_len, List.length_append]); omega)) ?_)))
local macro_rules | `(tactic| walk_at "binaryOp Add str str") => `(tactic| (k_here; (refine PyProof.Rows.add_str ?_ (by (rw [sizeLine_eq]); first | k_extra "len" | omega | ((simp only [S_len, PySem.Str.length_append, List.length_append]); omega))); intro t' k'; (try (rw [S_app]))))
local macro_rules | `(tactic| walk_at "callWith ref") => `(tactic| (k_here; k_dflt (first
  | (refine' callWith_F ?k1 ?_; (case k1 => exact FnAt.of (by k_asm) (by k_mem)); k_whole)
  | (refine' callWith_F0 ?k1 ?_; (case k1 => exact FnAt.of (by k_asm) (by k_mem)); k_whole; try dsimp only [List.nil_append, List.cons_append]))))

theorem pieces_tells {lw : List Nat} {tx : Tok} {le : Addr} {es : List Int} {us : List Value} {ne : Nat} {rest : List (Addr × Obj)} (B : Below A₀ base outer h₀) (F : Fr h₀ L s.heap m) (X : (hd.heap_39 w.params).In h₀) (T : Top p loose mean mg mb h₀) (hk : cs.kind = .function)
    (hdp : dp + 4 < recursionLimit) (hu : un + 200 < cLine) (N : News h₀ L s.heap ((le, listOf us.toArray ne) :: rest)) (hes : IntsAre us es)
    (hx : lw.length ≤ 1000) (hel : es.length ≤ 1000) (hes0 : ∀ e ∈ es, 0 ≤ e ∧ e ≤ 1000)
    (ret : ∀ r vs n h' tk, StrsAre vs ((piecesL lw es).map S) → @LT.lt Nat _ le r → (∀ q ∈ rest, @LT.lt Nat _ q.1 r) → Fr h₀ L h' m → News h₀ L h' ((r, listOf vs.toArray n) :: (le, listOf us.toArray ne) :: rest) → Q (.ref r) { s with heap := h', toks := tk }) :
    wpAny (model PySem.Challenge.rw_ij0009_01.row.prog w) (ktrTop dp un gd cn cs L a ccd cl outer) (call (.ref 95) [.str (S lw) tx, .ref le]) Q E s := by
  w_top off
  k_with_none
  k_with "enter" => (first
    | (refine' code_def ?k1 ?k2 ?k3 ?k4 ?k5 ?kA ?kF ?kK ?k6 ?k7 ?k8 ?k9 ?kB ?_ ?c2 ?c3 ?c4 ?c5; (case kA => exact rfl); (case kF => exact rfl); (case kK => first | exact rfl | assumption); (case k1 => k_asm); (case k2 => k_asm); (case k3 => k_asm); (case k4 => k_asm); (case k5 => k_asm); (case k6 => k_is); (case k7 => k_is); (case k8 => ktr_room); (case k9 => first | exact BindsTo.of_eq rfl | exact binds_K (by k_in) rfl (by k_is) rfl rfl rfl | fail "enter: no rule for these arguments"); (case c5 => decide); (case kB => exact locs rfl); (case c2 => exact rfl); (case c3 => exact rfl); (case c4 => exact rfl); k_whole; intro g' L' h' FG' F' N' B' X' T'; (try dsimp only); (try k_lift B'); (try k_fold))
    | (refine' code_defC ?k1 ?k2 ?k3 ?k4 ?k5 ?kA ?kF ?kK ?k6 ?k7 ?k8 ?k9 ?kB ?kD ?_ ?c2 ?c3 ?c4; (case kA => exact rfl); (case kF => exact rfl); (case kK => first | exact rfl | assumption); (case k1 => k_asm); (case k2 => k_asm); (case k3 => k_asm); (case k4 => k_asm); (case k5 => k_asm); (case k6 => k_is); (case k7 => k_is); (case k8 => ktr_room); (case k9 => first | exact BindsTo.of_eq rfl | exact binds_K (by k_in) rfl (by k_is) rfl rfl rfl | fail "enter: no rule for these arguments"); (case kB => exact rfl); (case kD => decide +kernel); (case c2 => exact rfl); (case c3 => exact rfl); (case c4 => exact rfl); k_whole; intro g' L' h' tk' cells' FG' F' N' Y' B' X' T' l1; (try k_lt l1); k_cells Y'; (try simp only [List.cons_append, List.nil_append] at N'); (try dsimp only); (try k_lift B'); (try k_fold)))
  k_with "entern" => (refine' code_nest ?k1 ?k2 ?k3 ?k4 ?k5 ?kA ?kF ?kK ?k6 ?k7 ?k8 ?k9 ?kB ?_ ?c2 ?c3 ?c4 ?c5; (case kA => assumption); (case kF => assumption); (case kK => first | exact rfl | assumption); (case k1 => k_asm); (case k2 => k_asm); (case k3 => k_asm); (case k4 => k_asm); (case k5 => k_asm); (case k6 => k_mem); (case k7 => exact codeRec_news (by k_asm) (by k_mem) (by assumption) (by assumption)); (case k8 => ktr_room); (case k9 => exact BindsTo.of_eq rfl); (case c5 => decide); (case kB => exact locs rfl); (case c2 => exact rfl); (case c3 => exact rfl); (case c4 => exact rfl); k_whole; intro g' L' h' FG' F' N' B' X' T'; (try dsimp only); (try k_lift B'); (try k_fold))
  k_with "mycall" => (k_here; k_dflt (refine' reference_tells (by k_asm) (by k_asm) (by k_asm) (by k_asm) (by first | exact rfl | assumption) (by first | ktr_room | ((simp only [depth_mark, depth_deeper]); ktr_room)) (by ktr_units) (by k_asm) ?_); intro t9 h9 tk9 F9 N9; (try dsimp only))
  revert X; k_fill; intro X
  have hxS : (S lw).length ≤ 1000 := by rw [S_len]; exact hx
  refine wpAny_call ?_
  k_dflt (k_extra "enter")
  k_with "rest" => (exact ne_tail (fun p9 hp9 => by (have q9 := lr5 p9 hp9); omega) hoff (by k_mem))
  k_with "rest" => (intro p9 hp9; (have q9 := lr5 p9 hp9); refine neN ?_; (try dsimp only); omega)
  k_with "myiter" => ((rename Fr _ _ _ _ => F5); (rename News _ _ _ _ => N5); (rename (_ < _ ∧ _) => l15); (with_reducible show wpAny _ _ (pyIter (Value.ref _)) _ _ _); (obtain ⟨l5, hl5⟩ := news_head N5); (subst hl5); (have lr5 := allLt_all l15.2); (have le5 := l15.1); k_dflt (refine loop_list (fun _ (c : List Value × Int × Tok × Nat) => (l5, listOf c.1.toArray c.2.2.2) :: (le, listOf us.toArray ne) :: rest) (fun i c => [(Str.ofString "written", .str (S lw) tx), (Str.ofString "pieces", .ref l5), (Str.ofString "place", .int c.2.1 c.2.2.1)]) (fun i c => StrsAre c.1 ((pcL lw (es.take i)).1.map S) ∧ c.2.1 = ((pcL lw (es.take i)).2 : Nat)) (_, _, _, _) (by rfl) (fun _ _ => .tail _ (.head _)) F5 N5 (fun _ h => h) ⟨.nil, rfl⟩ (by kst_all) ?_ ?_); (rintro i v ⟨ws, pl, tp, nw⟩ u h6 tk6 own Q6 hv ⟨hws, hpl⟩ hoff F6 N6 hend hret); (try clear F5 N5); (dsimp only [kstB] at F6 hws hpl); (simp only [List.cons_append] at N6); (simp only [List.map_cons] at hoff); (have hplle := pcL_le lw (es.take i)); (have hcnt := pcL_count lw (es.take i)); (have hwl : ws.length ≤ 1000 := by rw [hws.length, List.length_map, hcnt, List.length_take]; omega); (obtain ⟨k5, t5, hve, hk5⟩ := IntsAre.at hes i v hv); (have hk0 := hes0 k5 (List.mem_of_getElem? hk5)); subst hve; rotate_left; (rintro ⟨ws, pl, tp, nw⟩ u h6 tk6 ⟨hws, hpl⟩ F6 N6); (try clear F5 N5); (dsimp only [kstB] at F6 hws hpl); (have hule : us.length = es.length := hes.length); (rw [hule, List.take_length] at hws hpl); (have hcnt := pcL_count lw es); (have hplle := pcL_le lw es); (have hwl : ws.length ≤ 1000 := by rw [hws.length, List.length_map, hcnt]; omega))
  k_steps
  · rename Fr _ _ _ _ => F9
    rename News _ _ _ _ => N9
    simp only [List.push_toArray] at N9
    refine ret l5 _ _ _ _ ?_ le5 lr5 F9 N9
    rw [hpl, slice_sn _ _ hplle]
    unfold piecesL
    rw [List.map_append]
    exact hws.append' (.cons _ _ .nil)
  · rename Fr _ _ _ _ => F9
    rename News _ _ _ _ => N9
    simp only [List.push_toArray] at N9
    obtain ⟨kn, rfl⟩ := Int.eq_ofNat_of_zero_le hk0.1
    refine hend .next (_, _, _, _) _ _ _ (.inl rfl) ⟨?_, ?_⟩ (by kst_all) hoff F9 N9
    · rw [take_snocI hk5, pcL_snoc, hpl, slice_ss _ _ _ hplle]
      unfold pcStep
      dsimp only
      rw [List.map_append, Int.toNat_natCast]
      exact hws.append' (.cons _ _ .nil)
    · rw [take_snocI hk5, pcL_snoc, hpl, slice_ss _ _ _ hplle, S_len]
      unfold pcStep
      dsimp only
      rw [Int.toNat_natCast]
      omega

end
end Mine
end
section
open PySem PySem.W PyProof.Rows PySem.Spec PySem.Calls
namespace Mine
section
variable {w : World} {p : Program} {loose : List Str} {mean : ExcName → Option Value} {mg mb : Str → Option Value} {dp un : Nat} {gd : Option (List Code)} {cn : Str} {cs : Scope} {a : Addr} {ccd : Value} {cl : List (Str × Addr)} {outer : List Env} {A₀ : Around} {base h₀ : Heap} {L : Addr} {m : Str → Option Value} {news : List (Addr × Obj)} {s : Shared} {Q E : Value → Shared → Prop}
local macro_rules | `(tactic| walk_at "truthy ref") => `(tactic| (k_here; k_dflt (refine' truthy_emptyK ?k1 ?k2 ?k3 ?k4 ?_; (case k1 => k_asm); (case k2 => k_asm); (case k3 => k_is); (case k4 => rfl); k_whole)))
local macro_rules | `(tactic| walk_at "execs cons") => `(tactic| (k_here; (refine tk_gen (by (fail_if_success assumption); first | omega | (with_unfolding_all exact Nat.succ_pos _)) ?_); intro tk htk))
local macro_rules | `(tactic| walk_at "execs nil") => `(tactic| (k_here; (refine tk_gen (by (fail_if_success assumption); first | omega | (with_unfolding_all exact Nat.succ_pos _)) ?_); intro tk htk))
local macro_rules | `(tactic| walk_at "call builtin:str.replace") => `(tactic| (k_here; (refine replace_tk 1 (by dsimp only; omega) (by omega) (by omega) (by decide) (by first | assumption | omega) (by decide) (by decide) (by decide) ?_); intro t' k' hk' hl'))
local macro_rules | `(tactic| walk_at "call builtin:bytes.decode") => `(tactic| (k_here; (refine decode1 (by first | assumption | omega) 0 (Nat.zero_le _) ?_); intro t' k' hk'))
local macro_rules | `(tactic| k_room) => `(tactic| first | ktr_room | ((simp only [depth_mark, depth_deeper]); ktr_room))
local macro_rules | `(tactic| k_units) => `(tactic| ktr_units)
local macro_rules | `(tactic| units_room) => `(tactic| ktr_units)
local macro_rules | `(tactic| walk_at "CompEnd") => `(tactic| k_extra "mycompend")
local macro_rules | `(tactic| k_all) => `(tactic| k_extra "rest")
local macro_rules | `(tactic| walk_at "call ref") => `(tactic| k_extra "mycall")
local macro_rules | `(tactic| walk_at "eval ListComp") => `(tactic| k_extra "mycomp")
local macro_rules | `(tactic| walk_at "exec Assign cons ListComp") => `(tactic| k_extra "mycompA")
local macro_rules | `(tactic| walk_at "CompSrcT") => `(tactic| k_extra "mysrcT")
local macro_rules | `(tactic| walk_at "call builtin:list.extend") => `(tactic| (k_here; (with_reducible show wpAny _ _ (call (Value.builtin _) [Value.ref _, Value.ref _]) _ _ _); k_dflt (refine ext_any (by k_asm) (by k_asm) (by k_mem) (by k_updF) (by k_extra "ext") ?_); intro h' n' F' N'; (try dsimp only at N'); (try k_sweep)))
local macro_rules | `(tactic| walk_at "KCiEl") => `(tactic| k_extra "myciel")
local macro_rules | `(tactic| walk_at "KCiNo") => `(tactic| k_extra "mycino")
local macro_rules | `(tactic| walk_at "SrcS") => `(tactic| k_extra "mysrcS")
local macro_rules | `(tactic| walk_at "CompSrc") => `(tactic| k_extra "mysrc")
local macro_rules | `(tactic| walk_at "pyIter str") => `(tactic| k_extra "myiter")
local macro_rules | `(tactic| walk_at "pyIter ref") => `(tactic| first | k_extra "myiter" | (with_reducible refine stopP ?_))
local macro_rules | `(tactic| walk_at "exec For Name Name cons nil") => `(tactic| (k_here; (rename Fr _ _ _ _ => lF'); (with_unfolding_all refine' For_invVF lF' ?k1 ?k2 ?_; (case k1 => exact rfl); (case k2 => exact rfl); k_whole)))
local macro_rules | `(tactic| walk_at "call builtin:len") => `(tactic| (k_here; (with_reducible show wpAny _ _ (call (Value.builtin "len") [Value.str _ _]) _ _ _); (refine PyProof.Rows.len_str (by first | omega | ((simp only [S_len, List.length_append]); omega)) ?_)))
local macro_rules | `(tactic| walk_at "binaryOp Add str str") => `(tactic| (k_here; (refine PyProof.Rows.add_str ?_ (by (rw [sizeLine_eq]); first | k_extra "len" | omega | ((simp only [S_len, PySem.Str.length_append, List.length_append]); omega))); intro t' k'; (try (rw [S_app]))))
local macro_rules | `(tactic| walk_at "callWith ref") => `(tactic| (k_here; k_dflt (first
  | (refine' callWith_F ?k1 ?_; (case k1 => exact FnAt.of (by k_asm) (by k_mem)); k_whole)
  | (refine' callWith_F0 ?k1 ?_; (case k1 => exact FnAt.of (by k_asm) (by k_mem)); k_whole; try dsimp only [List.nil_append, List.cons_append]))))

theorem counted_tells {le : Addr} {ps : List (List Nat)} {us : List Value} {ne : Nat} {rest : List (Addr × Obj)} (B : Below A₀ base outer h₀) (F : Fr h₀ L s.heap m) (X : (hd.heap_39 w.params).In h₀) (T : Top p loose mean mg mb h₀) (hk : cs.kind = .function)
    (hdp : dp + 4 < recursionLimit) (hu : un + 200 < cLine) (N : News h₀ L s.heap ((le, listOf us.toArray ne) :: rest)) (hus : StrsAre us (ps.map S))
    (hpl : ps.length ≤ 1000) (hpw : ∀ w ∈ ps, w.length ≤ 1000)
    (ret : ∀ r vs n h' tk, IntsAre vs (countL ps) → @LT.lt Nat _ le r → (∀ q ∈ rest, @LT.lt Nat _ q.1 r) → Fr h₀ L h' m → News h₀ L h' ((r, listOf vs.toArray n) :: (le, listOf us.toArray ne) :: rest) → Q (.ref r) { s with heap := h', toks := tk }) :
    wpAny (model PySem.Challenge.rw_ij0009_01.row.prog w) (ktrTop dp un gd cn cs L a ccd cl outer) (call (.ref 100) [.ref le]) Q E s := by
  w_top off
  k_with_none
  k_with "enter" => (first
    | (refine' code_def ?k1 ?k2 ?k3 ?k4 ?k5 ?kA ?kF ?kK ?k6 ?k7 ?k8 ?k9 ?kB ?_ ?c2 ?c3 ?c4 ?c5; (case kA => exact rfl); (case kF => exact rfl); (case kK => first | exact rfl | assumption); (case k1 => k_asm); (case k2 => k_asm); (case k3 => k_asm); (case k4 => k_asm); (case k5 => k_asm); (case k6 => k_is); (case k7 => k_is); (case k8 => ktr_room); (case k9 => first | exact BindsTo.of_eq rfl | exact binds_K (by k_in) rfl (by k_is) rfl rfl rfl | fail "enter: no rule for these arguments"); (case c5 => decide); (case kB => exact locs rfl); (case c2 => exact rfl); (case c3 => exact rfl); (case c4 => exact rfl); k_whole; intro g' L' h' FG' F' N' B' X' T'; (try dsimp only); (try k_lift B'); (try k_fold))
    | (refine' code_defC ?k1 ?k2 ?k3 ?k4 ?k5 ?kA ?kF ?kK ?k6 ?k7 ?k8 ?k9 ?kB ?kD ?_ ?c2 ?c3 ?c4; (case kA => exact rfl); (case kF => exact rfl); (case kK => first | exact rfl | assumption); (case k1 => k_asm); (case k2 => k_asm); (case k3 => k_asm); (case k4 => k_asm); (case k5 => k_asm); (case k6 => k_is); (case k7 => k_is); (case k8 => ktr_room); (case k9 => first | exact BindsTo.of_eq rfl | exact binds_K (by k_in) rfl (by k_is) rfl rfl rfl | fail "enter: no rule for these arguments"); (case kB => exact rfl); (case kD => decide +kernel); (case c2 => exact rfl); (case c3 => exact rfl); (case c4 => exact rfl); k_whole; intro g' L' h' tk' cells' FG' F' N' Y' B' X' T' l1; (try k_lt l1); k_cells Y'; (try simp only [List.cons_append, List.nil_append] at N'); (try dsimp only); (try k_lift B'); (try k_fold)))
  k_with "entern" => (refine' code_nest ?k1 ?k2 ?k3 ?k4 ?k5 ?kA ?kF ?kK ?k6 ?k7 ?k8 ?k9 ?kB ?_ ?c2 ?c3 ?c4 ?c5; (case kA => assumption); (case kF => assumption); (case kK => first | exact rfl | assumption); (case k1 => k_asm); (case k2 => k_asm); (case k3 => k_asm); (case k4 => k_asm); (case k5 => k_asm); (case k6 => k_mem); (case k7 => exact codeRec_news (by k_asm) (by k_mem) (by assumption) (by assumption)); (case k8 => ktr_room); (case k9 => exact BindsTo.of_eq rfl); (case c5 => decide); (case kB => exact locs rfl); (case c2 => exact rfl); (case c3 => exact rfl); (case c4 => exact rfl); k_whole; intro g' L' h' FG' F' N' B' X' T'; (try dsimp only); (try k_lift B'); (try k_fold))
  revert X; k_fill; intro X
  refine wpAny_call ?_
  k_dflt (k_extra "enter")
  k_with "rest" => (exact ne_tail (fun p9 hp9 => by (have q9 := lr5 p9 hp9); omega) hoff (by k_mem))
  k_with "rest" => (intro p9 hp9; (have q9 := lr5 p9 hp9); refine neN ?_; (try dsimp only); omega)
  k_with "myiter" => ((rename Fr _ _ _ _ => F5); (rename News _ _ _ _ => N5); (rename (_ < _ ∧ _) => l15); (with_reducible show wpAny _ _ (pyIter (Value.ref _)) _ _ _); (obtain ⟨l5, hl5⟩ := news_head N5); (subst hl5); (have lr5 := allLt_all l15.2); (have le5 := l15.1); k_dflt (refine loop_list (fun _ (c : List Value × Nat) => (l5, listOf c.1.toArray c.2) :: (le, listOf us.toArray ne) :: rest) (fun i c => [(Str.ofString "pieces", .ref le), (Str.ofString "octets", .ref l5)]) (fun i c => IntsAre c.1 (countL (ps.take i))) (_, _) (by rfl) (fun _ _ => .tail _ (.head _)) F5 N5 (fun _ h => h) .nil (by kst_all) ?_ ?_); (rintro i v ⟨ws, nw⟩ u h6 tk6 own Q6 hv hws hoff F6 N6 hend hret); (try clear F5 N5); (dsimp only [kstB] at F6 hws); (simp only [List.cons_append] at N6); (simp only [List.map_cons] at hoff); (obtain ⟨w5, t5, hve, hw5⟩ := strs_atS hus hv); subst hve; (have hwle := hpw w5 (List.mem_of_getElem? hw5)); (have hxS : (S w5).length ≤ 1000 := by rw [S_len]; exact hwle); (have hwsl := hws.length); (have hcl := countL_take ps hpw i); (have hwl : ws.length ≤ 1001000 := by rw [hwsl]; omega); rotate_left; (rintro ⟨ws, nw⟩ u h6 tk6 hws F6 N6); (try clear F5 N5); (dsimp only [kstB] at F6 hws))
  k_with "mycomp" => (k_here; k_dflt (refine ListComp_S (F₀ := by k_asm) (by with_unfolding_all rfl) (by decide) (by rfl) (by decide) (by rfl) ?_))
  k_with "mysrcS" => (k_here; k_dflt (refine SrcS.intro (by rfl) (by k_asm) (by k_asm) (by rw [sizeLine_eq]; exact Nat.le_trans hxS (by decide)) ?_); intro g5; (refine comp_rest w5 (fun a v => ∃ t, v = Value.str ⟨#[a]⟩ t) (fun a y => ∃ t, y = Value.int (Int.ofNat a) t) (by exact (S_len w5).symm) sign_items ?_ ?_); (rintro a5 v5 I5 oI5 C5 oC5 D5 m5 ys5 h5 tk5 E5 ha5 ⟨t6, rfl⟩ hC5 hx5 F5 N5 off5 ne5); rotate_left; (intro ys7 hys7); (have hi7 := hys7.ints))
  k_with "ext" => (simp only [Array.size_push, List.size_toArray, List.length_append, List.length_cons, List.length_nil, hi7.length, List.length_map, hwsl]; omega)
  k_with "mycompend" => (refine LCg.CompEnd.intro (by k_asm) (by k_asm) _ (fun _ h => h) off5 trivial ⟨rfl, _, rfl⟩)
  k_steps
  · rename Fr _ _ _ _ => F9
    rename News _ _ _ _ => N9
    rw [show us.length = ps.length by rw [hus.length, List.length_map], List.take_length] at hws
    exact ret l5 _ _ _ _ hws le5 lr5 F9 N9
  · rename Fr _ _ _ _ => F9
    rename News _ _ _ _ => N9
    simp only [Array.toList_push] at N9
    refine hend .next (_, _) _ _ _ (.inl rfl) ?_ (by kst_all) hoff F9 (cb_drop N9 (fun _ h => List.mem_cons_of_mem _ h))
    dsimp only
    rw [take_snocL hw5, countL_snoc, S_len]
    rw [show countL (ps.take i) ++ oneCount w5 = (countL (ps.take i) ++ [(w5.length : Int)]) ++ w5.map Int.ofNat from by simp [oneCount]]
    exact IntsAre.append (IntsAre.append hws (.cons _ _ .nil)) hi7

end
end Mine
end
section
open PySem PySem.W PyProof.Rows PySem.Spec PySem.Calls
namespace Mine
section
variable {w : World} {p : Program} {loose : List Str} {mean : ExcName → Option Value} {mg mb : Str → Option Value} {dp un : Nat} {gd : Option (List Code)} {cn : Str} {cs : Scope} {a : Addr} {ccd : Value} {cl : List (Str × Addr)} {outer : List Env} {A₀ : Around} {base h₀ : Heap} {L : Addr} {m : Str → Option Value} {news : List (Addr × Obj)} {s : Shared} {Q E : Value → Shared → Prop}
local macro_rules | `(tactic| walk_at "truthy ref") => `(tactic| (k_here; k_dflt (refine' truthy_emptyK ?k1 ?k2 ?k3 ?k4 ?_; (case k1 => k_asm); (case k2 => k_asm); (case k3 => k_is); (case k4 => rfl); k_whole)))
local macro_rules | `(tactic| walk_at "execs cons") => `(tactic| (k_here; (refine tk_gen (by (fail_if_success assumption); first | omega | (with_unfolding_all exact Nat.succ_pos _)) ?_); intro tk htk))
local macro_rules | `(tactic| walk_at "execs nil") => `(tactic| (k_here; (refine tk_gen (by (fail_if_success assumption); first | omega | (with_unfolding_all exact Nat.succ_pos _)) ?_); intro tk htk))
local macro_rules | `(tactic| walk_at "call builtin:str.replace") => `(tactic| (k_here; (refine replace_tk 1 (by dsimp only; omega) (by omega) (by omega) (by decide) (by first | assumption | omega) (by decide) (by decide) (by decide) ?_); intro t' k' hk' hl'))
local macro_rules | `(tactic| walk_at "call builtin:bytes.decode") => `(tactic| (k_here; (refine decode1 (by first | assumption | omega) 0 (Nat.zero_le _) ?_); intro t' k' hk'))
local macro_rules | `(tactic| k_room) => `(tactic| first | ktr_room | ((simp only [depth_mark, depth_deeper]); ktr_room))
local macro_rules | `(tactic| k_units) => `(tactic| ktr_units)
local macro_rules | `(tactic| units_room) => `(tactic| ktr_units)
local macro_rules | `(tactic| walk_at "CompEnd") => `(tactic| k_extra "mycompend")
local macro_rules | `(tactic| k_all) => `(tactic| k_extra "rest")
local macro_rules | `(tactic| walk_at "call ref") => `(tactic| k_extra "mycall")
local macro_rules | `(tactic| walk_at "eval ListComp") => `(tactic| k_extra "mycomp")
local macro_rules | `(tactic| walk_at "exec Assign cons ListComp") => `(tactic| k_extra "mycompA")
local macro_rules | `(tactic| walk_at "CompSrcT") => `(tactic| k_extra "mysrcT")
local macro_rules | `(tactic| walk_at "call builtin:list.extend") => `(tactic| (k_here; (with_reducible show wpAny _ _ (call (Value.builtin _) [Value.ref _, Value.ref _]) _ _ _); k_dflt (refine ext_any (by k_asm) (by k_asm) (by k_mem) (by k_updF) (by k_extra "ext") ?_); intro h' n' F' N'; (try dsimp only at N'); (try k_sweep)))
local macro_rules | `(tactic| walk_at "KCiEl") => `(tactic| k_extra "myciel")
local macro_rules | `(tactic| walk_at "KCiNo") => `(tactic| k_extra "mycino")
local macro_rules | `(tactic| walk_at "SrcS") => `(tactic| k_extra "mysrcS")
local macro_rules | `(tactic| walk_at "CompSrc") => `(tactic| k_extra "mysrc")
local macro_rules | `(tactic| walk_at "pyIter str") => `(tactic| k_extra "myiter")
local macro_rules | `(tactic| walk_at "pyIter ref") => `(tactic| first | k_extra "myiter" | (with_reducible refine stopP ?_))
local macro_rules | `(tactic| walk_at "exec For Name Name cons nil") => `(tactic| (k_here; (rename Fr _ _ _ _ => lF'); (with_unfolding_all refine' For_invVF lF' ?k1 ?k2 ?_; (case k1 => exact rfl); (case k2 => exact rfl); k_whole)))
local macro_rules | `(tactic| walk_at "call builtin:len") => `(tactic| (k_here; (with_reducible show wpAny _ _ (call (Value.builtin "len") [Value.str _ _]) _ _ _); (refine PyProof.Rows.len_str (by first | omega | ((simp only [S_len, List.length_append]); omega)) ?_)))
local macro_rules | `(tactic| walk_at "binaryOp Add str str") => `(tactic| (k_here; (refine PyProof.Rows.add_str ?_ (by (rw [sizeLine_eq]); first | k_extra "len" | omega | ((simp only [S_len, PySem.Str.length_append, List.length_append]); omega))); intro t' k'; (try (rw [S_app]))))
local macro_rules | `(tactic| walk_at "callWith ref") => `(tactic| (k_here; k_dflt (first
  | (refine' callWith_F ?k1 ?_; (case k1 => exact FnAt.of (by k_asm) (by k_mem)); k_whole)
  | (refine' callWith_F0 ?k1 ?_; (case k1 => exact FnAt.of (by k_asm) (by k_mem)); k_whole; try dsimp only [List.nil_append, List.cons_append]))))
local macro_rules | `(tactic| walk_at "subscriptTail Name UnaryOp ref int") => `(tactic| ((with_reducible show wpAny _ _ (subscriptTail _ _ (Value.ref _) (Value.int _ _)) _ _ _); (have hpos9 := pos_of (by assumption)); (with_unfolding_all refine' item_list_ints_neg ?k1 ?k2 ?k3 ?k4 ?k5 ?_; (case k1 => is_list); (case k2 => l_ints); (case k3 => l_idx); (case k4 => l_idx); (case k5 => l_idx); k_whole); intro _; (try simp only [getD_last])))
theorem both_tells {x d f c pl c2 c1 : Addr} {oc o2 o1 : Obj} {fd : FuncData} {kv kr vt : Tok} {b : Array UInt8} {pt : Tok} {rest : List (Addr × Obj)} {xt : Str} {tx : Tok} {lp : Addr} {us : List Value} {np : Nat} {ps : List (List Nat)} {tail : List Int} (B : Below A₀ base outer h₀) (F : Fr h₀ L s.heap m) (X : (hd.heap_39 w.params).In h₀) (T : Top p loose mean mg mb h₀) (hk : cs.kind = .function)
    (hdp : dp + 9 < recursionLimit) (hu : un + 400 < cLine)
    (N : News h₀ L s.heap ((x, instObj 70 d) :: (d, dictOf [⟨PyData.keyHash w.params (Str.ofString "value"), .str (Str.ofString "value") kv, .int 0 vt⟩, ⟨PyData.keyHash w.params (Str.ofString "read"), .str (Str.ofString "read") kr, .ref f⟩] 2) :: (f, ⟨.type "function", none, .func fd, #[]⟩) :: (c, oc) :: (pl, listOf #[.int 0 pt] 0) :: (c2, o2) :: (c1, o1) :: (lp, listOf us.toArray np) :: rest))
    (hT : TakeOk PySem.Challenge.rw_ij0009_01.row.prog w (hd.heap_39 w.params) p loose mean mg mb b f c pl c2 c1 fd oc o2 o1) (hdx : @LT.lt Nat _ d x) (hfd : @LT.lt Nat _ f d) (hplf : @LT.lt Nat _ pl f) (hrest : ∀ q ∈ rest, @Ne Nat q.1 pl) (hlpl : @Ne Nat lp pl) (hus : StrsAre us (ps.map S)) (hbb : KBw.bInts b = countL ps ++ tail)
    (hb : b.size ≤ 100000) (hx : xt.length ≤ 200) (hpn : ps.length ≤ 200) (hpw : ∀ w ∈ ps, w.length ≤ 255) (hpf : ps.flatten.length ≤ 900)
    (hlaw : ∀ i w, ps[i]? = some w → (bothL (ps.take (i + 1))).2 = (comeL ((edL (ps.take (i + 1))).2 : Nat) xt.cps.toList).1)
    (halone : aloneL ps = (tornL (edL ps).1 xt.cps.toList).1)
    (ret : ∀ h' tk pt', Fr h₀ L h' m → News h₀ L h' ((x, instObj 70 d) :: (d, dictOf [⟨PyData.keyHash w.params (Str.ofString "value"), .str (Str.ofString "value") kv, .int 0 vt⟩, ⟨PyData.keyHash w.params (Str.ofString "read"), .str (Str.ofString "read") kr, .ref f⟩] 2) :: (f, ⟨.type "function", none, .func fd, #[]⟩) :: (c, oc) :: (pl, listOf #[.int ((countL ps).length : Nat) pt'] 0) :: (c2, o2) :: (c1, o1) :: (lp, listOf us.toArray np) :: rest) → Q (.bool true) { s with heap := h', toks := tk }) :
    wpAny (model PySem.Challenge.rw_ij0009_01.row.prog w) (ktrTop dp un gd cn cs L a ccd cl outer) (call (.ref 117) [.str xt tx, .ref lp, .ref x]) Q E s := by
  w_top off
  k_with_none
  k_with "enter" => (first
    | (refine' code_def ?k1 ?k2 ?k3 ?k4 ?k5 ?kA ?kF ?kK ?k6 ?k7 ?k8 ?k9 ?kB ?_ ?c2 ?c3 ?c4 ?c5; (case kA => exact rfl); (case kF => exact rfl); (case kK => first | exact rfl | assumption); (case k1 => k_asm); (case k2 => k_asm); (case k3 => k_asm); (case k4 => k_asm); (case k5 => k_asm); (case k6 => k_is); (case k7 => k_is); (case k8 => ktr_room); (case k9 => first | exact BindsTo.of_eq rfl | exact binds_K (by k_in) rfl (by k_is) rfl rfl rfl | fail "enter: no rule for these arguments"); (case c5 => decide); (case kB => exact locs rfl); (case c2 => exact rfl); (case c3 => exact rfl); (case c4 => exact rfl); k_whole; intro g' L' h' FG' F' N' B' X' T'; (try dsimp only); (try k_lift B'); (try k_fold))
    | (refine' code_defC ?k1 ?k2 ?k3 ?k4 ?k5 ?kA ?kF ?kK ?k6 ?k7 ?k8 ?k9 ?kB ?kD ?_ ?c2 ?c3 ?c4; (case kA => exact rfl); (case kF => exact rfl); (case kK => first | exact rfl | assumption); (case k1 => k_asm); (case k2 => k_asm); (case k3 => k_asm); (case k4 => k_asm); (case k5 => k_asm); (case k6 => k_is); (case k7 => k_is); (case k8 => ktr_room); (case k9 => first | exact BindsTo.of_eq rfl | exact binds_K (by k_in) rfl (by k_is) rfl rfl rfl | fail "enter: no rule for these arguments"); (case kB => exact rfl); (case kD => decide +kernel); (case c2 => exact rfl); (case c3 => exact rfl); (case c4 => exact rfl); k_whole; intro g' L' h' tk' cells' FG' F' N' Y' B' X' T' l1; (try k_lt l1); k_cells Y'; (try simp only [List.cons_append, List.nil_append] at N'); (try dsimp only); (try k_lift B'); (try k_fold)))
  k_with "entern" => (refine' code_nest ?k1 ?k2 ?k3 ?k4 ?k5 ?kA ?kF ?kK ?k6 ?k7 ?k8 ?k9 ?kB ?_ ?c2 ?c3 ?c4 ?c5; (case kA => assumption); (case kF => assumption); (case kK => first | exact rfl | assumption); (case k1 => k_asm); (case k2 => k_asm); (case k3 => k_asm); (case k4 => k_asm); (case k5 => k_asm); (case k6 => k_mem); (case k7 => exact codeRec_news (by k_asm) (by k_mem) (by assumption) (by assumption)); (case k8 => ktr_room); (case k9 => exact BindsTo.of_eq rfl); (case c5 => decide); (case kB => exact locs rfl); (case c2 => exact rfl); (case c3 => exact rfl); (case c4 => exact rfl); k_whole; intro g' L' h' FG' F' N' B' X' T'; (try dsimp only); (try k_lift B'); (try k_fold))
  k_with "rest" => (exact ne_tail (fun p9 hp9 => by (have q9 := lr p9 hp9); omega) hoff (by k_mem))
  k_with "rest" => (intro p9 hp9; (have q9 := lr p9 hp9); refine neN ?_; (try dsimp only); omega)
  k_with "myiter" => ((rename Fr _ _ _ _ => F5); (rename News _ _ _ _ => N5); (with_reducible show wpAny _ _ (pyIter (Value.ref _)) _ _ _); (obtain ⟨l5, hl5⟩ := news_head N5); (subst hl5); k_dflt (refine loop_list (fun i (q : List Value × Nat × Tok × Str × Str × Str × Tok × Tok × Tok × Obj) => (l5, listOf q.1.toArray q.2.1) :: (L' + 1, q.2.2.2.2.2.2.2.2.2) :: ((x, instObj 70 d) :: (d, dictOf [⟨PyData.keyHash w.params (Str.ofString "value"), .str (Str.ofString "value") kv, .int 0 vt⟩, ⟨PyData.keyHash w.params (Str.ofString "read"), .str (Str.ofString "read") kr, .ref f⟩] 2) :: (f, ⟨.type "function", none, .func fd, #[]⟩) :: (c, oc) :: (pl, listOf #[.int ((countL (ps.take i)).length : Nat) q.2.2.1] 0) :: (c2, o2) :: (c1, o1) :: (lp, listOf us.toArray np) :: rest)) (fun i q => [(Str.ofString "text", .str xt tx), (Str.ofString "pieces", .ref lp), (Str.ofString "stream", .ref x), (Str.ofString "edges", .ref l5), (Str.ofString "alone", .str q.2.2.2.1 q.2.2.2.2.2.2.1), (Str.ofString "told", .str q.2.2.2.2.2.1 q.2.2.2.2.2.2.2.2.1)]) (fun i q => IntsAre q.1 (edL (ps.take i)).1 ∧ q.2.2.2.1 = S (aloneL (ps.take i)) ∧ q.2.2.2.2.1 = S (bothL (ps.take i)).1 ∧ q.2.2.2.2.2.1 = S (bothL (ps.take i)).2 ∧ q.2.2.2.2.2.2.2.2.2.data = .cell (some (.str q.2.2.2.2.1 q.2.2.2.2.2.2.2.1))) (_, _, _, _, _, _, _, _, _, _) (by rfl) (fun _ _ => .tail _ (.tail _ (.tail _ (.tail _ (.tail _ (.tail _ (.tail _ (.tail _ (.tail _ (.head _)))))))))) F5 N5 (fun _ h => h) ⟨.cons 0 _ .nil, S_nil.symm, S_nil.symm, S_nil.symm, by k_asm⟩ (by kst_all) ?_ ?_); (rintro i v ⟨es, ne, pt5, al, lf, to5, ta, tl, tt, lo⟩ u h6 tk6 own Q6 hv ⟨hes, hal, hlf, hto, hlo⟩ hoff F6 N6 hend hret); (try clear F5 N5); (dsimp only [kstB] at F6 hes hal hlf hto hlo); (simp only [List.cons_append] at N6); (simp only [List.map_cons] at hoff); (obtain ⟨w5, t5, hve, hw5⟩ := strs_atS hus hv); subst hve; (have hwle := hpw w5 (List.mem_of_getElem? hw5)); (have hxS : (S w5).length ≤ 255 := by rw [S_len]; exact hwle); (have ho := octets_at hbb hw5); (have hu9 := uneL_len w5); (have hft := flat_take ps i); (have hedl := edL_len (ps.take i)); (have hesl := hes.length); (have hesn : es.length ≤ 201 := by rw [hesl, hedl, List.length_take]; omega); (have hall := aloneL_len (ps.take i)); (have hbol := bothL_len (ps.take i)); (obtain ⟨la, hla⟩ : ∃ la, la = aloneL (ps.take i) := ⟨_, rfl⟩); (obtain ⟨ll, hll⟩ : ∃ ll, ll = (bothL (ps.take i)).1 := ⟨_, rfl⟩); (obtain ⟨lt5, hlt⟩ : ∃ lt, lt = (bothL (ps.take i)).2 := ⟨_, rfl⟩); (rw [← hla] at hal hall); (rw [← hll] at hlf hbol); (rw [← hlt] at hto hbol); (subst hal); (subst hlf); (subst hto); (have hal5 : (S la).length ≤ 900 := by rw [S_len]; omega); (have hlf5 : (S ll).length ≤ 900 := by rw [S_len]; omega); (have hto5 : (S lt5).length ≤ 900 := by rw [S_len]; omega); (have hlw5 : (S (ll ++ w5)).length ≤ 1200 := by rw [S_len, List.length_append]; omega); (have hlwl : (S (ll ++ w5)).length = (ll ++ w5).length := S_len _); rotate_left; (rintro ⟨es, ne, pt5, al, lf, to5, ta, tl, tt, lo⟩ u h6 tk6 ⟨hes, hal, hlf, hto, hlo⟩ F6 N6); (try clear F5 N5); (dsimp only [kstB] at F6 hes hal hlf hto hlo))
  k_with "mycall" => (k_here; k_dflt (refine' string1_ok (pos := (countL (ps.take i)).length) (n := w5.length) (pt := pt5) (rest := ((l5, listOf es.toArray ne) :: (L' + 1, lo) :: (lp, listOf us.toArray np) :: (rest ++ own))) (b := b) (c := c) (pl := pl) (c2 := c2) (c1 := c1) (oc := oc) (o2 := o2) (o1 := o1) (fd := fd) (by k_asm) (by k_asm) (by k_asm) (by k_asm) (by first | exact rfl | assumption) (by first | ktr_room | ((simp only [depth_mark, depth_deeper]); ktr_room)) (by ktr_units) (by (refine cb_drop (by k_asm) ?_; kcj_all)) hT hdx hfd hplf (by exact List.forall_mem_cons.mpr ⟨by (refine neN ?_; (try dsimp only); omega), List.forall_mem_cons.mpr ⟨by (refine neN ?_; (try dsimp only); omega), List.forall_mem_cons.mpr ⟨hlpl, ne_tail hrest hoff (by k_mem)⟩⟩⟩) hb (by omega) ho.2.1 ho.1 ?_); intro t9 h9 tk9 pt9 F9 N9; (rw [ho.2.2]); (try dsimp only))
  k_with "mycall" => (k_here; k_dflt (refine' unescape_tells (by k_asm) (by k_asm) (by k_asm) (by k_asm) (by first | exact rfl | assumption) (by first | ktr_room | ((simp only [depth_mark, depth_deeper]); ktr_room)) (by ktr_units) (by k_asm) (by first | omega | k_extra "ulen") ?_); intro t9 h9 tk9 F9 N9; (try (rw [uneS_S])); (try dsimp only))
  k_with "len" => (first | omega | ((refine Nat.le_trans (Nat.add_le_add_left (uneS_len _) _) ?_); first | omega | ((refine Nat.le_trans (Nat.add_le_add_left (Txt.slice_le _ _ _) _) ?_); (simp only [PySem.Str.length_append]); omega)))
  k_with "ulen" => ((refine Nat.le_trans (Txt.slice_le _ _ _) ?_); (simp only [PySem.Str.length_append]); omega)
  k_with "mycall" => (k_here; k_dflt (refine' come_tells (by k_asm) (by k_asm) (by k_asm) (by k_asm) (by first | exact rfl | assumption) (by first | ktr_room | ((simp only [depth_mark, depth_deeper]); ktr_room)) (by ktr_units) (by k_asm) (by omega) ?_); intro t9 h9 tk9 F9 N9; (try dsimp only))
  k_with "mycall" => (k_here; k_dflt (refine' torn_tells (by k_asm) (by k_asm) (by k_asm) (by k_asm) (by first | exact rfl | assumption) (by first | ktr_room | ((simp only [depth_mark, depth_deeper]); ktr_room)) (by ktr_units) (by k_asm) hes (by omega) (by rw [edL_len, List.length_take]; omega) ?_); intro t9 h9 tk9 F9 N9; (try dsimp only))
  k_with "mycompA" => (k_here; k_dflt (refine LCt.Assign_ListComp_T (F₀ := by k_asm) (by rfl) (by with_unfolding_all rfl) (by with_unfolding_all rfl) (by decide) (by rfl) (by decide) (by rfl) (by rfl) (by rfl) ?_))
  k_with "mysrcT" => (k_here; k_dflt (refine LCt.CompSrcT.range (by rfl) (by k_asm) (by k_asm) (by assumption) (by exact small_one (by omega) (by omega) (by omega) (by omega)) (by exact rangeSize_nat _ _) (by rw [sizeLine_eq]; omega) ?_); intro g5; (refine kci_range (fun m k => if (ll ++ w5).getD k.toNat 0 = 38 then m ++ [k] else m) (fun k5 t6 I5 oI5 C5 oC5 D5 m5 ys5 l8 h5 tk5 E5 hlo5 hhi5 hys5 hC5 hx5 F5 N5 off5 ne5 mk5 => ?_) ?_ ?_); (have hit5 := item_amp (l := ll ++ w5) (k := k5) hlo5 (by omega)))
  k_with "mycompend" => (refine LCg.CompEnd.intro (by k_asm) (by k_asm) _ (fun _ h => h) off5 trivial ?_)
  k_with "myciel" => (refine kci_el ?_ rfl rfl; (have hc9 : (Txt.item (S (ll ++ w5)) k5 == Str.ofString "&") = true := by assumption); (rw [hit5, decide_eq_true_eq] at hc9); (rw [if_pos hc9]))
  k_with "mycino" => (refine kci_no ?_ rfl; (have hc9 : (Txt.item (S (ll ++ w5)) k5 == Str.ofString "&") = false := by assumption); (rw [hit5, decide_eq_false_iff_not] at hc9); (rw [if_neg hc9]))
  revert X; k_fill; intro X
  unfold TakeOk at hT
  refine wpAny_call ?_
  k_dflt (k_extra "enter")
  have lr := allLt_all l1.2.2.2.2.2.2.2.2
  k_steps
  · rename Fr _ _ _ _ => F9
    rename News _ _ _ _ => N9
    have hul : us.length = ps.length := by rw [hus.length, List.length_map]
    rw [hul, List.take_length] at N9
    rw [hul, List.take_length] at hal
    rw [hul, List.take_length]
    rw [hal, S_beq, decide_eq_true halone]
    exact ret _ _ _ F9 (cb_drop N9 (by kcj_all))
  · exact absurd (by assumption : (S w5 != S w5) = true) (by simp)
  · exact (str_abs (told_law hw5 hll hlt (hlaw i w5 hw5) (keep_A (by assumption))) (by assumption)).elim
  · rename Fr _ _ _ _ => F9
    rename News _ _ _ _ => N9
    simp only [List.push_toArray] at N9
    rw [← count_next hw5] at N9
    have hb9 := both_next hw5 hll hlt (keep_A (by assumption))
    have N10 := led_back N9
    refine hend .next (_, _, _, S (la ++ uneL w5), _, _, ?ta1, ?tl1, ?tt1, _) _ _ _ (.inl rfl) ⟨?g11, ?g21, hb9.1, hb9.2, ?g51⟩ ?ks1 hoff F9 N10
    case ks1 => (unfold uneS; kst_all)
    case g51 => k_asm
    case g11 => (rw [← ed_turn hw5]; exact IntsAre.append hes (.cons _ _ .nil))
    case g21 => rw [hla, ← alone_next hw5, S_app]
  · exact (str_abs (told_law hw5 hll hlt (hlaw i w5 hw5) (keep_B (by assumption) (by assumption))) (by assumption)).elim
  · rename Fr _ _ _ _ => F9
    rename News _ _ _ _ => N9
    simp only [List.push_toArray] at N9
    rw [← count_next hw5] at N9
    have hb9 := both_next hw5 hll hlt (keep_B (by assumption) (by assumption))
    have N10 := led_back N9
    refine hend .next (_, _, _, S (la ++ uneL w5), _, _, ?ta2, ?tl2, ?tt2, _) _ _ _ (.inl rfl) ⟨?g12, ?g22, hb9.1, hb9.2, ?g52⟩ ?ks2 hoff F9 N10
    case ks2 => (unfold uneS; kst_all)
    case g52 => k_asm
    case g12 => (rw [← ed_turn hw5]; exact IntsAre.append hes (.cons _ _ .nil))
    case g22 => rw [hla, ← alone_next hw5, S_app]
  · exact (str_abs (told_law hw5 hll hlt (hlaw i w5 hw5) (keep_C (by assumption))) (by assumption)).elim
  · rename Fr _ _ _ _ => F9
    rename News _ _ _ _ => N9
    simp only [List.push_toArray] at N9
    rw [← count_next hw5] at N9
    have hb9 := both_next hw5 hll hlt (keep_C (by assumption))
    have N10 := led_back N9
    refine hend .next (_, _, _, S (la ++ uneL w5), _, _, ?ta3, ?tl3, ?tt3, _) _ _ _ (.inl rfl) ⟨?g13, ?g23, hb9.1, hb9.2, ?g53⟩ ?ks3 hoff F9 N10
    case ks3 => (unfold uneS; kst_all)
    case g53 => k_asm
    case g13 => (rw [← ed_turn hw5]; exact IntsAre.append hes (.cons _ _ .nil))
    case g23 => rw [hla, ← alone_next hw5, S_app]

end
end Mine
end
section
open PySem PySem.W PyProof.Rows PySem.Spec PySem.Calls
namespace Mine
local macro_rules | `(tactic| walk_at "truthy ref") => `(tactic| (k_here; k_dflt (refine' truthy_emptyK ?k1 ?k2 ?k3 ?k4 ?_; (case k1 => k_asm); (case k2 => k_asm); (case k3 => k_is); (case k4 => rfl); k_whole)))
local macro_rules | `(tactic| walk_at "execs cons") => `(tactic| (k_here; (refine tk_gen (by (fail_if_success assumption); first | omega | (with_unfolding_all exact Nat.succ_pos _)) ?_); intro tk htk))
local macro_rules | `(tactic| walk_at "execs nil") => `(tactic| (k_here; (refine tk_gen (by (fail_if_success assumption); first | omega | (with_unfolding_all exact Nat.succ_pos _)) ?_); intro tk htk))
local macro_rules | `(tactic| walk_at "call builtin:str.replace") => `(tactic| (k_here; (refine replace_tk 1 (by dsimp only; omega) (by omega) (by omega) (by decide) (by first | assumption | omega) (by decide) (by decide) (by decide) ?_); intro t' k' hk' hl'))
local macro_rules | `(tactic| walk_at "call builtin:bytes.decode") => `(tactic| (k_here; (refine decode1 (by first | assumption | omega) 0 (Nat.zero_le _) ?_); intro t' k' hk'))
local macro_rules | `(tactic| k_room) => `(tactic| first | ktr_room | ((simp only [depth_mark, depth_deeper]); ktr_room))
local macro_rules | `(tactic| k_units) => `(tactic| ktr_units)
local macro_rules | `(tactic| units_room) => `(tactic| ktr_units)
local macro_rules | `(tactic| walk_at "CompEnd") => `(tactic| k_extra "mycompend")
local macro_rules | `(tactic| k_all) => `(tactic| k_extra "rest")
local macro_rules | `(tactic| walk_at "call ref") => `(tactic| k_extra "mycall")
local macro_rules | `(tactic| walk_at "eval ListComp") => `(tactic| k_extra "mycomp")
local macro_rules | `(tactic| walk_at "exec Assign cons ListComp") => `(tactic| k_extra "mycompA")
local macro_rules | `(tactic| walk_at "CompSrcT") => `(tactic| k_extra "mysrcT")
local macro_rules | `(tactic| walk_at "call builtin:list.extend") => `(tactic| (k_here; (with_reducible show wpAny _ _ (call (Value.builtin _) [Value.ref _, Value.ref _]) _ _ _); k_dflt (refine ext_any (by k_asm) (by k_asm) (by k_mem) (by k_updF) (by k_extra "ext") ?_); intro h' n' F' N'; (try dsimp only at N'); (try k_sweep)))
local macro_rules | `(tactic| walk_at "KCiEl") => `(tactic| k_extra "myciel")
local macro_rules | `(tactic| walk_at "KCiNo") => `(tactic| k_extra "mycino")
local macro_rules | `(tactic| walk_at "SrcS") => `(tactic| k_extra "mysrcS")
local macro_rules | `(tactic| walk_at "CompSrc") => `(tactic| k_extra "mysrc")
local macro_rules | `(tactic| walk_at "pyIter str") => `(tactic| k_extra "myiter")
local macro_rules | `(tactic| walk_at "pyIter ref") => `(tactic| first | k_extra "myiter" | (with_reducible refine stopP ?_))
local macro_rules | `(tactic| walk_at "exec For Name Name cons nil") => `(tactic| (k_here; (rename Fr _ _ _ _ => lF'); (with_unfolding_all refine' For_invVF lF' ?k1 ?k2 ?_; (case k1 => exact rfl); (case k2 => exact rfl); k_whole)))
local macro_rules | `(tactic| walk_at "call builtin:len") => `(tactic| (k_here; (with_reducible show wpAny _ _ (call (Value.builtin "len") [Value.str _ _]) _ _ _); (refine PyProof.Rows.len_str (by first | omega | ((simp only [S_len, List.length_append]); omega)) ?_)))
local macro_rules | `(tactic| walk_at "binaryOp Add str str") => `(tactic| (k_here; (refine PyProof.Rows.add_str ?_ (by (rw [sizeLine_eq]); first | k_extra "len" | omega | ((simp only [S_len, PySem.Str.length_append, List.length_append]); omega))); intro t' k'; (try (first | k_extra "added" | (rw [S_app])))))
local macro_rules | `(tactic| walk_at "callWith ref") => `(tactic| (k_here; k_dflt (first
  | (refine' callWith_F ?k1 ?_; (case k1 => exact FnAt.of (by k_asm) (by k_mem)); k_whole)
  | (refine' callWith_F0 ?k1 ?_; (case k1 => exact FnAt.of (by k_asm) (by k_mem)); k_whole; try dsimp only [List.nil_append, List.cons_append]))))
local macro_rules | `(tactic| walk_at "call builtin:str.join") => `(tactic| (k_here; k_extra "myjoin"))
local macro_rules | `(tactic| walk_at "call type:bytes") => `(tactic| (k_here; k_extra "mybytes"))

theorem row1 : PySem.Challenge.rw_ij0009_01.Holds := hd (by
  k_go0; (all_goals try k_fold)
  w_top off
  k_with_none
  k_with "enter" => (first
    | (refine' code_def ?k1 ?k2 ?k3 ?k4 ?k5 ?kA ?kF ?kK ?k6 ?k7 ?k8 ?k9 ?kB ?_ ?c2 ?c3 ?c4 ?c5; (case kA => exact rfl); (case kF => exact rfl); (case kK => first | exact rfl | assumption); (case k1 => k_asm); (case k2 => k_asm); (case k3 => k_asm); (case k4 => k_asm); (case k5 => k_asm); (case k6 => k_is); (case k7 => k_is); (case k8 => ktr_room); (case k9 => first | exact BindsTo.of_eq rfl | exact binds_K (by k_in) rfl (by k_is) rfl rfl rfl | fail "enter: no rule for these arguments"); (case c5 => decide); (case kB => exact locs rfl); (case c2 => exact rfl); (case c3 => exact rfl); (case c4 => exact rfl); k_whole; intro g' L' h' FG' F' N' B' X' T'; (try dsimp only); (try k_lift B'); (try k_fold))
    | (refine' code_defC ?k1 ?k2 ?k3 ?k4 ?k5 ?kA ?kF ?kK ?k6 ?k7 ?k8 ?k9 ?kB ?kD ?_ ?c2 ?c3 ?c4; (case kA => exact rfl); (case kF => exact rfl); (case kK => first | exact rfl | assumption); (case k1 => k_asm); (case k2 => k_asm); (case k3 => k_asm); (case k4 => k_asm); (case k5 => k_asm); (case k6 => k_is); (case k7 => k_is); (case k8 => ktr_room); (case k9 => first | exact BindsTo.of_eq rfl | exact binds_K (by k_in) rfl (by k_is) rfl rfl rfl | fail "enter: no rule for these arguments"); (case kB => exact rfl); (case kD => decide +kernel); (case c2 => exact rfl); (case c3 => exact rfl); (case c4 => exact rfl); k_whole; intro g' L' h' tk' cells' FG' F' N' Y' B' X' T' l1; (try k_lt l1); k_cells Y'; (try simp only [List.cons_append, List.nil_append] at N'); (try dsimp only); (try k_lift B'); (try k_fold)))
  k_with "entern" => (refine' code_nest ?k1 ?k2 ?k3 ?k4 ?k5 ?kA ?kF ?kK ?k6 ?k7 ?k8 ?k9 ?kB ?_ ?c2 ?c3 ?c4 ?c5; (case kA => assumption); (case kF => assumption); (case kK => first | exact rfl | assumption); (case k1 => k_asm); (case k2 => k_asm); (case k3 => k_asm); (case k4 => k_asm); (case k5 => k_asm); (case k6 => k_mem); (case k7 => exact codeRec_news (by k_asm) (by k_mem) (by assumption) (by assumption)); (case k8 => ktr_room); (case k9 => exact BindsTo.of_eq rfl); (case c5 => decide); (case kB => exact locs rfl); (case c2 => exact rfl); (case c3 => exact rfl); (case c4 => exact rfl); k_whole; intro g' L' h' FG' F' N' B' X' T'; (try dsimp only); (try k_lift B'); (try k_fold))
  k_with "mycomp" => (k_here; (with_reducible show wpAny _ _ (eval (PySem.Expr.ListComp (PySem.Expr.Subscript ..) _ _ _) _) _ _ _); k_dflt (refine LCg.ListComp_U (F₀ := by k_asm) (by with_unfolding_all rfl) (by decide) (by rfl) (by decide) (by rfl) ?_))
  k_with "mysrc" => (k_here; k_dflt ((rename IntsAre _ (List.map _ _) => hi5); (have hl5 := hi5.length); (simp only [List.length_map, List.length_take] at hl5); (obtain ⟨ks5, hks5, hi6, hkl6⟩ := ints_abs hi5); (have hkl5 : ks5.length ≤ 12 := by omega); (refine LCg.CompSrc.ledger (by rfl) (by k_asm) (by k_asm) (by k_mem) (by rw [sizeLine_eq, List.size_toArray]; omega) ?_); intro g5; (refine comp_rest ks5 (fun k v => ∃ t, v = Value.int k t) (fun k y => ∃ t, y = Value.str (Txt.item (Str.ofString "&<>lt;") (Int.fmod k 6)) t) (by exact hi6.length.symm) (by intro i v hi hv; obtain ⟨k, t, e, hk⟩ := IntsAre.at hi6 i v (by simpa using hv); exact ⟨k, hk, t, e⟩) ?_ ?_); (rintro a5 v5 I5 oI5 C5 oC5 D5 m5 ys5 h5 tk5 E5 ha5 ⟨t6, rfl⟩ hC5 hx5 F5 N5 off5 ne5); rotate_left; (intro ys7 hys7); (have hi7 := strs_signs hys7.strs)))
  k_with "mycompend" => (k_dflt (refine LCg.CompEnd.intro (by k_asm) (by k_asm) _ (fun _ h => h) off5 (.inr ⟨_, by k_mem, rfl, _, rfl⟩) ⟨rfl, _, rfl⟩))
  k_with "mycomp" => (k_here; (with_reducible show wpAny _ _ (eval (PySem.Expr.ListComp (PySem.Expr.BinOp ..) _ _ _) _) _ _ _); (have hu6 := hkl6); k_dflt (refine LCg.ListComp_U (F₀ := by k_asm) (by with_unfolding_all rfl) (by decide) (by rfl) (by decide) (by rfl) ?_))
  k_with "mysrc" => (k_here; k_dflt ((refine LCg.CompSrc.ledger (by rfl) (by k_asm) (by k_asm) (by k_mem) (by rw [sizeLine_eq, List.size_toArray]; omega) ?_); intro g7; (refine comp_rest ks5 (fun k v => ∃ t, v = Value.int k t) (fun k y => ∃ t, y = Value.int (Int.fdiv k 6) t) (by exact hi6.length.symm) (by intro i v hi hv; obtain ⟨k, t, e, hk⟩ := IntsAre.at hi6 i v (by simpa using hv); exact ⟨k, hk, t, e⟩) ?_ ?_); (rintro a7 v7 I7 oI7 C7 oC7 D7 m7 ys7 h7 tk7 E7 ha7 ⟨t7, rfl⟩ hC7 hx7 F7 N7 off7 ne7); rotate_left; (intro ys9 hys9); (have hi9 := hys9.ints)))
  k_with "mycompend" => (k_dflt (refine LCg.CompEnd.intro (by k_asm) (by k_asm) _ (fun _ h => h) off7 (.inr ⟨_, by k_mem, rfl, _, rfl⟩) ⟨rfl, _, rfl⟩))
  k_with "mycall" => (k_here; k_dflt ((have hwl5 := refs_len tx5); (refine' pieces_tells (rest := [(76, tabObj #[])]) (by k_asm) (by k_asm) (by k_asm) (by k_asm) (by first | exact rfl | assumption) (by first | ktr_room | ((simp only [depth_mark, depth_deeper]); ktr_room)) (by ktr_units) (news_two (by k_asm) (by k_mem) (by k_mem)) (by k_asm) (by omega) (by simp only [List.length_append, List.length_map, List.length_cons, List.length_nil]; omega) (sizes_ok hks5) ?_); intro r9 vs9 n9 h9 tk9 hst9 lt9 lr9 F9 N9; (have hfl9 := pieces_flat (tx5.map refL).flatten ([3] ++ ks5.map (fun k => Int.fdiv k 6))); (have hpn9 := pieces_len (tx5.map refL).flatten ([3] ++ ks5.map (fun k => Int.fdiv k 6))); (obtain ⟨ps9, hps9⟩ : ∃ ps, ps = piecesL (tx5.map refL).flatten ([3] ++ ks5.map (fun k => Int.fdiv k 6)) := ⟨_, rfl⟩); (rw [← hps9] at hst9 hfl9 hpn9); (simp only [List.length_append, List.length_map, List.length_cons, List.length_nil] at hpn9); (have hpw9 : ∀ w ∈ ps9, w.length ≤ 70 := fun w hw => by (have q9 := mem_flat hw); rw [hfl9] at q9; omega)); (try dsimp only))
  k_with "mycall" => (k_here; k_dflt ((refine' counted_tells (ps := ps9) (rest := [(76, tabObj #[])]) (by k_asm) (by k_asm) (by k_asm) (by k_asm) (by first | exact rfl | assumption) (by first | ktr_room | ((simp only [depth_mark, depth_deeper]); ktr_room)) (by ktr_units) (news_two (by k_asm) (by k_mem) (by k_mem)) hst9 (by omega) (fun w hw => Nat.le_trans (hpw9 w hw) (by decide)) ?_); intro r8 vs8 n8 h8 tk8 hct8 lt8 lr8 F8 N8; (have hcl8 := countL_length ps9); (rw [hfl9] at hcl8); (have hvl8 := hct8.length)); (try dsimp only))
  k_with "mybytes" => ((with_reducible show wpAny _ _ (call (Value.type "bytes") [Value.ref _]) _ _ _); (rename IntsAre _ (countL _ ++ _) => hj9); k_dflt ((refine bytes_K (by k_asm) (by k_asm) (News.isList (by k_asm) (by k_mem)) hj9 (count_ok hpw9 (by rw [hfl9]; exact refs_lt (by rw [htx5]; exact text_lt ks5))) (by rw [hj9.length, List.length_append, sizeLine_eq]; simp only [List.length_cons, List.length_nil]; omega) (by rfl) ?_); intro h7 t7 tk7 F7 N7 hB7; (obtain ⟨b9, hb9, hbb9, hbs9⟩ := bytes_made hB7); (rw [← hb9]); (simp only [List.length_append, List.length_cons, List.length_nil] at hbs9)))
  k_with "mycall" => (k_here; k_dflt ((refine' stream_new (rest := [(r9, listOf vs9.toArray n9)]) (by k_asm) (by k_asm) (by k_asm) (by k_asm) (by first | exact rfl | assumption) (by first | ktr_room | ((simp only [depth_mark, depth_deeper]); ktr_room)) (by ktr_units) codeHd (news_two (by k_asm) (by k_mem) (by k_mem)) (by intro p hp; rw [List.mem_singleton.mp hp]; exact Nat.ne_of_gt (lr9 _ (List.mem_singleton.mpr rfl))) (by omega) ?_); intro x d f c pl c2 c1 oc o2 o1 fd kv kr vt pt5 h6 tk6 hr0 hr1 hr2 hr3 hr4 hr5 hr6 hr7 F6 N6 hT6; (have hr8 := hr0 _ (List.mem_singleton.mpr rfl))); (try dsimp only))
  k_with "mycall" => (k_here; k_dflt ((refine' both_tells (pt := pt5) (b := b9) (ps := ps9) (tail := [4, 38, 108, 116]) (rest := [(76, tabObj (#[] ++ #[rawInt ((40 : Nat) : Int), rawInt ((4 : Nat) : Int), .ref c]))]) (by k_asm) (by k_asm) (by k_asm) (by k_asm) (by first | exact rfl | assumption) (by first | ktr_room | ((simp only [depth_mark, depth_deeper]); ktr_room)) (by ktr_units) (by (refine cb_drop (by k_asm) ?_; kcj_all)) hT6 hr7 hr6 (by omega) (by intro q hq; rw [List.mem_singleton.mp hq]; exact Nat.ne_of_lt (Nat.lt_trans hr1 (Nat.lt_trans hr2 hr3))) (by omega) hst9 hbb9 (by omega) (by rw [S_len]; omega) (by omega) (fun w hw => Nat.le_trans (hpw9 w hw) (by decide)) (by rw [hfl9]; omega) (by rw [hps9]; exact fun i w hw => law_both _ _ i w hw) (by rw [hps9]; exact of_decide_eq_true (law_alone _ _)) ?_); intro h5 tk5 pt6 F5 N5); (try dsimp only))
  k_with "mycall" => (k_here; k_dflt ((refine' refused_tells (pt := pt6) (b := b9) (pos := (countL ps9).length) (n := 4) (rest := [(76, tabObj (#[] ++ #[rawInt ((40 : Nat) : Int), rawInt ((4 : Nat) : Int), .ref c]))]) (by k_asm) (by k_asm) (by k_asm) (by k_asm) (by first | exact rfl | assumption) (by first | ktr_room | ((simp only [depth_mark, depth_deeper]); ktr_room)) (by ktr_units) (by (refine cb_drop (by k_asm) ?_; kcj_all)) hT6 hr7 hr6 (by omega) (by intro q hq; rw [List.mem_singleton.mp hq]; exact Nat.ne_of_lt (Nat.lt_trans hr1 (Nat.lt_trans hr2 hr3))) (by omega) (by omega) (short_count hbb9) (by omega) (by k_asm) (by k_asm) ?_); intro h4 tk4 pt4 F4 N4; (try dsimp only); (refine ⟨?lg1, ?lg2⟩); (case lg2 => (k_dflt (exact ⟨GrownAt.of N4 (by k_mem), trivial⟩))); (case lg1 => (kc_bool; (refine goodW_bool (by with_reducible assumption) (by with_reducible assumption) (raisesW_false ?_) ?_); (· wrow_none_raised); (· refine postW_of (by wrow_shape) (w_eq_bool (w_res rfl) w_lit) ?_; rfl)))))
  k_with "myjoin" => (k_dflt (refine join_S (by k_asm) (by k_mem) hi7 (by intro w hw; simp only [sgnL, List.mem_map] at hw; obtain ⟨k, _, rfl⟩ := hw; exact (by decide : 1 ≤ 10)) (by rw [sgnL, List.length_map]; omega) ?_); intro t7 k7; (have hsl5 := sgnL_len ks5))
  k_with "mycall" => (k_here; k_dflt (refine' escape_tells (by k_asm) (by k_asm) (by k_asm) (by k_asm) (by first | exact rfl | assumption) (by first | ktr_room | ((simp only [depth_mark, depth_deeper]); ktr_room)) (by ktr_units) (by k_asm) (by rw [S_len]; omega) ?_); intro t9 h9 tk9 F9 N9; (rw [escS_refs]); (try dsimp only))
  k_with "mycomp" => (k_here; (with_reducible show wpAny _ _ (eval (PySem.Expr.ListComp (PySem.Expr.Call ..) _ _ _) _) _ _ _); k_dflt (refine ListComp_S (F₀ := by k_asm) (by with_unfolding_all rfl) (by decide) (by rfl) (by decide) (by rfl) ?_))
  k_with "mysrcS" => (k_here; k_dflt ((refine SrcS.intro (by rfl) (by k_asm) (by k_asm) (by (show (S tx5).length ≤ _); rw [S_len, sizeLine_eq]; omega) ?_); intro g6; (refine comp_rest tx5 (fun a v => ∃ t, v = Value.str ⟨#[a]⟩ t) (fun a y => ∃ t, y = Value.str (S (refL a)) t) (by exact (S_len tx5).symm) sign_items ?_ ?_); (rintro a6 v6 I6 oI6 C6 oC6 D6 m6 ys6 h6 tk6 E6 ha6 ⟨t8, rfl⟩ hC6 hx6 F6 N6 off6 ne6); rotate_left; (intro ys8 hys8); (have hi8 := strs_refs hys8.strs)))
  k_with "mycall" => (k_here; k_dflt (refine' reference_tells (by k_asm) (by k_asm) (by k_asm) (by k_asm) (by first | exact rfl | assumption) (by first | ktr_room | ((simp only [depth_mark, depth_deeper]); ktr_room)) (by ktr_units) (by k_asm) ?_); intro t9 h9 tk9 F9 N9; (try dsimp only))
  k_with "mycompend" => (k_dflt (refine LCg.CompEnd.intro (by k_asm) (by k_asm) _ (fun _ h => h) off6 trivial ⟨rfl, _, rfl⟩))
  k_with "myjoin" => (k_dflt (refine join_S (by k_asm) (by k_mem) hi8 (by intro w hw; obtain ⟨k, _, rfl⟩ := List.mem_map.mp hw; exact Nat.le_trans (refL_le k) (by decide)) (by rw [List.length_map]; omega) ?_); intro t7 k7)
  k_with "len" => (rw [S_len, hsl5]; (have h2 : (Str.ofString "<&").length = 2 := by decide +kernel); omega)
  k_with "added" => (rw [text_eq]; (obtain ⟨tx5, htx5⟩ : ∃ tx, tx = 60 :: 38 :: (sgnL ks5).flatten := ⟨_, rfl⟩); (rw [← htx5]); (have htl5 : tx5.length ≤ 14 := by rw [htx5]; simp only [List.length_cons, hsl5]; omega))
  k_steps)

end Mine
end
theorem PySem.Challenge.cw_ij0009_01_holds : PySem.Challenge.rw_ij0009_01.Holds :=
  Mine.row1
