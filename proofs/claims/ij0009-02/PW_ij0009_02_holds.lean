import PyProof.Rows.All
import Wide.All
import OpenK.AllK
import Wide.FinOn
import Lean
import PySem.Challenge.RW_ij0009_02
set_option Elab.async false
set_option maxRecDepth 100000
set_option maxHeartbeats 8000000
set_option linter.unusedVariables false
set_option rowWalk.seconds 0
section
open PySem PySem.W PyProof.Rows PySem.Spec PySem.Calls
namespace Mine
/-- a run never lowers the count of tokens -/
theorem runs_toks {M : Model} {Γ : PySem.Ctx} {p : Pos} {t : Sem Fin} {fs : List Frame} {s s' : Shared} {e : End} (h : Runs M Γ p t fs s e s') : s.toks ≤ s'.toks := by
  induction h <;> (try simp only [Shared.setGen] at *) <;> (try dsimp only at *) <;> omega
theorem wakes_toks {M : Model} {Γ : PySem.Ctx} {p : Pos} {g : Nat} {r : Resume} {s s' : Shared} {res : GenResult} (h : Wakes M Γ p g r s res s') : s.toks ≤ s'.toks := by
  unfold Wakes at h
  split at h
  · exact h.elim
  · split at h
    · obtain ⟨e, s₁, hr, _, _, rfl⟩ := h
      (have q := runs_toks hr; exact q)
    · obtain ⟨_, rfl⟩ := h; exact Nat.le_refl _
    · obtain ⟨_, rfl⟩ := h; exact Nat.le_refl _
  · obtain ⟨e, s₁, hr, _, _, rfl⟩ := h
    (have q := runs_toks hr; exact q)
  · obtain ⟨_, rfl⟩ := h; exact Nat.le_refl _
  · obtain ⟨_, rfl⟩ := h; exact Nat.le_refl _
theorem wp_toks {α : Type} {M : Model} {Γ : PySem.Ctx} (t : Sem α) {Q : α → Pos → Shared → Prop} {E : Value → Pos → Shared → Prop} (n : Nat) :
    ∀ {p : Pos} {s : Shared}, n ≤ s.toks → Sem.wp M Γ t (fun a p s' => n ≤ s'.toks → Q a p s') E p s → Sem.wp M Γ t Q E p s := by
  induction t with
  | pure a => intro p s hn h; simp only [Sem.wp] at *; exact h hn
  | raise e => intro p s hn h; simp only [Sem.wp] at *; exact h
  | unsupported => intro p s hn h; simp only [Sem.wp] at *
  | finish => intro p s hn h; simp only [Sem.wp] at *
  | rule _ k ih => intro p s hn h; simp only [Sem.wp] at *; exact ih _ hn h
  | «at» _ k ih => intro p s hn h; simp only [Sem.wp] at *; exact ih _ hn h
  | load a _ k ih => intro p s hn h; simp only [Sem.wp] at *; obtain ⟨o, e, h⟩ := h; exact ⟨o, e, ih _ hn h⟩
  | update a _ f k ih => intro p s hn h; simp only [Sem.wp] at *; obtain ⟨e, h⟩ := h; exact ⟨e, ih _ hn h⟩
  | loadIfAlive a k ih => intro p s hn h; simp only [Sem.wp] at *; exact ih _ hn h
  | point _ k ih => intro p s hn h; simp only [Sem.wp] at *; exact ih _ hn h
  | register => intro p s hn h; simp only [Sem.wp] at *
  | alloc o k ih => intro p s hn h; simp only [Sem.wp] at *; exact ih _ hn h
  | fresh k ih => intro p s hn h; simp only [Sem.wp] at *; exact ih _ (Nat.le_succ_of_le hn) h
  | ask k ih => intro p s hn h; simp only [Sem.wp] at *; exact ih _ hn h
  | choose _ _ k ih => intro p s hn h; simp only [Sem.wp] at *; obtain ⟨e, h⟩ := h; exact ⟨e, ih _ hn h⟩
  | os _ _ k ih => intro p s hn h; simp only [Sem.wp] at *; exact ih _ hn h
  | call c hd g l k ih =>
    intro p s hn h
    simp only [Sem.wp] at *
    obtain ⟨r, s', hr, h⟩ := h
    exact ⟨r, s', hr, ih _ (Nat.le_trans hn (runs_toks hr)) h⟩
  | handled _ k ih => intro p s hn h; simp only [Sem.wp] at *; exact ih _ hn h
  | genState _ k ih => intro p s hn h; simp only [Sem.wp] at *; obtain ⟨o, e, h⟩ := h; exact ⟨o, e, ih _ hn h⟩
  | newGen _ k ih => intro p s hn h; simp only [Sem.wp] at *; exact ih _ hn h
  | resume g r l k ih =>
    intro p s hn h
    simp only [Sem.wp] at *
    obtain ⟨r, s', hr, h⟩ := h
    exact ⟨r, s', hr, ih _ (Nat.le_trans hn (wakes_toks hr)) h⟩
  | yield => intro p s hn h; simp only [Sem.wp] at *
  | stack k ih => intro p s hn h; simp only [Sem.wp] at *; exact ih _ hn h
  | fork => intro p s hn h; simp only [Sem.wp] at *
  | thread k ih => intro p s hn h; simp only [Sem.wp] at *; exact ih _ hn h
  | await => intro p s hn h; simp only [Sem.wp] at *
section
variable {α : Type} {M : Model} {A : Around} {E : Value → Shared → Prop} {s : Shared}
theorem wpAny_toks {t : Sem α} {Q : α → Shared → Prop} (n : Nat) (hn : n ≤ s.toks) (h : wpAny M A t (fun a s' => n ≤ s'.toks → Q a s') E s) : wpAny M A t Q E s :=
  fun Γ p hΓ => wp_toks t n hn (h Γ p hΓ)
theorem tk_gen {t : Sem α} {Q : α → Shared → Prop} {h : Heap} {g : Array GenState} {d : Drawn} {n : Nat} {o : OsState} (h0 : 0 < n) (k : ∀ tk, 0 < tk → wpAny M A t Q E ⟨h, g, d, tk, o⟩) : wpAny M A t Q E ⟨h, g, d, n, o⟩ := k n h0
end
end Mine
end
section
open PySem PySem.Builtin PySem.Builtin.Str PySem.StrLaws
namespace Mine
/-- replace on lists of numbers; the first number says how many signs are still to be skipped -/
def rp (y z : List Nat) : Nat → List Nat → List Nat
  | _, [] => []
  | k + 1, _ :: r => rp y z k r
  | 0, c :: r => if y.isPrefixOf (c :: r) = true then z ++ rp y z (y.length - 1) r else c :: rp y z 0 r
def occL (y : List Nat) : Nat → Nat → List Nat → List Nat
  | _, _, [] => []
  | i, k + 1, _ :: r => occL y (i + 1) k r
  | i, 0, c :: r => if y.isPrefixOf (c :: r) = true then i :: occL y (i + 1) (y.length - 1) r else occL y (i + 1) 0 r

theorem isPrefixOf_take (y l : List Nat) : y.isPrefixOf l = (l.take y.length == y) := by
  induction y generalizing l with
  | nil => cases l <;> rfl
  | cons a y ih =>
    cases l with
    | nil => rfl
    | cons b l =>
      rw [List.isPrefixOf_cons_cons, ih]
      simp only [List.length_cons, List.take_succ_cons]
      rw [Bool.eq_iff_iff]
      simp only [Bool.and_eq_true, beq_iff_eq, List.cons.injEq]
      constructor
      · rintro ⟨h1, h2⟩; exact ⟨h1.symm, h2⟩
      · rintro ⟨h1, h2⟩; exact ⟨h1.symm, h2⟩

theorem sub_prefix {x y : Str} {i c : Nat} {r : List Nat} (hi : x.cps.toList.drop i = c :: r) : (i + y.length ≤ x.length ∧ subAt x y i = true) ↔ y.cps.toList.isPrefixOf (c :: r) = true := by
  rw [subAt_eq, hi, isPrefixOf_take]
  have e : y.length = y.cps.toList.length := by simp [Str.length]
  rw [e]
  have hl : x.length = i + (r.length + 1) := by
    have := congrArg List.length hi
    simp only [List.length_drop, List.length_cons, Array.length_toList] at this
    have h2 : x.length = x.cps.size := rfl
    omega
  constructor
  · exact fun h => h.2
  · intro h
    refine ⟨?_, h⟩
    have := congrArg List.length (eq_of_beq h)
    simp only [List.length_take, List.length_cons] at this
    omega

theorem occ_run (x y : Str) (hy : y.cps.toList ≠ []) (lim : Nat) (hlim : x.length < lim) : ∀ (l : List Nat) (i : Nat) (st : Array Nat × Nat), x.cps.toList.drop i = l → i + l.length = x.length → st.1.size ≤ i →
    (forIn (List.range' i (l.length + 1)) st (occBody x y x.length lim)).run.fst.toList = st.1.toList ++ occL y.cps.toList i (st.2 - i) l
  | [], i, st, hd, hl, hs => by
    have hn : ¬ (((st.1.size < lim ∧ st.2 ≤ i) ∧ i + y.length ≤ x.length) ∧ subAt x y i = true) := by
      rintro ⟨⟨_, h⟩, _⟩
      have : 0 < y.cps.toList.length := List.length_pos_iff.mpr hy
      have e : y.length = y.cps.toList.length := by simp [Str.length]
      simp only [List.length_nil] at hl
      omega
    simp only [List.length_nil, Nat.zero_add, List.range'_one, List.forIn_cons]
    unfold occBody
    rw [if_neg hn]
    simp [occL]
  | c :: r, i, st, hd, hl, hs => by
    have hd' : x.cps.toList.drop (i + 1) = r := by
      rw [← List.drop_drop, hd]; rfl
    simp only [List.length_cons] at hl
    have hr : List.range' i ((c :: r).length + 1) = i :: List.range' (i + 1) (r.length + 1) := by
      simp [List.range'_succ]
    rw [hr, List.forIn_cons]
    by_cases hf : st.2 ≤ i
    · have e0 : st.2 - i = 0 := by omega
      rw [e0]
      by_cases hp : y.cps.toList.isPrefixOf (c :: r) = true
      · have hq := (sub_prefix (y := y) hd).mpr hp
        have hb : occBody x y x.length lim i st = pure (ForInStep.yield (st.1.push i, i + y.length)) := by
          unfold occBody
          rw [if_pos ⟨⟨⟨by omega, hf⟩, hq.1⟩, hq.2⟩]
        rw [hb]
        have ih := occ_run x y hy lim hlim r (i + 1) (st.1.push i, i + y.length) hd' (by omega) (by simp; omega)
        simp only [pure_bind]
        rw [ih]
        have e : y.length = y.cps.toList.length := by simp [Str.length]
        have e2 : i + y.length - (i + 1) = y.cps.toList.length - 1 := by omega
        simp only [occL, hp, if_true, e2]
        simp
      · have hb : occBody x y x.length lim i st = pure (ForInStep.yield (st.1, st.2)) := by
          unfold occBody
          rw [if_neg]
          rintro ⟨⟨⟨_, _⟩, h3⟩, h4⟩
          exact hp ((sub_prefix (y := y) hd).mp ⟨h3, h4⟩)
        rw [hb]
        have ih := occ_run x y hy lim hlim r (i + 1) (st.1, st.2) hd' (by omega) (by simp; omega)
        simp only [pure_bind]
        rw [ih]
        have e2 : st.2 - (i + 1) = 0 := by omega
        have hp' : y.cps.toList.isPrefixOf (c :: r) = false := Bool.eq_false_iff.mpr hp
        simp only [occL, hp', e2]
        simp
    · have hb : occBody x y x.length lim i st = pure (ForInStep.yield (st.1, st.2)) := by
        unfold occBody
        rw [if_neg]
        rintro ⟨⟨⟨_, h⟩, _⟩, _⟩
        exact hf h
      rw [hb]
      have ih := occ_run x y hy lim hlim r (i + 1) (st.1, st.2) hd' (by omega) (by simp; omega)
      simp only [pure_bind]
      rw [ih]
      have e : st.2 - i = (st.2 - (i + 1)) + 1 := by omega
      rw [e]
      simp only [occL]

theorem drop_take_snoc {l r : List Nat} {a i c : Nat} (ha : a ≤ i) (hd : l.drop i = c :: r) : (l.drop a).take (i + 1 - a) = (l.drop a).take (i - a) ++ [c] := by
  have e : i + 1 - a = (i - a) + 1 := by omega
  have hg : (l.drop a)[i - a]? = some c := by
    rw [List.getElem?_drop]
    have e2 : a + (i - a) = i := by omega
    rw [e2]
    have h := congrArg (fun l : List Nat => l[0]?) hd
    simpa [List.getElem?_drop] using h
  rw [e, List.take_add_one, hg]
  rfl

theorem join_cons_parts (x z : Str) (w a c : Nat) (cs : List Nat) : (Str.join z (strSub x a c :: partsFrom x w (c + w) cs)).cps.toList = (x.cps.toList.drop a).take (c - a) ++ z.cps.toList ++ (Str.join z (partsFrom x w (c + w) cs)).cps.toList := by
  obtain ⟨p, r, e⟩ := partsFrom_ne x w (c + w) cs
  rw [e]
  show (strSub x a c ++ z ++ Str.join z (p :: r)).cps.toList = _
  simp only [Str.cps_append, Array.toList_append, strSub_toList]

theorem parts_run (x y z : Str) (hy : y.cps.toList ≠ []) : ∀ (l : List Nat) (i k a : Nat), x.cps.toList.drop i = l → i + l.length = x.length → a ≤ i + k → (0 < k → a = i + k) →
    (Str.join z (partsFrom x y.length a (occL y.cps.toList i k l))).cps.toList = (x.cps.toList.drop a).take (i - a) ++ rp y.cps.toList z.cps.toList k l
  | [], i, k, a, hd, hl, ha, hk => by
    simp only [occL, rp, List.append_nil, partsFrom]
    show (strSub x a x.length).cps.toList = _
    rw [strSub_toList]
    simp only [List.length_nil] at hl
    have e : x.length = i := by omega
    rw [e]
  | c :: r, i, k + 1, a, hd, hl, ha, hk => by
    have hd' : x.cps.toList.drop (i + 1) = r := by
      rw [← List.drop_drop, hd]; rfl
    simp only [List.length_cons] at hl
    have e := hk (by omega)
    have ih := parts_run x y z hy r (i + 1) k a hd' (by omega) (by omega) (by omega)
    simp only [occL, rp]
    rw [ih]
    have e1 : i + 1 - a = 0 := by omega
    have e2 : i - a = 0 := by omega
    rw [e1, e2]
  | c :: r, i, 0, a, hd, hl, ha, hk => by
    have hd' : x.cps.toList.drop (i + 1) = r := by
      rw [← List.drop_drop, hd]; rfl
    simp only [List.length_cons] at hl
    by_cases hp : y.cps.toList.isPrefixOf (c :: r) = true
    · have e : y.length = y.cps.toList.length := by simp [Str.length]
      have hpos : 0 < y.cps.toList.length := List.length_pos_iff.mpr hy
      have ih := parts_run x y z hy r (i + 1) (y.cps.toList.length - 1) (i + y.length) hd' (by omega) (by omega) (by omega)
      simp only [occL, rp, hp, if_true, partsFrom]
      rw [join_cons_parts, ih]
      have e1 : i + 1 - (i + y.length) = 0 := by omega
      rw [e1]
      simp
    · have hp' : y.cps.toList.isPrefixOf (c :: r) = false := Bool.eq_false_iff.mpr hp
      have ih := parts_run x y z hy r (i + 1) 0 a hd' (by omega) (by omega) (by omega)
      simp only [occL, rp, hp']
      rw [if_neg Bool.false_ne_true, if_neg Bool.false_ne_true, ih, drop_take_snoc (by omega) hd]
      simp

theorem occL_none_rp (y z : List Nat) : ∀ (l : List Nat) (i k : Nat), occL y i k l = [] → k = 0 → rp y z k l = l
  | [], _, _, _, _ => by simp [rp]
  | c :: r, i, k, h, hk => by
    subst hk
    by_cases hp : y.isPrefixOf (c :: r) = true
    · simp only [occL, hp, if_true] at h; cases h
    · simp only [occL] at h
      rw [if_neg hp] at h
      simp only [rp]
      rw [if_neg hp, occL_none_rp y z r (i + 1) 0 h rfl]

/-- the library's replace is rp -/
theorem replace_rp (x y z : Str) (hy : y.cps.toList ≠ []) : (Txt.replace x y z).cps.toList = rp y.cps.toList z.cps.toList 0 x.cps.toList := by
  have ho : occurrences x y 0 x.length (x.length + 1) = occL y.cps.toList 0 0 x.cps.toList := by
    rw [occ_eq]
    have h := occ_run x y hy (x.length + 1) (by omega) x.cps.toList 0 (#[], 0) (by simp) (by simp [Str.length]) (by simp)
    have e : x.length + 1 - 0 = x.cps.toList.length + 1 := by simp [Str.length]
    rw [e, h]
    simp
  have hyl : (y.length == 0) = false := by
    have e : y.length = y.cps.toList.length := by simp [Str.length]
    have hpos : 0 < y.cps.toList.length := List.length_pos_iff.mpr hy
    rw [beq_eq_false_iff_ne]; omega
  unfold Txt.replace
  rw [hyl, Bool.false_and, Bool.or_false, ho]
  split
  · rename_i he
    rw [occL_none_rp _ _ _ 0 0 (List.isEmpty_iff.mp he) rfl]
  · rw [glued_eq_join, partsBetween_eq, parts_run x y z hy x.cps.toList 0 0 0 (by simp) (by simp [Str.length]) (by omega) (by omega)]
    simp

theorem rp_length {y z : List Nat} {B : Nat} (hz : z.length ≤ B) (hB : 1 ≤ B) : ∀ (l : List Nat) (k : Nat), (rp y z k l).length ≤ B * l.length
  | [], _ => by simp [rp]
  | c :: r, k + 1 => by
    have ih := rp_length (y := y) hz hB r k
    simp only [rp, List.length_cons, Nat.mul_add, Nat.mul_one]
    omega
  | c :: r, 0 => by
    have ih1 := rp_length (y := y) hz hB r (y.length - 1)
    have ih2 := rp_length (y := y) hz hB r 0
    simp only [rp]
    split
    · simp only [List.length_append, List.length_cons, Nat.mul_add, Nat.mul_one]; omega
    · simp only [List.length_cons, Nat.mul_add, Nat.mul_one]; omega
theorem replace_length {x y z : Str} {B : Nat} (hy : y.cps.toList ≠ []) (hz : z.cps.toList.length ≤ B) (hB : 1 ≤ B) : (Txt.replace x y z).length ≤ B * x.length := by
  have h := rp_length (y := y.cps.toList) hz hB x.cps.toList 0
  rw [← replace_rp x y z hy] at h
  simpa [Str.length] using h
end Mine
end
section
open PySem PySem.W PyProof.Rows PySem.Spec PySem.Calls PySem.Builtin
namespace Mine
theorem args_dec2 (a c : Value) : argsOk "bytes.decode" ⟨[a, c], []⟩ := by unfold argsOk; kernel_rfl
theorem dec_entry {c : UInt8} {cs : List UInt8} {t u : Tok} : «bytes.decode» ⟨[.bytes (c :: cs).toArray t, .str (PySem.Str.ofString "latin-1") u], []⟩ = (mkStr (PySem.Str.ofString "utf-8") >>= fun _ => mkStr (PySem.Str.ofString "latin-1") >>= fun e => mkStr (PySem.Str.ofString "bytes.decode") >>= fun d =>
    call (.builtin "_codecs.decode.text") [.bytes (c :: cs).toArray t, e, .none, d] >>= fun v => ret v) := by kernel_rfl
theorem dec_entry0 {t u : Tok} : «bytes.decode» ⟨[.bytes #[] t, .str (PySem.Str.ofString "latin-1") u], []⟩ = (PySem.rule "bytes.decode.empty" >>= fun _ => retStr Str.empty) := by kernel_rfl
theorem dec_road {id : String} {b : Array UInt8} : _codecs.decodeRoad id b (PySem.Str.ofString "latin-1") none [] = (_codecs.runDecoder id _codecs.latin1Decoder none true b 0 [] >>= fun r => mkStr ⟨r.1⟩) := by kernel_rfl
theorem dec_loop {S : Type} (b : Array UInt8) (h : b.size ≤ sizeLine) {f : Nat → Nat × Array Nat × S → Sem (ForInStep (Nat × Array Nat × S))}
    (hf : ∀ x p out st, p < b.size → out.size ≤ sizeLine → f x (p, out, st) = pure (ForInStep.yield (p + 1, out ++ [(b.getD p 0).toNat].toArray, st))) :
    ∀ (l : List Nat) (p : Nat) (out : Array Nat) (st : S), out.size = p → p + l.length = b.size → forIn l (p, out, st) f = (pure (b.size, out ++ ((b.toList.drop p).map (·.toNat)).toArray, st) : Sem _)
  | [], p, out, st, ho, hl => by
    simp only [List.length_nil, Nat.add_zero] at hl
    subst hl
    rw [List.forIn_nil, List.drop_of_length_le (by simp)]
    simp
  | x :: l, p, out, st, ho, hl => by
    simp only [List.length_cons] at hl
    have e : b.toList.drop p = b.getD p 0 :: b.toList.drop (p + 1) := by
      rw [List.drop_eq_getElem_cons (by simp; omega)]
      congr 1
      simp only [Array.getElem_toList, Array.getD]
      rw [dif_pos (by omega)]; rfl
    rw [List.forIn_cons, hf x p out st (by omega) (by omega)]
    show forIn l (p + 1, out ++ [(b.getD p 0).toNat].toArray, st) f = _
    rw [dec_loop b h hf l (p + 1) _ st (by simp; omega) (by omega), e]
    simp
theorem dec_run (id : String) (b : Array UInt8) (h : b.size ≤ sizeLine) : _codecs.runDecoder id _codecs.latin1Decoder none true b 0 [] = pure ((b.toList.map (·.toNat)).toArray, b.size) := by
  unfold _codecs.runDecoder
  simp only [Std.Legacy.Range.forIn_eq_forIn_range', Std.Legacy.Range.size]
  rw [dec_loop b h ?_ _ 0 #[] _ rfl (by simp)]
  · show (pure (_, _) : Sem (Array Nat × Nat)) = pure _
    simp
  · intro x p out st hp ho
    rw [if_neg (Nat.not_lt.mpr ho), if_neg (Nat.not_le.mpr hp)]
    rfl
/-- octets as signs -/
def latin (b : Array UInt8) : Str := ⟨(b.toList.map (·.toNat)).toArray⟩
theorem meets_text1 {b : Array UInt8} {t t1 t2 : Tok} {d : PySem.Str} : Meets («_codecs.decode.text» ⟨[.bytes b t, .str (PySem.Str.ofString "latin-1") t1, .none, .str d t2], []⟩) (fun _ R s => b.size ≤ sizeLine ∧ R (.ok (.ret (.str (latin b) s.toks))) { s with toks := s.toks + 1 }) := by
  refine .of_wp fun prog w A R s hS => ?_
  obtain ⟨hsz, h⟩ := hS
  show wpAny _ _ (Bytes.bytesLike _ (.bytes b t) >>= fun r => _) _ _ s
  refine wpAny_bind (wpAny_of_eq KBd.like_eq ?_)
  refine wpAny_bind (wpAny_of_eq KBd.held_eq ?_)
  show wpAny _ _ (_codecs.decodeRoad _ b (PySem.Str.ofString "latin-1") none [] >>= fun v => _) _ _ s
  rw [dec_road, dec_run _ b hsz]
  refine wpAny_bind (wpAny_bind (wpAny_pure ?_))
  exact wpAny_mkStr (wpAny_pure ⟨_, rfl, h⟩) (by simpa [Str.length] using hsz)
theorem meets_dec1 {b : Array UInt8} {t u : Tok} : Meets («bytes.decode» ⟨[.bytes b t, .str (PySem.Str.ofString "latin-1") u], []⟩) (fun _ R s => b.size ≤ sizeLine ∧ ∀ t' k, R (.ok (.ret (.str (latin b) t'))) { s with toks := k }) := by
  refine .of_wp fun prog w A R s hS => ?_
  obtain ⟨hsz, h⟩ := hS
  obtain ⟨l⟩ := b
  cases l with
  | nil =>
    rw [show (Array.mk ([] : List UInt8)) = #[] from rfl, dec_entry0]
    refine wpAny_bind (wpAny_rule ?_)
    exact wpAny_bind (wpAny_mkStr (wpAny_pure ⟨_, rfl, h _ _⟩) (by decide))
  | cons c cs =>
    rw [show (Array.mk (c :: cs)) = (c :: cs).toArray from rfl, dec_entry]
    refine wpAny_bind (wpAny_mkStr ?_ (by decide))
    refine wpAny_bind (wpAny_mkStr ?_ (by decide))
    refine wpAny_bind (wpAny_mkStr ?_ (by decide))
    exact wpAny_bind (call_function_meets KBd.kind_text KBd.plain_text KBd.entry_text (KBd.args_text _ _ _ _) meets_text1 ⟨hsz, wpAny_pure ⟨_, rfl, h _ _⟩⟩)
section
variable {prog : Program} {w : World} {A : Around} {E : Value → Shared → Prop} {s : Shared} {b : Array UInt8} {t u : Tok}
theorem decode1 {Q : Value → Shared → Prop} (hsz : b.size ≤ 100000) (n : Nat) (hn : n ≤ s.toks) (h : ∀ t' k, n ≤ k → Q (.str (latin b) t') { s with toks := k }) :
    wpAny (model prog w) A (call (.builtin "bytes.decode") [.bytes b t, .str (PySem.Str.ofString "latin-1") u]) Q E s :=
  wpAny_toks n hn (call_meets FB.slot_bytes_decode (typeIs_bytes _ _ _) FB.entry_bytes_decode (args_dec2 _ _) meets_dec1 ⟨by rw [sizeLine_eq]; omega, fun t' k h1 => h t' k h1⟩)
end
end Mine
end
section
open PySem PySem.W PyProof.Rows PySem.Spec PySem.Calls
namespace Mine
theorem allLt_all {d : Addr} {l : List (Addr × Obj)} (h : AllLt d l) : ∀ p ∈ l, @LT.lt Nat _ p.1 d := by
  induction l with
  | nil => intro p hp; exact absurd hp List.not_mem_nil
  | cons q r ih =>
    intro p hp
    rcases List.mem_cons.mp hp with rfl | hp
    · exact h.1
    · exact ih h.2 p hp
section
variable {prog : Program} {w : World} {A : Around} {h₀ : Heap} {L : Addr} {m : Str → Option Value} {news : List (Addr × Obj)} {s : Shared} {E : Value → Shared → Prop}

theorem replace_tk {Q : Value → Shared → Prop} {x y z : Str} {t u v : Tok} (n : Nat) (hn : n ≤ s.toks) (hu : @LT.lt Nat _ 0 u) (huv : @LT.lt Nat _ u v) (hyz : (y == z) = false) (hx : x.length ≤ 1048576) (hz : z.length ≤ 14) (hy : y.cps.toList ≠ []) (hz5 : z.cps.toList.length ≤ 5)
    (hq : ∀ t' k, n ≤ k → (Txt.replace x y z).length ≤ 5 * x.length → Q (.str (Txt.replace x y z) t') { s with toks := k }) : wpAny (model prog w) A (call (.builtin "str.replace") [.str x t, .str y u, .str z v]) Q E s :=
  wpAny_toks n hn (SC.replaceW (Nat.ne_of_gt hu) (Nat.ne_of_gt (Nat.lt_trans hu huv)) (Nat.ne_of_lt huv) hyz hx hz fun t' k h => hq t' k h (replace_length hy hz5 (by decide)))

theorem truthy_emptyK {K : Frag} {d : Addr} {n : Nat} {Q : Bool → Shared → Prop} (F : Fr h₀ L s.heap m) (X₀ : K.In h₀) (hl : K.lookup d = some ⟨.type "dict", none, .dict #[] n, #[]⟩) (lo : (d == sysModules) = false)
    (h : Q false { s with toks := s.toks + 1 + 1 }) : wpAny (model prog w) A (truthy (.ref d)) Q E s :=
  have hm : s.heap.DictOf (strKind prog w) d [] := ⟨_, #[], n, (X₀.keeps F.keep) _ _ hl, ⟨rfl, rfl, rfl⟩, rfl, (fun _ h => nomatch h), .nil, .nil⟩
  wpAny_truthy_dict lo hm (by decide) h
end
/-- k octets from pos on -/
def cut (b : Array UInt8) (pos k : Nat) : Array UInt8 := ((b.toList.drop pos).take k).toArray
theorem cut_size (b : Array UInt8) (pos k : Nat) : (cut b pos k).size = min k (b.size - pos) := by
  simp [cut]
/-- what a call of the stream's own function does: the contract of the nested def -/
def TakeOk (prog : Program) (w : World) (K : Frag) (p : Program) (loose : List Str) (mean : ExcName → Option Value) (mg mb : Str → Option Value) (b : Array UInt8) (f c pl c2 c1 : Addr) (fd : FuncData) (oc o2 o1 : Obj) : Prop :=
  ∀ (A : Around) (env : Env) (outer : List Env) (A₀ : Around) (base h₀ : Heap) (L : Addr) (m : Str → Option Value) (rest : List (Addr × Obj)) (s : Shared) (Q E : Value → Shared → Prop)
    (pos : Nat) (pt : Tok) (n : Nat) (k : Nat) (tn : Tok),
    Below A₀ base outer h₀ → Fr h₀ L s.heap m → K.In h₀ → Top p loose mean mg mb h₀ → A.frames = some (env :: outer) → env.frame = some L → env.scope.kind = .function →
    News h₀ L s.heap ((f, ⟨.type "function", none, .func fd, #[]⟩) :: (c, oc) :: (pl, listOf #[.int pos pt] n) :: (c2, o2) :: (c1, o1) :: rest) → (∀ q ∈ rest, @Ne Nat q.1 pl) →
    b.size ≤ 100000 → pos ≤ b.size → k ≤ 100000 → A.depth + 1 < recursionLimit → A.units + 20 < cLine →
    (∀ t h' tk pt', Fr h₀ L h' m → News h₀ L h' ((f, ⟨.type "function", none, .func fd, #[]⟩) :: (c, oc) :: (pl, listOf #[.int ((pos + (cut b pos k).size : Nat) : Int) pt'] n) :: (c2, o2) :: (c1, o1) :: rest) →
      Q (.bytes (cut b pos k) t) { s with heap := h', toks := tk }) →
    wpAny (model prog w) A (call (.ref f) [.int k tn]) Q E s

theorem cut_end (b : Array UInt8) (k : Nat) : cut b b.size k = #[] := by
  have h : (cut b b.size k).size = 0 := by rw [cut_size]; omega
  exact Array.eq_empty_of_size_eq_zero h
theorem news_int {h₀ h : Heap} {L pl : Addr} {t : Tok} {n : Nat} {z z' : Int} {pre post : List (Addr × Obj)} (e : z = z') (N : News h₀ L h (pre ++ (pl, listOf #[.int z t] n) :: post)) : News h₀ L h (pre ++ (pl, listOf #[.int z' t] n) :: post) := e ▸ N
theorem picked_cut (b : Array UInt8) (pos k : Nat) (hpos : pos ≤ b.size) : KBy.picked b (some ([(pos : Int)].getD (Int.toNat 0) 0)) (some ([(pos : Int)].getD (Int.toNat 0) 0 + (k : Int))) = cut b pos k := by
  have e0 : [(pos : Int)].getD (Int.toNat 0) 0 = (pos : Int) := rfl
  have e1 : (pos : Int) + (k : Int) = ((pos + k : Nat) : Int) := by omega
  rw [e0, e1, KBc.picked_eq]
  simp only [Option.elim, clipAt_nat, cut]
  congr 1
  have hl : b.toList.length = b.size := by simp
  rw [Nat.min_eq_left hpos]
  apply List.ext_getElem?
  intro i
  simp only [List.getElem?_take, List.getElem?_drop]
  by_cases h1 : i < k
  · rw [if_pos h1]
    by_cases h2 : i < min (pos + k) b.size - pos
    · rw [if_pos h2]
    · rw [if_neg h2, List.getElem?_eq_none (by omega)]
  · rw [if_neg h1, if_neg (by omega)]
theorem cut_one (b : Array UInt8) (pos : Nat) (h : pos < b.size) : KBw.bInts (cut b pos 1) = [((b.toList.getD pos 0).toNat : Int)] := by
  have hl : b.toList.length = b.size := by simp
  have e : b.toList.drop pos = b.toList.getD pos 0 :: b.toList.drop (pos + 1) := by
    rw [List.drop_eq_getElem_cons (by omega)]
    congr 1
    simp [List.getD_eq_getElem?_getD, h]
  unfold KBw.bInts cut
  rw [e]
  simp
/-- what escape and unescape reckon -/
def escS (x : Str) : Str := Txt.replace (Txt.replace (Txt.replace x (Str.ofString "&") (Str.ofString "&amp;")) (Str.ofString ">") (Str.ofString "&gt;")) (Str.ofString "<") (Str.ofString "&lt;")
def uneS (x : Str) : Str := Txt.replace (Txt.replace (Txt.replace x (Str.ofString "&lt;") (Str.ofString "<")) (Str.ofString "&gt;") (Str.ofString ">")) (Str.ofString "&amp;") (Str.ofString "&")
end Mine
end
section
open PySem PySem.W PyProof.Rows PySem.Spec PySem.Calls
namespace Mine
/-- a text out of the list of its signs -/
def S (l : List Nat) : Str := ⟨l.toArray⟩
theorem S_list (l : List Nat) : (S l).cps.toList = l := by simp [S]
theorem S_self (x : Str) : S x.cps.toList = x := by simp [S]
theorem S_len (l : List Nat) : (S l).length = l.length := by simp [S, Str.length]
theorem one_len (n : Nat) : (⟨#[n]⟩ : Str).length = 1 := rfl
theorem S_app (a b : List Nat) : S a ++ S b = S (a ++ b) := by
  rw [← S_self (S a ++ S b)]
  congr 1
  rw [Str.cps_append, Array.toList_append, S_list, S_list]
/-- _law_reference -/
def refL (n : Nat) : List Nat := if n = 38 then [38, 97, 109, 112, 59] else if n = 60 then [38, 108, 116, 59] else if n = 62 then [38, 103, 116, 59] else [n]
theorem refL_38 {n : Nat} (h : n = 38) : S (refL n) = Str.ofString "&amp;" := by subst h; decide +kernel
theorem refL_60 {n : Nat} (h : n = 60) : S (refL n) = Str.ofString "&lt;" := by subst h; decide +kernel
theorem refL_62 {n : Nat} (h : n = 62) : S (refL n) = Str.ofString "&gt;" := by subst h; decide +kernel
theorem refL_no {n : Nat} (h1 : ¬ n = 38) (h2 : ¬ n = 60) (h3 : ¬ n = 62) : S (refL n) = ⟨#[n]⟩ := by
  unfold refL
  rw [if_neg h1, if_neg h2, if_neg h3]; rfl
theorem q_str {Q : Value → Shared → Prop} {a b : Str} {t : Tok} {s : Shared} (e : a = b) (h : Q (.str a t) s) : Q (.str b t) s := e ▸ h
theorem one_eq {n c : Nat} {y : Str} (h : y = ⟨#[c]⟩) : ((⟨#[n]⟩ : Str) == y) = decide (n = c) := by
  subst h
  by_cases h : n = c
  · subst h; simp
  · rw [decide_eq_false h]
    refine beq_false_of_ne fun e => h ?_
    have := congrArg (fun x : Str => x.cps.toList) e
    simpa using this
end Mine
end
section
open PySem PySem.W PyProof.Rows PySem.Spec PySem.Calls
namespace Mine
/-- where a walk is to stop -/
def StopP (P : Prop) : Prop := P
theorem stopP {P : Prop} (h : StopP P) : P := h
theorem kst_self {m₁ : Str → Option Value} {ps : List (Str × Value)} (h : ∀ q ∈ ps, m₁ q.1 = some q.2) : kstB m₁ ps = m₁ := funext fun z => kstB_eq h fun _ => rfl
section
variable {prog : Program} {w : World} {A : Around} {E : Value → Shared → Prop} {s : Shared} {env : Env} {h₀ : Heap} {x : Str} {body : List Stmt} {Q : Flow → Shared → Prop}

/-- how a turn of a loop ends: the words at the next turn -/
abbrev TurnEnd {σ : Type} (h₀ : Heap) (L : Addr) (Led : Nat → σ → List (Addr × Obj)) (ps : Nat → σ → List (Str × Value)) (P : Nat → σ → Prop) (i : Nat) (own : List (Addr × Obj)) (s : Shared) (Q' : Flow → Shared → Prop) : Prop :=
  ∀ f c' (m' : Str → Option Value) h' tk', (f = .next ∨ f = .cont) → P i c' → (∀ q ∈ ps i c', m' q.1 = some q.2) → (∀ q ∈ own, ∀ b ∈ (Led i c').map (·.1), @Ne Nat q.1 b) →
        Fr h₀ L h' m' → News h₀ L h' (Led i c' ++ own) → Q' f { s with heap := h', toks := tk' }
/-- a for over a list of the ledger, by what holds between the turns: Led the ledger, ps the names, P the word -/
theorem loop_list {σ : Type} {l : Addr} {vs : List Value} {nn : Nat} {m₀ : Str → Option Value} {news : List (Addr × Obj)} (Led : Nat → σ → List (Addr × Obj)) (ps : Nat → σ → List (Str × Value)) (P : Nat → σ → Prop) (c₀ : σ)
    (hh : A.handled = none) (hl : ∀ i c, (l, listOf vs.toArray nn) ∈ Led i c) (F : Fr h₀ env.locals s.heap m₀) (N : News h₀ env.locals s.heap news) (hsub : ∀ p ∈ Led 0 c₀, p ∈ news) (hp : P 0 c₀) (hk : ∀ q ∈ ps 0 c₀, m₀ q.1 = some q.2)
    (turn : ∀ i v c (u : Str → Option Value) h tk own (Q' : Flow → Shared → Prop), vs[i]? = some v → P i c → (∀ q ∈ own, ∀ b ∈ (Led i c).map (·.1), @Ne Nat q.1 b) →
      Fr h₀ env.locals h (fun y => if y = x then some v else kstB u (ps i c) y) → News h₀ env.locals h (Led i c ++ own) →
      TurnEnd h₀ env.locals Led ps P (i + 1) own s Q' →
      (∀ v s', Q (.ret v) s' → Q' (.ret v) s') →
      wpAny (model prog w) A (execs body env) Q' E { s with heap := h, toks := tk })
    (done : ∀ c (u : Str → Option Value) h tk, P vs.length c → Fr h₀ env.locals h (kstB u (ps vs.length c)) → News h₀ env.locals h (Led vs.length c) → Q .next { s with heap := h, toks := tk }) :
    wpAny (model prog w) A (pyIter (.ref l)) (fun it s₂ => LoopAtV prog w A h₀ env x body Q E it s₂) E s := by
  refine kdl_iter (news := Led 0 c₀) (fun i m nx => ∃ c, nx = Led i c ∧ P i c ∧ ∀ q ∈ ps i c, m q.1 = some q.2) hh (hl _ _) F (fun p hp => N p (hsub p hp)) ⟨c₀, rfl, hp, hk⟩ ?_ ?_
  · rintro i v m₁ nx h tk own hv hoff _ ⟨c, rfl, hP, hK⟩ F₁ N₁
    refine turn i v c m₁ h tk own _ hv hP hoff ?_ N₁ ?_ ?_
    · rw [kst_self hK]; exact F₁
    · intro f c' m' h' tk' hf hP' hK' hoff' F' N'
      have e : InvEndG h₀ env.locals (fun m' nx => (l, listOf vs.toArray nn) ∈ nx ∧ ∃ c, nx = Led (i + 1) c ∧ P (i + 1) c ∧ ∀ q ∈ ps (i + 1) c, m' q.1 = some q.2) own { s with heap := h, toks := tk } { s with heap := h', toks := tk' } :=
        ⟨h', tk', m', _, Led (i + 1) c', rfl, F', N', fun p hp => List.mem_append.mpr (.inl hp), fun p hp => List.mem_append.mpr (.inr hp), hoff', hl _ _, c', rfl, hP', hK'⟩
      rcases hf with rfl | rfl
      · exact e
      · exact e
    · intro v s' hq; exact hq
  · rintro m₁ nx h tk ⟨c, rfl, hP, hK⟩ F₁ N₁
    exact done c m₁ h tk hP (by rw [kst_self hK]; exact F₁) N₁
/-- a for over a text -/
theorem loop_text {σ : Type} {xt : Str} {tx : Tok} {m₀ : Str → Option Value} {news : List (Addr × Obj)} (Led : Nat → σ → List (Addr × Obj)) (ps : Nat → σ → List (Str × Value)) (P : Nat → σ → Prop) (c₀ : σ) (adr : List Addr)
    (hh : A.handled = none) (hadr : ∀ i c, (Led i c).map (·.1) = adr) (F : Fr h₀ env.locals s.heap m₀) (N : News h₀ env.locals s.heap news) (hsub : ∀ p ∈ Led 0 c₀, p ∈ news) (hp : P 0 c₀) (hk : ∀ q ∈ ps 0 c₀, m₀ q.1 = some q.2)
    (turn : ∀ i n t c (u : Str → Option Value) h tk own (Q' : Flow → Shared → Prop), xt.cps.toList[i]? = some n → P i c → (∀ q ∈ own, ∀ b ∈ (Led i c).map (·.1), @Ne Nat q.1 b) →
      Fr h₀ env.locals h (fun y => if y = x then some (.str ⟨#[n]⟩ t) else kstB u (ps i c) y) → News h₀ env.locals h (Led i c ++ own) →
      TurnEnd h₀ env.locals Led ps P (i + 1) own s Q' →
      (∀ v s', Q (.ret v) s' → Q' (.ret v) s') →
      wpAny (model prog w) A (execs body env) Q' E { s with heap := h, toks := tk })
    (done : ∀ c (u : Str → Option Value) h tk, P xt.cps.toList.length c → Fr h₀ env.locals h (kstB u (ps xt.cps.toList.length c)) → News h₀ env.locals h (Led xt.cps.toList.length c) → Q .next { s with heap := h, toks := tk }) :
    wpAny (model prog w) A (pyIter (.str xt tx)) (fun it s₂ => LoopAtV prog w A h₀ env x body Q E it s₂) E s := by
  refine wpAny_pyIter_str fun o St hW hst => ?_
  have W := hW A hh
  have N₀ : News h₀ env.locals s.heap (Led 0 c₀) := fun p hp => N p (hsub p hp)
  refine loop_invN (fun i m nx => ∃ c, nx = Led i c ∧ P i c ∧ ∀ q ∈ ps i c, m q.1 = some q.2) W ?_ ?_ ?_ ?_ hst (F.push _) (fun p hp => ⟨Heap.get?_push_of_some _ (N₀ p hp).1, (N₀ p hp).2⟩) ⟨c₀, rfl, hp, hk⟩ ?_ ?_
  · intro hm
    exact absurd F.ns.lt ((List.mem_singleton.mp hm) ▸ Nat.lt_irrefl _)
  · intro b' hb
    rw [List.mem_singleton.mp hb]
    exact next_is_new F
  · intro p hp hI
    exact absurd (Heap.lt_size (N₀ p hp).1) ((List.mem_singleton.mp hI) ▸ Nat.lt_irrefl _)
  · intro p hp hI
    exact absurd (Heap.lt_size (N₀ p hp).1) ((List.mem_singleton.mp hI) ▸ Nat.lt_irrefl _)
  · rintro i v m₁ nx h tk own hi ⟨n, u, hn, rfl⟩ _ hoff ⟨c, rfl, hP, hK⟩ F₁ N₁
    rw [hadr 0 c₀] at hoff ⊢
    refine turn i n u c m₁ h tk own _ (by simpa using hn) hP ?_ ?_ N₁ ?_ ?_
    · rw [hadr i c]; exact hoff
    · rw [kst_self hK]; exact F₁
    · intro f c' m' h' tk' hf hP' hK' hoff' F' N'
      have e : InvEndN h₀ env.locals (fun m nx => ∃ c, nx = Led (i + 1) c ∧ P (i + 1) c ∧ ∀ q ∈ ps (i + 1) c, m q.1 = some q.2) own adr { s with heap := h, toks := tk } { s with heap := h', toks := tk' } :=
        ⟨h', tk', m', _, Led (i + 1) c', rfl, F', N', fun p hp => List.mem_append.mpr (.inl hp), fun p hp => List.mem_append.mpr (.inr hp), hadr _ _, c', rfl, hP', hK'⟩
      rcases hf with rfl | rfl
      · exact e
      · exact e
    · intro v s' hq; exact hq
  · rintro m₁ nx h tk ⟨c, rfl, hP, hK⟩ F₁ N₁
    have e : xt.cps.toList.length = xt.cps.size := by simp
    refine done c m₁ h tk (by rw [e]; exact hP) (by rw [kst_self (by rw [e]; exact hK)]; exact F₁) (by rw [e]; exact N₁)
end
end Mine
end
section
open PySem PySem.W PyProof.Rows PySem.Spec PySem.Calls
namespace Mine
/-- _law_wholly_come, sign by sign -/
def comeStep (edge : Int) (c : List Nat × Nat) (n : Nat) : List Nat × Nat := (if ((c.2 + (refL n).length : Nat) : Int) ≤ edge then c.1 ++ [n] else c.1, c.2 + (refL n).length)
def comeL (edge : Int) (l : List Nat) : List Nat × Nat := l.foldl (comeStep edge) ([], 0)
theorem comeL_snoc (edge : Int) (l : List Nat) (n : Nat) : comeL edge (l ++ [n]) = comeStep edge (comeL edge l) n := by simp [comeL]
theorem refL_len_le (n : Nat) : (refL n).length ≤ 5 := by unfold refL; split <;> (try split) <;> (try split) <;> simp
theorem refL_len_pos (n : Nat) : 0 < (refL n).length := by unfold refL; split <;> (try split) <;> (try split) <;> simp
theorem comeL_bound (edge : Int) : ∀ l : List Nat, ∀ c : List Nat × Nat, (l.foldl (comeStep edge) c).1.length ≤ c.1.length + l.length ∧ (l.foldl (comeStep edge) c).2 ≤ c.2 + 5 * l.length
  | [], c => by simp
  | n :: r, c => by
    have ih := comeL_bound edge r (comeStep edge c n)
    have h1 : (comeStep edge c n).1.length ≤ c.1.length + 1 := by unfold comeStep; dsimp only; split <;> simp
    have h2 : (comeStep edge c n).2 ≤ c.2 + 5 := by have := refL_len_le n; unfold comeStep; dsimp only; omega
    simp only [List.foldl_cons, List.length_cons]
    omega
theorem comeL_le (edge : Int) (l : List Nat) : (comeL edge l).1.length ≤ l.length ∧ (comeL edge l).2 ≤ 5 * l.length := by
  have := comeL_bound edge l ([], 0)
  simpa [comeL] using this
theorem take_snoc {l : List Nat} {i n : Nat} (h : l[i]? = some n) : l.take (i + 1) = l.take i ++ [n] := by
  rw [List.take_add_one, h]; rfl
theorem S_snoc (l : List Nat) (n : Nat) : S l ++ ⟨#[n]⟩ = S (l ++ [n]) := S_app l [n]
theorem S_nil : S [] = Str.ofString "" := by decide +kernel
end Mine
end
section
open PySem PySem.W PyProof.Rows PySem.Spec PySem.Calls
namespace Mine
/-- _law_torn_as_written, sign by sign -/
def cutsIn (es : List Int) (a b : Int) : Bool := es.any fun e => decide (a < e) && decide (e < b)
def tornStep (es : List Int) (c : List Nat × Nat) (n : Nat) : List Nat × Nat := (c.1 ++ (if cutsIn es (c.2 : Int) ((c.2 + (refL n).length : Nat) : Int) = true then refL n else [n]), c.2 + (refL n).length)
def tornL (es : List Int) (l : List Nat) : List Nat × Nat := l.foldl (tornStep es) ([], 0)
theorem tornL_snoc (es : List Int) (l : List Nat) (n : Nat) : tornL es (l ++ [n]) = tornStep es (tornL es l) n := by simp [tornL]
theorem tornL_bound (es : List Int) : ∀ l : List Nat, ∀ c : List Nat × Nat, (l.foldl (tornStep es) c).1.length ≤ c.1.length + 5 * l.length ∧ (l.foldl (tornStep es) c).2 ≤ c.2 + 5 * l.length
  | [], c => by simp
  | n :: r, c => by
    have ih := tornL_bound es r (tornStep es c n)
    have h0 := refL_len_le n
    have h1 : (tornStep es c n).1.length ≤ c.1.length + 5 := by
      unfold tornStep; dsimp only; rw [List.length_append]; split
      · omega
      · simp
    have h2 : (tornStep es c n).2 ≤ c.2 + 5 := by unfold tornStep; dsimp only; omega
    simp only [List.foldl_cons, List.length_cons]
    omega
theorem tornL_le (es : List Int) (l : List Nat) : (tornL es l).1.length ≤ 5 * l.length ∧ (tornL es l).2 ≤ 5 * l.length := by
  have := tornL_bound es l ([], 0)
  simpa [tornL] using this
theorem ne_tail {rest own : List (Addr × Obj)} {a : Nat} {adr : List Addr} (h1 : ∀ p ∈ rest, @Ne Nat p.1 a) (h2 : ∀ q ∈ own, ∀ b ∈ adr, @Ne Nat q.1 b) (hm : a ∈ adr) : ∀ p ∈ rest ++ own, p.1 ≠ a := fun p hp =>
  (List.mem_append.mp hp).elim (h1 p) fun h => h2 p h a hm
theorem fold_filter (p : Int → Bool) (es : List Int) : ∀ l : List Int, es.foldl (fun l k => if p k = true then l ++ [k] else l) l = l ++ es.filter p := by
  induction es with
  | nil => intro l; simp
  | cons k r ih =>
    intro l
    simp only [List.foldl_cons, List.filter_cons]
    rw [ih]
    split <;> simp
theorem torn_cond (es : List Int) (a b : Int) : decide (es.foldl (fun l k => if a < k ∧ k < b then l ++ [k] else l) [] = []) = !cutsIn es a b := by
  have e : (fun (l : List Int) k => if a < k ∧ k < b then l ++ [k] else l) = fun l k => if (decide (a < k) && decide (k < b)) = true then l ++ [k] else l := by
    funext l k
    simp only [Bool.and_eq_true, decide_eq_true_eq]
  rw [e, fold_filter, List.nil_append]
  unfold cutsIn
  rw [Bool.eq_iff_iff]
  simp only [decide_eq_true_eq, List.filter_eq_nil_iff, Bool.not_eq_true', List.any_eq_false, Bool.not_eq_true]
end Mine
end
section
open PySem PySem.W PyProof.Rows PySem.Spec PySem.Calls
namespace Mine
theorem slice_text (x : Str) (l u : Option Int) : Txt.slice x l u = StrLaws.sliceText x l u := rfl
theorem slice_hi (l : List Nat) (a : Option Int) (b : Int) (hb : (l.length : Int) ≤ b) : Txt.slice (S l) a (some b) = Txt.slice (S l) a (some (l.length : Int)) := by
  have e : Builtin.Str.strSliceIndices a (some b) 1 (S l).length = Builtin.Str.strSliceIndices a (some (l.length : Int)) 1 (S l).length := by
    rw [S_len]
    unfold Builtin.Str.strSliceIndices
    have h1 : ¬ b < 0 := by omega
    have h2 : ¬ (l.length : Int) < 0 := by omega
    have h3 : max 0 (min b (l.length : Int)) = max 0 (min (l.length : Int) (l.length : Int)) := by omega
    simp only [h1, h2, if_false, h3, show (1 : Int) > 0 from by decide, if_true]
  unfold Txt.slice
  rw [e]
theorem slice_ss (l : List Nat) (a k : Nat) (ha : a ≤ l.length) : Txt.slice (S l) (some (a : Int)) (some ((a : Int) + (k : Int))) = S ((l.drop a).take k) := by
  by_cases h : a + k ≤ l.length
  · rw [slice_text, ← Int.natCast_add, StrLaws.sliceText_nat (S l) (Nat.le_add_right a k) (by rw [S_len]; exact h)]
    show S _ = S _
    rw [S_list, Nat.add_sub_cancel_left]
  · rw [slice_hi l _ _ (by omega), slice_text, StrLaws.sliceText_nat (S l) ha (by rw [S_len]; exact Nat.le_refl _)]
    show S _ = S _
    rw [S_list, List.take_of_length_le (by rw [List.length_drop]; omega), List.take_of_length_le (by rw [List.length_drop]; omega)]
theorem slice_sn (l : List Nat) (a : Nat) (ha : a ≤ l.length) : Txt.slice (S l) (some (a : Int)) none = S (l.drop a) := by
  rw [slice_text, StrLaws.sliceText_from ⟨by omega, by rw [S_list]; omega⟩]
  show S _ = S _
  rw [S_list, Int.toNat_natCast, List.take_of_length_le (by rw [List.length_drop]; omega)]
theorem slice_ns (l : List Nat) (a : Nat) (ha : a ≤ l.length) : Txt.slice (S l) none (some (a : Int)) = S (l.take a) := by
  rw [slice_text, StrLaws.sliceText_to ⟨by omega, by rw [S_list]; omega⟩]
  show S _ = S _
  rw [S_list, List.drop_zero]
  congr 1
/-- _law_pieces -/
def pcStep (l : List Nat) (c : List (List Nat) × Nat) (k : Int) : List (List Nat) × Nat := (c.1 ++ [(l.drop c.2).take k.toNat], c.2 + ((l.drop c.2).take k.toNat).length)
def pcL (l : List Nat) (ks : List Int) : List (List Nat) × Nat := ks.foldl (pcStep l) ([], 0)
def piecesL (l : List Nat) (ks : List Int) : List (List Nat) := (pcL l ks).1 ++ [l.drop (pcL l ks).2]
theorem pcL_snoc (l : List Nat) (ks : List Int) (k : Int) : pcL l (ks ++ [k]) = pcStep l (pcL l ks) k := by simp [pcL]
theorem pc_le (l : List Nat) : ∀ (ks : List Int) (c : List (List Nat) × Nat), c.2 ≤ l.length → (ks.foldl (pcStep l) c).2 ≤ l.length
  | [], _, h => h
  | k :: r, c, h => pc_le l r (pcStep l c k) (by unfold pcStep; dsimp only; rw [List.length_take, List.length_drop]; omega)
theorem pcL_le (l : List Nat) (ks : List Int) : (pcL l ks).2 ≤ l.length := pc_le l ks _ (Nat.zero_le _)
theorem pc_count (l : List Nat) : ∀ (ks : List Int) (c : List (List Nat) × Nat), (ks.foldl (pcStep l) c).1.length = c.1.length + ks.length
  | [], _ => by simp
  | k :: r, c => by simp only [List.foldl_cons]; rw [pc_count l r]; simp [pcStep]; omega
theorem pcL_count (l : List Nat) (ks : List Int) : (pcL l ks).1.length = ks.length := by unfold pcL; rw [pc_count]; simp
theorem take_snocI {l : List Int} {i : Nat} {n : Int} (h : l[i]? = some n) : l.take (i + 1) = l.take i ++ [n] := by
  rw [List.take_add_one, h]; rfl
theorem news_head {h₀ h : Heap} {L a : Addr} {o : Obj} {r : List (Addr × Obj)} (N9 : News h₀ L h ((a, o) :: r)) : ∃ l5 : Addr, l5 = a := ⟨a, rfl⟩
end Mine
end
section
open PySem PySem.W PyProof.Rows PySem.Spec PySem.Calls
namespace Mine
theorem strs_at {vs : List Value} {xs : List Str} (h : StrsAre vs xs) : ∀ {i : Nat} {v : Value}, vs[i]? = some v → ∃ x t, v = .str x t ∧ xs[i]? = some x := by
  induction h with
  | nil => intro i v hv; simp at hv
  | cons x t _ ih =>
    intro i v hv
    cases i with
    | zero => simp at hv; exact ⟨x, t, hv.symm, rfl⟩
    | succ i => exact ih (by simpa using hv)
/-- _law_counted -/
def oneCount (w : List Nat) : List Int := (w.length : Int) :: w.map Int.ofNat
def countL (ws : List (List Nat)) : List Int := ws.flatMap oneCount
theorem countL_snoc (ws : List (List Nat)) (w : List Nat) : countL (ws ++ [w]) = countL ws ++ oneCount w := by simp [countL]
theorem take_snocL {α : Type} {l : List α} {i : Nat} {n : α} (h : l[i]? = some n) : l.take (i + 1) = l.take i ++ [n] := by
  rw [List.take_add_one, h]; rfl
theorem countL_len (ws : List (List Nat)) : (countL ws).length = ws.length + (ws.map List.length).sum := by
  induction ws with
  | nil => rfl
  | cons w r ih => simp only [countL, List.flatMap_cons, List.length_append, List.map_cons, List.sum_cons, List.length_cons] at *; rw [ih]; simp [oneCount]; omega
theorem strs_atS {vs : List Value} {ps : List (List Nat)} (h : StrsAre vs (ps.map S)) {i : Nat} {v : Value} (hv : vs[i]? = some v) : ∃ w t, v = .str (S w) t ∧ ps[i]? = some w := by
  obtain ⟨x, t, e, hx⟩ := strs_at h hv
  rw [List.getElem?_map, Option.map_eq_some_iff] at hx
  obtain ⟨w, hw, rfl⟩ := hx
  exact ⟨w, t, e, hw⟩
theorem countL_le : ∀ (ps : List (List Nat)), (∀ w ∈ ps, w.length ≤ 1000) → (countL ps).length ≤ 1001 * ps.length
  | [], _ => by simp [countL]
  | w :: r, h => by
    have ih := countL_le r fun x hx => h x (List.mem_cons_of_mem _ hx)
    have h1 := h w List.mem_cons_self
    simp only [countL, List.flatMap_cons, List.length_append, List.length_cons, oneCount, List.length_map] at *
    omega
theorem countL_take (ps : List (List Nat)) (h : ∀ w ∈ ps, w.length ≤ 1000) (i : Nat) : (countL (ps.take i)).length ≤ 1001 * ps.length := by
  have h1 := countL_le (ps.take i) fun w hw => h w (List.mem_of_mem_take hw)
  have h2 : (ps.take i).length ≤ ps.length := by rw [List.length_take]; omega
  omega
end Mine
end
section
open PySem PySem.W PyProof.Rows PySem.Spec PySem.Calls
namespace Mine
/-- item by item -/
def AllY {α : Type} (Y : α → Value → Prop) : List α → List Value → Prop
  | [], [] => True
  | a :: r, y :: q => Y a y ∧ AllY Y r q
  | _, _ => False
theorem AllY.snoc {α : Type} {Y : α → Value → Prop} : ∀ {l : List α} {ys : List Value} {a : α} {y : Value}, AllY Y l ys → Y a y → AllY Y (l ++ [a]) (ys ++ [y])
  | [], [], _, _, _, h => ⟨h, trivial⟩
  | _ :: _, _ :: _, _, _, ⟨h1, h2⟩, h => ⟨h1, AllY.snoc h2 h⟩
theorem AllY.ints {α : Type} {g : α → Int} : ∀ {l : List α} {ys : List Value}, AllY (fun a y => ∃ t, y = .int (g a) t) l ys → IntsAre ys (l.map g)
  | [], [], _ => .nil
  | _ :: _, _ :: _, ⟨⟨t, h1⟩, h2⟩ => h1 ▸ .cons _ t (AllY.ints h2)
theorem AllY.strs {α : Type} {g : α → Str} : ∀ {l : List α} {ys : List Value}, AllY (fun a y => ∃ t, y = .str (g a) t) l ys → StrsAre ys (l.map g)
  | [], [], _ => .nil
  | _ :: _, _ :: _, ⟨⟨t, h1⟩, h2⟩ => h1 ▸ .cons _ t (AllY.strs h2)
/-- the end of one element -/
def ElEnd {α : Type} (Y : α → Value → Prop) (a : α) (news : List (Addr × Obj)) (y : Value) (news' : List (Addr × Obj)) : Prop := news' = news ∧ Y a y
section
variable {prog : Program} {w : World} {A : Around} {E : Value → Shared → Prop} {s : Shared} {h₀ : Heap} {L : Addr} {m : Str → Option Value} {env : Env}
theorem comp_rest {α : Type} {elt : Expr} {x : Str} {scope : Scope} {cl : List (Str × Addr)} {S : List (Addr × Obj) → Prop} {P : Nat → Value → Prop} {Fin : List Value → List (Addr × Obj) → Prop} {news : List (Addr × Obj)} {n : Nat} (l : List α) (V Y : α → Value → Prop) (hl : l.length = n)
    (hP : ∀ i v, i < n → P i v → ∃ a, l[i]? = some a ∧ V a v)
    (turn : ∀ a v I oI C oC D m₂ ys h tk (E' : Value → Shared → Prop), a ∈ l → V a v → LCg.NsObj oC m₂ → m₂ x = some v → Fr h₀ L h m → News h₀ L h ((I, oI) :: (C, oC) :: (D, LCg.lst ys) :: news) → LCg.Off3 I C D news → ((@Ne Nat I C) ∧ (@Ne Nat I D) ∧ (@Ne Nat C D)) →
      wpAny (model prog w) A (eval elt (compEnvC scope cl C env)) (LCg.CompEnd h₀ L m { s with heap := h, toks := tk } I oI C oC D (LCg.lst ys) S (fun y news' => ElEnd Y a news y news')) E' { s with heap := h, toks := tk })
    (fin : ∀ ys, AllY Y l ys → Fin ys news) : LCg.CompRest prog w A h₀ L m env elt x scope cl s S P Fin n 0 [] news := by
  have key : ∀ (j i : Nat) (ys : List Value), i + j = n → AllY Y (l.take i) ys → LCg.CompRest prog w A h₀ L m env elt x scope cl s S P Fin j i ys news := by
    intro j
    induction j with
    | zero =>
      intro i ys hi hy
      have e : i = l.length := by omega
      subst e
      rw [List.take_length] at hy
      exact LCg.CompRest.zero (fin ys hy)
    | succ j ih =>
      intro i ys hi hy
      refine LCg.CompRest.succ ?_
      intro v I oI C oC D m₂ h tk E' hv hC hx F N off ne
      obtain ⟨a, ha, hV⟩ := hP i v (by omega) hv
      refine wpAny_mono (turn a v I oI C oC D m₂ ys h tk E' (List.mem_of_getElem? ha) hV hC hx F N off ne) (fun y s₂ hq => ?_) fun _ _ e => e
      obtain ⟨h', tk', nw, e, F', N', off', hS, hn, hY⟩ := hq
      rw [hn] at N' off' hS
      refine ⟨h', tk', news, e, F', N', off', hS, ?_⟩
      refine ih (i + 1) _ (by omega) ?_
      rw [take_snocL ha]
      exact hy.snoc hY
  exact key n 0 [] (by omega) (by simp only [List.take_zero]; exact trivial)
/-- the source of a comprehension is a text -/
def SrcS (prog : Program) (w : World) (A : Around) (h₀ : Heap) (L : Addr) (m : Str → Option Value) (env : Env) (elt : Expr) (x : Str) (scope : Scope) (cl : List (Str × Addr)) (Fin : Shared → List Value → List (Addr × Obj) → Prop) (xv : Value) (s₁ : Shared) : Prop :=
  ∃ xt t news, xv = .str xt t ∧ A.handled = none ∧ Fr h₀ L s₁.heap m ∧ News h₀ L s₁.heap news ∧ xt.cps.size ≤ sizeLine ∧
    ∀ s₂ : Shared, (∃ h, s₂ = { s₁ with heap := h }) → LCg.CompRest prog w A h₀ L m env elt x scope cl s₂ (fun _ => True) (SignAt xt) (Fin s₂) xt.cps.size 0 [] news
theorem SrcS.intro {elt : Expr} {x : Str} {scope : Scope} {cl : List (Str × Addr)} {Fin : Shared → List Value → List (Addr × Obj) → Prop} {xt : Str} {t : Tok} {news : List (Addr × Obj)} {s₁ : Shared}
    (hh : A.handled = none) (F : Fr h₀ L s₁.heap m) (N : News h₀ L s₁.heap news) (hsz : xt.cps.size ≤ sizeLine)
    (h : ∀ g, LCg.CompRest prog w A h₀ L m env elt x scope cl { s₁ with heap := g } (fun _ => True) (SignAt xt) (Fin { s₁ with heap := g }) xt.cps.size 0 [] news) :
    SrcS prog w A h₀ L m env elt x scope cl Fin (.str xt t) s₁ := ⟨xt, t, news, rfl, hh, F, N, hsz, fun _ ⟨g, e⟩ => e ▸ h g⟩
theorem sign_items {xt : Str} : ∀ i v, i < xt.cps.size → SignAt xt i v → ∃ a, xt.cps.toList[i]? = some a ∧ (∃ t, v = Value.str ⟨#[a]⟩ t) := by
  rintro i v hi ⟨n, u, hn, rfl⟩
  exact ⟨n, by simpa using hn, u, rfl⟩
theorem str_hIo {I : Addr} {c : String} {xt : Str} {t : Tok} : ∀ i h, Heap.IsStrIter h I c xt t i → ∃ o, h.get? I = some o := by
  rintro i h ⟨o, e, _⟩
  exact ⟨o, e⟩
theorem ListComp_S {elt iter : Expr} {x : Str} {px : Pos} {scope : Scope} {cl : List (Str × Addr)} {pos : Pos} {Q : Value → Shared → Prop} (F₀ : Fr h₀ L s.heap m)
    (hclos : closureFor scope env = pure cl) (hcell : ∀ y ∈ scope.names, y.2 ≠ .cell) (hkind : scope.kind = .function)
    (hnames : ∀ y ∈ scope.names, y.2 = .local → scope.names.lookup y.1 = some .local) (hx : scope.names.lookup x = some .local)
    (h : wpAny (model prog w) A (eval iter env) (SrcS prog w A h₀ L m env elt x scope cl (fun s₂ => LCg.FinE h₀ L m s₂ Q)) E s)
    (hs : ∀ x, foldedSetIterable iter env x = pure x := by intro _; rfl) :
    wpAny (model prog w) A (eval (.ListComp elt [⟨.Name x px, iter, [], 0⟩] scope pos) env) Q E s := by
  rw [eval_ListComp]
  refine wpAny_comprehension_free (use := none) rfl hs hclos hkind hnames (wpAny_mono h (fun xv s₁ h₁ => ?_) fun _ _ e => e)
  obtain ⟨xt, t, news, rfl, hh, F, N, hsz, R⟩ := h₁
  have fin : ∀ s₂ : Shared, (∃ h, s₂ = { s₁ with heap := h }) → ∀ D C h tk m' ys news', Fr h₀ L h m → News h₀ L h ((D, LCg.lst ys) :: news') → LCg.Off1 D news' → h.Ns C m' → h₀.get? C = none → h₀.get? D = none → C ≠ L → D ≠ L → C ≠ D → (∀ p ∈ news', p.1 ≠ C) → LCg.FinE h₀ L m s₂ Q ys news' →
      ∃ m', h.Ns C m' ∧ ∀ h'', Heap.SameBut C h h'' → Q (.ref D) { s₂ with heap := h'', toks := tk } := by
    intro s₂ _ D C h tk m' ys news' F' N' o1 hn hC₀ hD₀ hCL hDL hCD offC fin
    refine ⟨m', hn, fun h'' hs'' => fin D h'' tk (F'.change hs'' hCL hC₀) (fun p hp => ?_) o1⟩
    refine ⟨hs''.extBut _ _ ?_ (N' p hp).1, (N' p hp).2⟩
    rcases List.mem_cons.mp hp with rfl | hp
    · exact Ne.symm hCD
    · exact offC p hp
  cases ha : xt.cps.all (· < 128)
  · refine wpAny_pyIter_wide ha ?_
    have W := Walks.strWide (prog := prog) (w := w) hh s₁.heap.objs.size xt t
    refine LCg.block_U W hsz str_hIo (fun i h h' o nw st e e' _ _ _ => W.frame i h h' st fun b hb o₂ e₂ => by rw [List.mem_singleton.mp hb] at e₂ ⊢; rw [e] at e₂; cases e₂; exact e') hcell hkind hx ⟨_, Heap.get?_push_size _ rfl, rfl, rfl⟩ (fun b hb => ?_)
      (F.keeps fun _ _ e => Heap.get?_push_of_some _ e) (N.grown fun _ _ e => Heap.get?_push_of_some _ e) (Nat.ne_of_lt F.ns.lt) (next_is_new F) (fun p hp => Nat.ne_of_lt (Heap.lt_size (N p hp).1)) trivial (R _ ⟨_, rfl⟩) (fin _ ⟨_, rfl⟩)
    rw [List.mem_singleton.mp hb]
    show s₁.heap.objs.size < (s₁.heap.push _).objs.size
    rw [Heap.size_push]; exact Nat.lt_succ_self _
  · refine wpAny_pyIter_ascii ha ?_
    have W := Walks.strAscii (prog := prog) (w := w) hh s₁.heap.objs.size xt t
    refine LCg.block_U W hsz str_hIo (fun i h h' o nw st e e' _ _ _ => W.frame i h h' st fun b hb o₂ e₂ => by rw [List.mem_singleton.mp hb] at e₂ ⊢; rw [e] at e₂; cases e₂; exact e') hcell hkind hx ⟨_, Heap.get?_push_size _ rfl, rfl, rfl⟩ (fun b hb => ?_)
      (F.keeps fun _ _ e => Heap.get?_push_of_some _ e) (N.grown fun _ _ e => Heap.get?_push_of_some _ e) (Nat.ne_of_lt F.ns.lt) (next_is_new F) (fun p hp => Nat.ne_of_lt (Heap.lt_size (N p hp).1)) trivial (R _ ⟨_, rfl⟩) (fin _ ⟨_, rfl⟩)
    rw [List.mem_singleton.mp hb]
    show s₁.heap.objs.size < (s₁.heap.push _).objs.size
    rw [Heap.size_push]; exact Nat.lt_succ_self _
end
theorem upd_mid {d : Addr} {o o' : Obj} : ∀ (pre : List (Addr × Obj)) {post : List (Addr × Obj)}, (∀ p ∈ pre, p.1 ≠ d) → (∀ p ∈ post, p.1 ≠ d) → Upd d o o' (pre ++ (d, o) :: post) (pre ++ (d, o') :: post)
  | [], _, _, h => .head h
  | q :: r, _, h1, h2 => .tail (h1 q List.mem_cons_self) (upd_mid r (fun p hp => h1 p (List.mem_cons_of_mem _ hp)) h2)
theorem ext_any {prog : Program} {w : World} {A : Around} {E : Value → Shared → Prop} {s : Shared} {h₀ : Heap} {L D b : Addr} {m : Str → Option Value} {news : List (Addr × Obj)} {its : Array Value} {ys : List Value} {n n2 : Nat} {g : Obj → List (Addr × Obj)} {Q : Value → Shared → Prop}
    (F : Fr h₀ L s.heap m) (N : News h₀ L s.heap news) (hb : (b, listOf ys.toArray n2) ∈ news) (U : UpdF D (listOf its n) news g) (hz : its.size + ys.length ≤ 16000000)
    (h : ∀ h' n', Fr h₀ L h' m → News h₀ L h' (g (listOf (its.toList ++ ys).toArray n')) → Q .none { s with heap := h' }) : wpAny (model prog w) A (call (.builtin "list.extend") [.ref D, .ref b]) Q E s := by
  obtain ⟨pre, post, e1, e2, a, c⟩ := U.split
  have hs : its.size + ys.toArray.size ≤ sizeLine := by have e : ys.toArray.size = ys.length := List.size_toArray; rw [sizeLine_eq, e]; omega
  have hd := PyProof.Rows.extend_door hs
  have hw : its.toList.length ≤ sizeLine := by rw [sizeLine_eq]; simp; omega
  by_cases hy : ys = []
  · subst hy
    subst e1
    refine kxn_extend F N hb (by simp) (upd_mid pre a c) hd hw (Nat.le_succ_of_le hs) fun h' F' N' => h h' n F' ?_
    rw [e2, List.append_nil, Array.toArray_toList]
    exact N'
  · subst e1
    refine kl_extend F N hb (l := its.toList ++ ys) (by simp) (by simpa using hy) (upd_mid pre a c) hd hw (Nat.le_succ_of_le hs) fun h' F' N' => h h' (n + 1) F' ?_
    rw [e2]
    exact N'
end Mine
end
section
open PySem PySem.W PyProof.Rows PySem.Spec PySem.Calls
namespace Mine
/-- escape, unescape on lists of signs -/
def uneL (l : List Nat) : List Nat := rp [38, 97, 109, 112, 59] [38] 0 (rp [38, 103, 116, 59] [62] 0 (rp [38, 108, 116, 59] [60] 0 l))
def escL (l : List Nat) : List Nat := rp [60] [38, 108, 116, 59] 0 (rp [62] [38, 103, 116, 59] 0 (rp [38] [38, 97, 109, 112, 59] 0 l))
theorem S_eq {x : Str} {l : List Nat} (h : x.cps.toList = l) : x = S l := by subst h; rfl
theorem replace_S (l : List Nat) (y z : Str) (hy : y.cps.toList ≠ []) : Txt.replace (S l) y z = S (rp y.cps.toList z.cps.toList 0 l) := S_eq (replace_rp (S l) y z hy)
theorem escS_S (l : List Nat) : escS (S l) = S (escL l) := by
  unfold escS escL
  rw [replace_S _ _ _ (by decide +kernel), replace_S _ _ _ (by decide +kernel), replace_S _ _ _ (by decide +kernel)]
  rw [show (Str.ofString "&").cps.toList = [38] from by decide +kernel, show (Str.ofString "&amp;").cps.toList = [38, 97, 109, 112, 59] from by decide +kernel, show (Str.ofString ">").cps.toList = [62] from by decide +kernel,
    show (Str.ofString "&gt;").cps.toList = [38, 103, 116, 59] from by decide +kernel, show (Str.ofString "<").cps.toList = [60] from by decide +kernel, show (Str.ofString "&lt;").cps.toList = [38, 108, 116, 59] from by decide +kernel]
theorem uneS_S (l : List Nat) : uneS (S l) = S (uneL l) := by
  unfold uneS uneL
  rw [replace_S _ _ _ (by decide +kernel), replace_S _ _ _ (by decide +kernel), replace_S _ _ _ (by decide +kernel)]
  rw [show (Str.ofString "&").cps.toList = [38] from by decide +kernel, show (Str.ofString "&amp;").cps.toList = [38, 97, 109, 112, 59] from by decide +kernel, show (Str.ofString ">").cps.toList = [62] from by decide +kernel,
    show (Str.ofString "&gt;").cps.toList = [38, 103, 116, 59] from by decide +kernel, show (Str.ofString "<").cps.toList = [60] from by decide +kernel, show (Str.ofString "&lt;").cps.toList = [38, 108, 116, 59] from by decide +kernel]
theorem rp_shrink {y z : List Nat} (h : z.length ≤ y.length) (hy : y ≠ []) : ∀ (l : List Nat) (k : Nat), (rp y z k l).length + k ≤ l.length + k ∧ (rp y z k l).length ≤ l.length - k
  | [], _ => by simp [rp]
  | c :: r, k + 1 => by
    have ih := rp_shrink h hy r k
    simp only [rp, List.length_cons]
    omega
  | c :: r, 0 => by
    have hp : 0 < y.length := List.length_pos_iff.mpr hy
    simp only [rp]
    split
    · rename_i hpre
      have hl := (List.isPrefixOf_iff_prefix.mp hpre).length_le
      have ih := rp_shrink h hy r (y.length - 1)
      simp only [List.length_append, List.length_cons] at *
      omega
    · have ih := rp_shrink h hy r 0
      simp only [List.length_cons] at *
      omega
theorem uneL_len (l : List Nat) : (uneL l).length ≤ l.length := by
  unfold uneL
  have h1 := (rp_shrink (y := [38, 108, 116, 59]) (z := [60]) (by decide) (by decide) l 0).1
  have h2 := (rp_shrink (y := [38, 103, 116, 59]) (z := [62]) (by decide) (by decide) (rp [38, 108, 116, 59] [60] 0 l) 0).1
  have h3 := (rp_shrink (y := [38, 97, 109, 112, 59]) (z := [38]) (by decide) (by decide) (rp [38, 103, 116, 59] [62] 0 (rp [38, 108, 116, 59] [60] 0 l)) 0).1
  omega
/-- the places of & -/
def marksL (l : List Nat) : List Int := (rangeKs 0 l.length).foldl (fun m k => if l.getD k.toNat 0 = 38 then m ++ [k] else m) []
def lastMark (l : List Nat) : Nat := ((marksL l).getD ((marksL l).length - 1) 0).toNat
def keepAt (l : List Nat) : Nat := if marksL l ≠ [] ∧ 59 ∉ l.drop (lastMark l) then lastMark l else l.length
def bothStep (c : List Nat × List Nat) (w : List Nat) : List Nat × List Nat := ((c.1 ++ w).drop (keepAt (c.1 ++ w)), c.2 ++ uneL ((c.1 ++ w).take (keepAt (c.1 ++ w))))
def bothL (ws : List (List Nat)) : List Nat × List Nat := ws.foldl bothStep ([], [])
theorem bothL_snoc (ws : List (List Nat)) (w : List Nat) : bothL (ws ++ [w]) = bothStep (bothL ws) w := by simp [bothL]
def aloneL (ws : List (List Nat)) : List Nat := ws.flatMap uneL
theorem aloneL_snoc (ws : List (List Nat)) (w : List Nat) : aloneL (ws ++ [w]) = aloneL ws ++ uneL w := by simp [aloneL]
def edStep (c : List Int × Nat) (w : List Nat) : List Int × Nat := (c.1 ++ [((c.2 + w.length : Nat) : Int)], c.2 + w.length)
def edL (ws : List (List Nat)) : List Int × Nat := ws.foldl edStep ([0], 0)
theorem edL_snoc (ws : List (List Nat)) (w : List Nat) : edL (ws ++ [w]) = edStep (edL ws) w := by simp [edL]
theorem edL_sum (ws : List (List Nat)) : (edL ws).2 = ws.flatten.length := by
  have h : ∀ (ws : List (List Nat)) (c : List Int × Nat), (ws.foldl edStep c).2 = c.2 + ws.flatten.length := by
    intro ws
    induction ws with
    | nil => intro c; simp
    | cons w r ih => intro c; simp only [List.foldl_cons]; rw [ih]; simp [edStep]; omega
  unfold edL; rw [h]; simp
theorem edL_len (ws : List (List Nat)) : (edL ws).1.length = ws.length + 1 := by
  have h : ∀ (ws : List (List Nat)) (c : List Int × Nat), (ws.foldl edStep c).1.length = c.1.length + ws.length := by
    intro ws
    induction ws with
    | nil => intro c; simp
    | cons w r ih => intro c; simp only [List.foldl_cons]; rw [ih]; simp [edStep]; omega
  unfold edL; rw [h]; simp; omega
theorem edL_last (ws : List (List Nat)) : (edL ws).1.getD ((edL ws).1.length - 1) 0 = ((edL ws).2 : Int) := by
  rcases List.eq_nil_or_concat ws with rfl | ⟨r, w, rfl⟩
  · rfl
  · rw [List.concat_eq_append, edL_snoc]
    simp [edStep]
theorem edL_le (ws : List (List Nat)) (N : Nat) (h : ws.flatten.length ≤ N) : (edL ws).2 ≤ N := by rw [edL_sum]; exact h
/-- where a counted piece stands in the octets -/
theorem octets_at {b : Array UInt8} {ps : List (List Nat)} {tail : List Int} {i : Nat} {w : List Nat} (hb : KBw.bInts b = countL ps ++ tail) (hw : ps[i]? = some w) :
    (countL (ps.take i)).length + 1 + w.length ≤ b.size ∧ (b.toList.getD (countL (ps.take i)).length 0).toNat = w.length ∧ latin (cut b ((countL (ps.take i)).length + 1) w.length) = S w := by
  have hsplit : ps = ps.take i ++ w :: ps.drop (i + 1) := by
    have h9 := List.take_append_drop (i + 1) ps
    rw [take_snocL hw, List.append_assoc] at h9
    exact h9.symm
  have hc : KBw.bInts b = countL (ps.take i) ++ ((w.length : Int) :: (w.map Int.ofNat ++ (countL (ps.drop (i + 1)) ++ tail))) := by
    rw [hb]
    conv => lhs; rw [hsplit]
    simp [countL, oneCount]
  generalize hp : countL (ps.take i) = pre at hc
  have hbl : b.toList.map (fun c => (c.toNat : Int)) = pre ++ ((w.length : Int) :: (w.map Int.ofNat ++ (countL (ps.drop (i + 1)) ++ tail))) := hc
  have hlen := congrArg List.length hbl
  simp only [List.length_map, Array.length_toList, List.length_append, List.length_cons] at hlen
  have hd : (b.toList.map (fun c => (c.toNat : Int))).drop pre.length = ((w.length : Int) :: (w.map Int.ofNat ++ (countL (ps.drop (i + 1)) ++ tail))) := by rw [hbl, List.drop_left]
  have hd1 : (b.toList.map (fun c => (c.toNat : Int))).drop (pre.length + 1) = w.map Int.ofNat ++ (countL (ps.drop (i + 1)) ++ tail) := by
    rw [← List.drop_drop, hd]; rfl
  refine ⟨by omega, ?_, ?_⟩
  · have h1 := congrArg (fun l : List Int => l[0]?) hd
    simp only [List.getElem?_drop, Nat.add_zero, List.getElem?_map, List.getElem?_cons_zero] at h1
    rw [Option.map_eq_some_iff] at h1
    obtain ⟨c, hc1, hc2⟩ := h1
    rw [List.getD_eq_getElem?_getD, hc1]
    show c.toNat = w.length
    omega
  · have h1 : ((b.toList.drop (pre.length + 1)).take w.length).map (fun c => (c.toNat : Int)) = w.map Int.ofNat := by
      rw [List.map_take, List.map_drop, hd1, List.take_append_of_le_length (by simp), List.take_of_length_le (by simp)]
    have h2 : ((b.toList.drop (pre.length + 1)).take w.length).map (fun c => c.toNat) = w := by
      have h3 := congrArg (List.map Int.toNat) h1
      simpa [List.map_map, Function.comp_def] using h3
    unfold latin cut
    show S _ = S _
    rw [List.toList_toArray, h2]
end Mine
end
section
open PySem PySem.W PyProof.Rows PySem.Spec PySem.Calls
namespace Mine
theorem aloneL_len (ws : List (List Nat)) : (aloneL ws).length ≤ ws.flatten.length := by
  induction ws with
  | nil => simp [aloneL]
  | cons w r ih =>
    have h1 := uneL_len w
    simp only [aloneL, List.flatMap_cons, List.length_append, List.flatten_cons] at *
    omega
theorem bothL_len' : ∀ (ws : List (List Nat)) (c : List Nat × List Nat), (ws.foldl bothStep c).1.length + (ws.foldl bothStep c).2.length ≤ c.1.length + c.2.length + ws.flatten.length
  | [], c => by simp
  | w :: r, c => by
    have ih := bothL_len' r (bothStep c w)
    have h1 := uneL_len ((c.1 ++ w).take (keepAt (c.1 ++ w)))
    have h2 : (bothStep c w).1.length + (bothStep c w).2.length ≤ c.1.length + c.2.length + w.length := by
      unfold bothStep
      dsimp only
      rw [List.length_append, List.length_drop]
      rw [List.length_take, List.length_append] at h1
      rw [List.length_append]
      omega
    simp only [List.foldl_cons, List.flatten_cons, List.length_append]
    omega
theorem bothL_len (ws : List (List Nat)) : (bothL ws).1.length + (bothL ws).2.length ≤ ws.flatten.length := by
  have := bothL_len' ws ([], [])
  simpa [bothL] using this
theorem flat_take (ps : List (List Nat)) (i : Nat) : (ps.take i).flatten.length ≤ ps.flatten.length := by
  have h := congrArg (fun l : List (List Nat) => l.flatten.length) (List.take_append_drop i ps)
  simp only [List.flatten_append, List.length_append] at h
  omega
theorem uneS_len (x : Str) : (uneS x).length ≤ x.length := by
  rw [S_eq (x := x) rfl, uneS_S, S_len, S_len]
  exact uneL_len _
theorem pos_of {l : List Int} (h : decide (l = []) = false) : 0 < l.length := by
  cases l with
  | nil => simp at h
  | cons => simp
theorem item_amp {l : List Nat} {k : Int} (h0 : 0 ≤ k) (h1 : k < l.length) : (Txt.item (S l) k == Str.ofString "&") = decide (l.getD k.toNat 0 = 38) := by
  obtain ⟨n, rfl⟩ := Int.eq_ofNat_of_zero_le h0
  have hn : n < l.length := by omega
  have e : Txt.item (S l) (n : Int) = ⟨#[l.getD n 0]⟩ := by
    unfold Txt.item
    congr 2
    have h2 : (S l).cps[n]? = some l[n] := by
      show l.toArray[n]? = _
      simp [hn]
    unfold Txt.charAt
    rw [StrLaws.at_nonneg h0 (by simpa using h2)]
    simp [List.getD_eq_getElem?_getD, hn]
  rw [e, Int.toNat_natCast]
  exact one_eq (by decide +kernel)
end Mine
end
section
open PySem PySem.W PyProof.Rows PySem.Spec PySem.Calls
namespace Mine
/-- the places of &, as the walk says them -/
abbrev mk9 (l : List Nat) (n : Nat) : List Int := List.foldl (fun m k => if l.getD k.toNat 0 = 38 then m ++ [k] else m) [] (rangeKs 0 n)
theorem mk9_eq (l : List Nat) : mk9 l (((S l).length : Int) - 0).toNat = marksL l := by
  have e : (((S l).length : Int) - 0).toNat = l.length := by rw [S_len]; omega
  rw [e]; rfl
theorem last_idx (n : Nat) : (-1 + (n : Int)).toNat = n - 1 := by omega
theorem foldP_mem (p : Int → Prop) [DecidablePred p] : ∀ (ks m : List Int) (x : Int), x ∈ ks.foldl (fun m k => if p k then m ++ [k] else m) m → x ∈ m ∨ x ∈ ks
  | [], _, _, h => .inl h
  | k :: r, m, x, h => by
    rcases foldP_mem p r _ x h with h | h
    · dsimp only at h
      split at h
      · rcases List.mem_append.mp h with h | h
        · exact .inl h
        · exact .inr (List.mem_singleton.mp h ▸ List.mem_cons_self)
      · exact .inl h
    · exact .inr (List.mem_cons_of_mem _ h)
theorem marks_bound (l : List Nat) : ∀ x ∈ marksL l, 0 ≤ x ∧ x < l.length := by
  intro x hx
  rcases foldP_mem _ _ _ _ hx with h | h
  · cases h
  · have := mem_rangeKs h
    omega
theorem last_cast (l : List Nat) : (marksL l).getD ((marksL l).length - 1) 0 = (lastMark l : Int) ∧ lastMark l ≤ l.length := by
  unfold lastMark
  by_cases h : (marksL l).length = 0
  · have e : marksL l = [] := List.length_eq_zero_iff.mp h
    rw [e]; simp
  · have hlt : (marksL l).length - 1 < (marksL l).length := by omega
    have hb := marks_bound l ((marksL l)[(marksL l).length - 1]) (List.getElem_mem hlt)
    rw [List.getD_eq_getElem?_getD, List.getElem?_eq_getElem hlt]
    simp only [Option.getD_some]
    omega
theorem keepAt_le (l : List Nat) : keepAt l ≤ l.length := by
  unfold keepAt
  split
  · exact (last_cast l).2
  · exact Nat.le_refl _
theorem semi_in (x : Str) : (Builtin.Str.occurrences x (Str.ofString ";") 0 x.length 1).isEmpty = !decide (59 ∈ x.cps.toList) := by
  have h := StrLaws.found_one x 59
  rw [show (Str.ofString ";") = ⟨#[59]⟩ from by decide +kernel]
  rw [← h, Bool.not_not]
theorem keep_A {l : List Nat} (h : decide (mk9 l (((S l).length : Int) - 0).toNat = []) = true) : ((S l).length : Int) = (keepAt l : Nat) := by
  rw [mk9_eq, decide_eq_true_eq] at h
  unfold keepAt
  rw [if_neg (by rw [h]; simp), S_len]
theorem slice_mark {l : List Nat} : Txt.slice (S l) (some ((mk9 l (((S l).length : Int) - 0).toNat).getD (-1 + ((mk9 l (((S l).length : Int) - 0).toNat).length : Int)).toNat 0)) none = S (l.drop (lastMark l)) := by
  rw [mk9_eq, last_idx, (last_cast l).1, slice_sn _ _ (last_cast l).2]
theorem keep_B {l : List Nat} (h1 : decide (mk9 l (((S l).length : Int) - 0).toNat = []) = false)
    (h2 : (Builtin.Str.occurrences (Txt.slice (S l) (some ((mk9 l (((S l).length : Int) - 0).toNat).getD (-1 + ((mk9 l (((S l).length : Int) - 0).toNat).length : Int)).toNat 0)) none) (Str.ofString ";") 0 (Txt.slice (S l) (some ((mk9 l (((S l).length : Int) - 0).toNat).getD (-1 + ((mk9 l (((S l).length : Int) - 0).toNat).length : Int)).toNat 0)) none).length 1).isEmpty = true) :
    (mk9 l (((S l).length : Int) - 0).toNat).getD (-1 + ((mk9 l (((S l).length : Int) - 0).toNat).length : Int)).toNat 0 = (keepAt l : Nat) := by
  rw [semi_in, slice_mark, S_list] at h2
  rw [mk9_eq, decide_eq_false_iff_not] at h1
  rw [mk9_eq, last_idx, (last_cast l).1]
  unfold keepAt
  rw [if_pos ⟨h1, by simpa using h2⟩]
theorem keep_C {l : List Nat}
    (h2 : (Builtin.Str.occurrences (Txt.slice (S l) (some ((mk9 l (((S l).length : Int) - 0).toNat).getD (-1 + ((mk9 l (((S l).length : Int) - 0).toNat).length : Int)).toNat 0)) none) (Str.ofString ";") 0 (Txt.slice (S l) (some ((mk9 l (((S l).length : Int) - 0).toNat).getD (-1 + ((mk9 l (((S l).length : Int) - 0).toNat).length : Int)).toNat 0)) none).length 1).isEmpty = false) :
    ((S l).length : Int) = (keepAt l : Nat) := by
  rw [semi_in, slice_mark, S_list] at h2
  unfold keepAt
  rw [if_neg (by simp at h2; exact fun h => h.2 h2), S_len]
/-- the last edge, as the walk says it -/
abbrev edNow (ps : List (List Nat)) (i : Nat) (w : List Nat) : List Int := (edL (List.take i ps)).1 ++ [(edL (List.take i ps)).1.getD (-1 + ((edL (List.take i ps)).1.length : Int)).toNat 0 + ((S w).length : Int)]
theorem ed_turn {ps : List (List Nat)} {i : Nat} {w : List Nat} (hw : ps[i]? = some w) : edNow ps i w = (edL (ps.take (i + 1))).1 := by
  unfold edNow
  rw [last_idx, edL_last, take_snocL hw, edL_snoc, S_len, ← Int.natCast_add]
  rfl
theorem ed_last {ps : List (List Nat)} {i : Nat} {w : List Nat} (hw : ps[i]? = some w) : (edNow ps i w).getD (-1 + ((edNow ps i w).length : Int)).toNat 0 = ((edL (ps.take (i + 1))).2 : Nat) := by
  rw [ed_turn hw, last_idx, edL_last]
theorem told_eq {l t : List Nat} {kk : Int} (hk : kk = (keepAt l : Nat)) : S t ++ uneS (Txt.slice (S l) none (some kk)) = S (t ++ uneL (l.take (keepAt l))) := by
  rw [hk, slice_ns _ _ (keepAt_le l), uneS_S, S_app]
theorem left_eq {l : List Nat} {kk : Int} (hk : kk = (keepAt l : Nat)) : Txt.slice (S l) (some kk) none = S (l.drop (keepAt l)) := by
  rw [hk, slice_sn _ _ (keepAt_le l)]
theorem str_abs {x y : Str} (h : x = y) (h2 : (x != y) = true) : False := by subst h; simp at h2
theorem S_beq (a b : List Nat) : (S a == S b) = decide (a = b) := by
  by_cases h : a = b
  · subst h; simp
  · have h2 : S a ≠ S b := fun e => h (by rw [← S_list a, ← S_list b, e])
    rw [decide_eq_false h]
    exact beq_false_of_ne h2
theorem count_next {ps : List (List Nat)} {i : Nat} {w : List Nat} (hw : ps[i]? = some w) : (countL (ps.take (i + 1))).length = (countL (ps.take i)).length + 1 + w.length := by
  rw [take_snocL hw, countL_snoc]
  simp [oneCount]
  omega
theorem alone_next {ps : List (List Nat)} {i : Nat} {w : List Nat} (hw : ps[i]? = some w) : S (aloneL (ps.take i)) ++ S (uneL w) = S (aloneL (ps.take (i + 1))) := by
  rw [take_snocL hw, aloneL_snoc, S_app]
theorem led_back {g h : Heap} {L : Addr} {a0 a1 x1 x2 x3 x4 x5 x6 x7 l o : Addr × Obj} {t : List (Addr × Obj)} (N : News g L h (a0 :: a1 :: x1 :: x2 :: x3 :: x4 :: x5 :: x6 :: x7 :: l :: o :: t)) : News g L h (l :: o :: x1 :: x2 :: x3 :: x4 :: x5 :: x6 :: x7 :: t) := by
  refine cb_drop N (fun q hq => ?_)
  simp only [List.mem_cons] at hq ⊢
  rcases hq with h | h | h | h | h | h | h | h | h | h <;> simp [h]
/-- told, and what is said to have come -/
theorem told_law {ps : List (List Nat)} {i : Nat} {w ll lt xt : List Nat} (hw : ps[i]? = some w) (hll : ll = (bothL (ps.take i)).1) (hlt : lt = (bothL (ps.take i)).2)
    (hlaw : (bothL (ps.take (i + 1))).2 = (comeL ((edL (ps.take (i + 1))).2 : Nat) xt).1) {kk : Int} (hk : kk = (keepAt (ll ++ w) : Nat)) :
    S lt ++ uneS (Txt.slice (S (ll ++ w)) none (some kk)) = S (comeL ((edNow ps i w).getD (-1 + ((edNow ps i w).length : Int)).toNat 0) xt).1 := by
  rw [ed_last hw, ← hlaw, told_eq hk, take_snocL hw, bothL_snoc, hll, hlt]
  rfl
theorem both_next {ps : List (List Nat)} {i : Nat} {w ll lt : List Nat} (hw : ps[i]? = some w) (hll : ll = (bothL (ps.take i)).1) (hlt : lt = (bothL (ps.take i)).2) {kk : Int} (hk : kk = (keepAt (ll ++ w) : Nat)) :
    Txt.slice (S (ll ++ w)) (some kk) none = S (bothL (ps.take (i + 1))).1 ∧ S lt ++ uneS (Txt.slice (S (ll ++ w)) none (some kk)) = S (bothL (ps.take (i + 1))).2 := by
  rw [left_eq hk, told_eq hk, take_snocL hw, bothL_snoc, hll, hlt]
  exact ⟨rfl, rfl⟩
end Mine
end
section
open PySem PySem.W PyProof.Rows PySem.Spec PySem.Calls
namespace Mine
/-- a text, written with references -/
def refs (l : List Nat) : List Nat := (l.map refL).flatten
theorem refs_nil : refs [] = [] := rfl
theorem refs_cons (n : Nat) (l : List Nat) : refs (n :: l) = refL n ++ refs l := rfl
theorem refs_app (a b : List Nat) : refs (a ++ b) = refs a ++ refs b := by simp [refs]
/-- what stands wholly within the first e signs, and the part of a reference behind it -/
def spl : Nat → List Nat → List Nat × List Nat
  | _, [] => ([], [])
  | e, n :: r => if (refL n).length ≤ e then (n :: (spl (e - (refL n).length) r).1, (spl (e - (refL n).length) r).2) else ([], (refL n).take e)
theorem spl_take : ∀ (l : List Nat) (e : Nat), (refs l).take e = refs (spl e l).1 ++ (spl e l).2
  | [], e => by simp [refs, spl]
  | n :: r, e => by
    rw [refs_cons]
    unfold spl
    split
    · rename_i h
      rw [List.take_append, List.take_of_length_le h, spl_take r]
      simp only [refs_cons, List.append_assoc]
    · rename_i h
      rw [List.take_append_of_le_length (by omega)]
      rfl
theorem come_off (e : Nat) : ∀ (l : List Nat) (acc : List Nat) (off : Nat), e < off + 1 → (l.foldl (comeStep (e : Int)) (acc, off)).1 = acc
  | [], _, _, _ => rfl
  | n :: r, acc, off, h => by
    have hp := refL_len_pos n
    rw [List.foldl_cons]
    have e1 : comeStep (e : Int) (acc, off) n = (acc, off + (refL n).length) := by
      unfold comeStep
      dsimp only
      rw [if_neg (by omega)]
    rw [e1]
    exact come_off e r acc _ (by omega)
theorem come_spl' (e : Nat) : ∀ (l : List Nat) (acc : List Nat) (off : Nat), off ≤ e → (l.foldl (comeStep (e : Int)) (acc, off)).1 = acc ++ (spl (e - off) l).1
  | [], acc, off, h => by simp [spl]
  | n :: r, acc, off, h => by
    have hp := refL_len_pos n
    rw [List.foldl_cons]
    unfold spl
    by_cases h1 : (refL n).length ≤ e - off
    · have e1 : comeStep (e : Int) (acc, off) n = (acc ++ [n], off + (refL n).length) := by
        unfold comeStep
        dsimp only
        rw [if_pos (by omega)]
      rw [e1, if_pos h1, come_spl' e r _ _ (by omega), Nat.sub_sub]
      simp
    · have e1 : comeStep (e : Int) (acc, off) n = (acc, off + (refL n).length) := by
        unfold comeStep
        dsimp only
        rw [if_neg (by omega)]
      rw [e1, if_neg h1, come_off e r _ _ (by omega)]
      simp
theorem come_spl (e : Nat) (l : List Nat) : (comeL (e : Int) l).1 = (spl e l).1 := by
  have := come_spl' e l [] 0 (Nat.zero_le _)
  simpa [comeL] using this
theorem refL_cases (n : Nat) : n = 38 ∧ refL n = [38, 97, 109, 112, 59] ∨ n = 60 ∧ refL n = [38, 108, 116, 59] ∨ n = 62 ∧ refL n = [38, 103, 116, 59] ∨ n ≠ 38 ∧ n ≠ 60 ∧ n ≠ 62 ∧ refL n = [n] := by
  unfold refL
  by_cases h1 : n = 38
  · left; exact ⟨h1, by simp [h1]⟩
  · by_cases h2 : n = 60
    · right; left; exact ⟨h2, by simp [h2]⟩
    · by_cases h3 : n = 62
      · right; right; left; exact ⟨h3, by simp [h3]⟩
      · right; right; right; exact ⟨h1, h2, h3, by simp [h1, h2, h3]⟩
/-- a part of a reference that is still to come, in pieces -/
theorem part_cases (n e : Nat) (h : e < (refL n).length) : (refL n).take e = [] ∨ ∃ b, (refL n).take e = 38 :: b ∧ 38 ∉ b ∧ 59 ∉ b ∧ refs ((refL n).drop e) = (refL n).drop e := by
  rcases refL_cases n with ⟨_, hr⟩ | ⟨_, hr⟩ | ⟨_, hr⟩ | ⟨_, _, _, hr⟩
  all_goals rw [hr] at h ⊢
  · have : e = 0 ∨ e = 1 ∨ e = 2 ∨ e = 3 ∨ e = 4 := by simp at h; omega
    rcases this with rfl | rfl | rfl | rfl | rfl
    · left; rfl
    all_goals exact .inr ⟨_, rfl, by decide, by decide, by decide⟩
  · have : e = 0 ∨ e = 1 ∨ e = 2 ∨ e = 3 := by simp at h; omega
    rcases this with rfl | rfl | rfl | rfl
    · left; rfl
    all_goals exact .inr ⟨_, rfl, by decide, by decide, by decide⟩
  · have : e = 0 ∨ e = 1 ∨ e = 2 ∨ e = 3 := by simp at h; omega
    rcases this with rfl | rfl | rfl | rfl
    · left; rfl
    all_goals exact .inr ⟨_, rfl, by decide, by decide, by decide⟩
  · have : e = 0 := by simp at h; omega
    subst this
    left; rfl
def PartOk (z : List Nat) : Prop := z = [] ∨ ∃ b, z = 38 :: b ∧ 38 ∉ b ∧ 59 ∉ b
theorem PartOk.no {z : List Nat} (h : PartOk z) : 59 ∉ z := by
  rcases h with rfl | ⟨b, rfl, _, h2⟩
  · simp
  · simp [h2]
theorem spl_part : ∀ (l : List Nat) (e : Nat), PartOk (spl e l).2
  | [], e => .inl rfl
  | n :: r, e => by
    unfold spl
    split
    · exact spl_part r _
    · rename_i h
      rcases part_cases n e (by omega) with h1 | ⟨b, h1, h2, h3, _⟩
      · exact .inl h1
      · exact .inr ⟨b, h1, h2, h3⟩
/-- more signs come: the whole ones are those and more; a part that is still open is filled first -/
theorem spl_more : ∀ (l : List Nat) (e k : Nat), ∃ D, (spl (e + k) l).1 = (spl e l).1 ++ D ∧ ((spl e l).2 = [] ∨ D = [] ∨ ∃ n zs D', D = n :: D' ∧ refL n = (spl e l).2 ++ zs ∧ zs ≠ [] ∧ refs zs = zs ∧ (spl e l).2 ≠ [])
  | [], e, k => ⟨[], by simp [spl], .inr (.inl rfl)⟩
  | n :: r, e, k => by
    by_cases h : (refL n).length ≤ e
    · obtain ⟨D, h1, h2⟩ := spl_more r (e - (refL n).length) k
      refine ⟨D, ?_, ?_⟩
      · unfold spl
        rw [if_pos h, if_pos (by omega), show e + k - (refL n).length = e - (refL n).length + k from by omega, h1]
        rfl
      · unfold spl
        rw [if_pos h]
        exact h2
    · by_cases h3 : (refL n).length ≤ e + k
      · refine ⟨n :: (spl (e + k - (refL n).length) r).1, ?_, ?_⟩
        · have e1 : spl (e + k) (n :: r) = (n :: (spl (e + k - (refL n).length) r).1, (spl (e + k - (refL n).length) r).2) := by rw [spl, if_pos h3]
          have e2 : spl e (n :: r) = ([], (refL n).take e) := by rw [spl, if_neg h]
          rw [e1, e2]
          rfl
        · rcases part_cases n e (by omega) with h4 | ⟨b, h4, _, _, h5⟩
          · left
            unfold spl
            rw [if_neg h]
            exact h4
          · refine .inr (.inr ⟨n, (refL n).drop e, _, rfl, ?_, ?_, h5, ?_⟩)
            · unfold spl
              rw [if_neg h]
              exact (List.take_append_drop e (refL n)).symm
            · intro h6
              have := List.drop_eq_nil_iff.mp h6
              omega
            · unfold spl
              rw [if_neg h]
              show (refL n).take e ≠ []
              rw [h4]
              exact fun h7 => nomatch h7
      · refine ⟨[], ?_, .inr (.inl rfl)⟩
        unfold spl
        rw [if_neg h, if_neg h3]
        rfl
/-- one replace over a written text -/
theorem rp_none {y z : List Nat} (hy : 59 ∈ y) : ∀ (l : List Nat), 59 ∉ l → rp y z 0 l = l
  | [], _ => rfl
  | c :: r, h => by
    have h9 : ¬ y.isPrefixOf (c :: r) = true := fun h2 => h ((List.isPrefixOf_iff_prefix.mp h2).subset hy)
    rw [rp, if_neg h9, rp_none hy r (fun h3 => h (List.mem_cons_of_mem _ h3))]
theorem rp_pass {y z : List Nat} (f g : Nat → List Nat) (hf : ∀ n t, rp y z 0 (f n ++ t) = g n ++ rp y z 0 t) (t : List Nat) : ∀ l : List Nat, rp y z 0 ((l.map f).flatten ++ t) = (l.map g).flatten ++ rp y z 0 t
  | [] => rfl
  | n :: r => by
    simp only [List.map_cons, List.flatten_cons, List.append_assoc]
    rw [hf, rp_pass f g hf t r]
def refB (n : Nat) : List Nat := if n = 60 then [60] else refL n
def refC (n : Nat) : List Nat := if n = 62 then [62] else refB n
theorem une_refs (l z : List Nat) (hz : 59 ∉ z) : uneL (refs l ++ z) = l ++ z := by
  have p1 : ∀ n t, rp [38, 108, 116, 59] [60] 0 (refL n ++ t) = refB n ++ rp [38, 108, 116, 59] [60] 0 t := by
    intro n t
    unfold refB
    rcases refL_cases n with ⟨hn, hr⟩ | ⟨hn, hr⟩ | ⟨hn, hr⟩ | ⟨h1, h2, h3, hr⟩
    · subst hn; rw [hr]; simp [rp, List.isPrefixOf]
    · subst hn; rw [hr]; simp [rp, List.isPrefixOf]
    · subst hn; rw [hr]; simp [rp, List.isPrefixOf]
    · rw [hr, if_neg h2]
      have h4 : ¬ 38 = n := fun e => h1 e.symm
      simp [rp, List.isPrefixOf, h4]
  have p2 : ∀ n t, rp [38, 103, 116, 59] [62] 0 (refB n ++ t) = refC n ++ rp [38, 103, 116, 59] [62] 0 t := by
    intro n t
    unfold refC refB
    rcases refL_cases n with ⟨hn, hr⟩ | ⟨hn, hr⟩ | ⟨hn, hr⟩ | ⟨h1, h2, h3, hr⟩
    · subst hn; rw [hr]; simp [rp, List.isPrefixOf]
    · subst hn; simp [rp, List.isPrefixOf]
    · subst hn; rw [hr]; simp [rp, List.isPrefixOf]
    · rw [hr, if_neg h2, if_neg h3]
      have h4 : ¬ 38 = n := fun e => h1 e.symm
      simp [rp, List.isPrefixOf, h4]
  have p3 : ∀ n t, rp [38, 97, 109, 112, 59] [38] 0 (refC n ++ t) = [n] ++ rp [38, 97, 109, 112, 59] [38] 0 t := by
    intro n t
    unfold refC refB
    rcases refL_cases n with ⟨hn, hr⟩ | ⟨hn, hr⟩ | ⟨hn, hr⟩ | ⟨h1, h2, h3, hr⟩
    · subst hn; rw [hr]; simp [rp, List.isPrefixOf]
    · subst hn; simp [rp, List.isPrefixOf]
    · subst hn; simp [rp, List.isPrefixOf]
    · rw [hr, if_neg h2, if_neg h3]
      have h4 : ¬ 38 = n := fun e => h1 e.symm
      simp [rp, List.isPrefixOf, h4]
  unfold uneL refs
  rw [rp_pass _ _ p1, rp_none (by decide) z hz, rp_pass _ _ p2, rp_none (by decide) z hz, rp_pass _ _ p3, rp_none (by decide) z hz]
  congr 1
  induction l with
  | nil => rfl
  | cons a r ih => simp only [List.map_cons, List.flatten_cons, ih]; rfl
/-- the places of & -/
theorem rangeKs_snoc (n : Nat) : rangeKs 0 (n + 1) = rangeKs 0 n ++ [(n : Int)] := by
  unfold rangeKs
  rw [List.range_succ, List.map_append]
  simp
theorem marks_go (p q : Int → Prop) [DecidablePred p] [DecidablePred q] : ∀ (ks m : List Int), (∀ k ∈ ks, (p k ↔ q k)) → ks.foldl (fun m k => if p k then m ++ [k] else m) m = ks.foldl (fun m k => if q k then m ++ [k] else m) m
  | [], _, _ => rfl
  | k :: r, m, h => by
    simp only [List.foldl_cons]
    have h1 := h k List.mem_cons_self
    by_cases hp : p k
    · rw [if_pos hp, if_pos (h1.mp hp)]; exact marks_go p q r _ (fun k hk => h k (List.mem_cons_of_mem _ hk))
    · rw [if_neg hp, if_neg (fun hq => hp (h1.mpr hq))]; exact marks_go p q r _ (fun k hk => h k (List.mem_cons_of_mem _ hk))
theorem marks_snoc (l : List Nat) (n : Nat) : marksL (l ++ [n]) = marksL l ++ if n = 38 then [(l.length : Int)] else [] := by
  unfold marksL
  rw [List.length_append, List.length_singleton, rangeKs_snoc, List.foldl_append]
  rw [marks_go (fun k => (l ++ [n]).getD k.toNat 0 = 38) (fun k => l.getD k.toNat 0 = 38) (rangeKs 0 l.length) [] (fun k hk => by
    have h9 := mem_rangeKs hk
    have h8 : k.toNat < l.length := by omega
    show (l ++ [n]).getD k.toNat 0 = 38 ↔ l.getD k.toNat 0 = 38
    rw [List.getD_eq_getElem?_getD, List.getD_eq_getElem?_getD, List.getElem?_append_left h8])]
  have e : (l ++ [n]).getD l.length 0 = n := by simp [List.getD_eq_getElem?_getD]
  simp only [List.foldl_cons, List.foldl_nil, Int.toNat_natCast, e]
  split <;> simp
theorem marks_app (a : List Nat) : ∀ (b : List Nat), 38 ∉ b → marksL (a ++ b) = marksL a := by
  intro b
  generalize hr : b.reverse = rb
  induction rb generalizing b with
  | nil =>
    intro _
    have : b = [] := by simpa using hr
    rw [this, List.append_nil]
  | cons n r ih =>
    intro h
    have e : b = r.reverse ++ [n] := by
      have := congrArg List.reverse hr
      simpa using this
    rw [e] at h ⊢
    rw [← List.append_assoc, marks_snoc, ih r.reverse (by simp) (fun h2 => h (List.mem_append_left _ h2)), if_neg (fun h2 => h (by simp [h2])), List.append_nil]
theorem marks_none (b : List Nat) (h : 38 ∉ b) : marksL b = [] := by
  have := marks_app [] b h
  rw [List.nil_append] at this
  rw [this]; rfl
theorem marks_last (a b : List Nat) (h : 38 ∉ b) : marksL (a ++ 38 :: b) = marksL a ++ [(a.length : Int)] := by
  have e : a ++ 38 :: b = (a ++ [38]) ++ b := by simp
  rw [e, marks_app _ _ h, marks_snoc, if_pos rfl]
theorem last_of (a b : List Nat) (h : 38 ∉ b) : lastMark (a ++ 38 :: b) = a.length := by
  unfold lastMark
  rw [marks_last a b h]
  simp
theorem refs_marks (l : List Nat) : 38 ∉ refs l ∨ ∃ a b, refs l = a ++ 38 :: b ∧ 38 ∉ b ∧ 59 ∈ b := by
  generalize hr : l.reverse = rl
  induction rl generalizing l with
  | nil =>
    have : l = [] := by simpa using hr
    rw [this]; left; simp [refs]
  | cons n r ih =>
    have e : l = r.reverse ++ [n] := by
      have := congrArg List.reverse hr
      simpa using this
    rw [e, refs_app, refs_cons, refs_nil, List.append_nil]
    rcases refL_cases n with ⟨hn, hr⟩ | ⟨hn, hr⟩ | ⟨hn, hr⟩ | ⟨h1, h2, h3, hr⟩
    · exact .inr ⟨_, _, by rw [hr], by decide, by decide⟩
    · exact .inr ⟨_, _, by rw [hr], by decide, by decide⟩
    · exact .inr ⟨_, _, by rw [hr], by decide, by decide⟩
    · rcases ih r.reverse (by simp) with h | ⟨a, b, h4, h5, h6⟩
      · left; rw [hr]; simp only [List.mem_append, List.mem_singleton, not_or]; exact ⟨h, fun e => h1 e.symm⟩
      · right
        refine ⟨a, b ++ [n], by rw [h4, hr]; simp, ?_, by simp [h6]⟩
        simp only [List.mem_append, List.mem_singleton, not_or]; exact ⟨h5, fun e => h1 e.symm⟩
theorem keep_refs (D z : List Nat) (hz : PartOk z) : keepAt (refs D ++ z) = (refs D).length := by
  rcases hz with rfl | ⟨b, rfl, h1, h2⟩
  · rw [List.append_nil]
    unfold keepAt
    rw [if_neg]
    rintro ⟨h3, h4⟩
    rcases refs_marks D with h | ⟨a, b, h5, h6, h7⟩
    · exact h3 (marks_none _ h)
    · rw [h5, last_of a b h6, List.drop_left] at h4
      exact h4 (List.mem_cons_of_mem _ h7)
  · unfold keepAt
    rw [if_pos, last_of _ _ h1]
    rw [last_of _ _ h1, List.drop_left, marks_last _ _ h1]
    refine ⟨by simp, ?_⟩
    simp [h2]
theorem both_spl (l : List Nat) : ∀ (rs : List (List Nat)), rs.reverse.flatten <+: refs l → bothL rs.reverse = ((spl rs.reverse.flatten.length l).2, (spl rs.reverse.flatten.length l).1)
  | [], _ => by
    cases l with
    | nil => rfl
    | cons n r =>
      have := refL_len_pos n
      simp only [List.reverse_nil, List.flatten_nil, List.length_nil]
      unfold spl
      rw [if_neg (by omega)]
      rfl
  | w :: r, h => by
    rw [List.reverse_cons, List.flatten_append, List.flatten_cons, List.flatten_nil, List.append_nil] at h ⊢
    have ih := both_spl l r ((List.prefix_append _ _).trans h)
    rw [bothL_snoc, ih, List.length_append]
    generalize hq : r.reverse.flatten = q at h ⊢
    obtain ⟨D, h1, _⟩ := spl_more l q.length w.length
    have h2 : q = refs (spl q.length l).1 ++ (spl q.length l).2 := by
      rw [← spl_take]
      exact List.prefix_iff_eq_take.mp ((List.prefix_append _ _).trans h)
    have h3 : q ++ w = refs (spl (q.length + w.length) l).1 ++ (spl (q.length + w.length) l).2 := by
      rw [← spl_take, ← List.length_append]
      exact List.prefix_iff_eq_take.mp h
    have h4 : (spl q.length l).2 ++ w = refs D ++ (spl (q.length + w.length) l).2 := by
      rw [h1, refs_app] at h3
      conv at h3 => lhs; rw [h2]
      rw [List.append_assoc, List.append_assoc] at h3
      exact List.append_cancel_left h3
    unfold bothStep
    dsimp only
    rw [h4, keep_refs _ _ (spl_part _ _), List.drop_left, List.take_left, h1]
    have h5 := une_refs D [] (by simp)
    rw [List.append_nil, List.append_nil] at h5
    rw [h5]
theorem both_law (l : List Nat) (qs : List (List Nat)) (h : qs.flatten <+: refs l) : (bothL qs).2 = (comeL ((edL qs).2 : Nat) l).1 := by
  have := both_spl l qs.reverse (by rw [List.reverse_reverse]; exact h)
  rw [List.reverse_reverse] at this
  rw [this, come_spl, edL_sum]
/-- the torn references -/
def tw (es : List Int) : Nat → List Nat → List Nat
  | _, [] => []
  | off, n :: r => (if cutsIn es (off : Int) ((off + (refL n).length : Nat) : Int) = true then refL n else [n]) ++ tw es (off + (refL n).length) r
theorem torn_tw (es : List Int) : ∀ (l acc : List Nat) (off : Nat), (l.foldl (tornStep es) (acc, off)).1 = acc ++ tw es off l
  | [], acc, off => by simp [tw]
  | n :: r, acc, off => by
    rw [List.foldl_cons]
    show (r.foldl (tornStep es) (acc ++ _, off + _)).1 = _
    rw [torn_tw es r, List.append_assoc]
    rfl
theorem tw_app (es : List Int) : ∀ (a b : List Nat) (off : Nat), tw es off (a ++ b) = tw es off a ++ tw es (off + (refs a).length) b
  | [], b, off => by simp [tw, refs]
  | n :: r, b, off => by
    rw [List.cons_append, tw, tw_app es r, tw, refs_cons, List.length_append, List.append_assoc, Nat.add_assoc]
theorem tw_none (es : List Int) : ∀ (l : List Nat) (off : Nat), (∀ e ∈ es, e ≤ (off : Int) ∨ ((off + (refs l).length : Nat) : Int) ≤ e) → tw es off l = l
  | [], _, _ => rfl
  | n :: r, off, h => by
    rw [refs_cons, List.length_append] at h
    have hp := refL_len_pos n
    have h1 : ¬ cutsIn es (off : Int) ((off + (refL n).length : Nat) : Int) = true := by
      intro h2
      obtain ⟨e, he, h3⟩ := List.any_eq_true.mp h2
      simp only [Bool.and_eq_true, decide_eq_true_eq] at h3
      have := h e he
      omega
    rw [tw, if_neg h1, tw_none es r (off + (refL n).length) (fun e he => by have := h e he; omega)]
    rfl
theorem tw_more (es : List Int) (e' : Int) : ∀ (l : List Nat) (off : Nat), ((off + (refs l).length : Nat) : Int) ≤ e' → tw (es ++ [e']) off l = tw es off l
  | [], _, _ => rfl
  | n :: r, off, h => by
    rw [refs_cons, List.length_append] at h
    have h1 : cutsIn (es ++ [e']) (off : Int) ((off + (refL n).length : Nat) : Int) = cutsIn es (off : Int) ((off + (refL n).length : Nat) : Int) := by
      unfold cutsIn
      rw [List.any_append]
      have : ([e'].any fun e => decide ((off : Int) < e) && decide (e < ((off + (refL n).length : Nat) : Int))) = false := by
        simp only [List.any_cons, List.any_nil, Bool.or_false, Bool.and_eq_false_iff, decide_eq_false_iff_not]
        right; omega
      rw [this, Bool.or_false]
    rw [tw, h1, tw_more es e' r _ (by omega), tw]
theorem ed_bound : ∀ (rs : List (List Nat)), (∀ e ∈ (edL rs.reverse).1, e ≤ ((edL rs.reverse).2 : Int)) ∧ ((edL rs.reverse).2 : Int) ∈ (edL rs.reverse).1
  | [] => by simp [edL]
  | w :: r => by
    have ih := ed_bound r
    rw [List.reverse_cons, edL_snoc]
    unfold edStep
    dsimp only
    refine ⟨fun e he => ?_, by simp⟩
    rcases List.mem_append.mp he with h | h
    · have := ih.1 e h; omega
    · have := List.mem_singleton.mp h; omega
theorem alone_spl (l : List Nat) : ∀ (rs : List (List Nat)), rs.reverse.flatten <+: refs l →
    aloneL rs.reverse = tw (edL rs.reverse).1 0 (spl rs.reverse.flatten.length l).1 ++ (spl rs.reverse.flatten.length l).2
  | [], _ => by
    cases l with
    | nil => rfl
    | cons n r =>
      have := refL_len_pos n
      simp only [List.reverse_nil, List.flatten_nil, List.length_nil]
      unfold spl
      rw [if_neg (by omega)]
      rfl
  | w :: r, h => by
    have hb := ed_bound r
    rw [edL_sum] at hb
    rw [List.reverse_cons] at *
    rw [edL_snoc]
    unfold edStep
    dsimp only
    rw [edL_sum]
    rw [List.flatten_append, List.flatten_cons, List.flatten_nil, List.append_nil] at h ⊢
    have ih := alone_spl l r ((List.prefix_append _ _).trans h)
    rw [aloneL_snoc, ih, List.length_append]
    generalize hq : r.reverse.flatten = q at *
    obtain ⟨D, h1, hc⟩ := spl_more l q.length w.length
    have hz := spl_part l q.length
    have hz' := spl_part l (q.length + w.length)
    have h2 : q = refs (spl q.length l).1 ++ (spl q.length l).2 := by
      rw [← spl_take]
      exact List.prefix_iff_eq_take.mp ((List.prefix_append _ _).trans h)
    have h3 : q ++ w = refs (spl (q.length + w.length) l).1 ++ (spl (q.length + w.length) l).2 := by
      rw [← spl_take, ← List.length_append]
      exact List.prefix_iff_eq_take.mp h
    have h4 : (spl q.length l).2 ++ w = refs D ++ (spl (q.length + w.length) l).2 := by
      rw [h1, refs_app] at h3
      conv at h3 => lhs; rw [h2]
      rw [List.append_assoc, List.append_assoc] at h3
      exact List.append_cancel_left h3
    have hl1 : q.length = (refs (spl q.length l).1).length + (spl q.length l).2.length := by
      have := congrArg List.length h2
      rwa [List.length_append] at this
    have hl2 : (spl q.length l).2.length + w.length = (refs D).length + (spl (q.length + w.length) l).2.length := by
      have := congrArg List.length h4
      rwa [List.length_append, List.length_append] at this
    rw [h1]
    generalize spl q.length l = sp at *
    generalize spl (q.length + w.length) l = sq at *
    generalize (edL r.reverse).1 = es at *
    obtain ⟨T1, z⟩ := sp
    obtain ⟨T2, z'⟩ := sq
    dsimp only at *
    have hq2 : (q.length : Int) = ((refs T1).length : Int) + (z.length : Int) := by omega
    rw [tw_app, tw_more _ _ T1 0 (by omega), List.append_assoc, List.append_assoc]
    congr 1
    rw [Nat.zero_add]
    rcases hc with rfl | rfl | ⟨n, zs, D', rfl, hr, hzs, hrz, hzn⟩
    · rw [List.nil_append] at h4 ⊢
      rw [List.length_nil] at *
      rw [h4, une_refs D z' hz'.no, tw_none]
      intro e he
      rcases List.mem_append.mp he with h9 | h9
      · have := hb.1 e h9; omega
      · have h8 := List.mem_singleton.mp h9; rw [List.length_append] at h8; omega
    · have h5 : z ++ w = z' := h4
      have h6 : 59 ∉ w := fun h7 => hz'.no (by rw [← h5]; exact List.mem_append_right _ h7)
      have h7 := une_refs [] w h6
      rw [refs_nil, List.nil_append] at h7
      rw [h7, h5]
      rfl
    · rw [refs_cons, hr, List.append_assoc, List.append_assoc] at h4
      have h5 := List.append_cancel_left h4
      have h6 := une_refs (zs ++ D') z' hz'.no
      rw [refs_app, hrz, List.append_assoc] at h6
      rw [h5, h6]
      have hzl : 0 < zs.length := List.length_pos_iff.mpr hzs
      have hrl : (refL n).length = z.length + zs.length := by rw [hr, List.length_append]
      rw [refs_cons, List.length_append] at hl2
      rw [tw]
      have hz0 : 0 < z.length := List.length_pos_iff.mpr hzn
      have hcut : cutsIn (es ++ [((q.length + (zs ++ (refs D' ++ z')).length : Nat) : Int)]) ((refs T1).length : Int) (((refs T1).length + (refL n).length : Nat) : Int) = true := by
        refine List.any_eq_true.mpr ⟨(q.length : Int), List.mem_append_left _ hb.2, ?_⟩
        simp only [Bool.and_eq_true, decide_eq_true_eq]
        omega
      rw [if_pos hcut, tw_none, hr]
      · simp
      · intro e he
        rcases List.mem_append.mp he with h9 | h9
        · have := hb.1 e h9; omega
        · have := List.mem_singleton.mp h9
          rw [h5] at hl2
          omega
theorem spl_all : ∀ l : List Nat, spl (refs l).length l = (l, [])
  | [] => rfl
  | n :: r => by
    unfold spl
    rw [refs_cons, List.length_append, if_pos (by omega), Nat.add_sub_cancel_left, spl_all r]
theorem alone_law (l : List Nat) (ps : List (List Nat)) (h : ps.flatten = refs l) : aloneL ps = (tornL (edL ps).1 l).1 := by
  have := alone_spl l ps.reverse (by rw [List.reverse_reverse, h]; exact List.prefix_refl _)
  rw [List.reverse_reverse, h, spl_all] at this
  rw [this]
  unfold tornL
  rw [torn_tw]
  simp
end Mine
end
section
open PySem PySem.W PyProof.Rows PySem.Spec PySem.Calls
namespace Mine
theorem strs_carried : ∀ {ys : List Value} {zs : List Str}, StrsAre ys zs → CarriedAll ys (zs.map PyData.str)
  | _, _, .nil => .nil
  | _, _, .cons _ _ h => .cons (.str _ _) (strs_carried h)
theorem foldl_app (ws : List (List Nat)) (a : List Nat) : ws.foldl (fun acc p => acc ++ p) a = a ++ ws.flatten := by
  induction ws generalizing a with
  | nil => simp
  | cons w r ih => simp [ih]
theorem app_nothing (a b : Str) : a ++ Str.ofString "" ++ b = a ++ b := by
  rw [← S_nil, ← S_self a, ← S_self b, S_app, S_app, S_app, List.append_nil]
theorem join_text : ∀ (ws : List (List Nat)), Txt.join (Str.ofString "") (ws.map S) = S ws.flatten := by
  intro ws
  show Builtin.Str.glued (Str.ofString "") (ws.map S) = S ws.flatten
  rw [StrLaws.glued_eq_join]
  induction ws with
  | nil => rw [List.flatten_nil, S_nil]; rfl
  | cons w r ih =>
    cases r with
    | nil => rw [List.flatten_cons, List.flatten_nil, List.append_nil]; rfl
    | cons y q =>
      rw [List.flatten_cons, ← S_app, ← ih]
      exact app_nothing _ _
section
variable {prog : Program} {w : World} {A : Around} {E : Value → Shared → Prop} {s : Shared} {h₀ : Heap} {L : Addr} {m : Str → Option Value}
theorem join_S {D : Addr} {ys : List Value} {n : Nat} {ls : List (List Nat)} {t : Tok} {news : List (Addr × Obj)} {Q : Value → Shared → Prop} (N : News h₀ L s.heap news) (hm : (D, listOf ys.toArray n) ∈ news) (hc : StrsAre ys (ls.map S))
    (hB : ∀ w ∈ ls, w.length ≤ 10) (hn : ls.length ≤ 1048576) (h : ∀ t' k, Q (.str (S ls.flatten) t') { s with toks := k }) :
    wpAny (model prog w) A (call (.builtin "str.join") [.str (Str.ofString "") t, .ref D]) Q E s := by
  refine KT.join_B (l := ls) (g := S) 10 (News.isList N hm) (by have := strs_carried hc; rwa [List.map_map] at this) (fun a ha => by rw [S_len]; exact hB a ha) hn (by decide) ?_
  intro t' k
  rw [join_text]
  exact h t' k
end
theorem item_S {l : List Nat} {k : Int} (h0 : 0 ≤ k) (h1 : k < l.length) : Txt.item (S l) k = S [l.getD k.toNat 0] := by
  obtain ⟨n, rfl⟩ := Int.eq_ofNat_of_zero_le h0
  have hn : n < l.length := by omega
  have e : Txt.item (S l) (n : Int) = ⟨#[l.getD n 0]⟩ := by
    unfold Txt.item
    congr 2
    have h2 : (S l).cps[n]? = some l[n] := by
      show l.toArray[n]? = _
      simp [hn]
    unfold Txt.charAt
    rw [StrLaws.at_nonneg h0 (by simpa using h2)]
    simp [List.getD_eq_getElem?_getD, hn]
  rw [e, Int.toNat_natCast]
  rfl
/-- the sign of a number -/
def sgn (k : Int) : Nat := [38, 60, 62, 108, 116, 59].getD (Int.fmod k 6).toNat 0
def sgnL (ks : List Int) : List (List Nat) := ks.map fun k => [sgn k]
theorem sgnL_len (ks : List Int) : (sgnL ks).flatten.length = ks.length := by
  induction ks with
  | nil => rfl
  | cons k r ih => simp only [sgnL, List.map_cons, List.flatten_cons, List.length_append, List.length_cons, List.length_nil] at *; omega
theorem item_sgn (k : Int) : Txt.item (Str.ofString "&<>lt;") (Int.fmod k 6) = S [sgn k] := by
  have e : Str.ofString "&<>lt;" = S [38, 60, 62, 108, 116, 59] := by decide +kernel
  rw [e]
  refine item_S (Int.fmod_nonneg_of_pos k (by decide)) ?_
  exact Int.fmod_lt_of_pos k (by decide)
theorem strs_signs {ys : List Value} {ks : List Int} (h : StrsAre ys (ks.map fun k => Txt.item (Str.ofString "&<>lt;") (Int.fmod k 6))) : StrsAre ys ((sgnL ks).map S) := by
  unfold sgnL
  rw [List.map_map]
  have e : (fun k => Txt.item (Str.ofString "&<>lt;") (Int.fmod k 6)) = S ∘ (fun k => [sgn k]) := by
    funext k; exact item_sgn k
  rw [← e]; exact h
theorem strs_refs {ys : List Value} {l : List Nat} (h : StrsAre ys (l.map fun a => S (refL a))) : StrsAre ys ((l.map refL).map S) := by
  rw [List.map_map]; exact h
theorem ints_abs {vs : List Value} {ns : List Int} (h : IntsAre vs ns) : ∃ ks, ks = ns ∧ IntsAre vs ks ∧ vs.length = ks.length := ⟨ns, rfl, h, h.length⟩
theorem refL_le (n : Nat) : (refL n).length ≤ 5 := by
  unfold refL
  repeat' split
  all_goals simp
theorem rp_one (c : Nat) (z : List Nat) : ∀ l, rp [c] z 0 l = l.flatMap fun x => if x = c then z else [x]
  | [] => rfl
  | x :: r => by
    rw [List.flatMap_cons, ← rp_one c z r]
    have e : rp [c] z 0 (x :: r) = if [c].isPrefixOf (x :: r) = true then z ++ rp [c] z ([c].length - 1) r else x :: rp [c] z 0 r := by rw [rp]
    rw [e]
    by_cases h : x = c
    · subst h; simp
    · rw [if_neg h, if_neg (by simpa using fun e => h e.symm)]
      rfl
theorem esc_flat (l : List Nat) : escL l = (l.map refL).flatten := by
  unfold escL
  rw [rp_one, rp_one, rp_one, List.flatMap_assoc, List.flatMap_assoc, ← List.flatMap_def]
  congr 1
  funext x
  unfold refL
  by_cases h1 : x = 38
  · subst h1; rfl
  · by_cases h2 : x = 60
    · subst h2; rfl
    · by_cases h3 : x = 62
      · subst h3; rfl
      · simp [h1, h2, h3]
theorem escS_refs (l : List Nat) : escS (S l) = S (l.map refL).flatten := by rw [escS_S, esc_flat]
theorem news_two {g h : Heap} {L : Addr} {news : List (Addr × Obj)} {a b : Addr × Obj} (N : News g L h news) (ha : a ∈ news) (hb : b ∈ news) : News g L h [a, b] := by
  refine cb_drop N (fun q hq => ?_)
  rcases List.mem_cons.mp hq with h | h
  · exact h ▸ ha
  · exact List.mem_singleton.mp h ▸ hb
theorem refs_len (l : List Nat) : (l.map refL).flatten.length ≤ 5 * l.length := by
  induction l with
  | nil => simp
  | cons a r ih =>
    have h := refL_le a
    simp only [List.map_cons, List.flatten_cons, List.length_append, List.length_cons]
    omega
theorem pc_flat (w : List Nat) : ∀ (ks : List Int) (c : List (List Nat) × Nat), c.1.flatten ++ w.drop c.2 = w → (ks.foldl (pcStep w) c).1.flatten ++ w.drop (ks.foldl (pcStep w) c).2 = w
  | [], _, h => h
  | k :: r, c, h => by
    refine pc_flat w r _ ?_
    unfold pcStep
    dsimp only
    rw [List.flatten_append, List.flatten_cons, List.flatten_nil, List.append_nil, List.append_assoc]
    have e : (w.drop c.2).take k.toNat ++ w.drop (c.2 + ((w.drop c.2).take k.toNat).length) = w.drop c.2 := by
      rw [← List.drop_drop, List.length_take]
      by_cases hk : k.toNat ≤ (w.drop c.2).length
      · rw [Nat.min_eq_left hk, List.take_append_drop]
      · rw [Nat.min_eq_right (by omega), List.drop_length, List.append_nil, List.take_of_length_le (by omega)]
    rw [e]
    exact h
theorem pcL_flat (w : List Nat) (ks : List Int) : (pcL w ks).1.flatten ++ w.drop (pcL w ks).2 = w := pc_flat w ks _ rfl
theorem pieces_flat (w : List Nat) (ks : List Int) : (piecesL w ks).flatten = w := by
  unfold piecesL
  rw [List.flatten_append, List.flatten_cons, List.flatten_nil, List.append_nil]
  exact pcL_flat w ks
theorem pieces_len (w : List Nat) (ks : List Int) : (piecesL w ks).length = ks.length + 1 := by
  unfold piecesL
  rw [List.length_append, pcL_count]; rfl
theorem mem_flat {ps : List (List Nat)} {w : List Nat} (h : w ∈ ps) : w.length ≤ ps.flatten.length := by
  induction ps with
  | nil => cases h
  | cons a r ih =>
    simp only [List.flatten_cons, List.length_append]
    rcases List.mem_cons.mp h with rfl | h
    · omega
    · have := ih h; omega
theorem sizes_ok {vs : List Int} {ks : List Int} (h : ks = vs.map (fun k => Int.fmod k 36)) : ∀ e ∈ [3] ++ ks.map (fun k => Int.fdiv k 6), 0 ≤ e ∧ e ≤ 1000 := by
  intro e he
  rcases List.mem_cons.mp he with rfl | he
  · decide
  · obtain ⟨k, hk, rfl⟩ := List.mem_map.mp he
    rw [h] at hk
    obtain ⟨v, _, rfl⟩ := List.mem_map.mp hk
    have h1 := Int.fmod_nonneg_of_pos v (by decide : (0:Int) < 36)
    have h2 := Int.fmod_lt_of_pos v (by decide : (0:Int) < 36)
    rw [Int.fdiv_eq_ediv_of_nonneg _ (by decide : (0:Int) ≤ 6)]
    omega
theorem countL_length (ps : List (List Nat)) : (countL ps).length = ps.length + ps.flatten.length := by
  induction ps with
  | nil => rfl
  | cons a r ih => simp only [countL, List.flatMap_cons, List.length_append, List.flatten_cons, List.length_cons, oneCount, List.length_map] at *; omega
theorem sgn_lt (k : Int) : sgn k < 128 := by
  unfold sgn
  have h1 := Int.fmod_nonneg_of_pos k (by decide : (0:Int) < 6)
  have h2 := Int.fmod_lt_of_pos k (by decide : (0:Int) < 6)
  generalize Int.fmod k 6 = j at *
  obtain ⟨n, rfl⟩ := Int.eq_ofNat_of_zero_le h1
  rw [Int.toNat_natCast]
  have h3 : n < 6 := by omega
  revert h3
  clear h1 h2
  revert n
  decide
theorem text_lt (ks : List Int) : ∀ c ∈ 60 :: 38 :: (sgnL ks).flatten, c < 128 := by
  intro c hc
  rcases List.mem_cons.mp hc with rfl | hc
  · decide
  rcases List.mem_cons.mp hc with rfl | hc
  · decide
  obtain ⟨l, hl, hc⟩ := List.mem_flatten.mp hc
  obtain ⟨k, _, rfl⟩ := List.mem_map.mp hl
  rw [List.mem_singleton.mp hc]
  exact sgn_lt k
theorem refs_lt {l : List Nat} (h : ∀ c ∈ l, c < 128) : ∀ c ∈ (l.map refL).flatten, c < 128 := by
  intro c hc
  obtain ⟨w, hw, hc⟩ := List.mem_flatten.mp hc
  obtain ⟨k, hk, rfl⟩ := List.mem_map.mp hw
  have h9 := h k hk
  revert hc
  unfold refL
  repeat' split
  all_goals (intro hc; simp only [List.mem_cons, List.not_mem_nil, or_false] at hc; omega)
theorem count_ok {ps : List (List Nat)} (h1 : ∀ w ∈ ps, w.length ≤ 70) (h2 : ∀ c ∈ ps.flatten, c < 128) : ∀ n ∈ countL ps ++ [4, 38, 108, 116], 0 ≤ n ∧ n < 256 := by
  intro n hn
  rcases List.mem_append.mp hn with hn | hn
  · obtain ⟨w, hw, hn⟩ := List.mem_flatMap.mp hn
    rcases List.mem_cons.mp hn with rfl | hn
    · have := h1 w hw; omega
    · obtain ⟨c, hc, rfl⟩ := List.mem_map.mp hn
      have := h2 c (List.mem_flatten.mpr ⟨w, hw, hc⟩)
      simp only [Int.ofNat_eq_natCast]; omega
  · simp only [List.mem_cons, List.not_mem_nil, or_false] at hn; omega
theorem bytes_made : ∀ {ns : List Int}, AllB ns → ∃ b, b = (ns.map fun n => n.toNat.toUInt8).toArray ∧ KBw.bInts b = ns ∧ b.size = ns.length := by
  intro ns h
  refine ⟨_, rfl, ?_, by simp⟩
  induction ns with
  | nil => rfl
  | cons n r ih =>
    have e := ih h.tail
    unfold KBw.bInts at *
    simp only [List.map_cons, List.map_map] at *
    rw [h.head, e]
/-- what unescape has told behind each piece -/
theorem law_both (l : List Nat) (ks : List Int) (i : Nat) (w : List Nat) (hw : (piecesL (l.map refL).flatten ks)[i]? = some w) :
    (bothL ((piecesL (l.map refL).flatten ks).take (i + 1))).2 = (comeL ((edL ((piecesL (l.map refL).flatten ks).take (i + 1))).2 : Nat) l).1 := by
  refine both_law l _ ?_
  have h := pieces_flat (l.map refL).flatten ks
  have h2 := congrArg List.flatten (List.take_append_drop (i + 1) (piecesL (l.map refL).flatten ks))
  rw [List.flatten_append, h] at h2
  exact ⟨_, h2⟩
theorem law_alone (l : List Nat) (ks : List Int) : decide (aloneL (piecesL (l.map refL).flatten ks) = (tornL (edL (piecesL (l.map refL).flatten ks)).1 l).1) = true := decide_eq_true (alone_law l _ (pieces_flat (l.map refL).flatten ks))
theorem short_count {b : Array UInt8} {l : List Int} {n : Nat} {r : List Int} (h : KBw.bInts b = l ++ (n : Int) :: r) : (b.toList.getD l.length 0).toNat = n := by
  have e : (KBw.bInts b)[l.length]? = some (n : Int) := by rw [h]; simp
  unfold KBw.bInts at e
  rw [List.getElem?_map] at e
  rw [List.getD_eq_getElem?_getD]
  cases h2 : b.toList[l.length]? with
  | none => rw [h2] at e; simp at e
  | some c => rw [h2] at e; simp only [Option.map_some, Option.some.injEq, Option.getD_some] at *; omega
theorem text_eq (l : List Nat) : Str.ofString "<&" ++ S l = S (60 :: 38 :: l) := by
  have e : Str.ofString "<&" = S [60, 38] := by decide +kernel
  rw [e, S_app]; rfl
end Mine
end
section
open PySem PySem.W PyProof.Rows PySem.Spec PySem.Calls
namespace Mine
section
variable {prog : Program} {w : World} {A : Around} {E : Value → Shared → Prop} {s : Shared} {env : Env} {h₀ : Heap} {target : Expr} {body : List Stmt} {Q : Flow → Shared → Prop}
/-- a for over a list of the ledger with any target, by what holds between the turns -/
theorem loop_listT {σ : Type} {l : Addr} {vs : List Value} {nn : Nat} {m₀ : Str → Option Value} {news : List (Addr × Obj)} (Led : Nat → σ → List (Addr × Obj)) (ps : Nat → σ → List (Str × Value)) (P : Nat → σ → Prop) (c₀ : σ)
    (hh : A.handled = none) (hl : ∀ i c, (l, listOf vs.toArray nn) ∈ Led i c) (F : Fr h₀ env.locals s.heap m₀) (N : News h₀ env.locals s.heap news) (hsub : ∀ p ∈ Led 0 c₀, p ∈ news) (hp : P 0 c₀) (hk : ∀ q ∈ ps 0 c₀, m₀ q.1 = some q.2)
    (turn : ∀ i v c (u : Str → Option Value) h tk own (Q' : Flow → Shared → Prop), vs[i]? = some v → P i c → (∀ q ∈ own, ∀ b ∈ (Led i c).map (·.1), @Ne Nat q.1 b) →
      Fr h₀ env.locals h (kstB u (ps i c)) → News h₀ env.locals h (Led i c ++ own) →
      TurnEnd h₀ env.locals Led ps P (i + 1) own s Q' →
      (∀ v s', Q (.ret v) s' → Q' (.ret v) s') →
      wpAny (model prog w) A (assign target env v) (fun _ s₂ => wpAny (model prog w) A (execs body env) Q' E s₂) E { s with heap := h, toks := tk })
    (done : ∀ c (u : Str → Option Value) h tk, P vs.length c → Fr h₀ env.locals h (kstB u (ps vs.length c)) → News h₀ env.locals h (Led vs.length c) → Q .next { s with heap := h, toks := tk }) :
    wpAny (model prog w) A (pyIter (.ref l)) (fun it s₂ => TurnsAt prog w A h₀ env target body Q E it s₂) E s := by
  refine iter_listTurns (lo := listOf vs.toArray nn) (n := nn) (news := Led 0 c₀) hh F (fun p hp => N p (hsub p hp)) (hl 0 c₀) rfl rfl fun I hI => ?_
  have key : ∀ (r : List Value) (i : Nat) (c : σ) (m : Str → Option Value), i ≤ vs.length → vs.drop i = r → P i c → (∀ q ∈ ps i c, m q.1 = some q.2) → (∀ p ∈ Led i c, @Ne Nat p.1 I) →
      ItemsRest prog w A E h₀ env target body Q s [(I, "list_iterator")] [(l, listOf vs.toArray nn)] (r.map .val) m (Led i c) := by
    intro r
    induction r with
    | nil =>
      intro i c m hi hr hP hK _ h tk F₁ N₁
      have e : i = vs.length := by have := List.drop_eq_nil_iff.mp hr; omega
      subst e
      exact done c m h tk hP (by rw [kst_self hK]; exact F₁) N₁
    | cons v r ih =>
      intro i c m hi hr hP hK hoff
      have hlt : i < vs.length := by
        have := congrArg List.length hr
        rw [List.length_drop, List.length_cons] at this; omega
      have hv : vs[i]? = some v := by
        have := congrArg (fun l : List Value => l[0]?) hr
        simpa [List.getElem?_drop] using this
      have hr' : vs.drop (i + 1) = r := by
        rw [← List.drop_drop, hr]; rfl
      refine ItemsRest.val fun h tk F₁ o ho N₁ => ?_
      refine turn i v c m h tk [(I, o)] _ hv hP (fun q hq b hb => ?_) (by rw [kst_self hK]; exact F₁) (fun p hp => N₁ p ((List.mem_append.mp hp).elim (fun h => List.mem_append.mpr (.inr h)) fun h => List.mem_append.mpr (.inl h))) ?_ (fun _ _ hq => hq)
      · rw [List.mem_singleton.mp hq]
        obtain ⟨p, hp, rfl⟩ := List.mem_map.mp hb
        exact fun e => hoff p hp e.symm
      · intro f c' m' h' tk' hf hP' hK' hoff' F' N'
        have hn : ∀ p ∈ Led (i + 1) c', @Ne Nat p.1 I := fun p hp e => hoff' (I, o) (List.mem_singleton.mpr rfl) p.1 (List.mem_map.mpr ⟨p, hp, rfl⟩) e.symm
        have e : UnrEndW h₀ env.locals { s with heap := h, toks := tk } [(I, o)] (fun m' n' => SubL [(l, listOf vs.toArray nn)] n' ∧ ItemsRest prog w A E h₀ env target body Q s [(I, "list_iterator")] [(l, listOf vs.toArray nn)] (r.map .val) m' n') { s with heap := h', toks := tk' } := by
          refine ⟨h', tk', m', Led (i + 1) c', rfl, F', fun p hp => N' p ((List.mem_append.mp hp).elim (fun h => List.mem_append.mpr (.inr h)) fun h => List.mem_append.mpr (.inl h)), fun p hp q hq => by rw [List.mem_singleton.mp hq]; exact hn p hp, ⟨hl _ _, trivial⟩, ih (i + 1) c' m' hlt hr' hP' hK' hn⟩
        rcases hf with rfl | rfl
        · exact e
        · exact e
  have hne : ∀ p ∈ Led 0 c₀, @Ne Nat p.1 I := fun p hp => Nat.ne_of_lt (hI p hp)
  exact key vs 0 c₀ m₀ (Nat.zero_le _) rfl hp hk hne
end
section
variable {prog : Program} {w : World} {A : Around} {E : Value → Shared → Prop} {s : Shared} {h₀ : Heap} {L D : Addr} {m : Str → Option Value} {news news' : List (Addr × Obj)}
/-- any value at an open place of a list -/
theorem set_any {Q : Unit → Shared → Prop} {vs : List Value} {n : Nat} {k : Int} {t : Tok} {v : Value} (j : Nat) (F : Fr h₀ L s.heap m) (N : News h₀ L s.heap news) (U : Upd D (listOf vs.toArray n) (listOf (vs.set j v).toArray n) news news') (hk : k = (j : Nat)) (h1 : j < vs.length) (hfit : j < 2 ^ 63)
    (h : ∀ h', Fr h₀ L h' m → News h₀ L h' news' → Q () { s with heap := h' }) :
    wpAny (model prog w) A (setItem (.ref D) (.int k t) v) Q E s := by
  obtain ⟨pre, post, rfl, rfl, a, b⟩ := U.split
  have z := N _ (List.mem_append.mpr (.inr (.head _)))
  subst hk
  refine ki_setAt z.1 (by omega) (by omega) (by rw [List.size_toArray]; omega) (h _ (F.change (Heap.SameBut.update ..) z.2.1 z.2.2) (ki_turn _ N a b ?_ ?_))
  · apply Array.toList_inj.mp
    simp
  · simp
theorem strs_set {x : Str} {u : Tok} : ∀ {vs : List Value} {xs : List Str}, StrsAre vs xs → ∀ j : Nat, StrsAre (vs.set j (.str x u)) (xs.set j x)
  | _, _, .nil, _ => .nil
  | _, _, .cons _ _ h, 0 => .cons x u h
  | _, _, .cons x' t h, j + 1 => .cons x' t (strs_set h j)
theorem strs_setS {u : Tok} {vs : List Value} {xs : List (List Nat)} (h : StrsAre vs (xs.map S)) (j : Nat) (x : List Nat) : StrsAre (vs.set j (.str (S x) u)) ((xs.set j x).map S) := by
  rw [List.map_set]; exact strs_set h j
theorem item_strs {value slice : Expr} {vs : List Value} {xs : List (List Nat)} {n : Nat} {k : Int} {u : Tok} {Q : Value → Shared → Prop} (j : Nat) (N : News h₀ L s.heap news) (hm : (D, listOf vs.toArray n) ∈ news) (hw : StrsAre vs (xs.map S)) (hk : k = (j : Nat)) (h1 : j < xs.length) (hfit : j < 2 ^ 63)
    (h : ∀ t, Q (.str (S (xs.getD j [])) t) s)
    (hs : subscripted slice false (.ref D) (.int k u) = operate [.ref D, .int k u] (getItem (.ref D) (.int k u)) := by with_unfolding_all rfl) (hg : ∀ r, letTemporaryGo value (.ref D) r = pure () := by intro _; with_unfolding_all rfl) :
    wpAny (model prog w) A (subscriptTail value slice (.ref D) (.int k u)) Q E s := by
  subst hk
  obtain ⟨t, e⟩ := hw.get j (S (xs.getD j [])) (by rw [List.getElem?_map, List.getD_eq_getElem?_getD, List.getElem?_eq_getElem h1]; rfl)
  exact item_list (News.isList N hm) (by omega) (by omega) (by simpa using e) (h t) hs hg
theorem news_second {h : Heap} {a b : Addr} {o o2 : Obj} {r : List (Addr × Obj)} (N9 : News h₀ L h ((a, o) :: (b, o2) :: r)) : ∃ l5 : Addr, l5 = b := ⟨b, rfl⟩
end
theorem chr_any {prog : Program} {w : World} {A : Around} {E : Value → Shared → Prop} {s : Shared} {i : Int} {t : Tok} {Q : Value → Shared → Prop} (j : Nat) (hk : i = (j : Nat)) (hj : j ≤ 100000) (h : ∀ t k, Q (.str (S [j]) t) { s with toks := k }) :
    wpAny (model prog w) A (call (.builtin "chr") [.int i t]) Q E s := by
  subst hk
  refine PySem.P.chr_of_int ?_ (h _ _)
  rw [Bool.or_eq_false_iff]
  constructor
  · rw [decide_eq_false_iff_not]; omega
  · rw [decide_eq_false_iff_not]; omega
end Mine
end
section
open PySem PySem.W PyProof.Rows PySem.Spec PySem.Calls
namespace Mine
section
variable {prog : Program} {w : World} {A : Around} {E : Value → Shared → Prop} {s : Shared} {env : Env} {h₀ : Heap} {x : Str} {body : List Stmt} {Q : Flow → Shared → Prop}
/-- a for over a range of any length and step -/
theorem loop_range {σ : Type} {r : Addr} {a₀ b₀ c₁ : Int} {t₀ u₀ v₀ : Tok} {n : Nat} {m₀ : Str → Option Value} {news : List (Addr × Obj)} (Led : Nat → σ → List (Addr × Obj)) (ps : Nat → σ → List (Str × Value)) (P : Nat → σ → Prop) (c₀ : σ) (adr : List Addr)
    (hh : A.handled = none) (hr : IsRange s.heap r a₀ b₀ c₁ t₀ u₀ v₀) (hsmall : Builtin.Range.small a₀ b₀ c₁ = true) (hsz : Builtin.Range.rangeSize a₀ b₀ c₁ = (n : Int))
    (hadr : ∀ i c, (Led i c).map (·.1) = adr) (F : Fr h₀ env.locals s.heap m₀) (N : News h₀ env.locals s.heap news) (hsub : ∀ p ∈ Led 0 c₀, p ∈ news) (hp : P 0 c₀) (hk : ∀ q ∈ ps 0 c₀, m₀ q.1 = some q.2)
    (turn : ∀ (i : Nat) t c (u : Str → Option Value) h tk own (Q' : Flow → Shared → Prop), i < n → P i c → (∀ q ∈ own, ∀ b ∈ (Led i c).map (·.1), @Ne Nat q.1 b) →
      Fr h₀ env.locals h (fun y => if y = x then some (.int (a₀ + (i : Int) * c₁) t) else kstB u (ps i c) y) → News h₀ env.locals h (Led i c ++ own) →
      TurnEnd h₀ env.locals Led ps P (i + 1) own s Q' →
      (∀ v s', Q (.ret v) s' → Q' (.ret v) s') →
      wpAny (model prog w) A (execs body env) Q' E { s with heap := h, toks := tk })
    (done : ∀ c (u : Str → Option Value) h tk, P n c → Fr h₀ env.locals h (kstB u (ps n c)) → News h₀ env.locals h (Led n c) → Q .next { s with heap := h, toks := tk }) :
    wpAny (model prog w) A (pyIter (.ref r)) (fun it s₂ => LoopAtV prog w A h₀ env x body Q E it s₂) E s := by
  refine wpAny_pyIter_range hr hsmall ?_
  have W := Walks.range (prog := prog) (w := w) hh s.heap.objs.size a₀ c₁ n
  have N₀ : News h₀ env.locals s.heap (Led 0 c₀) := fun p hp => N p (hsub p hp)
  have fresh : ∀ p ∈ Led 0 c₀, p.1 ∉ [s.heap.objs.size] := fun p hp hI =>
    absurd (Heap.lt_size (N₀ p hp).1) ((List.mem_singleton.mp hI) ▸ Nat.lt_irrefl _)
  refine loop_invN (fun i m nx => ∃ c, nx = Led i c ∧ P i c ∧ ∀ q ∈ ps i c, m q.1 = some q.2) W ?_ ?_ fresh fresh (by show IsRangeIter _ _ _ _ _; rw [hsz]; simpa using Heap.get?_push_size _ rfl) (F.push _) (fun p hp => ⟨Heap.get?_push_of_some _ (N₀ p hp).1, (N₀ p hp).2⟩) ⟨c₀, rfl, hp, hk⟩ ?_ ?_
  · intro hm
    exact absurd F.ns.lt ((List.mem_singleton.mp hm) ▸ Nat.lt_irrefl _)
  · intro b' hb
    rw [List.mem_singleton.mp hb]
    exact next_is_new F
  · rintro i v m₁ nx h tk own hi ⟨t, rfl⟩ _ hoff ⟨c, rfl, hP, hK⟩ F₁ N₁
    rw [hadr 0 c₀] at hoff ⊢
    refine turn i t c m₁ h tk own _ hi hP ?_ ?_ N₁ ?_ ?_
    · rw [hadr i c]; exact hoff
    · rw [kst_self hK]; exact F₁
    · intro f c' m' h' tk' hf hP' hK' hoff' F' N'
      have e : InvEndN h₀ env.locals (fun m nx => ∃ c, nx = Led (i + 1) c ∧ P (i + 1) c ∧ ∀ q ∈ ps (i + 1) c, m q.1 = some q.2) own adr { s with heap := h, toks := tk } { s with heap := h', toks := tk' } :=
        ⟨h', tk', m', _, Led (i + 1) c', rfl, F', N', fun p hp => List.mem_append.mpr (.inl hp), fun p hp => List.mem_append.mpr (.inr hp), hadr _ _, c', rfl, hP', hK'⟩
      rcases hf with rfl | rfl
      · exact e
      · exact e
    · intro v s' hq; exact hq
  · rintro m₁ nx h tk ⟨c, rfl, hP, hK⟩ F₁ N₁
    exact done c m₁ h tk hP (by rw [kst_self hK]; exact F₁) N₁
/-- how a turn of a while ends -/
abbrev WEnd {σ : Type} (h₀ : Heap) (L : Addr) (Led : σ → List (Addr × Obj)) (ps : σ → List (Str × Value)) (P : σ → Prop) (μ : σ → Nat) (c : σ) (s : Shared) (Q' : Flow → Shared → Prop) : Prop :=
  ∀ f c' (m' : Str → Option Value) h' tk', (f = .next ∨ f = .cont) → P c' → (∀ q ∈ ps c', m' q.1 = some q.2) → μ c' < μ c → Fr h₀ L h' m' → News h₀ L h' (Led c') → Q' f { s with heap := h', toks := tk' }
/-- a while, by what holds between the turns and a measure -/
theorem loop_while {σ : Type} {test : Expr} {body : List Stmt} {pos : Pos} {m₀ : Str → Option Value} {news : List (Addr × Obj)} (Led : σ → List (Addr × Obj)) (ps : σ → List (Str × Value)) (P : σ → Prop) (μ : σ → Nat) (c₀ : σ)
    (F : Fr h₀ env.locals s.heap m₀) (N : News h₀ env.locals s.heap news) (hsub : ∀ p ∈ Led c₀, p ∈ news) (hp : P c₀) (hk : ∀ q ∈ ps c₀, m₀ q.1 = some q.2)
    (turn : ∀ c (u : Str → Option Value) h tk (Q' : Flow → Shared → Prop), P c → Fr h₀ env.locals h (kstB u (ps c)) → News h₀ env.locals h (Led c) →
      WEnd h₀ env.locals Led ps P μ c s Q' → (∀ v s', Q (.ret v) s' → Q' (.ret v) s') →
      wpAny (model prog w) A (isTrue test env (eval test env)) (fun b s₂ => if b = true then wpAny (model prog w) A (execs body env) Q' E s₂ else Q .next s₂) E { s with heap := h, toks := tk })
    (hE : PassesOwn (model prog w) A env E := by passes_own) :
    wpAny (model prog w) A (exec (.While test body [] pos) env) Q E s := by
  refine While_inv2 (fun n m nx => ∃ c, nx = Led c ∧ μ c = n ∧ P c ∧ ∀ q ∈ ps c, m q.1 = some q.2) (n₀ := μ c₀) F (news := Led c₀) (fun p hp => N p (hsub p hp)) ⟨c₀, rfl, rfl, hp, hk⟩ ?_ hE
  rintro n m₁ nx h tk F₁ N₁ ⟨c, rfl, rfl, hP, hK⟩
  refine turn c m₁ h tk _ hP (by rw [kst_self hK]; exact F₁) N₁ ?_ (fun _ _ hq => hq)
  intro f c' m' h' tk' hf hP' hK' hlt F' N'
  rcases hf with rfl | rfl
  · exact ⟨h', tk', m', Led c', μ c', rfl, F', N', hlt, c', rfl, rfl, hP', hK'⟩
  · exact ⟨h', tk', m', Led c', μ c', rfl, F', N', hlt, c', rfl, rfl, hP', hK'⟩
end
theorem off1_all {D : Addr} : ∀ {l : List (Addr × Obj)}, LCg.Off1 D l → ∀ p ∈ l, @Ne Nat p.1 D
  | [], _, _, hp => nomatch hp
  | _ :: _, h, p, hp => (List.mem_cons.mp hp).elim (fun e => e ▸ h.1) (off1_all h.2 p)
section
variable {prog : Program} {w : World} {A : Around} {E : Value → Shared → Prop} {s : Shared}
theorem len_at {l : Addr} {items : Array Value} {Q : Value → Shared → Prop} (j : Nat) (hl : s.heap.IsList l items) (hj : items.size = j) (hfit : j ≤ 100000)
    (h : ∀ t k, Q (.int (j : Nat) t) { s with toks := k }) : wpAny (model prog w) A (call (.builtin "len") [.ref l]) Q E s := by
  subst hj
  exact len_list hl (by omega) (h _ _)
end
end Mine
end
section
open PySem PySem.W PyProof.Rows PySem.Spec PySem.Calls
namespace Mine
/-- _law_deep -/
def ampL (k : Nat) : List Nat := (List.replicate k [97, 109, 112, 59]).flatten
def deepL (n k : Nat) : List Nat := if k = 0 then [n] else if n = 38 then 38 :: ampL k else if n = 60 then 38 :: (ampL (k - 1) ++ [108, 116, 59]) else if n = 62 then 38 :: (ampL (k - 1) ++ [103, 116, 59]) else [n]
theorem mul_amp' : ∀ k : Fin 11, Txt.mul (Str.ofString "amp;") ((k.val : Nat) : Int) = S (ampL k.val) := by decide +kernel
theorem mul_amp {k : Int} {n : Nat} (h : k = (n : Nat)) (hn : n ≤ 10) : Txt.mul (Str.ofString "amp;") k = S (ampL n) := by
  subst h
  exact mul_amp' ⟨n, by omega⟩
theorem deep_0 {n k : Nat} (h : (k : Int) = 0) : S (deepL n k) = ⟨#[n]⟩ := by
  have : k = 0 := by omega
  subst this; rfl
theorem deep_38 {n k : Nat} (h : (k : Int) ≠ 0) (hk : k ≤ 10) (hn : n = 38) : S (deepL n k) = Str.ofString "&" ++ Txt.mul (Str.ofString "amp;") (k : Nat) := by
  rw [mul_amp rfl hk, show Str.ofString "&" = S [38] from by decide +kernel, S_app]
  unfold deepL
  rw [if_neg (by omega), if_pos hn]; rfl
theorem deep_60 {n k : Nat} (h : (k : Int) ≠ 0) (hk : k ≤ 10) (hn : n = 60) : S (deepL n k) = Str.ofString "&" ++ Txt.mul (Str.ofString "amp;") ((k : Nat) - 1) ++ Str.ofString "lt;" := by
  rw [mul_amp (n := k - 1) (by omega) (by omega), show Str.ofString "&" = S [38] from by decide +kernel, show Str.ofString "lt;" = S [108, 116, 59] from by decide +kernel, S_app, S_app]
  unfold deepL
  rw [if_neg (by omega), if_neg (by omega), if_pos hn]; rfl
theorem deep_62 {n k : Nat} (h : (k : Int) ≠ 0) (hk : k ≤ 10) (hn : n = 62) : S (deepL n k) = Str.ofString "&" ++ Txt.mul (Str.ofString "amp;") ((k : Nat) - 1) ++ Str.ofString "gt;" := by
  rw [mul_amp (n := k - 1) (by omega) (by omega), show Str.ofString "&" = S [38] from by decide +kernel, show Str.ofString "gt;" = S [103, 116, 59] from by decide +kernel, S_app, S_app]
  unfold deepL
  rw [if_neg (by omega), if_neg (by omega), if_neg (by omega), if_pos hn]; rfl
theorem deep_no {n k : Nat} (h1 : ¬ n = 38) (h2 : ¬ n = 60) (h3 : ¬ n = 62) : S (deepL n k) = ⟨#[n]⟩ := by
  unfold deepL
  rw [if_neg h1, if_neg h2, if_neg h3]
  split <;> rfl
section
variable {prog : Program} {w : World} {A : Around} {E : Value → Shared → Prop} {s : Shared}
theorem item_list_neg {value slice : Expr} {l : Addr} {items : Array Value} {k : Int} {u : Tok} {x : Value} {Q : Value → Shared → Prop} (hl : s.heap.IsList l items)
    (h0 : k < 0) (h1 : -(items.size : Int) ≤ k) (hfit : -(2 ^ 63) ≤ k) (hx : items[(k + items.size).toNat]? = some x) (h : Q x s)
    (hs : subscripted slice false (.ref l) (.int k u) = operate [.ref l, .int k u] (getItem (.ref l) (.int k u)) := by with_unfolding_all rfl) (hg : ∀ r, letTemporaryGo value (.ref l) r = pure () := by intro _; with_unfolding_all rfl) :
    wpAny (model prog w) A (subscriptTail value slice (.ref l) (.int k u)) Q E s :=
  subscriptTail_builtin hl.typeIs slot_list_getitem.lookup (wpAny_getItem_list_neg hl h0 h1 hfit hx h) hs hg
end
theorem two_sub {α : Type} {x0 a b c : α} {t : List α} : ∀ p ∈ x0 :: c :: ([a, b] ++ t), p ∈ x0 :: a :: b :: c :: t := by
  intro p hp
  simp only [List.cons_append, List.nil_append, List.mem_cons] at hp ⊢
  rcases hp with h | h | h | h | h <;> simp [h]
theorem two_ne {P : Addr × Obj → Prop} {a b : Addr × Obj} (h1 : P a) (h2 : P b) : ∀ t ∈ [a, b], P t := by
  intro t ht
  rcases List.mem_cons.mp ht with rfl | ht
  · exact h1
  · rw [List.mem_singleton.mp ht]; exact h2
/-- _law_rows: (depth, label) -/
def rowD (r : Nat × Nat) : Dat := .tuple [.int (r.1 : Nat), .str ⟨#[r.2]⟩]
def lastD (rows : List (Nat × Nat)) : Nat := (rows.getD (rows.length - 1) (0, 0)).1
def rowOf (last : Nat) (k : Int) : Nat × Nat := (2 + (Int.fmod (Int.fmod k 6) (min last 3 : Nat)).toNat, [38, 60, 62, 59, 97].getD (Int.fdiv k 6).toNat 0)
def rowsStep (rows : List (Nat × Nat)) (k : Int) : List (Nat × Nat) := rows ++ [rowOf (lastD rows) k]
def rowsL (ks : List Int) : List (Nat × Nat) := ks.foldl rowsStep [(1, 38), (2, 60)]
abbrev tupO (vs : List Value) (n : Nat) : Obj := { cls := .type "tuple", data := .seq vs.toArray n }
theorem row_in {news : List (Addr × Obj)} {v : Value} {r : Nat × Nat} (h : DatIn news v (rowD r)) : ∃ a n t1 t2, v = .ref a ∧ (a, tupO [.int (r.1 : Nat) t1, .str ⟨#[r.2]⟩ t2] n) ∈ news := by
  unfold rowD at h
  cases h with
  | tuple hm hall =>
    cases hall with
    | cons h1 hr =>
      cases h1
      cases hr with
      | cons h2 hn =>
        cases h2
        cases hn
        exact ⟨_, _, _, _, rfl, hm⟩
theorem rows_at {news : List (Addr × Obj)} {us : List Value} {rows : List (Nat × Nat)} (h : DatAll news us (rows.map rowD)) {i : Nat} {r : Nat × Nat} (hr : rows[i]? = some r) :
    ∃ a n t1 t2, us[i]? = some (.ref a) ∧ (a, tupO [.int (r.1 : Nat) t1, .str ⟨#[r.2]⟩ t2] n) ∈ news := by
  have hi : i < (rows.map rowD).length := by
    rw [List.length_map]
    exact (List.getElem?_eq_some_iff.mp hr).1
  obtain ⟨v, hv, hd⟩ := h.get hi
  have e : (rows.map rowD)[i] = rowD r := by
    rw [List.getElem_map]
    congr 1
    exact (List.getElem?_eq_some_iff.mp hr).2
  rw [e] at hd
  obtain ⟨a, n, t1, t2, rfl, hm⟩ := row_in hd
  exact ⟨a, n, t1, t2, hv, hm⟩
theorem rows_last {news : List (Addr × Obj)} {us : List Value} {rows : List (Nat × Nat)} (h : DatAll news us (rows.map rowD)) (hn : 0 < rows.length) :
    ∃ a n t1 t2, us.toArray[(-1 + (us.toArray.size : Int)).toNat]? = some (.ref a) ∧ (a, tupO [.int (lastD rows : Nat) t1, .str ⟨#[(rows.getD (rows.length - 1) (0, 0)).2]⟩ t2] n) ∈ news := by
  have hr : rows[rows.length - 1]? = some (rows.getD (rows.length - 1) (0, 0)) := by
    rw [List.getD_eq_getElem?_getD, List.getElem?_eq_getElem (by omega)]; rfl
  obtain ⟨a, n, t1, t2, hu, hm⟩ := rows_at h hr
  have hl := h.length
  rw [List.length_map] at hl
  refine ⟨a, n, t1, t2, ?_, hm⟩
  have e : (-1 + (us.toArray.size : Int)).toNat = rows.length - 1 := by rw [List.size_toArray, hl]; omega
  rw [e]
  simpa using hu
theorem rowOf_bound {last : Nat} {k : Int} (h : 2 ≤ last) : 2 ≤ (rowOf last k).1 ∧ (rowOf last k).1 ≤ 4 ∧ (rowOf last k).1 ≤ last + 1 := by
  unfold rowOf
  dsimp only
  have h1 := Int.fmod_nonneg_of_pos (Int.fmod k 6) (b := (min last 3 : Nat)) (by omega)
  have h2 := Int.fmod_lt_of_pos (Int.fmod k 6) (b := (min last 3 : Nat)) (by omega)
  generalize Int.fmod (Int.fmod k 6) (min last 3 : Nat) = j at *
  omega
theorem rowsL_snoc (ks : List Int) (k : Int) : rowsL (ks ++ [k]) = rowsStep (rowsL ks) k := by simp [rowsL]
theorem rowsL_len (ks : List Int) : (rowsL ks).length = ks.length + 2 := by
  have h : ∀ (ks : List Int) (c : List (Nat × Nat)), (ks.foldl rowsStep c).length = c.length + ks.length := by
    intro ks
    induction ks with
    | nil => intro c; simp
    | cons k r ih => intro c; simp only [List.foldl_cons]; rw [ih]; simp [rowsStep]; omega
  unfold rowsL; rw [h]; simp; omega
theorem lastD_snoc (rows : List (Nat × Nat)) (r : Nat × Nat) : lastD (rows ++ [r]) = r.1 := by
  unfold lastD
  simp
theorem rowsL_last (ks : List Int) : 2 ≤ lastD (rowsL ks) ∧ lastD (rowsL ks) ≤ 4 := by
  generalize hr : ks.reverse = rk
  induction rk generalizing ks with
  | nil =>
    have : ks = [] := by simpa using hr
    subst this; decide
  | cons k r ih =>
    have e : ks = r.reverse ++ [k] := by
      have := congrArg List.reverse hr
      simpa using this
    rw [e, rowsL_snoc]
    unfold rowsStep
    rw [lastD_snoc]
    have h1 := ih r.reverse (by simp)
    have h2 := rowOf_bound (k := k) h1.1
    omega
theorem row_dat {news : List (Addr × Obj)} {a : Addr} {n : Nat} {r : Nat × Nat} {z : Int} {x : Str} {t1 t2 : Tok} (hm : (a, tupO [.int z t1, .str x t2] n) ∈ news) (hz : z = (r.1 : Nat)) (hx : x = ⟨#[r.2]⟩) : DatIn news (.ref a) (rowD r) := by
  subst hz; subst hx; exact .tuple hm (.cons (.int _ _) (.cons (.str _ _) .nil))
theorem row_int {last : Nat} {k : Int} (h : 2 ≤ last) : 2 + (k.fmod 6).fmod (if 3 < (last : Int) then 3 else (last : Int)) = ((rowOf last k).1 : Nat) := by
  have e : (if 3 < (last : Int) then 3 else (last : Int)) = ((min last 3 : Nat) : Int) := by split <;> omega
  rw [e]
  unfold rowOf
  dsimp only
  have h1 := Int.fmod_nonneg_of_pos (Int.fmod k 6) (b := (min last 3 : Nat)) (by omega)
  omega
theorem item_any {l : List Nat} {k : Int} (h0 : 0 ≤ k) (h1 : k < l.length) : Txt.item (S l) k = ⟨#[l.getD k.toNat 0]⟩ := by
  obtain ⟨n, rfl⟩ := Int.eq_ofNat_of_zero_le h0
  have hn : n < l.length := by omega
  unfold Txt.item
  congr 2
  have h2 : (S l).cps[n]? = some l[n] := by
    show l.toArray[n]? = _
    simp [hn]
  unfold Txt.charAt
  rw [StrLaws.at_nonneg h0 (by simpa using h2)]
  simp [List.getD_eq_getElem?_getD, hn]
theorem row_lab {last : Nat} {k : Int} (h0 : 0 ≤ k) (h1 : k < 30) : Txt.item (Str.ofString "&<>;a") (k.fdiv 6) = ⟨#[(rowOf last k).2]⟩ := by
  have e : Str.ofString "&<>;a" = S [38, 60, 62, 59, 97] := by decide +kernel
  have e2 := Int.fdiv_eq_ediv_of_nonneg k (by decide : (0:Int) ≤ 6)
  rw [e, item_any (by omega) (by simp only [List.length_cons, List.length_nil]; omega)]
  rfl
theorem led_rows {g h : Heap} {L : Addr} {d l p : Addr × Obj} {tups rest own : List (Addr × Obj)} (N : News g L h (d :: l :: p :: (tups ++ rest ++ own))) : News g L h ((l :: p :: ((d :: tups) ++ rest)) ++ own) := by
  refine cb_drop N (fun q hq => ?_)
  simp only [List.mem_cons, List.mem_append, List.cons_append] at hq ⊢
  rcases hq with h | h | h | h
  · simp [h]
  · simp [h]
  · simp [h]
  · rcases h with (h | h) | h <;> simp [h]
theorem off_rows {own : List (Addr × Obj)} {d l p : Addr × Obj} {tups rest : List (Addr × Obj)} (hoff : ∀ q ∈ own, ∀ b ∈ l.1 :: p.1 :: (tups ++ rest).map (·.1), @Ne Nat q.1 b) (hd : ∀ q ∈ tups ++ rest ++ own, @LT.lt Nat _ q.1 d.1) :
    ∀ q ∈ own, ∀ b ∈ (l :: p :: ((d :: tups) ++ rest)).map (·.1), @Ne Nat q.1 b := by
  intro q hq b hb
  simp only [List.map_cons, List.cons_append, List.mem_cons] at hb
  rcases hb with h | h | h | h
  · exact hoff q hq b (by simp [h])
  · exact hoff q hq b (by simp [h])
  · rw [h]; exact Nat.ne_of_lt (hd q (List.mem_append_right _ hq))
  · exact hoff q hq b (.tail _ (.tail _ h))
theorem ne_cons {a : Addr × Obj} {l : Nat} {t : List (Addr × Obj)} (h1 : @Ne Nat a.1 l) (h2 : ∀ q ∈ t, @Ne Nat q.1 l) : ∀ q ∈ a :: t, @Ne Nat q.1 l := fun q hq =>
  (List.mem_cons.mp hq).elim (fun e => e ▸ h1) (h2 q)
/-- _law_packed -/
def innerStep (I : List (List Nat)) (r : Nat × Nat) : List (List Nat) :=
  (I.set (r.1 + 1) []).set r.1 ((escL (r.2 :: I.getD (r.1 + 1) [])).length :: (escL (r.2 :: I.getD (r.1 + 1) []) ++ (I.set (r.1 + 1) []).getD r.1 []))
def innerR (rs : List (Nat × Nat)) : List (List Nat) := rs.foldl innerStep (List.replicate 6 [])
theorem innerR_snoc (rs : List (Nat × Nat)) (r : Nat × Nat) : innerR (rs ++ [r]) = innerStep (innerR rs) r := by simp [innerR]
theorem innerR_len (rs : List (Nat × Nat)) : (innerR rs).length = 6 := by
  have h : ∀ (rs : List (Nat × Nat)) (I : List (List Nat)), (rs.foldl innerStep I).length = I.length := by
    intro rs
    induction rs with
    | nil => intro I; rfl
    | cons r q ih => intro I; rw [List.foldl_cons, ih]; simp [innerStep]
  unfold innerR; rw [h]; rfl
theorem strs_six {t1 t2 t3 t4 t5 t6 : Tok} : StrsAre [.str (Str.ofString "") t1, .str (Str.ofString "") t2, .str (Str.ofString "") t3, .str (Str.ofString "") t4, .str (Str.ofString "") t5, .str (Str.ofString "") t6] ((innerR []).map S) := by
  have e : (innerR []).map S = [Str.ofString "", Str.ofString "", Str.ofString "", Str.ofString "", Str.ofString "", Str.ofString ""] := by
    rw [← S_nil]; rfl
  rw [e]
  exact .cons _ _ (.cons _ _ (.cons _ _ (.cons _ _ (.cons _ _ (.cons _ _ .nil)))))
theorem getD_le {I : List (List Nat)} {B : Nat} (h : ∀ w ∈ I, w.length ≤ B) (k : Nat) : (I.getD k []).length ≤ B := by
  rw [List.getD_eq_getElem?_getD]
  cases e : I[k]? with
  | none => simp
  | some w => exact h w (List.mem_of_getElem? e)
theorem row_inS {news : List (Addr × Obj)} {us : List Value} {rows : List (Nat × Nat)} (h : DatAll news us (rows.map rowD)) {i : Nat} {v : Value} (hv : us.reverse[i]? = some v) :
    ∃ r a n t1 t2, rows.reverse[i]? = some r ∧ v = .ref a ∧ (a, tupO [.int (r.1 : Nat) t1, .str (S [r.2]) t2] n) ∈ news := by
  have hl := h.length
  rw [List.length_map] at hl
  have hi : i < us.length := by
    have := (List.getElem?_eq_some_iff.mp hv).1
    rwa [List.length_reverse] at this
  rw [List.getElem?_reverse hi] at hv
  have hj : us.length - 1 - i < rows.length := by omega
  obtain ⟨a, n, t1, t2, hu, hm⟩ := rows_at h (List.getElem?_eq_getElem hj)
  rw [hu] at hv
  refine ⟨rows[us.length - 1 - i], a, n, t1, t2, ?_, (Option.some.inj hv).symm, hm⟩
  rw [List.getElem?_reverse (by omega), ← hl]
  exact List.getElem?_eq_getElem hj
theorem escL_le (l : List Nat) : (escL l).length ≤ 5 * l.length := by rw [esc_flat]; exact refs_len l
theorem take_snocR {α : Type} {l : List α} {i : Nat} {n : α} (h : l[i]? = some n) : l.take (i + 1) = l.take i ++ [n] := by
  rw [List.take_add_one, h]; rfl
theorem map_getD {I : List (List Nat)} {k : Nat} {d : Str} (h : k < I.length) : (I.map S).getD k d = S (I.getD k []) := by
  rw [List.getD_eq_getElem?_getD, List.getD_eq_getElem?_getD, List.getElem?_map, List.getElem?_eq_getElem h]; rfl
/-- _law_counts -/
def sumW (d : Nat) : List (Nat × Nat) → List Nat → Nat
  | (e, l) :: r, c :: cs => if d < e then (deepL c (e - d)).length + (deepL l (e - d + 1)).length + sumW d r cs else 0
  | _, _ => 0
def cntsL : List (Nat × Nat) → List Nat
  | [] => []
  | (d, l) :: r => ((deepL l 1).length + sumW d r (cntsL r)) :: cntsL r
theorem cntsL_len : ∀ rows : List (Nat × Nat), (cntsL rows).length = rows.length
  | [] => rfl
  | (d, l) :: r => by simp [cntsL, cntsL_len r]
theorem cntsL_drop : ∀ (rows : List (Nat × Nat)) (j : Nat), cntsL (rows.drop j) = (cntsL rows).drop j
  | [], j => by simp [cntsL]
  | (d, l) :: r, 0 => rfl
  | (d, l) :: r, j + 1 => by simp only [List.drop_succ_cons, cntsL]; exact cntsL_drop r j
/-- the list of the counts when i of them are known -/
def cwL (rows : List (Nat × Nat)) (i : Nat) : List Nat := List.replicate (rows.length - i) 0 ++ (cntsL rows).drop (rows.length - i)
theorem cwL_len {rows : List (Nat × Nat)} {i : Nat} (hi : i ≤ rows.length) : (cwL rows i).length = rows.length := by
  unfold cwL
  rw [List.length_append, List.length_replicate, List.length_drop, cntsL_len]; omega
theorem cwL_full (rows : List (Nat × Nat)) : cwL rows rows.length = cntsL rows := by
  unfold cwL; rw [Nat.sub_self]; rfl
theorem cwL_at {rows : List (Nat × Nat)} {i j : Nat} (hi : i ≤ rows.length) (h : rows.length - i ≤ j) : (cwL rows i).getD j 0 = (cntsL rows).getD j 0 := by
  unfold cwL
  rw [List.getD_eq_getElem?_getD, List.getD_eq_getElem?_getD, List.getElem?_append_right (by rw [List.length_replicate]; exact h), List.length_replicate, List.getElem?_drop]
  congr 2
  omega
theorem zeros_eq (us : List Value) (rows : List (Nat × Nat)) (h : us.length = rows.length) : (us.map fun _ => (0 : Int)) = (cwL rows 0).map Int.ofNat := by
  unfold cwL
  have : (cntsL rows).drop (rows.length - 0) = [] := by rw [List.drop_eq_nil_iff, cntsL_len]; omega
  rw [this, List.append_nil, Nat.sub_zero, ← h, List.map_replicate]
  rw [List.map_const']; rfl
theorem rows_atD {news : List (Addr × Obj)} {us : List Value} {rows : List (Nat × Nat)} (h : DatAll news us (rows.map rowD)) {i : Nat} (hi : i < rows.length) :
    ∃ a n t1 t2, us[i]? = some (.ref a) ∧ (a, tupO [.int ((rows.getD i (0, 0)).1 : Nat) t1, .str (S [(rows.getD i (0, 0)).2]) t2] n) ∈ news := by
  have e : rows[i]? = some (rows.getD i (0, 0)) := by
    rw [List.getD_eq_getElem?_getD, List.getElem?_eq_getElem hi]; rfl
  exact rows_at h e
theorem getD_mem {rows : List (Nat × Nat)} {i : Nat} (hi : i < rows.length) : rows.getD i (0, 0) ∈ rows := by
  rw [List.getD_eq_getElem?_getD, List.getElem?_eq_getElem hi]; exact List.getElem_mem hi
theorem ampL_len (k : Nat) : (ampL k).length = 4 * k := by
  unfold ampL
  induction k with
  | zero => rfl
  | succ k ih => rw [List.replicate_succ, List.flatten_cons, List.length_append, ih]; simp; omega
theorem deepL_le (n k : Nat) : (deepL n k).length ≤ 4 * k + 5 := by
  unfold deepL
  have h1 := ampL_len k
  have h2 := ampL_len (k - 1)
  repeat' split
  all_goals simp only [List.length_cons, List.length_nil, List.length_append]
  all_goals omega
theorem drop_getD {rows : List (Nat × Nat)} {j : Nat} (hj : j < rows.length) : rows.drop j = rows.getD j (0, 0) :: rows.drop (j + 1) := by
  rw [List.drop_eq_getElem_cons hj]
  congr 1
  rw [List.getD_eq_getElem?_getD, List.getElem?_eq_getElem hj]; rfl
theorem cnts_at {rows : List (Nat × Nat)} {j : Nat} (hj : j < rows.length) : (cntsL rows).getD j 0 = (deepL (rows.getD j (0, 0)).2 1).length + sumW (rows.getD j (0, 0)).1 (rows.drop (j + 1)) (cntsL (rows.drop (j + 1))) := by
  have e := cntsL_drop rows j
  rw [drop_getD hj] at e
  have h0 := congrArg (fun l : List Nat => l.getD 0 0) e
  simp only [List.getD_eq_getElem?_getD, List.getElem?_drop, Nat.add_zero] at h0
  rw [List.getD_eq_getElem?_getD, ← h0]
  rfl
/-- one turn of the inner while -/
theorem sumW_step {rows : List (Nat × Nat)} {j d : Nat} (hj : j < rows.length) (hd : d < (rows.getD j (0, 0)).1) :
    sumW d (rows.drop j) (cntsL (rows.drop j)) = (deepL ((cntsL rows).getD j 0) ((rows.getD j (0, 0)).1 - d)).length + (deepL (rows.getD j (0, 0)).2 ((rows.getD j (0, 0)).1 - d + 1)).length + sumW d (rows.drop (j + 1)) (cntsL (rows.drop (j + 1))) := by
  rw [cnts_at hj, drop_getD hj]
  generalize rows.getD j (0, 0) = r at *
  obtain ⟨e, l⟩ := r
  rw [cntsL, sumW, if_pos hd]
theorem sumW_stop {rows : List (Nat × Nat)} {j d : Nat} (h : rows.length ≤ j ∨ (rows.getD j (0, 0)).1 ≤ d) : sumW d (rows.drop j) (cntsL (rows.drop j)) = 0 := by
  by_cases hj : j < rows.length
  · have hd : ¬ d < (rows.getD j (0, 0)).1 := by omega
    rw [drop_getD hj]
    generalize rows.getD j (0, 0) = r at *
    obtain ⟨e, l⟩ := r
    rw [cntsL, sumW, if_neg hd]
  · rw [List.drop_eq_nil_of_le (by omega)]; rfl
theorem cwL_next {rows : List (Nat × Nat)} {i k : Nat} (hi : i < rows.length) (hk : k = rows.length - 1 - i) : cwL rows (i + 1) = (cwL rows i).set k ((cntsL rows).getD k 0) := by
  unfold cwL
  have e1 : rows.length - i = k + 1 := by omega
  have e2 : rows.length - (i + 1) = k := by omega
  rw [e1, e2, List.replicate_succ', List.append_assoc, List.set_append_right _ _ (by simp), List.length_replicate, Nat.sub_self]
  congr 1
  have hl := cntsL_len rows
  rw [List.drop_eq_getElem_cons (by omega : k < (cntsL rows).length)]
  simp only [List.singleton_append, List.set_cons_zero]
  congr 1
  rw [List.getD_eq_getElem?_getD, List.getElem?_eq_getElem (by omega)]; rfl
theorem ints_getD {vs : List Value} {ns : List Nat} (h : IntsAre vs (ns.map Int.ofNat)) {j : Nat} (hj : j < ns.length) : ∃ t, vs[j]? = some (.int (ns.getD j 0 : Nat) t) := by
  obtain ⟨t, e⟩ := h.get j (Int.ofNat (ns.getD j 0)) (by rw [List.getElem?_map, List.getD_eq_getElem?_getD, List.getElem?_eq_getElem hj]; rfl)
  exact ⟨t, e⟩
/-- _law_closed -/
def closedI (rows : List (Nat × Nat)) : Nat → List Nat
  | 0 => []
  | i + 1 => closedI rows i ++ deepL ((cntsL rows).getD i 0) ((rows.getD i (0, 0)).1 - 1) ++ deepL (rows.getD i (0, 0)).2 (rows.getD i (0, 0)).1
theorem closedI_le {rows : List (Nat × Nat)} (h : ∀ r ∈ rows, 1 ≤ r.1 ∧ r.1 ≤ 4) : ∀ i, i ≤ rows.length → (closedI rows i).length ≤ 42 * i
  | 0, _ => Nat.le_refl _
  | i + 1, hi => by
    have ih := closedI_le h i (by omega)
    have hr := h _ (getD_mem (by omega : i < rows.length))
    have h1 := deepL_le ((cntsL rows).getD i 0) ((rows.getD i (0, 0)).1 - 1)
    have h2 := deepL_le (rows.getD i (0, 0)).2 (rows.getD i (0, 0)).1
    simp only [closedI, List.length_append]
    omega
/-- the code object of the nested def -/
def CodeOk (oc : Obj) : Prop := ∃ vs t, oc.data = .fields vs ∧ vs[1]? = some (.str (Str.ofString "_law_stream.<locals>._law_take") t)
theorem hit_order {g h : Heap} {L : Addr} {x d f p c2 c1 t c : Addr × Obj} {rest : List (Addr × Obj)} (N : News g L h (x :: d :: f :: p :: c2 :: c1 :: t :: c :: rest)) : News g L h (x :: d :: f :: c :: p :: c2 :: c1 :: t :: rest) := by
  refine cb_drop N (fun q hq => ?_)
  simp only [List.mem_cons] at hq ⊢
  rcases hq with h | h | h | h | h | h | h | h | h <;> simp [h]
/-- the table of the codes: empty, or with the nested def's -/
def TabOk (pq : Array Value) (cod : List (Addr × Obj)) : Prop :=
  (pq = #[] ∧ cod = []) ∨ ∃ c oc, pq = #[] ++ #[rawInt ((40 : Nat) : Int), rawInt ((4 : Nat) : Int), .ref c] ∧ cod = [(c, oc)] ∧ CodeOk oc ∧ @Ne Nat c 76
end Mine
end
section
open PySem PySem.W PyProof.Rows PySem.Spec PySem.Calls
namespace Mine
/-- boxes, by label, inner boxes, and the next -/
inductive Fo where
  | nil
  | cons (l : Nat) (ch re : Fo)
def packF : Fo → List Nat
  | .nil => []
  | .cons l ch re => (escL (l :: packF ch)).length :: (escL (l :: packF ch) ++ packF re)
def rowsF (k : Nat) : Fo → List (Nat × Nat)
  | .nil => []
  | .cons l ch re => (k, l) :: (rowsF (k + 1) ch ++ rowsF k re)
def heightF : Fo → Nat
  | .nil => 0
  | .cons _ ch re => max (heightF ch + 1) (heightF re)
def okF : Fo → Prop
  | .nil => True
  | .cons l ch re => l < 128 ∧ (escL (l :: packF ch)).length ≤ 255 ∧ okF ch ∧ okF re
theorem fo_cons {G : Fo} (h : 0 < (packF G).length) : ∃ l ch re, G = .cons l ch re := by
  cases G with
  | nil => simp [packF] at h
  | cons l ch re => exact ⟨l, ch, re, rfl⟩
theorem fo_nil {G : Fo} (h : (packF G).length = 0) : G = .nil := by
  cases G with
  | nil => rfl
  | cons l ch re => simp [packF] at h
theorem une_esc (l : List Nat) : uneL (escL l) = l := by
  have h := une_refs l [] (by simp)
  rw [List.append_nil, List.append_nil] at h
  rw [esc_flat]; exact h
theorem len_esc (l : List Nat) : l.length ≤ (escL l).length := by
  rw [esc_flat]
  induction l with
  | nil => simp
  | cons a r ih =>
    have h := refL_len_pos a
    simp only [List.map_cons, List.flatten_cons, List.length_append, List.length_cons]
    omega
theorem pack_lt : ∀ {F : Fo}, okF F → ∀ c ∈ packF F, c < 256
  | .nil, _, _, h => nomatch h
  | .cons l ch re, ⟨h1, h2, h3, h4⟩, c, hc => by
    rcases List.mem_cons.mp hc with rfl | hc
    · omega
    rcases List.mem_append.mp hc with hc | hc
    · rw [esc_flat] at hc
      obtain ⟨w, hw, hc⟩ := List.mem_flatten.mp hc
      obtain ⟨k, hk, rfl⟩ := List.mem_map.mp hw
      have hk2 : k < 256 := (List.mem_cons.mp hk).elim (fun e => by omega) (fun e => pack_lt h3 k e)
      rcases refL_cases k with ⟨_, hr⟩ | ⟨_, hr⟩ | ⟨_, hr⟩ | ⟨_, _, _, hr⟩ <;> rw [hr] at hc <;> simp only [List.mem_cons, List.not_mem_nil, or_false] at hc <;> omega
    · exact pack_lt h4 c hc
/-- a box in the octets -/
theorem box_at {b : Array UInt8} {pre : List Nat} {l : Nat} {ch re : Fo} (hb : KBw.bInts b = (pre ++ packF (.cons l ch re)).map Int.ofNat) :
    pre.length + 1 + (escL (l :: packF ch)).length ≤ b.size ∧ (b.toList.getD pre.length 0).toNat = (escL (l :: packF ch)).length ∧ latin (cut b (pre.length + 1) (escL (l :: packF ch)).length) = S (escL (l :: packF ch)) := by
  generalize hw : escL (l :: packF ch) = w at *
  have hbl : b.toList.map (fun c => (c.toNat : Int)) = pre.map Int.ofNat ++ ((w.length : Int) :: (w.map Int.ofNat ++ (packF re).map Int.ofNat)) := by
    have : b.toList.map (fun c => (c.toNat : Int)) = KBw.bInts b := rfl
    rw [this, hb, packF, hw]
    simp
  have hlen := congrArg List.length hbl
  simp only [List.length_map, Array.length_toList, List.length_append, List.length_cons] at hlen
  have hd : (b.toList.map (fun c => (c.toNat : Int))).drop pre.length = ((w.length : Int) :: (w.map Int.ofNat ++ (packF re).map Int.ofNat)) := by
    rw [hbl, List.drop_append_of_le_length (by simp)]
    simp
  have hd1 : (b.toList.map (fun c => (c.toNat : Int))).drop (pre.length + 1) = w.map Int.ofNat ++ (packF re).map Int.ofNat := by
    rw [← List.drop_drop, hd]; rfl
  refine ⟨by omega, ?_, ?_⟩
  · have h1 := congrArg (fun l : List Int => l[0]?) hd
    simp only [List.getElem?_drop, Nat.add_zero, List.getElem?_map, List.getElem?_cons_zero] at h1
    rw [Option.map_eq_some_iff] at h1
    obtain ⟨c, hc1, hc2⟩ := h1
    rw [List.getD_eq_getElem?_getD, hc1]
    show c.toNat = w.length
    omega
  · have h1 : ((b.toList.drop (pre.length + 1)).take w.length).map (fun c => (c.toNat : Int)) = w.map Int.ofNat := by
      rw [List.map_take, List.map_drop, hd1, List.take_append_of_le_length (by simp), List.take_of_length_le (by simp)]
    have h2 : ((b.toList.drop (pre.length + 1)).take w.length).map (fun c => c.toNat) = w := by
      have h3 := congrArg (List.map Int.toNat) h1
      simpa [List.map_map, Function.comp_def] using h3
    unfold latin cut
    show S _ = S _
    rw [List.toList_toArray, h2]
theorem unp_order {g h : Heap} {L : Addr} {d l t : Addr × Obj} {cod rest : List (Addr × Obj)} (N : News g L h (d :: l :: t :: (cod ++ rest))) : News g L h (t :: (cod ++ (l :: rest))) := by
  refine cb_drop N (fun q hq => ?_)
  simp only [List.mem_cons, List.mem_append] at hq ⊢
  rcases hq with h | h | h | h <;> simp [h]
theorem cod_same {c c8 : Addr} {oc oc8 : Obj} (h : [(c, oc)] = [] ∨ [(c, oc)] = [(c8, oc8)]) : c = c8 ∧ oc = oc8 := by
  rcases h with h | h
  · cases h
  · cases h; exact ⟨rfl, rfl⟩
theorem rec_in {g h : Heap} {L : Addr} {x d f c p c2 c1 t l D : Addr × Obj} {tups rest : List (Addr × Obj)} (N : News g L h (D :: x :: d :: f :: c :: p :: c2 :: c1 :: t :: l :: (tups ++ rest))) :
    News g L h (t :: ([c] ++ (x :: d :: f :: p :: c2 :: c1 :: D :: l :: (tups ++ rest)))) := by
  refine cb_drop N (fun q hq => ?_)
  simp only [List.mem_cons, List.mem_append, List.not_mem_nil, or_false] at hq ⊢
  rcases hq with h | h | h | h | h | h | h | h | h | h | h <;> simp [h]
theorem rec_back {g h : Heap} {L : Addr} {r x d f c p c2 c1 t l D : Addr × Obj} {tups8 tups rest : List (Addr × Obj)} (N : News g L h (r :: t :: c :: (tups8 ++ (x :: d :: f :: p :: c2 :: c1 :: D :: l :: (tups ++ rest))))) :
    News g L h (r :: x :: d :: f :: c :: p :: c2 :: c1 :: t :: l :: ((D :: (tups8 ++ tups)) ++ rest)) := by
  refine cb_drop N (fun q hq => ?_)
  simp only [List.mem_cons, List.mem_append, List.cons_append] at hq ⊢
  rcases hq with h | h | h | h | h | h | h | h | h | h | h | (h | h) | h <;> simp [h]
theorem item_first (a : Nat) (l : List Nat) : Txt.item (S (a :: l)) 0 = S [a] := item_any (by decide) (by simp only [List.length_cons]; omega)
theorem slice_tail (a : Nat) (l : List Nat) : Txt.slice (S (a :: l)) (some 1) none = S l := slice_sn (a :: l) 1 (by simp)
theorem rowsF_len : ∀ (k : Nat) (F : Fo), (rowsF k F).length ≤ (packF F).length
  | _, .nil => Nat.le_refl _
  | k, .cons l ch re => by
    have h1 := rowsF_len (k + 1) ch
    have h2 := rowsF_len k re
    have h3 := len_esc (l :: packF ch)
    simp only [rowsF, packF, List.length_cons, List.length_append] at *
    omega
theorem ne_two {t1 t2 : List (Addr × Obj)} {l : Nat} (h1 : ∀ q ∈ t1, @Ne Nat q.1 l) (h2 : ∀ q ∈ t2, @Ne Nat q.1 l) : ∀ q ∈ t1 ++ t2, @Ne Nat q.1 l := fun q hq =>
  (List.mem_append.mp hq).elim (h1 q) (h2 q)
theorem unp_ret {g h : Heap} {L : Addr} {x d f c p c2 c1 t l : Addr × Obj} {tups rest : List (Addr × Obj)} (N : News g L h (x :: d :: f :: c :: p :: c2 :: c1 :: t :: l :: (tups ++ rest))) : News g L h (l :: t :: c :: (tups ++ rest)) := by
  refine cb_drop N (fun q hq => ?_)
  simp only [List.mem_cons, List.mem_append] at hq ⊢
  rcases hq with h | h | h | h | h <;> simp [h]
theorem unp_dat {tups8 tups : List (Addr × Obj)} {D : Addr} {n : Nat} {us us8 : List Value} {dn r8 : List (Nat × Nat)} {d l : Nat} {t1 t2 : Tok} (h1 : DatAll tups us (dn.map rowD)) (h2 : DatAll tups8 us8 (r8.map rowD)) :
    DatAll ((D, tupO [.int (d : Nat) t1, .str (S [l]) t2] n) :: (tups8 ++ tups)) (us ++ [.ref D] ++ us8) ((dn ++ (d, l) :: r8).map rowD) := by
  rw [List.map_append, List.map_cons, List.append_assoc]
  exact (DatAll.mono (fun _ h => .tail _ (List.mem_append_right _ h)) h1).append (.cons (row_dat (r := (d, l)) (.head _) rfl rfl) (DatAll.mono (fun _ h => .tail _ (List.mem_append_left _ h)) h2))
end Mine
end
section
open PySem PySem.W PyProof.Rows PySem.Spec PySem.Calls
namespace Mine
/-- escape, m times -/
def escN : Nat → List Nat → List Nat
  | 0, l => l
  | m + 1, l => escN m (escL l)
theorem escL_app (a b : List Nat) : escL (a ++ b) = escL a ++ escL b := by simp only [esc_flat, List.map_append, List.flatten_append]
theorem escN_app : ∀ (m : Nat) (a b : List Nat), escN m (a ++ b) = escN m a ++ escN m b
  | 0, _, _ => rfl
  | m + 1, a, b => by rw [escN, escN, escN, escL_app, escN_app m]
theorem escL_one (c : Nat) : escL [c] = refL c := by rw [esc_flat]; simp
theorem escN_plain {l : List Nat} (h : escL l = l) : ∀ m, escN m l = l
  | 0 => rfl
  | m + 1 => by rw [escN, h, escN_plain h m]
theorem ampL_succ (m : Nat) : ampL (m + 1) = ampL m ++ [97, 109, 112, 59] := by
  unfold ampL
  rw [List.replicate_succ', List.flatten_append]; simp
theorem plain_of {l : List Nat} (h : ∀ c ∈ l, c ≠ 38 ∧ c ≠ 60 ∧ c ≠ 62) : escL l = l := by
  rw [esc_flat]
  induction l with
  | nil => rfl
  | cons a r ih =>
    have ha := h a List.mem_cons_self
    have e : refL a = [a] := by unfold refL; rw [if_neg ha.1, if_neg ha.2.1, if_neg ha.2.2]
    rw [List.map_cons, List.flatten_cons, e, ih (fun c hc => h c (List.mem_cons_of_mem _ hc))]; rfl
theorem deep_38' (m : Nat) : deepL 38 m = 38 :: ampL m := by
  unfold deepL
  split
  · subst_vars; rfl
  · rfl
theorem deep_esc : ∀ (m c : Nat), escN m [c] = deepL c m
  | 0, c => by simp [escN, deepL]
  | m + 1, c => by
    have h38 := deep_esc m 38
    rw [deep_38'] at h38
    have key : ∀ t : List Nat, (∀ c ∈ t, c ≠ 38 ∧ c ≠ 60 ∧ c ≠ 62) → escN m (38 :: t) = 38 :: (ampL m ++ t) := by
      intro t ht
      have e : (38 :: t) = [38] ++ t := rfl
      rw [e, escN_app, h38, escN_plain (plain_of ht)]; rfl
    rw [escN, escL_one]
    rcases refL_cases c with ⟨hc, hr⟩ | ⟨hc, hr⟩ | ⟨hc, hr⟩ | ⟨h1, h2, h3, hr⟩
    · rw [hr, key _ (by decide), hc, deep_38', ampL_succ]
    · rw [hr, key _ (by decide), hc]; rfl
    · rw [hr, key _ (by decide), hc]; rfl
    · rw [hr, deep_esc m c]
      unfold deepL
      simp [h1, h2, h3]
theorem deepL_le1 (n k : Nat) : (deepL n k).length ≤ 4 * k + 1 := by
  unfold deepL
  have h1 := ampL_len k
  have h2 := ampL_len (k - 1)
  repeat' split
  all_goals simp only [List.length_cons, List.length_nil, List.length_append]
  all_goals omega
/-- the closed form, seen from the depth e -/
def clo (e : Nat) : List (Nat × Nat) → List Nat → List Nat
  | (d, l) :: r, c :: cs => deepL c (d - e) ++ deepL l (d - e + 1) ++ clo e r cs
  | _, _ => []
def cntF : Fo → List Nat
  | .nil => []
  | .cons l ch re => (escL (l :: packF ch)).length :: (cntF ch ++ cntF re)
theorem cntF_len : ∀ (F : Fo) (k : Nat), (cntF F).length = (rowsF k F).length
  | .nil, _ => rfl
  | .cons l ch re, k => by simp only [cntF, rowsF, List.length_cons, List.length_append, cntF_len ch (k + 1), cntF_len re k]
theorem clo_app (e : Nat) : ∀ (a : List (Nat × Nat)) (ca : List Nat) (b : List (Nat × Nat)) (cb : List Nat), ca.length = a.length → clo e (a ++ b) (ca ++ cb) = clo e a ca ++ clo e b cb
  | [], [], _, _, _ => rfl
  | [], _ :: _, _, _, h => by simp at h
  | _ :: _, [], _, _, h => by simp at h
  | (d, l) :: r, c :: cs, b, cb, h => by
    simp only [List.cons_append, clo, clo_app e r cs b cb (by simpa using h), List.append_assoc]
theorem clo_pack : ∀ (F : Fo) (k e : Nat), e ≤ k → clo e (rowsF k F) (cntF F) = escN (k - e) (packF F)
  | .nil, k, e, _ => by
    have : ∀ m, escN m [] = [] := escN_plain (by rw [esc_flat]; rfl)
    rw [packF, this]; rfl
  | .cons l ch re, k, e, h => by
    have h1 := clo_pack ch (k + 1) e (by omega)
    have h2 := clo_pack re k e h
    simp only [rowsF, cntF, clo]
    rw [clo_app e _ _ _ _ (cntF_len ch (k + 1)), h1, h2, packF]
    have e1 : ∀ x, ∀ y : List Nat, x :: y = [x] ++ y := fun _ _ => rfl
    rw [e1 (escL (l :: packF ch)).length, escN_app, escN_app, deep_esc, e1 l (packF ch), escL_app, escN_app]
    have e2 : escN (k - e) (escL [l]) = deepL l (k - e + 1) := by rw [← deep_esc]; rfl
    have e3 : escN (k - e) (escL (packF ch)) = escN (k + 1 - e) (packF ch) := by
      rw [show k + 1 - e = (k - e) + 1 from by omega]; rfl
    rw [e2, e3]
    simp only [List.append_assoc]
/-- the sum over what is deeper -/
theorem sumW_app (e : Nat) : ∀ (a : List (Nat × Nat)) (ca : List Nat) (b : List (Nat × Nat)) (cb : List Nat), ca.length = a.length → (∀ r ∈ a, e < r.1) → sumW e (a ++ b) (ca ++ cb) = (clo e a ca).length + sumW e b cb
  | [], [], _, _, _, _ => by simp [clo]
  | [], _ :: _, _, _, h, _ => by simp at h
  | _ :: _, [], _, _, h, _ => by simp at h
  | (d, l) :: r, c :: cs, b, cb, h, hd => by
    have h0 := hd (d, l) List.mem_cons_self
    rw [List.cons_append, List.cons_append, sumW, if_pos h0, sumW_app e r cs b cb (by simpa using h) (fun q hq => hd q (List.mem_cons_of_mem _ hq)), clo]
    simp only [List.length_append]
    omega
theorem rowsF_ge : ∀ (F : Fo) (k : Nat), ∀ r ∈ rowsF k F, k ≤ r.1
  | .nil, _, _, h => nomatch h
  | .cons l ch re, k, r, h => by
    rcases List.mem_cons.mp h with rfl | h
    · exact Nat.le_refl _
    rcases List.mem_append.mp h with h | h
    · have := rowsF_ge ch (k + 1) r h; omega
    · exact rowsF_ge re k r h
def Top1 (k : Nat) : List (Nat × Nat) → Prop
  | [] => True
  | r :: _ => r.1 ≤ k
theorem sumW_top {k : Nat} : ∀ {t : List (Nat × Nat)} (cs : List Nat), Top1 k t → sumW k t cs = 0
  | [], _, _ => rfl
  | (d, l) :: r, [], _ => rfl
  | (d, l) :: r, c :: cs, h => by
    have h : d ≤ k := h
    rw [sumW, if_neg (by omega)]
theorem top_rows {k : Nat} {t : List (Nat × Nat)} (ht : Top1 k t) : ∀ F : Fo, Top1 k (rowsF k F ++ t)
  | .nil => ht
  | .cons _ _ _ => Nat.le_refl _
theorem cnts_pack : ∀ (F : Fo) (k : Nat) (t : List (Nat × Nat)), Top1 k t → cntsL (rowsF k F ++ t) = cntF F ++ cntsL t
  | .nil, _, _, _ => rfl
  | .cons l ch re, k, t, ht => by
    have h2 := cnts_pack re k t ht
    have ht2 : Top1 k (rowsF k re ++ t) := top_rows ht re
    have ht3 : Top1 (k + 1) (rowsF k re ++ t) := by
      generalize rowsF k re ++ t = u at ht2
      cases u with
      | nil => trivial
      | cons r _ => exact Nat.le_succ_of_le ht2
    have h1 := cnts_pack ch (k + 1) (rowsF k re ++ t) ht3
    have e : rowsF k (.cons l ch re) ++ t = (k, l) :: (rowsF (k + 1) ch ++ (rowsF k re ++ t)) := by simp [rowsF]
    rw [e, cntsL, h1, h2, sumW_app k _ _ _ _ (cntF_len ch (k + 1)) (fun r hr => rowsF_ge ch (k + 1) r hr), ← h2, sumW_top _ ht2, h2, clo_pack ch (k + 1) k (by omega), cntF]
    have e1 : l :: packF ch = [l] ++ packF ch := rfl
    have e2 : escN (k + 1 - k) (packF ch) = escL (packF ch) := by rw [show k + 1 - k = 0 + 1 from by omega]; rfl
    have e3 : deepL l 1 = escL [l] := by rw [← deep_esc]; rfl
    rw [e2, e1, escL_app, e3]
    simp
theorem closed_clo {rows : List (Nat × Nat)} (hd : ∀ r ∈ rows, 1 ≤ r.1) : ∀ i, i ≤ rows.length → closedI rows i ++ clo 1 (rows.drop i) (cntsL (rows.drop i)) = clo 1 rows (cntsL rows)
  | 0, _ => rfl
  | i + 1, hi => by
    rw [← closed_clo hd i (by omega), closedI]
    have hi' : i < rows.length := by omega
    have h1 := hd _ (getD_mem hi')
    have hc := cnts_at hi'
    have e := drop_getD hi'
    rw [e]
    generalize rows.getD i (0, 0) = r at *
    obtain ⟨d, l⟩ := r
    rw [cntsL, clo, ← hc]
    dsimp only at h1
    rw [show d - 1 + 1 = d from by omega]
    simp only [List.append_assoc]
theorem closed_pack {F : Fo} {rows : List (Nat × Nat)} (hF : rowsF 1 F = rows) : closedI rows rows.length = packF F := by
  have h1 := closed_clo (rows := rows) (fun r hr => by rw [← hF] at hr; exact rowsF_ge F 1 r hr) rows.length (Nat.le_refl _)
  rw [List.drop_length] at h1
  have h2 := cnts_pack F 1 [] trivial
  rw [List.append_nil, hF] at h2
  rw [h2, cntsL, List.append_nil, ← hF, clo_pack F 1 1 (Nat.le_refl _)] at h1
  rw [hF] at h1
  have h3 : clo 1 [] [] = [] := rfl
  rw [h3, List.append_nil] at h1
  exact h1
/-- the packing, from the last row to the first -/
def innerS (rows : List (Nat × Nat)) : List (List Nat) := rows.foldr (fun r I => innerStep I r) (List.replicate 6 [])
theorem innerR_rev (rows : List (Nat × Nat)) : innerR rows.reverse = innerS rows := by
  unfold innerR innerS
  rw [List.foldl_reverse]
theorem innerS_len (rows : List (Nat × Nat)) : (innerS rows).length = 6 := by rw [← innerR_rev, innerR_len]
theorem getD_set {I : List (List Nat)} {i : Nat} {v : List Nat} (h : i < I.length) (j : Nat) : (I.set i v).getD j [] = if j = i then v else I.getD j [] := by
  rw [List.getD_eq_getElem?_getD, List.getD_eq_getElem?_getD, List.getElem?_set]
  by_cases e : i = j
  · subst e; simp [h]
  · rw [if_neg e, if_neg (fun x => e x.symm)]
theorem step_getD {I : List (List Nat)} {d l : Nat} (hI : I.length = 6) (hd : d ≤ 4) (j : Nat) :
    (innerStep I (d, l)).getD j [] = if j = d then (escL (l :: I.getD (d + 1) [])).length :: (escL (l :: I.getD (d + 1) []) ++ I.getD d []) else if j = d + 1 then [] else I.getD j [] := by
  unfold innerStep
  dsimp only
  rw [getD_set (by rw [List.length_set]; omega), getD_set (by omega), getD_set (by omega)]
  rw [if_neg (by omega : ¬ d = d + 1)]
theorem inner_pack : ∀ (F : Fo) (k : Nat) (t : List (Nat × Nat)), k + heightF F ≤ 5 → (∀ j, k < j → (innerS t).getD j [] = []) →
    (innerS (rowsF k F ++ t)).getD k [] = packF F ++ (innerS t).getD k [] ∧ (∀ j, k < j → (innerS (rowsF k F ++ t)).getD j [] = []) ∧ (∀ j, j < k → (innerS (rowsF k F ++ t)).getD j [] = (innerS t).getD j [])
  | .nil, k, t, _, h => ⟨rfl, h, fun _ _ => rfl⟩
  | .cons l ch re, k, t, hk, h => by
    have hk1 : k + 1 + heightF ch ≤ 5 := by
      have := Nat.le_max_left (heightF ch + 1) (heightF re)
      have e : heightF (.cons l ch re) = max (heightF ch + 1) (heightF re) := rfl
      omega
    have hk2 : k + heightF re ≤ 5 := by
      have := Nat.le_max_right (heightF ch + 1) (heightF re)
      have e : heightF (.cons l ch re) = max (heightF ch + 1) (heightF re) := rfl
      omega
    obtain ⟨a1, a2, a3⟩ := inner_pack re k t hk2 h
    obtain ⟨b1, b2, b3⟩ := inner_pack ch (k + 1) (rowsF k re ++ t) hk1 (fun j hj => a2 j (by omega))
    have e : rowsF k (.cons l ch re) ++ t = (k, l) :: (rowsF (k + 1) ch ++ (rowsF k re ++ t)) := by simp [rowsF]
    rw [e]
    have es : innerS ((k, l) :: (rowsF (k + 1) ch ++ (rowsF k re ++ t))) = innerStep (innerS (rowsF (k + 1) ch ++ (rowsF k re ++ t))) (k, l) := rfl
    rw [es]
    have hs := fun j => step_getD (l := l) (innerS_len (rowsF (k + 1) ch ++ (rowsF k re ++ t))) (by omega : k ≤ 4) j
    have c1 : (innerS (rowsF (k + 1) ch ++ (rowsF k re ++ t))).getD (k + 1) [] = packF ch := by
      rw [b1, a2 (k + 1) (by omega), List.append_nil]
    have c2 : (innerS (rowsF (k + 1) ch ++ (rowsF k re ++ t))).getD k [] = packF re ++ (innerS t).getD k [] := by
      rw [b3 k (by omega), a1]
    refine ⟨?_, ?_, ?_⟩
    · rw [hs k, if_pos rfl, c1, c2, packF]; simp
    · intro j hj
      rw [hs j, if_neg (by omega)]
      split
      · rfl
      · exact b2 j (by omega)
    · intro j hj
      rw [hs j, if_neg (by omega), if_neg (by omega), b3 j (by omega), a3 j hj]
theorem packed_pack {F : Fo} {rows : List (Nat × Nat)} (hF : rowsF 1 F = rows) (hh : heightF F ≤ 4) : (innerR rows.reverse).getD 1 [] = packF F := by
  have h0 : ∀ j, (innerS []).getD j [] = [] := by
    intro j
    show (List.replicate 6 []).getD j [] = []
    rw [List.getD_eq_getElem?_getD, List.getElem?_replicate]
    split <;> rfl
  have h := (inner_pack F 1 [] (by omega) (fun j _ => h0 j)).1
  rw [List.append_nil, hF, h0, List.append_nil] at h
  rw [innerR_rev, h]
/-- a crude bound for what is packed -/
theorem inner_bound : ∀ (rows : List (Nat × Nat)), (∀ r ∈ rows, 1 ≤ r.1 ∧ r.1 ≤ 4) →
    (innerS rows).getD 0 [] = [] ∧ (innerS rows).getD 5 [] = [] ∧ ((innerS rows).getD 1 []).length + 5 * ((innerS rows).getD 2 []).length + 25 * ((innerS rows).getD 3 []).length + 125 * ((innerS rows).getD 4 []).length ≤ 750 * rows.length
  | [], _ => ⟨rfl, rfl, Nat.le_refl _⟩
  | (d, l) :: t, h => by
    obtain ⟨a0, a5, a1⟩ := inner_bound t (fun r hr => h r (List.mem_cons_of_mem _ hr))
    obtain ⟨hd1, hd2⟩ := h (d, l) List.mem_cons_self
    dsimp only at hd1 hd2
    have hs := fun j => step_getD (l := l) (innerS_len t) hd2 j
    have es : innerS ((d, l) :: t) = innerStep (innerS t) (d, l) := rfl
    rw [es, hs 0, hs 1, hs 2, hs 3, hs 4, hs 5, List.length_cons]
    have hc : d = 1 ∨ d = 2 ∨ d = 3 ∨ d = 4 := by omega
    have hl := fun w : List Nat => escL_le (l :: w)
    rcases hc with rfl | rfl | rfl | rfl
    · have := hl ((innerS t).getD 2 [])
      simp only [List.length_cons, List.length_append, List.length_nil, a0, a5, reduceIte, Nat.reduceAdd, Nat.reduceEqDiff, true_and, and_true] at *
      simp at *
      omega
    · have := hl ((innerS t).getD 3 [])
      simp only [List.length_cons, List.length_append, List.length_nil, a0, a5, reduceIte, Nat.reduceAdd, Nat.reduceEqDiff, true_and, and_true] at *
      simp at *
      omega
    · have := hl ((innerS t).getD 4 [])
      simp only [List.length_cons, List.length_append, List.length_nil, a0, a5, reduceIte, Nat.reduceAdd, Nat.reduceEqDiff, true_and, and_true] at *
      simp at *
      omega
    · have := hl ((innerS t).getD 5 [])
      rw [a5] at this
      simp only [List.length_cons, List.length_append, List.length_nil, a0, a5, reduceIte, Nat.reduceAdd, Nat.reduceEqDiff, true_and, and_true] at *
      simp at *
      omega
theorem inner_le {rows : List (Nat × Nat)} (h : ∀ r ∈ rows, 1 ≤ r.1 ∧ r.1 ≤ 4) (hn : rows.length ≤ 10) : ∀ i, ∀ w ∈ innerR (rows.reverse.take i), w.length ≤ 7600 := by
  intro i w hw
  have e : rows.reverse.take i = (rows.drop (rows.length - i)).reverse := by rw [List.take_reverse]
  rw [e, innerR_rev] at hw
  obtain ⟨b0, b5, b1⟩ := inner_bound (rows.drop (rows.length - i)) (fun r hr => h r (List.mem_of_mem_drop hr))
  have hl : (rows.drop (rows.length - i)).length ≤ 10 := by rw [List.length_drop]; omega
  obtain ⟨j, hj, rfl⟩ := List.getElem_of_mem hw
  have hj6 : j < 6 := by rw [innerS_len] at hj; exact hj
  have e2 : (innerS (rows.drop (rows.length - i)))[j] = (innerS (rows.drop (rows.length - i))).getD j [] := by
    rw [List.getD_eq_getElem?_getD, List.getElem?_eq_getElem hj]; rfl
  rw [e2]
  have hc : j = 0 ∨ j = 1 ∨ j = 2 ∨ j = 3 ∨ j = 4 ∨ j = 5 := by omega
  rcases hc with rfl | rfl | rfl | rfl | rfl | rfl
  · rw [b0]; exact Nat.zero_le _
  · omega
  · omega
  · omega
  · omega
  · rw [b5]; exact Nat.zero_le _
end Mine
end
section
open PySem PySem.W PyProof.Rows PySem.Spec PySem.Calls
namespace Mine
/-- depths that make boxes -/
def Ch : Nat → List (Nat × Nat) → Prop
  | _, [] => True
  | p, r :: t => 1 ≤ r.1 ∧ r.1 ≤ p + 1 ∧ Ch r.1 t
/-- boxes at the levels n, n - 1, .. 1 -/
def catF (f : Nat → Fo) : Nat → List (Nat × Nat)
  | 0 => []
  | n + 1 => rowsF (n + 1) (f (n + 1)) ++ catF f n
theorem catF_nil {f : Nat → Fo} {n : Nat} : ∀ m : Nat, (∀ j, n < j → f j = .nil) → catF f (n + m) = catF f n
  | 0, _ => rfl
  | m + 1, h => by
    show rowsF (n + m + 1) (f (n + m + 1)) ++ catF f (n + m) = catF f n
    rw [h (n + m + 1) (by omega), catF_nil m h]; rfl
theorem catF_congr {f g : Nat → Fo} : ∀ n : Nat, (∀ j, j ≤ n → f j = g j) → catF f n = catF g n
  | 0, _ => rfl
  | n + 1, h => by
    show rowsF (n + 1) (f (n + 1)) ++ catF f n = rowsF (n + 1) (g (n + 1)) ++ catF g n
    rw [h (n + 1) (Nat.le_refl _), catF_congr n (fun j hj => h j (by omega))]
theorem ch_cat : ∀ (t : List (Nat × Nat)) (p : Nat), Ch p t → ∃ f, t = catF f (p + 1)
  | [], p, _ => ⟨fun _ => .nil, by
      have := catF_nil (f := fun _ => .nil) (n := 0) (p + 1) (fun _ _ => rfl)
      rw [Nat.zero_add] at this
      rw [this]; rfl⟩
  | (d, l) :: t, p, ⟨h1, h2, h3⟩ => by
    dsimp only at h1 h2 h3
    obtain ⟨g, hg⟩ := ch_cat t d h3
    obtain ⟨e, rfl⟩ : ∃ e, d = e + 1 := ⟨d - 1, by omega⟩
    refine ⟨fun j => if j < e + 1 then g j else if j = e + 1 then .cons l (g (e + 2)) (g (e + 1)) else .nil, ?_⟩
    obtain ⟨m, hm⟩ : ∃ m, p + 1 = (e + 1) + m := ⟨p + 1 - (e + 1), by omega⟩
    rw [hm, catF_nil m (fun j hj => by rw [if_neg (by omega), if_neg (by omega)])]
    show (e + 1, l) :: t = rowsF (e + 1) _ ++ catF _ e
    rw [catF_congr (g := g) e (fun j hj => by rw [if_pos (by omega)])]
    dsimp only
    rw [if_neg (by omega), if_pos rfl, hg]
    show _ = (e + 1, l) :: (rowsF (e + 1 + 1) (g (e + 2)) ++ rowsF (e + 1) (g (e + 1))) ++ catF g e
    show (e + 1, l) :: (rowsF (e + 1 + 1) (g (e + 1 + 1)) ++ (rowsF (e + 1) (g (e + 1)) ++ catF g e)) = _
    simp
theorem ch_forest {t : List (Nat × Nat)} (h : Ch 0 t) : ∃ F, rowsF 1 F = t := by
  obtain ⟨f, hf⟩ := ch_cat t 0 h
  refine ⟨f 1, ?_⟩
  rw [hf]
  show _ = rowsF 1 (f 1) ++ []
  rw [List.append_nil]
theorem ch_snoc : ∀ (t : List (Nat × Nat)) (p : Nat) (r : Nat × Nat), t ≠ [] → Ch p t → 1 ≤ r.1 → r.1 ≤ lastD t + 1 → Ch p (t ++ [r])
  | [], _, _, h, _, _, _ => absurd rfl h
  | [a], p, r, _, h, h1, h2 => ⟨h.1, h.2.1, h1, h2, trivial⟩
  | a :: b :: t, p, r, _, h, h1, h2 => by
    refine ⟨h.1, h.2.1, ch_snoc (b :: t) a.1 r (by simp) h.2.2 h1 ?_⟩
    have e : lastD (a :: b :: t) = lastD (b :: t) := by
      unfold lastD
      simp
    rw [← e]; exact h2
/-- the weight of rows -/
def wtR : List (Nat × Nat) → Nat
  | [] => 0
  | r :: t => (8 * r.1 - 2) + wtR t
theorem wtR_app (a b : List (Nat × Nat)) : wtR (a ++ b) = wtR a + wtR b := by
  induction a with
  | nil => simp [wtR]
  | cons r t ih => simp only [List.cons_append, wtR, ih]; omega
theorem rowOf_lab (last : Nat) (k : Int) : (rowOf last k).2 < 128 := by
  unfold rowOf
  dsimp only
  generalize (k.fdiv 6).toNat = n
  rcases n with _ | _ | _ | _ | _ | n <;> simp [List.getD_eq_getElem?_getD]
theorem rows_facts (ks : List Int) : Ch 0 (rowsL ks) ∧ (∀ r ∈ rowsL ks, 1 ≤ r.1 ∧ r.1 ≤ 4) ∧ (∀ r ∈ rowsL ks, r.2 < 128) ∧ wtR (rowsL ks) ≤ 20 + 30 * ks.length ∧ (1 ≤ ks.length → wtR (rowsL ks) ≤ 12 + 30 * ks.length) := by
  generalize hr : ks.reverse = rk
  induction rk generalizing ks with
  | nil =>
    have : ks = [] := by simpa using hr
    subst this
    exact ⟨⟨Nat.le_refl _, Nat.le_refl _, by decide, by decide, trivial⟩, by decide, by decide, by decide, by decide⟩
  | cons k r ih =>
    have e : ks = r.reverse ++ [k] := by
      have := congrArg List.reverse hr
      simpa using this
    obtain ⟨h1, h2, h3, h4, h5⟩ := ih r.reverse (by simp)
    have hl := rowsL_last r.reverse
    have hb := rowOf_bound (k := k) hl.1
    have hlab := rowOf_lab (lastD (rowsL r.reverse)) k
    rw [e, rowsL_snoc]
    unfold rowsStep
    refine ⟨ch_snoc _ _ _ (by have := rowsL_len r.reverse; intro h; rw [h] at this; simp at this) h1 (by omega) hb.2.2, ?_, ?_, ?_, ?_⟩
    · intro q hq
      rcases List.mem_append.mp hq with hq | hq
      · exact h2 q hq
      · rw [List.mem_singleton.mp hq]; omega
    · intro q hq
      rcases List.mem_append.mp hq with hq | hq
      · exact h3 q hq
      · rw [List.mem_singleton.mp hq]; exact hlab
    · rw [wtR_app, List.length_append, List.length_singleton]
      simp only [wtR]
      omega
    · intro _
      rw [wtR_app, List.length_append, List.length_singleton]
      simp only [wtR]
      by_cases hr0 : r.reverse.length = 0
      · have : r.reverse = [] := List.length_eq_zero_iff.mp hr0
        rw [this] at hb hl ⊢
        have e1 : lastD (rowsL []) = 2 := rfl
        have e2 : wtR (rowsL []) = 20 := rfl
        rw [e1] at hb ⊢
        rw [e2]
        simp only [List.length_nil]
        omega
      · have := h5 (by omega)
        omega
theorem high_le : ∀ (F : Fo) (k B : Nat), k ≤ B + 1 → (∀ r ∈ rowsF k F, r.1 ≤ B) → k + heightF F ≤ B + 1
  | .nil, _, _, h, _ => h
  | .cons l ch re, k, B, h, hr => by
    have h0 : k ≤ B := hr (k, l) List.mem_cons_self
    have h1 := high_le ch (k + 1) B (by omega) (fun r hq => hr r (List.mem_cons_of_mem _ (List.mem_append_left _ hq)))
    have h2 := high_le re k B h (fun r hq => hr r (List.mem_cons_of_mem _ (List.mem_append_right _ hq)))
    have e : heightF (.cons l ch re) = max (heightF ch + 1) (heightF re) := rfl
    omega
theorem clo_wt (e : Nat) (he : 1 ≤ e) : ∀ (rs : List (Nat × Nat)) (cs : List Nat), (∀ r ∈ rs, e ≤ r.1) → (clo e rs cs).length ≤ wtR rs
  | [], [], _ => Nat.zero_le _
  | [], _ :: _, _ => Nat.zero_le _
  | _ :: _, [], _ => Nat.zero_le _
  | (d, l) :: r, c :: cs, h => by
    have h0 : e ≤ d := h (d, l) List.mem_cons_self
    have ih := clo_wt e he r cs (fun q hq => h q (List.mem_cons_of_mem _ hq))
    have h1 := deepL_le1 c (d - e)
    have h2 := deepL_le1 l (d - e + 1)
    simp only [clo, wtR, List.length_append]
    omega
theorem ok_of : ∀ (F : Fo) (k : Nat), 1 ≤ k → (∀ r ∈ rowsF k F, r.2 < 128) → wtR (rowsF k F) ≤ 252 → okF F
  | .nil, _, _, _, _ => trivial
  | .cons l ch re, k, hk, hl, hw => by
    simp only [rowsF, wtR, wtR_app] at hw
    refine ⟨hl (k, l) List.mem_cons_self, ?_, ok_of ch (k + 1) (by omega) (fun r hq => hl r (List.mem_cons_of_mem _ (List.mem_append_left _ hq))) (by omega), ok_of re k hk (fun r hq => hl r (List.mem_cons_of_mem _ (List.mem_append_right _ hq))) (by omega)⟩
    have h1 := clo_wt k hk (rowsF (k + 1) ch) (cntF ch) (fun r hr => by have := rowsF_ge ch (k + 1) r hr; omega)
    rw [clo_pack ch (k + 1) k (by omega)] at h1
    have e2 : escN (k + 1 - k) (packF ch) = escL (packF ch) := by rw [show k + 1 - k = 0 + 1 from by omega]; rfl
    rw [e2] at h1
    have e1 : l :: packF ch = [l] ++ packF ch := rfl
    have h3 := escL_le [l]
    rw [e1, escL_app, List.length_append]
    simp only [List.length_cons, List.length_nil] at h3
    omega
theorem cnt_le : ∀ (F : Fo), okF F → ∀ c ∈ cntF F, c ≤ 255
  | .nil, _, _, h => nomatch h
  | .cons l ch re, ⟨_, h2, h3, h4⟩, c, hc => by
    rcases List.mem_cons.mp hc with rfl | hc
    · exact h2
    rcases List.mem_append.mp hc with hc | hc
    · exact cnt_le ch h3 c hc
    · exact cnt_le re h4 c hc
/-- what the walk of the second law asks of its rows -/
structure LawRows (rows : List (Nat × Nat)) (F : Fo) : Prop where
  made : rowsF 1 F = rows
  packed : (innerR rows.reverse).getD 1 [] = packF F
  closed : closedI rows rows.length = packF F
  ok : okF F
  len : (packF F).length ≤ 1000
  high : heightF F ≤ 4
  deep : ∀ r ∈ rows, 1 ≤ r.1 ∧ r.1 ≤ 4
  inner : ∀ i, ∀ w ∈ innerR (rows.reverse.take i), w.length ≤ 7600
  cnts : ∀ j, (cntsL rows).getD j 0 ≤ 1000
  label : ∀ r ∈ rows, r.2 < 128
theorem law_rows (ks : List Int) (hkn : ks.length ≤ 8) : ∃ F, LawRows (rowsL ks) F := by
  obtain ⟨h1, h2, h3, h4, h5⟩ := rows_facts ks
  obtain ⟨F, hF⟩ := ch_forest h1
  have hn := rowsL_len ks
  have hw : wtR (rowsL ks) ≤ 252 := by
    by_cases h : 1 ≤ ks.length
    · have := h5 h; omega
    · omega
  have hok : okF F := ok_of F 1 (Nat.le_refl _) (by rw [hF]; exact h3) (by rw [hF]; exact hw)
  have hhigh : heightF F ≤ 4 := by
    have := high_le F 1 4 (by omega) (by rw [hF]; exact fun r hr => (h2 r hr).2)
    omega
  have hlen : (packF F).length ≤ 252 := by
    have h6 := clo_wt 1 (Nat.le_refl _) (rowsF 1 F) (cntF F) (by rw [hF]; exact fun r hr => (h2 r hr).1)
    rw [clo_pack F 1 1 (Nat.le_refl _), hF] at h6
    exact Nat.le_trans h6 hw
  have hcn : cntsL (rowsL ks) = cntF F := by
    have h7 := cnts_pack F 1 [] trivial
    rw [List.append_nil, hF] at h7
    rw [h7]; simp [cntsL]
  refine ⟨F, hF, packed_pack hF hhigh, closed_pack hF, hok, by omega, hhigh, h2, inner_le h2 (by omega), ?_, h3⟩
  intro j
  rw [hcn, List.getD_eq_getElem?_getD]
  cases e : (cntF F)[j]? with
  | none => simp
  | some c => have := cnt_le F hok c (List.mem_of_getElem? e); simp only [Option.getD_some]; omega
end Mine
end
section
open PySem PySem.W PyProof.Rows PySem.Spec PySem.Calls
namespace Mine
theorem mod30 {vs ks : List Int} (h : ks = vs.map (fun k => Int.fmod k 30)) : ∀ k ∈ ks, 0 ≤ k ∧ k < 30 := by
  intro k hk
  rw [h] at hk
  obtain ⟨v, _, rfl⟩ := List.mem_map.mp hk
  exact ⟨Int.fmod_nonneg_of_pos v (by decide), Int.fmod_lt_of_pos v (by decide)⟩
theorem rows_kqd {rows : List (Nat × Nat)} (h : ∀ r ∈ rows, r.2 < 128) : ∀ d ∈ rows.map rowD, kqdOk 8 d = true := by
  intro d hd
  obtain ⟨r, hr, rfl⟩ := List.mem_map.mp hd
  have := h r hr
  simp [rowD, kqdOk, PyData.strOk]
  omega
theorem drop_second {g h : Heap} {L : Addr} {a b : Addr × Obj} {t : List (Addr × Obj)} (N : News g L h (a :: b :: t)) : News g L h (a :: t) := by
  refine cb_drop N (fun q hq => ?_)
  simp only [List.mem_cons] at hq ⊢
  rcases hq with h | h <;> simp [h]
theorem law2_order {g h : Heap} {L : Addr} {r t : Addr × Obj} {tups : List (Addr × Obj)} (N : News g L h (r :: (tups ++ [t]))) : News g L h (t :: ([] ++ (r :: tups))) := by
  refine cb_drop N (fun q hq => ?_)
  simp only [List.nil_append, List.mem_cons, List.mem_append, List.not_mem_nil, or_false] at hq ⊢
  rcases hq with h | h | h <;> simp [h]
theorem S_same (l : List Nat) : (S l == S l) = true := by simp
theorem rows_eq {prog : Program} {w : World} {A : Around} {E : Value → Shared → Prop} {s : Shared} {h₀ : Heap} {L r2 rp : Addr} {t c : Addr × Obj} {us us2 : List Value} {n n2 : Nat} {tups tups2 : List (Addr × Obj)} {ds : List Dat} {Q : Value → Shared → Prop}
    (N : News h₀ L s.heap ((r2, listOf us2.toArray n2) :: t :: c :: (tups2 ++ ((rp, listOf us.toArray n) :: tups)))) (h2 : DatAll tups2 us2 ds) (h1 : DatAll tups us ds) (hok : ∀ d ∈ ds, kqdOk 8 d = true) (hu : A.units + 64 < cLine) (h : Q (.bool true) s) :
    wpAny (model prog w) A (compareOp .Eq (.ref r2) (.ref rp)) Q E s := by
  refine kqd_eq N (.head _) rfl rfl h2 (fun q hq => .tail _ (.tail _ (.tail _ (List.mem_append_left _ hq)))) (.tail _ (.tail _ (.tail _ (List.mem_append_right _ (.head _))))) rfl rfl h1 (fun q hq => .tail _ (.tail _ (.tail _ (List.mem_append_right _ (.tail _ hq))))) hok hok hu ?_
  simpa using h
end Mine
end
section
open PySem PySem.W PyProof.Rows
namespace Mine
open_top hd for PySem.Challenge.rw_ij0009_02
end Mine
end
section
open PySem PySem.W PyProof.Rows PySem.Spec PySem.Calls
namespace Mine
section
variable {w : World} {p : Program} {loose : List Str} {mean : ExcName → Option Value} {mg mb : Str → Option Value} {dp un : Nat} {gd : Option (List Code)} {cn : Str} {cs : Scope} {a : Addr} {ccd : Value} {cl : List (Str × Addr)} {outer : List Env} {A₀ : Around} {base h₀ : Heap} {L : Addr} {m : Str → Option Value} {news : List (Addr × Obj)} {s : Shared} {Q E : Value → Shared → Prop}
local macro_rules | `(tactic| walk_at "truthy ref") => `(tactic| (k_here; k_dflt (refine' truthy_emptyK ?k1 ?k2 ?k3 ?k4 ?_; (case k1 => k_asm); (case k2 => k_asm); (case k3 => k_is); (case k4 => rfl); k_whole)))
local macro_rules | `(tactic| walk_at "execs cons") => `(tactic| (k_here; (refine tk_gen (by (fail_if_success assumption); first | omega | (with_unfolding_all exact Nat.succ_pos _)) ?_); intro tk htk))
local macro_rules | `(tactic| walk_at "execs nil") => `(tactic| (k_here; (refine tk_gen (by (fail_if_success assumption); first | omega | (with_unfolding_all exact Nat.succ_pos _)) ?_); intro tk htk))
local macro_rules | `(tactic| walk_at "call builtin:str.replace") => `(tactic| (k_here; (refine replace_tk 1 (by dsimp only; omega) (by omega) (by omega) (by decide) (by first | assumption | omega) (by decide) (by decide) (by decide) ?_); intro t' k' hk' hl'))
local macro_rules | `(tactic| walk_at "call builtin:bytes.decode") => `(tactic| (k_here; (refine decode1 (by first | assumption | omega) 0 (Nat.zero_le _) ?_); intro t' k' hk'))
local macro_rules | `(tactic| k_room) => `(tactic| first | ktr_room | ((simp only [depth_mark, depth_deeper]); ktr_room))
local macro_rules | `(tactic| k_units) => `(tactic| ktr_units)
local macro_rules | `(tactic| units_room) => `(tactic| ktr_units)
local macro_rules | `(tactic| walk_at "CompEnd") => `(tactic| k_extra "mycompend")
local macro_rules | `(tactic| k_all) => `(tactic| k_extra "rest")
local macro_rules | `(tactic| walk_at "call ref") => `(tactic| k_extra "mycall")
local macro_rules | `(tactic| walk_at "eval ListComp") => `(tactic| k_extra "mycomp")
local macro_rules | `(tactic| walk_at "exec Assign cons ListComp") => `(tactic| k_extra "mycompA")
local macro_rules | `(tactic| walk_at "CompSrcT") => `(tactic| k_extra "mysrcT")
local macro_rules | `(tactic| walk_at "call builtin:list.extend") => `(tactic| (k_here; (with_reducible show wpAny _ _ (call (Value.builtin _) [Value.ref _, Value.ref _]) _ _ _); k_dflt (refine ext_any (by k_asm) (by k_asm) (by k_mem) (by k_updF) (by k_extra "ext") ?_); intro h' n' F' N'; (try dsimp only at N'); (try k_sweep)))
local macro_rules | `(tactic| walk_at "KCiEl") => `(tactic| k_extra "myciel")
local macro_rules | `(tactic| walk_at "KCiNo") => `(tactic| k_extra "mycino")
local macro_rules | `(tactic| walk_at "SrcS") => `(tactic| k_extra "mysrcS")
local macro_rules | `(tactic| walk_at "CompSrc") => `(tactic| k_extra "mysrc")
local macro_rules | `(tactic| walk_at "pyIter str") => `(tactic| k_extra "myiter")
local macro_rules | `(tactic| walk_at "pyIter ref") => `(tactic| first | k_extra "myiter" | (with_reducible refine stopP ?_))
local macro_rules | `(tactic| walk_at "exec For Name Name cons nil") => `(tactic| (k_here; (rename Fr _ _ _ _ => lF'); (with_unfolding_all refine' For_invVF lF' ?k1 ?k2 ?_; (case k1 => exact rfl); (case k2 => exact rfl); k_whole)))
local macro_rules | `(tactic| walk_at "call builtin:len") => `(tactic| (k_here; (with_reducible show wpAny _ _ (call (Value.builtin "len") [Value.str _ _]) _ _ _); (refine PyProof.Rows.len_str (by first | omega | ((simp only [S_len, List.length_append]); omega)) ?_)))
local macro_rules | `(tactic| walk_at "binaryOp Add str str") => `(tactic| (k_here; (refine PyProof.Rows.add_str ?_ (by (rw [sizeLine_eq]); first | k_extra "len" | omega | ((simp only [S_len, PySem.Str.length_append, List.length_append]); omega))); intro t' k'; (try (rw [S_app]))))
local macro_rules | `(tactic| walk_at "callWith ref") => `(tactic| (k_here; k_dflt (first
  | (refine' callWith_F ?k1 ?_; (case k1 => exact FnAt.of (by k_asm) (by k_mem)); k_whole)
  | (refine' callWith_F0 ?k1 ?_; (case k1 => exact FnAt.of (by k_asm) (by k_mem)); k_whole; try dsimp only [List.nil_append, List.cons_append]))))

theorem escape_tells {x : Str} {tx : Tok} (B : Below A₀ base outer h₀) (F : Fr h₀ L s.heap m) (X : (hd.heap_39 w.params).In h₀) (T : Top p loose mean mg mb h₀) (hk : cs.kind = .function)
    (hdp : dp + 1 < recursionLimit) (hu : un + 8 < cLine) (N : News h₀ L s.heap news)
    (hx : x.length ≤ 8000)
    (ret : ∀ t h' tk, Fr h₀ L h' m → News h₀ L h' news → Q (.str (escS x) t) { s with heap := h', toks := tk }) :
    wpAny (model PySem.Challenge.rw_ij0009_02.row.prog w) (ktrTop dp un gd cn cs L a ccd cl outer) (call (.ref 30) [.str x tx]) Q E s := by
  w_top off
  k_with_none
  k_with "enter" => (first
    | (refine' code_def ?k1 ?k2 ?k3 ?k4 ?k5 ?kA ?kF ?kK ?k6 ?k7 ?k8 ?k9 ?kB ?_ ?c2 ?c3 ?c4 ?c5; (case kA => exact rfl); (case kF => exact rfl); (case kK => first | exact rfl | assumption); (case k1 => k_asm); (case k2 => k_asm); (case k3 => k_asm); (case k4 => k_asm); (case k5 => k_asm); (case k6 => k_is); (case k7 => k_is); (case k8 => ktr_room); (case k9 => first | exact BindsTo.of_eq rfl | exact binds_K (by k_in) rfl (by k_is) rfl rfl rfl | fail "enter: no rule for these arguments"); (case c5 => decide); (case kB => exact locs rfl); (case c2 => exact rfl); (case c3 => exact rfl); (case c4 => exact rfl); k_whole; intro g' L' h' FG' F' N' B' X' T'; (try dsimp only); (try k_lift B'); (try k_fold))
    | (refine' code_defC ?k1 ?k2 ?k3 ?k4 ?k5 ?kA ?kF ?kK ?k6 ?k7 ?k8 ?k9 ?kB ?kD ?_ ?c2 ?c3 ?c4; (case kA => exact rfl); (case kF => exact rfl); (case kK => first | exact rfl | assumption); (case k1 => k_asm); (case k2 => k_asm); (case k3 => k_asm); (case k4 => k_asm); (case k5 => k_asm); (case k6 => k_is); (case k7 => k_is); (case k8 => ktr_room); (case k9 => first | exact BindsTo.of_eq rfl | exact binds_K (by k_in) rfl (by k_is) rfl rfl rfl | fail "enter: no rule for these arguments"); (case kB => exact rfl); (case kD => decide +kernel); (case c2 => exact rfl); (case c3 => exact rfl); (case c4 => exact rfl); k_whole; intro g' L' h' tk' cells' FG' F' N' Y' B' X' T' l1; (try k_lt l1); k_cells Y'; (try simp only [List.cons_append, List.nil_append] at N'); (try dsimp only); (try k_lift B'); (try k_fold)))
  k_with "entern" => (refine' code_nest ?k1 ?k2 ?k3 ?k4 ?k5 ?kA ?kF ?kK ?k6 ?k7 ?k8 ?k9 ?kB ?_ ?c2 ?c3 ?c4 ?c5; (case kA => assumption); (case kF => assumption); (case kK => first | exact rfl | assumption); (case k1 => k_asm); (case k2 => k_asm); (case k3 => k_asm); (case k4 => k_asm); (case k5 => k_asm); (case k6 => k_mem); (case k7 => exact codeRec_news (by k_asm) (by k_mem) (by assumption) (by assumption)); (case k8 => ktr_room); (case k9 => exact BindsTo.of_eq rfl); (case c5 => decide); (case kB => exact locs rfl); (case c2 => exact rfl); (case c3 => exact rfl); (case c4 => exact rfl); k_whole; intro g' L' h' FG' F' N' B' X' T'; (try dsimp only); (try k_lift B'); (try k_fold))
  revert X; k_fill; intro X
  refine wpAny_call ?_
  k_dflt (k_extra "enter")
  k_steps
  rename Fr _ _ _ _ => F9
  rename News _ _ _ _ => N9
  exact ret _ _ _ F9 N9

theorem unescape_tells {x : Str} {tx : Tok} (B : Below A₀ base outer h₀) (F : Fr h₀ L s.heap m) (X : (hd.heap_39 w.params).In h₀) (T : Top p loose mean mg mb h₀) (hk : cs.kind = .function)
    (hdp : dp + 1 < recursionLimit) (hu : un + 8 < cLine) (N : News h₀ L s.heap news)
    (hx : x.length ≤ 1000)
    (ret : ∀ t h' tk, Fr h₀ L h' m → News h₀ L h' news → Q (.str (uneS x) t) { s with heap := h', toks := tk }) :
    wpAny (model PySem.Challenge.rw_ij0009_02.row.prog w) (ktrTop dp un gd cn cs L a ccd cl outer) (call (.ref 39) [.str x tx]) Q E s := by
  w_top off
  k_with_none
  k_with "enter" => (first
    | (refine' code_def ?k1 ?k2 ?k3 ?k4 ?k5 ?kA ?kF ?kK ?k6 ?k7 ?k8 ?k9 ?kB ?_ ?c2 ?c3 ?c4 ?c5; (case kA => exact rfl); (case kF => exact rfl); (case kK => first | exact rfl | assumption); (case k1 => k_asm); (case k2 => k_asm); (case k3 => k_asm); (case k4 => k_asm); (case k5 => k_asm); (case k6 => k_is); (case k7 => k_is); (case k8 => ktr_room); (case k9 => first | exact BindsTo.of_eq rfl | exact binds_K (by k_in) rfl (by k_is) rfl rfl rfl | fail "enter: no rule for these arguments"); (case c5 => decide); (case kB => exact locs rfl); (case c2 => exact rfl); (case c3 => exact rfl); (case c4 => exact rfl); k_whole; intro g' L' h' FG' F' N' B' X' T'; (try dsimp only); (try k_lift B'); (try k_fold))
    | (refine' code_defC ?k1 ?k2 ?k3 ?k4 ?k5 ?kA ?kF ?kK ?k6 ?k7 ?k8 ?k9 ?kB ?kD ?_ ?c2 ?c3 ?c4; (case kA => exact rfl); (case kF => exact rfl); (case kK => first | exact rfl | assumption); (case k1 => k_asm); (case k2 => k_asm); (case k3 => k_asm); (case k4 => k_asm); (case k5 => k_asm); (case k6 => k_is); (case k7 => k_is); (case k8 => ktr_room); (case k9 => first | exact BindsTo.of_eq rfl | exact binds_K (by k_in) rfl (by k_is) rfl rfl rfl | fail "enter: no rule for these arguments"); (case kB => exact rfl); (case kD => decide +kernel); (case c2 => exact rfl); (case c3 => exact rfl); (case c4 => exact rfl); k_whole; intro g' L' h' tk' cells' FG' F' N' Y' B' X' T' l1; (try k_lt l1); k_cells Y'; (try simp only [List.cons_append, List.nil_append] at N'); (try dsimp only); (try k_lift B'); (try k_fold)))
  k_with "entern" => (refine' code_nest ?k1 ?k2 ?k3 ?k4 ?k5 ?kA ?kF ?kK ?k6 ?k7 ?k8 ?k9 ?kB ?_ ?c2 ?c3 ?c4 ?c5; (case kA => assumption); (case kF => assumption); (case kK => first | exact rfl | assumption); (case k1 => k_asm); (case k2 => k_asm); (case k3 => k_asm); (case k4 => k_asm); (case k5 => k_asm); (case k6 => k_mem); (case k7 => exact codeRec_news (by k_asm) (by k_mem) (by assumption) (by assumption)); (case k8 => ktr_room); (case k9 => exact BindsTo.of_eq rfl); (case c5 => decide); (case kB => exact locs rfl); (case c2 => exact rfl); (case c3 => exact rfl); (case c4 => exact rfl); k_whole; intro g' L' h' FG' F' N' B' X' T'; (try dsimp only); (try k_lift B'); (try k_fold))
  revert X; k_fill; intro X
  refine wpAny_call ?_
  k_dflt (k_extra "enter")
  k_steps
  rename Fr _ _ _ _ => F9
  rename News _ _ _ _ => N9
  exact ret _ _ _ F9 N9

end
end Mine
end
section
open PySem PySem.W PyProof.Rows PySem.Spec PySem.Calls
namespace Mine
section
variable {w : World} {p : Program} {loose : List Str} {mean : ExcName → Option Value} {mg mb : Str → Option Value} {dp un : Nat} {gd : Option (List Code)} {cn : Str} {cs : Scope} {a : Addr} {ccd : Value} {cl : List (Str × Addr)} {outer : List Env} {A₀ : Around} {base h₀ : Heap} {L : Addr} {m : Str → Option Value} {news : List (Addr × Obj)} {s : Shared} {Q E : Value → Shared → Prop}
local macro_rules | `(tactic| walk_at "truthy ref") => `(tactic| (k_here; k_dflt (refine' truthy_emptyK ?k1 ?k2 ?k3 ?k4 ?_; (case k1 => k_asm); (case k2 => k_asm); (case k3 => k_is); (case k4 => rfl); k_whole)))
local macro_rules | `(tactic| walk_at "execs cons") => `(tactic| (k_here; (refine tk_gen (by (fail_if_success assumption); first | omega | (with_unfolding_all exact Nat.succ_pos _)) ?_); intro tk htk))
local macro_rules | `(tactic| walk_at "execs nil") => `(tactic| (k_here; (refine tk_gen (by (fail_if_success assumption); first | omega | (with_unfolding_all exact Nat.succ_pos _)) ?_); intro tk htk))
local macro_rules | `(tactic| walk_at "call builtin:str.replace") => `(tactic| (k_here; (refine replace_tk 1 (by dsimp only; omega) (by omega) (by omega) (by decide) (by first | assumption | omega) (by decide) (by decide) (by decide) ?_); intro t' k' hk' hl'))
local macro_rules | `(tactic| walk_at "call builtin:bytes.decode") => `(tactic| (k_here; (refine decode1 (by first | assumption | omega) 0 (Nat.zero_le _) ?_); intro t' k' hk'))
local macro_rules | `(tactic| k_room) => `(tactic| first | ktr_room | ((simp only [depth_mark, depth_deeper]); ktr_room))
local macro_rules | `(tactic| k_units) => `(tactic| ktr_units)
local macro_rules | `(tactic| units_room) => `(tactic| ktr_units)
local macro_rules | `(tactic| walk_at "CompEnd") => `(tactic| k_extra "mycompend")
local macro_rules | `(tactic| k_all) => `(tactic| k_extra "rest")
local macro_rules | `(tactic| walk_at "call ref") => `(tactic| k_extra "mycall")
local macro_rules | `(tactic| walk_at "eval ListComp") => `(tactic| k_extra "mycomp")
local macro_rules | `(tactic| walk_at "exec Assign cons ListComp") => `(tactic| k_extra "mycompA")
local macro_rules | `(tactic| walk_at "CompSrcT") => `(tactic| k_extra "mysrcT")
local macro_rules | `(tactic| walk_at "call builtin:list.extend") => `(tactic| (k_here; (with_reducible show wpAny _ _ (call (Value.builtin _) [Value.ref _, Value.ref _]) _ _ _); k_dflt (refine ext_any (by k_asm) (by k_asm) (by k_mem) (by k_updF) (by k_extra "ext") ?_); intro h' n' F' N'; (try dsimp only at N'); (try k_sweep)))
local macro_rules | `(tactic| walk_at "KCiEl") => `(tactic| k_extra "myciel")
local macro_rules | `(tactic| walk_at "KCiNo") => `(tactic| k_extra "mycino")
local macro_rules | `(tactic| walk_at "SrcS") => `(tactic| k_extra "mysrcS")
local macro_rules | `(tactic| walk_at "CompSrc") => `(tactic| k_extra "mysrc")
local macro_rules | `(tactic| walk_at "pyIter str") => `(tactic| k_extra "myiter")
local macro_rules | `(tactic| walk_at "pyIter ref") => `(tactic| first | k_extra "myiter" | (with_reducible refine stopP ?_))
local macro_rules | `(tactic| walk_at "exec For Name Name cons nil") => `(tactic| (k_here; (rename Fr _ _ _ _ => lF'); (with_unfolding_all refine' For_invVF lF' ?k1 ?k2 ?_; (case k1 => exact rfl); (case k2 => exact rfl); k_whole)))
local macro_rules | `(tactic| walk_at "call builtin:len") => `(tactic| (k_here; (with_reducible show wpAny _ _ (call (Value.builtin "len") [Value.str _ _]) _ _ _); (refine PyProof.Rows.len_str (by first | omega | ((simp only [S_len, List.length_append]); omega)) ?_)))
local macro_rules | `(tactic| walk_at "binaryOp Add str str") => `(tactic| (k_here; (refine PyProof.Rows.add_str ?_ (by (rw [sizeLine_eq]); first | k_extra "len" | omega | ((simp only [S_len, PySem.Str.length_append, List.length_append]); omega))); intro t' k'; (try (rw [S_app]))))
local macro_rules | `(tactic| walk_at "callWith ref") => `(tactic| (k_here; k_dflt (first
  | (refine' callWith_F ?k1 ?_; (case k1 => exact FnAt.of (by k_asm) (by k_mem)); k_whole)
  | (refine' callWith_F0 ?k1 ?_; (case k1 => exact FnAt.of (by k_asm) (by k_mem)); k_whole; try dsimp only [List.nil_append, List.cons_append]))))

theorem stream_new {b : Array UInt8} {tb : Tok} {rest : List (Addr × Obj)} (B : Below A₀ base outer h₀) (F : Fr h₀ L s.heap m) (X : (hd.heap_39 w.params).In h₀) (T : Top p loose mean mg mb h₀) (hk : cs.kind = .function)
    (hdp : dp + 4 < recursionLimit) (hu : un + 40 < cLine) (codeHd : CodeHd base 80 76) (N : News h₀ L s.heap ((76, tabObj #[]) :: rest))
    (l0 : ∀ p ∈ rest, @Ne Nat p.1 76) (hx : b.size ≤ 100000)
    (ret : ∀ (x d f c pl c2 c1 : Addr) (oc o2 o1 : Obj) (fd : FuncData) (kv kr vt pt : Tok) h' tk, CodeOk oc → (∀ q ∈ rest, @Ne Nat q.1 c) → @Ne Nat c 76 → @Ne Nat c pl → @Ne Nat c f → @Ne Nat c d → @Ne Nat c x → @Ne Nat c c2 → @Ne Nat c c1 → (∀ q ∈ rest, @LT.lt Nat _ q.1 c1) → @LT.lt Nat _ 76 c1 → @LT.lt Nat _ c1 c2 → @LT.lt Nat _ c2 pl → @LT.lt Nat _ pl f → @LT.lt Nat _ f d → @LT.lt Nat _ d x → Fr h₀ L h' m →
      News h₀ L h' ((x, instObj 70 d) :: (d, dictOf [⟨PyData.keyHash w.params (Str.ofString "value"), .str (Str.ofString "value") kv, .int 0 vt⟩, ⟨PyData.keyHash w.params (Str.ofString "read"), .str (Str.ofString "read") kr, .ref f⟩] 2) :: (f, ⟨.type "function", none, .func fd, #[]⟩) :: (c, oc) :: (pl, listOf #[.int 0 pt] 0) :: (c2, o2) :: (c1, o1) :: (76, tabObj (#[] ++ #[rawInt ((40 : Nat) : Int), rawInt ((4 : Nat) : Int), .ref c])) :: rest) →
      TakeOk PySem.Challenge.rw_ij0009_02.row.prog w (hd.heap_39 w.params) p loose mean mg mb b f c pl c2 c1 fd oc o2 o1 →
      Q (.ref x) { s with heap := h', toks := tk }) :
    wpAny (model PySem.Challenge.rw_ij0009_02.row.prog w) (ktrTop dp un gd cn cs L a ccd cl outer) (call (.ref 81) [.bytes b tb]) Q E s := by
  w_top off
  k_with_none
  k_with "enter" => (first
    | (refine' code_def ?k1 ?k2 ?k3 ?k4 ?k5 ?kA ?kF ?kK ?k6 ?k7 ?k8 ?k9 ?kB ?_ ?c2 ?c3 ?c4 ?c5; (case kA => exact rfl); (case kF => exact rfl); (case kK => first | exact rfl | assumption); (case k1 => k_asm); (case k2 => k_asm); (case k3 => k_asm); (case k4 => k_asm); (case k5 => k_asm); (case k6 => k_is); (case k7 => k_is); (case k8 => ktr_room); (case k9 => first | exact BindsTo.of_eq rfl | exact binds_K (by k_in) rfl (by k_is) rfl rfl rfl | fail "enter: no rule for these arguments"); (case c5 => decide); (case kB => exact locs rfl); (case c2 => exact rfl); (case c3 => exact rfl); (case c4 => exact rfl); k_whole; intro g' L' h' FG' F' N' B' X' T'; (try dsimp only); (try k_lift B'); (try k_fold))
    | (refine' code_defC ?k1 ?k2 ?k3 ?k4 ?k5 ?kA ?kF ?kK ?k6 ?k7 ?k8 ?k9 ?kB ?kD ?_ ?c2 ?c3 ?c4; (case kA => exact rfl); (case kF => exact rfl); (case kK => first | exact rfl | assumption); (case k1 => k_asm); (case k2 => k_asm); (case k3 => k_asm); (case k4 => k_asm); (case k5 => k_asm); (case k6 => k_is); (case k7 => k_is); (case k8 => ktr_room); (case k9 => first | exact BindsTo.of_eq rfl | exact binds_K (by k_in) rfl (by k_is) rfl rfl rfl | fail "enter: no rule for these arguments"); (case kB => exact rfl); (case kD => decide +kernel); (case c2 => exact rfl); (case c3 => exact rfl); (case c4 => exact rfl); k_whole; intro g' L' h' tk' cells' FG' F' N' Y' B' X' T' l1; (try k_lt l1); k_cells Y'; (try simp only [List.cons_append, List.nil_append] at N'); (try dsimp only); (try k_lift B'); (try k_fold)))
  k_with "entern" => (refine' code_nest ?k1 ?k2 ?k3 ?k4 ?k5 ?kA ?kF ?kK ?k6 ?k7 ?k8 ?k9 ?kB ?_ ?c2 ?c3 ?c4 ?c5; (case kA => assumption); (case kF => assumption); (case kK => first | exact rfl | assumption); (case k1 => k_asm); (case k2 => k_asm); (case k3 => k_asm); (case k4 => k_asm); (case k5 => k_asm); (case k6 => k_mem); (case k7 => exact codeRec_news (by k_asm) (by k_mem) (by assumption) (by assumption)); (case k8 => ktr_room); (case k9 => exact BindsTo.of_eq rfl); (case c5 => decide); (case kB => exact locs rfl); (case c2 => exact rfl); (case c3 => exact rfl); (case c4 => exact rfl); k_whole; intro g' L' h' FG' F' N' B' X' T'; (try dsimp only); (try k_lift B'); (try k_fold))
  revert X; k_fill; intro X
  refine wpAny_call ?_
  k_dflt (k_extra "enter")
  have lr := allLt_all l1.2
  k_with "rest" => (intro p9 hp9; (have q9 := lr p9 hp9); (have q8 := l0 p9 hp9); refine neN ?_; (try dsimp only); omega)
  k_steps
  all_goals (try k_data)
  rename Fr _ _ _ _ => F9
  rename News _ _ _ _ => N9
  refine' ret _ _ _ _ _ _ _ _ _ _ _ _ _ _ _ _ _ ?ro ?rq ?rc ?rp ?s1 ?s2 ?s3 ?s4 ?s5 ?r0 ?r1 ?r3 ?r4 ?r2 ?r5 ?r6 ?F ?N ?K
  case N => exact N9
  case F => exact F9
  case ro => exact ⟨_, _, by assumption, by assumption⟩
  case rq => exact fun q hq => by (have q9 := lr q hq); refine neN ?_; omega
  case r3 => omega
  case r4 => omega
  case rc => refine neN ?_; omega
  case s1 => refine neN ?_; omega
  case s2 => refine neN ?_; omega
  case s3 => refine neN ?_; omega
  case s4 => refine neN ?_; omega
  case s5 => refine neN ?_; omega
  case rp => refine neN ?_; omega
  case r0 => exact fun q hq => by (have q9 := lr q hq); omega
  case r1 => omega
  case r2 => omega
  case r5 => omega
  case r6 => omega
  (try clear F9 N9 ret B F X N); (try clear FG'); (try clear B'); (try clear X'); (try clear T')
  unfold TakeOk
  intro A env outer A₀ base h₀ L m rest s Q E pos pt n k tn B F X T hA hf hk N hrest hb hpos hkk hdp hu ret
  obtain ⟨ks, hks⟩ : ∃ ks, KBw.bInts b = ks := ⟨_, rfl⟩
  have hkl : ks.length = b.size := by rw [← hks, KBw.ints_length]
  k_with "rest" => (intro p9 hp9; (have q9 := hrest p9 hp9); refine neN ?_; (try dsimp only); omega)
  refine wpAny_call ?_
  k_dflt (k_extra "entern")
  k_steps
  rename Fr _ _ _ _ => F9
  rename News _ _ _ _ => N9
  rw [picked_cut b pos k hpos]
  refine ret _ _ _ _ F9 (news_int (pre := [_, _]) ?_ N9)
  have e0 : [(pos : Int)].getD (Int.toNat 0) 0 = (pos : Int) := rfl
  have e1 : (pos : Int) + (k : Int) = ((pos + k : Nat) : Int) := by omega
  rw [e0, e1, cut_size]
  simp only [clipAt_nat]
  omega

theorem stream_hit {b : Array UInt8} {tb : Tok} {rest : List (Addr × Obj)} {c : Addr} {oc : Obj} (B : Below A₀ base outer h₀) (F : Fr h₀ L s.heap m) (X : (hd.heap_39 w.params).In h₀) (T : Top p loose mean mg mb h₀) (hk : cs.kind = .function)
    (hdp : dp + 4 < recursionLimit) (hu : un + 40 < cLine) (codeHd : CodeHd base 80 76) (N : News h₀ L s.heap ((76, tabObj (#[] ++ #[rawInt ((40 : Nat) : Int), rawInt ((4 : Nat) : Int), .ref c])) :: (c, oc) :: rest)) (hc76 : @Ne Nat c 76) (hoc : CodeOk oc)
    (l0 : ∀ p ∈ rest, @Ne Nat p.1 76) (hx : b.size ≤ 100000)
    (ret : ∀ (x d f pl c2 c1 : Addr) (o2 o1 : Obj) (fd : FuncData) (kv kr vt pt : Tok) h' tk, @Ne Nat c pl → @Ne Nat c f → @Ne Nat c d → @Ne Nat c x → @Ne Nat c c2 → @Ne Nat c c1 → (∀ q ∈ rest, @LT.lt Nat _ q.1 c1) → @LT.lt Nat _ 76 c1 → @LT.lt Nat _ c1 c2 → @LT.lt Nat _ c2 pl → @LT.lt Nat _ pl f → @LT.lt Nat _ f d → @LT.lt Nat _ d x → Fr h₀ L h' m →
      News h₀ L h' ((x, instObj 70 d) :: (d, dictOf [⟨PyData.keyHash w.params (Str.ofString "value"), .str (Str.ofString "value") kv, .int 0 vt⟩, ⟨PyData.keyHash w.params (Str.ofString "read"), .str (Str.ofString "read") kr, .ref f⟩] 2) :: (f, ⟨.type "function", none, .func fd, #[]⟩) :: (c, oc) :: (pl, listOf #[.int 0 pt] 0) :: (c2, o2) :: (c1, o1) :: (76, tabObj (#[] ++ #[rawInt ((40 : Nat) : Int), rawInt ((4 : Nat) : Int), .ref c])) :: rest) →
      TakeOk PySem.Challenge.rw_ij0009_02.row.prog w (hd.heap_39 w.params) p loose mean mg mb b f c pl c2 c1 fd oc o2 o1 →
      Q (.ref x) { s with heap := h', toks := tk }) :
    wpAny (model PySem.Challenge.rw_ij0009_02.row.prog w) (ktrTop dp un gd cn cs L a ccd cl outer) (call (.ref 81) [.bytes b tb]) Q E s := by
  w_top off
  k_with_none
  k_with "enter" => (first
    | (refine' code_def ?k1 ?k2 ?k3 ?k4 ?k5 ?kA ?kF ?kK ?k6 ?k7 ?k8 ?k9 ?kB ?_ ?c2 ?c3 ?c4 ?c5; (case kA => exact rfl); (case kF => exact rfl); (case kK => first | exact rfl | assumption); (case k1 => k_asm); (case k2 => k_asm); (case k3 => k_asm); (case k4 => k_asm); (case k5 => k_asm); (case k6 => k_is); (case k7 => k_is); (case k8 => ktr_room); (case k9 => first | exact BindsTo.of_eq rfl | exact binds_K (by k_in) rfl (by k_is) rfl rfl rfl | fail "enter: no rule for these arguments"); (case c5 => decide); (case kB => exact locs rfl); (case c2 => exact rfl); (case c3 => exact rfl); (case c4 => exact rfl); k_whole; intro g' L' h' FG' F' N' B' X' T'; (try dsimp only); (try k_lift B'); (try k_fold))
    | (refine' code_defC ?k1 ?k2 ?k3 ?k4 ?k5 ?kA ?kF ?kK ?k6 ?k7 ?k8 ?k9 ?kB ?kD ?_ ?c2 ?c3 ?c4; (case kA => exact rfl); (case kF => exact rfl); (case kK => first | exact rfl | assumption); (case k1 => k_asm); (case k2 => k_asm); (case k3 => k_asm); (case k4 => k_asm); (case k5 => k_asm); (case k6 => k_is); (case k7 => k_is); (case k8 => ktr_room); (case k9 => first | exact BindsTo.of_eq rfl | exact binds_K (by k_in) rfl (by k_is) rfl rfl rfl | fail "enter: no rule for these arguments"); (case kB => exact rfl); (case kD => decide +kernel); (case c2 => exact rfl); (case c3 => exact rfl); (case c4 => exact rfl); k_whole; intro g' L' h' tk' cells' FG' F' N' Y' B' X' T' l1; (try k_lt l1); k_cells Y'; (try simp only [List.cons_append, List.nil_append] at N'); (try dsimp only); (try k_lift B'); (try k_fold)))
  k_with "entern" => (refine' code_nest ?k1 ?k2 ?k3 ?k4 ?k5 ?kA ?kF ?kK ?k6 ?k7 ?k8 ?k9 ?kB ?_ ?c2 ?c3 ?c4 ?c5; (case kA => assumption); (case kF => assumption); (case kK => first | exact rfl | assumption); (case k1 => k_asm); (case k2 => k_asm); (case k3 => k_asm); (case k4 => k_asm); (case k5 => k_asm); (case k6 => k_mem); (case k7 => exact codeRec_news (by k_asm) (by k_mem) (by assumption) (by assumption)); (case k8 => ktr_room); (case k9 => exact BindsTo.of_eq rfl); (case c5 => decide); (case kB => exact locs rfl); (case c2 => exact rfl); (case c3 => exact rfl); (case c4 => exact rfl); k_whole; intro g' L' h' FG' F' N' B' X' T'; (try dsimp only); (try k_lift B'); (try k_fold))
  revert X; k_fill; intro X
  obtain ⟨vsC, tC, hoC1, hoC2⟩ := hoc
  refine wpAny_call ?_
  k_dflt (k_extra "enter")
  have lr := allLt_all l1.2.2
  k_with "rest" => (intro p9 hp9; (have q9 := lr p9 hp9); (have q8 := l0 p9 hp9); refine neN ?_; (try dsimp only); omega)
  k_steps
  all_goals (try k_data)
  rename Fr _ _ _ _ => F9
  rename News _ _ _ _ => N9
  have N10 := hit_order N9
  refine' ret _ _ _ _ _ _ _ _ _ _ _ _ _ _ _ ?rp ?s1 ?s2 ?s3 ?s4 ?s5 ?r0 ?r1 ?r3 ?r4 ?r2 ?r5 ?r6 ?F ?N ?K
  case N => exact N10
  case s1 => refine neN ?_; omega
  case s2 => refine neN ?_; omega
  case s3 => refine neN ?_; omega
  case s4 => refine neN ?_; omega
  case s5 => refine neN ?_; omega
  case r3 => omega
  case r4 => omega
  case F => exact F9
  case rp => refine neN ?_; omega
  case r0 => exact fun q hq => by (have q9 := lr q hq); omega
  case r1 => omega
  case r2 => omega
  case r5 => omega
  case r6 => omega
  (try clear F9 N9 ret B F X N); (try clear FG'); (try clear B'); (try clear X'); (try clear T')
  unfold TakeOk
  intro A env outer A₀ base h₀ L m rest s Q E pos pt n k tn B F X T hA hf hk N hrest hb hpos hkk hdp hu ret
  obtain ⟨ks, hks⟩ : ∃ ks, KBw.bInts b = ks := ⟨_, rfl⟩
  have hkl : ks.length = b.size := by rw [← hks, KBw.ints_length]
  k_with "rest" => (intro p9 hp9; (have q9 := hrest p9 hp9); refine neN ?_; (try dsimp only); omega)
  refine wpAny_call ?_
  k_dflt (k_extra "entern")
  k_steps
  rename Fr _ _ _ _ => F9
  rename News _ _ _ _ => N9
  rw [picked_cut b pos k hpos]
  refine ret _ _ _ _ F9 (news_int (pre := [_, _]) ?_ N9)
  have e0 : [(pos : Int)].getD (Int.toNat 0) 0 = (pos : Int) := rfl
  have e1 : (pos : Int) + (k : Int) = ((pos + k : Nat) : Int) := by omega
  rw [e0, e1, cut_size]
  simp only [clipAt_nat]
  omega

theorem stream_any {b : Array UInt8} {tb : Tok} {rest : List (Addr × Obj)} {pq : Array Value} {cod : List (Addr × Obj)} (B : Below A₀ base outer h₀) (F : Fr h₀ L s.heap m) (X : (hd.heap_39 w.params).In h₀) (T : Top p loose mean mg mb h₀) (hk : cs.kind = .function)
    (hdp : dp + 4 < recursionLimit) (hu : un + 40 < cLine) (codeHd : CodeHd base 80 76) (N : News h₀ L s.heap ((76, tabObj pq) :: (cod ++ rest))) (htb : TabOk pq cod) (hcr : ∀ e ∈ cod, ∀ q ∈ rest, @Ne Nat q.1 e.1)
    (l0 : ∀ p ∈ rest, @Ne Nat p.1 76) (hx : b.size ≤ 100000)
    (ret : ∀ (x d f c pl c2 c1 : Addr) (oc o2 o1 : Obj) (fd : FuncData) (kv kr vt pt : Tok) h' tk, (cod = [] ∨ cod = [(c, oc)]) → CodeOk oc → (∀ q ∈ rest, @Ne Nat q.1 c) → @Ne Nat c 76 → @Ne Nat c pl → @Ne Nat c f → @Ne Nat c d → @Ne Nat c x → @Ne Nat c c2 → @Ne Nat c c1 → (∀ q ∈ rest, @LT.lt Nat _ q.1 c1) → @LT.lt Nat _ 76 c1 → @LT.lt Nat _ c1 c2 → @LT.lt Nat _ c2 pl → @LT.lt Nat _ pl f → @LT.lt Nat _ f d → @LT.lt Nat _ d x → Fr h₀ L h' m →
      News h₀ L h' ((x, instObj 70 d) :: (d, dictOf [⟨PyData.keyHash w.params (Str.ofString "value"), .str (Str.ofString "value") kv, .int 0 vt⟩, ⟨PyData.keyHash w.params (Str.ofString "read"), .str (Str.ofString "read") kr, .ref f⟩] 2) :: (f, ⟨.type "function", none, .func fd, #[]⟩) :: (c, oc) :: (pl, listOf #[.int 0 pt] 0) :: (c2, o2) :: (c1, o1) :: (76, tabObj (#[] ++ #[rawInt ((40 : Nat) : Int), rawInt ((4 : Nat) : Int), .ref c])) :: rest) →
      TakeOk PySem.Challenge.rw_ij0009_02.row.prog w (hd.heap_39 w.params) p loose mean mg mb b f c pl c2 c1 fd oc o2 o1 →
      Q (.ref x) { s with heap := h', toks := tk }) :
    wpAny (model PySem.Challenge.rw_ij0009_02.row.prog w) (ktrTop dp un gd cn cs L a ccd cl outer) (call (.ref 81) [.bytes b tb]) Q E s := by
  rcases htb with ⟨rfl, rfl⟩ | ⟨c, oc, rfl, rfl, hoc, hc⟩
  · exact stream_new B F X T hk hdp hu codeHd N l0 hx (fun x d f c pl c2 c1 oc o2 o1 fd kv kr vt pt h' tk => ret x d f c pl c2 c1 oc o2 o1 fd kv kr vt pt h' tk (.inl rfl))
  · exact stream_hit B F X T hk hdp hu codeHd N hc hoc l0 hx (fun x d f pl c2 c1 o2 o1 fd kv kr vt pt h' tk => ret x d f c pl c2 c1 oc o2 o1 fd kv kr vt pt h' tk (.inr rfl) hoc (hcr _ (List.mem_singleton.mpr rfl)) hc)

theorem uint1_tells {x d f c pl c2 c1 : Addr} {oc o2 o1 : Obj} {fd : FuncData} {kv kr vt : Tok} {b : Array UInt8} {pos : Nat} {pt : Tok} {rest : List (Addr × Obj)} (B : Below A₀ base outer h₀) (F : Fr h₀ L s.heap m) (X : (hd.heap_39 w.params).In h₀) (T : Top p loose mean mg mb h₀) (hk : cs.kind = .function)
    (hdp : dp + 3 < recursionLimit) (hu : un + 40 < cLine)
    (N : News h₀ L s.heap ((x, instObj 70 d) :: (d, dictOf [⟨PyData.keyHash w.params (Str.ofString "value"), .str (Str.ofString "value") kv, .int 0 vt⟩, ⟨PyData.keyHash w.params (Str.ofString "read"), .str (Str.ofString "read") kr, .ref f⟩] 2) :: (f, ⟨.type "function", none, .func fd, #[]⟩) :: (c, oc) :: (pl, listOf #[.int pos pt] 0) :: (c2, o2) :: (c1, o1) :: rest))
    (hT : TakeOk PySem.Challenge.rw_ij0009_02.row.prog w (hd.heap_39 w.params) p loose mean mg mb b f c pl c2 c1 fd oc o2 o1) (hdx : @LT.lt Nat _ d x) (hfd : @LT.lt Nat _ f d) (hplf : @LT.lt Nat _ pl f) (hrest : ∀ q ∈ rest, @Ne Nat q.1 pl)
    (hb : b.size ≤ 100000) (hpos : pos < b.size)
    (ret : ∀ t h' tk pt', Fr h₀ L h' m → News h₀ L h' ((x, instObj 70 d) :: (d, dictOf [⟨PyData.keyHash w.params (Str.ofString "value"), .str (Str.ofString "value") kv, .int 0 vt⟩, ⟨PyData.keyHash w.params (Str.ofString "read"), .str (Str.ofString "read") kr, .ref f⟩] 2) :: (f, ⟨.type "function", none, .func fd, #[]⟩) :: (c, oc) :: (pl, listOf #[.int ((pos + 1 : Nat) : Int) pt'] 0) :: (c2, o2) :: (c1, o1) :: rest) → Q (.int ((b.toList.getD pos 0).toNat : Nat) t) { s with heap := h', toks := tk }) :
    wpAny (model PySem.Challenge.rw_ij0009_02.row.prog w) (ktrTop dp un gd cn cs L a ccd cl outer) (call (.ref 46) [.ref x]) Q E s := by
  w_top off
  k_with_none
  k_with "enter" => (first
    | (refine' code_def ?k1 ?k2 ?k3 ?k4 ?k5 ?kA ?kF ?kK ?k6 ?k7 ?k8 ?k9 ?kB ?_ ?c2 ?c3 ?c4 ?c5; (case kA => exact rfl); (case kF => exact rfl); (case kK => first | exact rfl | assumption); (case k1 => k_asm); (case k2 => k_asm); (case k3 => k_asm); (case k4 => k_asm); (case k5 => k_asm); (case k6 => k_is); (case k7 => k_is); (case k8 => ktr_room); (case k9 => first | exact BindsTo.of_eq rfl | exact binds_K (by k_in) rfl (by k_is) rfl rfl rfl | fail "enter: no rule for these arguments"); (case c5 => decide); (case kB => exact locs rfl); (case c2 => exact rfl); (case c3 => exact rfl); (case c4 => exact rfl); k_whole; intro g' L' h' FG' F' N' B' X' T'; (try dsimp only); (try k_lift B'); (try k_fold))
    | (refine' code_defC ?k1 ?k2 ?k3 ?k4 ?k5 ?kA ?kF ?kK ?k6 ?k7 ?k8 ?k9 ?kB ?kD ?_ ?c2 ?c3 ?c4; (case kA => exact rfl); (case kF => exact rfl); (case kK => first | exact rfl | assumption); (case k1 => k_asm); (case k2 => k_asm); (case k3 => k_asm); (case k4 => k_asm); (case k5 => k_asm); (case k6 => k_is); (case k7 => k_is); (case k8 => ktr_room); (case k9 => first | exact BindsTo.of_eq rfl | exact binds_K (by k_in) rfl (by k_is) rfl rfl rfl | fail "enter: no rule for these arguments"); (case kB => exact rfl); (case kD => decide +kernel); (case c2 => exact rfl); (case c3 => exact rfl); (case c4 => exact rfl); k_whole; intro g' L' h' tk' cells' FG' F' N' Y' B' X' T' l1; (try k_lt l1); k_cells Y'; (try simp only [List.cons_append, List.nil_append] at N'); (try dsimp only); (try k_lift B'); (try k_fold)))
  k_with "entern" => (refine' code_nest ?k1 ?k2 ?k3 ?k4 ?k5 ?kA ?kF ?kK ?k6 ?k7 ?k8 ?k9 ?kB ?_ ?c2 ?c3 ?c4 ?c5; (case kA => assumption); (case kF => assumption); (case kK => first | exact rfl | assumption); (case k1 => k_asm); (case k2 => k_asm); (case k3 => k_asm); (case k4 => k_asm); (case k5 => k_asm); (case k6 => k_mem); (case k7 => exact codeRec_news (by k_asm) (by k_mem) (by assumption) (by assumption)); (case k8 => ktr_room); (case k9 => exact BindsTo.of_eq rfl); (case c5 => decide); (case kB => exact locs rfl); (case c2 => exact rfl); (case c3 => exact rfl); (case c4 => exact rfl); k_whole; intro g' L' h' FG' F' N' B' X' T'; (try dsimp only); (try k_lift B'); (try k_fold))
  k_with "mycall" => (k_here; k_dflt (refine' hT _ _ _ _ _ _ _ _ ((x, instObj 70 d) :: (d, dictOf [⟨PyData.keyHash w.params (Str.ofString "value"), .str (Str.ofString "value") kv, .int 0 vt⟩, ⟨PyData.keyHash w.params (Str.ofString "read"), .str (Str.ofString "read") kr, .ref f⟩] 2) :: rest) _ _ _ pos pt 0 1 _ (by k_asm) (by k_asm) (by k_asm) (by k_asm) (by exact rfl) (by exact rfl) (by first | exact rfl | assumption) (by (refine cb_drop (by k_asm) ?_; kcj_all)) (by exact List.forall_mem_cons.mpr ⟨Nat.ne_of_gt (by omega), List.forall_mem_cons.mpr ⟨Nat.ne_of_gt (by omega), hrest⟩⟩) (by assumption) (by omega) (by omega) (by first | ktr_room | ((simp only [depth_mark, depth_deeper]); ktr_room)) (by ktr_units) ?_); intro t9 h9 tk9 pt9 F9 N9; (have hk9 := cut_one b pos hpos); (have hs9 : (cut b pos 1).size = 1 := by rw [cut_size]; omega); (rw [hs9] at N9); (try dsimp only))
  revert X; k_fill; intro X
  unfold TakeOk at hT
  refine wpAny_call ?_
  k_dflt (k_extra "enter")
  k_steps
  · rename Fr _ _ _ _ => F9
    rename News _ _ _ _ => N9
    exact ret _ _ _ _ F9 (cb_drop N9 (by kcj_all))
  · exact absurd Nat.zero_lt_one (by assumption)

end
end Mine
end
section
open PySem PySem.W PyProof.Rows PySem.Spec PySem.Calls
namespace Mine
section
variable {w : World} {p : Program} {loose : List Str} {mean : ExcName → Option Value} {mg mb : Str → Option Value} {dp un : Nat} {gd : Option (List Code)} {cn : Str} {cs : Scope} {a : Addr} {ccd : Value} {cl : List (Str × Addr)} {outer : List Env} {A₀ : Around} {base h₀ : Heap} {L : Addr} {m : Str → Option Value} {news : List (Addr × Obj)} {s : Shared} {Q E : Value → Shared → Prop}
local macro_rules | `(tactic| walk_at "truthy ref") => `(tactic| (k_here; k_dflt (refine' truthy_emptyK ?k1 ?k2 ?k3 ?k4 ?_; (case k1 => k_asm); (case k2 => k_asm); (case k3 => k_is); (case k4 => rfl); k_whole)))
local macro_rules | `(tactic| walk_at "execs cons") => `(tactic| (k_here; (refine tk_gen (by (fail_if_success assumption); first | omega | (with_unfolding_all exact Nat.succ_pos _)) ?_); intro tk htk))
local macro_rules | `(tactic| walk_at "execs nil") => `(tactic| (k_here; (refine tk_gen (by (fail_if_success assumption); first | omega | (with_unfolding_all exact Nat.succ_pos _)) ?_); intro tk htk))
local macro_rules | `(tactic| walk_at "call builtin:str.replace") => `(tactic| (k_here; (refine replace_tk 1 (by dsimp only; omega) (by omega) (by omega) (by decide) (by first | assumption | omega) (by decide) (by decide) (by decide) ?_); intro t' k' hk' hl'))
local macro_rules | `(tactic| walk_at "call builtin:bytes.decode") => `(tactic| (k_here; (refine decode1 (by first | assumption | omega) 0 (Nat.zero_le _) ?_); intro t' k' hk'))
local macro_rules | `(tactic| k_room) => `(tactic| first | ktr_room | ((simp only [depth_mark, depth_deeper]); ktr_room))
local macro_rules | `(tactic| k_units) => `(tactic| ktr_units)
local macro_rules | `(tactic| units_room) => `(tactic| ktr_units)
local macro_rules | `(tactic| walk_at "CompEnd") => `(tactic| k_extra "mycompend")
local macro_rules | `(tactic| k_all) => `(tactic| k_extra "rest")
local macro_rules | `(tactic| walk_at "call ref") => `(tactic| k_extra "mycall")
local macro_rules | `(tactic| walk_at "eval ListComp") => `(tactic| k_extra "mycomp")
local macro_rules | `(tactic| walk_at "exec Assign cons ListComp") => `(tactic| k_extra "mycompA")
local macro_rules | `(tactic| walk_at "CompSrcT") => `(tactic| k_extra "mysrcT")
local macro_rules | `(tactic| walk_at "call builtin:list.extend") => `(tactic| (k_here; (with_reducible show wpAny _ _ (call (Value.builtin _) [Value.ref _, Value.ref _]) _ _ _); k_dflt (refine ext_any (by k_asm) (by k_asm) (by k_mem) (by k_updF) (by k_extra "ext") ?_); intro h' n' F' N'; (try dsimp only at N'); (try k_sweep)))
local macro_rules | `(tactic| walk_at "KCiEl") => `(tactic| k_extra "myciel")
local macro_rules | `(tactic| walk_at "KCiNo") => `(tactic| k_extra "mycino")
local macro_rules | `(tactic| walk_at "SrcS") => `(tactic| k_extra "mysrcS")
local macro_rules | `(tactic| walk_at "CompSrc") => `(tactic| k_extra "mysrc")
local macro_rules | `(tactic| walk_at "pyIter str") => `(tactic| k_extra "myiter")
local macro_rules | `(tactic| walk_at "pyIter ref") => `(tactic| first | k_extra "myiter" | (with_reducible refine stopP ?_))
local macro_rules | `(tactic| walk_at "exec For Name Name cons nil") => `(tactic| (k_here; (rename Fr _ _ _ _ => lF'); (with_unfolding_all refine' For_invVF lF' ?k1 ?k2 ?_; (case k1 => exact rfl); (case k2 => exact rfl); k_whole)))
local macro_rules | `(tactic| walk_at "call builtin:len") => `(tactic| (k_here; (with_reducible show wpAny _ _ (call (Value.builtin "len") [Value.str _ _]) _ _ _); (refine PyProof.Rows.len_str (by first | omega | ((simp only [S_len, List.length_append]); omega)) ?_)))
local macro_rules | `(tactic| walk_at "binaryOp Add str str") => `(tactic| (k_here; (refine PyProof.Rows.add_str ?_ (by (rw [sizeLine_eq]); first | k_extra "len" | omega | ((simp only [S_len, PySem.Str.length_append, List.length_append]); omega))); intro t' k'; (try (rw [S_app]))))
local macro_rules | `(tactic| walk_at "callWith ref") => `(tactic| (k_here; k_dflt (first
  | (refine' callWith_F ?k1 ?_; (case k1 => exact FnAt.of (by k_asm) (by k_mem)); k_whole)
  | (refine' callWith_F0 ?k1 ?_; (case k1 => exact FnAt.of (by k_asm) (by k_mem)); k_whole; try dsimp only [List.nil_append, List.cons_append]))))

theorem string1_ok {x d f c pl c2 c1 : Addr} {oc o2 o1 : Obj} {fd : FuncData} {kv kr vt : Tok} {b : Array UInt8} {pos n : Nat} {pt : Tok} {rest : List (Addr × Obj)} (B : Below A₀ base outer h₀) (F : Fr h₀ L s.heap m) (X : (hd.heap_39 w.params).In h₀) (T : Top p loose mean mg mb h₀) (hk : cs.kind = .function)
    (hdp : dp + 5 < recursionLimit) (hu : un + 80 < cLine)
    (N : News h₀ L s.heap ((x, instObj 70 d) :: (d, dictOf [⟨PyData.keyHash w.params (Str.ofString "value"), .str (Str.ofString "value") kv, .int 0 vt⟩, ⟨PyData.keyHash w.params (Str.ofString "read"), .str (Str.ofString "read") kr, .ref f⟩] 2) :: (f, ⟨.type "function", none, .func fd, #[]⟩) :: (c, oc) :: (pl, listOf #[.int pos pt] 0) :: (c2, o2) :: (c1, o1) :: rest))
    (hT : TakeOk PySem.Challenge.rw_ij0009_02.row.prog w (hd.heap_39 w.params) p loose mean mg mb b f c pl c2 c1 fd oc o2 o1) (hdx : @LT.lt Nat _ d x) (hfd : @LT.lt Nat _ f d) (hplf : @LT.lt Nat _ pl f) (hrest : ∀ q ∈ rest, @Ne Nat q.1 pl)
    (hb : b.size ≤ 100000) (hpos : pos < b.size) (hn : (b.toList.getD pos 0).toNat = n) (hfit : pos + 1 + n ≤ b.size)
    (ret : ∀ t h' tk pt', Fr h₀ L h' m → News h₀ L h' ((x, instObj 70 d) :: (d, dictOf [⟨PyData.keyHash w.params (Str.ofString "value"), .str (Str.ofString "value") kv, .int 0 vt⟩, ⟨PyData.keyHash w.params (Str.ofString "read"), .str (Str.ofString "read") kr, .ref f⟩] 2) :: (f, ⟨.type "function", none, .func fd, #[]⟩) :: (c, oc) :: (pl, listOf #[.int ((pos + 1 + n : Nat) : Int) pt'] 0) :: (c2, o2) :: (c1, o1) :: rest) → Q (.str (latin (cut b (pos + 1) n)) t) { s with heap := h', toks := tk }) :
    wpAny (model PySem.Challenge.rw_ij0009_02.row.prog w) (ktrTop dp un gd cn cs L a ccd cl outer) (call (.ref 53) [.ref x]) Q E s := by
  w_top off
  k_with_none
  k_with "enter" => (first
    | (refine' code_def ?k1 ?k2 ?k3 ?k4 ?k5 ?kA ?kF ?kK ?k6 ?k7 ?k8 ?k9 ?kB ?_ ?c2 ?c3 ?c4 ?c5; (case kA => exact rfl); (case kF => exact rfl); (case kK => first | exact rfl | assumption); (case k1 => k_asm); (case k2 => k_asm); (case k3 => k_asm); (case k4 => k_asm); (case k5 => k_asm); (case k6 => k_is); (case k7 => k_is); (case k8 => ktr_room); (case k9 => first | exact BindsTo.of_eq rfl | exact binds_K (by k_in) rfl (by k_is) rfl rfl rfl | fail "enter: no rule for these arguments"); (case c5 => decide); (case kB => exact locs rfl); (case c2 => exact rfl); (case c3 => exact rfl); (case c4 => exact rfl); k_whole; intro g' L' h' FG' F' N' B' X' T'; (try dsimp only); (try k_lift B'); (try k_fold))
    | (refine' code_defC ?k1 ?k2 ?k3 ?k4 ?k5 ?kA ?kF ?kK ?k6 ?k7 ?k8 ?k9 ?kB ?kD ?_ ?c2 ?c3 ?c4; (case kA => exact rfl); (case kF => exact rfl); (case kK => first | exact rfl | assumption); (case k1 => k_asm); (case k2 => k_asm); (case k3 => k_asm); (case k4 => k_asm); (case k5 => k_asm); (case k6 => k_is); (case k7 => k_is); (case k8 => ktr_room); (case k9 => first | exact BindsTo.of_eq rfl | exact binds_K (by k_in) rfl (by k_is) rfl rfl rfl | fail "enter: no rule for these arguments"); (case kB => exact rfl); (case kD => decide +kernel); (case c2 => exact rfl); (case c3 => exact rfl); (case c4 => exact rfl); k_whole; intro g' L' h' tk' cells' FG' F' N' Y' B' X' T' l1; (try k_lt l1); k_cells Y'; (try simp only [List.cons_append, List.nil_append] at N'); (try dsimp only); (try k_lift B'); (try k_fold)))
  k_with "entern" => (refine' code_nest ?k1 ?k2 ?k3 ?k4 ?k5 ?kA ?kF ?kK ?k6 ?k7 ?k8 ?k9 ?kB ?_ ?c2 ?c3 ?c4 ?c5; (case kA => assumption); (case kF => assumption); (case kK => first | exact rfl | assumption); (case k1 => k_asm); (case k2 => k_asm); (case k3 => k_asm); (case k4 => k_asm); (case k5 => k_asm); (case k6 => k_mem); (case k7 => exact codeRec_news (by k_asm) (by k_mem) (by assumption) (by assumption)); (case k8 => ktr_room); (case k9 => exact BindsTo.of_eq rfl); (case c5 => decide); (case kB => exact locs rfl); (case c2 => exact rfl); (case c3 => exact rfl); (case c4 => exact rfl); k_whole; intro g' L' h' FG' F' N' B' X' T'; (try dsimp only); (try k_lift B'); (try k_fold))
  k_with "mycall" => (k_here; k_dflt (refine' hT _ _ _ _ _ _ _ _ ((x, instObj 70 d) :: (d, dictOf [⟨PyData.keyHash w.params (Str.ofString "value"), .str (Str.ofString "value") kv, .int 0 vt⟩, ⟨PyData.keyHash w.params (Str.ofString "read"), .str (Str.ofString "read") kr, .ref f⟩] 2) :: rest) _ _ _ (pos + 1) pt9 0 n _ (by k_asm) (by k_asm) (by k_asm) (by k_asm) (by exact rfl) (by exact rfl) (by first | exact rfl | assumption) (by (refine cb_drop (by k_asm) ?_; kcj_all)) (by exact List.forall_mem_cons.mpr ⟨Nat.ne_of_gt (by omega), List.forall_mem_cons.mpr ⟨Nat.ne_of_gt (by omega), hrest⟩⟩) (by assumption) (by omega) (by omega) (by first | ktr_room | ((simp only [depth_mark, depth_deeper]); ktr_room)) (by ktr_units) ?_); intro t9 h9 tk9 pt9 F9 N9; (obtain ⟨ks9, hk9⟩ : ∃ ks, KBw.bInts (cut b (pos + 1) n) = ks := ⟨_, rfl⟩); (have hs9 : ks9.length = (cut b (pos + 1) n).size := by rw [← hk9, KBw.ints_length]); (rw [cut_size] at hs9); (have hz9 : (cut b (pos + 1) n).size ≤ 100000 := by rw [cut_size]; omega); (try dsimp only))
  k_with "mycall" => (k_here; k_dflt (refine' uint1_tells (pos := pos) (pt := pt) (b := b) (c := c) (pl := pl) (c2 := c2) (c1 := c1) (oc := oc) (o2 := o2) (o1 := o1) (fd := fd) (by k_asm) (by k_asm) (by k_asm) (by k_asm) (by first | exact rfl | assumption) (by first | ktr_room | ((simp only [depth_mark, depth_deeper]); ktr_room)) (by ktr_units) (by (refine cb_drop (by k_asm) ?_; kcj_all)) hT hdx hfd hplf hrest hb hpos ?_); intro t9 h9 tk9 pt9 F9 N9; (rw [hn]); (try dsimp only))
  revert X; k_fill; intro X
  unfold TakeOk at hT
  have hn256 : n < 256 := by rw [← hn]; exact UInt8.toNat_lt _
  refine wpAny_call ?_
  k_dflt (k_extra "enter")
  k_steps
  · rename Fr _ _ _ _ => F9
    rename News _ _ _ _ => N9
    have e9 : ((pos + 1 : Nat) : Int) + ((cut b (pos + 1) n).size : Int) = ((pos + 1 + n : Nat) : Int) := by rw [cut_size]; omega
    refine ret _ _ _ _ F9 (news_int (pre := [_, _, _, _]) ?_ (cb_drop N9 (by kcj_all)))
    rw [cut_size]; omega
  · exfalso; omega

end
end Mine
end
section
open PySem PySem.W PyProof.Rows PySem.Spec PySem.Calls
namespace Mine
section
variable {w : World} {p : Program} {loose : List Str} {mean : ExcName → Option Value} {mg mb : Str → Option Value} {dp un : Nat} {gd : Option (List Code)} {cn : Str} {cs : Scope} {a : Addr} {ccd : Value} {cl : List (Str × Addr)} {outer : List Env} {A₀ : Around} {base h₀ : Heap} {L : Addr} {m : Str → Option Value} {news : List (Addr × Obj)} {s : Shared} {Q E : Value → Shared → Prop}
local macro_rules | `(tactic| walk_at "truthy ref") => `(tactic| (k_here; k_dflt (refine' truthy_emptyK ?k1 ?k2 ?k3 ?k4 ?_; (case k1 => k_asm); (case k2 => k_asm); (case k3 => k_is); (case k4 => rfl); k_whole)))
local macro_rules | `(tactic| walk_at "execs cons") => `(tactic| (k_here; (refine tk_gen (by (fail_if_success assumption); first | omega | (with_unfolding_all exact Nat.succ_pos _)) ?_); intro tk htk))
local macro_rules | `(tactic| walk_at "execs nil") => `(tactic| (k_here; (refine tk_gen (by (fail_if_success assumption); first | omega | (with_unfolding_all exact Nat.succ_pos _)) ?_); intro tk htk))
local macro_rules | `(tactic| walk_at "call builtin:str.replace") => `(tactic| (k_here; (refine replace_tk 1 (by dsimp only; omega) (by omega) (by omega) (by decide) (by first | assumption | omega) (by decide) (by decide) (by decide) ?_); intro t' k' hk' hl'))
local macro_rules | `(tactic| walk_at "call builtin:bytes.decode") => `(tactic| (k_here; (refine decode1 (by first | assumption | omega) 0 (Nat.zero_le _) ?_); intro t' k' hk'))
local macro_rules | `(tactic| k_room) => `(tactic| first | ktr_room | ((simp only [depth_mark, depth_deeper]); ktr_room))
local macro_rules | `(tactic| k_units) => `(tactic| ktr_units)
local macro_rules | `(tactic| units_room) => `(tactic| ktr_units)
local macro_rules | `(tactic| walk_at "CompEnd") => `(tactic| k_extra "mycompend")
local macro_rules | `(tactic| k_all) => `(tactic| k_extra "rest")
local macro_rules | `(tactic| walk_at "call ref") => `(tactic| k_extra "mycall")
local macro_rules | `(tactic| walk_at "eval ListComp") => `(tactic| k_extra "mycomp")
local macro_rules | `(tactic| walk_at "exec Assign cons ListComp") => `(tactic| k_extra "mycompA")
local macro_rules | `(tactic| walk_at "CompSrcT") => `(tactic| k_extra "mysrcT")
local macro_rules | `(tactic| walk_at "call builtin:list.extend") => `(tactic| (k_here; (with_reducible show wpAny _ _ (call (Value.builtin _) [Value.ref _, Value.ref _]) _ _ _); k_dflt (refine ext_any (by k_asm) (by k_asm) (by k_mem) (by k_updF) (by k_extra "ext") ?_); intro h' n' F' N'; (try dsimp only at N'); (try k_sweep)))
local macro_rules | `(tactic| walk_at "KCiEl") => `(tactic| k_extra "myciel")
local macro_rules | `(tactic| walk_at "KCiNo") => `(tactic| k_extra "mycino")
local macro_rules | `(tactic| walk_at "SrcS") => `(tactic| k_extra "mysrcS")
local macro_rules | `(tactic| walk_at "CompSrc") => `(tactic| k_extra "mysrc")
local macro_rules | `(tactic| walk_at "pyIter str") => `(tactic| k_extra "myiter")
local macro_rules | `(tactic| walk_at "pyIter ref") => `(tactic| first | k_extra "myiter" | (with_reducible refine stopP ?_))
local macro_rules | `(tactic| walk_at "exec For Name Name cons nil") => `(tactic| (k_here; (rename Fr _ _ _ _ => lF'); (with_unfolding_all refine' For_invVF lF' ?k1 ?k2 ?_; (case k1 => exact rfl); (case k2 => exact rfl); k_whole)))
local macro_rules | `(tactic| walk_at "call builtin:len") => `(tactic| (k_here; (with_reducible show wpAny _ _ (call (Value.builtin "len") [Value.str _ _]) _ _ _); (refine PyProof.Rows.len_str (by first | omega | ((simp only [S_len, List.length_append]); omega)) ?_)))
local macro_rules | `(tactic| walk_at "binaryOp Add str str") => `(tactic| (k_here; (refine PyProof.Rows.add_str ?_ (by (rw [sizeLine_eq]); first | k_extra "len" | omega | ((simp only [S_len, PySem.Str.length_append, List.length_append]); omega))); intro t' k'; (try (rw [S_app]))))
local macro_rules | `(tactic| walk_at "callWith ref") => `(tactic| (k_here; k_dflt (first
  | (refine' callWith_F ?k1 ?_; (case k1 => exact FnAt.of (by k_asm) (by k_mem)); k_whole)
  | (refine' callWith_F0 ?k1 ?_; (case k1 => exact FnAt.of (by k_asm) (by k_mem)); k_whole; try dsimp only [List.nil_append, List.cons_append]))))

theorem deep_tells {n : Nat} {z5 : Int} {tx tk5 : Tok} (B : Below A₀ base outer h₀) (F : Fr h₀ L s.heap m) (X : (hd.heap_39 w.params).In h₀) (T : Top p loose mean mg mb h₀) (hk : cs.kind = .function)
    (hdp : dp + 1 < recursionLimit) (hu : un + 20 < cLine) (N : News h₀ L s.heap news) (hz0 : 0 ≤ z5) (hz1 : z5 ≤ 10)
    (ret : ∀ t h' tk, (deepL n z5.toNat).length ≤ 45 → Fr h₀ L h' m → News h₀ L h' news → Q (.str (S (deepL n z5.toNat)) t) { s with heap := h', toks := tk }) :
    wpAny (model PySem.Challenge.rw_ij0009_02.row.prog w) (ktrTop dp un gd cn cs L a ccd cl outer) (call (.ref 102) [.str (S [n]) tx, .int z5 tk5]) Q E s := by
  obtain ⟨k, hk⟩ := Int.eq_ofNat_of_zero_le hz0
  subst hk
  have hk5 : k ≤ 10 := by omega
  rw [Int.toNat_natCast] at ret
  have ret := fun t h1 tk => ret t h1 tk (by have := deepL_le n k; omega)
  show wpAny (model PySem.Challenge.rw_ij0009_02.row.prog w) (ktrTop dp un gd cn cs L a ccd cl outer) (call (.ref 102) [.str ⟨#[n]⟩ tx, .int (k : Nat) tk5]) Q E s
  w_top off
  k_with_none
  k_with "enter" => (first
    | (refine' code_def ?k1 ?k2 ?k3 ?k4 ?k5 ?kA ?kF ?kK ?k6 ?k7 ?k8 ?k9 ?kB ?_ ?c2 ?c3 ?c4 ?c5; (case kA => exact rfl); (case kF => exact rfl); (case kK => first | exact rfl | assumption); (case k1 => k_asm); (case k2 => k_asm); (case k3 => k_asm); (case k4 => k_asm); (case k5 => k_asm); (case k6 => k_is); (case k7 => k_is); (case k8 => ktr_room); (case k9 => first | exact BindsTo.of_eq rfl | exact binds_K (by k_in) rfl (by k_is) rfl rfl rfl | fail "enter: no rule for these arguments"); (case c5 => decide); (case kB => exact locs rfl); (case c2 => exact rfl); (case c3 => exact rfl); (case c4 => exact rfl); k_whole; intro g' L' h' FG' F' N' B' X' T'; (try dsimp only); (try k_lift B'); (try k_fold))
    | (refine' code_defC ?k1 ?k2 ?k3 ?k4 ?k5 ?kA ?kF ?kK ?k6 ?k7 ?k8 ?k9 ?kB ?kD ?_ ?c2 ?c3 ?c4; (case kA => exact rfl); (case kF => exact rfl); (case kK => first | exact rfl | assumption); (case k1 => k_asm); (case k2 => k_asm); (case k3 => k_asm); (case k4 => k_asm); (case k5 => k_asm); (case k6 => k_is); (case k7 => k_is); (case k8 => ktr_room); (case k9 => first | exact BindsTo.of_eq rfl | exact binds_K (by k_in) rfl (by k_is) rfl rfl rfl | fail "enter: no rule for these arguments"); (case kB => exact rfl); (case kD => decide +kernel); (case c2 => exact rfl); (case c3 => exact rfl); (case c4 => exact rfl); k_whole; intro g' L' h' tk' cells' FG' F' N' Y' B' X' T' l1; (try k_lt l1); k_cells Y'; (try simp only [List.cons_append, List.nil_append] at N'); (try dsimp only); (try k_lift B'); (try k_fold)))
  k_with "entern" => (refine' code_nest ?k1 ?k2 ?k3 ?k4 ?k5 ?kA ?kF ?kK ?k6 ?k7 ?k8 ?k9 ?kB ?_ ?c2 ?c3 ?c4 ?c5; (case kA => assumption); (case kF => assumption); (case kK => first | exact rfl | assumption); (case k1 => k_asm); (case k2 => k_asm); (case k3 => k_asm); (case k4 => k_asm); (case k5 => k_asm); (case k6 => k_mem); (case k7 => exact codeRec_news (by k_asm) (by k_mem) (by assumption) (by assumption)); (case k8 => ktr_room); (case k9 => exact BindsTo.of_eq rfl); (case c5 => decide); (case kB => exact locs rfl); (case c2 => exact rfl); (case c3 => exact rfl); (case c4 => exact rfl); k_whole; intro g' L' h' FG' F' N' B' X' T'; (try dsimp only); (try k_lift B'); (try k_fold))
  revert X; k_fill; intro X
  refine wpAny_call ?_
  k_dflt (k_extra "enter")
  have e38 : ((⟨#[n]⟩ : Str) == Str.ofString "&") = decide (n = 38) := one_eq (by decide +kernel)
  have e60 : ((⟨#[n]⟩ : Str) == Str.ofString "<") = decide (n = 60) := one_eq (by decide +kernel)
  have e62 : ((⟨#[n]⟩ : Str) == Str.ofString ">") = decide (n = 62) := one_eq (by decide +kernel)
  k_steps
  all_goals (rename Fr _ _ _ _ => F9; rename News _ _ _ _ => N9; (have r9 := fun t tk => ret t _ tk F9 N9); simp only [e38, e60, e62, decide_eq_true_eq, decide_eq_false_iff_not] at *)
  · exact q_str (deep_0 (by assumption)) (r9 _ _)
  · exact q_str (deep_38 (by assumption) hk5 (by assumption)) (r9 _ _)
  · exact q_str (deep_60 (by assumption) hk5 (by assumption)) (r9 _ _)
  · exact q_str (deep_62 (by assumption) hk5 (by assumption)) (r9 _ _)
  · exact q_str (deep_no (by assumption) (by assumption) (by assumption)) (r9 _ _)

end
end Mine
end
section
open PySem PySem.W PyProof.Rows PySem.Spec PySem.Calls
namespace Mine
section
variable {w : World} {p : Program} {loose : List Str} {mean : ExcName → Option Value} {mg mb : Str → Option Value} {dp un : Nat} {gd : Option (List Code)} {cn : Str} {cs : Scope} {a : Addr} {ccd : Value} {cl : List (Str × Addr)} {outer : List Env} {A₀ : Around} {base h₀ : Heap} {L : Addr} {m : Str → Option Value} {news : List (Addr × Obj)} {s : Shared} {Q E : Value → Shared → Prop}
local macro_rules | `(tactic| walk_at "truthy ref") => `(tactic| (k_here; k_dflt (refine' truthy_emptyK ?k1 ?k2 ?k3 ?k4 ?_; (case k1 => k_asm); (case k2 => k_asm); (case k3 => k_is); (case k4 => rfl); k_whole)))
local macro_rules | `(tactic| walk_at "execs cons") => `(tactic| (k_here; (refine tk_gen (by (fail_if_success assumption); first | omega | (with_unfolding_all exact Nat.succ_pos _)) ?_); intro tk htk))
local macro_rules | `(tactic| walk_at "execs nil") => `(tactic| (k_here; (refine tk_gen (by (fail_if_success assumption); first | omega | (with_unfolding_all exact Nat.succ_pos _)) ?_); intro tk htk))
local macro_rules | `(tactic| walk_at "call builtin:str.replace") => `(tactic| (k_here; (refine replace_tk 1 (by dsimp only; omega) (by omega) (by omega) (by decide) (by first | assumption | omega) (by decide) (by decide) (by decide) ?_); intro t' k' hk' hl'))
local macro_rules | `(tactic| walk_at "call builtin:bytes.decode") => `(tactic| (k_here; (refine decode1 (by first | assumption | omega) 0 (Nat.zero_le _) ?_); intro t' k' hk'))
local macro_rules | `(tactic| k_room) => `(tactic| first | ktr_room | ((simp only [depth_mark, depth_deeper]); ktr_room))
local macro_rules | `(tactic| k_units) => `(tactic| ktr_units)
local macro_rules | `(tactic| units_room) => `(tactic| ktr_units)
local macro_rules | `(tactic| walk_at "CompEnd") => `(tactic| k_extra "mycompend")
local macro_rules | `(tactic| k_all) => `(tactic| k_extra "rest")
local macro_rules | `(tactic| walk_at "call ref") => `(tactic| k_extra "mycall")
local macro_rules | `(tactic| walk_at "eval ListComp") => `(tactic| k_extra "mycomp")
local macro_rules | `(tactic| walk_at "exec Assign cons ListComp") => `(tactic| k_extra "mycompA")
local macro_rules | `(tactic| walk_at "CompSrcT") => `(tactic| k_extra "mysrcT")
local macro_rules | `(tactic| walk_at "call builtin:list.extend") => `(tactic| (k_here; (with_reducible show wpAny _ _ (call (Value.builtin _) [Value.ref _, Value.ref _]) _ _ _); k_dflt (refine ext_any (by k_asm) (by k_asm) (by k_mem) (by k_updF) (by k_extra "ext") ?_); intro h' n' F' N'; (try dsimp only at N'); (try k_sweep)))
local macro_rules | `(tactic| walk_at "KCiEl") => `(tactic| k_extra "myciel")
local macro_rules | `(tactic| walk_at "KCiNo") => `(tactic| k_extra "mycino")
local macro_rules | `(tactic| walk_at "SrcS") => `(tactic| k_extra "mysrcS")
local macro_rules | `(tactic| walk_at "CompSrc") => `(tactic| k_extra "mysrc")
local macro_rules | `(tactic| walk_at "pyIter str") => `(tactic| k_extra "myiter")
local macro_rules | `(tactic| walk_at "pyIter ref") => `(tactic| first | k_extra "myiter" | (with_reducible refine stopP ?_))
local macro_rules | `(tactic| walk_at "exec For Name Name cons nil") => `(tactic| (k_here; (rename Fr _ _ _ _ => lF'); (with_unfolding_all refine' For_invVF lF' ?k1 ?k2 ?_; (case k1 => exact rfl); (case k2 => exact rfl); k_whole)))
local macro_rules | `(tactic| walk_at "call builtin:len") => `(tactic| (k_here; (with_reducible show wpAny _ _ (call (Value.builtin "len") [Value.str _ _]) _ _ _); (refine PyProof.Rows.len_str (by first | omega | ((simp only [S_len, List.length_append]); omega)) ?_)))
local macro_rules | `(tactic| walk_at "binaryOp Add str str") => `(tactic| (k_here; (refine PyProof.Rows.add_str ?_ (by (rw [sizeLine_eq]); first | k_extra "len" | omega | ((simp only [S_len, PySem.Str.length_append, List.length_append]); omega))); intro t' k'; (try (rw [S_app]))))
local macro_rules | `(tactic| walk_at "callWith ref") => `(tactic| (k_here; k_dflt (first
  | (refine' callWith_F ?k1 ?_; (case k1 => exact FnAt.of (by k_asm) (by k_mem)); k_whole)
  | (refine' callWith_F0 ?k1 ?_; (case k1 => exact FnAt.of (by k_asm) (by k_mem)); k_whole; try dsimp only [List.nil_append, List.cons_append]))))
local macro_rules | `(tactic| walk_at "subscriptTail Name UnaryOp ref int") => `(tactic| k_extra "myitem")
local macro_rules | `(tactic| walk_at "subscriptTail Name Constant ref int") => `(tactic| k_extra "myitem2")

theorem rows_tells {lp : Addr} {vs : List Value} {np : Nat} {ks : List Int} {rest : List (Addr × Obj)} (B : Below A₀ base outer h₀) (F : Fr h₀ L s.heap m) (X : (hd.heap_39 w.params).In h₀) (T : Top p loose mean mg mb h₀) (hk : cs.kind = .function)
    (hdp : dp + 1 < recursionLimit) (hu : un + 20 < cLine) (N : News h₀ L s.heap ((lp, listOf vs.toArray np) :: rest)) (hi : IntsAre vs ks) (hkn : ks.length ≤ 8)
    (hks : ∀ k ∈ ks, 0 ≤ k ∧ k < 30)
    (ret : ∀ (r : Addr) us n tups h' tk, DatAll tups us ((rowsL ks).map rowD) → (∀ q ∈ rest, @LT.lt Nat _ q.1 r) → @LT.lt Nat _ lp r → (∀ t ∈ tups, ∀ q ∈ rest, @LT.lt Nat _ q.1 t.1) → Fr h₀ L h' m → News h₀ L h' ((r, listOf us.toArray n) :: (lp, listOf vs.toArray np) :: (tups ++ rest)) → Q (.ref r) { s with heap := h', toks := tk }) :
    wpAny (model PySem.Challenge.rw_ij0009_02.row.prog w) (ktrTop dp un gd cn cs L a ccd cl outer) (call (.ref 88) [.ref lp]) Q E s := by
  w_top off
  k_with_none
  k_with "enter" => (first
    | (refine' code_def ?k1 ?k2 ?k3 ?k4 ?k5 ?kA ?kF ?kK ?k6 ?k7 ?k8 ?k9 ?kB ?_ ?c2 ?c3 ?c4 ?c5; (case kA => exact rfl); (case kF => exact rfl); (case kK => first | exact rfl | assumption); (case k1 => k_asm); (case k2 => k_asm); (case k3 => k_asm); (case k4 => k_asm); (case k5 => k_asm); (case k6 => k_is); (case k7 => k_is); (case k8 => ktr_room); (case k9 => first | exact BindsTo.of_eq rfl | exact binds_K (by k_in) rfl (by k_is) rfl rfl rfl | fail "enter: no rule for these arguments"); (case c5 => decide); (case kB => exact locs rfl); (case c2 => exact rfl); (case c3 => exact rfl); (case c4 => exact rfl); k_whole; intro g' L' h' FG' F' N' B' X' T'; (try dsimp only); (try k_lift B'); (try k_fold))
    | (refine' code_defC ?k1 ?k2 ?k3 ?k4 ?k5 ?kA ?kF ?kK ?k6 ?k7 ?k8 ?k9 ?kB ?kD ?_ ?c2 ?c3 ?c4; (case kA => exact rfl); (case kF => exact rfl); (case kK => first | exact rfl | assumption); (case k1 => k_asm); (case k2 => k_asm); (case k3 => k_asm); (case k4 => k_asm); (case k5 => k_asm); (case k6 => k_is); (case k7 => k_is); (case k8 => ktr_room); (case k9 => first | exact BindsTo.of_eq rfl | exact binds_K (by k_in) rfl (by k_is) rfl rfl rfl | fail "enter: no rule for these arguments"); (case kB => exact rfl); (case kD => decide +kernel); (case c2 => exact rfl); (case c3 => exact rfl); (case c4 => exact rfl); k_whole; intro g' L' h' tk' cells' FG' F' N' Y' B' X' T' l1; (try k_lt l1); k_cells Y'; (try simp only [List.cons_append, List.nil_append] at N'); (try dsimp only); (try k_lift B'); (try k_fold)))
  k_with "entern" => (refine' code_nest ?k1 ?k2 ?k3 ?k4 ?k5 ?kA ?kF ?kK ?k6 ?k7 ?k8 ?k9 ?kB ?_ ?c2 ?c3 ?c4 ?c5; (case kA => assumption); (case kF => assumption); (case kK => first | exact rfl | assumption); (case k1 => k_asm); (case k2 => k_asm); (case k3 => k_asm); (case k4 => k_asm); (case k5 => k_asm); (case k6 => k_mem); (case k7 => exact codeRec_news (by k_asm) (by k_mem) (by assumption) (by assumption)); (case k8 => ktr_room); (case k9 => exact BindsTo.of_eq rfl); (case c5 => decide); (case kB => exact locs rfl); (case c2 => exact rfl); (case c3 => exact rfl); (case c4 => exact rfl); k_whole; intro g' L' h' FG' F' N' B' X' T'; (try dsimp only); (try k_lift B'); (try k_fold))
  k_with "rest" => (exact ne_tail (fun p9 hp9 => (List.mem_append.mp hp9).elim (fun h => (hne p9 h).1) (fun h => by (have q9 := lr p9 h); omega)) hoff (by k_mem))
  k_with "myitem" => ((with_reducible show wpAny _ _ (subscriptTail _ _ (Value.ref _) (Value.int _ _)) _ _ _); (obtain ⟨a9, n9, t91, t92, hv9, hm9⟩ := rows_last hda (by rw [rowsL_len]; omega)); k_dflt (refine item_list_neg (News.isList (by k_asm) (by k_mem)) (by decide) (by rw [List.size_toArray, hul]; omega) (by decide) hv9 ?_))
  k_with "myitem2" => ((with_reducible show wpAny _ _ (subscriptTail _ _ (Value.ref _) (Value.int _ _)) _ _ _); (rename News _ _ _ _ => N9); k_dflt (refine item_tupleL (News.isTup N9 (List.mem_cons_of_mem _ (List.mem_cons_of_mem _ (List.mem_append_left _ (List.mem_append_left _ hm9))))) (by decide) (by decide) (by rfl) (by rfl) ?_))
  k_with "myiter" => ((rename Fr _ _ _ _ => F5); (rename News _ _ _ _ => N5); (rename (_ < _ ∧ _ < _ ∧ _ < _ ∧ _) => l15); (rename (_ < _ ∧ lp < _ ∧ AllLt _ _) => lb15); (rename (lp < _ ∧ AllLt _ _) => la15); (with_reducible show wpAny _ _ (pyIter (Value.ref _)) _ _ _); (obtain ⟨l5, hl5⟩ := news_head N5); (subst hl5); k_dflt (refine loop_list (fun i (q : List Value × Nat × List (Addr × Obj)) => (l5, listOf q.1.toArray q.2.1) :: (lp, listOf vs.toArray np) :: (q.2.2 ++ rest)) (fun i q => [(Str.ofString "rows", .ref l5)]) (fun i q => DatAll q.2.2 q.1 ((rowsL (ks.take i)).map rowD) ∧ ∀ t ∈ q.2.2, @Ne Nat t.1 l5 ∧ ∀ q ∈ rest, @LT.lt Nat _ q.1 t.1) (_, _, [(_, _), (_, _)]) (by rfl) (fun _ _ => .tail _ (.head _)) F5 N5 two_sub ?hd5 (by kst_all) ?_ ?_); k_dflt (case hd5 => refine ⟨?_, two_ne ⟨by omega, fun q hq => by (have z9 := allLt_all l15.2.2.2 q hq); exact allLt_all lb15.2.2 q hq⟩ ⟨by omega, fun q hq => allLt_all la15.2 q hq⟩⟩; exact DatAll.cons (.tuple (.tail _ (.head _)) (.cons (.int 1 _) (.cons (.str _ _) .nil))) (.cons (.tuple (.head _) (.cons (.int 2 _) (.cons (.str _ _) .nil))) .nil)); (rintro i v ⟨us, ne, tups⟩ u h6 tk6 own Q6 hv ⟨hda, hne⟩ hoff F6 N6 hend hret); (try clear F5 N5); (dsimp only [kstB] at F6 hda hne); (have lr := allLt_all l15.2.2.2); (simp only [List.cons_append] at N6); (simp only [List.map_cons] at hoff); (obtain ⟨k5, t5, hve, hk5⟩ := IntsAre.at hi i v hv); subst hve; (have hrl := rowsL_len (ks.take i)); (have hul : us.length = (rowsL (ks.take i)).length := by (have := hda.length; rwa [List.length_map] at this)); (have hlst := rowsL_last (ks.take i)); (have hkb := hks k5 (List.mem_of_getElem? hk5)); (have hil : (ks.take i).length ≤ 8 := by rw [List.length_take]; omega); rotate_left; (rintro ⟨us, ne, tups⟩ u h6 tk6 ⟨hda, hne⟩ F6 N6); (try clear F5 N5); (dsimp only [kstB] at F6 hda hne))
  revert X; k_fill; intro X
  refine wpAny_call ?_
  k_dflt (k_extra "enter")
  k_steps
  · rename Fr _ _ _ _ => F9
    rename News _ _ _ _ => N9
    rw [hi.length, List.take_length] at hda
    exact ret _ _ _ _ _ _ hda (fun q hq => by (have q9 := allLt_all l15.2.2.2 q hq); omega) (by omega) (fun t ht => (hne t ht).2) F9 N9
  · rename Fr _ _ _ _ => F9
    rename News _ _ _ _ => N9
    rename (_ < _ ∧ _) => l19
    simp only [List.push_toArray] at N9
    have N10 := led_rows N9
    refine hend .next (_, _, _) _ _ _ (.inl rfl) ⟨?g1, ?g2⟩ ?g3 ?g4 F9 N10
    case g2 => exact List.forall_mem_cons.mpr ⟨⟨by (dsimp only; refine neN ?_; omega), fun q hq => allLt_all l19.2.2 q (List.mem_append_left _ (List.mem_append_right _ hq))⟩, hne⟩
    case g3 => kst_all
    case g4 => exact off_rows hoff (allLt_all l19.2.2)
    dsimp only
    rw [take_snocI hk5, rowsL_snoc]
    unfold rowsStep
    rw [List.map_append]
    exact (DatAll.mono (fun _ h => .tail _ h) hda).append (.one (row_dat (.head _) (row_int hlst.1) (row_lab hkb.1 hkb.2)))

end
end Mine
end
section
open PySem PySem.W PyProof.Rows PySem.Spec PySem.Calls
namespace Mine
section
variable {w : World} {p : Program} {loose : List Str} {mean : ExcName → Option Value} {mg mb : Str → Option Value} {dp un : Nat} {gd : Option (List Code)} {cn : Str} {cs : Scope} {a : Addr} {ccd : Value} {cl : List (Str × Addr)} {outer : List Env} {A₀ : Around} {base h₀ : Heap} {L : Addr} {m : Str → Option Value} {news : List (Addr × Obj)} {s : Shared} {Q E : Value → Shared → Prop}
local macro_rules | `(tactic| walk_at "truthy ref") => `(tactic| (k_here; k_dflt (refine' truthy_emptyK ?k1 ?k2 ?k3 ?k4 ?_; (case k1 => k_asm); (case k2 => k_asm); (case k3 => k_is); (case k4 => rfl); k_whole)))
local macro_rules | `(tactic| walk_at "execs cons") => `(tactic| (k_here; (refine tk_gen (by (fail_if_success assumption); first | omega | (with_unfolding_all exact Nat.succ_pos _)) ?_); intro tk htk))
local macro_rules | `(tactic| walk_at "execs nil") => `(tactic| (k_here; (refine tk_gen (by (fail_if_success assumption); first | omega | (with_unfolding_all exact Nat.succ_pos _)) ?_); intro tk htk))
local macro_rules | `(tactic| walk_at "call builtin:str.replace") => `(tactic| (k_here; (refine replace_tk 1 (by dsimp only; omega) (by omega) (by omega) (by decide) (by first | assumption | omega) (by decide) (by decide) (by decide) ?_); intro t' k' hk' hl'))
local macro_rules | `(tactic| walk_at "call builtin:bytes.decode") => `(tactic| (k_here; (refine decode1 (by first | assumption | omega) 0 (Nat.zero_le _) ?_); intro t' k' hk'))
local macro_rules | `(tactic| k_room) => `(tactic| first | ktr_room | ((simp only [depth_mark, depth_deeper]); ktr_room))
local macro_rules | `(tactic| k_units) => `(tactic| ktr_units)
local macro_rules | `(tactic| units_room) => `(tactic| ktr_units)
local macro_rules | `(tactic| walk_at "CompEnd") => `(tactic| k_extra "mycompend")
local macro_rules | `(tactic| k_all) => `(tactic| k_extra "rest")
local macro_rules | `(tactic| walk_at "call ref") => `(tactic| k_extra "mycall")
local macro_rules | `(tactic| walk_at "eval ListComp") => `(tactic| k_extra "mycomp")
local macro_rules | `(tactic| walk_at "exec Assign cons ListComp") => `(tactic| k_extra "mycompA")
local macro_rules | `(tactic| walk_at "CompSrcT") => `(tactic| k_extra "mysrcT")
local macro_rules | `(tactic| walk_at "call builtin:list.extend") => `(tactic| (k_here; (with_reducible show wpAny _ _ (call (Value.builtin _) [Value.ref _, Value.ref _]) _ _ _); k_dflt (refine ext_any (by k_asm) (by k_asm) (by k_mem) (by k_updF) (by k_extra "ext") ?_); intro h' n' F' N'; (try dsimp only at N'); (try k_sweep)))
local macro_rules | `(tactic| walk_at "KCiEl") => `(tactic| k_extra "myciel")
local macro_rules | `(tactic| walk_at "KCiNo") => `(tactic| k_extra "mycino")
local macro_rules | `(tactic| walk_at "SrcS") => `(tactic| k_extra "mysrcS")
local macro_rules | `(tactic| walk_at "CompSrc") => `(tactic| k_extra "mysrc")
local macro_rules | `(tactic| walk_at "pyIter str") => `(tactic| k_extra "myiter")
local macro_rules | `(tactic| walk_at "pyIter ref") => `(tactic| first | k_extra "myiter" | (with_reducible refine stopP ?_))
local macro_rules | `(tactic| walk_at "exec For Name Name cons nil") => `(tactic| (k_here; (rename Fr _ _ _ _ => lF'); (with_unfolding_all refine' For_invVF lF' ?k1 ?k2 ?_; (case k1 => exact rfl); (case k2 => exact rfl); k_whole)))
local macro_rules | `(tactic| walk_at "call builtin:len") => `(tactic| (k_here; (with_reducible show wpAny _ _ (call (Value.builtin "len") [Value.str _ _]) _ _ _); (refine PyProof.Rows.len_str (by first | omega | ((simp only [S_len, List.length_append]); omega)) ?_)))
local macro_rules | `(tactic| walk_at "binaryOp Add str str") => `(tactic| (k_here; (refine PyProof.Rows.add_str ?_ (by (rw [sizeLine_eq]); first | k_extra "len" | omega | ((simp only [S_len, PySem.Str.length_append, List.length_append]); omega))); intro t' k'; (try (rw [S_app]))))
local macro_rules | `(tactic| walk_at "callWith ref") => `(tactic| (k_here; k_dflt (first
  | (refine' callWith_F ?k1 ?_; (case k1 => exact FnAt.of (by k_asm) (by k_mem)); k_whole)
  | (refine' callWith_F0 ?k1 ?_; (case k1 => exact FnAt.of (by k_asm) (by k_mem)); k_whole; try dsimp only [List.nil_append, List.cons_append]))))
local macro_rules | `(tactic| walk_at "subscriptTail Name Slice ref ref") => `(tactic| k_extra "myslice")
local macro_rules | `(tactic| walk_at "exec For Tuple Subscript cons nil") => `(tactic| (k_here; (rename Fr _ _ _ _ => lF'); (with_unfolding_all refine' For_turns lF' ?_; k_whole)))
local macro_rules | `(tactic| walk_at "assign Tuple") => `(tactic| k_extra "myassign")
local macro_rules | `(tactic| walk_at "subscriptTail Name BinOp ref int") => `(tactic| k_extra "myitem")
local macro_rules | `(tactic| walk_at "subscriptTail Name Name ref int") => `(tactic| k_extra "myitem")
local macro_rules | `(tactic| walk_at "setItem ref int") => `(tactic| k_extra "myset")
local macro_rules | `(tactic| walk_at "call builtin:chr") => `(tactic| k_extra "mychr")

theorem packed_tells {rp : Addr} {us : List Value} {np : Nat} {rows : List (Nat × Nat)} {rest : List (Addr × Obj)} (B : Below A₀ base outer h₀) (F : Fr h₀ L s.heap m) (X : (hd.heap_39 w.params).In h₀) (T : Top p loose mean mg mb h₀) (hk : cs.kind = .function)
    (hdp : dp + 3 < recursionLimit) (hu : un + 40 < cLine) (N : News h₀ L s.heap ((rp, listOf us.toArray np) :: rest)) (hd : DatAll rest us (rows.map rowD)) (hkn : rows.length ≤ 12)
    (hrow : ∀ r ∈ rows, 1 ≤ r.1 ∧ r.1 ≤ 4) (hB : ∀ i, ∀ w ∈ innerR (rows.reverse.take i), w.length ≤ 7600)
    (ret : ∀ t h' tk, Fr h₀ L h' m → News h₀ L h' ((rp, listOf us.toArray np) :: rest) → Q (.str (S ((innerR rows.reverse).getD 1 [])) t) { s with heap := h', toks := tk }) :
    wpAny (model PySem.Challenge.rw_ij0009_02.row.prog w) (ktrTop dp un gd cn cs L a ccd cl outer) (call (.ref 95) [.ref rp]) Q E s := by
  w_top off
  k_with_none
  k_with "enter" => (first
    | (refine' code_def ?k1 ?k2 ?k3 ?k4 ?k5 ?kA ?kF ?kK ?k6 ?k7 ?k8 ?k9 ?kB ?_ ?c2 ?c3 ?c4 ?c5; (case kA => exact rfl); (case kF => exact rfl); (case kK => first | exact rfl | assumption); (case k1 => k_asm); (case k2 => k_asm); (case k3 => k_asm); (case k4 => k_asm); (case k5 => k_asm); (case k6 => k_is); (case k7 => k_is); (case k8 => ktr_room); (case k9 => first | exact BindsTo.of_eq rfl | exact binds_K (by k_in) rfl (by k_is) rfl rfl rfl | fail "enter: no rule for these arguments"); (case c5 => decide); (case kB => exact locs rfl); (case c2 => exact rfl); (case c3 => exact rfl); (case c4 => exact rfl); k_whole; intro g' L' h' FG' F' N' B' X' T'; (try dsimp only); (try k_lift B'); (try k_fold))
    | (refine' code_defC ?k1 ?k2 ?k3 ?k4 ?k5 ?kA ?kF ?kK ?k6 ?k7 ?k8 ?k9 ?kB ?kD ?_ ?c2 ?c3 ?c4; (case kA => exact rfl); (case kF => exact rfl); (case kK => first | exact rfl | assumption); (case k1 => k_asm); (case k2 => k_asm); (case k3 => k_asm); (case k4 => k_asm); (case k5 => k_asm); (case k6 => k_is); (case k7 => k_is); (case k8 => ktr_room); (case k9 => first | exact BindsTo.of_eq rfl | exact binds_K (by k_in) rfl (by k_is) rfl rfl rfl | fail "enter: no rule for these arguments"); (case kB => exact rfl); (case kD => decide +kernel); (case c2 => exact rfl); (case c3 => exact rfl); (case c4 => exact rfl); k_whole; intro g' L' h' tk' cells' FG' F' N' Y' B' X' T' l1; (try k_lt l1); k_cells Y'; (try simp only [List.cons_append, List.nil_append] at N'); (try dsimp only); (try k_lift B'); (try k_fold)))
  k_with "entern" => (refine' code_nest ?k1 ?k2 ?k3 ?k4 ?k5 ?kA ?kF ?kK ?k6 ?k7 ?k8 ?k9 ?kB ?_ ?c2 ?c3 ?c4 ?c5; (case kA => assumption); (case kF => assumption); (case kK => first | exact rfl | assumption); (case k1 => k_asm); (case k2 => k_asm); (case k3 => k_asm); (case k4 => k_asm); (case k5 => k_asm); (case k6 => k_mem); (case k7 => exact codeRec_news (by k_asm) (by k_mem) (by assumption) (by assumption)); (case k8 => ktr_room); (case k9 => exact BindsTo.of_eq rfl); (case c5 => decide); (case kB => exact locs rfl); (case c2 => exact rfl); (case c3 => exact rfl); (case c4 => exact rfl); k_whole; intro g' L' h' FG' F' N' B' X' T'; (try dsimp only); (try k_lift B'); (try k_fold))
  k_with "myslice" => (k_here; (with_reducible show wpAny _ _ (subscriptTail _ (PySem.Expr.Slice none none (some _) _) (Value.ref _) (Value.ref _)) _ _ _); k_dflt (refine' krv_lit (its := us.toArray) (zs := us.reverse) ?F ?N ?l ?k ?e ?_ ?s ?t ?z; (case F => k_asm); (case N => k_asm); (case l => exact News.isList (by k_asm) (by k_mem)); (case k => exact IsPart.int _ _); (case e => rfl); (case s => with_unfolding_all rfl); (case t => kmk_pure); (case z => (rw [List.size_toArray, hul, sizeLine_eq]; omega))); intro D' h' F' N' l1; (try k_lt l1); (try k_sweep))
  k_with "rest" => (exact ne_tail (fun p9 hp9 => by (have q9 := lr p9 hp9); omega) hoff (by k_mem))
  k_with "myiter" => ((rename Fr _ _ _ _ => F5); (rename News _ _ _ _ => N5); (rename (rp < _ ∧ _) => l16); (with_reducible show wpAny _ _ (pyIter (Value.ref _)) _ _ _); k_dflt ((obtain ⟨l5, hl5⟩ := news_second N5); (subst hl5); (have lr := allLt_all l16.2); (refine loop_listT (fun i (q : List Value) => (D', listOf us.reverse.toArray 0) :: (l5, listOf q.toArray 0) :: (rp, listOf us.toArray np) :: rest) (fun i q => [(Str.ofString "inner", .ref l5)]) (fun i q => StrsAre q ((innerR (rows.reverse.take i)).map S)) _ (by rfl) (fun _ _ => .head _) F5 N5 (fun _ h => h) strs_six (by kst_all) ?_ ?_); (rintro i v q u h6 tk6 own Q6 hv hq hoff F6 N6 hend hret); (try clear F5 N5); (dsimp only [kstB] at F6 hq); (simp only [List.cons_append] at N6); (simp only [List.map_cons] at hoff); (obtain ⟨r9, a9, n9, t91, t92, hr9, hve, hm9⟩ := row_inS hd hv); subst hve; (have hrb := hrow r9 (List.mem_reverse.mp (List.mem_of_getElem? hr9))); (have hI6 := innerR_len (rows.reverse.take i)); (have hBi := hB i); (obtain ⟨I9, hI9⟩ : ∃ I, I = innerR (rows.reverse.take i) := ⟨_, rfl⟩); (rw [← hI9] at hq hI6 hBi); (have hq6 : q.length = 6 := by rw [hq.length, List.length_map, hI6]); (have hg1 := getD_le hBi (r9.1 + 1)); (have hes := escL_le (r9.2 :: I9.getD (r9.1 + 1) [])); (rw [List.length_cons] at hes); (have hg0 : ((I9.set (r9.1 + 1) []).getD r9.1 []).length ≤ 7600 := getD_le (fun w hw => (List.mem_or_eq_of_mem_set hw).elim (hBi w) (fun e => by rw [e]; exact Nat.zero_le _)) _); rotate_left; (rintro q u h6 tk6 hq F6 N6); (try clear F5 N5); (dsimp only [kstB] at F6 hq); (have hI6 := innerR_len (rows.reverse.take us.reverse.length))))
  k_with "len" => (simp only [S_len, PySem.Str.length_append, List.length_append, List.length_cons, List.length_nil, one_len]; omega)
  k_with "mychr" => (k_dflt (refine chr_any (escL (r9.2 :: I9.getD (r9.1 + 1) [])).length (by rw [S_len]) (by omega) ?_); intro t' k')
  k_with "myassign" => ((with_reducible show wpAny _ _ (assign (PySem.Expr.Tuple _ _ _) _ (Value.ref _)) _ _ _); (rename News _ _ _ _ => N8); k_dflt (refine' unpackN_ ?F ?N ?T ?k1 ?k2 ?k3 ?_; (case F => k_asm); (case N => exact N8); (case T => exact News.isTup N8 (.tail _ (.tail _ (.tail _ (List.mem_append_left _ hm9))))); (case k1 => exact rfl); (case k2 => exact rfl); (case k3 => exact rfl)); intro h' F' N'; (try k_sweep))
  k_with "myitem" => ((with_reducible show wpAny _ _ (subscriptTail _ _ (Value.ref _) (Value.int _ _)) _ _ _); (rename News _ _ _ _ => N8); k_dflt (refine item_strs (xs := I9.set (r9.1 + 1) []) r9.1 N8 (by k_mem) (strs_setS hq _ _) (by omega) (by rw [List.length_set]; omega) (by omega) ?_); intro t'; (try dsimp only))
  k_with "myitem" => ((with_reducible show wpAny _ _ (subscriptTail _ _ (Value.ref _) (Value.int _ _)) _ _ _); (rename News _ _ _ _ => N8); k_dflt (refine item_strs (xs := I9) (r9.1 + 1) N8 (by k_mem) hq (by omega) (by omega) (by omega) ?_); intro t'; (try dsimp only))
  k_with "myset" => ((with_reducible show wpAny _ _ (setItem (Value.ref _) (Value.int _ _) (Value.str _ _)) _ _ _); k_dflt (first | (refine set_any (r9.1 + 1) (by k_asm) (by k_asm) (by k_upd) (by omega) (by first | omega | (rw [List.length_set]; omega)) (by omega) ?_) | (refine set_any r9.1 (by k_asm) (by k_asm) (by k_upd) (by omega) (by first | omega | (rw [List.length_set]; omega)) (by omega) ?_)); intro h' F' N'; (try k_sweep))
  k_with "mycall" => (k_here; k_dflt (refine' escape_tells (by k_asm) (by k_asm) (by k_asm) (by k_asm) (by first | exact rfl | assumption) (by first | ktr_room | ((simp only [depth_mark, depth_deeper]); ktr_room)) (by ktr_units) (by k_asm) (by rw [S_len]; simp only [List.length_cons]; omega) ?_); intro t9 h9 tk9 F9 N9; (rw [escS_S]); (try dsimp only))
  revert X; k_fill; intro X
  refine wpAny_call ?_
  k_dflt (k_extra "enter")
  have hul : us.length = rows.length := by (have := hd.length; rwa [List.length_map] at this)
  k_steps
  · rename Fr _ _ _ _ => F9
    rename News _ _ _ _ => N9
    have e1 : us.reverse.length = rows.reverse.length := by rw [List.length_reverse, List.length_reverse, hul]
    rw [e1, List.take_length, show Int.toNat 1 = 1 from rfl, map_getD (by rw [innerR_len]; decide)]
    exact ret _ _ _ F9 (cb_drop N9 (by kcj_all))
  · rename Fr _ _ _ _ => F9
    rename News _ _ _ _ => N9
    refine hend .next _ _ _ _ (.inl rfl) ?g1 ?g2 hoff F9 N9
    case g2 => kst_all
    show StrsAre _ ((innerR (rows.reverse.take (i + 1))).map S)
    rw [take_snocR hr9, innerR_snoc, ← hI9, ← S_nil]
    exact strs_setS (strs_setS hq _ _) _ _

end
end Mine
end
section
open PySem PySem.W PyProof.Rows PySem.Spec PySem.Calls
namespace Mine
section
variable {w : World} {p : Program} {loose : List Str} {mean : ExcName → Option Value} {mg mb : Str → Option Value} {dp un : Nat} {gd : Option (List Code)} {cn : Str} {cs : Scope} {a : Addr} {ccd : Value} {cl : List (Str × Addr)} {outer : List Env} {A₀ : Around} {base h₀ : Heap} {L : Addr} {m : Str → Option Value} {news : List (Addr × Obj)} {s : Shared} {Q E : Value → Shared → Prop}
local macro_rules | `(tactic| walk_at "truthy ref") => `(tactic| (k_here; k_dflt (refine' truthy_emptyK ?k1 ?k2 ?k3 ?k4 ?_; (case k1 => k_asm); (case k2 => k_asm); (case k3 => k_is); (case k4 => rfl); k_whole)))
local macro_rules | `(tactic| walk_at "execs cons") => `(tactic| (k_here; (refine tk_gen (by (fail_if_success assumption); first | omega | (with_unfolding_all exact Nat.succ_pos _)) ?_); intro tk htk))
local macro_rules | `(tactic| walk_at "execs nil") => `(tactic| (k_here; (refine tk_gen (by (fail_if_success assumption); first | omega | (with_unfolding_all exact Nat.succ_pos _)) ?_); intro tk htk))
local macro_rules | `(tactic| walk_at "call builtin:str.replace") => `(tactic| (k_here; (refine replace_tk 1 (by dsimp only; omega) (by omega) (by omega) (by decide) (by first | assumption | omega) (by decide) (by decide) (by decide) ?_); intro t' k' hk' hl'))
local macro_rules | `(tactic| walk_at "call builtin:bytes.decode") => `(tactic| (k_here; (refine decode1 (by first | assumption | omega) 0 (Nat.zero_le _) ?_); intro t' k' hk'))
local macro_rules | `(tactic| k_room) => `(tactic| first | ktr_room | ((simp only [depth_mark, depth_deeper]); ktr_room))
local macro_rules | `(tactic| k_units) => `(tactic| ktr_units)
local macro_rules | `(tactic| units_room) => `(tactic| ktr_units)
local macro_rules | `(tactic| walk_at "CompEnd") => `(tactic| k_extra "mycompend")
local macro_rules | `(tactic| k_all) => `(tactic| k_extra "rest")
local macro_rules | `(tactic| walk_at "call ref") => `(tactic| k_extra "mycall")
local macro_rules | `(tactic| walk_at "eval ListComp") => `(tactic| k_extra "mycomp")
local macro_rules | `(tactic| walk_at "exec Assign cons ListComp") => `(tactic| k_extra "mycompA")
local macro_rules | `(tactic| walk_at "CompSrcT") => `(tactic| k_extra "mysrcT")
local macro_rules | `(tactic| walk_at "call builtin:list.extend") => `(tactic| (k_here; (with_reducible show wpAny _ _ (call (Value.builtin _) [Value.ref _, Value.ref _]) _ _ _); k_dflt (refine ext_any (by k_asm) (by k_asm) (by k_mem) (by k_updF) (by k_extra "ext") ?_); intro h' n' F' N'; (try dsimp only at N'); (try k_sweep)))
local macro_rules | `(tactic| walk_at "KCiEl") => `(tactic| k_extra "myciel")
local macro_rules | `(tactic| walk_at "KCiNo") => `(tactic| k_extra "mycino")
local macro_rules | `(tactic| walk_at "SrcS") => `(tactic| k_extra "mysrcS")
local macro_rules | `(tactic| walk_at "CompSrc") => `(tactic| k_extra "mysrc")
local macro_rules | `(tactic| walk_at "pyIter str") => `(tactic| k_extra "myiter")
local macro_rules | `(tactic| walk_at "pyIter ref") => `(tactic| first | k_extra "myiter" | (with_reducible refine stopP ?_))
local macro_rules | `(tactic| walk_at "exec For Name Name cons nil") => `(tactic| (k_here; (rename Fr _ _ _ _ => lF'); (with_unfolding_all refine' For_invVF lF' ?k1 ?k2 ?_; (case k1 => exact rfl); (case k2 => exact rfl); k_whole)))
local macro_rules | `(tactic| walk_at "call builtin:len") => `(tactic| (k_here; (with_reducible show wpAny _ _ (call (Value.builtin "len") [Value.str _ _]) _ _ _); (refine PyProof.Rows.len_str (by first | omega | ((simp only [S_len, List.length_append]); omega)) ?_)))
local macro_rules | `(tactic| walk_at "binaryOp Add str str") => `(tactic| (k_here; (refine PyProof.Rows.add_str ?_ (by (rw [sizeLine_eq]); first | k_extra "len" | omega | ((simp only [S_len, PySem.Str.length_append, List.length_append]); omega))); intro t' k'; (try (rw [S_app]))))
local macro_rules | `(tactic| walk_at "callWith ref") => `(tactic| (k_here; k_dflt (first
  | (refine' callWith_F ?k1 ?_; (case k1 => exact FnAt.of (by k_asm) (by k_mem)); k_whole)
  | (refine' callWith_F0 ?k1 ?_; (case k1 => exact FnAt.of (by k_asm) (by k_mem)); k_whole; try dsimp only [List.nil_append, List.cons_append]))))
local macro_rules | `(tactic| walk_at "subscriptTail Name Slice ref ref") => `(tactic| k_extra "myslice")
local macro_rules | `(tactic| walk_at "exec For Tuple Subscript cons nil") => `(tactic| (k_here; (rename Fr _ _ _ _ => lF'); (with_unfolding_all refine' For_turns lF' ?_; k_whole)))
local macro_rules | `(tactic| walk_at "assign Tuple") => `(tactic| k_extra "myassign")
local macro_rules | `(tactic| walk_at "subscriptTail Name BinOp ref int") => `(tactic| k_extra "myitem")
local macro_rules | `(tactic| walk_at "subscriptTail Name Name ref int") => `(tactic| k_extra "myitem")
local macro_rules | `(tactic| walk_at "setItem ref int") => `(tactic| k_extra "myset")
local macro_rules | `(tactic| walk_at "call builtin:chr") => `(tactic| k_extra "mychr")
local macro_rules | `(tactic| walk_at "exec For Name Call cons nil") => `(tactic| (k_here; (rename Fr _ _ _ _ => lF'); (with_unfolding_all refine' For_invVF lF' ?k1 ?k2 ?_; (case k1 => exact rfl); (case k2 => exact rfl); k_whole)))
local macro_rules | `(tactic| walk_at "exec While BoolOp cons nil") => `(tactic| first | k_extra "mywhile" | (with_reducible refine stopP ?_))
local macro_rules | `(tactic| walk_at "call builtin:len") => `(tactic| k_extra "mylen")
local macro_rules | `(tactic| walk_at "subscriptTail Name Constant ref int") => `(tactic| k_extra "myitem2")

theorem counts_tells {rp : Addr} {us : List Value} {np : Nat} {rows : List (Nat × Nat)} {rest : List (Addr × Obj)} (B : Below A₀ base outer h₀) (F : Fr h₀ L s.heap m) (X : (hd.heap_39 w.params).In h₀) (T : Top p loose mean mg mb h₀) (hk : cs.kind = .function)
    (hdp : dp + 3 < recursionLimit) (hu : un + 40 < cLine) (N : News h₀ L s.heap ((rp, listOf us.toArray np) :: rest)) (hd : DatAll rest us (rows.map rowD)) (hkn : rows.length ≤ 12)
    (hrow : ∀ r ∈ rows, 1 ≤ r.1 ∧ r.1 ≤ 4) (hC : ∀ j, (cntsL rows).getD j 0 ≤ 1000)
    (ret : ∀ (r : Addr) vs n h' tk, IntsAre vs ((cntsL rows).map Int.ofNat) → (∀ q ∈ rest, @Ne Nat q.1 r) → @Ne Nat rp r → Fr h₀ L h' m → News h₀ L h' ((r, listOf vs.toArray n) :: (rp, listOf us.toArray np) :: rest) → Q (.ref r) { s with heap := h', toks := tk }) :
    wpAny (model PySem.Challenge.rw_ij0009_02.row.prog w) (ktrTop dp un gd cn cs L a ccd cl outer) (call (.ref 107) [.ref rp]) Q E s := by
  w_top off
  k_with_none
  k_with "enter" => (first
    | (refine' code_def ?k1 ?k2 ?k3 ?k4 ?k5 ?kA ?kF ?kK ?k6 ?k7 ?k8 ?k9 ?kB ?_ ?c2 ?c3 ?c4 ?c5; (case kA => exact rfl); (case kF => exact rfl); (case kK => first | exact rfl | assumption); (case k1 => k_asm); (case k2 => k_asm); (case k3 => k_asm); (case k4 => k_asm); (case k5 => k_asm); (case k6 => k_is); (case k7 => k_is); (case k8 => ktr_room); (case k9 => first | exact BindsTo.of_eq rfl | exact binds_K (by k_in) rfl (by k_is) rfl rfl rfl | fail "enter: no rule for these arguments"); (case c5 => decide); (case kB => exact locs rfl); (case c2 => exact rfl); (case c3 => exact rfl); (case c4 => exact rfl); k_whole; intro g' L' h' FG' F' N' B' X' T'; (try dsimp only); (try k_lift B'); (try k_fold))
    | (refine' code_defC ?k1 ?k2 ?k3 ?k4 ?k5 ?kA ?kF ?kK ?k6 ?k7 ?k8 ?k9 ?kB ?kD ?_ ?c2 ?c3 ?c4; (case kA => exact rfl); (case kF => exact rfl); (case kK => first | exact rfl | assumption); (case k1 => k_asm); (case k2 => k_asm); (case k3 => k_asm); (case k4 => k_asm); (case k5 => k_asm); (case k6 => k_is); (case k7 => k_is); (case k8 => ktr_room); (case k9 => first | exact BindsTo.of_eq rfl | exact binds_K (by k_in) rfl (by k_is) rfl rfl rfl | fail "enter: no rule for these arguments"); (case kB => exact rfl); (case kD => decide +kernel); (case c2 => exact rfl); (case c3 => exact rfl); (case c4 => exact rfl); k_whole; intro g' L' h' tk' cells' FG' F' N' Y' B' X' T' l1; (try k_lt l1); k_cells Y'; (try simp only [List.cons_append, List.nil_append] at N'); (try dsimp only); (try k_lift B'); (try k_fold)))
  k_with "entern" => (refine' code_nest ?k1 ?k2 ?k3 ?k4 ?k5 ?kA ?kF ?kK ?k6 ?k7 ?k8 ?k9 ?kB ?_ ?c2 ?c3 ?c4 ?c5; (case kA => assumption); (case kF => assumption); (case kK => first | exact rfl | assumption); (case k1 => k_asm); (case k2 => k_asm); (case k3 => k_asm); (case k4 => k_asm); (case k5 => k_asm); (case k6 => k_mem); (case k7 => exact codeRec_news (by k_asm) (by k_mem) (by assumption) (by assumption)); (case k8 => ktr_room); (case k9 => exact BindsTo.of_eq rfl); (case c5 => decide); (case kB => exact locs rfl); (case c2 => exact rfl); (case c3 => exact rfl); (case c4 => exact rfl); k_whole; intro g' L' h' FG' F' N' B' X' T'; (try dsimp only); (try k_lift B'); (try k_fold))
  k_with "mycomp" => (k_here; (with_reducible show wpAny _ _ (eval (PySem.Expr.ListComp (PySem.Expr.Constant ..) _ _ _) _) _ _ _); k_dflt (refine LCg.ListComp_U (F₀ := by k_asm) (by with_unfolding_all rfl) (by decide) (by rfl) (by decide) (by rfl) ?_))
  k_with "mysrc" => (k_here; k_dflt ((refine LCg.CompSrc.ledger (by rfl) (by k_asm) (by k_asm) (by k_mem) (by rw [sizeLine_eq, List.size_toArray]; omega) ?_); intro g5; (refine comp_rest us (fun a v => v = a) (fun a y => ∃ t, y = Value.int 0 t) rfl (fun i v hi hv => ⟨v, by simpa using hv, rfl⟩) ?_ ?_); (rintro a5 v5 I5 oI5 C5 oC5 D5 m5 ys5 h5 tk5 E5 ha5 rfl hC5 hx5 F5 N5 off5 ne5); rotate_left; (intro ys7 hys7); (have hi7 := hys7.ints)))
  k_with "mycompend" => (k_dflt (refine LCg.CompEnd.intro (by k_asm) (by k_asm) _ (fun _ h => h) off5 (.inr ⟨_, by k_mem, rfl, _, rfl⟩) ⟨rfl, _, rfl⟩))
  k_with "rest" => (exact ne_tail (fun p9 hp9 => lr p9 hp9) hoff (by k_mem))
  k_with "mylen" => ((with_reducible show wpAny _ _ (call (Value.builtin "len") [Value.ref _]) _ _ _); (rename News _ _ _ _ => N8); k_dflt (refine len_at rows.length (News.isList N8 (by k_mem)) (by rw [List.size_toArray, hul]) (by omega) ?_); intro t' k'; (try dsimp only))
  k_with "myiter" => ((rename Fr _ _ _ _ => F5); (rename News _ _ _ _ => N5); (rename IsRange _ _ _ _ _ _ _ _ => R5); (rename (_ ∧ LCg.Off1 _ _) => o5); (with_reducible show wpAny _ _ (pyIter (Value.ref _)) _ _ _); k_dflt ((obtain ⟨l5, hl5⟩ := news_head N5); (subst hl5); (have lr := off1_all o5.2); (refine loop_range (n := rows.length) (fun i (q : List Value × Nat) => (l5, listOf q.1.toArray q.2) :: (rp, listOf us.toArray np) :: rest) (fun i q => [(Str.ofString "rows", .ref rp), (Str.ofString "counts", .ref l5)]) (fun i q => IntsAre q.1 ((cwL rows i).map Int.ofNat)) (_, _) (l5 :: rp :: rest.map (·.1)) (by rfl) R5 (small_down (by omega) (by omega) (by omega) (by omega)) (by rw [rangeSize_downNat]; omega) (fun _ _ => rfl) F5 N5 (fun _ h => h) (by rw [← zeros_eq us rows hul]; exact hi7) (by kst_all) ?_ ?_); (rintro i t5 ⟨cs, nc⟩ u h6 tk6 own Q6 hin hcs hoff F6 N6 hend hret); (try clear F5 N5); (dsimp only [kstB] at F6 hcs); (simp only [List.cons_append] at N6); (simp only [List.map_cons] at hoff); (obtain ⟨k9, hk9⟩ : ∃ k9 : Nat, k9 = rows.length - 1 - i := ⟨_, rfl⟩); (have hke : (rows.length : Int) - 1 + (i : Int) * -1 = (k9 : Nat) := by omega); (rw [hke] at F6); (have hkl : k9 < rows.length := by omega); (obtain ⟨r9, hr9⟩ : ∃ r, r = rows.getD k9 (0, 0) := ⟨_, rfl⟩); (obtain ⟨a9, n9, t91, t92, hu9, hm9⟩ := rows_atD hd hkl); (rw [← hr9] at hm9); (have hrb := hrow r9 (by rw [hr9]; exact getD_mem hkl)); (have hcl : cs.length = rows.length := by rw [hcs.length, List.length_map, cwL_len (by omega)]); rotate_left; (rintro ⟨cs, nc⟩ u h6 tk6 hcs F6 N6); (try clear F5 N5); (dsimp only [kstB] at F6 hcs)))
  k_with "myassign" => ((with_reducible show wpAny _ _ (assign (PySem.Expr.Tuple _ _ _) _ (Value.ref _)) _ _ _); (rename News _ _ _ _ => N8); k_dflt (refine' unpackN_ ?F ?N ?T ?k1 ?k2 ?k3 ?_; (case F => k_asm); (case N => exact N8); (case T => exact News.isTup N8 (.tail _ (.tail _ (List.mem_append_left _ hm9)))); (case k1 => exact rfl); (case k2 => exact rfl); (case k3 => exact rfl)); intro h' F' N'; (try k_sweep))
  k_with "myitem" => ((with_reducible show wpAny _ _ (subscriptTail _ _ (Value.ref _) (Value.int _ _)) _ _ _); (rename News _ _ _ _ => N8); k_dflt (refine item_list (News.isList N8 (by k_mem)) (by omega) (by omega) (x := .ref a9) (by rw [Int.toNat_natCast]; simpa using hu9) ?_); (try dsimp only))
  k_with "mywhile" => ((rename Fr _ _ _ _ => F7); (rename News _ _ _ _ => N7); k_dflt ((rw [show (k9 : Int) + 1 = ((k9 + 1 : Nat) : Int) from by omega] at F7); (refine loop_while (fun (q : Int × Nat × Tok × Tok) => (l5, listOf cs.toArray nc) :: (rp, listOf us.toArray np) :: (rest ++ own)) (fun q => [(Str.ofString "rows", .ref rp), (Str.ofString "counts", .ref l5), (Str.ofString "depth", .int (r9.1 : Nat) t91), (Str.ofString "i", .int (k9 : Nat) t5), (Str.ofString "count", .int q.1 q.2.2.1), (Str.ofString "j", .int (q.2.1 : Nat) q.2.2.2)]) (fun q => k9 + 1 ≤ q.2.1 ∧ q.2.1 ≤ rows.length ∧ q.1 + (sumW r9.1 (rows.drop q.2.1) (cntsL (rows.drop q.2.1)) : Nat) = ((cntsL rows).getD k9 0 : Nat)) (fun q => rows.length - q.2.1) (_, k9 + 1, _, _) F7 N7 (fun _ h => h) ⟨Nat.le_refl _, (by show k9 + 1 ≤ rows.length; omega), ?hp7⟩ (by kst_all) ?_); (case hp7 => (rw [cnts_at hkl, ← hr9, S_len, Int.natCast_add]; rfl)); (rintro ⟨z, j, tz, tj⟩ u7 h7 tk7 Q7 ⟨hj0, hj1, hjz⟩ F8 N8 hend7 hret7); (try clear F7 N7); (dsimp only [kstB] at F8 hj0 hj1 hjz)))
  k_with "myitem" => ((with_reducible show wpAny _ _ (subscriptTail _ _ (Value.ref _) (Value.int _ _)) _ _ _); (rename News _ _ _ _ => N8); (have hjl : j < rows.length := by omega); (obtain ⟨tc, hc⟩ := ints_getD hcs (j := j) (by rw [cwL_len (by omega)]; omega)); (rw [cwL_at (by omega) (by omega)] at hc); k_dflt (refine item_list (News.isList N8 (by k_mem)) (by omega) (by omega) (x := .int ((cntsL rows).getD j 0 : Nat) tc) (by rw [Int.toNat_natCast]; simpa using hc) ?_); (try dsimp only))
  k_with "myitem" => ((with_reducible show wpAny _ _ (subscriptTail _ _ (Value.ref _) (Value.int _ _)) _ _ _); (rename News _ _ _ _ => N8); (have hjl : j < rows.length := by omega); (obtain ⟨aj, nj, tj1, tj2, huj, hmj⟩ := rows_atD hd hjl); (have hrbj := hrow _ (getD_mem hjl)); k_dflt (refine item_list (News.isList N8 (by k_mem)) (by omega) (by omega) (x := .ref aj) (by rw [Int.toNat_natCast]; simpa using huj) ?_); (try dsimp only))
  k_with "myitem2" => ((with_reducible show wpAny _ _ (subscriptTail _ _ (Value.ref _) (Value.int _ _)) _ _ _); (rename News _ _ _ _ => N8); k_dflt (refine item_tupleL (News.isTup N8 (.tail _ (.tail _ (List.mem_append_left _ hmj)))) (by decide) (by decide) (by rfl) (by rfl) ?_); (try dsimp only))
  k_with "mychr" => (k_dflt (refine chr_any ((cntsL rows).getD j 0) rfl (by have := hC j; omega) ?_); intro t' k'; (try dsimp only))
  k_with "myset" => ((with_reducible show wpAny _ _ (setItem (Value.ref _) (Value.int _ _) (Value.int _ _)) _ _ _); k_dflt (refine set_any k9 (by k_asm) (by k_asm) (by k_upd) (by omega) (by omega) (by omega) ?_); intro h' F' N'; (try k_sweep))
  k_with "mycall" => (k_here; k_dflt ((refine' deep_tells (by k_asm) (by k_asm) (by k_asm) (by k_asm) (by first | exact rfl | assumption) (by first | ktr_room | ((simp only [depth_mark, depth_deeper]); ktr_room)) (by ktr_units) (by k_asm) (by omega) (by omega) ?_); intro t9 h9 tk9 hd9 F9 N9; (try dsimp only)))
  revert X; k_fill; intro X
  refine wpAny_call ?_
  k_dflt (k_extra "enter")
  have hul : us.length = rows.length := by (have := hd.length; rwa [List.length_map] at this)
  k_steps
  · rename Fr _ _ _ _ => F9
    rename News _ _ _ _ => N9
    rw [cwL_full] at hcs
    exact ret _ _ _ _ _ hcs lr o5.1 F9 N9
  · rename Fr _ _ _ _ => F9
    rename News _ _ _ _ => N9
    have hj9 : j < rows.length := by omega
    have e1 := sumW_step (d := r9.1) hj9 (by omega)
    have t1 : (((rows.getD j (0, 0)).1 : Int) - (r9.1 : Int)).toNat = (rows.getD j (0, 0)).1 - r9.1 := by omega
    have t2 : (((rows.getD j (0, 0)).1 : Int) - (r9.1 : Int) + 1).toNat = (rows.getD j (0, 0)).1 - r9.1 + 1 := by omega
    rw [show (j : Int) + 1 = ((j + 1 : Nat) : Int) from by omega] at F9
    refine hend7 .next (?z1, j + 1, ?tz1, ?tj1) _ _ _ (.inl rfl) ?wP ?wk ?wm F9 N9
    case wk => kst_all
    case wm => (show rows.length - (j + 1) < rows.length - j; omega)
    case wP =>
      refine ⟨?_, ?_, ?_⟩
      · show k9 + 1 ≤ j + 1; omega
      · show j + 1 ≤ rows.length; omega
      · dsimp only
        rw [S_len, S_len, t1, t2]
        rw [e1] at hjz
        omega
  all_goals (rename Fr _ _ _ _ => F9; rename News _ _ _ _ => N9; (have e1 := sumW_stop (rows := rows) (j := j) (d := r9.1) (by omega)); (rw [e1] at hjz); (have e2 : z = ((cntsL rows).getD k9 0 : Nat) := by omega); (refine hend .next (_, _) _ _ _ (.inl rfl) ?_ (by kst_all) hoff F9 N9); (show IntsAre _ ((cwL rows (i + 1)).map Int.ofNat)); (rw [cwL_next hin hk9, List.map_set, e2]); exact ints_set hcs _)

end
end Mine
end
section
open PySem PySem.W PyProof.Rows PySem.Spec PySem.Calls
namespace Mine
section
variable {w : World} {p : Program} {loose : List Str} {mean : ExcName → Option Value} {mg mb : Str → Option Value} {dp un : Nat} {gd : Option (List Code)} {cn : Str} {cs : Scope} {a : Addr} {ccd : Value} {cl : List (Str × Addr)} {outer : List Env} {A₀ : Around} {base h₀ : Heap} {L : Addr} {m : Str → Option Value} {news : List (Addr × Obj)} {s : Shared} {Q E : Value → Shared → Prop}
local macro_rules | `(tactic| walk_at "truthy ref") => `(tactic| (k_here; k_dflt (refine' truthy_emptyK ?k1 ?k2 ?k3 ?k4 ?_; (case k1 => k_asm); (case k2 => k_asm); (case k3 => k_is); (case k4 => rfl); k_whole)))
local macro_rules | `(tactic| walk_at "execs cons") => `(tactic| (k_here; (refine tk_gen (by (fail_if_success assumption); first | omega | (with_unfolding_all exact Nat.succ_pos _)) ?_); intro tk htk))
local macro_rules | `(tactic| walk_at "execs nil") => `(tactic| (k_here; (refine tk_gen (by (fail_if_success assumption); first | omega | (with_unfolding_all exact Nat.succ_pos _)) ?_); intro tk htk))
local macro_rules | `(tactic| walk_at "call builtin:str.replace") => `(tactic| (k_here; (refine replace_tk 1 (by dsimp only; omega) (by omega) (by omega) (by decide) (by first | assumption | omega) (by decide) (by decide) (by decide) ?_); intro t' k' hk' hl'))
local macro_rules | `(tactic| walk_at "call builtin:bytes.decode") => `(tactic| (k_here; (refine decode1 (by first | assumption | omega) 0 (Nat.zero_le _) ?_); intro t' k' hk'))
local macro_rules | `(tactic| k_room) => `(tactic| first | ktr_room | ((simp only [depth_mark, depth_deeper]); ktr_room))
local macro_rules | `(tactic| k_units) => `(tactic| ktr_units)
local macro_rules | `(tactic| units_room) => `(tactic| ktr_units)
local macro_rules | `(tactic| walk_at "CompEnd") => `(tactic| k_extra "mycompend")
local macro_rules | `(tactic| k_all) => `(tactic| k_extra "rest")
local macro_rules | `(tactic| walk_at "call ref") => `(tactic| k_extra "mycall")
local macro_rules | `(tactic| walk_at "eval ListComp") => `(tactic| k_extra "mycomp")
local macro_rules | `(tactic| walk_at "exec Assign cons ListComp") => `(tactic| k_extra "mycompA")
local macro_rules | `(tactic| walk_at "CompSrcT") => `(tactic| k_extra "mysrcT")
local macro_rules | `(tactic| walk_at "call builtin:list.extend") => `(tactic| (k_here; (with_reducible show wpAny _ _ (call (Value.builtin _) [Value.ref _, Value.ref _]) _ _ _); k_dflt (refine ext_any (by k_asm) (by k_asm) (by k_mem) (by k_updF) (by k_extra "ext") ?_); intro h' n' F' N'; (try dsimp only at N'); (try k_sweep)))
local macro_rules | `(tactic| walk_at "KCiEl") => `(tactic| k_extra "myciel")
local macro_rules | `(tactic| walk_at "KCiNo") => `(tactic| k_extra "mycino")
local macro_rules | `(tactic| walk_at "SrcS") => `(tactic| k_extra "mysrcS")
local macro_rules | `(tactic| walk_at "CompSrc") => `(tactic| k_extra "mysrc")
local macro_rules | `(tactic| walk_at "pyIter str") => `(tactic| k_extra "myiter")
local macro_rules | `(tactic| walk_at "pyIter ref") => `(tactic| first | k_extra "myiter" | (with_reducible refine stopP ?_))
local macro_rules | `(tactic| walk_at "exec For Name Name cons nil") => `(tactic| (k_here; (rename Fr _ _ _ _ => lF'); (with_unfolding_all refine' For_invVF lF' ?k1 ?k2 ?_; (case k1 => exact rfl); (case k2 => exact rfl); k_whole)))
local macro_rules | `(tactic| walk_at "call builtin:len") => `(tactic| (k_here; (with_reducible show wpAny _ _ (call (Value.builtin "len") [Value.str _ _]) _ _ _); (refine PyProof.Rows.len_str (by first | omega | ((simp only [S_len, List.length_append]); omega)) ?_)))
local macro_rules | `(tactic| walk_at "binaryOp Add str str") => `(tactic| (k_here; (refine PyProof.Rows.add_str ?_ (by (rw [sizeLine_eq]); first | k_extra "len" | omega | ((simp only [S_len, PySem.Str.length_append, List.length_append]); omega))); intro t' k'; (try (rw [S_app]))))
local macro_rules | `(tactic| walk_at "callWith ref") => `(tactic| (k_here; k_dflt (first
  | (refine' callWith_F ?k1 ?_; (case k1 => exact FnAt.of (by k_asm) (by k_mem)); k_whole)
  | (refine' callWith_F0 ?k1 ?_; (case k1 => exact FnAt.of (by k_asm) (by k_mem)); k_whole; try dsimp only [List.nil_append, List.cons_append]))))
local macro_rules | `(tactic| walk_at "subscriptTail Name Slice ref ref") => `(tactic| k_extra "myslice")
local macro_rules | `(tactic| walk_at "exec For Tuple Subscript cons nil") => `(tactic| (k_here; (rename Fr _ _ _ _ => lF'); (with_unfolding_all refine' For_turns lF' ?_; k_whole)))
local macro_rules | `(tactic| walk_at "assign Tuple") => `(tactic| k_extra "myassign")
local macro_rules | `(tactic| walk_at "subscriptTail Name BinOp ref int") => `(tactic| k_extra "myitem")
local macro_rules | `(tactic| walk_at "subscriptTail Name Name ref int") => `(tactic| k_extra "myitem")
local macro_rules | `(tactic| walk_at "setItem ref int") => `(tactic| k_extra "myset")
local macro_rules | `(tactic| walk_at "call builtin:chr") => `(tactic| k_extra "mychr")
local macro_rules | `(tactic| walk_at "exec For Name Call cons nil") => `(tactic| (k_here; (rename Fr _ _ _ _ => lF'); (with_unfolding_all refine' For_invVF lF' ?k1 ?k2 ?_; (case k1 => exact rfl); (case k2 => exact rfl); k_whole)))
local macro_rules | `(tactic| walk_at "exec While BoolOp cons nil") => `(tactic| first | k_extra "mywhile" | (with_reducible refine stopP ?_))
local macro_rules | `(tactic| walk_at "call builtin:len") => `(tactic| k_extra "mylen")
local macro_rules | `(tactic| walk_at "subscriptTail Name Constant ref int") => `(tactic| k_extra "myitem2")

theorem closed_tells {rp : Addr} {us : List Value} {np : Nat} {rows : List (Nat × Nat)} {rest : List (Addr × Obj)} (B : Below A₀ base outer h₀) (F : Fr h₀ L s.heap m) (X : (hd.heap_39 w.params).In h₀) (T : Top p loose mean mg mb h₀) (hk : cs.kind = .function)
    (hdp : dp + 6 < recursionLimit) (hu : un + 100 < cLine) (N : News h₀ L s.heap ((rp, listOf us.toArray np) :: rest)) (hd : DatAll rest us (rows.map rowD)) (hkn : rows.length ≤ 12)
    (hrow : ∀ r ∈ rows, 1 ≤ r.1 ∧ r.1 ≤ 4) (hC : ∀ j, (cntsL rows).getD j 0 ≤ 1000)
    (ret : ∀ t h' tk, Fr h₀ L h' m → News h₀ L h' ((rp, listOf us.toArray np) :: rest) → Q (.str (S (closedI rows rows.length)) t) { s with heap := h', toks := tk }) :
    wpAny (model PySem.Challenge.rw_ij0009_02.row.prog w) (ktrTop dp un gd cn cs L a ccd cl outer) (call (.ref 114) [.ref rp]) Q E s := by
  w_top off
  k_with_none
  k_with "enter" => (first
    | (refine' code_def ?k1 ?k2 ?k3 ?k4 ?k5 ?kA ?kF ?kK ?k6 ?k7 ?k8 ?k9 ?kB ?_ ?c2 ?c3 ?c4 ?c5; (case kA => exact rfl); (case kF => exact rfl); (case kK => first | exact rfl | assumption); (case k1 => k_asm); (case k2 => k_asm); (case k3 => k_asm); (case k4 => k_asm); (case k5 => k_asm); (case k6 => k_is); (case k7 => k_is); (case k8 => ktr_room); (case k9 => first | exact BindsTo.of_eq rfl | exact binds_K (by k_in) rfl (by k_is) rfl rfl rfl | fail "enter: no rule for these arguments"); (case c5 => decide); (case kB => exact locs rfl); (case c2 => exact rfl); (case c3 => exact rfl); (case c4 => exact rfl); k_whole; intro g' L' h' FG' F' N' B' X' T'; (try dsimp only); (try k_lift B'); (try k_fold))
    | (refine' code_defC ?k1 ?k2 ?k3 ?k4 ?k5 ?kA ?kF ?kK ?k6 ?k7 ?k8 ?k9 ?kB ?kD ?_ ?c2 ?c3 ?c4; (case kA => exact rfl); (case kF => exact rfl); (case kK => first | exact rfl | assumption); (case k1 => k_asm); (case k2 => k_asm); (case k3 => k_asm); (case k4 => k_asm); (case k5 => k_asm); (case k6 => k_is); (case k7 => k_is); (case k8 => ktr_room); (case k9 => first | exact BindsTo.of_eq rfl | exact binds_K (by k_in) rfl (by k_is) rfl rfl rfl | fail "enter: no rule for these arguments"); (case kB => exact rfl); (case kD => decide +kernel); (case c2 => exact rfl); (case c3 => exact rfl); (case c4 => exact rfl); k_whole; intro g' L' h' tk' cells' FG' F' N' Y' B' X' T' l1; (try k_lt l1); k_cells Y'; (try simp only [List.cons_append, List.nil_append] at N'); (try dsimp only); (try k_lift B'); (try k_fold)))
  k_with "entern" => (refine' code_nest ?k1 ?k2 ?k3 ?k4 ?k5 ?kA ?kF ?kK ?k6 ?k7 ?k8 ?k9 ?kB ?_ ?c2 ?c3 ?c4 ?c5; (case kA => assumption); (case kF => assumption); (case kK => first | exact rfl | assumption); (case k1 => k_asm); (case k2 => k_asm); (case k3 => k_asm); (case k4 => k_asm); (case k5 => k_asm); (case k6 => k_mem); (case k7 => exact codeRec_news (by k_asm) (by k_mem) (by assumption) (by assumption)); (case k8 => ktr_room); (case k9 => exact BindsTo.of_eq rfl); (case c5 => decide); (case kB => exact locs rfl); (case c2 => exact rfl); (case c3 => exact rfl); (case c4 => exact rfl); k_whole; intro g' L' h' FG' F' N' B' X' T'; (try dsimp only); (try k_lift B'); (try k_fold))
  k_with "mylen" => ((with_reducible show wpAny _ _ (call (Value.builtin "len") [Value.ref _]) _ _ _); (rename News _ _ _ _ => N8); k_dflt (refine len_at rows.length (News.isList N8 (by k_mem)) (by rw [List.size_toArray, hul]) (by omega) ?_); intro t' k'; (try dsimp only))
  k_with "myiter" => ((rename Fr _ _ _ _ => F5); (rename News _ _ _ _ => N5); (rename IsRange _ _ _ _ _ _ _ _ => R5); (with_reducible show wpAny _ _ (pyIter (Value.ref _)) _ _ _); k_dflt ((refine loop_range (n := rows.length) (fun i (q : Tok) => (cp, listOf cs.toArray nc) :: (rp, listOf us.toArray np) :: rest) (fun i q => [(Str.ofString "rows", .ref rp), (Str.ofString "counts", .ref cp), (Str.ofString "due", .str (S (closedI rows i)) q)]) (fun i q => True) _ (cp :: rp :: rest.map (·.1)) (by rfl) R5 (small_one (by omega) (by omega) (by omega) (by omega)) (by rw [rangeSize_nat]; omega) (fun _ _ => rfl) F5 N5 (fun _ h => h) trivial (by kst_all) ?_ ?_); (rintro i t5 q u h6 tk6 own Q6 hin _ hoff F6 N6 hend hret); (try clear F5 N5); (dsimp only [kstB] at F6); (simp only [List.cons_append] at N6); (simp only [List.map_cons] at hoff); (have hke : (0 : Int) + (i : Int) * 1 = (i : Nat) := by omega); (rw [hke] at F6); (obtain ⟨r9, hr9⟩ : ∃ r, r = rows.getD i (0, 0) := ⟨_, rfl⟩); (obtain ⟨a9, n9, t91, t92, hu9, hm9⟩ := rows_atD hd hin); (rw [← hr9] at hm9); (have hrb := hrow r9 (by rw [hr9]; exact getD_mem hin)); (obtain ⟨tc, hc9⟩ := ints_getD hcs (j := i) (by rw [cntsL_len]; exact hin)); (have hcl := closedI_le hrow i (by omega)); rotate_left; (rintro q u h6 tk6 _ F6 N6); (try clear F5 N5); (dsimp only [kstB] at F6)))
  k_with "myassign" => ((with_reducible show wpAny _ _ (assign (PySem.Expr.Tuple _ _ _) _ (Value.ref _)) _ _ _); (rename News _ _ _ _ => N8); k_dflt (refine' unpackN_ ?F ?N ?T ?k1 ?k2 ?k3 ?_; (case F => k_asm); (case N => exact N8); (case T => exact News.isTup N8 (.tail _ (.tail _ (List.mem_append_left _ hm9)))); (case k1 => exact rfl); (case k2 => exact rfl); (case k3 => exact rfl)); intro h' F' N'; (try k_sweep))
  k_with "myitem" => ((with_reducible show wpAny _ _ (subscriptTail _ _ (Value.ref _) (Value.int _ _)) _ _ _); (rename News _ _ _ _ => N8); k_dflt (refine item_list (News.isList N8 (by k_mem)) (by omega) (by omega) (x := .ref a9) (by rw [Int.toNat_natCast]; simpa using hu9) ?_); (try dsimp only))
  k_with "myitem" => ((with_reducible show wpAny _ _ (subscriptTail _ _ (Value.ref _) (Value.int _ _)) _ _ _); (rename News _ _ _ _ => N8); k_dflt (refine item_list (News.isList N8 (by k_mem)) (by omega) (by omega) (x := .int ((cntsL rows).getD i 0 : Nat) tc) (by rw [Int.toNat_natCast]; simpa using hc9) ?_); (try dsimp only))
  k_with "mychr" => (k_dflt (refine chr_any ((cntsL rows).getD i 0) rfl (by have := hC i; omega) ?_); intro t' k'; (try dsimp only))
  k_with "mycall" => (k_here; k_dflt ((refine' deep_tells (by k_asm) (by k_asm) (by k_asm) (by k_asm) (by first | exact rfl | assumption) (by first | ktr_room | ((simp only [depth_mark, depth_deeper]); ktr_room)) (by ktr_units) (by k_asm) (by omega) (by omega) ?_); intro t9 h9 tk9 hd9 F9 N9; (try dsimp only)))
  k_with "mycall" => (k_here; k_dflt ((refine' counts_tells (by k_asm) (by k_asm) (by k_asm) (by k_asm) (by first | exact rfl | assumption) (by first | ktr_room | ((simp only [depth_mark, depth_deeper]); ktr_room)) (by ktr_units) (by k_asm) hd hkn hrow hC ?_); intro cp cs nc h9 tk9 hcs lr ne8 F9 N9; (try dsimp only)))
  revert X; k_fill; intro X
  refine wpAny_call ?_
  k_dflt (k_extra "enter")
  have hul : us.length = rows.length := by (have := hd.length; rwa [List.length_map] at this)
  k_steps
  · rename Fr _ _ _ _ => F9
    rename News _ _ _ _ => N9
    exact ret _ _ _ F9 (cb_drop N9 (by kcj_all))
  · rename Fr _ _ _ _ => F9
    rename News _ _ _ _ => N9
    have t1 : ((r9.1 : Int) - 1).toNat = r9.1 - 1 := by omega
    have e : closedI rows i ++ deepL ((cntsL rows).getD i 0) (r9.1 - 1) ++ deepL r9.2 r9.1 = closedI rows (i + 1) := by rw [hr9]; rfl
    rw [t1, Int.toNat_natCast, e] at F9
    exact hend .next _ _ _ _ (.inl rfl) trivial (by kst_all) hoff F9 N9

end
end Mine
end
section
open PySem PySem.W PyProof.Rows PySem.Spec PySem.Calls
namespace Mine
section
variable {w : World} {p : Program} {loose : List Str} {mean : ExcName → Option Value} {mg mb : Str → Option Value} {dp un : Nat} {gd : Option (List Code)} {cn : Str} {cs : Scope} {a : Addr} {ccd : Value} {cl : List (Str × Addr)} {outer : List Env} {A₀ : Around} {base h₀ : Heap} {L : Addr} {m : Str → Option Value} {news : List (Addr × Obj)} {s : Shared} {Q E : Value → Shared → Prop}
local macro_rules | `(tactic| walk_at "truthy ref") => `(tactic| (k_here; k_dflt (refine' truthy_emptyK ?k1 ?k2 ?k3 ?k4 ?_; (case k1 => k_asm); (case k2 => k_asm); (case k3 => k_is); (case k4 => rfl); k_whole)))
local macro_rules | `(tactic| walk_at "execs cons") => `(tactic| (k_here; (refine tk_gen (by (fail_if_success assumption); first | omega | (with_unfolding_all exact Nat.succ_pos _)) ?_); intro tk htk))
local macro_rules | `(tactic| walk_at "execs nil") => `(tactic| (k_here; (refine tk_gen (by (fail_if_success assumption); first | omega | (with_unfolding_all exact Nat.succ_pos _)) ?_); intro tk htk))
local macro_rules | `(tactic| walk_at "call builtin:str.replace") => `(tactic| (k_here; (refine replace_tk 1 (by dsimp only; omega) (by omega) (by omega) (by decide) (by first | assumption | omega) (by decide) (by decide) (by decide) ?_); intro t' k' hk' hl'))
local macro_rules | `(tactic| walk_at "call builtin:bytes.decode") => `(tactic| (k_here; (refine decode1 (by first | assumption | omega) 0 (Nat.zero_le _) ?_); intro t' k' hk'))
local macro_rules | `(tactic| k_room) => `(tactic| first | ktr_room | ((simp only [depth_mark, depth_deeper]); ktr_room))
local macro_rules | `(tactic| k_units) => `(tactic| ktr_units)
local macro_rules | `(tactic| units_room) => `(tactic| ktr_units)
local macro_rules | `(tactic| walk_at "CompEnd") => `(tactic| k_extra "mycompend")
local macro_rules | `(tactic| k_all) => `(tactic| k_extra "rest")
local macro_rules | `(tactic| walk_at "call ref") => `(tactic| k_extra "mycall")
local macro_rules | `(tactic| walk_at "eval ListComp") => `(tactic| k_extra "mycomp")
local macro_rules | `(tactic| walk_at "exec Assign cons ListComp") => `(tactic| k_extra "mycompA")
local macro_rules | `(tactic| walk_at "CompSrcT") => `(tactic| k_extra "mysrcT")
local macro_rules | `(tactic| walk_at "call builtin:list.extend") => `(tactic| (k_here; (with_reducible show wpAny _ _ (call (Value.builtin _) [Value.ref _, Value.ref _]) _ _ _); k_dflt (refine ext_any (by k_asm) (by k_asm) (by k_mem) (by k_updF) (by k_extra "ext") ?_); intro h' n' F' N'; (try dsimp only at N'); (try k_sweep)))
local macro_rules | `(tactic| walk_at "KCiEl") => `(tactic| k_extra "myciel")
local macro_rules | `(tactic| walk_at "KCiNo") => `(tactic| k_extra "mycino")
local macro_rules | `(tactic| walk_at "SrcS") => `(tactic| k_extra "mysrcS")
local macro_rules | `(tactic| walk_at "CompSrc") => `(tactic| k_extra "mysrc")
local macro_rules | `(tactic| walk_at "pyIter str") => `(tactic| k_extra "myiter")
local macro_rules | `(tactic| walk_at "pyIter ref") => `(tactic| first | k_extra "myiter" | (with_reducible refine stopP ?_))
local macro_rules | `(tactic| walk_at "exec For Name Name cons nil") => `(tactic| (k_here; (rename Fr _ _ _ _ => lF'); (with_unfolding_all refine' For_invVF lF' ?k1 ?k2 ?_; (case k1 => exact rfl); (case k2 => exact rfl); k_whole)))
local macro_rules | `(tactic| walk_at "call builtin:len") => `(tactic| (k_here; (with_reducible show wpAny _ _ (call (Value.builtin "len") [Value.str _ _]) _ _ _); (refine PyProof.Rows.len_str (by first | omega | ((simp only [S_len, List.length_append]); omega)) ?_)))
local macro_rules | `(tactic| walk_at "binaryOp Add str str") => `(tactic| (k_here; (refine PyProof.Rows.add_str ?_ (by (rw [sizeLine_eq]); first | k_extra "len" | omega | ((simp only [S_len, PySem.Str.length_append, List.length_append]); omega))); intro t' k'; (try (rw [S_app]))))
local macro_rules | `(tactic| walk_at "callWith ref") => `(tactic| (k_here; k_dflt (first
  | (refine' callWith_F ?k1 ?_; (case k1 => exact FnAt.of (by k_asm) (by k_mem)); k_whole)
  | (refine' callWith_F0 ?k1 ?_; (case k1 => exact FnAt.of (by k_asm) (by k_mem)); k_whole; try dsimp only [List.nil_append, List.cons_append]))))
local macro_rules | `(tactic| walk_at "subscriptTail Name Slice ref ref") => `(tactic| k_extra "myslice")
local macro_rules | `(tactic| walk_at "exec For Tuple Subscript cons nil") => `(tactic| (k_here; (rename Fr _ _ _ _ => lF'); (with_unfolding_all refine' For_turns lF' ?_; k_whole)))
local macro_rules | `(tactic| walk_at "assign Tuple") => `(tactic| k_extra "myassign")
local macro_rules | `(tactic| walk_at "subscriptTail Name BinOp ref int") => `(tactic| k_extra "myitem")
local macro_rules | `(tactic| walk_at "subscriptTail Name Name ref int") => `(tactic| k_extra "myitem")
local macro_rules | `(tactic| walk_at "setItem ref int") => `(tactic| k_extra "myset")
local macro_rules | `(tactic| walk_at "call builtin:chr") => `(tactic| k_extra "mychr")
local macro_rules | `(tactic| walk_at "exec For Name Call cons nil") => `(tactic| (k_here; (rename Fr _ _ _ _ => lF'); (with_unfolding_all refine' For_invVF lF' ?k1 ?k2 ?_; (case k1 => exact rfl); (case k2 => exact rfl); k_whole)))
local macro_rules | `(tactic| walk_at "exec While BoolOp cons nil") => `(tactic| first | k_extra "mywhile" | (with_reducible refine stopP ?_))
local macro_rules | `(tactic| walk_at "call builtin:len") => `(tactic| k_extra "mylen")
local macro_rules | `(tactic| walk_at "subscriptTail Name Constant ref int") => `(tactic| k_extra "myitem2")
local macro_rules | `(tactic| walk_at "exec While Compare cons nil") => `(tactic| first | k_extra "mywhile" | (with_reducible refine stopP ?_))
local macro_rules | `(tactic| walk_at "subscriptTail Name Constant str int") => `(tactic| k_extra "mychar")
local macro_rules | `(tactic| walk_at "call type:bytes") => `(tactic| (k_here; k_extra "mybytes"))

/-- between the turns of _law_unpacked -/
structure UnpSt where
  G : Fo
  pre : List Nat
  dn : List (Nat × Nat)
  us : List Value
  n : Nat
  tups : List (Addr × Obj)
  pt : Tok
  tp : Tok
  pz : Int
def UnpOk (w : World) (p : Program) (loose : List Str) (mean : ExcName → Option Value) (mg mb : Str → Option Value) (F : Fo) : Prop :=
  ∀ ⦃dp un : Nat⦄ ⦃gd : Option (List Code)⦄ ⦃cn : Str⦄ ⦃cs : Scope⦄ ⦃a : Addr⦄ ⦃ccd : Value⦄ ⦃cl : List (Str × Addr)⦄ ⦃outer : List Env⦄ ⦃A₀ : Around⦄ ⦃base h₀ : Heap⦄ ⦃L : Addr⦄ ⦃m : Str → Option Value⦄ ⦃s : Shared⦄ ⦃Q E : Value → Shared → Prop⦄ ⦃d5 : Nat⦄ ⦃z5 : Int⦄ ⦃tz tx : Tok⦄ ⦃pq : Array Value⦄ ⦃cod rest : List (Addr × Obj)⦄
    (B : Below A₀ base outer h₀) (F5 : Fr h₀ L s.heap m) (X : (hd.heap_39 w.params).In h₀) (T : Top p loose mean mg mb h₀) (hk : cs.kind = .function)
    (hdp : dp + heightF F + 12 < recursionLimit) (hu : un + 10 * heightF F + 500 < cLine) (codeHd : CodeHd base 80 76) (N : News h₀ L s.heap ((76, tabObj pq) :: (cod ++ rest))) (htb : TabOk pq cod) (hcr : ∀ e ∈ cod, ∀ q ∈ rest, @Ne Nat q.1 e.1) (l0 : ∀ p ∈ rest, @Ne Nat p.1 76)
    (hz5 : z5 = (d5 : Nat)) (hok : okF F) (hlen : (packF F).length ≤ 1000)
    (ret : ∀ (r c : Addr) (oc : Obj) us n tups h' tk, (cod = [] ∨ cod = [(c, oc)]) → CodeOk oc → @Ne Nat c 76 → (∀ q ∈ rest, @Ne Nat q.1 c) → DatAll tups us ((rowsF d5 F).map rowD) → (∀ q ∈ rest, @LT.lt Nat _ q.1 r) → (∀ t ∈ tups, (∀ q ∈ rest, @LT.lt Nat _ q.1 t.1) ∧ @Ne Nat t.1 c) → Fr h₀ L h' m →
      News h₀ L h' ((r, listOf us.toArray n) :: (76, tabObj (#[] ++ #[rawInt ((40 : Nat) : Int), rawInt ((4 : Nat) : Int), .ref c])) :: (c, oc) :: (tups ++ rest)) → Q (.ref r) { s with heap := h', toks := tk }),
    wpAny (model PySem.Challenge.rw_ij0009_02.row.prog w) (ktrTop dp un gd cn cs L a ccd cl outer) (call (.ref 119) [.str (S (packF F)) tx, .int z5 tz]) Q E s
theorem unpacked_step {F : Fo} (ih : ∀ G, heightF G < heightF F → UnpOk w p loose mean mg mb G) : UnpOk w p loose mean mg mb F := by
  unfold UnpOk
  intro dp un gd cn cs a ccd cl outer A₀ base h₀ L m s Q E d5 z5 tz tx pq cod rest B F5 X T hk hdp hu codeHd N htb hcr l0 hz5 hok hlen ret
  subst hz5
  w_top off
  k_with_none
  k_with "enter" => (first
    | (refine' code_def ?k1 ?k2 ?k3 ?k4 ?k5 ?kA ?kF ?kK ?k6 ?k7 ?k8 ?k9 ?kB ?_ ?c2 ?c3 ?c4 ?c5; (case kA => exact rfl); (case kF => exact rfl); (case kK => first | exact rfl | assumption); (case k1 => k_asm); (case k2 => k_asm); (case k3 => k_asm); (case k4 => k_asm); (case k5 => k_asm); (case k6 => k_is); (case k7 => k_is); (case k8 => ktr_room); (case k9 => first | exact BindsTo.of_eq rfl | exact binds_K (by k_in) rfl (by k_is) rfl rfl rfl | fail "enter: no rule for these arguments"); (case c5 => decide); (case kB => exact locs rfl); (case c2 => exact rfl); (case c3 => exact rfl); (case c4 => exact rfl); k_whole; intro g' L' h' FG' F' N' B' X' T'; (try dsimp only); (try k_lift B'); (try k_fold))
    | (refine' code_defC ?k1 ?k2 ?k3 ?k4 ?k5 ?kA ?kF ?kK ?k6 ?k7 ?k8 ?k9 ?kB ?kD ?_ ?c2 ?c3 ?c4; (case kA => exact rfl); (case kF => exact rfl); (case kK => first | exact rfl | assumption); (case k1 => k_asm); (case k2 => k_asm); (case k3 => k_asm); (case k4 => k_asm); (case k5 => k_asm); (case k6 => k_is); (case k7 => k_is); (case k8 => ktr_room); (case k9 => first | exact BindsTo.of_eq rfl | exact binds_K (by k_in) rfl (by k_is) rfl rfl rfl | fail "enter: no rule for these arguments"); (case kB => exact rfl); (case kD => decide +kernel); (case c2 => exact rfl); (case c3 => exact rfl); (case c4 => exact rfl); k_whole; intro g' L' h' tk' cells' FG' F' N' Y' B' X' T' l1; (try k_lt l1); k_cells Y'; (try simp only [List.cons_append, List.nil_append] at N'); (try dsimp only); (try k_lift B'); (try k_fold)))
  k_with "entern" => (refine' code_nest ?k1 ?k2 ?k3 ?k4 ?k5 ?kA ?kF ?kK ?k6 ?k7 ?k8 ?k9 ?kB ?_ ?c2 ?c3 ?c4 ?c5; (case kA => assumption); (case kF => assumption); (case kK => first | exact rfl | assumption); (case k1 => k_asm); (case k2 => k_asm); (case k3 => k_asm); (case k4 => k_asm); (case k5 => k_asm); (case k6 => k_mem); (case k7 => exact codeRec_news (by k_asm) (by k_mem) (by assumption) (by assumption)); (case k8 => ktr_room); (case k9 => exact BindsTo.of_eq rfl); (case c5 => decide); (case kB => exact locs rfl); (case c2 => exact rfl); (case c3 => exact rfl); (case c4 => exact rfl); k_whole; intro g' L' h' FG' F' N' B' X' T'; (try dsimp only); (try k_lift B'); (try k_fold))
  k_with "mycomp" => (k_here; k_dflt (refine ListComp_S (F₀ := by k_asm) (by with_unfolding_all rfl) (by decide) (by rfl) (by decide) (by rfl) ?_))
  k_with "mysrcS" => (k_here; k_dflt (refine SrcS.intro (by rfl) (by k_asm) (by k_asm) (by rw [sizeLine_eq]; exact Nat.le_trans hxS (by decide)) ?_); intro g5; (refine comp_rest (packF F) (fun a v => ∃ t, v = Value.str ⟨#[a]⟩ t) (fun a y => ∃ t, y = Value.int (Int.ofNat a) t) (by exact (S_len _).symm) sign_items ?_ ?_); (rintro a5 v5 I5 oI5 C5 oC5 D5 m5 ys5 h5 tk5 E5 ha5 ⟨t6, rfl⟩ hC5 hx5 F5 N5 off5 ne5); rotate_left; (intro ys7 hys7); (have hi7 := hys7.ints); (rename (_ < _ ∧ _) => l15))
  k_with "mycompend" => (refine LCg.CompEnd.intro (by k_asm) (by k_asm) _ (fun _ h => h) off5 trivial ⟨rfl, _, rfl⟩)
  k_with "mybytes" => ((with_reducible show wpAny _ _ (call (Value.type "bytes") [Value.ref _]) _ _ _); k_dflt ((refine bytes_K (by k_asm) (by k_asm) (News.isList (by k_asm) (by k_mem)) hi7 (fun n hn => by (obtain ⟨c9, hc9, rfl⟩ := List.mem_map.mp hn); (have := pack_lt hok c9 hc9); simp only [Int.ofNat_eq_natCast]; omega) (by rw [hi7.length, List.length_map, sizeLine_eq]; omega) (by rfl) ?_); intro h7 t7 tk7 F7 N7 hB7; (obtain ⟨b9, hb9, hbb9, hbs9⟩ := bytes_made hB7); (rw [← hb9]); (rw [List.length_map] at hbs9)))
  k_with "mycall" => (k_here; k_dflt ((rename News _ _ _ _ => N5); (obtain ⟨l5, hl5⟩ := news_second N5); (subst hl5); (have N6 := unp_order N5); (have lr5 := allLt_all l15.2); (refine' stream_any (pq := pq) (cod := cod) (by k_asm) (by k_asm) (by k_asm) (by k_asm) (by first | exact rfl | assumption) (by first | ktr_room | ((simp only [depth_mark, depth_deeper]); ktr_room)) (by ktr_units) codeHd N6 htb (fun e he => List.forall_mem_cons.mpr ⟨Nat.ne_of_gt (lr5 e (List.mem_append_left _ he)), hcr e he⟩) (List.forall_mem_cons.mpr ⟨Nat.ne_of_gt l15.1, l0⟩) (by omega) ?_); intro x d f c pl c2 c1 oc o2 o1 fd kv kr vt pt5 h6 tk6 hcod hoc hcr2 hc76 hcpl hs1 hs2 hs3 hs4 hs5 hr0 hr1 hr2 hr3 hr4 hr5 hr6 F6 N6 hT6; (have hr8 : @LT.lt Nat _ l5 c1 := hr0 _ (.head _)); (have hlc5 : @Ne Nat l5 c := hcr2 _ (.head _)); (have hl76 : @LT.lt Nat _ 76 l5 := l15.1); (try dsimp only)))
  k_with "mywhile" => ((rename Fr _ _ _ _ => F7); (rename News _ _ _ _ => N7); k_dflt ((refine loop_while (fun (q : UnpSt) => ((x, instObj 70 d) :: (d, dictOf [⟨PyData.keyHash w.params (Str.ofString "value"), .str (Str.ofString "value") kv, .int 0 vt⟩, ⟨PyData.keyHash w.params (Str.ofString "read"), .str (Str.ofString "read") kr, .ref f⟩] 2) :: (f, ⟨.type "function", none, .func fd, #[]⟩) :: (c, oc) :: (pl, listOf #[.int q.pz q.pt] 0) :: (c2, o2) :: (c1, o1) :: (76, tabObj (#[] ++ #[rawInt ((40 : Nat) : Int), rawInt ((4 : Nat) : Int), .ref c])) :: (l5, listOf q.us.toArray q.n) :: (q.tups ++ rest))) (fun q => [(Str.ofString "signs", .str (S (packF F)) tx), (Str.ofString "depth", .int (d5 : Nat) tz), (Str.ofString "rows", .ref l5), (Str.ofString "stream", .ref x), (Str.ofString "place", .int q.pz q.tp)]) (fun q => packF F = q.pre ++ packF q.G ∧ rowsF d5 F = q.dn ++ rowsF d5 q.G ∧ okF q.G ∧ heightF q.G ≤ heightF F ∧ DatAll q.tups q.us (q.dn.map rowD) ∧ (∀ t ∈ q.tups, @LT.lt Nat _ pl t.1 ∧ @Ne Nat t.1 c) ∧ q.pz = (q.pre.length : Nat)) (fun q => (packF q.G).length) ⟨F, [], [], [], _, [], _, _, 0⟩ F7 N7 (fun _ h => h) ⟨rfl, rfl, hok, Nat.le_refl _, .nil, (fun t ht => nomatch ht), rfl⟩ (by kst_all) ?_); (rintro ⟨G, pre, dn, us, ne, tups, pt6, tp, pz⟩ u7 h7 tk7 Q7 ⟨hpk, hrw, hokG, hhG, hda, htu, hpz⟩ F8 N8 hend7 hret7); (try clear F7 N7); (dsimp only [kstB] at F8 N8 hpk hrw hokG hhG hda htu hpz); subst hpz; (have hpl9 := congrArg List.length hpk); (rw [List.length_append] at hpl9); (have hbb8 := hbb9); (rw [hpk] at hbb8); (have hdl9 := hda.length); (rw [List.length_map] at hdl9); (have hrw9 := congrArg List.length hrw); (rw [List.length_append] at hrw9); (have hrl9 := rowsF_len d5 F)))
  k_with "mycall" => (k_here; k_dflt ((obtain ⟨l9, ch9, re9, hG9⟩ := fo_cons (G := G) (by omega)); (subst hG9); (have hbx := box_at hbb8); (obtain ⟨hl9, hle9, hokc, hokr⟩ := hokG); (have hlc := len_esc (l9 :: packF ch9)); (rw [List.length_cons] at hlc); (have hxt : (S (l9 :: packF ch9)).length ≤ 1000 := by rw [S_len, List.length_cons]; omega); (have hh1 : heightF ch9 + 1 ≤ heightF F := Nat.le_trans (Nat.le_max_left _ _) hhG); (have hh2 : heightF re9 ≤ heightF F := Nat.le_trans (Nat.le_max_right _ _) hhG); (refine' string1_ok (pos := pre.length) (n := (escL (l9 :: packF ch9)).length) (pt := pt6) (rest := (76, tabObj (#[] ++ #[rawInt ((40 : Nat) : Int), rawInt ((4 : Nat) : Int), .ref c])) :: (l5, listOf us.toArray ne) :: (tups ++ rest)) (b := b9) (c := c) (pl := pl) (c2 := c2) (c1 := c1) (oc := oc) (o2 := o2) (o1 := o1) (fd := fd) (by k_asm) (by k_asm) (by k_asm) (by k_asm) (by first | exact rfl | assumption) (by first | ktr_room | ((simp only [depth_mark, depth_deeper]); ktr_room)) (by ktr_units) (by (refine cb_drop (by k_asm) ?_; kcj_all)) hT6 hr6 hr5 hr4 (by exact List.forall_mem_cons.mpr ⟨by (refine neN ?_; (try dsimp only); omega), List.forall_mem_cons.mpr ⟨by (refine neN ?_; (try dsimp only); omega), (fun q9 hq9 => (List.mem_append.mp hq9).elim (fun h9 => by (have z9 := (htu q9 h9).1); refine neN ?_; (try dsimp only); omega) (fun h9 => by (have z9 := hr0 q9 (.tail _ h9)); refine neN ?_; (try dsimp only); omega))⟩⟩) (by omega) (by omega) hbx.2.1 hbx.1 ?_); intro t9 h9 tk9 pt9 F9 N9; (rw [hbx.2.2]); (try dsimp only)))
  k_with "mycall" => (k_here; k_dflt (refine' unescape_tells (by k_asm) (by k_asm) (by k_asm) (by k_asm) (by first | exact rfl | assumption) (by first | ktr_room | ((simp only [depth_mark, depth_deeper]); ktr_room)) (by ktr_units) (by k_asm) (by rw [S_len]; omega) ?_); intro t9 h9 tk9 F9 N9; (rw [uneS_S, une_esc]); (try dsimp only))
  k_with "mychar" => (k_dflt (refine KXi.item (n := (l9 :: packF ch9).length) (S_len _) (by omega) (by simp only [List.length_cons]; omega) (by simp only [List.length_cons]; omega) ?_); intro t'; (rw [item_first]))
  k_with "rest" => (exact ne_two (fun q hq => by (have z9 := (htu q hq).1); (have z8 := hr8); refine neN ?_; (try dsimp only at *); omega) (fun q hq => by (have z9 := lr5 q (List.mem_append_right _ hq)); refine neN ?_; (try dsimp only); omega))
  k_with "mycall" => (k_here; k_dflt ((have ih9 := ih ch9 (by omega)); (unfold UnpOk at ih9); (rename News _ _ _ _ => N8); (rename (x < _ ∧ _) => l19); (rw [slice_tail]); (have N88 := rec_in N8); (refine' ih9 (d5 := d5 + 1) (cod := [(c, oc)]) (by k_asm) (by k_asm) (by k_asm) (by k_asm) (by first | exact rfl | assumption) (by first | ktr_room | ((simp only [depth_mark, depth_deeper]); ktr_room)) (by ktr_units) codeHd N88 (.inr ⟨c, oc, rfl, rfl, hoc, hc76⟩) (fun e he => by rw [List.mem_singleton.mp he]; exact List.forall_mem_cons.mpr ⟨(by refine neN ?_; (try dsimp only); omega), List.forall_mem_cons.mpr ⟨(by refine neN ?_; (try dsimp only); omega), List.forall_mem_cons.mpr ⟨(by refine neN ?_; (try dsimp only); omega), List.forall_mem_cons.mpr ⟨(by refine neN ?_; (try dsimp only); omega), List.forall_mem_cons.mpr ⟨(by refine neN ?_; (try dsimp only); omega), List.forall_mem_cons.mpr ⟨(by refine neN ?_; (try dsimp only); omega), List.forall_mem_cons.mpr ⟨(by refine neN ?_; (try dsimp only); omega), List.forall_mem_cons.mpr ⟨hlc5, ne_two (fun q hq => (htu q hq).2) (fun q hq => hcr2 q (.tail _ hq))⟩⟩⟩⟩⟩⟩⟩⟩) (by exact List.forall_mem_cons.mpr ⟨(by refine neN ?_; (try dsimp only); omega), List.forall_mem_cons.mpr ⟨(by refine neN ?_; (try dsimp only); omega), List.forall_mem_cons.mpr ⟨(by refine neN ?_; (try dsimp only); omega), List.forall_mem_cons.mpr ⟨(by refine neN ?_; (try dsimp only); omega), List.forall_mem_cons.mpr ⟨(by refine neN ?_; (try dsimp only); omega), List.forall_mem_cons.mpr ⟨(by refine neN ?_; (try dsimp only); omega), List.forall_mem_cons.mpr ⟨(by refine neN ?_; (try dsimp only); omega), List.forall_mem_cons.mpr ⟨(by refine neN ?_; (try dsimp only); omega), ne_two (fun q hq => by (have z9 := (htu q hq).1); refine neN ?_; omega) l0⟩⟩⟩⟩⟩⟩⟩⟩) (by omega) hokc (by omega) ?_); intro r8 c8 oc8 us8 n8 tups8 h9 tk9 hcod8 hoc8 hc768 hcr8 hda8 hr88 ht8 F9 N9; (obtain ⟨hcc, hoo⟩ := cod_same hcod8); (subst hcc); (subst hoo); (replace N9 := rec_back N9); (have h85 : ∀ t ∈ tups8, @LT.lt Nat _ l5 t.1 := fun t ht => (ht8 t ht).1 _ (.tail _ (.tail _ (.tail _ (.tail _ (.tail _ (.tail _ (.tail _ (.head _))))))))); (have h8p : ∀ t ∈ tups8, @LT.lt Nat _ pl t.1 := fun t ht => (ht8 t ht).1 _ (.tail _ (.tail _ (.tail _ (.head _))))); (have h8r : @LT.lt Nat _ l5 r8 := hr88 _ (.tail _ (.tail _ (.tail _ (.tail _ (.tail _ (.tail _ (.tail _ (.head _))))))))); (have hul8 := hda8.length); (rw [List.length_map] at hul8); (have hrl8 := rowsF_len (d5 + 1) ch9); (try clear N8 N88); (try dsimp only)))
  k_with "rest" => (exact ne_two (ne_two (fun q hq => by (have z9 := h85 q hq); refine neN ?_; (try dsimp only); omega) (fun q hq => by (have z9 := (htu q hq).1); (have z8 := hr8); refine neN ?_; (try dsimp only at *); omega)) (fun q hq => by (have z9 := lr5 q (List.mem_append_right _ hq)); refine neN ?_; (try dsimp only); omega))
  k_with "ext" => (simp only [Array.size_push, List.size_toArray]; omega)
  k_with "len" => (simp only [S_len, PySem.Str.length_append, List.length_append, List.length_cons, List.length_nil, one_len]; omega)
  revert X; k_fill; intro X
  refine wpAny_call ?_
  k_dflt (k_extra "enter")
  have hxS : (S (packF F)).length ≤ 1000 := by rw [S_len]; exact hlen
  have hxl := S_len (packF F)
  k_steps
  · rename Fr _ _ _ _ => F9
    rename News _ _ _ _ => N9
    have e5 : (pre.length : Int) + 1 + ((S (escL (l9 :: packF ch9))).length : Int) = ((pre.length + 1 + (escL (l9 :: packF ch9)).length : Nat) : Int) := by rw [S_len]; omega
    rw [e5] at F9
    simp only [Array.toList_push] at N9
    have N10 := cb_drop N9 (fun _ h => .tail _ h)
    refine hend7 .next ⟨re9, pre ++ ((escL (l9 :: packF ch9)).length :: escL (l9 :: packF ch9)), dn ++ (d5, l9) :: rowsF (d5 + 1) ch9, _, _, _, _, ?tq2, _⟩ _ _ _ (.inl rfl) ?wP ?wk ?wm F9 N10
    case wk => kst_all
    case wm => (show (packF re9).length < (packF (.cons l9 ch9 re9)).length; simp only [packF, List.length_cons, List.length_append]; omega)
    case wP =>
      refine ⟨?_, ?_, hokr, hh2, unp_dat hda hda8, ?_, ?_⟩
      · show packF F = (pre ++ ((escL (l9 :: packF ch9)).length :: escL (l9 :: packF ch9))) ++ packF re9
        rw [hpk]; simp [packF]
      · show rowsF d5 F = (dn ++ (d5, l9) :: rowsF (d5 + 1) ch9) ++ rowsF d5 re9
        rw [hrw]; simp [rowsF]
      · refine List.forall_mem_cons.mpr ⟨⟨by (dsimp only; omega), by (refine neN ?_; dsimp only; omega)⟩, fun t ht => (List.mem_append.mp ht).elim (fun h => ⟨h8p t h, (ht8 t h).2⟩) (htu t)⟩
      · exact congrArg (fun n : Nat => (n : Int)) (show pre.length + 1 + (escL (l9 :: packF ch9)).length = (pre ++ ((escL (l9 :: packF ch9)).length :: escL (l9 :: packF ch9))).length from by rw [List.length_append, List.length_cons]; omega)
  · rename Fr _ _ _ _ => F9
    rename News _ _ _ _ => N9
    have hG9 := fo_nil (G := G) (by omega)
    subst hG9
    rw [show rowsF d5 Fo.nil = [] from rfl, List.append_nil] at hrw
    rw [← hrw] at hda
    exact ret l5 c oc _ _ _ _ _ hcod hoc hc76 (fun q hq => hcr2 q (.tail _ hq)) hda (fun q hq => lr5 q (List.mem_append_right _ hq)) (fun t ht => ⟨fun q hq => by (have z7 := lr5 q (List.mem_append_right _ hq); have z8 := (htu t ht).1; omega), (htu t ht).2⟩) F9 (unp_ret N9)

theorem unpacked_all : ∀ (H : Nat) (F : Fo), heightF F < H → UnpOk w p loose mean mg mb F
  | 0, _, h => absurd h (Nat.not_lt_zero _)
  | H + 1, _, h => unpacked_step fun G hG => unpacked_all H G (by omega)
theorem unpacked_tells {F : Fo} {d5 : Nat} {z5 : Int} {tz tx : Tok} {pq : Array Value} {cod rest : List (Addr × Obj)}
    (B : Below A₀ base outer h₀) (F5 : Fr h₀ L s.heap m) (X : (hd.heap_39 w.params).In h₀) (T : Top p loose mean mg mb h₀) (hk : cs.kind = .function)
    (hdp : dp + heightF F + 12 < recursionLimit) (hu : un + 10 * heightF F + 500 < cLine) (codeHd : CodeHd base 80 76) (N : News h₀ L s.heap ((76, tabObj pq) :: (cod ++ rest))) (htb : TabOk pq cod) (hcr : ∀ e ∈ cod, ∀ q ∈ rest, @Ne Nat q.1 e.1) (l0 : ∀ p ∈ rest, @Ne Nat p.1 76)
    (hz5 : z5 = (d5 : Nat)) (hok : okF F) (hlen : (packF F).length ≤ 1000)
    (ret : ∀ (r c : Addr) (oc : Obj) us n tups h' tk, (cod = [] ∨ cod = [(c, oc)]) → CodeOk oc → @Ne Nat c 76 → (∀ q ∈ rest, @Ne Nat q.1 c) → DatAll tups us ((rowsF d5 F).map rowD) → (∀ q ∈ rest, @LT.lt Nat _ q.1 r) → (∀ t ∈ tups, (∀ q ∈ rest, @LT.lt Nat _ q.1 t.1) ∧ @Ne Nat t.1 c) → Fr h₀ L h' m →
      News h₀ L h' ((r, listOf us.toArray n) :: (76, tabObj (#[] ++ #[rawInt ((40 : Nat) : Int), rawInt ((4 : Nat) : Int), .ref c])) :: (c, oc) :: (tups ++ rest)) → Q (.ref r) { s with heap := h', toks := tk }) :
    wpAny (model PySem.Challenge.rw_ij0009_02.row.prog w) (ktrTop dp un gd cn cs L a ccd cl outer) (call (.ref 119) [.str (S (packF F)) tx, .int z5 tz]) Q E s := by
  have h := unpacked_all (w := w) (p := p) (loose := loose) (mean := mean) (mg := mg) (mb := mb) (heightF F + 1) F (Nat.lt_succ_self _)
  unfold UnpOk at h
  exact h B F5 X T hk hdp hu codeHd N htb hcr l0 hz5 hok hlen ret

end
end Mine
end
section
open PySem PySem.W PyProof.Rows PySem.Spec PySem.Calls
namespace Mine
local macro_rules | `(tactic| walk_at "truthy ref") => `(tactic| (k_here; k_dflt (refine' truthy_emptyK ?k1 ?k2 ?k3 ?k4 ?_; (case k1 => k_asm); (case k2 => k_asm); (case k3 => k_is); (case k4 => rfl); k_whole)))
local macro_rules | `(tactic| walk_at "execs cons") => `(tactic| (k_here; (refine tk_gen (by (fail_if_success assumption); first | omega | (with_unfolding_all exact Nat.succ_pos _)) ?_); intro tk htk))
local macro_rules | `(tactic| walk_at "execs nil") => `(tactic| (k_here; (refine tk_gen (by (fail_if_success assumption); first | omega | (with_unfolding_all exact Nat.succ_pos _)) ?_); intro tk htk))
local macro_rules | `(tactic| walk_at "call builtin:str.replace") => `(tactic| (k_here; (refine replace_tk 1 (by dsimp only; omega) (by omega) (by omega) (by decide) (by first | assumption | omega) (by decide) (by decide) (by decide) ?_); intro t' k' hk' hl'))
local macro_rules | `(tactic| walk_at "call builtin:bytes.decode") => `(tactic| (k_here; (refine decode1 (by first | assumption | omega) 0 (Nat.zero_le _) ?_); intro t' k' hk'))
local macro_rules | `(tactic| k_room) => `(tactic| first | ktr_room | ((simp only [depth_mark, depth_deeper]); ktr_room))
local macro_rules | `(tactic| k_units) => `(tactic| ktr_units)
local macro_rules | `(tactic| units_room) => `(tactic| ktr_units)
local macro_rules | `(tactic| walk_at "CompEnd") => `(tactic| k_extra "mycompend")
local macro_rules | `(tactic| k_all) => `(tactic| k_extra "rest")
local macro_rules | `(tactic| walk_at "call ref") => `(tactic| k_extra "mycall")
local macro_rules | `(tactic| walk_at "eval ListComp") => `(tactic| k_extra "mycomp")
local macro_rules | `(tactic| walk_at "exec Assign cons ListComp") => `(tactic| k_extra "mycompA")
local macro_rules | `(tactic| walk_at "CompSrcT") => `(tactic| k_extra "mysrcT")
local macro_rules | `(tactic| walk_at "call builtin:list.extend") => `(tactic| (k_here; (with_reducible show wpAny _ _ (call (Value.builtin _) [Value.ref _, Value.ref _]) _ _ _); k_dflt (refine ext_any (by k_asm) (by k_asm) (by k_mem) (by k_updF) (by k_extra "ext") ?_); intro h' n' F' N'; (try dsimp only at N'); (try k_sweep)))
local macro_rules | `(tactic| walk_at "KCiEl") => `(tactic| k_extra "myciel")
local macro_rules | `(tactic| walk_at "KCiNo") => `(tactic| k_extra "mycino")
local macro_rules | `(tactic| walk_at "SrcS") => `(tactic| k_extra "mysrcS")
local macro_rules | `(tactic| walk_at "CompSrc") => `(tactic| k_extra "mysrc")
local macro_rules | `(tactic| walk_at "pyIter str") => `(tactic| k_extra "myiter")
local macro_rules | `(tactic| walk_at "pyIter ref") => `(tactic| first | k_extra "myiter" | (with_reducible refine stopP ?_))
local macro_rules | `(tactic| walk_at "exec For Name Name cons nil") => `(tactic| (k_here; (rename Fr _ _ _ _ => lF'); (with_unfolding_all refine' For_invVF lF' ?k1 ?k2 ?_; (case k1 => exact rfl); (case k2 => exact rfl); k_whole)))
local macro_rules | `(tactic| walk_at "call builtin:len") => `(tactic| (k_here; (with_reducible show wpAny _ _ (call (Value.builtin "len") [Value.str _ _]) _ _ _); (refine PyProof.Rows.len_str (by first | omega | ((simp only [S_len, List.length_append]); omega)) ?_)))
local macro_rules | `(tactic| walk_at "binaryOp Add str str") => `(tactic| (k_here; (refine PyProof.Rows.add_str ?_ (by (rw [sizeLine_eq]); first | k_extra "len" | omega | ((simp only [S_len, PySem.Str.length_append, List.length_append]); omega))); intro t' k'; (try (rw [S_app]))))
local macro_rules | `(tactic| walk_at "callWith ref") => `(tactic| (k_here; k_dflt (first
  | (refine' callWith_F ?k1 ?_; (case k1 => exact FnAt.of (by k_asm) (by k_mem)); k_whole)
  | (refine' callWith_F0 ?k1 ?_; (case k1 => exact FnAt.of (by k_asm) (by k_mem)); k_whole; try dsimp only [List.nil_append, List.cons_append]))))
local macro_rules | `(tactic| walk_at "truthy bool") => `(tactic| (k_here; (rw [S_same])))
local macro_rules | `(tactic| walk_at "compareOp Eq ref ref") => `(tactic| k_extra "mycmp")

theorem row2 : PySem.Challenge.rw_ij0009_02.Holds := hd (by
  k_go0; (all_goals try k_fold)
  w_top off
  k_with_none
  k_with "enter" => (first
    | (refine' code_def ?k1 ?k2 ?k3 ?k4 ?k5 ?kA ?kF ?kK ?k6 ?k7 ?k8 ?k9 ?kB ?_ ?c2 ?c3 ?c4 ?c5; (case kA => exact rfl); (case kF => exact rfl); (case kK => first | exact rfl | assumption); (case k1 => k_asm); (case k2 => k_asm); (case k3 => k_asm); (case k4 => k_asm); (case k5 => k_asm); (case k6 => k_is); (case k7 => k_is); (case k8 => ktr_room); (case k9 => first | exact BindsTo.of_eq rfl | exact binds_K (by k_in) rfl (by k_is) rfl rfl rfl | fail "enter: no rule for these arguments"); (case c5 => decide); (case kB => exact locs rfl); (case c2 => exact rfl); (case c3 => exact rfl); (case c4 => exact rfl); k_whole; intro g' L' h' FG' F' N' B' X' T'; (try dsimp only); (try k_lift B'); (try k_fold))
    | (refine' code_defC ?k1 ?k2 ?k3 ?k4 ?k5 ?kA ?kF ?kK ?k6 ?k7 ?k8 ?k9 ?kB ?kD ?_ ?c2 ?c3 ?c4; (case kA => exact rfl); (case kF => exact rfl); (case kK => first | exact rfl | assumption); (case k1 => k_asm); (case k2 => k_asm); (case k3 => k_asm); (case k4 => k_asm); (case k5 => k_asm); (case k6 => k_is); (case k7 => k_is); (case k8 => ktr_room); (case k9 => first | exact BindsTo.of_eq rfl | exact binds_K (by k_in) rfl (by k_is) rfl rfl rfl | fail "enter: no rule for these arguments"); (case kB => exact rfl); (case kD => decide +kernel); (case c2 => exact rfl); (case c3 => exact rfl); (case c4 => exact rfl); k_whole; intro g' L' h' tk' cells' FG' F' N' Y' B' X' T' l1; (try k_lt l1); k_cells Y'; (try simp only [List.cons_append, List.nil_append] at N'); (try dsimp only); (try k_lift B'); (try k_fold)))
  k_with "entern" => (refine' code_nest ?k1 ?k2 ?k3 ?k4 ?k5 ?kA ?kF ?kK ?k6 ?k7 ?k8 ?k9 ?kB ?_ ?c2 ?c3 ?c4 ?c5; (case kA => assumption); (case kF => assumption); (case kK => first | exact rfl | assumption); (case k1 => k_asm); (case k2 => k_asm); (case k3 => k_asm); (case k4 => k_asm); (case k5 => k_asm); (case k6 => k_mem); (case k7 => exact codeRec_news (by k_asm) (by k_mem) (by assumption) (by assumption)); (case k8 => ktr_room); (case k9 => exact BindsTo.of_eq rfl); (case c5 => decide); (case kB => exact locs rfl); (case c2 => exact rfl); (case c3 => exact rfl); (case c4 => exact rfl); k_whole; intro g' L' h' FG' F' N' B' X' T'; (try dsimp only); (try k_lift B'); (try k_fold))
  k_with "mycall" => (k_here; k_dflt ((rename IntsAre _ (List.map _ _) => hi5); (have hl5 := hi5.length); (simp only [List.length_map, List.length_take] at hl5); (obtain ⟨ks5, hks5, hi6, hkl6⟩ := ints_abs hi5); (have hkl5 : ks5.length ≤ 8 := by omega); (refine' rows_tells (rest := [(76, tabObj #[])]) (by k_asm) (by k_asm) (by k_asm) (by k_asm) (by first | exact rfl | assumption) (by first | ktr_room | ((simp only [depth_mark, depth_deeper]); ktr_room)) (by ktr_units) (news_two (by k_asm) (by k_mem) (by k_mem)) hi6 hkl5 (mod30 hks5) ?_); intro rp us np tups h9 tk9 hda hrr hlr htt F9 N9; (obtain ⟨F5, hF5⟩ := law_rows ks5 hkl5); (have hrl5 := rowsL_len ks5); (obtain ⟨rw5, hrw5⟩ : ∃ r, r = rowsL ks5 := ⟨_, rfl⟩); (rw [← hrw5] at hF5 hda hrl5); (have hrn : rw5.length ≤ 12 := by omega); (replace N9 := drop_second N9); (have hr76 : @LT.lt Nat _ 76 rp := hrr _ (.head _)); (have ht76 : ∀ t ∈ tups, @LT.lt Nat _ 76 t.1 := fun t ht => htt t ht _ (.head _)); (have hxp : (S (packF F5)).length ≤ 1000 := by rw [S_len]; exact hF5.len); (try dsimp only)))
  k_with "mycall" => (k_here; k_dflt ((refine' packed_tells (rows := rw5) (rest := tups ++ [(76, tabObj #[])]) (by k_asm) (by k_asm) (by k_asm) (by k_asm) (by first | exact rfl | assumption) (by first | ktr_room | ((simp only [depth_mark, depth_deeper]); ktr_room)) (by ktr_units) (by k_asm) (DatAll.mono (fun _ h => List.mem_append_left _ h) hda) hrn hF5.deep hF5.inner ?_); intro t9 h9 tk9 F9 N9; (rw [hF5.packed]); (try dsimp only)))
  k_with "mycall" => (k_here; k_dflt ((refine' closed_tells (rows := rw5) (rest := tups ++ [(76, tabObj #[])]) (by k_asm) (by k_asm) (by k_asm) (by k_asm) (by first | exact rfl | assumption) (by first | ktr_room | ((simp only [depth_mark, depth_deeper]); ktr_room)) (by ktr_units) (by k_asm) (DatAll.mono (fun _ h => List.mem_append_left _ h) hda) hrn hF5.deep hF5.cnts ?_); intro t9 h9 tk9 F9 N9; (rw [hF5.closed]); (try dsimp only)))
  k_with "mycall" => (k_here; k_dflt ((rename News _ _ _ _ => N8); (have N88 := law2_order N8); (rename CodeHd _ _ _ => hcod9); (have hh5 := hF5.high); (refine' unpacked_tells (F := F5) (d5 := 1) (cod := []) (by k_asm) (by k_asm) (by k_asm) (by k_asm) (by first | exact rfl | assumption) (by first | ktr_room | ((simp only [depth_mark, depth_deeper]); ktr_room)) (by ktr_units) hcod9 N88 (.inl ⟨rfl, rfl⟩) (fun e he => nomatch he) (List.forall_mem_cons.mpr ⟨Nat.ne_of_gt hr76, fun q hq => Nat.ne_of_gt (ht76 q hq)⟩) rfl hF5.ok hF5.len ?_); intro r2 c oc us2 n2 tups2 h9 tk9 hcod hoc hc76 hcr2 hda2 hr2 ht2 F9 N9; (rw [hF5.made] at hda2); (try dsimp only)))
  k_with "mycmp" => ((with_reducible show wpAny _ _ (compareOp CmpOp.Eq (Value.ref _) (Value.ref _)) _ _ _); (rename News _ _ _ _ => N8); k_dflt ((refine rows_eq N8 hda2 hda (rows_kqd hF5.label) (by first | ke_room | ktr_units) ?_); (try dsimp only); (refine ⟨?lg1, ?lg2⟩); (case lg2 => (exact ⟨GrownAt.of N8 (by k_mem), trivial⟩)); (case lg1 => (kc_bool; (refine goodW_bool (by with_reducible assumption) (by with_reducible assumption) (raisesW_false ?_) ?_); (· wrow_none_raised); (· refine postW_of (by wrow_shape) (w_eq_bool (w_res rfl) w_lit) ?_; rfl)))))
  k_steps)

end Mine
end
theorem PySem.Challenge.cw_ij0009_02_holds : PySem.Challenge.rw_ij0009_02.Holds :=
  Mine.row2
