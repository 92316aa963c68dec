import PyProof.Rows.All
import Wide.All
import OpenK.AllK
import Wide.FinOn
import KE.KLcPair
import KE.KTurns
import PySem.Challenge.RW_sn0026_01
set_option Elab.async false

/-! ## Hd -/
section
open PySem PySem.W PyProof.Rows
set_option Elab.async false
namespace Mine
set_option maxRecDepth 100000 in
set_option maxHeartbeats 8000000 in
open_top hd for PySem.Challenge.rw_sn0026_01
end Mine
end

/-! ## Pure1 -/
section
open PySem PySem.W PyProof.Rows
namespace Mine
def Stop (P : Prop) : Prop := P
theorem Stop.out {P : Prop} (h : Stop P) : P := h

def parseL : List Nat → List Nat
  | [] => []
  | c :: r => if c = 34 then (match r with | [] => [] | d :: r' => if d = 34 then 34 :: parseL r' else []) else c :: parseL r
def parseS (x : Str) : Str := ⟨(parseL (x.cps.toList.drop 5)).toArray⟩

def PInv (x : Str) (c : Str × Tok × Int × Tok) : Prop := 5 ≤ c.2.2.1 ∧ c.2.2.1 ≤ x.length ∧ c.1.length ≤ c.2.2.1 ∧ c.1.cps.toList ++ parseL (x.cps.toList.drop c.2.2.1.toNat) = parseL (x.cps.toList.drop 5)

theorem item_is {x : Str} {i : Int} (h0 : 0 ≤ i) (h : i < x.length) : ∃ c, x.cps.toList.drop i.toNat = c :: x.cps.toList.drop (i + 1).toNat ∧ Txt.item x i = ⟨#[c]⟩ := by
  have hl : i.toNat < x.cps.toList.length := by
    have : x.length = x.cps.toList.length := by simp [Str.length]
    omega
  have hl' : i.toNat < x.cps.size := by simpa using hl
  refine ⟨x.cps.toList[i.toNat], ?_, ?_⟩
  · rw [List.drop_eq_getElem_cons hl]
    congr 2
    omega
  · have e1 : seqIndex? i x.length = some i.toNat := by
      have hn : ¬ i < 0 := by omega
      simp [seqIndex?, hn, h0, h]
    unfold Txt.item Txt.charAt
    rw [e1]
    simp [hl']
theorem quote_is : Str.ofString "\"" = ⟨#[34]⟩ := by decide
theorem eq_quote {c : Nat} : ((⟨#[c]⟩ : Str) == Str.ofString "\"") = decide (c = 34) := by
  rw [quote_is]
  by_cases h : c = 34
  · subst h; decide
  · simp [h]
theorem p_done {x d : Str} {i : Int} (hp : d.cps.toList ++ parseL (x.cps.toList.drop i.toNat) = parseL (x.cps.toList.drop 5)) (h : parseL (x.cps.toList.drop i.toNat) = []) : d = parseS x := by
  rw [h, List.append_nil] at hp
  unfold parseS
  rw [← hp]
theorem p_out {x d : Str} {i : Int} (h : ¬ i < (x.length : Int)) (hp : d.cps.toList ++ parseL (x.cps.toList.drop i.toNat) = parseL (x.cps.toList.drop 5)) : d = parseS x := by
  refine p_done hp ?_
  have : x.length = x.cps.toList.length := by simp [Str.length]
  rw [List.drop_of_length_le (by omega)]
  rfl
theorem p_last {x d : Str} {i : Int} (h0 : 5 ≤ i) (h : i < (x.length : Int)) (hq : (Txt.item x i == Str.ofString "\"") = true) (hl : (x.length : Int) ≤ i + 1)
    (hp : d.cps.toList ++ parseL (x.cps.toList.drop i.toNat) = parseL (x.cps.toList.drop 5)) : d = parseS x := by
  obtain ⟨c, e, hc⟩ := item_is (by omega) h
  rw [hc, eq_quote] at hq
  have hc34 : c = 34 := by simpa using hq
  refine p_done hp ?_
  have : x.length = x.cps.toList.length := by simp [Str.length]
  rw [e, List.drop_of_length_le (by omega), hc34]
  rfl
theorem p_other {x d : Str} {i : Int} (h0 : 5 ≤ i) (h : i < (x.length : Int)) (hq : (Txt.item x i == Str.ofString "\"") = true) (hl : ¬ (x.length : Int) ≤ i + 1)
    (hq2 : (Txt.item x (i + 1) != Str.ofString "\"") = true) (hp : d.cps.toList ++ parseL (x.cps.toList.drop i.toNat) = parseL (x.cps.toList.drop 5)) : d = parseS x := by
  obtain ⟨c, e, hc⟩ := item_is (by omega) h
  obtain ⟨c2, e2, hc2⟩ := item_is (x := x) (i := i + 1) (by omega) (by omega)
  rw [hc, eq_quote] at hq
  have hc34 : c = 34 := by simpa using hq
  rw [bne, hc2, eq_quote] at hq2
  have hc2' : c2 ≠ 34 := by simpa using hq2
  refine p_done hp ?_
  rw [e, e2, hc34]
  simp [parseL, hc2']
theorem parse_two (r : List Nat) : parseL (34 :: 34 :: r) = 34 :: parseL r := by simp [parseL]
theorem parse_one {c : Nat} {r : List Nat} (h : c ≠ 34) : parseL (c :: r) = c :: parseL r := by rw [parseL.eq_def]; simp [h]
theorem p_two {x d : Str} {i : Int} {t1 t2 : Tok} (h0 : 5 ≤ i) (h : i < (x.length : Int)) (hdl : (d.length : Int) ≤ i) (hq : (Txt.item x i == Str.ofString "\"") = true) (hl : ¬ (x.length : Int) ≤ i + 1)
    (hq2 : (Txt.item x (i + 1) != Str.ofString "\"") = false) (hp : d.cps.toList ++ parseL (x.cps.toList.drop i.toNat) = parseL (x.cps.toList.drop 5)) : PInv x (d ++ Txt.item x i, t1, i + 1 + 1, t2) := by
  obtain ⟨c, e, hc⟩ := item_is (by omega) h
  obtain ⟨c2, e2, hc2⟩ := item_is (x := x) (i := i + 1) (by omega) (by omega)
  rw [hc, eq_quote] at hq
  have hc34 : c = 34 := by simpa using hq
  rw [bne, hc2, eq_quote] at hq2
  have hc2' : c2 = 34 := by simpa using hq2
  refine ⟨by dsimp only; omega, by dsimp only; omega, by dsimp only; rw [Str.length_append, hc]; have e1 : (⟨#[c]⟩ : Str).length = 1 := rfl; omega, ?_⟩
  dsimp only
  rw [← hp, e, e2, hc, hc34, hc2', parse_two]
  show (d.cps ++ #[34]).toList ++ _ = _
  simp
theorem p_one {x d : Str} {i : Int} {t1 t2 : Tok} (h0 : 5 ≤ i) (h : i < (x.length : Int)) (hdl : (d.length : Int) ≤ i) (hq : (Txt.item x i == Str.ofString "\"") = false)
    (hp : d.cps.toList ++ parseL (x.cps.toList.drop i.toNat) = parseL (x.cps.toList.drop 5)) : PInv x (d ++ Txt.item x i, t1, i + 1, t2) := by
  obtain ⟨c, e, hc⟩ := item_is (by omega) h
  rw [hc, eq_quote] at hq
  have hc34 : c ≠ 34 := by simpa using hq
  refine ⟨by dsimp only; omega, by dsimp only; omega, by dsimp only; rw [Str.length_append, hc]; have e1 : (⟨#[c]⟩ : Str).length = 1 := rfl; omega, ?_⟩
  dsimp only
  rw [← hp, e, hc]
  show (d.cps ++ #[c]).toList ++ _ = _
  rw [parse_one hc34]
  simp
end Mine
end

/-! ## Toks -/
section
open PySem PySem.W PyProof.Rows
namespace Mine
theorem runs_toks {M : Model} {Γ : Ctx} {p : Pos} {t : Sem Fin} {fs : List Frame} {s : Shared} {e : End} {s' : Shared} (h : Runs M Γ p t fs s e s') : s.toks ≤ s'.toks := by
  induction h <;> (try simp only [Shared.setGen] at *) <;> first | exact Nat.le_refl _ | assumption | (refine Nat.le_trans ?_ (by assumption); first | assumption | exact Nat.le_succ _) | skip

theorem wakes_toks {M : Model} {Γ : Ctx} {p : Pos} {g : Nat} {r : Resume} {s : Shared} {res : GenResult} {s' : Shared} (h : Wakes M Γ p g r s res s') : s.toks ≤ s'.toks := by
  unfold Wakes at h
  split at h
  · exact h.elim
  · split at h
    · obtain ⟨e₁, s₁, hr, _, _, rfl⟩ := h
      have := runs_toks hr
      simpa [Shared.setGen] using this
    · rw [h.2]; exact Nat.le_refl _
    · rw [h.2]; exact Nat.le_refl _
  · obtain ⟨e₁, s₁, hr, _, _, rfl⟩ := h
    have := runs_toks hr
    simpa [Shared.setGen] using this
  · rw [h.2]; exact Nat.le_refl _
  · rw [h.2]; exact Nat.le_refl _

theorem wp_toks {α : Type} {M : Model} {Γ : Ctx} (k₀ : Nat) (t : Sem α) : ∀ (Q : α → Pos → Shared → Prop) (E : Value → Pos → Shared → Prop) (p : Pos) (s : Shared), k₀ ≤ s.toks → Sem.wp M Γ t Q E p s →
    Sem.wp M Γ t (fun a p' s' => k₀ ≤ s'.toks ∧ Q a p' s') (fun e p' s' => k₀ ≤ s'.toks ∧ E e p' s') p s := by
  induction t with
  | pure a => intro Q E p s hk h; exact ⟨hk, h⟩
  | raise e => intro Q E p s hk h; exact ⟨hk, h⟩
  | unsupported w => intro Q E p s hk h; exact h
  | finish e => intro Q E p s hk h; exact h
  | rule t k ih => intro Q E p s hk h; simp only [Sem.wp] at h ⊢; exact ih _ _ _ _ _ hk h
  | «at» p k ih => intro Q E p s hk h; simp only [Sem.wp] at h ⊢; exact ih _ _ _ _ _ hk h
  | load a p k ih => intro Q E p s hk h; simp only [Sem.wp] at h ⊢; obtain ⟨o, ho, h⟩ := h; exact ⟨o, ho, ih _ _ _ _ _ hk h⟩
  | update a p f k ih => intro Q E p s hk h; simp only [Sem.wp] at h ⊢; exact ⟨h.1, ih _ _ _ _ _ hk h.2⟩
  | alloc o k ih => intro Q E p s hk h; simp only [Sem.wp] at h ⊢; exact ih _ _ _ _ _ hk h
  | loadIfAlive a k ih => intro Q E p s hk h; simp only [Sem.wp] at h ⊢; exact ih _ _ _ _ _ hk h
  | point l k ih => intro Q E p s hk h; simp only [Sem.wp] at h ⊢; exact ih _ _ _ _ _ hk h
  | register a k ih => intro Q E p s hk h; simp only [Sem.wp] at h
  | fresh k ih => intro Q E p s hk h; simp only [Sem.wp] at h ⊢; exact ih _ _ _ _ _ (by dsimp only; omega) h
  | ask k ih => intro Q E p s hk h; simp only [Sem.wp] at h ⊢; exact ih _ _ _ _ _ hk h
  | choose src n k ih => intro Q E p s hk h; simp only [Sem.wp] at h ⊢; exact ⟨h.1, ih _ _ _ _ _ hk h.2⟩
  | os q l k ih => intro Q E p s hk h; simp only [Sem.wp] at h ⊢; exact ih _ _ _ _ _ hk h
  | call c hd g l k ih =>
    intro Q E p s hk h
    simp only [Sem.wp] at h ⊢
    obtain ⟨r, s', hr, h⟩ := h
    have hle : s.toks ≤ s'.toks := runs_toks hr
    exact ⟨r, s', hr, ih _ _ _ _ _ (by omega) h⟩
  | handled o k ih => intro Q E p s hk h; simp only [Sem.wp] at h ⊢; exact ih _ _ _ _ _ hk h
  | newGen c k ih => intro Q E p s hk h; simp only [Sem.wp] at h ⊢; exact ih _ _ _ _ _ hk h
  | genState g k ih => intro Q E p s hk h; simp only [Sem.wp] at h ⊢; obtain ⟨o, ho, h⟩ := h; exact ⟨o, ho, ih _ _ _ _ _ hk h⟩
  | resume g r l k ih =>
    intro Q E p s hk h
    simp only [Sem.wp] at h ⊢
    obtain ⟨res, s', hr, h⟩ := h
    have hle : s.toks ≤ s'.toks := wakes_toks hr
    exact ⟨res, s', hr, ih _ _ _ _ _ (by omega) h⟩
  | yield v g l k ih => intro Q E p s hk h; simp only [Sem.wp] at h
  | stack k ih => intro Q E p s hk h; simp only [Sem.wp] at h ⊢; exact ih _ _ _ _ _ hk h
  | fork c k ih => intro Q E p s hk h; simp only [Sem.wp] at h
  | thread k ih => intro Q E p s hk h; simp only [Sem.wp] at h ⊢; exact ih _ _ _ _ _ hk h
  | await a t d l k ih => intro Q E p s hk h; simp only [Sem.wp] at h

theorem wpAny_toks {α : Type} {M : Model} {A : Around} {t : Sem α} {Q : α → Shared → Prop} {E : Value → Shared → Prop} {s : Shared}
    (h : wpAny M A t (fun a s' => s.toks ≤ s'.toks → Q a s') E s) : wpAny M A t Q E s := by
  intro Γ p hΓ
  have h1 := wp_toks s.toks t _ _ _ _ (Nat.le_refl _) (h Γ p hΓ)
  exact Sem.wp_mono M Γ t (fun a _ s' x => x.2 x.1) (fun e _ s' x => x.2) p s h1

theorem gentoks1 {α : Type} {M : Model} {A : Around} {t : Sem α} {Q : α → Shared → Prop} {E : Value → Shared → Prop} {h : Heap} {g : Array GenState} {d : Drawn} {tk : Nat} {o : OsState}
    (H : ∀ tk', 0 < tk' → wpAny M A t Q E ⟨h, g, d, tk', o⟩) : wpAny M A t Q E ⟨h, g, d, tk + 1, o⟩ := H _ (Nat.succ_pos _)
end Mine
end

section
open PySem PySem.W PyProof.Rows
theorem Mine.top_off_C1 : True := by
  w_top off
  trivial
end

/-! ## C1 -/
section
open PySem PySem.W PyProof.Rows
set_option Elab.async false
set_option rowWalk.seconds 0
namespace Mine

section
local macro_rules | `(tactic| walk_at "exec While Compare cons nil") => `(tactic| refine Stop.out ?_)
local macro_rules | `(tactic| walk_at "KswEnd") => `(tactic| refine Stop.out ?_)

structure ParseOk (x : Str) : Prop where
  le : x.length ≤ 1000
  ge : 5 ≤ x.length
  h3 : Txt.slice x none (some 3) = Str.ofString "257"
  h5 : Txt.slice x (some 3) (some 5) = Str.ofString " \""
set_option maxRecDepth 100000 in
set_option maxHeartbeats 2000000 in
theorem parse_c0 {w : World} {p : Program} {loose : List Str} {mean : ExcName → Option Value} {mg mb : Str → Option Value} {news : List (Addr × Obj)}
   {dp un : Nat} {gd : Option (List Code)} {cn : Str} {cs : Scope} {a : Addr} {ccd : Value} {cl : List (Str × Addr)} {outer : List Env} {A₀ : Around} {base h₀ : Heap} {L : Addr} {m : Str → Option Value} {s : Shared} {Q E : Value → Shared → Prop}
   {x : Str} {t : Tok} (hx : ParseOk x)
   (B : Below A₀ base outer h₀) (F₀ : Fr h₀ L s.heap m) (X : (Mine.hd.heap_39 w.params).In h₀) (N₀ : News h₀ L s.heap news) (T : Top p loose mean mg mb h₀) (hk : cs.kind = .function) (hdp : dp + 1 < recursionLimit) (hun : un + 8 < cLine)
   (hret : ∀ (t : Tok) (h' : Heap) (tk' : Nat), Fr h₀ L h' m → News h₀ L h' news → Q (.str (parseS x) t) { s with heap := h', toks := tk' }) :
   wpAny (model PySem.Challenge.rw_sn0026_01.row.prog w) (ktrTop dp un gd cn cs L a ccd cl outer) (call (.ref 70) [.str x t]) Q E s := by
  revert X; k_fill; intro X
  obtain ⟨hx, hx5, h3, h35⟩ := hx
  refine wpAny_call ?_
  k_dflt cell_enter
  k_steps
  · exfalso
    simp [h3] at *
  · exfalso
    simp [h35] at *
  · unfold Stop
    rename Fr _ _ _ _ => F
    rename News _ _ _ _ => N
    with_unfolding_all refine' ksw_while (σ := Str × Tok × Int × Tok) (fun _ => news) (fun c => [(Str.ofString "dirname", .str c.1 c.2.1), (Str.ofString "i", .int c.2.2.1 c.2.2.2)]) (fun _ => True) [Str.ofString "c"] (PInv x) (fun c => (x.length - c.2.2.1).toNat) (⟨Str.ofString "", _, 5, _⟩) F N trivial ?kk ?kp ?_
    case kk => kst_all
    case kp =>
      have e0 : Str.ofString "" = ⟨#[]⟩ := by decide
      rw [e0]
      exact ⟨by simp, by show (5 : Int) ≤ (x.length : Int); omega, by simp [Str.length], by simp⟩
    clear F N
    rintro ⟨d, t1, i, t2⟩ u h1 tk1 - ⟨hi5, hle, hdl, hpe⟩ F N
    dsimp only at hi5 hle hdl hpe F N ⊢
    k_fold
    k_steps
    · have e : d = parseS x := p_last hi5 (by assumption) (by assumption) (by assumption) hpe
      subst e
      exact hret _ _ _ (by assumption) (by assumption)
    · have e : d = parseS x := p_other hi5 (by assumption) (by assumption) (by assumption) (by assumption) hpe
      subst e
      exact hret _ _ _ (by assumption) (by assumption)
    · unfold Stop
      refine ksw_end ⟨_, _, _, _⟩ (by assumption) (by assumption) (fun _ h => h) trivial (by kst_all) (by intro z h2 h3; simp only [List.forall_mem_cons, List.not_mem_nil, false_implies, implies_true, and_true, ne_eq] at h2; simp only [List.contains_cons, List.contains_nil, Bool.or_false, Bool.or_eq_false_iff, beq_eq_false_iff_ne, ne_eq] at h3; simp [h2, h3, kstB]) (p_two hi5 (by assumption) hdl (by assumption) (by assumption) (by assumption) hpe) ?_
      dsimp only
      omega
    · unfold Stop
      refine ksw_end ⟨_, _, _, _⟩ (by assumption) (by assumption) (fun _ h => h) trivial (by kst_all) (by intro z h2 h3; simp only [List.forall_mem_cons, List.not_mem_nil, false_implies, implies_true, and_true, ne_eq] at h2; simp only [List.contains_cons, List.contains_nil, Bool.or_false, Bool.or_eq_false_iff, beq_eq_false_iff_ne, ne_eq] at h3; simp [h2, h3, kstB]) (p_one hi5 (by assumption) hdl (by assumption) hpe) ?_
      dsimp only
      omega
    · have e : d = parseS x := p_out (by assumption) hpe
      subst e
      exact hret _ _ _ (by assumption) (by assumption)
end
theorem parse_c {w : World} {p : Program} {loose : List Str} {mean : ExcName → Option Value} {mg mb : Str → Option Value} {news : List (Addr × Obj)}
   {dp un : Nat} {gd : Option (List Code)} {cn : Str} {cs : Scope} {a : Addr} {ccd : Value} {cl : List (Str × Addr)} {outer : List Env} {A₀ : Around} {base h₀ : Heap} {L : Addr} {m : Str → Option Value} {s : Shared} {Q E : Value → Shared → Prop}
   {x : Str} {t : Tok} (hx : ParseOk x)
   (B : Below A₀ base outer h₀) (F₀ : Fr h₀ L s.heap m) (X : (Mine.hd.heap_39 w.params).In h₀) (N₀ : News h₀ L s.heap news) (T : Top p loose mean mg mb h₀) (hk : cs.kind = .function) (hdp : dp + 1 < recursionLimit) (hun : un + 8 < cLine)
   (hret : ∀ (t : Tok) (h' : Heap) (tk' : Nat), s.toks ≤ tk' → Fr h₀ L h' m → News h₀ L h' news → Q (.str (parseS x) t) { s with heap := h', toks := tk' }) :
   wpAny (model PySem.Challenge.rw_sn0026_01.row.prog w) (ktrTop dp un gd cn cs L a ccd cl outer) (call (.ref 70) [.str x t]) Q E s :=
  wpAny_toks (parse_c0 hx B F₀ X N₀ T hk hdp hun fun t h' tk' F N hle => hret t h' tk' hle F N)
end Mine
end

/-! ## Pure2 -/
section
open PySem PySem.W PyProof.Rows
namespace Mine
def dots (n : Nat) : Str := ⟨(List.replicate n 46).toArray⟩
def toldS (n : Nat) : Str := if n % 2 = 0 then ⟨(List.replicate (n / 2) 46 ++ [13, 10]).toArray⟩ else dots (n / 2)
def toldArg (x : Str) : Str := Str.ofString "257 \"" ++ Txt.replace x (Str.ofString ".") (Str.ofString "\"") ++ (Str.ofString "\x0d\n\"" ++ Txt.mul (Str.ofString " \"") (((x.length : Int).fdiv 2).fmod 2))

set_option maxRecDepth 100000 in
theorem told_all : ∀ n, n < 27 → (Txt.replace (parseS (toldArg (dots n))) (Str.ofString "\"") (Str.ofString ".") = toldS n ∧
   ((toldArg (dots n)).length ≤ 1000 ∧ 5 ≤ (toldArg (dots n)).length ∧ Txt.slice (toldArg (dots n)) none (some 3) = Str.ofString "257" ∧ Txt.slice (toldArg (dots n)) (some 3) (some 5) = Str.ofString " \"") ∧
   (parseS (toldArg (dots n))).length ≤ 1000 ∧ (Txt.replace (dots n) (Str.ofString ".") (Str.ofString "\"")).length ≤ 1000) := by decide +kernel
end Mine
end

section
open PySem PySem.W PyProof.Rows
theorem Mine.top_off_C2 : True := by
  w_top off
  trivial
end

/-! ## C2 -/
section
open PySem PySem.W PyProof.Rows
set_option Elab.async false
set_option rowWalk.seconds 0
namespace Mine

section
local macro_rules | `(tactic| walk_at "call ref") => `(tactic| (k_here; (with_reducible show wpAny _ _ (call (Value.ref 70) [Value.str _ _]) _ _ _); k_dflt (refine' parse_c ?_ ?k1 ?k2 ?k3 ?k4 ?k5 ?kK ?kd ?ku ?_; (case k1 => k_asm); (case k2 => k_asm); (case k3 => k_asm); (case k4 => k_asm); (case k5 => k_asm); (case kK => first | exact rfl | assumption); (case kd => ktr_room); (case ku => ktr_units)); rotate_left; intro t9 h9 tk9 H9 F9 N9; (try dsimp only at H9); (try dsimp only); (try k_fold)))

theorem add_stop {prog : Program} {w : World} {A : Around} {E : Value → Shared → Prop} {s : Shared} {x y : Str} {t u : Tok} {Q : Value → Shared → Prop} (h : ∀ t' k, s.toks ≤ k → Q (.str (x ++ y) t') { s with toks := k }) (hsz : Stop (x.length + y.length ≤ sizeLine)) : wpAny (model prog w) A (binaryOp .Add (.str x t) (.str y u)) Q E s := wpAny_toks (SB.add (fun t' k hk => h t' k hk) hsz)
theorem replace_stop {prog : Program} {w : World} {A : Around} {E : Value → Shared → Prop} {s : Shared} {x y z : Str} {t u v : Tok} {Q : Value → Shared → Prop} (hu : u ≠ 0) (hv : v ≠ 0) (huv : u ≠ v) (hyz : (y == z) = false) (hz : z.length ≤ 14)
    (hq : ∀ t' k, s.toks ≤ k → Q (.str (Txt.replace x y z) t') { s with toks := k }) (hx : Stop (x.length ≤ 1048576)) : wpAny (model prog w) A (call (.builtin "str.replace") [.str x t, .str y u, .str z v]) Q E s := wpAny_toks (SC.replaceW hu hv huv hyz hx hz (fun t' k hk => hq t' k hk))
local macro_rules | `(tactic| walk_at "binaryOp Add str str") => `(tactic| (refine' add_stop ?_ ?_; intro _ _ hTk; dsimp only at hTk))
local macro_rules | `(tactic| walk_at "call builtin:str.replace") => `(tactic| (refine' replace_stop ?hu ?hv ?huv ?hyz ?hz ?_ ?_; (case hu => first | omega | ((show @Ne Nat _ _); omega)); (case hv => first | omega | ((show @Ne Nat _ _); omega)); (case huv => first | omega | ((show @Ne Nat _ _); omega)); (case hyz => decide); (case hz => decide); intro _ _ hTk; dsimp only at hTk))

local macro_rules | `(tactic| walk_at "execs cons") => `(tactic| (refine' gentoks1 ?_; intro _ _))

set_option maxRecDepth 100000 in
set_option maxHeartbeats 2000000 in
theorem told_c0 {w : World} {p : Program} {loose : List Str} {mean : ExcName → Option Value} {mg mb : Str → Option Value} {news : List (Addr × Obj)}
   {dp un : Nat} {gd : Option (List Code)} {cn : Str} {cs : Scope} {a : Addr} {ccd : Value} {cl : List (Str × Addr)} {outer : List Env} {A₀ : Around} {base h₀ : Heap} {L : Addr} {m : Str → Option Value} {s : Shared} {Q E : Value → Shared → Prop}
   {n : Nat} {t : Tok} (hn : n ≤ 26)
   (B : Below A₀ base outer h₀) (F₀ : Fr h₀ L s.heap m) (X : (Mine.hd.heap_39 w.params).In h₀) (N₀ : News h₀ L s.heap news) (T : Top p loose mean mg mb h₀) (hk : cs.kind = .function) (hdp : dp + 2 < recursionLimit) (hun : un + 12 < cLine)
   (hret : ∀ (t : Tok) (h' : Heap) (tk' : Nat), Fr h₀ L h' m → News h₀ L h' news → Q (.str (toldS n) t) { s with heap := h', toks := tk' }) :
   wpAny (model PySem.Challenge.rw_sn0026_01.row.prog w) (ktrTop dp un gd cn cs L a ccd cl outer) (call (.ref 160) [.str (dots n) t]) Q E s := by
  have hl : (dots n).length ≤ 26 := by simpa [dots, Str.length] using hn
  obtain ⟨q1, ⟨q2, q3, q4, q5⟩, q6, q7⟩ := told_all n (by omega)
  generalize dots n = x at *
  revert X; k_fill; intro X
  have f1 : 0 ≤ ((x.length : Int).fdiv 2).fmod 2 := Int.fmod_nonneg_of_pos _ (by decide)
  have f2 : ((x.length : Int).fdiv 2).fmod 2 < 2 := Int.fmod_lt_of_pos _ (by decide)
  refine wpAny_call ?_
  k_dflt cell_enter
  k_steps
  · have q1' : Txt.replace (parseS (toldArg x)) (Str.ofString "\"") (Str.ofString ".") = toldS n := q1
    unfold toldArg at q1'
    rw [q1']
    exact hret _ _ _ (by assumption) (by assumption)
  · exact Nat.le_trans q6 (by decide)
  · exact ⟨q2, q3, q4, q5⟩
  · have q2' := q2
    unfold toldArg at q2'
    rw [Str.length_append] at q2'
    exact Nat.le_trans q2' (by rw [sizeLine_eq]; decide)
  · have e : (Str.ofString "257 \"").length = 5 := by decide
    unfold Stop
    rw [e, sizeLine_eq]
    omega
  · unfold Stop
    omega
  · have q2' := q2
    unfold toldArg at q2'
    rw [Str.length_append] at q2'
    have q3' := Nat.le_trans (Nat.le_add_left _ _) q2'
    rw [Str.length_append] at q3'
    exact Nat.le_trans q3' (by rw [sizeLine_eq]; decide)
end
theorem told_c {w : World} {p : Program} {loose : List Str} {mean : ExcName → Option Value} {mg mb : Str → Option Value} {news : List (Addr × Obj)}
   {dp un : Nat} {gd : Option (List Code)} {cn : Str} {cs : Scope} {a : Addr} {ccd : Value} {cl : List (Str × Addr)} {outer : List Env} {A₀ : Around} {base h₀ : Heap} {L : Addr} {m : Str → Option Value} {s : Shared} {Q E : Value → Shared → Prop}
   {n : Nat} {t : Tok} (hn : n ≤ 26)
   (B : Below A₀ base outer h₀) (F₀ : Fr h₀ L s.heap m) (X : (Mine.hd.heap_39 w.params).In h₀) (N₀ : News h₀ L s.heap news) (T : Top p loose mean mg mb h₀) (hk : cs.kind = .function) (hdp : dp + 2 < recursionLimit) (hun : un + 12 < cLine)
   (hret : ∀ (t : Tok) (h' : Heap) (tk' : Nat), s.toks ≤ tk' → Fr h₀ L h' m → News h₀ L h' news → Q (.str (toldS n) t) { s with heap := h', toks := tk' }) :
   wpAny (model PySem.Challenge.rw_sn0026_01.row.prog w) (ktrTop dp un gd cn cs L a ccd cl outer) (call (.ref 160) [.str (dots n) t]) Q E s :=
  wpAny_toks (told_c0 hn B F₀ X N₀ T hk hdp hun fun t h' tk' F N hle => hret t h' tk' hle F N)
theorem told_o {w : World} {p : Program} {loose : List Str} {mean : ExcName → Option Value} {mg mb : Str → Option Value} {news : List (Addr × Obj)}
   {dp un : Nat} {gd : Option (List Code)} {cn : Str} {cs : Scope} {a : Addr} {ccd : Value} {cl : List (Str × Addr)} {outer : List Env} {A₀ : Around} {base h₀ : Heap} {L : Addr} {m : Str → Option Value} {s : Shared} {Q E : Value → Shared → Prop}
   {n : Nat} {t : Tok} (hn : n ≤ 26 ∧ n % 2 = 1)
   (B : Below A₀ base outer h₀) (F₀ : Fr h₀ L s.heap m) (X : (Mine.hd.heap_39 w.params).In h₀) (N₀ : News h₀ L s.heap news) (T : Top p loose mean mg mb h₀) (hk : cs.kind = .function) (hdp : dp + 2 < recursionLimit) (hun : un + 12 < cLine)
   (hret : ∀ (t : Tok) (h' : Heap) (tk' : Nat), s.toks ≤ tk' → Fr h₀ L h' m → News h₀ L h' news → Q (.str (dots (n / 2)) t) { s with heap := h', toks := tk' }) :
   wpAny (model PySem.Challenge.rw_sn0026_01.row.prog w) (ktrTop dp un gd cn cs L a ccd cl outer) (call (.ref 160) [.str (dots n) t]) Q E s := by
  refine told_c hn.1 B F₀ X N₀ T hk hdp hun fun t h' tk' hle F N => ?_
  have e : toldS n = dots (n / 2) := by unfold toldS; rw [if_neg (by omega)]
  rw [e]
  exact hret t h' tk' hle F N
theorem dots_len (n : Nat) : (dots n).length = n := by simp [dots, Str.length]
theorem len_dots {prog : Program} {w : World} {A : Around} {E : Value → Shared → Prop} {s : Shared} {n : Nat} {t : Tok} {Q : Value → Shared → Prop} (hn : n ≤ 1000) (h : Q (.int (n : Int) (s.toks + 1)) { s with toks := s.toks + 1 + 1 }) :
    wpAny (model prog w) A (call (.builtin "len") [.str (dots n) t]) Q E s :=
  len_str (by rw [dots_len]; omega) (by rw [dots_len]; exact h)
end Mine
end

/-! ## Re1 -/
section
open PySem PySem.W PyProof.Rows
open PySem.Calls
namespace Mine
set_option maxRecDepth 100000
theorem slot_sub : Slot "re.Pattern" "sub" "re.Pattern.sub" :=
  .of (owner := "re.Pattern") (n := "sub") (by rw [typeLookup_type, builtinLookup_eq_fast]; kernel_rfl) (by decide +kernel) (by decide +kernel) (by decide +kernel)
    (by first | exact .inl (by decide +kernel) | exact .inr (by decide +kernel)) (by rw [isSubtype_type]; kernel_rfl)
theorem type_sub : typeOf (.builtin "re.Pattern.sub") = pure (.type "method_descriptor") := by show builtinType _ = _; rw [builtinType_eq_fast]; kernel_rfl
theorem entry_sub : entryFor table "re.Pattern.sub" = some Builtin.«re.Pattern.sub» := entryFor_of_fast (by kernel_rfl)
theorem entry_loop : entryFor table "re.Pattern.sub.loop" = some Builtin.«re.Pattern.sub.loop» := entryFor_of_fast (by kernel_rfl)
theorem args_sub (a b c : Value) : argsOk "re.Pattern.sub" ⟨[a, b, c], []⟩ := by
  unfold argsOk
  kernel_rfl
theorem pat_ga : typeLookup (.type "re.Pattern") "__getattribute__" = pure (some (.builtin "object.__getattribute__")) := by rw [typeLookup_type, builtinLookup_eq_fast]; kernel_rfl
theorem canon_ga : (Manifest.canonical "object.__getattribute__" != "object.__getattribute__") = false := by decide +kernel
theorem pat_gn : typeLookup (.type "re.Pattern") "__getattr__" = pure none := by rw [typeLookup_type, builtinLookup_eq_fast]; kernel_rfl
theorem plain_loop : plainId "re.Pattern.sub.loop" = true := by decide +kernel
theorem plain_sub : plainId "re.Pattern.sub" = true := by decide +kernel
theorem kind_sub : builtinKind "re.Pattern.sub" = some .method := by decide +kernel
theorem str_call_none : typeLookup (.type "str") "__call__" = pure none := by rw [typeLookup_type, builtinLookup_eq_fast]; kernel_rfl
end Mine
end

/-! ## Sre1 -/
section
open PySem
namespace Mine
open PySem.Sre (Seen M)

def code1 : Array Nat := #[14, 4, 0, 1, 1, 6, 1, 16, 46, 1]
def code2 : Array Nat := #[14, 9, 4, 1, 2, 16, 10, 16, 13, 0, 7, 7, 16, 13, 16, 10, 15, 18, 5, 16, 10, 15, 13, 11, 16, 13, 5, 5, 0, 16, 10, 1, 15, 2, 0, 1]

/-- a state of the machine: no groups, no loops -/
def mk (code text : Array Nat) (lim start ls : Nat) (must : Bool) (pc pos handed : Nat) (outer : Bool) (frames : List Sre.Frame) (weight : Nat) (answer : Option Bool) (seen : Seen) : M :=
  { code, text, lim, start, lastStart := ls, wholeText := false, mustAdvance := must, pc, pos, handed, outermost := outer, marks := #[], lastmark := -1, lastindex := -1, loops := #[], inner := none, frames, weight, answer, seen, outcome := none }

section
variable {text : Array Nat} {lim start ls : Nat} {must : Bool} {pos handed : Nat} {outer : Bool} {frames : List Sre.Frame} {weight : Nat} {seen : Seen}

theorem c1_at : Sre.M.step (mk code1 text lim start ls must 5 pos handed outer frames weight none seen) =
    if (pos == 0 || text.getD (pos - 1) 0 == 10) = true then mk code1 text lim start ls must 7 pos handed outer frames weight none ((seen.add 6).add 44) else mk code1 text lim start ls must 5 pos handed outer frames weight (some false) ((seen.add 6).add 44) := rfl
theorem c1_lit : Sre.M.step (mk code1 text lim start ls must 7 pos handed outer frames weight none seen) =
    if pos ≥ lim then mk code1 text lim start ls must 7 pos handed outer frames weight (some false) (seen.add 16) else
    if (text.getD pos 0 == 46) = true then mk code1 text lim start ls must 9 (pos + 1) handed outer frames weight none (seen.add 16) else mk code1 text lim start ls must 7 pos handed outer frames weight (some false) (seen.add 16) := by
  cases h : (text.getD pos 0 == 46)
  · show (if pos ≥ lim then _ else match (Except.ok (text.getD pos 0 == 46, seen.add 16) : Except String (Bool × Seen)) with | .error why => _ | .ok (false, seen) => _ | .ok (true, seen) => _) = _
    rw [h]
    rfl
  · show (if pos ≥ lim then _ else match (Except.ok (text.getD pos 0 == 46, seen.add 16) : Except String (Bool × Seen)) with | .error why => _ | .ok (false, seen) => _ | .ok (true, seen) => _) = _
    rw [h]
    rfl
theorem c1_end (h : must = false) : Sre.M.step (mk code1 text lim start ls must 9 pos handed outer frames weight none seen) = mk code1 text lim start ls must 9 pos pos outer frames weight (some true) (seen.add 1) := by
  subst h
  cases outer <;> rfl
end

theorem runFor_step (m : M) : ∀ n, Sre.M.runFor (n + 1) m = Sre.M.runFor n (Sre.M.step m) := by
  intro n
  show (if m.outcome.isSome = true then m else Sre.M.runFor n m.step) = _
  cases h : m.outcome.isSome
  · rfl
  · have e : m.step = m := by unfold Sre.M.step; rw [if_pos h]
    rw [if_pos rfl, e]
    cases n with
    | zero => rfl
    | succ n => show m = (if m.outcome.isSome = true then m else _); rw [h]; rfl
theorem runFor_add (b : Nat) : ∀ (a : Nat) (m : M), Sre.M.runFor (a + b) m = Sre.M.runFor b (Sre.M.runFor a m)
  | 0, m => by rw [Nat.zero_add]; rfl
  | a + 1, m => by rw [Nat.add_right_comm, runFor_step, runFor_add b a, runFor_step]
theorem runFor_done (m : M) (h : m.outcome.isSome = true) : ∀ n, Sre.M.runFor n m = m
  | 0 => rfl
  | n + 1 => by show (if m.outcome.isSome = true then m else _) = m; rw [if_pos h]

def F1 (s : Nat) (first : Bool) : Sre.Frame := { wait := .nextStart, pc := 5, pos := s, outermost := first }
def A1 (text : Array Nat) (lim s ls : Nat) (must first : Bool) (seen : Seen) : M := mk code1 text lim s ls must 5 s s first [F1 s first] 1 none seen

section
variable {text : Array Nat} {lim start s ls pc : Nat} {must first : Bool} {pos handed : Nat} {outer : Bool} {seen : Seen}
theorem c1_retry : Sre.M.step (mk code1 text lim start ls must pc pos handed outer [F1 s first] 1 (some false) seen) =
    if s < ls then A1 text lim (s + 1) ls false false seen else mk code1 text lim start ls must 5 s handed first [] 0 (some false) seen := rfl
theorem c1_yes : Sre.M.step (mk code1 text lim start ls must pc pos handed outer [F1 s first] 1 (some true) seen) = mk code1 text lim start ls must 5 s handed first [] 0 (some true) seen := rfl
theorem m_yes {code : Array Nat} : Sre.M.step (mk code text lim start ls must pc pos handed outer [] 0 (some true) seen) = { mk code text lim start ls must pc pos handed outer [] 0 (some true) seen with outcome := some .matched } := rfl
theorem m_no {code : Array Nat} : Sre.M.step (mk code text lim start ls must pc pos handed outer [] 0 (some false) seen) = { mk code text lim start ls must pc pos handed outer [] 0 (some false) seen with outcome := some .failed } := rfl
end

def hit1 (text : Array Nat) (q : Nat) : Bool := (q == 0 || text.getD (q - 1) 0 == 10) && text.getD q 0 == 46

/-- how a search ends: nothing from s on, or the first q from s on, up to e -/
def Ends (hit : Nat → Bool) (len : Nat → Nat) (lim s : Nat) (m : M) : Prop :=
  (m.outcome = some .failed ∧ ∀ q, s ≤ q → q < lim → hit q = false) ∨ (∃ q, m.outcome = some .matched ∧ s ≤ q ∧ q < lim ∧ hit q = true ∧ (∀ r, s ≤ r → r < q → hit r = false) ∧ m.start = q ∧ m.handed = q + len q)

theorem Ends.some {hit : Nat → Bool} {len : Nat → Nat} {lim s : Nat} {m : M} (h : Ends hit len lim s m) : m.outcome.isSome = true := by
  rcases h with ⟨h, _⟩ | ⟨q, h, _⟩ <;> rw [h] <;> rfl

theorem run1 {text : Array Nat} {lim : Nat} : ∀ (k s : Nat) (first : Bool) (seen : Seen), lim - s = k → s ≤ lim → ∃ N, N ≤ 3 * k + 6 ∧ Ends (hit1 text) (fun _ => 1) lim s (Sre.M.runFor N (A1 text lim s lim false first seen)) := by
  intro k
  induction k with
  | zero =>
    intro s first seen hk hs
    have e : s = lim := by omega
    subst e
    -- nothing is left: either test fails
    refine ⟨6, by omega, .inl ⟨?_, fun q h1 h2 => by omega⟩⟩
    unfold A1
    cases hb : (s == 0 || text.getD (s - 1) 0 == 10)
    · rw [runFor_step, c1_at, hb, if_neg Bool.false_ne_true, runFor_step, c1_retry, if_neg (Nat.lt_irrefl _), runFor_step, m_no]
      rw [runFor_done _ rfl]
    · rw [runFor_step, c1_at, hb, if_pos rfl, runFor_step, c1_lit, if_pos (Nat.le_refl _), runFor_step, c1_retry, if_neg (Nat.lt_irrefl _), runFor_step, m_no]
      rw [runFor_done _ rfl]
  | succ k ih =>
    intro s first seen hk hs
    have hlt : s < lim := by omega
    cases hh : hit1 text s
    · -- no hit here
      have next : ∃ a sn, a ≤ 3 ∧ Sre.M.runFor a (A1 text lim s lim false first seen) = A1 text lim (s + 1) lim false false sn := by
        unfold hit1 at hh
        cases hb : (s == 0 || text.getD (s - 1) 0 == 10)
        · refine ⟨2, (seen.add 6).add 44, by omega, ?_⟩
          unfold A1
          rw [runFor_step, c1_at, hb, if_neg Bool.false_ne_true, runFor_step, c1_retry, if_pos hlt]
          rfl
        · rw [hb, Bool.true_and] at hh
          refine ⟨3, ((seen.add 6).add 44).add 16, by omega, ?_⟩
          unfold A1
          rw [runFor_step, c1_at, hb, if_pos rfl, runFor_step, c1_lit, if_neg (by omega), hh, if_neg Bool.false_ne_true, runFor_step, c1_retry, if_pos hlt]
          rfl
      obtain ⟨a, sn, ha, e⟩ := next
      obtain ⟨N, hN, hE⟩ := ih (s + 1) false sn (by omega) (by omega)
      refine ⟨a + N, by omega, ?_⟩
      rw [runFor_add, e]
      rcases hE with ⟨h1, h2⟩ | ⟨q, h1, h2, h3, h4, h5, h6⟩
      · refine .inl ⟨h1, fun q hq1 hq2 => ?_⟩
        by_cases hq : q = s
        · rw [hq]; exact hh
        · exact h2 q (by omega) hq2
      · refine .inr ⟨q, h1, by omega, h3, h4, fun r hr1 hr2 => ?_, h6⟩
        by_cases hq : r = s
        · rw [hq]; exact hh
        · exact h5 r (by omega) hr2
    · -- a hit
      have hh' := hh
      unfold hit1 at hh'
      obtain ⟨hb, hc⟩ := Bool.and_eq_true_iff.mp hh'
      refine ⟨5, by omega, .inr ⟨s, ?_⟩⟩
      have e : Sre.M.runFor 5 (A1 text lim s lim false first seen) = { mk code1 text lim s lim false 5 s (s + 1) first [] 0 (some true) ((((seen.add 6).add 44).add 16).add 1) with outcome := some .matched } := by
        unfold A1
        rw [runFor_step, c1_at, hb, if_pos rfl, runFor_step, c1_lit, if_neg (by omega), hc, if_pos rfl, runFor_step, c1_end rfl, runFor_step, c1_yes, runFor_step, m_yes]
        rfl
      rw [e]
      exact ⟨rfl, Nat.le_refl _, hlt, hh, fun r h1 h2 => by omega, rfl, rfl⟩

theorem search1 {text : Array Nat} {lim s : Nat} (hs : s ≤ lim) : ∃ N, N ≤ 3 * lim + 6 ∧ Ends (hit1 text) (fun _ => 1) lim s (Sre.M.runFor N (Sre.forSearch code1 text 0 s lim false)) := by
  by_cases hl : lim - s < 1
  · refine ⟨1, by omega, .inl ⟨?_, fun q h1 h2 => by omega⟩⟩
    have e : Sre.forSearch code1 text 0 s lim false = mk code1 text lim s 0 false 5 s s true [] 0 (some false) (({} : Seen).add 14) := by
      show (if (decide (s > lim) || decide (lim - s < 1)) = true then mk code1 text lim s 0 false 5 s s true [] 0 (some false) (({} : Seen).add 14) else _) = _
      rw [if_pos (by simp only [Bool.or_eq_true, decide_eq_true_eq]; exact .inr hl)]
    rw [e, runFor_step, m_no]
    rfl
  · have e : Sre.forSearch code1 text 0 s lim false = A1 text lim s lim false true (({} : Seen).add 14) := by
      show (if (decide (s > lim) || decide (lim - s < 1)) = true then _ else A1 text lim s lim false true (({} : Seen).add 14)) = _
      rw [if_neg (by simp only [Bool.or_eq_true, decide_eq_true_eq]; omega)]
    rw [e]
    obtain ⟨N, hN, hE⟩ := run1 (lim - s) s true (({} : Seen).add 14) rfl hs (text := text)
    exact ⟨N, by omega, hE⟩
end Mine
end

/-! ## Sre2 -/
section
open PySem
namespace Mine
open PySem.Sre (Seen M)

def F2 (s : Nat) (first : Bool) : Sre.Frame := { wait := .nextStart, pc := 10, pos := s, outermost := first }
def A2 (text : Array Nat) (lim s ls : Nat) (first : Bool) (seen : Seen) : M := mk code2 text lim s ls false 10 s s first [F2 s first] 1 none seen
def B2 (alt s : Nat) (first : Bool) : Sre.Frame := { wait := .nextBranch, pc := alt, pos := s, outermost := first }
def L2 (s : Nat) (first : Bool) : Sre.Frame := { wait := .lookNot, pc := 26, pos := s, outermost := first }

section
variable {text : Array Nat} {lim start s ls pc : Nat} {must first : Bool} {pos handed : Nat} {outer : Bool} {frames : List Sre.Frame} {weight : Nat} {seen : Seen}

theorem lit_form {P : Nat → M} {N : M} {b : Bool} {sn : Seen} : (if pos ≥ lim then N else match (Except.ok (b, sn) : Except String (Bool × Seen)) with | .error _ => P 0 | .ok (false, _) => P 1 | .ok (true, _) => P 2) = if pos ≥ lim then N else if b = true then P 2 else P 1 := by
  cases b <;> rfl

theorem c2_lit12 : Sre.M.step (mk code2 text lim start ls must 12 pos handed outer frames weight none seen) =
    if pos ≥ lim then mk code2 text lim start ls must 12 pos handed outer frames weight (some false) (seen.add 16) else
    if (text.getD pos 0 == 13) = true then mk code2 text lim start ls must 14 (pos + 1) handed outer frames weight none (seen.add 16) else mk code2 text lim start ls must 12 pos handed outer frames weight (some false) (seen.add 16) := by
  cases h : (text.getD pos 0 == 13) <;>
  · show (if pos ≥ lim then _ else match (Except.ok (text.getD pos 0 == 13, seen.add 16) : Except String (Bool × Seen)) with | .error why => _ | .ok (false, seen) => _ | .ok (true, seen) => _) = _
    rw [h]
    rfl
theorem c2_lit14 : Sre.M.step (mk code2 text lim start ls must 14 pos handed outer frames weight none seen) =
    if pos ≥ lim then mk code2 text lim start ls must 14 pos handed outer frames weight (some false) (seen.add 16) else
    if (text.getD pos 0 == 10) = true then mk code2 text lim start ls must 16 (pos + 1) handed outer frames weight none (seen.add 16) else mk code2 text lim start ls must 14 pos handed outer frames weight (some false) (seen.add 16) := by
  cases h : (text.getD pos 0 == 10) <;>
  · show (if pos ≥ lim then _ else match (Except.ok (text.getD pos 0 == 10, seen.add 16) : Except String (Bool × Seen)) with | .error why => _ | .ok (false, seen) => _ | .ok (true, seen) => _) = _
    rw [h]
    rfl
theorem c2_lit19 : Sre.M.step (mk code2 text lim start ls must 19 pos handed outer frames weight none seen) =
    if pos ≥ lim then mk code2 text lim start ls must 19 pos handed outer frames weight (some false) (seen.add 16) else
    if (text.getD pos 0 == 10) = true then mk code2 text lim start ls must 21 (pos + 1) handed outer frames weight none (seen.add 16) else mk code2 text lim start ls must 19 pos handed outer frames weight (some false) (seen.add 16) := by
  cases h : (text.getD pos 0 == 10) <;>
  · show (if pos ≥ lim then _ else match (Except.ok (text.getD pos 0 == 10, seen.add 16) : Except String (Bool × Seen)) with | .error why => _ | .ok (false, seen) => _ | .ok (true, seen) => _) = _
    rw [h]
    rfl
theorem c2_lit24 : Sre.M.step (mk code2 text lim start ls must 24 pos handed outer frames weight none seen) =
    if pos ≥ lim then mk code2 text lim start ls must 24 pos handed outer frames weight (some false) (seen.add 16) else
    if (text.getD pos 0 == 13) = true then mk code2 text lim start ls must 26 (pos + 1) handed outer frames weight none (seen.add 16) else mk code2 text lim start ls must 24 pos handed outer frames weight (some false) (seen.add 16) := by
  cases h : (text.getD pos 0 == 13) <;>
  · show (if pos ≥ lim then _ else match (Except.ok (text.getD pos 0 == 13, seen.add 16) : Except String (Bool × Seen)) with | .error why => _ | .ok (false, seen) => _ | .ok (true, seen) => _) = _
    rw [h]
    rfl
theorem c2_lit29 : Sre.M.step (mk code2 text lim start ls must 29 pos handed outer frames weight none seen) =
    if pos ≥ lim then mk code2 text lim start ls must 29 pos handed outer frames weight (some false) (seen.add 16) else
    if (text.getD pos 0 == 10) = true then mk code2 text lim start ls must 31 (pos + 1) handed outer frames weight none (seen.add 16) else mk code2 text lim start ls must 29 pos handed outer frames weight (some false) (seen.add 16) := by
  cases h : (text.getD pos 0 == 10) <;>
  · show (if pos ≥ lim then _ else match (Except.ok (text.getD pos 0 == 10, seen.add 16) : Except String (Bool × Seen)) with | .error why => _ | .ok (false, seen) => _ | .ok (true, seen) => _) = _
    rw [h]
    rfl
theorem c2_jump16 : Sre.M.step (mk code2 text lim start ls must 16 pos handed outer frames weight none seen) = mk code2 text lim start ls must 35 pos handed outer frames weight none (seen.add 15) := rfl
theorem c2_jump21 : Sre.M.step (mk code2 text lim start ls must 21 pos handed outer frames weight none seen) = mk code2 text lim start ls must 35 pos handed outer frames weight none (seen.add 15) := rfl
theorem c2_jump32 : Sre.M.step (mk code2 text lim start ls must 32 pos handed outer frames weight none seen) = mk code2 text lim start ls must 35 pos handed outer frames weight none (seen.add 15) := rfl
theorem c2_end : Sre.M.step (mk code2 text lim start ls false 35 pos handed outer frames weight none seen) = mk code2 text lim start ls false 35 pos pos outer frames weight (some true) (seen.add 1) := by
  cases outer <;> rfl
theorem c2_branch : Sre.M.step (A2 text lim s ls first seen) = mk code2 text lim s ls false 12 s s first [B2 11 s first, F2 s first] 2 none (seen.add 7) := rfl
theorem c2_alt2 : Sre.M.step (mk code2 text lim start ls false pc pos handed outer [B2 11 s first, F2 s first] 2 (some false) seen) = mk code2 text lim start ls false 19 s s first [B2 18 s first, F2 s first] 2 none seen := rfl
theorem c2_alt3 : Sre.M.step (mk code2 text lim start ls false pc pos handed outer [B2 18 s first, F2 s first] 2 (some false) seen) = mk code2 text lim start ls false 24 s s first [B2 23 s first, F2 s first] 2 none seen := rfl
theorem c2_not : Sre.M.step (mk code2 text lim start ls false 26 pos handed outer [B2 23 s first, F2 s first] 2 none seen) = mk code2 text lim start ls false 29 pos pos false [L2 pos outer, B2 23 s first, F2 s first] 3 none (seen.add 5) := rfl
theorem c2_notno : Sre.M.step (mk code2 text lim start ls false pc pos handed outer [L2 pos first, B2 23 s first, F2 s first] 3 (some false) seen) = mk code2 text lim start ls false 32 pos handed first [B2 23 s first, F2 s first] 2 none seen := rfl
theorem c2_yesB {alt : Nat} : Sre.M.step (mk code2 text lim start ls false pc pos handed outer [B2 alt s first, F2 s first] 2 (some true) seen) = mk code2 text lim start ls false alt s handed first [F2 s first] 1 (some true) seen := rfl
theorem c2_yesF : Sre.M.step (mk code2 text lim start ls false pc pos handed outer [F2 s first] 1 (some true) seen) = mk code2 text lim start ls false 10 s handed first [] 0 (some true) seen := rfl
end

def hit2 (text : Array Nat) (q : Nat) : Bool := text.getD q 0 == 10 || text.getD q 0 == 13
/-- how long the line's end at q is -/
def len2 (text : Array Nat) (lim q : Nat) : Nat := if (text.getD q 0 == 13 && (decide (q + 1 < lim) && text.getD (q + 1) 0 == 10)) = true then 2 else 1

theorem run2 {text : Array Nat} {lim s ls : Nat} (first : Bool) (seen : Seen) (hs : s < lim) (hh : hit2 text s = true) :
    ∃ m, Sre.M.runFor 16 (A2 text lim s ls first seen) = m ∧ m.outcome = some .matched ∧ m.start = s ∧ m.handed = s + len2 text lim s := by
  have n1 : ¬ s ≥ lim := by omega
  rw [runFor_step, c2_branch]
  cases h13 : (text.getD s 0 == 13)
  · -- a feed
    have h10 : (text.getD s 0 == 10) = true := by
      unfold hit2 at hh
      rw [h13, Bool.or_false] at hh
      exact hh
    have hl : len2 text lim s = 1 := by unfold len2; rw [h13]; rfl
    rw [runFor_step, c2_lit12, if_neg n1, h13, if_neg Bool.false_ne_true, runFor_step, c2_alt2, runFor_step, c2_lit19, if_neg n1, h10, if_pos rfl, runFor_step, c2_jump21, runFor_step, c2_end,
      runFor_step, c2_yesB, runFor_step, c2_yesF, runFor_step, m_yes, runFor_done _ rfl]
    exact ⟨_, rfl, rfl, rfl, by rw [hl]; rfl⟩
  · rw [runFor_step, c2_lit12, if_neg n1, h13, if_pos rfl]
    cases hn : (decide (s + 1 < lim) && text.getD (s + 1) 0 == 10)
    · -- a return alone
      have hl : len2 text lim s = 1 := by unfold len2; rw [h13, hn]; rfl
      have h10 : (text.getD s 0 == 10) = false := by
        have : text.getD s 0 = 13 := by simpa using h13
        rw [this]; rfl
      have f14 : ∀ {handed w outer frames weight sn}, Sre.M.step (mk code2 text lim w ls false 14 (s + 1) handed outer frames weight none sn) = mk code2 text lim w ls false 14 (s + 1) handed outer frames weight (some false) (sn.add 16) := by
        intro handed w outer frames weight sn
        rw [c2_lit14]
        by_cases hlim : s + 1 ≥ lim
        · rw [if_pos hlim]
        · have hd : decide (s + 1 < lim) = true := decide_eq_true (by omega)
          rw [hd, Bool.true_and] at hn
          rw [if_neg hlim, hn, if_neg Bool.false_ne_true]
      have f29 : ∀ {handed w outer frames weight sn}, Sre.M.step (mk code2 text lim w ls false 29 (s + 1) handed outer frames weight none sn) = mk code2 text lim w ls false 29 (s + 1) handed outer frames weight (some false) (sn.add 16) := by
        intro handed w outer frames weight sn
        rw [c2_lit29]
        by_cases hlim : s + 1 ≥ lim
        · rw [if_pos hlim]
        · have hd : decide (s + 1 < lim) = true := decide_eq_true (by omega)
          rw [hd, Bool.true_and] at hn
          rw [if_neg hlim, hn, if_neg Bool.false_ne_true]
      rw [runFor_step, f14, runFor_step, c2_alt2, runFor_step, c2_lit19, if_neg n1, h10, if_neg Bool.false_ne_true, runFor_step, c2_alt3, runFor_step, c2_lit24, if_neg n1, h13, if_pos rfl,
        runFor_step, c2_not, runFor_step, f29, runFor_step, c2_notno, runFor_step, c2_jump32, runFor_step, c2_end, runFor_step, c2_yesB, runFor_step, c2_yesF, runFor_step, m_yes]
      exact ⟨_, rfl, rfl, rfl, by rw [hl]; rfl⟩
    · -- both
      have hl : len2 text lim s = 2 := by unfold len2; rw [h13, hn]; rfl
      obtain ⟨hd, hc⟩ := Bool.and_eq_true_iff.mp hn
      have n2 : ¬ s + 1 ≥ lim := by have := of_decide_eq_true hd; omega
      rw [runFor_step, c2_lit14, if_neg n2, hc, if_pos rfl, runFor_step, c2_jump16, runFor_step, c2_end, runFor_step, c2_yesB, runFor_step, c2_yesF, runFor_step, m_yes, runFor_done _ rfl]
      exact ⟨_, rfl, rfl, rfl, by rw [hl]; rfl⟩

theorem inSet2 {c : Nat} {seen : Seen} : ∃ sn, Sre.inSet code2 c code2.size 5 true seen = .ok (c == 10 || c == 13, sn) := by
  cases h10 : (c == 10)
  · cases h13 : (c == 13)
    · refine ⟨((seen.add 16).add 16).add 0, ?_⟩
      show (if (c == 10) = true then _ else if (c == 13) = true then _ else _) = _
      rw [h10, h13]
      rfl
    · refine ⟨(seen.add 16).add 16, ?_⟩
      show (if (c == 10) = true then _ else if (c == 13) = true then _ else _) = _
      rw [h10, h13]
      rfl
  · refine ⟨seen.add 16, ?_⟩
    show (if (c == 10) = true then _ else _) = _
    rw [h10]
    rfl

theorem adm2 {text : Array Nat} {lim : Nat} (m : M) (hc : m.code = code2) (ht : m.text = text) (hl : m.lim = lim) : ∀ (fuel s : Nat) (seen : Seen), lim + 1 - s ≤ fuel → s ≤ lim →
    ∃ r sn, Sre.M.admitted m fuel s seen = .ok (r, sn) ∧ ((r = none ∧ ∀ q, s ≤ q → q < lim → hit2 text q = false) ∨ (∃ q, r = some q ∧ s ≤ q ∧ q < lim ∧ hit2 text q = true ∧ ∀ r, s ≤ r → r < q → hit2 text r = false)) := by
  intro fuel
  induction fuel with
  | zero => intro s seen h1 h2; omega
  | succ fuel ih =>
    intro s seen h1 h2
    unfold Sre.M.admitted
    rw [hl, hc, ht]
    by_cases hs : s ≥ lim
    · rw [if_pos hs]
      exact ⟨_, _, rfl, .inl ⟨rfl, fun q h3 h4 => by omega⟩⟩
    · rw [if_neg hs]
      obtain ⟨sn, e⟩ := inSet2 (c := text.getD s 0) (seen := seen)
      rw [e]
      cases hh : (text.getD s 0 == 10 || text.getD s 0 == 13)
      · obtain ⟨r, sn', e', hr⟩ := ih (s + 1) sn (by omega) (by omega)
        refine ⟨r, sn', e', ?_⟩
        rcases hr with ⟨h3, h4⟩ | ⟨q, h3, h4, h5, h6, h7⟩
        · refine .inl ⟨h3, fun q hq1 hq2 => ?_⟩
          by_cases hq : q = s
          · rw [hq]; exact hh
          · exact h4 q (by omega) hq2
        · refine .inr ⟨q, h3, by omega, h5, h6, fun r hr1 hr2 => ?_⟩
          by_cases hq : r = s
          · rw [hq]; exact hh
          · exact h7 r (by omega) hr2
      · exact ⟨_, _, rfl, .inr ⟨s, rfl, Nat.le_refl _, by omega, hh, fun r h3 h4 => by omega⟩⟩

theorem search2 {text : Array Nat} {lim s : Nat} (hs : s ≤ lim) : ∃ N, N ≤ 16 ∧ Ends (hit2 text) (len2 text lim) lim s (Sre.M.runFor N (Sre.forSearch code2 text 0 s lim false)) := by
  by_cases hl : lim - s < 1
  · refine ⟨1, by omega, .inl ⟨?_, fun q h1 h2 => by omega⟩⟩
    have e : Sre.forSearch code2 text 0 s lim false = mk code2 text lim s 0 false 10 s s true [] 0 (some false) (({} : Seen).add 14) := by
      show (if (decide (s > lim) || decide (lim - s < 1)) = true then mk code2 text lim s 0 false 10 s s true [] 0 (some false) (({} : Seen).add 14) else _) = _
      rw [if_pos (by simp only [Bool.or_eq_true, decide_eq_true_eq]; exact .inr hl)]
    rw [e, runFor_step, m_no]
    rfl
  · have e : Sre.forSearch code2 text 0 s lim false = Sre.M.attemptFrom (mk code2 text lim s lim false 10 s s true [] 0 none (({} : Seen).add 14)) s true := by
      show (if (decide (s > lim) || decide (lim - s < 1)) = true then _ else Sre.M.attemptFrom (mk code2 text lim s lim false 10 s s true [] 0 none (({} : Seen).add 14)) s true) = _
      rw [if_neg (by simp only [Bool.or_eq_true, decide_eq_true_eq]; omega)]
    rw [e]
    obtain ⟨r, sn, e2, hr⟩ := adm2 (mk code2 text lim s lim false 10 s s true [] 0 none (({} : Seen).add 14)) rfl rfl rfl (lim + 1 - s) s (({} : Seen).add 14) (Nat.le_refl _) hs
    have e3 : Sre.M.attemptFrom (mk code2 text lim s lim false 10 s s true [] 0 none (({} : Seen).add 14)) s true =
        match (Except.ok (r, sn) : Except String (Option Nat × Seen)) with
        | .ok (some q, seen) => A2 text lim q lim true seen
        | .ok (none, seen) => mk code2 text lim s lim false 10 s s true [] 0 (some false) seen
        | .error why => Sre.M.stick (mk code2 text lim s lim false 10 s s true [] 0 none (({} : Seen).add 14)) why := by
      rw [← e2]
      rfl
    rw [e3]
    rcases hr with ⟨rfl, h2⟩ | ⟨q, rfl, h2, h3, h4, h5⟩
    · refine ⟨1, by omega, .inl ⟨?_, h2⟩⟩
      show (Sre.M.runFor 1 (mk code2 text lim s lim false 10 s s true [] 0 (some false) sn)).outcome = _
      rw [runFor_step, m_no]
      rfl
    · have h3' : q < lim := h3
      have h4' : hit2 text q = true := h4
      obtain ⟨m, hm, h6, h7, h8⟩ := run2 (text := text) (lim := lim) (ls := lim) true sn h3' h4'
      refine ⟨16, by omega, ?_⟩
      show Ends (hit2 text) (len2 text lim) lim s (Sre.M.runFor 16 (A2 text lim q lim true sn))
      rw [hm]
      exact .inr ⟨q, h6, h2, h3', h4', h5, h7, h8⟩
end Mine
end

/-! ## Re2 -/
section
open PySem PySem.W PyProof.Rows
open PySem.Calls PySem.Builtin.Re
namespace Mine
open PySem.Sre (Seen M)

section
variable {Mo : Model} {A : Around} {E : Value → Shared → Prop} {s : Shared}

theorem wp_reDrive {Q : M → Shared → Prop} : ∀ (turns N : Nat) (m : M), (Sre.M.runFor N m).outcome.isSome = true → N ≤ 4 * turns → 0 < turns → Q (Sre.M.runFor N m) s → wpAny Mo A (reDrive turns m) Q E s := by
  intro turns
  induction turns with
  | zero => intro N m h1 h2 h3 h4; omega
  | succ turns ih =>
    intro N m h1 h2 h3 h4
    show wpAny Mo A (if (Sre.M.runFor 4 m).outcome.isSome = true then pure (Sre.M.runFor 4 m) else do rule "sre.turn"; reDrive turns (Sre.M.runFor 4 m)) Q E s
    cases h : (Sre.M.runFor 4 m).outcome.isSome
    · rw [if_neg Bool.false_ne_true]
      have hN : 4 < N := by
        rcases Nat.lt_or_ge 4 N with h5 | h5
        · exact h5
        · exfalso
          have e : Sre.M.runFor 4 m = Sre.M.runFor N m := by
            have : 4 = N + (4 - N) := by omega
            rw [this, runFor_add]
            exact runFor_done _ h1 _
          rw [e, h1] at h
          cases h
      have e : Sre.M.runFor N m = Sre.M.runFor (N - 4) (Sre.M.runFor 4 m) := by
        have : N = 4 + (N - 4) := by omega
        conv => lhs; rw [this, runFor_add]
      rw [e] at h1 h4
      exact wpAny_bind (wpAny_rule (ih (N - 4) _ h1 (by omega) (by omega) h4))
    · rw [if_pos rfl]
      have e : Sre.M.runFor N m = Sre.M.runFor 4 m := by
        rcases Nat.lt_or_ge 4 N with h5 | h5
        · have : N = 4 + (N - 4) := by omega
          rw [this, runFor_add]
          exact runFor_done _ h _
        · have : 4 = N + (4 - N) := by omega
          rw [this, runFor_add]
          exact (runFor_done _ h1 _).symm
      rw [e] at h4
      exact wpAny_pure h4

theorem wp_forIn_skip {α : Type} {f : α → PUnit → Sem (ForInStep PUnit)} {Q : PUnit → Shared → Prop} : ∀ (l : List α), (∀ x, ∀ (Q : ForInStep PUnit → Shared → Prop), Q (.yield ⟨⟩) s → wpAny Mo A (f x ⟨⟩) Q E s) → Q ⟨⟩ s → wpAny Mo A (forIn l ⟨⟩ f) Q E s
  | [], _, h => by rw [List.forIn_nil]; exact wpAny_pure h
  | x :: l, hf, h => by
    rw [List.forIn_cons]
    exact wpAny_bind (hf x _ (wp_forIn_skip l hf h))

theorem wp_runToEnd {Q : Option M → Shared → Prop} {m : M} {N : Nat} {hit : Nat → Bool} {len : Nat → Nat} {lim k : Nat} (hE : Ends hit len lim k (Sre.M.runFor N m)) (hN : N ≤ 2 ^ 40)
    (h0 : (∀ q, k ≤ q → q < lim → hit q = false) → Q none s)
    (h1 : ∀ q m', k ≤ q → q < lim → hit q = true → (∀ r, k ≤ r → r < q → hit r = false) → m'.start = q → m'.handed = q + len q → Q (some m') s) : wpAny Mo A (reRunToEnd m) Q E s := by
  unfold reRunToEnd
  refine wpAny_bind (wp_reDrive (2 ^ 64) N m hE.some (Nat.le_trans hN (by decide)) (by decide) ?_)
  refine wpAny_bind (wp_forIn_skip _ (fun i Q hQ => ?_) ?_)
  · cases h : (Sre.M.runFor N m).seen.has i
    · exact wpAny_pure hQ
    · exact wpAny_bind (wpAny_rule (wpAny_pure hQ))
  · rcases hE with ⟨h, hn⟩ | ⟨q, h, a1, a2, a3, a4, a5, a6⟩
    · rw [h]
      exact wpAny_pure (h0 hn)
    · rw [h]
      exact wpAny_pure (h1 q _ a1 a2 a3 a4 a5 a6)
end

/-- a pattern of the text's, as its run leaves it -/
structure PatAt (h : Heap) (pat : Addr) (code : Array Nat) : Prop where
  obj : ∃ p0 p1 ct vs n, h.get? pat = some { cls := .type "re.Pattern", data := .fields #[p0, p1, .int 0 0, .none, .none, .ref ct, .int 0 0] } ∧ h.get? ct = some { cls := .type "tuple", data := .seq vs n } ∧ (vs.map reRawOf).map (·.toNat) = code
theorem PatAt.keeps {h h' : Heap} {pat : Addr} {code : Array Nat} (P : PatAt h pat code) (k : ∀ b o, h.get? b = some o → h'.get? b = some o) : PatAt h' pat code := by
  obtain ⟨p0, p1, ct, vs, n, h1, h2, h3⟩ := P.obj
  exact ⟨p0, p1, ct, vs, n, k _ _ h1, k _ _ h2, h3⟩
theorem PatAt.typeIs {s : Shared} {pat : Addr} {code : Array Nat} (P : PatAt s.heap pat code) : s.TypeIs (.ref pat) "re.Pattern" := by
  obtain ⟨p0, p1, ct, vs, n, h1, h2, h3⟩ := P.obj
  exact ⟨_, h1, rfl⟩

section
variable {Mo : Model} {A : Around} {E : Value → Shared → Prop} {s : Shared} {pat : Addr} {code : Array Nat} {x : Str} {t : Tok}

theorem wp_whole {Q : ReTarget → Shared → Prop} (P : PatAt s.heap pat code) (h : Q { pattern := .ref pat, string := .str x t, code := code, text := x.cps, kind := 0, groups := 0, pos := 0, lim := x.cps.size } s) :
    wpAny Mo A (reWholeTarget (.ref pat) (.str x t)) Q E s := by
  obtain ⟨p0, p1, ct, vs, n, h1, h2, h3⟩ := P.obj
  unfold reWholeTarget
  refine wpAny_bind (wpAny_fieldsOf h1 rfl ?_)
  refine wpAny_bind (m := reTextOf (.str x t)) (wpAny_pure ?_)
  refine wpAny_bind (m := pure PUnit.unit) (wpAny_pure ?_)
  show wpAny Mo A (reRawItems (.ref ct) >>= fun c => pure _) Q E s
  unfold reRawItems
  refine wpAny_bind (wpAny_bind (wpAny_seqItems h2 rfl (wpAny_pure (wpAny_pure ?_))))
  show Q { pattern := .ref pat, string := .str x t, code := (vs.map reRawOf).map (·.toNat), text := x.cps, kind := 0, groups := 0, pos := 0, lim := x.cps.size } s
  rw [h3]
  exact h

inductive Subs (hit : Nat → Bool) (len : Nat → Nat) (text : List Nat) (repl : List Nat) : Nat → List Nat → Prop
  | stop {k : Nat} : (∀ q, k ≤ q → q < text.length → hit q = false) → Subs hit len text repl k (text.drop k)
  | hit {k q : Nat} {rest : List Nat} : k ≤ q → q < text.length → hit q = true → (∀ r, k ≤ r → r < q → hit r = false) → Subs hit len text repl (q + len q) rest → Subs hit len text repl k ((text.drop k).take (q - k) ++ repl ++ rest)
end

section
variable {prog : Program} {w : World} {A : Around} {E : Value → Shared → Prop} {L D pat : Addr} {h₀ : Heap} {m : Str → Option Value} {news : List (Addr × Obj)} {code : Array Nat} {x repl : Str} {t u : Tok}

abbrev loopArgs (pat : Addr) (x : Str) (t : Tok) (repl : Str) (u : Tok) (n k : Nat) (D : Addr) : Args :=
  ⟨[.ref pat, .str x t, .str repl u, rawInt 0, rawInt 0, rawInt n, rawInt k, rawInt k, .bool false, .ref D, .bool false], []⟩

theorem wp_push {its : Array Value} {n : Nat} {v : Value} {s : Shared} {M : Model} {Q : Unit → Shared → Prop} (F : Fr h₀ L s.heap m) (N : News h₀ L s.heap ((D, listOf its n) :: news)) (hD : ∀ p ∈ news, p.1 ≠ D) (hz : its.size ≤ 1000)
    (h : ∀ h', Fr h₀ L h' m → News h₀ L h' ((D, listOf (its.push v) (n + 1)) :: news) → Q () { s with heap := h' }) : wpAny M A (updateSeq D (·.push v)) Q E s := by
  have z := N (D, listOf its n) (.head _)
  have hz' : its.size ≤ sizeLine := by rw [sizeLine_eq]; omega
  refine wpAny_updateSeq z.1 rfl (hz := hz') (_hz' := by rw [Array.size_push]; omega) ?_
  have hs : Heap.SameBut D s.heap (s.heap.update D (Obj.mapSeq (·.push v))) := Heap.SameBut.update ..
  have ho : (s.heap.update D (Obj.mapSeq (·.push v))).get? D = some (listOf (its.push v) (n + 1)) := by
    rw [Heap.get?_update_self _ z.1 (by rw [mapSeq_push]; rfl), mapSeq_push]
  exact h _ (F.change hs z.2.1 z.2.2) (news_set (pre := []) N (fun _ h => nomatch h) hD hs ho)

end
end Mine
end

/-! ## Re3 -/
section
open PySem PySem.W PyProof.Rows
open PySem.Calls PySem.Builtin.Re
namespace Mine
open PySem.Sre (Seen M)

theorem join_empty : ∀ ys : List Str, Txt.join ⟨#[]⟩ ys = ⟨(ys.flatMap (·.cps.toList)).toArray⟩ := by
  have h : ∀ ys : List Str, Str.join ⟨#[]⟩ ys = ⟨(ys.flatMap (·.cps.toList)).toArray⟩ := by
    intro ys
    induction ys with
    | nil => rfl
    | cons y r ih =>
      cases r with
      | nil => show y = _; simp
      | cons z r =>
        show y ++ ⟨#[]⟩ ++ Str.join ⟨#[]⟩ (z :: r) = _
        rw [ih]
        show Str.mk (y.cps ++ #[] ++ _) = _
        simp
  intro ys
  show Builtin.Str.glued _ _ = _
  rw [StrLaws.glued_eq_join, h]

section
variable {prog : Program} {w : World} {A : Around} {E : Value → Shared → Prop} {Q : Value → Shared → Prop} {L D pat : Addr} {h₀ : Heap} {m : Str → Option Value} {news : List (Addr × Obj)} {code : Array Nat} {x repl : Str} {t u : Tok} {hit : Nat → Bool} {len : Nat → Nat} {s : Shared}

theorem wp_slice {Mo : Model} {Q : Value → Shared → Prop} {text : Array Nat} {b e : Nat} (hz : text.size ≤ 300) (h : Q (.str ⟨text.extract b e⟩ s.toks) { s with toks := s.toks + 1 }) : wpAny Mo A (reSlice text 0 b e) Q E s := by
  have hl : ¬ (⟨text.extract b e⟩ : Str).length > sizeLine := by
    have : (⟨text.extract b e⟩ : Str).length = min e text.size - b := by simp [Str.length]
    rw [this, sizeLine_eq]
    omega
  show wpAny Mo A (if (⟨text.extract b e⟩ : Str).length > sizeLine then _ else _) Q E s
  rw [if_neg hl]
  exact fun _ _ _ => h

theorem finish_c {A' : Around} {n : Int} (hx : x.cps.size ≤ 300) {cnt : Nat} {l : List (Str × Tok)} {h : Heap} {tk : Nat} (hl : l.length ≤ 1000) (hw : (l.map (·.1.length)).sum ≤ 1000) (F : Fr h₀ L h m) (N : News h₀ L h ((D, listOf (strValues l).toArray cnt) :: news))
    (hQ : ∀ t' h' tk', Fr h₀ L h' m → News h₀ L h' news → Q (.str ⟨(l.flatMap (·.1.cps.toList)).toArray⟩ t') { s with heap := h', toks := tk' }) :
    wpAny (model prog w) A' (do
      let joiner ← reSlice x.cps 0 0 0
      let text ← if ((← seqItems? (.ref D)).getD #[]).isEmpty then pure joiner
        else call (.builtin (if (0 : Nat) == 0 then "str.join" else "bytes.join")) [joiner, .ref D]
      if false = true then ret (← holding [text] do newTuple [text, ← mkInt n]) else ret text)
      (fun fin s' => match fin with | .done f => (match (Except.ok f : Result) with | .ok (.ret v) => Q v s' | .ok _ => False | .error e => E e s') | .again c' => c'.quiet = true ∧ codeAny (model prog w) A c' (fun r s' => match r with | .ok (.ret v) => Q v s' | .ok _ => False | .error e => E e s') s')
      E { s with heap := h, toks := tk } := by
  have z := N (D, listOf (strValues l).toArray cnt) (.head _)
  have hN : ∀ h', (∀ p ∈ ((D, listOf (strValues l).toArray cnt) :: news), h'.get? p.1 = some p.2 ∧ p.1 ≠ L ∧ h₀.get? p.1 = none) → News h₀ L h' news := fun h' k p hp => k p (.tail _ hp)
  refine wpAny_bind (wp_slice hx ?_)
  dsimp only
  refine wpAny_bind (wpAny_seqItems z.1 rfl ?_)
  dsimp only [Option.getD]
  have e0 : (⟨x.cps.extract 0 0⟩ : Str) = ⟨#[]⟩ := by simp
  rw [e0]
  cases l with
  | nil =>
    exact wpAny_pure (hQ _ _ _ F (hN _ N))
  | cons p r =>
    have hs : ((p :: r : List (Str × Tok))).map (·.1) = ((p :: r).map (·.1)) := rfl
    refine wpAny_bind (m := call (.builtin "str.join") [.str ⟨#[]⟩ tk, .ref D]) (SC.join (l := p :: r) (texts := (p :: r).map (·.1)) ⟨_, z.1, rfl, cnt, rfl⟩ rfl (joinOk_of ?_) (fun t' k => ?_))
    · have e1 : (((p :: r).map (·.1)).map (·.length)) = (p :: r).map (·.1.length) := by rw [List.map_map]; rfl
      rw [e1]
      show _ + _ * 0 ≤ _
      omega
    · rw [join_empty]
      have e2 : ((p :: r).map (·.1)).flatMap (·.cps.toList) = (p :: r).flatMap (·.1.cps.toList) := by rw [List.flatMap_map]
      rw [e2]
      exact wpAny_pure (hQ _ _ _ F (hN _ N))

theorem vals_snoc (l : List (Str × Tok)) (y : Str) (t : Tok) : (strValues l).toArray.push (.str y t) = (strValues (l ++ [(y, t)])).toArray := by simp [strValues]
theorem vals_size (l : List (Str × Tok)) : (strValues l).toArray.size = l.length := by simp [strValues]

theorem loop_c (P : PatAt h₀ pat code) (hs : ∀ k, k ≤ x.cps.size → ∃ N, N ≤ 2 ^ 40 ∧ Ends hit len x.cps.size k (Sre.M.runFor N (Sre.forSearch code x.cps 0 k x.cps.size false)))
    (hlen : ∀ q, q < x.cps.size → hit q = true → 1 ≤ len q ∧ q + len q ≤ x.cps.size) (hx : x.cps.size ≤ 300) (hr : repl.cps.size = 2) (hD : ∀ p ∈ news, p.1 ≠ D) :
    ∀ (d k n cnt : Nat) (l : List (Str × Tok)) (h : Heap) (tk : Nat), x.cps.size - k < d → k ≤ x.cps.size → l.length ≤ 2 * k → (l.map (·.1.length)).sum ≤ 3 * k →
      Fr h₀ L h m → News h₀ L h ((D, listOf (strValues l).toArray cnt) :: news) →
      (∀ out, Subs hit len x.cps.toList repl.cps.toList k out → ∀ t' h' tk', Fr h₀ L h' m → News h₀ L h' news → Q (.str ⟨(l.flatMap (·.1.cps.toList) ++ out).toArray⟩ t') { s with heap := h', toks := tk' }) →
      codeAny (model prog w) A (.builtin "re.Pattern.sub.loop" (loopArgs pat x t repl u n k D)) (fun r s' => match r with | .ok (.ret v) => Q v s' | .ok _ => False | .error e => E e s') { s with heap := h, toks := tk } := by
  intro d
  induction d with
  | zero => intro k n cnt l h tk hd; omega
  | succ d ih =>
    intro k n cnt l h tk hd hk hl hw F N hQ
    refine codeAny_builtin entry_loop ?_
    rw [Around.under_plainId plain_loop]
    unfold Builtin.«re.Pattern.sub.loop»
    dsimp only [loopArgs, rawInt]
    refine wpAny_bind (wp_whole (P.keeps F.keep) ?_)
    rw [if_pos (by rfl)]
    refine wpAny_bind (m := reLiteralCannotBeTurned (.str repl u)) (wpAny_pure ?_)
    obtain ⟨N', hN', hE⟩ := hs k hk
    refine wpAny_bind (m := reNextFound { pattern := Value.ref pat, string := Value.str x t, code := code, text := x.cps, kind := 0, groups := 0, pos := 0, lim := x.cps.size } k false) (wp_runToEnd hE hN' ?none ?some)
    case none =>
      intro hn
      dsimp only
      have hsub : Subs hit len x.cps.toList repl.cps.toList k (x.cps.toList.drop k) := .stop fun q h1 h2 => hn q h1 (by simpa using h2)
      by_cases hlt : k < x.cps.size
      · have hlt' : (k : Int).toNat < x.cps.size := hlt
        rw [if_pos hlt']
        refine wpAny_bind (wp_slice hx ?_)
        dsimp only
        refine wpAny_bind (wp_push F N hD (by rw [vals_size]; omega) fun h' F' N' => ?_)
        rw [vals_snoc] at N'
        have e1 : (⟨x.cps.extract k x.cps.size⟩ : Str).length = x.cps.size - k := by simp [Str.length]
        refine finish_c (s := s) hx (by rw [List.length_append]; show l.length + 1 ≤ 1000; omega) (by rw [List.map_append, List.sum_append]; show _ + ((⟨x.cps.extract k x.cps.size⟩ : Str).length + 0) ≤ 1000; rw [e1]; omega) F' N' fun t' h'' tk' F'' N'' => ?_
        have e2 : (l ++ [((⟨x.cps.extract (k : Int).toNat x.cps.size⟩ : Str), tk)]).flatMap (·.1.cps.toList) = l.flatMap (·.1.cps.toList) ++ x.cps.toList.drop k := by
          rw [List.flatMap_append]
          congr 1
          simp
          exact List.take_of_length_le (by simp)
        rw [e2]
        exact hQ _ hsub _ _ _ F'' N''
      · have hlt' : ¬ (k : Int).toNat < x.cps.size := hlt
        rw [if_neg hlt']
        refine finish_c (s := s) hx (by omega) (by omega) F N fun t' h'' tk' F'' N'' => ?_
        have e2 : x.cps.toList.drop k = [] := List.drop_of_length_le (by simp; omega)
        rw [e2] at hsub
        have := hQ _ hsub t' h'' tk' F'' N''
        rw [List.append_nil] at this
        exact this
    case some =>
      intro q m' h1 h2 h3 h4 h5 h6
      dsimp only
      obtain ⟨hl1, hl2⟩ := hlen q h2 h3
      have tail : ∀ (l' : List (Str × Tok)) (h : Heap) (cnt tk : Nat), l'.length ≤ 2 * k + 1 → (l'.map (·.1.length)).sum ≤ 3 * k + (q - k) → Fr h₀ L h m → News h₀ L h ((D, listOf (strValues l').toArray cnt) :: news) →
          (∀ out, Subs hit len x.cps.toList repl.cps.toList (q + len q) out → ∀ t' h' tk', Fr h₀ L h' m → News h₀ L h' news → Q (.str ⟨(l'.flatMap (·.1.cps.toList) ++ (repl.cps.toList ++ out)).toArray⟩ t') { s with heap := h', toks := tk' }) →
          wpAny (model prog w) A.in1 (do
            let item ← pure (Value.str repl u)
            if (item != Value.none) = true then do
              updateSeq D fun x => x.push item
              again (Code.builtin "re.Pattern.sub.loop" { pos := [Value.ref pat, Value.str x t, Value.str repl u, Value.int 0 0, Value.int 0 0, Value.int (↑n + 1) 0, Value.int (↑m'.handed) 0, Value.int (↑m'.handed) 0, Value.bool (m'.handed == m'.start), Value.ref D, Value.bool false] })
            else again (Code.builtin "re.Pattern.sub.loop" { pos := [Value.ref pat, Value.str x t, Value.str repl u, Value.int 0 0, Value.int 0 0, Value.int (↑n + 1) 0, Value.int (↑m'.handed) 0, Value.int (↑m'.handed) 0, Value.bool (m'.handed == m'.start), Value.ref D, Value.bool false] }))
          (fun fin s' => match fin with | .done f => (match (Except.ok f : Result) with | .ok (.ret v) => Q v s' | .ok _ => False | .error e => E e s') | .again c' => c'.quiet = true ∧ codeAny (model prog w) A c' (fun r s' => match r with | .ok (.ret v) => Q v s' | .ok _ => False | .error e => E e s') s')
          (fun e s' => E e s') { s with heap := h, toks := tk } := by
        intro l' h cnt tk hl' hw' F N hQ'
        refine wpAny_bind (wpAny_pure ?_)
        rw [if_pos (by rfl)]
        refine wpAny_bind (wp_push F N hD (by rw [vals_size]; omega) fun h' F' N' => ?_)
        rw [vals_snoc] at N'
        refine wpAny_pure ⟨plainId_quiet plain_loop _, ?_⟩
        have e1 : (m'.handed == m'.start) = false := by rw [h5, h6]; exact beq_eq_false_iff_ne.mpr (by omega)
        have e2 : ((n : Int) + 1) = ((n + 1 : Nat) : Int) := by omega
        rw [e1, e2, h6]
        have er : repl.length = 2 := hr
        refine ih (q + len q) (n + 1) (cnt + 1) (l' ++ [(repl, u)]) h' tk (by omega) hl2 (by rw [List.length_append]; show l'.length + 1 ≤ _; omega) (by rw [List.map_append, List.sum_append]; show _ + (repl.length + 0) ≤ _; omega) F' N' fun out ho t' h'' tk' F'' N'' => ?_
        have e3 : (l' ++ [(repl, u)]).flatMap (·.1.cps.toList) ++ out = l'.flatMap (·.1.cps.toList) ++ (repl.cps.toList ++ out) := by
          rw [List.flatMap_append, List.append_assoc]
          congr 1
          simp
        rw [e3]
        exact hQ' out ho _ _ _ F'' N''
      have hsub : ∀ out, Subs hit len x.cps.toList repl.cps.toList (q + len q) out → Subs hit len x.cps.toList repl.cps.toList k ((x.cps.toList.drop k).take (q - k) ++ repl.cps.toList ++ out) :=
        fun out ho => .hit h1 (by simpa using h2) h3 h4 ho
      by_cases hlt : k < q
      · have hlt' : (k : Int).toNat < m'.start := by rw [h5]; exact hlt
        rw [if_pos hlt', h5]
        refine wpAny_bind (wp_slice hx ?_)
        dsimp only
        refine wpAny_bind (wp_push F N hD (by rw [vals_size]; omega) fun h' F' N' => ?_)
        rw [vals_snoc] at N'
        rw [if_pos (by rfl)]
        have e1 : (⟨x.cps.extract k q⟩ : Str).length = q - k := by simp [Str.length]; omega
        have h5' := h5
        rw [← h5]
        refine tail (l ++ [((⟨x.cps.extract (k : Int).toNat m'.start⟩ : Str), tk)]) h' (cnt + 1) (tk + 1) (by rw [List.length_append]; show l.length + 1 ≤ _; omega) (by rw [List.map_append, List.sum_append]; show _ + ((⟨x.cps.extract k m'.start⟩ : Str).length + 0) ≤ _; rw [h5', e1]; omega) F' (by rw [h5']; exact N') fun out ho t' h'' tk' F'' N'' => ?_
        have e2 : (l ++ [((⟨x.cps.extract (k : Int).toNat m'.start⟩ : Str), tk)]).flatMap (·.1.cps.toList) = l.flatMap (·.1.cps.toList) ++ (x.cps.toList.drop k).take (q - k) := by
          rw [List.flatMap_append, h5']
          congr 1
          simp
        rw [e2, List.append_assoc, ← List.append_assoc ((x.cps.toList.drop k).take (q - k))]
        exact hQ _ (hsub out ho) _ _ _ F'' N''
      · have hlt' : ¬ (k : Int).toNat < m'.start := by rw [h5]; exact hlt
        have e : q = k := by omega
        rw [if_neg hlt', if_pos (by rfl)]
        refine tail l h cnt tk (by omega) (by omega) F N fun out ho t' h'' tk' F'' N'' => ?_
        have := hQ _ (hsub out ho) t' h'' tk' F'' N''
        rw [e, Nat.sub_self, List.take_zero, List.nil_append] at this
        exact this
end
end Mine
end

/-! ## Re4 -/
section
open PySem PySem.W PyProof.Rows
open PySem.Calls PySem.Builtin.Re
namespace Mine
open PySem.Sre (Seen M)

theorem named_sub (r s : Value) : reNamed "re.Pattern.sub" "sub" ["repl", "string", "count"] 2 [r, s] [] = pure [some r, some s, none] := by
  rfl

section
variable {prog : Program} {w : World} {A : Around} {E : Value → Shared → Prop} {Q : Value → Shared → Prop} {L D pat : Addr} {h₀ : Heap} {m : Str → Option Value} {news : List (Addr × Obj)} {code : Array Nat} {x repl : Str} {t u : Tok} {hit : Nat → Bool} {len : Nat → Nat} {s : Shared}

theorem sub_c (P : PatAt h₀ pat code) (hs : ∀ k, k ≤ x.cps.size → ∃ N, N ≤ 2 ^ 40 ∧ Ends hit len x.cps.size k (Sre.M.runFor N (Sre.forSearch code x.cps 0 k x.cps.size false)))
    (hlen : ∀ q, q < x.cps.size → hit q = true → 1 ≤ len q ∧ q + len q ≤ x.cps.size) (hx : x.cps.size ≤ 300) (hr : repl.cps.size = 2) (hb : repl.cps.contains 92 = false)
    (F : Fr h₀ L s.heap m) (N : News h₀ L s.heap news)
    (hQ : ∀ out, Subs hit len x.cps.toList repl.cps.toList 0 out → ∀ t' h' tk', Fr h₀ L h' m → News h₀ L h' news → Q (.str ⟨out.toArray⟩ t') { s with heap := h', toks := tk' }) :
    wpAny (model prog w) A (call (.builtin "re.Pattern.sub") [.ref pat, .str repl u, .str x t]) Q E s := by
  have P' := P.keeps F.keep
  refine wpAny_call (codeAny_call_builtin slot_sub.plain entry_sub (slot_sub.check _ _ _ _ _ _ _ _ P'.typeIs (args_sub _ _ _) ?_))
  unfold Builtin.«re.Pattern.sub» reSubstitute
  dsimp only
  refine wpAny_bind (wpAny_of_eq (named_sub _ _) ?_)
  dsimp only
  refine wpAny_bind (wpAny_pure ?_)
  refine wpAny_bind (wpAny_specialOf (typeIs_str _ _ _) str_call_none ?_)
  rw [if_neg (by simp)]
  refine wpAny_bind (m := asStr? (.str repl u)) (wpAny_pure ?_)
  dsimp only
  refine wpAny_bind (wpAny_pure ?_)
  rw [if_neg (by simp), hb, if_pos (by rfl)]
  refine wpAny_bind (wpAny_pure ?_)
  dsimp only
  refine wpAny_bind (wpAny_holding (wp_whole P' ?_))
  rw [if_neg (by decide)]
  refine wpAny_bind (newList_K F N (fun D h' F' N' hD => wpAny_pure ⟨plainId_quiet plain_loop _, ?_⟩) (by rw [sizeLine_eq]; decide))
  exact loop_c (m := m) (D := D) P hs hlen hx hr (fun p hp => Nat.ne_of_lt (hD p hp)) (x.cps.size + 1) 0 0 0 [] h' s.toks (by omega) (by omega) (by simp) (by simp) F' N' (fun out ho t' h'' tk' F'' N'' => hQ out ho t' h'' tk' F'' N'')
end
end Mine
end

/-! ## Pure3 -/
section
open PySem PySem.W PyProof.Rows
namespace Mine

def crlfA : Bool → List Nat → List Nat
  | _, [] => []
  | p, c :: r => if c = 13 then 13 :: 10 :: crlfA true r else if c = 10 then (if p then crlfA false r else 13 :: 10 :: crlfA false r) else c :: crlfA false r
def ddA : Bool → List Nat → List Nat
  | _, [] => []
  | b, c :: r => if (b && c == 46) = true then 46 :: 46 :: ddA false r else c :: ddA (c == 10) r
def quoteL (l : List Nat) : List Nat := ddA true (crlfA false l)
def quoteS (x : Str) : Str := ⟨(quoteL x.cps.toList).toArray⟩

theorem getD_list (a : Array Nat) (q : Nat) : a.getD q 0 = (a.toList)[q]?.getD 0 := by simp [Array.getD_eq_getD_getElem?]

theorem crlf_plain : ∀ (l : List Nat) (r : List Nat), (∀ c ∈ l, c ≠ 10 ∧ c ≠ 13) → crlfA false (l ++ r) = l ++ crlfA false r
  | [], _, _ => rfl
  | c :: l, r, h => by
    have h1 := h c (.head _)
    show crlfA false (c :: (l ++ r)) = _
    rw [crlfA, if_neg h1.2, if_neg h1.1, crlf_plain l r fun d hd => h d (.tail _ hd)]
    rfl
theorem crlf_true {c : Nat} {r : List Nat} (h : c ≠ 10) : crlfA true (c :: r) = crlfA false (c :: r) := by
  simp [crlfA, h]

theorem mem_part {text : List Nat} {k q : Nat} {P : Nat → Prop} (hq : q ≤ text.length) (h : ∀ r, k ≤ r → r < q → P (text[r]?.getD 0)) : ∀ c ∈ (text.drop k).take (q - k), P c := by
  intro c hc
  obtain ⟨i, hi, rfl⟩ := List.mem_iff_getElem.mp hc
  simp at hi
  have := h (k + i) (by omega) (by omega)
  rw [List.getElem?_eq_getElem (by omega)] at this
  simpa using this
theorem split_at {text : List Nat} {k q : Nat} (h1 : k ≤ q) : text.drop k = (text.drop k).take (q - k) ++ text.drop q := by
  have h := (List.take_append_drop (q - k) (text.drop k)).symm
  rw [List.drop_drop] at h
  have e : k + (q - k) = q := by omega
  rw [e] at h
  exact h
theorem drop_at {text : List Nat} {q : Nat} (h : q < text.length) : text.drop q = text[q]?.getD 0 :: text.drop (q + 1) := by
  rw [List.drop_eq_getElem_cons h, List.getElem?_eq_getElem h]
  rfl

theorem subs2 {a : Array Nat} {k : Nat} {out : List Nat} (h : Subs (hit2 a) (len2 a a.size) a.toList [13, 10] k out) : k ≤ a.toList.length → out = crlfA false (a.toList.drop k) := by
  induction h with
  | @stop k hn =>
    intro hk
    have := crlf_plain (a.toList.drop k) [] (by
      have h2 := mem_part (text := a.toList) (k := k) (q := a.toList.length) (P := fun c => c ≠ 10 ∧ c ≠ 13) (Nat.le_refl _) (fun r h1 h2 => by
        have h3 := hn r h1 h2
        unfold hit2 at h3
        rw [getD_list, Bool.or_eq_false_iff] at h3
        exact ⟨by simpa using h3.1, by simpa using h3.2⟩)
      rwa [List.take_of_length_le (by simp)] at h2)
    simp only [List.append_nil, crlfA] at this
    exact this.symm
  | @hit k q rest h1 h2 h3 h4 h5 ih =>
    intro hk
    have e1 := split_at (text := a.toList) h1
    have hp := mem_part (text := a.toList) (k := k) (q := q) (P := fun c => c ≠ 10 ∧ c ≠ 13) (by omega) (fun r h6 h7 => by
      have h8 := h4 r h6 h7
      unfold hit2 at h8
      rw [getD_list, Bool.or_eq_false_iff] at h8
      exact ⟨by simpa using h8.1, by simpa using h8.2⟩)
    have e2 : crlfA false (a.toList.drop k) = (a.toList.drop k).take (q - k) ++ crlfA false (a.toList.drop q) := by
      conv => lhs; rw [e1]
      exact crlf_plain _ _ hp
    rw [e2, List.append_assoc]
    congr 1
    rw [drop_at h2]
    unfold hit2 at h3
    rw [getD_list] at h3
    unfold len2 at ih h5
    rw [getD_list, getD_list] at ih h5
    by_cases c13 : a.toList[q]?.getD 0 = 13
    · rw [c13] at ih ⊢
      by_cases hn : q + 1 < a.size ∧ a.toList[q + 1]?.getD 0 = 10
      · have hd : (13 == 13 && (decide (q + 1 < a.size) && a.toList[q + 1]?.getD 0 == 10)) = true := by rw [hn.2, decide_eq_true hn.1]; rfl
        rw [if_pos hd] at ih
        have hl : q + 1 < a.toList.length := by simpa using hn.1
        rw [ih (by omega), drop_at hl, hn.2]
        simp [crlfA]
      · have hd : ¬ (13 == 13 && (decide (q + 1 < a.size) && a.toList[q + 1]?.getD 0 == 10)) = true := by
          simp only [Bool.and_eq_true, decide_eq_true_eq, beq_iff_eq]
          intro h
          exact hn ⟨h.2.1, h.2.2⟩
        rw [if_neg hd] at ih
        rw [ih (by omega)]
        rw [crlfA, if_pos rfl]
        show 13 :: 10 :: crlfA false (a.toList.drop (q + 1)) = 13 :: 10 :: crlfA true (a.toList.drop (q + 1))
        congr 2
        by_cases hl : q + 1 < a.toList.length
        · rw [drop_at hl]
          refine (crlf_true ?_).symm
          intro h10
          exact hn ⟨by simpa using hl, h10⟩
        · rw [List.drop_of_length_le (by omega)]
          rfl
    · have c10 : a.toList[q]?.getD 0 = 10 := by
        rcases Bool.or_eq_true_iff.mp h3 with h | h
        · exact beq_iff_eq.mp h
        · exact absurd (beq_iff_eq.mp h) c13
      rw [c10] at ih ⊢
      rw [if_neg (by simp)] at ih
      rw [ih (by omega)]
      simp [crlfA]

def bol (l : List Nat) (k : Nat) : Bool := k == 0 || l[k - 1]?.getD 0 == 10
theorem dd_step {l : List Nat} {k : Nat} (hk : k < l.length) (h : (bol l k && l[k]?.getD 0 == 46) = false) : ddA (bol l k) (l.drop k) = l[k]?.getD 0 :: ddA (bol l (k + 1)) (l.drop (k + 1)) := by
  rw [drop_at hk, ddA, h, if_neg Bool.false_ne_true]
  rfl
theorem dd_part {l : List Nat} : ∀ (d k q : Nat), q - k = d → k ≤ q → q ≤ l.length → (∀ r, k ≤ r → r < q → (bol l r && l[r]?.getD 0 == 46) = false) → ddA (bol l k) (l.drop k) = (l.drop k).take (q - k) ++ ddA (bol l q) (l.drop q) := by
  intro d
  induction d with
  | zero =>
    intro k q hd h1 h2 h3
    have e : q = k := by omega
    subst e
    rw [Nat.sub_self]
    rfl
  | succ d ih =>
    intro k q hd h1 h2 h3
    have hk : k < l.length := by omega
    rw [dd_step hk (h3 k (Nat.le_refl _) (by omega)), ih (k + 1) q (by omega) (by omega) h2 fun r h4 h5 => h3 r (by omega) h5]
    have e : q - k = (q - (k + 1)) + 1 := by omega
    rw [e, drop_at hk, List.take_succ_cons]
    rfl
theorem subs1 {a : Array Nat} {k : Nat} {out : List Nat} (h : Subs (hit1 a) (fun _ => 1) a.toList [46, 46] k out) : k ≤ a.toList.length → out = ddA (bol a.toList k) (a.toList.drop k) := by
  have hb : ∀ r, hit1 a r = (bol a.toList r && a.toList[r]?.getD 0 == 46) := fun r => by unfold hit1 bol; rw [getD_list, getD_list]
  induction h with
  | @stop k hn =>
    intro hk
    have := dd_part (l := a.toList) _ k a.toList.length rfl hk (Nat.le_refl _) fun r h1 h2 => by rw [← hb]; exact hn r h1 h2
    rw [this, List.drop_of_length_le (Nat.le_refl _), List.take_of_length_le (by simp)]
    simp [ddA]
  | @hit k q rest h1 h2 h3 h4 h5 ih =>
    intro hk
    have := dd_part (l := a.toList) _ k q rfl h1 (by omega) fun r h6 h7 => by rw [← hb]; exact h4 r h6 h7
    rw [this, List.append_assoc]
    congr 1
    rw [hb] at h3
    have h46 : a.toList[q]?.getD 0 = 46 := by
      have := (Bool.and_eq_true_iff.mp h3).2
      exact beq_iff_eq.mp this
    have hq : bol a.toList q = true := (Bool.and_eq_true_iff.mp h3).1
    rw [drop_at h2, hq, h46, ddA, if_pos (by rfl), ih (by omega)]
    have e : bol a.toList (q + 1) = false := by
      unfold bol
      show (false || a.toList[q]?.getD 0 == 10) = false
      rw [h46]
      rfl
    rw [e]
    rfl
end Mine
end

section
open PySem PySem.W PyProof.Rows
theorem Mine.top_off_C3 : True := by
  w_top off
  trivial
end

/-! ## C3 -/
section
local macro_rules | `(tactic| walk_at "pad 1") => `(tactic| skip)
open PySem PySem.W PyProof.Rows
open PySem.Calls
set_option Elab.async false
set_option rowWalk.seconds 0
namespace Mine

theorem len2_ok {a : Array Nat} {q n : Nat} (hq : q < n) : 1 ≤ len2 a n q ∧ q + len2 a n q ≤ n := by
  unfold len2
  cases h : (a.getD q 0 == 13 && (decide (q + 1 < n) && a.getD (q + 1) 0 == 10))
  · rw [if_neg Bool.false_ne_true]
    exact ⟨Nat.le_refl _, hq⟩
  · rw [if_pos rfl]
    simp only [Bool.and_eq_true, decide_eq_true_eq] at h
    exact ⟨by decide, h.2.1⟩
theorem crlf_len : ∀ (b : Bool) (l : List Nat), (crlfA b l).length ≤ 2 * l.length
  | _, [] => Nat.le_refl _
  | b, c :: r => by
    have h1 := crlf_len true r
    have h2 := crlf_len false r
    rw [crlfA]
    simp only [List.length_cons]
    split
    · simp only [List.length_cons]; omega
    · split
      · split
        · omega
        · simp only [List.length_cons]; omega
      · simp only [List.length_cons]; omega
theorem dd_len : ∀ (b : Bool) (l : List Nat), (ddA b l).length ≤ 2 * l.length
  | _, [] => Nat.le_refl _
  | b, c :: r => by
    have h1 := dd_len (c == 10) r
    have h2 := dd_len false r
    rw [ddA]
    simp only [List.length_cons]
    split
    · simp only [List.length_cons]; omega
    · simp only [List.length_cons]; omega

theorem pat80 {w : World} {h : Heap} (X : (Mine.hd.heap_39 w.params).In h) : PatAt h 80 code2 := ⟨_, _, 79, _, _, X 80 _ (by with_unfolding_all rfl), X 79 _ (by with_unfolding_all rfl), by decide +kernel⟩
theorem pat75 {w : World} {h : Heap} (X : (Mine.hd.heap_39 w.params).In h) : PatAt h 75 code1 := ⟨_, _, 74, _, _, X 75 _ (by with_unfolding_all rfl), X 74 _ (by with_unfolding_all rfl), by decide +kernel⟩

section
variable {Mo : Model} {A : Around} {E : Value → Shared → Prop} {s : Shared}
theorem getMethod_pat {pat : Addr} {code : Array Nat} (P : PatAt s.heap pat code) {pl : Sem Bool} {Q : Value × List Value → Shared → Prop} (h : Q (.builtin "re.Pattern.sub", [.ref pat]) s) : wpAny Mo A (getMethod (.ref pat) "sub" pl) Q E s := by
  have hT := P.typeIs
  obtain ⟨p0, p1, ct, vs, n, h1, h2, h3⟩ := P.obj
  unfold getMethod
  refine wpAny_bind (wpAny_specialOf hT pat_ga ?_)
  show wpAny Mo A (if (Manifest.canonical "object.__getattribute__" != "object.__getattribute__") = true then _ else _) Q E s
  rw [canon_ga, if_neg Bool.false_ne_true]
  refine wpAny_bind (wpAny_specialOf hT pat_gn ?_)
  refine wpAny_bind (wpAny_specialOf hT slot_sub.lookup ?_)
  refine wpAny_bind (wpAny_of_eq type_sub ?_)
  refine wpAny_bind (wpAny_load h1 ?_)
  exact wpAny_bind (wpAny_rule (wpAny_pure h))
end

section
variable {prog : Program} {w : World} {A : Around} {E : Value → Shared → Prop} {Q : Value → Shared → Prop} {L : Addr} {h₀ : Heap} {m : Str → Option Value} {news : List (Addr × Obj)} {x : Str} {t u : Tok} {s : Shared}

theorem sub80_c (X : (Mine.hd.heap_39 w.params).In h₀) (F : Fr h₀ L s.heap m) (N : News h₀ L s.heap news) (hx : x.length ≤ 300)
    (hQ : ∀ t' h' tk', Fr h₀ L h' m → News h₀ L h' news → Q (.str ⟨(crlfA false x.cps.toList).toArray⟩ t') { s with heap := h', toks := tk' }) :
    wpAny (model prog w) A (call (.builtin "re.Pattern.sub") [.ref 80, .str (Str.ofString "\x0d\n") u, .str x t]) Q E s := by
  have e : Str.ofString "\x0d\n" = ⟨#[13, 10]⟩ := by decide
  rw [e]
  refine sub_c (pat80 X) (fun k hk => ?_) (fun q hq hh => ?_) hx (by rfl) (by decide +kernel) F N (fun out ho t' h' tk' F' N' => ?_) (hit := hit2 x.cps) (len := len2 x.cps x.cps.size)
  · obtain ⟨N, hN, hE⟩ := search2 (text := x.cps) hk
    exact ⟨N, Nat.le_trans hN (by decide), hE⟩
  · exact len2_ok hq
  · have := subs2 ho (Nat.zero_le _)
    rw [List.drop_zero] at this
    rw [this]
    exact hQ _ _ _ F' N'
theorem sub75_c (X : (Mine.hd.heap_39 w.params).In h₀) (F : Fr h₀ L s.heap m) (N : News h₀ L s.heap news) (hx : x.length ≤ 300)
    (hQ : ∀ t' h' tk', Fr h₀ L h' m → News h₀ L h' news → Q (.str ⟨(ddA true x.cps.toList).toArray⟩ t') { s with heap := h', toks := tk' }) :
    wpAny (model prog w) A (call (.builtin "re.Pattern.sub") [.ref 75, .str (Str.ofString "..") u, .str x t]) Q E s := by
  have e : Str.ofString ".." = ⟨#[46, 46]⟩ := by decide
  rw [e]
  refine sub_c (pat75 X) (fun k hk => ?_) (fun q hq hh => ?_) hx (by rfl) (by decide +kernel) F N (fun out ho t' h' tk' F' N' => ?_) (hit := hit1 x.cps) (len := fun _ => 1)
  · obtain ⟨N, hN, hE⟩ := search1 (text := x.cps) hk
    have hx' : x.cps.size ≤ 300 := hx
    exact ⟨N, Nat.le_trans hN (by omega), hE⟩
  · omega
  · have := subs1 ho (Nat.zero_le _)
    rw [List.drop_zero] at this
    rw [this]
    exact hQ _ _ _ F' N'
end

section
local macro_rules | `(tactic| walk_at "getMethod ref") => `(tactic| (k_here; first
  | (with_reducible (show wpAny _ _ (getMethod (Value.ref 80) _ _) _ _ _)); k_dflt (refine' getMethod_pat ((pat80 ?kx).keeps (Fr.keep ?kf)) ?_; (case kf => k_asm); (case kx => k_asm))
  | (with_reducible (show wpAny _ _ (getMethod (Value.ref 75) _ _) _ _ _)); k_dflt (refine' getMethod_pat ((pat75 ?kx).keeps (Fr.keep ?kf)) ?_; (case kf => k_asm); (case kx => k_asm))))
local macro_rules | `(tactic| walk_at "call builtin:re.Pattern.sub") => `(tactic| (k_here; first
  | (with_reducible (show wpAny _ _ (call _ [Value.ref 80, _, _]) _ _ _)); k_dflt (refine' sub80_c ?k1 ?k2 ?k3 ?_ ?_; (case k1 => k_asm); (case k2 => k_asm); (case k3 => k_asm)); rotate_left; intro t9 h9 tk9 F9 N9; (try dsimp only)
  | (with_reducible (show wpAny _ _ (call _ [Value.ref 75, _, _]) _ _ _)); k_dflt (refine' sub75_c ?k1 ?k2 ?k3 ?_ ?_; (case k1 => k_asm); (case k2 => k_asm); (case k3 => k_asm)); rotate_left; intro t9 h9 tk9 F9 N9; (try dsimp only)))

set_option maxRecDepth 100000 in
set_option maxHeartbeats 2000000 in
theorem quote_c0 {w : World} {p : Program} {loose : List Str} {mean : ExcName → Option Value} {mg mb : Str → Option Value} {news : List (Addr × Obj)}
   {dp un : Nat} {gd : Option (List Code)} {cn : Str} {cs : Scope} {a : Addr} {ccd : Value} {cl : List (Str × Addr)} {outer : List Env} {A₀ : Around} {base h₀ : Heap} {L : Addr} {m : Str → Option Value} {s : Shared} {Q E : Value → Shared → Prop}
   {x : Str} {t : Tok} (hx : x.length ≤ 150)
   (B : Below A₀ base outer h₀) (F₀ : Fr h₀ L s.heap m) (X : (Mine.hd.heap_39 w.params).In h₀) (N₀ : News h₀ L s.heap news) (T : Top p loose mean mg mb h₀) (hk : cs.kind = .function) (hdp : dp + 2 < recursionLimit) (hun : un + 12 < cLine)
   (hret : ∀ (t : Tok) (h' : Heap) (tk' : Nat), Fr h₀ L h' m → News h₀ L h' news → Q (.str (quoteS x) t) { s with heap := h', toks := tk' }) :
   wpAny (model PySem.Challenge.rw_sn0026_01.row.prog w) (ktrTop dp un gd cn cs L a ccd cl outer) (call (.ref 87) [.str x t]) Q E s := by
  revert X; k_fill; intro X
  refine wpAny_call ?_
  k_dflt cell_enter
  k_steps
  · exact hret _ _ _ (by assumption) (by assumption)
  · have h1 := crlf_len false x.cps.toList
    show (crlfA false x.cps.toList).toArray.size ≤ 300
    have h2 : x.cps.toList.length ≤ 150 := by simpa [Str.length] using hx
    rw [List.size_toArray]
    omega
end
theorem quote_c {w : World} {p : Program} {loose : List Str} {mean : ExcName → Option Value} {mg mb : Str → Option Value} {news : List (Addr × Obj)}
   {dp un : Nat} {gd : Option (List Code)} {cn : Str} {cs : Scope} {a : Addr} {ccd : Value} {cl : List (Str × Addr)} {outer : List Env} {A₀ : Around} {base h₀ : Heap} {L : Addr} {m : Str → Option Value} {s : Shared} {Q E : Value → Shared → Prop}
   {x : Str} {t : Tok} (hx : x.length ≤ 150)
   (B : Below A₀ base outer h₀) (F₀ : Fr h₀ L s.heap m) (X : (Mine.hd.heap_39 w.params).In h₀) (N₀ : News h₀ L s.heap news) (T : Top p loose mean mg mb h₀) (hk : cs.kind = .function) (hdp : dp + 2 < recursionLimit) (hun : un + 12 < cLine)
   (hret : ∀ (t : Tok) (h' : Heap) (tk' : Nat), s.toks ≤ tk' → Fr h₀ L h' m → News h₀ L h' news → Q (.str (quoteS x) t) { s with heap := h', toks := tk' }) :
   wpAny (model PySem.Challenge.rw_sn0026_01.row.prog w) (ktrTop dp un gd cn cs L a ccd cl outer) (call (.ref 87) [.str x t]) Q E s :=
  wpAny_toks (quote_c0 hx B F₀ X N₀ T hk hdp hun fun t h' tk' F N hle => hret t h' tk' hle F N)
end Mine
end

/-! ## Loop1 -/
section
open PySem PySem.W PyProof.Rows
open PySem.Calls PyProof.V PySem.Spec
namespace Mine

theorem pyIter_str' {prog : Program} {w : World} {A : Around} {E : Value → Shared → Prop} {s : Shared} {x : Str} {t : Tok} {Q : Value → Shared → Prop}
    (hQ : ∀ (o : Obj) (St : Nat → Heap → Prop), (∀ A' : Around, A'.handled = none → Walks prog w A' s.heap.objs.size [s.heap.objs.size] [s.heap.objs.size] x.cps.size (SignAt x) St) → (∀ i h, St i h → ∃ o, h.get? s.heap.objs.size = some o) → St 0 (s.heap.push o) →
      Q (.ref s.heap.objs.size) { s with heap := s.heap.push o }) : wpAny (model prog w) A (pyIter (.str x t)) Q E s := by
  cases ha : x.cps.all (· < 128)
  · exact wpAny_pyIter_wide ha (hQ _ _ (fun A' hA => Walks.strWide hA _ x t) (fun i h st => ⟨_, st.choose_spec.1⟩) ⟨_, Heap.get?_push_size _ rfl, rfl, rfl⟩)
  · exact wpAny_pyIter_ascii ha (hQ _ _ (fun A' hA => Walks.strAscii hA _ x t) (fun i h st => ⟨_, st.choose_spec.1⟩) ⟨_, Heap.get?_push_size _ rfl, rfl, rfl⟩)

section
variable {prog : Program} {w : World} {A : Around} {E : Value → Shared → Prop} {s : Shared} {env : Env} {h₀ : Heap} {x : Str} {body : List Stmt} {Q : Flow → Shared → Prop}

/-- a turn's end: the ledger may have grown or turned -/
def GEnd {σ : Type} (h₀ : Heap) (L : Addr) (Led : σ → List (Addr × Obj)) (ps : σ → List (Str × Value)) (x : Str) (stored : List Str) (m₀ : Str → Option Value) (P : σ → Prop) (own : Addr × Obj) (s s₂ : Shared) : Prop :=
  ∃ (c' : σ) (h' : Heap) (tk : Nat) (m' : Str → Option Value) (news' : List (Addr × Obj)), s₂ = { s with heap := h', toks := tk } ∧ Fr h₀ L h' m' ∧ News h₀ L h' news' ∧ (∀ p ∈ Led c', p ∈ news') ∧ own ∈ news' ∧ (∀ p ∈ Led c', p.1 ≠ own.1) ∧
    (∀ p ∈ ps c', m' p.1 = some p.2) ∧ (∀ z, z ≠ x → (∀ p ∈ ps c', z ≠ p.1) → stored.contains z = false → m' z = m₀ z) ∧ P c'
def GPost {σ : Type} (h₀ : Heap) (L : Addr) (Led : σ → List (Addr × Obj)) (ps : σ → List (Str × Value)) (x : Str) (stored : List Str) (m₀ : Str → Option Value) (P : σ → Prop) (own : Addr × Obj) (Q : Flow → Shared → Prop) (s : Shared) (f : Flow) (s₂ : Shared) : Prop :=
  match f with
  | .ret v => Q (.ret v) s₂
  | .brk => Q .next s₂
  | _ => GEnd h₀ L Led ps x stored m₀ P own s s₂

theorem str_loop {σ : Type} {xt : Str} {tx : Tok} {m₀ : Str → Option Value} (Led : σ → List (Addr × Obj)) (ps : σ → List (Str × Value)) (stored : List Str) (P : List Nat → σ → Prop) (c₀ : σ)
    (hh : A.handled = none) (F : Fr h₀ env.locals s.heap m₀) (N : News h₀ env.locals s.heap (Led c₀)) (hk : ∀ p ∈ ps c₀, m₀ p.1 = some p.2) (hp : P [] c₀)
    (turn : ∀ (c : σ) (pre post : List Nat) (n : Nat) t (u : Str → Option Value) h tk own, xt.cps.toList = pre ++ n :: post → P pre c → (∀ p ∈ Led c, p.1 ≠ own.1) →
      Fr h₀ env.locals h (fun y => if y = x then some (.str ⟨#[n]⟩ t) else kstB (fun z => if stored.contains z then u z else m₀ z) (ps c) y) → News h₀ env.locals h (own :: Led c) →
      wpAny (model prog w) A (execs body env) (GPost h₀ env.locals Led ps x stored m₀ (P (pre ++ [n])) own Q { s with heap := h, toks := tk }) E { s with heap := h, toks := tk })
    (done : ∀ (c : σ) (u : Str → Option Value) h tk, P xt.cps.toList c → Fr h₀ env.locals h (fun y => if y = x then u y else kstB (fun z => if stored.contains z then u z else m₀ z) (ps c) y) → News h₀ env.locals h (Led c) → Q .next { s with heap := h, toks := tk }) :
    wpAny (model prog w) A (pyIter (.str xt tx)) (fun it s₂ => LoopAtV prog w A h₀ env x body Q E it s₂) E s := by
  refine pyIter_str' fun o St hW hSt hst => ?_
  have W := hW A hh
  let J : Nat → (Str → Option Value) → List (Addr × Obj) → Prop := fun i m nx => ∃ c : σ, nx = Led c ∧ (∀ p ∈ ps c, m p.1 = some p.2) ∧ (∀ z, z ≠ x → (∀ p ∈ ps c, z ≠ p.1) → stored.contains z = false → m z = m₀ z) ∧ P (xt.cps.toList.take i) c
  refine ⟨_, _, _, xt.cps.size, _, _, m₀, Led c₀, J, rfl, W, ?_, ?_, ?_, hst, F.push _, (fun p hp => ⟨Heap.get?_push_of_some _ (N p hp).1, (N p hp).2⟩), ⟨c₀, rfl, hk, fun _ _ _ _ => rfl, by simpa using hp⟩, ?_, ?_⟩
  · intro hm
    exact absurd F.ns.lt ((List.mem_singleton.mp hm) ▸ Nat.lt_irrefl _)
  · intro b hb
    rw [List.mem_singleton.mp hb]
    exact next_is_new F
  · intro p hp hI
    exact absurd (Heap.lt_size (N p hp).1) ((List.mem_singleton.mp hI) ▸ Nat.lt_irrefl _)
  · rintro i v m₁ news₁ s₁ own ⟨hh', tk', rfl⟩ hin ⟨n, t, hn, rfl⟩ ⟨c, rfl, h1, h2, hp'⟩ hoff hown hget hall hsi F₁ N₁
    obtain ⟨oI, hoI⟩ := hSt _ _ hsi
    have hmem : ((s.heap.objs.size, oI) : Addr × Obj) ∈ own := hall _ (by simp) (next_is_new F) _ hoI
    have hlt : i < xt.cps.toList.length := by simpa using hin
    have hnv : xt.cps.toList[i] = n := by
      have : xt.cps[i]? = some (xt.cps.toList[i]) := by simp [hin]
      rw [this] at hn
      exact Option.some.inj hn
    have hs : xt.cps.toList.take (i + 1) = xt.cps.toList.take i ++ [n] := by rw [List.take_add_one, List.getElem?_eq_getElem hlt, hnv]; rfl
    have e : xt.cps.toList = xt.cps.toList.take i ++ n :: xt.cps.toList.drop (i + 1) := by
      have ht := (List.take_append_drop (i + 1) xt.cps.toList).symm
      rw [hs, List.append_assoc] at ht
      exact ht
    have hoff' : ∀ p ∈ Led c, p.1 ≠ s.heap.objs.size := fun p hp e => hoff p hp (by rw [e]; simp)
    have N₂ : News h₀ env.locals hh' ((s.heap.objs.size, oI) :: Led c) := fun p hp => by
      rcases List.mem_cons.mp hp with rfl | hp
      · exact N₁ _ (List.mem_append.mpr (.inl hmem))
      · exact N₁ p (List.mem_append.mpr (.inr hp))
    refine wpAny_mono (turn c _ _ n t m₁ hh' tk' (s.heap.objs.size, oI) e hp' hoff' (kst_fr h1 h2 F₁) N₂) (fun f s₂ p => ?_) fun _ _ e => e
    have hsame : ∀ p ∈ own, p = (s.heap.objs.size, oI) := fun p hp => by
      have h3 := hget p hp
      have h4 : p.1 = s.heap.objs.size := List.mem_singleton.mp (hown p hp)
      rw [h4, hoI] at h3
      exact Prod.ext h4 (Option.some.inj h3).symm
    have fin : GEnd h₀ env.locals Led ps x stored m₀ (P (xt.cps.toList.take i ++ [n])) (s.heap.objs.size, oI) { s with heap := hh', toks := tk' } s₂ → LoopStepU h₀ env.locals [s.heap.objs.size] own (J (i + 1)) { s with heap := hh', toks := tk' } .next s₂ := by
      rintro ⟨c', h', tk, m', news', e', F', N', hn', ho', ha', hk', hr', hp''⟩
      refine ⟨rfl, h', tk, m', Led c', e', F', fun p hp => ?_, fun p hp hq => ha' p hp (List.mem_singleton.mp hq), c', rfl, hk', hr', by rw [hs]; exact hp''⟩
      rcases List.mem_append.mp hp with hp | hp
      · rw [hsame p hp]; exact N' _ ho'
      · exact N' _ (hn' p hp)
    cases f with
    | ret v => exact .ret p
    | brk => exact .brk p
    | next => exact .next (fin p)
    | cont => exact .cont (fin p)
  · rintro h' tk m' news' F' N' _ ⟨c, rfl, h1, h2, hp'⟩
    have hl : xt.cps.toList.take xt.cps.size = xt.cps.toList := List.take_of_length_le (by simp)
    rw [hl] at hp'
    exact done c m' h' tk hp' (kst_frOut h1 h2 F') N'

theorem g_end {σ : Type} {L : Addr} {Led : σ → List (Addr × Obj)} {ps : σ → List (Str × Value)} {stored : List Str} {m₀ m' : Str → Option Value} {P : σ → Prop} {own : Addr × Obj} {h' : Heap} {tk : Nat} {news' : List (Addr × Obj)} (c' : σ)
    (F : Fr h₀ L h' m') (N : News h₀ L h' news') (hn : ∀ p ∈ Led c', p ∈ news') (ho : own ∈ news') (ha : ∀ p ∈ Led c', p.1 ≠ own.1) (hk : ∀ p ∈ ps c', m' p.1 = some p.2) (hr : ∀ z, z ≠ x → (∀ p ∈ ps c', z ≠ p.1) → stored.contains z = false → m' z = m₀ z) (hp : P c') :
    GEnd h₀ L Led ps x stored m₀ P own s { s with heap := h', toks := tk } := ⟨c', h', tk, m', news', rfl, F, N, hn, ho, ha, hk, hr, hp⟩

theorem range_loop {σ : Type} {r : Addr} {a₀ b₀ : Int} {t₀ u₀ v₀ : Tok} {n : Nat} {m₀ : Str → Option Value} (Led : σ → List (Addr × Obj)) (ps : σ → List (Str × Value)) (stored : List Str) (P : Nat → σ → Prop) (c₀ : σ)
    (hh : A.handled = none) (hr : IsRange s.heap r a₀ b₀ 1 t₀ u₀ v₀) (hsmall : Builtin.Range.small a₀ b₀ 1 = true) (hn : Builtin.Range.rangeSize a₀ b₀ 1 = (n : Int)) (F : Fr h₀ env.locals s.heap m₀) (N : News h₀ env.locals s.heap (Led c₀)) (hk : ∀ p ∈ ps c₀, m₀ p.1 = some p.2) (hp : P 0 c₀)
    (turn : ∀ (c : σ) (i : Nat) t (u : Str → Option Value) h tk own, i < n → P i c → (∀ p ∈ Led c, p.1 ≠ own.1) →
      Fr h₀ env.locals h (fun y => if y = x then some (.int (a₀ + (i : Int)) t) else kstB (fun z => if stored.contains z then u z else m₀ z) (ps c) y) → News h₀ env.locals h (own :: Led c) →
      wpAny (model prog w) A (execs body env) (GPost h₀ env.locals Led ps x stored m₀ (P (i + 1)) own Q { s with heap := h, toks := tk }) E { s with heap := h, toks := tk })
    (done : ∀ (c : σ) (u : Str → Option Value) h tk, P n c → Fr h₀ env.locals h (fun y => if y = x then u y else kstB (fun z => if stored.contains z then u z else m₀ z) (ps c) y) → News h₀ env.locals h (Led c) → Q .next { s with heap := h, toks := tk }) :
    wpAny (model prog w) A (pyIter (.ref r)) (fun it s₂ => LoopAtV prog w A h₀ env x body Q E it s₂) E s := by
  refine wpAny_pyIter_range hr hsmall ?_
  have W : Walks prog w A s.heap.objs.size [s.heap.objs.size] [s.heap.objs.size] n (fun i v => i < n ∧ ∃ t, v = .int (a₀ + i * 1) t)
      (fun i h => IsRangeIter h s.heap.objs.size (a₀ + (i : Nat) * 1) ((n : Int) - (i : Nat)) 1) := (Walks.range hh _ a₀ 1 n).bound
  let J : Nat → (Str → Option Value) → List (Addr × Obj) → Prop := fun i m nx => ∃ c : σ, nx = Led c ∧ (∀ p ∈ ps c, m p.1 = some p.2) ∧ (∀ z, z ≠ x → (∀ p ∈ ps c, z ≠ p.1) → stored.contains z = false → m z = m₀ z) ∧ P i c
  refine ⟨_, _, _, n, _, _, m₀, Led c₀, J, rfl, W, ?_, ?_, ?_, ?_, F.push _, (fun p hp => ⟨Heap.get?_push_of_some _ (N p hp).1, (N p hp).2⟩), ⟨c₀, rfl, hk, fun _ _ _ _ => rfl, hp⟩, ?_, ?_⟩
  · intro hm
    exact absurd F.ns.lt ((List.mem_singleton.mp hm) ▸ Nat.lt_irrefl _)
  · intro b hb
    rw [List.mem_singleton.mp hb]
    exact next_is_new F
  · intro p hp hI
    exact absurd (Heap.lt_size (N p hp).1) ((List.mem_singleton.mp hI) ▸ Nat.lt_irrefl _)
  · show IsRangeIter _ _ _ _ _
    rw [hn]
    simpa using Heap.get?_push_size _ rfl
  · rintro i v m₁ news₁ s₁ own ⟨hh', tk', rfl⟩ hin ⟨_, t, rfl⟩ ⟨c, rfl, h1, h2, hp'⟩ hoff hown hget hall hsi F₁ N₁
    have hoI : hh'.get? s.heap.objs.size = some _ := hsi
    generalize hoo : ({ cls := .type "range_iterator", data := .fields #[rawInt (a₀ + ((i + 1 : Nat) : Int) * 1), rawInt ((n : Int) - ((i + 1 : Nat) : Int)), rawInt 1] } : Obj) = oI at hoI
    have hmem : ((s.heap.objs.size, oI) : Addr × Obj) ∈ own := hall _ (by simp) (next_is_new F) _ hoI
    have e1 : a₀ + (i : Int) * 1 = a₀ + (i : Int) := by omega
    rw [e1] at F₁
    have hoff' : ∀ p ∈ Led c, p.1 ≠ s.heap.objs.size := fun p hp e => hoff p hp (by rw [e]; simp)
    have N₂ : News h₀ env.locals hh' ((s.heap.objs.size, oI) :: Led c) := fun p hp => by
      rcases List.mem_cons.mp hp with rfl | hp
      · exact N₁ _ (List.mem_append.mpr (.inl hmem))
      · exact N₁ p (List.mem_append.mpr (.inr hp))
    refine wpAny_mono (turn c i t m₁ hh' tk' (s.heap.objs.size, oI) hin hp' hoff' (kst_fr h1 h2 F₁) N₂) (fun f s₂ p => ?_) fun _ _ e => e
    have hsame : ∀ p ∈ own, p = (s.heap.objs.size, oI) := fun p hp => by
      have h3 := hget p hp
      have h4 : p.1 = s.heap.objs.size := List.mem_singleton.mp (hown p hp)
      have h3' : hh'.get? p.1 = some p.2 := h3
      rw [h4, hoI] at h3'
      exact Prod.ext h4 (Option.some.inj h3').symm
    have fin : GEnd h₀ env.locals Led ps x stored m₀ (P (i + 1)) (s.heap.objs.size, oI) { s with heap := hh', toks := tk' } s₂ → LoopStepU h₀ env.locals [s.heap.objs.size] own (J (i + 1)) { s with heap := hh', toks := tk' } .next s₂ := by
      rintro ⟨c', h', tk, m', news', e', F', N', hn', ho', ha', hk', hr', hp''⟩
      refine ⟨rfl, h', tk, m', Led c', e', F', fun p hp => ?_, fun p hp hq => ha' p hp (List.mem_singleton.mp hq), c', rfl, hk', hr', hp''⟩
      rcases List.mem_append.mp hp with hp | hp
      · rw [hsame p hp]; exact N' _ ho'
      · exact N' _ (hn' p hp)
    cases f with
    | ret v => exact .ret p
    | brk => exact .brk p
    | next => exact .next (fin p)
    | cont => exact .cont (fin p)
  · rintro h' tk m' news' F' N' _ ⟨c, rfl, h1, h2, hp'⟩
    exact done c m' h' tk hp' (kst_frOut h1 h2 F') N'
end
end Mine
end

/-! ## Loop2 -/
section
open PySem PySem.W PyProof.Rows
open PySem.Calls PyProof.V PySem.Spec
namespace Mine

theorem paired_texts {g : Int → Str} : ∀ {vs ys : List Value}, Paired (fun (v y : Value) => ∃ (k : Int) (t t' : Tok), v = .int k t ∧ y = .str (g k) t') vs ys → ∀ {ks : List Int}, vs.length = ks.length → (∀ (j : Nat) (v : Value), vs[j]? = some v → ∃ (k : Int) (t : Tok), ks[j]? = some k ∧ v = .int k t) → StrsAre ys (ks.map g)
  | _, _, .nil, ks, hl, _ => by
    cases ks with
    | nil => exact .nil
    | cons k r => cases hl
  | _, _, .cons h r, ks, hl, hv => by
    cases ks with
    | nil => cases hl
    | cons k rest =>
      obtain ⟨k', t, t', e, rfl⟩ := h
      obtain ⟨k'', t'', e1, e2⟩ := hv 0 _ rfl
      rw [e2] at e
      have hk : k'' = k' := by cases e; rfl
      have hk2 : k = k'' := by simpa using e1
      rw [← hk, ← hk2]
      exact .cons _ _ (paired_texts r (Nat.succ.inj hl) fun j v hj => hv (j + 1) v hj)

section
variable {prog : Program} {w : World} {A : Around} {E : Value → Shared → Prop} {s : Shared} {h₀ : Heap} {L : Addr} {m : Str → Option Value} {env : Env}

def StrSrc (prog : Program) (w : World) (A : Around) (h₀ : Heap) (L : Addr) (m : Str → Option Value) (env : Env) (elt : Expr) (x : Str) (scope : Scope) (cl : List (Str × Addr)) (g : Int → Str) (Q : Value → Shared → Prop) (xv : Value) (s₁ : Shared) : Prop :=
  ∃ r a b t u v n news, xv = .ref r ∧ A.handled = none ∧ Fr h₀ L s₁.heap m ∧ News h₀ L s₁.heap news ∧ IsRange s₁.heap r a b 1 t u v ∧ Builtin.Range.small a b 1 = true ∧ Builtin.Range.rangeSize a b 1 = ((n : Nat) : Int) ∧ n ≤ sizeLine ∧
    (∀ (k : Int) t C oC m₂ (s₃ : Shared) (E' : Value → Shared → Prop), a ≤ k → k < a + (n : Int) → LCg.NsObj oC m₂ → m₂ x = some (.int k t) → Fr h₀ L s₃.heap m → News h₀ L s₃.heap ((C, oC) :: news) → (∀ p ∈ news, p.1 < C) → s₁.toks ≤ s₃.toks →
      wpAny (model prog w) A (eval elt (compEnvC scope cl C env)) (fun y s₄ => (∃ t', y = .str (g k) t') ∧ ∃ tk, s₄ = { s₃ with toks := tk }) E' s₃) ∧
    (∀ D ys cnt h' tk, Fr h₀ L h' m → News h₀ L h' ((D, listOf ys.toArray cnt) :: news) → LCg.Off1 D news → StrsAre ys ((rangeKs a n).map g) → Q (.ref D) { s₁ with heap := h', toks := tk })

theorem ListComp_str {elt iter : Expr} {x : Str} {px : Pos} {scope : Scope} {cl : List (Str × Addr)} {pos : Pos} {Q : Value → Shared → Prop} (_F₀ : Fr h₀ L s.heap m) (g : Int → Str)
    (hclos : closureFor scope env = pure cl) (hcell : ∀ y ∈ scope.names, y.2 ≠ .cell) (hkind : scope.kind = .function)
    (hnames : ∀ y ∈ scope.names, y.2 = .local → scope.names.lookup y.1 = some .local) (hx : scope.names.lookup x = some .local)
    (h : wpAny (model prog w) A (eval iter env) (StrSrc prog w A h₀ L m env elt x scope cl g Q) E s)
    (hs : ∀ x, foldedSetIterable iter env x = pure x := by intro _; rfl) :
    wpAny (model prog w) A (eval (.ListComp elt [⟨.Name x px, iter, [], 0⟩] scope pos) env) Q E s := by
  refine wpAny_ListComp_free (fun _ => true) (fun (v y : Value) => ∃ (k : Int) (t t' : Tok), v = .int k t ∧ y = .str (g k) t') hclos hcell hkind hnames hx (wpAny_mono h (fun xv s₁ h₁ => ?_) fun _ _ e => e) hs
  obtain ⟨r, a, b, t, u, v, n, news, rfl, hh, F, N, hr, hsm, hn, hsz, turn, done⟩ := h₁
  have upd : ∀ b' o', s₁.heap.get? b' = some o' → b' ∉ [s₁.heap.objs.size] := fun b' o' e hb => by
    have := Heap.lt_size e
    rw [List.mem_singleton.mp hb] at this
    exact Nat.lt_irrefl _ this
  refine wpAny_pyIter_range hr hsm ⟨s₁.heap.objs.size, [s₁.heap.objs.size], [s₁.heap.objs.size], n, (fun (i : Nat) (v : Value) => i < n ∧ ∃ t : Tok, v = .int (a + (i : Int) * 1) t), _, rfl, (Walks.range hh s₁.heap.objs.size a 1 n).bound, hsz, ?_, ?_, ⟨?_, ?_⟩, ?_⟩
  · show IsRangeIter _ _ _ _ _
    rw [hn]
    simpa using Heap.get?_push_size _ rfl
  · intro b' hb'
    rw [List.mem_singleton.mp hb']
    show s₁.heap.objs.size < (s₁.heap.push _).objs.size
    rw [Heap.size_push]
    exact Nat.lt_succ_self _
  · intro C i v s₃ m₃ E' hC hP hns hm hk htk
    rw [List.forIn_nil]
    exact wpAny_pure ⟨rfl, s₃.heap, s₃.toks, rfl, fun _ _ e => e⟩
  · intro C i v s₃ m₃ E' hC hP hp hns hm hk htk
    obtain ⟨hi, t', rfl⟩ := hP
    obtain ⟨oC, hgC, hoC⟩ := LCg.ns_obj hns
    have keep : ∀ b' o', s₁.heap.get? b' = some o' → s₃.heap.get? b' = some o' := fun b' o' e => hk b' o' (upd b' o' e) (Heap.get?_push_of_some _ e)
    have hC' : s₁.heap.objs.size < C := by
      have : (s₁.heap.push { cls := .type "range_iterator", data := .fields #[rawInt a, rawInt (Builtin.Range.rangeSize a b 1), rawInt 1] }).objs.size ≤ C := hC
      rw [Heap.size_push] at this
      exact this
    have F₃ : Fr h₀ L s₃.heap m := F.keeps keep
    have hL : C ≠ L := fun e => by
      have := F.ns.lt
      rw [← e] at this
      exact Nat.lt_asymm this hC'
    have hC₀ : h₀.get? C = none := by
      cases e : h₀.get? C with
      | none => rfl
      | some o' =>
        have := Heap.lt_size (F.keep _ _ e)
        exact absurd this (Nat.lt_asymm hC')
    have N₃ : News h₀ L s₃.heap ((C, oC) :: news) := fun p hp => by
      rcases List.mem_cons.mp hp with rfl | hp
      · exact ⟨hgC, hL, hC₀⟩
      · exact ⟨keep _ _ (N p hp).1, (N p hp).2⟩
    have ek : a + (i : Int) * 1 = a + (i : Int) := by omega
    rw [ek] at hm ⊢
    refine wpAny_mono (turn (a + (i : Int)) t' C oC m₃ s₃ E' (by omega) (by omega) hoC hm F₃ N₃ (fun p hp => Nat.lt_trans (Heap.lt_size (N p hp).1) hC') htk) (fun y s₄ h₄ => ?_) fun _ _ e => e
    obtain ⟨⟨t'', rfl⟩, tk, rfl⟩ := h₄
    exact ⟨⟨_, _, _, rfl, rfl⟩, s₃.heap, tk, rfl, fun _ _ e => e⟩
  · intro D h' tk ys vs hD hl hpl hlen hP hF hk
    have keep : ∀ b' o', s₁.heap.get? b' = some o' → h'.get? b' = some o' := fun b' o' e => hk b' o' (upd b' o' e) (Heap.get?_push_of_some _ e)
    obtain ⟨cnt, hg⟩ := hpl
    have hD₁ : s₁.heap.get? D = none := by
      cases e : s₁.heap.get? D with
      | none => rfl
      | some o' =>
        have := Heap.get?_push_of_some (h := s₁.heap) { cls := .type "range_iterator", data := .fields #[rawInt a, rawInt (Builtin.Range.rangeSize a b 1), rawInt 1] } e
        have hD' : (s₁.heap.push { cls := .type "range_iterator", data := .fields #[rawInt a, rawInt (Builtin.Range.rangeSize a b 1), rawInt 1] }).get? D = none := hD
        rw [this] at hD'
        cases hD'
    have hD₀ : h₀.get? D = none := by
      cases e : h₀.get? D with
      | none => rfl
      | some o' => rw [F.keep _ _ e] at hD₁; cases hD₁
    have hDL : D ≠ L := fun e => by
      obtain ⟨o, _, _, ho, _⟩ := F.ns
      rw [← e, hD₁] at ho
      cases ho
    have hflt : vs.filter (fun _ => true) = vs := by simp
    rw [hflt] at hF
    have hs' := paired_texts hF (ks := rangeKs a n) (by rw [rangeKs_length, hlen]) (fun j v hj => by
      obtain ⟨hj', t', rfl⟩ := hP j v hj
      refine ⟨a + (j : Int), t', by simp [rangeKs, hj'], ?_⟩
      congr 1
      omega)
    refine done D ys.toList cnt h' tk (F.keeps keep) (fun p hp => ?_) ?_ hs'
    · rcases List.mem_cons.mp hp with rfl | hp
      · exact ⟨hg, hDL, hD₀⟩
      · exact ⟨keep _ _ (N p hp).1, (N p hp).2⟩
    · have off : ∀ p ∈ news, p.1 ≠ D := fun p hp e => by
        have := (N p hp).1
        rw [e, hD₁] at this
        cases this
      clear done turn N
      induction news with
      | nil => exact trivial
      | cons p r ih => exact ⟨off p (.head _), ih fun q hq => off q (.tail _ hq)⟩
end
end Mine
end

/-! ## Blank -/
section
open PySem PySem.W PyProof.Rows
open PySem.Calls
namespace Mine
def blanks (n : Nat) : Str := ⟨(List.replicate n 32).toArray⟩
theorem blanks_len (n : Nat) : (blanks n).length = n := by simp [blanks, Str.length]
theorem foldl_rep (a : Array Nat) : ∀ (k : Nat) (acc : Array Nat), (List.replicate k a).foldl (· ++ ·) acc = acc ++ ((List.replicate k a.toList).flatten).toArray
  | 0, acc => by simp
  | k + 1, acc => by
    rw [List.replicate_succ, List.foldl_cons, foldl_rep a k, List.replicate_succ, List.flatten_cons, Array.append_assoc]
    congr 1
    simp
theorem flat_rep (n c : Nat) : ∀ k : Nat, (List.replicate k (List.replicate n c)).flatten = List.replicate (n * k) c
  | 0 => rfl
  | k + 1 => by
    rw [List.replicate_succ, List.flatten_cons, flat_rep n c k, List.replicate_append_replicate]
    congr 1
    rw [Nat.mul_succ, Nat.add_comm]
theorem mul_rep (n c k : Nat) : Txt.mul ⟨(List.replicate n c).toArray⟩ (k : Int) = ⟨(List.replicate (n * k) c).toArray⟩ := by
  unfold Txt.mul
  by_cases h : (k : Int) < 1
  · rw [if_pos h]
    have e : k = 0 := by omega
    subst e
    rfl
  · rw [if_neg h]
    by_cases h1 : ((k : Int) == 1 || (⟨(List.replicate n c).toArray⟩ : Str).length == 0) = true
    · rw [if_pos h1]
      rcases Bool.or_eq_true_iff.mp h1 with h2 | h2
      · have e : k = 1 := by have := beq_iff_eq.mp h2; omega
        subst e
        rw [Nat.mul_one]
      · have e : n = 0 := by simpa [Str.length] using h2
        subst e
        rw [Nat.zero_mul]
    · rw [if_neg h1]
      have e : (k : Int).toNat = k := rfl
      rw [e, foldl_rep]
      simp [Nat.mul_comm]
theorem blank_is : Str.ofString " " = blanks 1 := by decide
theorem dot_is : Str.ofString "." = dots 1 := by decide
set_option maxRecDepth 100000 in
theorem rep_blank : ∀ n, n < 27 → Txt.replace (dots n) (Str.ofString ".") (Str.ofString " ") = blanks n := by decide +kernel

section
variable {prog : Program} {w : World} {A : Around} {E : Value → Shared → Prop} {s : Shared} {n c : Nat} {t u v : Tok} {Q : Value → Shared → Prop}
theorem replace_blank (hu : u ≠ 0) (hv : v ≠ 0) (huv : u ≠ v) (hn : n ≤ 26)
    (hq : ∀ t' k, s.toks ≤ k → Q (.str (blanks n) t') { s with toks := k }) : wpAny (model prog w) A (call (.builtin "str.replace") [.str (dots n) t, .str (Str.ofString ".") u, .str (Str.ofString " ") v]) Q E s := by
  refine replace_stop hu hv huv (by decide) (by decide) (fun t' k hk => ?_) ?_
  · rw [rep_blank n (by omega)]
    exact hq t' k hk
  · show (dots n).length ≤ 1048576
    rw [dots_len]
    omega
theorem mul_sign {k : Int} {x : Str} (hx : x = ⟨(List.replicate n c).toArray⟩) (h0 : 0 ≤ k) (hk : k ≤ 1000) (hn : n ≤ 1000)
    (hq : ∀ t' tk, s.toks ≤ tk → Q (.str ⟨(List.replicate (n * k.toNat) c).toArray⟩ t') { s with toks := tk }) : wpAny (model prog w) A (binaryOp .Mult (.str x t) (.int k u)) Q E s := by
  subst hx
  refine wpAny_toks (SB.mul (mulOk_of 1000 1000 (by simpa [Str.length] using hn) hk (by omega) (by decide) (by decide)) fun t' tk htk => ?_)
  have e : k = (k.toNat : Int) := by omega
  rw [e, mul_rep]
  exact hq t' tk htk
theorem mul_blank {k : Int} (h0 : 0 ≤ k) (hk : k ≤ 1000) (hn : n ≤ 1000)
    (hq : ∀ t' tk, s.toks ≤ tk → Q (.str (blanks (n * k.toNat)) t') { s with toks := tk }) : wpAny (model prog w) A (binaryOp .Mult (.str (blanks n) t) (.int k u)) Q E s := mul_sign rfl h0 hk hn hq
theorem mul_blank1 {k : Int} (h0 : 0 ≤ k) (hk : k ≤ 1000)
    (hq : ∀ t' tk, s.toks ≤ tk → Q (.str (blanks k.toNat) t') { s with toks := tk }) : wpAny (model prog w) A (binaryOp .Mult (.str (Str.ofString " ") t) (.int k u)) Q E s := by
  rw [blank_is]
  refine mul_blank h0 hk (by decide) fun t' tk h => ?_
  rw [Nat.one_mul]
  exact hq t' tk h
theorem mul_dot1 {k : Int} (h0 : 0 ≤ k) (hk : k ≤ 1000)
    (hq : ∀ t' tk, s.toks ≤ tk → Q (.str (dots k.toNat) t') { s with toks := tk }) : wpAny (model prog w) A (binaryOp .Mult (.str (Str.ofString ".") t) (.int k u)) Q E s := by
  rw [dot_is]
  refine mul_sign (n := 1) (c := 46) rfl h0 hk (by decide) fun t' tk h => ?_
  rw [Nat.one_mul]
  exact hq t' tk h
end
end Mine
end

/-! ## Lists -/
section
open PySem PySem.W PyProof.Rows
open PySem.Calls
namespace Mine
theorem strs_rev : ∀ {vs : List Value} {ss : List Str}, StrsAre vs ss → StrsAre vs.reverse ss.reverse
  | _, _, .nil => .nil
  | _, _, .cons y t r => by
    rw [List.reverse_cons, List.reverse_cons]
    exact (strs_rev r).append' (.cons y t .nil)
section
variable {prog : Program} {w : World} {A : Around} {E : Value → Shared → Prop} {s : Shared} {h₀ : Heap} {L l b : Addr} {m : Str → Option Value} {news : List (Addr × Obj)} {Q : Value → Shared → Prop} {ys zs : List Value} {c1 c2 : Nat}
theorem add_lists' (F : Fr h₀ L s.heap m) (N : News h₀ L s.heap news) (hl : (l, listOf ys.toArray c1) ∈ news) (hb : (b, listOf zs.toArray c2) ∈ news)
    (h : ∀ a h', Fr h₀ L h' m → News h₀ L h' ((a, listOf (ys ++ zs).toArray 0) :: news) → (∀ p ∈ news, p.1 < a) → Q (.ref a) { s with heap := h' }) (hz : ys.length + zs.length ≤ 100000) :
    wpAny (model prog w) A (binaryOp .Add (.ref l) (.ref b)) Q E s :=
  add_arrays F N (N.isList hl) (N.isList hb) (fun h' F' N' => h _ h' F' (by simpa using N') fun p hp => Heap.lt_size (N p hp).1) (by rw [sizeLine_eq]; simp; omega)
theorem join_texts {x : Str} {t : Tok} {ss : List Str} (N : News h₀ L s.heap news) (hl : (l, listOf ys.toArray c1) ∈ news) (hi : StrsAre ys ss) (hsep : x.length ≤ 16) (hw : (ss.map (·.length)).sum + ss.length ≤ 1048576)
    (h : ∀ t' k, s.toks ≤ k → Q (.str (Txt.join x ss) t') { s with toks := k }) : wpAny (model prog w) A (call (.builtin "str.join") [.str x t, .ref l]) Q E s :=
  wpAny_toks (join_listW (N.isList hl) (by simpa using hi) hsep hw fun t' k hk => h t' k hk)
theorem rev_list {value slice : PySem.Expr} {vk : Value} {ops : List Value} (F : Fr h₀ L s.heap m) (N : News h₀ L s.heap news) (hl : (l, listOf ys.toArray c1) ∈ news) (pk : IsPart vk (some (-1)))
    (h : ∀ D h', Fr h₀ L h' m → News h₀ L h' ((D, listOf ys.reverse.toArray 0) :: news) → (∀ p ∈ news, p.1 < D) → Q (.ref D) { s with heap := h' })
    (hs : subscripted slice false (.ref l) (.ref s.heap.objs.size) = operate ops (getItem (.ref l) (.ref s.heap.objs.size))) (ht : ∀ r, letTemporaryGo value (.ref l) r = pure ()) (hz : ys.length ≤ 1000) :
    wpAny (model prog w) A (subscriptTail value slice (.ref l) (.ref s.heap.objs.size)) Q E { s with heap := s.heap.push { cls := .type "slice", data := .fields #[.none, .none, vk] } } :=
  krv_lit F N (N.isList hl) pk rfl (fun D h' F' N' l1 => h D h' F' (by simpa using N') l1) hs ht (by rw [sizeLine_eq]; simp; omega)
theorem len_led {c : Nat} (N : News h₀ L s.heap news) (hl : (l, listOf ys.toArray c) ∈ news) (hz : ys.length ≤ 100000) (h : Q (.int (ys.length : Int) (s.toks + 1)) { s with toks := s.toks + 1 + 1 }) :
    wpAny (model prog w) A (call (.builtin "len") [.ref l]) Q E s :=
  len_list (N.isList hl) (by rw [List.size_toArray]; omega) (by rw [List.size_toArray]; exact h)
theorem tuple_led {c : Nat} (F : Fr h₀ L s.heap m) (N : News h₀ L s.heap news) (hl : (l, listOf ys.toArray c) ∈ news) (hz : ys.length ≤ 16384)
    (h : ∀ D h', Fr h₀ L h' m → News h₀ L h' ((D, ({ cls := .type "tuple", data := .seq ys.toArray } : Obj)) :: news) → (∀ p ∈ news, p.1 < D) → Q (.ref D) { s with heap := h' }) :
    wpAny (model prog w) A (call (.type "tuple") [.ref l]) Q E s :=
  kde_tupleOf F N (N.isList hl) (by simpa using hz) (by simp) h
theorem set_led {D : Addr} {vs : List Value} {ns : List Int} {n : Nat} {k x : Int} {t u : Tok} {news' : List (Addr × Obj)} {Q : Unit → Shared → Prop} (F : Fr h₀ L s.heap m) (N : News h₀ L s.heap news) (U : Upd D (listOf vs.toArray n) (listOf (vs.set k.toNat (.int x u)).toArray n) news news') (hi : IntsAre vs ns) (h0 : 0 ≤ k) (hfit : k < 2 ^ 63)
    (h : ∀ h', Fr h₀ L h' m → News h₀ L h' news' → IntsAre (vs.set k.toNat (.int x u)) (ns.set k.toNat x) → Q () { s with heap := h' }) (h1 : k < ns.length) :
    wpAny (model prog w) A (setItem (.ref D) (.int k t) (.int x u)) Q E s :=
  ksa_set F N U hi h0 h1 hfit fun h' F' N' hi' _ _ => h h' F' N' hi'
theorem len_tup {n : Nat} (N : News h₀ L s.heap news) (hl : (l, ({ cls := .type "tuple", data := .seq ys.toArray n } : Obj)) ∈ news) (hz : ys.length ≤ 100000) (h : Q (.int (ys.length : Int) (s.toks + 1)) { s with toks := s.toks + 1 + 1 }) :
    wpAny (model prog w) A (call (.builtin "len") [.ref l]) Q E s :=
  PyProof.Rows.len_tuple (N.isTup hl) (by rw [List.size_toArray]; omega) (by rw [List.size_toArray]; exact h)
theorem item_tup {value slice : PySem.Expr} {vs : List Value} {ns : List Int} {n : Nat} {k : Int} {u : Tok} (N : News h₀ L s.heap news) (hl : (l, ({ cls := .type "tuple", data := .seq vs.toArray n } : Obj)) ∈ news) (hi : IntsAre vs ns) (h0 : 0 ≤ k) (hfit : k < 2 ^ 63)
    (hs : subscripted slice false (.ref l) (.int k u) = operate [.ref l, .int k u] (getItem (.ref l) (.int k u))) (h : ∀ t, Q (.int (ns.getD k.toNat 0) t) s) (h1 : k < ns.length) :
    wpAny (model prog w) A (subscriptTail value slice (.ref l) (.int k u)) Q E s := by
  have e := hi.length
  have hlt : k.toNat < vs.length := by omega
  obtain ⟨t, ht⟩ := hi.int_at k.toNat _ (List.getElem?_eq_getElem hlt)
  exact tail_any (N.isTup hl).typeIs slot_tuple_getitem.lookup (getItem_tuple (j := k.toNat) (N.isTup hl) (by omega) hfit (seqIndex_of h0 (by simp; omega)) (by rw [List.getElem?_toArray, List.getElem?_eq_getElem hlt, ht]) (h t)) hs
end
end Mine
end

/-! ## Lead -/
section
open PySem PySem.W PyProof.Rows
open PySem.Calls
namespace Mine
def rowsN (n1 n2 : Nat) : List Nat := (List.range (n2 / 2)).map (fun i => n1 * (i + 1)) ++ [n2]
def leadN (n1 n2 : Nat) : List Nat := rowsN n1 n2 ++ (rowsN n1 n2).reverse ++ [n2 / 2]
def leadS (n1 n2 : Nat) : Str := Txt.join (Str.ofString "\t") ((leadN n1 n2).map blanks) ++ Str.ofString "x \t"
theorem rows_eq (n1 n2 : Nat) : (List.map (fun k => blanks (n1 * k.toNat)) (rangeKs 1 ((((n2 / 2 : Nat) : Int) + 1 - 1).toNat))) = ((List.range (n2 / 2)).map (fun i => n1 * (i + 1))).map blanks := by
  have e : ((((n2 / 2 : Nat) : Int) + 1 - 1).toNat) = n2 / 2 := by omega
  rw [e]
  unfold rangeKs
  rw [List.map_map, List.map_map]
  refine List.map_congr_left fun i _ => ?_
  show blanks (n1 * ((1 : Int) + (i : Int)).toNat) = blanks (n1 * (i + 1))
  have : ((1 : Int) + (i : Int)).toNat = i + 1 := by omega
  rw [this]
theorem lead_strs {n1 n2 : Nat} {ys : List Value} {t1 t3 : Tok} (h : StrsAre ys (List.map (fun k => blanks (n1 * k.toNat)) (rangeKs 1 ((((n2 / 2 : Nat) : Int) + 1 - 1).toNat)))) :
    StrsAre (ys ++ [Value.str (blanks n2) t1] ++ (ys ++ [Value.str (blanks n2) t1]).reverse ++ [Value.str (blanks (((n2 / 2 : Nat) : Int)).toNat) t3]) ((leadN n1 n2).map blanks) := by
  rw [rows_eq] at h
  have h1 : StrsAre (ys ++ [Value.str (blanks n2) t1]) ((rowsN n1 n2).map blanks) := by
    unfold rowsN
    rw [List.map_append]
    exact h.append' (.cons _ _ .nil)
  have h2 := strs_rev h1
  have h3 := (h1.append' h2).append' (.cons (blanks (n2 / 2)) t3 .nil)
  have e : (leadN n1 n2).map blanks = (rowsN n1 n2).map blanks ++ ((rowsN n1 n2).map blanks).reverse ++ [blanks (n2 / 2)] := by
    unfold leadN
    rw [List.map_append, List.map_append, List.map_reverse]
    rfl
  rw [e]
  exact h3
theorem ys_len {n1 n2 : Nat} {ys : List Value} (h : StrsAre ys (List.map (fun k => blanks (n1 * k.toNat)) (rangeKs 1 ((((n2 / 2 : Nat) : Int) + 1 - 1).toNat)))) : ys.length = n2 / 2 := by
  rw [h.length, List.length_map, rangeKs_length]
  omega
set_option maxRecDepth 100000 in
theorem lead_all : ∀ n1, n1 < 14 → ∀ n2, n2 < 14 → (leadN n1 n2).sum + (leadN n1 n2).length ≤ 2000 := by decide +kernel
theorem lead_weight {n1 n2 : Nat} (h1 : n1 ≤ 13) (h2 : n2 ≤ 13) : (((leadN n1 n2).map blanks).map (·.length)).sum + ((leadN n1 n2).map blanks).length ≤ 2000 := by
  have e : ((leadN n1 n2).map blanks).map (·.length) = leadN n1 n2 := by
    rw [List.map_map]
    have : ((fun x : Str => x.length) ∘ blanks) = id := by
      funext n
      exact blanks_len n
    rw [this, List.map_id]
  rw [e, List.length_map]
  exact lead_all n1 (by omega) n2 (by omega)
theorem lead_len {n1 n2 : Nat} (h1 : n1 ≤ 13) (h2 : n2 ≤ 13) : (leadS n1 n2).length ≤ 2003 := by
  have h := lead_weight h1 h2
  have hj := StrLaws.join_length_le (Str.ofString "\t") ((leadN n1 n2).map blanks)
  have e : (Str.ofString "\t").length = 1 := by decide
  have e2 : (Str.ofString "x \t").length = 3 := by decide
  unfold leadS
  rw [Str.length_append, e2]
  show (Builtin.Str.glued _ _).length + 3 ≤ _
  rw [StrLaws.glued_eq_join]
  rw [e] at hj
  omega
end Mine
end

/-! ## Ws -/
section
open PySem PySem.W PyProof.Rows
open PySem.Calls PyProof.V PySem.Spec
namespace Mine

structure WS where
  b : Nat := 0
  n : Nat := 0
  nt : Nat := 0
  cs : List Int := []
def bump (cs : List Int) (b : Nat) : List Int := (cs ++ List.replicate (b + 1 - cs.length) 0).set b ((cs ++ List.replicate (b + 1 - cs.length) 0).getD b 0 + 1)
def wstep (w : WS) (c : Nat) : WS := if c = 32 then { w with n := w.n + 1, b := w.b + 1 } else { n := w.n + 1, nt := w.nt + 1, b := 0, cs := bump w.cs w.b }
def wrun (l : List Nat) : WS := l.foldl wstep {}
theorem wrun_snoc (l : List Nat) (c : Nat) : wrun (l ++ [c]) = wstep (wrun l) c := by simp [wrun, List.foldl_append]
theorem bump_len (cs : List Int) (b : Nat) : (bump cs b).length = max cs.length (b + 1) := by
  simp only [bump, List.length_set, List.length_append, List.length_replicate]
  omega
theorem wrun_bounds : ∀ l : List Nat, (wrun l).b ≤ l.length ∧ (wrun l).n ≤ l.length ∧ (wrun l).nt ≤ l.length ∧ (wrun l).cs.length ≤ l.length := by
  intro l
  have h : ∀ (l : List Nat), (wrun l.reverse).b ≤ l.length ∧ (wrun l.reverse).n ≤ l.length ∧ (wrun l.reverse).nt ≤ l.length ∧ (wrun l.reverse).cs.length ≤ l.length ∧ (wrun l.reverse).b + 0 ≤ l.length := by
    intro l
    induction l with
    | nil => exact ⟨Nat.le_refl _, Nat.le_refl _, Nat.le_refl _, Nat.le_refl _, Nat.le_refl _⟩
    | cons c r ih =>
      rw [List.reverse_cons, wrun_snoc]
      obtain ⟨h1, h2, h3, h4, h5⟩ := ih
      unfold wstep
      simp only [List.length_cons]
      split
      · simp only
        omega
      · simp only [bump_len]
        omega
  have := h l.reverse
  rw [List.reverse_reverse, List.length_reverse] at this
  exact ⟨this.1, this.2.1, this.2.2.1, this.2.2.2.1⟩

/-- the state of the loop: the list's address, its values, how often it was written, the tokens -/
abbrev Wσ := Addr × List Value × Nat × (Int × Tok) × (Int × Tok) × (Int × Tok)
def WInv (rest : List (Addr × Obj)) (pre : List Nat) (c : Wσ) : Prop :=
  (∀ k ∈ pre, k = 32 ∨ k = 9) ∧ IntsAre c.2.1 (wrun pre).cs ∧ c.2.2.2.1.1 = ((wrun pre).b : Int) ∧ c.2.2.2.2.1.1 = ((wrun pre).n : Int) ∧ c.2.2.2.2.2.1 = ((wrun pre).nt : Int) ∧ LCg.Off1 c.1 rest

section
variable {prog : Program} {w : World} {A : Around} {E : Value → Shared → Prop} {s : Shared} {env : Env} {h₀ : Heap} {x : Str} {body : List Stmt} {Q : Flow → Shared → Prop}
def WLed (rest : List (Addr × Obj)) (c : Wσ) : List (Addr × Obj) := (c.1, listOf c.2.1.toArray c.2.2.1) :: rest
def WPs (c : Wσ) : List (Str × Value) := [(Str.ofString "count", .ref c.1), (Str.ofString "b", .int c.2.2.2.1.1 c.2.2.2.1.2), (Str.ofString "n", .int c.2.2.2.2.1.1 c.2.2.2.2.1.2), (Str.ofString "nt", .int c.2.2.2.2.2.1 c.2.2.2.2.2.2)]
end
theorem trim7 {h₀ h : Heap} {L : Addr} {a0 a1 a2 a3 b1 b2 b3 b4 b5 b6 b7 : Addr × Obj} {tail : List (Addr × Obj)} (N : News h₀ L h (a0 :: a1 :: a2 :: a3 :: b1 :: b2 :: b3 :: b4 :: b5 :: b6 :: b7 :: tail)) : News h₀ L h (a0 :: a2 :: a3 :: tail) := fun p hp => N p (by
  rcases List.mem_cons.mp hp with rfl | hp
  · exact .head _
  · rcases List.mem_cons.mp hp with rfl | hp
    · exact .tail _ (.tail _ (.head _))
    · rcases List.mem_cons.mp hp with rfl | hp
      · exact .tail _ (.tail _ (.tail _ (.head _)))
      · exact .tail _ (.tail _ (.tail _ (.tail _ (.tail _ (.tail _ (.tail _ (.tail _ (.tail _ (.tail _ (.tail _ hp)))))))))))
theorem off1_own {D : Addr} : ∀ {l : List (Addr × Obj)}, LCg.Off1 D l → OwnOff l [D]
  | [], _ => fun _ hp => nomatch hp
  | _ :: _, h => fun p hp b hb => by
    rw [List.mem_singleton.mp hb]
    rcases List.mem_cons.mp hp with rfl | hp
    · exact h.1
    · exact off1_own h.2 p hp D (by simp)
theorem off1_of {D : Addr} : ∀ {l : List (Addr × Obj)}, (∀ p ∈ l, p.1 ≠ D) → LCg.Off1 D l
  | [], _ => trivial
  | _ :: _, h => ⟨h _ (.head _), off1_of fun p hp => h p (.tail _ hp)⟩
abbrev KLed {σ : Type} (rest : List (Addr × Obj)) : σ → List (Addr × Obj) := fun _ => rest
theorem mulok_fdiv {a b c : Int} (h0 : 0 ≤ a) (h1 : a < 2 ^ 63) (h2 : 0 < b) : IntMulOk (a.fdiv b) c := by
  have e : a.fdiv b = a / b := Int.fdiv_eq_ediv_of_nonneg a (by omega)
  have e1 : 0 ≤ a / b := Int.ediv_nonneg h0 (by omega)
  have e2 : a / b ≤ a := Int.ediv_le_self b h0
  rw [e]
  exact IntMulOk.of_left (intBits_le_64 (by omega) (by omega))
/-- the sum that indent_level's loop has made after i turns -/
def ilF (size : Nat) (cs : List Int) (i : Nat) : Int := ((List.range i).map fun j => ((size + j : Nat) : Int).fdiv (size : Int) * cs.getD (size + j) 0).sum
theorem ilF_succ (size : Nat) (cs : List Int) (i : Nat) : ilF size cs (i + 1) = ilF size cs i + ((size + i : Nat) : Int).fdiv (size : Int) * cs.getD (size + i) 0 := by
  unfold ilF
  rw [List.range_succ, List.map_append, List.sum_append]
  simp
end Mine
end

/-! ## Lead2 -/
section
open PySem PySem.W PyProof.Rows
open PySem.Calls
namespace Mine
def leadPre (n1 n2 : Nat) : List Nat := (Txt.join (Str.ofString "\t") ((leadN n1 n2).map blanks)).cps.toList
theorem lead_codes (n1 n2 : Nat) : (leadS n1 n2).cps.toList = leadPre n1 n2 ++ 120 :: [32, 9] := by
  unfold leadS leadPre
  show (_ ++ _ : Array Nat).toList = _
  rw [Array.toList_append]
  rfl
def joinL : List Nat → List Nat
  | [] => []
  | [n] => List.replicate n 32
  | n :: m :: r => List.replicate n 32 ++ 9 :: joinL (m :: r)
theorem joinL_eq : ∀ l : List Nat, (Str.join (Str.ofString "\t") (l.map blanks)).cps.toList = joinL l
  | [] => rfl
  | [n] => by simp [Str.join, joinL, blanks]
  | n :: m :: r => by
    show ((blanks n ++ Str.ofString "\t") ++ Str.join (Str.ofString "\t") ((m :: r).map blanks)).cps.toList = List.replicate n 32 ++ 9 :: joinL (m :: r)
    rw [← joinL_eq (m :: r)]
    show ((_ ++ _ : Array Nat) ++ _ : Array Nat).toList = _
    rw [Array.toList_append, Array.toList_append, List.append_assoc]
    congr 1
theorem pre_joinL (n1 n2 : Nat) : leadPre n1 n2 = joinL (leadN n1 n2) := by
  unfold leadPre
  rw [← joinL_eq]
  show (Builtin.Str.glued _ _).cps.toList = _
  rw [StrLaws.glued_eq_join]
theorem joinL_white : ∀ l : List Nat, ∀ k ∈ joinL l, k = 32 ∨ k = 9
  | [], k, hk => nomatch hk
  | [n], k, hk => .inl (List.eq_of_mem_replicate hk)
  | n :: m :: r, k, hk => by
    rcases List.mem_append.mp hk with hk | hk
    · exact .inl (List.eq_of_mem_replicate hk)
    · rcases List.mem_cons.mp hk with rfl | hk
      · exact .inr rfl
      · exact joinL_white (m :: r) k hk
theorem white_of {n1 n2 : Nat} : ∀ k ∈ leadPre n1 n2, k = 32 ∨ k = 9 := by
  rw [pre_joinL]
  exact joinL_white _
theorem split_uniq {x y : Nat} {B C : List Nat} (P : Nat → Prop) (hx : ¬P x) (hy : ¬P y) : ∀ (A pre : List Nat), (∀ k ∈ A, P k) → (∀ k ∈ pre, P k) → A ++ x :: B = pre ++ y :: C → A = pre
  | [], [], _, _, _ => rfl
  | a :: A, [], hA, _, e => by
    injection e with e1 e2
    exact absurd (e1 ▸ hA a (.head _)) hy
  | [], p :: pre, _, hp, e => by
    injection e with e1 e2
    exact absurd (e1 ▸ hp p (.head _)) hx
  | a :: A, p :: pre, hA, hp, e => by
    injection e with e1 e2
    rw [e1, split_uniq P hx hy A pre (fun k hk => hA k (.tail _ hk)) (fun k hk => hp k (.tail _ hk)) e2]
theorem chr_eq (c d : Nat) (x : Str) (hx : x = ⟨#[d]⟩) : ((({ cps := #[c] } : Str) == x) = true) ↔ c = d := by
  subst hx
  constructor
  · intro h
    have := eq_of_beq h
    injection this with e
    simpa using e
  · rintro rfl
    exact beq_self_eq_true _
theorem chr_blank {c : Nat} : ((({ cps := #[c] } : Str) == Str.ofString " ") = true) ↔ c = 32 := chr_eq c 32 _ (by rfl)
theorem chr_tab {c : Nat} : ((({ cps := #[c] } : Str) == Str.ofString "\t") = true) ↔ c = 9 := chr_eq c 9 _ (by rfl)
theorem chr_not_blank {c : Nat} (h : (({ cps := #[c] } : Str) == Str.ofString " ") = false) : c ≠ 32 := fun e => by rw [chr_blank.mpr e] at h; exact nomatch h
theorem chr_not_tab {c : Nat} (h : (({ cps := #[c] } : Str) == Str.ofString "\t") = false) : c ≠ 9 := fun e => by rw [chr_tab.mpr e] at h; exact nomatch h
theorem pre_eq {n1 n2 ch : Nat} {pre post : List Nat} (h : (leadS n1 n2).cps.toList = pre ++ ch :: post) (hq : ∀ k ∈ pre, k = 32 ∨ k = 9) (c1 : (({ cps := #[ch] } : Str) == Str.ofString " ") = false) (c2 : (({ cps := #[ch] } : Str) == Str.ofString "\t") = false) : pre = leadPre n1 n2 := by
  rw [lead_codes] at h
  exact (split_uniq (fun k => k = 32 ∨ k = 9) (by decide) (fun e => e.elim (chr_not_blank c1) (chr_not_tab c2)) _ _ white_of hq h).symm
theorem not_white {n1 n2 : Nat} (hq : ∀ k ∈ (leadS n1 n2).cps.toList, k = 32 ∨ k = 9) : False := by
  have := hq 120 (by rw [lead_codes]; simp)
  omega
theorem flat_single {α : Type} (x : α) : ∀ k : Nat, (List.replicate k [x]).flatten = List.replicate k x
  | 0 => rfl
  | k + 1 => by rw [List.replicate_succ, List.flatten_cons, flat_single x k, List.replicate_succ]; rfl
theorem white_snoc {pre : List Nat} {ch : Nat} (h : ∀ k ∈ pre, k = 32 ∨ k = 9) (hc : ch = 32 ∨ ch = 9) : ∀ k ∈ pre ++ [ch], k = 32 ∨ k = 9 := fun k hk => by
  rcases List.mem_append.mp hk with hk | hk
  · exact h k hk
  · rw [List.mem_singleton.mp hk]
    exact hc
theorem bump_grow {cs : List Int} {n : Nat} {nb : Nat} (hl : n = cs.length) (hb : (n : Int) ≤ (nb : Int)) :
    (cs ++ (List.replicate ((nb : Int) - (n : Int) + 1).toNat [(0 : Int)]).flatten).set (nb : Int).toNat ((cs ++ (List.replicate ((nb : Int) - (n : Int) + 1).toNat [(0 : Int)]).flatten).getD (nb : Int).toNat 0 + 1) = bump cs nb := by
  subst hl
  have e : (((nb : Int) - (cs.length : Int) + 1).toNat) = nb + 1 - cs.length := by omega
  rw [flat_single, e]
  rfl
theorem bump_keep {cs : List Int} {n : Nat} {nb : Nat} (hl : n = cs.length) (hb : ¬ (n : Int) ≤ (nb : Int)) : cs.set (nb : Int).toNat (cs.getD (nb : Int).toNat 0 + 1) = bump cs nb := by
  subst hl
  have e : nb + 1 - cs.length = 0 := by omega
  unfold bump
  rw [e]
  simp
theorem off1_lt {D : Addr} : ∀ {l : List (Addr × Obj)}, AllLt D l → LCg.Off1 D l
  | [], _ => trivial
  | _ :: _, h => ⟨fun e => absurd h.1 (by rw [e]; exact Nat.lt_irrefl _), off1_lt h.2⟩
theorem trimT7 {h₀ h : Heap} {L : Addr} {a b1 b2 b3 b4 b5 b6 b7 : Addr × Obj} {tail : List (Addr × Obj)} (N : News h₀ L h (a :: b1 :: b2 :: b3 :: b4 :: b5 :: b6 :: b7 :: tail)) : News h₀ L h (a :: tail) := fun p hp => N p (by
  rcases List.mem_cons.mp hp with rfl | hp
  · exact .head _
  · exact .tail _ (.tail _ (.tail _ (.tail _ (.tail _ (.tail _ (.tail _ (.tail _ hp))))))))
def passedN (n1 n2 : Nat) : Int :=
  ((wrun (leadPre n1 n2)).b : Int) + (n2 : Int) * (ilF n2 (wrun (leadPre n1 n2)).cs ((((wrun (leadPre n1 n2)).cs.length : Nat) : Int) - (n2 : Int)).toNat + ((wrun (leadPre n1 n2)).nt : Int)) - ((n2 / 2 : Nat) : Int) - 2 * (n2 : Int) * (((n2 / 2 : Nat) : Int) + 2)
end Mine
end

section
open PySem PySem.W PyProof.Rows
theorem Mine.top_off_C4 : True := by
  w_top off
  trivial
end

/-! ## C4 -/
section
open PySem PySem.W PyProof.Rows
open PySem.Calls
set_option Elab.async false
set_option rowWalk.seconds 0
namespace Mine

section
local macro_rules | `(tactic| walk_at "call ref") => `(tactic| (k_here; (with_reducible show wpAny _ _ (call (Value.ref 160) [Value.str (dots _) _]) _ _ _); k_dflt (refine' told_o ?_ ?k1 ?k2 ?k3 ?k4 ?k5 ?kK ?kd ?ku ?_; (case k1 => k_asm); (case k2 => k_asm); (case k3 => k_asm); (case k4 => k_asm); (case k5 => k_asm); (case kK => first | exact rfl | assumption); (case kd => ktr_room); (case ku => ktr_units)); rotate_left; intro t9 h9 tk9 H9 F9 N9; (try dsimp only at H9); (try dsimp only); (try k_fold)))
local macro_rules | `(tactic| walk_at "binaryOp Add str str") => `(tactic| refine Stop.out ?_)
local macro_rules | `(tactic| walk_at "call builtin:str.replace") => `(tactic| (refine' replace_blank ?hu ?hv ?huv ?hn ?_; (case hu => first | omega | ((show @Ne Nat _ _); omega)); (case hv => first | omega | ((show @Ne Nat _ _); omega)); (case huv => first | omega | ((show @Ne Nat _ _); omega)); (case hn => omega); intro _ _ hTk; dsimp only at hTk))
local macro_rules | `(tactic| walk_at "binaryOp Mult str int") => `(tactic| ((with_reducible show wpAny _ _ (binaryOp _ (Value.str (blanks _) _) (Value.int _ _)) _ _ _); refine' mul_blank ?ha ?hb ?hn ?_; (case ha => omega); (case hb => omega); (case hn => omega); intro _ _ hTk; dsimp only at hTk))
local macro_rules | `(tactic| walk_at "binaryOp Mult str int") => `(tactic| ((with_reducible show wpAny _ _ (binaryOp _ (Value.str (Str.ofString _) _) (Value.int _ _)) _ _ _); refine' mul_blank1 ?ha ?hb ?_; (case ha => omega); (case hb => omega); intro _ _ hTk; dsimp only at hTk))
local macro_rules | `(tactic| walk_at "execs cons") => `(tactic| (refine' gentoks1 ?_; intro _ _))

local macro_rules | `(tactic| walk_at "call builtin:len") => `(tactic| ((with_reducible show wpAny _ _ (call (Value.builtin "len") [Value.str (dots _) _]) _ _ _); refine len_dots (by omega) ?_))
local macro_rules | `(tactic| walk_at "binaryOp Add ref ref") => `(tactic| (k_here; k_dflt (refine' add_lists' ?F ?N ?l ?b ?_ ?_; (case F => k_asm); (case N => k_asm); (case l => k_mem); (case b => k_mem)); intro _ _ F' N' l1; (try k_lt l1)))
local macro_rules | `(tactic| walk_at "subscriptTail Name Slice ref ref") => `(tactic| (k_here; k_dflt (refine' rev_list ?F ?N ?l ?k ?_ ?s ?t ?_; (case F => k_asm); (case N => k_asm); (case l => k_mem); (case k => exact IsPart.int _ _); (case s => with_unfolding_all rfl); (case t => kmk_pure)); intro D' h' F' N' l1; (try k_lt l1)))
local macro_rules | `(tactic| walk_at "call builtin:str.join") => `(tactic| refine Stop.out ?_)
local macro_rules | `(tactic| k_room) => `(tactic| ktr_room)
local macro_rules | `(tactic| walk_at "pyIter str") => `(tactic| refine Stop.out ?_)
local macro_rules | `(tactic| walk_at "call builtin:len") => `(tactic| (k_here; (with_reducible show wpAny _ _ (call (Value.builtin "len") [Value.ref _]) _ _ _); k_dflt (refine' len_led ?N ?l ?z ?_; (case N => k_asm); (case l => k_mem); (case z => omega))))
local macro_rules | `(tactic| walk_at "call builtin:len") => `(tactic| (k_here; (with_reducible show wpAny _ _ (call (Value.builtin "len") [Value.ref _]) _ _ _); k_dflt (refine' len_tup ?N ?l ?z ?_; (case N => k_asm); (case l => k_mem); (case z => omega))))
local macro_rules | `(tactic| walk_at "pyIter ref") => `(tactic| refine Stop.out ?_)
local macro_rules | `(tactic| walk_at "call type:tuple") => `(tactic| (k_here; k_dflt (refine' tuple_led ?F ?N ?l ?z ?_; (case F => k_asm); (case N => k_asm); (case l => k_mem); (case z => omega)); intro _ _ F' N' l1; (try k_lt l1)))
local macro_rules | `(tactic| walk_at "setItem ref int") => `(tactic| (k_here; k_dflt (refine' set_led ?k1 ?k2 ?k3 ?k4 ?k5 ?k7 ?_ ?_; (case k1 => k_asm); (case k2 => k_asm); (case k3 => k_upd); (case k4 => l_ints); (case k5 => omega); (case k7 => omega)); intro h' F' N' hi'))
local macro_rules | `(tactic| walk_at "subscriptTail Name Name ref int") => `(tactic| (k_here; k_dflt (refine' item_tup ?N ?l ?i ?z ?f ?s ?_ ?b; (case N => k_asm); (case l => k_mem); (case i => l_ints); (case z => omega); (case f => omega); (case s => with_unfolding_all rfl); (case b => omega)); intro _))
local macro_rules | `(tactic| walk_at "binaryOp Mult int int") => `(tactic| (refine' mul_int ?_ ?hm; (case hm => first | mul_fits | exact mulok_fdiv (by omega) (by omega) (by omega) | exact IntMulOk.of_left (intBits_le_64 (by omega) (by omega)))))
local macro_rules | `(tactic| walk_at "GPost") => `(tactic| dsimp only [GPost])
local macro_rules | `(tactic| walk_at "GEnd") => `(tactic| refine Stop.out ?_)
local macro_rules | `(tactic| walk_at "eval ListComp") => `(tactic| refine Stop.out ?_)


set_option maxRecDepth 100000 in
set_option maxHeartbeats 2000000 in
theorem passed_c0 {w : World} {p : Program} {loose : List Str} {mean : ExcName → Option Value} {mg mb : Str → Option Value} {news : List (Addr × Obj)}
   {dp un : Nat} {gd : Option (List Code)} {cn : Str} {cs : Scope} {a : Addr} {ccd : Value} {cl : List (Str × Addr)} {outer : List Env} {A₀ : Around} {base h₀ : Heap} {L : Addr} {m : Str → Option Value} {s : Shared} {Q E : Value → Shared → Prop}
   {n1 n2 : Nat} {t1 t2 : Tok} (h1 : n1 ≤ 13) (h2 : n2 ≤ 13) (ho1 : n1 % 2 = 1) (ho2 : n2 % 2 = 1)
   (B : Below A₀ base outer h₀) (F₀ : Fr h₀ L s.heap m) (X : (Mine.hd.heap_39 w.params).In h₀) (N₀ : News h₀ L s.heap news) (T : Top p loose mean mg mb h₀) (hk : cs.kind = .function) (hdp : dp + 10 < recursionLimit) (hun : un + 40 < cLine)
   (hret : ∀ (D : Addr) (ta tb : Tok) (h' : Heap) (tk' : Nat), Fr h₀ L h' m → News h₀ L h' ((D, ({ cls := .type "tuple", data := .seq #[.int ((passedN n1 n2).fdiv (2 * (n2 : Int))) ta, .int ((passedN n1 n2).fmod (2 * (n2 : Int))) tb] } : Obj)) :: news) → (∀ p ∈ news, p.1 < D) → Q (.ref D) { s with heap := h', toks := tk' }) :
   wpAny (model PySem.Challenge.rw_sn0026_01.row.prog w) (ktrTop dp un gd cn cs L a ccd cl outer) (call (.ref 172) [.str (dots n1) t1, .str (dots n2) t2]) Q E s := by
  revert X; k_fill; intro X
  refine wpAny_call ?_
  k_dflt (refine' code_defC ?k1 ?k2 ?k3 ?k4 ?k5 ?kA ?kF ?kK ?k6 ?k7 ?k8 ?k9 ?kB ?kD ?_ ?c2 ?c3 ?c4; (case kA => exact rfl); (case kF => exact rfl); (case kK => assumption); (case k1 => k_asm); (case k2 => k_asm); (case k3 => k_asm); (case k4 => k_asm); (case k5 => k_asm); (case k6 => k_is); (case k7 => k_is); (case k8 => ktr_room); (case k9 => exact BindsTo.of_eq rfl); (case kB => exact rfl); (case kD => decide +kernel); (case c2 => exact rfl); (case c3 => exact rfl); (case c4 => exact rfl); k_whole; intro g' L' h' tk' cells' FG' F' N' Y' B' X' T' l1; (try k_lt l1); k_cells Y'; (try simp only [List.cons_append, List.nil_append] at N'); (try dsimp only); (try k_lift B'); (try k_fold))
  k_steps
  · unfold Stop
    refine wpAny_toks ?_
    k_dflt (refine ListComp_str (by k_asm) (fun k => blanks (n1 * k.toNat)) (by with_unfolding_all rfl) (by decide) (by rfl) (by decide) (by rfl) ?_)
    refine wpAny_toks ?_
    k_steps
    rename_i hle
    dsimp only at hle
    refine ⟨_, _, _, _, _, _, _, _, rfl, by rfl, by k_asm, by k_asm, by assumption, small_one (by omega) (by omega) (by omega) (by omega), rangeSize_nat _ _, by rw [sizeLine_eq]; omega, ?_, ?_⟩
    · intro k t C oC m₂ s₃ E' hk1 hk2 hC hx F₃ N₃ hlt htk
      dsimp only at htk
      k_fold
      k_steps
    · intro D ys cnt h' tk F' N' hoff hstrs hle2
      dsimp only at hle2 ⊢
      k_fold
      k_steps
      k_unmd
      have hys := ys_len hstrs
      have hw := lead_weight (n1 := n1) (n2 := n2) (by omega) (by omega)
      k_steps
      · unfold Stop
        k_dflt (refine' join_texts ?N ?l (lead_strs hstrs) (by decide) (Nat.le_trans hw (by decide)) ?_; (case N => k_asm); (case l => k_mem))
        intro _ _ hTk
        dsimp only at hTk ⊢
        k_unmd
        k_steps
        unfold Stop
        refine add_stop (fun t' tk4 hTk4 => ?_) ?_
        · dsimp only at hTk4 ⊢
          k_unmd
          have hX := lead_len (n1 := n1) (n2 := n2) (by omega) (by omega)
          have eX : Txt.join (Str.ofString "\t") (List.map blanks (leadN n1 n2)) ++ Str.ofString "x \t" = leadS n1 n2 := rfl
          rw [eX]
          generalize hXX : leadS n1 n2 = X at *
          clear eX
          k_steps
          · unfold Stop
            (rename Fr _ _ _ _ => F1)
            (rename News _ _ _ _ => N1)
            replace N1 := trim7 N1
            with_unfolding_all refine' str_loop (σ := Wσ) (WLed ?rest) WPs [] (WInv ?rest) ⟨_, [], 0, (0, _), (0, _), (0, _)⟩ (by rfl) F1 N1 ?hk ?hp ?turn ?done
            case hk => kst_all
            case hp => exact ⟨(fun _ hk => nomatch hk), .nil, rfl, rfl, rfl, (by
              simp only [LCg.Off1]
              rename _ ∧ _ => lz
              refine ⟨?_, ?_, ?_, off1_lt (by exact lz.2.2.2.2.2.2.2.2.2.2.2)⟩ <;> (show @Ne Nat _ _) <;> omega)⟩
            case done =>
              rintro c u hh tkk ⟨hq1, _⟩
              rw [← hXX] at hq1
              exact (not_white hq1).elim
            case turn =>
              clear F1 N1
              rintro ⟨cl, vs, cnt, ⟨b, tb⟩, ⟨n, tn⟩, ⟨nt, tnt⟩⟩ pre post ch tc u hh tkk ⟨I, oI⟩ hpre ⟨hq1, hq2, hq3, hq4, hq5, hq6⟩ hown F2 N2
              dsimp only [WLed, WPs, kstB] at hq2 hq3 hq4 hq5 hq6 hown F2 N2 ⊢
              have hown2 := off1_of hown
              simp only [LCg.Off1] at hown2 hq6
              obtain ⟨hw1, hw2, hw3, hw4, hw5⟩ := hown2
              obtain ⟨hv1, hv2, hv3, hv4⟩ := hq6
              have ho1 := off1_own hw5
              have ho2 := off1_own hv4
              have hMk9 := kstMark
              have hvl := hq2.length
              have hwb := wrun_bounds pre
              have hpl : pre.length ≤ 2003 := by
                have h1 := congrArg List.length hpre
                rw [List.length_append] at h1
                have h2 : X.cps.toList.length = X.length := by simp [Str.length]
                omega
              k_unmd
              k_fold
              k_steps
              rotate_left
              rotate_left
              rotate_left
              rotate_left
              · unfold Stop
                (rename Fr _ _ _ _ => F3)
                (rename News _ _ _ _ => N3)
                (rename IsRange _ _ _ _ _ _ _ _ => rgX)
                with_unfolding_all refine' range_loop (σ := Int × Tok) (KLed ?restB) (fun c => [(Str.ofString "il", .int c.1 c.2)]) [] (fun i c => c.1 = ilF n2 (wrun pre).cs i) ⟨0, _⟩ (by rfl) rgX (small_one (by omega) (by omega) (by omega) (by omega)) (rangeSize_nat _ _) F3 N3 ?hk ?hp ?turn ?done
                case hk => kst_all
                case hp => rfl
                case turn =>
                  clear F3 N3
                  rintro ⟨il, til⟩ i ti u3 h3 tk3 ⟨I3, oI3⟩ hi3 hil hown3 F3 N3
                  dsimp only [KLed, kstB] at hil hown3 F3 N3 ⊢
                  have hi4 : n2 + i < (wrun pre).cs.length := by omega
                  have hi5 : ((n2 : Int) + (i : Int)) < (((wrun pre).cs.length : Nat) : Int) := by omega
                  k_unmd
                  k_fold
                  k_steps
                  unfold Stop
                  (rename Fr _ _ _ _ => F4)
                  (rename News _ _ _ _ => N4)
                  refine g_end ⟨_, _⟩ F4 N4 (by kst_in) (.head _) hown3 (by kst_all) (by kst_same) ?_
                  show _ = ilF _ _ (i + 1)
                  rw [ilF_succ, ← hil]
                  have e1 : ((n2 : Int) + (i : Int)).toNat = n2 + i := by omega
                  rw [e1]
                  rfl
                case done =>
                  clear F3 N3
                  rintro ⟨il, til⟩ u3 h3 tk3 hil F3 N3
                  dsimp only [KLed, kstB] at hil F3 N3 ⊢
                  k_unmd
                  (try k_fold)
                  k_steps
                  (rename Fr _ _ _ _ => F4)
                  (rename News _ _ _ _ => N4)
                  have c1 : ((({ cps := #[ch] } : Str)) == Str.ofString " ") = false := by assumption
                  have c2 : ((({ cps := #[ch] } : Str)) == Str.ofString "\t") = false := by assumption
                  rw [← hXX] at hpre
                  have hpre2 := pre_eq hpre hq1 c1 c2
                  subst hpre2
                  have hval : b + (n2 : Int) * (il + nt) - ((n2 / 2 : Nat) : Int) - 2 * (n2 : Int) * (((n2 / 2 : Nat) : Int) + 2) = passedN n1 n2 := by
                    rw [hq3, hq5, hil]
                    rfl
                  rw [hval] at N4
                  exact hret _ _ _ _ _ F4 (trimT7 N4) fun p hp => Heap.lt_size (N3 p (.tail _ (.tail _ (.tail _ (.tail _ (.tail _ (.tail _ (.tail _ hp)))))))).1
              · unfold Stop
                have hc := chr_blank.mp ‹((({ cps := #[ch] } : Str)) == Str.ofString " ") = true›
                (rename Fr _ _ _ _ => F4)
                (rename News _ _ _ _ => N4)
                refine g_end (cl, vs, cnt, (_, _), (_, _), (_, _)) F4 N4 (by kst_in) (.head _) hown (by kst_all) (by (intro z h1 h2 h3; dsimp only [WPs] at h2; simp only [List.forall_mem_cons, List.not_mem_nil, false_implies, implies_true, and_true, ne_eq] at h2; simp [h1, h2])) ⟨white_snoc hq1 (.inl hc), ?_⟩
                rw [wrun_snoc]
                unfold wstep
                rw [if_pos hc]
                exact ⟨hq2, by dsimp only; omega, by dsimp only; omega, hq5, hv1, hv2, hv3, hv4⟩
              · unfold Stop
                have hc := chr_tab.mp ‹((({ cps := #[ch] } : Str)) == Str.ofString "\t") = true›
                have hc2 : ¬ch = 32 := by omega
                have hb1 : (vs.length : Int) ≤ b := by assumption
                (rename Fr _ _ _ _ => F4)
                (rename News _ _ _ _ => N4)
                (rename IntsAre _ _ => hi4)
                (rename _ < _ ∧ _ => lz)
                refine g_end (_, _, 0, (_, _), (_, _), (_, _)) F4 N4 (List.forall_mem_cons.mpr ⟨.head _, fun p hp => .tail _ (.tail _ (.tail _ (.tail _ (.tail _ hp))))⟩) (.tail _ (.tail _ (.tail _ (.head _)))) (List.forall_mem_cons.mpr ⟨(show @Ne Nat _ _ by omega), fun p hp => hown p (.tail _ hp)⟩) (by kst_all) (by (intro z h1 h2 h3; dsimp only [WPs] at h2; simp only [List.forall_mem_cons, List.not_mem_nil, false_implies, implies_true, and_true, ne_eq] at h2; simp [h1, h2])) ⟨white_snoc hq1 (.inr hc), ?_⟩
                rw [wrun_snoc]
                unfold wstep
                rw [if_neg hc2]
                subst hq3
                rw [bump_grow hvl hb1] at hi4
                refine ⟨hi4, rfl, by dsimp only; omega, by dsimp only; omega, ?_, ?_, ?_, off1_lt lz.2.2.2.2.2.2.2⟩ <;> (show @Ne Nat _ _) <;> omega
              · rw [flat_single, List.length_replicate]
                omega
              · unfold Stop
                have hc := chr_tab.mp ‹((({ cps := #[ch] } : Str)) == Str.ofString "\t") = true›
                have hc2 : ¬ch = 32 := by omega
                have hb1 : ¬ (vs.length : Int) ≤ b := by assumption
                (rename Fr _ _ _ _ => F4)
                (rename News _ _ _ _ => N4)
                (rename IntsAre _ _ => hi4)
                refine g_end (cl, _, _, (_, _), (_, _), (_, _)) F4 N4 (List.forall_mem_cons.mpr ⟨.tail _ (.head _), fun p hp => .tail _ (.tail _ hp)⟩) (.head _) (List.forall_mem_cons.mpr ⟨hw1, fun p hp => hown p (.tail _ hp)⟩) (by kst_all) (by (intro z h1 h2 h3; dsimp only [WPs] at h2; simp only [List.forall_mem_cons, List.not_mem_nil, false_implies, implies_true, and_true, ne_eq] at h2; simp [h1, h2])) ⟨white_snoc hq1 (.inr hc), ?_⟩
                rw [wrun_snoc]
                unfold wstep
                rw [if_neg hc2]
                subst hq3
                rw [bump_keep hvl hb1] at hi4
                exact ⟨hi4, rfl, by dsimp only; omega, by dsimp only; omega, hv1, hv2, hv3, hv4⟩
        · unfold Stop
          have hX2 := lead_len (n1 := n1) (n2 := n2) (by omega) (by omega)
          unfold leadS at hX2
          rw [Str.length_append] at hX2
          rw [sizeLine_eq]
          omega
      all_goals (simp only [List.length_append, List.length_reverse, List.length_cons, List.length_nil, ys_len hstrs]; omega)
end
end Mine
end

/-! ## Pure4 -/
section
open PySem PySem.W PyProof.Rows
namespace Mine
def endS (k : Nat) : Str := if k = 0 then Str.ofString "\n" else if k = 1 then Str.ofString "\x0d" else Str.ofString "\x0d\n"
def endL (k : Nat) : List Nat := if k = 0 then [10] else if k = 1 then [13] else [13, 10]
def mailL (a b : Nat) (e : List Nat) (c : Nat) : List Nat := List.replicate a 46 ++ (e ++ 62 :: (List.replicate b 46 ++ (e ++ (List.replicate c 46 ++ [62]))))
theorem crlf_dots (r : List Nat) : ∀ n, crlfA false (List.replicate n 46 ++ r) = List.replicate n 46 ++ crlfA false r
  | 0 => rfl
  | n + 1 => by
    rw [List.replicate_succ, List.cons_append, List.cons_append, ← crlf_dots r n]
    rfl
theorem crlf_dots1 (r : List Nat) (n : Nat) (p : Bool) : crlfA p (List.replicate (n + 1) 46 ++ r) = List.replicate (n + 1) 46 ++ crlfA false r := by
  rw [← crlf_dots]
  rfl
theorem dd_dots (r : List Nat) : ∀ n, ddA false (List.replicate n 46 ++ r) = List.replicate n 46 ++ ddA false r
  | 0 => rfl
  | n + 1 => by
    rw [List.replicate_succ, List.cons_append, List.cons_append, ← dd_dots r n]
    rfl
theorem dd_dots1 (r : List Nat) (n : Nat) : ddA true (List.replicate (n + 1) 46 ++ r) = List.replicate (n + 2) 46 ++ ddA false r := by
  rw [List.replicate_succ, List.cons_append, List.replicate_succ, List.replicate_succ, List.cons_append, List.cons_append, ← dd_dots]
  rfl
theorem crlf_mail (a b c k : Nat) : crlfA false (mailL a b (endL k) (c + 1)) = mailL a b [13, 10] (c + 1) := by
  unfold mailL endL
  rw [crlf_dots]
  split
  · show _ ++ 13 :: 10 :: 62 :: crlfA false _ = _
    rw [crlf_dots]
    show _ ++ 13 :: 10 :: 62 :: (_ ++ 13 :: 10 :: crlfA false (List.replicate (c + 1) 46 ++ [62])) = _
    rw [crlf_dots1]
    rfl
  · split
    · show _ ++ 13 :: 10 :: 62 :: crlfA false _ = _
      rw [crlf_dots]
      show _ ++ 13 :: 10 :: 62 :: (_ ++ 13 :: 10 :: crlfA true (List.replicate (c + 1) 46 ++ [62])) = _
      rw [crlf_dots1]
      rfl
    · show _ ++ 13 :: 10 :: 62 :: crlfA false _ = _
      rw [crlf_dots]
      show _ ++ 13 :: 10 :: 62 :: (_ ++ 13 :: 10 :: crlfA false (List.replicate (c + 1) 46 ++ [62])) = _
      rw [crlf_dots1]
      rfl
theorem dd_mail (a b c : Nat) : ddA true (mailL (a + 1) b [13, 10] (c + 1)) = mailL (a + 2) b [13, 10] (c + 2) := by
  unfold mailL
  rw [dd_dots1]
  show _ ++ 13 :: 10 :: 62 :: ddA false _ = _
  rw [dd_dots]
  show _ ++ 13 :: 10 :: 62 :: (_ ++ 13 :: 10 :: ddA true (List.replicate (c + 1) 46 ++ [62])) = _
  rw [dd_dots1]
  rfl
/-- the mail after j quotings -/
def mailT (a b k j : Nat) : Str := ⟨(mailL (a + j) b (if j = 0 then endL k else [13, 10]) (j + 1)).toArray⟩
theorem mail_quote {a b k j : Nat} (ha : 1 ≤ a) : quoteS (mailT a b k j) = mailT a b k (j + 1) := by
  obtain ⟨a, rfl⟩ : ∃ a', a = a' + 1 := ⟨a - 1, by omega⟩
  have h2 : endL 2 = [13, 10] := rfl
  have h3 : ∃ k', (if j = 0 then endL k else [13, 10]) = endL k' := by
    split
    · exact ⟨_, rfl⟩
    · exact ⟨2, rfl⟩
  obtain ⟨k', h3⟩ := h3
  unfold mailT quoteS quoteL
  rw [if_neg (by omega : ¬ j + 1 = 0), h3]
  congr 2
  show ddA true (crlfA false (mailL _ b (endL k') (j + 1))) = _
  rw [crlf_mail]
  have e : a + 1 + j = (a + j) + 1 := by omega
  have e2 : a + 1 + (j + 1) = (a + j) + 2 := by omega
  rw [e, e2, dd_mail]
theorem mail_len {a b k j : Nat} (ha : a ≤ 13) (hb : b ≤ 13) (hj : j ≤ 13) : (mailT a b k j).length ≤ 150 := by
  have h3 : (if j = 0 then endL k else [13, 10]).length ≤ 2 := by
    unfold endL
    split
    · split
      · decide
      · split <;> decide
    · decide
  have : (mailT a b k j).length = (mailL (a + j) b (if j = 0 then endL k else [13, 10]) (j + 1)).length := by simp [mailT, Str.length]
  rw [this]
  unfold mailL
  simp only [List.length_append, List.length_cons, List.length_replicate, List.length_nil]
  omega
theorem end_list (k : Nat) : (endS k).cps.toList = endL k := by
  unfold endS endL
  split
  · rfl
  · split <;> rfl
theorem mail_zero (a b k : Nat) : dots a ++ endS k ++ Str.ofString ">" ++ dots b ++ endS k ++ Str.ofString ".>" = mailT a b k 0 := by
  have h : (dots a ++ endS k ++ Str.ofString ">" ++ dots b ++ endS k ++ Str.ofString ".>").cps.toList = (mailT a b k 0).cps.toList := by
    show ((((((_ ++ _ : Array Nat) ++ _ : Array Nat) ++ _ : Array Nat) ++ _ : Array Nat) ++ _ : Array Nat)).toList = _
    simp only [Array.toList_append, end_list]
    unfold mailT mailL dots
    simp only [List.append_assoc]
    rfl
  have h2 := Array.toList_inj.mp h
  cases hx : (dots a ++ endS k ++ Str.ofString ">" ++ dots b ++ endS k ++ Str.ofString ".>")
  rw [hx] at h2
  exact congrArg Str.mk h2
def splitOK (a b : Nat) : Bool := (Txt.split (mailT a b 0 b) (Str.ofString "\x0d\n")) == [dots (a + b), Str.ofString ">" ++ dots b, Str.ofString "." ++ dots b ++ Str.ofString ">"]
set_option maxRecDepth 100000 in
theorem split_0 : ((List.range 7).all fun b => splitOK (2 * 0 + 1) (2 * b + 1)) = true := by decide +kernel
set_option maxRecDepth 100000 in
theorem split_1 : ((List.range 7).all fun b => splitOK (2 * 1 + 1) (2 * b + 1)) = true := by decide +kernel
set_option maxRecDepth 100000 in
theorem split_2 : ((List.range 7).all fun b => splitOK (2 * 2 + 1) (2 * b + 1)) = true := by decide +kernel
set_option maxRecDepth 100000 in
theorem split_3 : ((List.range 7).all fun b => splitOK (2 * 3 + 1) (2 * b + 1)) = true := by decide +kernel
set_option maxRecDepth 100000 in
theorem split_4 : ((List.range 7).all fun b => splitOK (2 * 4 + 1) (2 * b + 1)) = true := by decide +kernel
set_option maxRecDepth 100000 in
theorem split_5 : ((List.range 7).all fun b => splitOK (2 * 5 + 1) (2 * b + 1)) = true := by decide +kernel
set_option maxRecDepth 100000 in
theorem split_6 : ((List.range 7).all fun b => splitOK (2 * 6 + 1) (2 * b + 1)) = true := by decide +kernel
set_option maxRecDepth 100000 in
theorem split_all : ((List.range 7).all fun a => (List.range 7).all fun b => splitOK (2 * a + 1) (2 * b + 1)) = true := by
  refine List.all_eq_true.mpr fun a ha => ?_
  have h := List.mem_range.mp ha
  match a, h with
  | 0, _ => exact split_0
  | 1, _ => exact split_1
  | 2, _ => exact split_2
  | 3, _ => exact split_3
  | 4, _ => exact split_4
  | 5, _ => exact split_5
  | 6, _ => exact split_6
  | n + 7, h => omega
theorem mail_split {a b k : Nat} (ha : a ≤ 13) (hb : b ≤ 13) (oa : a % 2 = 1) (ob : b % 2 = 1) : Txt.split (mailT a b k b) (Str.ofString "\x0d\n") = [dots (a + b), Str.ofString ">" ++ dots b, Str.ofString "." ++ dots b ++ Str.ofString ">"] := by
  have h := List.all_eq_true.mp (List.all_eq_true.mp split_all (a / 2) (List.mem_range.mpr (by omega))) (b / 2) (List.mem_range.mpr (by omega))
  have e1 : 2 * (a / 2) + 1 = a := by omega
  have e2 : 2 * (b / 2) + 1 = b := by omega
  rw [e1, e2] at h
  have e3 : mailT a b k b = mailT a b 0 b := by
    unfold mailT
    rw [if_neg (by omega), if_neg (by omega)]
  rw [e3]
  exact eq_of_beq h
/-- what the readings of _law_turn make of the count of dots and the flips -/
def readF (half : Nat) (c : Nat × Int) : Nat × Int := if c.1 % 2 = 0 then (c.1 / 2, c.2 + ((half : Int) * ((half : Int) + 1)).fdiv 2) else c
def readI (half : Nat) (c : Nat × Int) : Nat → Nat × Int
  | 0 => c
  | i + 1 => readF half (readI half c i)
theorem readF_le (half : Nat) (c : Nat × Int) : (readF half c).1 ≤ c.1 := by
  unfold readF
  split
  · exact Nat.div_le_self _ _
  · exact Nat.le_refl _
theorem readI_le (half : Nat) (c : Nat × Int) : ∀ i, (readI half c i).1 ≤ c.1
  | 0 => Nat.le_refl _
  | i + 1 => Nat.le_trans (readF_le _ _) (readI_le half c i)
theorem told_tail : ∀ n, n < 27 → ((Txt.slice (toldS n) (some (-2)) none == Str.ofString "\x0d\n") = decide (n % 2 = 0)) ∧ (n % 2 = 0 → Txt.slice (toldS n) none (some (-2)) = dots (n / 2)) := by decide +kernel
theorem told_len : ∀ n, n < 27 → (toldS n).length ≤ 15 := by decide +kernel
def turnN (a b : Nat) : Nat := (readI (b / 2) (a + b, 0) 4).1
def turnFl (a b : Nat) : Int := (readI (b / 2) (a + b, 0) 4).2 + ((b / 2 : Nat) : Int) * (((toldS (turnN a b)).length : Nat) : Int)
theorem end_len (k : Nat) : (endS k).length ≤ 2 := by
  unfold endS
  split
  · decide
  · split <;> decide
theorem mid_ok : ∀ b, b < 14 → PyData.strOk (Str.ofString ">" ++ dots b) = true ∧ PyData.strOk (Str.ofString "." ++ dots b ++ Str.ofString ">") = true := by decide +kernel
end Mine
end

section
open PySem PySem.W PyProof.Rows
theorem Mine.top_off_C5 : True := by
  w_top off
  trivial
end

/-! ## C5 -/
section
open PySem PySem.W PyProof.Rows
open PySem.Calls
set_option Elab.async false
set_option rowWalk.seconds 0
namespace Mine

section
variable {prog : Program} {w : World} {A : Around} {E : Value → Shared → Prop} {s : Shared} {h₀ : Heap} {L : Addr} {m : Str → Option Value} {news : List (Addr × Obj)} {Q : Value → Shared → Prop}
theorem split3 {x y x1 x2 x3 : Str} {t u : Tok} (hF : Fr h₀ L s.heap m) (hN : News h₀ L s.heap news) (hy : (y.length == 0) = false) (hs : Txt.split x y = [x1, x2, x3]) (hsz : x.length + 2 ≤ sizeLine)
    (h : ∀ D t1 t2 t3 h' k, s.toks ≤ k → Fr h₀ L h' m → News h₀ L h' ((D, listOf #[.str x1 t1, .str x2 t2, .str x3 t3] 0) :: news) → (∀ p ∈ news, p.1 < D) → Q (.ref D) { s with heap := h', toks := k }) :
    wpAny (model prog w) A (call (.builtin "str.split") [.str x t, .str y u]) Q E s := by
  refine wpAny_toks (KSpl.split1 hF hN hy (fun D l h' k e hS F N hlt hle => ?_) hsz)
  rw [hs] at e
  obtain ⟨t1, l1, rfl, e1⟩ := KSpl.cons_of e
  obtain ⟨t2, l2, rfl, e2⟩ := KSpl.cons_of e1
  obtain ⟨t3, l3, rfl, e3⟩ := KSpl.cons_of e2
  have := KSpl.nil_of e3
  subst this
  exact h D t1 t2 t3 h' k hle F N hlt
theorem cut_told {value slice : PySem.Expr} {n : Nat} {t uj : Tok} (hF : Fr h₀ L s.heap m) (hN : News h₀ L s.heap news) (he : (Txt.slice (toldS n) (some (-2)) none == Str.ofString "\x0d\n") = true) (hn : n < 27)
    (h : ∀ h' t' k, s.toks ≤ k → Fr h₀ L h' m → News h₀ L h' news → Q (.str (dots (n / 2)) t') { s with heap := h', toks := k })
    (hs : subscripted slice false (.str (toldS n) t) (.ref s.heap.objs.size) = operate [.ref s.heap.objs.size, .str (toldS n) t] (getItem (.str (toldS n) t) (.ref s.heap.objs.size)))
    (ht : ∀ r, letTemporaryGo value (.str (toldS n) t) r = pure ()) :
    wpAny (model prog w) A (subscriptTail value slice (.str (toldS n) t) (.ref s.heap.objs.size)) Q E { s with heap := s.heap.push { cls := .type "slice", data := .fields #[.none, .int (-2) uj, .none] } } := by
  have ht9 := told_tail n hn
  rw [ht9.1] at he
  have e := ht9.2 (of_decide_eq_true he)
  refine wpAny_toks (slice_strN_ns hF hN (fun h' t' k F N hle => ?_) hs ht (by have := told_len n hn; rw [sizeLine_eq]; omega))
  rw [e]
  exact h h' t' k hle F N
theorem allLt_all {d : Nat} : ∀ {l : List (Addr × Obj)}, AllLt d l → ∀ p ∈ l, p.1 < d
  | [], _, _, hp => nomatch hp
  | _ :: _, h, p, hp => by
    rcases List.mem_cons.mp hp with rfl | hp
    · exact h.1
    · exact allLt_all h.2 p hp
theorem trimT3 {h₀ h : Heap} {L : Addr} {a b1 b2 b3 : Addr × Obj} {tail : List (Addr × Obj)} (N : News h₀ L h (a :: b1 :: b2 :: b3 :: tail)) : News h₀ L h (a :: tail) := fun p hp => N p (by
  rcases List.mem_cons.mp hp with rfl | hp
  · exact .head _
  · exact .tail _ (.tail _ (.tail _ (.tail _ hp))))
theorem ne_two {a b : Addr} {x y : Str} {t1 t2 t3 t4 : Tok} {c1 c2 : Nat} (N : News h₀ L s.heap news) (la : (a, listOf #[.str x t1, .str y t2] c1) ∈ news) (lb : (b, listOf #[.str x t3, .str y t4] c2) ∈ news) (hu : A.units + 64 < cLine) (hx : PyData.strOk x = true) (hy : PyData.strOk y = true) (h : Q (.bool false) s) :
    wpAny (model prog w) A (compareOp .NotEq (.ref a) (.ref b)) Q E s := by
  have e : PyData.eqv (.list [.str x, .str y]) (.list [.str x, .str y]) = true := by simp [PyData.eqv, PyData.eqvAll]
  refine ne_dataH (reads_newData (N.isList la) (.cons (.str x t1) (.cons (.str y t2) .nil))) (reads_newData (N.isList lb) (.cons (.str x t3) (.cons (.str y t4) .nil))) ?_ ?_ hu (by rw [e]; exact h)
  · simp [SeqAt.shaped, PyData.canLay0, PyData.canLayAll0, PyData.depth, PyData.depthAll, hx, hy]
  · simp [SeqAt.shaped, PyData.canLay0, PyData.canLayAll0, PyData.depth, PyData.depthAll, hx, hy]
end
section
local macro_rules | `(tactic| walk_at "binaryOp Add str str") => `(tactic| (refine' add_stop ?_ ?_; intro _ _ hTk; dsimp only at hTk))
local macro_rules | `(tactic| walk_at "execs cons") => `(tactic| (refine' gentoks1 ?_; intro _ _))
local macro_rules | `(tactic| k_room) => `(tactic| ktr_room)
local macro_rules | `(tactic| walk_at "pyIter str") => `(tactic| refine Stop.out ?_)
local macro_rules | `(tactic| walk_at "pyIter ref") => `(tactic| refine Stop.out ?_)
local macro_rules | `(tactic| walk_at "GPost") => `(tactic| dsimp only [GPost])
local macro_rules | `(tactic| walk_at "GEnd") => `(tactic| refine Stop.out ?_)
local macro_rules | `(tactic| walk_at "call ref") => `(tactic| (k_here; (with_reducible show wpAny _ _ (call (Value.ref 87) [Value.str _ _]) _ _ _); k_dflt (refine' quote_c ?_ ?k1 ?k2 ?k3 ?k4 ?k5 ?kK ?kd ?ku ?_; (case k1 => k_asm); (case k2 => k_asm); (case k3 => k_asm); (case k4 => k_asm); (case k5 => k_asm); (case kK => first | exact rfl | assumption); (case kd => ktr_room); (case ku => ktr_units)); rotate_left; intro t9 h9 tk9 H9 F9 N9; (try dsimp only at H9); (try dsimp only); (try k_fold)))
local macro_rules | `(tactic| walk_at "call ref") => `(tactic| (k_here; (with_reducible show wpAny _ _ (call (Value.ref 160) [Value.str (dots _) _]) _ _ _); k_dflt (refine' told_c ?_ ?k1 ?k2 ?k3 ?k4 ?k5 ?kK ?kd ?ku ?_; (case k1 => k_asm); (case k2 => k_asm); (case k3 => k_asm); (case k4 => k_asm); (case k5 => k_asm); (case kK => first | exact rfl | assumption); (case kd => ktr_room); (case ku => ktr_units)); rotate_left; intro t9 h9 tk9 H9 F9 N9; (try dsimp only at H9); (try dsimp only); (try k_fold)))
local macro_rules | `(tactic| walk_at "call ref") => `(tactic| (k_here; (with_reducible show wpAny _ _ (call (Value.ref 160) [Value.str (dots _) _]) _ _ _); k_dflt (refine' told_o ?hn ?k1 ?k2 ?k3 ?k4 ?k5 ?kK ?kd ?ku ?_; (case hn => omega); (case k1 => k_asm); (case k2 => k_asm); (case k3 => k_asm); (case k4 => k_asm); (case k5 => k_asm); (case kK => first | exact rfl | assumption); (case kd => ktr_room); (case ku => ktr_units)); intro t9 h9 tk9 H9 F9 N9; (try dsimp only at H9); (try dsimp only); (try k_fold)))
local macro_rules | `(tactic| walk_at "call builtin:len") => `(tactic| ((with_reducible show wpAny _ _ (call (Value.builtin "len") [Value.str (dots _) _]) _ _ _); refine len_dots (by omega) ?_))
local macro_rules | `(tactic| walk_at "call builtin:str.split") => `(tactic| refine Stop.out ?_)

local macro_rules | `(tactic| walk_at "exec For Name Name cons nil") => `(tactic| (k_here; (rename Fr _ _ _ _ => lF'); (with_unfolding_all refine' For_invVF lF' ?k1 ?k2 ?_; (case k1 => exact rfl); (case k2 => exact rfl); k_whole)))
local macro_rules | `(tactic| walk_at "exec For Name Call cons nil") => `(tactic| (k_here; (rename Fr _ _ _ _ => lF'); (with_unfolding_all refine' For_invVF lF' ?k1 ?k2 ?_; (case k1 => exact rfl); (case k2 => exact rfl); k_whole)))
local macro_rules | `(tactic| walk_at "subscriptTail Name Slice str ref") => `(tactic| (k_here; k_dflt (refine' cut_told (s := ⟨_, _, _, _, _⟩) ?F ?N ?e ?n ?_ ?s ?t; (case F => k_asm); (case N => k_asm); (case e => assumption); (case n => omega); (case s => with_unfolding_all rfl); (case t => kmk_pure)); intro _ _ _ hTk F' N'; (try dsimp only at hTk); (try dsimp only)))
local macro_rules | `(tactic| walk_at "compareOp NotEq ref ref") => `(tactic| (k_here; k_dflt (refine' ne_two ?N ?a ?b ?u ?x ?y ?_; (case N => k_asm); (case a => k_mem); (case b => k_mem); (case u => ktr_units); (case x => exact (mid_ok _ (by omega)).1); (case y => exact (mid_ok _ (by omega)).2))))
set_option maxRecDepth 100000 in
set_option maxHeartbeats 2000000 in
theorem turn_c0 {w : World} {p : Program} {loose : List Str} {mean : ExcName → Option Value} {mg mb : Str → Option Value} {news : List (Addr × Obj)}
   {dp un : Nat} {gd : Option (List Code)} {cn : Str} {cs : Scope} {a : Addr} {ccd : Value} {cl : List (Str × Addr)} {outer : List Env} {A₀ : Around} {base h₀ : Heap} {L : Addr} {m : Str → Option Value} {s : Shared} {Q E : Value → Shared → Prop}
   {n1 n2 k : Nat} {t1 t2 t3 : Tok} (h1 : n1 ≤ 13) (h2 : n2 ≤ 13) (ho1 : n1 % 2 = 1) (ho2 : n2 % 2 = 1)
   (B : Below A₀ base outer h₀) (F₀ : Fr h₀ L s.heap m) (X : (Mine.hd.heap_39 w.params).In h₀) (N₀ : News h₀ L s.heap news) (T : Top p loose mean mg mb h₀) (hk : cs.kind = .function) (hdp : dp + 10 < recursionLimit) (hun : un + 100 < cLine)
   (hret : ∀ (D : Addr) (ta tb tc : Tok) (h' : Heap) (tk' : Nat), Fr h₀ L h' m → News h₀ L h' ((D, ({ cls := .type "tuple", data := .seq #[.str (dots n2) ta, .str (dots (turnN n1 n2)) tb, .int (turnFl n1 n2) tc] } : Obj)) :: news) → (∀ p ∈ news, p.1 < D) → Q (.ref D) { s with heap := h', toks := tk' }) :
   wpAny (model PySem.Challenge.rw_sn0026_01.row.prog w) (ktrTop dp un gd cn cs L a ccd cl outer) (call (.ref 167) [.str (dots n1) t1, .str (dots n2) t2, .str (endS k) t3]) Q E s := by
  revert X; k_fill; intro X
  refine wpAny_call ?_
  k_dflt cell_enter
  k_steps
  · unfold Stop
    (rename Fr _ _ _ _ => F1)
    (rename News _ _ _ _ => N1)
    rw [mail_zero] at F1
    with_unfolding_all refine' str_loop (σ := Nat × Tok) (KLed ?rest) (fun c => [(Str.ofString "mail", .str (mailT n1 n2 k c.1) c.2)]) [] (fun pre c => c.1 = pre.length) ⟨0, _⟩ (by rfl) F1 N1 ?hk ?hp ?turn ?done
    case hk => kst_all
    case hp => rfl
    case turn =>
      clear F1 N1
      rintro ⟨j, tj⟩ pre post ch tc u hh tkk ⟨I, oI⟩ hpre hj hown F2 N2
      dsimp only [KLed, kstB] at hj hown F2 N2 ⊢
      have hn2 : j + 1 ≤ n2 := by
        have h1 := congrArg List.length hpre
        rw [List.length_append, ← hj] at h1
        have h2 : (dots n2).cps.toList.length = n2 := by simp [dots]
        rw [h2] at h1
        simp only [List.length_cons] at h1
        omega
      k_unmd
      k_fold
      k_steps
      · unfold Stop
        (rename Fr _ _ _ _ => F4)
        (rename News _ _ _ _ => N4)
        rw [mail_quote (by omega)] at F4
        refine g_end ⟨j + 1, _⟩ F4 N4 (by kst_in) (.head _) hown (by kst_all) (by kst_same) ?_
        show j + 1 = (pre ++ [ch]).length
        rw [List.length_append, ← hj]
        rfl
      · exact mail_len h1 h2 (by omega)
    case done =>
      clear F1 N1
      rintro ⟨j, tj⟩ u hh tkk hj F2 N2
      dsimp only [KLed, kstB] at hj F2 N2 ⊢
      have h3 : (dots n2).cps.toList.length = n2 := by simp [dots]
      rw [h3] at hj
      subst hj
      k_unmd
      (try k_fold)
      k_steps
      · unfold Stop
        have hml : (mailT n1 j k j).length + 2 ≤ sizeLine := by
          have := mail_len (a := n1) (b := j) (k := k) (j := j) h1 h2 h2
          rw [sizeLine_eq]
          omega
        k_dflt (refine split3 (by k_asm) (by k_asm) (by decide) (mail_split h1 h2 ho1 ho2) hml ?_)
        intro D' x1 x2 x3 h' k' hkk F' N' l1
        (try k_lt l1)
        dsimp only at hkk ⊢
        k_unmd
        (try k_fold)
        k_steps
        · unfold Stop
          (rename Fr _ _ _ _ => F3)
          (rename News _ _ _ _ => N3)
          (rename IsRange _ _ _ _ _ _ _ _ => rgX)
          have hMk9 := kstMark
          with_unfolding_all refine' range_loop (σ := (Nat × Int) × Tok × Tok × Tok) (KLed ?restB) (fun c => [(Str.ofString "first", .str (dots c.1.1) c.2.1), (Str.ofString "told", .str (toldS c.1.1) c.2.2.1), (Str.ofString "flips", .int c.1.2 c.2.2.2)]) [] (fun i c => c.1 = readI (j / 2) (n1 + j, 0) i) ⟨(n1 + j, 0), _, _, _⟩ (by rfl) rgX (small_one (by omega) (by omega) (by omega) (by omega)) (rangeSize_nat _ _) F3 N3 ?hk ?hp ?turn ?done
          case hk => kst_all
          case hp => rfl
          case turn =>
            clear F3 N3
            rintro ⟨⟨n, fl⟩, y1, y2, y3⟩ i ti u3 h3 tk3 ⟨I3, oI3⟩ hi3 hc hown3 F3 N3
            dsimp only [KLed, kstB] at hc hown3 F3 N3 ⊢
            have hle3 := readI_le (j / 2) (n1 + j, 0) i
            rw [← hc] at hle3
            dsimp only at hle3
            have htl := told_len n (by omega)
            k_unmd
            k_fold
            k_steps
            · unfold Stop
              (rename Fr _ _ _ _ => F4)
              (rename News _ _ _ _ => N4)
              have he : (Txt.slice (toldS n) (some (-2)) none == Str.ofString "\x0d\n") = true := by assumption
              rw [(told_tail n (by omega)).1] at he
              refine g_end ⟨(n / 2, _), _, _, _⟩ F4 N4 (by kst_in) (.head _) hown3 (by kst_all) (by kst_same) ?_
              show _ = readF _ (readI _ _ i)
              rw [← hc]
              unfold readF
              rw [if_pos (of_decide_eq_true he)]
            · unfold Stop
              (rename Fr _ _ _ _ => F4)
              (rename News _ _ _ _ => N4)
              have he : (Txt.slice (toldS n) (some (-2)) none == Str.ofString "\x0d\n") = false := by assumption
              rw [(told_tail n (by omega)).1] at he
              refine g_end ⟨(n, fl), _, _, _⟩ F4 N4 (by kst_in) (.head _) hown3 (by kst_all) (by kst_same) ?_
              show _ = readF _ (readI _ _ i)
              rw [← hc]
              unfold readF
              rw [if_neg (of_decide_eq_false he)]
          case done =>
            clear F3 N3
            rintro ⟨⟨n, fl⟩, y1, y2, y3⟩ u3 h3 tk3 hc F3 N3
            dsimp only [KLed, kstB] at hc F3 N3 ⊢
            have hc2 : (n, fl) = readI (j / 2) (n1 + j, 0) 4 := hc
            have hle3 := readI_le (j / 2) (n1 + j, 0) 4
            rw [← hc2] at hle3
            dsimp only at hle3
            have htl := told_len n (by omega)
            k_unmd
            (try k_fold)
            k_steps
            (rename Fr _ _ _ _ => F4)
            (rename News _ _ _ _ => N4)
            (rename _ < _ ∧ _ => lz)
            have e1 : turnN n1 j = n := by
              unfold turnN
              rw [← hc2]
            have e2 : turnFl n1 j = fl + ((j / 2 : Nat) : Int) * (((toldS n).length : Nat) : Int) := by
              unfold turnFl
              rw [e1, ← hc2]
            rw [← e2, ← e1] at N4
            exact hret _ _ _ _ _ _ F4 (trimT3 N4) (allLt_all lz.2.2.2)
        all_goals (unfold Stop; rw [sizeLine_eq]; simp only [Str.length_append, dots_len, show (Str.ofString ">").length = 1 from rfl, show (Str.ofString ".").length = 1 from rfl]; omega)
  all_goals (unfold Stop; have he := end_len k; rw [sizeLine_eq]; simp only [Str.length_append, dots_len, show (Str.ofString ">").length = 1 from rfl, show (Str.ofString ".>").length = 2 from rfl]; omega)
end
end Mine
end

/-! ## Pure5 -/
section
open PySem PySem.W PyProof.Rows
namespace Mine
abbrev RS := (Nat × Nat) × List Int × List Int
def quotN (a b : Nat) : Int := (passedN a b).fdiv (2 * (b : Int))
def runF (c : RS) : RS :=
  if c.1.1 = c.1.2 then c else ((c.1.2, turnN c.1.1 c.1.2), c.2.1 ++ [(c.2.2.getLastD 0 + turnFl c.1.1 c.1.2).fmod 2], c.2.2 ++ [(quotN c.1.2 (turnN c.1.1 c.1.2)).fmod 2])
def runI (c : RS) : Nat → RS
  | 0 => c
  | i + 1 => runF (runI c i)
set_option maxRecDepth 100000 in
theorem turn_odd0 : ((List.range 7).all fun a => (List.range 7).all fun b => decide (turnN (2 * a + 1) (2 * b + 1) ≤ 13) && decide (turnN (2 * a + 1) (2 * b + 1) % 2 = 1)) = true := by decide +kernel
theorem turn_odd {a b : Nat} (ha : a ≤ 13) (hb : b ≤ 13) (oa : a % 2 = 1) (ob : b % 2 = 1) : turnN a b ≤ 13 ∧ turnN a b % 2 = 1 := by
  have h := List.all_eq_true.mp (List.all_eq_true.mp turn_odd0 (a / 2) (List.mem_range.mpr (by omega))) (b / 2) (List.mem_range.mpr (by omega))
  have e1 : 2 * (a / 2) + 1 = a := by omega
  have e2 : 2 * (b / 2) + 1 = b := by omega
  rw [e1, e2] at h
  have h2 := Bool.and_eq_true_iff.mp h
  exact ⟨of_decide_eq_true h2.1, of_decide_eq_true h2.2⟩
def RInv (i : Nat) (c : RS) : Prop := (c.1.1 ≤ 13 ∧ c.1.2 ≤ 13 ∧ c.1.1 % 2 = 1 ∧ c.1.2 % 2 = 1) ∧ c.2.1.length ≤ i ∧ c.2.2.length ≤ i + 1 ∧ 0 < c.2.2.length
theorem runF_inv {i : Nat} {c : RS} (h : RInv i c) : RInv (i + 1) (runF c) := by
  obtain ⟨⟨h1, h2, h3, h4⟩, h5, h6, h7⟩ := h
  unfold runF
  split
  · exact ⟨⟨h1, h2, h3, h4⟩, by omega, by omega, h7⟩
  · have ht := turn_odd h1 h2 h3 h4
    refine ⟨⟨h2, ht.1, h4, ht.2⟩, ?_, ?_, ?_⟩
    · show (_ ++ [_]).length ≤ _
      rw [List.length_append, List.length_singleton]
      omega
    · show (_ ++ [_]).length ≤ _
      rw [List.length_append, List.length_singleton]
      omega
    · show 0 < (_ ++ [_]).length
      rw [List.length_append, List.length_singleton]
      omega
theorem runI_inv {c : RS} (h : RInv 0 c) : ∀ i, RInv i (runI c i)
  | 0 => h
  | i + 1 => runF_inv (runI_inv h i)
def runR (n1 n2 : Nat) (steps : Int) : RS := runI ((n1, n2), [], [steps.fmod 2]) 13
def runB (n1 n2 : Nat) (steps : Int) : Bool := decide ((runR n1 n2 steps).2.1 = List.drop 1 (runR n1 n2 steps).2.2)
end Mine
end

section
open PySem PySem.W PyProof.Rows
theorem Mine.top_off_C6 : True := by
  w_top off
  trivial
end

/-! ## C6 -/
section
open PySem PySem.W PyProof.Rows
open PySem.Calls
set_option Elab.async false
set_option rowWalk.seconds 0
namespace Mine

section
variable {w : World} {p : Program} {loose : List Str} {mean : ExcName → Option Value} {mg mb : Str → Option Value} {news : List (Addr × Obj)}
   {dp un : Nat} {gd : Option (List Code)} {cn : Str} {cs : Scope} {a : Addr} {ccd : Value} {cl : List (Str × Addr)} {outer : List Env} {A₀ : Around} {base h₀ : Heap} {L : Addr} {m : Str → Option Value} {s : Shared} {Q E : Value → Shared → Prop}
theorem passed_c {n1 n2 : Nat} {t1 t2 : Tok} (hn : (n1 ≤ 13 ∧ n2 ≤ 13) ∧ n1 % 2 = 1 ∧ n2 % 2 = 1)
   (B : Below A₀ base outer h₀) (F₀ : Fr h₀ L s.heap m) (X : (Mine.hd.heap_39 w.params).In h₀) (N₀ : News h₀ L s.heap news) (T : Top p loose mean mg mb h₀) (hk : cs.kind = .function) (hdp : dp + 10 < recursionLimit) (hun : un + 40 < cLine)
   (hret : ∀ (D : Addr) (ta tb : Tok) (h' : Heap) (tk' : Nat), s.toks ≤ tk' → Fr h₀ L h' m → News h₀ L h' ((D, ({ cls := .type "tuple", data := .seq #[.int ((passedN n1 n2).fdiv (2 * (n2 : Int))) ta, .int ((passedN n1 n2).fmod (2 * (n2 : Int))) tb] } : Obj)) :: news) → (∀ p ∈ news, p.1 < D) → Q (.ref D) { s with heap := h', toks := tk' }) :
   wpAny (model PySem.Challenge.rw_sn0026_01.row.prog w) (ktrTop dp un gd cn cs L a ccd cl outer) (call (.ref 172) [.str (dots n1) t1, .str (dots n2) t2]) Q E s :=
  wpAny_toks (passed_c0 hn.1.1 hn.1.2 hn.2.1 hn.2.2 B F₀ X N₀ T hk hdp hun fun D ta tb h' tk' F N l hle => hret D ta tb h' tk' hle F N l)
theorem turn_c {n1 n2 k : Nat} {t1 t2 t3 : Tok} (hn : (n1 ≤ 13 ∧ n2 ≤ 13) ∧ n1 % 2 = 1 ∧ n2 % 2 = 1)
   (B : Below A₀ base outer h₀) (F₀ : Fr h₀ L s.heap m) (X : (Mine.hd.heap_39 w.params).In h₀) (N₀ : News h₀ L s.heap news) (T : Top p loose mean mg mb h₀) (hk : cs.kind = .function) (hdp : dp + 10 < recursionLimit) (hun : un + 100 < cLine)
   (hret : ∀ (D : Addr) (ta tb tc : Tok) (h' : Heap) (tk' : Nat), s.toks ≤ tk' → Fr h₀ L h' m → News h₀ L h' ((D, ({ cls := .type "tuple", data := .seq #[.str (dots n2) ta, .str (dots (turnN n1 n2)) tb, .int (turnFl n1 n2) tc] } : Obj)) :: news) → (∀ p ∈ news, p.1 < D) → Q (.ref D) { s with heap := h', toks := tk' }) :
   wpAny (model PySem.Challenge.rw_sn0026_01.row.prog w) (ktrTop dp un gd cn cs L a ccd cl outer) (call (.ref 167) [.str (dots n1) t1, .str (dots n2) t2, .str (endS k) t3]) Q E s :=
  wpAny_toks (turn_c0 hn.1.1 hn.1.2 hn.2.1 hn.2.2 B F₀ X N₀ T hk hdp hun fun D ta tb tc h' tk' F N l hle => hret D ta tb tc h' tk' hle F N l)
end
section
variable {prog : Program} {w : World} {A : Around} {E : Value → Shared → Prop} {s : Shared} {h₀ : Heap} {L l : Addr} {m : Str → Option Value} {news : List (Addr × Obj)} {Q : Value → Shared → Prop}
theorem dots_add (a b : Nat) : dots a ++ dots b = dots (a + b) := by
  have h : (dots a ++ dots b).cps.toList = (dots (a + b)).cps.toList := by
    show ((_ ++ _ : Array Nat)).toList = _
    rw [Array.toList_append]
    simp [dots]
  have h2 := Array.toList_inj.mp h
  cases hx : (dots a ++ dots b)
  rw [hx] at h2
  exact congrArg Str.mk h2
theorem dots_eq {a b : Nat} : (dots a == dots b) = decide (a = b) := by
  by_cases h : a = b
  · subst h
    simp
  · rw [decide_eq_false h]
    refine Bool.eq_false_iff.mpr fun e => h ?_
    have := congrArg Str.length (eq_of_beq e)
    rwa [dots_len, dots_len] at this
theorem dots_ne {a b : Nat} (h : (dots a != dots b) = true) : a ≠ b := by
  rintro rfl
  simp at h
theorem dots_nn {a b : Nat} (h : (dots a != dots b) = false) : a = b := by
  unfold bne at h
  rw [dots_eq] at h
  simpa using h
theorem add_dots {a b : Nat} {t u : Tok} (hn : a + b ≤ 1000) (h : ∀ t' k, s.toks ≤ k → Q (.str (dots (a + b)) t') { s with toks := k }) : wpAny (model prog w) A (binaryOp .Add (.str (dots a) t) (.str (dots b) u)) Q E s := by
  refine wpAny_toks (SB.add (fun t' k hk => ?_) (by rw [dots_len, dots_len, sizeLine_eq]; omega))
  rw [dots_add]
  exact h t' k hk
theorem item_last {value slice : PySem.Expr} {vs : List Value} {ns : List Int} {n : Nat} {u : Tok} (N : News h₀ L s.heap news) (hl : (l, listOf vs.toArray n) ∈ news) (hi : IntsAre vs ns)
    (hs : subscripted slice false (.ref l) (.int (-1) u) = operate [.ref l, .int (-1) u] (getItem (.ref l) (.int (-1) u))) (h : ∀ t, Q (.int (ns.getLastD 0) t) s) (h1 : 0 < ns.length) :
    wpAny (model prog w) A (subscriptTail value slice (.ref l) (.int (-1) u)) Q E s := by
  have e := hi.length
  have e2 : ((-1 : Int) + ((vs.toArray.size : Nat) : Int)).toNat = vs.length - 1 := by rw [List.size_toArray]; omega
  have hlt : vs.length - 1 < vs.length := by omega
  obtain ⟨t, ht⟩ := hi.int_at (vs.length - 1) _ (List.getElem?_eq_getElem hlt)
  have e3 : ns.getD (vs.length - 1) 0 = ns.getLastD 0 := by
    rw [e, List.getD_eq_getElem?_getD, ← List.getLast?_eq_getElem?, List.getLastD_eq_getLast?]
  refine tail_any (N.isList hl).typeIs slot_list_getitem.lookup (wpAny_getItem_list_neg (N.isList hl) (by decide) (by rw [List.size_toArray]; omega) (by decide) (by rw [e2, List.getElem?_toArray, List.getElem?_eq_getElem hlt, ht]) ?_) hs
  rw [e3]
  exact h t
theorem item_end {value slice : PySem.Expr} {n : Nat} {i : Int} {t1 t2 t3 u : Tok} (N : News h₀ L s.heap news) (hl : (l, listOf #[.str (Str.ofString "\n") t1, .str (Str.ofString "\x0d") t2, .str (Str.ofString "\x0d\n") t3] n) ∈ news) (h0 : 0 ≤ i) (h3 : i < 3)
    (hs : subscripted slice false (.ref l) (.int i u) = operate [.ref l, .int i u] (getItem (.ref l) (.int i u))) (h : ∀ t, Q (.str (endS i.toNat) t) s) :
    wpAny (model prog w) A (subscriptTail value slice (.ref l) (.int i u)) Q E s := by
  have hc : i = 0 ∨ i = 1 ∨ i = 2 := by omega
  rcases hc with rfl | rfl | rfl
  · exact tail_any (N.isList hl).typeIs slot_list_getitem.lookup (wpAny_getItem_list (N.isList hl) (by decide) (by decide) rfl (h t1)) hs
  · exact tail_any (N.isList hl).typeIs slot_list_getitem.lookup (wpAny_getItem_list (N.isList hl) (by decide) (by decide) rfl (h t2)) hs
  · exact tail_any (N.isList hl).typeIs slot_list_getitem.lookup (wpAny_getItem_list (N.isList hl) (by decide) (by decide) rfl (h t3)) hs
end
section
local macro_rules | `(tactic| walk_at "execs cons") => `(tactic| (refine' gentoks1 ?_; intro _ _))
local macro_rules | `(tactic| k_room) => `(tactic| ktr_room)
local macro_rules | `(tactic| walk_at "pyIter ref") => `(tactic| refine Stop.out ?_)
local macro_rules | `(tactic| walk_at "GPost") => `(tactic| dsimp only [GPost])
local macro_rules | `(tactic| walk_at "GEnd") => `(tactic| refine Stop.out ?_)
local macro_rules | `(tactic| walk_at "exec For Name Call cons nil") => `(tactic| (k_here; (rename Fr _ _ _ _ => lF'); (with_unfolding_all refine' For_invVF lF' ?k1 ?k2 ?_; (case k1 => exact rfl); (case k2 => exact rfl); k_whole)))
local macro_rules | `(tactic| walk_at "binaryOp Add str str") => `(tactic| ((with_reducible show wpAny _ _ (binaryOp _ (Value.str (dots _) _) (Value.str (dots _) _)) _ _ _); refine' add_dots ?hn ?_; (case hn => omega); intro _ _ hTk; dsimp only at hTk))
local macro_rules | `(tactic| walk_at "call builtin:len") => `(tactic| ((with_reducible show wpAny _ _ (call (Value.builtin "len") [Value.str (dots _) _]) _ _ _); refine len_dots (by omega) ?_))
local macro_rules | `(tactic| walk_at "subscriptTail Name BinOp ref int") => `(tactic| (k_here; k_dflt (refine' item_end ?N ?l ?z ?f ?s ?_; (case N => k_asm); (case l => k_mem); (case z => omega); (case f => omega); (case s => with_unfolding_all rfl)); intro _))
local macro_rules | `(tactic| walk_at "subscriptTail Name UnaryOp ref int") => `(tactic| (k_here; k_dflt (refine' item_last ?N ?l ?i ?s ?_ ?b; (case N => k_asm); (case l => k_mem); (case i => l_ints); (case s => with_unfolding_all rfl); (case b => omega)); intro _))
local macro_rules | `(tactic| walk_at "call ref") => `(tactic| (k_here; (with_reducible show wpAny _ _ (call (Value.ref 172) [Value.str (dots _) _, Value.str (dots _) _]) _ _ _); k_dflt (refine' passed_c ?hn ?k1 ?k2 ?k3 ?k4 ?k5 ?kK ?kd ?ku ?_; (case hn => omega); (case k1 => k_asm); (case k2 => k_asm); (case k3 => k_asm); (case k4 => k_asm); (case k5 => k_asm); (case kK => first | exact rfl | assumption); (case kd => ktr_room); (case ku => ktr_units)); intro D9 t9 t8 h9 tk9 H9 F9 N9 l1; (try k_lt l1); (try dsimp only at H9); (try dsimp only); (try k_fold)))
local macro_rules | `(tactic| walk_at "call ref") => `(tactic| (k_here; (with_reducible show wpAny _ _ (call (Value.ref 167) [Value.str (dots _) _, Value.str (dots _) _, Value.str (endS _) _]) _ _ _); k_dflt (refine' turn_c ?hn ?k1 ?k2 ?k3 ?k4 ?k5 ?kK ?kd ?ku ?_; (case hn => omega); (case k1 => k_asm); (case k2 => k_asm); (case k3 => k_asm); (case k4 => k_asm); (case k5 => k_asm); (case kK => first | exact rfl | assumption); (case kd => ktr_room); (case ku => ktr_units)); intro D9 t9 t8 t7 h9 tk9 H9 F9 N9 l1; (try k_lt l1); (try dsimp only at H9); (try dsimp only); (try k_fold)))

abbrev Rσ := RS × List Value × Nat × List Value × Nat × Tok × Tok
def RLed (la lb : Addr) (rest : List (Addr × Obj)) (c : Rσ) : List (Addr × Obj) := (la, listOf c.2.2.2.1.toArray c.2.2.2.2.1) :: (lb, listOf c.2.1.toArray c.2.2.1) :: rest
def RPs (c : Rσ) : List (Str × Value) := [(Str.ofString "first", .str (dots c.1.1.1) c.2.2.2.2.2.1), (Str.ofString "second", .str (dots c.1.1.2) c.2.2.2.2.2.2)]
def RWord (c0 : RS) (i : Nat) (c : Rσ) : Prop := c.1 = runI c0 i ∧ IntsAre c.2.1 c.1.2.1 ∧ IntsAre c.2.2.2.1 c.1.2.2
set_option maxRecDepth 100000 in
set_option maxHeartbeats 2000000 in
theorem run_c0 {w : World} {p : Program} {loose : List Str} {mean : ExcName → Option Value} {mg mb : Str → Option Value} {news : List (Addr × Obj)}
   {dp un : Nat} {gd : Option (List Code)} {cn : Str} {cs : Scope} {a : Addr} {ccd : Value} {cl : List (Str × Addr)} {outer : List Env} {A₀ : Around} {base h₀ : Heap} {L : Addr} {m : Str → Option Value} {s : Shared} {Q E : Value → Shared → Prop}
   {n1 n2 k : Nat} {steps : Int} {t1 t2 t3 t4 : Tok} (h1 : n1 ≤ 13) (h2 : n2 ≤ 13) (ho1 : n1 % 2 = 1) (ho2 : n2 % 2 = 1) (hk3 : k < 3)
   (B : Below A₀ base outer h₀) (F₀ : Fr h₀ L s.heap m) (X : (Mine.hd.heap_39 w.params).In h₀) (N₀ : News h₀ L s.heap news) (T : Top p loose mean mg mb h₀) (hk : cs.kind = .function) (hdp : dp + 20 < recursionLimit) (hun : un + 200 < cLine)
   (hret : ∀ (D : Addr) (ta tb : Tok) (h' : Heap) (tk' : Nat), Fr h₀ L h' m → News h₀ L h' ((D, ({ cls := .type "tuple", data := .seq #[.str (dots (runR n1 n2 steps).1.1) ta, .str (dots (runR n1 n2 steps).1.2) tb, .bool (runB n1 n2 steps)] } : Obj)) :: news) → (∀ p ∈ news, p.1 < D) → Q (.ref D) { s with heap := h', toks := tk' }) :
   wpAny (model PySem.Challenge.rw_sn0026_01.row.prog w) (ktrTop dp un gd cn cs L a ccd cl outer) (call (.ref 179) [.str (dots n1) t1, .str (dots n2) t2, .int (k : Int) t3, .int steps t4]) Q E s := by
  revert X; k_fill; intro X
  refine wpAny_call ?_
  k_dflt cell_enter
  k_steps
  · unfold Stop
    (rename Fr _ _ _ _ => F1)
    (rename News _ _ _ _ => N1)
    (rename IsRange _ _ _ _ _ _ _ _ => rgX)
    have hr0 : RInv 0 ((n1, n2), [], [steps.fmod 2]) := ⟨⟨h1, h2, ho1, ho2⟩, Nat.le_refl _, Nat.le_refl _, Nat.zero_lt_one⟩
    have hMk9 := kstMark
    (rename _ < _ ∧ _ => lz)
    (rename ∀ (p : Addr × Obj), p ∈ news → p.fst < _ => ly)
    have hO1 := off1_own (off1_lt lz.2)
    have hO2 := off1_own (off1_of fun p hp => Nat.ne_of_lt (ly p hp))
    with_unfolding_all refine' range_loop (σ := Rσ) (RLed ?la ?lb ?rest) RPs [Str.ofString "flips"] (RWord ((n1, n2), [], [steps.fmod 2])) ⟨((n1, n2), [], [steps.fmod 2]), [], 0, [_], 0, _, _⟩ (by rfl) rgX (small_one (by omega) (by omega) (by omega) (by omega)) (rangeSize_nat _ _) F1 N1 ?hk ?hp ?turn ?done
    case hk => kst_all
    case hp => exact ⟨rfl, .nil, .cons _ _ .nil⟩
    case turn =>
      clear F1 N1
      rintro ⟨⟨⟨b1, b2⟩, due, odd⟩, vs, c1, ws, c2, y1, y2⟩ i ti u3 h3 tk3 ⟨I3, oI3⟩ hi3 ⟨hc, hv, hw⟩ hown3 F3 N3
      dsimp only [RLed, RPs, kstB] at hc hv hw hown3 F3 N3 ⊢
      have hown4 := off1_of hown3
      simp only [LCg.Off1] at hown4
      obtain ⟨hw1, hw2, hw3⟩ := hown4
      have hO3 := off1_own hw3
      have hri := runI_inv hr0 i
      rw [← hc] at hri
      obtain ⟨⟨g1, g2, g3, g4⟩, g5, g6, g7⟩ := hri
      dsimp only at g1 g2 g3 g4 g5 g6 g7
      have gt := turn_odd g1 g2 g3 g4
      obtain ⟨gt1, gt2⟩ := gt
      have hvl := hv.length
      have hwl := hw.length
      have f1 := Int.fmod_nonneg_of_pos ((k : Int) + (0 + (i : Int))) (b := 3) (by decide)
      have f2 := Int.fmod_lt_of_pos ((k : Int) + (0 + (i : Int))) (b := 3) (by decide)
      k_unmd
      k_fold
      k_steps
      · unfold Stop
        have hne := dots_ne ‹(dots b1 != dots b2) = true›
        (rename Fr _ _ _ _ => F4)
        (rename News _ _ _ _ => N4)
        simp only [List.push_toArray] at N4
        refine g_end (((b2, turnN b1 b2), _, _), _, _, _, _, _, _) F4 N4 (List.forall_mem_cons.mpr ⟨.tail _ (.tail _ (.tail _ (.tail _ (.head _)))), List.forall_mem_cons.mpr ⟨.tail _ (.tail _ (.tail _ (.tail _ (.tail _ (.head _))))), fun p hp => .tail _ (.tail _ (.tail _ (.tail _ (.tail _ (.tail _ hp)))))⟩⟩) (.tail _ (.tail _ (.tail _ (.head _)))) (List.forall_mem_cons.mpr ⟨hw1, List.forall_mem_cons.mpr ⟨hw2, fun p hp => hown3 p (.tail _ (.tail _ hp))⟩⟩) (by kst_all) (by (intro z h1 h2 h3; dsimp only [RPs] at h2; simp only [List.forall_mem_cons, List.not_mem_nil, false_implies, implies_true, and_true, ne_eq] at h2; (simp only [List.contains_cons, List.contains_nil, Bool.or_false, Bool.or_eq_false_iff, beq_eq_false_iff_ne, ne_eq] at h3); simp [h1, h2, h3])) ⟨?_, hv.append (.cons _ _ .nil), hw.append (.cons _ _ .nil)⟩
        show _ = runF (runI _ i)
        rw [← hc]
        unfold runF
        rw [if_neg hne]
        all_goals rfl
      · unfold Stop
        have hne := dots_nn ‹(dots b1 != dots b2) = false›
        (rename Fr _ _ _ _ => F4)
        (rename News _ _ _ _ => N4)
        refine g_end (((b1, b2), due, odd), vs, c1, ws, c2, _, _) F4 N4 (fun p hp => .tail _ hp) (.head _) hown3 (by kst_all) (by (intro z h1 h2 h3; dsimp only [RPs] at h2; simp only [List.forall_mem_cons, List.not_mem_nil, false_implies, implies_true, and_true, ne_eq] at h2; (simp only [List.contains_cons, List.contains_nil, Bool.or_false, Bool.or_eq_false_iff, beq_eq_false_iff_ne, ne_eq] at h3); simp [h1, h2, h3])) ⟨?_, hv, hw⟩
        show _ = runF (runI _ i)
        rw [← hc]
        unfold runF
        rw [if_pos hne]
    case done =>
      clear F1 N1
      rintro ⟨⟨⟨b1, b2⟩, due, odd⟩, vs, c1, ws, c2, y1, y2⟩ u3 h3 tk3 ⟨hc, hv, hw⟩ F3 N3
      dsimp only [RLed, RPs, kstB] at hc hv hw F3 N3 ⊢
      have hc2 : ((b1, b2), due, odd) = runI ((n1, n2), [], [steps.fmod 2]) 13 := hc
      have hri := runI_inv hr0 13
      rw [← hc2] at hri
      obtain ⟨⟨g1, g2, g3, g4⟩, g5, g6, g7⟩ := hri
      dsimp only at g1 g2 g3 g4 g5 g6 g7
      have hvl := hv.length
      have hwl := hw.length
      k_unmd
      (try k_fold)
      k_steps
      (rename Fr _ _ _ _ => F4)
      (rename News _ _ _ _ => N4)
      (rename _ < _ ∧ _ => lw)
      have e1 : runR n1 n2 steps = ((b1, b2), due, odd) := hc2.symm
      have e2 : b1 = (runR n1 n2 steps).1.1 := by rw [e1]
      have e3 : b2 = (runR n1 n2 steps).1.2 := by rw [e1]
      have e4 : decide (due = List.drop 1 odd) = runB n1 n2 steps := by
        unfold runB
        rw [e1]
      rw [e4, e2, e3] at N4
      exact hret _ _ _ _ _ F4 (trimT3 N4) (allLt_all lw.2.2.2)
end
end Mine
end

/-! ## Pure6 -/
section
open PySem PySem.W PyProof.Rows
namespace Mine
def floorS (a b : Nat) : Nat := ((List.range (b / 2)).map fun i => a * (i + 1) / b).sum
/-- wstep on a whole run of blanks and a tab at once -/
def passedT (a b : Nat) : Int :=
  let r := wrun (joinL (leadN a b))
  (r.b : Int) + (b : Int) * (ilF b r.cs (((r.cs.length : Nat) : Int) - (b : Int)).toNat + (r.nt : Int)) - ((b / 2 : Nat) : Int) - 2 * (b : Int) * (((b / 2 : Nat) : Int) + 2)
theorem passedT_eq (a b : Nat) : passedN a b = passedT a b := by
  unfold passedN passedT
  rw [pre_joinL]
set_option maxRecDepth 100000 in
theorem passed_tab0 : ((List.range 7).all fun a => (List.range 7).all fun b => passedT (2 * a + 1) (2 * b + 1) == 2 * (2 * b + 1 : Nat) * (floorS (2 * a + 1) (2 * b + 1) : Int)) = true := by decide +kernel
theorem passed_tab {a b : Nat} (ha : a ≤ 13) (hb : b ≤ 13) (oa : a % 2 = 1) (ob : b % 2 = 1) : passedN a b = 2 * (b : Int) * (floorS a b : Int) := by
  have h := List.all_eq_true.mp (List.all_eq_true.mp passed_tab0 (a / 2) (List.mem_range.mpr (by omega))) (b / 2) (List.mem_range.mpr (by omega))
  have e1 : 2 * (a / 2) + 1 = a := by omega
  have e2 : 2 * (b / 2) + 1 = b := by omega
  rw [e1, e2] at h
  rw [passedT_eq]
  exact eq_of_beq h
theorem quot_tab {a b : Nat} (ha : a ≤ 13) (hb : b ≤ 13) (oa : a % 2 = 1) (ob : b % 2 = 1) : quotN a b = (floorS a b : Int) := by
  unfold quotN
  rw [passed_tab ha hb oa ob]
  exact Int.mul_fdiv_cancel_left _ (by omega)
theorem rem_tab {a b : Nat} (ha : a ≤ 13) (hb : b ≤ 13) (oa : a % 2 = 1) (ob : b % 2 = 1) : (passedN a b).fmod (2 * (b : Int)) = 0 := by
  rw [passed_tab ha hb oa ob]
  exact Int.mul_fmod_right _ _
/-- runF with the closed form -/
def runG (c : RS) : RS :=
  if c.1.1 = c.1.2 then c else ((c.1.2, turnN c.1.1 c.1.2), c.2.1 ++ [(c.2.2.getLastD 0 + turnFl c.1.1 c.1.2).fmod 2], c.2.2 ++ [((floorS c.1.2 (turnN c.1.1 c.1.2) : Nat) : Int).fmod 2])
def runJ (c : RS) : Nat → RS
  | 0 => c
  | i + 1 => runG (runJ c i)
theorem runG_eq {i : Nat} {c : RS} (h : RInv i c) : runF c = runG c := by
  obtain ⟨⟨h1, h2, h3, h4⟩, _⟩ := h
  have ht := turn_odd h1 h2 h3 h4
  unfold runF runG
  rw [quot_tab h2 ht.1 h4 ht.2]
theorem runJ_eq {c : RS} (h : RInv 0 c) : ∀ i, runI c i = runJ c i
  | 0 => rfl
  | i + 1 => by
    show runF (runI c i) = runG (runJ c i)
    rw [← runJ_eq h i]
    exact runG_eq (runI_inv h i)
def restL (a b : Nat) : List Nat := (List.range b).map fun k => a * k % b
/-- the pairs that _law's last list counts -/
def invN (a b : Nat) : Nat := ((List.range b).map fun i => ((List.range i).filter fun j => decide ((restL a b).getD i 0 < (restL a b).getD j 0)).length).sum
def endR (a b : Nat) : RS := runJ ((a, b), [], [((floorS a b : Nat) : Int).fmod 2]) 13
def lawOK (a b : Nat) : Bool :=
  decide ((endR a b).1.1 = (endR a b).1.2) && (decide (floorS a b + floorS b a = (a / 2) * (b / 2) + (endR a b).1.1 / 2) && (decide (1 < (endR a b).1.1) || (decide ((endR a b).2.1 = List.drop 1 (endR a b).2.2) && decide (floorS a b % 2 = invN a b % 2))))
set_option maxRecDepth 100000 in
theorem law_all : ((List.range 7).all fun a => (List.range 7).all fun b => lawOK (2 * a + 1) (2 * b + 1)) = true := by decide +kernel
end Mine
end

/-! ## Comp1 -/
section
open PySem PySem.W PyProof.Rows
open PySem.Calls PyProof.V PySem.Spec
namespace Mine
section
variable {prog : Program} {w : World} {A : Around} {E : Value → Shared → Prop} {s : Shared} {h₀ : Heap} {L : Addr} {m : Str → Option Value} {env : Env}

def IsI (y : Value) : Prop := ∃ (k : Int) (t : Tok), y = .int k t
/-- one turn of a comprehension over an enumerate object: its element is an int -/
def ETurn (prog : Program) (w : World) (A : Around) (h₀ : Heap) (L : Addr) (m : Str → Option Value) (env : Env) (elt : PySem.Expr) (x x₂ : Str) (scope : Scope) (cl : List (Str × Addr)) (s : Shared) (items : Array Value) (news : List (Addr × Obj)) : Prop :=
  ∀ (i : Nat) (t : Tok) (v : Value) (C I J D : Addr) (oC oI oJ oD : Obj) (m₂ : Str → Option Value) (h : Heap) (tk : Nat) (E' : Value → Shared → Prop),
    items[i]? = some v → LCg.NsObj oC m₂ → m₂ x = some (.int (i : Int) t) → m₂ x₂ = some v → Fr h₀ L h m → News h₀ L h ((C, oC) :: (I, oI) :: (J, oJ) :: (D, oD) :: news) →
    wpAny (model prog w) A (eval elt (compEnvC scope cl C env)) (fun y s₄ => IsI y ∧ ∃ h' tk', s₄ = { s with heap := h', toks := tk' } ∧ Fr h₀ L h' m ∧ News h₀ L h' ((C, oC) :: (I, oI) :: (J, oJ) :: (D, oD) :: news)) E' { s with heap := h, toks := tk }
def EDone (h₀ : Heap) (L : Addr) (m : Str → Option Value) (s : Shared) (y : Str) (Q : Flow → Shared → Prop) (n : Nat) (news : List (Addr × Obj)) : Prop :=
  ∀ (ys : List Value), ys.length = n → (∀ v ∈ ys, IsI v) → LCg.FinA h₀ L m s y Q ys news
def ESrc (prog : Program) (w : World) (A : Around) (h₀ : Heap) (L : Addr) (m : Str → Option Value) (env : Env) (elt : PySem.Expr) (x x₂ : Str) (scope : Scope) (cl : List (Str × Addr)) (y : Str) (Q : Flow → Shared → Prop) (xv : Value) (s₁ : Shared) : Prop :=
  ∃ (I J l : Addr) (items : Array Value) (news : List (Addr × Obj)) (ol : Obj) (c : Nat), xv = .ref I ∧ A.handled = none ∧ Fr h₀ L s₁.heap m ∧ News h₀ L s₁.heap news ∧ (l, ol) ∈ news ∧ (ol.cls = .type "list" ∧ ol.data = .seq items c) ∧
    IsEnum s₁.heap I J 0 .none ∧ s₁.heap.IsListIter J l 0 ∧ (L ≠ I ∧ L ≠ J ∧ h₀.get? I = none ∧ h₀.get? J = none ∧ I ≠ J ∧ ∀ p ∈ news, p.1 ≠ I ∧ p.1 ≠ J) ∧ items.size ≤ sizeLine ∧
    (∀ h tk, ETurn prog w A h₀ L m env elt x x₂ scope cl { s₁ with heap := h, toks := tk } items news) ∧ ∀ h tk, EDone h₀ L m { s₁ with heap := h, toks := tk } y Q items.size news

theorem Assign_enum {elt iter : PySem.Expr} {x x₂ y : Str} {px px₂ tp py : Pos} {tk} {scope : Scope} {cl : List (Str × Addr)} {pos spos : Pos} {Q : Flow → Shared → Prop} (F₀ : Fr h₀ L s.heap m) (hLe : env.locals = L)
    (hsw : swapsWith (.ListComp elt [⟨.Tuple [.Name x px, .Name x₂ px₂] tk tp, iter, [], 0⟩] scope pos) (some (.Name y py)) spos.line env = pure true)
    (hclos : closureFor scope env = pure cl) (hcell : ∀ z ∈ scope.names, z.2 ≠ .cell) (hkind : scope.kind = .function)
    (hnames : ∀ z ∈ scope.names, z.2 = .local → scope.names.lookup z.1 = some .local) (hx : scope.names.lookup x = some .local) (hx₂ : scope.names.lookup x₂ = some .local) (hxx : x ≠ x₂)
    (hy : env.kindOf y = some .local) (hp : (env.scope.kind == .class || (env.scope.kind == .module && env.locals != env.globals)) = false)
    (h : wpAny (model prog w) A (eval iter env) (ESrc prog w A h₀ L m env elt x x₂ scope cl y Q) E s)
    (hs : ∀ x, foldedSetIterable iter env x = pure x := by intro _; rfl) :
    wpAny (model prog w) A (exec (.Assign [.Name y py] (.ListComp elt [⟨.Tuple [.Name x px, .Name x₂ px₂] tk tp, iter, [], 0⟩] scope pos) spos) env) Q E s := by
  subst hLe
  rw [exec_Assign_Name_used _ _ _ _ hsw]
  refine wpAny_bind (wpAny_standAt (wpAny_bind ?_))
  show wpAny _ A (do let _ ← comprehension (.ListComp elt [⟨.Tuple [.Name x px, .Name x₂ px₂] tk tp, iter, [], 0⟩] scope pos) scope env _ (newList []) false (eval iter env) (some (assign (.Name y py) env))) _ _ s
  refine wpAny_bind (wpAny_mono (wpAny_comprehension_free (use := some (assign (.Name y py) env)) (Q := fun _ s' => Q .next s') rfl hs hclos hkind hnames
    (wpAny_mono h (fun xv s₁ h₁ => ?_) fun _ _ e => e)) (fun _ s' hq => wpAny_pure (wpAny_pure hq)) fun _ _ e => e)
  obtain ⟨I, J, l, items, news, ol, cc, rfl, hh, F, N, hml, ⟨hlc, hld⟩, hE, hJ, ⟨hLI, hLJ, hI₀, hJ₀, hIJ, hoff⟩, hsz, turn, done⟩ := h₁
  have hlI : l ≠ I := (hoff _ hml).1
  have hlJ : l ≠ J := (hoff _ hml).2
  refine wpAny_pyIter_enum hE ?_
  refine wpAny_newObj_type (wpAny_newFunctionEnv hcell (by intro y hy; simp at hy) (fun h₁ hns₁ hsb₁ => ?_) hkind)
  dsimp only at hns₁ hsb₁ ⊢
  generalize hH2 : s₁.heap.push { cls := .type "list", dict := none, data := .seq ([] : List Value).toArray } = H2 at hns₁ hsb₁ ⊢
  have hC : H2.objs.size = s₁.heap.objs.size + 1 := by rw [← hH2, Heap.size_push]
  have hDC : s₁.heap.objs.size ≠ H2.objs.size := by rw [hC]; exact Nat.ne_of_lt (Nat.lt_succ_self _)
  have below : ∀ b, b < s₁.heap.objs.size → b ≠ H2.objs.size ∧ b ≠ s₁.heap.objs.size := fun b hb => ⟨by rw [hC]; exact Nat.ne_of_lt (Nat.lt_succ_of_lt hb), Nat.ne_of_lt hb⟩
  have old : ∀ b o, s₁.heap.get? b = some o → h₁.get? b = some o := fun b o e => hsb₁.extBut b o (below b (Heap.lt_size e)).1 (Heap.get?_push_of_some _ (hH2 ▸ Heap.get?_push_of_some _ e))
  have hacc : h₁.get? s₁.heap.objs.size = some (LCg.lst []) := hsb₁.extBut _ _ hDC (Heap.get?_push_of_some _ (hH2 ▸ Heap.get?_push_size _ rfl))
  have fresh₀ : ∀ a, s₁.heap.objs.size ≤ a → h₀.get? a = none := fun a ha => by
    cases e : h₀.get? a with
    | none => rfl
    | some o' => exact absurd (Heap.lt_size (F.keep a o' e)) (Nat.not_lt.mpr ha)
  have hD₀ : h₀.get? s₁.heap.objs.size = none := fresh₀ _ (Nat.le_refl _)
  have hC₀ : h₀.get? H2.objs.size = none := fresh₀ _ (by rw [hC]; exact Nat.le_succ _)
  have hDL : s₁.heap.objs.size ≠ env.locals := Ne.symm (below _ F.ns.lt).2
  have hCL : H2.objs.size ≠ env.locals := Ne.symm (below _ F.ns.lt).1
  have hIlt : I < s₁.heap.objs.size := Heap.lt_size hE
  have hJlt : J < s₁.heap.objs.size := by obtain ⟨_, e, _⟩ := hJ; exact Heap.lt_size e
  have hCI := (below I hIlt).1
  have hDI := (below I hIlt).2
  have hCJ := (below J hJlt).1
  have hDJ := (below J hJlt).2
  have hoffC : ∀ p ∈ news, p.1 ≠ H2.objs.size ∧ p.1 ≠ s₁.heap.objs.size := fun p hp => below _ (Heap.lt_size (N p hp).1)
  have W := WalksT.enumerate (prog := prog) (w := w) hh I J l hIJ hlI hlJ items
  generalize hCC : H2.objs.size = C at *
  generalize hDD : s₁.heap.objs.size = D at *
  have lof : ∀ h : Heap, News h₀ env.locals h news → h.IsList l items := fun h N => ⟨ol, (N _ hml).1, hlc, cc, hld⟩
  have loop : ∀ s₃ : Shared, s₃ = { s₁ with heap := h₁, toks := s₁.toks + ([] : List (Str × Value)).length } →
      codeAny (model prog w) A (.compLoop (.ListComp elt [⟨.Tuple [.Name x px, .Name x₂ px₂] tk tp, iter, [], 0⟩] scope pos) 0 (.ref I) (.ref D) (compEnvC scope cl C env))
        (compPost (model prog w) A E (some (assign (.Name y py) env)) (fun _ s' => Q .next s') (.ref D) C) s₃ := by
    rintro s₃ rfl
    refine LCp.codeAny_compLoop_pair
      (fun k s' => ∃ h' tk i ys m', s' = { s₁ with heap := h', toks := tk } ∧ i ≤ items.size ∧ k = items.size + 1 - i ∧ ys.length = i ∧ (∀ v ∈ ys, IsI v) ∧ (∃ old, IsEnum h' I J (i : Nat) old) ∧ h'.IsListIter J l i ∧ Fr h₀ env.locals h' m ∧ h'.Ns C m' ∧ News h₀ env.locals h' ((D, LCg.lst ys) :: news)) ?_ (items.size + 1)
      ⟨h₁, _, 0, [], _, rfl, Nat.zero_le _, rfl, rfl, fun _ h => (nomatch h), ⟨_, old _ _ hE⟩, by obtain ⟨o, e, r⟩ := hJ; exact ⟨o, old _ _ e, r⟩, F.keeps old, hns₁, fun p hp => ?_⟩
    · rintro k s' ⟨h', tk', i, ys, m', rfl, hi, rfl, hyl, hys, ⟨ov, hE'⟩, hJ', F', hn', N'⟩
      have N'' : News h₀ env.locals h' news := fun p hp => N' p (.tail _ hp)
      have hD' := (N' _ (.head _)).1
      by_cases hlt : i < items.size
      · refine W.item i _ _ _ hlt ⟨⟨ov, hE'⟩, hJ', lof _ N''⟩ fun T vals h₂ tk₂ hPv hT hTT hMid hk₂ => ?_
        obtain ⟨ti, v, hv, rfl⟩ := hPv
        have hTl : ∀ b o, h'.get? b = some o → b < T := fun b o e => Nat.lt_of_lt_of_le (Heap.lt_size e) hT
        refine W.go _ _ _ i T _ _ _ hMid fun h₃ hst₃ hk₃ => ?_
        obtain ⟨⟨ov₃, hE₃⟩, hJ₃, hl₃⟩ := hst₃
        have up : ∀ b o, b ≠ I → b ≠ J → h'.get? b = some o → h₃.get? b = some o := fun b o h1 h2 e => hk₃ b o (by simp [h1, h2]) (hk₂ b o (by simp [h1, h2]) e)
        have hTI : T ≠ I := Nat.ne_of_gt (hTl _ _ hE')
        have hTJ : T ≠ J := by obtain ⟨_, e, _⟩ := hJ'; exact Nat.ne_of_gt (hTl _ _ e)
        have hT₃ : IsTup h₃ T #[.int (i : Int) ti, v] := by
          obtain ⟨o, e, r⟩ := hTT
          exact ⟨o, hk₃ T o (by simp [hTI, hTJ]) e, r⟩
        refine assign_Tuple_tuple hh hT₃ rfl rfl fun h₅ he => ?_
        have he' : ∀ b o, h₃.get? b = some o → h₅.get? b = some o := fun b o e => he b o (Nat.ne_of_lt (Heap.lt_size e)) e
        refine assignInOrder_cons (wpAny_assign_Name (wpAny_storeName_local (lookup_relabel_local hx) (hn'.at' fun o e => he' _ o (up _ o (Ne.symm hCI) (Ne.symm hCJ) e)) (fun h₆ hn₆ hs₆ => ?_) (by simp [compEnvC, relabel, hkind])))
        refine assignInOrder_cons (wpAny_assign_Name (wpAny_storeName_local (lookup_relabel_local hx₂) hn₆ (fun h₇ hn₇ hs₇ => ?_) (by simp [compEnvC, relabel, hkind])))
        refine assignInOrder_nil ?_
        have old3 : ∀ b o, b ≠ C → h₃.get? b = some o → h₇.get? b = some o := fun b o hb e => hs₇.extBut b o hb (hs₆.extBut b o hb (he' b o e))
        have hE₇ : h₇.get? I = some _ := old3 _ _ hCI hE₃
        obtain ⟨oJ, heJ, rJ⟩ := hJ₃
        have heJ₇ := old3 _ _ hCJ heJ
        obtain ⟨oC, heC, hoC⟩ := LCg.ns_obj hn₇
        have F₇ : Fr h₀ env.locals h₇ m := by
          refine ⟨F'.ns.at' fun o e => old3 _ o (Ne.symm hCL) (up _ o hLI hLJ e), fun b o e => old3 b o (fun q => by rw [q, hC₀] at e; cases e) (up b o (fun q => by rw [q, hI₀] at e; cases e) (fun q => by rw [q, hJ₀] at e; cases e) (F'.keep b o e)), F'.above⟩
        have N₇ : News h₀ env.locals h₇ ((C, oC) :: (I, _) :: (J, oJ) :: (D, LCg.lst ys) :: news) := fun p hp => by
          rcases List.mem_cons.mp hp with rfl | hp
          · exact ⟨heC, hCL, hC₀⟩
          · rcases List.mem_cons.mp hp with rfl | hp
            · exact ⟨hE₇, Ne.symm hLI, hI₀⟩
            · rcases List.mem_cons.mp hp with rfl | hp
              · exact ⟨heJ₇, Ne.symm hLJ, hJ₀⟩
              · refine ⟨?_, (N' p hp).2⟩
                rcases List.mem_cons.mp hp with rfl | hp
                · exact old3 _ _ hDC (up _ _ (Ne.symm hDI) (Ne.symm hDJ) hD')
                · exact old3 _ _ (hoffC p hp).1 (up _ _ (hoff p hp).1 (hoff p hp).2 (N'' p hp).1)
        refine wpAny_mono (turn _ _ i ti v C I J D oC _ oJ _ _ h₇ _ _ hv hoC (by simp [hxx]) (by simp) F₇ N₇) (fun yv s₄ h₄ => ?_) fun _ _ e => e
        obtain ⟨hyi, h₈, tk₈, rfl, F₈, N₈⟩ := h₄
        have zC := (N₈ _ (.head _)).1
        have zI := (N₈ _ (.tail _ (.head _))).1
        have zJ := (N₈ _ (.tail _ (.tail _ (.head _)))).1
        have zD := (N₈ _ (.tail _ (.tail _ (.tail _ (.head _))))).1
        refine append_at (hsz := by show ys.toArray.size ≤ sizeLine; rw [List.size_toArray, hyl]; exact Nat.le_trans hi hsz) zD fun h₉ hs₉ hD₉ => ?_
        refine ⟨items.size + 1 - (i + 1), by omega, h₉, tk₈, i + 1, ys ++ [yv], _, rfl, hlt, rfl, by rw [List.length_append, List.length_singleton, hyl], ?_, ⟨_, hs₉.extBut _ _ hDI zI⟩, ⟨oJ, hs₉.extBut _ _ hDJ zJ, rJ⟩, F₈.change hs₉ hDL hD₀, (hoC.ns zC).sameBut hs₉ (Ne.symm hDC), fun p hp => ?_⟩
        · intro v hv
          rcases List.mem_append.mp hv with hv | hv
          · exact hys v hv
          · rw [List.mem_singleton.mp hv]; exact hyi
        · rcases List.mem_cons.mp hp with rfl | hp
          · exact ⟨hD₉.trans (congrArg some (LCg.lst_snoc ys yv)), hDL, hD₀⟩
          · exact ⟨hs₉.extBut _ _ (hoffC p hp).2 (N₈ p (.tail _ (.tail _ (.tail _ (.tail _ hp))))).1, (N' p (.tail _ hp)).2⟩
      · obtain rfl : i = items.size := Nat.le_antisymm hi (Nat.not_lt.mp hlt)
        refine W.done _ _ _ ⟨⟨ov, hE'⟩, hJ', lof _ N''⟩ fun h₂ tk₂ hk₂ => ?_
        have up : ∀ b o, b ≠ I → b ≠ J → h'.get? b = some o → h₂.get? b = some o := fun b o h1 h2 e => hk₂ b o (by simp [h1, h2]) e
        have F₂ : Fr h₀ env.locals h₂ m := ⟨F'.ns.at' fun o e => up _ o hLI hLJ e, fun b o e => up b o (fun q => by rw [q, hI₀] at e; cases e) (fun q => by rw [q, hJ₀] at e; cases e) (F'.keep b o e), F'.above⟩
        have hn₂ : h₂.Ns C m' := hn'.at' fun o e => up _ o (Ne.symm hCI) (Ne.symm hCJ) e
        have N₂ : News h₀ env.locals h₂ ((D, LCg.lst ys) :: news) := fun p hp => by
          refine ⟨?_, (N' p hp).2⟩
          rcases List.mem_cons.mp hp with rfl | hp
          · exact up _ _ (Ne.symm hDI) (Ne.symm hDJ) hD'
          · exact up _ _ (hoff p hp).1 (hoff p hp).2 (N'' p hp).1
        show wpAny _ A (assign (.Name y py) env (.ref D)) _ _ _
        refine wpAny_assign_Name (wpAny_storeName_local hy F₂.ns (fun h₄ hn₄ hs₄ => ?_) hp)
        have hL₀ : h₀.get? env.locals = none := Heap.get?_none_of_le F₂.above
        have F₄ : Fr h₀ env.locals h₄ (fun z => if z = y then some (.ref D) else m z) := ⟨hn₄, fun b o e => hs₄.extBut b o (fun q => by rw [q, hL₀] at e; cases e) (F₂.keep b o e), F₂.above⟩
        refine ⟨m', hn₂.sameBut hs₄ hCL, fun h'' hs'' => done s₁.heap s₁.toks ys hyl hys D h'' _ (F₄.change hs'' hCL hC₀) (fun p hp => ?_) ?_⟩
        · have z : h₄.get? p.1 = some p.2 := hs₄.extBut _ _ (N₂ p hp).2.1 (N₂ p hp).1
          refine ⟨hs''.extBut _ _ ?_ z, (N₂ p hp).2⟩
          rcases List.mem_cons.mp hp with rfl | hp
          · exact hDC
          · exact (hoffC p hp).1
        · clear done turn
          have : ∀ ps : List (Addr × Obj), (∀ p ∈ ps, p.1 ≠ D) → LCg.Off1 D ps := by
            intro ps
            induction ps with
            | nil => intro _; exact trivial
            | cons p r ih => exact fun h => ⟨h p (.head _), ih fun q hq => h q (.tail _ hq)⟩
          exact this news fun p hp => (hoffC p hp).2
    · rcases List.mem_cons.mp hp with rfl | hp
      · exact ⟨hacc, hDL, hD₀⟩
      · exact ⟨old _ _ (N p hp).1, (N p hp).2⟩
  exact codeAny_compStart_list (loop _ rfl) (W.self 0 _ _ _ ⟨⟨_, old _ _ hE⟩, by obtain ⟨o, e, r⟩ := hJ; exact ⟨o, old _ _ e, r⟩, by obtain ⟨o, e, r⟩ := lof _ N; exact ⟨o, old _ _ e, r⟩⟩ (loop _ rfl))

theorem enum_call {elt : PySem.Expr} {x x₂ y : Str} {scope : Scope} {cl : List (Str × Addr)} {Q : Flow → Shared → Prop} {l : Addr} {items : Array Value} {c : Nat} {news : List (Addr × Obj)}
    (hh : A.handled = none) (F : Fr h₀ L s.heap m) (N : News h₀ L s.heap news) (hm : (l, ({ cls := .type "list", data := .seq items c } : Obj)) ∈ news) (hsz : items.size ≤ sizeLine)
    (turn : ∀ h tk, ETurn prog w A h₀ L m env elt x x₂ scope cl { s with heap := h, toks := tk } items news) (done : ∀ h tk, EDone h₀ L m { s with heap := h, toks := tk } y Q items.size news) :
    wpAny (model prog w) A (call (.type "enumerate") [.ref l]) (ESrc prog w A h₀ L m env elt x x₂ scope cl y Q) E s := by
  refine call_enumerate_list ⟨_, (N _ hm).1, rfl, c, rfl⟩ fun h' hE hJ hs' hk => ?_
  have fresh₀ : ∀ a, s.heap.objs.size ≤ a → h₀.get? a = none := fun a ha => by
    cases e : h₀.get? a with
    | none => rfl
    | some o' => exact absurd (Heap.lt_size (F.keep a o' e)) (Nat.not_lt.mpr ha)
  exact ⟨_, _, l, items, news, _, c, rfl, hh, F.keeps hk, N.grown hk, hm, ⟨rfl, rfl⟩, hE, hJ, ⟨Nat.ne_of_lt (Nat.lt_succ_of_lt F.ns.lt), Nat.ne_of_lt F.ns.lt, fresh₀ _ (Nat.le_succ _), fresh₀ _ (Nat.le_refl _), Nat.succ_ne_self _, fun p hp => ⟨Nat.ne_of_lt (Nat.lt_succ_of_lt (Heap.lt_size (N p hp).1)), Nat.ne_of_lt (Heap.lt_size (N p hp).1)⟩⟩, hsz, turn, done⟩
end
end Mine
end

/-! ## Law1 -/
section
open PySem PySem.W PyProof.Rows
open PySem.Calls
set_option Elab.async false
set_option rowWalk.seconds 0
namespace Mine
theorem three_ints {ys : List Value} (h : ys.length = 3) (hi : ∀ v ∈ ys, IsI v) : ∃ d0 t0 d1 t1 d2 t2, ys = [.int d0 t0, .int d1 t1, .int d2 t2] := by
  match ys, h with
  | [a, b, c], _ =>
    obtain ⟨d0, t0, e0⟩ := hi a (.head _)
    obtain ⟨d1, t1, e1⟩ := hi b (.tail _ (.head _))
    obtain ⟨d2, t2, e2⟩ := hi c (.tail _ (.tail _ (.head _)))
    exact ⟨d0, t0, d1, t1, d2, t2, by rw [e0, e1, e2]⟩
theorem isI_at {a b c v : Value} {i : Nat} (h : (#[a, b, c] : Array Value)[i]? = some v) (ha : IsI a) (hb : IsI b) (hc : IsI c) : IsI v := by
  match i, h with
  | 0, h => cases h; exact ha
  | 1, h => cases h; exact hb
  | 2, h => cases h; exact hc
  | i + 3, h => simp at h
theorem dot_num (d : Int) : ∃ n : Nat, 2 * d.fmod 7 + 1 = (n : Int) ∧ n ≤ 13 ∧ n % 2 = 1 := by
  have h1 := Int.fmod_nonneg_of_pos d (b := 7) (by decide)
  have h2 := Int.fmod_lt_of_pos d (b := 7) (by decide)
  exact ⟨(2 * d.fmod 7 + 1).toNat, by omega, by omega, by omega⟩
theorem kind_num (d : Int) : ∃ k : Nat, d.fmod 3 = (k : Int) ∧ k < 3 := by
  have h1 := Int.fmod_nonneg_of_pos d (b := 3) (by decide)
  have h2 := Int.fmod_lt_of_pos d (b := 3) (by decide)
  exact ⟨(d.fmod 3).toNat, by omega, by omega⟩
section
variable {prog : Program} {w : World} {A : Around} {E : Value → Shared → Prop} {s : Shared} {h₀ : Heap} {L l : Addr} {m : Str → Option Value} {news : List (Addr × Obj)} {Q : Value → Shared → Prop}
theorem sum_led {items : Array Value} {c : Nat} {ns : List Int} (hh : A.handled = none) (F : Fr h₀ L s.heap m) (N : News h₀ L s.heap news)
    (hm : (l, ({ cls := .type "list", data := .seq items c } : Obj)) ∈ news) (hi : IntsAre items.toList ns) (h : ∀ h' tk t', Fr h₀ L h' m → News h₀ L h' news → Q (.int ns.sum t') { s with heap := h', toks := tk }) :
    wpAny (model prog w) A (call (.builtin "sum") [.ref l]) Q E s := by
  have hl : s.heap.IsList l items := ⟨_, (N _ hm).1, rfl, c, rfl⟩
  have ha := hi.allInts
  rw [show items.toList.toArray = items from rfl] at ha
  obtain ⟨xs, rfl⟩ := ha.items
  have hn := hi.numsOf
  rw [nums_intItems] at hn
  refine sum_intListG hh hl fun h' tk t' hk => ?_
  have := h h' tk t' (F.keeps hk) (N.grown hk)
  rw [preSum_eq, List.take_of_length_le (by simp), hn]
  exact this
theorem mul_dot_n {k : Int} {n : Nat} {t u : Tok} (hk : k = (n : Int)) (hn : n ≤ 1000) (hq : ∀ t' tk, s.toks ≤ tk → Q (.str (dots n) t') { s with toks := tk }) : wpAny (model prog w) A (binaryOp .Mult (.str (Str.ofString ".") t) (.int k u)) Q E s := by
  subst hk
  refine mul_dot1 (by omega) (by omega) fun t' tk h => ?_
  rw [show ((n : Int).toNat) = n from by omega]
  exact hq t' tk h
end
section
variable {w : World} {p : Program} {loose : List Str} {mean : ExcName → Option Value} {mg mb : Str → Option Value} {news : List (Addr × Obj)}
   {dp un : Nat} {gd : Option (List Code)} {cn : Str} {cs : Scope} {a : Addr} {ccd : Value} {cl : List (Str × Addr)} {outer : List Env} {A₀ : Around} {base h₀ : Heap} {L : Addr} {m : Str → Option Value} {s : Shared} {Q E : Value → Shared → Prop}
theorem passed_f {n1 n2 : Nat} {t1 t2 : Tok} (hn : (n1 ≤ 13 ∧ n2 ≤ 13) ∧ n1 % 2 = 1 ∧ n2 % 2 = 1)
   (B : Below A₀ base outer h₀) (F₀ : Fr h₀ L s.heap m) (X : (Mine.hd.heap_39 w.params).In h₀) (N₀ : News h₀ L s.heap news) (T : Top p loose mean mg mb h₀) (hk : cs.kind = .function) (hdp : dp + 10 < recursionLimit) (hun : un + 40 < cLine)
   (hret : ∀ (D : Addr) (ta tb : Tok) (h' : Heap) (tk' : Nat), s.toks ≤ tk' → Fr h₀ L h' m → News h₀ L h' ((D, ({ cls := .type "tuple", data := .seq #[.int (floorS n1 n2 : Int) ta, .int 0 tb] } : Obj)) :: news) → (∀ p ∈ news, p.1 < D) → Q (.ref D) { s with heap := h', toks := tk' }) :
   wpAny (model PySem.Challenge.rw_sn0026_01.row.prog w) (ktrTop dp un gd cn cs L a ccd cl outer) (call (.ref 172) [.str (dots n1) t1, .str (dots n2) t2]) Q E s := by
  refine passed_c hn B F₀ X N₀ T hk hdp hun fun D ta tb h' tk' hle F N l => hret D ta tb h' tk' hle F ?_ l
  have e1 := quot_tab hn.1.1 hn.1.2 hn.2.1 hn.2.2
  unfold quotN at e1
  rw [e1, rem_tab hn.1.1 hn.1.2 hn.2.1 hn.2.2] at N
  exact N
theorem end_eq {n1 n2 : Nat} (hn : (n1 ≤ 13 ∧ n2 ≤ 13) ∧ n1 % 2 = 1 ∧ n2 % 2 = 1) : runR n1 n2 (floorS n1 n2 : Int) = endR n1 n2 := by
  have hr0 : RInv 0 ((n1, n2), [], [((floorS n1 n2 : Nat) : Int).fmod 2]) := ⟨⟨hn.1.1, hn.1.2, hn.2.1, hn.2.2⟩, Nat.le_refl _, Nat.le_refl _, Nat.zero_lt_one⟩
  exact runJ_eq hr0 13
def endB (a b : Nat) : Bool := decide ((endR a b).2.1 = List.drop 1 (endR a b).2.2)
theorem run_f {n1 n2 k : Nat} {t1 t2 t3 t4 : Tok} (hn : (n1 ≤ 13 ∧ n2 ≤ 13) ∧ n1 % 2 = 1 ∧ n2 % 2 = 1) (hk3 : k < 3)
   (B : Below A₀ base outer h₀) (F₀ : Fr h₀ L s.heap m) (X : (Mine.hd.heap_39 w.params).In h₀) (N₀ : News h₀ L s.heap news) (T : Top p loose mean mg mb h₀) (hk : cs.kind = .function) (hdp : dp + 20 < recursionLimit) (hun : un + 200 < cLine)
   (hret : ∀ (D : Addr) (ta tb : Tok) (h' : Heap) (tk' : Nat), s.toks ≤ tk' → Fr h₀ L h' m → News h₀ L h' ((D, ({ cls := .type "tuple", data := .seq #[.str (dots (endR n1 n2).1.1) ta, .str (dots (endR n1 n2).1.2) tb, .bool (endB n1 n2)] } : Obj)) :: news) → (∀ p ∈ news, p.1 < D) → Q (.ref D) { s with heap := h', toks := tk' }) :
   wpAny (model PySem.Challenge.rw_sn0026_01.row.prog w) (ktrTop dp un gd cn cs L a ccd cl outer) (call (.ref 179) [.str (dots n1) t1, .str (dots n2) t2, .int (k : Int) t3, .int (floorS n1 n2 : Int) t4]) Q E s := by
  refine wpAny_toks (run_c0 hn.1.1 hn.1.2 hn.2.1 hn.2.2 hk3 B F₀ X N₀ T hk hdp hun fun D ta tb h' tk' F N l hle => hret D ta tb h' tk' hle F ?_ l)
  unfold runB at N
  rw [end_eq hn] at N
  exact N
end
theorem end_le {n1 n2 : Nat} (hn : (n1 ≤ 13 ∧ n2 ≤ 13) ∧ n1 % 2 = 1 ∧ n2 % 2 = 1) : (endR n1 n2).1.1 ≤ 13 := by
  rw [← end_eq hn]
  unfold runR
  have hr0 : RInv 0 ((n1, n2), [], [((floorS n1 n2 : Nat) : Int).fmod 2]) := ⟨⟨hn.1.1, hn.1.2, hn.2.1, hn.2.2⟩, Nat.le_refl _, Nat.le_refl _, Nat.zero_lt_one⟩
  have h := runI_inv hr0 13
  unfold RInv at h
  exact h.1.1
def endE (a b : Nat) : Nat := (endR a b).1.1
theorem law_facts {a b : Nat} (hn : (a ≤ 13 ∧ b ≤ 13) ∧ a % 2 = 1 ∧ b % 2 = 1) : (endR a b).1.2 = endE a b ∧ endE a b ≤ 13 ∧ floorS a b + floorS b a = (a / 2) * (b / 2) + endE a b / 2 ∧ (1 < endE a b ∨ (endB a b = true ∧ floorS a b % 2 = invN a b % 2)) := by
  have h := List.all_eq_true.mp (List.all_eq_true.mp law_all (a / 2) (List.mem_range.mpr (by omega))) (b / 2) (List.mem_range.mpr (by omega))
  have e1 : 2 * (a / 2) + 1 = a := by omega
  have e2 : 2 * (b / 2) + 1 = b := by omega
  rw [e1, e2] at h
  unfold lawOK at h
  simp only [Bool.and_eq_true, Bool.or_eq_true, decide_eq_true_eq] at h
  refine ⟨h.1.symm, end_le hn, h.2.1, h.2.2.imp id fun x => ⟨?_, x.2⟩⟩
  unfold endB
  exact decide_eq_true x.1
section
variable {w : World} {p : Program} {loose : List Str} {mean : ExcName → Option Value} {mg mb : Str → Option Value} {news : List (Addr × Obj)}
   {dp un : Nat} {gd : Option (List Code)} {cn : Str} {cs : Scope} {a : Addr} {ccd : Value} {cl : List (Str × Addr)} {outer : List Env} {A₀ : Around} {base h₀ : Heap} {L : Addr} {m : Str → Option Value} {s : Shared} {Q E : Value → Shared → Prop}
theorem run_g {n1 n2 k : Nat} {kk : Int} {t1 t2 t3 t4 : Tok} (hn : (n1 ≤ 13 ∧ n2 ≤ 13) ∧ n1 % 2 = 1 ∧ n2 % 2 = 1) (hk3 : kk = (k : Int)) (hk : k < 3)
   (B : Below A₀ base outer h₀) (F₀ : Fr h₀ L s.heap m) (X : (Mine.hd.heap_39 w.params).In h₀) (N₀ : News h₀ L s.heap news) (T : Top p loose mean mg mb h₀) (hkk : cs.kind = .function) (hdp : dp + 20 < recursionLimit) (hun : un + 200 < cLine)
   (hret : ∀ (D : Addr) (ta tb : Tok) (h' : Heap) (tk' : Nat), s.toks ≤ tk' → Fr h₀ L h' m → News h₀ L h' ((D, ({ cls := .type "tuple", data := .seq #[.str (dots (endE n1 n2)) ta, .str (dots (endE n1 n2)) tb, .bool (endB n1 n2)] } : Obj)) :: news) → (∀ p ∈ news, p.1 < D) → Q (.ref D) { s with heap := h', toks := tk' }) :
   wpAny (model PySem.Challenge.rw_sn0026_01.row.prog w) (ktrTop dp un gd cn cs L a ccd cl outer) (call (.ref 179) [.str (dots n1) t1, .str (dots n2) t2, .int kk t3, .int (floorS n1 n2 : Int) t4]) Q E s := by
  subst hk3
  refine run_f hn hk B F₀ X N₀ T hkk hdp hun fun D ta tb h' tk' hle F N l => hret D ta tb h' tk' hle F ?_ l
  rw [(law_facts hn).1] at N
  exact N
end
end Mine
end

/-! ## Comp2 -/
section
open PySem PySem.W PyProof.Rows
open PySem.Calls PyProof.V PySem.Spec
namespace Mine
section
variable {prog : Program} {w : World} {A : Around} {E : Value → Shared → Prop} {s : Shared} {h₀ : Heap} {L : Addr} {m : Str → Option Value} {env : Env} {elt : PySem.Expr} {x : Str} {scope : Scope} {cl : List (Str × Addr)} {S : List (Addr × Obj) → Prop} {P : Nat → Value → Prop} {Fin : List Value → List (Addr × Obj) → Prop} {news : List (Addr × Obj)} {n : Nat}
theorem comp_ints (g : Nat → Int) (hS : S news)
    (turn : ∀ (i : Nat) (v : Value) (I : Addr) (oI : Obj) (C : Addr) (oC : Obj) (D : Addr) (ys : List Value) (m₂ : Str → Option Value) (h : Heap) (tk : Nat) (E' : Value → Shared → Prop), P i v → i < n → LCg.NsObj oC m₂ → m₂ x = some v → Fr h₀ L h m → News h₀ L h ((I, oI) :: (C, oC) :: (D, LCg.lst ys) :: news) →
      wpAny (model prog w) A (eval elt (compEnvC scope cl C env)) (fun y s₄ => (∃ t, y = .int (g i) t) ∧ ∃ tk', s₄ = { s with heap := h, toks := tk' }) E' { s with heap := h, toks := tk })
    (fin : ∀ ys, IntsAre ys ((List.range n).map g) → Fin ys news) : LCg.CompRest prog w A h₀ L m env elt x scope cl s S P Fin n 0 [] news := by
  have key : ∀ (k i : Nat) (ys : List Value), i + k = n → IntsAre ys ((List.range i).map g) → LCg.CompRest prog w A h₀ L m env elt x scope cl s S P Fin k i ys news := by
    intro k
    induction k with
    | zero =>
      intro i ys hi hys
      have : i = n := by omega
      subst this
      exact fin ys hys
    | succ k ih =>
      intro i ys hi hys
      refine LCg.CompRest.succ fun v I oI C oC D m₂ h tk E' hP hC hx F N off ne => ?_
      refine wpAny_mono (turn i v I oI C oC D ys m₂ h tk E' hP (by omega) hC hx F N) (fun y s₄ h₄ => ?_) fun _ _ e => e
      obtain ⟨⟨t, rfl⟩, tk', rfl⟩ := h₄
      refine ⟨h, tk', news, rfl, F, N, off, hS, ih (i + 1) _ (by omega) ?_⟩
      rw [List.range_succ, List.map_append]
      exact hys.append (.cons _ _ .nil)
  exact key n 0 [] (Nat.zero_add n) .nil
end
theorem rest_val {a b i : Nat} : ((a : Int) * (0 + (i : Int))).fmod (b : Int) = ((a * i % b : Nat) : Int) := by
  rw [Int.zero_add, Int.fmod_eq_emod_of_nonneg _ (Int.natCast_nonneg b)]
  push_cast
  rfl
theorem rest_map {a b : Nat} : (List.range b).map (fun i => ((a * i % b : Nat) : Int)) = (restL a b).map Int.ofNat := by
  unfold restL
  rw [List.map_map]
  rfl
theorem rest_getD {a b i : Nat} : ((List.range b).map (fun i => ((a * i % b : Nat) : Int))).getD ((i : Int).toNat) 0 = (((restL a b).getD i 0 : Nat) : Int) := by
  rw [rest_map, Int.toNat_natCast, List.getD_eq_getElem?_getD, List.getD_eq_getElem?_getD, List.getElem?_map]
  cases (restL a b)[i]? <;> rfl
theorem rest_cmp {a b i j : Nat} : decide (((List.range b).map (fun i => ((a * i % b : Nat) : Int))).getD ((i : Int).toNat) 0 < ((List.range b).map (fun i => ((a * i % b : Nat) : Int))).getD ((j : Int).toNat) 0) = decide ((restL a b).getD i 0 < (restL a b).getD j 0) := by
  rw [rest_getD, rest_getD]
  exact decide_eq_decide.mpr Int.ofNat_lt
theorem par_eq {a b : Nat} (h : a % 2 = b % 2) : (((a : Nat) : Int).fmod 2 == ((b : Nat) : Int).fmod 2) = true := by
  rw [Int.fmod_eq_emod_of_nonneg _ (by decide), Int.fmod_eq_emod_of_nonneg _ (by decide)]
  have : (a : Int) % 2 = (b : Int) % 2 := by omega
  rw [this]
  exact beq_self_eq_true _
end Mine
end

/-! ## Comp3 -/
section
open PySem PySem.W PyProof.Rows
open PySem.Calls PyProof.V PySem.Spec
namespace Mine
/-- a comprehension of two clauses, the second with one test -/
abbrev nestE (elt iter iter2 c : PySem.Expr) (x y : Str) (px py : Pos) (scope : Scope) (pos : Pos) : PySem.Expr := .ListComp elt [⟨.Name x px, iter, [], 0⟩, ⟨.Name y py, iter2, [c], 0⟩] scope pos
theorem turn_out (elt iter iter2 c : PySem.Expr) (x y : Str) (px py : Pos) (scope : Scope) (pos : Pos) (it acc : Value) (env : Env) :
    compTurn (nestE elt iter iter2 c x y px py scope pos) 0 it acc env = (do
      standAt iter.pos
      match ← pyNext it with
      | none => pure (.done .next)
      | some v =>
        letOwnedTupleGo (.Name x px) it v
        assign (.Name x px) env v
        let z ← eval iter2 env
        standAt iter2.pos
        let z ← foldedSetIterable iter2 env z
        let it2 ← holding [z] (pyIter z)
        let _ ← runOwn (.compStart (nestE elt iter iter2 c x y px py scope pos) 1 it2 acc env) env
        again (.compLoop (nestE elt iter iter2 c x y px py scope pos) 0 it acc env)) := by rfl
theorem turn_in (elt iter iter2 c : PySem.Expr) (x y : Str) (px py : Pos) (scope : Scope) (pos : Pos) (it acc : Value) (env : Env) :
    compTurn (nestE elt iter iter2 c x y px py scope pos) 1 it acc env = (do
      standAt iter2.pos
      match ← pyNext it with
      | none => pure (.done .next)
      | some v =>
        letOwnedTupleGo (.Name y py) it v
        assign (.Name y py) env v
        let mut ok := true
        for c in [c] do
          if ok then ok ← isTrue c env (eval c env)
        if ok then
          (do let _ ← call (.builtin "list.append") [acc, ← eval elt env])
        again (.compLoop (nestE elt iter iter2 c x y px py scope pos) 1 it acc env)) := by rfl
section
variable {prog : Program} {w : World} {A : Around} {E : Value → Shared → Prop} {R : Result → Shared → Prop} {s : Shared} {elt iter iter2 c : PySem.Expr} {x y : Str} {px py : Pos} {scope : Scope} {pos : Pos} {it acc : Value} {env : Env}
theorem loop_in (I : Nat → Shared → Prop)
    (turn : ∀ n s, I n s → wpAny (model prog w) A (pyNext it) (fun r s₁ => match r with
      | none => R (.ok .next) s₁
      | some v => wpAny (model prog w) A (assign (.Name y py) env v) (fun _ s₂ =>
          wpAny (model prog w) A (isTrue c env (eval c env)) (fun ok s₃ =>
            if ok = true then wpAny (model prog w) A (eval elt env) (fun x s₄ =>
              wpAny (model prog w) A (call (.builtin "list.append") [acc, x]) (fun _ s₅ => ∃ m, m < n ∧ I m s₅) (notedBy (model prog w) A env fun e s' => R (.error e) s') s₄) (notedBy (model prog w) A env fun e s' => R (.error e) s') s₃
            else ∃ m, m < n ∧ I m s₃) (notedBy (model prog w) A env fun e s' => R (.error e) s') s₂) (notedBy (model prog w) A env fun e s' => R (.error e) s') s₁) (notedBy (model prog w) A env fun e s' => R (.error e) s') s)
    (n : Nat) (h : I n s) :
    codeAny (model prog w) A (.compLoop (nestE elt iter iter2 c x y px py scope pos) 1 it acc env) R s := by
  refine codeAny_loop rfl I (fun n s hI => ?_) n h
  show wpAny _ A ((compTurn (nestE elt iter iter2 c x y px py scope pos) 1 it acc env).onRaise (fun x => do noteFrame x env; theTreesLotGoes x)) _ _ s
  refine wpAny_noted ?_
  rw [turn_in]
  refine wpAny_bind (wpAny_standAt (wpAny_bind (wpAny_mono (turn n s hI) (fun r s₁ h₁ => ?_) fun _ _ h' => h')))
  cases r with
  | none => exact wpAny_pure h₁
  | some v =>
    refine wpAny_bind (wpAny_of_eq (by rfl : letOwnedTupleGo (.Name y py) it v = pure ()) ?_)
    refine wpAny_bind (wpAny_mono h₁ (fun _ s₂ h₂ => wpAny_bind (wpAny_mono (wpAny_tests_one h₂) (fun ok s₃ h₃ => ?_) fun _ _ h' => h')) fun _ _ h' => h')
    cases ok with
    | false => exact wpAny_pure ⟨rfl, h₃⟩
    | true =>
      exact wpAny_bind (wpAny_bind (wpAny_mono h₃ (fun x s₄ h₄ => wpAny_bind (wpAny_mono h₄ (fun _ s₅ h₅ => wpAny_pure (wpAny_pure ⟨rfl, h₅⟩)) fun _ _ h' => h')) fun _ _ h' => h'))
theorem loop_out (I : Nat → Shared → Prop)
    (turn : ∀ n s, I n s → wpAny (model prog w) A (pyNext it) (fun r s₁ => match r with
      | none => R (.ok .next) s₁
      | some v => wpAny (model prog w) A (assign (.Name x px) env v) (fun _ s₂ =>
          wpAny (model prog w) A (eval iter2 env) (fun z s₃ => wpAny (model prog w) A (pyIter z) (fun it2 s₄ =>
            codeAny (model prog w) A (.compStart (nestE elt iter iter2 c x y px py scope pos) 1 it2 acc env) (fun r s₅ => match r with
              | .ok _ => ∃ m, m < n ∧ I m s₅
              | .error e => cameBackBy (model prog w) A env (notedBy (model prog w) A env fun e s' => R (.error e) s') e s₅) s₄)
            (notedBy (model prog w) A env fun e s' => R (.error e) s') s₃) (notedBy (model prog w) A env fun e s' => R (.error e) s') s₂) (notedBy (model prog w) A env fun e s' => R (.error e) s') s₁) (notedBy (model prog w) A env fun e s' => R (.error e) s') s)
    (hs : ∀ z, foldedSetIterable iter2 env z = pure z) (n : Nat) (h : I n s) :
    codeAny (model prog w) A (.compLoop (nestE elt iter iter2 c x y px py scope pos) 0 it acc env) R s := by
  refine codeAny_loop rfl I (fun n s hI => ?_) n h
  show wpAny _ A ((compTurn (nestE elt iter iter2 c x y px py scope pos) 0 it acc env).onRaise (fun x => do noteFrame x env; theTreesLotGoes x)) _ _ s
  refine wpAny_noted ?_
  rw [turn_out]
  refine wpAny_bind (wpAny_standAt (wpAny_bind (wpAny_mono (turn n s hI) (fun r s₁ h₁ => ?_) fun _ _ h' => h')))
  cases r with
  | none => exact wpAny_pure h₁
  | some v =>
    refine wpAny_bind (wpAny_of_eq (by rfl : letOwnedTupleGo (.Name x px) it v = pure ()) ?_)
    refine wpAny_bind (wpAny_mono h₁ (fun _ s₂ h₂ => wpAny_bind (wpAny_mono h₂ (fun z s₃ h₃ => wpAny_bind (wpAny_standAt (wpAny_bind (wpAny_of_eq (hs z) ?_)))) fun _ _ h' => h')) fun _ _ h' => h')
    refine wpAny_bind (wpAny_holding (wpAny_mono h₃ (fun it2 s₄ h₄ => wpAny_bind (wpAny_runOwn (codeAny_mono h₄ fun r s₅ h₅ => ?_))) fun _ _ h' => h'))
    cases r with
    | ok f => exact wpAny_pure ⟨rfl, h₅⟩
    | error e => exact h₅
theorem start_in
    (h0 : codeAny (model prog w) A (.compLoop (nestE elt iter iter2 c x y px py scope pos) 1 it acc env) R s)
    (h : wpAny (model prog w) A (pyIter it) (fun it' s' => codeAny (model prog w) A (.compLoop (nestE elt iter iter2 c x y px py scope pos) 1 it' acc env) R s')
      (notedBy (model prog w) A env fun x s' => R (.error x) s') s) :
    codeAny (model prog w) A (.compStart (nestE elt iter iter2 c x y px py scope pos) 1 it acc env) R s := by
  refine codeAny_of_tree ?_
  show wpAny _ _ ((compStart (nestE elt iter iter2 c x y px py scope pos) 1 it acc env).onRaise (fun x => do noteFrame x env; standAt theWindowsPlace)) _ _ s
  refine wpAny_notedAt ?_
  unfold compStart
  show wpAny _ _ (ask >>= _) _ _ s
  refine wpAny_bind (wpAny_askSetting (wpAny_ite ?_))
  split
  · first
      | exact wpAny_bind (wpAny_pure (wpAny_pure (And.intro rfl h0)))
      | exact wpAny_pure (And.intro rfl h0)
  · first
      | exact wpAny_bind (wpAny_rule (wpAny_bind (wpAny_standAt (wpAny_bind (wpAny_mono h (fun it' s' h' => wpAny_pure (And.intro rfl h')) fun _ _ x => x)))))
      | (refine wpAny_bind (wpAny_rule ?_); show wpAny _ _ (standAt iter2.pos >>= _) _ _ s; exact wpAny_bind (wpAny_standAt (wpAny_bind (wpAny_mono h (fun it' s' h' => wpAny_pure (And.intro rfl h')) fun _ _ x => x))))
end
end Mine
end

/-! ## Comp4 -/
section
open PySem PySem.W PyProof.Rows
open PySem.Calls PyProof.V PySem.Spec
namespace Mine
def cntP (p : Nat → Nat → Bool) (i : Nat) : Nat := ((List.range i).filter (p i)).length
def totP (p : Nat → Nat → Bool) (n : Nat) : Nat := ((List.range n).map (cntP p)).sum
theorem filt_succ (q : Nat → Bool) (j : Nat) : ((List.range (j + 1)).filter q).length = ((List.range j).filter q).length + (if q j = true then 1 else 0) := by
  rw [List.range_succ, List.filter_append, List.length_append]
  congr 1
  cases h : q j <;> simp [h]
theorem totP_succ (p : Nat → Nat → Bool) (n : Nat) : totP p (n + 1) = totP p n + cntP p n := by
  unfold totP
  rw [List.range_succ, List.map_append, List.sum_append]
  simp
theorem cntP_le (p : Nat → Nat → Bool) (i : Nat) : cntP p i ≤ i := by
  unfold cntP
  have := List.length_filter_le (p i) (List.range i)
  rwa [List.length_range] at this
theorem totP_le (p : Nat → Nat → Bool) : ∀ n, totP p n ≤ n * n
  | 0 => Nat.le_refl _
  | n + 1 => by
    have h := totP_le p n
    have h2 := cntP_le p n
    rw [totP_succ, Nat.succ_mul, Nat.mul_succ]
    omega
theorem totP_13 {p : Nat → Nat → Bool} {n : Nat} (h : n ≤ 13) : totP p n ≤ 169 := Nat.le_trans (totP_le p n) (Nat.mul_le_mul h h)
section
variable {prog : Program} {w : World} {A : Around} {E : Value → Shared → Prop} {s : Shared} {h₀ : Heap} {L : Addr} {m : Str → Option Value} {env : Env} {elt iter iter2 c : PySem.Expr} {x y : Str} {px py : Pos} {scope : Scope} {cl : List (Str × Addr)} {pos : Pos} {news : List (Addr × Obj)} {n : Nat} {p : Nat → Nat → Bool}
def NTest (prog : Program) (w : World) (A : Around) (h₀ : Heap) (L : Addr) (m : Str → Option Value) (env : Env) (c : PySem.Expr) (x y : Str) (scope : Scope) (cl : List (Str × Addr)) (s : Shared) (n : Nat) (p : Nat → Nat → Bool) (news : List (Addr × Obj)) : Prop :=
  ∀ (i j : Nat) (ti tj : Tok) (C : Addr) (oC : Obj) (I : Addr) (oI : Obj) (D : Addr) (oD : Obj) (m₂ : Str → Option Value) (h : Heap) (tk : Nat) (E' : Value → Shared → Prop), i < n → j < i → LCg.NsObj oC m₂ → m₂ x = some (.int (i : Int) ti) → m₂ y = some (.int (j : Int) tj) → Fr h₀ L h m → News h₀ L h ((C, oC) :: (I, oI) :: (D, oD) :: news) →
    wpAny (model prog w) A (isTrue c (compEnvC scope cl C env) (eval c (compEnvC scope cl C env))) (fun ok s₄ => ok = p i j ∧ ∃ tk', s₄ = { s with heap := h, toks := tk' }) E' { s with heap := h, toks := tk }
def NElt (prog : Program) (w : World) (A : Around) (env : Env) (elt : PySem.Expr) (scope : Scope) (cl : List (Str × Addr)) (s : Shared) : Prop :=
  ∀ (C : Addr) (h : Heap) (tk : Nat) (E' : Value → Shared → Prop), wpAny (model prog w) A (eval elt (compEnvC scope cl C env)) (fun _ s₄ => ∃ tk', s₄ = { s with heap := h, toks := tk' }) E' { s with heap := h, toks := tk }
def NIter (prog : Program) (w : World) (A : Around) (h₀ : Heap) (L : Addr) (m : Str → Option Value) (env : Env) (iter2 : PySem.Expr) (x : Str) (scope : Scope) (cl : List (Str × Addr)) (s : Shared) (n : Nat) (news : List (Addr × Obj)) : Prop :=
  ∀ (i : Nat) (ti : Tok) (C : Addr) (oC : Obj) (I : Addr) (oI : Obj) (D : Addr) (oD : Obj) (m₂ : Str → Option Value) (h : Heap) (tk : Nat) (E' : Value → Shared → Prop), i < n → LCg.NsObj oC m₂ → m₂ x = some (.int (i : Int) ti) → Fr h₀ L h m → News h₀ L h ((C, oC) :: (I, oI) :: (D, oD) :: news) →
    wpAny (model prog w) A (eval iter2 (compEnvC scope cl C env)) (fun z s₄ => ∃ (r2 : Addr) (t u v : Tok) (h' : Heap) (tk' : Nat), z = .ref r2 ∧ s₄ = { s with heap := h', toks := tk' } ∧ Fr h₀ L h' m ∧ News h₀ L h' ((C, oC) :: (I, oI) :: (D, oD) :: news) ∧ IsRange h' r2 0 (i : Int) 1 t u v) E' { s with heap := h, toks := tk }
structure NSt (h₀ : Heap) (L : Addr) (m : Str → Option Value) (C I : Addr) (oI : Obj) (D : Addr) (news : List (Addr × Obj)) (h : Heap) (m' : Str → Option Value) (ys : List Value) : Prop where
  F : Fr h₀ L h m
  ns : h.Ns C m'
  N : News h₀ L h ((I, oI) :: (D, LCg.lst ys) :: news)
structure NOff (h₀ : Heap) (L : Addr) (C I D : Addr) (news : List (Addr × Obj)) : Prop where
  CL : C ≠ L
  C0 : h₀.get? C = none
  CI : C ≠ I
  CD : C ≠ D
  DI : D ≠ I
  DL : D ≠ L
  D0 : h₀.get? D = none
  off : ∀ p ∈ news, p.1 ≠ C ∧ p.1 ≠ D ∧ p.1 ≠ I

theorem in_block {R : Result → Shared → Prop} {C I D J : Addr} {oI : Obj} {h : Heap} {tk i : Nat} {ti : Tok} {m' : Str → Option Value} {ys : List Value} (hh : A.handled = none) (hi : i < n) (O : NOff h₀ L C I D news) (hJC : J ≠ C) (hJD : J ≠ D) (hJI : J ≠ I) (hJL : L ≠ J) (hJ0 : h₀.get? J = none) (hJn : ∀ p ∈ news, p.1 ≠ J)
    (hkind : scope.kind = .function) (hy : scope.names.lookup y = some .local) (hxy : x ≠ y)
    (st : NSt h₀ L m C I oI D news h m' ys) (hx' : m' x = some (.int (i : Int) ti)) (hJs : IsRangeIter h J 0 (i : Int) 1) (hsz : ys.length + i ≤ sizeLine)
    (test : NTest prog w A h₀ L m env c x y scope cl s n p news) (el : NElt prog w A env elt scope cl s)
    (hR : ∀ h' tk' m'' zs, NSt h₀ L m C I oI D news h' m'' (ys ++ zs) → zs.length = cntP p i → R (.ok .next) { s with heap := h', toks := tk' }) :
    codeAny (model prog w) A (.compLoop (nestE elt iter iter2 c x y px py scope pos) 1 (.ref J) (.ref D) (compEnvC scope cl C env)) R { s with heap := h, toks := tk } := by
  have W : Walks prog w A J [J] [J] i (fun i v => ∃ t, v = .int (0 + (i : Int)) t) (fun j h => IsRangeIter h J (0 + (j : Nat) * 1) ((i : Int) - (j : Nat)) 1) := LCg.range_walks hh 0 i
  refine loop_in (fun k s' => ∃ h' tk' j m'' zs, s' = { s with heap := h', toks := tk' } ∧ j ≤ i ∧ k = i + 1 - j ∧ zs.length = ((List.range j).filter (p i)).length ∧ zs.length ≤ j ∧ IsRangeIter h' J (0 + (j : Nat) * 1) ((i : Int) - (j : Nat)) 1 ∧ m'' x = some (.int (i : Int) ti) ∧ NSt h₀ L m C I oI D news h' m'' (ys ++ zs)) ?_ (i + 1)
    ⟨h, tk, 0, m', [], rfl, Nat.zero_le _, rfl, rfl, Nat.le_refl _, by simpa using hJs, hx', by rw [List.append_nil]; exact st⟩
  rintro k s' ⟨h', tk', j, m'', zs, rfl, hj, rfl, hzl, hzj, hJs', hx'', st'⟩
  by_cases hlt : j < i
  · refine W.item j _ _ _ hlt hJs' fun v h₂ tk₂ hPv hst₂ hk₂ => ?_
    obtain ⟨tj, rfl⟩ := hPv
    rw [Int.zero_add]
    have up : ∀ b o, b ≠ J → h'.get? b = some o → h₂.get? b = some o := fun b o hb e => hk₂ b o (by simpa using hb) e
    refine wpAny_assign_Name (wpAny_storeName_local (lookup_relabel_local hy) (st'.ns.at' fun o e => up _ o (Ne.symm hJC) e) (fun h₃ hn₃ hs₃ => ?_) (by simp [compEnvC, relabel, hkind]))
    obtain ⟨oC, heC, hoC⟩ := LCg.ns_obj hn₃
    have F₃ : Fr h₀ L h₃ m := (LCg.fr_but st'.F hk₂ hJL hJ0).change hs₃ O.CL O.C0
    have hst₃ : IsRangeIter h₃ J (0 + ((j + 1 : Nat) : Nat) * 1) ((i : Int) - ((j + 1 : Nat) : Nat)) 1 := W.frame _ _ _ hst₂ fun b hb o e => hs₃.extBut b o (by rw [List.mem_singleton.mp hb]; exact hJC) e
    have N₃ : News h₀ L h₃ ((C, oC) :: (I, oI) :: (D, LCg.lst (ys ++ zs)) :: news) := fun q hq => by
      rcases List.mem_cons.mp hq with rfl | hq
      · exact ⟨heC, O.CL, O.C0⟩
      · have z := st'.N q hq
        refine ⟨?_, z.2⟩
        rcases List.mem_cons.mp hq with rfl | hq
        · exact hs₃.extBut _ _ (Ne.symm O.CI) (up _ _ (Ne.symm hJI) z.1)
        · rcases List.mem_cons.mp hq with rfl | hq
          · exact hs₃.extBut _ _ (Ne.symm O.CD) (up _ _ (Ne.symm hJD) z.1)
          · exact hs₃.extBut _ _ (O.off q hq).1 (up _ _ (hJn q hq) z.1)
    refine wpAny_mono (test i j ti tj C oC I oI D _ _ h₃ _ _ hi hlt hoC (by rw [if_neg hxy]; exact hx'') (by rw [if_pos rfl]) F₃ N₃) (fun ok s₄ h₄ => ?_) fun _ _ e => e
    obtain ⟨rfl, tk₄, rfl⟩ := h₄
    have hf := filt_succ (p i) j
    by_cases hp : p i j = true
    · rw [if_pos hp] at hf ⊢
      refine wpAny_mono (el C h₃ tk₄ _) (fun yv s₅ h₅ => ?_) fun _ _ e => e
      obtain ⟨tk₅, rfl⟩ := h₅
      have zD := (N₃ _ (.tail _ (.tail _ (.head _)))).1
      refine append_at (hsz := by show (ys ++ zs).toArray.size ≤ sizeLine; rw [List.size_toArray, List.length_append]; omega) zD fun h₆ hs₆ hD₆ => ?_
      refine ⟨i + 1 - (j + 1), by omega, h₆, tk₅, j + 1, _, zs ++ [yv], rfl, hlt, rfl, by rw [List.length_append, List.length_singleton, hf, hzl], by rw [List.length_append, List.length_singleton]; omega, W.frame _ _ _ hst₃ fun b hb o e => hs₆.extBut b o (by rw [List.mem_singleton.mp hb]; exact hJD) e, ?_, ⟨F₃.change hs₆ O.DL O.D0, hn₃.sameBut hs₆ O.CD, fun q hq => ?_⟩⟩
      · show (if x = y then _ else m'' x) = _
        rw [if_neg hxy]; exact hx''
      · have z := st'.N
        rcases List.mem_cons.mp hq with rfl | hq
        · exact ⟨hs₆.extBut _ _ (Ne.symm O.DI) (N₃ _ (.tail _ (.head _))).1, (z _ (.head _)).2⟩
        · rcases List.mem_cons.mp hq with rfl | hq
          · refine ⟨?_, O.DL, O.D0⟩
            rw [← List.append_assoc]
            exact hD₆.trans (congrArg some (LCg.lst_snoc (ys ++ zs) yv))
          · exact ⟨hs₆.extBut _ _ (O.off q hq).2.1 (N₃ q (.tail _ (.tail _ (.tail _ hq)))).1, (z q (.tail _ (.tail _ hq))).2⟩
    · rw [if_neg hp] at hf ⊢
      refine ⟨i + 1 - (j + 1), by omega, h₃, tk₄, j + 1, _, zs, rfl, hlt, rfl, by rw [hf, hzl, Nat.add_zero], by omega, hst₃, ?_, ⟨F₃, hn₃, fun q hq => N₃ q (.tail _ hq)⟩⟩
      show (if x = y then _ else m'' x) = _
      rw [if_neg hxy]; exact hx''
  · obtain rfl : j = i := Nat.le_antisymm hj (Nat.not_lt.mp hlt)
    refine W.done _ _ _ hJs' fun h₂ tk₂ hk₂ => ?_
    have up : ∀ b o, b ≠ J → h'.get? b = some o → h₂.get? b = some o := fun b o hb e => hk₂ b o (by simpa using hb) e
    refine hR h₂ tk₂ m'' zs ⟨LCg.fr_but st'.F hk₂ hJL hJ0, st'.ns.at' fun o e => up _ o (Ne.symm hJC) e, fun q hq => ?_⟩ hzl
    have z := st'.N q hq
    refine ⟨up _ _ ?_ z.1, z.2⟩
    rcases List.mem_cons.mp hq with rfl | hq
    · exact Ne.symm hJI
    · rcases List.mem_cons.mp hq with rfl | hq
      · exact Ne.symm hJD
      · exact hJn q hq
def NSrc (prog : Program) (w : World) (A : Around) (h₀ : Heap) (L : Addr) (m : Str → Option Value) (env : Env) (elt iter2 c : PySem.Expr) (x y : Str) (scope : Scope) (cl : List (Str × Addr)) (n : Nat) (p : Nat → Nat → Bool) (Q : Value → Shared → Prop) (xv : Value) (s₁ : Shared) : Prop :=
  ∃ (r : Addr) (t u v : Tok) (news : List (Addr × Obj)), xv = .ref r ∧ A.handled = none ∧ Fr h₀ L s₁.heap m ∧ News h₀ L s₁.heap news ∧ IsRange s₁.heap r 0 (n : Int) 1 t u v ∧ n ≤ 1000 ∧
    (∀ h tk, NIter prog w A h₀ L m env iter2 x scope cl { s₁ with heap := h, toks := tk } n news) ∧ (∀ h tk, NTest prog w A h₀ L m env c x y scope cl { s₁ with heap := h, toks := tk } n p news) ∧ (∀ h tk, NElt prog w A env elt scope cl { s₁ with heap := h, toks := tk }) ∧
    ∀ h tk ys, ys.length = totP p n → LCg.FinE h₀ L m { s₁ with heap := h, toks := tk } Q ys news
theorem ListComp_nest {Q : Value → Shared → Prop} (_F₀ : Fr h₀ L s.heap m) (n : Nat) (p : Nat → Nat → Bool)
    (hclos : closureFor scope env = pure cl) (hcell : ∀ z ∈ scope.names, z.2 ≠ .cell) (hkind : scope.kind = .function)
    (hnames : ∀ z ∈ scope.names, z.2 = .local → scope.names.lookup z.1 = some .local) (hx : scope.names.lookup x = some .local) (hy : scope.names.lookup y = some .local) (hxy : x ≠ y)
    (h : wpAny (model prog w) A (eval iter env) (NSrc prog w A h₀ L m env elt iter2 c x y scope cl n p Q) E s)
    (hs : ∀ x, foldedSetIterable iter env x = pure x := by intro _; rfl) (hs2 : ∀ C z, foldedSetIterable iter2 (compEnvC scope cl C env) z = pure z := by intro _ _; rfl) :
    wpAny (model prog w) A (eval (nestE elt iter iter2 c x y px py scope pos) env) Q E s := by
  rw [eval_ListComp]
  refine wpAny_comprehension_free (use := none) rfl hs hclos hkind hnames (wpAny_mono h (fun xv s₁ h₁ => ?_) fun _ _ e => e)
  obtain ⟨r, tr, ur, vr, news, rfl, hh, F, N, hr, hn, iter', test, el, done⟩ := h₁
  have hsl : n ≤ sizeLine := by rw [sizeLine_eq]; omega
  refine wpAny_pyIter_range hr (small_one (by omega) (by omega) (by omega) (by omega)) ?_
  have old0 : ∀ b o, s₁.heap.get? b = some o → (s₁.heap.push { cls := .type "range_iterator", data := .fields #[rawInt 0, rawInt (Builtin.Range.rangeSize 0 (n : Int) 1), rawInt 1] }).get? b = some o := fun b o e => Heap.get?_push_of_some _ e
  have hI0 : IsRangeIter (s₁.heap.push { cls := .type "range_iterator", data := .fields #[rawInt 0, rawInt (Builtin.Range.rangeSize 0 (n : Int) 1), rawInt 1] }) s₁.heap.objs.size 0 (n : Int) 1 := by
    show Heap.get? _ _ = some _
    rw [rangeSize_nat]
    simpa using Heap.get?_push_size s₁.heap rfl
  have hI₀ : h₀.get? s₁.heap.objs.size = none := next_is_new F
  have hIL : L ≠ s₁.heap.objs.size := Nat.ne_of_lt F.ns.lt
  have hIn : ∀ p ∈ news, p.1 ≠ s₁.heap.objs.size := fun p hp => Nat.ne_of_lt (Heap.lt_size (N p hp).1)
  replace F := F.keeps old0
  replace N := N.grown old0
  clear hr old0
  generalize hH1 : s₁.heap.push { cls := .type "range_iterator", data := .fields #[rawInt 0, rawInt (Builtin.Range.rangeSize 0 (n : Int) 1), rawInt 1] } = H1 at *
  generalize hII : s₁.heap.objs.size = I at *
  refine wpAny_newObj_type (wpAny_newFunctionEnv hcell (by intro y hy; simp at hy) (fun h₁ hns₁ hsb₁ => ?_) hkind)
  dsimp only at hns₁ hsb₁ ⊢
  generalize hH2 : H1.push { cls := .type "list", dict := none, data := .seq ([] : List Value).toArray } = H2 at hns₁ hsb₁ ⊢
  have hC : H2.objs.size = H1.objs.size + 1 := by rw [← hH2, Heap.size_push]
  have hDC : H1.objs.size ≠ H2.objs.size := by rw [hC]; exact Nat.ne_of_lt (Nat.lt_succ_self _)
  have below : ∀ b, b < H1.objs.size → b ≠ H2.objs.size ∧ b ≠ H1.objs.size := fun b hb => ⟨by rw [hC]; exact Nat.ne_of_lt (Nat.lt_succ_of_lt hb), Nat.ne_of_lt hb⟩
  have old : ∀ b o, H1.get? b = some o → h₁.get? b = some o := fun b o e => hsb₁.extBut b o (below b (Heap.lt_size e)).1 (Heap.get?_push_of_some _ (hH2 ▸ Heap.get?_push_of_some _ e))
  have hacc : h₁.get? H1.objs.size = some (LCg.lst []) := hsb₁.extBut _ _ hDC (Heap.get?_push_of_some _ (hH2 ▸ Heap.get?_push_size _ rfl))
  have fresh₀ : ∀ a, H1.objs.size ≤ a → h₀.get? a = none := fun a ha => by
    cases e : h₀.get? a with
    | none => rfl
    | some o' => exact absurd (Heap.lt_size (F.keep a o' e)) (Nat.not_lt.mpr ha)
  have hD₀ : h₀.get? H1.objs.size = none := fresh₀ _ (Nat.le_refl _)
  have hC₀ : h₀.get? H2.objs.size = none := fresh₀ _ (by rw [hC]; exact Nat.le_succ _)
  have hDL : H1.objs.size ≠ L := Ne.symm (below _ F.ns.lt).2
  have hCL : H2.objs.size ≠ L := Ne.symm (below _ F.ns.lt).1
  have hIlt : I < H1.objs.size := Heap.lt_size hI0
  have hCI := (below I hIlt).1
  have hDI := (below I hIlt).2
  have hoffC : ∀ p ∈ news, p.1 ≠ H2.objs.size ∧ p.1 ≠ H1.objs.size := fun p hp => below _ (Heap.lt_size (N p hp).1)
  have hst₁ : IsRangeIter h₁ I 0 (n : Int) 1 := old _ _ hI0
  have F₁ : Fr h₀ L h₁ m := F.keeps old
  have N₁ : News h₀ L h₁ ((H1.objs.size, LCg.lst []) :: news) := fun p hp => by
    rcases List.mem_cons.mp hp with rfl | hp
    · exact ⟨hacc, hDL, hD₀⟩
    · exact ⟨old _ _ (N p hp).1, (N p hp).2⟩
  generalize hCC : H2.objs.size = C at *
  generalize hDD : H1.objs.size = D at *
  have O : NOff h₀ L C I D news := ⟨hCL, hC₀, Ne.symm hCI, Ne.symm hDC, Ne.symm hDI, hDL, hD₀, fun p hp => ⟨(hoffC p hp).1, (hoffC p hp).2, hIn p hp⟩⟩
  have W : Walks prog w A I [I] [I] n (fun i v => ∃ t, v = .int (0 + (i : Int)) t) (fun j h => IsRangeIter h I (0 + (j : Nat) * 1) ((n : Int) - (j : Nat)) 1) := LCg.range_walks hh 0 n
  have loop : ∀ s₃ : Shared, s₃ = { s₁ with heap := h₁, toks := s₁.toks + ([] : List (Str × Value)).length } →
      codeAny (model prog w) A (.compLoop (nestE elt iter iter2 c x y px py scope pos) 0 (.ref I) (.ref D) (compEnvC scope cl C env))
        (compPost (model prog w) A E none Q (.ref D) C) s₃ := by
    rintro s₃ rfl
    refine loop_out
      (fun k s' => ∃ h' tk i ys m', s' = { s₁ with heap := h', toks := tk } ∧ i ≤ n ∧ k = n + 1 - i ∧ ys.length = totP p i ∧ ys.length ≤ i * 1000 ∧ IsRangeIter h' I (0 + (i : Nat) * 1) ((n : Int) - (i : Nat)) 1 ∧ Fr h₀ L h' m ∧ h'.Ns C m' ∧ News h₀ L h' ((D, LCg.lst ys) :: news)) ?_ (hs2 C) (n + 1)
      ⟨h₁, _, 0, [], _, rfl, Nat.zero_le _, rfl, rfl, Nat.zero_le _, by simpa using hst₁, F₁, hns₁, N₁⟩
    rintro k s' ⟨h', tk', i, ys, m', rfl, hi, rfl, hyl, hyb, hI', F', hn', N'⟩
    by_cases hlt : i < n
    · refine W.item i _ _ _ hlt hI' fun v h₂ tk₂ hPv hst₂ hk₂ => ?_
      obtain ⟨ti, rfl⟩ := hPv
      rw [Int.zero_add]
      have up : ∀ b o, b ≠ I → h'.get? b = some o → h₂.get? b = some o := fun b o hb e => hk₂ b o (by simpa using hb) e
      refine wpAny_assign_Name (wpAny_storeName_local (lookup_relabel_local hx) (hn'.at' fun o e => up _ o (Ne.symm hCI) e) (fun h₃ hn₃ hs₃ => ?_) (by simp [compEnvC, relabel, hkind]))
      obtain ⟨oC, heC, hoC⟩ := LCg.ns_obj hn₃
      have F₃ : Fr h₀ L h₃ m := (LCg.fr_but F' hk₂ hIL hI₀).change hs₃ hCL hC₀
      have hst₃ : IsRangeIter h₃ I (0 + ((i + 1 : Nat) : Nat) * 1) ((n : Int) - ((i + 1 : Nat) : Nat)) 1 := W.frame _ _ _ hst₂ fun b hb o e => hs₃.extBut b o (by rw [List.mem_singleton.mp hb]; exact hCI) e
      obtain ⟨oI, heI, hoI⟩ : ∃ oI : Obj, h₃.get? I = some oI ∧ ∀ h : Heap, h.get? I = some oI → IsRangeIter h I (0 + ((i + 1 : Nat) : Nat) * 1) ((n : Int) - ((i + 1 : Nat) : Nat)) 1 := ⟨_, hst₃, fun _ e => e⟩
      have N₃ : News h₀ L h₃ ((C, oC) :: (I, oI) :: (D, LCg.lst ys) :: news) := fun q hq => by
        rcases List.mem_cons.mp hq with rfl | hq
        · exact ⟨heC, hCL, hC₀⟩
        · rcases List.mem_cons.mp hq with rfl | hq
          · exact ⟨heI, Ne.symm hIL, hI₀⟩
          · have z := N' q hq
            refine ⟨?_, z.2⟩
            rcases List.mem_cons.mp hq with rfl | hq
            · exact hs₃.extBut _ _ hDC (up _ _ (Ne.symm hDI) z.1)
            · exact hs₃.extBut _ _ (hoffC q hq).1 (up _ _ (hIn q hq) z.1)
      refine wpAny_mono (iter' _ _ i ti C oC I oI D _ _ h₃ _ _ hlt hoC (by rw [if_pos rfl]) F₃ N₃) (fun z s₄ h₄ => ?_) fun _ _ e => e
      obtain ⟨r2, t2, u2, v2, h₄, tk₄, rfl, rfl, F₄, N₄, hr₄⟩ := h₄
      refine wpAny_pyIter_range hr₄ (small_one (by omega) (by omega) (by omega) (by omega)) ?_
      dsimp only
      have old4 : ∀ b o, h₄.get? b = some o → (h₄.push { cls := .type "range_iterator", data := .fields #[rawInt 0, rawInt (Builtin.Range.rangeSize 0 (i : Int) 1), rawInt 1] }).get? b = some o := fun b o e => Heap.get?_push_of_some _ e
      have hJ : IsRangeIter (h₄.push { cls := .type "range_iterator", data := .fields #[rawInt 0, rawInt (Builtin.Range.rangeSize 0 (i : Int) 1), rawInt 1] }) h₄.objs.size 0 (i : Int) 1 := by
        show Heap.get? _ _ = some _
        rw [rangeSize_nat]
        simpa using Heap.get?_push_size h₄ rfl
      have ltJ : ∀ q ∈ (C, oC) :: (I, oI) :: (D, LCg.lst ys) :: news, h₄.objs.size ≠ q.1 := fun q hq => Nat.ne_of_gt (Heap.lt_size (N₄ q hq).1)
      have hJ₀ : h₀.get? h₄.objs.size = none := next_is_new F₄
      have hJL : L ≠ h₄.objs.size := Nat.ne_of_lt F₄.ns.lt
      replace F₄ := F₄.keeps old4
      replace N₄ := N₄.grown old4
      generalize h₄.push { cls := .type "range_iterator", data := .fields #[rawInt 0, rawInt (Builtin.Range.rangeSize 0 (i : Int) 1), rawInt 1] } = h₅ at *
      generalize h₄.objs.size = J at *
      have hn₅ : h₅.Ns C _ := hoC.ns (N₄ _ (.head _)).1
      have inner : codeAny (model prog w) A (.compLoop (nestE elt iter iter2 c x y px py scope pos) 1 (.ref J) (.ref D) (compEnvC scope cl C env)) (fun r s₅ => match r with
              | .ok _ => ∃ k9, k9 < n + 1 - i ∧ (fun k s' => ∃ h' tk i ys m', s' = { s₁ with heap := h', toks := tk } ∧ i ≤ n ∧ k = n + 1 - i ∧ ys.length = totP p i ∧ ys.length ≤ i * 1000 ∧ IsRangeIter h' I (0 + (i : Nat) * 1) ((n : Int) - (i : Nat)) 1 ∧ Fr h₀ L h' m ∧ h'.Ns C m' ∧ News h₀ L h' ((D, LCg.lst ys) :: news)) k9 s₅
              | .error e => cameBackBy (model prog w) A (compEnvC scope cl C env) (notedBy (model prog w) A (compEnvC scope cl C env) fun e s' => compPost (model prog w) A E none Q (.ref D) C (.error e) s') e s₅) { s₁ with heap := h₅, toks := tk₄ } := by
        refine in_block (s := s₁) (n := n) (p := p) hh hlt O (ltJ _ (.head _)) (ltJ _ (.tail _ (.tail _ (.head _)))) (ltJ _ (.tail _ (.head _))) hJL hJ₀ (fun q hq => Ne.symm (ltJ q (.tail _ (.tail _ (.tail _ hq))))) hkind hy hxy (oI := oI) (ys := ys) ⟨F₄, hn₅, fun q hq => N₄ q (.tail _ hq)⟩ (by rw [if_pos rfl]) hJ (by rw [sizeLine_eq]; have : i * 1000 ≤ 1000 * 1000 := Nat.mul_le_mul_right _ (by omega); omega) (test s₁.heap s₁.toks) (el s₁.heap s₁.toks) fun h₆ tk₆ m₆ zs st₆ hz => ?_
        refine ⟨n + 1 - (i + 1), by omega, h₆, tk₆, i + 1, ys ++ zs, m₆, rfl, hlt, rfl, by rw [List.length_append, hyl, hz, totP_succ], ?_, hoI h₆ (st₆.N _ (.head _)).1, st₆.F, st₆.ns, fun q hq => st₆.N q (.tail _ hq)⟩
        rw [List.length_append, hz, Nat.succ_mul]
        have := cntP_le p i
        omega
      exact start_in inner ((LCg.range_walks (prog := prog) (w := w) (I := J) hh 0 i).self 0 _ _ _ (by simpa using hJ) inner)
    · obtain rfl : i = n := Nat.le_antisymm hi (Nat.not_lt.mp hlt)
      refine W.done _ _ _ hI' fun h₂ tk₂ hk₂ => ?_
      have up : ∀ b o, b ≠ I → h'.get? b = some o → h₂.get? b = some o := fun b o hb e => hk₂ b o (by simpa using hb) e
      have F₂ : Fr h₀ L h₂ m := LCg.fr_but F' hk₂ hIL hI₀
      have N₂ : News h₀ L h₂ ((D, LCg.lst ys) :: news) := fun q hq => by
        have z := N' q hq
        refine ⟨up _ _ ?_ z.1, z.2⟩
        rcases List.mem_cons.mp hq with rfl | hq
        · exact Ne.symm hDI
        · exact hIn q hq
      refine ⟨m', hn'.at' fun o e => up _ o (Ne.symm hCI) e, fun h'' hs'' => done s₁.heap s₁.toks ys hyl D h'' _ (F₂.change hs'' hCL hC₀) (fun q hq => ?_) ?_⟩
      · refine ⟨hs''.extBut _ _ ?_ (N₂ q hq).1, (N₂ q hq).2⟩
        rcases List.mem_cons.mp hq with rfl | hq
        · exact hDC
        · exact (hoffC q hq).1
      · clear done test iter' el
        have : ∀ ps : List (Addr × Obj), (∀ q ∈ ps, q.1 ≠ D) → LCg.Off1 D ps := by
          intro ps
          induction ps with
          | nil => intro _; exact trivial
          | cons q r ih => exact fun h => ⟨h q (.head _), ih fun q hq => h q (.tail _ hq)⟩
        exact this news fun q hq => (hoffC q hq).2
  exact codeAny_compStart_list (loop _ rfl) (W.self 0 _ _ _ (by simpa using hst₁) (loop _ rfl))
end
end Mine
end

/-! ## C7 -/
section
open PySem PySem.W PyProof.Rows
open PySem.Calls
set_option Elab.async false
set_option rowWalk.seconds 0
namespace Mine
section
local macro_rules | `(tactic| walk_at "call builtin:sum") => `(tactic| (k_here; k_dflt (refine' sum_led ?h ?F ?N ?m ?i ?_; (case h => exact rfl); (case F => k_asm); (case N => k_asm); (case m => k_mem); (case i => exact (IntsAre.pick (by assumption) _ _ _))); intro h' tk' t' F' N'; (try dsimp only)))
local macro_rules | `(tactic| walk_at "binaryOp Mult str int") => `(tactic| ((with_reducible show wpAny _ _ (binaryOp _ (Value.str (Str.ofString _) _) (Value.int _ _)) _ _ _); refine' mul_dot_n ?ha ?hb ?_; (case ha => k_dflt assumption); (case hb => omega); intro _ _ hTk; dsimp only at hTk))
local macro_rules | `(tactic| walk_at "exec Assign cons ListComp") => `(tactic| refine Stop.out ?_)
local macro_rules | `(tactic| walk_at "call type:enumerate") => `(tactic| refine Stop.out ?_)
local macro_rules | `(tactic| k_room) => `(tactic| ktr_room)
local macro_rules | `(tactic| walk_at "execs cons") => `(tactic| (refine' gentoks1 ?_; intro _ _; (try dsimp only); k_unmd))
local macro_rules | `(tactic| walk_at "call builtin:len") => `(tactic| ((with_reducible show wpAny _ _ (call (Value.builtin "len") [Value.str (dots _) _]) _ _ _); refine len_dots (by omega) ?_))
local macro_rules | `(tactic| walk_at "call ref") => `(tactic| (k_here; (with_reducible show wpAny _ _ (call (Value.ref 160) [Value.str (dots _) _]) _ _ _); k_dflt (refine' told_o ?_ ?k1 ?k2 ?k3 ?k4 ?k5 ?kK ?kd ?ku ?_; (case k1 => k_asm); (case k2 => k_asm); (case k3 => k_asm); (case k4 => k_asm); (case k5 => k_asm); (case kK => first | exact rfl | assumption); (case kd => ktr_room); (case ku => ktr_units)); rotate_left; intro t9 h9 tk9 H9 F9 N9; (try dsimp only at H9); (try dsimp only); (try k_fold)))
local macro_rules | `(tactic| walk_at "call ref") => `(tactic| (k_here; (with_reducible show wpAny _ _ (call (Value.ref 172) [Value.str (dots _) _, Value.str (dots _) _]) _ _ _); k_dflt (refine' passed_f ?hn ?k1 ?k2 ?k3 ?k4 ?k5 ?kK ?kd ?ku ?_; (case hn => omega); (case k1 => k_asm); (case k2 => k_asm); (case k3 => k_asm); (case k4 => k_asm); (case k5 => k_asm); (case kK => first | exact rfl | assumption); (case kd => ktr_room); (case ku => ktr_units)); intro D9 t9 t8 h9 tk9 H9 F9 N9 l1; (try k_lt l1); (try dsimp only at H9); (try dsimp only); (try k_fold)))
local macro_rules | `(tactic| walk_at "call ref") => `(tactic| ((with_reducible show wpAny _ _ (call (Value.ref 179) _) _ _ _); refine Stop.out ?_))
local macro_rules | `(tactic| walk_at "binaryOp Mult int int") => `(tactic| ((with_reducible show wpAny _ _ (binaryOp _ (Value.int (Nat.cast (_ / _)) _) (Value.int _ _)) _ _ _); refine' mul_int ?_ ?hm; (case hm => first | mul_fits | exact mulok_fdiv (by omega) (by omega) (by omega) | exact IntMulOk.of_left (intBits_le_64 (by omega) (by omega)))))
local macro_rules | `(tactic| walk_at "NSrc") => `(tactic| refine Stop.out ?_)
local macro_rules | `(tactic| walk_at "call builtin:len") => `(tactic| (k_here; (with_reducible show wpAny _ _ (call (Value.builtin "len") [Value.ref _]) _ _ _); k_dflt (refine' len_led ?N ?l ?z ?_; (case N => k_asm); (case l => k_mem); (case z => omega))))
local macro_rules | `(tactic| walk_at "CompSrc") => `(tactic| refine Stop.out ?_)
local macro_rules | `(tactic| walk_at "eval ListComp") => `(tactic| refine Stop.out ?_)
set_option maxRecDepth 100000 in
set_option maxHeartbeats 2000000 in
theorem law_holds : PySem.Challenge.rw_sn0026_01.Holds := Mine.hd (by
  k_go0
  rename_i w s₀ s₁ mg mb G Y fa o pm doc ho hg KX X V GL T B TE TW w13 w12 M wc w10 hcd ns hs hlay0 hL0 hr0 hl2 w8 w7 l vs w4 hL ra w1 r0 hI hr hc63 hctrue K0 hD h₁ tk₁ F o1 o2 o3 o4 c1 c2 c3 c4 N X0
  have F2 : Fr s₁.heap s₁.heap.objs.size h₁ (fun _ => none) := F
  replace c1 : o1.data = .cell none := c1
  replace c2 : o2.data = .cell none := c2
  replace c3 : o3.data = .cell none := c3
  replace c4 : o4.data = .cell (some (.ref l)) := c4
  have K1 : Below callerA s₁.heap [] s₁.heap := K0
  clear K0 F X0 hD hcd G Y GL B TE TW M X V hs hlay0 hL0 hr0 hl2 w1 r0 hr ra hctrue ho
  dsimp only
  k_unmd
  k_fold
  k_steps
  unfold Stop
  k_dflt (refine Assign_enum (by k_asm) (by rfl) (by with_unfolding_all rfl) (by with_unfolding_all rfl) (by decide) (by rfl) (by decide) (by rfl) (by rfl) (by decide) (by rfl) (by rfl) ?_)
  k_steps
  unfold Stop
  k_dflt (refine enum_call (by rfl) (by k_asm) (by k_asm) (by k_mem) (by show 3 ≤ sizeLine; rw [sizeLine_eq]; decide) ?_ ?_)
  · intro h2 tk2 i ti v C I J D oC oI oJ oD m₂ h3 tk3 E' hv hC hx hx2 F3 N3
    obtain ⟨b, tb, rfl⟩ := isI_at hv ⟨_, _, rfl⟩ ⟨_, _, rfl⟩ ⟨_, _, rfl⟩
    clear hv
    k_fold
    k_steps
    all_goals (rename Fr _ _ _ _ => F4; rename News _ _ _ _ => N4)
    all_goals first | exact ⟨_, _, rfl⟩ | exact F4 | exact fun p hp => N4 p (.tail _ hp)
  · intro h2 tk2 ys hyl hyi D h3 tk3 F3 N3 ho3
    obtain ⟨d0, t0, d1, t1, d2, t2, rfl⟩ := three_ints hyl hyi
    obtain ⟨n1, en1, hn1, hn1o⟩ := dot_num d0
    obtain ⟨n2, en2, hn2, hn2o⟩ := dot_num d1
    obtain ⟨k3, ek3, hk3⟩ := kind_num d2
    simp only [LCg.Off1, and_true] at ho3
    unfold LCg.lst at N3
    dsimp only [List.length] at F3 N3 ⊢
    clear hyl hyi
    k_unmd
    try k_fold
    k_steps
    unfold Stop
    have hnn : (n1 ≤ 13 ∧ n2 ≤ 13) ∧ n1 % 2 = 1 ∧ n2 % 2 = 1 := ⟨⟨hn1, hn2⟩, hn1o, hn2o⟩
    obtain ⟨-, hE13, hG, hZ⟩ := law_facts hnn
    k_dflt (refine' run_g ?hn ?hk3 ?hkl ?k1 ?k2 ?k3 ?k4 ?k5 ?kK ?kd ?ku ?_)
    case hn => exact hnn
    case hk3 => exact ek3
    case hkl => exact hk3
    case k1 => k_asm
    case k2 => k_asm
    case k3 => k_asm
    case k4 => k_asm
    case k5 => k_asm
    case kK => first | exact rfl | assumption
    case kd => ktr_room
    case ku => ktr_units
    generalize endE n1 n2 = e at hE13 hG hZ ⊢
    generalize endB n1 n2 = bb at hZ ⊢
    intro D9 t9 t8 h9 tk9 H9 F9 N9 l1
    k_lt l1
    dsimp only at H9
    dsimp only
    k_unmd
    k_fold
    k_steps
    unfold Stop
    k_dflt (refine wpAny_Assign_Name ?_ (by with_unfolding_all rfl))
    k_dflt (refine LCg.ListComp_U (F₀ := by k_asm) (by with_unfolding_all rfl) (by decide) (by rfl) (by decide) (by rfl) ?_)
    k_steps
    unfold Stop
    k_dflt (refine LCg.CompSrc.range (n := n2) (by rfl) (by k_asm) (by k_asm) (by assumption) (small_one (by omega) (by omega) (by omega) (by omega)) (rangeSize_nat _ _) (by rw [sizeLine_eq]; omega) ?_)
    intro g'
    refine comp_ints (fun i => ((n1 * i % n2 : Nat) : Int)) trivial ?_ ?_
    · intro i v I oI C oC D6 ys m₂ h6 tk6 E' hP hi hC hx F6 N6
      obtain ⟨t6, rfl⟩ := hP
      k_fold
      k_steps
      rw [rest_val]
    · intro ys hys D6 h6 tk6 F6 N6 o6
      have hyl := hys.length
      rw [List.length_map, List.length_range] at hyl
      unfold LCg.lst at N6
      simp only [LCg.Off1, and_true] at o6
      dsimp only
      k_unmd
      try k_fold
      k_steps
      unfold Stop
      k_dflt (refine ListComp_nest (by k_asm) ys.length (fun i j => decide ((restL n1 n2).getD i 0 < (restL n1 n2).getD j 0)) (by with_unfolding_all rfl) (by decide) (by rfl) (by decide) (by rfl) (by rfl) (by decide) ?_)
      k_steps
      unfold Stop
      refine ⟨_, _, _, _, _, rfl, by rfl, by k_asm, by k_asm, by assumption, by omega, ?_, ?_, ?_, ?_⟩
      · intro h7 tk7 i ti C oC I oI D7 oD m₂ h8 tk8 E' hi hC hx F8 N8
        k_fold
        k_steps
        all_goals first | ((rename Fr _ _ _ _ => F9'); exact F9') | ((rename News _ _ _ _ => N9'); first | exact N9' | exact fun q hq => N9' q (.tail _ hq) | exact fun q hq => N9' q (.tail _ (.tail _ hq)))
      · intro h7 tk7 i j ti tj C oC I oI D7 oD m₂ h8 tk8 E' hi hj hC hx hy F8 N8
        k_fold
        k_steps
        exact rest_cmp
      · intro h7 tk7 C h8 tk8 E'
        k_fold
        k_steps
      · intro h7 tk7 zs hzs D7 h8 tk8 F8 N8 o8
        have hzb : zs.length ≤ 169 := by rw [hzs]; exact totP_13 (by omega)
        have hne' : ¬ 1 < e := by omega
        obtain ⟨hbb, hpar⟩ := hZ.resolve_left hne'
        have hzi : zs.length = invN n1 n2 := by rw [hzs, List.length_map, List.length_range]; rfl
        rw [← hzi] at hpar
        have hfin := par_eq hpar
        subst hbb
        unfold LCg.lst at N8
        simp only [LCg.Off1, and_true] at o8
        dsimp only
        k_unmd
        try k_fold
        k_steps)
end
end Mine
end

theorem PySem.Challenge.cw_sn0026_01_holds : PySem.Challenge.rw_sn0026_01.Holds := by
  exact Mine.law_holds
