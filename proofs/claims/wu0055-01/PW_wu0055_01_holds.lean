import PyProof.Rows.All
import Wide.All
import OpenK.AllK
import Wide.FinOn
import PyProof.MaxThree
import PyProof.StrReplace2
import PySem.Challenge.RW_wu0055_01
set_option Elab.async false
set_option linter.unusedVariables false
section
open PySem PySem.W PyProof.Rows
namespace Mine
/-- the text without its four names: what the head pins -/
noncomputable def view : Program :=
  (fun {a0 a1 a2 a3 a4 a5 a6 a7 a8 a9 a10 a11 a12 a13 a14 a15 a16 a17 a18 a19 : Stmt}
    (_ : PySem.Challenge.rw_wu0055_01.row.prog.main.body = [a0, a1, a2, a3, a4, a5, a6, a7, a8, a9, a10, a11, a12, a13, a14, a15, a16, a17, a18, a19]) =>
    ({ PySem.Challenge.rw_wu0055_01.row.prog with main := { PySem.Challenge.rw_wu0055_01.row.prog.main with
      body := [a1, a2, a3, a5, a6, a7, a8, a10, a11, a12, a13, a15, a16, a17, a18, a19] } } : Program)) rfl
/-- the head's own step: the top's run in one check of the kernel's, in place of the pieces and their twins -/
local macro_rules | `(tactic| o_head $H) => `(tactic| (
  refine holds_open (q := view) (loose := []) (Xt := fun s => xlAt view [] s && recOk (RowW.records (OpenRow.toRowW (OpenLaw.row PySem.Challenge.rw_wu0055_01))) s) (XP := XL view [])
    (Yf := Hook.obs $H) (Ya := Hook.val $H) (YP := Hook.says $H) (N := 3174) ?hl (Hook.of $H) (Hook.keeps $H) (fun s e => xl_of s (Bool.and_eq_true_iff.mp e).1) XL.keeps (by rfl) (by rfl) (by rfl)
    (fun s e => recFacts_of (Bool.and_eq_true_iff.mp e).2) (by rfl) (by assumption) (by decide +kernel) ⟨rfl, rfl, rfl, rfl, rfl, by decide +kernel⟩ ?hw ?hc
  case hl =>
    intro w
    unfold openEnds fencedOpening topFrom
    try rw [PySem.W.Fast.te4187177175401517315, PySem.W.Fast.te5923862056798008813, PySem.W.Fast.te10274390034422433532, PySem.W.Fast.te14364793385576792824, PySem.W.Fast.te1435165496053646825,
      PySem.W.Fast.te14289696077712309145, PySem.W.Fast.te14082659384304107361, PySem.W.Fast.te8920871248978507458]
    kernel_rfl
  all_goals (rename_i said; clear said)))
set_option maxRecDepth 100000 in
set_option maxHeartbeats 8000000 in
open_top hd for PySem.Challenge.rw_wu0055_01
end Mine
end
/-- the head leaves the walker's top lines on: off again -/
theorem Mine.topOff : True := by
  w_top off
  trivial
section
open PySem PySem.W PyProof.Rows PySem.Calls PySem.Spec
namespace Mine
noncomputable abbrev F3 := UInt64 × UInt64 × UInt64
@[irreducible] noncomputable def joined (a b : F3) : F3 := (Float64.add a.1 b.1, Float64.add a.2.1 b.2.1, Float64.add a.2.2 b.2.2)
@[irreducible] noncomputable def yiqY (x : F3) : UInt64 := Float64.add (Float64.add (Float64.mul 0x3fd3333333333333 x.1) (Float64.mul 0x3fe2e147ae147ae1 x.2.1)) (Float64.mul 0x3fbc28f5c28f5c29 x.2.2)
@[irreducible] noncomputable def yiq (x : F3) : F3 := (yiqY x,
  Float64.sub (Float64.mul 0x3fe7ae147ae147ae (Float64.sub x.1 (yiqY x))) (Float64.mul 0x3fd147ae147ae148 (Float64.sub x.2.2 (yiqY x))),
  Float64.add (Float64.mul 0x3fdeb851eb851eb8 (Float64.sub x.1 (yiqY x))) (Float64.mul 0x3fda3d70a3d70a3d (Float64.sub x.2.2 (yiqY x))))
@[irreducible] noncomputable def clip (v : UInt64) : UInt64 := if (Float64.cmp v 0x0000000000000000 == some Ordering.lt) = true then 0x0000000000000000 else if (Float64.cmp v 0x3ff0000000000000 == some Ordering.gt) = true then 0x3ff0000000000000 else v
@[irreducible] noncomputable def rgbOf (x : F3) : F3 := (
  clip (Float64.add (Float64.add x.1 (Float64.mul 0x3fee4cdbef721b32 x.2.1)) (Float64.mul 0x3fe3f42ceedac0be x.2.2)),
  clip (Float64.sub (Float64.sub x.1 (Float64.mul 0x3fd1961eec8cbb3a x.2.1)) (Float64.mul 0x3fe45794d16efff3 x.2.2)),
  clip (Float64.add (Float64.sub x.1 (Float64.mul 0x3ff1bc99b7dee436 x.2.1)) (Float64.mul 0x3ffb5817a6224a7f x.2.2)))
@[irreducible] noncomputable def fmax (a b c : UInt64) : UInt64 := if (Float64.cmp b a == some Ordering.gt) = true then (if (Float64.cmp c b == some Ordering.gt) = true then c else b) else (if (Float64.cmp c a == some Ordering.gt) = true then c else a)
@[irreducible] noncomputable def fmin (a b c : UInt64) : UInt64 := if (Float64.cmp b a == some Ordering.lt) = true then (if (Float64.cmp c b == some Ordering.lt) = true then c else b) else (if (Float64.cmp c a == some Ordering.lt) = true then c else a)
noncomputable abbrev maxc (x : F3) : UInt64 := fmax x.1 x.2.1 x.2.2
noncomputable abbrev minc (x : F3) : UInt64 := fmin x.1 x.2.1 x.2.2
noncomputable abbrev sumc (x : F3) : UInt64 := Float64.add (maxc x) (minc x)
noncomputable abbrev rangec (x : F3) : UInt64 := Float64.sub (maxc x) (minc x)
noncomputable abbrev lightOf (x : F3) : UInt64 := Float64.div (sumc x) 0x4000000000000000
@[irreducible] noncomputable def shareOf (x : F3) : UInt64 := Float64.div (rangec x) (sumc x)
@[irreducible] noncomputable def rcOf (x : F3) (v : UInt64) : UInt64 := Float64.div (Float64.sub (maxc x) v) (rangec x)
@[irreducible] noncomputable def rawHue (x : F3) : UInt64 :=
  if (Float64.cmp x.1 (maxc x) == some Ordering.eq) = true then Float64.sub (rcOf x x.2.2) (rcOf x x.2.1)
  else if (Float64.cmp x.2.1 (maxc x) == some Ordering.eq) = true then Float64.sub (Float64.add 0x4000000000000000 (rcOf x x.1)) (rcOf x x.2.2)
  else Float64.sub (Float64.add 0x4010000000000000 (rcOf x x.2.1)) (rcOf x x.1)
@[irreducible] noncomputable def hueOf (x : F3) : UInt64 := (Float64.divmod (Float64.div (rawHue x) 0x4018000000000000) 0x3ff0000000000000).2
/-- what the walk of rgb_to_hls asks of a colour -/
@[irreducible] noncomputable def hlsOk (x : F3) : Bool := !(Float64.cmp (minc x) (maxc x) == some Ordering.eq) && (Float64.cmp (lightOf x) 0x3fe0000000000000 == some Ordering.lt || Float64.cmp (lightOf x) 0x3fe0000000000000 == some Ordering.eq)
  && !(Float64.isZero (sumc x)) && !(Float64.isZero (rangec x))
@[irreducible] noncomputable def hls (x : F3) : F3 := (hueOf x, lightOf x, shareOf x)

noncomputable def cornerI : Nat → Int × Int × Int
  | 0 => (1, 0, 0) | 1 => (1, 1, 0) | 2 => (0, 1, 0) | 3 => (0, 1, 1) | 4 => (0, 0, 1) | _ => (1, 0, 1)
@[irreducible] noncomputable def i64 (k : Int) : UInt64 := Float64.ofFrac (decide (k < 0) != decide ((64 : Int) < 0)) k.natAbs (64 : Int).natAbs
@[irreducible] noncomputable def edge (c : Nat) : F3 := yiq (i64 (cornerI c).1, i64 (cornerI c).2.1, i64 (cornerI c).2.2)
@[irreducible] noncomputable def step (st : F3 × F3 × F3) (n : Int) : F3 × F3 × F3 := if n = 60 then (st.1, st.2.2, joined st.1 st.2.2) else (st.2.2, st.2.1, joined st.2.2 st.2.1)
@[irreducible] noncomputable def start (c : Nat) : F3 × F3 × F3 := (edge c, edge ((c + 1) % 6), joined (edge c) (edge ((c + 1) % 6)))
@[irreducible] noncomputable def midOf (c : Nat) (w : List Int) : F3 := (w.foldl step (start c)).2.2
@[irreducible] noncomputable def r64 (v : UInt64) : Int := Flt.toInt Float64.nearestOf (Float64.mul (Float64.ofInt 64) v)
@[irreducible] noncomputable def q64 (x : F3) : F3 := (i64 (r64 x.1), i64 (r64 x.2.1), i64 (r64 x.2.2))
structure Told where
  hue : UInt64
  share : UInt64
  sixth : Int
  part : Int
  whole : Int
@[irreducible] noncomputable def wholeOf (x : F3) : Int := Flt.toInt Float64.nearestOf (Float64.mul (Float64.ofInt 128) (hls x).2.1)
@[irreducible] noncomputable def sixPart (x : F3) : Int := Flt.toInt Float64.nearestOf (Float64.mul (Float64.ofInt (6 * wholeOf x)) (hls x).1)
@[irreducible] noncomputable def toldX (x : F3) : Told := ⟨(hls x).1, (hls x).2.2, Int.fdiv (sixPart x) (wholeOf x), Int.fmod (sixPart x) (wholeOf x), wholeOf x⟩
@[irreducible] noncomputable def colour (c : Nat) (w : List Int) : F3 := q64 (rgbOf (midOf c w))
@[irreducible] noncomputable def told (c : Nat) (w : List Int) : Told := toldX (colour c w)
@[irreducible] noncomputable def fin64 (v : UInt64) : Bool := Float64.isFinite (Float64.mul (Float64.ofInt 64) v)
@[irreducible] noncomputable def rgbFin (x : F3) : Bool := fin64 x.1 && fin64 x.2.1 && fin64 x.2.2
@[irreducible] noncomputable def toldOk (c : Nat) (w : List Int) : Bool :=
  rgbFin (rgbOf (midOf c w)) && decide ((r64 (rgbOf (midOf c w)).1).natAbs ≤ 64) && decide ((r64 (rgbOf (midOf c w)).2.1).natAbs ≤ 64) && decide ((r64 (rgbOf (midOf c w)).2.2).natAbs ≤ 64) &&
  hlsOk (colour c w) && Float64.isFinite (Float64.mul (Float64.ofInt 128) (hls (colour c w)).2.1) && decide (0 < wholeOf (colour c w)) && decide (wholeOf (colour c w) ≤ 64) &&
  Float64.isFinite (Float64.mul (Float64.ofInt (6 * wholeOf (colour c w))) (hls (colour c w)).1)
noncomputable def ways : Nat → List (List Int)
  | 0 => [[]]
  | n + 1 => (ways n).flatMap fun w => [60 :: w, 62 :: w]
noncomputable def allWays : List (List Int) := ways 0 ++ ways 1 ++ ways 2 ++ ways 3 ++ ways 4 ++ ways 5 ++ ways 6
/-- the fraction that a way ends at, on plain numbers: low p, low q, high p, high q -/
@[irreducible] noncomputable def fracStep (s : (Int × Int) × (Int × Int)) (n : Int) : (Int × Int) × (Int × Int) :=
  if n = 60 then (s.1, (s.1.1 + s.2.1, s.1.2 + s.2.2)) else ((s.1.1 + s.2.1, s.1.2 + s.2.2), s.2)
@[irreducible] noncomputable def frac (w : List Int) : Int × Int := let s := w.foldl fracStep ((0, 1), (1, 1)); (s.1.1 + s.2.1, s.1.2 + s.2.2)
@[irreducible] noncomputable def toldIs (c : Nat) (w : List Int) : Bool := toldOk c w && (told c w).share == 0x3ff0000000000000 && (told c w).sixth == (c : Int) && (told c w).whole == (frac w).2 && (told c w).part == (frac w).1
end Mine
end
section
open PySem PySem.W PyProof.Rows PySem.Calls PySem.Spec
set_option linter.unusedVariables false
namespace Mine
/-- no run makes the tokens fewer -/
theorem runs_toks {M : Model} {Γ : PySem.Ctx} {p : Pos} {t : Sem Fin} {fs : List Frame} {s : Shared} {e : End} {s' : Shared} (h : Runs M Γ p t fs s e s') : s.toks ≤ s'.toks := by
  induction h
  all_goals (try simp only [Shared.setGen] at *)
  all_goals omega
theorem wakes_toks {M : Model} {Γ : PySem.Ctx} {p : Pos} {g : Nat} {r : Resume} {s : Shared} {res : GenResult} {s' : Shared} (h : Wakes M Γ p g r s res s') : s.toks ≤ s'.toks := by
  unfold Wakes at h
  split at h
  · cases h
  · split at h
    · obtain ⟨e₁, s₁, hr, _, _, rfl⟩ := h
      exact (runs_toks hr : (s.setGen g .running).toks ≤ s₁.toks)
    · rw [h.2]; exact Nat.le_refl _
    · rw [h.2]; exact Nat.le_refl _
  · obtain ⟨e₁, s₁, hr, _, _, rfl⟩ := h
    exact (runs_toks hr : (s.setGen g .running).toks ≤ s₁.toks)
  · rw [h.2]; exact Nat.le_refl _
  · rw [h.2]; exact Nat.le_refl _
theorem wp_toks {α : Type} {M : Model} {Γ : PySem.Ctx} {n : Nat} (t : Sem α) : ∀ (Q : α → Pos → Shared → Prop) (E : Value → Pos → Shared → Prop) (p : Pos) (s : Shared), n ≤ s.toks → Sem.wp M Γ t Q E p s →
    Sem.wp M Γ t (fun a p' s' => n ≤ s'.toks ∧ Q a p' s') (fun e p' s' => n ≤ s'.toks ∧ E e p' s') p s := by
  induction t with
  | pure a => intro Q E p s hn h; rw [Sem.wp] at h ⊢; exact ⟨hn, h⟩
  | raise e => intro Q E p s hn h; rw [Sem.wp] at h ⊢; exact ⟨hn, h⟩
  | unsupported _ => intro Q E p s hn h; rw [Sem.wp] at h; exact h.elim
  | finish _ => intro Q E p s hn h; rw [Sem.wp] at h; exact h.elim
  | rule _ k ih => intro Q E p s hn h; rw [Sem.wp] at h ⊢; exact ih () Q E p s hn h
  | «at» p' k ih => intro Q E p s hn h; rw [Sem.wp] at h ⊢; exact ih () Q E _ s hn h
  | load a _ k ih => intro Q E p s hn h; rw [Sem.wp] at h ⊢; obtain ⟨o, ho, h⟩ := h; exact ⟨o, ho, ih o Q E p s hn h⟩
  | update a _ f k ih => intro Q E p s hn h; rw [Sem.wp] at h ⊢; exact ⟨h.1, ih () Q E p _ hn h.2⟩
  | loadIfAlive a k ih => intro Q E p s hn h; rw [Sem.wp] at h ⊢; exact ih _ Q E p s hn h
  | point _ k ih => intro Q E p s hn h; rw [Sem.wp] at h ⊢; exact ih () Q E p s hn h
  | register _ _ => intro Q E p s hn h; rw [Sem.wp] at h; exact h.elim
  | alloc o k ih => intro Q E p s hn h; rw [Sem.wp] at h ⊢; exact ih _ Q E p _ hn h
  | fresh k ih => intro Q E p s hn h; rw [Sem.wp] at h ⊢; exact ih _ Q E p _ (Nat.le_succ_of_le hn) h
  | ask k ih => intro Q E p s hn h; rw [Sem.wp] at h ⊢; exact ih _ Q E p s hn h
  | choose src m k ih => intro Q E p s hn h; rw [Sem.wp] at h ⊢; exact ⟨h.1, ih _ Q E p _ hn h.2⟩
  | os q _ k ih => intro Q E p s hn h; rw [Sem.wp] at h ⊢; exact ih _ Q E p _ hn h
  | call c hh _ _ k ih =>
    intro Q E p s hn h; rw [Sem.wp] at h ⊢
    obtain ⟨r, s', hr, h⟩ := h
    exact ⟨r, s', hr, ih r Q E p s' (Nat.le_trans hn (runs_toks hr)) h⟩
  | handled own k ih => intro Q E p s hn h; rw [Sem.wp] at h ⊢; exact ih _ Q E p s hn h
  | genState g k ih => intro Q E p s hn h; rw [Sem.wp] at h ⊢; obtain ⟨st, hs, h⟩ := h; exact ⟨st, hs, ih _ Q E p s hn h⟩
  | newGen c k ih => intro Q E p s hn h; rw [Sem.wp] at h ⊢; exact ih _ Q E p _ hn h
  | resume g r _ k ih =>
    intro Q E p s hn h; rw [Sem.wp] at h ⊢
    obtain ⟨res, s', hr, h⟩ := h
    exact ⟨res, s', hr, ih res Q E p s' (Nat.le_trans hn (wakes_toks hr)) h⟩
  | yield _ _ _ _ => intro Q E p s hn h; rw [Sem.wp] at h; exact h.elim
  | stack k ih => intro Q E p s hn h; rw [Sem.wp] at h ⊢; exact ih _ Q E p s hn h
  | fork _ _ => intro Q E p s hn h; rw [Sem.wp] at h; exact h.elim
  | thread k ih => intro Q E p s hn h; rw [Sem.wp] at h ⊢; exact ih _ Q E p s hn h
  | await _ _ => intro Q E p s hn h; rw [Sem.wp] at h; exact h.elim
theorem wpAny_toks {α : Type} {M : Model} {A : Around} {t : Sem α} {Q : α → Shared → Prop} {E : Value → Shared → Prop} {s : Shared} (h : wpAny M A t (fun a s' => s.toks ≤ s'.toks → Q a s') (fun e s' => s.toks ≤ s'.toks → E e s') s) : wpAny M A t Q E s := by
  intro Γ p hΓ
  refine Sem.wp_mono M Γ t (fun a _ s' x => ?_) (fun e _ s' x => ?_) p s (wp_toks t _ _ p s (Nat.le_refl _) (h Γ p hΓ))
  · exact x.2 x.1
  · exact x.2 x.1
end Mine
end
section
open PySem PySem.W PyProof.Rows PySem.Calls PySem.Spec
namespace Mine
noncomputable abbrev tup3 (x : F3) (t1 t2 t3 : Tok) (c : Nat) : Obj := { cls := .type "tuple", data := .seq #[.float x.1 t1, .float x.2.1 t2, .float x.2.2 t3] c }

/-- what a call of the def at f, met under any frame, gives -/
noncomputable abbrev Ctr (w : World) (pg : Program) (lo : List Str) (mean : ExcName → Option Value) (mg mb : Str → Option Value) (d : Nat) (f : Addr) (vs : List Value) (news : List (Addr × Obj))
    (ret : Heap → Addr → (Str → Option Value) → Shared → (Value → Shared → Prop) → Prop) : Prop :=
  ∀ (dp un : Nat) (gd : Option (List Code)) (cn : Str) (cs : Scope) (a : Addr) (ccd : Value) (cl : List (Str × Addr)) (outer : List Env) (A₀ : Around) (base h₀ : Heap) (L : Addr) (m : Str → Option Value) (s : Shared) (Q E : Value → Shared → Prop),
    Below A₀ base outer h₀ → Fr h₀ L s.heap m → (hd.heap_39 w.params).In h₀ → News h₀ L s.heap news → Top pg lo mean mg mb h₀ → cs.kind = .function →
    dp + d < recursionLimit → un + 8 * d < cLine → ret h₀ L m s Q →
      wpAny (model PySem.Challenge.rw_wu0055_01.row.prog w) (ktrTop dp un gd cn cs L a ccd cl outer) (call (.ref f) vs) Q E s
/-- one new tuple, the ledger else as it was -/
noncomputable abbrev RetTup (news : List (Addr × Obj)) (o : Obj → Prop) (h₀ : Heap) (L : Addr) (m : Str → Option Value) (s : Shared) (Q : Value → Shared → Prop) : Prop :=
  ∀ D ob h' tk', o ob → Fr h₀ L h' m → News h₀ L h' ((D, ob) :: news) → AllLt D news → Q (.ref D) { s with heap := h', toks := tk' }
noncomputable abbrev RetF3 (news : List (Addr × Obj)) (x : F3) (h₀ : Heap) (L : Addr) (m : Str → Option Value) (s : Shared) (Q : Value → Shared → Prop) : Prop :=
  ∀ D v1 v2 v3 c h' tk', Fr h₀ L h' m → News h₀ L h' ((D, tup3 x v1 v2 v3 c) :: news) → AllLt D news → Q (.ref D) { s with heap := h', toks := tk' }
theorem fillK : PySem.Challenge.rw_wu0055_01 = PySem.Challenge.rw_wu0055_01 ∧ hd.heap_39 = hd.heap_39 := ⟨rfl, rfl⟩
local macro_rules | `(tactic| walk_at $s:str) => `(tactic| k_extra $s)

set_option maxRecDepth 100000 in
set_option maxHeartbeats 8000000 in
theorem c_joined (w : World) (pg : Program) (lo : List Str) (mean : ExcName → Option Value) (mg mb : Str → Option Value) (D1 D2 : Addr) (x y : F3) (t1 t2 t3 u1 u2 u3 : Tok) (c1 c2 : Nat) (news : List (Addr × Obj)) :
    Ctr w pg lo mean mg mb 1 185 [.ref D1, .ref D2] ((D2, tup3 y u1 u2 u3 c2) :: (D1, tup3 x t1 t2 t3 c1) :: news)
      (RetF3 ((D2, tup3 y u1 u2 u3 c2) :: (D1, tup3 x t1 t2 t3 c1) :: news) (joined x y)) := by
  k_with_none
  k_with "c_enter" => (
  have hx := fillK
  revert hx
  k_fill
  intro hx; clear hx
  intro dp un gd cn cs a ccd cl outer A₀ base h₀ L m s Q E B F X N T hk hd hu hret
  refine wpAny_call ?_
  k_dflt cell_enter)
  walk_at "c_enter"
  k_steps
  unfold joined at hret
  all_goals exact hret _ _ _ _ _ _ _ (by assumption) (by assumption) (by assumption)

set_option maxRecDepth 100000 in
set_option maxHeartbeats 8000000 in
theorem c_rgb (w : World) (pg : Program) (lo : List Str) (mean : ExcName → Option Value) (mg mb : Str → Option Value) (x : F3) (t1 t2 t3 : Tok) (news : List (Addr × Obj)) :
    Ctr w pg lo mean mg mb 1 21 [.float x.1 t1, .float x.2.1 t2, .float x.2.2 t3] news (RetF3 news (yiq x)) := by
  k_with_none
  k_with "c_enter" => (
  have hx := fillK
  revert hx
  k_fill
  intro hx; clear hx
  intro dp un gd cn cs a ccd cl outer A₀ base h₀ L m s Q E B F X N T hk hd hu hret
  refine wpAny_call ?_
  k_dflt cell_enter)
  walk_at "c_enter"
  k_steps
  unfold yiq yiqY at hret
  all_goals exact hret _ _ _ _ _ _ _ (by assumption) (by assumption) (allLt_of (by assumption))
end Mine
end
section
open PySem PySem.W PyProof.Rows PySem.Calls PySem.Spec
set_option linter.unusedSimpArgs false
namespace Mine
local macro_rules | `(tactic| walk_at "pad") => `(tactic| skip)
section
variable {prog : Program} {w : World} {A : Around} {E : Value → Shared → Prop} {s : Shared} {h₀ : Heap} {L : Addr} {m : Str → Option Value} {news : List (Addr × Obj)}
theorem floats_gt {A : Around} {P : Nat → Value → Prop} (val : Nat → UInt64) (hval : ∀ (i : Nat) (v : Value), P i v → ∃ t, v = Value.float (val i) t) :
    CmpOf prog w A .Gt P (fun i j => Float64.cmp (val i) (val j) == some Ordering.gt) := fun i j vi vj s Q E hi hj h => by
  obtain ⟨t, rfl⟩ := hval i vi hi
  obtain ⟨u, rfl⟩ := hval j vj hj
  exact AutoFloatOps.gt_0 h
theorem floats_lt {A : Around} {P : Nat → Value → Prop} (val : Nat → UInt64) (hval : ∀ (i : Nat) (v : Value), P i v → ∃ t, v = Value.float (val i) t) :
    CmpOf prog w A .Lt P (fun i j => Float64.cmp (val i) (val j) == some Ordering.lt) := fun i j vi vj s Q E hi hj h => by
  obtain ⟨t, rfl⟩ := hval i vi hi
  obtain ⟨u, rfl⟩ := hval j vj hj
  exact AutoFloatOps.lt_0 h
noncomputable def flItems (xs : Array (UInt64 × Tok)) : Array Value := xs.map fun p => .float p.1 p.2
noncomputable def flAt (xs : Array (UInt64 × Tok)) (i : Nat) : UInt64 := (xs[i]?.getD (0, 0)).1
theorem flItems_at {xs : Array (UInt64 × Tok)} : ∀ (i : Nat) (v : Value), (flItems xs)[i]? = some v → ∃ t, v = Value.float (flAt xs i) t := by
  intro i v h
  unfold flItems at h
  rw [Array.getElem?_map] at h
  cases hx : xs[i]? with
  | none => rw [hx] at h; cases h
  | some p => rw [hx] at h; cases h; exact ⟨p.2, by simp [flAt, hx]⟩
theorem kept_two {H H' : Heap} {L : Addr} {m : Str → Option Value} {news : List (Addr × Obj)} {h₀ : Heap} (F : Fr h₀ L H m) (N : News h₀ L H news) (hk : ∀ d o, H.get? d = some o → H'.get? d = some o) : Fr h₀ L H' m ∧ News h₀ L H' news := by
  obtain ⟨oL, a1, a2, hL, a3⟩ := F.ns
  exact ⟨⟨⟨oL, a1, a2, hk _ _ hL, a3⟩, fun b o e => hk b o (F.keep b o e), F.above⟩, fun p hp => ⟨hk _ _ (N p hp).1, (N p hp).2⟩⟩
theorem max_fl {a b c : UInt64} {t u x : Tok} {Q : Value → Shared → Prop} (hh : A.handled = none) (F : Fr h₀ L s.heap m) (N : News h₀ L s.heap news)
    (h : ∀ h' tk v, Fr h₀ L h' m → News h₀ L h' news → Q (.float (fmax a b c) v) { s with heap := h', toks := tk }) :
    wpAny (model prog w) A (call (.builtin "max") [.float a t, .float b u, .float c x]) Q E s := by
  have hT : (s.heap.push { cls := .type "tuple", data := .seq #[.float a t, .float b u, .float c x] }).IsTuple s.heap.objs.size (flItems #[(a, t), (b, u), (c, x)]) := ⟨_, Heap.get?_push_size _ rfl, rfl, 0, by simp [flItems]⟩
  refine call_max_three (wpAny_pyIter_tuple hT ?_)
  have hsz : (s.heap.push { cls := .type "tuple", data := .seq #[.float a t, .float b u, .float c x] }).objs.size = s.heap.objs.size + 1 := Heap.size_push ..
  refine ⟨_, [_, s.heap.objs.size], [_], _, _, _, _, rfl, Walks.tuple (A := A.in1) hh _ s.heap.objs.size (by rw [hsz]; exact Nat.ne_of_lt (Nat.lt_succ_self _)) (flItems #[(a, t), (b, u), (c, x)]),
    ⟨⟨_, Heap.get?_push_size _ rfl, rfl, rfl⟩, hT.push _⟩, fun d hd => ?_, by simp [flItems], floats_gt (flAt #[(a, t), (b, u), (c, x)]) (fun _ _ => flItems_at _ _), fun v h' tk hP hk => ?_⟩
  · show d < ((s.heap.push _).push _).objs.size
    rw [Heap.size_push, hsz]
    rcases List.mem_cons.mp hd with rfl | hd
    · rw [hsz]; exact Nat.lt_succ_self _
    · rcases List.mem_cons.mp hd with rfl | hd
      · exact Nat.lt_succ_of_lt (Nat.lt_succ_self _)
      · cases hd
  · have hold : ∀ d o, s.heap.get? d = some o → h'.get? d = some o := fun d o e => by
      refine hk d o (fun hm => ?_) (Heap.get?_push_of_some _ (Heap.get?_push_of_some _ e))
      rcases List.mem_cons.mp hm with e1 | hm
      · have := Heap.lt_size e; rw [e1, hsz] at this; exact Nat.lt_irrefl _ (Nat.lt_of_succ_lt this)
      · cases hm
    obtain ⟨F', N'⟩ := kept_two F N hold
    have key := fun v => h h' tk v F' N'
    have hP' : (flItems #[(a, t), (b, u), (c, x)])[argBest (fun i j => Float64.cmp (flAt #[(a, t), (b, u), (c, x)] i) (flAt #[(a, t), (b, u), (c, x)] j) == some Ordering.gt) 2]? = some v := by
      have hsz2 : (flItems #[(a, t), (b, u), (c, x)]).size - 1 = 2 := by simp [flItems]
      rw [← hsz2]; exact hP
    obtain ⟨tk2, hv⟩ := flItems_at _ _ hP'
    have hbest : flAt #[(a, t), (b, u), (c, x)] (argBest (fun i j => Float64.cmp (flAt #[(a, t), (b, u), (c, x)] i) (flAt #[(a, t), (b, u), (c, x)] j) == some Ordering.gt) 2) = fmax a b c := by
      simp only [argBest, fmax]
      have e0 : flAt #[(a, t), (b, u), (c, x)] 0 = a := rfl
      have e1 : flAt #[(a, t), (b, u), (c, x)] 1 = b := rfl
      have e2 : flAt #[(a, t), (b, u), (c, x)] 2 = c := rfl
      by_cases q1 : (Float64.cmp b a == some Ordering.gt) = true
      · by_cases q2 : (Float64.cmp c b == some Ordering.gt) = true
        · simp only [Nat.reduceAdd, e0, e1, e2, q1, q2, if_true]
        · simp only [Nat.reduceAdd, e0, e1, e2, q1, q2, if_true, if_false, Bool.false_eq_true]
      · by_cases q2 : (Float64.cmp c a == some Ordering.gt) = true
        · simp only [Nat.reduceAdd, e0, e1, e2, q1, q2, if_true, if_false, Bool.false_eq_true]
        · simp only [Nat.reduceAdd, e0, e1, e2, q1, q2, if_false, Bool.false_eq_true]
    rw [hv, hbest]
    exact key _
theorem max_flT {a b c : UInt64} {t u x : Tok} {Q : Value → Shared → Prop} (hh : A.handled = none) (F : Fr h₀ L s.heap m) (N : News h₀ L s.heap news)
    (h : ∀ h' tk v, s.toks ≤ tk → Fr h₀ L h' m → News h₀ L h' news → Q (.float (fmax a b c) v) { s with heap := h', toks := tk }) :
    wpAny (model prog w) A (call (.builtin "max") [.float a t, .float b u, .float c x]) Q E s := wpAny_toks (max_fl hh F N (fun h' tk v F' N' ht => h h' tk v ht F' N'))
theorem min_fl {a b c : UInt64} {t u x : Tok} {Q : Value → Shared → Prop} (hh : A.handled = none) (F : Fr h₀ L s.heap m) (N : News h₀ L s.heap news)
    (h : ∀ h' tk v, Fr h₀ L h' m → News h₀ L h' news → Q (.float (fmin a b c) v) { s with heap := h', toks := tk }) :
    wpAny (model prog w) A (call (.builtin "min") [.float a t, .float b u, .float c x]) Q E s := by
  have hT : (s.heap.push { cls := .type "tuple", data := .seq #[.float a t, .float b u, .float c x] }).IsTuple s.heap.objs.size (flItems #[(a, t), (b, u), (c, x)]) := ⟨_, Heap.get?_push_size _ rfl, rfl, 0, by simp [flItems]⟩
  refine call_min_three (wpAny_pyIter_tuple hT ?_)
  have hsz : (s.heap.push { cls := .type "tuple", data := .seq #[.float a t, .float b u, .float c x] }).objs.size = s.heap.objs.size + 1 := Heap.size_push ..
  refine ⟨_, [_, s.heap.objs.size], [_], _, _, _, _, rfl, Walks.tuple (A := A.in1) hh _ s.heap.objs.size (by rw [hsz]; exact Nat.ne_of_lt (Nat.lt_succ_self _)) (flItems #[(a, t), (b, u), (c, x)]),
    ⟨⟨_, Heap.get?_push_size _ rfl, rfl, rfl⟩, hT.push _⟩, fun d hd => ?_, by simp [flItems], floats_lt (flAt #[(a, t), (b, u), (c, x)]) (fun _ _ => flItems_at _ _), fun v h' tk hP hk => ?_⟩
  · show d < ((s.heap.push _).push _).objs.size
    rw [Heap.size_push, hsz]
    rcases List.mem_cons.mp hd with rfl | hd
    · rw [hsz]; exact Nat.lt_succ_self _
    · rcases List.mem_cons.mp hd with rfl | hd
      · exact Nat.lt_succ_of_lt (Nat.lt_succ_self _)
      · cases hd
  · have hold : ∀ d o, s.heap.get? d = some o → h'.get? d = some o := fun d o e => by
      refine hk d o (fun hm => ?_) (Heap.get?_push_of_some _ (Heap.get?_push_of_some _ e))
      rcases List.mem_cons.mp hm with e1 | hm
      · have := Heap.lt_size e; rw [e1, hsz] at this; exact Nat.lt_irrefl _ (Nat.lt_of_succ_lt this)
      · cases hm
    obtain ⟨F', N'⟩ := kept_two F N hold
    have key := fun v => h h' tk v F' N'
    have hP' : (flItems #[(a, t), (b, u), (c, x)])[argBest (fun i j => Float64.cmp (flAt #[(a, t), (b, u), (c, x)] i) (flAt #[(a, t), (b, u), (c, x)] j) == some Ordering.lt) 2]? = some v := by
      have hsz2 : (flItems #[(a, t), (b, u), (c, x)]).size - 1 = 2 := by simp [flItems]
      rw [← hsz2]; exact hP
    obtain ⟨tk2, hv⟩ := flItems_at _ _ hP'
    have hbest : flAt #[(a, t), (b, u), (c, x)] (argBest (fun i j => Float64.cmp (flAt #[(a, t), (b, u), (c, x)] i) (flAt #[(a, t), (b, u), (c, x)] j) == some Ordering.lt) 2) = fmin a b c := by
      simp only [argBest, fmin]
      have e0 : flAt #[(a, t), (b, u), (c, x)] 0 = a := rfl
      have e1 : flAt #[(a, t), (b, u), (c, x)] 1 = b := rfl
      have e2 : flAt #[(a, t), (b, u), (c, x)] 2 = c := rfl
      by_cases q1 : (Float64.cmp b a == some Ordering.lt) = true
      · by_cases q2 : (Float64.cmp c b == some Ordering.lt) = true
        · simp only [Nat.reduceAdd, e0, e1, e2, q1, q2, if_true]
        · simp only [Nat.reduceAdd, e0, e1, e2, q1, q2, if_true, if_false, Bool.false_eq_true]
      · by_cases q2 : (Float64.cmp c a == some Ordering.lt) = true
        · simp only [Nat.reduceAdd, e0, e1, e2, q1, q2, if_true, if_false, Bool.false_eq_true]
        · simp only [Nat.reduceAdd, e0, e1, e2, q1, q2, if_false, Bool.false_eq_true]
    rw [hv, hbest]
    exact key _
theorem min_flT {a b c : UInt64} {t u x : Tok} {Q : Value → Shared → Prop} (hh : A.handled = none) (F : Fr h₀ L s.heap m) (N : News h₀ L s.heap news)
    (h : ∀ h' tk v, s.toks ≤ tk → Fr h₀ L h' m → News h₀ L h' news → Q (.float (fmin a b c) v) { s with heap := h', toks := tk }) :
    wpAny (model prog w) A (call (.builtin "min") [.float a t, .float b u, .float c x]) Q E s := wpAny_toks (min_fl hh F N (fun h' tk v F' N' ht => h h' tk v ht F' N'))
end
local macro_rules | `(tactic| walk_at $s:str) => `(tactic| k_extra $s)

noncomputable abbrev RetHls (news : List (Addr × Obj)) (x : F3) (h₀ : Heap) (L : Addr) (m : Str → Option Value) (s : Shared) (Q : Value → Shared → Prop) : Prop :=
  ∀ D v1 v2 v3 c h' tk', @LT.lt Nat _ 0 v3 → Fr h₀ L h' m → News h₀ L h' ((D, tup3 x v1 v2 v3 c) :: news) → AllLt D news → Q (.ref D) { s with heap := h', toks := tk' }
theorem hls1 {x : F3} (h : (Float64.cmp x.1 (maxc x) == some Ordering.eq) = true) : hls x = ((Float64.divmod (Float64.div (Float64.sub (rcOf x x.2.2) (rcOf x x.2.1)) 0x4018000000000000) 0x3ff0000000000000).2, lightOf x, shareOf x) := by
  unfold hls hueOf rawHue; rw [if_pos h]
theorem hls2 {x : F3} (h : (Float64.cmp x.1 (maxc x) == some Ordering.eq) = false) (h2 : (Float64.cmp x.2.1 (maxc x) == some Ordering.eq) = true) : hls x = ((Float64.divmod (Float64.div (Float64.sub (Float64.add 0x4000000000000000 (rcOf x x.1)) (rcOf x x.2.2)) 0x4018000000000000) 0x3ff0000000000000).2, lightOf x, shareOf x) := by
  unfold hls hueOf rawHue; rw [if_neg (Bool.eq_false_iff.mp h), if_pos h2]
theorem hls3 {x : F3} (h : (Float64.cmp x.1 (maxc x) == some Ordering.eq) = false) (h2 : (Float64.cmp x.2.1 (maxc x) == some Ordering.eq) = false) : hls x = ((Float64.divmod (Float64.div (Float64.sub (Float64.add 0x4010000000000000 (rcOf x x.2.1)) (rcOf x x.1)) 0x4018000000000000) 0x3ff0000000000000).2, lightOf x, shareOf x) := by
  unfold hls hueOf rawHue; rw [if_neg (Bool.eq_false_iff.mp h), if_neg (Bool.eq_false_iff.mp h2)]

set_option maxRecDepth 100000 in
set_option maxHeartbeats 8000000 in
theorem c_hls (w : World) (pg : Program) (lo : List Str) (mean : ExcName → Option Value) (mg mb : Str → Option Value) (x : F3) (t1 t2 t3 : Tok) (news : List (Addr × Obj)) (ok : hlsOk x = true) :
    Ctr w pg lo mean mg mb 1 35 [.float x.1 t1, .float x.2.1 t2, .float x.2.2 t3] news (RetHls news (hls x)) := by
  k_with_none
  k_with "c_enter" => (
  have hx := fillK
  revert hx
  k_fill
  intro hx; clear hx
  intro dp un gd cn cs a ccd cl outer A₀ base h₀ L m s Q E B F X N T hk hd hu hret
  refine wpAny_call ?_
  k_dflt cell_enter)
  k_with "call builtin:max" => (k_here; (with_reducible show wpAny _ _ (call _ [Value.float _ _, Value.float _ _, Value.float _ _]) _ _ _); (refine' max_flT rfl ?k1 ?k2 ?_; (case k1 => k_asm); (case k2 => k_asm); intro h' tk v htk F' N'; (try dsimp only at htk)))
  k_with "call builtin:min" => (k_here; (with_reducible show wpAny _ _ (call _ [Value.float _ _, Value.float _ _, Value.float _ _]) _ _ _); (refine' min_flT rfl ?k1 ?k2 ?_; (case k1 => k_asm); (case k2 => k_asm); intro h' tk v htk F' N'; (try dsimp only at htk)))
  k_with "execs cons" => (k_here; refine wpAny_execs_cons ?_)
  k_with "execs nil" => (k_here; refine wpAny_execs_nil ?_)
  simp only [hlsOk, Bool.and_eq_true, Bool.not_eq_true'] at ok
  obtain ⟨⟨⟨o1, o2⟩, o3⟩, o4⟩ := ok
  simp only [maxc, minc, lightOf, sumc, rangec] at o1 o2 o3 o4
  walk_at "c_enter"
  k_steps
  · rw [hls1 (by assumption)] at hret
    unfold shareOf rcOf at hret
    refine' hret _ _ _ _ _ _ _ ?_ (by assumption) (by assumption) (allLt_of (by assumption))

    (try dsimp only)
    omega
  · rw [hls2 (by assumption) (by assumption)] at hret
    unfold shareOf rcOf at hret
    refine' hret _ _ _ _ _ _ _ ?_ (by assumption) (by assumption) (allLt_of (by assumption))

    (try dsimp only)
    omega
  · rw [hls3 (by assumption) (by assumption)] at hret
    unfold shareOf rcOf at hret
    refine' hret _ _ _ _ _ _ _ ?_ (by assumption) (by assumption) (allLt_of (by assumption))

    (try dsimp only)
    omega
end Mine
end
section
open PySem PySem.W PyProof.Rows PySem.Calls PySem.Spec
namespace Mine
local macro_rules | `(tactic| walk_at "pad") => `(tactic| skip)
local macro_rules | `(tactic| walk_at "pad") => `(tactic| skip)
local macro_rules | `(tactic| walk_at $s:str) => `(tactic| k_extra $s)
section
variable {prog : Program} {w : World} {A : Around} {E : Value → Shared → Prop} {s : Shared} {h₀ : Heap} {L f : Addr} {m : Str → Option Value} {news : List (Addr × Obj)} {cn : Str} {cs : Scope} {ccd : Value} {Q : Flow → Shared → Prop}
theorem same_put {H : Heap} {x : Str} {v : Value} (F : Fr h₀ L H m) (hv : m x = some v) : Fr h₀ L H (fun y => if y = x then some v else m y) := by
  have e : (fun y => if y = x then some v else m y) = m := by
    funext y
    by_cases hy : y = x
    · rw [if_pos hy, hy, hv]
    · rw [if_neg hy]
  rw [e]; exact F
theorem clamp_lt {x : Str} {a k : UInt64} {t : Tok} {i j : Nat} {p1 p2 p3 p4 p5 p6 p7 : Pos} (F : Fr h₀ L s.heap m) (N : News h₀ L s.heap news) (hv : m x = some (.float a t))
    (hk : cs.kind = .function) (hl : (envOf cn cs L f ccd).kindOf x = some .local) (hd : (x == ("__debug__" : Str)) = false)
    (h : ∀ v h' tk, Fr h₀ L h' (fun y => if y = x then some (.float (if (Float64.cmp a k == some Ordering.lt) = true then k else a) v) else m y) → News h₀ L h' news → Q .next { s with heap := h', toks := tk }) :
    wpAny (model prog w) A (exec (.If (.Compare (.Name x p1) [.Lt] [.Constant (.float k) i p2] p3) [.Assign [.Name x p4] (.Constant (.float k) j p5) p6] [] p7) (envOf cn cs L f ccd)) Q E s := by
  refine wpAny_If (wpAny_isTrue_Compare1 (ld F hv (AutoFloatOps.wpAny_Constant_float (AutoFloatOps.lt_0 (wpAny_truthy_bool ?_))) hk hl hd))
  by_cases c : (Float64.cmp a k == some Ordering.lt) = true
  · simp only [c, if_true] at h ⊢
    refine wpAny_execs_cons (wpAny_Assign_Name (AutoFloatOps.wpAny_Constant_float (stN (F := F) (N := N) (fun h' F' N' => ?_) hk hl)))
    exact wpAny_execs_nil (h _ _ _ F' N')
  · have c' : (Float64.cmp a k == some Ordering.lt) = false := by simpa using c
    simp only [c', Bool.false_eq_true, if_false] at h ⊢
    exact wpAny_execs_nil (h _ _ _ (same_put F hv) N)
theorem clamp_gt {x : Str} {a k : UInt64} {t : Tok} {i j : Nat} {p1 p2 p3 p4 p5 p6 p7 : Pos} (F : Fr h₀ L s.heap m) (N : News h₀ L s.heap news) (hv : m x = some (.float a t))
    (hk : cs.kind = .function) (hl : (envOf cn cs L f ccd).kindOf x = some .local) (hd : (x == ("__debug__" : Str)) = false)
    (h : ∀ v h' tk, Fr h₀ L h' (fun y => if y = x then some (.float (if (Float64.cmp a k == some Ordering.gt) = true then k else a) v) else m y) → News h₀ L h' news → Q .next { s with heap := h', toks := tk }) :
    wpAny (model prog w) A (exec (.If (.Compare (.Name x p1) [.Gt] [.Constant (.float k) i p2] p3) [.Assign [.Name x p4] (.Constant (.float k) j p5) p6] [] p7) (envOf cn cs L f ccd)) Q E s := by
  refine wpAny_If (wpAny_isTrue_Compare1 (ld F hv (AutoFloatOps.wpAny_Constant_float (AutoFloatOps.gt_0 (wpAny_truthy_bool ?_))) hk hl hd))
  by_cases c : (Float64.cmp a k == some Ordering.gt) = true
  · simp only [c, if_true] at h ⊢
    refine wpAny_execs_cons (wpAny_Assign_Name (AutoFloatOps.wpAny_Constant_float (stN (F := F) (N := N) (fun h' F' N' => ?_) hk hl)))
    exact wpAny_execs_nil (h _ _ _ F' N')
  · have c' : (Float64.cmp a k == some Ordering.gt) = false := by simpa using c
    simp only [c', Bool.false_eq_true, if_false] at h ⊢
    exact wpAny_execs_nil (h _ _ _ (same_put F hv) N)
end
theorem clip_is (v : UInt64) : (if (Float64.cmp (if (Float64.cmp v 0x0000000000000000 == some Ordering.lt) = true then 0x0000000000000000 else v) 0x3ff0000000000000 == some Ordering.gt) = true then 0x3ff0000000000000 else (if (Float64.cmp v 0x0000000000000000 == some Ordering.lt) = true then 0x0000000000000000 else v)) = clip v := by
  unfold clip
  by_cases c : (Float64.cmp v 0x0000000000000000 == some Ordering.lt) = true
  · have e : (Float64.cmp 0x0000000000000000 0x3ff0000000000000 == some Ordering.gt) = false := by decide +kernel
    simp only [c, if_true, e, Bool.false_eq_true, if_false]
  · simp only [c, if_false, Bool.false_eq_true]
set_option maxRecDepth 100000 in
set_option maxHeartbeats 8000000 in
theorem c_yiq (w : World) (pg : Program) (lo : List Str) (mean : ExcName → Option Value) (mg mb : Str → Option Value) (x : F3) (t1 t2 t3 : Tok) (news : List (Addr × Obj)) :
    Ctr w pg lo mean mg mb 1 28 [.float x.1 t1, .float x.2.1 t2, .float x.2.2 t3] news (RetF3 news (rgbOf x)) := by
  k_with_none
  k_with "c_enter" => (
  have hx := fillK
  revert hx
  k_fill
  intro hx; clear hx
  intro dp un gd cn cs a ccd cl outer A₀ base h₀ L m s Q E B F X N T hk hd hu hret
  refine wpAny_call ?_
  k_dflt cell_enter)
  k_with "exec If" => (k_here; k_dflt (first
  | ((with_reducible show wpAny _ _ (exec (Stmt.If (Expr.Compare _ [CmpOp.Lt] _ _) _ _ _) _) _ _ _); refine' clamp_lt ?k1 ?k2 ?k3 ?k4 ?k5 ?k6 ?_; (case k1 => k_asm); (case k2 => k_asm); (case k3 => rfl); (case k4 => rfl); (case k5 => rfl); (case k6 => decide); intro v h' tk F' N'; (try dsimp only))
  | ((with_reducible show wpAny _ _ (exec (Stmt.If (Expr.Compare _ [CmpOp.Gt] _ _) _ _ _) _) _ _ _); refine' clamp_gt ?k1 ?k2 ?k3 ?k4 ?k5 ?k6 ?_; (case k1 => k_asm); (case k2 => k_asm); (case k3 => rfl); (case k4 => rfl); (case k5 => rfl); (case k6 => decide); intro v h' tk F' N'; (try dsimp only))))
  walk_at "c_enter"
  k_steps
  simp only [RetF3, rgbOf, ← clip_is] at hret
  exact hret _ _ _ _ _ _ _ (by assumption) (by assumption) (allLt_of (by assumption))
end Mine
end
section
open PySem PySem.W PyProof.Rows PySem.Calls PySem.Spec
set_option linter.unusedSimpArgs false
set_option linter.unusedVariables false
namespace Mine
section
variable {prog : Program} {w : World} {A : Around} {E : Value → Shared → Prop} {s : Shared} {env : Env} {h₀ : Heap} {x : Str} {body : List Stmt} {Q : Flow → Shared → Prop}
theorem str_iter {xt : Str} {tx : Tok} {m₀ : Str → Option Value} {news : List (Addr × Obj)} (J : Nat → (Str → Option Value) → List (Addr × Obj) → Prop)
    (hh : A.handled = none) (F : Fr h₀ env.locals s.heap m₀) (N : News h₀ env.locals s.heap news) (hj : J 0 m₀ news)
    (turn : ∀ (i n : Nat) t m₁ nx h tk own, xt.cps[i]? = some n → OwnOff own (nx.map (·.1)) → J i m₁ nx → Fr h₀ env.locals h (fun y => if y = x then some (.str ⟨#[n]⟩ t) else m₁ y) → News h₀ env.locals h (nx ++ own) →
      wpAny (model prog w) A (execs body env) (InvPostG h₀ env.locals (J (i + 1)) own { s with heap := h, toks := tk } Q) E { s with heap := h, toks := tk })
    (done : ∀ m₁ nx h tk, J xt.length m₁ nx → Fr h₀ env.locals h m₁ → News h₀ env.locals h nx → Q .next { s with heap := h, toks := tk }) :
    wpAny (model prog w) A (pyIter (.str xt tx)) (fun it s₂ => LoopAtV prog w A h₀ env x body Q E it s₂) E s := by
  have key : ∀ (o : Obj) (St : Nat → Heap → Prop), Walks prog w A s.heap.objs.size [s.heap.objs.size] [s.heap.objs.size] xt.cps.size (SignAt xt) St → (∀ i h, St i h → ∃ o, h.get? s.heap.objs.size = some o) → St 0 (s.heap.push o) →
      LoopAtV prog w A h₀ env x body Q E (.ref s.heap.objs.size) { s with heap := s.heap.push o } := by
    intro o St W hob hst
    refine kdr_loop J W (fun _ h => h) (fun _ h => h) (fun i h hi b hb => by rw [List.mem_singleton.mp hb]; exact hob i h hi) ?_ ?_ ?_ hst (F.push _) (fun p hp => ⟨Heap.get?_push_of_some _ (N p hp).1, (N p hp).2⟩) hj ?_ ?_
    · intro hm
      exact absurd F.ns.lt ((List.mem_singleton.mp hm) ▸ Nat.lt_irrefl _)
    · intro b hb
      rw [List.mem_singleton.mp hb]
      exact next_is_new F
    · intro p hp hI
      exact absurd (Heap.lt_size (N p hp).1) ((List.mem_singleton.mp hI) ▸ Nat.lt_irrefl _)
    · rintro i v m₁ nx h tk own hi ⟨n, u, hn, rfl⟩ hoff hJ F₁ N₁
      exact turn i n u m₁ nx h tk own hn hoff hJ F₁ N₁
    · intro m₁ nx h tk hJ F₁ N₁
      exact done m₁ nx h tk hJ F₁ N₁
  cases ha : xt.cps.all (· < 128)
  · exact wpAny_pyIter_wide ha (key _ _ (Walks.strWide hh _ xt tx) (fun i h ⟨o, ho, _⟩ => ⟨o, ho⟩) ⟨_, Heap.get?_push_size _ rfl, rfl, rfl⟩)
  · exact wpAny_pyIter_ascii ha (key _ _ (Walks.strAscii hh _ xt tx) (fun i h ⟨o, ho, _⟩ => ⟨o, ho⟩) ⟨_, Heap.get?_push_size _ rfl, rfl, rfl⟩)
end
theorem take_code {wy : Str} {i n : Nat} (h : wy.cps[i]? = some n) : (KStt.codes wy).take (i + 1) = (KStt.codes wy).take i ++ [(n : Int)] := by
  have h' := KStt.code_at h
  simp [List.take_add_one, h']

noncomputable abbrev toldMap (m₀ : Str → Option Value) (u : Option Value) (Dl Dh Dm : Addr) : Str → Option Value :=
  fun y => if y = Str.ofString "step" then u else if y = Str.ofString "low" then some (.ref Dl) else if y = Str.ofString "high" then some (.ref Dh) else if y = Str.ofString "middle" then some (.ref Dm) else m₀ y
noncomputable def ToldJ (m₀ : Str → Option Value) (st0 : F3 × F3 × F3) (cd : List Int) (news : List (Addr × Obj)) (i : Nat) (m : Str → Option Value) (nx : List (Addr × Obj)) : Prop :=
  ∃ (st : F3 × F3 × F3) (Dl Dh Dm : Addr) (l1 l2 l3 h1 h2 h3 m1 m2 m3 : Tok) (cl ch cm : Nat) (u : Option Value), st = (cd.take i).foldl step st0 ∧ m = toldMap m₀ u Dl Dh Dm ∧
    nx = (Dm, tup3 st.2.2 m1 m2 m3 cm) :: (Dh, tup3 st.2.1 h1 h2 h3 ch) :: (Dl, tup3 st.1 l1 l2 l3 cl) :: news
section
variable {prog : Program} {w : World} {A : Around} {E : Value → Shared → Prop} {s : Shared} {env : Env} {h₀ : Heap} {body : List Stmt} {Q : Flow → Shared → Prop}
theorem told_iter {wy : Str} {tx : Tok} {m₀ : Str → Option Value} {news : List (Addr × Obj)} {st0 : F3 × F3 × F3} {Dl Dh Dm : Addr} {l1 l2 l3 h1 h2 h3 m1 m2 m3 : Tok} {cl ch cm : Nat}
    (M : F3) (hM : ((KStt.codes wy).foldl step st0).2.2 = M) (hh : A.handled = none) (F : Fr h₀ env.locals s.heap m₀) (N : News h₀ env.locals s.heap ((Dm, tup3 st0.2.2 m1 m2 m3 cm) :: (Dh, tup3 st0.2.1 h1 h2 h3 ch) :: (Dl, tup3 st0.1 l1 l2 l3 cl) :: news))
    (kl : m₀ (Str.ofString "low") = some (.ref Dl)) (kh : m₀ (Str.ofString "high") = some (.ref Dh)) (km : m₀ (Str.ofString "middle") = some (.ref Dm))
    (turn : ∀ (st : F3 × F3 × F3) (Dl Dh Dm : Addr) (l1 l2 l3 h1 h2 h3 m1 m2 m3 : Tok) (cl ch cm i n : Nat) t h tk own, wy.cps[i]? = some n → st = ((KStt.codes wy).take i).foldl step st0 →
      OwnOff own (((Dm, tup3 st.2.2 m1 m2 m3 cm) :: (Dh, tup3 st.2.1 h1 h2 h3 ch) :: (Dl, tup3 st.1 l1 l2 l3 cl) :: news).map (·.1)) →
      Fr h₀ env.locals h (toldMap m₀ (some (.str ⟨#[n]⟩ t)) Dl Dh Dm) →
      News h₀ env.locals h ((Dm, tup3 st.2.2 m1 m2 m3 cm) :: (Dh, tup3 st.2.1 h1 h2 h3 ch) :: (Dl, tup3 st.1 l1 l2 l3 cl) :: (news ++ own)) →
      wpAny (model prog w) A (execs body env) (InvPostG h₀ env.locals (ToldJ m₀ st0 (KStt.codes wy) news (i + 1)) own { s with heap := h, toks := tk } Q) E { s with heap := h, toks := tk })
    (done : ∀ (Dl Dh Dm : Addr) (l1 l2 l3 h1 h2 h3 m1 m2 m3 : Tok) (cl ch cm : Nat) (u : Option Value) h tk, Fr h₀ env.locals h (toldMap m₀ u Dl Dh Dm) →
      News h₀ env.locals h ((Dm, tup3 M m1 m2 m3 cm) :: news) → Q .next { s with heap := h, toks := tk }) :
    wpAny (model prog w) A (pyIter (.str wy tx)) (fun it s₂ => LoopAtV prog w A h₀ env (Str.ofString "step") body Q E it s₂) E s := by
  refine str_iter (ToldJ m₀ st0 (KStt.codes wy) news) hh F N ⟨st0, Dl, Dh, Dm, l1, l2, l3, h1, h2, h3, m1, m2, m3, cl, ch, cm, m₀ (Str.ofString "step"), by simp, ?_, rfl⟩ ?_ ?_
  · funext y
    unfold toldMap
    split
    · rename_i e; rw [e]
    · split
      · rename_i e; rw [e, kl]
      · split
        · rename_i e; rw [e, kh]
        · split
          · rename_i e; rw [e, km]
          · rfl
  · rintro i n t m₁ nx h tk own hn hoff ⟨st, Dl, Dh, Dm, l1, l2, l3, h1, h2, h3, m1, m2, m3, cl, ch, cm, u, e, rfl, rfl⟩ F₁ N₁
    refine turn st Dl Dh Dm l1 l2 l3 h1 h2 h3 m1 m2 m3 cl ch cm i n t h tk own hn e hoff ?_ N₁
    have em : (fun y => if y = Str.ofString "step" then some (Value.str ⟨#[n]⟩ t) else toldMap m₀ u Dl Dh Dm y) = toldMap m₀ (some (.str ⟨#[n]⟩ t)) Dl Dh Dm := by
      funext y
      unfold toldMap
      split <;> rfl
    rw [← em]
    exact F₁
  · rintro m₁ nx h tk ⟨st, Dl, Dh, Dm, l1, l2, l3, h1, h2, h3, m1, m2, m3, cl, ch, cm, u, e, rfl, rfl⟩ F₁ N₁
    have hl : (KStt.codes wy).take wy.length = KStt.codes wy := by rw [← KStt.codes_length]; exact List.take_length
    rw [hl] at e
    subst e
    rw [hM] at N₁
    exact done Dl Dh Dm l1 l2 l3 h1 h2 h3 m1 m2 m3 cl ch cm u h tk F₁ (fun p hp => N₁ p (by
      rcases List.mem_cons.mp hp with rfl | hp
      · exact .head _
      · exact .tail _ (.tail _ (.tail _ hp))))
end
theorem told_end {h₀ : Heap} {L : Addr} {m₀ : Str → Option Value} {st0 : F3 × F3 × F3} {wy : Str} {news own : List (Addr × Obj)} {i n : Nat} {s₁ : Shared} {h' : Heap} {tk : Nat} {m' : Str → Option Value} {news' : List (Addr × Obj)}
    {st : F3 × F3 × F3} {Dl Dh Dm : Addr} {l1 l2 l3 h1 h2 h3 m1 m2 m3 : Tok} {cl ch cm : Nat} {u : Option Value}
    (F : Fr h₀ L h' m') (N : News h₀ L h' news') (hm : m' = toldMap m₀ u Dl Dh Dm) (hn : wy.cps[i]? = some n) (he : st = step (((KStt.codes wy).take i).foldl step st0) (n : Int))
    (hs : ∀ p ∈ (Dm, tup3 st.2.2 m1 m2 m3 cm) :: (Dh, tup3 st.2.1 h1 h2 h3 ch) :: (Dl, tup3 st.1 l1 l2 l3 cl) :: (news ++ own), p ∈ news')
    (ho : OwnOff own (((Dm, tup3 st.2.2 m1 m2 m3 cm) :: (Dh, tup3 st.2.1 h1 h2 h3 ch) :: (Dl, tup3 st.1 l1 l2 l3 cl) :: news).map (·.1))) :
    InvEndG h₀ L (ToldJ m₀ st0 (KStt.codes wy) news (i + 1)) own s₁ { s₁ with heap := h', toks := tk } := by
  refine InvEndG.intro F N ⟨st, Dl, Dh, Dm, l1, l2, l3, h1, h2, h3, m1, m2, m3, cl, ch, cm, u, ?_, hm, rfl⟩ ho (fun p hp => hs p ?_) (fun p hp => hs p ?_)
  · rw [take_code hn, List.foldl_append]
    exact he
  · rcases List.mem_cons.mp hp with rfl | hp
    · exact .head _
    · rcases List.mem_cons.mp hp with rfl | hp
      · exact .tail _ (.head _)
      · rcases List.mem_cons.mp hp with rfl | hp
        · exact .tail _ (.tail _ (.head _))
        · exact .tail _ (.tail _ (.tail _ (List.mem_append.mpr (.inl hp))))
  · exact .tail _ (.tail _ (.tail _ (List.mem_append.mpr (.inr hp))))
theorem lt_code {n : Nat} : (({ cps := #[n] } : Str) == Str.ofString "<") = true ↔ n = 60 := by
  rw [beq_iff_eq, show Str.ofString "<" = Str.mk #[60] from by decide +kernel]
  constructor
  · intro h; injection h with h; simpa using h
  · intro h; rw [h]
theorem map_lt {m₀ : Str → Option Value} {u : Option Value} {D Dl Dh Dm : Addr} :
    (fun y => if y = Str.ofString "middle" then some (Value.ref D) else if y = Str.ofString "high" then some (Value.ref Dm) else toldMap m₀ u Dl Dh Dm y) = toldMap m₀ u Dl Dm D := by
  funext y
  by_cases h1 : y = Str.ofString "step"
  · subst h1; rfl
  · by_cases h2 : y = Str.ofString "low"
    · subst h2; rfl
    · by_cases h3 : y = Str.ofString "high"
      · subst h3; rfl
      · by_cases h4 : y = Str.ofString "middle"
        · subst h4; rfl
        · simp only [toldMap, if_neg h1, if_neg h2, if_neg h3, if_neg h4]
theorem map_gt {m₀ : Str → Option Value} {u : Option Value} {D Dl Dh Dm : Addr} :
    (fun y => if y = Str.ofString "middle" then some (Value.ref D) else if y = Str.ofString "low" then some (Value.ref Dm) else toldMap m₀ u Dl Dh Dm y) = toldMap m₀ u Dm Dh D := by
  funext y
  by_cases h1 : y = Str.ofString "step"
  · subst h1; rfl
  · by_cases h2 : y = Str.ofString "low"
    · subst h2; rfl
    · by_cases h3 : y = Str.ofString "high"
      · subst h3; rfl
      · by_cases h4 : y = Str.ofString "middle"
        · subst h4; rfl
        · simp only [toldMap, if_neg h1, if_neg h2, if_neg h3, if_neg h4]
theorem sub_tail {p0 p1 p2 : Addr × Obj} {news big : List (Addr × Obj)} (h0 : p0 ∈ big) (h1 : p1 ∈ big) (h2 : p2 ∈ big) (h : ∀ p ∈ news, p ∈ big) : ∀ p ∈ p0 :: p1 :: p2 :: news, p ∈ big :=
  List.forall_mem_cons.mpr ⟨h0, List.forall_mem_cons.mpr ⟨h1, List.forall_mem_cons.mpr ⟨h2, h⟩⟩⟩
theorem off_new {own news : List (Addr × Obj)} {p0 p1 p2 pm ph pl : Addr × Obj} (l : AllLt p0.1 (pm :: ph :: pl :: (news ++ own))) (ho : OwnOff own ((pm :: ph :: pl :: news).map (·.1)))
    (h1 : p1 ∈ pm :: ph :: pl :: news) (h2 : p2 ∈ pm :: ph :: pl :: news) : OwnOff own ((p0 :: p1 :: p2 :: news).map (·.1)) := by
  intro p hp b hb
  obtain ⟨q, hq, rfl⟩ := List.mem_map.mp hb
  rcases List.mem_cons.mp hq with rfl | hq
  · exact Nat.ne_of_lt (kst_ltOf l p (.tail _ (.tail _ (.tail _ (List.mem_append.mpr (.inr hp))))))
  · refine ho p hp _ (List.mem_map.mpr ⟨q, ?_, rfl⟩)
    rcases List.mem_cons.mp hq with rfl | hq
    · exact h1
    · rcases List.mem_cons.mp hq with rfl | hq
      · exact h2
      · exact .tail _ (.tail _ (.tail _ hq))
section
variable {h₀ : Heap} {L : Addr} {m₀ : Str → Option Value} {st0 st : F3 × F3 × F3} {wy : Str} {news own : List (Addr × Obj)} {i n : Nat} {s₁ : Shared} {h' : Heap} {tk : Nat} {D Dl Dh Dm : Addr} {l1 l2 l3 h1 h2 h3 m1 m2 m3 v1 v2 v3 : Tok} {cl ch cm c : Nat} {u : Option Value}
theorem told_end_lt (hn : wy.cps[i]? = some n) (hst : st = ((KStt.codes wy).take i).foldl step st0) (ho : OwnOff own (((Dm, tup3 st.2.2 m1 m2 m3 cm) :: (Dh, tup3 st.2.1 h1 h2 h3 ch) :: (Dl, tup3 st.1 l1 l2 l3 cl) :: news).map (·.1)))
    (e : (({ cps := #[n] } : Str) == Str.ofString "<") = true) (l : AllLt D ((Dm, tup3 st.2.2 m1 m2 m3 cm) :: (Dh, tup3 st.2.1 h1 h2 h3 ch) :: (Dl, tup3 st.1 l1 l2 l3 cl) :: (news ++ own)))
    (F : Fr h₀ L h' (fun y => if y = Str.ofString "middle" then some (Value.ref D) else if y = Str.ofString "high" then some (Value.ref Dm) else toldMap m₀ u Dl Dh Dm y))
    (N : News h₀ L h' ((D, tup3 (joined st.1 st.2.2) v1 v2 v3 c) :: (Dm, tup3 st.2.2 m1 m2 m3 cm) :: (Dh, tup3 st.2.1 h1 h2 h3 ch) :: (Dl, tup3 st.1 l1 l2 l3 cl) :: (news ++ own))) :
    InvEndG h₀ L (ToldJ m₀ st0 (KStt.codes wy) news (i + 1)) own s₁ { s₁ with heap := h', toks := tk } := by
  have hn60 := lt_code.mp e
  refine told_end (st := (st.1, st.2.2, joined st.1 st.2.2)) F N map_lt hn ?_ (sub_tail (.head _) (.tail _ (.head _)) (.tail _ (.tail _ (.tail _ (.head _)))) (fun p hp => .tail _ (.tail _ (.tail _ (.tail _ hp))))) (off_new l ho (.head _) (.tail _ (.tail _ (.head _))))
  rw [← hst]; unfold step; rw [hn60]; rfl
theorem told_end_gt (hw : ∀ n ∈ KStt.codes wy, n = 60 ∨ n = 62) (hn : wy.cps[i]? = some n) (hst : st = ((KStt.codes wy).take i).foldl step st0) (ho : OwnOff own (((Dm, tup3 st.2.2 m1 m2 m3 cm) :: (Dh, tup3 st.2.1 h1 h2 h3 ch) :: (Dl, tup3 st.1 l1 l2 l3 cl) :: news).map (·.1)))
    (e : (({ cps := #[n] } : Str) == Str.ofString "<") = false) (l : AllLt D ((Dm, tup3 st.2.2 m1 m2 m3 cm) :: (Dh, tup3 st.2.1 h1 h2 h3 ch) :: (Dl, tup3 st.1 l1 l2 l3 cl) :: (news ++ own)))
    (F : Fr h₀ L h' (fun y => if y = Str.ofString "middle" then some (Value.ref D) else if y = Str.ofString "low" then some (Value.ref Dm) else toldMap m₀ u Dl Dh Dm y))
    (N : News h₀ L h' ((D, tup3 (joined st.2.2 st.2.1) v1 v2 v3 c) :: (Dm, tup3 st.2.2 m1 m2 m3 cm) :: (Dh, tup3 st.2.1 h1 h2 h3 ch) :: (Dl, tup3 st.1 l1 l2 l3 cl) :: (news ++ own))) :
    InvEndG h₀ L (ToldJ m₀ st0 (KStt.codes wy) news (i + 1)) own s₁ { s₁ with heap := h', toks := tk } := by
  have hne : (n : Int) ≠ 60 := fun h => by
    have : n = 60 := by omega
    rw [lt_code.mpr this] at e; cases e
  refine told_end (st := (st.2.2, st.2.1, joined st.2.2 st.2.1)) F N map_gt hn ?_ (sub_tail (.head _) (.tail _ (.tail _ (.head _))) (.tail _ (.head _)) (fun p hp => .tail _ (.tail _ (.tail _ (.tail _ hp))))) (off_new l ho (.tail _ (.head _)) (.head _))
  rw [← hst]; unfold step; rw [if_neg hne]
end
end Mine
end
section
open PySem PySem.W PyProof.Rows PySem.Calls PySem.Spec
set_option linter.unusedVariables false
namespace Mine
local macro_rules | `(tactic| walk_at "pad") => `(tactic| skip)
local macro_rules | `(tactic| walk_at "pad") => `(tactic| skip)
local macro_rules | `(tactic| walk_at "pad") => `(tactic| skip)
local macro_rules | `(tactic| walk_at $s:str) => `(tactic| k_extra $s)
noncomputable abbrev tup5 (x : Told) (t1 t2 t3 t4 t5 : Tok) (c : Nat) : Obj := { cls := .type "tuple", data := .seq #[.float x.hue t1, .float x.share t2, .int x.sixth t3, .int x.part t4, .int x.whole t5] c }
noncomputable abbrev RetTold (news : List (Addr × Obj)) (x : Told) (h₀ : Heap) (L : Addr) (m : Str → Option Value) (s : Shared) (Q : Value → Shared → Prop) : Prop :=
  ∀ D v1 v2 v3 v4 v5 c h' tk', @LT.lt Nat _ 0 v2 → Fr h₀ L h' m → News h₀ L h' ((D, tup5 x v1 v2 v3 v4 v5 c) :: news) → AllLt D news → Q (.ref D) { s with heap := h', toks := tk' }
noncomputable abbrev tupI (r g b : Int) (t1 t2 t3 : Tok) (c : Nat) : Obj := { cls := .type "tuple", data := .seq #[.int r t1, .int g t2, .int b t3] c }
theorem fmod6 (x : Int) : 0 ≤ Int.fmod x 6 ∧ Int.fmod x 6 < 6 := ⟨Int.fmod_nonneg_of_pos x (by decide), Int.fmod_lt_of_pos x (by decide)⟩
section
variable {prog : Program} {w : World} {A : Around} {E : Value → Shared → Prop} {s : Shared} {h₀ : Heap} {L : Addr} {news : List (Addr × Obj)}
theorem item_corner {value slice : PySem.Expr} {l D0 D1 D2 D3 D4 D5 : Addr} {n : Nat} {k : Int} {u : Tok} {Q : Value → Shared → Prop} {a1 a2 a3 b1 b2 b3 d1 d2 d3 e1 e2 e3 f1 f2 f3 g1 g2 g3 : Tok} {c0 c1 c2 c3 c4 c5 : Nat}
    (N : News h₀ L s.heap news) (hm : (l, W.listOf #[.ref D0, .ref D1, .ref D2, .ref D3, .ref D4, .ref D5] n) ∈ news) (h0 : 0 ≤ k) (h6 : k < 6)
    (m0 : (D0, tupI 1 0 0 a1 a2 a3 c0) ∈ news) (m1 : (D1, tupI 1 1 0 b1 b2 b3 c1) ∈ news) (m2 : (D2, tupI 0 1 0 d1 d2 d3 c2) ∈ news)
    (m3 : (D3, tupI 0 1 1 e1 e2 e3 c3) ∈ news) (m4 : (D4, tupI 0 0 1 f1 f2 f3 c4) ∈ news) (m5 : (D5, tupI 1 0 1 g1 g2 g3 c5) ∈ news)
    (h : ∀ D t1 t2 t3 c, News h₀ L s.heap ((D, tupI (cornerI k.toNat).1 (cornerI k.toNat).2.1 (cornerI k.toNat).2.2 t1 t2 t3 c) :: news) → Q (.ref D) s)
    (hs : subscripted slice false (.ref l) (.int k u) = operate [.ref l, .int k u] (getItem (.ref l) (.int k u)) := by with_unfolding_all rfl) :
    wpAny (model prog w) A (subscriptTail value slice (.ref l) (.int k u)) Q E s := by
  have hl : s.heap.IsList l ([.ref D0, .ref D1, .ref D2, .ref D3, .ref D4, .ref D5] : List Value).toArray := ⟨_, (N _ hm).1, rfl, n, rfl⟩
  have go : ∀ v, ([.ref D0, .ref D1, .ref D2, .ref D3, .ref D4, .ref D5] : List Value)[k.toNat]? = some v → Q v s → wpAny (model prog w) A (subscriptTail value slice (.ref l) (.int k u)) Q E s := fun v hx h =>
    tail_any hl.typeIs slot_list_getitem.lookup (wpAny_getItem_list hl h0 (by omega) (by simpa using hx) h) hs
  have ad : ∀ p ∈ news, News h₀ L s.heap (p :: news) := fun p hp q hq => (List.mem_cons.mp hq).elim (fun e => e ▸ N p hp) fun h => N q h
  have hk : k = 0 ∨ k = 1 ∨ k = 2 ∨ k = 3 ∨ k = 4 ∨ k = 5 := by omega
  rcases hk with rfl | rfl | rfl | rfl | rfl | rfl
  · exact go _ rfl (h _ _ _ _ _ (ad _ m0))
  · exact go _ rfl (h _ _ _ _ _ (ad _ m1))
  · exact go _ rfl (h _ _ _ _ _ (ad _ m2))
  · exact go _ rfl (h _ _ _ _ _ (ad _ m3))
  · exact go _ rfl (h _ _ _ _ _ (ad _ m4))
  · exact go _ rfl (h _ _ _ _ _ (ad _ m5))
end

theorem corner_small (n : Nat) : (cornerI n).1.natAbs ≤ 64 ∧ (cornerI n).2.1.natAbs ≤ 64 ∧ (cornerI n).2.2.natAbs ≤ 64 := by
  unfold cornerI
  split <;> decide
section
variable {prog : Program} {w : World} {A : Around} {E : Value → Shared → Prop} {s : Shared} {Q : Value → Shared → Prop}
theorem div64 {k : Int} {t u : Tok} (hh : A.handled = none) (hk : k.natAbs ≤ 64) (h : Q (.float (i64 k) s.toks) { s with toks := s.toks + 1 }) :
    wpAny (model prog w) A (binaryOp .Div (.int k t) (.int 64 u)) Q E s := by
  refine Flt.div_ii_fits hh (Nat.lt_of_le_of_lt hk (Nat.lt_of_lt_of_le (by decide : 64 < 2 ^ 7) (Nat.pow_le_pow_right (by decide) (by decide)))) (fun e => absurd e (by decide)) fun _ _ => ?_
  unfold i64 at h
  exact h
end
theorem c_joined' {w : World} {pg : Program} {lo : List Str} {mean : ExcName → Option Value} {mg mb : Str → Option Value} {D1 D2 : Addr} {x y : F3} {t1 t2 t3 u1 u2 u3 : Tok} {c1 c2 : Nat} {news : List (Addr × Obj)}
    (m1 : (D1, tup3 x t1 t2 t3 c1) ∈ news) (m2 : (D2, tup3 y u1 u2 u3 c2) ∈ news) : Ctr w pg lo mean mg mb 1 185 [.ref D1, .ref D2] news (RetF3 news (joined x y)) := by
  intro dp un gd cn cs a ccd cl outer A₀ base h₀ L m s Q E B F X N T hk hd hu hret
  refine c_joined w pg lo mean mg mb D1 D2 x y t1 t2 t3 u1 u2 u3 c1 c2 news dp un gd cn cs a ccd cl outer A₀ base h₀ L m s Q E B F X ?_ T hk hd hu ?_
  · intro p hp
    rcases List.mem_cons.mp hp with rfl | hp
    · exact N _ m2
    · rcases List.mem_cons.mp hp with rfl | hp
      · exact N _ m1
      · exact N _ hp
  · intro D v1 v2 v3 c h' tk' F' N' l
    refine hret D v1 v2 v3 c h' tk' F' (fun p hp => ?_) l.2.2
    rcases List.mem_cons.mp hp with rfl | hp
    · exact N' _ (.head _)
    · exact N' _ (.tail _ (.tail _ (.tail _ hp)))
theorem c_rgb' {w : World} {pg : Program} {lo : List Str} {mean : ExcName → Option Value} {mg mb : Str → Option Value} {x y z : UInt64} {t1 t2 t3 : Tok} {news : List (Addr × Obj)} :
    Ctr w pg lo mean mg mb 1 21 [.float x t1, .float y t2, .float z t3] news (RetF3 news (yiq (x, y, z))) := c_rgb w pg lo mean mg mb (x, y, z) t1 t2 t3 news
theorem c_yiq' {w : World} {pg : Program} {lo : List Str} {mean : ExcName → Option Value} {mg mb : Str → Option Value} {x : F3} {t1 t2 t3 : Tok} {news : List (Addr × Obj)} :
    Ctr w pg lo mean mg mb 1 28 [.float x.1 t1, .float x.2.1 t2, .float x.2.2 t3] news (RetF3 news (rgbOf x)) := c_yiq w pg lo mean mg mb x t1 t2 t3 news
theorem c_hls' {w : World} {pg : Program} {lo : List Str} {mean : ExcName → Option Value} {mg mb : Str → Option Value} {x y z : UInt64} {t1 t2 t3 : Tok} {news : List (Addr × Obj)} (ok : hlsOk (x, y, z) = true) :
    Ctr w pg lo mean mg mb 1 35 [.float x t1, .float y t2, .float z t3] news (RetHls news (hls (x, y, z))) := c_hls w pg lo mean mg mb (x, y, z) t1 t2 t3 news ok
section
variable {prog : Program} {w : World} {A : Around} {E : Value → Shared → Prop} {s : Shared}
theorem round_fin {x : UInt64} {t : Tok} {Q : Value → Shared → Prop} (hh : A.handled = none) (hf : Float64.isFinite x = true) (h : Q (.int (Flt.toInt Float64.nearestOf x) s.toks) { s with toks := s.toks + 1 }) :
    wpAny (model prog w) A (call (.builtin "round") [.float x t]) Q E s := by
  refine Flt.call_round_float hh (fun e => ?_) (fun e => ?_) (fun _ => h)
  · unfold Float64.isNaN at e; unfold Float64.isFinite at hf; split at hf <;> simp_all
  · unfold Float64.isInf at e; unfold Float64.isFinite at hf; split at hf <;> simp_all
end
theorem mulif {prog : Program} {w : World} {A : Around} {E : Value → Shared → Prop} {s : Shared} {Q : Value → Shared → Prop} {n : Int} {x : UInt64} {t u : Tok} (hn : n.natAbs ≤ 1000) (h : Q (.float (Float64.mul (Float64.ofInt n) x) s.toks) { s with toks := s.toks + 1 }) :
    wpAny (model prog w) A (binaryOp .Mult (.int n t) (.float x u)) Q E s :=
  mul_if_fits (Nat.lt_of_le_of_lt hn (Nat.lt_of_lt_of_le (by decide : 1000 < 2 ^ 10) (Nat.pow_le_pow_right (by decide) (by decide)))) h
theorem divmod_small {prog : Program} {w : World} {A : Around} {E : Value → Shared → Prop} {s : Shared} {Q : Value → Shared → Prop} {h₀ : Heap} {L : Addr} {m : Str → Option Value} {news : List (Addr × Obj)} {a b : Int} {t u : Tok} (F : Fr h₀ L s.heap m) (N : News h₀ L s.heap news) (hb : 0 < b ∧ b ≤ 64)
    (h : ∀ D h', Fr h₀ L h' m → News h₀ L h' ((D, ({ cls := .type "tuple", data := .seq #[.int (a.fdiv b) s.toks, .int (a.fmod b) (s.toks + 1)] } : Obj)) :: news) → AllLt D news → Q (.ref D) { s with toks := s.toks + 1 + 1, heap := h' }) :
    wpAny (model prog w) A (call (.builtin "divmod") [.int a t, .int b u]) Q E s :=
  divmod_N F N (by omega) (fun h' F' N' => h _ h' F' N' (allLt_of fun p hp => Heap.lt_size (N p hp).1)) (Or.inl (PyProof.noPylong_small (by omega)))
noncomputable abbrev edgeI (x : Int × Int × Int) : F3 := yiq (i64 x.1, i64 x.2.1, i64 x.2.2)
noncomputable abbrev triI (x : F3) : F3 := (i64 (Flt.toInt Float64.nearestOf (Float64.mul (Float64.ofInt 64) x.1)), i64 (Flt.toInt Float64.nearestOf (Float64.mul (Float64.ofInt 64) x.2.1)), i64 (Flt.toInt Float64.nearestOf (Float64.mul (Float64.ofInt 64) x.2.2)))
noncomputable abbrev whI (x : F3) : Int := Flt.toInt Float64.nearestOf (Float64.mul (Float64.ofInt 128) (hls x).2.1)
theorem told_facts {c : Nat} {cd : List Int} (ok : toldOk c cd = true) : ∃ M : F3, ((cd.foldl step (edgeI (cornerI c), edgeI (cornerI ((c + 1) % 6)), joined (edgeI (cornerI c)) (edgeI (cornerI ((c + 1) % 6))))).2.2 = M) ∧
    Float64.isFinite (Float64.mul (Float64.ofInt 64) (rgbOf M).1) = true ∧ Float64.isFinite (Float64.mul (Float64.ofInt 64) (rgbOf M).2.1) = true ∧ Float64.isFinite (Float64.mul (Float64.ofInt 64) (rgbOf M).2.2) = true ∧
    (Flt.toInt Float64.nearestOf (Float64.mul (Float64.ofInt 64) (rgbOf M).1)).natAbs ≤ 64 ∧ (Flt.toInt Float64.nearestOf (Float64.mul (Float64.ofInt 64) (rgbOf M).2.1)).natAbs ≤ 64 ∧ (Flt.toInt Float64.nearestOf (Float64.mul (Float64.ofInt 64) (rgbOf M).2.2)).natAbs ≤ 64 ∧
    hlsOk (triI (rgbOf M)) = true ∧ Float64.isFinite (Float64.mul (Float64.ofInt 128) (hls (triI (rgbOf M))).2.1) = true ∧ 0 < whI (triI (rgbOf M)) ∧ whI (triI (rgbOf M)) ≤ 64 ∧
    Float64.isFinite (Float64.mul (Float64.ofInt (6 * whI (triI (rgbOf M)))) (hls (triI (rgbOf M))).1) = true ∧
    told c cd = ⟨(hls (triI (rgbOf M))).1, (hls (triI (rgbOf M))).2.2, Int.fdiv (Flt.toInt Float64.nearestOf (Float64.mul (Float64.ofInt (6 * whI (triI (rgbOf M)))) (hls (triI (rgbOf M))).1)) (whI (triI (rgbOf M))),
      Int.fmod (Flt.toInt Float64.nearestOf (Float64.mul (Float64.ofInt (6 * whI (triI (rgbOf M)))) (hls (triI (rgbOf M))).1)) (whI (triI (rgbOf M))), whI (triI (rgbOf M))⟩ := by
  refine ⟨_, rfl, ?_⟩
  unfold toldOk rgbFin fin64 colour wholeOf q64 r64 midOf start edge at ok
  unfold told toldX sixPart colour wholeOf q64 r64 midOf start edge
  simp only [Bool.and_eq_true, decide_eq_true_eq] at ok
  obtain ⟨⟨⟨⟨⟨⟨⟨⟨⟨⟨a1, a2⟩, a3⟩, a4⟩, a5⟩, a6⟩, a7⟩, a8⟩, a9⟩, a10⟩, a11⟩ := ok
  exact ⟨a1, a2, a3, a4, a5, a6, a7, a8, a9, a10, a11, rfl⟩
theorem next_corner (c : Nat) : ((c : Int) + 1).fmod 6 = (((c + 1) % 6 : Nat) : Int) := by
  rw [Int.fmod_eq_emod_of_nonneg _ (by decide)]; omega

set_option maxRecDepth 100000 in
set_option maxHeartbeats 8000000 in
theorem c_told (w : World) (pg : Program) (lo : List Str) (mean : ExcName → Option Value) (mg mb : Str → Option Value) (c : Nat) (wy : Str) (t u : Tok) (news : List (Addr × Obj)) (hc : c < 6) (hw : ∀ n ∈ KStt.codes wy, n = 60 ∨ n = 62) (ok : toldOk c (KStt.codes wy) = true) :
    Ctr w pg lo mean mg mb 3 192 [.int c t, .str wy u] news (RetTold news (told c (KStt.codes wy))) := by
  k_with_none
  k_with "c_enter" => (
  have hx := fillK
  revert hx
  k_fill
  intro hx; clear hx
  intro dp un gd cn cs a ccd cl outer A₀ base h₀ L m s Q E B F X N T hk hd hu hret
  refine wpAny_call ?_
  k_dflt cell_enter)
  k_with "subscriptTail Name" => (k_here; (with_reducible show wpAny _ _ (subscriptTail _ _ (Value.ref _) (Value.int _ _)) _ _ _); k_dflt (refine' item_corner ?k1 ?k2 ?k3 ?k4 ?m0 ?m1 ?m2 ?m3 ?m4 ?m5 ?_; (case k1 => k_asm); (case k2 => k_mem); (case k3 => first | with_reducible assumption | exact (fmod6 _).1); (case k4 => first | with_reducible assumption | exact (fmod6 _).2); (case m0 => k_mem); (case m1 => k_mem); (case m2 => k_mem); (case m3 => k_mem); (case m4 => k_mem); (case m5 => k_mem); intro D t1 t2 t3 c N'))
  k_with "call ref" => (k_here; k_dflt (refine' c_rgb' _ _ _ _ _ _ _ _ _ _ _ _ _ _ _ _ _ ?B1 ?F1 ?X1 ?N1 ?T1 ?k1 ?d1 ?u1 ?_; (case B1 => k_asm); (case F1 => k_asm); (case X1 => k_asm); (case N1 => k_asm); (case T1 => k_asm); (case k1 => first | exact rfl | assumption); (case d1 => ktr_room); (case u1 => ktr_units); k_whole; intro D v1 v2 v3 c h' tk' F' N' l1; (try dsimp only); (try k_fold)))
  k_with "call ref" => (k_here; k_dflt (refine' c_yiq' _ _ _ _ _ _ _ _ _ _ _ _ _ _ _ _ _ ?B1 ?F1 ?X1 ?N1 ?T1 ?k1 ?d1 ?u1 ?_; (case B1 => k_asm); (case F1 => k_asm); (case X1 => k_asm); (case N1 => k_asm); (case T1 => k_asm); (case k1 => first | exact rfl | assumption); (case d1 => ktr_room); (case u1 => ktr_units); k_whole; intro D v1 v2 v3 c h' tk' F' N' l1; (try dsimp only); (try k_fold)))
  k_with "call ref" => (k_here; k_dflt (refine' c_hls' ?ok _ _ _ _ _ _ _ _ _ _ _ _ _ _ _ _ _ ?B1 ?F1 ?X1 ?N1 ?T1 ?k1 ?d1 ?u1 ?_; (case ok => exact Flt.Hid.out (by with_reducible assumption)); (case B1 => k_asm); (case F1 => k_asm); (case X1 => k_asm); (case N1 => k_asm); (case T1 => k_asm); (case k1 => first | exact rfl | assumption); (case d1 => ktr_room); (case u1 => ktr_units); k_whole; intro D v1 v2 v3 c h' tk' hv3 F' N' l1; (try dsimp only); (try k_fold)))
  k_with "call ref" => (k_here; k_dflt (refine' c_joined' ?m1 ?m2 _ _ _ _ _ _ _ _ _ _ _ _ _ _ _ _ _ ?B1 ?F1 ?X1 ?N1 ?T1 ?k1 ?d1 ?u1 ?_; (case N1 => k_asm); (case m1 => k_mem); (case m2 => k_mem); (case B1 => k_asm); (case F1 => k_asm); (case X1 => k_asm); (case T1 => k_asm); (case k1 => first | exact rfl | assumption); (case d1 => ktr_room); (case u1 => ktr_units); k_whole; intro D v1 v2 v3 c h' tk' F' N' l1; (try dsimp only); (try k_fold)))
  k_with "binaryOp Div int int" => (k_here; k_dflt (refine' div64 ?k1 ?k2 ?_; (case k1 => exact rfl); (case k2 => first | exact (corner_small _).1 | exact (corner_small _).2.1 | exact (corner_small _).2.2 | exact Flt.Hid.out (by with_reducible assumption))))
  k_with "call builtin:round" => (k_here; k_dflt ((with_reducible show wpAny _ _ (call _ [Value.float _ _]) _ _ _); refine' round_fin ?k1 ?k2 ?_; (case k1 => exact rfl); (case k2 => exact Flt.Hid.out (by with_reducible assumption))))
  k_with "binaryOp Mult int float" => (k_here; k_dflt (refine' mulif ?k1 ?_; (case k1 => first | decide | exact Flt.Hid.out (by with_reducible assumption))))
  k_with "call builtin:divmod" => (k_here; k_dflt ((with_reducible show wpAny _ _ (call _ [Value.int _ _, Value.int _ _]) _ _ _); refine' divmod_small ?k1 ?k2 ?k3 ?_; (case k1 => k_asm); (case k2 => k_asm); (case k3 => exact Flt.Hid.out (by with_reducible assumption)); intro D h' F' N' l1))
  k_with "exec For Name Name cons nil" => (k_here; (rename Fr _ _ _ _ => lF'); (with_unfolding_all refine' For_invVF lF' ?k1 ?k2 ?_; (case k1 => exact rfl); (case k2 => exact rfl); k_whole))
  k_with "pyIter str" => (k_here; k_dflt (
  (refine' told_iter (news := news) told_M (Flt.Hid.out told_hM) rfl ?F1 (kst_newsOf ?N1 (sub_tail ?m0 ?m1 ?m2 ?mt)) ?kl ?kh ?km ?_ ?_)
  (case F1 => k_asm)
  (case kl => exact rfl)
  (case kh => exact rfl)
  (case km => exact rfl)
  (case N1 => k_asm)
  (case m0 => k_mem)
  (case m1 => k_mem)
  (case m2 => k_mem)
  (case mt => (intro p hp; repeat (first | exact hp | refine List.Mem.tail _ ?_)))))
  obtain ⟨told_M, told_hM, f1, f2, f3, b1, b2, b3, o1, g1, p1, p2, g2, told_is⟩ := told_facts ok
  rw [told_is]
  clear told_is
  have hc0 : 0 ≤ (c : Int) := by omega
  have hc1 : (c : Int) < 6 := by omega
  have hn := next_corner c
  have hci : (c : Int).toNat = c := Int.toNat_natCast c
  have hcj : (((c + 1) % 6 : Nat) : Int).toNat = (c + 1) % 6 := Int.toNat_natCast _
  replace told_hM : (List.foldl step (edgeI (cornerI (c : Int).toNat), edgeI (cornerI (((c : Int) + 1).fmod 6).toNat), joined (edgeI (cornerI (c : Int).toNat)) (edgeI (cornerI (((c : Int) + 1).fmod 6).toNat))) (KStt.codes wy)).2.2 = told_M := by
    rw [hn, hcj, hci]; exact told_hM
  generalize (c : Int) = ci at *
  clear ok hn hcj hc hci
  have p3 : (6 * whI (triI (rgbOf told_M))).natAbs ≤ 1000 := by omega
  have p4 : 0 < whI (triI (rgbOf told_M)) ∧ whI (triI (rgbOf told_M)) ≤ 64 := ⟨p1, p2⟩
  replace hw := Flt.Hid.mk hw
  replace told_hM := Flt.Hid.mk told_hM
  replace f1 := Flt.Hid.mk f1
  replace f2 := Flt.Hid.mk f2
  replace f3 := Flt.Hid.mk f3
  replace b1 := Flt.Hid.mk b1
  replace b2 := Flt.Hid.mk b2
  replace b3 := Flt.Hid.mk b3
  replace o1 := Flt.Hid.mk o1
  replace g1 := Flt.Hid.mk g1
  replace g2 := Flt.Hid.mk g2
  replace p3 := Flt.Hid.mk p3
  replace p4 := Flt.Hid.mk p4
  clear p1 p2
  walk_at "c_enter"
  k_steps
  · refine' told_end_lt ?a ?b ?c ?d ?e ?f ?g
    case a => assumption
    case b => assumption
    case c => assumption
    case d => assumption
    case e => assumption
    case f => assumption
    case g => assumption
  · refine' told_end_gt (Flt.Hid.out hw) ?a ?b ?c ?d ?e ?f ?g
    case a => assumption
    case b => assumption
    case c => assumption
    case d => assumption
    case e => assumption
    case f => assumption
    case g => assumption
  · refine' hret _ _ _ _ _ _ _ _ _ ?v ?f (kst_newsOf ?n (List.forall_mem_cons.mpr ⟨?m, ?mt⟩)) ?l
    case v => assumption
    case f => assumption
    case n => assumption
    case m => k_mem
    case mt => (intro p hp; repeat (first | exact hp | refine List.Mem.tail _ ?_))
    case l => (rename (_ < _ ∧ _ < _ ∧ _ < _ ∧ _ < _ ∧ AllLt _ _) => hz); exact hz.2.2.2.2
end Mine
end
section
open PySem PySem.W PyProof.Rows PySem.Calls PySem.Spec
set_option linter.unusedVariables false
namespace Mine
local macro_rules | `(tactic| walk_at "pad") => `(tactic| skip)
local macro_rules | `(tactic| walk_at "pad") => `(tactic| skip)
local macro_rules | `(tactic| walk_at "pad") => `(tactic| skip)
local macro_rules | `(tactic| walk_at "pad") => `(tactic| skip)
local macro_rules | `(tactic| walk_at $s:str) => `(tactic| k_extra $s)
noncomputable abbrev hasIn (x c : Str) : Bool := !(Builtin.Str.occurrences x c 0 x.length 1).isEmpty
@[irreducible] noncomputable def htmlOf (x : Str) : Str := if (Builtin.Str.occurrences x (Str.ofString ">") 0 x.length 1).isEmpty = true then x else Txt.replace x (Str.ofString ">") (Str.ofString "&gt;")
@[irreducible] noncomputable def c14nOf (x : Str) : Str := if (Builtin.Str.occurrences x (Str.ofString "<") 0 x.length 1).isEmpty = true then x else Txt.replace x (Str.ofString "<") (Str.ofString "&lt;")
noncomputable abbrev lacks (x c : Str) : Prop := (Builtin.Str.occurrences x c 0 x.length 1).isEmpty = true
set_option maxRecDepth 100000 in
set_option maxHeartbeats 8000000 in
theorem c_html (w : World) (pg : Program) (lo : List Str) (mean : ExcName → Option Value) (mg mb : Str → Option Value) (x : Str) (t : Tok) (news : List (Addr × Obj)) (hl : x.length ≤ 64) (f1 : lacks x (Str.ofString "&")) (f2 : lacks (htmlOf x) (Str.ofString "\"")) :
    Ctr w pg lo mean mg mb 1 171 [.str x t] news (CbRet · · · news · · (fun t => .str (htmlOf x) t)) := by
  k_with_none
  k_with "c_enter" => (
  have hx := fillK
  revert hx
  k_fill
  intro hx; clear hx
  intro dp un gd cn cs a ccd cl outer A₀ base h₀ L m s Q E B F X N T hk hd hu hret
  refine wpAny_call ?_
  k_dflt cell_enter)
  k_with "execs cons" => (k_here; refine wpAny_execs_cons ?_)
  k_with "execs nil" => (k_here; refine wpAny_execs_nil ?_)
  k_with "call builtin:str.replace" => (k_here; k_dflt (refine' SC.replaceW ?h1 ?h2 ?h3 ?h4 ?h5 ?h6 ?_; (case h1 => first | omega | (dsimp only; omega)); (case h2 => first | omega | (dsimp only; omega)); (case h3 => first | omega | (dsimp only; omega)); (case h4 => decide +kernel); (case h5 => omega); (case h6 => decide +kernel); intro t' k'))
  by_cases g : lacks x (Str.ofString ">")
  · have e : htmlOf x = x := by unfold htmlOf; exact if_pos g
    rw [e] at f2 ⊢
    walk_at "c_enter"
    k_steps
    all_goals exact hret _ _ _ (by assumption) (by assumption)
  · have e : htmlOf x = Txt.replace x (Str.ofString ">") (Str.ofString "&gt;") := by unfold htmlOf; exact if_neg g
    rw [e] at f2 ⊢
    have g' : (Builtin.Str.occurrences x (Str.ofString ">") 0 x.length 1).isEmpty = false := by simpa using g
    clear g
    walk_at "c_enter"
    k_steps
    all_goals exact hret _ _ _ (by assumption) (by assumption)
set_option maxRecDepth 100000 in
set_option maxHeartbeats 8000000 in
theorem c_c14n (w : World) (pg : Program) (lo : List Str) (mean : ExcName → Option Value) (mg mb : Str → Option Value) (x : Str) (t : Tok) (news : List (Addr × Obj)) (hl : x.length ≤ 64) (f1 : lacks x (Str.ofString "&")) (f2 : lacks (c14nOf x) (Str.ofString "\""))
    (f3 : lacks (c14nOf x) (Str.ofString "\t")) (f4 : lacks (c14nOf x) (Str.ofString "\n")) (f5 : lacks (c14nOf x) (Str.ofString "\r")) :
    Ctr w pg lo mean mg mb 1 178 [.str x t] news (CbRet · · · news · · (fun t => .str (c14nOf x) t)) := by
  k_with_none
  k_with "c_enter" => (
  have hx := fillK
  revert hx
  k_fill
  intro hx; clear hx
  intro dp un gd cn cs a ccd cl outer A₀ base h₀ L m s Q E B F X N T hk hd hu hret
  refine wpAny_call ?_
  k_dflt cell_enter)
  k_with "execs cons" => (k_here; refine wpAny_execs_cons ?_)
  k_with "execs nil" => (k_here; refine wpAny_execs_nil ?_)
  k_with "call builtin:str.replace" => (k_here; k_dflt (refine' SC.replaceW ?h1 ?h2 ?h3 ?h4 ?h5 ?h6 ?_; (case h1 => first | omega | (dsimp only; omega)); (case h2 => first | omega | (dsimp only; omega)); (case h3 => first | omega | (dsimp only; omega)); (case h4 => decide +kernel); (case h5 => omega); (case h6 => decide +kernel); intro t' k'))
  by_cases g : lacks x (Str.ofString "<")
  · have e : c14nOf x = x := by unfold c14nOf; exact if_pos g
    rw [e] at f2 f3 f4 f5 ⊢
    walk_at "c_enter"
    k_steps
    all_goals exact hret _ _ _ (by assumption) (by assumption)
  · have e : c14nOf x = Txt.replace x (Str.ofString "<") (Str.ofString "&lt;") := by unfold c14nOf; exact if_neg g
    rw [e] at f2 f3 f4 f5 ⊢
    have g' : (Builtin.Str.occurrences x (Str.ofString "<") 0 x.length 1).isEmpty = false := by simpa using g
    clear g
    walk_at "c_enter"
    k_steps
    all_goals exact hret _ _ _ (by assumption) (by assumption)
end Mine
end
section
open PySem PySem.W PyProof.Rows PySem.Calls PySem.Spec
set_option linter.unusedVariables false
namespace Mine
local macro_rules | `(tactic| walk_at "pad") => `(tactic| skip)
local macro_rules | `(tactic| walk_at "pad") => `(tactic| skip)
local macro_rules | `(tactic| walk_at "pad") => `(tactic| skip)
local macro_rules | `(tactic| walk_at "pad") => `(tactic| skip)
local macro_rules | `(tactic| walk_at "pad") => `(tactic| skip)
local macro_rules | `(tactic| walk_at $s:str) => `(tactic| k_extra $s)
@[irreducible] noncomputable def sawsOf (p q : Int) : Int := (List.map (fun k' => (2 * k' - q) * (2 * (k' * p).fmod q - q)) (rangeKs 1 (q - 1).toNat)).sum
set_option maxRecDepth 100000 in
set_option maxHeartbeats 8000000 in
theorem c_saws (w : World) (pg : Program) (lo : List Str) (mean : ExcName → Option Value) (mg mb : Str → Option Value) (p q : Int) (t u : Tok) (news : List (Addr × Obj)) (hp1 : 0 < p) (hp2 : p ≤ 64) (hq1 : 0 < q) (hq2 : q ≤ 64) :
    Ctr w pg lo mean mg mb 2 204 [.int p t, .int q u] news (CbRet · · · news · · (fun t => .int (sawsOf p q) t)) := by
  k_with_none
  k_with "c_enterC" => (
  have hx := fillK
  revert hx
  k_fill
  intro hx; clear hx
  intro dp un gd cn cs a ccd cl outer A₀ base h₀ L m s Q E B F X N T hk hd hu hret
  refine wpAny_call ?_
  k_dflt (refine' code_defC ?k1 ?k2 ?k3 ?k4 ?k5 ?kA ?kF ?kK ?k6 ?k7 ?k8 ?k9 ?kB ?kD ?_ ?c2 ?c3 ?c4; (case kA => exact rfl); (case kF => exact rfl); (case kK => assumption); (case k1 => k_asm); (case k2 => k_asm); (case k3 => k_asm); (case k4 => k_asm); (case k5 => k_asm); (case k6 => k_is); (case k7 => k_is); (case k8 => ktr_room); (case k9 => exact BindsTo.of_eq rfl); (case kB => exact rfl); (case kD => decide +kernel); (case c2 => exact rfl); (case c3 => exact rfl); (case c4 => exact rfl); k_whole; intro g' L' h' tk' cells' FG' F' N' Y' B' X' T' l1; (try k_lt l1); k_cells Y'; (try simp only [List.cons_append, List.nil_append] at N'); (try dsimp only); (try k_lift B'); (try k_fold)))
  walk_at "c_enterC"
  k_steps
  unfold sawsOf at hret
  exact hret _ _ _ (by assumption) (kst_newsOf (by assumption) (fun p hp => .tail _ (.tail _ (.tail _ hp))))

/-- the way that a fraction's two parts tell, at most n steps -/
noncomputable def spellN : Nat → Int → Int → Str
  | 0, _, _ => Str.ofString ""
  | n + 1, p, r => if 0 < p ∧ 0 < r ∧ p ≠ r then (if p < r then Str.ofString "<" ++ spellN n p (r - p) else Str.ofString ">" ++ spellN n (p - r) r) else Str.ofString ""
theorem spellN_end {n : Nat} {p r : Int} (h : ¬ (0 < p ∧ 0 < r ∧ p ≠ r)) : spellN n p r = Str.ofString "" := by
  cases n with
  | zero => rfl
  | succ n => unfold spellN; rw [if_neg h]
noncomputable abbrev spellMap (m₀ : Str → Option Value) (way : Str) (p r : Int) (tw tp tr : Tok) : Str → Option Value :=
  fun y => if y = Str.ofString "way" then some (.str way tw) else if y = Str.ofString "part" then some (.int p tp) else if y = Str.ofString "rest" then some (.int r tr) else m₀ y
noncomputable def SpellJ (m₀ : Str → Option Value) (news : List (Addr × Obj)) (full : Str) (n : Nat) (m : Str → Option Value) (nx : List (Addr × Obj)) : Prop :=
  nx = news ∧ ∃ (way : Str) (p r : Int) (tw tp tr : Tok), m = spellMap m₀ way p r tw tp tr ∧ full = way ++ spellN n p r ∧ p + r ≤ n ∧ way.length + n ≤ 128
section
variable {prog : Program} {w : World} {A : Around} {E : Value → Shared → Prop} {Q : Flow → Shared → Prop} {s : Shared} {env : Env} {h₀ : Heap} {L : Addr}
theorem spell_while {test : Expr} {body : List Stmt} {pos : Pos} {m₀ : Str → Option Value} {news : List (Addr × Obj)} {p r : Int} {tw tp tr : Tok} (n : Nat)
    (F : Fr h₀ L s.heap m₀) (N : News h₀ L s.heap news) (kw : m₀ (Str.ofString "way") = some (.str (Str.ofString "") tw)) (kp : m₀ (Str.ofString "part") = some (.int p tp)) (kr : m₀ (Str.ofString "rest") = some (.int r tr))
    (hn : p + r ≤ n) (hl : n ≤ 100)
    (turn : ∀ (k : Nat) (way : Str) (p' r' : Int) (tw tp tr : Tok) h tk, spellN n p r = way ++ spellN k p' r' → p' + r' ≤ k → way.length + k ≤ 128 → Fr h₀ L h (spellMap m₀ way p' r' tw tp tr) → News h₀ L h news →
      wpAny (model prog w) A (isTrue test env (eval test env)) (fun b s₂ =>
        if b = true then wpAny (model prog w) A (execs body env) (WhileStep2 h₀ L s (SpellJ m₀ news (spellN n p r)) Q k) E s₂ else Q .next s₂) E { s with heap := h, toks := tk })
    (hE : PassesOwn (model prog w) A env E := by passes_own) :
    wpAny (model prog w) A (exec (.While test body [] pos) env) Q E s := by
  refine While_inv2 (SpellJ m₀ news (spellN n p r)) F N (n₀ := n) ⟨rfl, Str.ofString "", p, r, tw, tp, tr, ?_, ?_, hn, ?_⟩ ?_ hE
  · funext y
    unfold spellMap
    split
    · rename_i e; rw [e, kw]
    · split
      · rename_i e; rw [e, kp]
      · split
        · rename_i e; rw [e, kr]
        · rfl
  · exact (Str.empty_append _).symm
  · have : (Str.ofString "").length = 0 := by decide +kernel
    omega
  · rintro k m₁ nx h tk F₁ N₁ ⟨rfl, way, p', r', tw', tp', tr', rfl, e, h1, h2⟩
    exact turn k way p' r' tw' tp' tr' h tk e h1 h2 F₁ N₁
end
theorem spell_next_lt {k : Nat} {p r : Int} {way full : Str} (e : full = way ++ spellN k p r) (hp : 0 < p) (hr : 0 < r) (hn : p ≠ r) (h : p < r) (hk : p + r ≤ k) (hl : way.length + k ≤ 128) :
    ∃ k', k' < k ∧ full = (way ++ Str.ofString "<") ++ spellN k' p (r - p) ∧ p + (r - p) ≤ k' ∧ (way ++ Str.ofString "<").length + k' ≤ 128 := by
  obtain ⟨k', rfl⟩ : ∃ k', k = k' + 1 := ⟨k - 1, by omega⟩
  refine ⟨k', Nat.lt_succ_self _, ?_, by omega, ?_⟩
  · rw [e]; conv => lhs; unfold spellN
    rw [if_pos ⟨hp, hr, hn⟩, if_pos h, Str.append_assoc]
  · have : (Str.ofString "<").length = 1 := by decide +kernel
    rw [Str.length_append, this]; omega
theorem spell_next_gt {k : Nat} {p r : Int} {way full : Str} (e : full = way ++ spellN k p r) (hp : 0 < p) (hr : 0 < r) (hn : p ≠ r) (h : ¬ p < r) (hk : p + r ≤ k) (hl : way.length + k ≤ 128) :
    ∃ k', k' < k ∧ full = (way ++ Str.ofString ">") ++ spellN k' (p - r) r ∧ (p - r) + r ≤ k' ∧ (way ++ Str.ofString ">").length + k' ≤ 128 := by
  obtain ⟨k', rfl⟩ : ∃ k', k = k' + 1 := ⟨k - 1, by omega⟩
  refine ⟨k', Nat.lt_succ_self _, ?_, by omega, ?_⟩
  · rw [e]; conv => lhs; unfold spellN
    rw [if_pos ⟨hp, hr, hn⟩, if_neg h, Str.append_assoc]
  · have : (Str.ofString ">").length = 1 := by decide +kernel
    rw [Str.length_append, this]; omega
theorem spell_map_lt {m₀ : Str → Option Value} {way way' : Str} {p r r' : Int} {tw tp tr tw' tr' : Tok} :
    (fun y => if y = Str.ofString "rest" then some (Value.int r' tr') else if y = Str.ofString "way" then some (Value.str way' tw') else spellMap m₀ way p r tw tp tr y) = spellMap m₀ way' p r' tw' tp tr' := by
  funext y
  by_cases h1 : y = Str.ofString "way"
  · subst h1; rfl
  · by_cases h2 : y = Str.ofString "part"
    · subst h2; rfl
    · by_cases h3 : y = Str.ofString "rest"
      · subst h3; rfl
      · simp only [spellMap, if_neg h1, if_neg h2, if_neg h3]
theorem spell_map_gt {m₀ : Str → Option Value} {way way' : Str} {p r p' : Int} {tw tp tr tw' tp' : Tok} :
    (fun y => if y = Str.ofString "part" then some (Value.int p' tp') else if y = Str.ofString "way" then some (Value.str way' tw') else spellMap m₀ way p r tw tp tr y) = spellMap m₀ way' p' r tw' tp' tr := by
  funext y
  by_cases h1 : y = Str.ofString "way"
  · subst h1; rfl
  · by_cases h2 : y = Str.ofString "part"
    · subst h2; rfl
    · by_cases h3 : y = Str.ofString "rest"
      · subst h3; rfl
      · simp only [spellMap, if_neg h1, if_neg h2, if_neg h3]
section
variable {h₀ : Heap} {L : Addr} {s : Shared} {m₀ m' : Str → Option Value} {news : List (Addr × Obj)} {Q : Flow → Shared → Prop} {k : Nat} {p r : Int} {way full : Str} {h' : Heap} {tk : Nat} {tw tp tr tw' tp' tr' : Tok}
theorem spell_end_lt (e : full = way ++ spellN k p r) (hp : 0 < p) (hr : 0 < r) (hn : p ≠ r) (h : p < r) (hk : p + r ≤ k) (hl : way.length + k ≤ 128)
    (F : Fr h₀ L h' (fun y => if y = Str.ofString "rest" then some (Value.int (r - p) tr') else if y = Str.ofString "way" then some (Value.str (way ++ Str.ofString "<") tw') else spellMap m₀ way p r tw tp tr y)) (N : News h₀ L h' news) :
    WhileStep2 h₀ L s (SpellJ m₀ news full) Q k .next { s with heap := h', toks := tk } := by
  obtain ⟨k', h1, h2, h3, h4⟩ := spell_next_lt e hp hr hn h hk hl
  rw [spell_map_lt] at F
  exact ⟨h', tk, _, _, k', rfl, F, N, h1, rfl, _, _, _, _, _, _, rfl, h2, h3, h4⟩
theorem spell_end_gt (e : full = way ++ spellN k p r) (hp : 0 < p) (hr : 0 < r) (hn : p ≠ r) (h : ¬ p < r) (hk : p + r ≤ k) (hl : way.length + k ≤ 128)
    (F : Fr h₀ L h' (fun y => if y = Str.ofString "part" then some (Value.int (p - r) tp') else if y = Str.ofString "way" then some (Value.str (way ++ Str.ofString ">") tw') else spellMap m₀ way p r tw tp tr y)) (N : News h₀ L h' news) :
    WhileStep2 h₀ L s (SpellJ m₀ news full) Q k .next { s with heap := h', toks := tk } := by
  obtain ⟨k', h1, h2, h3, h4⟩ := spell_next_gt e hp hr hn h hk hl
  rw [spell_map_gt] at F
  exact ⟨h', tk, _, _, k', rfl, F, N, h1, rfl, _, _, _, _, _, _, rfl, h2, h3, h4⟩
theorem spell_out (e : full = way ++ spellN k p r) (h : ¬ (0 < p ∧ 0 < r ∧ p ≠ r)) : full = way := by
  rw [e, spellN_end h]
  exact (congrArg (way ++ ·) (show Str.ofString "" = Str.empty from by decide +kernel)).trans (Str.append_empty way)
end
set_option maxRecDepth 100000 in
set_option maxHeartbeats 8000000 in
theorem c_spelled (w : World) (pg : Program) (lo : List Str) (mean : ExcName → Option Value) (mg mb : Str → Option Value) (p r : Int) (t u : Tok) (news : List (Addr × Obj)) (hs : p + r ≤ 100) :
    Ctr w pg lo mean mg mb 1 199 [.int p t, .int r u] news (CbRet · · · news · · (fun t => .str (spellN 100 p r) t)) := by
  k_with_none
  k_with "c_enterC" => (
  have hx := fillK
  revert hx
  k_fill
  intro hx; clear hx
  intro dp un gd cn cs a ccd cl outer A₀ base h₀ L m s Q E B F X N T hk hd hu hret
  refine wpAny_call ?_
  k_dflt (refine' code_defC ?k1 ?k2 ?k3 ?k4 ?k5 ?kA ?kF ?kK ?k6 ?k7 ?k8 ?k9 ?kB ?kD ?_ ?c2 ?c3 ?c4; (case kA => exact rfl); (case kF => exact rfl); (case kK => assumption); (case k1 => k_asm); (case k2 => k_asm); (case k3 => k_asm); (case k4 => k_asm); (case k5 => k_asm); (case k6 => k_is); (case k7 => k_is); (case k8 => ktr_room); (case k9 => exact BindsTo.of_eq rfl); (case kB => exact rfl); (case kD => decide +kernel); (case c2 => exact rfl); (case c3 => exact rfl); (case c4 => exact rfl); k_whole; intro g' L' h' tk' cells' FG' F' N' Y' B' X' T' l1; (try k_lt l1); k_cells Y'; (try simp only [List.cons_append, List.nil_append] at N'); (try dsimp only); (try k_lift B'); (try k_fold)))
  k_with "c_enter" => (
  have hx := fillK
  revert hx
  k_fill
  intro hx; clear hx
  intro dp un gd cn cs a ccd cl outer A₀ base h₀ L m s Q E B F X N T hk hd hu hret
  refine wpAny_call ?_
  k_dflt cell_enter)
  k_with "exec While BoolOp" => (k_here; k_dflt (
  (refine' spell_while 100 ?F1 ?N1 ?kw ?kp ?kr ?hn ?hl ?_)
  (case F1 => k_asm)
  (case N1 => k_asm)
  (case kw => exact rfl)
  (case kp => exact rfl)
  (case kr => exact rfl)
  (case hn => omega)
  (case hl => decide)
  (intro k way p' r' tw tp tr h' tk e1 e2 e3 F' N')))
  walk_at "c_enter"
  k_steps
  · exact spell_end_lt (by assumption) (by assumption) (by assumption) (by assumption) (by assumption) (by assumption) (by assumption) (by assumption) (by assumption)
  · exact spell_end_gt (by assumption) (by assumption) (by assumption) (by assumption) (by assumption) (by assumption) (by assumption) (by assumption) (by assumption)
  all_goals (
    (rename (_ = _ ++ spellN _ _ _) => e9)
    have e8 := spell_out e9 (by omega)
    rw [e8] at hret
    exact hret _ _ _ (by assumption) (by assumption))
end Mine
end
section
open PySem PySem.W PyProof.Rows PySem.Calls PySem.Spec
set_option linter.unusedVariables false
namespace Mine
/-- the instances that stand in names: their texts, in order -/
noncomputable def NamesIn (w : World) (qs : List (Addr × Obj)) : List Value → List Str → Prop
  | [], [] => True
  | v :: vs, t :: ts => (∃ q d tk tk', v = .ref q ∧ (q, instObj 153 d) ∈ qs ∧ (d, dictOf [⟨PyData.keyHash w.params (Str.ofString "text"), .str (Str.ofString "text") tk, .str t tk'⟩] 1) ∈ qs) ∧ NamesIn w qs vs ts
  | _, _ => False
noncomputable def HuesAre : List Value → List UInt64 → Prop
  | [], [] => True
  | v :: vs, h :: hs => (∃ tk, v = .float h tk) ∧ HuesAre vs hs
  | _, _ => False
noncomputable abbrev lawAdr (aN aH cN cH cV lD : Addr) : List Addr := [aN, aH, cN, cH, cV, lD, 206]
structure LawAt (w : World) (P : List Str → List UInt64 → Prop) (aN aH cN cH cV lD : Addr) (i : Nat) (oN oH oV : Obj) (vV : Option Value) (vsN vsH : List Value) (ts : List Str) (hs : List UInt64) (qs : List (Addr × Obj)) : Prop where
  dN : oN.data = .cell (some (.ref aN))
  dH : oH.data = .cell (some (.ref aH))
  dV : oV.data = .cell vV
  names : NamesIn w qs vsN ts
  hues : HuesAre vsH hs
  lenN : vsN.length = 2 * i
  lenH : vsH.length = 2 * i
  good : P ts hs
  off : OwnOff qs (lawAdr aN aH cN cH cV lD)
noncomputable abbrev lawLed (aN aH cN cH cV lD : Addr) (oN oH oV : Obj) (vsN vsH vs : List Value) (kN kH nn : Nat) (tl : List (Addr × Obj)) : List (Addr × Obj) :=
  (aN, listOf vsN.toArray kN) :: (aH, listOf vsH.toArray kH) :: (cN, oN) :: (cH, oH) :: (cV, oV) :: (lD, listOf vs.toArray nn) :: (206, tabObj #[]) :: tl
noncomputable def LawJ (w : World) (P : List Str → List UInt64 → Prop) (aN aH cN cH cV lD : Addr) (vs : List Value) (nn : Nat) (i : Nat) (_m : Str → Option Value) (nx : List (Addr × Obj)) : Prop :=
  ∃ (oN oH oV : Obj) (vV : Option Value) (vsN vsH : List Value) (ts : List Str) (hs : List UInt64) (kN kH : Nat) (qs : List (Addr × Obj)),
    nx = lawLed aN aH cN cH cV lD oN oH oV vsN vsH vs kN kH nn qs ∧ LawAt w P aN aH cN cH cV lD i oN oH oV vV vsN vsH ts hs qs
section
variable {prog : Program} {w : World} {A : Around} {E : Value → Shared → Prop} {s : Shared} {env : Env} {h₀ : Heap} {x : Str} {body : List Stmt} {Q : Flow → Shared → Prop}
theorem law_iter (P : List Str → List UInt64 → Prop) (hP : P [] []) {aN aH cN cH cV lD : Addr} {vs : List Value} {ns : List Int} {nn kN kH : Nat} {m₀ : Str → Option Value} {oN oH oV : Obj} {vV : Option Value}
    (hh : A.handled = none) (hi : IntsAre vs ns) (F : Fr h₀ env.locals s.heap m₀) (N : News h₀ env.locals s.heap (lawLed aN aH cN cH cV lD oN oH oV [] [] vs kN kH nn []))
    (dN : oN.data = .cell (some (.ref aN))) (dH : oH.data = .cell (some (.ref aH))) (dV : oV.data = .cell vV)
    (turn : ∀ (i : Nat) (n : Int) (t : Tok) (m₁ : Str → Option Value) (oN oH oV : Obj) (vV : Option Value) (vsN vsH : List Value) (ts : List Str) (hs : List UInt64) (kN kH : Nat) (qs own tl : List (Addr × Obj)) h tk, ns[i]? = some n → LawAt w P aN aH cN cH cV lD i oN oH oV vV vsN vsH ts hs qs →
      tl = qs ++ own → OwnOff own (qs.map (·.1)) → OwnOff tl (lawAdr aN aH cN cH cV lD) → Fr h₀ env.locals h (fun y => if y = x then some (.int n t) else m₁ y) → News h₀ env.locals h (lawLed aN aH cN cH cV lD oN oH oV vsN vsH vs kN kH nn tl) →
      wpAny (model prog w) A (execs body env) (InvPostG h₀ env.locals (LawJ w P aN aH cN cH cV lD vs nn (i + 1)) own { s with heap := h, toks := tk } Q) E { s with heap := h, toks := tk })
    (done : ∀ (m₁ : Str → Option Value) (oN oH oV : Obj) (vV : Option Value) (vsN vsH : List Value) (ts : List Str) (hs : List UInt64) (kN kH : Nat) (qs : List (Addr × Obj)) h tk, LawAt w P aN aH cN cH cV lD ns.length oN oH oV vV vsN vsH ts hs qs → Fr h₀ env.locals h m₁ →
      News h₀ env.locals h (lawLed aN aH cN cH cV lD oN oH oV vsN vsH vs kN kH nn qs) → Q .next { s with heap := h, toks := tk }) :
    wpAny (model prog w) A (pyIter (.ref lD)) (fun it s₂ => LoopAtV prog w A h₀ env x body Q E it s₂) E s := by
  have hlen : vs.length = ns.length := hi.length
  refine kdl_iter (news := lawLed aN aH cN cH cV lD oN oH oV [] [] vs kN kH nn []) (fun i m nx => LawJ w P aN aH cN cH cV lD vs nn i m nx) hh (by unfold lawLed; exact .tail _ (.tail _ (.tail _ (.tail _ (.tail _ (.head _)))))) F N
    ⟨oN, oH, oV, vV, [], [], [], [], kN, kH, [], rfl, ⟨dN, dH, dV, trivial, trivial, rfl, rfl, hP, fun _ hp => (nomatch hp)⟩⟩ ?_ ?_
  · rintro i v m₁ nx h tk own hv hoff hl ⟨oN, oH, oV, vV, vsN, vsH, ts, hs, kN, kH, qs, rfl, W⟩ F₁ N₁
    have hi' : i < ns.length := by rw [← hlen]; exact (List.getElem?_eq_some_iff.mp hv).1
    obtain ⟨t, hx⟩ := hi.get i (ns[i]'hi') (List.getElem?_eq_getElem hi')
    have ev : v = .int (ns[i]'hi') t := by rw [hx] at hv; exact (Option.some.inj hv).symm
    subst ev
    have o1 : OwnOff own (lawAdr aN aH cN cH cV lD) := fun p hp b hb => by
      refine hoff p hp b ?_
      simp only [lawAdr, List.mem_cons, List.not_mem_nil, or_false] at hb
      rcases hb with rfl | rfl | rfl | rfl | rfl | rfl | rfl <;> simp [lawLed]
    have o2 : OwnOff own (qs.map (·.1)) := fun p hp b hb => by
      refine hoff p hp b ?_
      simp only [lawLed, List.map_cons]
      exact .tail _ (.tail _ (.tail _ (.tail _ (.tail _ (.tail _ (.tail _ hb))))))
    have o3 : OwnOff (qs ++ own) (lawAdr aN aH cN cH cV lD) := fun p hp b hb => by
      rcases List.mem_append.mp hp with h | h
      · exact W.off p h b hb
      · exact o1 p h b hb
    refine wpAny_mono (turn i _ t m₁ oN oH oV vV vsN vsH ts hs kN kH qs own (qs ++ own) h tk (List.getElem?_eq_getElem hi') W rfl o2 o3 F₁ N₁) (fun f s₂ p => ?_) fun _ _ x => x
    have up : InvEndG h₀ env.locals (LawJ w P aN aH cN cH cV lD vs nn (i + 1)) own { s with heap := h, toks := tk } s₂ →
        InvEndG h₀ env.locals (fun m' nx => (lD, listOf vs.toArray nn) ∈ nx ∧ LawJ w P aN aH cN cH cV lD vs nn (i + 1) m' nx) own { s with heap := h, toks := tk } s₂ := by
      rintro ⟨h', tk', m', news', nx', e', F', N', hn', ho', ha, hS⟩
      refine ⟨h', tk', m', news', nx', e', F', N', hn', ho', ha, ?_, hS⟩
      obtain ⟨_, _, _, _, _, _, _, _, _, _, _, rfl, _⟩ := hS
      exact .tail _ (.tail _ (.tail _ (.tail _ (.tail _ (.head _)))))
    cases f with
    | ret v => exact p
    | brk => exact p
    | next => exact up p
    | cont => exact up p
  · rintro m₁ nx h tk ⟨oN, oH, oV, vV, vsN, vsH, ts, hs, kN, kH, qs, rfl, W⟩ F₁ N₁
    rw [hlen] at W
    exact done m₁ oN oH oV vV vsN vsH ts hs kN kH qs h tk W F₁ N₁
end
theorem law_news {h₀ h : Heap} {L aN aH cN cH cV lD : Addr} {oN oH oV : Obj} {vs : List Value} {kN kH nn : Nat} {e1 e2 : Addr × Obj}
    (N : News h₀ L h [(lD, listOf vs.toArray nn), e1, e2, (aH, listOf #[] kH), (aN, listOf #[] kN), (cH, oH), (cV, oV), (cN, oN), (206, tabObj #[])]) : News h₀ L h (lawLed aN aH cN cH cV lD oN oH oV [] [] vs kN kH nn []) := by
  refine kst_newsOf N ?_
  intro p hp
  simp only [lawLed, List.mem_cons, List.not_mem_nil, or_false] at hp ⊢
  rcases hp with rfl | rfl | rfl | rfl | rfl | rfl | rfl <;> simp
/-- a name and a hue of one way -/
noncomputable def Dom (t : Str) (h : UInt64) : Prop := ∃ (c : Nat) (cd : List Int), c < 6 ∧ cd ∈ allWays ∧ t = Str.ofString "{" ++ Str.ofString (toString c) ++ Str.ofString "}" ++ KStt.txt cd ++ Str.ofString "=" ∧ h = (told c cd).hue
noncomputable def LawP : List Str → List UInt64 → Prop
  | [], [] => True
  | t :: ts, h :: hs => Dom t h ∧ LawP ts hs
  | _, _ => False
end Mine
end
section
open PySem PySem.W PyProof.Rows PySem.Calls PySem.Spec
set_option linter.unusedVariables false
namespace Mine
@[irreducible] noncomputable def bitStr (v k : Int) : Str := if Int.fmod (Int.fdiv (Int.fdiv v 42) (2 ^ k.toNat)) 2 = 1 then Str.ofString ">" else Str.ofString "<"
theorem bitStr_gt {v k : Int} (h : Int.fmod (Int.fdiv (Int.fdiv v 42) (2 ^ k.toNat)) 2 = 1) : bitStr v k = Str.ofString ">" := by unfold bitStr; rw [if_pos h]
theorem bitStr_lt {v k : Int} (h : ¬ Int.fmod (Int.fdiv (Int.fdiv v 42) (2 ^ k.toNat)) 2 = 1) : bitStr v k = Str.ofString "<" := by unfold bitStr; rw [if_neg h]
theorem bitStr_len (v k : Int) : (bitStr v k).length = 1 := by unfold bitStr; split <;> decide +kernel
@[irreducible] noncomputable def wayOf (v : Int) : Str := Txt.join (Str.ofString "") ((rangeKs 0 (((v.fdiv 6).fmod 7) - 0).toNat).map (bitStr v))
section
variable {prog : Program} {w : World} {A : Around} {E : Value → Shared → Prop} {s : Shared} {Q : Value → Shared → Prop} {D : Addr} {ys : List Value} {t : Tok}
theorem join_way {v : Int} {x : Str} (hx : wayOf v = x) (hl : s.heap.IsList D ys.toArray) (hc : CarriedAll ys ((rangeKs 0 (((v.fdiv 6).fmod 7) - 0).toNat).map fun k => PyData.str (bitStr v k)))
    (h : ∀ t' k, Q (.str x t') { s with toks := k }) : wpAny (model prog w) A (call (.builtin "str.join") [.str (Str.ofString "") t, .ref D]) Q E s := by
  refine KT.join_1 hl hc (fun a _ => bitStr_len v a) ?_ (fun t' k _ => ?_)
  · rw [rangeKs_length]
    have := (Int.fmod_lt_of_pos (v.fdiv 6) (by decide : (0 : Int) < 7))
    omega
  · subst hx
    unfold wayOf at h
    exact h t' k
end
@[irreducible] noncomputable def revStr (x : Str) : Str := ⟨((Builtin.Str.strSliceIndices none none (-1) x.length).filterMap (x.cps[·]?)).toArray⟩
section
variable {prog : Program} {w : World} {A : Around} {E : Value → Shared → Prop} {s : Shared} {Q : Value → Shared → Prop} {h₀ : Heap} {L : Addr} {m : Str → Option Value} {news : List (Addr × Obj)} {x y : Str} {t uj : Tok} {value slice : PySem.Expr}
theorem slice_rev (hx : revStr x = y) (hy : y.length ≤ 64) (hF : Fr h₀ L s.heap m) (hN : News h₀ L s.heap news) (h : ∀ h' t' k, Fr h₀ L h' m → News h₀ L h' news → Q (.str y t') { s with heap := h', toks := k })
    (hs : subscripted slice false (.str x t) (.ref s.heap.objs.size) = operate [.ref s.heap.objs.size, .str x t] (getItem (.str x t) (.ref s.heap.objs.size)) := by with_unfolding_all rfl)
    (ht : ∀ r, letTemporaryGo value (.str x t) r = pure () := by intro _; with_unfolding_all rfl) :
    wpAny (model prog w) A (subscriptTail value slice (.str x t) (.ref s.heap.objs.size)) Q E { s with heap := s.heap.push { cls := .type "slice", data := .fields #[.none, .none, .int (-1) uj] } } := by
  refine tail_of_ItemOn ⟨"str", _, F.slot_str_getitem.lookup, typeIs_str _ _ _, wpAny_getItem_str_slice (l := none) (u := none) (st := some (-1, uj)) ⟨_, Heap.get?_push_size _ rfl, rfl, rfl⟩ rfl ?_⟩ hs ht
  have e : sliceMade x t none none (some (-1, uj)) = .str y := by
    rw [← hx]; unfold sliceMade revStr
    rw [if_neg (by simp)]; rfl
  rw [e]
  exact ⟨Nat.le_trans hy (by rw [sizeLine_eq]; decide), h _ _ _ (hF.push _) (fun p hp => ⟨Heap.get?_push_of_some _ (hN p hp).1, (hN p hp).2⟩)⟩
end
theorem codes_txt {cd : List Int} (h : ∀ x ∈ cd, x = 60 ∨ x = 62) : KStt.codes (KStt.txt cd) = cd := by
  show ((cd.map Int.toNat).toArray.toList.map fun (c : Nat) => (c : Int)) = cd
  rw [List.map_map]
  refine (List.map_congr_left (g := _root_.id) fun c hc => ?_).trans (List.map_id _)
  rcases h c hc with rfl | rfl <;> rfl
noncomputable abbrev RetTold5 (news : List (Addr × Obj)) (h1 sh : UInt64) (sx pa wh : Int) (h₀ : Heap) (L : Addr) (m : Str → Option Value) (s : Shared) (Q : Value → Shared → Prop) : Prop :=
  ∀ D v1 v2 v3 v4 v5 c h' tk', @LT.lt Nat _ 0 v2 → Fr h₀ L h' m → News h₀ L h' ((D, ({ cls := .type "tuple", data := .seq #[.float h1 v1, .float sh v2, .int sx v3, .int pa v4, .int wh v5] c } : Obj)) :: news) → AllLt D news → Q (.ref D) { s with heap := h', toks := tk' }
theorem c_told' {w : World} {pg : Program} {lo : List Str} {mean : ExcName → Option Value} {mg mb : Str → Option Value} {c : Nat} {ci : Int} {cd : List Int} {h1 sh : UInt64} {sx pa wh : Int} {t u : Tok} {news : List (Addr × Obj)} (hci : ci = (c : Int)) (hc : c < 6) (hw : ∀ n ∈ cd, n = 60 ∨ n = 62) (ok : toldOk c cd = true) (ht : told c cd = ⟨h1, sh, sx, pa, wh⟩) :
    Ctr w pg lo mean mg mb 3 192 [.int ci t, .str (KStt.txt cd) u] news (RetTold5 news h1 sh sx pa wh) := by
  subst hci
  have e := codes_txt hw
  have k := c_told w pg lo mean mg mb c (KStt.txt cd) t u news hc (by rw [e]; exact hw) (by rw [e]; exact ok)
  rw [e, ht] at k
  exact k
theorem str_small {prog : Program} {w : World} {A : Around} {E : Value → Shared → Prop} {s : Shared} {a : Int} {t : Tok} {x : Str} {Q : Value → Shared → Prop} (ha : a.natAbs < 2 ^ 64) (hx : Str.ofString (toString a) = x) (h : Q (.str x s.toks) { s with toks := s.toks + 1 }) :
    wpAny (model prog w) A (call (.type "str") [.int a t]) Q E s := by
  refine P.str_of_int ?_ (by rw [hx]; exact h)
  by_cases h0 : a.natAbs = 0
  · rw [h0]; decide +kernel
  · have : a.natAbs.log2 < 64 := (Nat.log2_lt h0).mpr ha
    omega
theorem c_spelled' {w : World} {pg : Program} {lo : List Str} {mean : ExcName → Option Value} {mg mb : Str → Option Value} {p r : Int} {y : Str} {t u : Tok} {news : List (Addr × Obj)} (h : p + r ≤ 100 ∧ spellN 100 p r = y) :
    Ctr w pg lo mean mg mb 1 199 [.int p t, .int r u] news (CbRet · · · news · · (fun t => .str y t)) := by
  have k := c_spelled w pg lo mean mg mb p r t u news h.1
  rw [h.2] at k
  exact k
theorem c_saws' {w : World} {pg : Program} {lo : List Str} {mean : ExcName → Option Value} {mg mb : Str → Option Value} {p q S : Int} {t u : Tok} {news : List (Addr × Obj)} (h : (0 < p ∧ p ≤ 64 ∧ 0 < q ∧ q ≤ 64) ∧ sawsOf p q = S) :
    Ctr w pg lo mean mg mb 2 204 [.int p t, .int q u] news (CbRet · · · news · · (fun t => .int S t)) := by
  have k := c_saws w pg lo mean mg mb p q t u news h.1.1 h.1.2.1 h.1.2.2.1 h.1.2.2.2
  rw [h.2] at k
  exact k
structure HtmlOk (x y : Str) : Prop where
  hl : x.length ≤ 64
  f1 : lacks x (Str.ofString "&")
  f2 : lacks (htmlOf x) (Str.ofString "\"")
  hy : htmlOf x = y
structure C14nOk (x y : Str) : Prop where
  hl : x.length ≤ 64
  f1 : lacks x (Str.ofString "&")
  f2 : lacks (c14nOf x) (Str.ofString "\"")
  f3 : lacks (c14nOf x) (Str.ofString "\t")
  f4 : lacks (c14nOf x) (Str.ofString "\n")
  f5 : lacks (c14nOf x) (Str.ofString "\r")
  hy : c14nOf x = y
theorem c_html' {w : World} {pg : Program} {lo : List Str} {mean : ExcName → Option Value} {mg mb : Str → Option Value} {x y : Str} {t : Tok} {news : List (Addr × Obj)} (h : HtmlOk x y) :
    Ctr w pg lo mean mg mb 1 171 [.str x t] news (CbRet · · · news · · (fun t => .str y t)) := by
  have k := c_html w pg lo mean mg mb x t news h.hl h.f1 h.f2
  rw [h.hy] at k
  exact k
theorem c_c14n' {w : World} {pg : Program} {lo : List Str} {mean : ExcName → Option Value} {mg mb : Str → Option Value} {x y : Str} {t : Tok} {news : List (Addr × Obj)} (h : C14nOk x y) :
    Ctr w pg lo mean mg mb 1 178 [.str x t] news (CbRet · · · news · · (fun t => .str y t)) := by
  have k := c_c14n w pg lo mean mg mb x t news h.hl h.f1 h.f2 h.f3 h.f4 h.f5
  rw [h.hy] at k
  exact k
theorem fit_len {x : Str} (h : x.length ≤ 1000) : ¬ (x.length : Int) ≥ 2 ^ 63 := by omega
structure TurnFacts (v : Int) (c : Nat) (cd : List Int) (h1 h2 : UInt64) (P Q R S : Int) (XC XH cs ns : Str) : Prop where
  hc : c < 6
  hci : v.fmod 6 = (c : Int)
  hway : wayOf v = KStt.txt cd
  hcd : ∀ x ∈ cd, x = 60 ∨ x = 62
  hcr : ∀ x ∈ cd.reverse, x = 60 ∨ x = 62
  hrev : revStr (KStt.txt cd) = KStt.txt cd.reverse
  hlen : (KStt.txt cd).length ≤ 64
  hlenr : (KStt.txt cd.reverse).length ≤ 64
  ok1 : toldOk c cd = true
  ok2 : toldOk c cd.reverse = true
  t1 : told c cd = ⟨h1, 0x3ff0000000000000, (c : Int), P, Q⟩
  t2 : told c cd.reverse = ⟨h2, 0x3ff0000000000000, (c : Int), R, Q⟩
  bd : (0 < P ∧ P ≤ 64 ∧ 0 < Q ∧ Q ≤ 64)
  br : 0 < R ∧ R ≤ 64
  sp : P + (Q - P) ≤ 100 ∧ spellN 100 P (Q - P) = KStt.txt cd
  inv : (P * R).fmod Q = 1
  hS : sawsOf P Q = S
  c14n : C14nOk (KStt.txt cd) XC
  html : HtmlOk (KStt.txt cd) XH
  hcs : Str.ofString (toString (c : Int)) = cs ∧ cs.length ≤ 8
  hns : ((3 * S).fdiv Q).natAbs < 2 ^ 64 ∧ Str.ofString (toString ((3 * S).fdiv Q)) = ns ∧ ns.length ≤ 30
  lens : XC.length ≤ 1000 ∧ XH.length ≤ 1000
  num : 3 * ((3 * S).fdiv Q) = Q * (((XC.length : Int) - (XH.length : Int)) - 3) + 3 * (P + R)
end Mine
end
section
open PySem PySem.W PyProof.Rows PySem.Calls PySem.Spec PySem.SeqAt
set_option linter.unusedVariables false
namespace Mine
theorem noneBooked {P : Params} {h : Heap} (X : (hd.heap_39 P).In h) : NoneBooked h := by
  have ho := X 2 _ rfl
  refine ⟨fun name => nsFind _ name, ⟨_, _, _, ho, rfl, ?_, fun _ => rfl⟩, ?_⟩
  · intro e he
    simp only [List.mem_toArray, List.mem_cons, List.not_mem_nil, or_false] at he
    rcases he with rfl | rfl <;> exact ⟨_, _, rfl⟩
  · with_unfolding_all rfl
section
variable {M : Model} {A : Around} {E : Value → Shared → Prop} {s : Shared}
theorem isSame_float {x : UInt64} {u v : Tok} {Q : Bool → Shared → Prop} (h0 : (u == 0 || v == 0) = false) (hb : NoneBooked s.heap) (hq : ∀ b, Q b s) : wpAny M A (isSame (.float x u) (.float x v)) Q E s := by
  show wpAny M A (isSame.created (x == x && !Float64.isNaN x) u v) Q E s
  unfold isSame.created
  refine wpAny_ite ?_
  split
  · rename_i h; rw [h0] at h; exact absurd h Bool.false_ne_true
  refine wpAny_ite ?_
  split
  · exact wpAny_pure (hq _)
  refine wpAny_ite ?_
  split
  · exact wpAny_pure (hq _)
  refine wpAny_bind (wpAny_sharingNotTold_none hb ?_)
  first | rw [if_neg Bool.false_ne_true] | simp only [Bool.false_eq_true, if_false]
  refine wpAny_bind (wpAny_sharingNotTold_none hb ?_)
  first | rw [if_neg Bool.false_ne_true] | simp only [Bool.false_eq_true, if_false]
  exact wpAny_bind (wpAny_rule (wpAny_bind (wpAny_askSetting (wpAny_pure (hq _)))))
theorem eq_float {x : UInt64} {t u : Tok} (ht : @LT.lt Nat _ 0 t) (hu : @LT.lt Nat _ 0 u) (hx : (Float64.cmp x x == some Ordering.eq) = true) (hb : NoneBooked s.heap) : EqAt A s (.float x t) (.float x u) true := by
  intro prog w E Q h
  unfold eqBool
  refine wpAny_holding ?_
  by_cases hab : (Value.float x t == Value.float x u) = true
  · rw [if_pos hab]
    exact wpAny_bind (wpAny_rule (wpAny_pure h))
  · rw [if_neg hab]
    have h0 : (t == 0 || u == 0) = false := by
      have h1 : ¬ t = 0 := by intro e; rw [e] at ht; exact absurd ht (Nat.lt_irrefl _)
      have h2 : ¬ u = 0 := by intro e; rw [e] at hu; exact absurd hu (Nat.lt_irrefl _)
      simp [h1, h2]
    refine wpAny_bind (isSame_float h0 hb fun b => ?_)
    cases b with
    | true => exact wpAny_pure h
    | false =>
      have hrc : wpAny (model prog w) A (richCompare .Eq (.float x t) (.float x u)) (fun v s' => v = .bool true ∧ Q true s') E s := AutoFloatOps.eq_0 (by rw [hx]; exact ⟨rfl, h⟩)
      refine wpAny_bind (wpAny_mono hrc (fun v s' hv => ?_) fun _ _ e => e)
      obtain ⟨rfl, hq⟩ := hv
      exact wpAny_truthy_bool hq
variable {prog : Program} {w : World}
/-- [share, pure, sixth, seat, size] and [1.0, 1.0, corner, corner, whole], alike -/
theorem ne_five {l b : Addr} {x y : UInt64} {i j k : Int} {a1 a2 a3 a4 a5 b1 b2 b3 b4 b5 : Tok} {n n2 : Nat} {news : List (Addr × Obj)} {h₀ : Heap} {L : Addr} {Q : Value → Shared → Prop} (N : News h₀ L s.heap news)
    (hl : (l, W.listOf #[.float x a1, .float y a2, .int i a3, .int j a4, .int k a5] n) ∈ news) (hb : (b, W.listOf #[.float x b1, .float y b2, .int i b3, .int j b4, .int k b5] n2) ∈ news)
    (hx : (Float64.cmp x x == some Ordering.eq) = true) (hy : (Float64.cmp y y == some Ordering.eq) = true) (ta : (@LT.lt Nat _ 0 a1) ∧ (@LT.lt Nat _ 0 a2) ∧ (@LT.lt Nat _ 0 b1) ∧ (@LT.lt Nat _ 0 b2))
    (hN : NoneBooked s.heap) (hu : A.units < cLine) (h : Q (.bool false) s) : wpAny (model prog w) A (compareOp .NotEq (.ref l) (.ref b)) Q E s := by
  have h1 : s.heap.IsList l #[.float x a1, .float y a2, .int i a3, .int j a4, .int k a5] := ⟨_, (N _ hl).1, rfl, n, rfl⟩
  have h2 : s.heap.IsList b #[.float x b1, .float y b2, .int i b3, .int j b4, .int k b5] := ⟨_, (N _ hb).1, rfl, n2, rfl⟩
  refine RcNeAt.lists (A := A) (s := s) (e := fun _ => true) h1 h2 rfl hu ?_ prog w E Q h
  intro m m1 m2
  match m, m1, m2 with
  | 0, _, _ => exact eq_float ta.1 ta.2.2.1 hx hN
  | 1, _, _ => exact eq_float ta.2.1 ta.2.2.2 hy hN
  | 2, _, _ => exact (by simpa using EqAt.int_int (A := A.in1) (s := s) i a3 i b3)
  | 3, _, _ => exact (by simpa using EqAt.int_int (A := A.in1) (s := s) j a4 j b4)
  | 4, _, _ => exact (by simpa using EqAt.int_int (A := A.in1) (s := s) k a5 k b5)
  | m + 5, h5, _ => exact absurd h5 (by simp)
end
theorem Ctr.up {w : World} {pg : Program} {lo : List Str} {mean : ExcName → Option Value} {mg mb : Str → Option Value} {d : Nat} {f : Addr} {vs : List Value} {news : List (Addr × Obj)} {ret : Heap → Addr → (Str → Option Value) → Shared → (Value → Shared → Prop) → Prop}
    (h : Ctr w pg lo mean mg mb d f vs news ret) : Ctr w pg lo mean mg mb d f vs news (fun h₀ L m s Q => ret h₀ L m s (fun v s' => s.toks ≤ s'.toks → Q v s')) := by
  intro dp un gd cn cs a ccd cl outer A₀ base h₀ L m s Q E B F X N T hk hd hu hret
  exact wpAny_toks (h dp un gd cn cs a ccd cl outer A₀ base h₀ L m s _ _ B F X N T hk hd hu hret)
end Mine
end
section
open PySem PySem.W PyProof.Rows PySem.Calls PySem.Spec
set_option linter.unusedVariables false
namespace Mine
local macro_rules | `(tactic| walk_at "pad") => `(tactic| skip)
local macro_rules | `(tactic| walk_at "pad") => `(tactic| skip)
local macro_rules | `(tactic| walk_at "pad") => `(tactic| skip)
local macro_rules | `(tactic| walk_at "pad") => `(tactic| skip)
local macro_rules | `(tactic| walk_at "pad") => `(tactic| skip)
local macro_rules | `(tactic| walk_at "pad") => `(tactic| skip)
local macro_rules | `(tactic| walk_at $s:str) => `(tactic| k_extra $s)
section
variable {prog : Program} {w : World} {A : Around} {E : Value → Shared → Prop} {s : Shared} {Q : Value → Shared → Prop} {x y z : Str} {t u v : Tok} {k i : Int} {h₀ : Heap} {L : Addr} {m : Str → Option Value} {news : List (Addr × Obj)} {value slice : PySem.Expr}
theorem find_is (hx : Txt.find x y = k) (h : Q (.int k s.toks) { s with toks := s.toks + 1 }) : wpAny (model prog w) A (call (.builtin "str.find") [.str x t, .str y u]) Q E s := SC.find (by rw [hx]; exact h)
theorem find3_is (hx : Txt.find3 x y i = k) (h : Q (.int k s.toks) { s with toks := s.toks + 1 }) : wpAny (model prog w) A (call (.builtin "str.find") [.str x t, .str y u, .int i v]) Q E s := SC.find3 (by rw [hx]; exact h)
theorem item_is (h0 : 0 ≤ i) (h1 : i < 10000) (h2 : i < x.length) (hy : Txt.item x i = y) (h : Q (.str y s.toks) { s with toks := s.toks + 1 })
    (hs : subscripted slice false (.str x t) (.int i u) = operate [.str x t, .int i u] (getItem (.str x t) (.int i u)) := by with_unfolding_all rfl)
    (ht : ∀ r, letTemporaryGo value (.str x t) r = pure () := by intro _; with_unfolding_all rfl) :
    wpAny (model prog w) A (subscriptTail value slice (.str x t) (.int i u)) Q E s :=
  item_str (fitsSsize_of (N := 9223372036854775808) (by omega) (by omega) (Int.le_refl _)) (by omega) h2 (fun _ => by rw [hy]; exact h) hs ht
theorem split_is {p0 p1 p2 p3 p4 : Str} (hF : Fr h₀ L s.heap m) (hN : News h₀ L s.heap news) (hy : (y.length == 0) = false) (hx : Txt.split x y = [p0, p1, p2, p3, p4]) (hl : x.length ≤ 1000)
    (h : ∀ D t0 t1 t2 t3 t4 h' k, Fr h₀ L h' m → News h₀ L h' ((D, W.listOf #[.str p0 t0, .str p1 t1, .str p2 t2, .str p3 t3, .str p4 t4] 0) :: news) → (∀ p ∈ news, p.1 < D) → Q (.ref D) { s with heap := h', toks := k }) :
    wpAny (model prog w) A (call (.builtin "str.split") [.str x t, .str y u]) Q E s := by
  refine KSpl.split1 hF hN hy (fun D l h' k e _ F N l1 => ?_) (by rw [sizeLine_eq]; omega)
  rw [hx] at e
  match l, e with
  | [(q0, t0), (q1, t1), (q2, t2), (q3, t3), (q4, t4)], e =>
    simp only [List.map_cons, List.map_nil, List.cons.injEq, and_true] at e
    obtain ⟨rfl, rfl, rfl, rfl, rfl⟩ := e
    exact h D t0 t1 t2 t3 t4 h' k F N l1
theorem split_no {n : Nat} (hF : Fr h₀ L s.heap m) (hN : News h₀ L s.heap news) (hy : (y.length == 0) = false) (hx : (Txt.split x y).length = n) (hl : x.length ≤ 1000)
    (h : ∀ D vs h' k, vs.length = n → Fr h₀ L h' m → News h₀ L h' ((D, W.listOf (List.toArray vs) 0) :: news) → (∀ p ∈ news, p.1 < D) → Q (.ref D) { s with heap := h', toks := k }) :
    wpAny (model prog w) A (call (.builtin "str.split") [.str x t, .str y u]) Q E s := by
  refine KSpl.split1 hF hN hy (fun D l h' k e es F N l1 => ?_) (by rw [sizeLine_eq]; omega)
  refine h D (strValues l) h' k ?_ F N l1
  have e2 : (strValues l).length = (l.map (·.1)).length := es.length
  rw [e2, e, hx]
end
structure ParseOk (x : Str) (L R k : Int) (y z p0 p1 p2 p3 p4 : Str) : Prop where
  h1 : (Txt.slice x none (some 3) != Str.ofString "229") = false
  h2 : Txt.find x (Str.ofString "(") = L
  h3 : Txt.find3 x (Str.ofString ")") (L + 1) = R
  bL : 0 ≤ L ∧ L + 1 < 1000 ∧ L + 1 < x.length
  bR : 0 < R ∧ R - 1 < 1000 ∧ R - 1 < x.length
  i1 : Txt.item x (L + 1) = y
  i2 : Txt.item x (R - 1) = y
  sl : Txt.slice x (some (L + 1)) (some R) = z
  lz : z.length ≤ 1000
  ly : (y.length == 0) = false
  ps : Txt.split z y = [p0, p1, p2, p3, p4]
  nm : PySem.intText? p3 = some k ∧ p3.length ≤ 640
theorem not_ne_self {y : Str} : (y != y) = false := by simp
set_option maxRecDepth 100000 in
set_option maxHeartbeats 8000000 in
theorem c_parse_ok (w : World) (pg : Program) (lo : List Str) (mean : ExcName → Option Value) (mg mb : Str → Option Value) (x : Str) (t u : Tok) (D P : Addr) (c : Int) (n : Nat) (news : List (Addr × Obj)) (hl : x.length ≤ 200) {lL R k : Int} {y z p0 p1 p2 p3 p4 : Str} (ok : ParseOk x lL R k y z p0 p1 p2 p3 p4) :
    Ctr w pg lo mean mg mb 1 79 [.str x t, .ref D] ((D, { cls := .type "tuple", data := .seq #[.ref P, .int c u] n }) :: news)
      (fun h₀ L m s Q => ∀ D' t1 c1 h' tk', Fr h₀ L h' m → News h₀ L h' ((D', ({ cls := .type "tuple", data := .seq #[.ref P, .int k t1] c1 } : Obj)) :: (D, { cls := .type "tuple", data := .seq #[.ref P, .int c u] n }) :: news) → (D < D' ∧ AllLt D' news) → Q (.ref D') { s with heap := h', toks := tk' }) := by
  k_with_none
  k_with "c_enter" => (
  have hx := fillK
  revert hx
  k_fill
  intro hx; clear hx
  intro dp un gd cn cs a ccd cl outer A₀ base h₀ L m s Q E B F X N T hk hd hu hret
  refine wpAny_call ?_
  k_dflt cell_enter)
  k_with "call builtin:str.find" => (k_here; k_dflt (first | (refine' find_is (Flt.Hid.out f2) ?_) | (refine' find3_is (Flt.Hid.out f3) ?_)))
  k_with "subscriptTail Name BinOp str int" => (k_here; k_dflt (first | (refine' item_is (Flt.Hid.out bL).1 (Flt.Hid.out bL).2.1 (Flt.Hid.out bL).2.2 (Flt.Hid.out i1) ?_) | (refine' item_is (Flt.Hid.out bR).1 (Flt.Hid.out bR).2.1 (Flt.Hid.out bR).2.2 (Flt.Hid.out i2) ?_)))
  k_with "call builtin:str.split" => (k_here; k_dflt (refine' split_is ?F1 ?N1 (Flt.Hid.out ly) (Flt.Hid.out ps) (Flt.Hid.out lz) ?_; (case F1 => k_asm); (case N1 => k_asm); k_whole; intro D5 t0 t1 t2 t3 t4 h' k' F' N' l1; (try k_lt l1)))
  k_with "call type:int" => (k_here; k_dflt (refine' KIN.call_text (Flt.Hid.out nm).1 (Flt.Hid.out nm).2 ?_))
  have f1 := ok.h1
  have f2 := Flt.Hid.mk ok.h2
  have f3 := Flt.Hid.mk ok.h3
  have bL : Flt.Hid (0 ≤ lL + 1 ∧ lL + 1 < 10000 ∧ lL + 1 < x.length) := Flt.Hid.mk ⟨by have := ok.bL.1; omega, by have := ok.bL.2.1; omega, ok.bL.2.2⟩
  have bR : Flt.Hid (0 ≤ R - 1 ∧ R - 1 < 10000 ∧ R - 1 < x.length) := Flt.Hid.mk ⟨by have := ok.bR.1; omega, by have := ok.bR.2.1; omega, ok.bR.2.2⟩
  have bl0 := ok.bL.1
  have br0 := ok.bR.1
  have i1 := Flt.Hid.mk ok.i1
  have i2 := Flt.Hid.mk ok.i2
  have nn := not_ne_self (y := y)
  have ly := Flt.Hid.mk ok.ly
  have lz := Flt.Hid.mk (by rw [ok.sl]; exact ok.lz : (Txt.slice x (some (lL + 1)) (some R)).length ≤ 1000)
  have ps := Flt.Hid.mk (by rw [ok.sl]; exact ok.ps : Txt.split (Txt.slice x (some (lL + 1)) (some R)) y = [p0, p1, p2, p3, p4])
  have nm := Flt.Hid.mk ok.nm
  clear ok
  walk_at "c_enter"
  k_steps
  refine' hret _ _ _ _ _ ?f (kst_newsOf ?n (List.forall_mem_cons.mpr ⟨?m, ?mt⟩)) ?l
  case f => assumption
  case n => assumption
  case m => k_mem
  case mt => (intro p hp; repeat (first | exact hp | refine List.Mem.tail _ ?_))
  case l => (rename (_ < _ ∧ _ < _ ∧ AllLt _ _) => hz; exact hz.2)

theorem c_parse_ok' {w : World} {pg : Program} {lo : List Str} {mean : ExcName → Option Value} {mg mb : Str → Option Value} {x : Str} {t u : Tok} {D P : Addr} {c : Int} {n : Nat} {news : List (Addr × Obj)} (hl : x.length ≤ 200) {lL R k : Int} {y z p0 p1 p2 p3 p4 : Str} (ok : ParseOk x lL R k y z p0 p1 p2 p3 p4)
    (hm : (D, ({ cls := .type "tuple", data := .seq #[.ref P, .int c u] n } : Obj)) ∈ news) :
    Ctr w pg lo mean mg mb 1 79 [.str x t, .ref D] news
      (fun h₀ L m s Q => ∀ D' t1 c1 h' tk', Fr h₀ L h' m → News h₀ L h' ((D', ({ cls := .type "tuple", data := .seq #[.ref P, .int k t1] c1 } : Obj)) :: news) → AllLt D' news → Q (.ref D') { s with heap := h', toks := tk' }) := by
  intro dp un gd cn cs a ccd cl outer A₀ base h₀ L m s Q E B F X N T hk hd hu hret
  refine c_parse_ok w pg lo mean mg mb x t u D P c n news hl ok dp un gd cn cs a ccd cl outer A₀ base h₀ L m s Q E B F X ?_ T hk hd hu ?_
  · intro p hp
    rcases List.mem_cons.mp hp with rfl | hp
    · exact N _ hm
    · exact N _ hp
  · intro D' t1 c1 h' tk' F' N' l
    refine hret D' t1 c1 h' tk' F' (fun p hp => ?_) l.2
    rcases List.mem_cons.mp hp with rfl | hp
    · exact N' _ (.head _)
    · exact N' _ (.tail _ (.tail _ hp))
theorem len_vs {prog : Program} {w : World} {A : Around} {E : Value → Shared → Prop} {s : Shared} {l : Addr} {vs : List Value} {n : Nat} {Q : Value → Shared → Prop} (hv : vs.length = n) (hl : s.heap.IsList l vs.toArray) (hz : n ≤ 1000) (h : Q (.int (n : Int) (s.toks + 1)) { s with toks := s.toks + 1 + 1 }) :
    wpAny (model prog w) A (call (.builtin "len") [.ref l]) Q E s :=
  kun_lenL hl (by rw [List.size_toArray, hv]) (by omega) h
structure ParseBad (x : Str) (L R : Int) (n : Nat) (y z : Str) : Prop where
  h1 : (Txt.slice x none (some 3) != Str.ofString "229") = false
  h2 : Txt.find x (Str.ofString "(") = L
  h3 : Txt.find3 x (Str.ofString ")") (L + 1) = R
  bL : 0 ≤ L ∧ L + 1 < 1000 ∧ L + 1 < x.length
  bR : 0 < R ∧ R - 1 < 1000 ∧ R - 1 < x.length
  i1 : Txt.item x (L + 1) = y
  i2 : Txt.item x (R - 1) = y
  sl : Txt.slice x (some (L + 1)) (some R) = z
  lz : z.length ≤ 1000
  ly : (y.length == 0) = false
  ps : (Txt.split z y).length = n
  nn : n ≠ 5 ∧ n ≤ 1000
set_option maxRecDepth 100000 in
set_option maxHeartbeats 8000000 in
theorem c_parse_bad (w : World) (pg : Program) (lo : List Str) (mean : ExcName → Option Value) (mg mb : Str → Option Value) (x : Str) (t u : Tok) (D : Addr) (news : List (Addr × Obj)) (hl : x.length ≤ 200) {lL R : Int} {n5 : Nat} {y z : Str} (ok : ParseBad x lL R n5 y z) :
   ∀ (dp un : Nat) (gd : Option (List Code)) (cn : Str) (cs : Scope) (a : Addr) (ccd : Value) (cl : List (Str × Addr)) (outer : List Env) (A₀ : Around) (base h₀ : Heap) (L : Addr) (m : Str → Option Value) (s : Shared) (Q E : Value → Shared → Prop),
    Below A₀ base outer h₀ → Fr h₀ L s.heap m → (hd.heap_39 w.params).In h₀ → News h₀ L s.heap news → Top pg lo mean mg mb h₀ → cs.kind = .function →
    dp + 1 < recursionLimit → un + 8 * 1 < cLine →
    (∀ e g h' tk' t' D5 o5, Fr h₀ L g m → Top pg lo mean mg mb g → g.UpToSlots h' → RaisedK base (envX cn cs L a ccd cl :: outer) e (.ref 70) t' [.str x t] ((D5, o5) :: news) h' → E (.ref e) { s with heap := h', toks := tk' }) →
      wpAny (model PySem.Challenge.rw_wu0055_01.row.prog w) (ktrTop dp un gd cn cs L a ccd cl outer) (call (.ref 79) [.str x t, .ref D]) Q E s := by
  k_with_none
  k_with "c_enter" => (
  have hx := fillK
  revert hx
  k_fill
  intro hx; clear hx
  intro dp un gd cn cs a ccd cl outer A₀ base h₀ L m s Q E B F X N T hk hd hu hret
  refine wpAny_call ?_
  k_dflt cell_enter)
  k_with "call builtin:str.find" => (k_here; k_dflt (first | (refine' find_is (Flt.Hid.out f2) ?_) | (refine' find3_is (Flt.Hid.out f3) ?_)))
  k_with "subscriptTail Name BinOp str int" => (k_here; k_dflt (first | (refine' item_is (Flt.Hid.out bL).1 (Flt.Hid.out bL).2.1 (Flt.Hid.out bL).2.2 (Flt.Hid.out i1) ?_) | (refine' item_is (Flt.Hid.out bR).1 (Flt.Hid.out bR).2.1 (Flt.Hid.out bR).2.2 (Flt.Hid.out i2) ?_)))
  k_with "call builtin:str.split" => (k_here; k_dflt (refine' split_is ?F1 ?N1 (Flt.Hid.out ly) (Flt.Hid.out ps) (Flt.Hid.out lz) ?_; (case F1 => k_asm); (case N1 => k_asm); k_whole; intro D5 t0 t1 t2 t3 t4 h' k' F' N' l1; (try k_lt l1)))
  k_with "call type:int" => (k_here; k_dflt (refine' KIN.call_text (Flt.Hid.out nm).1 (Flt.Hid.out nm).2 ?_))
  k_with "call builtin:str.split" => (k_here; k_dflt (refine' split_no ?F1 ?N1 (Flt.Hid.out ly) (Flt.Hid.out ps) (Flt.Hid.out lz) ?_; (case F1 => k_asm); (case N1 => k_asm); k_whole; intro D5 vs h' k' hv5 F' N' l1; (try k_lt l1)))
  k_with "call builtin:len" => (k_here; k_dflt (refine' len_vs hv5 ?l n5b ?_; (case l => exact News.isList (by k_asm) (by k_mem)); k_whole))
  have f1 := ok.h1
  have f2 := Flt.Hid.mk ok.h2
  have f3 := Flt.Hid.mk ok.h3
  have bL : Flt.Hid (0 ≤ lL + 1 ∧ lL + 1 < 10000 ∧ lL + 1 < x.length) := Flt.Hid.mk ⟨by have := ok.bL.1; omega, by have := ok.bL.2.1; omega, ok.bL.2.2⟩
  have bR : Flt.Hid (0 ≤ R - 1 ∧ R - 1 < 10000 ∧ R - 1 < x.length) := Flt.Hid.mk ⟨by have := ok.bR.1; omega, by have := ok.bR.2.1; omega, ok.bR.2.2⟩
  have bl0 := ok.bL.1
  have br0 := ok.bR.1
  have i1 := Flt.Hid.mk ok.i1
  have i2 := Flt.Hid.mk ok.i2
  have nn := not_ne_self (y := y)
  have ly := Flt.Hid.mk ok.ly
  have lz := Flt.Hid.mk (by rw [ok.sl]; exact ok.lz : (Txt.slice x (some (lL + 1)) (some R)).length ≤ 1000)
  have ps := Flt.Hid.mk (by rw [ok.sl]; exact ok.ps : (Txt.split (Txt.slice x (some (lL + 1)) (some R)) y).length = n5)
  have n5a := ok.nn.1
  have n5b := ok.nn.2
  have n5c : ((n5 : Int) != 5) = true := by rw [bne_iff_ne]; omega
  clear ok
  walk_at "c_enter"
  k_steps
  refine' hret _ _ _ _ _ _ _ ?f ?t ?u ?r
  case f => assumption
  case t => assumption
  case u => assumption
  case r => assumption
end Mine
end
section
open PySem PySem.W PyProof.Rows PySem.Calls PySem.Spec
set_option linter.unusedVariables false
namespace Mine
noncomputable abbrev markMap (m₀ : Str → Option Value) (u1 u2 u3 u4 u5 u6 u7 : Option Value) : Str → Option Value :=
  fun y => if y = Str.ofString "mark" then u1 else if y = Str.ofString "reply" then u2 else if y = Str.ofString "host" then u3 else if y = Str.ofString "port" then u4 else if y = Str.ofString "told" then u5 else if y = Str.ofString "fault" then u6 else if y = Str.ofString "due" then u7 else m₀ y
noncomputable def MarkJ (m₀ : Str → Option Value) (news : List (Addr × Obj)) (_i : Nat) (m : Str → Option Value) (nx : List (Addr × Obj)) : Prop :=
  (∃ u1 u2 u3 u4 u5 u6 u7 : Option Value, m = markMap m₀ u1 u2 u3 u4 u5 u6 u7) ∧ nx = news
section
variable {prog : Program} {w : World} {A : Around} {E : Value → Shared → Prop} {s : Shared} {env : Env} {h₀ : Heap} {body : List Stmt} {Q : Flow → Shared → Prop}
theorem mark_iter {tx : Tok} {m₀ : Str → Option Value} {news : List (Addr × Obj)}
    (hh : A.handled = none) (F : Fr h₀ env.locals s.heap m₀) (N : News h₀ env.locals s.heap news)
    (turn : ∀ (i n : Nat) t (u2 u3 u4 u5 u6 u7 : Option Value) h tk own, (n = 60 ∨ n = 61 ∨ n = 62) → OwnOff own (news.map (·.1)) →
      Fr h₀ env.locals h (markMap m₀ (some (.str ⟨#[n]⟩ t)) u2 u3 u4 u5 u6 u7) → News h₀ env.locals h (news ++ own) →
      wpAny (model prog w) A (execs body env) (InvPostG h₀ env.locals (MarkJ m₀ news (i + 1)) own { s with heap := h, toks := tk } Q) E { s with heap := h, toks := tk })
    (done : ∀ (u1 u2 u3 u4 u5 u6 u7 : Option Value) h tk, Fr h₀ env.locals h (markMap m₀ u1 u2 u3 u4 u5 u6 u7) → News h₀ env.locals h news → Q .next { s with heap := h, toks := tk }) :
    wpAny (model prog w) A (pyIter (.str (Str.ofString "<=>") tx)) (fun it s₂ => LoopAtV prog w A h₀ env (Str.ofString "mark") body Q E it s₂) E s := by
  refine str_iter (MarkJ m₀ news) hh F N ⟨⟨m₀ (Str.ofString "mark"), m₀ (Str.ofString "reply"), m₀ (Str.ofString "host"), m₀ (Str.ofString "port"), m₀ (Str.ofString "told"), m₀ (Str.ofString "fault"), m₀ (Str.ofString "due"), ?_⟩, rfl⟩ ?_ ?_
  · funext y
    unfold markMap
    repeat' split
    all_goals first | rfl | (rename_i e; rw [e])
  · rintro i n t m₁ nx h tk own hn hoff ⟨⟨u1, u2, u3, u4, u5, u6, u7, rfl⟩, rfl⟩ F₁ N₁
    have h3 : n = 60 ∨ n = 61 ∨ n = 62 := by
      have e : (Str.ofString "<=>").cps = #[60, 61, 62] := by decide +kernel
      rw [e] at hn
      match i, hn with
      | 0, hn => exact .inl (by simpa using hn.symm)
      | 1, hn => exact .inr (.inl (by simpa using hn.symm))
      | 2, hn => exact .inr (.inr (by simpa using hn.symm))
      | i + 3, hn => simp at hn
    have em : (fun y => if y = Str.ofString "mark" then some (Value.str ⟨#[n]⟩ t) else markMap m₀ u1 u2 u3 u4 u5 u6 u7 y) = markMap m₀ (some (.str ⟨#[n]⟩ t)) u2 u3 u4 u5 u6 u7 := by
      funext y
      unfold markMap
      split <;> rfl
    rw [em] at F₁
    exact turn i n t u2 u3 u4 u5 u6 u7 h tk own h3 hoff F₁ N₁
  · rintro m₁ nx h tk ⟨⟨u1, u2, u3, u4, u5, u6, u7, rfl⟩, rfl⟩ F₁ N₁
    exact done u1 u2 u3 u4 u5 u6 u7 h tk F₁ N₁
end
theorem mark_end {h₀ : Heap} {L : Addr} {m₀ : Str → Option Value} {news own : List (Addr × Obj)} {i : Nat} {s₁ : Shared} {h' : Heap} {tk : Nat} {m' : Str → Option Value} {news' : List (Addr × Obj)}
    (F : Fr h₀ L h' m') (N : News h₀ L h' news') (hm : ∀ y, y ≠ Str.ofString "mark" → y ≠ Str.ofString "reply" → y ≠ Str.ofString "host" → y ≠ Str.ofString "port" → y ≠ Str.ofString "told" → y ≠ Str.ofString "fault" → y ≠ Str.ofString "due" → m' y = m₀ y)
    (ho : OwnOff own (news.map (·.1))) (hs : ∀ p ∈ news ++ own, p ∈ news') :
    InvEndG h₀ L (MarkJ m₀ news (i + 1)) own s₁ { s₁ with heap := h', toks := tk } := by
  refine InvEndG.intro F N ⟨⟨m' (Str.ofString "mark"), m' (Str.ofString "reply"), m' (Str.ofString "host"), m' (Str.ofString "port"), m' (Str.ofString "told"), m' (Str.ofString "fault"), m' (Str.ofString "due"), ?_⟩, rfl⟩ ho (fun p hp => hs p (List.mem_append.mpr (.inl hp))) (fun p hp => hs p (List.mem_append.mpr (.inr hp)))
  funext y
  unfold markMap
  by_cases h1 : y = Str.ofString "mark"
  · rw [if_pos h1, h1]
  by_cases h2 : y = Str.ofString "reply"
  · rw [if_neg h1, if_pos h2, h2]
  by_cases h3 : y = Str.ofString "host"
  · rw [if_neg h1, if_neg h2, if_pos h3, h3]
  by_cases h4 : y = Str.ofString "port"
  · rw [if_neg h1, if_neg h2, if_neg h3, if_pos h4, h4]
  by_cases h5 : y = Str.ofString "told"
  · rw [if_neg h1, if_neg h2, if_neg h3, if_neg h4, if_pos h5, h5]
  by_cases h6 : y = Str.ofString "fault"
  · rw [if_neg h1, if_neg h2, if_neg h3, if_neg h4, if_neg h5, if_pos h6, h6]
  by_cases h7 : y = Str.ofString "due"
  · rw [if_neg h1, if_neg h2, if_neg h3, if_neg h4, if_neg h5, if_neg h6, if_pos h7, h7]
  rw [if_neg h1, if_neg h2, if_neg h3, if_neg h4, if_neg h5, if_neg h6, if_neg h7]
  exact hm y h1 h2 h3 h4 h5 h6 h7
end Mine
end
section
open PySem PySem.W PyProof.Rows PySem.Calls PySem.Spec
set_option linter.unusedVariables false
namespace Mine
section
variable {prog : Program} {w : World} {A₀ : Around} {E : Value → Shared → Prop} {s' : Shared} {h₀ h : Heap} {outer : List Env} {L a e t : Addr} {m : Str → Option Value} {name : Str} {scope : Scope} {cd : Value} {cl : List (Str × Addr)}
  {vs : List Value} {n : Str} {b₀ : Stmt} {suite : List Stmt} {pos np : Pos} {rest : List ExceptHandler} {Q : Flow → Shared → Prop} {news : List (Addr × Obj)} {KF : Frag} {C : Addr} {bmB : List Value} {newId : String}
  {p : Program} {loose : List Str} {mean : ExcName → Option Value} {mg mb : Str → Option Value} {x : Str}
/-- a class of the file, caught with a name, in a frame that has cells -/
theorem caught_cell (K : Below A₀ h₀ outer h₀) (F : Fr h₀ L h m) (hsm : h.UpToSlots s'.heap) (R : RaisedK h₀ (envX name scope L a cd cl :: outer) e (.ref C) t vs news s'.heap)
    (X : KF.In h₀) (T : TopRead p loose mg mb h₀) (ex : nsIn KF mainGlobals x = some (some (.ref C))) (q : excIn KF C bmB newId = true) (hbase : bmB.contains (.type "BaseException") = true)
    (k : ∀ h' news₂ tk, Fr h₀ L h' (fun y => if y = n then some (.ref e) else m y) → News h₀ L h' news₂ → Got news₂ e t (.ref C) vs → News h₀ L h' news →
      wpAny (model prog w) ((A₀.deeper (envX name scope L a cd cl)).mark (some (.ref e))) (execs (b₀ :: suite) (envX name scope L a cd cl))
        (fun f s₄ => wpAny (model prog w) (A₀.deeper (envX name scope L a cd cl)) (do bindName (envX name scope L a cd cl) n .none; unbindBehindTheSuite (envX name scope L a cd cl) n pos) (fun _ s₅ => Q f s₅) E s₄)
        (AsSuiteRaised (model prog w) ((A₀.deeper (envX name scope L a cd cl)).mark (some (.ref e))) (envX name scope L a cd cl) n pos (notedBy (model prog w) ((A₀.deeper (envX name scope L a cd cl)).mark (some (.ref e))) (envX name scope L a cd cl) (cameBackBy (model prog w) (A₀.deeper (envX name scope L a cd cl)) (envX name scope L a cd cl) E)))
        { s' with heap := h', toks := tk })
    (hk : scope.kind = .function := by rfl) (hlo : (envX name scope L a cd cl).kindOf n = some .local := by rfl) (hx : (envX name scope L a cd cl).kindOf x = some .globalImplicit := by rfl) (hd : (x == ("__debug__" : Str)) = false := by decide) :
    wpAny (model prog w) (A₀.deeper (envX name scope L a cd cl)) (noteFrame (.ref e) (envX name scope L a cd cl))
      (fun _ s₂ => wpAny (model prog w) (A₀.deeper (envX name scope L a cd cl)) (setFlight (.ref e) none) (fun _ s₃ =>
        wpAny (model prog w) (A₀.deeper (envX name scope L a cd cl)) (handleBy (.ref e) (envX name scope L a cd cl) (.ExceptHandler (some (.Name x np)) (some n) (b₀ :: suite) pos :: rest)) Q E s₃) E s₂) E s' := by
  obtain ⟨⟨B, hB, held, fly, freshT⟩, tup⟩ := R
  have freshL : B.get? L = none := by
    obtain ⟨_, ⟨L', _, hf, hn', _⟩, _⟩ := fly.2.2.1
    obtain rfl : L = L' := Option.some.inj hf
    exact hn'
  refine wpAny_looks_onW (Around.frames_deeper K.stack) rfl fly fun h₁ held₁ up₁ => ?_
  refine wpAny_landsW held₁ fun h₂ fly₂ up₂ => ?_
  have up₁₂ := up₁.trans up₂
  have base₂ := flyingW_base hB fly₂
  have F₂ := F.of_stays base₂.1 (hsm.trans up₁₂)
  obtain ⟨ob, hob, hobc⟩ := base₂.there
  refine wpAny_handleBy_cons (codeAny_handlers_test (nameX_K F₂ X T ex ?_ hk hx hd)) (by intro q; cases q)
  obtain ⟨_, _, _, _, _, _, _, _, _, _, _, _, _, _, _, _, _, hC, _, _, TL⟩ := ((own_of_in X T ex q).keeps F₂.keep).obj
  refine wpAny_excMatches_sub_self hC hob hobc (TL.hasType hbase) (codeAny_handlers_suite_as ?_)
  refine lands_againW fly₂ fun h₃ fly₃ up₃ => ?_
  have base₃ := flyingW_base hB fly₃
  have F₃ := F.of_stays base₃.1 ((hsm.trans up₁₂).trans up₃)
  obtain ⟨oe, ws, hoe, hoec, hoed, hoe0⟩ := base₃.first
  obtain ⟨ot, nt, hot, hotc, hotd⟩ := (tup.of_slots up₁₂).of_slots up₃
  have Ng := News.more F₃ (News.more F₃ News.nil hot (fun es n q => by rw [hotd] at q; cases q) (fresh_of_stays hB freshT)) hoe (fun es n q => by rw [hoed] at q; cases q) base₃.2.1
  have Nl : News h₀ L h₃ news := fun q hq => ⟨fly₃.1 _ _ (held q hq).1, (fun z => by have := (held q hq).1; rw [z, freshL] at this; cases this), (held q hq).2⟩
  refine storeX_L F₃ (news := _ ++ news) (fun q hq => (List.mem_append.mp hq).elim (Ng q) (Nl q)) (fun h₄ F₄ N₄ => ?_) hk hlo
  exact k h₄ _ _ F₄ (fun q hq => N₄ q (List.mem_append_left _ hq)) ⟨oe, ot, ws, nt, .head _, .tail _ (.head _), hoec, hoed, hoe0, hotc, hotd⟩ fun q hq => N₄ q (List.mem_append_right _ hq)
end
end Mine
end
section
open PySem PySem.W PyProof.Rows PySem.Calls PySem.Spec PySem.SeqAt
set_option linter.unusedVariables false
namespace Mine
section
variable {prog : Program} {w : World} {A : Around} {E : Value → Shared → Prop} {s : Shared} {Q : Value → Shared → Prop}
theorem ne_three {l b : Addr} {x y : Str} {i j : Int} {p : Bool} {a1 a2 b1 b2 : Tok} {n n2 : Nat} {news : List (Addr × Obj)} {h₀ : Heap} {L : Addr} (N : News h₀ L s.heap news)
    (hl : (l, W.listOf #[.str x a1, .int i a2, .bool p] n) ∈ news) (hb : (b, W.listOf #[.str y b1, .int j b2, .bool p] n2) ∈ news)
    (hx : x = y) (hi : i = j) (hu : A.units < cLine) (h : Q (.bool false) s) : wpAny (model prog w) A (compareOp .NotEq (.ref l) (.ref b)) Q E s := by
  subst hx hi
  have h1 : s.heap.IsList l #[.str x a1, .int i a2, .bool p] := ⟨_, (N _ hl).1, rfl, n, rfl⟩
  have h2 : s.heap.IsList b #[.str x b1, .int i b2, .bool p] := ⟨_, (N _ hb).1, rfl, n2, rfl⟩
  refine RcNeAt.lists (A := A) (s := s) (e := fun _ => true) h1 h2 rfl hu ?_ prog w E Q h
  intro m m1 m2
  match m, m1, m2 with
  | 0, _, _ => exact (by simpa using EqAt.str_str (A := A.in1) (s := s) x a1 x b1)
  | 1, _, _ => exact (by simpa using EqAt.int_int (A := A.in1) (s := s) i a2 i b2)
  | 2, _, _ => exact (by simpa using EqAt.bool_bool (A := A.in1) (s := s) p p)
  | m + 3, h5, _ => exact absurd h5 (by simp)
theorem ne_one {l b : Addr} {x y : Str} {a1 b1 : Tok} {n n2 : Nat} {news : List (Addr × Obj)} {h₀ : Heap} {L : Addr} (N : News h₀ L s.heap news)
    (hl : (l, W.listOf #[.str x a1] n) ∈ news) (hb : (b, W.listOf #[.str y b1] n2) ∈ news)
    (hx : x = y) (hu : A.units < cLine) (h : Q (.bool false) s) : wpAny (model prog w) A (compareOp .NotEq (.ref l) (.ref b)) Q E s := by
  subst hx
  have h1 : s.heap.IsList l #[.str x a1] := ⟨_, (N _ hl).1, rfl, n, rfl⟩
  have h2 : s.heap.IsList b #[.str x b1] := ⟨_, (N _ hb).1, rfl, n2, rfl⟩
  refine RcNeAt.lists (A := A) (s := s) (e := fun _ => true) h1 h2 rfl hu ?_ prog w E Q h
  intro m m1 m2
  match m, m1, m2 with
  | 0, _, _ => exact (by simpa using EqAt.str_str (A := A.in1) (s := s) x a1 x b1)
  | m + 1, h5, _ => exact absurd h5 (by simp)
end
noncomputable abbrev replyOf (wy bk ns : Str) (n : Nat) : Str := Str.ofString "229 " ++ wy ++ Str.ofString " (" ++ ⟨#[n]⟩ ++ wy ++ ⟨#[n]⟩ ++ bk ++ ⟨#[n]⟩ ++ ns ++ ⟨#[n]⟩ ++ Str.ofString ")"
noncomputable def POk (x : Str) (k : Int) : Prop := x.length ≤ 200 ∧ ∃ L R y z p0 p1 p2 p3 p4, ParseOk x L R k y z p0 p1 p2 p3 p4
noncomputable def PBad (x : Str) : Prop := x.length ≤ 200 ∧ ∃ L R n y z, ParseBad x L R n y z
noncomputable def MarkCase (n : Nat) (P Q k : Int) (x : Str) : Prop :=
  (n = 61 ∧ POk x k) ∨ (n = 62 ∧ (P == 1) = true ∧ POk x k) ∨ (n = 62 ∧ (P == 1) = false ∧ PBad x) ∨ (n = 60 ∧ (Q - P == 1) = true ∧ POk x k) ∨ (n = 60 ∧ (Q - P == 1) = false ∧ PBad x)
theorem str_append_assoc (a b c : Str) : a ++ b ++ c = a ++ (b ++ c) := by
  cases a; cases b; cases c
  show Str.mk _ = Str.mk _
  congr 1
  exact Array.append_assoc
theorem text_assoc {cs wy : Str} : Str.ofString "{" ++ cs ++ Str.ofString "}" ++ (wy ++ Str.ofString "=") = Str.ofString "{" ++ cs ++ Str.ofString "}" ++ wy ++ Str.ofString "=" := (str_append_assoc _ _ _).symm
theorem eq61 : (({ cps := #[61] } : Str) == Str.ofString "=") = true := by decide +kernel
theorem eq60 : (({ cps := #[60] } : Str) == Str.ofString "=") = false := by decide +kernel
theorem eq62 : (({ cps := #[62] } : Str) == Str.ofString "=") = false := by decide +kernel
theorem gt60 : (({ cps := #[60] } : Str) == Str.ofString ">") = false := by decide +kernel
theorem gt62 : (({ cps := #[62] } : Str) == Str.ofString ">") = true := by decide +kernel
theorem lt60 : (({ cps := #[60] } : Str) == Str.ofString "<") = true := by decide +kernel
theorem lt62 : (({ cps := #[62] } : Str) == Str.ofString "<") = false := by decide +kernel
end Mine
end
section
open PySem PySem.W PyProof.Rows PySem.Calls PySem.Spec
set_option linter.unusedVariables false
namespace Mine
noncomputable def pHead (x : Str) (L R : Int) (y z : Str) : Bool :=
  decide (x.length ≤ 200) && !(Txt.slice x none (some 3) != Str.ofString "229") && decide (0 ≤ L ∧ L + 1 < 1000 ∧ L + 1 < x.length) && decide (0 < R ∧ R - 1 < 1000 ∧ R - 1 < x.length) &&
  decide (Txt.item x (R - 1) = y) && decide (z.length ≤ 1000) && !(y.length == 0)
noncomputable def pParts (k : Int) : List Str → Bool
  | [_, _, _, p3, _] => decide (PySem.intText? p3 = some k) && decide (p3.length ≤ 640)
  | _ => false
noncomputable def pOkB (x : Str) (k : Int) : Bool :=
  pHead x (Txt.find x (Str.ofString "(")) (Txt.find3 x (Str.ofString ")") (Txt.find x (Str.ofString "(") + 1)) (Txt.item x (Txt.find x (Str.ofString "(") + 1))
    (Txt.slice x (some (Txt.find x (Str.ofString "(") + 1)) (some (Txt.find3 x (Str.ofString ")") (Txt.find x (Str.ofString "(") + 1)))) &&
  pParts k (Txt.split (Txt.slice x (some (Txt.find x (Str.ofString "(") + 1)) (some (Txt.find3 x (Str.ofString ")") (Txt.find x (Str.ofString "(") + 1)))) (Txt.item x (Txt.find x (Str.ofString "(") + 1)))
noncomputable def pBadB (x : Str) : Bool :=
  pHead x (Txt.find x (Str.ofString "(")) (Txt.find3 x (Str.ofString ")") (Txt.find x (Str.ofString "(") + 1)) (Txt.item x (Txt.find x (Str.ofString "(") + 1))
    (Txt.slice x (some (Txt.find x (Str.ofString "(") + 1)) (some (Txt.find3 x (Str.ofString ")") (Txt.find x (Str.ofString "(") + 1)))) &&
  decide ((Txt.split (Txt.slice x (some (Txt.find x (Str.ofString "(") + 1)) (some (Txt.find3 x (Str.ofString ")") (Txt.find x (Str.ofString "(") + 1)))) (Txt.item x (Txt.find x (Str.ofString "(") + 1))).length ≠ 5 ∧
    (Txt.split (Txt.slice x (some (Txt.find x (Str.ofString "(") + 1)) (some (Txt.find3 x (Str.ofString ")") (Txt.find x (Str.ofString "(") + 1)))) (Txt.item x (Txt.find x (Str.ofString "(") + 1))).length ≤ 1000)
theorem pOk_of {x : Str} {k : Int} (h : pOkB x k = true) : POk x k := by
  unfold pOkB at h
  rw [Bool.and_eq_true] at h
  obtain ⟨h1, h2⟩ := h
  unfold pHead at h1
  simp only [Bool.and_eq_true, decide_eq_true_eq, Bool.not_eq_true'] at h1
  obtain ⟨⟨⟨⟨⟨⟨a1, a2⟩, a3⟩, a4⟩, a5⟩, a6⟩, a7⟩ := h1
  unfold pParts at h2
  split at h2
  · rename_i p0 p1 p2 p3 p4 e
    simp only [Bool.and_eq_true, decide_eq_true_eq] at h2
    exact ⟨a1, _, _, _, _, p0, p1, p2, p3, p4, a2, rfl, rfl, a3, a4, rfl, a5, rfl, a6, a7, e, h2⟩
  · cases h2
theorem pBad_of {x : Str} (h : pBadB x = true) : PBad x := by
  unfold pBadB at h
  rw [Bool.and_eq_true] at h
  obtain ⟨h1, h2⟩ := h
  unfold pHead at h1
  simp only [Bool.and_eq_true, decide_eq_true_eq, Bool.not_eq_true'] at h1
  obtain ⟨⟨⟨⟨⟨⟨a1, a2⟩, a3⟩, a4⟩, a5⟩, a6⟩, a7⟩ := h1
  exact ⟨a1, _, _, _, _, _, a2, rfl, rfl, a3, a4, rfl, a5, rfl, a6, a7, rfl, of_decide_eq_true h2⟩
noncomputable def markB (P Q k : Int) (x60 x61 x62 : Str) : Bool :=
  pOkB x61 k && (if P = 1 then pOkB x62 k else pBadB x62) && (if Q - P = 1 then pOkB x60 k else pBadB x60)
theorem mark_of {P Q k : Int} {f : Nat → Str} (h : markB P Q k (f 60) (f 61) (f 62) = true) : ∀ n, n = 60 ∨ n = 61 ∨ n = 62 → MarkCase n P Q k (f n) := by
  unfold markB at h
  simp only [Bool.and_eq_true] at h
  obtain ⟨⟨h1, h2⟩, h3⟩ := h
  rintro n (rfl | rfl | rfl)
  · split at h3
    · rename_i e
      exact .inr (.inr (.inr (.inl ⟨rfl, by rw [e]; rfl, pOk_of h3⟩)))
    · rename_i e
      exact .inr (.inr (.inr (.inr ⟨rfl, by rw [beq_eq_false_iff_ne]; exact e, pBad_of h3⟩)))
  · exact .inl ⟨rfl, pOk_of h1⟩
  · split at h2
    · rename_i e
      exact .inr (.inl ⟨rfl, by rw [e]; rfl, pOk_of h2⟩)
    · rename_i e
      exact .inr (.inr (.inl ⟨rfl, by rw [beq_eq_false_iff_ne]; exact e, pBad_of h2⟩))
noncomputable abbrev fP (cd : List Int) : Int := (frac cd).1
noncomputable abbrev fQ (cd : List Int) : Int := (frac cd).2
noncomputable abbrev fR (cd : List Int) : Int := (frac cd.reverse).1
noncomputable abbrev fS (cd : List Int) : Int := sawsOf (fP cd) (fQ cd)
noncomputable abbrev fK (cd : List Int) : Int := (3 * fS cd).fdiv (fQ cd)
noncomputable abbrev fN (cd : List Int) : Str := Str.ofString (toString (fK cd))
noncomputable abbrev XCof (cd : List Int) : Str := c14nOf (KStt.txt cd)
noncomputable abbrev XHof (cd : List Int) : Str := htmlOf (KStt.txt cd)
noncomputable def wayOk1 (cd : List Int) : Bool :=
  decide (∀ x ∈ cd, x = 60 ∨ x = 62) && decide (∀ x ∈ cd.reverse, x = 60 ∨ x = 62) && decide (revStr (KStt.txt cd) = KStt.txt cd.reverse) && decide ((KStt.txt cd).length ≤ 64) && decide ((KStt.txt cd.reverse).length ≤ 64) &&
  decide (fQ cd = (frac cd.reverse).2) && decide (0 < fP cd ∧ fP cd ≤ 64 ∧ 0 < fQ cd ∧ fQ cd ≤ 64) && decide (0 < fR cd ∧ fR cd ≤ 64) && decide (fP cd + (fQ cd - fP cd) ≤ 100 ∧ spellN 100 (fP cd) (fQ cd - fP cd) = KStt.txt cd) &&
  decide ((fP cd * fR cd).fmod (fQ cd) = 1)
noncomputable def wayOk2 (cd : List Int) : Bool :=
  decide (lacks (KStt.txt cd) (Str.ofString "&")) && decide (lacks (XCof cd) (Str.ofString "\"")) && decide (lacks (XCof cd) (Str.ofString "\t")) && decide (lacks (XCof cd) (Str.ofString "\n")) && decide (lacks (XCof cd) (Str.ofString "\r")) && decide (lacks (XHof cd) (Str.ofString "\"")) &&
  decide ((fK cd).natAbs < 2 ^ 64 ∧ (fN cd).length ≤ 30) && decide ((XCof cd).length ≤ 1000 ∧ (XHof cd).length ≤ 1000) &&
  decide (3 * fK cd = fQ cd * (((XCof cd).length : Int) - ((XHof cd).length : Int) - 3) + 3 * (fP cd + fR cd))
noncomputable def wayOk3 (cd : List Int) : Bool :=
  markB (fP cd) (fQ cd) (fK cd) (replyOf (KStt.txt cd) (KStt.txt cd.reverse) (fN cd) 60) (replyOf (KStt.txt cd) (KStt.txt cd.reverse) (fN cd) 61) (replyOf (KStt.txt cd) (KStt.txt cd.reverse) (fN cd) 62)
end Mine
end
section
open PySem PySem.W PyProof.Rows PySem.Calls PySem.Spec
set_option linter.unusedVariables false
namespace Mine
noncomputable def bitS (b : Nat) (k : Int) : Str := if Int.fmod (Int.fdiv (b : Int) (2 ^ k.toNat)) 2 = 1 then Str.ofString ">" else Str.ofString "<"
noncomputable def cdOf (l b : Nat) : List Int := (List.range l).map fun k => if b / 2 ^ k % 2 = 1 then 62 else 60
set_option maxRecDepth 20000 in
theorem ways_txt : ((List.range 7).all fun l => (List.range 64).all fun b => decide (Txt.join (Str.ofString "") ((rangeKs 0 l).map (bitS b)) = KStt.txt (cdOf l b)) && decide (cdOf l b ∈ ways l)) = true := by decide +kernel
theorem ways_sub {l : Nat} (h : l < 7) {cd : List Int} (hm : cd ∈ ways l) : cd ∈ allWays := by
  unfold allWays
  simp only [List.mem_append]
  match l, h with
  | 0, _ => exact .inl (.inl (.inl (.inl (.inl (.inl hm)))))
  | 1, _ => exact .inl (.inl (.inl (.inl (.inl (.inr hm)))))
  | 2, _ => exact .inl (.inl (.inl (.inl (.inr hm))))
  | 3, _ => exact .inl (.inl (.inl (.inr hm)))
  | 4, _ => exact .inl (.inl (.inr hm))
  | 5, _ => exact .inl (.inr hm)
  | 6, _ => exact .inr hm
theorem way_is {v : Int} (h0 : 0 ≤ v) (h1 : v < 2688) : ∃ cd, cd ∈ allWays ∧ wayOf v = KStt.txt cd := by
  have hl0 : 0 ≤ (v.fdiv 6).fmod 7 := Int.fmod_nonneg_of_pos _ (by decide)
  have hl1 : (v.fdiv 6).fmod 7 < 7 := Int.fmod_lt_of_pos _ (by decide)
  have hb : v.fdiv 42 = v / 42 := Int.fdiv_eq_ediv_of_nonneg _ (by decide)
  have hb0 : 0 ≤ v.fdiv 42 := by rw [hb]; omega
  have hb1 : v.fdiv 42 < 64 := by rw [hb]; omega
  obtain ⟨l, hl⟩ := Int.eq_ofNat_of_zero_le hl0
  obtain ⟨b, hbb⟩ := Int.eq_ofNat_of_zero_le hb0
  have hl7 : l < 7 := by omega
  have hb64 : b < 64 := by omega
  have h := List.all_eq_true.mp (List.all_eq_true.mp ways_txt l (List.mem_range.mpr hl7)) b (List.mem_range.mpr hb64)
  simp only [Bool.and_eq_true, decide_eq_true_eq] at h
  refine ⟨cdOf l b, ways_sub hl7 h.2, ?_⟩
  rw [← h.1]
  unfold wayOf
  have e : (((v.fdiv 6).fmod 7) - 0).toNat = l := by omega
  rw [e]
  have e2 : bitStr v = bitS b := by
    funext k
    unfold bitStr bitS
    rw [hbb]
  rw [e2]
noncomputable def toldAll : Prop := ∀ c < 6, ∀ cd ∈ allWays, toldIs c cd = true
noncomputable def wayAll : Prop := ∀ cd ∈ allWays, wayOk1 cd = true ∧ wayOk2 cd = true ∧ wayOk3 cd = true
theorem ways_rev : (allWays.all fun cd => allWays.contains cd.reverse) = true := by decide +kernel
theorem corner_txt : ((List.range 6).all fun c => decide ((Str.ofString (toString (c : Int))).length ≤ 8)) = true := by decide +kernel
theorem told_eq {c : Nat} {cd : List Int} (h : toldIs c cd = true) : told c cd = ⟨(told c cd).hue, 0x3ff0000000000000, (c : Int), fP cd, fQ cd⟩ := by
  unfold toldIs at h
  simp only [Bool.and_eq_true, beq_iff_eq] at h
  obtain ⟨⟨⟨⟨_, h1⟩, h2⟩, h3⟩, h4⟩ := h
  revert h1 h2 h3 h4
  generalize told c cd = t
  obtain ⟨a, b, d, e, f⟩ := t
  intro h1 h2 h3 h4
  dsimp only at h1 h2 h3 h4
  subst h1 h2 h3 h4
  rfl
theorem told_ok {c : Nat} {cd : List Int} (h : toldIs c cd = true) : toldOk c cd = true := by
  unfold toldIs at h
  simp only [Bool.and_eq_true, beq_iff_eq] at h
  exact h.1.1.1.1
theorem turn_facts' (TA : toldAll) (WA : wayAll) {v : Int} (h0 : 0 ≤ v) (h1 : v < 2688) : ∃ c cd, cd ∈ allWays ∧ TurnFacts v c cd (told c cd).hue (told c cd.reverse).hue (fP cd) (fQ cd) (fR cd) (fS cd) (XCof cd) (XHof cd) (Str.ofString (toString (c : Int))) (fN cd) ∧
    (∀ n, n = 60 ∨ n = 61 ∨ n = 62 → MarkCase n (fP cd) (fQ cd) (fK cd) (replyOf (KStt.txt cd) (KStt.txt cd.reverse) (fN cd) n)) := by
  obtain ⟨cd, hm, hw⟩ := way_is h0 h1
  have hc0 : 0 ≤ v.fmod 6 := Int.fmod_nonneg_of_pos _ (by decide)
  have hc1 : v.fmod 6 < 6 := Int.fmod_lt_of_pos _ (by decide)
  obtain ⟨c, hc⟩ := Int.eq_ofNat_of_zero_le hc0
  have hc6 : c < 6 := by omega
  have hmr : cd.reverse ∈ allWays := List.contains_iff_mem.mp (List.all_eq_true.mp ways_rev cd hm)
  obtain ⟨w1, w2, w3⟩ := WA cd hm
  have k1 := TA c hc6 cd hm
  have k2 := TA c hc6 cd.reverse hmr
  unfold wayOk1 at w1
  unfold wayOk2 at w2
  unfold wayOk3 at w3
  simp only [Bool.and_eq_true, decide_eq_true_eq] at w1 w2
  obtain ⟨⟨⟨⟨⟨⟨⟨⟨⟨a1, a2⟩, a3⟩, a4⟩, a5⟩, a6⟩, a7⟩, a8⟩, a9⟩, a10⟩ := w1
  obtain ⟨⟨⟨⟨⟨⟨⟨⟨b1, b2⟩, b3⟩, b4⟩, b5⟩, b6⟩, b7⟩, b8⟩, b9⟩ := w2
  have t2 := told_eq k2
  have e2 : fQ cd.reverse = fQ cd := a6.symm
  rw [e2] at t2
  refine ⟨c, cd, hm, ⟨hc6, hc, hw, a1, a2, a3, a4, a5, told_ok k1, told_ok k2, told_eq k1, t2, a7, a8, a9, a10, rfl, ⟨a4, b1, b2, b3, b4, b5, rfl⟩, ⟨a4, b1, b6, rfl⟩, ⟨rfl, ?_⟩, ⟨b7.1, rfl, b7.2⟩, b8, b9⟩, mark_of (f := replyOf (KStt.txt cd) (KStt.txt cd.reverse) (fN cd)) w3⟩
  exact of_decide_eq_true (List.all_eq_true.mp corner_txt c (List.mem_range.mpr hc6))
end Mine
end
section
open PySem PySem.W PyProof.Rows PySem.Calls PySem.Spec
set_option linter.unusedVariables false
namespace Mine
section
variable {prog : Program} {w : World} {A : Around} {E : Value → Shared → Prop} {s : Shared} {h₀ : Heap} {L D b : Addr} {m : Str → Option Value} {news news' : List (Addr × Obj)} {n n2 : Nat} {vs : List Value} {x y : Value}
theorem ext_two {Q : Value → Shared → Prop} (F : Fr h₀ L s.heap m) (N : News h₀ L s.heap news) (hb : (b, listOf #[x, y] n2) ∈ news) (hz : vs.length ≤ 100)
    (U : Upd D (listOf vs.toArray n) (listOf (vs ++ [x, y]).toArray (n + 1)) news news')
    (h : ∀ h', Fr h₀ L h' m → News h₀ L h' news' → Q .none { s with heap := h' }) : wpAny (model prog w) A (call (.builtin "list.extend") [.ref D, .ref b]) Q E s := by
  refine kl_extend (its := vs.toArray) (its2 := #[x, y]) F N hb rfl (Nat.succ_ne_zero _) U ?_ ?_ ?_ h
  · have hs : vs.toArray.size + #[x, y].size < 200 := by simp; omega
    generalize vs.toArray.size + #[x, y].size = k at hs
    unfold Builtin.List.listTooLong
    simp
    intro _
    rw [sizeLine_eq]
    omega
  · rw [sizeLine_eq]; simp; omega
  · rw [sizeLine_eq]; simp; omega
end
noncomputable abbrev nameObj (w : World) (d : Addr) (t : Str) (k1 k2 : Tok) : Addr × Obj := (d, dictOf [⟨PyData.keyHash w.params (Str.ofString "text"), .str (Str.ofString "text") k1, .str t k2⟩] 1)
theorem NamesIn.mono {w : World} {qs qs' : List (Addr × Obj)} (h : ∀ p ∈ qs, p ∈ qs') : ∀ {vs : List Value} {ts : List Str}, NamesIn w qs vs ts → NamesIn w qs' vs ts
  | [], [], _ => trivial
  | v :: vs, t :: ts, ⟨⟨q, d, tk, tk', e, m1, m2⟩, r⟩ => ⟨⟨q, d, tk, tk', e, h _ m1, h _ m2⟩, NamesIn.mono h r⟩
  | [], _ :: _, h => h.elim
  | _ :: _, [], h => h.elim
theorem NamesIn.app {w : World} {qs : List (Addr × Obj)} {us : List Value} {rs : List Str} (hr : NamesIn w qs us rs) : ∀ {vs : List Value} {ts : List Str}, NamesIn w qs vs ts → NamesIn w qs (vs ++ us) (ts ++ rs)
  | [], [], _ => hr
  | v :: vs, t :: ts, ⟨a, r⟩ => ⟨a, NamesIn.app hr r⟩
  | [], _ :: _, h => h.elim
  | _ :: _, [], h => h.elim
theorem HuesAre.app {us : List Value} {rs : List UInt64} (hr : HuesAre us rs) : ∀ {vs : List Value} {hs : List UInt64}, HuesAre vs hs → HuesAre (vs ++ us) (hs ++ rs)
  | [], [], _ => hr
  | v :: vs, t :: ts, ⟨a, r⟩ => ⟨a, HuesAre.app hr r⟩
  | [], _ :: _, h => h.elim
  | _ :: _, [], h => h.elim
theorem LawP.app {us : List Str} {rs : List UInt64} (hr : LawP us rs) : ∀ {ts : List Str} {hs : List UInt64}, LawP ts hs → LawP (ts ++ us) (hs ++ rs)
  | [], [], _ => hr
  | v :: vs, t :: ts, ⟨a, r⟩ => ⟨a, LawP.app hr r⟩
  | [], _ :: _, h => h.elim
  | _ :: _, [], h => h.elim
theorem law_end {w : World} {h₀ : Heap} {L aN aH cN cH cV lD x1 d1 x2 d2 : Addr} {oN oH oV oV' : Obj} {vV vV' : Option Value} {vsN vsH vs : List Value} {ts : List Str} {hs : List UInt64} {qs own tl news' : List (Addr × Obj)} {i kN kH nn : Nat}
    {s₁ : Shared} {h' : Heap} {tk : Nat} {m' : Str → Option Value} {t1 t2 : Str} {a1 a2 : UInt64} {k1 k2 k3 k4 f1 f2 : Tok}
    (W : LawAt w LawP aN aH cN cH cV lD i oN oH oV vV vsN vsH ts hs qs) (htl : tl = qs ++ own) (hoq : OwnOff own (qs.map (·.1))) (hot : OwnOff tl (lawAdr aN aH cN cH cV lD))
    (F : Fr h₀ L h' m') (N : News h₀ L h' news') (dV : oV'.data = .cell vV')
    (hsub : ∀ p ∈ lawLed aN aH cN cH cV lD oN oH oV' (vsN ++ [.ref x1, .ref x2]) (vsH ++ [.float a1 f1, .float a2 f2]) vs kN kH nn ((x1, instObj 153 d1) :: nameObj w d1 t1 k1 k2 :: (x2, instObj 153 d2) :: nameObj w d2 t2 k3 k4 :: tl), p ∈ news')
    (o1 : ∀ p ∈ tl, p.1 ≠ x1) (o2 : ∀ p ∈ tl, p.1 ≠ d1) (o3 : ∀ p ∈ tl, p.1 ≠ x2) (o4 : ∀ p ∈ tl, p.1 ≠ d2)
    (ho : ∀ a ∈ [x1, d1, x2, d2], ∀ b ∈ lawAdr aN aH cN cH cV lD, a ≠ b)
    (D1 : Dom t1 a1) (D2 : Dom t2 a2) :
    InvEndG h₀ L (LawJ w LawP aN aH cN cH cV lD vs nn (i + 1)) own s₁ { s₁ with heap := h', toks := tk } := by
  subst htl
  have hq : ∀ p ∈ qs, p ∈ (x1, instObj 153 d1) :: nameObj w d1 t1 k1 k2 :: (x2, instObj 153 d2) :: nameObj w d2 t2 k3 k4 :: qs := fun p hp => .tail _ (.tail _ (.tail _ (.tail _ hp)))
  refine InvEndG.intro (nx := lawLed aN aH cN cH cV lD oN oH oV' (vsN ++ [.ref x1, .ref x2]) (vsH ++ [.float a1 f1, .float a2 f2]) vs kN kH nn ((x1, instObj 153 d1) :: nameObj w d1 t1 k1 k2 :: (x2, instObj 153 d2) :: nameObj w d2 t2 k3 k4 :: qs))
    F N ⟨oN, oH, oV', vV', _, _, ts ++ [t1, t2], hs ++ [a1, a2], kN, kH, _, rfl, ⟨W.dN, W.dH, dV, ?_, ?_, ?_, ?_, ?_, ?_⟩⟩ ?_ ?_ ?_
  · refine NamesIn.app (us := [.ref x1, .ref x2]) (rs := [t1, t2]) ⟨⟨x1, d1, k1, k2, rfl, .head _, .tail _ (.head _)⟩, ⟨x2, d2, k3, k4, rfl, .tail _ (.tail _ (.head _)), .tail _ (.tail _ (.tail _ (.head _)))⟩, trivial⟩ (W.names.mono hq)
  · exact HuesAre.app (us := [.float a1 f1, .float a2 f2]) (rs := [a1, a2]) ⟨⟨f1, rfl⟩, ⟨f2, rfl⟩, trivial⟩ W.hues
  · rw [List.length_append, W.lenN]; simp; omega
  · rw [List.length_append, W.lenH]; simp; omega
  · exact LawP.app (us := [t1, t2]) (rs := [a1, a2]) ⟨D1, D2, trivial⟩ W.good
  · intro p hp b hb
    simp only [List.mem_cons] at hp
    rcases hp with rfl | rfl | rfl | rfl | hp
    · exact ho _ (by simp) b hb
    · exact ho _ (by simp) b hb
    · exact ho _ (by simp) b hb
    · exact ho _ (by simp) b hb
    · exact W.off p hp b hb
  · intro p hp b hb
    have hp' : p ∈ qs ++ own := List.mem_append.mpr (.inr hp)
    simp only [lawLed, List.map_cons, List.mem_cons] at hb
    rcases hb with rfl | rfl | rfl | rfl | rfl | rfl | rfl | rfl | rfl | rfl | rfl | hb
    · exact hot p hp' _ (by simp [lawAdr])
    · exact hot p hp' _ (by simp [lawAdr])
    · exact hot p hp' _ (by simp [lawAdr])
    · exact hot p hp' _ (by simp [lawAdr])
    · exact hot p hp' _ (by simp [lawAdr])
    · exact hot p hp' _ (by simp [lawAdr])
    · exact hot p hp' _ (by simp [lawAdr])
    · exact o1 p hp'
    · exact o2 p hp'
    · exact o3 p hp'
    · exact o4 p hp'
    · exact hoq p hp b hb
  · intro p hp
    refine hsub p ?_
    simp only [lawLed, List.mem_cons] at hp ⊢
    rcases hp with h | h | h | h | h | h | h | h | h | h | h | h
    all_goals first | simp [h] | (simp [List.mem_append, h])
  · intro p hp
    refine hsub p ?_
    simp only [lawLed, List.mem_cons]
    simp [List.mem_append, hp]
end Mine
end
section
open PySem PySem.W PyProof.Rows PySem.Calls PySem.Spec
set_option linter.unusedVariables false
namespace Mine
theorem turn_facts2 (TA : toldAll) (WA : wayAll) {v : Int} (h0 : 0 ≤ v) (h1 : v < 2688) : ∃ c cd h1 h2 P Q R S XC XH cs ns, TurnFacts v c cd h1 h2 P Q R S XC XH cs ns ∧
    Dom (Str.ofString "{" ++ cs ++ Str.ofString "}" ++ (KStt.txt cd ++ Str.ofString "=")) h1 ∧ Dom (Str.ofString "{" ++ cs ++ Str.ofString "}" ++ (KStt.txt cd.reverse ++ Str.ofString "=")) h2 ∧
    (∀ n, n = 60 ∨ n = 61 ∨ n = 62 → MarkCase n P Q ((3 * S).fdiv Q) (replyOf (KStt.txt cd) (KStt.txt cd.reverse) ns n)) := by
  obtain ⟨c, cd, hm, T, M⟩ := turn_facts' TA WA h0 h1
  have hmr : cd.reverse ∈ allWays := List.contains_iff_mem.mp (List.all_eq_true.mp ways_rev cd hm)
  exact ⟨c, cd, _, _, _, _, _, _, _, _, _, _, T, ⟨c, cd, T.hc, hm, text_assoc, rfl⟩, ⟨c, cd.reverse, T.hc, hmr, text_assoc, rfl⟩, M⟩
theorem idx_small {w : List Int} {i : Nat} {n : Int} (h : ([871, 22, 143] ++ w.take 3)[i]? = some n) : i < 6 := by
  have h1 := (List.getElem?_eq_some_iff.mp h).1
  rw [List.length_append, List.length_take] at h1
  simp at h1
  omega
end Mine
end
section
open PySem PySem.W PyProof.Rows PySem.Calls PySem.Spec
set_option linter.unusedVariables false
namespace Mine
theorem allLt_mem {d : Addr} : ∀ {l : List (Addr × Obj)}, AllLt d l → ∀ p ∈ l, @LT.lt Nat _ p.1 d
  | [], _, _, hp => nomatch hp
  | q :: l, h, p, hp => by
    rcases List.mem_cons.mp hp with rfl | hp
    · exact h.1
    · exact allLt_mem h.2 p hp
theorem off_and {a d : Addr} {P : Prop} {l : List (Addr × Obj)} (h : @LT.lt Nat _ a d ∧ P) (k : P → AllLt d l) : AllLt d l := k h.2
theorem off_last {d : Addr} {l : List (Addr × Obj)} (h : AllLt d l) : ∀ p ∈ l, p.1 ≠ d := fun p hp => Nat.ne_of_lt (allLt_mem h p hp)
theorem off_lt {d x : Addr} {l : List (Addr × Obj)} (hl : @LT.lt Nat _ d x) (h : AllLt d l) : ∀ p ∈ l, p.1 ≠ x := fun p hp => Nat.ne_of_lt (Nat.lt_trans (allLt_mem h p hp) hl)
theorem ho_of {x1 d1 x2 d2 : Addr} {l : List Addr} (h1 : @LT.lt Nat _ d1 x1) (h2 : @LT.lt Nat _ d1 d2) (h3 : @LT.lt Nat _ d2 x2) (h : ∀ b ∈ l, @LT.lt Nat _ b d1) : ∀ a ∈ [x1, d1, x2, d2], ∀ b ∈ l, a ≠ b := by
  intro a ha b hb
  have k := h b hb
  simp only [List.mem_cons, List.not_mem_nil, or_false] at ha
  rcases ha with rfl | rfl | rfl | rfl
  · exact Nat.ne_of_gt (Nat.lt_trans k h1)
  · exact Nat.ne_of_gt k
  · exact Nat.ne_of_gt (Nat.lt_trans (Nat.lt_trans k h2) h3)
  · exact Nat.ne_of_gt (Nat.lt_trans k h2)
end Mine
end
section
open PySem PySem.W PyProof.Rows PySem.Calls PySem.Spec
set_option linter.unusedVariables false
namespace Mine
section
variable {prog : Program} {w : World} {A : Around} {E : Value → Shared → Prop} {s : Shared} {K : Frag} {e t C L : Addr} {h₀ : Heap} {m : Str → Option Value} {n₂ : List (Addr × Obj)} {y : Str} {u : Tok}
open Builtin Builtin.Str Builtin.BaseException in
theorem bexcArgs_own {M : Model} {vs : List Value} {Q : Value × List Value → Shared → Prop} (N : News h₀ L s.heap n₂) (G : Got n₂ e t (.ref C) vs) (hq : Q (.ref t, vs) s) :
    wpAny M A (bexcArgs (.ref e)) Q E s := by
  obtain ⟨oe, ot, ws, nt, m1, m2, _, hd, h0, _, htd⟩ := G
  unfold bexcArgs
  refine wpAny_bind (wpAny_field (N _ m1).1 hd h0 (wpAny_bind (wpAny_seqItems (N _ m2).1 htd ?_)))
  have : vs.toArray.toList = vs := by simp
  show wpAny M A (pure (Value.ref t, vs.toArray.toList)) Q E s
  rw [this]; exact wpAny_pure hq
open Builtin Builtin.Str Builtin.BaseException in
theorem bexcStr_own {Q : PySem.Fin → Shared → Prop} (N : News h₀ L s.heap n₂) (G : Got n₂ e t (.ref C) [.str y u]) (hq : Q (.done (.ret (.str y u))) s) :
    wpAny (model prog w) A (Builtin.«BaseException.__str__» ⟨[.ref e], []⟩) Q E s := by
  unfold Builtin.«BaseException.__str__»
  repeat (first | with_reducible refine bexcArgs_own N G ?_ | wp_step)
  exact hq
theorem got_type {M : Model} (N : News h₀ L s.heap n₂) {vs : List Value} (G : Got n₂ e t (.ref C) vs) : Looks M s.heap (typeOf (.ref e)) (.ref C) := by
  obtain ⟨oe, ot, ws, nt, m1, m2, hc, hd, h0, _, htd⟩ := G
  rw [← hc]
  exact (Looks.ld (N _ m1).1).andThen .now
theorem special_own {name : Str} {id : String} {args : List Value} {Q : Option Value → Shared → Prop} (hT : Looks (model prog w) s.heap (typeOf (.ref e)) (.ref C)) (X : K.In s.heap) (hs : findIn K (.ref C) name = some (some (.builtin id)))
    (hb : ∀ self, bindSpecial (.builtin id) self = pure (.builtin id, [self])) (h : wpAny (model prog w) A (call (.builtin id) (.ref e :: args)) (fun v => Q (some v)) E s) : wpAny (model prog w) A (callSpecial? (.ref e) name args) Q E s :=
  wpAny_bind (wpAny_bind (hT.here ((looks_findIn X hs).here (wpAny_holding (wpAny_bind ((Looks.of_pure (hb _)).here (wpAny_bind (wpAny_mono h (fun _ _ z => wpAny_pure z) fun _ _ z => z))))))))
open Builtin Builtin.Str in
theorem str_ownexc {Q : Value → Shared → Prop} (hu : A.in1.in1.units < cLine) (X₀ : K.In h₀) (F : Fr h₀ L s.heap m) (N : News h₀ L s.heap n₂) (G : Got n₂ e t (.ref C) [.str y u]) (hs : findIn K (.ref C) "__str__" = some (some (.builtin "BaseException.__str__"))) (hm : mroIn K C (.type "BaseException") = some true)
    (hq : Q (.str y u) s) : wpAny (model prog w) A (call (.type "str") [.ref e]) Q E s := by
  have X : K.In s.heap := X₀.keeps F.keep
  have hT : Looks (model prog w) s.heap (typeOf (.ref e)) (.ref C) := got_type N G
  refine callType_codes (T := "str") (Bi := Builtin.«object.__init__») (Q₁ := fun r s₁ => ∃ y u, r = .str y u ∧ Q r s₁) PySem.F.called_str (PySem.F.typeCall_str_1 _) PySem.F.entry_object_init ?_ ?_
  · refine codeAny_of_tree ?_
    show wpAny _ A.in1.in1 (do checkBuiltinCall "str.__new__" ⟨[.type "str", .ref e], []⟩; again (.builtin "str.__new__" ⟨[.type "str", .ref e], []⟩)) _ _ s
    refine wpAny_bind (wpAny_of_eq (PySem.F.newCall_str_1 _) (wpAny_pure ⟨plainId_quiet (by decide +kernel) _, codeAny_builtin PySem.F.entry_str_new ?_⟩))
    rw [Around.under_plainId (by decide +kernel) _]
    rw [str_new_tree]
    refine wpAny_bind (wpAny_pure ?_)
    refine wpAny_bind (wpAny_of_eq isSubtype_str_str ?_)
    have key : wpAny (model prog w) A.in1.in1 (PySem.Builtin.Str.strOf (.ref e)) (fun r s₁ => ∃ y u, r = .str y u ∧ Q r s₁) E s := by
      unfold PySem.Builtin.Str.strOf
      rw [show isExactStr (.ref e) = false from rfl]
      refine wpAny_bind (m := cRoomFor _ _) (wpAny_cRoomFor hu ?_)
      refine wpAny_bind (m := callSpecial? (.ref e) (Str.ofString "__str__")) (special_own hT X hs PySem.F.excStr_Exception.str.bind ?_)
      refine wpAny_call (codeAny_call_builtin PySem.F.excStr_Exception.str.plain PySem.F.entry_bexc_str (check_slot (i := "BaseException.__str__") (owner := "BaseException") (n := "__str__") (by decide +kernel) (by decide +kernel) (hT.andThen (looks_mroIn X hm)) (PySem.F.args_bexc_str _) ?_))
      exact bexcStr_own N G (wpAny_pure ⟨_, _, rfl, hq⟩)
    exact wpAny_bind (wpAny_mono key (fun r s₁ hr => wpAny_pure hr) fun _ _ y => y)
  · rintro obj s₁ ⟨y, u, rfl, hq⟩
    exact ⟨typeIs_str _ _ _, PySem.F.args_object_init_2 _ _, object_init_meets PySem.F.called_str.init.lookup PySem.F.called_str.made (by decide) prog w A.in1 _ s₁ ⟨typeIs_str _ _ _, rfl, hq⟩⟩
theorem name_goes_cell {M : Model} {name : Str} {scope : Scope} {a : Addr} {cd : Value} {cl : List (Str × Addr)} {news : List (Addr × Obj)} {n : Str} {pos : Pos} {Q : Unit → Shared → Prop} (F : Fr h₀ L s.heap m) (N : News h₀ L s.heap news)
    (h : ∀ h' v, Fr h₀ L h' (fun x => if x = n then v else m x) → News h₀ L h' news → Q () { s with heap := h', toks := s.toks + 1 })
    (hk : scope.kind = .function := by rfl) (hl : (envX name scope L a cd cl).kindOf n = some .local := by rfl) :
    wpAny M A (do bindName (envX name scope L a cd cl) n .none; unbindBehindTheSuite (envX name scope L a cd cl) n pos) Q E s :=
  wpAny_nameGoes_keeps hl F.ns (by show (scope.kind == .class || (scope.kind == .module && L != mainGlobals)) = false; rw [hk]; rfl) fun h' v hn hs => h h' v (F.set hn hs) (N.set hs)
end
end Mine
end
section
open PySem PySem.W PyProof.Rows PySem.Calls PySem.Spec
set_option linter.unusedVariables false
namespace Mine
noncomputable def kRun {α : Type} (b : Nat → Nat → Bool) : KasT α → α
  | .ret a => a
  | .ask i j k => kRun b (k (b i j))
noncomputable def kBd {α : Type} (n : Nat) (P : α → Prop) : KasT α → Prop
  | .ret a => P a
  | .ask i j k => i < n ∧ j < n ∧ ∀ c, kBd n P (k c)
theorem kBd_bind {α β : Type} {n : Nat} {P : α → Prop} {R : β → Prop} {f : α → KasT β} (hf : ∀ a, P a → kBd n R (f a)) : ∀ (t : KasT α), kBd n P t → kBd n R (t.bind f)
  | .ret a, h => hf a h
  | .ask i j k, h => ⟨h.1, h.2.1, fun c => kBd_bind hf (k c) (h.2.2 c)⟩
theorem kRun_wp {α : Type} {n : Nat} {P : α → Prop} {b : Nat → Nat → Bool} {cmp : Nat → Nat → (Bool → Shared → Prop) → Shared → Prop} {Inv : Shared → Prop} {Q : α → Shared → Prop}
    (hc : ∀ i j C s, i < n → j < n → Inv s → (∀ s', Inv s' → C (b i j) s') → cmp i j C s) : ∀ (t : KasT α) (s : Shared), kBd n P t → Inv s → (∀ s', Inv s' → P (kRun b t) → Q (kRun b t) s') → t.kasWp cmp Q s
  | .ret a, s, h, hi, hq => hq s hi h
  | .ask i j k, s, h, hi, hq => hc i j _ s h.1 h.2.1 hi fun s' hi' => kRun_wp hc (k (b i j)) s' (h.2.2 _) hi' hq
structure PIn (n : Nat) (p : Array Nat) : Prop where
  mem : ∀ x ∈ p, x < n
  size : p.size = n
theorem PIn.get {n : Nat} {p : Array Nat} (h : PIn n p) (h0 : 0 < n) (i : Nat) : p.getD i 0 < n := by
  unfold Array.getD
  split
  · exact h.mem _ (Array.getElem_mem _)
  · exact h0
theorem PIn.swap {n : Nat} {p : Array Nat} (h : PIn n p) (i j : Nat) : PIn n (p.swapIfInBounds i j) := by
  refine ⟨fun x hx => ?_, by rw [Array.size_swapIfInBounds, h.size]⟩
  unfold Array.swapIfInBounds at hx
  split at hx
  · split at hx
    · exact h.mem x ((Array.Perm.mem_iff (Array.swap_perm _ _)).mp hx)
    · exact h.mem x hx
  · exact h.mem x hx
theorem PIn.fold {n : Nat} (u v : Nat → Nat) : ∀ (l : List Nat) {p : Array Nat}, PIn n p → PIn n (l.foldl (fun a k => a.swapIfInBounds (u k) (v k)) p)
  | [], _, h => h
  | k :: l, _, h => PIn.fold u v l (h.swap (u k) (v k))
theorem PIn.rev {n : Nat} {p : Array Nat} (h : PIn n p) (i j : Nat) : PIn n (kas_rev p i j) := PIn.fold _ _ _ h
theorem PIn.bub {n : Nat} {p : Array Nat} (h : PIn n p) (k d : Nat) : PIn n (bubble p k d) := PIn.fold _ _ _ h
theorem asc_bd {n : Nat} (h0 : 0 < n) : ∀ (f : Nat) {p : Array Nat} (m : Nat), PIn n p → kBd n (fun _ => True) (kas_asc p f m)
  | 0, _, _, _ => trivial
  | f + 1, p, m, h => ⟨h.get h0 _, h.get h0 _, fun c => by
    dsimp only
    split
    · trivial
    · exact asc_bd h0 f _ h⟩
theorem desc_bd {n : Nat} (h0 : 0 < n) : ∀ (f : Nat) {p : Array Nat} (m q : Nat), PIn n p → kBd n (fun r => PIn n r.1) (kas_desc f p m q)
  | 0, _, _, _, h => h
  | f + 1, p, m, q, h => ⟨h.get h0 _, h.get h0 _, fun c => by
    dsimp only
    split
    · split
      · exact desc_bd h0 f _ _ (h.rev _ _)
      · exact desc_bd h0 f _ _ h
    · exact ⟨h.get h0 _, h.get h0 _, fun d => by
        dsimp only
        split
        · exact h
        · exact desc_bd h0 f _ _ h⟩⟩
theorem tail3_bd {n : Nat} (h0 : 0 < n) {p : Array Nat} (a r : Nat) (h : PIn n p) : kBd n (fun x => PIn n x.2) (kas_tail3 a r p) :=
  kBd_bind (P := fun _ => True) (f := fun m => KasT.ret (m, kas_rev p 0 a)) (R := fun x : Nat × Array Nat => PIn n x.2) (fun _ _ => by show PIn n (kas_rev p 0 a); exact h.rev _ _) _ (asc_bd h0 _ _ (h.rev _ _))
theorem descPart_bd {n : Nat} (h0 : 0 < n) {p : Array Nat} (a r : Nat) (h : PIn n p) : kBd n (fun x => PIn n x.2) (kas_descPart a r p) := by
  unfold kas_descPart
  refine kBd_bind (P := fun x => PIn n x.1) (fun x hx => ?_) _ (desc_bd h0 _ _ _ h)
  split
  · exact tail3_bd h0 _ _ (hx.rev _ _)
  · exact tail3_bd h0 _ _ hx
theorem count_bd {n : Nat} (h0 : 0 < n) {p : Array Nat} (r : Nat) (h : PIn n p) : kBd n (fun x => PIn n x.2) (kas_count r p) := by
  unfold kas_count
  refine kBd_bind (P := fun _ => True) (fun x _ => ?_) _ (asc_bd h0 _ _ h)
  split
  · exact h
  · split
    · refine ⟨h.get h0 _, h.get h0 _, fun c => ?_⟩
      dsimp only
      split
      · exact h
      · exact descPart_bd h0 _ _ (h.rev _ _)
    · exact descPart_bd h0 _ _ h
theorem place_bd {n : Nat} (h0 : 0 < n) {p : Array Nat} (k : Nat) (h : PIn n p) : ∀ (f l r : Nat), kBd n (fun _ => True) (kas_place p k f l r)
  | 0, _, _ => trivial
  | f + 1, l, r => by
    unfold kas_place
    split
    · trivial
    · refine ⟨h.get h0 _, h.get h0 _, fun c => ?_⟩
      dsimp only
      split
      · exact place_bd h0 k h f _ _
      · exact place_bd h0 k h f _ _
theorem bin_bd {n : Nat} (h0 : 0 < n) : ∀ (f : Nat) {p : Array Nat} (k : Nat), PIn n p → kBd n (PIn n) (kas_bin f p k)
  | 0, _, _, h => h
  | f + 1, p, k, h => kBd_bind (P := fun _ => True) (fun l _ => bin_bd h0 f _ (h.bub _ _)) _ (place_bd h0 k h _ _ _)
theorem sort_bd {n : Nat} (h0 : 0 < n) : kBd n (PIn n) (kas_sort n) := by
  unfold kas_sort
  refine kBd_bind (P := fun x => PIn n x.2) (fun r hr => ?_) _ (count_bd h0 _ ⟨fun x hx => ?_, by simp⟩)
  · split
    · exact bin_bd h0 _ _ hr
    · exact hr
  · simpa using hx
end Mine
end
section
open PySem PySem.W PyProof.Rows PySem.Calls PySem.Spec
set_option linter.unusedVariables false
namespace Mine
section
variable {prog : Program} {w : World} {A : Around} {E : Value → Shared → Prop} {s : Shared}
noncomputable def colR (prog : Program) (w : World) (A : Around) (K : Value → Sem (List Value)) (Q : List Value → Shared → Prop) (E : Value → Shared → Prop) : Result → Shared → Prop :=
  fun r s' => match r with | .ok (.ret v) => wpAny (model prog w) A (K v) Q E s' | .ok _ => False | .error e => E e s'
theorem col_aux {K : Value → Sem (List Value)} {r : Addr} {a b c : Int} {t u v : Tok} {n : Nat} {Q : List Value → Shared → Prop} (hh : A.handled = none) (hr : IsRange s.heap r a b c t u v) (hsmall : Builtin.Range.small a b c = true)
    (hn : Builtin.Range.rangeSize a b c = n) (hlen : n ≤ 2 ^ 24)
    (h : ∀ S h' tk acc c', (∀ b o, s.heap.get? b = some o → h'.get? b = some o) → h'.get? S = some { cls := .type "list", dict := none, data := .seq acc c', slots := #[] } → ItemsOf (fun i v => ∃ t, v = .int (a + i * c) t) acc n →
      wpAny (model prog w) A (K (.ref S)) Q E { s with heap := h', toks := tk }) :
    wpAny (model prog w) A (runValue (.builtin "proto.collect" ⟨[.ref r], []⟩) >>= K) Q E s := by
  refine wpAny_bind (wpAny_runValue (codeAny_builtin F.entry_proto_collect ?_))
  rw [Around.under_plainId F.plain_proto_collect _]
  show wpAny _ A.in1 (newList [] >>= fun l => again (.builtin "list.__iadd__" ⟨[l, .ref r], []⟩)) _ _ s
  refine wpAny_bind (wpAny_newObj_type ?_)
  refine wpAny_pure ⟨plainId_quiet F.plain_list_iadd _, codeAny_builtin F.entry_list_iadd ?_⟩
  rw [Around.under_plainId F.plain_list_iadd _]
  have hS₁ : (s.heap.push { cls := .type "list", data := .seq ([] : List Value).toArray }).get? s.heap.objs.size = some { cls := .type "list", data := .seq ([] : List Value).toArray } := Heap.get?_push_size _ rfl
  show wpAny _ A.in1 (Builtin.List.listExtendWith (.ref s.heap.objs.size) (.ref r) (.ref s.heap.objs.size)) _ _ _
  refine wpAny_mono (wpAny_extend_range (R := colR prog w A K Q E) (s := {s with heap := s.heap.push {cls := .type "list", data := .seq ([] : List Value).toArray}}) hh (Heap.get?_push_of_some _ hr) hsmall hn hlen s.heap.objs.size (.ref s.heap.objs.size) 0 hS₁ fun h' tk acc c' hk hS' hacc => ?_) (fun fin s' hf => by cases fin <;> exact hf) (fun e s' he => he)
  exact h _ h' tk acc c' (fun b o e => hk b o (Nat.ne_of_lt (Heap.lt_size e)) (Heap.get?_push_of_some _ e)) hS' hacc
theorem collect_rng {r : Addr} {a b c : Int} {t u v : Tok} {n : Nat} {Q : List Value → Shared → Prop} (hh : A.handled = none) (hr : IsRange s.heap r a b c t u v) (hsmall : Builtin.Range.small a b c = true)
    (hn : Builtin.Range.rangeSize a b c = n) (hlen : n ≤ 2 ^ 24)
    (h : ∀ h' tk acc, (∀ b o, s.heap.get? b = some o → h'.get? b = some o) → ItemsOf (fun i v => ∃ t, v = .int (a + i * c) t) acc n → Q acc.toList { s with heap := h', toks := tk }) :
    wpAny (model prog w) A (collect (.ref r)) Q E s := by
  unfold collect
  refine col_aux hh hr hsmall hn hlen fun S h' tk acc c' hk hS' hacc => ?_
  show wpAny _ A (load S >>= _) _ _ _
  refine wpAny_bind (wpAny_load hS' ?_)
  exact wpAny_pure (h h' tk acc hk hacc)
end
end Mine
end
section
open PySem PySem.W PyProof.Rows PySem.Calls PySem.Spec
set_option linter.unusedVariables false
set_option maxRecDepth 100000
set_option maxHeartbeats 4000000
namespace Mine
section
variable {prog : Program} {w : World} {A : Around} {E : Value → Shared → Prop} {s : Shared} {h₀ : Heap} {L : Addr} {m : Str → Option Value} {news : List (Addr × Obj)}
theorem rng_sortedK {l : Addr} {t u v : Tok} {n : Nat} {f : Value} {kw : List (Str × Value)} {Q : Value → Shared → Prop} (hh : A.in1.handled = none) (F : Fr h₀ L s.heap m) (N : News h₀ L s.heap news) (hr : IsRange s.heap l 0 n 1 t u v) (h2 : 2 ≤ n) (h64 : n < 64)
    (ha1 : argsOk "sorted" ⟨[.ref l], kw⟩) (ha2 : ∀ x, argsOk "list.sort" ⟨[.ref x], kw⟩) (ht : ∀ x, Builtin.«list.sort» ⟨[.ref x], kw⟩ = ksk_tree x f false)
    (h : ∀ vs D kS e1 h' tk, vs.length = n → (∀ i, i < n → ∃ t, vs[i]? = some (.int (i : Int) t)) → Fr h₀ L h' m → News h₀ L h' ((kS, seqObj "list" #[] 0) :: (D, seqObj "list" #[] e1) :: news) → D < kS → (∀ q ∈ news, q.1 < D) →
      KatKeys prog w A.in1.in1 h₀ L m kS f (fun ks e s' => wpAny (model prog w) A.in1.in1 (keyKind' (List.toArray ks)) (fun κ s'' => (kas_sort n).kasWp (kas_ask prog w A.in1.in1 κ ks) (fun p s3 => KatFin h₀ L m kS D ks e e1 (p.toList.map fun i => vs.getD i Value.none) (fun s4 => Q (.ref D) s4) s3) s'') (fun _ _ => False) s') vs [] 0 { s with heap := h', toks := tk }) :
    wpAny (model prog w) A (call (.builtin "sorted") [.ref l] kw) Q E s := by
  refine call_function_entry_kw kind_sorted plain_sorted entry_sorted ha1 ?_
  unfold Builtin.«sorted»
  refine wpAny_bind (m := checkCount "sorted" 1 1 _) (wpAny_pure ?_)
  refine wpAny_bind (collect_rng hh hr (small_one (by omega) (by omega) (by omega) (by omega)) (by rw [rangeSize_nat]) (by omega) fun h₁ tk acc hk hacc => ?_)
  obtain ⟨vs, rfl⟩ : ∃ vs : List Value, acc = vs.toArray := ⟨acc.toList, by simp⟩
  have hvl : vs.length = n := by simpa using hacc.1
  have hvi : ∀ i, i < n → ∃ t, vs[i]? = some (.int (i : Int) t) := by
    intro i hi
    have hi' : i < vs.length := by omega
    obtain ⟨t, ht⟩ := hacc.2 i vs[i] (by simp [hi'])
    refine ⟨t, ?_⟩
    rw [List.getElem?_eq_getElem hi', ht]
    simp
  replace F : Fr h₀ L h₁ m := F.kept hk
  replace N : News h₀ L h₁ news := N.grown hk
  have h' := fun D kS e1 h' => h vs D kS e1 h' tk hvl hvi
  clear hr hk hacc h
  subst hvl
  replace h := h'
  clear h'
  generalize es : ({ s with heap := h₁, toks := tk } : Shared) = s₁
  have eh : h₁ = s₁.heap := by rw [← es]
  have es2 : ∀ h', ({ s with heap := h', toks := tk } : Shared) = { s₁ with heap := h' } := fun h' => by rw [← es]
  simp only [es2] at h
  rw [eh] at F N
  refine wpAny_bind (wpAny_newList ?_ (by rw [sizeLine_eq]; simp; omega))
  have hoL : (s₁.heap.push (seqObj "list" vs.toArray 0)).get? s₁.heap.objs.size = some (seqObj "list" vs.toArray 0) := Heap.get?_push_size _ rfl
  have hL : L < s₁.heap.objs.size := F.ns.lt
  refine wpAny_bind (wpAny_holding (wpAny_call_entry_kw slot_list_sort ⟨_, hoL, rfl⟩ entry_list_sort ?body (ha2 _)))
  case body =>
    have ht' := ht s₁.heap.objs.size
    show wpAny (model prog w) A.in1.in1 (Builtin.«list.sort» ⟨[.ref s₁.heap.objs.size], kw⟩) _ _ _
    rw [ht']
    refine kat_keyed (s := { s₁ with heap := s₁.heap.push (seqObj "list" vs.toArray 0) })
      (F.push _) (N.grown fun b o e => Heap.get?_push_of_some _ e) hoL (Nat.ne_of_gt hL) (Heap.get?_none_of_le (Nat.le_trans F.above (Nat.le_of_lt hL)))
      (fun p hp => Nat.ne_of_lt (Heap.lt_size (N p hp).1)) h2 h64 fun kS e1 h' F' N' l0 l1 => ?_
    refine kat_keys_mono (h _ kS e1 h' F' N' l0 fun q hq => Heap.lt_size (N q hq).1) fun ks e s' hl' hd => ?_
    have hl2 : ks.length = vs.length := by simpa using hl'
    refine wpAny_mono hd (fun κ s'' hk => ?_) fun _ _ x => x
    have er : ∀ (l : List Value), katRev false l = l := fun l => rfl
    simp only [er]
    rw [kat_ask_eq (vs := vs) hl2] at hk ⊢
    exact kas_wp_mono hk fun p s3 hk' => hk'.mono fun s4 hq => ⟨_, rfl, wpAny_pure ⟨_, rfl, hq⟩⟩
end
end Mine
end
section
open PySem PySem.W PyProof.Rows PySem.Calls PySem.Spec
set_option linter.unusedVariables false
set_option maxRecDepth 100000
set_option maxHeartbeats 4000000
namespace Mine
section
variable {prog : Program} {w : World} {A : Around} {E : Value → Shared → Prop} {s : Shared} {h₀ : Heap} {L : Addr} {m : Str → Option Value} {news : List (Addr × Obj)}
theorem oneLt_float {a b : UInt64} {t u : Tok} {Q : Bool → Shared → Prop} (h : Q (Float64.cmp a b == some Ordering.lt) s) : wpAny (model prog w) A (oneLt' true (.float a t) (.float b u)) Q E s := by
  rw [oneLt'_eq]
  simp only [if_true]
  refine wpAny_bind (wpAny_cRoomFor_byValue rfl ?_)
  refine wpAny_bind (wpAny_callSpecialIfBound?_slot (AutoFloatOps.typeIs_float s a t) PySem.F.slot_float_lt (call_gives PySem.F.slot_float_lt (AutoFloatOps.typeIs_float s a t) PySem.F.entry_float_lt (PySem.F.args_float_lt_2 _ _) (AutoFloatG5.float___lt___float_float_0 a t b u) ?_))
  exact wpAny_truthy_bool h
theorem huesAt : ∀ {ks : List Value} {hs : List UInt64}, HuesAre ks hs → ks.length = hs.length ∧ ∀ i, i < ks.length → ∃ t, ks.getD i Value.none = .float (hs.getD i 0) t
  | [], [], _ => ⟨rfl, fun i hi => absurd hi (Nat.not_lt_zero _)⟩
  | k :: ks, h :: hs, ⟨⟨t, e⟩, r⟩ => by
    obtain ⟨l, x⟩ := huesAt r
    refine ⟨by simp [l], fun i hi => ?_⟩
    cases i with
    | zero => exact ⟨t, by simp [e]⟩
    | succ i => simpa using x i (by simpa using hi)
  | [], _ :: _, h => h.elim
  | _ :: _, [], h => h.elim
noncomputable abbrev bF (hs : List UInt64) (i j : Nat) : Bool := Float64.cmp (hs.getD i 0) (hs.getD j 0) == some Ordering.lt
noncomputable abbrev bT (ts : List Str) (i j : Nat) : Bool := decide ((ts.getD i Str.empty).cps.toList < (ts.getD j Str.empty).cps.toList)
theorem sort_floats {ks : List Value} {hs : List UInt64} {n : Nat} {G : Array Nat → Shared → Prop} (hk : HuesAre ks hs) (hn : ks.length = n) (h2 : 2 ≤ n)
    (h : PIn n (kRun (bF hs) (kas_sort n)) → G (kRun (bF hs) (kas_sort n)) s) :
    wpAny (model prog w) A (keyKind' (List.toArray ks)) (fun κ s' => (kas_sort n).kasWp (kas_ask prog w A κ ks) G s') E s := by
  subst hn
  obtain ⟨hl, hx⟩ := huesAt hk
  refine kas_kind (T := .type "float") h2 (fun v hv => ?_) (by decide) (by decide) ?_
  · obtain ⟨i, hi, e⟩ := List.getElem_of_mem hv
    obtain ⟨t, ht⟩ := hx i hi
    rw [← e]
    have : ks.getD i Value.none = ks[i] := by simp [hi]
    rw [← this, ht]
    exact Looks.of_pure rfl
  · refine kRun_wp (n := ks.length) (P := PIn ks.length) (b := bF hs) (Inv := fun s' => s' = s) (fun i j C s' hi hj e hC => ?_) _ s (sort_bd (by omega)) rfl (fun s' e hp => ?_)
    · subst e
      unfold kas_ask
      obtain ⟨t, ht⟩ := hx i hi
      obtain ⟨u, hu⟩ := hx j hj
      rw [ht, hu, keyLt'_oneType]
      exact oneLt_float (hC _ rfl)
    · subst e; exact h hp
theorem namesAt {w : World} {qs : List (Addr × Obj)} : ∀ {vs : List Value} {ts : List Str}, NamesIn w qs vs ts → vs.length = ts.length ∧ ∀ i, i < vs.length →
    ∃ q d k1 k2, vs.getD i Value.none = .ref q ∧ (q, instObj 153 d) ∈ qs ∧ nameObj w d (ts.getD i Str.empty) k1 k2 ∈ qs
  | [], [], _ => ⟨rfl, fun i hi => absurd hi (Nat.not_lt_zero _)⟩
  | v :: vs, t :: ts, ⟨⟨q, d, k1, k2, e, m1, m2⟩, r⟩ => by
    obtain ⟨l, x⟩ := namesAt r
    refine ⟨by simp [l], fun i hi => ?_⟩
    cases i with
    | zero => exact ⟨q, d, k1, k2, by simp [e], m1, by simpa using m2⟩
    | succ i => simpa using x i (by simpa using hi)
  | [], _ :: _, h => h.elim
  | _ :: _, [], h => h.elim
theorem keys_run {f : Value} {kS : Addr} {R2 : Value → Value → Prop} {rest : List (Addr × Obj)} {Fin : List Value → Nat → Shared → Prop} {ks₁ : List Value}
    (one : ∀ x v ks e h tk (C : Value → Nat → Shared → Prop), R2 x v → Fr h₀ L h m → News h₀ L h ((kS, seqObj "list" (List.toArray ks) e) :: rest) →
      (∀ h' c tk', Fr h₀ L h' m → News h₀ L h' ((kS, seqObj "list" (List.toArray (ks ++ [v])) c) :: rest) → C v c { s with heap := h', toks := tk' }) →
      wpAny (model prog w) A (call f [x]) (KatBack h₀ L m kS ks e C) (fun _ _ => False) { s with heap := h, toks := tk })
    (fin : ∀ e h tk, Fr h₀ L h m → News h₀ L h ((kS, seqObj "list" (List.toArray ks₁) e) :: rest) → Fin ks₁ e { s with heap := h, toks := tk }) :
    ∀ (r vr ks : List Value) (e : Nat) (h : Heap) (tk : Nat), List.length r = List.length vr → (∀ i, i < r.length → R2 (r.getD i .none) (vr.getD i .none)) → ks ++ vr = ks₁ → Fr h₀ L h m → News h₀ L h ((kS, seqObj "list" (List.toArray ks) e) :: rest) →
      KatKeys prog w A h₀ L m kS f Fin r ks e { s with heap := h, toks := tk }
  | [], [], ks, e, h, tk, _, _, hv, F, N => by
    have : ks = ks₁ := by simpa using hv
    subst this
    exact KatKeys.nil (fin e h tk F N)
  | x :: r, v :: vr, ks, e, h, tk, hl, hr, hv, F, N => by
    refine KatKeys.cons (one x v ks e h tk _ (by simpa using hr 0 (by simp)) F N fun h' c tk' F' N' => ?_)
    exact keys_run one fin r vr (ks ++ [v]) c h' tk' (by simpa using hl) (fun i hi => by simpa using hr (i + 1) (by simpa using hi)) (by simpa using hv) F' N'
  | [], _ :: _, _, _, _, _, hl, _, _, _, _ => by simp at hl
  | _ :: _, [], _, _, _, _, hl, _, _, _, _ => by simp at hl
noncomputable abbrev rngObj (a b c : Int) (t u v : Tok) : Obj := { cls := .type "range", data := .fields #[.int a t, .int b u, .int c v] }
theorem rng_news {h h1 : Heap} {a b c : Int} {t u v : Tok} (R : IsRange h1 h.objs.size a b c t u v) (F : Fr h₀ L h m) (N : News h₀ L h1 news) : News h₀ L h1 ((h.objs.size, rngObj a b c t u v) :: news) := by
  intro p hp
  rcases List.mem_cons.mp hp with rfl | hp
  · exact ⟨R, Nat.ne_of_gt F.ns.lt, Heap.get?_none_of_le (Nat.le_trans F.above (Nat.le_of_lt F.ns.lt))⟩
  · exact N p hp
theorem rng_lt {h1 h : Heap} {a b c : Int} {t u v : Tok} (R : IsRange h1 h.objs.size a b c t u v) (N : News h₀ L h news) : ∀ q ∈ news, q.1 < h.objs.size := fun q hq => Heap.lt_size (N q hq).1
theorem rng_of {l : Addr} {a b c : Int} {t u v : Tok} (N : News h₀ L s.heap news) (hm : (l, rngObj a b c t u v) ∈ news) : IsRange s.heap l a b c t u v := (N _ hm).1
theorem sub_own {l : Addr} {vs : List Value} {i n : Nat} {t : Tok} {v : Value} {value slice : PySem.Expr} {Q : Value → Shared → Prop} (N : News h₀ L s.heap news) (hm : (l, listOf vs.toArray n) ∈ news) (hi : vs[i]? = some v) (hz : vs.length < 64) (h : Q v s)
    (hs : subscripted slice false (.ref l) (.int (i : Int) t) = operate [.ref l, .int (i : Int) t] (getItem (.ref l) (.int (i : Int) t)) := by with_unfolding_all rfl) (hg : ∀ r, letTemporaryGo value (.ref l) r = pure () := by intro _; with_unfolding_all rfl) :
    wpAny (model prog w) A (subscriptTail value slice (.ref l) (.int (i : Int) t)) Q E s := by
  have h1 := (List.getElem?_eq_some_iff.mp hi).1
  refine item_list (News.isList N hm) (by omega) (by omega) ?_ h hs hg
  rw [Int.toNat_natCast]
  simpa using hi
end
end Mine
end
section
open PySem PySem.W PyProof.Rows PySem.Calls PySem.Spec
set_option linter.unusedVariables false
namespace Mine
local macro_rules | `(tactic| walk_at "pad") => `(tactic| skip)
local macro_rules | `(tactic| walk_at "pad") => `(tactic| skip)
local macro_rules | `(tactic| walk_at "pad") => `(tactic| skip)
local macro_rules | `(tactic| walk_at "pad") => `(tactic| skip)
local macro_rules | `(tactic| walk_at "pad") => `(tactic| skip)
local macro_rules | `(tactic| walk_at "pad") => `(tactic| skip)
local macro_rules | `(tactic| walk_at "pad") => `(tactic| skip)
local macro_rules | `(tactic| walk_at $s:str) => `(tactic| k_extra $s)
noncomputable abbrev RetLt (news : List (Addr × Obj)) (b : Bool) (h₀ : Heap) (L : Addr) (m : Str → Option Value) (s : Shared) (Q : Value → Shared → Prop) : Prop :=
  ∀ h' tk', Fr h₀ L h' m → News h₀ L h' news → Q (.bool b) { s with heap := h', toks := tk' }
set_option maxRecDepth 100000 in
set_option maxHeartbeats 8000000 in
theorem c_lt0 (w : World) (pg : Program) (lo : List Str) (mean : ExcName → Option Value) (mg mb : Str → Option Value) (x y d e : Addr) (t1 t2 : Str) (k1 k2 k3 k4 : Tok) (news : List (Addr × Obj)) :
    Ctr w pg lo mean mg mb 1 129 [.ref x, .ref y] ((x, instObj 153 d) :: nameObj w d t1 k1 k2 :: (y, instObj 153 e) :: nameObj w e t2 k3 k4 :: news)
      (RetLt ((x, instObj 153 d) :: nameObj w d t1 k1 k2 :: (y, instObj 153 e) :: nameObj w e t2 k3 k4 :: news) (decide (t1.cps.toList < t2.cps.toList))) := by
  k_with_none
  k_with "c_enter" => (
  have hx := fillK
  revert hx
  k_fill
  intro hx; clear hx
  intro dp un gd cn cs a ccd cl outer A₀ base h₀ L m s Q E B F X N T hk hd hu hret
  refine wpAny_call ?_
  k_dflt cell_enter)
  walk_at "c_enter"
  k_steps
  all_goals exact hret _ _ (by assumption) (by assumption)
section
variable {w : World} {s : Shared} {h₀ : Heap} {L : Addr} {m : Str → Option Value}
noncomputable abbrev prg : Program := PySem.Challenge.rw_wu0055_01.row.prog
/-- one name put beside another, as the sort asks it -/
noncomputable abbrev LtHolds (w : World) (A : Around) (h₀ : Heap) (L : Addr) (m : Str → Option Value) (s : Shared) : Prop :=
  ∀ (led : List (Addr × Obj)) (x d y e : Addr) (t1 t2 : Str) (k1 k2 k3 k4 : Tok) (h : Heap) (tk : Nat) (C : Bool → Shared → Prop), (x, instObj 153 d) ∈ led → nameObj w d t1 k1 k2 ∈ led → (y, instObj 153 e) ∈ led → nameObj w e t2 k3 k4 ∈ led →
    Fr h₀ L h m → News h₀ L h led → (∀ h' tk', Fr h₀ L h' m → News h₀ L h' led → C (decide (t1.cps.toList < t2.cps.toList)) { s with heap := h', toks := tk' }) →
      wpAny (model prg w) A (keyLt' oneType' (.ref x) (.ref y)) C (fun _ _ => False) { s with heap := h, toks := tk }
theorem names_sorted {A : Around} {E : Value → Shared → Prop} {led qs : List (Addr × Obj)} {l : Addr} {vs : List Value} {ts : List Str} {n kk : Nat} {Q : Value → Shared → Prop} (F : Fr h₀ L s.heap m) (N : News h₀ L s.heap led) (hm : (l, listOf vs.toArray kk) ∈ led) (hn : NamesIn w qs vs ts)
    (hsub : ∀ p ∈ qs, p ∈ led) (hl : vs.length = n) (h2 : 2 ≤ n) (h64 : n < 64) (lt : LtHolds w A.in1.in1 h₀ L m s)
    (fin : ∀ D e1 h tk, (∀ q ∈ led, q.1 < D) → PIn n (kRun (bT ts) (kas_sort n)) → Fr h₀ L h m → News h₀ L h ((D, seqObj "list" #[] e1) :: led) →
      KasFin h₀ L m D e1 ((kRun (bT ts) (kas_sort n)).toList.map fun i => vs.getD i Value.none) (fun s'' => Q (.ref D) s'') { s with heap := h, toks := tk }) :
    wpAny (model prg w) A (call (.builtin "sorted") [.ref l]) Q E s := by
  subst hl
  obtain ⟨hlen, hx⟩ := namesAt hn
  refine kas_sorted (T := .ref 153) F N (News.isList N hm) h2 h64 (fun h F1 N1 v hv => ?_) (by decide) (fun D e1 h' F1 N1 hlt => ?_)
  · obtain ⟨i, hi, e⟩ := List.getElem_of_mem hv
    obtain ⟨q, d, k1, k2, e1, m1, m2⟩ := hx i hi
    have : vs.getD i Value.none = vs[i] := by simp [hi]
    rw [← e, ← this, e1]
    exact InstAt.type (InstAt.of_news N1 (hsub _ m1) (hsub _ m2))
  · refine kRun_wp (n := vs.length) (P := PIn vs.length) (b := bT ts) (Inv := fun s' => ∃ h tk, s' = { s with heap := h, toks := tk } ∧ Fr h₀ L h m ∧ News h₀ L h ((D, seqObj "list" #[] e1) :: led)) (fun i j C s' hi hj e hC => ?_) _ _ (sort_bd (by omega)) ⟨h', s.toks, rfl, F1, N1⟩ (fun s' e hp => ?_)
    · obtain ⟨h, tk, rfl, F2, N2⟩ := e
      unfold kas_ask
      obtain ⟨x, d, k1, k2, a1, a2, a3⟩ := hx i hi
      obtain ⟨y, d', k3, k4, b1, b2, b3⟩ := hx j hj
      rw [a1, b1]
      exact lt ((D, seqObj "list" #[] e1) :: led) x d y d' _ _ k1 k2 k3 k4 h tk C (.tail _ (hsub _ a2)) (.tail _ (hsub _ a3)) (.tail _ (hsub _ b2)) (.tail _ (hsub _ b3)) F2 N2 fun h3 tk3 F3 N3 => hC _ ⟨h3, tk3, rfl, F3, N3⟩
    · obtain ⟨h, tk, rfl, F2, N2⟩ := e
      exact fin D e1 h tk hlt hp F2 N2
theorem lt_holds {pg : Program} {lo : List Str} {mean : ExcName → Option Value} {mg mb : Str → Option Value} {dp un : Nat} {gd : Option (List Code)} {cn : Str} {cs : Scope} {a : Addr} {ccd : Value} {cl : List (Str × Addr)} {outer : List Env} {A₀ : Around} {base : Heap}
    (B : Below A₀ base outer h₀) (X : (hd.heap_39 w.params).In h₀) (T : Top pg lo mean mg mb h₀) (hk : cs.kind = .function) (hd' : dp + 1 < recursionLimit) (hu : (ktrTop dp un gd cn cs L a ccd cl outer).in1.in1.units + 8 < cLine) :
    LtHolds w (ktrTop dp un gd cn cs L a ccd cl outer).in1.in1 h₀ L m s := by
  k_with_none
  k_with "c_enter" => (
  have hx := fillK
  revert hx
  k_fill
  intro hx; clear hx
  intro dp un gd cn cs a ccd cl outer A₀ base h₀ L m s Q E B F X N T hk hd hu hret
  refine wpAny_call ?_
  k_dflt cell_enter)
  k_with "k_prep" => (
  have hx := fillK
  revert hx
  k_fill
  intro hx; clear hx)
  intro led x d y e t1 t2 k1 k2 k3 k4 h tk C m1 m2 m3 m4 F N hC
  walk_at "k_prep"
  refine kas_lt_inst (s := { s with heap := h, toks := tk }) (K := hd.heap_39 w.params) (C := 153) (f := 129) (by omega) F X (InstAt.of_news N m1 m2) ?h1 ?h2 ?_
  case h1 => k_is
  case h2 => k_is
  refine c_lt0 w pg lo mean mg mb x y d e t1 t2 k1 k2 k3 k4 led dp (ktrTop dp un gd cn cs L a ccd cl outer).in1.in1.units gd cn cs a ccd cl outer A₀ base h₀ L m { s with heap := h, toks := tk } _ _ B F X ?_ T hk hd' hu ?_
  · intro p hp
    simp only [List.mem_cons] at hp
    rcases hp with rfl | rfl | rfl | rfl | hp
    · exact N _ m1
    · exact N _ m2
    · exact N _ m3
    · exact N _ m4
    · exact N _ hp
  · intro h' tk' F' N'
    exact hC h' tk' F' fun p hp => N' p (.tail _ (.tail _ (.tail _ (.tail _ hp))))
end
end Mine
end
section
open PySem PySem.W PyProof.Rows PySem.Calls PySem.Spec
set_option linter.unusedVariables false
set_option maxRecDepth 100000
namespace Mine
section
variable {prog : Program} {w : World} {A : Around} {h₀ : Heap} {L : Addr} {m : Str → Option Value} {env : Env} {elt : PySem.Expr} {x : Str} {scope : Scope} {cl : List (Str × Addr)} {s : Shared} {S : List (Addr × Obj) → Prop} {P : Nat → Value → Prop} {Fin : List Value → List (Addr × Obj) → Prop} {news : List (Addr × Obj)}
theorem txt_rest {n : Nat} {rs : List Str} (hrs : rs.length = n)
    (turn : ∀ i v (r : Str) I oI C oC D m₂ ys h tk (E' : Value → Shared → Prop), i < n → rs[i]? = some r → P i v → LCg.NsObj oC m₂ → m₂ x = some v → Fr h₀ L h m → News h₀ L h ((I, oI) :: (C, oC) :: (D, LCg.lst ys) :: news) → LCg.Off3 I C D news → ((@Ne Nat I C) ∧ (@Ne Nat I D) ∧ (@Ne Nat C D)) →
      wpAny (model prog w) A (eval elt (compEnvC scope cl C env)) (LCg.CompEnd h₀ L m { s with heap := h, toks := tk } I oI C oC D (LCg.lst ys) S (fun y news' => KCtEl news r y news')) E' { s with heap := h, toks := tk })
    (fin : ∀ ys, StrsAre ys rs → Fin ys news) : LCg.CompRest prog w A h₀ L m env elt x scope cl s S P Fin n 0 [] news := by
  have key : ∀ (j i : Nat) (ys : List Value), i + j = n → StrsAre ys (rs.take i) → LCg.CompRest prog w A h₀ L m env elt x scope cl s S P Fin j i ys news := by
    intro j
    induction j with
    | zero =>
      intro i ys hi hy
      have e : i = rs.length := by omega
      subst e
      rw [List.take_length] at hy
      exact LCg.CompRest.zero (fin ys hy)
    | succ j ih =>
      intro i ys hi hy
      refine LCg.CompRest.succ ?_
      intro v I oI C oC D m₂ h tk E' hv hC hx F N off ne
      have hi' : i < rs.length := by omega
      refine wpAny_mono (turn i v rs[i] I oI C oC D m₂ ys h tk E' (by omega) (List.getElem?_eq_getElem hi') hv hC hx F N off ne) (fun y s₂ hq => ?_) fun _ _ e => e
      obtain ⟨h', tk', nw, e, F', N', off', hS, hn, t', hy'⟩ := hq
      rw [hn] at N' off' hS
      refine ⟨h', tk', news, e, F', N', off', hS, ?_⟩
      rw [hy']
      refine ih (i + 1) _ (by omega) ?_
      rw [List.take_add_one, List.getElem?_eq_getElem hi']
      exact kct_snoc hy
  exact key n 0 [] (by omega) (by simp only [List.take_zero]; exact .nil)
end
theorem ord_len {vs : List Value} {P : List Nat} {ord : List Value} (h : ord = P.map fun i => vs.getD i Value.none) : ord.toArray.size = P.length := by rw [h]; simp
/-- the texts in the order P -/
noncomputable abbrev textsOf (ts : List Str) (P : List Nat) : List Str := P.map fun i => ts.getD i Str.empty
theorem textsOf_len (ts : List Str) (P : List Nat) : (textsOf ts P).length = P.length := by simp
theorem nm_at {w : World} {qs : List (Addr × Obj)} {vs : List Value} {ts : List Str} {P : List Nat} {nms : List Value} {n i : Nat} {v : Value} {r : Str} (hn : NamesIn w qs vs ts) (hl : vs.length = n) (hP : ∀ x ∈ P, x < n) (hnm : nms = P.map fun i => vs.getD i Value.none)
    (hv : nms.toArray[i]? = some v) (hr : (textsOf ts P)[i]? = some r) : ∃ q d k1 k2, v = .ref q ∧ (q, instObj 153 d) ∈ qs ∧ nameObj w d r k1 k2 ∈ qs := by
  subst hnm hl
  rw [List.getElem?_toArray, List.getElem?_map] at hv
  rw [textsOf, List.getElem?_map] at hr
  cases hj : P[i]? with
  | none => rw [hj] at hv; simp at hv
  | some j =>
    rw [hj] at hv hr
    have hj' : j < vs.length := hP j (List.mem_of_getElem? hj)
    obtain ⟨q, d, k1, k2, a1, a2, a3⟩ := (namesAt hn).2 j hj'
    have e1 : v = vs.getD j Value.none := (Option.some.inj hv).symm
    have e2 : ts.getD j Str.empty = r := Option.some.inj hr
    rw [e2] at a3
    exact ⟨q, d, k1, k2, by rw [e1, a1], a2, a3⟩
/-- what stands at a place of the order, and at that place of the names -/
theorem or_at {w : World} {qs : List (Addr × Obj)} {vs us : List Value} {ts : List Str} {P : List Nat} {ord : List Value} {n i : Nat} {v : Value} {r : Str} (hn : NamesIn w qs vs ts) (hl : vs.length = n) (hP : ∀ x ∈ P, x < n) (hu : ∀ i, i < n → ∃ t, us[i]? = some (.int (i : Int) t))
    (ho : ord = P.map fun i => us.getD i Value.none)
    (hv : ord.toArray[i]? = some v) (hr : (textsOf ts P)[i]? = some r) : ∃ (j : Nat) (t : Tok) (u : Value), v = .int (j : Int) t ∧ vs[j]? = some u ∧ ∃ q d k1 k2, u = .ref q ∧ (q, instObj 153 d) ∈ qs ∧ nameObj w d r k1 k2 ∈ qs := by
  subst ho hl
  rw [List.getElem?_toArray, List.getElem?_map] at hv
  rw [textsOf, List.getElem?_map] at hr
  cases hj : P[i]? with
  | none => rw [hj] at hv; simp at hv
  | some j =>
    rw [hj] at hv hr
    have hj' : j < vs.length := hP j (List.mem_of_getElem? hj)
    obtain ⟨q, d, k1, k2, a1, a2, a3⟩ := (namesAt hn).2 j hj'
    obtain ⟨t, ht⟩ := hu j hj'
    have e1 : v = us.getD j Value.none := (Option.some.inj hv).symm
    have e2 : ts.getD j Str.empty = r := Option.some.inj hr
    rw [e2] at a3
    refine ⟨j, t, vs[j], ?_, List.getElem?_eq_getElem hj', q, d, k1, k2, ?_, a2, a3⟩
    · rw [e1, List.getD_eq_getElem?_getD, ht]; rfl
    · rw [← a1]; simp [hj']
theorem news_two {h₀ h : Heap} {L : Addr} {news : List (Addr × Obj)} {p q : Addr × Obj} (N : News h₀ L h news) (h1 : p ∈ news) (h2 : q ∈ news) : News h₀ L h (p :: q :: news) := by
  intro a ha
  simp only [List.mem_cons] at ha
  rcases ha with rfl | rfl | ha
  · exact N _ h1
  · exact N _ h2
  · exact N _ ha
theorem kRun_congr {α : Type} {n : Nat} {P : α → Prop} {b c : Nat → Nat → Bool} (h : ∀ i j, i < n → j < n → b i j = c i j) : ∀ (t : KasT α), kBd n P t → kRun b t = kRun c t
  | .ret _, _ => rfl
  | .ask i j k, hb => by
    show kRun b (k (b i j)) = kRun c (k (c i j))
    rw [h i j hb.1 hb.2.1]
    exact kRun_congr h _ (hb.2.2 _)
end Mine
end
section
open PySem PySem.W PyProof.Rows PySem.Calls PySem.Spec PySem.SeqAt
set_option linter.unusedVariables false
namespace Mine
/-- the names stand in the order of the hues -/
noncomputable def ordAll : Prop := ∀ t h t' h', Dom t h → Dom t' h' → decide (t.cps.toList < t'.cps.toList) = (Float64.cmp h h' == some Ordering.lt)
theorem lawAt : ∀ {ts : List Str} {hs : List UInt64}, LawP ts hs → ts.length = hs.length ∧ ∀ i, i < ts.length → Dom (ts.getD i Str.empty) (hs.getD i 0)
  | [], [], _ => ⟨rfl, fun i hi => absurd hi (Nat.not_lt_zero _)⟩
  | t :: ts, h :: hs, ⟨e, r⟩ => by
    obtain ⟨l, x⟩ := lawAt r
    refine ⟨by simp [l], fun i hi => ?_⟩
    cases i with
    | zero => simpa using e
    | succ i => simpa using x i (by simpa using hi)
  | [], _ :: _, h => h.elim
  | _ :: _, [], h => h.elim
theorem same_run (OL : ordAll) {ts : List Str} {hs : List UInt64} {n : Nat} (hg : LawP ts hs) (hl : ts.length = n) (h2 : 2 ≤ n) : kRun (bT ts) (kas_sort n) = kRun (bF hs) (kas_sort n) := by
  subst hl
  refine kRun_congr (n := ts.length) (P := PIn ts.length) (fun i j hi hj => ?_) _ (sort_bd (by omega))
  exact OL _ _ _ _ ((lawAt hg).2 i hi) ((lawAt hg).2 j hj)
theorem strsAt : ∀ {xs : List Value} {rs : List Str}, StrsAre xs rs → xs.length = rs.length ∧ ∀ i (h : i < xs.length), ∃ t, xs[i] = .str (rs.getD i Str.empty) t
  | _, _, .nil => ⟨rfl, fun i hi => absurd hi (Nat.not_lt_zero _)⟩
  | _, _, .cons y t r => by
    obtain ⟨l, x⟩ := strsAt r
    refine ⟨by simp [l], fun i hi => ?_⟩
    cases i with
    | zero => exact ⟨t, by simp⟩
    | succ i => simpa using x i (by simpa using hi)
theorem eq_texts {prog : Program} {w : World} {A : Around} {E : Value → Shared → Prop} {s : Shared} {h₀ : Heap} {L : Addr} {Q : Value → Shared → Prop} {l b : Addr} {xs ys : List Value} {rs : List Str} {news : List (Addr × Obj)} (N : News h₀ L s.heap news)
    (hl : (l, LCg.lst xs) ∈ news) (hb : (b, LCg.lst ys) ∈ news) (hx : StrsAre xs rs) (hy : StrsAre ys rs) (hu : A.units < cLine) (h : Q (.bool true) s) : wpAny (model prog w) A (compareOp .Eq (.ref l) (.ref b)) Q E s := by
  obtain ⟨l1, x1⟩ := strsAt hx
  obtain ⟨l2, x2⟩ := strsAt hy
  have h1 : s.heap.IsList l xs.toArray := ⟨_, (N _ hl).1, rfl, xs.length, rfl⟩
  have h2 : s.heap.IsList b ys.toArray := ⟨_, (N _ hb).1, rfl, ys.length, rfl⟩
  refine RcAt.lists (A := A) (s := s) (e := fun _ => true) h1 h2 (by simp [l1, l2]) hu (fun j j1 j2 => ?_) prog w E Q ?_
  · have j1' : j < xs.length := by simpa using j1
    have j2' : j < ys.length := by simpa using j2
    obtain ⟨t, e1⟩ := x1 j j1'
    obtain ⟨u, e2⟩ := x2 j j2'
    have f1 : xs.toArray[j] = .str (rs.getD j Str.empty) t := by simpa using e1
    have f2 : ys.toArray[j] = .str (rs.getD j Str.empty) u := by simpa using e2
    rw [f1, f2]
    simpa using EqAt.str_str (A := A.in1) (s := s) (rs.getD j Str.empty) t (rs.getD j Str.empty) u
  · have : ((List.range xs.toArray.size).all fun _ => true) = true := by simp
    rw [this]
    exact h
end Mine
end
section
open PySem PySem.W PyProof.Rows PySem.Calls PySem.Spec
set_option linter.unusedVariables false
namespace Mine
/-- a corner's tree of ways, with what each node paints -/
inductive T where
  | leaf
  | node (m v x : F3) (h : UInt64) (p q : Int) (l r : T)
noncomputable def okV (c : Nat) (p q : Int) (v x : F3) (h : UInt64) : Bool :=
  rgbFin v && decide ((r64 v.1).natAbs ≤ 64) && decide ((r64 v.2.1).natAbs ≤ 64) && decide ((r64 v.2.2).natAbs ≤ 64) && decide (q64 v = x) &&
  hlsOk x && decide (hueOf x = h) && decide (shareOf x = 0x3ff0000000000000) && Float64.isFinite (Float64.mul (Float64.ofInt 128) (lightOf x)) && decide (wholeOf x = q) && decide (0 < q) && decide (q ≤ 64) &&
  Float64.isFinite (Float64.mul (Float64.ofInt (6 * q)) h) && decide (Int.fdiv (Flt.toInt Float64.nearestOf (Float64.mul (Float64.ofInt (6 * q)) h)) q = (c : Int)) &&
  decide (Int.fmod (Flt.toInt Float64.nearestOf (Float64.mul (Float64.ofInt (6 * q)) h)) q = p)
noncomputable def chkT (c : Nat) : F3 → F3 → List Int → T → Bool
  | _, _, _, .leaf => true
  | lo, hi, pre, .node m v x h p q l r => decide (joined lo hi = m) && decide (rgbOf m = v) && decide (frac pre = (p, q)) && okV c p q v x h && chkT c lo m (pre ++ [60]) l && chkT c m hi (pre ++ [62]) r
noncomputable def hueAt : T → List Int → Option UInt64
  | .leaf, _ => none
  | .node _ _ _ h _ _ _ _, [] => some h
  | .node _ _ _ _ _ _ l r, n :: w => if n = 60 then hueAt l w else if n = 62 then hueAt r w else none
theorem okV_sound {c : Nat} {w : List Int} {m v x : F3} {h : UInt64} {p q : Int} (h1 : midOf c w = m) (h2 : rgbOf m = v) (h3 : frac w = (p, q)) (h4 : okV c p q v x h = true) : toldIs c w = true ∧ (told c w).hue = h := by
  unfold okV at h4
  simp only [Bool.and_eq_true, decide_eq_true_eq] at h4
  obtain ⟨⟨⟨⟨⟨⟨⟨⟨⟨⟨⟨⟨⟨⟨a1, a2⟩, a3⟩, a4⟩, a5⟩, a6⟩, a7⟩, a8⟩, a9⟩, a10⟩, a11⟩, a12⟩, a13⟩, a14⟩, a15⟩ := h4
  have hc : colour c w = x := by unfold colour; rw [h1, h2, a5]
  have e1 : (hls x).1 = h := by unfold hls; exact a7
  have e2 : (hls x).2.1 = lightOf x := by unfold hls; rfl
  have e3 : (hls x).2.2 = shareOf x := by unfold hls; rfl
  have e4 : sixPart x = Flt.toInt Float64.nearestOf (Float64.mul (Float64.ofInt (6 * q)) h) := by unfold sixPart; rw [a10, e1]
  have ht : told c w = ⟨h, 0x3ff0000000000000, (c : Int), p, q⟩ := by unfold told toldX; rw [hc, e1, e3, e4, a10, a14, a15, a8]
  refine ⟨?_, by rw [ht]⟩
  unfold toldIs toldOk
  rw [ht, h3, hc, h1, h2, e1, e2, a10]
  simp only [a1, a2, a3, a4, a6, a9, a11, a12, a13, decide_true, Bool.and_self, beq_self_eq_true, Bool.true_and]
theorem fold_step (c : Nat) (pre : List Int) (n : Int) : (pre ++ [n]).foldl step (start c) = step (pre.foldl step (start c)) n := by rw [List.foldl_append]; rfl
theorem chkT_sound {c : Nat} : ∀ (t : T) (lo hi : F3) (pre : List Int), chkT c lo hi pre t = true → pre.foldl step (start c) = (lo, hi, joined lo hi) → ∀ w h, hueAt t w = some h → toldIs c (pre ++ w) = true ∧ (told c (pre ++ w)).hue = h
  | .leaf, _, _, _, _, _, _, _, hh => by simp [hueAt] at hh
  | .node m v x h p q l r, lo, hi, pre, hk, hst, w, h', hh => by
    unfold chkT at hk
    simp only [Bool.and_eq_true, decide_eq_true_eq] at hk
    obtain ⟨⟨⟨⟨⟨k1, k2⟩, k3⟩, k4⟩, k5⟩, k6⟩ := hk
    rw [k1] at hst
    cases w with
    | nil =>
      rw [List.append_nil]
      have : h = h' := by simpa [hueAt] using hh
      subst this
      exact okV_sound (by unfold midOf; rw [hst]) k2 k3 k4
    | cons n w =>
      unfold hueAt at hh
      by_cases e : n = 60
      · subst e
        rw [if_pos rfl] at hh
        have := chkT_sound l lo m (pre ++ [60]) k5 (by rw [fold_step, hst]; unfold step; rw [if_pos rfl]) w h' hh
        simpa using this
      · rw [if_neg e] at hh
        by_cases e' : n = 62
        · subst e'
          rw [if_pos rfl] at hh
          have := chkT_sound r m hi (pre ++ [62]) k6 (by rw [fold_step, hst]; unfold step; rw [if_neg (by decide)]) w h' hh
          simpa using this
        · rw [if_neg e'] at hh
          cases hh
theorem chkT_node {c : Nat} {lo hi : F3} {pre pl pr : List Int} {m v x : F3} {h : UInt64} {p q : Int} {l r : T} (hl : pre ++ [60] = pl) (hr : pre ++ [62] = pr)
    (k : (decide (joined lo hi = m) && decide (rgbOf m = v) && decide (frac pre = (p, q)) && okV c p q v x h) = true) (k5 : chkT c lo m pl l = true) (k6 : chkT c m hi pr r = true) : chkT c lo hi pre (.node m v x h p q l r) = true := by
  subst hl hr
  unfold chkT
  rw [k, k5, k6]
  rfl
end Mine
end
section
open PySem PySem.W PyProof.Rows PySem.Calls PySem.Spec
set_option linter.unusedVariables false
set_option exponentiation.threshold 2000
namespace Mine
noncomputable def keyV (x : UInt64) : Option Nat := match Float64.decode x with
  | .fin false m e => if -1074 ≤ e then some (m * 2 ^ (e + 1074).toNat) else none
  | _ => none
theorem cmp_key {x y : UInt64} {a b : Nat} (hx : keyV x = some a) (hy : keyV y = some b) : (Float64.cmp x y == some Ordering.lt) = decide (a < b) := by
  unfold keyV at hx hy
  unfold Float64.cmp
  split at hx
  · rename_i m e ex
    split at hx
    · rename_i he
      split at hy
      · rename_i k f ey
        split at hy
        · rename_i hf
          rw [ex, ey]
          have ha := Option.some.inj hx
          have hb := Option.some.inj hy
          dsimp only
          unfold Float64.align Float64.sgn
          simp only [Bool.false_eq_true, if_false]
          obtain ⟨g, hg⟩ : ∃ g, g = min e f := ⟨_, rfl⟩
          rw [← hg]
          have g1 : g ≤ e := by omega
          have g2 : g ≤ f := by omega
          have g3 : -1074 ≤ g := by omega
          have e1 : (e + 1074).toNat = (e - g).toNat + (g + 1074).toNat := by omega
          have e2 : (f + 1074).toNat = (f - g).toNat + (g + 1074).toNat := by omega
          rw [e1, Nat.pow_add, ← Nat.mul_assoc] at ha
          rw [e2, Nat.pow_add, ← Nat.mul_assoc] at hb
          have hp : 0 < 2 ^ (g + 1074).toNat := Nat.pow_pos (by decide)
          generalize m * 2 ^ (e - g).toNat = p at *
          generalize k * 2 ^ (f - g).toNat = q at *
          have key : a < b ↔ p < q := by
            rw [← ha, ← hb]
            exact Nat.mul_lt_mul_right hp
          rw [decide_eq_decide.mpr key]
          have hc : (some (compare (p : Int) (q : Int)) == some Ordering.lt) = decide (p < q) := by
            by_cases h : p < q
            · have : compare (p : Int) (q : Int) = Ordering.lt := by
                unfold compare; show compareOfLessAndEq _ _ = _
                unfold compareOfLessAndEq
                rw [if_pos (by omega)]
              rw [this, decide_eq_true h]; rfl
            · have : compare (p : Int) (q : Int) ≠ Ordering.lt := by
                show compareOfLessAndEq _ _ ≠ _
                unfold compareOfLessAndEq
                rw [if_neg (by omega)]
                split <;> decide
              rw [decide_eq_false h]
              cases hh : compare (p : Int) (q : Int) with
              | lt => exact absurd hh this
              | eq => rfl
              | gt => rfl
          exact hc
        · cases hy
      · cases hy
    · cases hx
  · cases hx
noncomputable def ordT : Nat → Nat → T → Bool
  | _, _, .leaf => true
  | a, b, .node _ _ _ h _ _ l r => match keyV h with
    | some y => decide (a < y) && decide (y < b) && ordT a y l && ordT y b r
    | none => false
theorem ordT_bd : ∀ (t : T) (a b : Nat), ordT a b t = true → ∀ w h, hueAt t w = some h → ∃ y, keyV h = some y ∧ a < y ∧ y < b
  | .leaf, _, _, _, _, _, hh => by simp [hueAt] at hh
  | .node m v x h p q l r, a, b, ho, w, h', hh => by
    unfold ordT at ho
    split at ho
    · rename_i y hy
      simp only [Bool.and_eq_true, decide_eq_true_eq] at ho
      obtain ⟨⟨⟨o1, o2⟩, o3⟩, o4⟩ := ho
      cases w with
      | nil =>
        have : h = h' := by simpa [hueAt] using hh
        exact ⟨y, this ▸ hy, o1, o2⟩
      | cons n w =>
        unfold hueAt at hh
        split at hh
        · obtain ⟨z, z1, z2, z3⟩ := ordT_bd l a y o3 w h' hh
          exact ⟨z, z1, z2, Nat.lt_trans z3 o2⟩
        · split at hh
          · obtain ⟨z, z1, z2, z3⟩ := ordT_bd r y b o4 w h' hh
            exact ⟨z, z1, Nat.lt_trans o1 z2, z3⟩
          · cases hh
    · cases ho
noncomputable abbrev enc (w : List Int) : List Nat := w.map Int.toNat ++ [61]
theorem ordT_lt : ∀ (t : T) (a b : Nat), ordT a b t = true → ∀ w w' h h' y y', hueAt t w = some h → hueAt t w' = some h' → keyV h = some y → keyV h' = some y' → (enc w < enc w' ↔ y < y')
  | .leaf, _, _, _, _, _, _, _, _, _, hh, _, _, _ => by simp [hueAt] at hh
  | .node m v x h₀ p q l r, a, b, ho, w, w', h, h', y, y', hh, hh', hy, hy' => by
    unfold ordT at ho
    split at ho
    · rename_i z hz
      simp only [Bool.and_eq_true, decide_eq_true_eq] at ho
      obtain ⟨⟨⟨o1, o2⟩, o3⟩, o4⟩ := ho
      have L : ∀ w h y, hueAt l w = some h → keyV h = some y → y < z := fun w h y e k => by
        obtain ⟨u, u1, _, u3⟩ := ordT_bd l a z o3 w h e
        rw [k] at u1; rw [Option.some.inj u1]; exact u3
      have R : ∀ w h y, hueAt r w = some h → keyV h = some y → z < y := fun w h y e k => by
        obtain ⟨u, u1, u2, _⟩ := ordT_bd r z b o4 w h e
        rw [k] at u1; rw [Option.some.inj u1]; exact u2
      have root : ∀ h y, hueAt (T.node m v x h₀ p q l r) [] = some h → keyV h = some y → y = z := fun h y e k => by
        have : h₀ = h := by simpa [hueAt] using e
        rw [← this, hz] at k
        exact (Option.some.inj k).symm
      have turn : ∀ n w h, hueAt (T.node m v x h₀ p q l r) (n :: w) = some h → (n = 60 ∧ hueAt l w = some h) ∨ (n = 62 ∧ hueAt r w = some h) := fun n w h e => by
        unfold hueAt at e
        split at e
        · exact .inl ⟨by assumption, e⟩
        · split at e
          · exact .inr ⟨by assumption, e⟩
          · cases e
      cases w with
      | nil =>
        have e1 := root _ _ hh hy
        cases w' with
        | nil =>
          have e2 := root _ _ hh' hy'
          rw [e1, e2]
          simp [enc]
        | cons n' w' =>
          rcases turn _ _ _ hh' with ⟨rfl, k⟩ | ⟨rfl, k⟩
          · have := L _ _ _ k hy'
            simp only [enc, List.map_nil, List.nil_append, List.map_cons, List.cons_append, List.cons_lt_cons_iff]
            constructor
            · rintro (c | ⟨c, _⟩)
              · exact absurd c (by decide)
              · exact absurd c (by decide)
            · intro c; omega
          · have := R _ _ _ k hy'
            simp only [enc, List.map_nil, List.nil_append, List.map_cons, List.cons_append, List.cons_lt_cons_iff]
            constructor
            · intro _; omega
            · intro _; exact .inl (by decide)
      | cons n w =>
        cases w' with
        | nil =>
          have e2 := root _ _ hh' hy'
          rcases turn _ _ _ hh with ⟨rfl, k⟩ | ⟨rfl, k⟩
          · have := L _ _ _ k hy
            simp only [enc, List.map_nil, List.nil_append, List.map_cons, List.cons_append, List.cons_lt_cons_iff]
            constructor
            · intro _; omega
            · intro _; exact .inl (by decide)
          · have := R _ _ _ k hy
            simp only [enc, List.map_nil, List.nil_append, List.map_cons, List.cons_append, List.cons_lt_cons_iff]
            constructor
            · rintro (c | ⟨c, _⟩)
              · exact absurd c (by decide)
              · exact absurd c (by decide)
            · intro c; omega
        | cons n' w' =>
          rcases turn _ _ _ hh with ⟨rfl, k⟩ | ⟨rfl, k⟩ <;> rcases turn _ _ _ hh' with ⟨rfl, k'⟩ | ⟨rfl, k'⟩
          · have := ordT_lt l a z o3 w w' h h' y y' k k' hy hy'
            rw [← this]
            simp only [enc, List.map_cons, List.cons_append, List.cons_lt_cons_iff]
            constructor
            · rintro (c | ⟨_, c⟩)
              · exact absurd c (by decide)
              · exact c
            · intro c; exact .inr ⟨trivial, c⟩
          · have h1 := L _ _ _ k hy
            have h2 := R _ _ _ k' hy'
            simp only [enc, List.map_cons, List.cons_append, List.cons_lt_cons_iff]
            constructor
            · intro _; omega
            · intro _; exact .inl (by decide)
          · have h1 := R _ _ _ k hy
            have h2 := L _ _ _ k' hy'
            simp only [enc, List.map_cons, List.cons_append, List.cons_lt_cons_iff]
            constructor
            · rintro (c | ⟨c, _⟩)
              · exact absurd c (by decide)
              · exact absurd c (by decide)
            · intro c; omega
          · have := ordT_lt r z b o4 w w' h h' y y' k k' hy hy'
            rw [← this]
            simp only [enc, List.map_cons, List.cons_append, List.cons_lt_cons_iff]
            constructor
            · rintro (c | ⟨_, c⟩)
              · exact absurd c (by decide)
              · exact c
            · intro c; exact .inr ⟨trivial, c⟩
    · cases ho
theorem app_list (a b : Str) : (a ++ b).cps.toList = a.cps.toList ++ b.cps.toList := by
  cases a; cases b
  show (_ ++ _ : Array Nat).toList = _
  exact Array.toList_append
theorem txt_list (w : List Int) : (KStt.txt w).cps.toList = w.map Int.toNat := rfl
theorem digit : ∀ c, c < 6 → (Str.ofString (toString c)).cps.toList = [48 + c]
  | 0, _ => by decide +kernel
  | 1, _ => by decide +kernel
  | 2, _ => by decide +kernel
  | 3, _ => by decide +kernel
  | 4, _ => by decide +kernel
  | 5, _ => by decide +kernel
  | n + 6, h => by omega
theorem name_list {c : Nat} {w : List Int} (hc : c < 6) : (Str.ofString "{" ++ Str.ofString (toString c) ++ Str.ofString "}" ++ KStt.txt w ++ Str.ofString "=").cps.toList = 123 :: (48 + c) :: 125 :: enc w := by
  have e1 : (Str.ofString "{").cps.toList = [123] := by decide +kernel
  have e2 : (Str.ofString "}").cps.toList = [125] := by decide +kernel
  have e3 : (Str.ofString "=").cps.toList = [61] := by decide +kernel
  rw [app_list, app_list, app_list, app_list, digit c hc, e1, e2, e3, txt_list]
  simp [enc]
/-- the hues between two sixths -/
noncomputable abbrev bnd (c : Nat) : Nat := 2 ^ 1074 * c / 6
structure Trees (tr : Nat → T) : Prop where
  told : ∀ c w h, c < 6 → hueAt (tr c) w = some h → toldIs c w = true ∧ (told c w).hue = h
  ord : ∀ c, c < 6 → ordT (bnd c) (bnd (c + 1)) (tr c) = true
  all : ∀ c w, c < 6 → w ∈ allWays → (hueAt (tr c) w).isSome = true
theorem Trees.toldAll {tr : Nat → T} (X : Trees tr) : toldAll := fun c hc w hw => by
  obtain ⟨h, e⟩ := Option.isSome_iff_exists.mp (X.all c w hc hw)
  exact (X.told c w h hc e).1
theorem bnd_mono {c c' : Nat} (h : c < c') : bnd (c + 1) ≤ bnd c' := Nat.div_le_div_right (Nat.mul_le_mul_left _ h)
theorem Trees.ordAll {tr : Nat → T} (X : Trees tr) : ordAll := by
  rintro t h t' h' ⟨c, w, hc, hw, rfl, rfl⟩ ⟨c', w', hc', hw', rfl, rfl⟩
  obtain ⟨g, e⟩ := Option.isSome_iff_exists.mp (X.all c w hc hw)
  obtain ⟨g', e'⟩ := Option.isSome_iff_exists.mp (X.all c' w' hc' hw')
  rw [(X.told c w g hc e).2, (X.told c' w' g' hc' e').2]
  obtain ⟨y, y1, y2, y3⟩ := ordT_bd _ _ _ (X.ord c hc) w g e
  obtain ⟨z, z1, z2, z3⟩ := ordT_bd _ _ _ (X.ord c' hc') w' g' e'
  rw [cmp_key y1 z1, name_list hc, name_list hc']
  refine decide_eq_decide.mpr ?_
  simp only [List.cons_lt_cons_iff, Nat.lt_irrefl, false_or, true_and]
  rcases Nat.lt_trichotomy c c' with k | k | k
  · have := bnd_mono k
    constructor
    · intro _; omega
    · intro _; exact .inl (by omega)
  · subst k
    have := ordT_lt _ _ _ (X.ord c hc) w w' g g' y z e e' y1 z1
    rw [← this]
    simp
  · have := bnd_mono k
    constructor
    · rintro (q | ⟨q, _⟩) <;> omega
    · intro _; omega
end Mine
end
section
open PySem PySem.W PyProof.Rows PySem.Calls PySem.Spec
set_option linter.unusedVariables false
namespace Mine
local macro_rules | `(tactic| walk_at "pad") => `(tactic| skip)
local macro_rules | `(tactic| walk_at "pad") => `(tactic| skip)
local macro_rules | `(tactic| walk_at "pad") => `(tactic| skip)
local macro_rules | `(tactic| walk_at "pad") => `(tactic| skip)
local macro_rules | `(tactic| walk_at "pad") => `(tactic| skip)
local macro_rules | `(tactic| walk_at "pad") => `(tactic| skip)
local macro_rules | `(tactic| walk_at $s:str) => `(tactic| k_extra $s)
set_option hygiene false in
set_option hygiene false in
set_option hygiene false in
set_option hygiene false in
set_option hygiene false in
set_option hygiene false in
set_option hygiene false in
set_option hygiene false in
set_option hygiene false in
set_option hygiene false in
set_option hygiene false in
set_option hygiene false in
set_option hygiene false in
set_option hygiene false in
local macro_rules | `(tactic| walk_at "pyIter str") => `(tactic| (k_here; k_dflt (
  (refine' mark_iter rfl ?y7F1 ?y7N1 ?y7turn ?y7done)
  (case y7F1 => k_asm)
  (case y7N1 => k_asm)
  (case' y7turn => (k_whole; intro i9 n9 t9 u2 u3 u4 u5 u6 u7 h9 tk9 ow9 hn9 ho9 F9 N9; (simp only [List.cons_append] at N9); (have mk9 := Flt.Hid.mk (Flt.Hid.out mks n9 hn9)); (replace hn9 := Flt.Hid.mk hn9)))
  (case' y7done => (k_whole; intro u1 u2 u3 u4 u5 u6 u7 h9 tk9 F9 N9)))))
set_option hygiene false in
local macro_rules | `(tactic| walk_at "call ref") => `(tactic| (k_here; (with_reducible show wpAny _ _ (call (Value.ref 79) [Value.str _ _, Value.ref _]) _ _ _); k_dflt (
  (rcases Flt.Hid.out mk9 with ⟨rfl, hl9, lL, R, y, z, p0, p1, p2, p3, p4, pok⟩ | ⟨rfl, c9, hl9, lL, R, y, z, p0, p1, p2, p3, p4, pok⟩ | ⟨rfl, c9, hl9, lL, R, n5, y, z, pbad⟩ | ⟨rfl, c9, hl9, lL, R, y, z, p0, p1, p2, p3, p4, pok⟩ | ⟨rfl, c9, hl9, lL, R, n5, y, z, pbad⟩)
  (all_goals (first
    | (refine' c_parse_ok' hl9 pok ?y7hm _ _ _ _ _ _ _ _ _ _ _ _ _ _ _ _ _ ?y7B1 ?y7F1 ?y7X1 ?y7N1 ?y7T1 ?y7k1 ?y7d1 ?y7u1 ?_; (case y7N1 => k_asm); (case y7hm => k_mem); (case y7B1 => k_asm); (case y7F1 => k_asm); (case y7X1 => k_asm); (case y7T1 => k_asm); (case y7k1 => first | exact rfl | assumption); (case y7d1 => ktr_room); (case y7u1 => ktr_units); k_whole; intro D' t1' c1' h' tk' F' N' l1; (replace pok := Flt.Hid.mk pok); (try dsimp only); (try k_fold))
    | (refine' c_parse_bad _ _ _ _ _ _ _ _ t9 _ _ hl9 pbad _ _ _ _ _ _ _ _ _ _ _ _ _ _ _ _ _ ?y7B1 ?y7F1 ?y7X1 ?y7N1 ?y7T1 ?y7k1 ?y7d1 ?y7u1 ?_; (case y7N1 => k_asm); (case y7B1 => k_asm); (case y7F1 => k_asm); (case y7X1 => k_asm); (case y7T1 => k_asm); (case y7k1 => first | exact rfl | assumption); (case y7d1 => ktr_room); (case y7u1 => ktr_units); k_whole; intro e' g' h' tk' t' D5 o5 FG' T' U' R'; (replace pbad := Flt.Hid.mk pbad); (try dsimp only); (try k_fold)))))))
set_option hygiene false in
set_option hygiene false in
local macro_rules | `(tactic| k_all) => `(tactic| (refine fun p hp => hot p hp _ ?_; k_mem))
set_option hygiene false in
set_option hygiene false in
set_option hygiene false in
set_option hygiene false in
set_option hygiene false in
local macro_rules | `(tactic| k_all) => `(tactic| first | exact fun p hp => Nat.ne_of_lt (lq9 p hp) | exact fun p hp => Nat.ne_of_lt (lq8 p hp))
set_option hygiene false in

set_option rowWalk.seconds 0 in
set_option maxRecDepth 100000 in
set_option maxHeartbeats 20000000 in
theorem law_holds (TA : toldAll) (WA : wayAll) (OL : ordAll) : PySem.Challenge.rw_wu0055_01.Holds := hd (by
  k_with_none
  k_with "exec For Name BinOp cons nil" => (k_here; (rename Fr _ _ _ _ => lF'); (with_unfolding_all refine' For_invVF lF' ?y7k1 ?y7k2 ?_; (case y7k1 => exact rfl); (case y7k2 => exact rfl); k_whole))
  k_with "binaryOp RShift int int" => (k_here; k_dflt (refine' rshift_int ?y7kb1 ?_; (case y7kb1 => with_reducible assumption)))
  k_with "CompSrc" => (k_here; (try k_fmods); k_dflt ((refine LCg.CompSrc.range (by rfl) (by k_asm) (by k_asm) (by assumption) (by exact small_one (by kcf_bnd) (by kcf_bnd) (by kcf_bnd) (by kcf_bnd)) (by exact rangeSize_nat _ _) (by (rw [PySem.sizeLine_eq]; omega)) ?_); intro g'; (refine' kct_range (bitStr (n.fmod 2688)) (fun k' t' I' oI' C' oC' D' m' ys' h' tk' E' hlo' hhi' hC' hx' F' N' off' ne' => ?_) ?_); (all_goals (try (simp only [LCg.Off3, and_true] at off'))); (all_goals (try ((show KPfMark → _); intro hMark'))); kcf_last))
  k_with "KCtEl" => (refine' kct_el ?y7kce ?y7k1 ?y7k2; (case y7k1 => with_unfolding_all rfl); (case y7k2 => with_unfolding_all rfl); (case y7kce => first | exact bitStr_gt (by assumption) | exact bitStr_lt (by assumption)))
  k_with "call builtin:str.join" => (k_here; k_dflt ((with_reducible show wpAny _ _ (call (Value.builtin "str.join") [Value.str _ _, Value.ref _]) _ _ _); (with_reducible rename CarriedAll _ (List.map _ _) => ktC); (refine' join_way (Flt.Hid.out hway) ?y7jl ktC ?_; (case y7jl => first | is_list | exact News.isList (by k_asm) (by k_mem)); intro t' k')))
  k_with "CompEnd" => (refine' LCg.CompEnd.intro ?y7F ?y7N _ (fun _ hp => hp) ?y7off ?y7hS (kct_el ?y7kce rfl rfl); (case y7F => assumption); (case y7N => assumption); (case y7off => first | assumption | (simp only [LCg.Off3, and_true]; assumption)); (case y7hS => trivial); (case y7kce => first | exact bitStr_gt (by assumption) | exact bitStr_lt (by assumption)))
  k_with "subscriptTail Name Slice str ref" => (k_here; k_dflt (refine' slice_rev (Flt.Hid.out hrev) (Flt.Hid.out hlenr) ?y7F1 ?y7N1 ?_; (case y7F1 => k_asm); (case y7N1 => k_asm); k_whole; intro h' t' k' F' N'))
  k_with "call ref" => (k_here; k_dflt (refine' Ctr.up (c_told' (Flt.Hid.out hci) (Flt.Hid.out hc) (Flt.Hid.out hcd) (Flt.Hid.out ok1) (Flt.Hid.out t1)) _ _ _ _ _ _ _ _ _ _ _ _ _ _ _ _ _ ?y7B1 ?y7F1 ?y7X1 ?y7N1 ?y7T1 ?y7k1 ?y7d1 ?y7u1 ?_; (case y7B1 => k_asm); (case y7F1 => k_asm); (case y7X1 => k_asm); (case y7N1 => k_asm); (case y7T1 => k_asm); (case y7k1 => first | exact rfl | assumption); (case y7d1 => ktr_room); (case y7u1 => ktr_units); k_whole; intro D v1 v2 v3 v4 v5 c9 h9 tk9 hv2 F9 N9 l1 htk9; (try dsimp only at htk9); (try dsimp only at N9); (try simp only [AllLt, and_true] at l1); (try dsimp only); (try k_fold)))
  k_with "call ref" => (k_here; k_dflt (refine' Ctr.up (c_told' (Flt.Hid.out hci) (Flt.Hid.out hc) (Flt.Hid.out hcr) (Flt.Hid.out ok2) (Flt.Hid.out t2)) _ _ _ _ _ _ _ _ _ _ _ _ _ _ _ _ _ ?y7B1 ?y7F1 ?y7X1 ?y7N1 ?y7T1 ?y7k1 ?y7d1 ?y7u1 ?_; (case y7B1 => k_asm); (case y7F1 => k_asm); (case y7X1 => k_asm); (case y7N1 => k_asm); (case y7T1 => k_asm); (case y7k1 => first | exact rfl | assumption); (case y7d1 => ktr_room); (case y7u1 => ktr_units); k_whole; intro D v1 v2 v3 v4 v5 c9 h9 tk9 hv2 F9 N9 l1 htk9; (try dsimp only at htk9); (try dsimp only at N9); (try simp only [AllLt, and_true] at l1); (try dsimp only); (try k_fold)))
  k_with "call ref" => (k_here; k_dflt (refine' c_spelled' (Flt.Hid.out sp) _ _ _ _ _ _ _ _ _ _ _ _ _ _ _ _ _ ?y7B1 ?y7F1 ?y7X1 ?y7N1 ?y7T1 ?y7k1 ?y7d1 ?y7u1 ?_; (case y7B1 => k_asm); (case y7F1 => k_asm); (case y7X1 => k_asm); (case y7N1 => k_asm); (case y7T1 => k_asm); (case y7k1 => first | exact rfl | assumption); (case y7d1 => ktr_room); (case y7u1 => ktr_units); k_whole; intro t9 h9 tk9 F9 N9; (try dsimp only); (try k_fold)))
  k_with "call ref" => (k_here; k_dflt (refine' c_saws' (Flt.Hid.out saw) _ _ _ _ _ _ _ _ _ _ _ _ _ _ _ _ _ ?y7B1 ?y7F1 ?y7X1 ?y7N1 ?y7T1 ?y7k1 ?y7d1 ?y7u1 ?_; (case y7B1 => k_asm); (case y7F1 => k_asm); (case y7X1 => k_asm); (case y7N1 => k_asm); (case y7T1 => k_asm); (case y7k1 => first | exact rfl | assumption); (case y7d1 => ktr_room); (case y7u1 => ktr_units); k_whole; intro t9 h9 tk9 F9 N9; (try dsimp only); (try k_fold)))
  k_with "call ref" => (k_here; k_dflt (refine' c_html' (Flt.Hid.out html) _ _ _ _ _ _ _ _ _ _ _ _ _ _ _ _ _ ?y7B1 ?y7F1 ?y7X1 ?y7N1 ?y7T1 ?y7k1 ?y7d1 ?y7u1 ?_; (case y7B1 => k_asm); (case y7F1 => k_asm); (case y7X1 => k_asm); (case y7N1 => k_asm); (case y7T1 => k_asm); (case y7k1 => first | exact rfl | assumption); (case y7d1 => ktr_room); (case y7u1 => ktr_units); k_whole; intro t9 h9 tk9 F9 N9; (try dsimp only); (try k_fold)))
  k_with "call ref" => (k_here; k_dflt (refine' c_c14n' (Flt.Hid.out c14n) _ _ _ _ _ _ _ _ _ _ _ _ _ _ _ _ _ ?y7B1 ?y7F1 ?y7X1 ?y7N1 ?y7T1 ?y7k1 ?y7d1 ?y7u1 ?_; (case y7B1 => k_asm); (case y7F1 => k_asm); (case y7X1 => k_asm); (case y7N1 => k_asm); (case y7T1 => k_asm); (case y7k1 => first | exact rfl | assumption); (case y7d1 => ktr_room); (case y7u1 => ktr_units); k_whole; intro t9 h9 tk9 F9 N9; (try dsimp only); (try k_fold)))
  k_with "execs cons" => (k_here; refine wpAny_execs_cons ?_)
  k_with "execs nil" => (k_here; refine wpAny_execs_nil ?_)
  k_with "compareOp NotEq ref ref" => (k_here; k_dflt (refine' ne_five ?y7N ?y7l ?y7b ?y7x ?y7y ?y7t ?y7nb ?y7u ?_; (case y7N => k_asm); (case y7l => k_mem); (case y7b => k_mem); (case y7x => decide +kernel); (case y7y => decide +kernel); (case y7t => refine ⟨?_, ?_, ?_, ?_⟩ <;> first | with_reducible assumption | ((try dsimp only); omega)); (case y7nb => exact noneBooked (Frag.In.keeps (by k_asm) (Fr.keep (by k_asm)))); (case y7u => first | k_units | ktr_units)))
  k_with "call builtin:len" => (k_here; k_dflt ((with_reducible show wpAny _ _ (call (Value.builtin "len") [Value.str _ _]) _ _ _); refine' len_str ?y7k1 ?_; (case y7k1 => first | exact fit_len (Flt.Hid.out lXC) | exact fit_len (Flt.Hid.out lXH))))
  k_with "call type:str" => (k_here; k_dflt ((with_reducible show wpAny _ _ (call (Value.type "str") [Value.int _ _]) _ _ _); first | (refine' str_small (Flt.Hid.out hcs).1 (Flt.Hid.out hcs).2 ?_) | (refine' str_small (Flt.Hid.out hns).1 (Flt.Hid.out hns).2.1 ?_)))
  k_with "exec For Name Constant cons nil" => (k_here; (rename Fr _ _ _ _ => lF'); (with_unfolding_all refine' For_invVF lF' ?y7k1 ?y7k2 ?_; (case y7k1 => exact rfl); (case y7k2 => exact rfl); k_whole))
  k_with "noteFrame ref" => (k_here; (rename RaisedK _ _ _ _ _ _ _ _ => rkX); k_dflt (refine' caught_cell (bmB := [.type "Exception", .type "BaseException", .type "object"]) (newId := "Exception.__new__") ?y7K ?y7F ?y7U ?y7R ?y7X ?y7T ?y7ex ?y7q ?y7hb ?_; (case y7K => assumption); (case y7F => assumption); (case y7U => assumption); (case y7R => exact rkX); (case y7X => k_asm); (case y7T => k_asm); (case y7ex => k_is); (case y7q => k_exc); (case y7hb => rfl); k_whole); intro h' n₂ tk' F' N₂ G' N'; (try k_sweep))
  k_with "exec Try" => (k_here; refine wpAny_Try_except ?_)
  k_with "compareOp NotEq ref ref" => (k_here; k_dflt (refine' ne_three ?y7N ?y7l ?y7b ?y7x ?y7y ?y7u ?_; (case y7N => k_asm); (case y7l => k_mem); (case y7b => k_mem); (case y7x => exact Mine.text_assoc); (case y7y => exact rfl); (case y7u => first | k_units | ktr_units)))
  k_with "compareOp NotEq ref ref" => (k_here; k_dflt (refine' ne_one ?y7N ?y7l ?y7b ?y7x ?y7u ?_; (case y7N => k_asm); (case y7l => k_mem); (case y7b => k_mem); (case y7x => exact rfl); (case y7u => first | k_units | ktr_units)))
  k_with "call builtin:list.extend" => (k_here; k_dflt (refine' ext_two ?y7F ?y7N ?y7b ?y7z ?y7U ?_; (case y7F => k_asm); (case y7N => k_asm); (case y7b => k_mem); (case y7U => k_upd); (case y7z => first | exact hzN | exact hzH); k_whole; intro h' F' N'; (try dsimp only at N'); (try k_sweep)))
  k_with "call type:str" => (k_here; (with_reducible show wpAny _ _ (call (Value.type "str") [Value.ref _]) _ _ _); (rename Got _ _ _ _ _ => gX); k_dflt (refine' str_ownexc ?y7u ?y7X ?y7F ?y7N gX ?y7s ?y7m ?_; (case y7F => k_asm); (case y7X => k_asm); (case y7N => assumption); (case y7u => k_units); (case y7s => k_is); (case y7m => k_is); k_whole))
  k_with "bind" => (k_here; (with_reducible show wpAny _ _ (do bindName (envX _ _ _ _ _ _) _ Value.none; unbindBehindTheSuite (envX _ _ _ _ _ _) _ _) _ _ _); k_dflt (refine' name_goes_cell ?y7F ?y7N ?_ ?y7k ?y7l; (case y7F => k_asm); (case y7N => k_asm); (case y7k => rfl); (case y7l => rfl); k_whole); intro h' v' F' N'; (try k_sweep))
  k_with "call builtin:len" => (k_here; (with_reducible show wpAny _ _ (call (Value.builtin "len") [Value.ref _]) _ _ _); k_dflt (refine' kun_lenL ?y7l hkHc ?y7z ?_; (case y7l => exact News.isList (by k_asm) (by k_mem)); (case y7z => omega); k_whole))
  k_with "eval Lambda" => (k_here; (with_reducible rename IsRange _ _ _ _ _ _ _ _ => rgX); (with_reducible rename News _ _ _ _ => rgN); k_dflt (have rgM := rng_news rgX (by k_asm) rgN); k_dflt (have rgL := rng_lt rgX (by k_asm)); clear rgX rgN; (try k_lt rgL); walk_at "eval Lambda")
  k_with "subscriptTail" => (k_here; (with_reducible show wpAny _ _ (subscriptTail _ _ (Value.ref _) (Value.int _ _)) _ _ _); k_dflt (refine' sub_own ?y7N ?y7m hv ?y7z ?_; (case y7N => k_asm); (case y7m => k_mem); (case y7z => omega); k_whole))
  k_with "eval ListComp" => (k_here; (have mk7 := hord); clear mk7; k_dflt (refine LCg.ListComp_U (F₀ := by k_asm) (by with_unfolding_all rfl) (by decide) (by rfl) (by decide) (by rfl) ?_))
  k_with "newList" => (k_here; k_dflt (refine' newList_K ?y7k1 ?y7k2 ?_ ?y7z; (case y7k1 => k_asm); (case y7k2 => k_asm); (case y7z => exact Nat.le_of_ble_eq_true rfl); k_whole); intro l' h' F' N' l1; (try k_lt l1); (try k_sweep))
  k_with "own_mem" => first | (refine' List.Mem.head _) | (refine' List.Mem.tail _ ?_; walk_at "own_mem")
  k_go0; (all_goals try k_fold)
  k_steps
  refine' law_iter LawP trivial ?y7hh ?y7hi ?y7F1 (law_news ?y7N1) ?y7dN ?y7dH ?y7dV ?_ ?_
  case y7hh => exact rfl
  case y7hi => l_ints
  case y7F1 => k_asm
  case y7N1 => k_asm
  case y7dN => assumption
  case y7dH => assumption
  case y7dV => assumption
  rotate_left
  · as_aux_lemma =>
      intro m₁ oN oH oV vV vsN vsH ts hs kN kH qs h' tk hat F' N'
      obtain ⟨dN, dH, dV, hnm, hhu, hlN, hlH, hgd, hqs⟩ := hat
      obtain ⟨k, hkN⟩ : ∃ k : Nat, vsN.length = k := ⟨_, rfl⟩
      have hk1 : 2 ≤ k := by rw [← hkN, hlN, List.length_append]; simp only [List.length_cons, List.length_nil, List.length_take]; omega
      have hk2 : k < 64 := by rw [← hkN, hlN, List.length_append]; simp only [List.length_cons, List.length_nil, List.length_take]; omega
      have hkH : vsH.length = k := by rw [hlH, ← hkN, hlN]
      have hkHc : (vsH.toArray.size : Int) = (k : Int) := by rw [List.size_toArray, hkH]
      clear hlN hlH
      replace hnm := Flt.Hid.mk hnm
      replace hhu := Flt.Hid.mk hhu
      replace hgd := Flt.Hid.mk hgd
      (try dsimp only)
      k_steps
      k_here; ksk_kw; ksk_show
      with_unfolding_all refine' rng_sortedK ?y7hh ?y7F ?y7N ?y7hr hk1 hk2 ?y7a1 ?y7a2 ?y7a3 ?_
      case y7hh => rfl
      case y7F => k_asm
      case y7N => k_asm
      case y7hr => exact rng_of (by k_asm) (by k_mem)
      case y7a1 => ksk_a1
      case y7a2 => (intro _; ksk_a2)
      case y7a3 => (intro _; ksk_a3)
      k_whole
      intro vs9 D9 kS9 e9 h9 tk9 hvl hvi F9 N9 l8 l9
      have lq9 : ∀ p ∈ qs, @LT.lt Nat _ p.1 D9 := fun p hp => l9 p (by repeat (first | exact hp | refine List.Mem.tail _ ?_))
      have lq8 : ∀ p ∈ qs, @LT.lt Nat _ p.1 kS9 := fun p hp => Nat.lt_trans (lq9 p hp) l8
      k_lt l9; k_lt2 l8
      refine' keys_run (R2 := fun x v => ∃ (i : Nat) (t : Tok), x = .int (i : Int) t ∧ vsH[i]? = some v) (ks₁ := vsH) ?y7one77 ?y7fin77 vs9 vsH [] 0 h9 tk9 ?y7l77 ?y7h77 ?y7e77 ?y7F77 ?y7N77
      case y7l77 => rw [hvl, hkH]
      case y7h77 =>
        intro i hi
        obtain ⟨t, ht⟩ := hvi i (by rw [← hvl]; exact hi)
        refine ⟨i, t, ?_, ?_⟩
        · rw [List.getD_eq_getElem?_getD, ht]; rfl
        · have hi' : i < vsH.length := by rw [hkH, ← hvl]; exact hi
          rw [List.getD_eq_getElem?_getD, List.getElem?_eq_getElem hi']; rfl
      case y7e77 => exact List.nil_append _
      case y7F77 => k_asm
      case y7N77 => k_asm
      case y7one77 =>
        intro x v ks e h tk C hR F' N' hC
        obtain ⟨i, t, rfl, hv⟩ := hR
        k_steps
        exact hC _ _ _ (by assumption) (by assumption)
      case y7fin77 =>
        intro e h tk F' N'
        (try dsimp only)
        refine sort_floats (Flt.Hid.out hhu) hkH hk1 ?_
        intro hp9
        k_steps
        k_dflt (refine' KasFin.intro ?y7F ?y7N ?y7U ?_; (case y7F => k_asm); (case y7N => k_asm); (case y7U => k_updF); k_whole)
        intro h' c' F' N'; (try dsimp only at N')
        obtain ⟨ord, hord⟩ : ∃ ord, ord = List.map (fun i => vs9.getD i Value.none) (kRun (bF hs) (kas_sort k)).toList := ⟨_, rfl⟩
        rw [← hord] at N'
        k_steps
        refine' names_sorted ?y7F ?y7N ?y7m (Flt.Hid.out hnm) ?y7sub hkN hk1 hk2 ?y7lt ?y7fin
        case y7F => k_asm
        case y7N => k_asm
        case y7m => k_mem
        case y7sub => exact fun p hp => by repeat (first | exact hp | refine List.Mem.tail _ ?_)
        case y7lt => k_dflt (refine' lt_holds ?y7B1 ?y7X1 ?y7T1 ?y7k1 ?y7d1 ?y7u1; (case y7B1 => k_asm); (case y7X1 => k_asm); (case y7T1 => k_asm); (case y7k1 => first | exact rfl | assumption); (case y7d1 => ktr_room); (case y7u1 => first | ktr_units | k_units))
        case y7fin =>
          intro D7 e7 h7 tk7 hlt7 hp7 F7 N7
          have lq9 : ∀ p ∈ qs, @LT.lt Nat _ p.1 D7 := fun p hp => hlt7 p (by repeat (first | exact hp | refine List.Mem.tail _ ?_))
          k_lt hlt7
          k_dflt (refine' KasFin.intro ?y7F ?y7N ?y7U ?_; (case y7F => k_asm); (case y7N => k_asm); (case y7U => k_updF); k_whole)
          intro h' c' F' N'; (try dsimp only at N')
          obtain ⟨nms, hnms⟩ : ∃ nms, nms = List.map (fun i => vsN.getD i Value.none) (kRun (bT ts) (kas_sort k)).toList := ⟨_, rfl⟩
          rw [← hnms] at N'
          have hlT : ts.length = k := by rw [← (namesAt (Flt.Hid.out hnm)).1]; exact hkN
          rw [same_run OL (Flt.Hid.out hgd) hlT hk1] at hnms hp7
          obtain ⟨P, hP⟩ : ∃ P, P = (kRun (bF hs) (kas_sort k)).toList := ⟨_, rfl⟩
          have hPm : ∀ x ∈ P, x < k := fun x hx => hp7.mem x (by rw [hP] at hx; exact Array.mem_toList_iff.mp hx)
          have hPl : P.length = k := by rw [hP, Array.length_toList]; exact hp7.size
          rw [← hP] at hnms hord
          clear hp7 hp9 hP
          have hzn : nms.toArray.size ≤ sizeLine := by rw [ord_len hnms, hPl, sizeLine_eq]; omega
          have hzo : ord.toArray.size ≤ sizeLine := by rw [ord_len hord, hPl, sizeLine_eq]; omega
          replace hnms := Flt.Hid.mk hnms
          k_steps
          refine' LCg.CompSrc.ledger ?y7hh ?y7F ?y7N ?y7m hzn ?_
          case y7hh => rfl
          case y7F => k_asm
          case y7N => k_asm
          case y7m => k_mem
          intro g'
          refine' txt_rest (rs := textsOf ts P) ?y7len ?y7turn ?y7fin
          case y7len => rw [textsOf_len, ord_len (Flt.Hid.out hnms)]
          case y7turn =>
            intro i8 v8 r8 I8 oI8 C8 oC8 D8 m8 ys8 h8 tk8 E8 hi8 hr8 hv8 hC8 hx8 F8 N8 off8 ne8
            obtain ⟨q8, d8, k18, k28, rfl, mq1, mq2⟩ := nm_at (Flt.Hid.out hnm) hkN hPm (Flt.Hid.out hnms) hv8 hr8
            have N9x := news_two (p := (q8, instObj 153 d8)) (q := nameObj _ d8 r8 k18 k28) N8 (by repeat (first | exact mq1 | refine List.Mem.tail _ ?_)) (by repeat (first | exact mq2 | refine List.Mem.tail _ ?_))
            clear hr8 hv8
            k_steps
            exact LCg.CompEnd.intro F8 N8 _ (fun _ hp => hp) off8 (Or.inr ⟨_, by k_mem, rfl, _, rfl⟩) (kct_el rfl rfl rfl)
          case y7fin =>
            intro ys8 hs8
            k_steps
            refine' LCg.CompSrc.ledger ?y7hh ?y7F ?y7N ?y7m hzo ?_
            case y7hh => rfl
            case y7F => k_asm
            case y7N => k_asm
            case y7m => k_mem
            intro g'
            refine' txt_rest (rs := textsOf ts P) ?y7len ?y7turn ?y7fin
            case y7len => rw [textsOf_len, ord_len hord]
            case y7turn =>
              intro i8 v8 r8 I8 oI8 C8 oC8 D8 m8 ys9 h8 tk8 E8 hi8 hr8 hv8 hC8 hx8 F8 N8 off8 ne8
              obtain ⟨j8, t8, u8, rfl, hv, q8, d8, k18, k28, rfl, mq1, mq2⟩ := or_at (Flt.Hid.out hnm) hkN hPm hvi hord hv8 hr8
              have N9x := news_two (p := (q8, instObj 153 d8)) (q := nameObj _ d8 r8 k18 k28) N8 (by repeat (first | exact mq1 | refine List.Mem.tail _ ?_)) (by repeat (first | exact mq2 | refine List.Mem.tail _ ?_))
              clear hr8 hv8
              clear hnms hlT hzn hzo hvi hord hvl hs8
              k_steps
              exact LCg.CompEnd.intro F8 N8 _ (fun _ hp => hp) off8 (Or.inr ⟨_, by k_mem, rfl, _, rfl⟩) (kct_el rfl rfl rfl)
            case y7fin =>
              intro ys9 hs9
              unfold LCg.FinE
              intro D5 h5 tk5 F5 N5 o5
              refine' eq_texts ?y7N88 ?y7a88 ?y7b88 hs8 hs9 ?y7u88 ?_
              case y7N88 => k_asm
              case y7a88 => k_mem
              case y7b88 => k_mem
              case y7u88 => first | k_units | ktr_units
              (try dsimp only)
              walk1
              · refine goodW_bool (by assumption) (by assumption) (raisesW_false ?_) ?_
                · wrow_none_raised
                · exact postW_of (by wrow_shape) (by wtm_val) rfl
              · walk1
  · intro i n t m₁ oN oH oV vV vsN vsH ts hs kN kH qs own tl h' tk hin hat htl hoq hot F' N'
    obtain ⟨dN, dH, dV, hnm, hhu, hlN, hlH, hgd, hqs⟩ := hat
    obtain ⟨c, cd, h1, h2, P9, Q9, R9, S9, XC, XH, cs, ns, TF, dom1, dom2, mks⟩ := turn_facts2 TA WA (v := n.fmod 2688) (Int.fmod_nonneg_of_pos n (by decide)) (Int.fmod_lt_of_pos n (by decide))
    have hc := Flt.Hid.mk TF.hc
    have hci := Flt.Hid.mk TF.hci
    have hway := Flt.Hid.mk TF.hway
    have hcd := Flt.Hid.mk TF.hcd
    have hcr := Flt.Hid.mk TF.hcr
    have hrev := Flt.Hid.mk TF.hrev
    have hlenr := Flt.Hid.mk TF.hlenr
    have ok1 := Flt.Hid.mk TF.ok1
    have ok2 := Flt.Hid.mk TF.ok2
    have t1 : Flt.Hid (told c cd = ⟨h1, 0x3ff0000000000000, (n.fmod 2688).fmod 6, P9, Q9⟩) := Flt.Hid.mk (by rw [TF.hci]; exact TF.t1)
    have t2 : Flt.Hid (told c cd.reverse = ⟨h2, 0x3ff0000000000000, (n.fmod 2688).fmod 6, R9, Q9⟩) := Flt.Hid.mk (by rw [TF.hci]; exact TF.t2)
    have sp := Flt.Hid.mk TF.sp
    have saw := Flt.Hid.mk (And.intro TF.bd TF.hS)
    have html := Flt.Hid.mk TF.html
    have c14n := Flt.Hid.mk TF.c14n
    have bP1 := TF.bd.1
    have bP2 := TF.bd.2.1
    have bQ1 := TF.bd.2.2.1
    have bQ2 := TF.bd.2.2.2
    have bR1 := TF.br.1
    have bR2 := TF.br.2
    have inv : ((P9 * R9).fmod Q9 != 1) = false := by rw [TF.inv]; rfl
    have num : (3 * (3 * S9).fdiv Q9 != Q9 * ((XC.length : Int) - (XH.length : Int) - 3) + 3 * (P9 + R9)) = false := by rw [TF.num]; simp
    have hcs : Flt.Hid (((n.fmod 2688).fmod 6).natAbs < 2 ^ 64 ∧ Str.ofString (toString ((n.fmod 2688).fmod 6)) = cs) := Flt.Hid.mk (by rw [TF.hci]; exact ⟨by have := TF.hc; omega, TF.hcs.1⟩)
    have lcs := TF.hcs.2
    have hns := Flt.Hid.mk TF.hns
    have lns := TF.hns.2.2
    have lcd := TF.hlen
    have lcr := TF.hlenr
    have lXC := Flt.Hid.mk TF.lens.1
    have lXH := Flt.Hid.mk TF.lens.2
    have tne : (KStt.txt cd != KStt.txt cd) = false := by simp
    replace mks := Flt.Hid.mk mks
    replace dom1 := Flt.Hid.mk dom1
    replace dom2 := Flt.Hid.mk dom2
    have hsm := idx_small hin
    have hzN : vsN.length ≤ 100 := by rw [hlN]; omega
    have hzH : vsH.length ≤ 100 := by rw [hlH]; omega
    have e61 := eq61
    have e60 := eq60
    have e62 := eq62
    have g60 := gt60
    have g62 := gt62
    have s60 := lt60
    have s62 := lt62
    replace hnm := Flt.Hid.mk hnm
    replace hhu := Flt.Hid.mk hhu
    replace hlN := Flt.Hid.mk hlN
    replace hlH := Flt.Hid.mk hlH
    replace hgd := Flt.Hid.mk hgd
    replace hin := Flt.Hid.mk hin
    replace htl := Flt.Hid.mk htl
    replace TF := Flt.Hid.mk TF
    iterate 355 (first | (k_unfold; (try dsimp only)) | (k_end; wrow_close) | walk1 | (dsimp only; walk1) | (leave1; walk_say "STEP leave1"; try dsimp only))
    · as_aux_lemma =>
        clear t1 t2 sp saw html c14n hrev hway ok1 ok2 hlenr hcr TF
        k_steps
        replace hnm := Flt.Hid.out hnm
        replace hhu := Flt.Hid.out hhu
        replace hlN := Flt.Hid.out hlN
        replace hlH := Flt.Hid.out hlH
        replace hgd := Flt.Hid.out hgd
        replace htl := Flt.Hid.out htl
        refine' law_end ⟨dN, dH, dV, hnm, hhu, hlN, hlH, hgd, hqs⟩ htl hoq hot ?y7r91F ?y7r91N ?y7r91dV ?y7r91hsub ?y7r91o1 ?y7r91o2 ?y7r91o3 ?y7r91o4 ?y7r91ho (Flt.Hid.out dom1) (Flt.Hid.out dom2)
        case y7r91F => k_asm
        case y7r91N => k_asm
        case y7r91dV => assumption
        case y7r91hsub =>
          unfold lawLed
          repeat (refine' List.forall_mem_cons.mpr ⟨?_, ?_⟩; (walk_at "own_mem"))
          intro p hp
          repeat (first | exact hp | refine' List.Mem.tail _ ?_)
        case y7r91o2 => refine off_last ?_; refine off_and (by assumption) ?_; intro h; repeat (first | exact h | replace h := h.2)
        case y7r91o4 => refine off_last ?_; refine off_and (by assumption) ?_; intro h; repeat (first | exact h | replace h := h.2)
        case y7r91o1 => refine off_lt (by assumption) ?_; refine off_and (by assumption) ?_; intro h; repeat (first | exact h | replace h := h.2)
        case y7r91o3 => refine off_lt (by assumption) ?_; refine off_and (by assumption) ?_; intro h; repeat (first | exact h | replace h := h.2)
        case y7r91ho =>
          refine ho_of (by assumption) ?_ (by assumption) ?_
          · omega
          · unfold lawAdr
            repeat (refine' List.forall_mem_cons.mpr ⟨?_, ?_⟩; omega)
            exact List.forall_mem_nil _
    · as_aux_lemma =>
        clear t1 t2 sp saw html c14n hrev hway ok1 ok2 hlenr TF hnm hhu hlN hlH hgd htl hin num inv dom1 dom2
        k_steps
        all_goals (
          refine' mark_end ?y7m92F ?y7m92N ?y7m92hm ?y7m92ho ?y7m92hs
          case y7m92F => k_asm
          case y7m92N => k_asm
          case y7m92hm => intro y h1 h2 h3 h4 h5 h6 h7; (try dsimp only); simp only [markMap, if_neg h1, if_neg h2, if_neg h3, if_neg h4, if_neg h5, if_neg h6, if_neg h7]
          case y7m92ho => exact ho9
          case y7m92hs =>
            simp only [List.cons_append]
            repeat (refine' List.forall_mem_cons.mpr ⟨?_, ?_⟩; (walk_at "own_mem"))
            intro p hp
            repeat (first | exact hp | refine' List.Mem.tail _ ?_)))
end Mine
end
section
open PySem PySem.W PyProof.Rows PySem.Calls PySem.Spec
set_option linter.unusedVariables false
namespace Mine
/-! the model's floats once more, in a shape that the kernel reckons quickly -/
noncomputable abbrev bi {α : Type} (c : Bool) (t f : α) : α := @Bool.rec (fun _ => α) f t c
theorem addE (a b : Nat) : Nat.add a b = a + b := (Nat.zero_add _).symm.trans (Nat.zero_add _)
theorem subE (a b : Nat) : Nat.sub a b = a - b := (Nat.zero_add _).symm.trans (Nat.zero_add _)
theorem mulE (a b : Nat) : Nat.mul a b = a * b := (Nat.zero_add _).symm.trans (Nat.zero_add _)
theorem divE (a b : Nat) : Nat.div a b = a / b := (Nat.zero_add _).symm.trans (Nat.zero_add _)
theorem modE (a b : Nat) : Nat.mod a b = a % b := (Nat.zero_add _).symm.trans (Nat.zero_add _)
theorem powE (a b : Nat) : Nat.pow a b = a ^ b := (Nat.zero_add _).symm.trans (Nat.zero_add _)
theorem sucE (a : Nat) : Nat.succ a = a + 1 := (Nat.zero_add _).symm.trans (Nat.zero_add _)
theorem beqE (a b : Nat) : Nat.beq a b = decide (a = b) := by
  rw [Bool.eq_iff_iff, Nat.beq_eq, decide_eq_true_eq]
theorem bleE (a b : Nat) : Nat.ble a b = decide (a ≤ b) := by
  rw [Bool.eq_iff_iff, Nat.ble_eq, decide_eq_true_eq]
theorem biE {α : Type} (p : Prop) [Decidable p] (a b : α) : bi (decide p) a b = if p then a else b := by
  by_cases h : p
  · rw [decide_eq_true h, if_pos h]
  · rw [decide_eq_false h, if_neg h]
noncomputable def hE (a b : Nat) : Nat :=
  let q := Nat.div a b
  let r := Nat.mul 2 (Nat.mod a b)
  bi (Nat.ble (Nat.succ b) r) (Nat.succ q) (bi (Nat.beq r b) (bi (Nat.beq (Nat.mod q 2) 1) (Nat.succ q) q) q)
theorem hE_eq (a b : Nat) : Float64.halfEven a b = hE a b := by
  unfold hE
  simp only [divE, mulE, modE, sucE, beqE, bleE, biE]
  unfold Float64.halfEven
  simp only
  by_cases h1 : b + 1 ≤ 2 * (a % b)
  · rw [if_pos h1, if_pos (by simp; omega)]
  · rw [if_neg h1]
    by_cases h2 : 2 * (a % b) = b
    · rw [if_pos h2]
      by_cases h3 : a / b % 2 = 1
      · rw [if_pos h3, if_pos (by simp [h2, h3])]
      · rw [if_neg h3, if_neg (by simp [h3]; omega)]
    · rw [if_neg h2, if_neg (by simp [h2]; omega)]
noncomputable def k52 : Nat := 4503599627370496
noncomputable def kInf : Nat := 9218868437227405312
theorem k52_eq : k52 = 2 ^ 52 := by decide +kernel
theorem kInf_eq : kInf = Float64.infMag := by decide +kernel
/-! log2 by halves: the kernel has no rule of its own for it -/
noncomputable abbrev lgS (w P : Nat) (f : Nat → Nat) (n : Nat) : Nat := bi (Nat.ble P n) (Nat.add w (f (Nat.div n P))) (f n)
noncomputable def lg1 (n : Nat) : Nat := bi (Nat.ble 2 n) 1 0
noncomputable def lg2 (n : Nat) : Nat := lgS 2 4 lg1 n
noncomputable def lg4 (n : Nat) : Nat := lgS 4 16 lg2 n
noncomputable def lg8 (n : Nat) : Nat := lgS 8 256 lg4 n
noncomputable def lg16 (n : Nat) : Nat := lgS 16 65536 lg8 n
noncomputable def lg32 (n : Nat) : Nat := lgS 32 4294967296 lg16 n
noncomputable def lg64 (n : Nat) : Nat := lgS 64 18446744073709551616 lg32 n
set_option exponentiation.threshold 3000
noncomputable def lg128 (n : Nat) : Nat := lgS 128 (Nat.pow 2 128) lg64 n
noncomputable def lg256 (n : Nat) : Nat := lgS 256 (Nat.pow 2 256) lg128 n
noncomputable def lg512 (n : Nat) : Nat := lgS 512 (Nat.pow 2 512) lg256 n
noncomputable def lg1024 (n : Nat) : Nat := lgS 1024 (Nat.pow 2 1024) lg512 n
noncomputable def lg (n : Nat) : Nat := bi (Nat.ble (Nat.pow 2 128) n) (bi (Nat.ble (Nat.pow 2 2048) n) (Nat.log2 n) (lg1024 n)) (lg64 n)
theorem log2_split {n w : Nat} (h : 2 ^ w ≤ n) : n.log2 = w + (n / 2 ^ w).log2 := by
  have hp : 0 < 2 ^ w := Nat.two_pow_pos w
  have hn : n ≠ 0 := by omega
  have hq : n / 2 ^ w ≠ 0 := by have := Nat.div_pos h hp; omega
  rw [Nat.log2_eq_iff hn]
  have k := (Nat.log2_eq_iff hq).mp rfl
  generalize (n / 2 ^ w).log2 = l at *
  constructor
  · rw [Nat.pow_add, Nat.mul_comm]
    exact (Nat.le_div_iff_mul_le hp).mp k.1
  · rw [show w + l + 1 = (l + 1) + w by omega, Nat.pow_add]
    exact (Nat.div_lt_iff_lt_mul hp).mp k.2
theorem lgS_eq {w P : Nat} {f : Nat → Nat} (hP : P = 2 ^ w) (hf : ∀ m, m < P → f m = m.log2) (n : Nat) (h : n < P * P) : lgS w P f n = n.log2 := by
  have hp : 0 < P := by rw [hP]; exact Nat.two_pow_pos w
  unfold lgS
  rw [bleE, biE, addE, divE]
  split
  · rename_i k
    rw [hf _ (Nat.div_lt_of_lt_mul h), hP]
    exact (log2_split (hP ▸ k)).symm
  · rename_i k
    exact hf _ (by omega)
theorem lg1_eq (n : Nat) (h : n < 4) : lg1 n = n.log2 := by
  match n, h with
  | 0, _ => decide +kernel
  | 1, _ => decide +kernel
  | 2, _ => decide +kernel
  | 3, _ => decide +kernel
theorem lg2_eq (n : Nat) (h : n < 16) : lg2 n = n.log2 := lgS_eq rfl lg1_eq n h
theorem lg4_eq (n : Nat) (h : n < 256) : lg4 n = n.log2 := lgS_eq (by decide) lg2_eq n h
theorem lg8_eq (n : Nat) (h : n < 65536) : lg8 n = n.log2 := lgS_eq (by decide) lg4_eq n h
theorem lg16_eq (n : Nat) (h : n < 4294967296) : lg16 n = n.log2 := lgS_eq (by decide) lg8_eq n h
theorem lg32_eq (n : Nat) (h : n < 18446744073709551616) : lg32 n = n.log2 := lgS_eq (by decide) lg16_eq n h
theorem lg64_eq (n : Nat) (h : n < 2 ^ 128) : lg64 n = n.log2 := lgS_eq (by decide) lg32_eq n h
theorem lgP_eq (w : Nat) {f : Nat → Nat} (hf : ∀ m, m < 2 ^ w → f m = m.log2) (n : Nat) (h : n < 2 ^ (w + w)) : lgS w (Nat.pow 2 w) f n = n.log2 := by
  refine lgS_eq (powE _ _) ?_ n ?_
  · rw [powE]; exact hf
  · rw [powE, ← Nat.pow_add]; exact h
theorem lg128_eq (n : Nat) (h : n < 2 ^ (128 + 128)) : lg128 n = n.log2 := lgP_eq 128 lg64_eq n h
theorem lg256_eq (n : Nat) (h : n < 2 ^ (256 + 256)) : lg256 n = n.log2 := lgP_eq 256 lg128_eq n h
theorem lg512_eq (n : Nat) (h : n < 2 ^ (512 + 512)) : lg512 n = n.log2 := lgP_eq 512 lg256_eq n h
theorem lg1024_eq (n : Nat) (h : n < 2 ^ (1024 + 1024)) : lg1024 n = n.log2 := lgP_eq 1024 lg512_eq n h
theorem lg_eq (n : Nat) : lg n = n.log2 := by
  unfold lg
  rw [bleE, biE, bleE, biE, powE, powE]
  split
  · split
    · rfl
    · rename_i h; exact lg1024_eq n (Nat.lt_of_not_le h)
  · rename_i h; exact lg64_eq n (Nat.lt_of_not_le h)
noncomputable def rM (n d : Nat) : Nat :=
  bi (Nat.beq n 0) 0 (
    let ln := lg n
    let ld := lg d
    let t := Nat.sub (Nat.add ln (bi (Nat.ble (Nat.mul d (Nat.pow 2 (Nat.sub ln ld))) (Nat.mul n (Nat.pow 2 (Nat.sub ld ln)))) 1022 1021)) ld
    let v := Nat.add (Nat.mul t k52) (hE (Nat.mul n (Nat.pow 2 (Nat.sub 1074 t))) (Nat.mul d (Nat.pow 2 (Nat.sub t 1074))))
    bi (Nat.ble v kInf) v kInf)
theorem shift_neg (n d : Nat) (a b : Nat) : Float64.shift n d (-((a : Int) - b)) = (n * 2 ^ (b - a), d * 2 ^ (a - b)) := by
  unfold Float64.shift
  split
  · rename_i h
    rw [show (-((a : Int) - b)).toNat = b - a by omega, show a - b = 0 by omega, Nat.pow_zero, Nat.mul_one]
  · rename_i h
    rw [show (-(-((a : Int) - b))).toNat = a - b by omega, show b - a = 0 by omega, Nat.pow_zero, Nat.mul_one]
theorem rM_eq (n d : Nat) : Float64.roundMag n d = rM n d := by
  unfold rM
  simp only [mulE, addE, subE, powE, beqE, bleE, biE, k52_eq, kInf_eq, lg_eq]
  unfold Float64.roundMag
  by_cases h0 : n = 0
  · rw [if_pos (by simpa using h0), if_pos h0]
  rw [if_neg (by simpa using h0), if_neg h0]
  simp only [shift_neg]
  generalize n.log2 = L
  generalize d.log2 = M
  have he : max (if n * 2 ^ (M - L) ≥ d * 2 ^ (L - M) then (L : Int) - M - 52 else (L : Int) - M - 53) (-1074) =
      (((L + (if d * 2 ^ (L - M) ≤ n * 2 ^ (M - L) then 1022 else 1021) - M : Nat) : Int) - (1074 : Nat)) := by
    split <;> omega
  rw [he, shift_neg]
  generalize L + (if d * 2 ^ (L - M) ≤ n * 2 ^ (M - L) then 1022 else 1021) - M = t
  rw [show (((t : Int) - (1074 : Nat)) + 1074).toNat = t by omega, hE_eq]
  generalize t * 2 ^ 52 + hE (n * 2 ^ (1074 - t)) (d * 2 ^ (t - 1074)) = v
  generalize Float64.infMag = I
  split <;> omega
end Mine
end
section
open PySem PySem.W PyProof.Rows PySem.Calls PySem.Spec
set_option linter.unusedVariables false
namespace Mine
noncomputable def k63 : Nat := 9223372036854775808
theorem k63_eq : k63 = 2 ^ 63 := by decide +kernel
noncomputable def mant (a ea : Nat) : Nat := bi (Nat.beq ea 0) (Nat.mod a k52) (Nat.add k52 (Nat.mod a k52))
noncomputable def rG (n g : Nat) : Nat := rM (Nat.mul n (Nat.pow 2 (Nat.sub g 1075))) (Nat.pow 2 (Nat.sub 1075 g))
noncomputable def pk (s m : Nat) : Nat := Nat.add (Nat.mul s k63) m
noncomputable def ex (a : Nat) : Nat := Nat.mod (Nat.div a k52) 2048
noncomputable def xe (ea : Nat) : Nat := bi (Nat.beq ea 0) 1 ea
theorem sgn_lt (x : UInt64) : x.toNat / 2 ^ 63 ≤ 1 := by have := x.toNat_lt; omega
theorem ofNat_slow (z : UInt64) : UInt64.ofNat z.toNat = z := UInt64.ofNat_toNat
theorem dec_fin (x : UInt64) (h : ex x.toNat ≠ 2047) : Float64.decode x = .fin (x.toNat / 2 ^ 63 == 1) (mant x.toNat (ex x.toNat)) ((xe (ex x.toNat) : Int) - (1075 : Nat)) := by
  revert h
  unfold ex xe mant
  simp only [modE, divE, addE, beqE, biE, k52_eq]
  intro h
  unfold Float64.decode
  simp only
  rw [if_neg (by simpa using h)]
  by_cases h0 : x.toNat / 2 ^ 52 % 2048 = 0
  · rw [if_pos (by simpa using h0), if_pos h0, if_pos h0]; rfl
  · rw [if_neg (by simpa using h0), if_neg h0, if_neg h0]; rfl
theorem ofBin_is (s : Bool) (n g : Nat) : Float64.ofBin s n ((g : Int) - (1075 : Nat)) = Float64.pack s (rG n g) := by
  unfold Float64.ofBin
  rw [show (g : Int) - (1075 : Nat) = -(((1075 : Nat) : Int) - g) by omega, shift_neg]
  simp only
  unfold Float64.ofFrac rG
  rw [rM_eq, Nat.one_mul, mulE, powE, powE, subE, subE]
theorem pack_is (s : Nat) (hs : s ≤ 1) (m : Nat) : Float64.pack (s == 1) m = UInt64.ofNat (pk s m) := by
  unfold Float64.pack pk
  rw [addE, mulE, k63_eq]
  match s, hs with
  | 0, _ => rw [Nat.zero_mul]; rfl
  | 1, _ => rw [Nat.one_mul]; rfl
noncomputable def addN (a b slow : Nat) : Nat :=
  let ea := ex a
  let eb := ex b
  bi (Nat.beq ea 2047) slow (bi (Nat.beq eb 2047) slow (
    let xa := xe ea
    let xb := xe eb
    let g := bi (Nat.ble xa xb) xa xb
    let p := Nat.mul (mant a ea) (Nat.pow 2 (Nat.sub xa g))
    let q := Nat.mul (mant b eb) (Nat.pow 2 (Nat.sub xb g))
    let sa := Nat.div a k63
    let sb := Nat.div b k63
    bi (Nat.beq sa sb) (pk sa (rG (Nat.add p q) g))
      (bi (Nat.beq p q) 0 (bi (Nat.ble q p) (pk sa (rG (Nat.sub p q) g)) (pk sb (rG (Nat.sub q p) g))))))
noncomputable def addF (x y : UInt64) : UInt64 := UInt64.ofNat (addN (UInt64.toNat x) (UInt64.toNat y) (UInt64.toNat (Float64.add x y)))
theorem rG_zero (g : Nat) : rG 0 g = 0 := by
  unfold rG
  rw [mulE, Nat.zero_mul]
  rfl
theorem add_core (sa sb p q g : Nat) (ha : sa ≤ 1) (hb : sb ≤ 1) :
    (if Float64.sgn (sa == 1) p + Float64.sgn (sb == 1) q == 0 then Float64.zero ((sa == 1) && (sb == 1)) else Float64.ofBin (Float64.sgn (sa == 1) p + Float64.sgn (sb == 1) q < 0) (Float64.sgn (sa == 1) p + Float64.sgn (sb == 1) q).natAbs ((g : Int) - (1075 : Nat))) =
      UInt64.ofNat (if sa = sb then pk sa (rG (p + q) g) else if p = q then 0 else if q ≤ p then pk sa (rG (p - q) g) else pk sb (rG (q - p) g)) := by
  rw [ofBin_is]
  match sa, ha, sb, hb with
  | 0, _, 0, _ =>
    rw [if_pos rfl]
    show (if ((p : Int) + q == 0) = true then Float64.zero false else Float64.pack (decide ((p : Int) + q < 0)) (rG ((p : Int) + q).natAbs g)) = _
    by_cases h : (p : Int) + q = 0
    · rw [if_pos (by simpa using h), show p + q = 0 by omega, rG_zero]; rfl
    · rw [if_neg (by simpa using h), decide_eq_false (by omega), show ((p : Int) + q).natAbs = p + q by omega]
      exact pack_is 0 (by omega) _
  | 1, _, 1, _ =>
    rw [if_pos rfl]
    show (if (-(p : Int) + -(q : Int) == 0) = true then Float64.zero true else Float64.pack (decide (-(p : Int) + -(q : Int) < 0)) (rG (-(p : Int) + -(q : Int)).natAbs g)) = _
    by_cases h : -(p : Int) + -(q : Int) = 0
    · rw [if_pos (by simpa using h), show p + q = 0 by omega, rG_zero]; exact pack_is 1 (by omega) 0
    · rw [if_neg (by simpa using h), decide_eq_true (by omega), show (-(p : Int) + -(q : Int)).natAbs = p + q by omega]
      exact pack_is 1 (by omega) _
  | 0, _, 1, _ =>
    rw [if_neg (show ¬ ((0 : Nat) = 1) by decide)]
    show (if ((p : Int) + -(q : Int) == 0) = true then Float64.zero false else Float64.pack (decide ((p : Int) + -(q : Int) < 0)) (rG ((p : Int) + -(q : Int)).natAbs g)) = _
    by_cases h : p = q
    · rw [if_pos (by simp; omega), if_pos h]; rfl
    · rw [if_neg (by simp; omega), if_neg h]
      by_cases h2 : q ≤ p
      · rw [if_pos h2, decide_eq_false (by omega), show ((p : Int) + -(q : Int)).natAbs = p - q by omega]
        exact pack_is 0 (by omega) _
      · rw [if_neg h2, decide_eq_true (by omega), show ((p : Int) + -(q : Int)).natAbs = q - p by omega]
        exact pack_is 1 (by omega) _
  | 1, _, 0, _ =>
    rw [if_neg (show ¬ ((1 : Nat) = 0) by decide)]
    show (if (-(p : Int) + (q : Int) == 0) = true then Float64.zero false else Float64.pack (decide (-(p : Int) + (q : Int) < 0)) (rG (-(p : Int) + (q : Int)).natAbs g)) = _
    by_cases h : p = q
    · rw [if_pos (by simp; omega), if_pos h]; rfl
    · rw [if_neg (by simp; omega), if_neg h]
      by_cases h2 : q ≤ p
      · rw [if_pos h2, decide_eq_true (by omega), show (-(p : Int) + (q : Int)).natAbs = p - q by omega]
        exact pack_is 1 (by omega) _
      · rw [if_neg h2, decide_eq_false (by omega), show (-(p : Int) + (q : Int)).natAbs = q - p by omega]
        exact pack_is 0 (by omega) _
theorem align_is (sa sb : Bool) (m k xa xb : Nat) : Float64.align sa m ((xa : Int) - (1075 : Nat)) sb k ((xb : Int) - (1075 : Nat)) =
    (Float64.sgn sa (m * 2 ^ (xa - min xa xb)), Float64.sgn sb (k * 2 ^ (xb - min xa xb)), ((min xa xb : Nat) : Int) - (1075 : Nat)) := by
  unfold Float64.align
  simp only
  rw [show min ((xa : Int) - (1075 : Nat)) ((xb : Int) - (1075 : Nat)) = ((min xa xb : Nat) : Int) - (1075 : Nat) by omega,
    show ((xa : Int) - (1075 : Nat) - (((min xa xb : Nat) : Int) - (1075 : Nat))).toNat = xa - min xa xb by omega, show ((xb : Int) - (1075 : Nat) - (((min xa xb : Nat) : Int) - (1075 : Nat))).toNat = xb - min xa xb by omega]
theorem min_if (a b : Nat) : (if a ≤ b then a else b) = min a b := by split <;> omega
theorem addN_slow (x y : UInt64) (h : ex x.toNat = 2047 ∨ ex y.toNat = 2047) (z : Nat) : addN x.toNat y.toNat z = z := by
  unfold addN
  simp only [beqE, biE]
  by_cases k : ex x.toNat = 2047
  · rw [if_pos k]
  · rw [if_neg k, if_pos (h.resolve_left k)]
theorem add_F (x y : UInt64) : Float64.add x y = addF x y := by
  unfold addF
  by_cases h : ex x.toNat = 2047 ∨ ex y.toNat = 2047
  · rw [addN_slow x y h, ofNat_slow]
  · have hx : ex x.toNat ≠ 2047 := fun e => h (.inl e)
    have hy : ex y.toNat ≠ 2047 := fun e => h (.inr e)
    unfold addN
    simp only [beqE, bleE, biE, mulE, powE, subE, addE, divE, k63_eq]
    rw [if_neg hx, if_neg hy]
    unfold Float64.add
    rw [dec_fin x hx, dec_fin y hy]
    simp only [align_is]
    rw [add_core _ _ _ _ _ (sgn_lt x) (sgn_lt y), min_if]
end Mine
end
section
open PySem PySem.W PyProof.Rows PySem.Calls PySem.Spec
set_option linter.unusedVariables false
namespace Mine
theorem rG_eq (n g : Nat) : rG n g = rM (n * 2 ^ (g - 1075)) (2 ^ (1075 - g)) := by
  unfold rG
  rw [mulE, powE, powE, subE, subE]
/-- a sign of two: unlike -/
noncomputable def xs (a b : Nat) : Nat := bi (Nat.beq a b) 0 1
theorem xs_is (a b : Nat) (ha : a ≤ 1) (hb : b ≤ 1) : ((a == 1) != (b == 1)) = (xs a b == 1) ∧ xs a b ≤ 1 := by
  unfold xs
  rw [beqE, biE]
  match a, ha, b, hb with
  | 0, _, 0, _ => exact ⟨rfl, by decide⟩
  | 0, _, 1, _ => exact ⟨rfl, by decide⟩
  | 1, _, 0, _ => exact ⟨rfl, by decide⟩
  | 1, _, 1, _ => exact ⟨rfl, by decide⟩
noncomputable def mulN (a b slow : Nat) : Nat :=
  let ea := ex a
  let eb := ex b
  bi (Nat.beq ea 2047) slow (bi (Nat.beq eb 2047) slow (
    let g := Nat.add (xe ea) (xe eb)
    pk (xs (Nat.div a k63) (Nat.div b k63)) (rM (Nat.mul (Nat.mul (mant a ea) (mant b eb)) (Nat.pow 2 (Nat.sub g 2150))) (Nat.pow 2 (Nat.sub 2150 g)))))
noncomputable def mulF (x y : UInt64) : UInt64 := UInt64.ofNat (mulN (UInt64.toNat x) (UInt64.toNat y) (UInt64.toNat (Float64.mul x y)))
theorem mul_F (x y : UInt64) : Float64.mul x y = mulF x y := by
  unfold mulF mulN
  simp only [beqE, biE, mulE, powE, subE, addE, divE, k63_eq]
  by_cases hx : ex x.toNat = 2047
  · rw [if_pos hx, ofNat_slow]
  by_cases hy : ex y.toNat = 2047
  · rw [if_neg hx, if_pos hy, ofNat_slow]
  rw [if_neg hx, if_neg hy]
  conv => lhs; unfold Float64.mul
  rw [dec_fin x hx, dec_fin y hy]
  simp only
  obtain ⟨h1, h2⟩ := xs_is _ _ (sgn_lt x) (sgn_lt y)
  rw [h1, ← pack_is _ h2]
  unfold Float64.ofBin
  rw [show ((xe (ex x.toNat) : Int) - (1075 : Nat) + ((xe (ex y.toNat) : Int) - (1075 : Nat))) = -(((2150 : Nat) : Int) - ((xe (ex x.toNat) + xe (ex y.toNat) : Nat) : Int)) by omega, shift_neg]
  simp only
  unfold Float64.ofFrac
  rw [rM_eq, Nat.one_mul]
noncomputable def divN (a b slow : Nat) : Nat :=
  let ea := ex a
  let eb := ex b
  let k := mant b eb
  bi (Nat.beq ea 2047) slow (bi (Nat.beq eb 2047) slow (bi (Nat.beq k 0) slow (
    let xa := xe ea
    let xb := xe eb
    pk (xs (Nat.div a k63) (Nat.div b k63)) (rM (Nat.mul (mant a ea) (Nat.pow 2 (Nat.sub xa xb))) (Nat.mul k (Nat.pow 2 (Nat.sub xb xa)))))))
noncomputable def divF (x y : UInt64) : UInt64 := UInt64.ofNat (divN (UInt64.toNat x) (UInt64.toNat y) (UInt64.toNat (Float64.div x y)))
theorem div_F (x y : UInt64) : Float64.div x y = divF x y := by
  unfold divF divN
  simp only [beqE, biE, mulE, powE, subE, divE, k63_eq]
  by_cases hx : ex x.toNat = 2047
  · rw [if_pos hx, ofNat_slow]
  by_cases hy : ex y.toNat = 2047
  · rw [if_neg hx, if_pos hy, ofNat_slow]
  rw [if_neg hx, if_neg hy]
  by_cases hk : mant y.toNat (ex y.toNat) = 0
  · rw [if_pos hk, ofNat_slow]
  rw [if_neg hk]
  conv => lhs; unfold Float64.div
  rw [dec_fin x hx, dec_fin y hy]
  simp only
  rw [if_neg (by simpa using hk)]
  obtain ⟨h1, h2⟩ := xs_is _ _ (sgn_lt x) (sgn_lt y)
  rw [h1, ← pack_is _ h2]
  rw [show ((xe (ex x.toNat) : Int) - (1075 : Nat) - ((xe (ex y.toNat) : Int) - (1075 : Nat))) = -((xe (ex y.toNat) : Int) - (xe (ex x.toNat) : Int)) by omega, shift_neg]
  simp only
  unfold Float64.ofFrac
  rw [rM_eq]
/-- y with its sign turned, where it is no nan -/
noncomputable def flp (b : Nat) : Nat := bi (Nat.ble k63 b) (Nat.sub b k63) (Nat.add b k63)
theorem xor_top {r : Nat} (h : r < 2 ^ 63) : r ^^^ 2 ^ 63 = r + 2 ^ 63 := by
  have e := Nat.two_pow_add_eq_or_of_lt h 1
  rw [Nat.mul_one] at e
  rw [Nat.add_comm, e]
  apply Nat.eq_of_testBit_eq
  intro i
  rw [Nat.testBit_xor, Nat.testBit_or, Nat.testBit_two_pow]
  by_cases hi : 63 = i
  · subst hi
    rw [Nat.testBit_lt_two_pow h]; rfl
  · rw [decide_eq_false hi, Bool.xor_false, Bool.false_or]
theorem flp_is (y : UInt64) (hy : ex y.toNat ≠ 2047) : (Float64.neg y).toNat = flp y.toNat := by
  unfold Float64.neg Float64.isNaN
  rw [dec_fin y hy]
  simp only
  rw [if_neg (by decide)]
  rw [UInt64.toNat_xor]
  rw [show (Float64.pack true 0).toNat = 2 ^ 63 by decide]
  unfold flp
  simp only [bleE, biE, subE, addE, k63_eq]
  have hlt := y.toNat_lt
  generalize y.toNat = n at *
  split
  · rename_i h
    have e : n = (n - 2 ^ 63) + 2 ^ 63 := by omega
    have e2 : n - 2 ^ 63 < 2 ^ 63 := by omega
    generalize n - 2 ^ 63 = r at *
    rw [e, ← xor_top e2, Nat.xor_assoc, Nat.xor_self, Nat.xor_zero]
  · exact xor_top (by omega)
theorem flp_ex (b : Nat) (hb : b < 2 ^ 64) : ex (flp b) = ex b := by
  unfold ex flp
  simp only [bleE, biE, subE, addE, modE, divE, k63_eq, k52_eq]
  split <;> omega
noncomputable def subF (x y : UInt64) : UInt64 := UInt64.ofNat (addN (UInt64.toNat x) (flp (UInt64.toNat y)) (UInt64.toNat (Float64.sub x y)))
theorem sub_F (x y : UInt64) : Float64.sub x y = subF x y := by
  unfold subF
  by_cases h : ex x.toNat = 2047 ∨ ex y.toNat = 2047
  · have : addN x.toNat (flp y.toNat) (Float64.sub x y).toNat = (Float64.sub x y).toNat := by
      unfold addN
      simp only [beqE, biE]
      by_cases k : ex x.toNat = 2047
      · rw [if_pos k]
      · rw [if_neg k, if_pos (by rw [flp_ex _ y.toNat_lt]; exact h.resolve_left k)]
    rw [this, ofNat_slow]
  · have hy : ex y.toNat ≠ 2047 := fun e => h (.inr e)
    have hx : ex x.toNat ≠ 2047 := fun e => h (.inl e)
    unfold Float64.sub
    rw [add_F]
    unfold addF
    rw [flp_is y hy]
    have : ∀ z z' : Nat, addN x.toNat (flp y.toNat) z = addN x.toNat (flp y.toNat) z' := by
      intro z z'
      unfold addN
      simp only [beqE, biE]
      rw [flp_ex _ y.toNat_lt, if_neg hx, if_neg hx, if_neg hy, if_neg hy]
    exact congrArg UInt64.ofNat (this _ _)
noncomputable def cmpN (a b : Nat) (slow : Option Ordering) : Option Ordering :=
  let ea := ex a
  let eb := ex b
  bi (Nat.beq ea 2047) slow (bi (Nat.beq eb 2047) slow (
    let xa := xe ea
    let xb := xe eb
    let g := bi (Nat.ble xa xb) xa xb
    let p := Nat.mul (mant a ea) (Nat.pow 2 (Nat.sub xa g))
    let q := Nat.mul (mant b eb) (Nat.pow 2 (Nat.sub xb g))
    bi (Nat.beq (Nat.div a k63) 0)
      (bi (Nat.beq (Nat.div b k63) 0) (bi (Nat.beq p q) (some .eq) (bi (Nat.ble p q) (some .lt) (some .gt))) (bi (Nat.beq (Nat.add p q) 0) (some .eq) (some .gt)))
      (bi (Nat.beq (Nat.div b k63) 0) (bi (Nat.beq (Nat.add p q) 0) (some .eq) (some .lt)) (bi (Nat.beq p q) (some .eq) (bi (Nat.ble p q) (some .gt) (some .lt))))))
noncomputable def cmpF (x y : UInt64) : Option Ordering := cmpN (UInt64.toNat x) (UInt64.toNat y) (Float64.cmp x y)
theorem cmp_int (a b : Int) : compare a b = if a = b then .eq else if a < b then .lt else .gt := by
  rw [Int.compare_eq_ite_lt]
  split
  · rw [if_neg (by omega)]
  · split
    · rw [if_neg (by omega)]
    · rw [if_pos (by omega)]
theorem cmp_F (x y : UInt64) : Float64.cmp x y = cmpF x y := by
  unfold cmpF cmpN
  simp only [beqE, bleE, biE, mulE, powE, subE, addE, divE, k63_eq]
  by_cases hx : ex x.toNat = 2047
  · rw [if_pos hx]
  by_cases hy : ex y.toNat = 2047
  · rw [if_neg hx, if_pos hy]
  rw [if_neg hx, if_neg hy]
  conv => lhs; unfold Float64.cmp
  rw [dec_fin x hx, dec_fin y hy]
  simp only [align_is, min_if]
  generalize mant x.toNat (ex x.toNat) * 2 ^ (xe (ex x.toNat) - min (xe (ex x.toNat)) (xe (ex y.toNat))) = p
  generalize mant y.toNat (ex y.toNat) * 2 ^ (xe (ex y.toNat) - min (xe (ex x.toNat)) (xe (ex y.toNat))) = q
  have ha := sgn_lt x
  have hb := sgn_lt y
  generalize x.toNat / 2 ^ 63 = sa at *
  generalize y.toNat / 2 ^ 63 = sb at *
  rw [cmp_int]
  match sa, ha, sb, hb with
  | 0, _, 0, _ =>
    show some (if (p : Int) = q then Ordering.eq else if (p : Int) < q then .lt else .gt) = if p = q then some .eq else if p ≤ q then some .lt else some .gt
    by_cases h : p = q
    · rw [if_pos h, if_pos (by omega)]
    · rw [if_neg h, if_neg (by omega)]
      by_cases k : p ≤ q
      · rw [if_pos k, if_pos (by omega)]
      · rw [if_neg k, if_neg (by omega)]
  | 0, _, 1, _ =>
    show some (if (p : Int) = -(q : Int) then Ordering.eq else if (p : Int) < -(q : Int) then .lt else .gt) = if p + q = 0 then some .eq else some .gt
    by_cases h : p + q = 0
    · rw [if_pos h, if_pos (by omega)]
    · rw [if_neg h, if_neg (by omega), if_neg (by omega)]
  | 1, _, 0, _ =>
    show some (if -(p : Int) = (q : Int) then Ordering.eq else if -(p : Int) < (q : Int) then .lt else .gt) = if p + q = 0 then some .eq else some .lt
    by_cases h : p + q = 0
    · rw [if_pos h, if_pos (by omega)]
    · rw [if_neg h, if_neg (by omega), if_pos (by omega)]
  | 1, _, 1, _ =>
    show some (if -(p : Int) = -(q : Int) then Ordering.eq else if -(p : Int) < -(q : Int) then .lt else .gt) = if p = q then some .eq else if p ≤ q then some .gt else some .lt
    by_cases h : p = q
    · rw [if_pos h, if_pos (by omega)]
    · rw [if_neg h, if_neg (by omega)]
      by_cases k : p ≤ q
      · rw [if_pos k, if_neg (by omega)]
      · rw [if_neg k, if_pos (by omega)]
end Mine
end
section
open PySem PySem.W PyProof.Rows PySem.Calls PySem.Spec
set_option linter.unusedVariables false
set_option linter.unusedSimpArgs false
namespace Mine
noncomputable def toIntF (x : UInt64) : Int :=
  let a := UInt64.toNat x
  let ea := ex a
  bi (Nat.beq ea 2047) 0 (
    let g := xe ea
    let h := hE (Nat.mul (mant a ea) (Nat.pow 2 (Nat.sub g 1075))) (Nat.pow 2 (Nat.sub 1075 g))
    bi (Nat.beq (Nat.div a k63) 0) (Int.ofNat h) (Int.negOfNat h))
theorem dec_big (x : UInt64) (h : ex x.toNat = 2047) : Float64.decode x = .nan ∨ ∃ s, Float64.decode x = .inf s := by
  revert h
  unfold ex
  simp only [modE, divE, k52_eq]
  intro h
  unfold Float64.decode
  simp only
  rw [if_pos (by simpa using h)]
  split
  · exact .inr ⟨_, rfl⟩
  · exact .inl rfl
theorem toInt_F (x : UInt64) : Flt.toInt Float64.nearestOf x = toIntF x := by
  unfold toIntF
  simp only [beqE, biE, mulE, powE, subE, divE, k63_eq]
  unfold Flt.toInt
  by_cases hx : ex x.toNat = 2047
  · rw [if_pos hx]
    rcases dec_big x hx with e | ⟨s, e⟩ <;> rw [e]
  rw [if_neg hx, dec_fin x hx]
  simp only
  unfold Float64.nearestOf
  rw [show ((xe (ex x.toNat) : Int) - (1075 : Nat)) = -(((1075 : Nat) : Int) - (xe (ex x.toNat) : Int)) by omega, shift_neg]
  simp only
  rw [hE_eq, Nat.one_mul]
  generalize hE (mant x.toNat (ex x.toNat) * 2 ^ (xe (ex x.toNat) - 1075)) (2 ^ (1075 - xe (ex x.toNat))) = h
  have hs := sgn_lt x
  generalize x.toNat / 2 ^ 63 = s at *
  match s, hs with
  | 0, _ => rfl
  | 1, _ => rw [if_neg (by decide)]; show -(h : Int) = Int.negOfNat h; exact (Int.negOfNat_eq).symm
noncomputable def isFinF (x : UInt64) : Bool := bi (Nat.beq (ex (UInt64.toNat x)) 2047) false true
theorem isFin_F (x : UInt64) : Float64.isFinite x = isFinF x := by
  unfold isFinF
  simp only [beqE, biE]
  unfold Float64.isFinite
  by_cases hx : ex x.toNat = 2047
  · rw [if_pos hx]
    rcases dec_big x hx with e | ⟨s, e⟩ <;> rw [e]
  · rw [if_neg hx, dec_fin x hx]
noncomputable def isZeroF (x : UInt64) : Bool := let a := UInt64.toNat x; bi (Nat.beq (ex a) 2047) false (Nat.beq (mant a (ex a)) 0)
theorem isZero_F (x : UInt64) : Float64.isZero x = isZeroF x := by
  unfold isZeroF
  simp only [beqE, biE]
  unfold Float64.isZero
  by_cases hx : ex x.toNat = 2047
  · rw [if_pos hx]
    rcases dec_big x hx with e | ⟨s, e⟩ <;> rw [e]
  · rw [if_neg hx, dec_fin x hx]
    generalize mant x.toNat (ex x.toNat) = m
    cases m with
    | zero => rfl
    | succ k => rw [decide_eq_false (by omega)]; rfl
noncomputable def modN (a b slow : Nat) : Nat :=
  let ea := ex a
  let eb := ex b
  bi (Nat.beq ea 2047) slow (bi (Nat.beq eb 2047) slow (bi (Nat.beq (mant b eb) 0) slow (
    let xa := xe ea
    let xb := xe eb
    let g := bi (Nat.ble xa xb) xa xb
    pk (Nat.div a k63) (rG (Nat.mod (Nat.mul (mant a ea) (Nat.pow 2 (Nat.sub xa g))) (Nat.mul (mant b eb) (Nat.pow 2 (Nat.sub xb g)))) g))))
noncomputable def modF (x y : UInt64) : UInt64 := UInt64.ofNat (modN (UInt64.toNat x) (UInt64.toNat y) (UInt64.toNat (Float64.fmod x y)))
theorem mod_F (x y : UInt64) : Float64.fmod x y = modF x y := by
  unfold modF modN
  simp only [beqE, bleE, biE, mulE, powE, subE, divE, modE, k63_eq, min_if]
  by_cases hx : ex x.toNat = 2047
  · rw [if_pos hx, ofNat_slow]
  by_cases hy : ex y.toNat = 2047
  · rw [if_neg hx, if_pos hy, ofNat_slow]
  rw [if_neg hx, if_neg hy]
  by_cases hk : mant y.toNat (ex y.toNat) = 0
  · rw [if_pos hk, ofNat_slow]
  rw [if_neg hk]
  conv => lhs; unfold Float64.fmod
  rw [dec_fin x hx, dec_fin y hy]
  simp only
  rw [if_neg (by simpa using hk)]
  simp only [align_is]
  rw [← pack_is _ (sgn_lt x)]
  exact ofBin_is _ _ _
/-- the rest of a division by one -/
noncomputable def mod1F (x : UInt64) : UInt64 :=
  let m := modF x 0x3ff0000000000000
  bi (isZeroF m) 0 (bi (cmpF m 0 == some Ordering.lt) (addF m 0x3ff0000000000000) m)
theorem mod1_F (x : UInt64) : (Float64.divmod x 0x3ff0000000000000).2 = mod1F x := by
  unfold mod1F
  simp only
  unfold Float64.divmod
  simp only
  rw [mod_F, isZero_F]
  generalize modF x 0x3ff0000000000000 = m
  cases isZeroF m with
  | true => rw [if_pos rfl]; show Float64.copysign (Float64.zero false) 0x3ff0000000000000 = 0; decide +kernel
  | false =>
    rw [if_neg (by decide)]
    unfold Float64.lt
    rw [show (Float64.cmp 0x3ff0000000000000 (Float64.zero false) == some Ordering.lt) = false by decide +kernel, show Float64.zero false = 0 by decide +kernel, cmp_F]
    cases (cmpF m 0 == some Ordering.lt) with
    | true => rw [if_pos (by decide), add_F]
    | false => rw [if_neg (by decide)]
noncomputable def ofIntF (i : Int) : UInt64 := Float64.pack (decide (i < 0)) (rM (Int.natAbs i) 1)
theorem ofInt_F (i : Int) : Float64.ofInt i = ofIntF i := by
  unfold Float64.ofInt Float64.ofFrac ofIntF
  rw [rM_eq]
noncomputable def i64F (k : Int) : UInt64 := Float64.pack (decide (k < 0)) (rM (Int.natAbs k) 64)
theorem i64_F (k : Int) : i64 k = i64F k := by
  unfold i64 Float64.ofFrac i64F
  rw [rM_eq, show decide ((64 : Int) < 0) = false by decide, Bool.bne_false]
  rfl
theorem c64 : Float64.ofInt 64 = 0x4050000000000000 := by decide +kernel
theorem c128 : Float64.ofInt 128 = 0x4060000000000000 := by decide +kernel
/-- two words alike -/
noncomputable def eqW (a b : UInt64) : Bool := Nat.beq (UInt64.toNat a) (UInt64.toNat b)
theorem eqW_iff {a b : UInt64} : eqW a b = true ↔ a = b := by
  unfold eqW
  rw [Nat.beq_eq]
  exact UInt64.toNat_inj
noncomputable def eqW3 (a b : F3) : Bool := bi (eqW a.1 b.1) (bi (eqW a.2.1 b.2.1) (eqW a.2.2 b.2.2) false) false
theorem eqW3_iff {a b : F3} : eqW3 a b = true ↔ a = b := by
  unfold eqW3
  obtain ⟨a1, a2, a3⟩ := a
  obtain ⟨b1, b2, b3⟩ := b
  simp only [Prod.mk.injEq, ← eqW_iff]
  cases eqW a1 b1 <;> cases eqW a2 b2 <;> simp [bi]
end Mine
end
section
open PySem PySem.W PyProof.Rows PySem.Calls PySem.Spec
set_option linter.unusedVariables false
set_option linter.unusedSimpArgs false
namespace Mine
/-! the node's check on the quick floats -/
noncomputable def joinQ (a b : F3) : F3 := (addF a.1 b.1, addF a.2.1 b.2.1, addF a.2.2 b.2.2)
theorem join_Q (a b : F3) : joined a b = joinQ a b := by unfold joined joinQ; simp only [add_F]
noncomputable def isC (o : Ordering) (a b : UInt64) : Bool := cmpF a b == some o
noncomputable def clipQ (v : UInt64) : UInt64 := bi (isC .lt v 0) 0 (bi (isC .gt v 0x3ff0000000000000) 0x3ff0000000000000 v)
theorem ifB {α : Type} (b : Bool) (x y : α) : (if b = true then x else y) = bi b x y := by cases b <;> rfl
theorem clip_Q (v : UInt64) : clip v = clipQ v := by unfold clip clipQ isC; simp only [cmp_F, ifB]
noncomputable def rgbQ (x : F3) : F3 := (
  clipQ (addF (addF x.1 (mulF 0x3fee4cdbef721b32 x.2.1)) (mulF 0x3fe3f42ceedac0be x.2.2)),
  clipQ (subF (subF x.1 (mulF 0x3fd1961eec8cbb3a x.2.1)) (mulF 0x3fe45794d16efff3 x.2.2)),
  clipQ (addF (subF x.1 (mulF 0x3ff1bc99b7dee436 x.2.1)) (mulF 0x3ffb5817a6224a7f x.2.2)))
theorem rgb_Q (x : F3) : rgbOf x = rgbQ x := by unfold rgbOf rgbQ; simp only [clip_Q, add_F, sub_F, mul_F]
noncomputable def maxQ (a b c : UInt64) : UInt64 := bi (isC .gt b a) (bi (isC .gt c b) c b) (bi (isC .gt c a) c a)
theorem max_Q (a b c : UInt64) : fmax a b c = maxQ a b c := by unfold fmax maxQ isC; simp only [cmp_F, ifB]
noncomputable def minQ (a b c : UInt64) : UInt64 := bi (isC .lt b a) (bi (isC .lt c b) c b) (bi (isC .lt c a) c a)
theorem min_Q (a b c : UInt64) : fmin a b c = minQ a b c := by unfold fmin minQ isC; simp only [cmp_F, ifB]
noncomputable def hiQ (x : F3) : UInt64 := maxQ x.1 x.2.1 x.2.2
noncomputable def loQ (x : F3) : UInt64 := minQ x.1 x.2.1 x.2.2
noncomputable def sumQ (x : F3) : UInt64 := addF (hiQ x) (loQ x)
noncomputable def rngQ (x : F3) : UInt64 := subF (hiQ x) (loQ x)
theorem hi_Q (x : F3) : maxc x = hiQ x := max_Q _ _ _
theorem lo_Q (x : F3) : minc x = loQ x := min_Q _ _ _
theorem sum_Q (x : F3) : sumc x = sumQ x := by show Float64.add (maxc x) (minc x) = _; rw [hi_Q, lo_Q, add_F]; rfl
theorem rng_Q (x : F3) : rangec x = rngQ x := by show Float64.sub (maxc x) (minc x) = _; rw [hi_Q, lo_Q, sub_F]; rfl
noncomputable def lightQ (x : F3) : UInt64 := divF (sumQ x) 0x4000000000000000
theorem light_Q (x : F3) : lightOf x = lightQ x := by show Float64.div (sumc x) _ = _; rw [sum_Q, div_F]; rfl
noncomputable def shareQ (x : F3) : UInt64 := divF (rngQ x) (sumQ x)
theorem share_Q (x : F3) : shareOf x = shareQ x := by unfold shareOf; rw [rng_Q, sum_Q, div_F]; rfl
noncomputable def rcQ (x : F3) (v : UInt64) : UInt64 := divF (subF (hiQ x) v) (rngQ x)
theorem rc_Q (x : F3) (v : UInt64) : rcOf x v = rcQ x v := by unfold rcOf; rw [hi_Q, rng_Q, sub_F, div_F]; rfl
noncomputable def rawQ (x : F3) : UInt64 := bi (isC .eq x.1 (hiQ x)) (subF (rcQ x x.2.2) (rcQ x x.2.1))
  (bi (isC .eq x.2.1 (hiQ x)) (subF (addF 0x4000000000000000 (rcQ x x.1)) (rcQ x x.2.2)) (subF (addF 0x4010000000000000 (rcQ x x.2.1)) (rcQ x x.1)))
theorem raw_Q (x : F3) : rawHue x = rawQ x := by unfold rawHue rawQ isC; simp only [hi_Q, rc_Q, cmp_F, sub_F, add_F, ifB]
noncomputable def hueQ (x : F3) : UInt64 := mod1F (divF (rawQ x) 0x4018000000000000)
theorem hue_Q (x : F3) : hueOf x = hueQ x := by unfold hueOf hueQ; rw [raw_Q, div_F, mod1_F]
noncomputable def hlsOkQ (x : F3) : Bool := !(isC .eq (loQ x) (hiQ x)) && (isC .lt (lightQ x) 0x3fe0000000000000 || isC .eq (lightQ x) 0x3fe0000000000000) && !(isZeroF (sumQ x)) && !(isZeroF (rngQ x))
theorem hlsOk_Q (x : F3) : hlsOk x = hlsOkQ x := by unfold hlsOk hlsOkQ isC; rw [lo_Q, hi_Q, light_Q, sum_Q, rng_Q]; simp only [cmp_F, isZero_F]
noncomputable def m64 (v : UInt64) : UInt64 := mulF 0x4050000000000000 v
theorem fin64_Q (v : UInt64) : fin64 v = isFinF (m64 v) := by unfold fin64 m64; rw [c64, mul_F, isFin_F]
theorem r64_Q (v : UInt64) : r64 v = toIntF (m64 v) := by unfold r64 m64; rw [c64, mul_F, toInt_F]
noncomputable def okQ (c : Nat) (p q : Int) (v x : F3) (h : UInt64) : Bool :=
  isFinF (m64 v.1) && isFinF (m64 v.2.1) && isFinF (m64 v.2.2) && decide ((toIntF (m64 v.1)).natAbs ≤ 64) && decide ((toIntF (m64 v.2.1)).natAbs ≤ 64) && decide ((toIntF (m64 v.2.2)).natAbs ≤ 64) &&
  eqW3 (i64F (toIntF (m64 v.1)), i64F (toIntF (m64 v.2.1)), i64F (toIntF (m64 v.2.2))) x && hlsOkQ x && eqW (hueQ x) h && eqW (shareQ x) 0x3ff0000000000000 &&
  isFinF (mulF 0x4060000000000000 (lightQ x)) && decide (toIntF (mulF 0x4060000000000000 (lightQ x)) = q) && decide (0 < q) && decide (q ≤ 64) &&
  isFinF (mulF (ofIntF (6 * q)) h) && decide (Int.fdiv (toIntF (mulF (ofIntF (6 * q)) h)) q = (c : Int)) && decide (Int.fmod (toIntF (mulF (ofIntF (6 * q)) h)) q = p)
theorem okV_of {c : Nat} {p q : Int} {v x : F3} {h : UInt64} (k : okQ c p q v x h = true) : okV c p q v x h = true := by
  unfold okQ at k
  simp only [Bool.and_eq_true, decide_eq_true_eq, eqW3_iff, eqW_iff] at k
  obtain ⟨⟨⟨⟨⟨⟨⟨⟨⟨⟨⟨⟨⟨⟨⟨⟨k1, k2⟩, k3⟩, k4⟩, k5⟩, k6⟩, k7⟩, k8⟩, k9⟩, k10⟩, k11⟩, k12⟩, k13⟩, k14⟩, k15⟩, k16⟩, k17⟩ := k
  unfold okV rgbFin q64 wholeOf hls
  simp only [fin64_Q, r64_Q, i64_F, hlsOk_Q, hue_Q, share_Q, c128, mul_F, toInt_F, isFin_F, ofInt_F, light_Q, Bool.and_eq_true, decide_eq_true_eq]
  exact ⟨⟨⟨⟨⟨⟨⟨⟨⟨⟨⟨⟨⟨⟨⟨⟨k1, k2⟩, k3⟩, k4⟩, k5⟩, k6⟩, k7⟩, k8⟩, k9⟩, k10⟩, k11⟩, k12⟩, k13⟩, k14⟩, k15⟩, k16⟩, k17⟩
/-- the tree's check, the fraction carried along -/
noncomputable def chkQ (c : Nat) : F3 → F3 → (Int × Int) × (Int × Int) → T → Bool
  | _, _, _, .leaf => true
  | lo, hi, s, .node m v x h p q l r => eqW3 (joinQ lo hi) m && eqW3 (rgbQ m) v && decide (s.1.1 + s.2.1 = p) && decide (s.1.2 + s.2.2 = q) && okQ c p q v x h && chkQ c lo m (s.1, (p, q)) l && chkQ c m hi ((p, q), s.2) r
theorem frac_of {pre : List Int} {s : (Int × Int) × (Int × Int)} (h : pre.foldl fracStep ((0, 1), (1, 1)) = s) : frac pre = (s.1.1 + s.2.1, s.1.2 + s.2.2) := by
  unfold frac
  simp only [h]
theorem chk_of {c : Nat} : ∀ (t : T) (lo hi : F3) (pre : List Int) (s : (Int × Int) × (Int × Int)), pre.foldl fracStep ((0, 1), (1, 1)) = s → chkQ c lo hi s t = true → chkT c lo hi pre t = true
  | .leaf, _, _, _, _, _, _ => by unfold chkT; rfl
  | .node m v x h p q l r, lo, hi, pre, s, hs, k => by
    unfold chkQ at k
    simp only [Bool.and_eq_true, decide_eq_true_eq, eqW3_iff] at k
    obtain ⟨⟨⟨⟨⟨⟨k1, k2⟩, k3⟩, k4⟩, k5⟩, k6⟩, k7⟩ := k
    unfold chkT
    simp only [Bool.and_eq_true, decide_eq_true_eq]
    refine ⟨⟨⟨⟨⟨?_, ?_⟩, ?_⟩, okV_of k5⟩, ?_⟩, ?_⟩
    · rw [join_Q, k1]
    · rw [rgb_Q, k2]
    · rw [frac_of hs, k3, k4]
    · refine chk_of l lo m (pre ++ [60]) _ ?_ k6
      rw [List.foldl_append, hs, ← k3, ← k4]
      unfold fracStep
      rfl
    · refine chk_of r m hi (pre ++ [62]) _ ?_ k7
      rw [List.foldl_append, hs, ← k3, ← k4]
      unfold fracStep
      rfl
theorem chkQ_node {c : Nat} {lo hi : F3} {s sl sr : (Int × Int) × (Int × Int)} {m v x : F3} {h : UInt64} {p q : Int} {l r : T} (hl : (s.1, (p, q)) = sl) (hr : ((p, q), s.2) = sr)
    (k : (eqW3 (joinQ lo hi) m && eqW3 (rgbQ m) v && decide (s.1.1 + s.2.1 = p) && decide (s.1.2 + s.2.2 = q) && okQ c p q v x h) = true) (k5 : chkQ c lo m sl l = true) (k6 : chkQ c m hi sr r = true) : chkQ c lo hi s (.node m v x h p q l r) = true := by
  subst hl hr
  unfold chkQ
  rw [k, k5, k6]
  rfl
end Mine
end
section
open PySem PySem.W PyProof.Rows PySem.Calls PySem.Spec
namespace Mine
set_option maxRecDepth 100000
noncomputable def t0aaa : T := (.node (4584867082646396600,4586280537389446830,4576016608658688102) (4590293920197378047,4580160821035794432,4348225440226213888) (4590293920197378048,4580160821035794432,0) 4584964660638322960 1 5 (.node (4585542622590502174,4587629365477844294,4577935142099947933) (4591419820104220672,4580160821035794430,0) (4591419820104220672,4580160821035794432,0) 4583663620745971483 1 6 (.node (4586218162534607748,4588978193566241758,4579853675541207764) (4592545720011063296,4580160821035794428,0) (4592545720011063296,4580160821035794432,0) 4582519849412036123 1 7 (.node (4586893702478713322,4589747520972587323,4580966515009131014) (4593671619917905919,4580160821035794425,0) (4593671619917905920,4580160821035794432,0) 4581662020911584597 1 8 .leaf .leaf) (.node (4590383992189925457,4592807379149413522,4583398008447948344) (4596486369685012480,4584664420663164924,0) (4596486369685012480,4584664420663164928,0) 4583047743873852443 2 13 .leaf .leaf)) (.node (4589708452245819883,4591458551061016058,4581479475006688514) (4595360469778169856,4584664420663164928,4354980839667269632) (4595360469778169856,4584664420663164928,0) 4584391475231203077 2 11 (.node (4592399353023173754,4594432221599973454,4584767327914650344) (4598456694521987072,4586916220476850176,4361736239108325376) (4598456694521987072,4586916220476850176,0) 4584134585412886048 3 17 .leaf .leaf) (.node (4592061583051120967,4594095014577874088,4583910968445505845) (4598175219545276416,4586916220476850176,4361736239108325376) (4598175219545276416,4586916220476850176,0) 4584664420663164928 3 16 .leaf .leaf))) (.node (4588897804312893194,4590109722972618594,4578961062095062932) (4594234569871327232,4584664420663164928,4358358539387797504) (4594234569871327232,4584664420663164928,0) 4585498420594159464 2 9 (.node (4591386043107015393,4593169581149444793,4581992435004246013) (4597049319638433792,4586916220476850176,4360610339201482752) (4597049319638433792,4586916220476850176,0) 4585307792038503571 3 14 (.node (4593705396915111198,4594950529622088456,4584423928443063344) (4599019644475408384,4589168020290535423,4350477240039899136) (4599019644475408384,4589168020290535424,0) 4585217494301613936 4 19 .leaf .leaf) (.node (4594713077331735347,4596143251688402190,4585280287912207844) (4600145544382251007,4590293920197378048,4360610339201482752) (4600145544382251008,4590293920197378048,0) 4585382385821151528 5 23 .leaf .leaf)) (.node (4591048273134962606,4592495167105246062,4581033168283616097) (4596486369685012480,4586916220476850176,4357232639480954880) (4596486369685012480,4586916220476850176,0) 4585703712884865811 3 13 (.node (4594544192345708954,4595806044666302824,4584800654551892886) (4599864069405540352,4590293920197378049,4362862139015168000) (4599864069405540352,4590293920197378048,0) 4585619729675031397 5 22 .leaf .leaf) (.node (4593063633968210903,4594276115577889725,4582505395001803512) (4598456694521987072,4589168020290535425,4354980839667269632) (4598456694521987072,4589168020290535424,0) 4585812397038769173 4 17 .leaf .leaf))))
theorem k0aaa : chkQ 0 (4572054341706527539,4576548934134643294,4569820556291351772) (4583718664741417124,4584931709301049367,4572538929026432605) ((0,1),(1,4)) t0aaa = true := by decide +kernel
noncomputable def t0aab : T := (.node (4587546724424682046,4588353769477906838,4574590769016662604) (4592545720011063296,4584664420663164928,4351603139946741760) (4592545720011063296,4584664420663164928,0) 4587023449039406616 2 7 (.node (4590372733190857032,4591146339016848598,4578068448648918100) (4595360469778169855,4586916220476850178,4356106739574112256) (4595360469778169856,4586916220476850176,0) 4586711511402878789 3 11 (.node (4592388094024105329,4593531783149476066,4580586861560543681) (4597612269591855104,4589168020290535425,4354980839667269632) (4597612269591855104,4589168020290535424,0) 4586565940505832472 4 15 (.node (4594037537387629773,4594794423600004727,4582059088278731096) (4599019644475408384,4590293920197378048,4359484439294640128) (4599019644475408384,4590293920197378048,0) 4586481662618068813 5 19 .leaf .leaf) (.node (4595884013234851676,4596842660710532828,4584044274994476011) (4600989969312382976,4592545720011063296,4360610339201482752) (4600989969312382976,4592545720011063296,0) 4586627528193044376 7 26 .leaf .leaf)) (.node (4593868652401603380,4594457216577905360,4581099821558101181) (4598738169498697728,4590293920197378051,4365113938828853248) (4598738169498697728,4590293920197378048,0) 4586832820483750723 5 18 (.node (4596722808665449432,4597698175754747195,4584557234992033511) (4601834394242514945,4593671619917905921,4367928688595959808) (4601834394242514944,4593671619917905920,0) 4586786806694454472 8 29 .leaf .leaf) (.node (4595715128248825284,4596505453688433462,4583085008273846096) (4600708494335672321,4592545720011063299,4365676888782274560) (4600708494335672320,4592545720011063296,0) 4586886196479334373 7 25 .leaf .leaf))) (.node (4590034963218804245,4590471924972649867,4576149915207658270) (4594797519824748544,4586916220476850177,4357232639480954880) (4594797519824748544,4586916220476850176,0) 4587366580439587227 3 10 (.node (4593699767415576986,4594120009555805995,4580120288639148100) (4598456694521987073,4590293920197378049,4360047389248061440) (4598456694521987072,4590293920197378048,0) 4587225291039512856 5 17 (.node (4595546243262798890,4596168246666334096,4582125741553216181) (4600427019358961664,4592545720011063298,4365113938828853248) (4600427019358961664,4592545720011063296,0) 4587166420456148536 7 24 .leaf .leaf) (.node (4596385038693396644,4597023761710548464,4582638701550773681) (4601271444289093632,4593671619917905920,4363988038922010624) (4601271444289093632,4593671619917905920,0) 4587277620446947808 8 27 .leaf .leaf)) (.node (4591712554079999755,4592182955061078603,4577175835202773270) (4596486369685012480,4589168020290535425,4357232639480954880) (4596486369685012480,4589168020290535424,0) 4587551343501222939 4 13 (.node (4595377358276772496,4595831039644234731,4581166474832586266) (4600145544382251008,4592545720011063297,4359484439294640128) (4600145544382251008,4592545720011063296,0) 4587471011735294368 7 23 .leaf .leaf) (.node (4593390144941195265,4593782802533706629,4578201755197888270) (4598175219545276416,4590293920197378049,4360610339201482752) (4598175219545276416,4590293920197378048,0) 4587666820414745259 5 16 .leaf .leaf))))
theorem k0aab : chkQ 0 (4583718664741417124,4584931709301049367,4572538929026432605) (4582367584853205975,4582501341762138879,4565850182859861948) ((1,4),(1,3)) t0aab = true := by decide +kernel
noncomputable def t0aba : T := (.node (4589359423274698670,4589078173477969384,4566783328702653118) (4593671619917905920,4586916220476850175,0) (4593671619917905920,4586916220476850176,0) 4589168020290535424 3 8 (.node (4591037014135894180,4590834126972681140,4570887008683113116) (4595360469778169857,4589168020290535423,4345973640412528640) (4595360469778169856,4589168020290535424,0) 4588895074858573576 4 11 (.node (4592714604997089690,4592545157061109876,4573072155222313277) (4597049319638433792,4590293920197378048,4341470040785158144) (4597049319638433792,4590293920197378048,0) 4588739106040309661 5 14 (.node (4594031907888095560,4593963903533722266,4575123995212543276) (4598456694521987072,4591419820104220672,0) (4598456694521987072,4591419820104220672,0) 4588638185040256541 6 17 .leaf .leaf) (.node (4596379409193862431,4596193241644266004,4576549834854568774) (4600708494335672321,4594234569871327231,4357232639480954880) (4600708494335672320,4594234569871327232,0) 4588807732320345784 9 25 .leaf .leaf)) (.node (4594701818332666921,4594482211555837268,4573338768320253613) (4599019644475408385,4592545720011063296,0) (4599019644475408384,4592545720011063296,0) 4589009999250978565 7 19 (.node (4597888115069031547,4597567064710595374,4576683141403538942) (4602115869219225601,4595360469778169856,4359484439294640128) (4602115869219225600,4595360469778169856,0) 4588967860307096736 11 30 .leaf .leaf) (.node (4597049319638433792,4596711549666381006,4575657221408423942) (4601271444289093633,4594797519824748544,0) (4601271444289093632,4594797519824748544,0) 4589056820299736152 10 27 .leaf .leaf))) (.node (4592376835025036902,4591870743016911144,4567316554898533790) (4596486369685012480,4590293920197378047,4336966441157787648) (4596486369685012480,4590293920197378048,0) 4589283497204057744 5 13 (.node (4595371728777238282,4595000519577952270,4571553541427963950) (4599582594428829696,4593671619917905918,0) (4599582594428829696,4593671619917905920,0) 4589239505998906384 8 21 (.node (4597719230083005153,4597229857688496008,4573871994516134285) (4601834394242514945,4595360469778169855,0) (4601834394242514944,4595360469778169856,0) 4589219785803493705 11 29 .leaf .leaf) (.node (4598701577751725342,4598389450150050897,4574138607614074621) (4602960294149357568,4596486369685012478,0) (4602960294149357568,4596486369685012480,0) 4589256326165581904 13 34 .leaf .leaf)) (.node (4594532933346640527,4594145004533737902,4567849781094414462) (4598738169498697728,4592545720011063294,0) (4598738169498697728,4592545720011063296,0) 4589334820276734331 7 18 (.node (4598282180036426465,4597748165710611010,4572086767623844622) (4602397344195936256,4595923419731591167,4352729039853584384) (4602397344195936256,4595923419731591168,0) 4589313297697869956 12 31 .leaf .leaf) (.node (4596041639221809643,4595518827600067272,4568383007290295134) (4600145544382251008,4594234569871327231,0) (4600145544382251008,4594234569871327232,0) 4589363828969986315 9 23 .leaf .leaf))))
theorem k0aba : chkQ 0 (4582367584853205975,4582501341762138879,4565850182859861948) (4586195644536470896,4585656113301111912,4552663643150921216) ((1,3),(2,5)) t0aba = true := by decide +kernel
noncomputable def t0abb : T := (.node (4588875286314756341,4587729345389571920,13787089314931115068) (4592545720011063296,4586916220476850175,0) (4592545720011063296,4586916220476850176,0) 4589811391665874067 3 7 (.node (4592039065052984114,4591196328972712412,13786022862539353724) (4595923419731591168,4590293920197378046,0) (4595923419731591168,4590293920197378048,0) 4589668420249132145 5 12 (.node (4594364048360614133,4593807797511638536,13784394360914096504) (4598456694521987072,4592545720011063294,0) (4598456694521987072,4592545720011063296,0) 4589609549665767825 7 17 (.node (4595872754235783249,4595181620577967906,13782261456130573816) (4599864069405540352,4594234569871327231,0) (4599864069405540352,4594234569871327232,0) 4589577438438478196 9 22 .leaf .leaf) (.node (4598051370555523726,4597073751666412278,13789964412933228344) (4601834394242514943,4595923419731591166,0) (4601834394242514944,4595923419731591168,0) 4589633909907159959 12 29 .leaf .leaf)) (.node (4595033958805185494,4594326105533753538,13791059688362604892) (4599019644475408384,4593671619917905917,0) (4599019644475408384,4593671619917905920,0) 4589721093928984432 8 19 (.node (4598448250272685752,4597592059688527280,13793563689755422874) (4602397344195936256,4596486369685012479,4351040189993320448) (4602397344195936256,4596486369685012480,0) 4589700704117428708 13 31 .leaf .leaf) (.node (4597212575124925971,4596218236622197910,13794096915951303546) (4600989969312382975,4595360469778169854,0) (4600989969312382976,4595360469778169856,0) 4589745404858147027 11 26 .leaf .leaf))) (.node (4590361474191788605,4589485298884283676,13792126140754366236) (4594234569871327232,4589168020290535422,4345973640412528640) (4594234569871327232,4589168020290535424,0) 4590002020221529960 4 9 (.node (4594195163374587740,4593269561061172420,13794844513489447069) (4598175219545276416,4592545720011063296,4352166089900163072) (4598175219545276416,4592545720011063296,0) 4589918620228430507 7 16 (.node (4596373779694328217,4595362721577983542,13796363127283796396) (4600145544382251007,4594797519824748543,0) (4600145544382251008,4594797519824748544,0) 4589885985448522025 10 23 .leaf .leaf) (.node (4597043690138899578,4595881029600098544,13798148354176086059) (4600708494335672320,4595360469778169854,0) (4600708494335672320,4595360469778169856,0) 4589948644225946309 11 25 .leaf .leaf)) (.node (4591701295080931328,4590521914928513680,13795111126587387405) (4595360469778169856,4590293920197378047,4336966441157787648) (4595360469778169856,4590293920197378048,0) 4590123329302401893 5 11 (.node (4595534984263730462,4594507206533769174,13798414967274026395) (4599301119452119039,4594234569871327232,4348225440226213888) (4599301119452119040,4594234569871327232,0) 4590068740216009523 9 20 .leaf .leaf) (.node (4593041115970074050,4591558530972743684,13796896353479677068) (4596486369685012480,4591419820104220671,0) (4596486369685012480,4591419820104220672,0) 4590207312512236308 6 13 .leaf .leaf))))
theorem k0abb : chkQ 0 (4586195644536470896,4585656113301111912,4552663643150921216) (4581016504964994826,4579446550134893472,13788155767322876412) ((2,5),(1,2)) t0abb = true := by decide +kernel
noncomputable def t0baa : T := (.node (4589685934247683031,4587104921301237000,13800014645861668406) (4592545720011063296,4589168020290535424,4350477240039899136) (4592545720011063296,4589168020290535424,0) 4591527048666777112 4 7 (.node (4591025755136825754,4589173086840116216,13800907259307813238) (4594234569871327232,4590293920197378048,4352729039853584384) (4594234569871327232,4590293920197378048,0) 4591336420111121219 5 9 (.node (4592365576025968476,4590209702884346220,13801799872753958070) (4595360469778169856,4591419820104220671,4350477240039899136) (4595360469778169856,4591419820104220672,0) 4591215111030249285 6 11 (.node (4593688508416508559,4591246318928576224,13802692486200102902) (4596486369685012480,4592545720011063295,4345973640412528640) (4596486369685012480,4592545720011063296,0) 4591131127820414871 7 13 .leaf .leaf) (.node (4596199265208767611,4594194994489601714,13805857165658256150) (4599301119452119041,4595360469778169856,4354980839667269632) (4599301119452119040,4595360469778169856,0) 4591269700116641656 11 20 .leaf .leaf)) (.node (4594859444319624888,4592645136972837500,13804964552212111318) (4598175219545276416,4594234569871327232,4354980839667269632) (4598175219545276416,4594234569871327232,0) 4591419820104220672 9 16 (.node (4598040111556455301,4595412711533847354,13808095905033022024) (4600708494335672320,4597049319638433791,4359484439294640128) (4600708494335672320,4597049319638433792,0) 4591389796106704869 14 25 .leaf .leaf) (.node (4597370201111883940,4594894403511732352,13807709045825030897) (4600145544382251008,4596486369685012480,4359484439294640128) (4600145544382251008,4596486369685012480,0) 4591452454884129155 13 23 .leaf .leaf))) (.node (4593367626943058412,4590571904884377492,13804071938765966486) (4595923419731591168,4592545720011063296,4356106739574112256) (4595923419731591168,4592545720011063296,0) 4591670020083519032 7 12 (.node (4596030380222741218,4593857787467502348,13806816432378886065) (4599019644475408384,4595360469778169857,4360610339201482752) (4599019644475408384,4595360469778169856,0) 4591617346403666747 11 19 (.node (4598358178280138343,4595593812533862990,13808798691754873190) (4600989969312382976,4597612269591855105,4364550988875431936) (4600989969312382976,4597612269591855104,0) 4591593035474504152 15 26 .leaf .leaf) (.node (4599278601453982188,4596811529578108630,13809947785199796772) (4602397344195936256,4598738169498697728,4363988038922010624) (4602397344195936256,4598738169498697728,0) 4591637736215222469 18 31 .leaf .leaf)) (.node (4595360469778169856,4593007338972868772,13806370125655813649) (4598456694521987072,4594797519824748544,4360610339201482752) (4598456694521987072,4594797519824748544,0) 4591728890666883353 10 17 (.node (4598943646231696507,4596293221555993628,13809724631838260564) (4601834394242514944,4598456694521987072,4361736239108325376) (4601834394242514944,4598456694521987072,0) 4591704530425491221 17 29 .leaf .leaf) (.node (4597201316125857546,4594557196489632986,13808352385031800774) (4599864069405540352,4596486369685012480,4354980839667269632) (4599864069405540352,4596486369685012480,0) 4591761001894172981 13 22 .leaf .leaf))))
theorem k0baa : chkQ 0 (4581016504964994826,4579446550134893472,13788155767322876412) (4587524206426545193,4585031689212776992,13799122032415523574) ((1,2),(3,5)) t0baa = true := by decide +kernel
noncomputable def t0bab : T := (.node (4590687985164772966,4587829325301299544,13802825792749073068) (4593671619917905919,4590293920197378047,4354980839667269632) (4593671619917905920,4590293920197378048,0) 4592170420042115755 5 8 (.node (4594020648889027133,4590934106884408764,13805477512209668817) (4596486369685012480,4593671619917905919,4357232639480954880) (4596486369685012480,4593671619917905920,0) 4592054943128593435 8 13 (.node (4595861495236714823,4593369540972900044,13807775699099515980) (4598738169498697728,4595360469778169855,4357232639480954880) (4598738169498697728,4595360469778169856,0) 4592003620055916848 11 18 (.node (4597702341584402513,4594738297489648622,13809055171753651940) (4600145544382251008,4597049319638433791,4359484439294640128) (4600145544382251008,4597049319638433792,0) 4591974611362664864 14 23 .leaf .leaf) (.node (4599444671690241474,4596655423556024900,13811130205281962894) (4602397344195936256,4599019644475408383,4354980839667269632) (4602397344195936256,4599019644475408384,0) 4592025142634781223 19 31 .leaf .leaf)) (.node (4597032431139831152,4594219989467533620,13808832018392115732) (4599582594428829696,4596486369685012479,4359484439294640128) (4599582594428829696,4596486369685012480,0) 4592098934333744795 13 21 (.node (4600030139641799638,4597354832578155538,13812056145365350268) (4602960294149357568,4599582594428829694,4359484439294640128) (4602960294149357568,4599582594428829696,0) 4592082114167069275 21 34 .leaf .leaf) (.node (4599109716467955794,4596137115533909898,13810907051920426687) (4601834394242514944,4598738169498697728,4365113938828853248) (4601834394242514944,4598738169498697728,0) 4592118654529157473 18 29 .leaf .leaf))) (.node (4593029856971005624,4589897490840178760,13805031205486596401) (4595360469778169856,4592545720011063295,4357232639480954880) (4595360469778169856,4592545720011063296,0) 4592306892758096679 7 11 (.node (4596362520695259791,4593701681445418618,13808608865030579524) (4599019644475408384,4595923419731591167,4359484439294640128) (4599019644475408384,4595923419731591168,0) 4592249430561894184 12 19 (.node (4598774761245670113,4595618807511794896,13810683898558890479) (4601271444289093632,4598456694521987072,4361736239108325376) (4601271444289093632,4598456694521987072,0) 4592226020037515391 17 27 .leaf .leaf) (.node (4599360229197228278,4596318216533925534,13811609838642277852) (4602115869219225600,4599019644475408384,4366239838735695872) (4602115869219225600,4599019644475408384,0) 4592270500033835099 19 30 .leaf .leaf)) (.node (4594521674347572101,4591296308884440036,13806883085653371148) (4597049319638433792,4594234569871327232,4359484439294640128) (4597049319638433792,4594234569871327232,0) 4592384877167228635 9 14 (.node (4598439806023384432,4595100499489679894,13810460745197354270) (4600708494335672319,4598175219545276414,4359484439294640128) (4600708494335672320,4598175219545276416,0) 4592350564027210575 16 25 .leaf .leaf) (.node (4595692610250688430,4592695126928701312,13808385711669043316) (4598456694521987072,4595360469778169856,4360610339201482752) (4598456694521987072,4595360469778169856,0) 4592435337667255195 11 17 .leaf .leaf))))
theorem k0bab : chkQ 0 (4587524206426545193,4585031689212776992,13799122032415523574) (4584844564648259748,4581252493585469041,13797429579675557740) ((3,5),(2,3)) t0bab = true := by decide +kernel
noncomputable def t0bba : T := (.node (4590350215192720179,4586480497212902082,13804138592040451569) (4592545720011063297,4590293920197378048,4345973640412528640) (4592545720011063296,4590293920197378048,0) 4593242705667680159 5 7 (.node (4592692086998952837,4589223076795980029,13805990472207226316) (4594797519824748544,4592545720011063294,4354980839667269632) (4594797519824748544,4592545720011063296,0) 4593071139967589853 7 10 (.node (4594352789361545708,4590621894840241305,13807842352374001063) (4596486369685012481,4594234569871327232,4360610339201482752) (4596486369685012480,4594234569871327232,0) 4592978758436771997 9 13 (.node (4595523725264662037,4592020712884502581,13808865345029358273) (4598175219545276416,4595360469778169856,4361736239108325376) (4598175219545276416,4595360469778169856,0) 4592921019980010837 11 16 .leaf .leaf) (.node (4598270921037358039,4594426085445481163,13811420011917984186) (4600145544382251008,4598175219545276416,4359484439294640128) (4600145544382251008,4598175219545276416,0) 4593018924319736283 16 23 .leaf .leaf)) (.node (4596024750723207004,4592382914884533854,13809568131751209438) (4598456694521987072,4595923419731591167,4354980839667269632) (4598456694521987072,4595923419731591168,0) 4593141784667627037 12 17 (.node (4599106901718188687,4595306595467627438,13812794397934266978) (4601271444289093632,4599019644475408383,0) (4601271444289093632,4599019644475408384,0) 4593115619963909563 19 27 .leaf .leaf) (.node (4598521433766630523,4594607186445496800,13812122798639835350) (4600427019358961665,4598456694521987072,4359484439294640128) (4600427019358961664,4598456694521987072,0) 4593171219959309197 17 24 .leaf .leaf))) (.node (4593682878916974346,4589585278796011302,13807396045650928647) (4595360469778169856,4593671619917905919,0) (4595360469778169856,4593671619917905920,0) 4593398674485944072 8 11 (.node (4596525776181751972,4592745116884565127,13810270918473060604) (4598738169498697729,4596486369685012480,4354980839667269632) (4598738169498697728,4596486369685012480,0) 4593338019945508105 13 18 (.node (4598771946495903007,4594788287445512436,13812682821253498874) (4600708494335672322,4598738169498697728,4359484439294640128) (4600708494335672320,4598738169498697728,0) 4593311331947716280 18 25 .leaf .leaf) (.node (4599607927176733655,4595668797467658710,13813497184656118144) (4601834394242514944,4599582594428829696,4359484439294640128) (4601834394242514944,4599582594428829696,0) 4593361026840156231 21 29 .leaf .leaf)) (.node (4595354840278635642,4591346298840303850,13809344978389673230) (4597612269591855104,4595360469778169854,0) (4597612269591855104,4595360469778169856,0) 4593471459934467232 11 15 (.node (4599022459225175490,4594969388445528072,13813034214614424457) (4600989969312382977,4599019644475408383,0) (4600989969312382976,4599019644475408384,0) 4593440666090861280 19 26 .leaf .leaf) (.node (4597026801640296938,4593107318884596398,13810973705194911769) (4599019644475408384,4597049319638433790,0) (4599019644475408384,4597049319638433792,0) 4593513598878349061 14 19 .leaf .leaf))))
theorem k0bba : chkQ 0 (4584844564648259748,4581252493585469041,13797429579675557740) (4586848666482439618,4582701301585594130,13801040565856783404) ((2,3),(3,4)) t0bba = true := by decide +kernel
noncomputable def t0bbb : T := (.node (4588852768316619488,4584150109585719219,13803692285317379153) (4590293920197378048,4589168020290535421,0) (4590293920197378048,4589168020290535424,0) 4593971859893063953 4 5 (.node (4592354317026900049,4587929305213027170,13806949738927856231) (4594234569871327232,4592545720011063294,4350477240039899136) (4594234569871327232,4592545720011063296,0) 4593838419904104827 7 9 (.node (4594684929834064281,4590309682796073846,13809121825028137022) (4596486369685012481,4594797519824748543,4354980839667269632) (4596486369685012480,4594797519824748544,0) 4593787096831428240 10 13 (.node (4596356891195725578,4592070702840366394,13810750551833375561) (4598456694521987072,4596486369685012479,4361736239108325376) (4598456694521987072,4596486369685012480,0) 4593759925792952400 13 17 .leaf .leaf) (.node (4598352548780604129,4593932772401298068,13812811061252888249) (4599864069405540353,4598456694521987071,4359484439294640128) (4599864069405540352,4598456694521987072,0) 4593808092633886844 17 22 .leaf .leaf)) (.node (4595185955292609248,4590671884796105118,13809824611749988188) (4597049319638433792,4595360469778169854,0) (4597049319638433792,4595360469778169856,0) 4593886077043018801 11 14 (.node (4598603061509876612,4594113873401313704,13813162454613813832) (4600145544382251008,4598738169498697726,0) (4600145544382251008,4598738169498697728,0) 4593867428597356811 18 23 .leaf .leaf) (.node (4597358942112815512,4592795106840428939,13812156125277077892) (4599019644475408384,4597612269591855101,0) (4599019644475408384,4597612269591855104,0) 4593908651477241209 15 19 .leaf .leaf))) (.node (4590012445220667391,4585131669124504618,13805097858761081484) (4591419820104220672,4590293920197378047,0) (4591419820104220672,4590293920197378048,0) 4594172019876502642 5 6 (.node (4594015019389492920,4589273066751843842,13808898671666600814) (4595360469778169857,4594234569871327231,4354980839667269632) (4595360469778169856,4594234569871327232,0) 4594081038065848692 9 11 (.node (4596188006209699184,4591396288796167663,13811230185193690518) (4598175219545276417,4596486369685012478,4354980839667269632) (4598175219545276416,4596486369685012480,0) 4594046919886853461 13 16 .leaf .leaf) (.node (4596689031668244152,4591758490796198935,13811932971915541684) (4598456694521987073,4597049319638433790,4359484439294640128) (4598456694521987072,4597049319638433792,0) 4594113149293138321 14 17 .leaf .leaf)) (.node (4591014496137757326,4585856073124567162,13806503432204783815) (4592545720011063296,4591419820104220670,4350477240039899136) (4592545720011063296,4591419820104220672,0) 4594314991293244563 6 7 (.node (4595017070306582854,4589997470751906386,13810304245110303146) (4596486369685012479,4595360469778169854,0) (4596486369685012480,4595360469778169856,0) 4594249004485517522 11 13 .leaf .leaf) (.node (4592016547054847261,4586580477124629706,13807909005648486146) (4593671619917905918,4592545720011063294,0) (4593671619917905920,4592545720011063296,0) 4594422219855801003 7 8 .leaf .leaf))))
theorem k0bbb : chkQ 0 (4586848666482439618,4582701301585594130,13801040565856783404) (4579170029117772922,4572445254154183299,13795644352783268077) ((3,4),(1,1)) t0bbb = true := by decide +kernel
noncomputable def t0aa : T := .node (4583718664741417124,4584931709301049367,4572538929026432605) (4589168020290535424,4580160821035794432,4348225440226213888) (4589168020290535424,4580160821035794432,0) 4586165620538955093 1 4 t0aaa t0aab
theorem k0aa : chkQ 0 (4572054341706527539,4576548934134643294,4569820556291351772) (4582367584853205975,4582501341762138879,4565850182859861948) ((0,1),(1,3)) t0aa = true := chkQ_node rfl rfl (by decide +kernel) k0aaa k0aab
noncomputable def t0ab : T := .node (4586195644536470896,4585656113301111912,4552663643150921216) (4590293920197378048,4584664420663164926,0) (4590293920197378048,4584664420663164928,0) 4589468260265693457 2 5 t0aba t0abb
theorem k0ab : chkQ 0 (4582367584853205975,4582501341762138879,4565850182859861948) (4581016504964994826,4579446550134893472,13788155767322876412) ((1,3),(1,2)) t0ab = true := chkQ_node rfl rfl (by decide +kernel) k0aba k0abb
noncomputable def t0ba : T := .node (4587524206426545193,4585031689212776992,13799122032415523574) (4590293920197378048,4586916220476850176,4353854939760427008) (4590293920197378048,4586916220476850176,0) 4591870180066957721 3 5 t0baa t0bab
theorem k0ba : chkQ 0 (4581016504964994826,4579446550134893472,13788155767322876412) (4584844564648259748,4581252493585469041,13797429579675557740) ((1,2),(2,3)) t0ba = true := chkQ_node rfl rfl (by decide +kernel) k0baa k0bab
noncomputable def t0bb : T := .node (4586848666482439618,4582701301585594130,13801040565856783404) (4589168020290535424,4586916220476850175,4345973640412528640) (4589168020290535424,4586916220476850176,0) 4593671619917905920 3 4 t0bba t0bbb
theorem k0bb : chkQ 0 (4584844564648259748,4581252493585469041,13797429579675557740) (4579170029117772922,4572445254154183299,13795644352783268077) ((2,3),(1,1)) t0bb = true := chkQ_node rfl rfl (by decide +kernel) k0bba k0bbb
noncomputable def t0a : T := .node (4582367584853205975,4582501341762138879,4565850182859861948) (4586916220476850175,4580160821035794432,4347099540319371264) (4586916220476850176,4580160821035794432,0) 4588167220373341981 1 3 t0aa t0ab
theorem k0a : chkQ 0 (4572054341706527539,4576548934134643294,4569820556291351772) (4581016504964994826,4579446550134893472,13788155767322876412) ((0,1),(1,2)) t0a = true := chkQ_node rfl rfl (by decide +kernel) k0aa k0ab
noncomputable def t0b : T := .node (4584844564648259748,4581252493585469041,13797429579675557740) (4586916220476850177,4584664420663164927,4348225440226213888) (4586916220476850176,4584664420663164928,0) 4592670820000712477 2 3 t0ba t0bb
theorem k0b : chkQ 0 (4581016504964994826,4579446550134893472,13788155767322876412) (4579170029117772922,4572445254154183299,13795644352783268077) ((1,2),(1,1)) t0b = true := chkQ_node rfl rfl (by decide +kernel) k0ba k0bb
noncomputable def t0o : T := .node (4581016504964994826,4579446550134893472,13788155767322876412) (4584664420663164928,4580160821035794430,4336966441157787648) (4584664420663164928,4580160821035794432,0) 4590669220166325589 1 2 t0a t0b
theorem k0o : chkQ 0 (4572054341706527539,4576548934134643294,4569820556291351772) (4579170029117772922,4572445254154183299,13795644352783268077) ((0,1),(1,1)) t0o = true := chkQ_node rfl rfl (by decide +kernel) k0a k0b
theorem e0 : edge 0 = (4572054341706527539,4576548934134643294,4569820556291351772) := by decide +kernel
noncomputable def t1aaa : T := (.node (4589336905276561817,4580203605232254453,13807016392202341315) (4589168020290535424,4590293920197378047,4350477240039899136) (4589168020290535424,4590293920197378048,0) 4596373779694328219 1 5 (.node (4590338956193651752,4581652413232379542,13808229211581992191) (4590293920197378048,4591419820104220670,4350477240039899136) (4590293920197378048,4591419820104220672,0) 4596173619710889528 1 6 (.node (4591341007110741687,4583101221232504631,13808931998303843357) (4591419820104220671,4592545720011063294,0) (4591419820104220672,4592545720011063296,0) 4596030648294147608 1 7 (.node (4592343058027831622,4584550029232629720,13809634785025694523) (4592545720011063295,4593671619917905917,0) (4592545720011063296,4593671619917905920,0) 4595923419731591168 1 8 .leaf .leaf) (.node (4595343581279567216,4586880416859812582,13813084204570288270) (4595360469778169856,4596486369685012478,4354980839667269632) (4595360469778169856,4596486369685012480,0) 4596096635101874648 2 13 .leaf .leaf)) (.node (4594341530362477280,4585431608859687494,13812222778551562976) (4594234569871327232,4595360469778169854,0) (4594234569871327232,4595360469778169856,0) 4596264601521543477 2 11 (.node (4597178798127720692,4588429204771665297,13814729594694148080) (4597049319638433791,4598456694521987071,0) (4597049319638433792,4598456694521987072,0) 4596232490294253848 3 17 .leaf .leaf) (.node (4596677772669175724,4587704800771602752,13814378201333222497) (4596486369685012479,4598175219545276413,0) (4596486369685012480,4598175219545276416,0) 4596298719700538709 3 16 .leaf .leaf))) (.node (4593007338972868771,4583301181055959881,13810817205107860646) (4592545720011063296,4594234569871327231,0) (4592545720011063296,4594234569871327232,0) 4596507219683287344 2 9 (.node (4595675721752085790,4586255992771477663,13813675414611371332) (4595360469778169856,4597049319638433791,0) (4595360469778169856,4597049319638433792,0) 4596459562544373371 3 14 (.node (4598011964058784234,4588529184683392922,13815672198096156725) (4597612269591855104,4599019644475408383,0) (4597612269591855104,4599019644475408384,0) 4596436988110150960 4 19 .leaf .leaf) (.node (4599011200226107064,4589622996442890530,13817180622496349132) (4598738169498697728,4600145544382251007,0) (4598738169498697728,4600145544382251008,0) 4596478210990035360 5 23 .leaf .leaf)) (.node (4595174696293540822,4585531588771415118,13813324021250445749) (4594797519824748544,4596486369685012479,0) (4594797519824748544,4596486369685012480,0) 4596558542755963931 3 13 (.node (4598760687496834580,4589260794442859257,13816966194859090952) (4598456694521987072,4599864069405540351,4359484439294640128) (4598456694521987072,4599864069405540352,0) 4596537546953505325 5 22 .leaf .leaf) (.node (4597009913141694299,4587080376683267832,13814969411374305559) (4596486369685012480,4598456694521987071,4359484439294640128) (4596486369685012480,4598456694521987072,0) 4596585713794439771 4 17 .leaf .leaf))))
theorem k1aaa : chkQ 1 (4579170029117772922,4572445254154183299,13795644352783268077) (4587501688428408340,4577348773428464296,13805610818758638984) ((0,1),(1,4)) t1aaa = true := by decide +kernel
noncomputable def t1aab : T := (.node (4591003237138688901,4580403565055709703,13809411631664158314) (4590293920197378048,4592545720011063295,4359484439294640128) (4590293920197378048,4592545720011063296,0) 4596888476794599131 2 7 (.node (4594172645376450888,4583501140879415131,13812621234528594583) (4593671619917905921,4595360469778169855,4361736239108325376) (4593671619917905920,4595360469778169856,0) 4596810492385467173 3 11 (.node (4596007862224604365,4585631568683142744,13814266624652454393) (4595360469778169858,4597612269591855103,4363988038922010624) (4595360469778169856,4597612269591855104,0) 4596774099661205595 4 15 (.node (4597843079072757842,4587180356594995458,13815912014776314203) (4597049319638433794,4599019644475408384,4363988038922010624) (4597049319638433792,4599019644475408384,0) 4596753030189264680 5 19 .leaf .leaf) (.node (4599593853427898122,4589360774354586883,13817947529217894984) (4599019644475408385,4600989969312382975,4363988038922010624) (4599019644475408384,4600989969312382976,0) 4596789496583008571 7 26 .leaf .leaf)) (.node (4597342053614212874,4586455952594932913,13815560621415388620) (4596486369685012482,4598738169498697727,4363988038922010624) (4596486369685012480,4598738169498697728,0) 4596840819655685157 5 18 (.node (4600260949122702377,4589772966310481967,13818594527599362098) (4599582594428829696,4601834394242514943,4368491638549381120) (4599582594428829696,4601834394242514944,0) 4596829316208361096 8 29 .leaf .leaf) (.node (4599343340698625638,4588829124418575796,13817771832537432192) (4598738169498697729,4600708494335672319,4368491638549381120) (4598738169498697728,4600708494335672320,0) 4596854163654581072 7 25 .leaf .leaf))) (.node (4593671619917905920,4582052332879290042,13811999625190026768) (4592545720011063298,4594797519824748543,4361736239108325376) (4592545720011063296,4594797519824748544,0) 4596974259644644283 3 10 (.node (4596841028155667906,4585731548594870368,13815209228054463037) (4595923419731591168,4598456694521987071,4363988038922010624) (4595923419731591168,4598456694521987072,0) 4596938937294625691 5 17 (.node (4599092827969353154,4588104720418513252,13817596135856969401) (4598456694521987073,4600427019358961663,4366239838735695872) (4598456694521987072,4600427019358961664,0) 4596924219648784611 7 24 .leaf .leaf) (.node (4599759923664157409,4588929104330303421,13818243134238436514) (4599019644475408385,4601271444289093630,4370743438363066368) (4599019644475408384,4601271444289093632,0) 4596952019646484429 8 27 .leaf .leaf)) (.node (4595005811307514430,4583701100702870381,13813563837930603227) (4594234569871327234,4596486369685012480,4363988038922010624) (4594234569871327232,4596486369685012480,0) 4597020450410053211 4 13 (.node (4598842315240080671,4587380316418450708,13817420439176506610) (4598175219545276418,4600145544382251008,4366239838735695872) (4598175219545276416,4600145544382251008,0) 4597000367468571069 7 23 .leaf .leaf) (.node (4596340002697122940,4585007144594807824,13814857834693537454) (4595360469778169858,4598175219545276416,4366239838735695872) (4595360469778169856,4598175219545276416,0) 4597049319638433792 5 16 .leaf .leaf))))
theorem k1aab : chkQ 1 (4587501688428408340,4577348773428464296,13805610818758638984) (4585497586594228470,4573245093448004300,13804205245314936653) ((1,4),(1,3)) t1aab = true := by decide +kernel
noncomputable def t1aba : T := (.node (4591667518083726050,4578148612722285296,13810594051746324438) (4590293920197378049,4593671619917905920,4361736239108325376) (4590293920197378048,4593671619917905920,0) 4597424619607381333 3 8 (.node (4594003760390424494,4580803484702620203,13812861051208752062) (4592545720011063298,4595360469778169856,4361736239108325376) (4592545720011063296,4595360469778169856,0) 4597356383249390872 4 11 (.node (4595337951780033004,4582452252526200542,13814155047971686289) (4594234569871327233,4597049319638433791,4366239838735695872) (4594234569871327232,4597049319638433792,0) 4597317391044824893 5 14 (.node (4596672143169641514,4584101020349780881,13815449044734620516) (4595360469778169858,4598456694521987072,4368491638549381120) (4595360469778169856,4598456694521987072,0) 4597292160794811613 6 17 .leaf .leaf) (.node (4599174455712599245,4586131468241780868,13818011649217589672) (4598175219545276417,4600708494335672320,4368491638549381120) (4598175219545276416,4600708494335672320,0) 4597334547614833923 9 25 .leaf .leaf)) (.node (4597505309100705055,4584300980173236131,13816391648136629161) (4595923419731591170,4599019644475408384,4366239838735695872) (4595923419731591168,4599019644475408384,0) 4597385114347492117 7 19 (.node (4600258134372935270,4587055832065298663,13819129949300061108) (4599019644475408384,4602115869219225599,4363988038922010624) (4599019644475408384,4602115869219225600,0) 4597374579611521661 11 30 .leaf .leaf) (.node (4599591038678131016,4586231448153508494,13818482950918593994) (4598456694521987074,4601271444289093631,4368491638549381120) (4598456694521987072,4601271444289093632,0) 4597396819609681515 10 27 .leaf .leaf))) (.node (4594836926321488036,4581003444526075453,13813803654610760707) (4593671619917905920,4596486369685012479,4363988038922010624) (4593671619917905920,4596486369685012480,0) 4597482358064142493 5 13 (.node (4598256847288522506,4584500939996691381,13817188954155659767) (4596486369685012480,4599582594428829695,4363988038922010624) (4596486369685012480,4599582594428829696,0) 4597460362461566813 8 21 (.node (4600007621643662786,4586331428065236118,13818954252619598316) (4598738169498697728,4601834394242514943,4368491638549381120) (4598738169498697728,4601834394242514944,0) 4597450502363860475 11 29 .leaf .leaf) (.node (4601091300303998812,4587255791888753913,13820072552702069752) (4599582594428829697,4602960294149357567,4368491638549381120) (4599582594428829696,4602960294149357568,0) 4597468772544904573 13 34 .leaf .leaf)) (.node (4597004283642160087,4582852172173111042,13816040254775703579) (4595360469778169856,4598738169498697727,4363988038922010624) (4595360469778169856,4598738169498697728,0) 4597508019600480787 7 18 (.node (4600424204609194558,4586431407976963744,13819425554320602639) (4599019644475408385,4602397344195936256,4368491638549381120) (4599019644475408384,4602397344195936256,0) 4597497258311048600 12 31 .leaf .leaf) (.node (4598673430254054277,4584682660241655780,13817660255856664089) (4597049319638433793,4600145544382251007,4363988038922010624) (4597049319638433792,4600145544382251008,0) 4597522523947106779 9 23 .leaf .leaf))))
theorem k1aba : chkQ 1 (4585497586594228470,4573245093448004300,13804205245314936653) (4588830250318482637,4574044932741825301,13807975658922971231) ((1,3),(2,5)) t1aba = true := by decide +kernel
noncomputable def t1abb : T := (.node (4590665467166636114,4574844772035646302,13809891265024473272) (4589168020290535425,4592545720011063296,4359484439294640128) (4589168020290535424,4592545720011063296,0) 4597746305295050653 3 7 (.node (4594335900862943068,4578948452016106298,13813452261249835124) (4592545720011063296,4595923419731591167,4359484439294640128) (4592545720011063296,4595923419731591168,0) 4597674819586679693 5 12 (.node (4596503258183615119,4581403364172985954,13815688861414777996) (4594797519824748544,4598456694521987071,4359484439294640128) (4594797519824748544,4598456694521987072,0) 4597645384294997533 7 17 (.node (4598422917524781793,4583252091820021543,13817484559176201298) (4596486369685012480,4599864069405540351,4359484439294640128) (4596486369685012480,4599864069405540352,0) 4597629328681352720 9 22 .leaf .leaf) (.node (4599923179150649590,4584982599976838656,13819074160959677056) (4598456694521987073,4601834394242514944,4368491638549381120) (4598456694521987072,4601834394242514944,0) 4597657564415693600 12 29 .leaf .leaf)) (.node (4597336424114678661,4581603323996441204,13816631464816786640) (4595360469778169857,4599019644475408384,4363988038922010624) (4595360469778169856,4599019644475408384,0) 4597701156426605837 8 19 (.node (4600339762116181360,4585082579888566280,13819545462660681378) (4598738169498697728,4602397344195936254,4363988038922010624) (4598738169498697728,4602397344195936256,0) 4597690961520827976 13 31 .leaf .leaf) (.node (4599256083455845335,4583652011466932044,13818427162578209942) (4597612269591855106,4600989969312382975,4368491638549381120) (4597612269591855104,4600989969312382976,0) 4597713311891187133 11 26 .leaf .leaf))) (.node (4592331799028763198,4575644611329467303,13811776471828490561) (4590293920197378050,4594234569871327232,4361736239108325376) (4590293920197378048,4594234569871327232,0) 4597841619572878603 4 9 (.node (4596002232725070152,4579748291309927298,13815337468053852412) (4594234569871327234,4598175219545276415,4366239838735695872) (4594234569871327232,4598175219545276416,0) 4597799919576328875 7 16 (.node (4598588987761041080,4582003243643351704,13817780164196742828) (4596486369685012480,4600145544382251007,4366239838735695872) (4596486369685012480,4600145544382251008,0) 4597783602186374635 10 23 .leaf .leaf) (.node (4599005570726572852,4582203203466806955,13818251465897747150) (4597049319638433796,4600708494335672320,4370743438363066368) (4597049319638433792,4600708494335672320,0) 4597814931575086776 11 25 .leaf .leaf)) (.node (4593834875404398101,4576050836015856120,13813100867888909541) (4591419820104220674,4595360469778169856,4361736239108325376) (4591419820104220672,4595360469778169856,0) 4597902274113314568 5 11 (.node (4597668564587197236,4580354475819771366,13817133165815275715) (4595360469778169858,4599301119452119040,4366239838735695872) (4595360469778169856,4599301119452119040,0) 4597874979570118384 9 20 .leaf .leaf) (.node (4594668041335461643,4576450755662766620,13814043471290918186) (4592545720011063299,4596486369685012480,4363988038922010624) (4592545720011063296,4596486369685012480,0) 4597944265718231776 6 13 .leaf .leaf))))
theorem k1abb : chkQ 1 (4588830250318482637,4574044932741825301,13807975658922971231) (4582322548856932270,4559537937622139464,13802066485851898404) ((2,5),(1,2)) t1abb = true := by decide +kernel
noncomputable def t1baa : T := (.node (4590327697194583326,13790710209031520958,13810370898384788231) (4586916220476850176,4592545720011063294,0) (4586916220476850176,4592545720011063296,0) 4598389676670389296 4 7 (.node (4591994029056710410,13788199001879299160,13812256105188805520) (4589168020290535424,4594234569871327231,4354980839667269632) (4589168020290535424,4594234569871327232,0) 4598342019531475323 5 9 (.node (4593660360918837494,13784480830026942056,13813340684569067020) (4590293920197378050,4595360469778169855,4363988038922010624) (4590293920197378048,4595360469778169856,0) 4598311692261257340 6 11 (.node (4594499156349435249,13773787483071713408,13814283287971075664) (4591419820104220674,4596486369685012480,4363988038922010624) (4591419820104220672,4596486369685012480,0) 4598290696458798736 7 13 .leaf .leaf) (.node (4597330794615144448,13791102922919027654,13817372982495433194) (4594234569871327232,4599301119452119040,4359484439294640128) (4594234569871327232,4599301119452119040,0) 4598325339532855432 11 20 .leaf .leaf)) (.node (4595664462753017364,13794302280094311658,13815817101414167372) (4592545720011063296,4598175219545276415,0) (4592545720011063296,4598175219545276416,0) 4598362869529750187 9 16 (.node (4598752243247533260,13796210004896465803,13818611190917983370) (4595360469778169854,4600708494335672319,0) (4595360469778169856,4600708494335672320,0) 4598355363530371236 14 25 .leaf .leaf) (.node (4598335660282001490,13797009844190286804,13818139889216979048) (4594797519824748545,4600145544382251008,4363988038922010624) (4594797519824748544,4600145544382251008,0) 4598371028224727307 13 23 .leaf .leaf))) (.node (4593998130890890280,13796013647952712455,13813931894610150082) (4590293920197378047,4595923419731591167,0) (4590293920197378048,4595923419731591168,0) 4598425419524574777 7 12 (.node (4596829769156599479,13798609522777928806,13817197285814970403) (4593671619917905918,4599019644475408383,0) (4593671619917905920,4599019644475408384,0) 4598412251104611705 11 19 (.node (4598918313483792547,13800117327933172450,13818906795938524901) (4595360469778169854,4600989969312382975,0) (4595360469778169856,4600989969312382976,0) 4598406173372321056 15 26 .leaf .leaf) (.node (4599917549651115376,13801815184992691126,13820145004361075076) (4596486369685012481,4602397344195936255,0) (4596486369685012480,4602397344195936256,0) 4598417348557500636 18 31 .leaf .leaf)) (.node (4595996603225535938,13799219310167474776,13816408311455250433) (4592545720011063296,4598456694521987071,0) (4592545720011063296,4598456694521987072,0) 4598440137170415857 10 17 (.node (4599500966685583605,13802215104639601628,13819673702660070754) (4595923419731591167,4601834394242514943,0) (4595923419731591168,4601834394242514944,0) 4598434047110067824 17 29 .leaf .leaf) (.node (4597995075560181596,13800917167226993452,13817964192536516256) (4594234569871327232,4599864069405540352,4363988038922010624) (4594234569871327232,4599864069405540352,0) 4598448164977238264 13 22 .leaf .leaf))))
theorem k1baa : chkQ 1 (4582322548856932270,4559537937622139464,13802066485851898404) (4588154710374377062,13792309887619162960,13808485691580770942) ((1,2),(3,5)) t1baa = true := by decide +kernel
noncomputable def t1bab : T := (.node (4590991978139620474,13797613326540354457,13811553318466954354) (4586916220476850175,4593671619917905918,0) (4586916220476850176,4593671619917905920,0) 4598550519514223957 5 8 (.node (4594330271363408854,13800019149461295776,13814523104651233144) (4590293920197378048,4596486369685012478,0) (4590293920197378048,4596486369685012480,0) 4598521650285843377 8 13 (.node (4596328743698054512,13801717006520814452,13816999521496333495) (4592545720011063296,4598738169498697728,0) (4592545720011063296,4598738169498697728,0) 4598508819517674231 11 18 (.node (4598251217788988293,13803414863580333128,13818259797557057787) (4594234569871327232,4600145544382251008,4363988038922010624) (4594234569871327232,4600145544382251008,0) 4598501567344361235 14 23 .leaf .leaf) (.node (4599833107158102179,13805371677618425610,13820264912701153816) (4595923419731591167,4602397344195936254,0) (4595923419731591168,4602397344195936256,0) 4598514200162390324 19 31 .leaf .leaf)) (.node (4597494050101636627,13803673820558906934,13817788495856053464) (4593671619917905919,4599582594428829695,0) (4593671619917905920,4599582594428829696,0) 4598532648087131217 13 21 (.node (4600415760359893236,13806420565971640198,13821031819422699668) (4596486369685012479,4602960294149357566,0) (4596486369685012480,4602960294149357568,0) 4598528443045462337 21 34 .leaf .leaf) (.node (4599416524192570408,13805571637441880860,13819793611000149492) (4595360469778169855,4601834394242514942,4363988038922010624) (4595360469778169856,4601834394242514944,0) 4598537578135984387 18 29 .leaf .leaf))) (.node (4593322590946784706,13800419069108206277,13813580501249224499) (4589168020290535424,4595360469778169855,4359484439294640128) (4589168020290535424,4595360469778169856,0) 4598584637693219188 7 11 (.node (4596660884170573086,13803873780382362185,13817317194155049142) (4592545720011063295,4599019644475408383,4363988038922010624) (4592545720011063296,4599019644475408384,0) 4598570272144168565 12 19 (.node (4598999941227038638,13805771597265336111,13819322309299145170) (4594797519824748545,4601271444289093630,4368491638549381120) (4594797519824748544,4601271444289093632,0) 4598564419513073867 17 27 .leaf .leaf) (.node (4599582594428829696,13806820485618550700,13820089216020691024) (4595360469778169858,4602115869219225600,4363988038922010624) (4595360469778169856,4602115869219225600,0) 4598575539512153793 19 30 .leaf .leaf)) (.node (4594662411835927429,13802516845814635454,13815114314692316205) (4590293920197378048,4597049319638433791,4359484439294640128) (4590293920197378048,4597049319638433792,0) 4598604133795502177 9 14 (.node (4598583358261506867,13805971557088791362,13818851007598140848) (4594234569871327232,4600708494335672319,4363988038922010624) (4594234569871327232,4600708494335672320,0) 4598595555510497663 16 25 .leaf .leaf) (.node (4595827718239509545,13804073740205817435,13816648128135407911) (4591419820104220674,4598456694521987072,4363988038922010624) (4591419820104220672,4598456694521987072,0) 4598616748920508817 11 17 .leaf .leaf))))
theorem k1bab : chkQ 1 (4588154710374377062,13792309887619162960,13808485691580770942) (4584822046650122895,13793909566206804962,13805164512035566569) ((3,5),(2,3)) t1bab = true := by decide +kernel
noncomputable def t1bba : T := (.node (4589989927222530539,13801218908402027278,13810850531745103188) (4584664420663164929,4592545720011063294,4354980839667269632) (4584664420663164928,4592545720011063296,0) 4598818590920615059 5 7 (.node (4592320540029694770,13803316685108456454,13813229107888298916) (4586916220476850177,4594797519824748543,4354980839667269632) (4586916220476850176,4594797519824748544,0) 4598775699495592483 7 10 (.node (4594161386377382461,13804473659852727935,13814762921331390622) (4589168020290535424,4596486369685012479,4359484439294640128) (4589168020290535424,4596486369685012480,0) 4598752604112888019 9 13 (.node (4595326692780964577,13805522548205942523,13816296734774482328) (4590293920197378050,4598175219545276414,4359484439294640128) (4590293920197378048,4598175219545276416,0) 4598738169498697728 11 16 .leaf .leaf) (.node (4597989446060647382,13808452815303491137,13818499614237215265) (4592545720011063296,4600145544382251007,4363988038922010624) (4592545720011063296,4600145544382251008,0) 4598762645583629089 16 23 .leaf .leaf)) (.node (4595658833253483150,13806771396382612362,13816887944815565390) (4590293920197378047,4598456694521987071,0) (4590293920197378048,4598456694521987072,0) 4598793360670601779 12 17 (.node (4598831056241012244,13809601683568433350,13819562125979302649) (4593671619917905920,4601271444289093631,4363988038922010624) (4593671619917905920,4601271444289093632,0) 4598786819494672409 19 27 .leaf .leaf) (.node (4598248403039221186,13809077239391826056,13818795219257756796) (4592545720011063297,4600427019358961662,4363988038922010624) (4592545720011063296,4600427019358961664,0) 4598800719493522319 17 24 .leaf .leaf))) (.node (4592984820974731918,13804673619676183186,13813820317929381978) (4586916220476850174,4595360469778169855,0) (4586916220476850176,4595360469778169856,0) 4598857583125181037 8 11 (.node (4595990973726001724,13808020244559282201,13817261405814665090) (4590293920197378047,4598738169498697726,4359484439294640128) (4590293920197378048,4598738169498697728,0) 4598842419490072045 13 18 (.node (4598414473275480473,13809701663480160976,13819090824278298327) (4592545720011063296,4600708494335672318,4363988038922010624) (4592545720011063296,4600708494335672320,0) 4598835747490624088 18 25 .leaf .leaf) (.node (4599163196713530818,13810850531745103190,13820153336020385711) (4593671619917905920,4601834394242514942,4363988038922010624) (4593671619917905920,4601834394242514944,0) 4598848171213734076 21 29 .leaf .leaf)) (.node (4594825667322419609,13806971356206067613,13815945341413556746) (4589168020290535422,4597612269591855102,0) (4589168020290535424,4597612269591855104,0) 4598875779487311827 11 15 (.node (4598580543511739760,13810326087568495896,13819386429298839858) (4592545720011063294,4600989969312382975,0) (4592545720011063296,4600989969312382976,0) 4598868081026410339 19 26 .leaf .leaf) (.node (4596323114198520299,13808652775126946388,13817557010835206621) (4590293920197378048,4599019644475408383,4359484439294640128) (4590293920197378048,4599019644475408384,0) 4598886314223282284 14 19 .leaf .leaf))))
theorem k1bba : chkQ 1 (4584822046650122895,13793909566206804962,13805164512035566569) (4586150608540197191,13799121131695598102,13807529352199898816) ((2,3),(3,4)) t1bba = true := by decide +kernel
noncomputable def t1bbb : T := (.node (4587479170430271487,13801618828048937779,13808965324941085900) (4580160821035794428,4590293920197378047,0) (4580160821035794432,4590293920197378048,0) 4599075939470750515 4 5 (.node (4591318489112604835,13804873579499638436,13812877714527373334) (4584664420663164926,4594234569871327231,0) (4584664420663164928,4594234569871327232,0) 4599009219476270952 7 9 (.node (4593992501391356067,13807171316029522863,13815002738011548102) (4586916220476850174,4596486369685012479,0) (4586916220476850176,4596486369685012480,0) 4598983557939932659 10 13 (.node (4595489948267456757,13808752755038674013,13817085709134202299) (4589168020290535424,4598456694521987071,0) (4589168020290535424,4598456694521987072,0) 4598969972420694739 13 17 .leaf .leaf) (.node (4597319535616076020,13810526047391951146,13818443825896831214) (4590293920197378045,4599864069405540350,0) (4590293920197378048,4599864069405540352,0) 4598994055841161960 17 22 .leaf .leaf)) (.node (4594324641863874641,13808228310862066719,13815593948052631164) (4586916220476850172,4597049319638433790,0) (4586916220476850176,4597049319638433792,0) 4599033048045727939 11 14 (.node (4597651676088594594,13811150471480286065,13818739430917372745) (4590293920197378046,4600145544382251007,0) (4590293920197378048,4600145544382251008,0) 4599023723822896944 18 23 .leaf .leaf) (.node (4596154229212493905,13810001603215343852,13817676919175285361) (4589168020290535418,4599019644475408383,0) (4589168020290535424,4599019644475408384,0) 4599044335262839144 15 19 .leaf .leaf))) (.node (4588807732320345783,13803824691146423848,13810147745023252024) (4580160821035794428,4591419820104220671,0) (4580160821035794432,4591419820104220672,0) 4599176019462469860 5 6 (.node (4592647051002679131,13807371275852978114,13814060134609539458) (4584664420663164922,4595360469778169855,0) (4584664420663164928,4595360469778169856,0) 4599130528557142885 9 11 (.node (4594988922808911789,13809477159038736558,13816776368134797288) (4586916220476850170,4598175219545276414,0) (4586916220476850176,4598175219545276416,0) 4599113469467645269 13 16 .leaf .leaf) (.node (4595321063281430363,13810101583127071477,13817205617474281039) (4586916220476850172,4598456694521987071,0) (4586916220476850176,4598456694521987072,0) 4599146584170787699 14 17 .leaf .leaf)) (.node (4589652157250477752,13805073539323093686,13811330165105418148) (4580160821035794432,4592545720011063296,0) (4580160821035794432,4592545720011063296,0) 4599247505170840820 6 7 (.node (4593823616405329674,13808952714862129263,13815242554691705582) (4584664420663164926,4596486369685012480,0) (4584664420663164928,4596486369685012480,0) 4599214511766977300 11 13 .leaf .leaf) (.node (4590316438195514900,13806322387499763524,13812512585187584272) (4580160821035794428,4593671619917905919,0) (4580160821035794432,4593671619917905920,0) 4599301119452119040 7 8 .leaf .leaf))))
theorem k1bbb : chkQ 1 (4586150608540197191,13799121131695598102,13807529352199898816) (4576467869341350625,13795017451715138106,13799255338964493742) ((3,4),(1,1)) t1bbb = true := by decide +kernel
noncomputable def t1aa : T := .node (4587501688428408340,4577348773428464296,13805610818758638984) (4586916220476850176,4589168020290535422,4350477240039899136) (4586916220476850176,4589168020290535424,0) 4596674019669486251 1 4 t1aaa t1aab
theorem k1aa : chkQ 1 (4579170029117772922,4572445254154183299,13795644352783268077) (4585497586594228470,4573245093448004300,13804205245314936653) ((0,1),(1,3)) t1aa = true := chkQ_node rfl rfl (by decide +kernel) k1aaa k1aab
noncomputable def t1ab : T := .node (4588830250318482637,4574044932741825301,13807975658922971231) (4586916220476850177,4590293920197378048,4354980839667269632) (4586916220476850176,4590293920197378048,0) 4597574739594960349 2 5 t1aba t1abb
theorem k1ab : chkQ 1 (4585497586594228470,4573245093448004300,13804205245314936653) (4582322548856932270,4559537937622139464,13802066485851898404) ((1,3),(1,2)) t1ab = true := chkQ_node rfl rfl (by decide +kernel) k1aba k1abb
noncomputable def t1ba : T := .node (4588154710374377062,13792309887619162960,13808485691580770942) (4584664420663164928,4590293920197378047,0) (4584664420663164928,4590293920197378048,0) 4598475459520434449 3 5 t1baa t1bab
theorem k1ba : chkQ 1 (4582322548856932270,4559537937622139464,13802066485851898404) (4584822046650122895,13793909566206804962,13805164512035566569) ((1,2),(2,3)) t1ba = true := chkQ_node rfl rfl (by decide +kernel) k1baa k1bab
noncomputable def t1bb : T := .node (4586150608540197191,13799121131695598102,13807529352199898816) (4580160821035794432,4589168020290535422,0) (4580160821035794432,4589168020290535424,0) 4598925819483171499 3 4 t1bba t1bbb
theorem k1bb : chkQ 1 (4584822046650122895,13793909566206804962,13805164512035566569) (4576467869341350625,13795017451715138106,13799255338964493742) ((2,3),(1,1)) t1bb = true := chkQ_node rfl rfl (by decide +kernel) k1bba k1bbb
noncomputable def t1a : T := .node (4585497586594228470,4573245093448004300,13804205245314936653) (4584664420663164929,4586916220476850176,4352729039853584384) (4584664420663164928,4586916220476850176,0) 4597174419628082973 1 3 t1aa t1ab
theorem k1a : chkQ 1 (4579170029117772922,4572445254154183299,13795644352783268077) (4582322548856932270,4559537937622139464,13802066485851898404) ((0,1),(1,2)) t1a = true := chkQ_node rfl rfl (by decide +kernel) k1aa k1ab
noncomputable def t1b : T := .node (4584822046650122895,13793909566206804962,13805164512035566569) (4580160821035794432,4586916220476850175,4350477240039899136) (4580160821035794432,4586916220476850176,0) 4598675619503873137 2 3 t1ba t1bb
theorem k1b : chkQ 1 (4582322548856932270,4559537937622139464,13802066485851898404) (4576467869341350625,13795017451715138106,13799255338964493742) ((1,2),(1,1)) t1b = true := chkQ_node rfl rfl (by decide +kernel) k1ba k1bb
noncomputable def t1o : T := .node (4582322548856932270,4559537937622139464,13802066485851898404) (4580160821035794432,4584664420663164928,4345973640412528640) (4580160821035794432,4584664420663164928,0) 4598175219545276416 1 2 t1a t1b
theorem k1o : chkQ 1 (4579170029117772922,4572445254154183299,13795644352783268077) (4576467869341350625,13795017451715138106,13799255338964493742) ((0,1),(1,1)) t1o = true := chkQ_node rfl rfl (by decide +kernel) k1a k1b
theorem e1 : edge 1 = (4579170029117772922,4572445254154183299,13795644352783268077) := by decide +kernel
noncomputable def t2aaa : T := (.node (4587051328465671290,13806722307146674024,13808742171579549692) (0,4590293920197378047,4580160821035794428) (0,4590293920197378048,4580160821035794432) 4600276899371382648 1 5 (.node (4588379890355745586,13807971155323343862,13809924591661715816) (0,4591419820104220671,4580160821035794424) (0,4591419820104220672,4580160821035794432) 4600176819379663303 1 6 (.node (4589438236268177653,13808628230508977218,13811107011743881940) (0,4592545720011063295,4580160821035794416) (0,4592545720011063296,4580160821035794432) 4600105333671292343 1 7 (.node (4590102517213214801,13809252654597312137,13812289431826048064) (0,4593671619917905919,4580160821035794408) (0,4593671619917905920,4580160821035794432) 4600051719390014123 1 8 .leaf .leaf) (.node (4593547770928153230,13812819618092180254,13815019401330169374) (0,4596486369685012478,4584664420663164912) (0,4596486369685012480,4584664420663164928) 4600138327075155863 2 13 .leaf .leaf)) (.node (4592219209038078934,13811850330862379439,13813836981248003250) (0,4595360469778169855,4584664420663164920) (0,4595360469778169856,4584664420663164928) 4600222310284990277 2 11 (.node (4595000181807980216,13814430668268881365,13817032848133576038) (4354980839667269632,4598456694521987072,4586916220476850176) (0,4598456694521987072,4586916220476850176) 4600206254671345464 3 17 .leaf .leaf) (.node (4594668041335461642,13814118456224713906,13816441638092492976) (0,4598175219545276416,4586916220476850176) (0,4598175219545276416,4586916220476850176) 4600239369374487893 3 16 .leaf .leaf))) (.node (4590890647148004638,13810601482685709601,13812654561165837126) (0,4594234569871327232,4584664420663164928) (0,4594234569871327232,4584664420663164928) 4600343619365862211 2 9 (.node (4594003760390424494,13813494032136378986,13815259218010326852) (4354980839667269632,4597049319638433792,4586916220476850176) (0,4597049319638433792,4586916220476850176) 4600319790796405224 3 14 (.node (4595726387247893708,13815417294357247556,13817453765813749153) (0,4599019644475408383,4589168020290535424) (0,4599019644475408384,4589168020290535424) 4600308503579294019 4 19 .leaf .leaf) (.node (4597116873632844349,13817028344533948666,13818460489215452485) (4359484439294640128,4600145544382251007,4590293920197378044) (0,4600145544382251008,4590293920197378048) 4600329115019236219 5 23 .leaf .leaf)) (.node (4593671619917905919,13813181820092211527,13814668007969243790) (0,4596486369685012479,4586916220476850172) (0,4596486369685012480,4586916220476850176) 4600369280902200504 3 13 (.node (4596784733160325774,13816716132489781208,13818164884194910954) (0,4599864069405540351,4590293920197378048) (0,4599864069405540352,4590293920197378048) 4600358783000971203 5 22 .leaf .leaf) (.node (4595062106302856560,13814792870268912638,13816681454772650454) (0,4598456694521987071,4589168020290535424) (0,4598456694521987072,4589168020290535424) 4600382866421438424 4 17 .leaf .leaf))))
theorem k2aaa : chkQ 2 (4576467869341350625,13795017451715138106,13799255338964493742) (4585722766575596994,13805473458970004186,13807083045476826401) ((0,1),(1,4)) t2aaa = true := by decide +kernel
noncomputable def t2aab : T := (.node (4589562085257930342,13809352634509039763,13810404225022030774) (0,4592545720011063296,4584664420663164928) (0,4592545720011063296,4584664420663164928) 4600534247921518104 2 7 (.node (4592343058027831623,13812557396003876608,13813485587887077667) (0,4595360469778169855,4586916220476850172) (0,4595360469778169856,4586916220476850176) 4600495255716952125 3 11 (.node (4594397825357819412,13814168446180577718,13815499034690484331) (4354980839667269632,4597612269591855103,4589168020290535420) (0,4597612269591855104,4589168020290535424) 4600477059354821336 4 15 (.node (4595788311742770052,13815779496357278828,13817278069133286362) (0,4599019644475408383,4590293920197378044) (0,4599019644475408384,4590293920197378048) 4600466524618850879 5 19 .leaf .leaf) (.node (4598206181792714588,13817866520719597659,13818995910916151495) (4354980839667269632,4600989969312382975,4592545720011063296) (0,4600989969312382976,4592545720011063296) 4600484757815722824 7 26 .leaf .leaf)) (.node (4595456171270251478,13815467284313111370,13816921271452807934) (0,4598738169498697728,4590293920197378046) (0,4598738169498697728,4590293920197378048) 4600510419352061117 5 18 (.node (4598735354748930621,13818515939785864485,13819707029297313296) (0,4601834394242514943,4593671619917905920) (0,4601834394242514944,4593671619917905920) 4600504667628399087 8 29 .leaf .leaf) (.node (4597905003567634185,13817710414697513930,13818700305895609964) (0,4600708494335672319,4592545720011063296) (0,4600708494335672320,4592545720011063296) 4600517091351509075 7 25 .leaf .leaf))) (.node (4591678777082794475,13811950310774107065,13812894377845994606) (0,4594797519824748544,4586916220476850170) (0,4594797519824748544,4586916220476850176) 4600577139346540680 3 10 (.node (4595124030797732904,13815155072268943910,13816330061411724873) (0,4598456694521987072,4590293920197378044) (0,4598456694521987072,4590293920197378048) 4600559478171531384 5 17 (.node (4597572863095115611,13817554308675430200,13818404700875068434) (0,4600427019358961663,4592545720011063292) (0,4600427019358961664,4592545720011063296) 4600552119348610844 7 24 .leaf .leaf) (.node (4598403214276412047,13818203727741697025,13819115819256230236) (0,4601271444289093631,4593671619917905912) (0,4601271444289093632,4593671619917905920) 4600566019347460753 8 27 .leaf .leaf)) (.node (4593733544412782264,13813544022092242800,13814316614608318208) (0,4596486369685012479,4589168020290535424) (0,4596486369685012480,4589168020290535424) 4600600234729245144 4 13 (.node (4597240722622597038,13817398202653346470,13818109095854526903) (0,4600145544382251008,4592545720011063292) (0,4600145544382251008,4592545720011063296) 4600590193258504073 7 23 .leaf .leaf) (.node (4594791890325214330,13814842860224776451,13815738851370641810) (0,4598175219545276415,4590293920197378048) (0,4598175219545276416,4590293920197378048) 4600614669343435435 5 16 .leaf .leaf))))
theorem k2aab : chkQ 2 (4585722766575596994,13805473458970004186,13807083045476826401) (4584123988707880468,13804224610793334348,13804718205312494154) ((1,4),(1,3)) t2aab = true := by decide +kernel
noncomputable def t2aba : T := (.node (4590350215192720179,13810701462597437227,13810883858382345731) (0,4593671619917905920,4586916220476850174) (0,4593671619917905920,4586916220476850176) 4600802319327909205 3 8 (.node (4592466907017584312,13812919598003907880,13813134194526152084) (0,4595360469778169855,4589168020290535422) (0,4595360469778169856,4589168020290535424) 4600768201148913975 4 11 (.node (4594127609380177182,13814218436136441531,13814556431288475686) (0,4597049319638433791,4590293920197378046) (0,4597049319638433792,4590293920197378048) 4600748705046630985 5 14 (.node (4595185955292609248,13815517274268975182,13815978668050799288) (0,4598456694521987071,4591419820104220672) (0,4598456694521987072,4591419820104220672) 4600736089921624345 6 17 .leaf .leaf) (.node (4598028852557386874,13818072616697545202,13818348912534684381) (0,4600708494335672319,4594234569871327232) (0,4600708494335672320,4594234569871327232) 4600757283331635500 9 25 .leaf .leaf)) (.node (4595912160732522742,13816503900357341374,13816809694772039830) (4354980839667269632,4599019644475408384,4592545720011063296) (0,4599019644475408384,4592545720011063296) 4600782566697964597 7 19 (.node (4598994311727504425,13819215348807995123,13819475544276466453) (4359484439294640128,4602115869219225600,4595360469778169854) (0,4602115869219225600,4595360469778169856) 4600777299329979369 11 30 .leaf .leaf) (.node (4598465138771288392,13818565929741728298,13818764425895304652) (0,4601271444289093633,4594797519824748544) (0,4601271444289093632,4594797519824748544) 4600788419329059296 10 27 .leaf .leaf))) (.node (4593795468907658608,13813906224092274072,13813965221247392624) (0,4596486369685012478,4590293920197378050) (0,4596486369685012480,4590293920197378048) 4600831188556289785 5 13 (.node (4596638366172436234,13817267091609194647,13817342189132981049) (0,4599582594428829695,4593671619917905922) (0,4599582594428829696,4593671619917905920) 4600820190755001945 8 21 (.node (4598828241491245138,13819059242785911394,13819179939255924922) (0,4601834394242514944,4595360469778169858) (0,4601834394242514944,4595360469778169856) 4600815260706148776 11 29 .leaf .leaf) (.node (4599720517167417917,13820201974896361315,13820306570997706993) (0,4602960294149357568,4596486369685012478) (0,4602960294149357568,4596486369685012480) 4600824395796670825 13 34 .leaf .leaf)) (.node (4595580020260004167,13816191688313173914,13816218484730956767) (0,4598738169498697727,4592545720011063294) (0,4598738169498697728,4592545720011063296) 4600844019324458932 7 18 (.node (4599191344211201884,13819552555830094489,13819595452616545192) (0,4602397344195936255,4595923419731591166) (0,4602397344195936256,4595923419731591168) 4600838638679742839 12 31 .leaf .leaf) (.node (4597364571612349726,13817760404653377742,13817757702493601319) (4354980839667269632,4600145544382251008,4594234569871327232) (0,4600145544382251008,4594234569871327232) 4600851271497771928 9 23 .leaf .leaf))))
theorem k2aba : chkQ 2 (4584123988707880468,13804224610793334348,13804718205312494154) (4587299026445176668,13808103786332369925,13808039384857698526) ((1,3),(2,5)) t2aba = true := by decide +kernel
noncomputable def t2abb : T := (.node (4589685934247683031,13810077038509102308,13809701438300179607) (4345973640412528640,4592545720011063296,4586916220476850176) (0,4592545720011063296,4586916220476850176) 4600963162171743867 3 7 (.node (4593255036952374149,13813594012048106612,13813374011206309562) (4350477240039899136,4595923419731591167,4590293920197378050) (0,4595923419731591168,4590293920197378048) 4600927419317558385 5 12 (.node (4595247879787485594,13815879476269006454,13815627274689873705) (4359484439294640128,4598456694521987072,4592545720011063300) (0,4598456694521987072,4592545720011063296) 4600912701671717305 7 17 (.node (4597032431139831153,13817604298631294012,13817462097473059788) (4359484439294640128,4599864069405540352,4594234569871327234) (0,4599864069405540352,4594234569871327232) 4600904673864894899 9 22 .leaf .leaf) (.node (4598859203738683310,13819240343785927029,13819004242575462130) (4354980839667269632,4601834394242514944,4595923419731591168) (0,4601834394242514944,4595923419731591168) 4600918791732065339 12 29 .leaf .leaf)) (.node (4595974085227399086,13816866102357372646,13816458301411114246) (0,4599019644475408384,4593671619917905921) (0,4599019644475408384,4593671619917905920) 4600940587737521457 8 19 (.node (4599222306458640056,13819733656830110125,13819419755936082400) (4354980839667269632,4602397344195936255,4596486369685012480) (0,4602397344195936256,4596486369685012480) 4600935490284632527 13 31 .leaf .leaf) (.node (4598330030782467277,13818590924719660204,13818293124194300329) (4359484439294640128,4600989969312382976,4595360469778169856) (0,4600989969312382976,4595360469778169856) 4600946665469812107 11 26 .leaf .leaf))) (.node (4591138345127510016,13812050290685834691,13811363491742660688) (4350477240039899136,4594234569871327232,4589168020290535425) (0,4594234569871327232,4589168020290535424) 4601010819310657840 4 9 (.node (4594915739314967020,13815567264224838996,13815036064648790644) (0,4598175219545276416,4592545720011063298) (0,4598175219545276416,4592545720011063296) 4600989969312382976 7 16 (.node (4597426496107226072,13817941505653393379,13817582005813138528) (4359484439294640128,4600145544382251008,4594797519824748545) (0,4600145544382251008,4594797519824748544) 4600981810617405856 10 23 .leaf .leaf) (.node (4598152701547139564,13818434818697576475,13817997519173758798) (4354980839667269632,4600708494335672320,4595360469778169858) (0,4600708494335672320,4595360469778169856) 4600997475311761927 11 25 .leaf .leaf)) (.node (4592590756007337001,13813281800003939153,13812782801165226501) (0,4595360469778169856,4590293920197378049) (0,4595360469778169856,4590293920197378048) 4601041146580875823 5 11 (.node (4596368150194794004,13817292086587126553,13816698118091271725) (0,4599301119452119040,4594234569871327232) (0,4599301119452119040,4594234569871327232) 4601027499309277731 9 20 .leaf .leaf) (.node (4593857393402534953,13814268426092305344,13813613827886467042) (4350477240039899136,4596486369685012480,4591419820104220672) (0,4596486369685012480,4591419820104220672) 4601062142383334427 6 13 .leaf .leaf))))
theorem k2abb : chkQ 2 (4587299026445176668,13808103786332369925,13808039384857698526) (4581466864927731876,13802418667342758779,13801173872405753573) ((2,5),(1,2)) t2abb = true := by decide +kernel
noncomputable def t2baa : T := (.node (4589809783237435720,13810801442509164852,13808998651578328441) (4350477240039899136,4592545720011063296,4589168020290535426) (0,4592545720011063296,4589168020290535424) 4601392076421969628 4 7 (.node (4591262194117262705,13812657375915604233,13810660705020809522) (4354980839667269632,4594234569871327232,4590293920197378048) (0,4594234569871327232,4590293920197378048) 4601344419283055653 5 9 (.node (4592714604997089690,13813644002003970424,13812322758463290603) (4357232639480954880,4595360469778169856,4591419820104220673) (0,4595360469778169856,4591419820104220672) 4601314092012837671 6 11 (.node (4593919317897411298,13814630628092336615,13813262434525541458) (4362862139015168000,4596486369685012480,4592545720011063296) (0,4596486369685012480,4592545720011063296) 4601293096210379067 7 13 .leaf .leaf) (.node (4596491999184546694,13817654288587157824,13815995331369420558) (4363988038922010624,4599301119452119040,4595360469778169858) (0,4599301119452119040,4595360469778169856) 4601327739284435763 11 20 .leaf .leaf)) (.node (4595039588304719708,13816291668224901539,13814333277926939478) (4350477240039899136,4598175219545276415,4594234569871327231) (0,4598175219545276416,4594234569871327232) 4601365269281330517 9 16 (.node (4598256847288522506,13818978121697623382,13817470429132370424) (0,4600708494335672320,4597049319638433791) (0,4600708494335672320,4597049319638433792) 4601357763281951567 14 25 .leaf .leaf) (.node (4597612269591855104,13818484808653440286,13817054915771750153) (4354980839667269632,4600145544382251007,4596486369685012481) (0,4600145544382251008,4596486369685012480) 4601373427976307637 13 23 .leaf .leaf))) (.node (4593502734931879527,13814318416048169156,13812671224484458396) (4359484439294640128,4595923419731591168,4592545720011063297) (0,4595923419731591168,4592545720011063296) 4601427819276155108 7 12 (.node (4596159858712028120,13817498182565074095,13815404121328337496) (4363988038922010624,4599019644475408384,4595360469778169859) (0,4599019644475408384,4595360469778169856) 4601414650856192036 11 19 (.node (4598453879772219966,13819315328719722748,13817590337472449162) (4366239838735695872,4600989969312382976,4597612269591855107) (0,4600989969312382976,4597612269591855104) 4601408573123901388 15 26 .leaf .leaf) (.node (4599377117695830918,13820639161830188305,13818541272533768442) (4366239838735695872,4602397344195936256,4598738169498697730) (0,4602397344195936256,4598738169498697728) 4601419748309080967 18 31 .leaf .leaf)) (.node (4595433653272114627,13816966082269100270,13814573094607096956) (4360610339201482752,4598456694521987072,4594797519824748545) (0,4598456694521987072,4594797519824748544) 4601442536921996188 10 17 (.node (4599014014975874171,13820145848786005209,13818125759173148172) (4365113938828853248,4601834394242514943,4598456694521987074) (0,4601834394242514944,4598456694521987072) 4601436446861648155 17 29 .leaf .leaf) (.node (4597280129119336530,13818328702631356556,13816474964729735516) (4361736239108325376,4599864069405540352,4596486369685012481) (0,4599864069405540352,4596486369685012480) 4601450564728818595 13 22 .leaf .leaf))))
theorem k2baa : chkQ 2 (4581466864927731876,13802418667342758779,13801173872405753573) (4587546724424682046,13808828190332432469,13806636738753753984) ((1,2),(3,5)) t2baa = true := by decide +kernel
noncomputable def t2bab : T := (.node (4590597913172225557,13812150270597562315,13809478284938643399) (4356106739574112256,4593671619917905920,4590293920197378048) (0,4593671619917905920,4590293920197378048) 4601552919265804288 5 8 (.node (4593981242392287642,13814992830092367888,13812911041164615876) (4359484439294640128,4596486369685012480,4593671619917905920) (0,4596486369685012480,4593671619917905920) 4601524050037423708 8 13 (.node (4595827718239509546,13817342076542990365,13814812911287254436) (4363988038922010624,4598738169498697728,4595360469778169857) (0,4598738169498697728,4595360469778169856) 4601511219269254561 11 18 (.node (4597674194086731450,13818665909653455922,13816714781409892996) (4365113938828853248,4600145544382251008,4597049319638433792) (0,4600145544382251008,4597049319638433792) 4601503967095941565 14 23 .leaf .leaf) (.node (4599408079943269090,13820820262830203941,13818365575853305652) (4363988038922010624,4602397344195936256,4599019644475408384) (0,4602397344195936256,4599019644475408384) 4601516599913970655 19 31 .leaf .leaf)) (.node (4596947988646817956,13818172596609272827,13815883754688652456) (4354980839667269632,4599582594428829696,4596486369685012480) (0,4599582594428829696,4596486369685012480) 4601535047838711548 13 21 (.node (4599968215146923295,13821599019648269314,13818900997554004662) (0,4602960294149357568,4599582594428829697) (0,4602960294149357568,4599582594428829696) 4601530842797042668 21 34 .leaf .leaf) (.node (4599044977223312343,13820326949786020846,13817950062492685382) (4354980839667269632,4601834394242514943,4598738169498697728) (0,4601834394242514944,4598738169498697728) 4601539977887564717 18 29 .leaf .leaf))) (.node (4592838453986842379,13814006204004001696,13811619971741439438) (4359484439294640128,4595360469778169856,4592545720011063296) (0,4595360469778169856,4592545720011063296) 4601587037444799519 7 11 (.node (4596221783206904464,13817679283565089731,13815052727967411914) (4361736239108325376,4599019644475408384,4595923419731591170) (0,4599019644475408384,4595923419731591168) 4601572671895748896 12 19 (.node (4598681874503355597,13819833636741837750,13817534549132065111) (4359484439294640128,4601271444289093632,4598456694521987073) (0,4601271444289093632,4598456694521987072) 4601566819264654197 17 27 .leaf .leaf) (.node (4599242009707009803,13820664156808120211,13818069970832764120) (4367365738642538496,4602115869219225600,4599019644475408385) (0,4602115869219225600,4599019644475408384) 4601577939263734124 19 30 .leaf .leaf)) (.node (4594375307359682560,13815667244136566619,13813150857844773354) (4357232639480954880,4597049319638433791,4594234569871327232) (0,4597049319638433792,4594234569871327232) 4601606533547082508 9 14 (.node (4598318771783398851,13819340323697654654,13817119035771444840) (4363988038922010624,4600708494335672320,4598175219545276417) (0,4600708494335672320,4598175219545276416) 4601597955262077993 16 25 .leaf .leaf) (.node (4595495577766990971,13817185970520906635,13814221701246171374) (4357232639480954880,4598456694521987072,4595360469778169856) (0,4598456694521987072,4595360469778169856) 4601619148672089148 11 17 .leaf .leaf))))
theorem k2bab : chkQ 2 (4587546724424682046,13808828190332432469,13806636738753753984) (4584619384666891223,13805673418793459436,13803092405847013404) ((3,5),(2,3)) t2bab = true := by decide +kernel
noncomputable def t2bba : T := (.node (4589933632227188408,13811525846509227396,13808295864856477276) (0,4592545720011063295,4590293920197378046) (0,4592545720011063296,4590293920197378048) 4601820990672195389 5 7 (.node (4592174173041805230,13813693991959834237,13810437551659273315) (4345973640412528640,4594797519824748544,4592545720011063296) (0,4594797519824748544,4592545720011063296) 4601778099247172813 7 10 (.node (4594043166887163986,13815355032092399160,13812559647803690293) (4350477240039899136,4596486369685012480,4594234569871327232) (0,4596486369685012480,4594234569871327232) 4601755003864468349 9 13 (.node (4595163437294472397,13817016072224964083,13813630491205088312) (4359484439294640128,4598175219545276416,4595360469778169856) (0,4598175219545276416,4595360469778169856) 4601740569250278059 11 16 .leaf .leaf) (.node (4597798043076484137,13819028111653487194,13816011994688041830) (4359484439294640128,4600145544382251007,4598175219545276415) (0,4600145544382251008,4598175219545276416) 4601765045335209420 16 23 .leaf .leaf)) (.node (4595557502261867315,13817367071520922272,13813870307885245792) (0,4598456694521987072,4595923419731591169) (0,4598456694521987072,4595923419731591168) 4601795760422182109 12 17 (.node (4598743798998231941,13820195838741869022,13817183155771139529) (4354980839667269632,4601271444289093632,4599019644475408384) (0,4601271444289093632,4599019644475408384) 4601789219246252740 19 27 .leaf .leaf) (.node (4598183663794577736,13819365318675586561,13816251811368199310) (4359484439294640128,4600427019358961664,4598456694521987073) (0,4600427019358961664,4598456694521987072) 4601803119245102649 17 24 .leaf .leaf))) (.node (4592962302976595066,13814368406004032969,13810917185019588273) (0,4595360469778169856,4593671619917905919) (0,4595360469778169856,4593671619917905920) 4601859982876761368 8 11 (.node (4595951567229262233,13817704278543021638,13814110124565403270) (0,4598738169498697728,4596486369685012481) (0,4598738169498697728,4596486369685012480) 4601844819241652376 13 18 (.node (4598380696278275194,13819702525697685927,13816491628048356788) (0,4600708494335672318,4598738169498697727) (0,4600708494335672320,4598738169498697728) 4601838147242204419 18 25 .leaf .leaf) (.node (4599137863965626859,13820870252786067754,13817422972451297007) (0,4601834394242514943,4599582594428829696) (0,4601834394242514944,4599582594428829696) 4601850570965314407 21 29 .leaf .leaf)) (.node (4594831296821953822,13816703860180796624,13813039281164005251) (0,4597612269591855103,4595360469778169854) (0,4597612269591855104,4595360469778169856) 4601878179238892157 11 15 (.node (4598577728761972654,13820039732719785292,13816731444728514268) (0,4600989969312382976,4599019644475408382) (0,4600989969312382976,4599019644475408384) 4601870480777990669 19 26 .leaf .leaf) (.node (4596345632196657151,13818041485565121004,13814349941245560750) (0,4599019644475408384,4597049319638433791) (0,4599019644475408384,4597049319638433792) 4601888713974862615 14 19 .leaf .leaf))))
theorem k2bba : chkQ 2 (4584619384666891223,13805673418793459436,13803092405847013404) (4586218162534607749,13808203766244097550,13804271898589421738) ((2,3),(3,4)) t2bba = true := by decide +kernel
noncomputable def t2bbb : T := (.node (4587794422404187422,13809552594332495014,13805231165310051654) (0,4590293920197378048,4589168020290535423) (0,4590293920197378048,4589168020290535424) 4602078339222330845 4 5 (.node (4591509892096768082,13813381779915666778,13809255131577107192) (0,4594234569871327232,4592545720011063296) (0,4594234569871327232,4592545720011063296) 4602011619227851283 7 9 (.node (4594105091382040330,13815717234092430433,13811876451740218189) (0,4596486369685012480,4594797519824748544) (0,4596486369685012480,4594797519824748544) 4601985957691512989 10 13 (.node (4595619426756743659,13817548172520937908,13813518914524320209) (0,4598456694521987072,4596486369685012480) (0,4598456694521987072,4596486369685012480) 4601972372172275069 13 17 .leaf .leaf) (.node (4597527827098841907,13819053106631419102,13815069391286033186) (0,4599864069405540352,4598456694521987072) (0,4599864069405540352,4598456694521987072) 4601996455592742292 17 22 .leaf .leaf)) (.node (4594499156349435248,13816391648136629165,13812356085100533147) (0,4597049319638433791,4595360469778169856) (0,4597049319638433792,4595360469778169856) 4602035447797308269 11 14 (.node (4597921892066236825,13819390313653518468,13815309207966190666) (0,4600145544382251008,4598738169498697728) (0,4600145544382251008,4598738169498697728) 4602026123574477275 18 23 .leaf .leaf) (.node (4596407556691533496,13818222586565136640,13813998547884635167) (0,4599019644475408384,4597612269591855103) (0,4599019644475408384,4597612269591855104) 4602046735014419475 15 19 .leaf .leaf))) (.node (4589269351282151260,13810901422420892478,13806190432030681570) (0,4591419820104220672,4590293920197378048) (0,4591419820104220672,4590293920197378048) 4602178419214050191 5 6 (.node (4593086151966347755,13814730608004064242,13810214398297737108) (0,4595360469778169855,4594234569871327232) (0,4595360469778169856,4594234569871327232) 4602132928308723216 9 11 (.node (4595287286284225085,13817392066498854178,13812927704483237148) (0,4598175219545276415,4596486369685012480) (0,4598175219545276416,4596486369685012480) 4602115869219225600 13 16 .leaf .leaf) (.node (4595681351251620004,13817729273520953544,13813167521163394626) (0,4598456694521987072,4597049319638433792) (0,4598456694521987072,4597049319638433792) 4602148983922368031 14 17 .leaf .leaf)) (.node (4590057481216941097,13812250250509289942,13807149698751311486) (0,4592545720011063296,4591419820104220673) (0,4592545720011063296,4591419820104220672) 4602249904922421151 6 7 (.node (4594167015876916674,13816079436092461706,13811173665018367024) (0,4596486369685012480,4595360469778169856) (0,4596486369685012480,4595360469778169856) 4602216911518557631 11 13 .leaf .leaf) (.node (4590845611151730934,13813069567871499319,13808072711494941069) (0,4593671619917905920,4592545720011063296) (0,4593671619917905920,4592545720011063296) 4602303519203699371 7 8 .leaf .leaf))))
theorem k2bbb : chkQ 2 (4586218162534607749,13808203766244097550,13804271898589421738) (4577458661259372134,13799920970989419102,13793192593146127580) ((3,4),(1,1)) t2bbb = true := by decide +kernel
noncomputable def t2aa : T := .node (4585722766575596994,13805473458970004186,13807083045476826401) (0,4589168020290535424,4580160821035794432) (0,4589168020290535424,4580160821035794432) 4600427019358961664 1 4 t2aaa t2aab
theorem k2aa : chkQ 2 (4576467869341350625,13795017451715138106,13799255338964493742) (4584123988707880468,13804224610793334348,13804718205312494154) ((0,1),(1,3)) t2aa = true := chkQ_node rfl rfl (by decide +kernel) k2aaa k2aab
noncomputable def t2ab : T := .node (4587299026445176668,13808103786332369925,13808039384857698526) (0,4590293920197378048,4584664420663164928) (0,4590293920197378048,4584664420663164928) 4600877379321698713 2 5 t2aba t2abb
theorem k2ab : chkQ 2 (4584123988707880468,13804224610793334348,13804718205312494154) (4581466864927731876,13802418667342758779,13801173872405753573) ((1,3),(1,2)) t2ab = true := chkQ_node rfl rfl (by decide +kernel) k2aba k2abb
noncomputable def t2ba : T := .node (4587546724424682046,13808828190332432469,13806636738753753984) (4350477240039899136,4590293920197378048,4586916220476850177) (0,4590293920197378048,4586916220476850176) 4601477859272014780 3 5 t2baa t2bab
theorem k2ba : chkQ 2 (4581466864927731876,13802418667342758779,13801173872405753573) (4584619384666891223,13805673418793459436,13803092405847013404) ((1,2),(2,3)) t2ba = true := chkQ_node rfl rfl (by decide +kernel) k2baa k2bab
noncomputable def t2bb : T := .node (4586218162534607749,13808203766244097550,13804271898589421738) (0,4589168020290535424,4586916220476850177) (0,4589168020290535424,4586916220476850176) 4601928219234751829 3 4 t2bba t2bbb
theorem k2bb : chkQ 2 (4584619384666891223,13805673418793459436,13803092405847013404) (4577458661259372134,13799920970989419102,13793192593146127580) ((2,3),(1,1)) t2bb = true := chkQ_node rfl rfl (by decide +kernel) k2bba k2bbb
noncomputable def t2a : T := .node (4584123988707880468,13804224610793334348,13804718205312494154) (0,4586916220476850176,4580160821035794428) (0,4586916220476850176,4580160821035794432) 4600677219338260025 1 3 t2aa t2ab
theorem k2a : chkQ 2 (4576467869341350625,13795017451715138106,13799255338964493742) (4581466864927731876,13802418667342758779,13801173872405753573) ((0,1),(1,2)) t2a = true := chkQ_node rfl rfl (by decide +kernel) k2aa k2ab
noncomputable def t2b : T := .node (4584619384666891223,13805673418793459436,13803092405847013404) (4348225440226213888,4586916220476850176,4584664420663164927) (0,4586916220476850176,4584664420663164928) 4601678019255453468 2 3 t2ba t2bb
theorem k2b : chkQ 2 (4581466864927731876,13802418667342758779,13801173872405753573) (4577458661259372134,13799920970989419102,13793192593146127580) ((1,2),(1,1)) t2b = true := chkQ_node rfl rfl (by decide +kernel) k2ba k2bb
noncomputable def t2o : T := .node (4581466864927731876,13802418667342758779,13801173872405753573) (4341470040785158144,4584664420663164928,4580160821035794433) (0,4584664420663164928,4580160821035794432) 4601177619296856747 1 2 t2a t2b
theorem k2o : chkQ 2 (4576467869341350625,13795017451715138106,13799255338964493742) (4577458661259372134,13799920970989419102,13793192593146127580) ((0,1),(1,1)) t2o = true := chkQ_node rfl rfl (by decide +kernel) k2a k2b
theorem e2 : edge 2 = (4576467869341350625,13795017451715138106,13799255338964493742) := by decide +kernel
noncomputable def t3aaa : T := (.node (4586713558493618504,13809652574244222638,13799388645513463908) (4350477240039899136,4589168020290535423,4590293920197378048) (0,4589168020290535424,4590293920197378048) 4602979059147804945 1 5 (.node (4588289818363198178,13811001402332620102,13801307178954723739) (4348225440226213888,4590293920197378048,4591419820104220672) (0,4590293920197378048,4591419820104220672) 4602929019151945273 1 6 (.node (4589517049261656638,13812350230421017566,13803225712395983570) (4351603139946741760,4591419820104220673,4592545720011063298) (0,4591419820104220672,4592545720011063296) 4602893276297759793 1 7 (.node (4590305179196446475,13813119557827363131,13804338551863906820) (4355543789620690944,4592545720011063297,4593671619917905920) (0,4592545720011063296,4593671619917905920) 4602866469157120683 1 8 .leaf .leaf) (.node (4593581547925358511,13816179416004189330,13806770045302724150) (4354980839667269632,4595360469778169856,4596486369685012480) (0,4595360469778169856,4596486369685012480) 4602909772999691553 2 13 .leaf .leaf)) (.node (4592005288055778837,13814830587915791866,13804851511861464320) (4356106739574112256,4594234569871327232,4595360469778169856) (0,4594234569871327232,4595360469778169856) 4602951764604608760 2 11 (.node (4594870703318693315,13817804258454749262,13808139364769426151) (4357232639480954880,4597049319638433792,4598456694521987072) (0,4597049319638433792,4598456694521987072) 4602943736797786353 3 17 .leaf .leaf) (.node (4594476638351298396,13817467051432649896,13807283005300281650) (4356106739574112256,4596486369685012480,4598175219545276415) (0,4596486369685012480,4598175219545276416) 4602960294149357568 3 16 .leaf .leaf))) (.node (4590429028186199163,13813481759827394402,13802333098949838738) (4351603139946741760,4592545720011063296,4594234569871327232) (0,4592545720011063296,4594234569871327232) 4603012419145044727 2 9 (.node (4593688508416508560,13816541618004220601,13805364471859021819) (4360891814178193408,4595360469778169856,4597049319638433792) (0,4595360469778169856,4597049319638433792) 4603000504860316233 3 14 (.node (4595326692780964578,13818322566476864264,13807795965297839149) (4363425088968589312,4597612269591855104,4599019644475408384) (0,4597612269591855104,4599019644475408384) 4602994861251760631 4 19 .leaf .leaf) (.node (4596570812178025678,13819515288543177998,13808652324766983650) (4364269513898721280,4598738169498697729,4600145544382251009) (0,4598738169498697728,4600145544382251008) 4603005166971731731 5 23 .leaf .leaf)) (.node (4592917266980321362,13815867203960021869,13804405205138391904) (4356106739574112256,4594797519824748544,4596486369685012479) (0,4594797519824748544,4596486369685012480) 4603025249913213873 3 13 (.node (4596176747210630758,13819178081521078632,13808172691406668692) (0,4598456694521987072,4599864069405540351) (0,4598456694521987072,4599864069405540352) 4603020000962599223 5 22 .leaf .leaf) (.node (4594538562846174740,13817648152432665532,13805877431856579319) (4353854939760427008,4596486369685012480,4598456694521987071) (0,4596486369685012480,4598456694521987072) 4603032042672832833 4 17 .leaf .leaf))))
theorem k3aaa : chkQ 3 (4577458661259372134,13799920970989419102,13793192593146127580) (4585137298624038830,13808303746155825174,13795910965881208411) ((0,1),(1,4)) t3aaa = true := by decide +kernel
noncomputable def t3aab : T := (.node (4588537516342703554,13811725806332682645,13797962805871438408) (4350477240039899136,4590293920197378048,4592545720011063295) (0,4590293920197378048,4592545720011063296) 4603107733422872673 2 7 (.node (4591341007110741688,13814518375871624406,13801440485503693906) (4351603139946741760,4593671619917905919,4595360469778169855) (0,4593671619917905920,4595360469778169856) 4603088237320589684 3 11 (.node (4593750432911384904,13816903820004251873,13803958898415319488) (4360047389248061440,4595360469778169856,4597612269591855103) (0,4595360469778169856,4597612269591855104) 4603079139139524289 4 15 (.node (4594994552308446004,13818166460454780534,13805431125133506903) (4361454764131614720,4597049319638433793,4599019644475408384) (0,4597049319638433792,4599019644475408384) 4603073871771539061 5 19 .leaf .leaf) (.node (4597088726135173284,13820214697565308636,13807416311849251817) (4359484439294640128,4599019644475408384,4600989969312382976) (0,4599019644475408384,4600989969312382976) 4603082988369975033 7 26 .leaf .leaf)) (.node (4594600487341051084,13817829253432681168,13804471858412876987) (4351603139946741760,4596486369685012478,4598738169498697727) (0,4596486369685012480,4598738169498697728) 4603095819138144180 5 18 (.node (4597938780564839464,13821070212609523003,13807929271846809316) (4345973640412528640,4599582594428829695,4601834394242514944) (0,4599582594428829696,4601834394242514944) 4603092943276313164 8 29 .leaf .leaf) (.node (4596694661167778364,13819877490543209269,13806457045128621901) (0,4598738169498697727,4600708494335672318) (0,4598738169498697728,4600708494335672320) 4603099155137868159 7 25 .leaf .leaf))) (.node (4590552877175951851,13813843961827425674,13799521952062434074) (4348225440226213888,4592545720011063294,4594797519824748544) (0,4592545720011063296,4594797519824748544) 4603129179135383961 3 10 (.node (4594206422373656166,13817492046410581802,13803492325493923902) (4360328864224772096,4595923419731591167,4598456694521987071) (0,4595923419731591168,4598456694521987072) 4603120348547879313 5 17 (.node (4596300596200383446,13819540283521109903,13805497778407991985) (4356669689527533568,4598456694521987071,4600427019358961663) (0,4598456694521987072,4600427019358961664) 4603116669136419044 7 24 .leaf .leaf) (.node (4597150650630049628,13820395798565324271,13806010738405549484) (4363425088968589312,4599019644475408383,4601271444289093631) (0,4599019644475408384,4601271444289093632) 4603123619135843997 8 27 .leaf .leaf)) (.node (4592252986035284213,13815554991915854410,13800547872057549072) (0,4594234569871327232,4596486369685012479) (0,4594234569871327232,4596486369685012480) 4603140726826736193 4 13 (.node (4595906531232988528,13819203076499010538,13804538511687362069) (4355543789620690944,4598175219545276415,4600145544382251007) (0,4598175219545276416,4600145544382251008) 4603135706091365659 7 23 .leaf .leaf) (.node (4593812357406261248,13817154839388482437,13801573792052664070) (4355543789620690944,4595360469778169856,4598175219545276417) (0,4595360469778169856,4598175219545276416) 4603147944133831339 5 16 .leaf .leaf))))
theorem k3aab : chkQ 3 (4585137298624038830,13808303746155825174,13795910965881208411) (4582457656845753384,13805873378616914686,13789222219714637748) ((1,4),(1,3)) t3aab = true := by decide +kernel
noncomputable def t3aba : T := (.node (4588785214322208931,13812450210332745190,13790155365557428914) (4344284790552264704,4590293920197378047,4593671619917905919) (0,4590293920197378048,4593671619917905920) 4603241769126068224 3 8 (.node (4590676726165704540,13814206163827456946,13794259045537888908) (4355121577155624960,4592545720011063295,4595360469778169855) (0,4592545720011063296,4595360469778169856) 4603224710036570608 4 11 (.node (4592376835025036902,13815917193915885682,13796444192077089075) (4348225440226213888,4594234569871327231,4597049319638433792) (0,4594234569871327232,4597049319638433792) 4603214961985429113 5 14 (.node (4593874281901137592,13817335940388498073,13798496032067319072) (0,4595360469778169856,4598456694521987072) (0,4595360469778169856,4598456694521987072) 4603208654422925793 6 17 .leaf .leaf) (.node (4596030380222741217,13819565278499041810,13799921871709344572) (4360469601713127424,4598175219545276415,4600708494335672319) (0,4598175219545276416,4600708494335672320) 4603219251127931372 9 25 .leaf .leaf)) (.node (4594330271363408855,13817854248410613074,13796710805175029407) (4358358539387797504,4595923419731591168,4599019644475408384) (0,4595923419731591168,4599019644475408384) 4603231892811095920 7 19 (.node (4597336424114678661,13820939101565371179,13800055178258314738) (4361314026643259392,4599019644475408384,4602115869219225600) (0,4599019644475408384,4602115869219225600) 4603229259127103305 11 30 .leaf .leaf) (.node (4596486369685012480,13820083586521156812,13799029258263199736) (4360469601713127424,4598456694521987072,4601271444289093631) (0,4598456694521987072,4601271444289093632) 4603234819126643269 10 27 .leaf .leaf))) (.node (4591588705090247065,13815242779871686950,13790688591753309578) (4355262314643980288,4593671619917905919,4596486369685012478) (0,4593671619917905920,4596486369685012480) 4603256203740258515 5 13 (.node (4594786260825680117,13818372556432728076,13794925578282739742) (4358358539387797504,4596486369685012479,4599582594428829696) (0,4596486369685012480,4599582594428829696) 4603250704839614595 8 21 (.node (4596942359147283742,13820601894543271814,13797244031370910071) (4349914290086477824,4598738169498697727,4601834394242514943) (0,4598738169498697728,4601834394242514944) 4603248239815188009 11 29 .leaf .leaf) (.node (4598211811292248801,13821761487004826704,13797510644468850403) (4353291989807005696,4599582594428829696,4602960294149357567) (0,4599582594428829696,4602960294149357568) 4603252807360449035 13 34 .leaf .leaf)) (.node (4593936206396013936,13817517041388513709,13791221817949190242) (0,4595360469778169855,4598738169498697728) (0,4595360469778169856,4598738169498697728) 4603262619124343088 7 18 (.node (4597398348609555004,13821120202565386816,13795458804478620406) (0,4599019644475408383,4602397344195936254) (0,4599019644475408384,4602397344195936256) 4603259928801985040 12 31 .leaf .leaf) (.node (4595242250287951380,13818890864454843079,13791755044145070906) (0,4597049319638433792,4600145544382251007) (0,4597049319638433792,4600145544382251008) 4603266245210999585 9 23 .leaf .leaf))))
theorem k3aba : chkQ 3 (4582457656845753384,13805873378616914686,13789222219714637748) (4585384996603544207,13809028150155887719,13776035680005696896) ((1,3),(2,5)) t3aba = true := by decide +kernel
noncomputable def t3abb : T := (.node (4587208954452629258,13811101382244347727,4563717278076339284) (0,4589168020290535424,4592545720011063296) (0,4589168020290535424,4592545720011063296) 4603322190547985555 3 7 (.node (4590800575155457228,13814568365827488219,4562650825684577956) (0,4592545720011063295,4595923419731591167) (0,4592545720011063296,4595923419731591168) 4603304319120892815 5 12 (.node (4593412662939332116,13817179834366414343,4561022324059320808) (4355367867760246784,4594797519824748543,4598456694521987071) (0,4594797519824748544,4598456694521987072) 4603296960297972275 7 17 (.node (4594848185320556462,13818553657432743713,4558889419275798152) (4356986348876333056,4596486369685012480,4599864069405540351) (0,4596486369685012480,4599864069405540352) 4603292946394561071 9 22 .leaf .leaf) (.node (4596610218674765168,13820445788521188084,4566592376078452632) (4358710383108685824,4598456694521987072,4601834394242514943) (0,4598456694521987072,4601834394242514944) 4603300005328146291 12 29 .leaf .leaf)) (.node (4593998130890890280,13817698142388529345,4567687651507829116) (0,4595360469778169854,4599019644475408383) (0,4595360469778169856,4599019644475408384) 4603310903330874349 8 19 (.node (4597066208137036430,13820964096543303086,4570191652900647118) (0,4598738169498697727,4602397344195936255) (0,4598738169498697728,4602397344195936256) 4603308354604429884 13 31 .leaf .leaf) (.node (4595760164245098986,13819590273476973717,4570724879096527782) (0,4597612269591855103,4600989969312382975) (0,4597612269591855104,4600989969312382976) 4603313942197019675 11 26 .leaf .leaf))) (.node (4589032912301714309,13812857335739059483,4568754103899590444) (4353995677248782336,4590293920197378048,4594234569871327231) (0,4590293920197378048,4594234569871327232) 4603346019117442541 4 9 (.node (4592624533004542280,13816641597915948226,4571472476634671275) (4358358539387797504,4594234569871327232,4598175219545276415) (0,4594234569871327232,4598175219545276416) 4603335594118305109 7 16 (.node (4594910109815432806,13818734758432759349,4572991090429020608) (4355543789620690944,4596486369685012479,4600145544382251007) (0,4596486369685012480,4600145544382251008) 4603331514770816549 10 23 .leaf .leaf) (.node (4595366099277704069,13819253066454874350,4574776317321310273) (4362017714085036032,4597049319638433791,4600708494335672319) (0,4597049319638433792,4600708494335672320) 4603339347117994585 11 25 .leaf .leaf)) (.node (4590012445220667392,13813893951783289487,4571739089732611607) (4348788390179635200,4591419820104220671,4595360469778169856) (0,4591419820104220672,4595360469778169856) 4603361182752551532 5 11 (.node (4594060055385766625,13817879243388544981,4575042930419250605) (4353291989807005696,4595360469778169855,4599301119452119040) (0,4595360469778169856,4599301119452119040) 4603354359116752487 9 20 .leaf .leaf) (.node (4590924424145209917,13814930567827519491,4573524316624901272) (4349351340133056512,4592545720011063295,4596486369685012480) (0,4592545720011063296,4596486369685012480) 4603371680653780835 6 13 .leaf .leaf))))
theorem k3abb : chkQ 3 (4585384996603544207,13809028150155887719,13776035680005696896) (4578449453177393643,13802818586989669279,4564783730468100612) ((2,5),(1,2)) t3abb = true := by decide +kernel
noncomputable def t3baa : T := (.node (4585880392562554962,13810476958156012808,4576642609006892600) (4343721840598843392,4586916220476850176,4592545720011063296) (0,4586916220476850176,4592545720011063296) 4603536647673098435 4 7 (.node (4587704350411640013,13812545123694892024,4577535222453037432) (4341470040785158144,4589168020290535424,4594234569871327232) (0,4589168020290535424,4594234569871327232) 4603512819103641448 5 9 (.node (4589348164275630244,13813581739739122028,4578427835899182264) (0,4590293920197378048,4595360469778169856) (0,4590293920197378048,4595360469778169856) 4603497655468532456 6 11 (.node (4590260143200172769,13814618355783352032,4579320449345327096) (0,4591419820104220672,4596486369685012480) (0,4591419820104220672,4596486369685012480) 4603487157567303155 7 13 .leaf .leaf) (.node (4593119928963553034,13817567031344377522,4582485128803480344) (0,4594234569871327231,4599301119452119040) (0,4594234569871327232,4599301119452119040) 4603504479104331503 11 20 .leaf .leaf)) (.node (4591295971114467984,13816017173827613308,4581592515357335512) (4345973640412528640,4592545720011063296,4598175219545276416) (0,4592545720011063296,4598175219545276416) 4603523244102778880 9 16 (.node (4594369677860148347,13818784748388623162,4584723868178246218) (4354980839667269632,4595360469778169856,4600708494335672320) (0,4595360469778169856,4600708494335672320) 4603519491103089405 14 25 .leaf .leaf) (.node (4593913688397877084,13818266440366508160,4584337008970255092) (0,4594797519824748544,4600145544382251007) (0,4594797519824748544,4600145544382251008) 4603527323450267440 13 23 .leaf .leaf))) (.node (4589472013265382932,13813943941739153300,4580699901911190680) (0,4590293920197378048,4595923419731591167) (0,4590293920197378048,4595923419731591168) 4603554519100191175 7 12 (.node (4592331799028763197,13817229824322278156,4583444395524110260) (0,4593671619917905920,4599019644475408384) (0,4593671619917905920,4599019644475408384) 4603547934890209640 11 19 (.node (4594431602355024691,13818965849388638798,4585426654900097384) (4352729039853584384,4595360469778169856,4600989969312382976) (0,4595360469778169856,4600989969312382976) 4603544896024064315 15 26 .leaf .leaf) (.node (4595405505774443560,13820183566432884438,4586575748345020966) (0,4596486369685012479,4602397344195936256) (0,4596486369685012480,4602397344195936256) 4603550483616654105 18 31 .leaf .leaf)) (.node (4591419820104220672,13816379375827644580,4582998088801037844) (0,4592545720011063296,4598456694521987072) (0,4592545720011063296,4598456694521987072) 4603561877923111715 10 17 (.node (4594949516312172298,13819665258410769436,4586352594983484758) (4350477240039899136,4595923419731591168,4601834394242514944) (0,4595923419731591168,4601834394242514944) 4603558832892937699 17 29 .leaf .leaf) (.node (4593367626943058412,13817929233344408794,4584980348177024968) (4352729039853584384,4594234569871327232,4599864069405540352) (0,4594234569871327232,4599864069405540352) 4603565891826522919 13 22 .leaf .leaf))))
theorem k3baa : chkQ 3 (4578449453177393643,13802818586989669279,4564783730468100612) (4583448448763774894,13808403726067552800,4575749995560747768) ((1,2),(3,5)) t3baa = true := by decide +kernel
noncomputable def t3bab : T := (.node (4586128090542060339,13811201362156075352,4579453755894297264) (0,4586916220476850175,4593671619917905920) (0,4586916220476850176,4593671619917905920) 4603617069095015765 5 8 (.node (4589595862255135621,13814306143739184572,4582105475354893012) (4341470040785158144,4590293920197378048,4596486369685012479) (0,4590293920197378048,4596486369685012480) 4603602634480825475 8 13 (.node (4591543669093973360,13816741577827675852,4584403662244740176) (0,4592545720011063296,4598738169498697728) (0,4592545720011063296,4598738169498697728) 4603596219096740901 11 18 (.node (4593491475932811100,13818110334344424430,4585683134898876134) (4350477240039899136,4594234569871327232,4600145544382251008) (0,4594234569871327232,4600145544382251008) 4603592593010084404 14 23 .leaf .leaf) (.node (4595073365301924986,13820027460410800708,4587758168427187090) (0,4595923419731591168,4602397344195936256) (0,4595923419731591168,4602397344195936256) 4603598909419098949 19 31 .leaf .leaf)) (.node (4592579497008268574,13817592026322309428,4585459981537339926) (4350477240039899136,4593671619917905919,4599582594428829696) (0,4593671619917905920,4599582594428829696) 4603608133381469395 13 21 (.node (4595591279259072594,13820726869432931346,4588684108510574464) (4357232639480954880,4596486369685012480,4602960294149357568) (0,4596486369685012480,4602960294149357568) 4603606030860634955 21 34 .leaf .leaf) (.node (4594617375839653724,13819509152388685706,4587535015065650882) (0,4595360469778169856,4601834394242514944) (0,4595360469778169856,4601834394242514944) 4603610598405895980 18 29 .leaf .leaf))) (.node (4588199746370650767,13813269527694954568,4581659168631820596) (4351603139946741760,4589168020290535423,4595360469778169856) (0,4589168020290535424,4595360469778169856) 4603634128184513381 7 11 (.node (4591667518083726049,13817073718300194426,4585236828175803718) (4350477240039899136,4592545720011063295,4599019644475408383) (0,4592545720011063296,4599019644475408384) 4603626945409988069 12 19 (.node (4594161386377382461,13818990844366570704,4587311861704114674) (0,4594797519824748544,4601271444289093631) (0,4594797519824748544,4601271444289093632) 4603624019094440720 17 27 .leaf .leaf) (.node (4594679300334530068,13819690253388701342,4588237801787502048) (0,4595360469778169855,4602115869219225599) (0,4595360469778169856,4602115869219225600) 4603629579093980683 19 30 .leaf .leaf)) (.node (4589719711244888310,13814668345739215844,4583511048798595344) (4352729039853584384,4590293920197378048,4597049319638433792) (0,4590293920197378048,4597049319638433792) 4603643876235654876 9 14 (.node (4593705396915111199,13818472536344455702,4587088708342578466) (4359484439294640128,4594234569871327232,4600708494335672319) (0,4594234569871327232,4600708494335672320) 4603639587093152617 16 25 .leaf .leaf) (.node (4590755539159183524,13816067163783477120,4585013674814267510) (4350477240039899136,4591419820104220672,4598456694521987072) (0,4591419820104220672,4598456694521987072) 4603650183798158196 11 17 .leaf .leaf))))
theorem k3bab : chkQ 3 (4583448448763774894,13808403726067552800,4575749995560747768) (4579440245095415152,13804624530440244848,4574057542820781936) ((3,5),(2,3)) t3bab = true := by decide +kernel
noncomputable def t3bba : T := (.node (4584439240681796403,13809852534067677888,4580766555185675764) (4348225440226213888,4584664420663164928,4592545720011063296) (0,4584664420663164928,4592545720011063296) 4603751104798211316 5 7 (.node (4586623486501071094,13812595113650755836,4582618435352450512) (4353854939760427008,4586916220476850176,4594797519824748544) (0,4586916220476850176,4594797519824748544) 4603729659085700028 7 10 (.node (4588695142329661522,13813993931695017112,4584470315519225260) (4350477240039899136,4589168020290535423,4596486369685012479) (0,4589168020290535424,4596486369685012480) 4603718111394347796 9 13 (.node (4589967409224393687,13815392749739278388,4585493308174582468) (4356106739574112256,4590293920197378048,4598175219545276416) (0,4590293920197378048,4598175219545276416) 4603710894087252651 11 16 .leaf .leaf) (.node (4592162914042736804,13817798122300256970,4588047975063208382) (4357232639480954880,4592545720011063296,4600145544382251008) (0,4592545720011063296,4600145544382251008) 4603723132129718331 16 23 .leaf .leaf)) (.node (4590091258214146376,13815754951739309660,4586196094896433634) (4354980839667269632,4590293920197378048,4598456694521987072) (0,4590293920197378048,4598456694521987072) 4603738489673204676 12 17 (.node (4593322590946784707,13818678632322403244,4589422361079491173) (4359484439294640128,4593671619917905920,4601271444289093632) (0,4593671619917905920,4601271444289093632) 4603735219085239992 19 27 .leaf .leaf) (.node (4592286763032489493,13817979223300272606,4588750761785059548) (4359484439294640128,4592545720011063295,4600427019358961664) (0,4592545720011063296,4600427019358961664) 4603742169084664945 17 24 .leaf .leaf))) (.node (4586871184480576471,13812957315650787108,4584024008796152844) (4354980839667269632,4586916220476850175,4595360469778169856) (0,4586916220476850176,4595360469778169856) 4603770600900494305 8 11 (.node (4590215107203899064,13816117153739340932,4586898881618284800) (4352729039853584384,4590293920197378048,4598738169498697728) (0,4590293920197378048,4598738169498697728) 4603763019082939809 13 18 (.node (4592410612022242181,13818160324300288242,4589310784398723069) (4359484439294640128,4592545720011063294,4600708494335672320) (0,4592545720011063296,4600708494335672320) 4603759683083215831 18 25 .leaf .leaf) (.node (4593570288926290084,13819040834322434516,4590125147801342339) (4360610339201482752,4593671619917905920,4601834394242514943) (0,4593671619917905920,4601834394242514944) 4603765894944770825 21 29 .leaf .leaf)) (.node (4589179279289603850,13814718335695079656,4585972941534897426) (4354980839667269632,4589168020290535424,4597612269591855103) (0,4589168020290535424,4597612269591855104) 4603779699081559700 11 15 (.node (4592534461011994870,13818341425300303878,4589662177759648652) (4360610339201482752,4592545720011063296,4600989969312382976) (0,4592545720011063296,4600989969312382976) 4603775849851108956 19 26 .leaf .leaf) (.node (4590338956193651753,13816479355739372204,4587601668340135966) (4357232639480954880,4590293920197378047,4599019644475408384) (0,4590293920197378048,4599019644475408384) 4603784966449544928 14 19 .leaf .leaf))))
theorem k3bba : chkQ 3 (4579440245095415152,13804624530440244848,4574057542820781936) (4580295929024615547,13806073338440369936,4577668529002007600) ((2,3),(3,4)) t3bba = true := by decide +kernel
noncomputable def t3bbb : T := (.node (4580791324983626302,13807522146440495024,4580320248462603348) (4351603139946741760,4580160821035794431,4590293920197378048) (0,4580160821035794432,4590293920197378048) 4603879779073279044 4 5 (.node (4585047226631491420,13811301342067802976,4583577702073080428) (4350477240039899136,4584664420663164927,4594234569871327232) (0,4584664420663164928,4594234569871327232) 4603846419076039263 7 9 (.node (4587366580439587226,13813681719650849652,4585749788173361218) (4354980839667269632,4586916220476850175,4596486369685012480) (0,4586916220476850176,4596486369685012480) 4603833588307870116 10 13 (.node (4589426977269109228,13815442739695142200,4587378514978599758) (4360610339201482752,4589168020290535424,4598456694521987072) (0,4589168020290535424,4598456694521987072) 4603826795548251156 13 17 .leaf .leaf) (.node (4590710503162909819,13817304809256073874,4589439024398112444) (4357232639480954880,4590293920197378048,4599864069405540352) (0,4590293920197378048,4599864069405540352) 4603838837258484767 17 22 .leaf .leaf)) (.node (4587614278419092603,13814043921650880924,4586452574895212384) (4356106739574112256,4586916220476850174,4597049319638433792) (0,4586916220476850176,4597049319638433792) 4603858333360767756 11 14 (.node (4590834352152662508,13817485910256089510,4589790417759038027) (4360610339201482752,4590293920197378048,4600145544382251008) (0,4590293920197378048,4600145544382251008) 4603853671249352259 18 23 .leaf .leaf) (.node (4589674675248614605,13816167143695204744,4588784088422302090) (4359484439294640128,4589168020290535424,4599019644475408384) (0,4589168020290535424,4599019644475408384) 4603863976969323359 15 19 .leaf .leaf))) (.node (4581286720942637057,13808503705979280424,4581725821906305680) (4355543789620690944,4580160821035794432,4591419820104220672) (0,4580160821035794432,4591419820104220672) 4603929819069138716 5 6 (.node (4585542622590502176,13812645103606619648,4585526634811825010) (4359484439294640128,4584664420663164929,4595360469778169856) (0,4584664420663164928,4595360469778169856) 4603907073616475229 9 11 (.node (4588109674378103359,13814768325650943468,4587858148338914716) (4360610339201482752,4586916220476850177,4598175219545276416) (0,4586916220476850176,4598175219545276416) 4603898544071726421 13 16 .leaf .leaf) (.node (4588357372357608736,13815130527650974740,4588560935060765882) (4361736239108325376,4586916220476850176,4598456694521987072) (0,4586916220476850176,4598456694521987072) 4603915101423297636 14 17 .leaf .leaf)) (.node (4581782116901647812,13809228109979342968,4583131395350008012) (4356106739574112256,4580160821035794432,4592545720011063296) (0,4580160821035794432,4592545720011063296) 4603965561923324196 6 7 (.node (4586038018549512930,13813369507606682192,4586932208255527342) (4360610339201482752,4584664420663164926,4596486369685012480) (0,4584664420663164928,4596486369685012480) 4603949065221392436 11 13 .leaf .leaf) (.node (4582277512860658567,13809952513979405512,4584536968793710344) (4357232639480954880,4580160821035794433,4593671619917905920) (0,4580160821035794432,4593671619917905920) 4603992369063963307 7 8 .leaf .leaf))))
theorem k3bbb : chkQ 3 (4580295929024615547,13806073338440369936,4577668529002007600) (4565569158243114025,13795817291008959106,4572272315928492271) ((3,4),(1,1)) t3bbb = true := by decide +kernel
noncomputable def t3aa : T := .node (4585137298624038830,13808303746155825174,13795910965881208411) (4351884614923452416,4586916220476850175,4589168020290535423) (0,4586916220476850176,4589168020290535424) 4603054119141594453 1 4 t3aaa t3aab
theorem k3aa : chkQ 3 (4577458661259372134,13799920970989419102,13793192593146127580) (4582457656845753384,13805873378616914686,13789222219714637748) ((0,1),(1,3)) t3aa = true := chkQ_node rfl rfl (by decide +kernel) k3aaa k3aab
noncomputable def t3ab : T := .node (4585384996603544207,13809028150155887719,13776035680005696896) (0,4586916220476850176,4590293920197378048) (0,4586916220476850176,4590293920197378048) 4603279299122962979 2 5 t3aba t3abb
theorem k3ab : chkQ 3 (4582457656845753384,13805873378616914686,13789222219714637748) (4578449453177393643,13802818586989669279,4564783730468100612) ((1,3),(1,2)) t3ab = true := chkQ_node rfl rfl (by decide +kernel) k3aba k3abb
noncomputable def t3ba : T := .node (4583448448763774894,13808403726067552800,4575749995560747768) (4343721840598843392,4584664420663164928,4590293920197378048) (0,4584664420663164928,4590293920197378048) 4603579539098121011 3 5 t3baa t3bab
theorem k3ba : chkQ 3 (4578449453177393643,13802818586989669279,4564783730468100612) (4579440245095415152,13804624530440244848,4574057542820781936) ((1,2),(2,3)) t3ba = true := chkQ_node rfl rfl (by decide +kernel) k3baa k3bab
noncomputable def t3bb : T := .node (4580295929024615547,13806073338440369936,4577668529002007600) (4349351340133056512,4580160821035794430,4589168020290535424) (0,4580160821035794432,4589168020290535424) 4603804719079489536 3 4 t3bba t3bbb
theorem k3bb : chkQ 3 (4579440245095415152,13804624530440244848,4574057542820781936) (4565569158243114025,13795817291008959106,4572272315928492271) ((2,3),(1,1)) t3bb = true := chkQ_node rfl rfl (by decide +kernel) k3bba k3bbb
noncomputable def t3a : T := .node (4582457656845753384,13805873378616914686,13789222219714637748) (4339218240971472896,4584664420663164927,4586916220476850175) (0,4584664420663164928,4586916220476850176) 4603179219131243633 1 3 t3aa t3ab
theorem k3a : chkQ 3 (4577458661259372134,13799920970989419102,13793192593146127580) (4578449453177393643,13802818586989669279,4564783730468100612) ((0,1),(1,2)) t3a = true := chkQ_node rfl rfl (by decide +kernel) k3aa k3ab
noncomputable def t3b : T := .node (4579440245095415152,13804624530440244848,4574057542820781936) (0,4580160821035794430,4586916220476850176) (0,4580160821035794432,4586916220476850176) 4603679619089840356 2 3 t3ba t3bb
theorem k3b : chkQ 3 (4578449453177393643,13802818586989669279,4564783730468100612) (4565569158243114025,13795817291008959106,4572272315928492271) ((1,2),(1,1)) t3b = true := chkQ_node rfl rfl (by decide +kernel) k3ba k3bb
noncomputable def t3o : T := .node (4578449453177393643,13802818586989669279,4564783730468100612) (4327959241903046656,4580160821035794431,4584664420663164928) (0,4580160821035794432,4584664420663164928) 4603429419110541995 1 2 t3a t3b
theorem k3o : chkQ 3 (4577458661259372134,13799920970989419102,13793192593146127580) (4565569158243114025,13795817291008959106,4572272315928492271) ((0,1),(1,1)) t3o = true := chkQ_node rfl rfl (by decide +kernel) k3a k3b
theorem e3 : edge 3 = (4577458661259372134,13799920970989419102,13793192593146127580) := by decide +kernel
noncomputable def t4aaa : T := (.node (4578809741147583283,13803575642087030260,4583644355347565511) (4580160821035794432,0,4590293920197378048) (4580160821035794432,0,4590293920197378048) 4604480259023595111 1 5 (.node (4579800533065604792,13805024450087155348,4584857174727216385) (4580160821035794433,0,4591419820104220672) (4580160821035794432,0,4591419820104220672) 4604430219027735439 1 6 (.node (4580476073009710367,13806473258087280436,4585559961449067551) (4580160821035794434,0,4592545720011063296) (4580160821035794432,0,4592545720011063296) 4604394476173549959 1 7 (.node (4580971468968721122,13807922066087405524,4586262748170918717) (4580160821035794435,0,4593671619917905920) (4580160821035794432,0,4593671619917905920) 4604367669032910848 1 8 .leaf .leaf) (.node (4584731974657575486,13810252453714588388,4589712167715512464) (4584664420663164930,4350477240039899136,4596486369685012480) (4584664420663164928,0,4596486369685012480) 4604410972875481719 2 13 .leaf .leaf)) (.node (4583808736733964534,13808803645714463300,4588850741696787172) (4584664420663164929,4350477240039899136,4595360469778169856) (4584664420663164928,0,4595360469778169856) 4604452964480398925 2 11 (.node (4586398306519702569,13811801241626441102,4591357557839372274) (4586916220476850177,4350477240039899136,4598456694521987072) (4586916220476850176,0,4598456694521987072) 4604444936673576519 3 17 .leaf .leaf) (.node (4586150608540197192,13811076837626378558,4591006164478446692) (4586916220476850178,0,4598175219545276416) (4586916220476850176,0,4598175219545276416) 4604461494025147733 3 16 .leaf .leaf))) (.node (4582817944815943024,13806673217910735687,4587445168253084841) (4584664420663164929,0,4594234569871327232) (4584664420663164928,0,4594234569871327232) 4604513619020834892 2 9 (.node (4585655212581186437,13809628029626253470,4590303377756595526) (4586916220476850177,0,4597049319638433793) (4586916220476850176,0,4597049319638433792) 4604501704736106399 3 14 (.node (4587569242422818898,13811901221538168728,4592300161241380920) (4589168020290535424,0,4599019644475408384) (4589168020290535424,0,4599019644475408384) 4604496061127550796 4 19 .leaf .leaf) (.node (4589201797287740702,13812995033297666337,4593808585641573325) (4590293920197378047,0,4600145544382251008) (4590293920197378048,0,4600145544382251008) 4604506366847521896 5 23 .leaf .leaf)) (.node (4585407514601681060,13808903625626190925,4589951984395669943) (4586916220476850177,4350477240039899136,4596486369685012480) (4586916220476850176,0,4596486369685012480) 4604526449789004039 3 13 (.node (4588987876305440604,13812632831297635064,4593594158004315148) (4590293920197378049,0,4599864069405540352) (4590293920197378048,0,4599864069405540352) 4604521200838389388 5 22 .leaf .leaf) (.node (4587073846463808144,13810452413538043638,4591597374519529754) (4589168020290535426,0,4598456694521987072) (4589168020290535424,0,4598456694521987072) 4604533242548622999 4 17 .leaf .leaf))))
theorem k4aaa : chkQ 4 (4565569158243114025,13795817291008959106,4572272315928492271) (4577818949229561774,13800720810283240102,4582238781903863179) ((0,1),(1,4)) t4aaa = true := by decide +kernel
noncomputable def t4aab : T := (.node (4581827152897921516,13803775601910485510,4586039594809382509) (4584664420663164928,4345973640412528640,4592545720011063296) (4584664420663164928,0,4592545720011063296) 4604608933298662839 2 7 (.node (4584912118642670306,13806873177734190937,4589249197673818777) (4586916220476850177,4350477240039899136,4595360469778169856) (4586916220476850176,0,4595360469778169856) 4604589437196379849 3 11 (.node (4586578450504797390,13809003605537918550,4590894587797678588) (4589168020290535426,4350477240039899136,4597612269591855105) (4589168020290535424,0,4597612269591855104) 4604580339015314455 4 15 (.node (4588244782366924474,13810552393449771264,4592539977921538399) (4590293920197378050,4354980839667269632,4599019644475408385) (4590293920197378048,0,4599019644475408384) 4604575071647329227 5 19 .leaf .leaf) (.node (4590248884201104344,13812732811209362689,4594575492363119178) (4592545720011063297,4359484439294640128,4600989969312382976) (4592545720011063296,0,4600989969312382976) 4604584188245765199 7 26 .leaf .leaf)) (.node (4587997084387419096,13809827989449708720,4592188584560612816) (4590293920197378049,0,4598738169498697728) (4590293920197378048,0,4598738169498697728) 4604597019013934345 5 18 (.node (4590958201142415197,13813145003165257774,4595222490744586292) (4593671619917905920,4354980839667269632,4601834394242514944) (4593671619917905920,0,4601834394242514944) 4604594143152103329 8 29 .leaf .leaf) (.node (4590125035211351655,13812201161273351603,4594399795682656387) (4592545720011063297,4354980839667269632,4600708494335672320) (4592545720011063296,0,4600708494335672320) 4604600355013658324 7 25 .leaf .leaf))) (.node (4584664420663164928,13805424369734065848,4588627588335250964) (4586916220476850177,0,4594797519824748544) (4586916220476850176,0,4594797519824748544) 4604630379011174127 3 10 (.node (4587749386407913718,13809103585449646175,4591837191199687232) (4590293920197378048,4354980839667269632,4598456694521987072) (4590293920197378048,0,4598456694521987072) 4604621548423669479 5 17 (.node (4590001186221598966,13811476757273289058,4594224099002193595) (4592545720011063296,4359484439294640128,4600427019358961664) (4592545720011063296,0,4600427019358961664) 4604617869012209209 7 24 .leaf .leaf) (.node (4590710503162909819,13812301141185079227,4594871097383660709) (4593671619917905920,4354980839667269632,4601271444289093632) (4593671619917905920,0,4601271444289093632) 4604624819011634163 8 27 .leaf .leaf)) (.node (4586083054545786634,13807073137557646186,4590191801075827422) (4589168020290535425,0,4596486369685012480) (4589168020290535424,0,4596486369685012480) 4604641926702526359 4 13 (.node (4589877337231846277,13810752353273226513,4594048402321730804) (4592545720011063297,0,4600145544382251008) (4592545720011063296,0,4600145544382251008) 4604636905967155824 7 23 .leaf .leaf) (.node (4587501688428408340,13808379181449583630,4591485797838761650) (4590293920197378049,0,4598175219545276416) (4590293920197378048,0,4598175219545276416) 4604649144009621504 5 16 .leaf .leaf))))
theorem k4aab : chkQ 4 (4577818949229561774,13800720810283240102,4582238781903863179) (4576828157311540265,13796617130302780106,4580833208460160847) ((1,4),(1,3)) t4aab = true := by decide +kernel
noncomputable def t4aba : T := (.node (4583673628745143418,13801520649577061102,4587222014891548632) (4586916220476850176,0,4593671619917905920) (4586916220476850176,0,4593671619917905920) 4604742969001858389 3 8 (.node (4585587658586775879,13804175521557396010,4589489014353976256) (4589168020290535424,0,4595360469778169856) (4589168020290535424,0,4595360469778169856) 4604725909912360773 4 11 (.node (4587006292469397585,13805824289380976348,4590783011116910484) (4590293920197378048,0,4597049319638433792) (4590293920197378048,0,4597049319638433792) 4604716161861219279 5 14 (.node (4588424926352019291,13807473057204556686,4592077007879844712) (4591419820104220672,0,4598456694521987072) (4591419820104220672,0,4598456694521987072) 4604709854298715959 6 17 .leaf .leaf) (.node (4590800575155457228,13809503505096556675,4594639612362813866) (4594234569871327232,0,4600708494335672320) (4594234569871327232,0,4600708494335672320) 4604720451003721537 9 25 .leaf .leaf)) (.node (4589381941272835522,13807673017028011937,4593019611281853356) (4592545720011063296,0,4599019644475408384) (4592545720011063296,0,4599019644475408384) 4604733092686886085 7 19 (.node (4592095360048326246,13810427868920074470,4595757912445285302) (4595360469778169856,0,4602115869219225600) (4595360469778169856,0,4602115869219225600) 4604730459002893472 11 30 .leaf .leaf) (.node (4591386043107015392,13809603485008284300,4595110914063818188) (4594797519824748544,0,4601271444289093631) (4594797519824748544,0,4601271444289093632) 4604736019002433435 10 27 .leaf .leaf))) (.node (4586758594489892208,13804375481380851260,4590431617755984900) (4590293920197378048,4350477240039899136,4596486369685012479) (4590293920197378048,0,4596486369685012480) 4604757403616048680 5 13 (.node (4589967409224393686,13807872976851467187,4593816917300883960) (4593671619917905920,0,4599582594428829696) (4593671619917905920,0,4599582594428829696) 4604751904715404760 8 21 (.node (4591971511058573556,13809703464920011925,4595582215764822510) (4595360469778169855,0,4601834394242514943) (4595360469778169856,0,4601834394242514944) 4604749439690978175 11 29 .leaf .leaf) (.node (4593266295951442574,13810627828743529720,4596700515847293946) (4596486369685012479,4359484439294640128,4602960294149357568) (4596486369685012480,0,4602960294149357568) 4604754007236239200 13 34 .leaf .leaf)) (.node (4589258092283082834,13806224209027886848,4592668217920927772) (4592545720011063296,4354980839667269632,4598738169498697728) (4592545720011063296,0,4598738169498697728) 4604763819000133253 7 18 (.node (4592556979010131722,13809803444831739550,4596053517465826832) (4595923419731591168,4354980839667269632,4602397344195936256) (4595923419731591168,0,4602397344195936256) 4604761128677775205 12 31 .leaf .leaf) (.node (4590552877175951852,13808054697096431586,4594288219001888282) (4594234569871327232,4359484439294640128,4600145544382251007) (4594234569871327232,0,4600145544382251008) 4604767445086789751 9 23 .leaf .leaf))))
theorem k4aba : chkQ 4 (4576828157311540265,13796617130302780106,4580833208460160847) (4580836360979900006,13797416969596601106,4584603622068195426) ((1,3),(2,5)) t4aba = true := by decide +kernel
noncomputable def t4abb : T := (.node (4583178232786132664,13798216808890422106,4586519228169697466) (4586916220476850176,4345973640412528640,4592545720011063296) (4586916220476850176,0,4592545720011063296) 4604823390423775720 3 7 (.node (4586510896510386831,13802320488870882102,4590080224395059318) (4590293920197378048,0,4595923419731591168) (4590293920197378048,0,4595923419731591168) 4604805518996682980 5 12 (.node (4589100466296124866,13804775401027761760,4592316824560002190) (4592545720011063296,0,4598456694521987072) (4592545720011063296,0,4598456694521987072) 4604798160173762440 7 17 (.node (4590429028186199162,13806624128674797348,4594112522321425491) (4594234569871327232,0,4599864069405540352) (4594234569871327232,0,4599864069405540352) 4604794146270351236 9 22 .leaf .leaf) (.node (4592309281030626344,13808354636831614462,4595702124104901250) (4595923419731591168,0,4601834394242514944) (4595923419731591168,0,4601834394242514944) 4604801205203936456 12 29 .leaf .leaf)) (.node (4589719711244888310,13804975360851217010,4593259427962010835) (4593671619917905920,4354980839667269632,4599019644475408384) (4593671619917905920,0,4599019644475408384) 4604812103206664515 8 19 (.node (4592894748982184510,13808454616743342086,4596173425805905572) (4596486369685012481,4359484439294640128,4602397344195936256) (4596486369685012480,0,4602397344195936256) 4604809554480220049 13 31 .leaf .leaf) (.node (4591599964089315492,13807024048321707848,4595055125723434136) (4595360469778169856,0,4600989969312382976) (4595360469778169856,0,4600989969312382976) 4604815142072809840 11 26 .leaf .leaf))) (.node (4585092262627765125,13799016648184243106,4588404434973714756) (4589168020290535424,0,4594234569871327232) (4589168020290535424,0,4594234569871327232) 4604847218993232707 4 9 (.node (4588852768316619489,13803120328164703102,4591965431199076607) (4592545720011063296,0,4598175219545276416) (4592545720011063296,0,4598175219545276416) 4604836793994095275 7 16 (.node (4590890647148004638,13805375280498127510,4594408127341967022) (4594797519824748544,0,4600145544382251008) (4594797519824748544,0,4600145544382251008) 4604832714646606715 10 23 .leaf .leaf) (.node (4591476115099562803,13805575240321582760,4594879429042971344) (4595360469778169856,4359484439294640128,4600708494335672320) (4595360469778169856,0,4600708494335672320) 4604840546993784749 11 25 .leaf .leaf)) (.node (4586263198530881454,13799422872870631925,4589728831034133735) (4590293920197378048,0,4595360469778169856) (4590293920197378048,0,4595360469778169856) 4604862382628341699 5 11 (.node (4590181330206693786,13803726512674547171,4593761128960499908) (4594234569871327232,4354980839667269632,4599301119452119040) (4594234569871327232,0,4599301119452119040) 4604855558992542652 9 20 .leaf .leaf) (.node (4587434134433997783,13799822792517542425,4590671434436142380) (4591419820104220672,0,4596486369685012481) (4591419820104220672,0,4596486369685012480) 4604872880529571000 6 13 .leaf .leaf))))
theorem k4abb : chkQ 4 (4580836360979900006,13797416969596601106,4584603622068195426) (4575837365393518756,13782909974476915264,4578694448997122598) ((2,5),(1,2)) t4abb = true := by decide +kernel
noncomputable def t4baa : T := (.node (4584529312674343813,4567338172176745156,4586998861530012424) (4589168020290535424,4345973640412528640,4592545720011063296) (4589168020290535424,0,4592545720011063296) 4605037847548888600 4 7 (.node (4585767802571870700,4564826965024523368,4588884068334029714) (4590293920197378048,4350477240039899136,4594234569871327232) (4590293920197378048,0,4594234569871327232) 4605014018979431613 5 9 (.node (4586938738474987029,4561108793172166288,4589968647714291214) (4591419820104220673,4350477240039899136,4595360469778169856) (4591419820104220672,0,4595360469778169856) 4604998855344322623 6 11 (.node (4588109674378103358,4550415446216937792,4590911251116299859) (4592545720011063297,0,4596486369685012480) (4592545720011063296,0,4596486369685012480) 4604988357443093320 7 13 .leaf .leaf) (.node (4590856870150799360,4567730886064251864,4594000945640657388) (4595360469778169856,0,4599301119452119041) (4595360469778169856,0,4599301119452119040) 4605005678980121668 11 20 .leaf .leaf)) (.node (4589685934247683031,4570930243239535864,4592445064559391565) (4594234569871327232,0,4598175219545276416) (4594234569871327232,0,4598175219545276416) 4605024443978569045 9 16 (.node (4592489425015721165,4572837968041690006,4595239154063207563) (4597049319638433792,4354980839667269632,4600708494335672320) (4597049319638433792,0,4600708494335672320) 4605020690978879569 14 25 .leaf .leaf) (.node (4591903957064163000,4573637807335511006,4594767852362203240) (4596486369685012480,4354980839667269632,4600145544382251007) (4596486369685012480,0,4600145544382251008) 4605028523326057605 13 23 .leaf .leaf))) (.node (4587861976398597980,4572641611097936652,4590559857755374275) (4592545720011063296,4350477240039899136,4595923419731591168) (4592545720011063296,0,4595923419731591168) 4605055718975981340 7 12 (.node (4590733021161046671,4575237485923153006,4593825248960194596) (4595360469778169856,0,4599019644475408384) (4595360469778169856,0,4599019644475408384) 4605049134765999805 11 19 (.node (4592951043977526640,4576745291078396648,4595534759083749094) (4597612269591855104,0,4600989969312382976) (4597612269591855104,0,4600989969312382976) 4605046095899854480 15 26 .leaf .leaf) (.node (4594127609380177182,4578443148137915325,4596772967506299270) (4598738169498697728,0,4602397344195936256) (4598738169498697728,0,4602397344195936256) 4605051683492444271 18 31 .leaf .leaf)) (.node (4590147553209488507,4575847273312698971,4593036274600474626) (4594797519824748544,4354980839667269632,4598456694521987072) (4594797519824748544,0,4598456694521987072) 4605063077798901880 10 17 (.node (4593834875404398100,4578843067784825825,4596301665805294946) (4598456694521987072,4359484439294640128,4601834394242514943) (4598456694521987072,0,4601834394242514944) 4605060032768727864 17 29 .leaf .leaf) (.node (4591780108074410312,4577545130372217648,4594592155681740448) (4596486369685012480,4359484439294640128,4599864069405540351) (4596486369685012480,0,4599864069405540352) 4605067091702313084 13 22 .leaf .leaf))))
theorem k4baa : chkQ 4 (4575837365393518756,13782909974476915264,4578694448997122598) (4582187440868111155,4568937850764387156,4585113654725995134) ((1,2),(3,5)) t4baa = true := by decide +kernel
noncomputable def t4bab : T := (.node (4585520104592365322,4574241289685578652,4588181281612178547) (4590293920197378048,4350477240039899136,4593671619917905920) (4590293920197378048,0,4593671619917905920) 4605118268970805931 5 8 (.node (4588785214322208932,4576647112606519971,4591151067796457336) (4593671619917905920,4354980839667269632,4596486369685012479) (4593671619917905920,0,4596486369685012480) 4605103834356615640 8 13 (.node (4590609172171293983,4578344969666038648,4593627484641557687) (4595360469778169856,4354980839667269632,4598738169498697728) (4595360469778169856,0,4598738169498697728) 4605097418972531067 11 18 (.node (4592241727036215788,4580042826725557325,4594887760702281979) (4597049319638433792,4359484439294640128,4600145544382251007) (4597049319638433792,0,4600145544382251008) 4605093792885874569 14 23 .leaf .leaf) (.node (4594296494366203576,4581999640763649806,4596892875846378008) (4599019644475408384,4359484439294640128,4602397344195936254) (4599019644475408384,0,4602397344195936256) 4605100109294889115 19 31 .leaf .leaf)) (.node (4591656259084657623,4580301783704131128,4594416459001277657) (4596486369685012480,4354980839667269632,4599582594428829696) (4596486369685012480,0,4599582594428829696) 4605109333257259560 13 21 (.node (4594820037822885396,4583048529116864394,4597659782567923861) (4599582594428829696,4359484439294640128,4602960294149357567) (4599582594428829696,0,4602960294149357568) 4605107230736425120 21 34 .leaf .leaf) (.node (4594003760390424494,4582199600587105055,4596421574145373686) (4598738169498697728,4359484439294640128,4601834394242514944) (4598738169498697728,0,4601834394242514944) 4605111798281686145 18 29 .leaf .leaf))) (.node (4587614278419092602,4577047032253430471,4590208464394448692) (4592545720011063296,0,4595360469778169856) (4592545720011063296,0,4595360469778169856) 4605135328060303547 7 11 (.node (4591070791133099458,4580501743527586378,4593945157300273335) (4595923419731591168,4354980839667269632,4599019644475408384) (4595923419731591168,0,4599019644475408384) 4605128145285778235 12 19 (.node (4593711026414645412,4582399560410560305,4595950272444369364) (4598456694521987072,4354980839667269632,4601271444289093632) (4598456694521987072,0,4601271444289093632) 4605125218970230885 17 27 .leaf .leaf) (.node (4594234569871327232,4583448448763774894,4596717179165915217) (4599019644475408384,4359484439294640128,4602115869219225600) (4599019644475408384,0,4602115869219225600) 4605130778969770849 19 30 .leaf .leaf)) (.node (4589438236268177653,4579144808959859648,4591742277837540398) (4594234569871327232,0,4597049319638433790) (4594234569871327232,0,4597049319638433792) 4605145076111445041 9 14 (.node (4593164964959826738,4582599520234015556,4595478970743365041) (4598175219545276415,0,4600708494335672320) (4598175219545276416,0,4600708494335672320) 4605140786968942783 16 25 .leaf .leaf) (.node (4590485323181541293,4580701703351041628,4593276091280632104) (4595360469778169855,4354980839667269632,4598456694521987071) (4595360469778169856,0,4598456694521987072) 4605151383673948361 11 17 .leaf .leaf))))
theorem k4bab : chkQ 4 (4582187440868111155,4568937850764387156,4585113654725995134) (4579530317087962562,4570537529352029156,4581792475180790762) ((3,5),(2,3)) t4bab = true := by decide +kernel
noncomputable def t4bba : T := (.node (4585272406612859944,4577846871547251471,4587478494890327382) (4590293920197378048,0,4592545720011063296) (4590293920197378048,0,4592545720011063296) 4605252304674001481 5 7 (.node (4587366580439587224,4579944648253680648,4589857071033523110) (4592545720011063296,0,4594797519824748544) (4592545720011063296,0,4594797519824748544) 4605230858961490193 7 10 (.node (4589314387278424964,4581101622997952128,4591390884476614816) (4594234569871327232,0,4596486369685012480) (4594234569871327232,0,4596486369685012480) 4605219311270137961 9 13 (.node (4590361474191788604,4582150511351166716,4592924697919706522) (4595360469778169855,0,4598175219545276414) (4595360469778169856,0,4598175219545276416) 4605212093963042816 11 16 .leaf .leaf) (.node (4592917266980321360,4585080778448715330,4595127577382439459) (4598175219545276415,0,4600145544382251008) (4598175219545276416,0,4600145544382251008) 4605224332005508496 16 23 .leaf .leaf)) (.node (4590823093153594080,4583399359527836556,4593515907960789585) (4595923419731591168,0,4598456694521987072) (4595923419731591168,0,4598456694521987072) 4605239689548994841 12 17 (.node (4594048796386698198,4586229646713657544,4596190089124526844) (4599019644475408384,0,4601271444289093633) (4599019644475408384,0,4601271444289093632) 4605236418961030157 19 27 .leaf .leaf) (.node (4593378885942126836,4585705202537050250,4595423182402980990) (4598456694521987072,0,4600427019358961664) (4598456694521987072,0,4600427019358961664) 4605243368960455111 17 24 .leaf .leaf))) (.node (4588289818363198176,4581301582821407378,4590448281074606172) (4593671619917905920,0,4595360469778169856) (4593671619917905920,0,4595360469778169856) 4605271800776284471 8 11 (.node (4591284712115399556,4584648207704506394,4593889368959889284) (4596486369685012480,0,4598738169498697729) (4596486369685012480,0,4598738169498697728) 4605264218958729975 13 18 (.node (4593756062410919116,4586329626625385169,4595718787423522522) (4598738169498697728,0,4600708494335672321) (4598738169498697728,0,4600708494335672320) 4605260882959005996 18 25 .leaf .leaf) (.node (4594510415348503674,4587478494890327382,4596781299165609906) (4599582594428829696,0,4601834394242514944) (4599582594428829696,0,4601834394242514944) 4605267094820560991 21 29 .leaf .leaf)) (.node (4590237625202035916,4583599319351291805,4592573304558780940) (4595360469778169856,0,4597612269591855104) (4595360469778169856,0,4597612269591855104) 4605280898957349865 11 15 (.node (4593986871891821854,4586954050713720088,4596014392444064052) (4599019644475408384,0,4600989969312382976) (4599019644475408384,0,4600989969312382976) 4605277049726899121 19 26 .leaf .leaf) (.node (4591746331077205032,4585280738272170580,4594184973980430814) (4597049319638433792,0,4599019644475408384) (4597049319638433792,0,4599019644475408384) 4605286166325335093 14 19 .leaf .leaf))))
theorem k4bba : chkQ 4 (4579530317087962562,4570537529352029156,4581792475180790762) (4581692044909100400,4575749094840822294,4584157315345123010) ((2,3),(3,4)) t4bba = true := by decide +kernel
noncomputable def t4bbb : T := (.node (4583538520756322303,4578246791194161971,4585593288086310093) (4589168020290535424,0,4590293920197378049) (4589168020290535424,0,4590293920197378048) 4605380978949069209 4 5 (.node (4587118882460081848,4581501542644862628,4589505677672597527) (4592545720011063296,0,4594234569871327232) (4592545720011063296,0,4594234569871327232) 4605347618951829428 7 9 (.node (4589652157250477752,4583799279174747055,4591630701156772296) (4594797519824748544,0,4596486369685012481) (4594797519824748544,0,4596486369685012480) 4605334788183660281 10 13 (.node (4591160863125646868,4585380718183898205,4593713672279426492) (4596486369685012480,0,4598456694521987072) (4596486369685012480,0,4598456694521987072) 4605327995424041321 13 17 .leaf .leaf) (.node (4593131187962621460,4587154010537175338,4595071789042055408) (4598456694521987072,0,4599864069405540353) (4598456694521987072,0,4599864069405540352) 4605340037134274932 17 22 .leaf .leaf)) (.node (4590113776212283228,4584856274007290911,4592221911197855358) (4595360469778169856,0,4597049319638433792) (4595360469778169856,0,4597049319638433792) 4605359533236557921 11 14 (.node (4593592806924426936,4587778434625510257,4595367394062596938) (4598738169498697728,4354980839667269632,4600145544382251008) (4598738169498697728,0,4600145544382251008) 4605354871125142424 18 23 .leaf .leaf) (.node (4592084101049257820,4586629566360568044,4594304882320509554) (4597612269591855104,0,4599019644475408384) (4597612269591855104,0,4599019644475408384) 4605365176845113524 15 19 .leaf .leaf))) (.node (4585024708633354567,4580452654291648040,4586775708168476217) (4590293920197378048,0,4591419820104220672) (4590293920197378048,0,4591419820104220672) 4605431018944928881 5 6 (.node (4588965358307303750,4583999238998202306,4590688097754763651) (4594234569871327232,0,4595360469778169856) (4594234569871327232,0,4595360469778169856) 4605408273492265395 9 11 (.node (4591037014135894179,4586105122183960750,4593404331280021482) (4596486369685012480,0,4598175219545276416) (4596486369685012480,0,4598175219545276416) 4605399743947516587 13 16 .leaf .leaf) (.node (4591498633097699654,4586729546272295669,4593833580619505232) (4597049319638433792,0,4598456694521987073) (4597049319638433792,0,4598456694521987072) 4605416301299087801 14 17 .leaf .leaf)) (.node (4585947946556965519,4581701502468317878,4587958128250642341) (4591419820104220672,0,4592545720011063297) (4591419820104220672,0,4592545720011063296) 4605466761799114361 6 7 (.node (4589989927222530539,4585580678007353455,4591870517836929775) (4595360469778169856,0,4596486369685012481) (4595360469778169856,0,4596486369685012480) 4605450265097182601 11 13 .leaf .leaf) (.node (4586871184480576471,4582950350644987716,4589140548332808465) (4592545720011063296,0,4593671619917905921) (4592545720011063296,0,4593671619917905920) 4605493568939753472 7 8 .leaf .leaf))))
theorem k4bbb : chkQ 4 (4581692044909100400,4575749094840822294,4584157315345123010) (4574035925542570557,4571645414860362298,4575883302109717935) ((3,4),(1,1)) t4bbb = true := by decide +kernel
noncomputable def t4aa : T := .node (4577818949229561774,13800720810283240102,4582238781903863179) (4580160821035794433,0,4589168020290535424) (4580160821035794432,0,4589168020290535424) 4604555319017384619 1 4 t4aaa t4aab
theorem k4aa : chkQ 4 (4565569158243114025,13795817291008959106,4572272315928492271) (4576828157311540265,13796617130302780106,4580833208460160847) ((0,1),(1,3)) t4aa = true := chkQ_node rfl rfl (by decide +kernel) k4aaa k4aab
noncomputable def t4ab : T := .node (4580836360979900006,13797416969596601106,4584603622068195426) (4584664420663164928,0,4590293920197378048) (4584664420663164928,0,4590293920197378048) 4604780498998753144 2 5 t4aba t4abb
theorem k4ab : chkQ 4 (4576828157311540265,13796617130302780106,4580833208460160847) (4575837365393518756,13782909974476915264,4578694448997122598) ((1,3),(1,2)) t4ab = true := chkQ_node rfl rfl (by decide +kernel) k4aba k4abb
noncomputable def t4ba : T := .node (4582187440868111155,4568937850764387156,4585113654725995134) (4586916220476850176,4345973640412528640,4590293920197378048) (4586916220476850176,0,4590293920197378048) 4605080738973911176 3 5 t4baa t4bab
theorem k4ba : chkQ 4 (4575837365393518756,13782909974476915264,4578694448997122598) (4579530317087962562,4570537529352029156,4581792475180790762) ((1,2),(2,3)) t4ba = true := chkQ_node rfl rfl (by decide +kernel) k4baa k4bab
noncomputable def t4bb : T := .node (4581692044909100400,4575749094840822294,4584157315345123010) (4586916220476850176,0,4589168020290535424) (4586916220476850176,0,4589168020290535424) 4605305918955279701 3 4 t4bba t4bbb
theorem k4bb : chkQ 4 (4579530317087962562,4570537529352029156,4581792475180790762) (4574035925542570557,4571645414860362298,4575883302109717935) ((2,3),(1,1)) t4bb = true := chkQ_node rfl rfl (by decide +kernel) k4bba k4bbb
noncomputable def t4a : T := .node (4576828157311540265,13796617130302780106,4580833208460160847) (4580160821035794432,0,4586916220476850176) (4580160821035794432,0,4586916220476850176) 4604680419007033799 1 3 t4aa t4ab
theorem k4a : chkQ 4 (4565569158243114025,13795817291008959106,4572272315928492271) (4575837365393518756,13782909974476915264,4578694448997122598) ((0,1),(1,2)) t4a = true := chkQ_node rfl rfl (by decide +kernel) k4aa k4ab
noncomputable def t4b : T := .node (4579530317087962562,4570537529352029156,4581792475180790762) (4584664420663164928,4341470040785158144,4586916220476850176) (4584664420663164928,0,4586916220476850176) 4605180818965630521 2 3 t4ba t4bb
theorem k4b : chkQ 4 (4575837365393518756,13782909974476915264,4578694448997122598) (4574035925542570557,4571645414860362298,4575883302109717935) ((1,2),(1,1)) t4b = true := chkQ_node rfl rfl (by decide +kernel) k4ba k4bb
noncomputable def t4o : T := .node (4575837365393518756,13782909974476915264,4578694448997122598) (4580160821035794432,4341470040785158144,4584664420663164928) (4580160821035794432,0,4584664420663164928) 4604930618986332160 1 2 t4a t4b
theorem k4o : chkQ 4 (4565569158243114025,13795817291008959106,4572272315928492271) (4574035925542570557,4571645414860362298,4575883302109717935) ((0,1),(1,1)) t4o = true := chkQ_node rfl rfl (by decide +kernel) k4a k4b
theorem e4 : edge 4 = (4565569158243114025,13795817291008959106,4572272315928492271) := by decide +kernel
noncomputable def t5aaa : T := (.node (4584394204685522697,4583350270291898216,4585370134724773885) (4590293920197378048,0,4589168020290535425) (4590293920197378048,0,4589168020290535424) 4605981458899385276 1 5 (.node (4585452550597954764,4584599118468568054,4586552554806940009) (4591419820104220672,0,4590293920197378049) (4591419820104220672,0,4590293920197378048) 4605931418903525604 1 6 (.node (4586375788521565716,4585256193654201410,4587734974889106133) (4592545720011063296,0,4591419820104220674) (4592545720011063296,0,4591419820104220672) 4605895676049340123 1 7 (.node (4587299026445176668,4585880617742536329,4588917394971272257) (4593671619917905920,0,4592545720011063298) (4593671619917905920,0,4592545720011063296) 4605868868908701013 1 8 .leaf .leaf) (.node (4590417769187130736,4589447581237404446,4591647364475393567) (4596486369685012480,0,4595360469778169858) (4596486369685012480,0,4595360469778169856) 4605912172751271884 2 13 .leaf .leaf)) (.node (4589494531263519784,4588478294007603631,4590464944393227443) (4595360469778169855,0,4594234569871327233) (4595360469778169856,0,4594234569871327232) 4605954164356189091 2 11 (.node (4592140396044599950,4591058631414105557,4593660811278800232) (4598456694521987071,0,4597049319638433794) (4598456694521987072,0,4597049319638433792) 4605946136549366684 3 17 .leaf .leaf) (.node (4591678777082794474,4590746419369938098,4593069601237717170) (4598175219545276416,0,4596486369685012482) (4598175219545276416,0,4596486369685012480) 4605962693900937899 3 16 .leaf .leaf))) (.node (4587974566389282242,4587229445830933793,4589282524311061319) (4594234569871327232,0,4592545720011063298) (4594234569871327232,0,4592545720011063296) 4606014818896625057 2 9 (.node (4590755539159183523,4590121995281603178,4591887181155551046) (4597049319638433792,0,4595360469778169858) (4597049319638433792,0,4595360469778169856) 4606002904611896564 3 14 (.node (4592939784978458213,4592045257502471748,4594081728958973346) (4599019644475408384,0,4597612269591855105) (4599019644475408384,0,4597612269591855104) 4605997261003340962 4 19 .leaf .leaf) (.node (4594167015876916674,4593656307679172858,4595088452360676678) (4600145544382251008,0,4598738169498697730) (4600145544382251008,0,4598738169498697728) 4606007566723312061 5 23 .leaf .leaf)) (.node (4590293920197378048,4589809783237435719,4591295971114467984) (4596486369685012480,0,4594797519824748546) (4596486369685012480,0,4594797519824748544) 4606027649664794204 3 13 (.node (4593936206396013936,4593344095635005400,4594792847340135148) (4599864069405540352,0,4598456694521987073) (4599864069405540352,0,4598456694521987072) 4606022400714179553 5 22 .leaf .leaf) (.node (4592016547054847262,4591420833414136830,4593309417917874648) (4598456694521987072,0,4596486369685012480) (4598456694521987072,0,4596486369685012480) 4606034442424413164 4 17 .leaf .leaf))))
theorem k5aaa : chkQ 5 (4574035925542570557,4571645414860362298,4575883302109717935) (4582547728838300794,4582101422115228378,4583711008622050594) ((0,1),(1,4)) t5aaa = true := by decide +kernel
noncomputable def t5aab : T := (.node (4586128090542060338,4585980597654263955,4587032188167254966) (4592545720011063295,0,4590293920197378048) (4592545720011063296,0,4590293920197378048) 4606110133174453004 2 7 (.node (4589370682273767096,4589185359149100800,4590113551032301860) (4595360469778169856,0,4593671619917905921) (4595360469778169856,0,4593671619917905920) 4606090637072170015 3 11 (.node (4591093309131236310,4590796409325801910,4592126997835708524) (4597612269591855103,0,4595360469778169857) (4597612269591855104,0,4595360469778169856) 4606081538891104620 4 15 (.node (4592815935988705524,4592407459502503020,4593906032278510554) (4599019644475408383,0,4597049319638433793) (4599019644475408384,0,4597049319638433792) 4606076271523119391 5 19 .leaf .leaf) (.node (4594735595329872199,4594494483864821851,4595623874061375688) (4600989969312382976,0,4599019644475408384) (4600989969312382976,0,4599019644475408384) 4606085388121555364 7 26 .leaf .leaf)) (.node (4592354317026900049,4592095247458335562,4593549234598032127) (4598738169498697728,0,4596486369685012480) (4598738169498697728,0,4596486369685012480) 4606098218889724511 5 18 (.node (4595366099277704068,4595143902931088677,4596334992442537490) (4601834394242514944,0,4599582594428829696) (4601834394242514944,0,4599582594428829696) 4606095343027893495 8 29 .leaf .leaf) (.node (4594504785848969461,4594338377842738122,4595328269040834157) (4600708494335672320,0,4598738169498697728) (4600708494335672320,0,4598738169498697728) 4606101554889448489 7 25 .leaf .leaf))) (.node (4588650106333387816,4588578273919331257,4589522340991218798) (4594797519824748544,0,4592545720011063297) (4594797519824748544,0,4592545720011063296) 4606131578886964292 3 10 (.node (4591892698065094573,4591783035414168102,4592958024556949065) (4598456694521987072,0,4595923419731591169) (4598456694521987072,0,4595923419731591168) 4606122748299459644 5 17 (.node (4594273976368066723,4594182271820654392,4595032664020292626) (4600427019358961664,0,4598456694521987072) (4600427019358961664,0,4598456694521987072) 4606119068887999374 7 24 .leaf .leaf) (.node (4594904480315898592,4594831690886921217,4595743782401454428) (4601271444289093631,0,4599019644475408385) (4601271444289093632,0,4599019644475408384) 4606126018887424329 8 27 .leaf .leaf)) (.node (4590170071207625359,4590171985237466992,4590944577753542400) (4596486369685012480,0,4594234569871327232) (4596486369685012480,0,4594234569871327232) 4606143126578316524 4 13 (.node (4594043166887163986,4594026165798570662,4594737058999751095) (4600145544382251008,4354980839667269632,4598175219545276417) (4600145544382251008,0,4598175219545276416) 4606138105842945989 7 23 .leaf .leaf) (.node (4591431079103289098,4591470823370000643,4592366814515866002) (4598175219545276416,4354980839667269632,4595360469778169855) (4598175219545276416,0,4595360469778169856) 4606150343885411669 5 16 .leaf .leaf))))
theorem k5aab : chkQ 5 (4582547728838300794,4582101422115228378,4583711008622050594) (4580701252991078891,4580852573938558540,4581346168457718346) ((1,4),(1,3)) t5aab = true := by decide +kernel
noncomputable def t5aba : T := (.node (4586803630486165913,4587329425742661419,4587511821527569923) (4593671619917905920,0,4590293920197378048) (4593671619917905920,0,4590293920197378048) 4606244168877648555 3 8 (.node (4589246833284014407,4589547561149132072,4589762157671376276) (4595360469778169856,0,4592545720011063296) (4595360469778169856,0,4592545720011063296) 4606227109788150939 4 11 (.node (4590507841179678146,4590846399281665723,4591184394433699878) (4597049319638433791,4354980839667269632,4594234569871327232) (4597049319638433792,0,4594234569871327232) 4606217361737009445 5 14 (.node (4591768849075341885,4592145237414199374,4592606631196023480) (4598456694521987072,4354980839667269632,4595360469778169855) (4598456694521987072,0,4595360469778169856) 4606211054174506125 6 17 .leaf .leaf) (.node (4594380936859216772,4594700579842769394,4594976875679908573) (4600708494335672319,0,4598175219545276415) (4600708494335672320,0,4598175219545276416) 4606221650879511702 9 25 .leaf .leaf)) (.node (4592568238009200148,4593131863502565566,4593437657917264022) (4599019644475408384,0,4595923419731591168) (4599019644475408384,0,4595923419731591168) 4606234292562676251 7 19 (.node (4595411135273977774,4595843311953219315,4596103507421690645) (4602115869219225600,4354980839667269632,4599019644475408384) (4602115869219225600,0,4599019644475408384) 4606231658878683637 11 30 .leaf .leaf) (.node (4594780631326145904,4595193892886952490,4595392389040528844) (4601271444289093632,0,4598456694521987072) (4601271444289093632,0,4598456694521987072) 4606237218878223600 10 27 .leaf .leaf))) (.node (4590046222217872670,4590534187237498264,4590593184392616816) (4596486369685012480,4350477240039899136,4593671619917905917) (4596486369685012480,0,4593671619917905920) 4606258603491838845 5 13 (.node (4593367626943058410,4593895054754418839,4593970152278205241) (4599582594428829696,0,4596486369685012478) (4599582594428829696,0,4596486369685012480) 4606253104591194925 8 21 (.node (4595180325793075035,4595687205931135586,4595807902401149114) (4601834394242514944,0,4598738169498697726) (4601834394242514944,0,4598738169498697728) 4606250639566768340 11 29 .leaf .leaf) (.node (4596210524207836036,4596829938041585507,4596934534142931185) (4602960294149357568,0,4599582594428829695) (4602960294149357568,0,4599582594428829696) 4606255207112029365 13 34 .leaf .leaf)) (.node (4592106619047394672,4592819651458398106,4592846447876180959) (4598738169498697728,4354980839667269632,4595360469778169855) (4598738169498697728,0,4595360469778169856) 4606265018875923418 7 18 (.node (4595580020260004167,4596180518975318681,4596223415761769384) (4602397344195936256,4354980839667269632,4599019644475408384) (4602397344195936256,0,4599019644475408384) 4606262328553565371 12 31 .leaf .leaf) (.node (4593919317897411297,4594388367798601934,4594385665638825511) (4600145544382251007,4359484439294640128,4597049319638433791) (4600145544382251008,0,4597049319638433792) 4606268644962579916 9 23 .leaf .leaf))))
theorem k5aba : chkQ 5 (4580701252991078891,4580852573938558540,4581346168457718346) (4583898808726511943,4584731749477594117,4584667348002922718) ((1,3),(2,5)) t5aba = true := by decide +kernel
noncomputable def t5abb : T := (.node (4585880392562554962,4586705001654326500,4586329401445403800) (4592545720011063296,4345973640412528640,4589168020290535424) (4592545720011063296,0,4589168020290535424) 4606324590299565885 3 7 (.node (4589584603256067195,4590221975193330804,4590001974351533755) (4595923419731591168,4354980839667269632,4592545720011063297) (4595923419731591168,0,4592545720011063296) 4606306718872473145 5 12 (.node (4591645000085589197,4592507439414230646,4592255237835097898) (4598456694521987072,4359484439294640128,4594797519824748544) (4598456694521987072,0,4594797519824748544) 4606299360049552605 7 17 (.node (4593688508416508559,4594232261776518204,4594090060618283980) (4599864069405540351,4359484439294640128,4596486369685012479) (4599864069405540352,0,4596486369685012480) 4606295346146141401 9 22 .leaf .leaf) (.node (4595118401298198692,4595868306931151221,4595632205720686322) (4601834394242514944,4361736239108325376,4598456694521987072) (4601834394242514944,0,4598456694521987072) 4606302405079726621 12 29 .leaf .leaf)) (.node (4592444389019447460,4593494065502596838,4593086264556338439) (4599019644475408384,4354980839667269632,4595360469778169856) (4599019644475408384,0,4595360469778169856) 4606313303082454681 8 19 (.node (4595518095765127824,4596361619975334317,4596047719081306593) (4602397344195936256,4361736239108325376,4598738169498697728) (4602397344195936256,0,4598738169498697728) 4606310754356010215 13 31 .leaf .leaf) (.node (4594487897350366822,4595218887864884396,4594921087339524522) (4600989969312382976,0,4597612269591855105) (4600989969312382976,0,4597612269591855104) 4606316341948600005 11 26 .leaf .leaf))) (.node (4587479170430271488,4588678253831058883,4587991454887884882) (4594234569871327232,0,4590293920197378049) (4594234569871327232,0,4590293920197378048) 4606348418869022872 4 9 (.node (4591183381123783721,4592195227370063188,4591664027794014837) (4598175219545276416,0,4594234569871327232) (4598175219545276416,0,4594234569871327232) 4606337993869885440 7 16 (.node (4593857393402534953,4594569468798617571,4594209968958362720) (4600145544382251008,4359484439294640128,4596486369685012479) (4600145544382251008,0,4596486369685012480) 4606333914522396880 10 23 .leaf .leaf) (.node (4594257087869464084,4595062781842800667,4594625482318982991) (4600708494335672320,0,4597049319638433792) (4600708494335672320,0,4597049319638433792) 4606341746869574915 11 25 .leaf .leaf)) (.node (4589077948297988014,4589909763149163345,4589410764310450694) (4595360469778169856,0,4591419820104220673) (4595360469778169856,0,4591419820104220672) 4606363582504131863 5 11 (.node (4592782158991500247,4593920049732350745,4593326081236495919) (4599301119452119040,0,4595360469778169858) (4599301119452119040,0,4595360469778169856) 4606356758868332817 9 20 .leaf .leaf) (.node (4589922373228119982,4590896389237529536,4590241791031691235) (4596486369685012480,0,4592545720011063297) (4596486369685012480,0,4592545720011063296) 4606374080405361165 6 13 .leaf .leaf))))
theorem k5abb : chkQ 5 (4583898808726511943,4584731749477594117,4584667348002922718) (4577548733251919544,4579046630487982971,4577801835550977766) ((2,5),(1,2)) t5abb = true := by decide +kernel
noncomputable def t5baa : T := (.node (4585632694583049584,4587429405654389044,4585626614723552634) (4592545720011063296,0,4586916220476850175) (4592545720011063296,0,4586916220476850176) 4606539047424678766 4 7 (.node (4587231472450766110,4589285339060828425,4587288668166033716) (4594234569871327232,0,4589168020290535425) (4594234569871327232,0,4589168020290535424) 4606515218855221779 5 9 (.node (4588830250318482636,4590271965149194616,4588950721608514798) (4595360469778169856,0,4590293920197378050) (4595360469778169856,0,4590293920197378048) 4606500055220112787 6 11 (.node (4589798524238367293,4591258591237560807,4589890397670765652) (4596486369685012479,0,4591419820104220675) (4596486369685012480,0,4591419820104220672) 4606489557318883486 7 13 .leaf .leaf) (.node (4592534461011994869,4594282251732382016,4592623294514644753) (4599301119452119040,0,4594234569871327234) (4599301119452119040,0,4594234569871327232) 4606506878855911834 11 20 .leaf .leaf)) (.node (4590935683144278343,4592919631370125731,4590961241072163671) (4598175219545276416,0,4592545720011063297) (4598175219545276416,0,4592545720011063296) 4606525643854359211 9 16 (.node (4594071314384835051,4595606084842847574,4594098392277594616) (4600708494335672320,0,4595360469778169856) (4600708494335672320,0,4595360469778169856) 4606521890854669735 14 25 .leaf .leaf) (.node (4593671619917905919,4595112771798664478,4593682878916974346) (4600145544382251008,0,4594797519824748544) (4600145544382251008,0,4594797519824748544) 4606529723201847771 13 23 .leaf .leaf))) (.node (4589336905276561817,4590946379193393348,4589299187629682590) (4595923419731591168,0,4590293920197378049) (4595923419731591168,0,4590293920197378048) 4606556918851771506 7 12 (.node (4592072842050189393,4594126145710298287,4592032084473561691) (4599019644475408384,0,4593671619917905920) (4599019644475408384,0,4593671619917905920) 4606550334641789970 11 19 (.node (4594240199370861444,4595943291864946940,4594218300617673356) (4600989969312382975,0,4595360469778169857) (4600989969312382976,0,4595360469778169856) 4606547295775644646 15 26 .leaf .leaf) (.node (4595208473290746101,4597267124975412497,4595169235678992636) (4602397344195936256,0,4596486369685012480) (4602397344195936256,0,4596486369685012480) 4606552883368234436 18 31 .leaf .leaf)) (.node (4591273453116331130,4593594045414324462,4591201057752321150) (4598456694521987072,0,4592545720011063298) (4598456694521987072,0,4592545720011063296) 4606564277674692046 10 17 (.node (4594808778823816970,4596773811931229401,4594753722318372366) (4601834394242514944,0,4595923419731591170) (4601834394242514944,0,4595923419731591168) 4606561232644518029 17 29 .leaf .leaf) (.node (4593210000956100443,4594956665776580748,4593102927874959710) (4599864069405540352,0,4594234569871327234) (4599864069405540352,0,4594234569871327232) 4606568291578103250 13 22 .leaf .leaf))))
theorem k5baa : chkQ 5 (4577548733251919544,4579046630487982971,4577801835550977766) (4583403412767501189,4585456153477656661,4583264701898978178) ((1,2),(3,5)) t5baa = true := by decide +kernel
noncomputable def t5bab : T := (.node (4586308234527155159,4588778233742786507,4586106248083867592) (4593671619917905920,4345973640412528640,4586916220476850179) (4593671619917905920,0,4586916220476850176) 4606619468846596096 5 8 (.node (4589674675248614605,4591620793237592080,4589539004309840068) (4596486369685012480,4354980839667269632,4590293920197378049) (4596486369685012480,0,4590293920197378048) 4606605034232405806 8 13 (.node (4591611223088383918,4593970039688214557,4591440874432478628) (4598738169498697728,4357232639480954880,4592545720011063298) (4598738169498697728,0,4592545720011063296) 4606598618848321233 11 18 (.node (4593547770928153231,4595293872798680114,4593342744555117188) (4600145544382251008,4354980839667269632,4594234569871327232) (4600145544382251008,0,4594234569871327232) 4606594992761664735 14 23 .leaf .leaf) (.node (4595146548795869758,4597448225975428133,4594993538998529844) (4602397344195936256,4361736239108325376,4595923419731591170) (4602397344195936256,0,4595923419731591168) 4606601309170679280 19 31 .leaf .leaf)) (.node (4592748381994294968,4594800559754497019,4592511717833876648) (4599582594428829695,0,4593671619917905920) (4599582594428829696,0,4593671619917905920) 4606610533133049726 13 21 (.node (4595715128248825282,4598226982793493506,4595528960699228854) (4602960294149357568,0,4596486369685012480) (4602960294149357568,0,4596486369685012480) 4606608430612215286 21 34 .leaf .leaf) (.node (4594746854328940626,4596954912931245038,4594578025637909574) (4601834394242514943,4354980839667269632,4595360469778169857) (4601834394242514944,0,4595360469778169856) 4606612998157476311 18 29 .leaf .leaf))) (.node (4588582552338977260,4590634167149225888,4588247934886663631) (4595360469778169856,4354980839667269632,4589168020290535426) (4595360469778169856,0,4589168020290535424) 4606636527936093712 7 11 (.node (4591948993060436706,4594307246710313923,4591680691112636108) (4599019644475408384,4354980839667269632,4592545720011063298) (4599019644475408384,0,4592545720011063296) 4606629345161568400 12 19 (.node (4594347159862011495,4596461599887061942,4594162512277289304) (4601271444289093632,4359484439294640128,4594797519824748546) (4601271444289093632,0,4594797519824748544) 4606626418846021050 17 27 .leaf .leaf) (.node (4594915739314967020,4597292119953344403,4594697933977988314) (4602115869219225600,4359484439294640128,4595360469778169860) (4602115869219225600,0,4595360469778169856) 4606631978845561014 19 30 .leaf .leaf)) (.node (4590012445220667392,4592295207281790811,4589778820989997547) (4597049319638433791,4354980839667269632,4590293920197378049) (4597049319638433792,0,4590293920197378048) 4606646275987235206 9 14 (.node (4593947465395082363,4595968286842878846,4593746998916669033) (4600708494335672320,4359484439294640128,4594234569871327233) (4600708494335672320,0,4594234569871327232) 4606641986844732948 16 25 .leaf .leaf) (.node (4591149604126578442,4593813933666130827,4590849664391395567) (4598456694521987072,4350477240039899136,4591419820104220674) (4598456694521987072,0,4591419820104220672) 4606652583549738526 11 17 .leaf .leaf))))
theorem k5bab : chkQ 5 (4583403412767501189,4585456153477656661,4583264701898978178) (4580205857032068137,4582301381938683628,4579720368992237597) ((3,5),(2,3)) t5bab = true := by decide +kernel
noncomputable def t5bba : T := (.node (4585384996603544208,4588153809654451588,4584923828001701468) (4592545720011063296,4352729039853584384,4584664420663164930) (4592545720011063296,0,4584664420663164928) 4606753504549791646 5 7 (.node (4587659314415366308,4590321955105058429,4587065514804497507) (4594797519824748544,4350477240039899136,4586916220476850176) (4594797519824748544,0,4586916220476850176) 4606732058837280358 7 10 (.node (4589550826258861916,4591982995237623352,4589187610948914485) (4596486369685012480,4354980839667269632,4589168020290535424) (4596486369685012480,0,4589168020290535424) 4606720511145928126 9 13 (.node (4590687985164772966,4593644035370188275,4590258454350312505) (4598175219545276415,0,4590293920197378050) (4598175219545276416,0,4590293920197378048) 4606713293838832981 11 16 .leaf .leaf) (.node (4593300072948647854,4595656074798711386,4592639957833266022) (4600145544382251007,4359484439294640128,4592545720011063298) (4600145544382251008,0,4592545720011063296) 4606725531881298662 16 23 .leaf .leaf)) (.node (4591025755136825754,4593995034666146464,4590498271030469984) (4598456694521987072,4350477240039899136,4590293920197378048) (4598456694521987072,0,4590293920197378048) 4606740889424785006 12 17 (.node (4594223310872258806,4596823801887093214,4593811118916363721) (4601271444289093632,4354980839667269632,4593671619917905922) (4601271444289093632,0,4593671619917905920) 4606737618836820322 19 27 .leaf .leaf) (.node (4593637842920700642,4595993281820810753,4592879774513423502) (4600427019358961664,4354980839667269632,4592545720011063296) (4600427019358961664,0,4592545720011063296) 4606744568836245276 17 24 .leaf .leaf))) (.node (4588334854359471883,4590996369149257161,4587545148164812465) (4595360469778169856,4350477240039899136,4586916220476850177) (4595360469778169856,0,4586916220476850176) 4606773000652074636 8 11 (.node (4591363525108878542,4594332241688245830,4590738087710627462) (4598738169498697729,4359484439294640128,4590293920197378048) (4598738169498697728,0,4590293920197378048) 4606765418834520140 13 18 (.node (4593823616405329675,4596330488842910119,4593119591193580980) (4600708494335672320,4361736239108325376,4592545720011063296) (4600708494335672320,0,4592545720011063296) 4606762082834796162 18 25 .leaf .leaf) (.node (4594561080844311594,4597498215931291946,4594050935596521199) (4601834394242514944,4363988038922010624,4593671619917905921) (4601834394242514944,0,4593671619917905920) 4606768294696351156 21 29 .leaf .leaf)) (.node (4590226366202967491,4593331823326020816,4589667244309229443) (4597612269591855104,4354980839667269632,4589168020290535426) (4597612269591855104,0,4589168020290535424) 4606782098833140030 11 15 (.node (4593992501391356068,4596667695865009484,4593359407873738460) (4600989969312382976,4359484439294640128,4592545720011063300) (4600989969312382976,0,4592545720011063296) 4606778249602689286 19 26 .leaf .leaf) (.node (4591701295080931328,4594669448710345196,4590977904390784942) (4599019644475408384,0,4590293920197378050) (4599019644475408384,0,4590293920197378048) 4606787366201125259 14 19 .leaf .leaf))))
theorem k5bba : chkQ 5 (4580205857032068137,4582301381938683628,4579720368992237597) (4581556936920279286,4584831729389321742,4580899861734645930) ((2,3),(3,4)) t5bba = true := by decide +kernel
noncomputable def t5bbb : T := (.node (4582908016808490435,4586180557477719206,4581859128455275846) (4590293920197378048,4341470040785158144,4580160821035794430) (4590293920197378048,0,4580160821035794432) 4606882178824859375 4 5 (.node (4586736076491755356,4590009743060890970,4585883094722331384) (4594234569871327232,0,4584664420663164928) (4594234569871327232,0,4584664420663164928) 4606848818827619594 7 9 (.node (4589426977269109228,4592345197237654625,4588504414885442381) (4596486369685012480,4354980839667269632,4586916220476850178) (4596486369685012480,0,4586916220476850176) 4606835988059450447 10 13 (.node (4590901906147073066,4594176135666162100,4590146877669544401) (4598456694521987072,4357232639480954880,4589168020290535426) (4598456694521987072,0,4589168020290535424) 4606829195299831487 13 17 .leaf .leaf) (.node (4592714604997089690,4595681069776643294,4591697354431257378) (4599864069405540352,4354980839667269632,4590293920197378048) (4599864069405540352,0,4590293920197378048) 4606841237010065098 17 22 .leaf .leaf)) (.node (4589764747241162015,4593019611281853357,4588984048245757339) (4597049319638433792,4350477240039899136,4586916220476850176) (4597049319638433792,0,4586916220476850176) 4606860733112348087 11 14 (.node (4593052374969142477,4596018276798742660,4591937171111414858) (4600145544382251008,0,4590293920197378049) (4600145544382251008,0,4590293920197378048) 4606856071000932590 18 23 .leaf .leaf) (.node (4591577446091178640,4594850549710360832,4590626511029859359) (4599019644475408384,4354980839667269632,4589168020290535426) (4599019644475408384,0,4589168020290535424) 4606866376720903689 15 19 .leaf .leaf))) (.node (4584259096696701584,4587529385566116670,4582818395175905762) (4591419820104220673,0,4580160821035794434) (4591419820104220672,0,4580160821035794432) 4606932218820719047 5 6 (.node (4588087156379966506,4591358571149288434,4586842361442961300) (4595360469778169857,4350477240039899136,4584664420663164930) (4595360469778169856,0,4584664420663164928) 4606909473368055560 9 11 (.node (4590440287185267590,4594020029644078370,4589555667628461340) (4598175219545276416,4354980839667269632,4586916220476850180) (4598175219545276416,0,4586916220476850176) 4606900943823306752 13 16 .leaf .leaf) (.node (4590778057157320377,4594357236666177736,4589795484308618818) (4598456694521987072,4354980839667269632,4586916220476850178) (4598456694521987072,0,4586916220476850176) 4606917501174877967 14 17 .leaf .leaf)) (.node (4585137298624038830,4588878213654514134,4583777661896535678) (4592545720011063297,0,4580160821035794432) (4592545720011063296,0,4580160821035794432) 4606967961674904527 6 7 (.node (4589303128279356539,4592707399237685898,4587801628163591216) (4596486369685012481,0,4584664420663164928) (4596486369685012480,0,4584664420663164928) 4606951464972972767 11 13 .leaf .leaf) (.node (4585812838568144404,4589697531016723511,4584700674640165261) (4593671619917905920,0,4580160821035794428) (4593671619917905920,0,4580160821035794432) 4606994768815543637 7 8 .leaf .leaf))))
theorem k5bbb : chkQ 5 (4581556936920279286,4584831729389321742,4580899861734645930) (4572054341706527539,4576548934134643294,4569820556291351772) ((3,4),(1,1)) t5bbb = true := by decide +kernel
noncomputable def t5aa : T := .node (4582547728838300794,4582101422115228378,4583711008622050594) (4589168020290535424,0,4586916220476850176) (4589168020290535424,0,4586916220476850176) 4606056518893174784 1 4 t5aaa t5aab
theorem k5aa : chkQ 5 (4574035925542570557,4571645414860362298,4575883302109717935) (4580701252991078891,4580852573938558540,4581346168457718346) ((0,1),(1,3)) t5aa = true := chkQ_node rfl rfl (by decide +kernel) k5aaa k5aab
noncomputable def t5ab : T := .node (4583898808726511943,4584731749477594117,4584667348002922718) (4590293920197378048,4345973640412528640,4586916220476850176) (4590293920197378048,0,4586916220476850176) 4606281698874543309 2 5 t5aba t5abb
theorem k5ab : chkQ 5 (4580701252991078891,4580852573938558540,4581346168457718346) (4577548733251919544,4579046630487982971,4577801835550977766) ((1,3),(1,2)) t5ab = true := chkQ_node rfl rfl (by decide +kernel) k5aba k5abb
noncomputable def t5ba : T := .node (4583403412767501189,4585456153477656661,4583264701898978178) (4590293920197378048,0,4584664420663164930) (4590293920197378048,0,4584664420663164928) 4606581938849701342 3 5 t5baa t5bab
theorem k5ba : chkQ 5 (4577548733251919544,4579046630487982971,4577801835550977766) (4580205857032068137,4582301381938683628,4579720368992237597) ((1,2),(2,3)) t5ba = true := chkQ_node rfl rfl (by decide +kernel) k5baa k5bab
noncomputable def t5bb : T := .node (4581556936920279286,4584831729389321742,4580899861734645930) (4589168020290535424,4341470040785158144,4580160821035794432) (4589168020290535424,0,4580160821035794432) 4606807118831069867 3 4 t5bba t5bbb
theorem k5bb : chkQ 5 (4580205857032068137,4582301381938683628,4579720368992237597) (4572054341706527539,4576548934134643294,4569820556291351772) ((2,3),(1,1)) t5bb = true := chkQ_node rfl rfl (by decide +kernel) k5bba k5bbb
noncomputable def t5a : T := .node (4580701252991078891,4580852573938558540,4581346168457718346) (4586916220476850176,0,4584664420663164928) (4586916220476850176,0,4584664420663164928) 4606181618882823964 1 3 t5aa t5ab
theorem k5a : chkQ 5 (4574035925542570557,4571645414860362298,4575883302109717935) (4577548733251919544,4579046630487982971,4577801835550977766) ((0,1),(1,2)) t5a = true := chkQ_node rfl rfl (by decide +kernel) k5aa k5ab
noncomputable def t5b : T := .node (4580205857032068137,4582301381938683628,4579720368992237597) (4586916220476850176,4341470040785158144,4580160821035794433) (4586916220476850176,0,4580160821035794432) 4606682018841420686 2 3 t5ba t5bb
theorem k5b : chkQ 5 (4577548733251919544,4579046630487982971,4577801835550977766) (4572054341706527539,4576548934134643294,4569820556291351772) ((1,2),(1,1)) t5b = true := chkQ_node rfl rfl (by decide +kernel) k5ba k5bb
noncomputable def t5o : T := .node (4577548733251919544,4579046630487982971,4577801835550977766) (4584664420663164928,4336966441157787648,4580160821035794432) (4584664420663164928,0,4580160821035794432) 4606431818862122325 1 2 t5a t5b
theorem k5o : chkQ 5 (4574035925542570557,4571645414860362298,4575883302109717935) (4572054341706527539,4576548934134643294,4569820556291351772) ((0,1),(1,1)) t5o = true := chkQ_node rfl rfl (by decide +kernel) k5a k5b
theorem e5 : edge 5 = (4574035925542570557,4571645414860362298,4575883302109717935) := by decide +kernel
end Mine
end
section
open PySem PySem.W PyProof.Rows PySem.Calls PySem.Spec
namespace Mine
set_option maxRecDepth 100000
set_option exponentiation.threshold 2000
noncomputable def tr : Nat → T
  | 0 => t0o
  | 1 => t1o
  | 2 => t2o
  | 3 => t3o
  | 4 => t4o
  | _ => t5o
theorem o0 : ordT (bnd 0) (bnd 1) t0o = true := by decide +kernel
theorem a0 : (allWays.all fun w => (hueAt t0o w).isSome) = true := by decide +kernel
theorem o1 : ordT (bnd 1) (bnd 2) t1o = true := by decide +kernel
theorem a1 : (allWays.all fun w => (hueAt t1o w).isSome) = true := by decide +kernel
theorem o2 : ordT (bnd 2) (bnd 3) t2o = true := by decide +kernel
theorem a2 : (allWays.all fun w => (hueAt t2o w).isSome) = true := by decide +kernel
theorem o3 : ordT (bnd 3) (bnd 4) t3o = true := by decide +kernel
theorem a3 : (allWays.all fun w => (hueAt t3o w).isSome) = true := by decide +kernel
theorem o4 : ordT (bnd 4) (bnd 5) t4o = true := by decide +kernel
theorem a4 : (allWays.all fun w => (hueAt t4o w).isSome) = true := by decide +kernel
theorem o5 : ordT (bnd 5) (bnd 6) t5o = true := by decide +kernel
theorem a5 : (allWays.all fun w => (hueAt t5o w).isSome) = true := by decide +kernel
theorem start_is {c : Nat} {lo hi : F3} (h1 : edge c = lo) (h2 : edge ((c + 1) % 6) = hi) : [].foldl step (start c) = (lo, hi, joined lo hi) := by
  show start c = _
  unfold start
  rw [h1, h2]
theorem trees : Trees tr where
  told := fun c w h hc e => match c, hc, e with
    | 0, _, e => chkT_sound t0o _ _ [] (chk_of t0o _ _ [] _ rfl k0o) (start_is e0 e1) w h e
    | 1, _, e => chkT_sound t1o _ _ [] (chk_of t1o _ _ [] _ rfl k1o) (start_is e1 e2) w h e
    | 2, _, e => chkT_sound t2o _ _ [] (chk_of t2o _ _ [] _ rfl k2o) (start_is e2 e3) w h e
    | 3, _, e => chkT_sound t3o _ _ [] (chk_of t3o _ _ [] _ rfl k3o) (start_is e3 e4) w h e
    | 4, _, e => chkT_sound t4o _ _ [] (chk_of t4o _ _ [] _ rfl k4o) (start_is e4 e5) w h e
    | 5, _, e => chkT_sound t5o _ _ [] (chk_of t5o _ _ [] _ rfl k5o) (start_is e5 e0) w h e
    | n + 6, hc, _ => absurd hc (by omega)
  ord := fun c hc => match c, hc with
    | 0, _ => o0
    | 1, _ => o1
    | 2, _ => o2
    | 3, _ => o3
    | 4, _ => o4
    | 5, _ => o5
    | n + 6, hc => absurd hc (by omega)
  all := fun c w hc hw => match c, hc with
    | 0, _ => List.all_eq_true.mp a0 w hw
    | 1, _ => List.all_eq_true.mp a1 w hw
    | 2, _ => List.all_eq_true.mp a2 w hw
    | 3, _ => List.all_eq_true.mp a3 w hw
    | 4, _ => List.all_eq_true.mp a4 w hw
    | 5, _ => List.all_eq_true.mp a5 w hw
    | n + 6, hc => absurd hc (by omega)
end Mine
end
section
open PySem PySem.W PyProof.Rows PySem.Calls PySem.Spec
open PySem.Builtin.Str PySem.StrLaws
set_option linter.unusedVariables false
set_option linter.unusedSimpArgs false
namespace Mine
/-! a letter's places in a text, in a shape that the kernel reckons quickly -/
noncomputable def occL (c : Nat) (l : List Nat) : Nat → Nat → List Nat :=
  @List.rec Nat (fun _ => Nat → Nat → List Nat) (fun _ _ => []) (fun a _ ih i k => bi (Nat.beq a c) (@Nat.rec (fun _ => List Nat) [] (fun k' _ => i :: ih (Nat.succ i) k') k) (ih (Nat.succ i) k)) l
theorem occL_nil (c i k : Nat) : occL c [] i k = [] := rfl
theorem occL_cons (c a : Nat) (l : List Nat) (i k : Nat) : occL c (a :: l) i k = if a = c then (match k with | 0 => [] | k' + 1 => i :: occL c l (i + 1) k') else occL c l (i + 1) k := by
  show bi (Nat.beq a c) _ _ = _
  rw [beqE, biE]
  split
  · cases k <;> rfl
  · rfl
theorem occL_zero (c : Nat) : ∀ (l : List Nat) (i : Nat), occL c l i 0 = []
  | [], _ => rfl
  | a :: l, i => by
    rw [occL_cons]
    split
    · rfl
    · exact occL_zero c l (i + 1)
theorem occ_run (x : Str) (c k : Nat) : ∀ (n i : Nat) (arr : Array Nat) (free : Nat), free ≤ i → i + n = x.length + 1 → arr.size ≤ k →
    (forIn (List.range' i n) (arr, free) (occBody x ⟨#[c]⟩ x.length k)).run.fst.toList = arr.toList ++ occL c (x.cps.toList.drop i) i (k - arr.size)
  | 0, i, arr, free, _, hn, _ => by
    have : x.cps.toList.drop i = [] := by
      apply List.drop_eq_nil_of_le
      show x.cps.toList.length ≤ i
      have e : x.cps.toList.length = x.length := by simp [Str.length]
      omega
    rw [this, occL_nil, List.append_nil]
    rfl
  | n + 1, i, arr, free, hf, hn, hk => by
    rw [List.range'_succ, List.forIn_cons]
    have el : x.cps.toList.length = x.length := by simp [Str.length]
    have hsub := subAt_one x c i
    unfold occBody
    by_cases hi : x.cps.toList[i]? = some c
    · have hlt : i < x.cps.toList.length := (List.getElem?_eq_some_iff.mp hi).1
      have hd : x.cps.toList.drop i = c :: x.cps.toList.drop (i + 1) := by
        rw [List.drop_eq_getElem_cons hlt, (List.getElem?_eq_some_iff.mp hi).2]
      rw [hd, occL_cons, if_pos rfl]
      obtain ⟨s1, s2⟩ := hsub.mpr hi
      by_cases hz : arr.size < k
      · rw [if_pos ⟨⟨⟨hz, hf⟩, s1⟩, s2⟩]
        have ih := occ_run x c k n (i + 1) (arr.push i) (i + (⟨#[c]⟩ : Str).length) (Nat.le_refl _) (by omega) (by rw [Array.size_push]; omega)
        rw [show k - arr.size = (k - arr.size - 1) + 1 by omega]
        rw [Array.size_push, Array.toList_push, List.append_assoc, List.singleton_append, show k - (arr.size + 1) = k - arr.size - 1 by omega] at ih
        exact ih
      · rw [if_neg (fun h => hz h.1.1.1)]
        have ih := occ_run x c k n (i + 1) arr free (by omega) (by omega) hk
        rw [show k - arr.size = 0 by omega, occL_zero] at ih
        rw [show k - arr.size = 0 by omega]
        exact ih
    · rw [if_neg (fun h => hi (hsub.mp ⟨h.1.2, h.2⟩))]
      have ih := occ_run x c k n (i + 1) arr free (by omega) (by omega) hk
      by_cases hlt : i < x.cps.toList.length
      · have hd : x.cps.toList.drop i = x.cps.toList[i] :: x.cps.toList.drop (i + 1) := List.drop_eq_getElem_cons hlt
        rw [hd, occL_cons, if_neg (fun e => hi (List.getElem?_eq_some_iff.mpr ⟨hlt, e⟩))]
        exact ih
      · rw [List.drop_eq_nil_of_le (by omega)] at ih ⊢
        rw [occL_nil] at ih ⊢
        exact ih
noncomputable def occQ (x : Str) (c lo k : Nat) : List Nat := occL c (x.cps.toList.drop lo) lo k
theorem occ_one (x : Str) (c lo k : Nat) (h : lo ≤ x.length) : occurrences x ⟨#[c]⟩ lo x.length k = occQ x c lo k := by
  rw [occ_eq]
  have := occ_run x c k (x.length + 1 - lo) lo #[] lo (Nat.le_refl _) (by omega) (Nat.zero_le _)
  simpa [occQ] using this
end Mine
end
section
open PySem PySem.W PyProof.Rows PySem.Calls PySem.Spec
open PySem.Builtin.Str PySem.StrLaws
set_option linter.unusedVariables false
set_option linter.unusedSimpArgs false
namespace Mine
theorem occ_one' (x : Str) (c lo k : Nat) : occurrences x ⟨#[c]⟩ lo x.length k = occQ x c lo k := by
  by_cases h : lo ≤ x.length
  · exact occ_one x c lo k h
  · rw [occ_eq]
    unfold occQ
    have e : x.cps.toList.length = x.length := by simp [Str.length]
    rw [show x.length + 1 - lo = 0 by omega, List.drop_eq_nil_of_le (by omega), occL_nil]
    rfl
theorem s40 : Str.ofString "(" = ⟨#[40]⟩ := by decide +kernel
theorem s41 : Str.ofString ")" = ⟨#[41]⟩ := by decide +kernel
theorem s38 : Str.ofString "&" = ⟨#[38]⟩ := by decide +kernel
theorem s34 : Str.ofString "\"" = ⟨#[34]⟩ := by decide +kernel
theorem s9 : Str.ofString "\t" = ⟨#[9]⟩ := by decide +kernel
theorem s10 : Str.ofString "\n" = ⟨#[10]⟩ := by decide +kernel
theorem s13 : Str.ofString "\r" = ⟨#[13]⟩ := by decide +kernel
theorem s60 : Str.ofString "<" = ⟨#[60]⟩ := by decide +kernel
theorem s62 : Str.ofString ">" = ⟨#[62]⟩ := by decide +kernel
noncomputable def findQ (x : Str) (c : Nat) : Int := match occQ x c 0 1 with | i :: _ => (i : Int) | [] => -1
theorem find_Q (x : Str) (c : Nat) : Txt.find x ⟨#[c]⟩ = findQ x c := by unfold Txt.find findQ; rw [occ_one']; rfl
noncomputable def find3Q (x : Str) (c : Nat) (i : Int) : Int := match occQ x c (fromIndex x.length i) 1 with | k :: _ => (k : Int) | [] => -1
theorem find3_Q (x : Str) (c : Nat) (i : Int) : Txt.find3 x ⟨#[c]⟩ i = find3Q x c i := by unfold Txt.find3 find3Q; rw [occ_one']; rfl
noncomputable def splitQ (x : Str) (c : Nat) : List Str :=
  bi (Nat.ble 256 c) (Txt.split x ⟨#[c]⟩) (bi (Nat.beq x.length 0) [x] (
    let o := occQ x c 0 (Nat.succ x.length)
    bi o.isEmpty [x] (partsBetween x o 1)))
theorem strKind_pos (x : Str) : ¬ Builtin.Str.strKind x < 1 := by unfold Builtin.Str.strKind; split <;> (try split) <;> omega
theorem split_Q (x : Str) (c : Nat) : Txt.split x ⟨#[c]⟩ = splitQ x c := by
  unfold splitQ
  simp only [bleE, beqE, biE]
  split
  · rfl
  · rename_i h
    unfold Txt.split
    have hk : Builtin.Str.strKind ⟨#[c]⟩ = 1 := by unfold Builtin.Str.strKind; rw [if_pos (by simp; omega)]
    rw [hk, decide_eq_false (strKind_pos x), Bool.or_false, occ_one']
    show (if decide (x.length < 1) = true then [x] else _) = _
    by_cases h0 : x.length = 0
    · rw [if_pos h0, if_pos (by rw [h0]; rfl)]
    · rw [if_neg h0, if_neg (by simp; omega)]
      cases (occQ x c 0 (x.length + 1)).isEmpty <;> rfl
noncomputable def itemQ (x : Str) (i : Int) : Nat := (Txt.charAt x i).getD 0
theorem item_Q (x : Str) (i : Int) : Txt.item x i = ⟨#[itemQ x i]⟩ := rfl
noncomputable def cutQ (x : Str) : Str := Txt.slice x (some (findQ x 40 + 1)) (some (find3Q x 41 (findQ x 40 + 1)))
noncomputable def headQ (x : Str) : Bool := pHead x (findQ x 40) (find3Q x 41 (findQ x 40 + 1)) ⟨#[itemQ x (findQ x 40 + 1)]⟩ (cutQ x)
noncomputable def okPQ (x : Str) (k : Int) : Bool := headQ x && pParts k (splitQ (cutQ x) (itemQ x (findQ x 40 + 1)))
theorem okP_Q (x : Str) (k : Int) : pOkB x k = okPQ x k := by
  unfold pOkB okPQ headQ cutQ
  rw [s40, s41, find_Q, find3_Q, item_Q, split_Q]
noncomputable def badPQ (x : Str) : Bool := headQ x && decide ((splitQ (cutQ x) (itemQ x (findQ x 40 + 1))).length ≠ 5 ∧ (splitQ (cutQ x) (itemQ x (findQ x 40 + 1))).length ≤ 1000)
theorem badP_Q (x : Str) : pBadB x = badPQ x := by
  unfold pBadB badPQ headQ cutQ
  rw [s40, s41, find_Q, find3_Q, item_Q, split_Q]
noncomputable def replyL (w b n : List Nat) (m : Nat) : Str := ⟨(50 :: 50 :: 57 :: 32 :: (w ++ 32 :: 40 :: m :: (w ++ m :: (b ++ m :: (n ++ [m, 41]))))).toArray⟩
theorem s229 : Str.ofString "229 " = ⟨#[50, 50, 57, 32]⟩ := by decide +kernel
theorem sPar : Str.ofString " (" = ⟨#[32, 40]⟩ := by decide +kernel
theorem app_is (a b : List Nat) : (⟨a.toArray⟩ : Str) ++ ⟨b.toArray⟩ = ⟨(a ++ b).toArray⟩ := by
  show Str.mk (a.toArray ++ b.toArray) = _
  rw [List.append_toArray]
theorem reply_Q (cd ce : List Int) (ns : Str) (m : Nat) : replyOf (KStt.txt cd) (KStt.txt ce) ns m = replyL (cd.map Int.toNat) (ce.map Int.toNat) ns.cps.toList m := by
  have en : ns = ⟨ns.cps.toList.toArray⟩ := by cases ns; simp
  generalize ns.cps.toList = n at en
  subst en
  unfold replyOf KStt.txt replyL
  rw [s229, sPar, s41]
  show (⟨[50, 50, 57, 32].toArray⟩ : Str) ++ ⟨(cd.map Int.toNat).toArray⟩ ++ ⟨[32, 40].toArray⟩ ++ ⟨[m].toArray⟩ ++ ⟨(cd.map Int.toNat).toArray⟩ ++ ⟨[m].toArray⟩ ++ ⟨(ce.map Int.toNat).toArray⟩ ++ ⟨[m].toArray⟩ ++ ⟨n.toArray⟩ ++ ⟨[m].toArray⟩ ++ ⟨[41].toArray⟩ = _
  simp only [app_is]
  congr 2
  simp
noncomputable def mk3Q (cd : List Int) : Bool :=
  let w := cd.map Int.toNat
  let b := cd.reverse.map Int.toNat
  let n := (fN cd).cps.toList
  let P := fP cd
  let Q := fQ cd
  let k := fK cd
  okPQ (replyL w b n 61) k && (if P = 1 then okPQ (replyL w b n 62) k else badPQ (replyL w b n 62)) && (if Q - P = 1 then okPQ (replyL w b n 60) k else badPQ (replyL w b n 60))
theorem way3_Q (cd : List Int) : wayOk3 cd = mk3Q cd := by
  unfold wayOk3 markB mk3Q
  simp only [reply_Q, okP_Q, badP_Q]
noncomputable def replQ (x : Str) (c : Nat) (z : Str) : Str :=
  let o := occQ x c 0 (x.length + 1)
  if (o.isEmpty || (1 == 0 && z.length == 0)) = true then x else glued z (partsBetween x o 1)
theorem repl_Q (x : Str) (c : Nat) (z : Str) : Txt.replace x ⟨#[c]⟩ z = replQ x c z := by unfold Txt.replace replQ; rw [occ_one']; rfl
noncomputable def lackQ (x : Str) (c : Nat) : Bool := (occQ x c 0 1).isEmpty
theorem lack_Q (x : Str) (c : Nat) : lacks x ⟨#[c]⟩ = (lackQ x c = true) := by unfold lacks lackQ; rw [occ_one']
noncomputable def htmlQ (x : Str) : Str := if lackQ x 62 = true then x else replQ x 62 (Str.ofString "&gt;")
theorem html_Q (x : Str) : htmlOf x = htmlQ x := by unfold htmlOf htmlQ lackQ; rw [s62, occ_one', repl_Q]
noncomputable def c14nQ (x : Str) : Str := if lackQ x 60 = true then x else replQ x 60 (Str.ofString "&lt;")
theorem c14n_Q (x : Str) : c14nOf x = c14nQ x := by unfold c14nOf c14nQ lackQ; rw [s60, occ_one', repl_Q]
noncomputable def mk2Q (cd : List Int) : Bool :=
  let x := KStt.txt cd
  let xc := c14nQ x
  let xh := htmlQ x
  let k := fK cd
  let q := fQ cd
  lackQ x 38 && lackQ xc 34 && lackQ xc 9 && lackQ xc 10 && lackQ xc 13 && lackQ xh 34 && decide (k.natAbs < 2 ^ 64 ∧ (fN cd).length ≤ 30) && decide (xc.length ≤ 1000 ∧ xh.length ≤ 1000) &&
  decide (3 * k = q * ((xc.length : Int) - (xh.length : Int) - 3) + 3 * (fP cd + fR cd))
theorem way2_Q {cd : List Int} (h : mk2Q cd = true) : wayOk2 cd = true := by
  unfold mk2Q at h
  simp only [Bool.and_eq_true, decide_eq_true_eq] at h
  unfold wayOk2
  simp only [Bool.and_eq_true, decide_eq_true_eq, XCof, XHof, s38, s34, s9, s10, s13, lack_Q, html_Q, c14n_Q]
  exact h
end Mine
end
section
open PySem PySem.W PyProof.Rows PySem.Calls PySem.Spec
namespace Mine
set_option maxRecDepth 100000
noncomputable abbrev wayOk (cd : List Int) : Bool := wayOk1 cd && mk2Q cd && mk3Q cd
theorem w0 : ([[], [60], [62], [60,60]] : List (List Int)).all wayOk = true := by decide +kernel
theorem w1 : ([[62,60], [60,62], [62,62], [60,60,60]] : List (List Int)).all wayOk = true := by decide +kernel
theorem w2 : ([[62,60,60], [60,62,60], [62,62,60], [60,60,62]] : List (List Int)).all wayOk = true := by decide +kernel
theorem w3 : ([[62,60,62], [60,62,62], [62,62,62], [60,60,60,60]] : List (List Int)).all wayOk = true := by decide +kernel
theorem w4 : ([[62,60,60,60], [60,62,60,60], [62,62,60,60], [60,60,62,60]] : List (List Int)).all wayOk = true := by decide +kernel
theorem w5 : ([[62,60,62,60], [60,62,62,60], [62,62,62,60], [60,60,60,62]] : List (List Int)).all wayOk = true := by decide +kernel
theorem w6 : ([[62,60,60,62], [60,62,60,62], [62,62,60,62], [60,60,62,62]] : List (List Int)).all wayOk = true := by decide +kernel
theorem w7 : ([[62,60,62,62], [60,62,62,62], [62,62,62,62], [60,60,60,60,60]] : List (List Int)).all wayOk = true := by decide +kernel
theorem w8 : ([[62,60,60,60,60], [60,62,60,60,60], [62,62,60,60,60], [60,60,62,60,60]] : List (List Int)).all wayOk = true := by decide +kernel
theorem w9 : ([[62,60,62,60,60], [60,62,62,60,60], [62,62,62,60,60], [60,60,60,62,60]] : List (List Int)).all wayOk = true := by decide +kernel
theorem w10 : ([[62,60,60,62,60], [60,62,60,62,60], [62,62,60,62,60], [60,60,62,62,60]] : List (List Int)).all wayOk = true := by decide +kernel
theorem w11 : ([[62,60,62,62,60], [60,62,62,62,60], [62,62,62,62,60], [60,60,60,60,62]] : List (List Int)).all wayOk = true := by decide +kernel
theorem w12 : ([[62,60,60,60,62], [60,62,60,60,62], [62,62,60,60,62], [60,60,62,60,62]] : List (List Int)).all wayOk = true := by decide +kernel
theorem w13 : ([[62,60,62,60,62], [60,62,62,60,62], [62,62,62,60,62], [60,60,60,62,62]] : List (List Int)).all wayOk = true := by decide +kernel
theorem w14 : ([[62,60,60,62,62], [60,62,60,62,62], [62,62,60,62,62], [60,60,62,62,62]] : List (List Int)).all wayOk = true := by decide +kernel
theorem w15 : ([[62,60,62,62,62], [60,62,62,62,62], [62,62,62,62,62], [60,60,60,60,60,60]] : List (List Int)).all wayOk = true := by decide +kernel
theorem w16 : ([[62,60,60,60,60,60], [60,62,60,60,60,60], [62,62,60,60,60,60], [60,60,62,60,60,60]] : List (List Int)).all wayOk = true := by decide +kernel
theorem w17 : ([[62,60,62,60,60,60], [60,62,62,60,60,60], [62,62,62,60,60,60], [60,60,60,62,60,60]] : List (List Int)).all wayOk = true := by decide +kernel
theorem w18 : ([[62,60,60,62,60,60], [60,62,60,62,60,60], [62,62,60,62,60,60], [60,60,62,62,60,60]] : List (List Int)).all wayOk = true := by decide +kernel
theorem w19 : ([[62,60,62,62,60,60], [60,62,62,62,60,60], [62,62,62,62,60,60], [60,60,60,60,62,60]] : List (List Int)).all wayOk = true := by decide +kernel
theorem w20 : ([[62,60,60,60,62,60], [60,62,60,60,62,60], [62,62,60,60,62,60], [60,60,62,60,62,60]] : List (List Int)).all wayOk = true := by decide +kernel
theorem w21 : ([[62,60,62,60,62,60], [60,62,62,60,62,60], [62,62,62,60,62,60], [60,60,60,62,62,60]] : List (List Int)).all wayOk = true := by decide +kernel
theorem w22 : ([[62,60,60,62,62,60], [60,62,60,62,62,60], [62,62,60,62,62,60], [60,60,62,62,62,60]] : List (List Int)).all wayOk = true := by decide +kernel
theorem w23 : ([[62,60,62,62,62,60], [60,62,62,62,62,60], [62,62,62,62,62,60], [60,60,60,60,60,62]] : List (List Int)).all wayOk = true := by decide +kernel
theorem w24 : ([[62,60,60,60,60,62], [60,62,60,60,60,62], [62,62,60,60,60,62], [60,60,62,60,60,62]] : List (List Int)).all wayOk = true := by decide +kernel
theorem w25 : ([[62,60,62,60,60,62], [60,62,62,60,60,62], [62,62,62,60,60,62], [60,60,60,62,60,62]] : List (List Int)).all wayOk = true := by decide +kernel
theorem w26 : ([[62,60,60,62,60,62], [60,62,60,62,60,62], [62,62,60,62,60,62], [60,60,62,62,60,62]] : List (List Int)).all wayOk = true := by decide +kernel
theorem w27 : ([[62,60,62,62,60,62], [60,62,62,62,60,62], [62,62,62,62,60,62], [60,60,60,60,62,62]] : List (List Int)).all wayOk = true := by decide +kernel
theorem w28 : ([[62,60,60,60,62,62], [60,62,60,60,62,62], [62,62,60,60,62,62], [60,60,62,60,62,62]] : List (List Int)).all wayOk = true := by decide +kernel
theorem w29 : ([[62,60,62,60,62,62], [60,62,62,60,62,62], [62,62,62,60,62,62], [60,60,60,62,62,62]] : List (List Int)).all wayOk = true := by decide +kernel
theorem w30 : ([[62,60,60,62,62,62], [60,62,60,62,62,62], [62,62,60,62,62,62], [60,60,62,62,62,62]] : List (List Int)).all wayOk = true := by decide +kernel
theorem w31 : ([[62,60,62,62,62,62], [60,62,62,62,62,62], [62,62,62,62,62,62]] : List (List Int)).all wayOk = true := by decide +kernel
theorem ways_parts : allWays = [[], [60], [62], [60,60]] ++ ([[62,60], [60,62], [62,62], [60,60,60]] ++ ([[62,60,60], [60,62,60], [62,62,60], [60,60,62]] ++ ([[62,60,62], [60,62,62], [62,62,62], [60,60,60,60]] ++ ([[62,60,60,60], [60,62,60,60], [62,62,60,60], [60,60,62,60]] ++ ([[62,60,62,60], [60,62,62,60], [62,62,62,60], [60,60,60,62]] ++ ([[62,60,60,62], [60,62,60,62], [62,62,60,62], [60,60,62,62]] ++ ([[62,60,62,62], [60,62,62,62], [62,62,62,62], [60,60,60,60,60]] ++ ([[62,60,60,60,60], [60,62,60,60,60], [62,62,60,60,60], [60,60,62,60,60]] ++ ([[62,60,62,60,60], [60,62,62,60,60], [62,62,62,60,60], [60,60,60,62,60]] ++ ([[62,60,60,62,60], [60,62,60,62,60], [62,62,60,62,60], [60,60,62,62,60]] ++ ([[62,60,62,62,60], [60,62,62,62,60], [62,62,62,62,60], [60,60,60,60,62]] ++ ([[62,60,60,60,62], [60,62,60,60,62], [62,62,60,60,62], [60,60,62,60,62]] ++ ([[62,60,62,60,62], [60,62,62,60,62], [62,62,62,60,62], [60,60,60,62,62]] ++ ([[62,60,60,62,62], [60,62,60,62,62], [62,62,60,62,62], [60,60,62,62,62]] ++ ([[62,60,62,62,62], [60,62,62,62,62], [62,62,62,62,62], [60,60,60,60,60,60]] ++ ([[62,60,60,60,60,60], [60,62,60,60,60,60], [62,62,60,60,60,60], [60,60,62,60,60,60]] ++ ([[62,60,62,60,60,60], [60,62,62,60,60,60], [62,62,62,60,60,60], [60,60,60,62,60,60]] ++ ([[62,60,60,62,60,60], [60,62,60,62,60,60], [62,62,60,62,60,60], [60,60,62,62,60,60]] ++ ([[62,60,62,62,60,60], [60,62,62,62,60,60], [62,62,62,62,60,60], [60,60,60,60,62,60]] ++ ([[62,60,60,60,62,60], [60,62,60,60,62,60], [62,62,60,60,62,60], [60,60,62,60,62,60]] ++ ([[62,60,62,60,62,60], [60,62,62,60,62,60], [62,62,62,60,62,60], [60,60,60,62,62,60]] ++ ([[62,60,60,62,62,60], [60,62,60,62,62,60], [62,62,60,62,62,60], [60,60,62,62,62,60]] ++ ([[62,60,62,62,62,60], [60,62,62,62,62,60], [62,62,62,62,62,60], [60,60,60,60,60,62]] ++ ([[62,60,60,60,60,62], [60,62,60,60,60,62], [62,62,60,60,60,62], [60,60,62,60,60,62]] ++ ([[62,60,62,60,60,62], [60,62,62,60,60,62], [62,62,62,60,60,62], [60,60,60,62,60,62]] ++ ([[62,60,60,62,60,62], [60,62,60,62,60,62], [62,62,60,62,60,62], [60,60,62,62,60,62]] ++ ([[62,60,62,62,60,62], [60,62,62,62,60,62], [62,62,62,62,60,62], [60,60,60,60,62,62]] ++ ([[62,60,60,60,62,62], [60,62,60,60,62,62], [62,62,60,60,62,62], [60,60,62,60,62,62]] ++ ([[62,60,62,60,62,62], [60,62,62,60,62,62], [62,62,62,60,62,62], [60,60,60,62,62,62]] ++ ([[62,60,60,62,62,62], [60,62,60,62,62,62], [62,62,60,62,62,62], [60,60,62,62,62,62]] ++ ([[62,60,62,62,62,62], [60,62,62,62,62,62], [62,62,62,62,62,62]]))))))))))))))))))))))))))))))) := by decide +kernel
theorem ways_ok : allWays.all wayOk = true := by
  rw [ways_parts]
  rw [List.all_append, w0, Bool.true_and]
  rw [List.all_append, w1, Bool.true_and]
  rw [List.all_append, w2, Bool.true_and]
  rw [List.all_append, w3, Bool.true_and]
  rw [List.all_append, w4, Bool.true_and]
  rw [List.all_append, w5, Bool.true_and]
  rw [List.all_append, w6, Bool.true_and]
  rw [List.all_append, w7, Bool.true_and]
  rw [List.all_append, w8, Bool.true_and]
  rw [List.all_append, w9, Bool.true_and]
  rw [List.all_append, w10, Bool.true_and]
  rw [List.all_append, w11, Bool.true_and]
  rw [List.all_append, w12, Bool.true_and]
  rw [List.all_append, w13, Bool.true_and]
  rw [List.all_append, w14, Bool.true_and]
  rw [List.all_append, w15, Bool.true_and]
  rw [List.all_append, w16, Bool.true_and]
  rw [List.all_append, w17, Bool.true_and]
  rw [List.all_append, w18, Bool.true_and]
  rw [List.all_append, w19, Bool.true_and]
  rw [List.all_append, w20, Bool.true_and]
  rw [List.all_append, w21, Bool.true_and]
  rw [List.all_append, w22, Bool.true_and]
  rw [List.all_append, w23, Bool.true_and]
  rw [List.all_append, w24, Bool.true_and]
  rw [List.all_append, w25, Bool.true_and]
  rw [List.all_append, w26, Bool.true_and]
  rw [List.all_append, w27, Bool.true_and]
  rw [List.all_append, w28, Bool.true_and]
  rw [List.all_append, w29, Bool.true_and]
  rw [List.all_append, w30, Bool.true_and]
  exact w31
theorem way_all : wayAll := fun cd h => by
  have k := List.all_eq_true.mp ways_ok cd h
  simp only [Bool.and_eq_true] at k
  exact ⟨k.1.1, way2_Q k.1.2, (way3_Q cd).trans k.2⟩
end Mine
end
theorem PySem.Challenge.cw_wu0055_01_holds : PySem.Challenge.rw_wu0055_01.Holds := by
  exact Mine.law_holds Mine.trees.toldAll Mine.way_all Mine.trees.ordAll
