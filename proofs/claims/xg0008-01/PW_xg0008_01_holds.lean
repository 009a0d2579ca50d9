import PyProof.Rows.All
import Wide.All
import OpenK.AllK
import Wide.FinOn
import Flt.RightOps
import Flt.RightMore
import Lean
import PySem.Challenge.RW_xg0008_01
set_option Elab.async false

section
open PySem PySem.W PyProof.Rows
set_option Elab.async false
namespace Mine
set_option maxRecDepth 100000 in
set_option maxHeartbeats 8000000 in
open_top hd for PySem.Challenge.rw_xg0008_01
end Mine
end

section
open PySem PySem.Spec PySem.Calls PySem.W PyProof.Rows
set_option Elab.async false
set_option maxRecDepth 100000
namespace Mine

set_option linter.unusedVariables false

/-- a call of a def that never raises: its body is entered over the heap as it stands -/
theorem enter {K : Frag} {prog : Program} {w : World} {A : Around} {R : Result → Shared → Prop} {s : Shared} {p : Program} {loose : List Str} {mean : ExcName → Option Value} {mg mb : Str → Option Value}
    {name qual : Str} {params : Arguments} {body : List Stmt} {scope : Scope} {dV kV doc pm cdv ct oc : Value} {an od : Option Addr} {osl : Array (Option Value)} {f : Addr} {args : Args} {binds : List (Str × Value)}
    (X : K.In s.heap) (T : Top p loose mean mg mb s.heap)
    (ho : K.lookup f = some ⟨oc, od, .func (fnOf name qual params body scope dV kV doc pm an cdv ct), osl⟩) (hcd : codeIn K cdv qual = true) (hroom : A.depth < recursionLimit)
    (hbind : BindsTo s (fnOf name qual params body scope dV kV doc pm an cdv ct) args binds) (hloc : ∀ y ∈ binds, scope.names.lookup y.1 = some .local)
    (h : ∀ h₁, Fr s.heap s.heap.objs.size h₁ (fun y => binds.reverse.lookup y) → News s.heap s.heap.objs.size h₁ [] →
      wpAny (model prog w) (A.deeper (envOf qual scope s.heap.objs.size f cdv)) (execs body (envOf qual scope s.heap.objs.size f cdv))
        (fun fl s' => R (.ok (.ret (match fl with | .ret v => v | _ => .none))) s') (fun _ _ => False)
        { s with heap := h₁, toks := s.toks + binds.length })
    (hco : scope.isCoroutine = false) (hgen : scope.isGenerator = false) (hk : scope.kind = .function)
    (hcell : ∀ x ∈ scope.names, x.2 ≠ .cell) : codeAny (model prog w) A (.call (.ref f) args) R s := by
  refine codeAny_call_def (fd := fnOf name qual params body scope dV kV doc pm an cdv ct) (body := body) (binds := binds) hroom (X _ _ ho) rfl T.nolimit (codeRec_of X hcd) rfl hbind hcell hloc (fun h₁ hns hk₁ => ?_) hco hgen hk
  exact wpAny_mono (h h₁ ⟨hns, hk₁, Nat.le_refl _⟩ News.nil) (fun _ _ y => y) fun _ _ y => y.elim


def vF (m1 m2 hue : UInt64) : UInt64 :=
  if (Float64.cmp (Float64.divmod hue 4607182418800017408).2 4595172819793696085 == some Ordering.lt) = true then
    Float64.add m1 (Float64.mul (Float64.mul (Float64.sub m2 m1) (Float64.divmod hue 4607182418800017408).2) 4618441417868443648)
  else if (Float64.cmp (Float64.divmod hue 4607182418800017408).2 4602678819172646912 == some Ordering.lt) = true then m2
  else if (Float64.cmp (Float64.divmod hue 4607182418800017408).2 4604180019048437077 == some Ordering.lt) = true then
    Float64.add m1 (Float64.mul (Float64.mul (Float64.sub m2 m1) (Float64.sub 4604180019048437077 (Float64.divmod hue 4607182418800017408).2)) 4618441417868443648)
  else m1

theorem ret_float {R : Result → Shared → Prop} {s : Shared} {x y : UInt64} {t : Tok} {h' : Heap} {tk' : Nat}
    (hret : ∀ (t : Tok) (h' : Heap) (tk' : Nat), (∀ b o, s.heap.get? b = some o → h'.get? b = some o) → R (.ok (.ret (.float x t))) { s with heap := h', toks := tk' })
    (hk : ∀ b o, s.heap.get? b = some o → h'.get? b = some o) (e : x = y) : R (.ok (.ret (.float y t))) { s with heap := h', toks := tk' } := by
  subst e
  exact hret t h' tk' hk

local macro_rules | `(tactic| walk_at "binaryOp Mod float float") => `(tactic| (k_here; (refine AutoFloatOps.mod_1 (by decide +kernel) ?_); (try dsimp only [Made.post])))

theorem v_call : ∀ (w : World) {A : Around} {R : Result → Shared → Prop} {s : Shared} {loose : List Str} {mean : ExcName → Option Value} {mg mb : Str → Option Value}
    (X : (hd.heap_39 w.params).In s.heap) (T : Top hd.view_39 loose mean mg mb s.heap) (hroom : A.depth < recursionLimit) (m1 m2 hue : UInt64) (t1 t2 t3 : Tok)
    (hret : ∀ (t : Tok) (h' : Heap) (tk' : Nat), (∀ b o, s.heap.get? b = some o → h'.get? b = some o) → R (.ok (.ret (.float (vF m1 m2 hue) t))) { s with heap := h', toks := tk' }),
    codeAny (model PySem.Challenge.rw_xg0008_01.row.prog w) A (.call (.ref 52) ⟨[.float m1 t1, .float m2 t2, .float hue t3], []⟩) R s := by
  w_top off
  k_fill
  intro w A R s loose mean mg mb X T hroom m1 m2 hue t1 t2 t3 hret
  k_dflt (refine' enter X T ?k6 ?k7 hroom ?k9 ?kB ?_ ?c2 ?c3 ?c4 ?c5; (case k6 => k_is); (case k7 => k_is); (case k9 => exact BindsTo.of_eq rfl); (case c5 => decide); (case kB => exact locs rfl); (case c2 => exact rfl); (case c3 => exact rfl); (case c4 => exact rfl))
  intro h₁ F N
  try dsimp only
  k_fold
  k_steps
  all_goals (refine ret_float hret (Fr.keep (by assumption)) ?_; unfold vF; simp only [*, if_true, if_false, Bool.false_eq_true]; done)
end Mine
end

section
open PySem PySem.Spec PySem.Calls PySem.W PyProof.Rows
set_option Elab.async false
set_option maxRecDepth 100000
set_option linter.unusedVariables false
namespace Mine

def yF (r g b : UInt64) : UInt64 := Float64.add (Float64.add (Float64.mul 0x3fd3333333333333 r) (Float64.mul 0x3fe2e147ae147ae1 g)) (Float64.mul 0x3fbc28f5c28f5c29 b)
def iF (r g b : UInt64) : UInt64 := Float64.sub (Float64.mul 0x3fe7ae147ae147ae (Float64.sub r (yF r g b))) (Float64.mul 0x3fd147ae147ae148 (Float64.sub b (yF r g b)))
def qF (r g b : UInt64) : UInt64 := Float64.add (Float64.mul 0x3fdeb851eb851eb8 (Float64.sub r (yF r g b))) (Float64.mul 0x3fda3d70a3d70a3d (Float64.sub b (yF r g b)))

abbrev tupO (vs : List Value) : Obj := { cls := .type "tuple", data := .seq vs.toArray }
/-- what a call that makes one tuple of three floats hands back -/
abbrev Ret3 (R : Result → Shared → Prop) (s : Shared) (x y z : UInt64) : Prop :=
  ∀ (a : Addr) (t1 t2 t3 : Tok) (h' : Heap) (tk' : Nat), (∀ b o, s.heap.get? b = some o → h'.get? b = some o) → h'.get? a = some (tupO [.float x t1, .float y t2, .float z t3]) → s.heap.get? a = none →
    R (.ok (.ret (.ref a))) { s with heap := h', toks := tk' }

theorem ret3 {R : Result → Shared → Prop} {s : Shared} {x y z x' y' z' : UInt64} {t1 t2 t3 : Tok} {a : Addr} {h' : Heap} {tk' : Nat} {L : Addr} {m : Str → Option Value} {news : List (Addr × Obj)}
    (hret : Ret3 R s x y z) (F : Fr s.heap L h' m) (N : News s.heap L h' news) (hm : (a, tupO [.float x' t1, .float y' t2, .float z' t3]) ∈ news) (e1 : x = x') (e2 : y = y') (e3 : z = z') :
    R (.ok (.ret (.ref a))) { s with heap := h', toks := tk' } := by
  subst e1; subst e2; subst e3
  exact hret a t1 t2 t3 h' tk' F.keep (N _ hm).1 (N _ hm).2.2

theorem yiq_call : ∀ (w : World) {A : Around} {R : Result → Shared → Prop} {s : Shared} {loose : List Str} {mean : ExcName → Option Value} {mg mb : Str → Option Value}
    (X : (hd.heap_39 w.params).In s.heap) (T : Top hd.view_39 loose mean mg mb s.heap) (hroom : A.depth < recursionLimit) (r g b : UInt64) (t1 t2 t3 : Tok)
    (hret : Ret3 R s (yF r g b) (iF r g b) (qF r g b)),
    codeAny (model PySem.Challenge.rw_xg0008_01.row.prog w) A (.call (.ref 38) ⟨[.float r t1, .float g t2, .float b t3], []⟩) R s := by
  w_top off
  k_fill
  intro w A R s loose mean mg mb X T hroom r g b t1 t2 t3 hret
  k_dflt (refine' enter X T ?k6 ?k7 hroom ?k9 ?kB ?_ ?c2 ?c3 ?c4 ?c5; (case k6 => k_is); (case k7 => k_is); (case k9 => exact BindsTo.of_eq rfl); (case c5 => decide); (case kB => exact locs rfl); (case c2 => exact rfl); (case c3 => exact rfl); (case c4 => exact rfl))
  intro h₁ F N
  try dsimp only
  k_fold
  k_steps
  all_goals ((with_reducible rename Fr _ _ _ _ => kF); (with_reducible rename News _ _ _ _ => kN); (refine ret3 (R := R) (s := s) hret kF kN (by k_mem) ?_ ?_ ?_ <;> rfl))

def m2F (l s : UInt64) : UInt64 :=
  if (Float64.cmp l 0x3fe0000000000000 == some Ordering.lt || Float64.cmp l 0x3fe0000000000000 == some Ordering.eq) = true then Float64.mul l (Float64.add 0x3ff0000000000000 s)
  else Float64.sub (Float64.add l s) (Float64.mul l s)
def m1F (l s : UInt64) : UInt64 := Float64.sub (Float64.mul 0x4000000000000000 l) (m2F l s)

theorem Top_keeps {p : Program} {loose : List Str} {mean : ExcName → Option Value} {mg mb : Str → Option Value} {h₀ h : Heap} {L : Addr} {m : Str → Option Value} (T : Top p loose mean mg mb h₀) (F : Fr h₀ L h m) : Top p loose mean mg mb h := T.keeps F.keep

theorem depth_room {A : Around} {env : Env} {n : Nat} (h : A.depth + (n + 1) < recursionLimit) : (A.deeper env).depth + n < recursionLimit := by
  rw [depth_deeper]; omega

local macro_rules | `(tactic| walk_at "call ref") => `(tactic| (k_here; (with_reducible show wpAny _ _ (call (Value.ref 52) _) _ _ _); (with_reducible rename Fr _ _ _ _ => kF); (with_reducible rename News _ _ _ _ => kN); k_dflt (refine' wpAny_call (v_call _ (Frag.In.keeps (by assumption) kF.keep) (Top_keeps (by assumption) kF) (depth_room (n := 0) (by assumption)) _ _ _ _ _ _ ?_)); intro t9 h9 tk9 k9; (have F9 := Fr.after kF k9); (have N9 := News.grown kN k9); (try dsimp only); (try k_sweep)))

theorem hls_call : ∀ (w : World) {A : Around} {R : Result → Shared → Prop} {s : Shared} {loose : List Str} {mean : ExcName → Option Value} {mg mb : Str → Option Value}
    (X : (hd.heap_39 w.params).In s.heap) (T : Top hd.view_39 loose mean mg mb s.heap) (hroom : A.depth + 1 < recursionLimit) (h l p : UInt64) (t1 t2 t3 : Tok) (hp : (Float64.cmp p 0x0000000000000000 == some Ordering.eq) = false)
    (hret : Ret3 R s (vF (m1F l p) (m2F l p) (Float64.add h 4599676419421066581)) (vF (m1F l p) (m2F l p) h) (vF (m1F l p) (m2F l p) (Float64.sub h 4599676419421066581))),
    codeAny (model PySem.Challenge.rw_xg0008_01.row.prog w) A (.call (.ref 45) ⟨[.float h t1, .float l t2, .float p t3], []⟩) R s := by
  k_fill
  intro w A R s loose mean mg mb X T hroom h l p t1 t2 t3 hp hret
  k_dflt (refine' enter X T ?k6 ?k7 (Nat.lt_of_le_of_lt (Nat.le_add_right _ 1) hroom) ?k9 ?kB ?_ ?c2 ?c3 ?c4 ?c5; (case k6 => k_is); (case k7 => k_is); (case k9 => exact BindsTo.of_eq rfl); (case c5 => decide); (case kB => exact locs rfl); (case c2 => exact rfl); (case c3 => exact rfl); (case c4 => exact rfl))
  intro h₁ F N
  try dsimp only
  k_fold
  k_steps
  all_goals ((try simp only [qk]); (with_reducible rename Fr _ _ _ _ => kF); (with_reducible rename News _ _ _ _ => kN); (refine ret3 (R := R) (s := s) hret kF kN (by k_mem) ?_ ?_ ?_ <;> (unfold m1F m2F; simp only [*, if_true, if_false, Bool.false_eq_true]; done)))
end Mine
end

section
open PySem PySem.Spec PySem.Calls PySem.W PyProof.Rows
set_option Elab.async false
set_option maxRecDepth 100000
set_option linter.unusedVariables false
namespace Mine

def pullZ (e p : Int) : Int :=
  if e % 2 = 0 then 0
  else if e % 3 = 0 then min (p % 5040) (-p % 5040) - 1260
  else max (-420) (min 420 (1260 - min (p % 5040) (-p % 5040)))

abbrev RetI (R : Result → Shared → Prop) (s : Shared) (x : Int) : Prop :=
  ∀ (t : Tok) (h' : Heap) (tk' : Nat), (∀ b o, s.heap.get? b = some o → h'.get? b = some o) → R (.ok (.ret (.int x t))) { s with heap := h', toks := tk' }
theorem ret_int {R : Result → Shared → Prop} {s : Shared} {x y : Int} {t : Tok} {h' : Heap} {tk' : Nat} (hret : RetI R s x)
    (hk : ∀ b o, s.heap.get? b = some o → h'.get? b = some o) (e : x = y) : R (.ok (.ret (.int y t))) { s with heap := h', toks := tk' } := by
  subst e
  exact hret t h' tk' hk

theorem pull_call : ∀ (w : World) {A : Around} {R : Result → Shared → Prop} {s : Shared} {loose : List Str} {mean : ExcName → Option Value} {mg mb : Str → Option Value}
    (X : (hd.heap_39 w.params).In s.heap) (T : Top hd.view_39 loose mean mg mb s.heap) (hA : A.handled = none) (hroom : A.depth < recursionLimit) (e p : Int) (t1 t2 : Tok)
    (hret : RetI R s (pullZ e p)),
    codeAny (model PySem.Challenge.rw_xg0008_01.row.prog w) A (.call (.ref 91) ⟨[.int e t1, .int p t2], []⟩) R s := by
  w_top off
  k_fill
  intro w A R s loose mean mg mb X T hA hroom e p t1 t2 hret
  obtain ⟨hn, dp, fr, gd, un⟩ := A
  dsimp only at hA hroom
  subst hA
  k_dflt (refine' enter X T ?k6 ?k7 hroom ?k9 ?kB ?_ ?c2 ?c3 ?c4 ?c5; (case k6 => k_is); (case k7 => k_is); (case k9 => exact BindsTo.of_eq rfl); (case c5 => decide); (case kB => exact locs rfl); (case c2 => exact rfl); (case c3 => exact rfl); (case c4 => exact rfl))
  intro h₁ F N
  try dsimp only
  k_fold
  k_steps
  all_goals (
    refine ret_int (R := R) (s := s) hret (Fr.keep (by assumption)) ?_
    simp only [Int.fmod_eq_emod_of_nonneg _ (show (0 : Int) ≤ 2 by decide), Int.fmod_eq_emod_of_nonneg _ (show (0 : Int) ≤ 3 by decide), Int.fmod_eq_emod_of_nonneg _ (show (0 : Int) ≤ 5040 by decide)] at *
    unfold pullZ
    (repeat' split) <;> omega)
end Mine
end

section
open PySem PySem.Spec PySem.Calls PySem.W PyProof.Rows PySem.Builtin PySem.Builtin.Re
set_option Elab.async false
set_option maxRecDepth 100000
set_option linter.unusedVariables false
namespace Mine

theorem runFor_done (n : Nat) (m : Sre.M) (h : m.outcome.isSome = true) : m.runFor n = m := by
  cases n with
  | zero => rfl
  | succ n => rw [Sre.M.runFor, if_pos h]
theorem runFor_add (b : Nat) : ∀ (a : Nat) (m : Sre.M), m.runFor (a + b) = (m.runFor a).runFor b
  | 0, m => by rw [Nat.zero_add]; rfl
  | a + 1, m => by
    rw [show a + 1 + b = (a + b) + 1 by omega, Sre.M.runFor, Sre.M.runFor]
    by_cases h : m.outcome.isSome = true
    · rw [if_pos h, if_pos h, runFor_done b m h]
    · rw [if_neg h, if_neg h, runFor_add b a]

section
variable {M : Model} {A : Around} {E : Value → Shared → Prop} {s : Shared}
theorem drive_any {Q : Sre.M → Shared → Prop} : ∀ (k turns : Nat) (m : Sre.M), k < turns → (m.runFor (4 * (k + 1))).outcome.isSome = true → Q (m.runFor (4 * (k + 1))) s → wpAny M A (reDrive turns m) Q E s
  | k, 0, m, hk, _, _ => absurd hk (Nat.not_lt_zero _)
  | 0, t + 1, m, _, ho, h => by
    show wpAny M A (if (m.runFor 4).outcome.isSome = true then pure (m.runFor 4) else (rule "sre.turn" >>= fun _ => reDrive t (m.runFor 4))) Q E s
    rw [if_pos ho]
    exact wpAny_pure h
  | k + 1, t + 1, m, hk, ho, h => by
    show wpAny M A (if (m.runFor 4).outcome.isSome = true then pure (m.runFor 4) else (rule "sre.turn" >>= fun _ => reDrive t (m.runFor 4))) Q E s
    rw [show 4 * (k + 1 + 1) = 4 + 4 * (k + 1) by omega, runFor_add] at ho h
    by_cases hd : (m.runFor 4).outcome.isSome = true
    · rw [if_pos hd]
      rw [runFor_done _ _ hd] at h
      exact wpAny_pure h
    · rw [if_neg hd]
      exact wpAny_bind (wpAny_rule (drive_any k t _ (by omega) ho h))

theorem rules_any {α : Type} {Q : PUnit → Shared → Prop} {f : α → PUnit → Sem (ForInStep PUnit)} (hf : ∀ a, wpAny M A (f a ⟨⟩) (fun r s' => r = .yield ⟨⟩ ∧ s' = s) (fun _ _ => False) s) (h : Q ⟨⟩ s) (l : List α) : wpAny M A (forIn l PUnit.unit f) Q E s := by
  induction l with
  | nil => rw [List.forIn_nil]; exact wpAny_pure h
  | cons a l ih =>
    rw [List.forIn_cons]
    refine wpAny_bind (wpAny_mono (hf a) ?_ fun _ _ e => e.elim)
    intro r s' hr
    obtain ⟨rfl, rfl⟩ := hr
    exact ih

theorem run_any {Q : Option Sre.M → Shared → Prop} {m : Sre.M} (k : Nat) (hk : k < 2 ^ 64)
    (h : match (m.runFor (4 * (k + 1))).outcome with
      | some .matched => Q (some (m.runFor (4 * (k + 1)))) s
      | some .failed => Q none s
      | _ => False) : wpAny M A (reRunToEnd m) Q E s := by
  unfold reRunToEnd
  refine wpAny_bind (drive_any k _ m hk ?_ ?_)
  · revert h
    cases (m.runFor (4 * (k + 1))).outcome with
    | none => exact fun h => h.elim
    | some _ => exact fun _ => rfl
  · generalize m.runFor (4 * (k + 1)) = m' at h
    refine wpAny_bind (rules_any (fun i => ?_) ?_ _)
    · refine wpAny_ite ?_
      split
      · exact wpAny_bind (wpAny_rule (wpAny_pure ⟨rfl, rfl⟩))
      · exact wpAny_pure ⟨rfl, rfl⟩
    revert h
    cases m'.outcome with
    | none => exact fun h => h.elim
    | some o => cases o with
      | matched => exact fun h => wpAny_pure h
      | failed => exact fun h => wpAny_pure h
      | stuck w => exact fun h => h.elim
end

def tzC : Array Nat := #[14, 4, 0, 1, 6, 6, 0, 23, 14, 0, 1, 17, 0, 13, 6, 16, 45, 16, 43, 0, 17, 1, 18, 17, 2, 13, 4, 8, 0, 0, 24, 9, 0, 1, 13, 4, 8, 0, 0, 1, 17, 3, 24, 6, 0, 1, 16, 58, 1, 23, 17, 0, 1, 17, 4, 13, 4, 8, 0, 0, 13, 4, 8, 0, 0, 17, 5, 18, 6, 5, 1]
def tzM (text : Array Nat) : Sre.M := Sre.forSearch tzC text 3 0 text.size false
end Mine
end

section
open PySem PySem.Spec PySem.Calls PySem.W PyProof.Rows PySem.Builtin PySem.Builtin.Re
set_option Elab.async false
set_option maxRecDepth 100000
set_option linter.unusedVariables false
set_option maxHeartbeats 4000000
namespace Mine
theorem ten {a : Nat} (h : a < 10) : a = 0 ∨ a = 1 ∨ a = 2 ∨ a = 3 ∨ a = 4 ∨ a = 5 ∨ a = 6 ∨ a = 7 ∨ a = 8 ∨ a = 9 := by omega
theorem chunk {m m' m'' : Sre.M} {i j : Nat} (h : m.runFor i = m') (h' : m'.runFor j = m'') : m.runFor (i + j) = m'' := by rw [runFor_add, h, h']
theorem tz_u0 {a b c d : Nat} (ha : a < 10) (hb : b < 10) (hc : c < 10) (hd : d < 10) : (tzM #[48 + a, 48 + b, 48 + c, 48 + d]).runFor 32 = { (tzM #[48, 48, 48, 48]).runFor 32 with text := #[48 + a, 48 + b, 48 + c, 48 + d] } := by
  have s0 : (tzM #[48 + a, 48 + b, 48 + c, 48 + d]).runFor 8 = { (tzM #[48, 48, 48, 48]).runFor 8 with text := #[48 + a, 48 + b, 48 + c, 48 + d] } := by
    rcases ten ha with rfl | rfl | rfl | rfl | rfl | rfl | rfl | rfl | rfl | rfl <;> kernel_rfl
  have s1 : ({ (tzM #[48, 48, 48, 48]).runFor 8 with text := #[48 + a, 48 + b, 48 + c, 48 + d] } : Sre.M).runFor 1 = { (tzM #[48, 48, 48, 48]).runFor 9 with text := #[48 + a, 48 + b, 48 + c, 48 + d] } := by
    rcases ten hb with rfl | rfl | rfl | rfl | rfl | rfl | rfl | rfl | rfl | rfl <;> kernel_rfl
  have s2 : ({ (tzM #[48, 48, 48, 48]).runFor 9 with text := #[48 + a, 48 + b, 48 + c, 48 + d] } : Sre.M).runFor 6 = { (tzM #[48, 48, 48, 48]).runFor 15 with text := #[48 + a, 48 + b, 48 + c, 48 + d] } := by
    rcases ten hc with rfl | rfl | rfl | rfl | rfl | rfl | rfl | rfl | rfl | rfl <;> kernel_rfl
  have s3 : ({ (tzM #[48, 48, 48, 48]).runFor 15 with text := #[48 + a, 48 + b, 48 + c, 48 + d] } : Sre.M).runFor 1 = { (tzM #[48, 48, 48, 48]).runFor 16 with text := #[48 + a, 48 + b, 48 + c, 48 + d] } := by
    rcases ten hd with rfl | rfl | rfl | rfl | rfl | rfl | rfl | rfl | rfl | rfl <;> kernel_rfl
  have s4 : ({ (tzM #[48, 48, 48, 48]).runFor 16 with text := #[48 + a, 48 + b, 48 + c, 48 + d] } : Sre.M).runFor 16 = { (tzM #[48, 48, 48, 48]).runFor 32 with text := #[48 + a, 48 + b, 48 + c, 48 + d] } := by
    kernel_rfl
  have t := chunk (chunk (chunk (chunk s0 s1) s2) s3) s4
  exact t
theorem tz_u1 {a b c d : Nat} (ha : a < 10) (hb : b < 10) (hc : c < 10) (hd : d < 10) : (tzM #[48 + a, 48 + b, 58, 48 + c, 48 + d]).runFor 32 = { (tzM #[48, 48, 58, 48, 48]).runFor 32 with text := #[48 + a, 48 + b, 58, 48 + c, 48 + d] } := by
  have s0 : (tzM #[48 + a, 48 + b, 58, 48 + c, 48 + d]).runFor 8 = { (tzM #[48, 48, 58, 48, 48]).runFor 8 with text := #[48 + a, 48 + b, 58, 48 + c, 48 + d] } := by
    rcases ten ha with rfl | rfl | rfl | rfl | rfl | rfl | rfl | rfl | rfl | rfl <;> kernel_rfl
  have s1 : ({ (tzM #[48, 48, 58, 48, 48]).runFor 8 with text := #[48 + a, 48 + b, 58, 48 + c, 48 + d] } : Sre.M).runFor 1 = { (tzM #[48, 48, 58, 48, 48]).runFor 9 with text := #[48 + a, 48 + b, 58, 48 + c, 48 + d] } := by
    rcases ten hb with rfl | rfl | rfl | rfl | rfl | rfl | rfl | rfl | rfl | rfl <;> kernel_rfl
  have s2 : ({ (tzM #[48, 48, 58, 48, 48]).runFor 9 with text := #[48 + a, 48 + b, 58, 48 + c, 48 + d] } : Sre.M).runFor 6 = { (tzM #[48, 48, 58, 48, 48]).runFor 15 with text := #[48 + a, 48 + b, 58, 48 + c, 48 + d] } := by
    rcases ten hc with rfl | rfl | rfl | rfl | rfl | rfl | rfl | rfl | rfl | rfl <;> kernel_rfl
  have s3 : ({ (tzM #[48, 48, 58, 48, 48]).runFor 15 with text := #[48 + a, 48 + b, 58, 48 + c, 48 + d] } : Sre.M).runFor 1 = { (tzM #[48, 48, 58, 48, 48]).runFor 16 with text := #[48 + a, 48 + b, 58, 48 + c, 48 + d] } := by
    rcases ten hd with rfl | rfl | rfl | rfl | rfl | rfl | rfl | rfl | rfl | rfl <;> kernel_rfl
  have s4 : ({ (tzM #[48, 48, 58, 48, 48]).runFor 16 with text := #[48 + a, 48 + b, 58, 48 + c, 48 + d] } : Sre.M).runFor 16 = { (tzM #[48, 48, 58, 48, 48]).runFor 32 with text := #[48 + a, 48 + b, 58, 48 + c, 48 + d] } := by
    kernel_rfl
  have t := chunk (chunk (chunk (chunk s0 s1) s2) s3) s4
  exact t
theorem tz_p0 {a b c d : Nat} (ha : a < 10) (hb : b < 10) (hc : c < 10) (hd : d < 10) : (tzM #[43, 48 + a, 48 + b, 48 + c, 48 + d]).runFor 32 = { (tzM #[43, 48, 48, 48, 48]).runFor 32 with text := #[43, 48 + a, 48 + b, 48 + c, 48 + d] } := by
  have s0 : (tzM #[43, 48 + a, 48 + b, 48 + c, 48 + d]).runFor 9 = { (tzM #[43, 48, 48, 48, 48]).runFor 9 with text := #[43, 48 + a, 48 + b, 48 + c, 48 + d] } := by
    rcases ten ha with rfl | rfl | rfl | rfl | rfl | rfl | rfl | rfl | rfl | rfl <;> kernel_rfl
  have s1 : ({ (tzM #[43, 48, 48, 48, 48]).runFor 9 with text := #[43, 48 + a, 48 + b, 48 + c, 48 + d] } : Sre.M).runFor 1 = { (tzM #[43, 48, 48, 48, 48]).runFor 10 with text := #[43, 48 + a, 48 + b, 48 + c, 48 + d] } := by
    rcases ten hb with rfl | rfl | rfl | rfl | rfl | rfl | rfl | rfl | rfl | rfl <;> kernel_rfl
  have s2 : ({ (tzM #[43, 48, 48, 48, 48]).runFor 10 with text := #[43, 48 + a, 48 + b, 48 + c, 48 + d] } : Sre.M).runFor 6 = { (tzM #[43, 48, 48, 48, 48]).runFor 16 with text := #[43, 48 + a, 48 + b, 48 + c, 48 + d] } := by
    rcases ten hc with rfl | rfl | rfl | rfl | rfl | rfl | rfl | rfl | rfl | rfl <;> kernel_rfl
  have s3 : ({ (tzM #[43, 48, 48, 48, 48]).runFor 16 with text := #[43, 48 + a, 48 + b, 48 + c, 48 + d] } : Sre.M).runFor 1 = { (tzM #[43, 48, 48, 48, 48]).runFor 17 with text := #[43, 48 + a, 48 + b, 48 + c, 48 + d] } := by
    rcases ten hd with rfl | rfl | rfl | rfl | rfl | rfl | rfl | rfl | rfl | rfl <;> kernel_rfl
  have s4 : ({ (tzM #[43, 48, 48, 48, 48]).runFor 17 with text := #[43, 48 + a, 48 + b, 48 + c, 48 + d] } : Sre.M).runFor 15 = { (tzM #[43, 48, 48, 48, 48]).runFor 32 with text := #[43, 48 + a, 48 + b, 48 + c, 48 + d] } := by
    kernel_rfl
  have t := chunk (chunk (chunk (chunk s0 s1) s2) s3) s4
  exact t
theorem tz_p1 {a b c d : Nat} (ha : a < 10) (hb : b < 10) (hc : c < 10) (hd : d < 10) : (tzM #[43, 48 + a, 48 + b, 58, 48 + c, 48 + d]).runFor 32 = { (tzM #[43, 48, 48, 58, 48, 48]).runFor 32 with text := #[43, 48 + a, 48 + b, 58, 48 + c, 48 + d] } := by
  have s0 : (tzM #[43, 48 + a, 48 + b, 58, 48 + c, 48 + d]).runFor 9 = { (tzM #[43, 48, 48, 58, 48, 48]).runFor 9 with text := #[43, 48 + a, 48 + b, 58, 48 + c, 48 + d] } := by
    rcases ten ha with rfl | rfl | rfl | rfl | rfl | rfl | rfl | rfl | rfl | rfl <;> kernel_rfl
  have s1 : ({ (tzM #[43, 48, 48, 58, 48, 48]).runFor 9 with text := #[43, 48 + a, 48 + b, 58, 48 + c, 48 + d] } : Sre.M).runFor 1 = { (tzM #[43, 48, 48, 58, 48, 48]).runFor 10 with text := #[43, 48 + a, 48 + b, 58, 48 + c, 48 + d] } := by
    rcases ten hb with rfl | rfl | rfl | rfl | rfl | rfl | rfl | rfl | rfl | rfl <;> kernel_rfl
  have s2 : ({ (tzM #[43, 48, 48, 58, 48, 48]).runFor 10 with text := #[43, 48 + a, 48 + b, 58, 48 + c, 48 + d] } : Sre.M).runFor 6 = { (tzM #[43, 48, 48, 58, 48, 48]).runFor 16 with text := #[43, 48 + a, 48 + b, 58, 48 + c, 48 + d] } := by
    rcases ten hc with rfl | rfl | rfl | rfl | rfl | rfl | rfl | rfl | rfl | rfl <;> kernel_rfl
  have s3 : ({ (tzM #[43, 48, 48, 58, 48, 48]).runFor 16 with text := #[43, 48 + a, 48 + b, 58, 48 + c, 48 + d] } : Sre.M).runFor 1 = { (tzM #[43, 48, 48, 58, 48, 48]).runFor 17 with text := #[43, 48 + a, 48 + b, 58, 48 + c, 48 + d] } := by
    rcases ten hd with rfl | rfl | rfl | rfl | rfl | rfl | rfl | rfl | rfl | rfl <;> kernel_rfl
  have s4 : ({ (tzM #[43, 48, 48, 58, 48, 48]).runFor 17 with text := #[43, 48 + a, 48 + b, 58, 48 + c, 48 + d] } : Sre.M).runFor 15 = { (tzM #[43, 48, 48, 58, 48, 48]).runFor 32 with text := #[43, 48 + a, 48 + b, 58, 48 + c, 48 + d] } := by
    kernel_rfl
  have t := chunk (chunk (chunk (chunk s0 s1) s2) s3) s4
  exact t
theorem tz_m0 {a b c d : Nat} (ha : a < 10) (hb : b < 10) (hc : c < 10) (hd : d < 10) : (tzM #[45, 48 + a, 48 + b, 48 + c, 48 + d]).runFor 32 = { (tzM #[45, 48, 48, 48, 48]).runFor 32 with text := #[45, 48 + a, 48 + b, 48 + c, 48 + d] } := by
  have s0 : (tzM #[45, 48 + a, 48 + b, 48 + c, 48 + d]).runFor 9 = { (tzM #[45, 48, 48, 48, 48]).runFor 9 with text := #[45, 48 + a, 48 + b, 48 + c, 48 + d] } := by
    rcases ten ha with rfl | rfl | rfl | rfl | rfl | rfl | rfl | rfl | rfl | rfl <;> kernel_rfl
  have s1 : ({ (tzM #[45, 48, 48, 48, 48]).runFor 9 with text := #[45, 48 + a, 48 + b, 48 + c, 48 + d] } : Sre.M).runFor 1 = { (tzM #[45, 48, 48, 48, 48]).runFor 10 with text := #[45, 48 + a, 48 + b, 48 + c, 48 + d] } := by
    rcases ten hb with rfl | rfl | rfl | rfl | rfl | rfl | rfl | rfl | rfl | rfl <;> kernel_rfl
  have s2 : ({ (tzM #[45, 48, 48, 48, 48]).runFor 10 with text := #[45, 48 + a, 48 + b, 48 + c, 48 + d] } : Sre.M).runFor 6 = { (tzM #[45, 48, 48, 48, 48]).runFor 16 with text := #[45, 48 + a, 48 + b, 48 + c, 48 + d] } := by
    rcases ten hc with rfl | rfl | rfl | rfl | rfl | rfl | rfl | rfl | rfl | rfl <;> kernel_rfl
  have s3 : ({ (tzM #[45, 48, 48, 48, 48]).runFor 16 with text := #[45, 48 + a, 48 + b, 48 + c, 48 + d] } : Sre.M).runFor 1 = { (tzM #[45, 48, 48, 48, 48]).runFor 17 with text := #[45, 48 + a, 48 + b, 48 + c, 48 + d] } := by
    rcases ten hd with rfl | rfl | rfl | rfl | rfl | rfl | rfl | rfl | rfl | rfl <;> kernel_rfl
  have s4 : ({ (tzM #[45, 48, 48, 48, 48]).runFor 17 with text := #[45, 48 + a, 48 + b, 48 + c, 48 + d] } : Sre.M).runFor 15 = { (tzM #[45, 48, 48, 48, 48]).runFor 32 with text := #[45, 48 + a, 48 + b, 48 + c, 48 + d] } := by
    kernel_rfl
  have t := chunk (chunk (chunk (chunk s0 s1) s2) s3) s4
  exact t
theorem tz_m1 {a b c d : Nat} (ha : a < 10) (hb : b < 10) (hc : c < 10) (hd : d < 10) : (tzM #[45, 48 + a, 48 + b, 58, 48 + c, 48 + d]).runFor 32 = { (tzM #[45, 48, 48, 58, 48, 48]).runFor 32 with text := #[45, 48 + a, 48 + b, 58, 48 + c, 48 + d] } := by
  have s0 : (tzM #[45, 48 + a, 48 + b, 58, 48 + c, 48 + d]).runFor 9 = { (tzM #[45, 48, 48, 58, 48, 48]).runFor 9 with text := #[45, 48 + a, 48 + b, 58, 48 + c, 48 + d] } := by
    rcases ten ha with rfl | rfl | rfl | rfl | rfl | rfl | rfl | rfl | rfl | rfl <;> kernel_rfl
  have s1 : ({ (tzM #[45, 48, 48, 58, 48, 48]).runFor 9 with text := #[45, 48 + a, 48 + b, 58, 48 + c, 48 + d] } : Sre.M).runFor 1 = { (tzM #[45, 48, 48, 58, 48, 48]).runFor 10 with text := #[45, 48 + a, 48 + b, 58, 48 + c, 48 + d] } := by
    rcases ten hb with rfl | rfl | rfl | rfl | rfl | rfl | rfl | rfl | rfl | rfl <;> kernel_rfl
  have s2 : ({ (tzM #[45, 48, 48, 58, 48, 48]).runFor 10 with text := #[45, 48 + a, 48 + b, 58, 48 + c, 48 + d] } : Sre.M).runFor 6 = { (tzM #[45, 48, 48, 58, 48, 48]).runFor 16 with text := #[45, 48 + a, 48 + b, 58, 48 + c, 48 + d] } := by
    rcases ten hc with rfl | rfl | rfl | rfl | rfl | rfl | rfl | rfl | rfl | rfl <;> kernel_rfl
  have s3 : ({ (tzM #[45, 48, 48, 58, 48, 48]).runFor 16 with text := #[45, 48 + a, 48 + b, 58, 48 + c, 48 + d] } : Sre.M).runFor 1 = { (tzM #[45, 48, 48, 58, 48, 48]).runFor 17 with text := #[45, 48 + a, 48 + b, 58, 48 + c, 48 + d] } := by
    rcases ten hd with rfl | rfl | rfl | rfl | rfl | rfl | rfl | rfl | rfl | rfl <;> kernel_rfl
  have s4 : ({ (tzM #[45, 48, 48, 58, 48, 48]).runFor 17 with text := #[45, 48 + a, 48 + b, 58, 48 + c, 48 + d] } : Sre.M).runFor 15 = { (tzM #[45, 48, 48, 58, 48, 48]).runFor 32 with text := #[45, 48 + a, 48 + b, 58, 48 + c, 48 + d] } := by
    kernel_rfl
  have t := chunk (chunk (chunk (chunk s0 s1) s2) s3) s4
  exact t
end Mine
end

section
open PySem PySem.Spec PySem.Calls PySem.W PyProof.Rows PySem.Builtin PySem.Builtin.Re
set_option Elab.async false
set_option maxRecDepth 100000
set_option linter.unusedVariables false
set_option maxHeartbeats 4000000
namespace Mine
theorem owner_pat : Manifest.owners.lookup (String.ofList ['n', 'r', 'e', 't', 't', 'a', 'P', '.', 'e', 'r'].reverse) = some Manifest.sig_re_Pattern := by kernel_rfl
theorem owner_mat : Manifest.owners.lookup (String.ofList ['h', 'c', 't', 'a', 'M', '.', 'e', 'r'].reverse) = some Manifest.sig_re_Match := by kernel_rfl
theorem slot_search : Slot "re.Pattern" "search" "re.Pattern.search" :=
  .of (owner := "re.Pattern") (n := "search") (by rw [typeLookup_type, builtinLookup_eq_fast]; kernel_rfl) (by decide +kernel) (by decide +kernel) (by decide +kernel)
    (by first | exact .inl (by decide +kernel) | exact .inr (by decide +kernel)) (by rw [isSubtype_type]; kernel_rfl)
theorem type_search : typeOf (.builtin "re.Pattern.search") = pure (.type "method_descriptor") := by show builtinType _ = _; rw [builtinType_eq_fast]; kernel_rfl
theorem entry_search : entryFor table "re.Pattern.search" = some Builtin.«re.Pattern.search» := entryFor_of_tree (by kernel_rfl)
theorem args_search (a b : Value) : argsOk "re.Pattern.search" ⟨[a, b], []⟩ := by
  unfold argsOk; rw [signature?_of (id := "re.Pattern.search") (n := ['h', 'c', 'r', 'a', 'e', 's']) (o := ['n', 'r', 'e', 't', 't', 'a', 'P', '.', 'e', 'r']) (by kernel_rfl) owner_pat]; kernel_rfl
theorem slot_sub : Slot "re.Pattern" "sub" "re.Pattern.sub" :=
  .of (owner := "re.Pattern") (n := "sub") (by rw [typeLookup_type, builtinLookup_eq_fast]; kernel_rfl) (by decide +kernel) (by decide +kernel) (by decide +kernel)
    (by first | exact .inl (by decide +kernel) | exact .inr (by decide +kernel)) (by rw [isSubtype_type]; kernel_rfl)
theorem type_sub : typeOf (.builtin "re.Pattern.sub") = pure (.type "method_descriptor") := by show builtinType _ = _; rw [builtinType_eq_fast]; kernel_rfl
theorem entry_sub : entryFor table "re.Pattern.sub" = some Builtin.«re.Pattern.sub» := entryFor_of_tree (by kernel_rfl)
theorem args_sub (a b c : Value) : argsOk "re.Pattern.sub" ⟨[a, b, c], []⟩ := by
  unfold argsOk; rw [signature?_of (id := "re.Pattern.sub") (n := ['b', 'u', 's']) (o := ['n', 'r', 'e', 't', 't', 'a', 'P', '.', 'e', 'r']) (by kernel_rfl) owner_pat]; kernel_rfl
theorem slot_group : Slot "re.Match" "group" "re.Match.group" :=
  .of (owner := "re.Match") (n := "group") (by rw [typeLookup_type, builtinLookup_eq_fast]; kernel_rfl) (by decide +kernel) (by decide +kernel) (by decide +kernel)
    (by first | exact .inl (by decide +kernel) | exact .inr (by decide +kernel)) (by rw [isSubtype_type]; kernel_rfl)
theorem type_group : typeOf (.builtin "re.Match.group") = pure (.type "method_descriptor") := by show builtinType _ = _; rw [builtinType_eq_fast]; kernel_rfl
theorem entry_group : entryFor table "re.Match.group" = some Builtin.«re.Match.group» := entryFor_of_tree (by kernel_rfl)
theorem args_group (a b : Value) : argsOk "re.Match.group" ⟨[a, b], []⟩ := by
  unfold argsOk; rw [signature?_of (id := "re.Match.group") (n := ['p', 'u', 'o', 'r', 'g']) (o := ['h', 'c', 't', 'a', 'M', '.', 'e', 'r']) (by kernel_rfl) owner_mat]; kernel_rfl
theorem slot_bjoin : Slot "bytes" "join" "bytes.join" :=
  .of (owner := "bytes") (n := "join") (by rw [typeLookup_type, builtinLookup_eq_fast]; kernel_rfl) (by decide +kernel) (by decide +kernel) (by decide +kernel)
    (by first | exact .inl (by decide +kernel) | exact .inr (by decide +kernel)) (by rw [isSubtype_type]; kernel_rfl)
theorem type_bjoin : typeOf (.builtin "bytes.join") = pure (.type "method_descriptor") := by show builtinType _ = _; rw [builtinType_eq_fast]; kernel_rfl
theorem entry_bjoin : entryFor table "bytes.join" = some Builtin.«bytes.join» := entryFor_of_tree (by kernel_rfl)
theorem args_bjoin (a b : Value) : argsOk "bytes.join" ⟨[a, b], []⟩ := by
  unfold argsOk; rw [signature?_of (id := "bytes.join") (n := ['n', 'i', 'o', 'j']) (o := ['s', 'e', 't', 'y', 'b']) (by kernel_rfl) FB.owner_bytes]; kernel_rfl
theorem slot_bsplit : Slot "bytes" "split" "bytes.split" :=
  .of (owner := "bytes") (n := "split") (by rw [typeLookup_type, builtinLookup_eq_fast]; kernel_rfl) (by decide +kernel) (by decide +kernel) (by decide +kernel)
    (by first | exact .inl (by decide +kernel) | exact .inr (by decide +kernel)) (by rw [isSubtype_type]; kernel_rfl)
theorem type_bsplit : typeOf (.builtin "bytes.split") = pure (.type "method_descriptor") := by show builtinType _ = _; rw [builtinType_eq_fast]; kernel_rfl
theorem entry_bsplit : entryFor table "bytes.split" = some Builtin.«bytes.split» := entryFor_of_tree (by kernel_rfl)
theorem args_bsplit (a b : Value) : argsOk "bytes.split" ⟨[a, b], []⟩ := by
  unfold argsOk; rw [signature?_of (id := "bytes.split") (n := ['t', 'i', 'l', 'p', 's']) (o := ['s', 'e', 't', 'y', 'b']) (by kernel_rfl) FB.owner_bytes]; kernel_rfl
theorem plainAttrs_pat : PlainAttrs "re.Pattern" :=
  ⟨⟨"object.__getattribute__", by rw [typeLookup_type, builtinLookup_eq_fast]; kernel_rfl, by decide +kernel⟩, by rw [typeLookup_type, builtinLookup_eq_fast]; kernel_rfl⟩
theorem plainAttrs_mat : PlainAttrs "re.Match" :=
  ⟨⟨"object.__getattribute__", by rw [typeLookup_type, builtinLookup_eq_fast]; kernel_rfl, by decide +kernel⟩, by rw [typeLookup_type, builtinLookup_eq_fast]; kernel_rfl⟩
theorem noBool_mat : typeLookup (.type "re.Match") "__bool__" = pure none := by rw [typeLookup_type, builtinLookup_eq_fast]; kernel_rfl
theorem noLen_mat : typeLookup (.type "re.Match") "__len__" = pure none := by rw [typeLookup_type, builtinLookup_eq_fast]; kernel_rfl
theorem noCall_bytes : typeLookup (.type "bytes") "__call__" = pure none := by rw [typeLookup_type, builtinLookup_eq_fast]; kernel_rfl
theorem entry_subloop : entryFor table "re.Pattern.sub.loop" = some Builtin.«re.Pattern.sub.loop» := entryFor_of_tree (by kernel_rfl)
theorem plain_subloop : plainId "re.Pattern.sub.loop" = true := by decide +kernel

end Mine
end

section
open PySem PySem.Spec PySem.Calls PySem.W PyProof.Rows PySem.Builtin PySem.Builtin.Re
set_option Elab.async false
set_option maxRecDepth 100000
set_option linter.unusedVariables false
set_option maxHeartbeats 4000000
namespace Mine

abbrev patO : Obj := { cls := .type "re.Pattern", data := .fields #[Value.str (Str.ofString "^([-+])?(\\d\\d?):?(\\d\\d)?$") 340, Value.int 256 414, Value.int 3 0, Value.none, Value.none, Value.ref 57, Value.int 0 0] }
abbrev codeO : Obj := { cls := .type "tuple", data := .seq #[Value.int 14 0, Value.int 4 0, Value.int 0 0, Value.int 1 0, Value.int 6 0, Value.int 6 0, Value.int 0 0,
              Value.int 23 0, Value.int 14 0, Value.int 0 0, Value.int 1 0, Value.int 17 0, Value.int 0 0,
              Value.int 13 0, Value.int 6 0, Value.int 16 0, Value.int 45 0, Value.int 16 0, Value.int 43 0,
              Value.int 0 0, Value.int 17 0, Value.int 1 0, Value.int 18 0, Value.int 17 0, Value.int 2 0,
              Value.int 13 0, Value.int 4 0, Value.int 8 0, Value.int 0 0, Value.int 0 0, Value.int 24 0, Value.int 9 0,
              Value.int 0 0, Value.int 1 0, Value.int 13 0, Value.int 4 0, Value.int 8 0, Value.int 0 0, Value.int 0 0,
              Value.int 1 0, Value.int 17 0, Value.int 3 0, Value.int 24 0, Value.int 6 0, Value.int 0 0, Value.int 1 0,
              Value.int 16 0, Value.int 58 0, Value.int 1 0, Value.int 23 0, Value.int 17 0, Value.int 0 0,
              Value.int 1 0, Value.int 17 0, Value.int 4 0, Value.int 13 0, Value.int 4 0, Value.int 8 0, Value.int 0 0,
              Value.int 0 0, Value.int 13 0, Value.int 4 0, Value.int 8 0, Value.int 0 0, Value.int 0 0, Value.int 17 0,
              Value.int 5 0, Value.int 18 0, Value.int 6 0, Value.int 5 0, Value.int 1 0] }

abbrev spanO (start stop : Nat) (sp : List Int) : Obj := { cls := .type "tuple", data := .seq (rawInt start :: rawInt stop :: sp.map rawInt).toArray }
abbrev matO (tz : Str) (t : Tok) (lim : Nat) (li : Int) (a : Addr) : Obj := { cls := .type "re.Match", data := .fields #[.str tz t, .ref 58, rawInt 0, rawInt lim, rawInt li, .ref a] }

section
variable {prog : Program} {w : World} {A : Around} {E : Value → Shared → Prop} {s : Shared} {Q : Value → Shared → Prop}

theorem wpAny_newFields {M : Model} {ty : String} {items : List Value} (h : Q (.ref s.heap.objs.size) { s with heap := s.heap.push { cls := .type ty, data := .fields items.toArray } })
    (hs : items.length ≤ 10) : wpAny M A (newFields ty items) Q E s := by
  have hz : ¬ items.toArray.size > sizeLine + 2 := by rw [List.size_toArray, sizeLine_eq]; omega
  unfold newFields newObj
  show wpAny M A (if items.toArray.size > sizeLine + 2 then _ else _) _ E s
  rw [if_neg hz]
  exact wpAny_newObjAsIs_type h

theorem target_eq {tz : Str} {t : Tok} {Q : ReTarget → Shared → Prop} (hP : s.heap.get? 58 = some patO) (hC : s.heap.get? 57 = some codeO)
    (h : Q { pattern := .ref 58, string := .str tz t, code := tzC, text := tz.cps, kind := 0, groups := 3, pos := 0, lim := tz.cps.size } s) (hz : tz.cps.size < 100) :
    wpAny (model prog w) A (reTarget "re.Pattern.search" "search" ⟨[.ref 58, .str tz t], []⟩) Q E s := by
  have e : reNamed "re.Pattern.search" "search" ["string", "pos", "endpos"] 1 [.str tz t] [] = pure [some (.str tz t), none, none] := by kernel_rfl
  unfold reTarget
  show wpAny _ _ (reNamed "re.Pattern.search" "search" ["string", "pos", "endpos"] 1 [.str tz t] [] >>= fun r => _) _ _ s
  rw [e]
  show wpAny _ _ (fieldsOf (.ref 58) >>= fun fs => _) _ _ s
  refine wpAny_bind (wpAny_fieldsOf hP rfl ?_)
  show wpAny _ _ (reRawItems (.ref 57) >>= fun fs => _) _ _ s
  refine wpAny_bind ?_
  unfold reRawItems
  refine wpAny_bind (wpAny_seqItems hC rfl (wpAny_pure (wpAny_pure ?_)))
  have e2 : min ((2 ^ 63 - 1 : Int)).toNat tz.cps.size = tz.cps.size := by
    have : ((2 ^ 63 - 1 : Int)).toNat = 9223372036854775807 := by decide
    omega
  have e3 : min ((0 : Int)).toNat tz.cps.size = 0 := by simp
  refine Eq.mp (congrArg (fun r => Q r s) ?_) h
  rw [ReTarget.mk.injEq]
  exact ⟨rfl, rfl, by kernel_rfl, rfl, rfl, by kernel_rfl, e3.symm, e2.symm⟩

/-- what a match of the zone's pattern leaves in the machine -/
structure Hit (tz : Str) (sp : List Int) : Prop where
  out : ((tzM tz.cps).runFor 32).outcome = some .matched
  made : ∀ t, reNewMatch (.ref 58) (.str tz t) 3 0 tz.cps.size ((tzM tz.cps).runFor 32) = (newTuple (rawInt 0 :: rawInt tz.cps.size :: sp.map rawInt) >>= fun v => newFields "re.Match" [.str tz t, .ref 58, rawInt 0, rawInt tz.cps.size, rawInt 3, v])

theorem search_call {tz : Str} {t : Tok} {sp : List Int} (hP : s.heap.get? 58 = some patO) (hC : s.heap.get? 57 = some codeO) (H : Hit tz sp) (hz : tz.cps.size < 100) (hsp : sp.length = 6)
    (h : Q (.ref (s.heap.push (spanO 0 tz.cps.size sp)).objs.size) { s with heap := (s.heap.push (spanO 0 tz.cps.size sp)).push (matO tz t tz.cps.size 3 s.heap.objs.size) }) :
    wpAny (model prog w) A (call (.builtin "re.Pattern.search") [.ref 58, .str tz t]) Q E s := by
  have hT : s.TypeIs (.ref 58) "re.Pattern" := ⟨_, hP, rfl⟩
  refine wpAny_call (codeAny_call_builtin slot_search.plain entry_search (slot_search.check _ _ _ _ _ _ _ _ hT (args_search _ _) ?_))
  unfold «re.Pattern.search»
  refine wpAny_bind (target_eq hP hC ?_ hz)
  unfold reAnswer
  refine wpAny_bind (run_any (m := tzM tz.cps) 7 (by decide) ?_)
  show match ((tzM tz.cps).runFor 32).outcome with | some .matched => _ | some .failed => _ | _ => False
  rw [H.out]
  show wpAny _ _ (reNewMatch (.ref 58) (.str tz t) 3 0 tz.cps.size ((tzM tz.cps).runFor 32) >>= fun v => _) _ _ s
  rw [H.made]
  refine wpAny_bind (wpAny_bind (wpAny_newTuple ?_ ?_))
  · refine wpAny_newFields ?_ (by simp)
    exact wpAny_pure h
  · simp [hsp, sizeLine_eq]
end

theorem hit_u0 {a b c d : Nat} (ha : a < 10) (hb : b < 10) (hc : c < 10) (hd : d < 10) : Hit ⟨#[48 + a, 48 + b, 48 + c, 48 + d]⟩ [-1, -1, 0, 2, 2, 4] := by
  refine ⟨?_, fun t => ?_⟩
  · rw [tz_u0 ha hb hc hd]; kernel_rfl
  · rw [tz_u0 ha hb hc hd]; kernel_rfl
theorem hit_u1 {a b c d : Nat} (ha : a < 10) (hb : b < 10) (hc : c < 10) (hd : d < 10) : Hit ⟨#[48 + a, 48 + b, 58, 48 + c, 48 + d]⟩ [-1, -1, 0, 2, 3, 5] := by
  refine ⟨?_, fun t => ?_⟩
  · rw [tz_u1 ha hb hc hd]; kernel_rfl
  · rw [tz_u1 ha hb hc hd]; kernel_rfl
theorem hit_p0 {a b c d : Nat} (ha : a < 10) (hb : b < 10) (hc : c < 10) (hd : d < 10) : Hit ⟨#[43, 48 + a, 48 + b, 48 + c, 48 + d]⟩ [0, 1, 1, 3, 3, 5] := by
  refine ⟨?_, fun t => ?_⟩
  · rw [tz_p0 ha hb hc hd]; kernel_rfl
  · rw [tz_p0 ha hb hc hd]; kernel_rfl
theorem hit_p1 {a b c d : Nat} (ha : a < 10) (hb : b < 10) (hc : c < 10) (hd : d < 10) : Hit ⟨#[43, 48 + a, 48 + b, 58, 48 + c, 48 + d]⟩ [0, 1, 1, 3, 4, 6] := by
  refine ⟨?_, fun t => ?_⟩
  · rw [tz_p1 ha hb hc hd]; kernel_rfl
  · rw [tz_p1 ha hb hc hd]; kernel_rfl
theorem hit_m0 {a b c d : Nat} (ha : a < 10) (hb : b < 10) (hc : c < 10) (hd : d < 10) : Hit ⟨#[45, 48 + a, 48 + b, 48 + c, 48 + d]⟩ [0, 1, 1, 3, 3, 5] := by
  refine ⟨?_, fun t => ?_⟩
  · rw [tz_m0 ha hb hc hd]; kernel_rfl
  · rw [tz_m0 ha hb hc hd]; kernel_rfl
theorem hit_m1 {a b c d : Nat} (ha : a < 10) (hb : b < 10) (hc : c < 10) (hd : d < 10) : Hit ⟨#[45, 48 + a, 48 + b, 58, 48 + c, 48 + d]⟩ [0, 1, 1, 3, 4, 6] := by
  refine ⟨?_, fun t => ?_⟩
  · rw [tz_m1 ha hb hc hd]; kernel_rfl
  · rw [tz_m1 ha hb hc hd]; kernel_rfl
end Mine
end

section
open PySem PySem.Spec PySem.Calls PySem.W PyProof.Rows PySem.Builtin PySem.Builtin.Re
set_option Elab.async false
set_option maxRecDepth 100000
set_option linter.unusedVariables false
set_option maxHeartbeats 4000000
namespace Mine
section
variable {prog : Program} {w : World} {A : Around} {E : Value → Shared → Prop} {s : Shared} {Q : Value → Shared → Prop}

theorem raw_items (l : List Int) : Array.map reRawOf (l.map rawInt).toArray = l.toArray := by
  simp only [List.map_toArray, List.map_map]
  congr 1
  conv => rhs; rw [← List.map_id l]
  exact List.map_congr_left fun _ _ => rfl

/-- a group of the match whose span is written -/
def groupV (tz : Str) (b e : Int) (v : Value) : Prop := if b < 0 ∨ e < 0 then v = .none else ∃ t, v = .str ⟨tz.cps.extract b.toNat e.toNat⟩ t

theorem group_call {tz : Str} {t u : Tok} {lim : Nat} {li : Int} {q a : Addr} {st en : Nat} {sp : List Int} {g : Nat}
    (hq : s.heap.get? q = some (matO tz t lim li a)) (ha : s.heap.get? a = some (spanO st en sp)) (hg : g < 4) (hg0 : 0 < g) (hsp : sp.length = 6) (hz : tz.cps.size < 100)
    (h : if sp.getD (2 * g - 2) (-1) < 0 ∨ sp.getD (2 * g - 1) (-1) < 0 then Q .none s
      else Q (.str ⟨tz.cps.extract (sp.getD (2 * g - 2) (-1)).toNat (sp.getD (2 * g - 1) (-1)).toNat⟩ s.toks) { s with toks := s.toks + 1 }) :
    wpAny (model prog w) A (call (.builtin "re.Match.group") [.ref q, .int g u]) Q E s := by
  have hT : s.TypeIs (.ref q) "re.Match" := ⟨_, hq, rfl⟩
  refine wpAny_call (codeAny_call_builtin slot_group.plain entry_group (slot_group.check _ _ _ _ _ _ _ _ hT (args_group _ _) ?_))
  unfold «re.Match.group»
  show wpAny _ _ (reFound (.ref q) >>= fun x => _) _ _ s
  refine wpAny_bind ?_
  unfold reFound
  refine wpAny_bind (wpAny_fieldsOf hq rfl ?_)
  show wpAny _ _ (reRawItems (.ref a) >>= fun x => _) _ _ s
  refine wpAny_bind ?_
  unfold reRawItems
  refine wpAny_bind (wpAny_seqItems ha rfl (wpAny_pure (wpAny_pure ?_)))
  have hr : Array.map reRawOf ((some (rawInt st :: rawInt en :: sp.map rawInt).toArray).getD #[]) = ((st : Int) :: (en : Int) :: sp).toArray := raw_items ((st : Int) :: (en : Int) :: sp)
  rw [hr]
  generalize hx : ({ fields := #[.str tz t, .ref 58, rawInt 0, rawInt lim, rawInt li, .ref a], spans := ((st : Int) :: (en : Int) :: sp).toArray } : ReFound) = x
  have hs : x.spans = ((st : Int) :: (en : Int) :: sp).toArray := by rw [← hx]
  have hf : x.fields.getD 0 .none = .str tz t := by rw [← hx]; rfl
  show wpAny _ _ (reGroupNumber x (.int g u) >>= fun n => _) _ _ s
  refine wpAny_bind ?_
  unfold reGroupNumber
  show wpAny _ _ (if ((g : Int) < 0 || 2 * (g : Int) ≥ x.spans.size) = true then _ else _) _ _ s
  have hn : ((g : Int) < 0 || 2 * (g : Int) ≥ x.spans.size) = false := by
    rw [hs]; simp [hsp]; omega
  rw [hn, if_neg Bool.false_ne_true]
  refine wpAny_pure ?_
  refine wpAny_bind ?_
  unfold reGroupText
  have e1 : x.spans.getD (2 * (g : Int).toNat) (-1) = sp.getD (2 * g - 2) (-1) := by
    rw [hs, show 2 * (g : Int).toNat = (2 * g - 2) + 2 by omega]; simp
  have e2 : x.spans.getD (2 * (g : Int).toNat + 1) (-1) = sp.getD (2 * g - 1) (-1) := by
    rw [hs, show 2 * (g : Int).toNat + 1 = (2 * g - 1) + 2 by omega]; simp
  rw [e1, e2]
  generalize sp.getD (2 * g - 2) (-1) = b at *
  generalize sp.getD (2 * g - 1) (-1) = c at *
  show wpAny _ _ (if (b < 0 || c < 0) = true then _ else _) _ _ s
  by_cases hbc : b < 0 ∨ c < 0
  · rw [if_pos hbc] at h
    rw [if_pos (by simpa using hbc)]
    exact wpAny_pure (wpAny_pure h)
  · rw [if_neg hbc] at h
    rw [if_neg (by simpa using hbc), hf]
    show wpAny _ _ (mkStr ⟨tz.cps.extract b.toNat c.toNat⟩) _ _ s
    refine wpAny_mkStr (wpAny_pure h) ?_
    show (tz.cps.extract b.toNat c.toNat).size ≤ sizeLine
    rw [Array.size_extract, sizeLine_eq]
    omega

theorem truthy_mat {tz : Str} {t : Tok} {lim : Nat} {li : Int} {q a : Addr} {Q : Bool → Shared → Prop} (hq : s.heap.get? q = some (matO tz t lim li a)) (h : Q true s) :
    wpAny (model prog w) A (truthy (.ref q)) Q E s := by
  have hT : s.TypeIs (.ref q) "re.Match" := ⟨_, hq, rfl⟩
  unfold truthy
  refine wpAny_bind (wpAny_callSpecial?_none hT noBool_mat ?_)
  refine wpAny_bind (wpAny_specialOf hT noLen_mat ?_)
  exact wpAny_pure h
end
end Mine
end

section
open PySem PySem.Spec PySem.Calls PySem.W PyProof.Rows
set_option Elab.async false
set_option maxRecDepth 100000
set_option maxHeartbeats 8000000
set_option linter.unusedVariables false
namespace Mine
theorem at58 {w : World} {h : Heap} (X : (hd.heap_39 w.params).In h) : h.get? 58 = some patO := X _ _ rfl
theorem at57 {w : World} {h : Heap} (X : (hd.heap_39 w.params).In h) : h.get? 57 = some codeO := X _ _ rfl
theorem two_int {a b : Nat} (ha : a < 10) (hb : b < 10) : PySem.intText? ⟨#[48 + a, 48 + b]⟩ = some ((10 * a + b : Nat) : Int) := by
  have h := intText_digits (x := ⟨#[48 + a, 48 + b]⟩) (by intro c hc; simp at hc; omega) (by simp) (Nat.le_of_ble_eq_true rfl)
  rw [h]
  congr 1
  simp [NumText.digitsVal]
  omega
section
variable {prog : Program} {w : World} {A : Around} {E : Value → Shared → Prop} {s : Shared}
theorem getm_search {pl : Sem Bool} {Q : Value × List Value → Shared → Prop} (hP : s.heap.get? 58 = some patO)
    (h : Q (.builtin "re.Pattern.search", [.ref 58]) s) : wpAny (model prog w) A (getMethod (.ref 58) (Str.ofString "search") pl) Q E s :=
  getMethod_builtin ⟨_, hP, rfl⟩ plainAttrs_pat slot_search type_search (fun a e => by cases e; exact ⟨_, hP, rfl⟩) h
theorem search_N {Q : Value → Shared → Prop} {tz : Str} {t : Tok} {sp : List Int} {h₀ : Heap} {L : Addr} {m : Str → Option Value} {news : List (Addr × Obj)} (F : Fr h₀ L s.heap m) (N : News h₀ L s.heap news)
    (X : (hd.heap_39 w.params).In h₀) (H : Hit tz sp) (hz : tz.cps.size < 100) (hsp : sp.length = 6)
    (h : ∀ a q h', Fr h₀ L h' m → News h₀ L h' ((q, matO tz t tz.cps.size 3 a) :: (a, spanO 0 tz.cps.size sp) :: news) → a < q → (∀ p ∈ news, p.1 < a) → Q (.ref q) { s with heap := h' }) :
    wpAny (model prog w) A (call (.builtin "re.Pattern.search") [.ref 58, .str tz t]) Q E s := by
  refine search_call (at58 (X.keeps F.keep)) (at57 (X.keeps F.keep)) H hz hsp ?_
  refine h _ _ _ ((F.push _).push _) ((N.push F _).push (F.push _) _) ?_ ?_
  · show s.heap.objs.size < (s.heap.objs.push _).size
    rw [Array.size_push]; exact Nat.lt_succ_self _
  · exact fun p hp => Heap.lt_size (N p hp).1
theorem getm_group {pl : Sem Bool} {Q : Value × List Value → Shared → Prop} {tz : Str} {t : Tok} {lim : Nat} {li : Int} {q a : Addr} {h₀ : Heap} {L : Addr} {news : List (Addr × Obj)} (N : News h₀ L s.heap news) (hm : (q, matO tz t lim li a) ∈ news)
    (h : Q (.builtin "re.Match.group", [.ref q]) s) : wpAny (model prog w) A (getMethod (.ref q) (Str.ofString "group") pl) Q E s :=
  getMethod_builtin ⟨_, (N _ hm).1, rfl⟩ plainAttrs_mat slot_group type_group (fun a e => by cases e; exact ⟨_, (N _ hm).1, rfl⟩) h
theorem truthy_N {Q : Bool → Shared → Prop} {tz : Str} {t : Tok} {lim : Nat} {li : Int} {q a : Addr} {h₀ : Heap} {L : Addr} {news : List (Addr × Obj)} (N : News h₀ L s.heap news) (hm : (q, matO tz t lim li a) ∈ news)
    (h : Q true s) : wpAny (model prog w) A (truthy (.ref q)) Q E s := truthy_mat (N _ hm).1 h
theorem group_none {Q : Value → Shared → Prop} {tz : Str} {t u : Tok} {lim : Nat} {li : Int} {q a : Addr} {h₀ : Heap} {L : Addr} {news : List (Addr × Obj)} {st en : Nat} {sp : List Int} {g : Nat} (N : News h₀ L s.heap news) (hm : (q, matO tz t lim li a) ∈ news) (ha : (a, spanO st en sp) ∈ news)
    (hg : g < 4) (hg0 : 0 < g) (hsp : sp.length = 6) (hz : tz.cps.size < 100) (hb : sp.getD (2 * g - 2) (-1) < 0) (h : Q .none s) :
    wpAny (model prog w) A (call (.builtin "re.Match.group") [.ref q, .int (g : Int) u]) Q E s := group_call (N _ hm).1 (N _ ha).1 hg hg0 hsp hz (by rw [if_pos (.inl hb)]; exact h)
theorem group_some {Q : Value → Shared → Prop} {tz : Str} {t u : Tok} {lim : Nat} {li : Int} {q a : Addr} {h₀ : Heap} {L : Addr} {news : List (Addr × Obj)} {st en : Nat} {sp : List Int} {g : Nat} {x : Array Nat} (N : News h₀ L s.heap news) (hm : (q, matO tz t lim li a) ∈ news) (ha : (a, spanO st en sp) ∈ news)
    (hg : g < 4) (hg0 : 0 < g) (hsp : sp.length = 6) (hz : tz.cps.size < 100) (hb : ¬ (sp.getD (2 * g - 2) (-1) < 0 ∨ sp.getD (2 * g - 1) (-1) < 0)) (hx : tz.cps.extract (sp.getD (2 * g - 2) (-1)).toNat (sp.getD (2 * g - 1) (-1)).toNat = x)
    (h : Q (.str ⟨x⟩ s.toks) { s with toks := s.toks + 1 }) :
    wpAny (model prog w) A (call (.builtin "re.Match.group") [.ref q, .int (g : Int) u]) Q E s := group_call (N _ hm).1 (N _ ha).1 hg hg0 hsp hz (by rw [if_neg hb, hx]; exact h)
end

local macro_rules | `(tactic| walk_at "getMethod ref") => `(tactic| (k_here; (with_reducible show wpAny _ _ (getMethod (Value.ref 58) (Str.ofString "search") _) _ _ _); (with_reducible rename Fr _ _ _ _ => kF); (refine getm_search (at58 (Frag.In.keeps (by assumption) kF.keep)) ?_)))
local macro_rules | `(tactic| walk_at "call builtin:re.Pattern.search") => `(tactic| (k_here; (with_reducible rename Fr _ _ _ _ => kF); (with_reducible rename News _ _ _ _ => kN); (refine search_N kF kN (by assumption) (by assumption) (by assumption) rfl ?_); intro a' q' h' F' N' l1 l2; (try k_lt l1); (try k_lt l2); (try k_sweep)))
local macro_rules | `(tactic| walk_at "getMethod ref") => `(tactic| (k_here; (with_reducible show wpAny _ _ (getMethod (Value.ref _) (Str.ofString "group") _) _ _ _); k_dflt (refine' getm_group ?N ?m ?_; (case N => k_asm); (case m => k_mem))))
local macro_rules | `(tactic| walk_at "call builtin:re.Match.group") => `(tactic| (k_here; first
  | k_dflt (refine' group_none (g := 1) ?N ?m ?a (by decide) (by decide) ?l (by assumption) ?z ?_; (case N => k_asm); (case m => k_mem); (case a => k_mem); (case l => rfl); (case z => decide))
  | k_dflt (refine' group_some (g := 1) ?N ?m ?a (by decide) (by decide) ?l (by assumption) ?z ?x ?_; (case N => k_asm); (case m => k_mem); (case a => k_mem); (case l => rfl); (case z => decide); (case x => assumption))
  | k_dflt (refine' group_some (g := 2) ?N ?m ?a (by decide) (by decide) ?l (by assumption) ?z ?x ?_; (case N => k_asm); (case m => k_mem); (case a => k_mem); (case l => rfl); (case z => decide); (case x => assumption))
  | k_dflt (refine' group_some (g := 3) ?N ?m ?a (by decide) (by decide) ?l (by assumption) ?z ?x ?_; (case N => k_asm); (case m => k_mem); (case a => k_mem); (case l => rfl); (case z => decide); (case x => assumption))))
local macro_rules | `(tactic| walk_at "call type:int") => `(tactic| (k_here; (with_reducible show wpAny _ _ (call (Value.type "int") [Value.str _ _]) _ _ _); (refine KIN.call_text (by with_reducible assumption) (Nat.le_of_ble_eq_true rfl) ?_)))
local macro_rules | `(tactic| walk_at "truthy ref") => `(tactic| (k_here; k_dflt (refine' truthy_N ?N ?m ?_; (case N => k_asm); (case m => k_mem))))

theorem tz_call_u0 : ∀ (w : World) {A : Around} {R : Result → Shared → Prop} {s : Shared} {loose : List Str} {mean : ExcName → Option Value} {mg mb : Str → Option Value}
    (X : (hd.heap_39 w.params).In s.heap) (T : Top hd.view_39 loose mean mg mb s.heap) (hA : A.handled = none) (hroom : A.depth < recursionLimit) (a b c d : Nat) (ha : a < 10) (hb : b < 10) (hc : c < 10) (h4 : d < 10) (tz : Str) (htz : tz = ⟨#[48 + a, 48 + b, 48 + c, 48 + d]⟩) (t1 : Tok)
    (hret : RetI R s (3600 * (10 * a + b : Nat) + 60 * (10 * c + d : Nat))),
    codeAny (model PySem.Challenge.rw_xg0008_01.row.prog w) A (.call (.ref 65) ⟨[.str tz t1], []⟩) R s := by
  w_top off
  k_fill
  intro w A R s loose mean mg mb X T hA hroom a b c d ha hb hc h4 tz htz t1 hret
  obtain ⟨hn, dp, fr, gd, un⟩ := A
  dsimp only at hA hroom
  subst hA
  have H := hit_u0 ha hb hc h4
  rw [← htz] at H
  have hz : tz.cps.size < 100 := by rw [htz]; exact (by decide : 4 < 100)
  have g2 : tz.cps.extract 0 2 = #[48 + a, 48 + b] := by rw [htz]; rfl
  have g3 : tz.cps.extract 2 4 = #[48 + c, 48 + d] := by rw [htz]; rfl
  have i2 : PySem.intText? ⟨#[48 + a, 48 + b]⟩ = some ((10 * a + b : Nat) : Int) := two_int ha hb
  have i3 : PySem.intText? ⟨#[48 + c, 48 + d]⟩ = some ((10 * c + d : Nat) : Int) := two_int hc h4
  k_dflt (refine' enter X T ?k6 ?k7 hroom ?k9 ?kB ?_ ?c2 ?c3 ?c4 ?c5; (case k6 => k_is); (case k7 => k_is); (case k9 => exact BindsTo.of_eq rfl); (case c5 => decide); (case kB => exact locs rfl); (case c2 => exact rfl); (case c3 => exact rfl); (case c4 => exact rfl))
  intro h₁ F N
  try dsimp only
  k_fold
  k_steps
  all_goals first
    | (exfalso; with_reducible (rename (_ || _) = true => hq); rw [htz] at hq; revert hq; simp; done)
    | (exfalso; omega)
    | (refine ret_int (R := R) (s := s) hret (Fr.keep (by assumption)) ?_; first | rfl | omega)

theorem tz_call_u1 : ∀ (w : World) {A : Around} {R : Result → Shared → Prop} {s : Shared} {loose : List Str} {mean : ExcName → Option Value} {mg mb : Str → Option Value}
    (X : (hd.heap_39 w.params).In s.heap) (T : Top hd.view_39 loose mean mg mb s.heap) (hA : A.handled = none) (hroom : A.depth < recursionLimit) (a b c d : Nat) (ha : a < 10) (hb : b < 10) (hc : c < 10) (h4 : d < 10) (tz : Str) (htz : tz = ⟨#[48 + a, 48 + b, 58, 48 + c, 48 + d]⟩) (t1 : Tok)
    (hret : RetI R s (3600 * (10 * a + b : Nat) + 60 * (10 * c + d : Nat))),
    codeAny (model PySem.Challenge.rw_xg0008_01.row.prog w) A (.call (.ref 65) ⟨[.str tz t1], []⟩) R s := by
  k_fill
  intro w A R s loose mean mg mb X T hA hroom a b c d ha hb hc h4 tz htz t1 hret
  obtain ⟨hn, dp, fr, gd, un⟩ := A
  dsimp only at hA hroom
  subst hA
  have H := hit_u1 ha hb hc h4
  rw [← htz] at H
  have hz : tz.cps.size < 100 := by rw [htz]; exact (by decide : 5 < 100)
  have g2 : tz.cps.extract 0 2 = #[48 + a, 48 + b] := by rw [htz]; rfl
  have g3 : tz.cps.extract 3 5 = #[48 + c, 48 + d] := by rw [htz]; rfl
  have i2 : PySem.intText? ⟨#[48 + a, 48 + b]⟩ = some ((10 * a + b : Nat) : Int) := two_int ha hb
  have i3 : PySem.intText? ⟨#[48 + c, 48 + d]⟩ = some ((10 * c + d : Nat) : Int) := two_int hc h4
  k_dflt (refine' enter X T ?k6 ?k7 hroom ?k9 ?kB ?_ ?c2 ?c3 ?c4 ?c5; (case k6 => k_is); (case k7 => k_is); (case k9 => exact BindsTo.of_eq rfl); (case c5 => decide); (case kB => exact locs rfl); (case c2 => exact rfl); (case c3 => exact rfl); (case c4 => exact rfl))
  intro h₁ F N
  try dsimp only
  k_fold
  k_steps
  all_goals first
    | (exfalso; with_reducible (rename (_ || _) = true => hq); rw [htz] at hq; revert hq; simp; done)
    | (exfalso; omega)
    | (refine ret_int (R := R) (s := s) hret (Fr.keep (by assumption)) ?_; first | rfl | omega)

theorem tz_call_p0 : ∀ (w : World) {A : Around} {R : Result → Shared → Prop} {s : Shared} {loose : List Str} {mean : ExcName → Option Value} {mg mb : Str → Option Value}
    (X : (hd.heap_39 w.params).In s.heap) (T : Top hd.view_39 loose mean mg mb s.heap) (hA : A.handled = none) (hroom : A.depth < recursionLimit) (a b c d : Nat) (ha : a < 10) (hb : b < 10) (hc : c < 10) (h4 : d < 10) (tz : Str) (htz : tz = ⟨#[43, 48 + a, 48 + b, 48 + c, 48 + d]⟩) (t1 : Tok)
    (hret : RetI R s (3600 * (10 * a + b : Nat) + 60 * (10 * c + d : Nat))),
    codeAny (model PySem.Challenge.rw_xg0008_01.row.prog w) A (.call (.ref 65) ⟨[.str tz t1], []⟩) R s := by
  k_fill
  intro w A R s loose mean mg mb X T hA hroom a b c d ha hb hc h4 tz htz t1 hret
  obtain ⟨hn, dp, fr, gd, un⟩ := A
  dsimp only at hA hroom
  subst hA
  have H := hit_p0 ha hb hc h4
  rw [← htz] at H
  have hz : tz.cps.size < 100 := by rw [htz]; exact (by decide : 5 < 100)
  have g2 : tz.cps.extract 1 3 = #[48 + a, 48 + b] := by rw [htz]; rfl
  have g3 : tz.cps.extract 3 5 = #[48 + c, 48 + d] := by rw [htz]; rfl
  have i2 : PySem.intText? ⟨#[48 + a, 48 + b]⟩ = some ((10 * a + b : Nat) : Int) := two_int ha hb
  have i3 : PySem.intText? ⟨#[48 + c, 48 + d]⟩ = some ((10 * c + d : Nat) : Int) := two_int hc h4
  have g1 : tz.cps.extract 0 1 = #[43] := by rw [htz]; rfl
  k_dflt (refine' enter X T ?k6 ?k7 hroom ?k9 ?kB ?_ ?c2 ?c3 ?c4 ?c5; (case k6 => k_is); (case k7 => k_is); (case k9 => exact BindsTo.of_eq rfl); (case c5 => decide); (case kB => exact locs rfl); (case c2 => exact rfl); (case c3 => exact rfl); (case c4 => exact rfl))
  intro h₁ F N
  try dsimp only
  k_fold
  k_steps
  all_goals first
    | (exfalso; with_reducible (rename (_ || _) = true => hq); rw [htz] at hq; revert hq; simp; done)
    | (exfalso; omega)
    | (refine ret_int (R := R) (s := s) hret (Fr.keep (by assumption)) ?_; first | rfl | omega)

theorem tz_call_p1 : ∀ (w : World) {A : Around} {R : Result → Shared → Prop} {s : Shared} {loose : List Str} {mean : ExcName → Option Value} {mg mb : Str → Option Value}
    (X : (hd.heap_39 w.params).In s.heap) (T : Top hd.view_39 loose mean mg mb s.heap) (hA : A.handled = none) (hroom : A.depth < recursionLimit) (a b c d : Nat) (ha : a < 10) (hb : b < 10) (hc : c < 10) (h4 : d < 10) (tz : Str) (htz : tz = ⟨#[43, 48 + a, 48 + b, 58, 48 + c, 48 + d]⟩) (t1 : Tok)
    (hret : RetI R s (3600 * (10 * a + b : Nat) + 60 * (10 * c + d : Nat))),
    codeAny (model PySem.Challenge.rw_xg0008_01.row.prog w) A (.call (.ref 65) ⟨[.str tz t1], []⟩) R s := by
  k_fill
  intro w A R s loose mean mg mb X T hA hroom a b c d ha hb hc h4 tz htz t1 hret
  obtain ⟨hn, dp, fr, gd, un⟩ := A
  dsimp only at hA hroom
  subst hA
  have H := hit_p1 ha hb hc h4
  rw [← htz] at H
  have hz : tz.cps.size < 100 := by rw [htz]; exact (by decide : 6 < 100)
  have g2 : tz.cps.extract 1 3 = #[48 + a, 48 + b] := by rw [htz]; rfl
  have g3 : tz.cps.extract 4 6 = #[48 + c, 48 + d] := by rw [htz]; rfl
  have i2 : PySem.intText? ⟨#[48 + a, 48 + b]⟩ = some ((10 * a + b : Nat) : Int) := two_int ha hb
  have i3 : PySem.intText? ⟨#[48 + c, 48 + d]⟩ = some ((10 * c + d : Nat) : Int) := two_int hc h4
  have g1 : tz.cps.extract 0 1 = #[43] := by rw [htz]; rfl
  k_dflt (refine' enter X T ?k6 ?k7 hroom ?k9 ?kB ?_ ?c2 ?c3 ?c4 ?c5; (case k6 => k_is); (case k7 => k_is); (case k9 => exact BindsTo.of_eq rfl); (case c5 => decide); (case kB => exact locs rfl); (case c2 => exact rfl); (case c3 => exact rfl); (case c4 => exact rfl))
  intro h₁ F N
  try dsimp only
  k_fold
  k_steps
  all_goals first
    | (exfalso; with_reducible (rename (_ || _) = true => hq); rw [htz] at hq; revert hq; simp; done)
    | (exfalso; omega)
    | (refine ret_int (R := R) (s := s) hret (Fr.keep (by assumption)) ?_; first | rfl | omega)

theorem tz_call_m0 : ∀ (w : World) {A : Around} {R : Result → Shared → Prop} {s : Shared} {loose : List Str} {mean : ExcName → Option Value} {mg mb : Str → Option Value}
    (X : (hd.heap_39 w.params).In s.heap) (T : Top hd.view_39 loose mean mg mb s.heap) (hA : A.handled = none) (hroom : A.depth < recursionLimit) (a b c d : Nat) (ha : a < 10) (hb : b < 10) (hc : c < 10) (h4 : d < 10) (tz : Str) (htz : tz = ⟨#[45, 48 + a, 48 + b, 48 + c, 48 + d]⟩) (t1 : Tok)
    (hret : RetI R s (-(3600 * (10 * a + b : Nat) + 60 * (10 * c + d : Nat)))),
    codeAny (model PySem.Challenge.rw_xg0008_01.row.prog w) A (.call (.ref 65) ⟨[.str tz t1], []⟩) R s := by
  k_fill
  intro w A R s loose mean mg mb X T hA hroom a b c d ha hb hc h4 tz htz t1 hret
  obtain ⟨hn, dp, fr, gd, un⟩ := A
  dsimp only at hA hroom
  subst hA
  have H := hit_m0 ha hb hc h4
  rw [← htz] at H
  have hz : tz.cps.size < 100 := by rw [htz]; exact (by decide : 5 < 100)
  have g2 : tz.cps.extract 1 3 = #[48 + a, 48 + b] := by rw [htz]; rfl
  have g3 : tz.cps.extract 3 5 = #[48 + c, 48 + d] := by rw [htz]; rfl
  have i2 : PySem.intText? ⟨#[48 + a, 48 + b]⟩ = some ((10 * a + b : Nat) : Int) := two_int ha hb
  have i3 : PySem.intText? ⟨#[48 + c, 48 + d]⟩ = some ((10 * c + d : Nat) : Int) := two_int hc h4
  have g1 : tz.cps.extract 0 1 = #[45] := by rw [htz]; rfl
  k_dflt (refine' enter X T ?k6 ?k7 hroom ?k9 ?kB ?_ ?c2 ?c3 ?c4 ?c5; (case k6 => k_is); (case k7 => k_is); (case k9 => exact BindsTo.of_eq rfl); (case c5 => decide); (case kB => exact locs rfl); (case c2 => exact rfl); (case c3 => exact rfl); (case c4 => exact rfl))
  intro h₁ F N
  try dsimp only
  k_fold
  k_steps
  all_goals first
    | (exfalso; with_reducible (rename (_ || _) = true => hq); rw [htz] at hq; revert hq; simp; done)
    | (exfalso; omega)
    | (refine ret_int (R := R) (s := s) hret (Fr.keep (by assumption)) ?_; first | rfl | omega)

theorem tz_call_m1 : ∀ (w : World) {A : Around} {R : Result → Shared → Prop} {s : Shared} {loose : List Str} {mean : ExcName → Option Value} {mg mb : Str → Option Value}
    (X : (hd.heap_39 w.params).In s.heap) (T : Top hd.view_39 loose mean mg mb s.heap) (hA : A.handled = none) (hroom : A.depth < recursionLimit) (a b c d : Nat) (ha : a < 10) (hb : b < 10) (hc : c < 10) (h4 : d < 10) (tz : Str) (htz : tz = ⟨#[45, 48 + a, 48 + b, 58, 48 + c, 48 + d]⟩) (t1 : Tok)
    (hret : RetI R s (-(3600 * (10 * a + b : Nat) + 60 * (10 * c + d : Nat)))),
    codeAny (model PySem.Challenge.rw_xg0008_01.row.prog w) A (.call (.ref 65) ⟨[.str tz t1], []⟩) R s := by
  k_fill
  intro w A R s loose mean mg mb X T hA hroom a b c d ha hb hc h4 tz htz t1 hret
  obtain ⟨hn, dp, fr, gd, un⟩ := A
  dsimp only at hA hroom
  subst hA
  have H := hit_m1 ha hb hc h4
  rw [← htz] at H
  have hz : tz.cps.size < 100 := by rw [htz]; exact (by decide : 6 < 100)
  have g2 : tz.cps.extract 1 3 = #[48 + a, 48 + b] := by rw [htz]; rfl
  have g3 : tz.cps.extract 4 6 = #[48 + c, 48 + d] := by rw [htz]; rfl
  have i2 : PySem.intText? ⟨#[48 + a, 48 + b]⟩ = some ((10 * a + b : Nat) : Int) := two_int ha hb
  have i3 : PySem.intText? ⟨#[48 + c, 48 + d]⟩ = some ((10 * c + d : Nat) : Int) := two_int hc h4
  have g1 : tz.cps.extract 0 1 = #[45] := by rw [htz]; rfl
  k_dflt (refine' enter X T ?k6 ?k7 hroom ?k9 ?kB ?_ ?c2 ?c3 ?c4 ?c5; (case k6 => k_is); (case k7 => k_is); (case k9 => exact BindsTo.of_eq rfl); (case c5 => decide); (case kB => exact locs rfl); (case c2 => exact rfl); (case c3 => exact rfl); (case c4 => exact rfl))
  intro h₁ F N
  try dsimp only
  k_fold
  k_steps
  all_goals first
    | (exfalso; with_reducible (rename (_ || _) = true => hq); rw [htz] at hq; revert hq; simp; done)
    | (exfalso; omega)
    | (refine ret_int (R := R) (s := s) hret (Fr.keep (by assumption)) ?_; first | rfl | omega)
end Mine
end

section
open PySem PySem.Spec PySem.Calls PySem.W PyProof.Rows
set_option Elab.async false
set_option maxRecDepth 100000
set_option maxHeartbeats 8000000
set_option linter.unusedVariables false
namespace Mine
theorem dig_text {n : Int} (h0 : 0 ≤ n) (h1 : n < 10) : Str.ofString (toString n) = ⟨#[48 + n.toNat]⟩ := by
  have : n = 0 ∨ n = 1 ∨ n = 2 ∨ n = 3 ∨ n = 4 ∨ n = 5 ∨ n = 6 ∨ n = 7 ∨ n = 8 ∨ n = 9 := by omega
  rcases this with rfl | rfl | rfl | rfl | rfl | rfl | rfl | rfl | rfl | rfl <;> decide +kernel
theorem zone_facts {n : Int} (h0 : 0 ≤ n) (h1 : n ≤ 5040) : (0 ≤ (n.fdiv 60).fdiv 10 ∧ (n.fdiv 60).fdiv 10 < 10) ∧ (0 ≤ (n.fdiv 60).fmod 10 ∧ (n.fdiv 60).fmod 10 < 10) ∧ (0 ≤ (n.fmod 60).fdiv 10 ∧ (n.fmod 60).fdiv 10 < 10) ∧ (0 ≤ (n.fmod 60).fmod 10 ∧ (n.fmod 60).fmod 10 < 10) ∧
    3600 * (10 * ((n.fdiv 60).fdiv 10) + (n.fdiv 60).fmod 10) + 60 * (10 * ((n.fmod 60).fdiv 10) + (n.fmod 60).fmod 10) = 60 * n := by
  simp only [Int.fdiv_eq_ediv_of_nonneg _ (show (0 : Int) ≤ 60 by decide), Int.fdiv_eq_ediv_of_nonneg _ (show (0 : Int) ≤ 10 by decide), Int.fmod_eq_emod_of_nonneg _ (show (0 : Int) ≤ 60 by decide), Int.fmod_eq_emod_of_nonneg _ (show (0 : Int) ≤ 10 by decide)]
  omega
theorem ret_str {R : Result → Shared → Prop} {s : Shared} {x y : Str} {t : Tok} {h' : Heap} {tk' : Nat}
    (hret : ∀ (t : Tok) (h' : Heap) (tk' : Nat), (∀ b o, s.heap.get? b = some o → h'.get? b = some o) → R (.ok (.ret (.str x t))) { s with heap := h', toks := tk' })
    (hk : ∀ b o, s.heap.get? b = some o → h'.get? b = some o) (e : x = y) : R (.ok (.ret (.str y t))) { s with heap := h', toks := tk' } := by
  subst e
  exact hret t h' tk' hk
abbrev dA (n : Int) : Nat := ((n.fdiv 60).fdiv 10).toNat
abbrev dB (n : Int) : Nat := ((n.fdiv 60).fmod 10).toNat
abbrev dC (n : Int) : Nat := ((n.fmod 60).fdiv 10).toNat
abbrev dD (n : Int) : Nat := ((n.fmod 60).fmod 10).toNat

theorem zone_call_p0 : ∀ (w : World) {A : Around} {R : Result → Shared → Prop} {s : Shared} {loose : List Str} {mean : ExcName → Option Value} {mg mb : Str → Option Value}
    (X : (hd.heap_39 w.params).In s.heap) (T : Top hd.view_39 loose mean mg mb s.heap) (hA : A.handled = none) (hroom : A.depth < recursionLimit) (m n : Int) (hmn : (if m < 0 then -m else m) = n) (hs : ¬ m < 0) (h0 : 0 ≤ n) (h1 : n ≤ 5040) (t1 t2 : Tok)
    (hret : ∀ (t : Tok) (h' : Heap) (tk' : Nat), (∀ b o, s.heap.get? b = some o → h'.get? b = some o) → R (.ok (.ret (.str ⟨#[43, 48 + dA n, 48 + dB n, 58, 48 + dC n, 48 + dD n]⟩ t))) { s with heap := h', toks := tk' }),
    codeAny (model PySem.Challenge.rw_xg0008_01.row.prog w) A (.call (.ref 84) ⟨[.int m t1, .int 0 t2], []⟩) R s := by
  w_top off
  k_fill
  intro w A R s loose mean mg mb X T hA hroom m n hmn hs h0 h1 t1 t2 hret
  obtain ⟨hn, dp, fr, gd, un⟩ := A
  dsimp only at hA hroom
  subst hA
  obtain ⟨⟨q1, q2⟩, ⟨q3, q4⟩, ⟨q5, q6⟩, ⟨q7, q8⟩, q9⟩ := zone_facts h0 h1
  rw [← hmn] at q1 q2 q3 q4 q5 q6 q7 q8
  k_dflt (refine' enter X T ?k6 ?k7 hroom ?k9 ?kB ?_ ?c2 ?c3 ?c4 ?c5; (case k6 => k_is); (case k7 => k_is); (case k9 => exact BindsTo.of_eq rfl); (case c5 => decide); (case kB => exact locs rfl); (case c2 => exact rfl); (case c3 => exact rfl); (case c4 => exact rfl))
  intro h₁ F N
  try dsimp only
  k_fold
  k_steps
  all_goals (
    refine ret_str (R := R) (s := s) hret (Fr.keep (by assumption)) ?_
    simp only [hmn] at q1 q2 q3 q4 q5 q6 q7 q8 ⊢
    simp only [dig_text q1 q2, dig_text q3 q4, dig_text q5 q6, dig_text q7 q8]
    kernel_rfl)

theorem zone_call_p1 : ∀ (w : World) {A : Around} {R : Result → Shared → Prop} {s : Shared} {loose : List Str} {mean : ExcName → Option Value} {mg mb : Str → Option Value}
    (X : (hd.heap_39 w.params).In s.heap) (T : Top hd.view_39 loose mean mg mb s.heap) (hA : A.handled = none) (hroom : A.depth < recursionLimit) (m n : Int) (hmn : (if m < 0 then -m else m) = n) (hs : ¬ m < 0) (h0 : 0 ≤ n) (h1 : n ≤ 5040) (t1 t2 : Tok)
    (hret : ∀ (t : Tok) (h' : Heap) (tk' : Nat), (∀ b o, s.heap.get? b = some o → h'.get? b = some o) → R (.ok (.ret (.str ⟨#[43, 48 + dA n, 48 + dB n, 48 + dC n, 48 + dD n]⟩ t))) { s with heap := h', toks := tk' }),
    codeAny (model PySem.Challenge.rw_xg0008_01.row.prog w) A (.call (.ref 84) ⟨[.int m t1, .int 1 t2], []⟩) R s := by
  k_fill
  intro w A R s loose mean mg mb X T hA hroom m n hmn hs h0 h1 t1 t2 hret
  obtain ⟨hn, dp, fr, gd, un⟩ := A
  dsimp only at hA hroom
  subst hA
  obtain ⟨⟨q1, q2⟩, ⟨q3, q4⟩, ⟨q5, q6⟩, ⟨q7, q8⟩, q9⟩ := zone_facts h0 h1
  rw [← hmn] at q1 q2 q3 q4 q5 q6 q7 q8
  k_dflt (refine' enter X T ?k6 ?k7 hroom ?k9 ?kB ?_ ?c2 ?c3 ?c4 ?c5; (case k6 => k_is); (case k7 => k_is); (case k9 => exact BindsTo.of_eq rfl); (case c5 => decide); (case kB => exact locs rfl); (case c2 => exact rfl); (case c3 => exact rfl); (case c4 => exact rfl))
  intro h₁ F N
  try dsimp only
  k_fold
  k_steps
  all_goals (
    refine ret_str (R := R) (s := s) hret (Fr.keep (by assumption)) ?_
    simp only [hmn] at q1 q2 q3 q4 q5 q6 q7 q8 ⊢
    simp only [dig_text q1 q2, dig_text q3 q4, dig_text q5 q6, dig_text q7 q8]
    kernel_rfl)

theorem zone_call_p2 : ∀ (w : World) {A : Around} {R : Result → Shared → Prop} {s : Shared} {loose : List Str} {mean : ExcName → Option Value} {mg mb : Str → Option Value}
    (X : (hd.heap_39 w.params).In s.heap) (T : Top hd.view_39 loose mean mg mb s.heap) (hA : A.handled = none) (hroom : A.depth < recursionLimit) (m n : Int) (hmn : (if m < 0 then -m else m) = n) (hs : ¬ m < 0) (h0 : 0 ≤ n) (h1 : n ≤ 5040) (t1 t2 : Tok)
    (hret : ∀ (t : Tok) (h' : Heap) (tk' : Nat), (∀ b o, s.heap.get? b = some o → h'.get? b = some o) → R (.ok (.ret (.str ⟨#[48 + dA n, 48 + dB n, 58, 48 + dC n, 48 + dD n]⟩ t))) { s with heap := h', toks := tk' }),
    codeAny (model PySem.Challenge.rw_xg0008_01.row.prog w) A (.call (.ref 84) ⟨[.int m t1, .int 2 t2], []⟩) R s := by
  k_fill
  intro w A R s loose mean mg mb X T hA hroom m n hmn hs h0 h1 t1 t2 hret
  obtain ⟨hn, dp, fr, gd, un⟩ := A
  dsimp only at hA hroom
  subst hA
  obtain ⟨⟨q1, q2⟩, ⟨q3, q4⟩, ⟨q5, q6⟩, ⟨q7, q8⟩, q9⟩ := zone_facts h0 h1
  rw [← hmn] at q1 q2 q3 q4 q5 q6 q7 q8
  k_dflt (refine' enter X T ?k6 ?k7 hroom ?k9 ?kB ?_ ?c2 ?c3 ?c4 ?c5; (case k6 => k_is); (case k7 => k_is); (case k9 => exact BindsTo.of_eq rfl); (case c5 => decide); (case kB => exact locs rfl); (case c2 => exact rfl); (case c3 => exact rfl); (case c4 => exact rfl))
  intro h₁ F N
  try dsimp only
  k_fold
  k_steps
  all_goals (
    refine ret_str (R := R) (s := s) hret (Fr.keep (by assumption)) ?_
    simp only [hmn] at q1 q2 q3 q4 q5 q6 q7 q8 ⊢
    simp only [dig_text q1 q2, dig_text q3 q4, dig_text q5 q6, dig_text q7 q8]
    kernel_rfl)

theorem zone_call_p3 : ∀ (w : World) {A : Around} {R : Result → Shared → Prop} {s : Shared} {loose : List Str} {mean : ExcName → Option Value} {mg mb : Str → Option Value}
    (X : (hd.heap_39 w.params).In s.heap) (T : Top hd.view_39 loose mean mg mb s.heap) (hA : A.handled = none) (hroom : A.depth < recursionLimit) (m n : Int) (hmn : (if m < 0 then -m else m) = n) (hs : ¬ m < 0) (h0 : 0 ≤ n) (h1 : n ≤ 5040) (t1 t2 : Tok)
    (hret : ∀ (t : Tok) (h' : Heap) (tk' : Nat), (∀ b o, s.heap.get? b = some o → h'.get? b = some o) → R (.ok (.ret (.str ⟨#[48 + dA n, 48 + dB n, 48 + dC n, 48 + dD n]⟩ t))) { s with heap := h', toks := tk' }),
    codeAny (model PySem.Challenge.rw_xg0008_01.row.prog w) A (.call (.ref 84) ⟨[.int m t1, .int 3 t2], []⟩) R s := by
  k_fill
  intro w A R s loose mean mg mb X T hA hroom m n hmn hs h0 h1 t1 t2 hret
  obtain ⟨hn, dp, fr, gd, un⟩ := A
  dsimp only at hA hroom
  subst hA
  obtain ⟨⟨q1, q2⟩, ⟨q3, q4⟩, ⟨q5, q6⟩, ⟨q7, q8⟩, q9⟩ := zone_facts h0 h1
  rw [← hmn] at q1 q2 q3 q4 q5 q6 q7 q8
  k_dflt (refine' enter X T ?k6 ?k7 hroom ?k9 ?kB ?_ ?c2 ?c3 ?c4 ?c5; (case k6 => k_is); (case k7 => k_is); (case k9 => exact BindsTo.of_eq rfl); (case c5 => decide); (case kB => exact locs rfl); (case c2 => exact rfl); (case c3 => exact rfl); (case c4 => exact rfl))
  intro h₁ F N
  try dsimp only
  k_fold
  k_steps
  all_goals (
    refine ret_str (R := R) (s := s) hret (Fr.keep (by assumption)) ?_
    simp only [hmn] at q1 q2 q3 q4 q5 q6 q7 q8 ⊢
    simp only [dig_text q1 q2, dig_text q3 q4, dig_text q5 q6, dig_text q7 q8]
    kernel_rfl)

theorem zone_call_m0 : ∀ (w : World) {A : Around} {R : Result → Shared → Prop} {s : Shared} {loose : List Str} {mean : ExcName → Option Value} {mg mb : Str → Option Value}
    (X : (hd.heap_39 w.params).In s.heap) (T : Top hd.view_39 loose mean mg mb s.heap) (hA : A.handled = none) (hroom : A.depth < recursionLimit) (m n : Int) (hmn : (if m < 0 then -m else m) = n) (hs : m < 0) (h0 : 0 ≤ n) (h1 : n ≤ 5040) (t1 t2 : Tok)
    (hret : ∀ (t : Tok) (h' : Heap) (tk' : Nat), (∀ b o, s.heap.get? b = some o → h'.get? b = some o) → R (.ok (.ret (.str ⟨#[45, 48 + dA n, 48 + dB n, 58, 48 + dC n, 48 + dD n]⟩ t))) { s with heap := h', toks := tk' }),
    codeAny (model PySem.Challenge.rw_xg0008_01.row.prog w) A (.call (.ref 84) ⟨[.int m t1, .int 0 t2], []⟩) R s := by
  k_fill
  intro w A R s loose mean mg mb X T hA hroom m n hmn hs h0 h1 t1 t2 hret
  obtain ⟨hn, dp, fr, gd, un⟩ := A
  dsimp only at hA hroom
  subst hA
  obtain ⟨⟨q1, q2⟩, ⟨q3, q4⟩, ⟨q5, q6⟩, ⟨q7, q8⟩, q9⟩ := zone_facts h0 h1
  rw [← hmn] at q1 q2 q3 q4 q5 q6 q7 q8
  k_dflt (refine' enter X T ?k6 ?k7 hroom ?k9 ?kB ?_ ?c2 ?c3 ?c4 ?c5; (case k6 => k_is); (case k7 => k_is); (case k9 => exact BindsTo.of_eq rfl); (case c5 => decide); (case kB => exact locs rfl); (case c2 => exact rfl); (case c3 => exact rfl); (case c4 => exact rfl))
  intro h₁ F N
  try dsimp only
  k_fold
  k_steps
  all_goals (
    refine ret_str (R := R) (s := s) hret (Fr.keep (by assumption)) ?_
    simp only [hmn] at q1 q2 q3 q4 q5 q6 q7 q8 ⊢
    simp only [dig_text q1 q2, dig_text q3 q4, dig_text q5 q6, dig_text q7 q8]
    kernel_rfl)

theorem zone_call_m1 : ∀ (w : World) {A : Around} {R : Result → Shared → Prop} {s : Shared} {loose : List Str} {mean : ExcName → Option Value} {mg mb : Str → Option Value}
    (X : (hd.heap_39 w.params).In s.heap) (T : Top hd.view_39 loose mean mg mb s.heap) (hA : A.handled = none) (hroom : A.depth < recursionLimit) (m n : Int) (hmn : (if m < 0 then -m else m) = n) (hs : m < 0) (h0 : 0 ≤ n) (h1 : n ≤ 5040) (t1 t2 : Tok)
    (hret : ∀ (t : Tok) (h' : Heap) (tk' : Nat), (∀ b o, s.heap.get? b = some o → h'.get? b = some o) → R (.ok (.ret (.str ⟨#[45, 48 + dA n, 48 + dB n, 48 + dC n, 48 + dD n]⟩ t))) { s with heap := h', toks := tk' }),
    codeAny (model PySem.Challenge.rw_xg0008_01.row.prog w) A (.call (.ref 84) ⟨[.int m t1, .int 1 t2], []⟩) R s := by
  k_fill
  intro w A R s loose mean mg mb X T hA hroom m n hmn hs h0 h1 t1 t2 hret
  obtain ⟨hn, dp, fr, gd, un⟩ := A
  dsimp only at hA hroom
  subst hA
  obtain ⟨⟨q1, q2⟩, ⟨q3, q4⟩, ⟨q5, q6⟩, ⟨q7, q8⟩, q9⟩ := zone_facts h0 h1
  rw [← hmn] at q1 q2 q3 q4 q5 q6 q7 q8
  k_dflt (refine' enter X T ?k6 ?k7 hroom ?k9 ?kB ?_ ?c2 ?c3 ?c4 ?c5; (case k6 => k_is); (case k7 => k_is); (case k9 => exact BindsTo.of_eq rfl); (case c5 => decide); (case kB => exact locs rfl); (case c2 => exact rfl); (case c3 => exact rfl); (case c4 => exact rfl))
  intro h₁ F N
  try dsimp only
  k_fold
  k_steps
  all_goals (
    refine ret_str (R := R) (s := s) hret (Fr.keep (by assumption)) ?_
    simp only [hmn] at q1 q2 q3 q4 q5 q6 q7 q8 ⊢
    simp only [dig_text q1 q2, dig_text q3 q4, dig_text q5 q6, dig_text q7 q8]
    kernel_rfl)

theorem zone_call_m2 : ∀ (w : World) {A : Around} {R : Result → Shared → Prop} {s : Shared} {loose : List Str} {mean : ExcName → Option Value} {mg mb : Str → Option Value}
    (X : (hd.heap_39 w.params).In s.heap) (T : Top hd.view_39 loose mean mg mb s.heap) (hA : A.handled = none) (hroom : A.depth < recursionLimit) (m n : Int) (hmn : (if m < 0 then -m else m) = n) (hs : m < 0) (h0 : 0 ≤ n) (h1 : n ≤ 5040) (t1 t2 : Tok)
    (hret : ∀ (t : Tok) (h' : Heap) (tk' : Nat), (∀ b o, s.heap.get? b = some o → h'.get? b = some o) → R (.ok (.ret (.str ⟨#[45, 48 + dA n, 48 + dB n, 58, 48 + dC n, 48 + dD n]⟩ t))) { s with heap := h', toks := tk' }),
    codeAny (model PySem.Challenge.rw_xg0008_01.row.prog w) A (.call (.ref 84) ⟨[.int m t1, .int 2 t2], []⟩) R s := by
  k_fill
  intro w A R s loose mean mg mb X T hA hroom m n hmn hs h0 h1 t1 t2 hret
  obtain ⟨hn, dp, fr, gd, un⟩ := A
  dsimp only at hA hroom
  subst hA
  obtain ⟨⟨q1, q2⟩, ⟨q3, q4⟩, ⟨q5, q6⟩, ⟨q7, q8⟩, q9⟩ := zone_facts h0 h1
  rw [← hmn] at q1 q2 q3 q4 q5 q6 q7 q8
  k_dflt (refine' enter X T ?k6 ?k7 hroom ?k9 ?kB ?_ ?c2 ?c3 ?c4 ?c5; (case k6 => k_is); (case k7 => k_is); (case k9 => exact BindsTo.of_eq rfl); (case c5 => decide); (case kB => exact locs rfl); (case c2 => exact rfl); (case c3 => exact rfl); (case c4 => exact rfl))
  intro h₁ F N
  try dsimp only
  k_fold
  k_steps
  all_goals (
    refine ret_str (R := R) (s := s) hret (Fr.keep (by assumption)) ?_
    simp only [hmn] at q1 q2 q3 q4 q5 q6 q7 q8 ⊢
    simp only [dig_text q1 q2, dig_text q3 q4, dig_text q5 q6, dig_text q7 q8]
    kernel_rfl)

theorem zone_call_m3 : ∀ (w : World) {A : Around} {R : Result → Shared → Prop} {s : Shared} {loose : List Str} {mean : ExcName → Option Value} {mg mb : Str → Option Value}
    (X : (hd.heap_39 w.params).In s.heap) (T : Top hd.view_39 loose mean mg mb s.heap) (hA : A.handled = none) (hroom : A.depth < recursionLimit) (m n : Int) (hmn : (if m < 0 then -m else m) = n) (hs : m < 0) (h0 : 0 ≤ n) (h1 : n ≤ 5040) (t1 t2 : Tok)
    (hret : ∀ (t : Tok) (h' : Heap) (tk' : Nat), (∀ b o, s.heap.get? b = some o → h'.get? b = some o) → R (.ok (.ret (.str ⟨#[45, 48 + dA n, 48 + dB n, 48 + dC n, 48 + dD n]⟩ t))) { s with heap := h', toks := tk' }),
    codeAny (model PySem.Challenge.rw_xg0008_01.row.prog w) A (.call (.ref 84) ⟨[.int m t1, .int 3 t2], []⟩) R s := by
  k_fill
  intro w A R s loose mean mg mb X T hA hroom m n hmn hs h0 h1 t1 t2 hret
  obtain ⟨hn, dp, fr, gd, un⟩ := A
  dsimp only at hA hroom
  subst hA
  obtain ⟨⟨q1, q2⟩, ⟨q3, q4⟩, ⟨q5, q6⟩, ⟨q7, q8⟩, q9⟩ := zone_facts h0 h1
  rw [← hmn] at q1 q2 q3 q4 q5 q6 q7 q8
  k_dflt (refine' enter X T ?k6 ?k7 hroom ?k9 ?kB ?_ ?c2 ?c3 ?c4 ?c5; (case k6 => k_is); (case k7 => k_is); (case k9 => exact BindsTo.of_eq rfl); (case c5 => decide); (case kB => exact locs rfl); (case c2 => exact rfl); (case c3 => exact rfl); (case c4 => exact rfl))
  intro h₁ F N
  try dsimp only
  k_fold
  k_steps
  all_goals (
    refine ret_str (R := R) (s := s) hret (Fr.keep (by assumption)) ?_
    simp only [hmn] at q1 q2 q3 q4 q5 q6 q7 q8 ⊢
    simp only [dig_text q1 q2, dig_text q3 q4, dig_text q5 q6, dig_text q7 q8]
    kernel_rfl)
end Mine
end

section
open PySem PySem.Spec PySem.Calls PySem.W PyProof.Rows PySem.Builtin PySem.Builtin.Bytes
set_option Elab.async false
set_option maxRecDepth 100000
set_option linter.unusedVariables false
set_option maxHeartbeats 4000000
namespace Mine

section
variable {M : Model} {A : Around} {E : Value → Shared → Prop} {s : Shared}
theorem list_any {β : Type} {f : Nat → β → Sem (ForInStep β)} {Q : β → Shared → Prop} {n : Nat} (I : Nat → β → Prop)
    (step : ∀ i b, i < n → I i b → wpAny M A (f i b) (fun r s' => (∃ b', r = .yield b' ∧ I (i + 1) b') ∧ s' = s) (fun _ _ => False) s) (done : ∀ b, I n b → Q b s) :
    ∀ (k i : Nat) (b : β), i + k = n → I i b → wpAny M A (forIn (List.range' i k 1) b f) Q E s
  | 0, i, b, e, hi => by
    rw [List.range'_zero, List.forIn_nil]
    exact wpAny_pure (done b (by rw [← e]; exact hi))
  | k + 1, i, b, e, hi => by
    rw [List.range'_succ, List.forIn_cons]
    refine wpAny_bind (wpAny_mono (step i b (by omega) hi) ?_ fun _ _ e => e.elim)
    rintro r s' ⟨⟨b', hr, hb'⟩, hs⟩
    rw [hr, hs]
    exact list_any I step done k (i + 1) b' (by omega) hb'
theorem range_any {β : Type} {f : Nat → β → Sem (ForInStep β)} {Q : β → Shared → Prop} {n : Nat} {init : β} (I : Nat → β → Prop) (h0 : I 0 init)
    (step : ∀ i b, i < n → I i b → wpAny M A (f i b) (fun r s' => (∃ b', r = .yield b' ∧ I (i + 1) b') ∧ s' = s) (fun _ _ => False) s) (done : ∀ b, I n b → Q b s) :
    wpAny M A (forIn [:n] init f) Q E s := by
  rw [Std.Legacy.Range.forIn_eq_forIn_range']
  have e : [:n].size = n := by simp [Std.Legacy.Range.size]
  rw [e]
  exact list_any I step done n 0 init (by omega) h0

theorem take_quiet {id : String} {b : Array UInt8} {t : Tok} : takeBufferQuiet? id (.bytes b t) 0 = pure (some (b, none)) := by
  unfold takeBufferQuiet? takeBuffer?
  rw [KBy.special_eq KBy.look_buffer]
  simp only [pure_bind]
  rw [KBy.own_buffer]
  kernel_rfl

theorem joinLet_any {Q : Unit → Shared → Prop} (h : Q () s) : ∀ (l : List Value) (keep : List Value), wpAny M A (joinLetGo (l.map fun v => (v, none)) keep) Q E s
  | [], keep => wpAny_pure h
  | v :: l, keep => by
    show wpAny M A (letGo [v] _ >>= fun _ => joinLetGo (l.map fun v => (v, none)) keep) Q E s
    exact wpAny_bind (wpAny_letGo (joinLet_any h l keep))
end

section
variable {prog : Program} {w : World} {A : Around} {E : Value → Shared → Prop} {s : Shared} {Q : Value → Shared → Prop}

theorem any_none : ∀ (l : List (Array UInt8 × Tok)), (List.map (fun v => ((v, none) : Value × Option Value)) (l.map fun p => Value.bytes p.1 p.2)).any (fun x => x.1.onHeap) = false
  | [] => rfl
  | p :: l => by
    rw [List.map_cons, List.map_cons, List.any_cons, any_none l]
    rfl
abbrev bytesL (ps : List (Array UInt8 × Tok)) : List Value := ps.map fun p => Value.bytes p.1 p.2

theorem bjoin_call {sep : Array UInt8} {t : Tok} {l : Addr} {n : Nat} {ps : List (Array UInt8 × Tok)} {o : Obj} (hl : s.heap.get? l = some o) (hc : o.cls = .type "list") (hd : o.data = .seq (bytesL ps).toArray n)
    (hsz : (ps.map (·.1)).foldl (fun a b => a + b.size) (sep.size * (ps.length - 1)) ≤ 16777216) (hj : (joined sep (ps.map (·.1))).size ≤ 16777216)
    (h : ∀ t k, Q (.bytes (joined sep (ps.map (·.1))) t) { s with toks := k }) :
    wpAny (model prog w) A (call (.builtin "bytes.join") [.bytes sep t, .ref l]) Q E s := by
  have hT : s.TypeIs (.bytes sep t) "bytes" := rfl
  have hTl : s.TypeIs (.ref l) "list" := ⟨_, hl, hc⟩
  refine wpAny_call (codeAny_call_builtin slot_bjoin.plain entry_bjoin (slot_bjoin.check _ _ _ _ _ _ _ _ hT (args_bjoin _ _) ?_))
  unfold «bytes.join» joinM
  show wpAny _ _ (joinItems (.ref l) >>= fun seq => _) _ _ s
  refine wpAny_bind ?_
  unfold joinItems
  refine wpAny_bind (wpAny_typeOf hTl (wpAny_pure ?_))
  refine wpAny_bind (wpAny_seqItems hl hd ?_)
  have one : ∀ b u, ps = [(b, u)] → Q (.bytes b u) s := by
    rintro b u rfl
    have := h u s.toks
    have e : joined sep ([(b, u)].map (·.1)) = b := by simp [joined]
    rw [e] at this
    exact this
  have main : ∀ {β : Type} (f : Nat → (Array (Array UInt8) × List (Value × Option Value)) → Sem (ForInStep (Array (Array UInt8) × List (Value × Option Value)))) (k : (Array (Array UInt8) × List (Value × Option Value)) → Sem PySem.Fin) (Q' : PySem.Fin → Shared → Prop) (E' : Value → Shared → Prop) (A' : Around),
      (∀ i, i < ps.length → wpAny (model prog w) A' (f i (((ps.take i).map (·.1)).toArray, (bytesL (ps.take i)).map fun v => (v, none))) (fun r s' => r = .yield (((ps.take (i + 1)).map (·.1)).toArray, (bytesL (ps.take (i + 1))).map fun v => (v, none)) ∧ s' = s) (fun _ _ => False) s) →
      wpAny (model prog w) A' (k ((ps.map (·.1)).toArray, (bytesL ps).map fun v => (v, none))) Q' E' s → wpAny (model prog w) A' (forIn [:(bytesL ps).toArray.size] ((#[] : Array (Array UInt8)), ([] : List (Value × Option Value))) f >>= k) Q' E' s := by
    intro _ f k Q' E' A' hf hk
    refine wpAny_bind (range_any (n := (bytesL ps).toArray.size) (fun i b => b = (((ps.take i).map (·.1)).toArray, (bytesL (ps.take i)).map fun v => (v, none))) rfl (fun i b hi hb => ?_) fun b hb => ?_)
    · rw [hb]
      refine wpAny_mono (hf i (by simpa [bytesL] using hi)) (fun r s' hr => ⟨⟨_, hr.1, rfl⟩, hr.2⟩) fun _ _ e => e
    · have hn : (bytesL ps).toArray.size = ps.length := by simp [bytesL]
      rw [hb, hn, List.take_length]
      exact hk
  have turn : ∀ (A' : Around) (i : Nat), i < ps.length → ∀ p, ps[i]? = some p → (bytesL ps).toArray.getD i .none = .bytes p.1 p.2 := by
    intro A' i hi p hp
    have e : (bytesL ps)[i]? = some (Value.bytes p.1 p.2) := by rw [List.getElem?_map, hp]; rfl
    simp [Array.getD_eq_getD_getElem?, e]
  rcases ps with _ | ⟨p, _ | ⟨q, r⟩⟩
  · show wpAny _ _ (forIn [:(bytesL []).toArray.size] ((#[] : Array (Array UInt8)), ([] : List (Value × Option Value))) _ >>= fun st => _) _ _ s
    generalize hps : ([] : List (Array UInt8 × Tok)) = ps at *
    refine main (β := Unit) _ _ _ _ _ (fun i hi => ?_) ?_
    · obtain ⟨p, hp⟩ : ∃ p, ps[i]? = some p := ⟨ps[i], List.getElem?_eq_getElem hi⟩
      have hx := turn A i hi p hp
      have hany : (List.map (fun v => ((v, none) : Value × Option Value)) (bytesL (List.take i ps))).any (fun x => x.1.onHeap) = false := by
        exact any_none _
      show wpAny _ _ (seqItems? (Value.ref l) >>= _) _ _ s
      refine wpAny_bind (wpAny_seqItems hl hd ?_)
      dsimp only
      rw [hx]
      show wpAny _ _ (if (false || List.any (List.map (fun v => ((v, none) : Value × Option Value)) (bytesL (List.take i ps))) (fun x => x.1.onHeap)) = true then _ else _) _ _ s
      rw [hany, if_neg (by decide)]
      refine wpAny_bind (wpAny_holding (wpAny_of_eq take_quiet ?_))
      dsimp only
      refine wpAny_bind (wpAny_seqItems hl hd ?_)
      dsimp only
      rw [if_neg (by simp)]
      refine wpAny_pure ⟨?_, rfl⟩
      rw [List.take_add_one, hp]
      simp [bytesL]
    · dsimp only
      refine wpAny_bind (wpAny_of_eq (a := sep) rfl ?_)
      have ht : tooLong (Array.foldl (fun x1 x2 => x1 + x2.size) (sep.size * ((List.map (fun x => x.1) ps).toArray.size - 1)) (List.map (fun x => x.1) ps).toArray) = false := by
        refine KBy.tooLong_not ?_
        simpa using hsz
      rw [ht, if_neg Bool.false_ne_true]
      refine wpAny_bind (wpAny_mkBytes ?_ (by rw [sizeLine_eq]; exact hj))
      refine wpAny_bind (wpAny_holding (wpAny_point ?_))
      refine wpAny_bind (joinLet_any ?_ _ _)
      exact wpAny_pure (h _ _)
  · show wpAny _ _ (typeOf (.bytes p.1 p.2) >>= fun ty => _) _ _ s
    refine wpAny_bind (wpAny_typeOf (typeIs_bytes _ _ _) ?_)
    rw [if_pos (by rfl)]
    refine wpAny_bind (wpAny_rule ?_)
    exact wpAny_pure (one _ _ rfl)
  · show wpAny _ _ (forIn [:(bytesL (p :: q :: r)).toArray.size] ((#[] : Array (Array UInt8)), ([] : List (Value × Option Value))) _ >>= fun st => _) _ _ s
    generalize hps : p :: q :: r = ps at *
    refine main (β := Unit) _ _ _ _ _ (fun i hi => ?_) ?_
    · obtain ⟨p, hp⟩ : ∃ p, ps[i]? = some p := ⟨ps[i], List.getElem?_eq_getElem hi⟩
      have hx := turn A i hi p hp
      have hany : (List.map (fun v => ((v, none) : Value × Option Value)) (bytesL (List.take i ps))).any (fun x => x.1.onHeap) = false := by
        exact any_none _
      show wpAny _ _ (seqItems? (Value.ref l) >>= _) _ _ s
      refine wpAny_bind (wpAny_seqItems hl hd ?_)
      dsimp only
      rw [hx]
      show wpAny _ _ (if (false || List.any (List.map (fun v => ((v, none) : Value × Option Value)) (bytesL (List.take i ps))) (fun x => x.1.onHeap)) = true then _ else _) _ _ s
      rw [hany, if_neg (by decide)]
      refine wpAny_bind (wpAny_holding (wpAny_of_eq take_quiet ?_))
      dsimp only
      refine wpAny_bind (wpAny_seqItems hl hd ?_)
      dsimp only
      rw [if_neg (by simp)]
      refine wpAny_pure ⟨?_, rfl⟩
      rw [List.take_add_one, hp]
      simp [bytesL]
    · dsimp only
      refine wpAny_bind (wpAny_of_eq (a := sep) rfl ?_)
      have ht : tooLong (Array.foldl (fun x1 x2 => x1 + x2.size) (sep.size * ((List.map (fun x => x.1) ps).toArray.size - 1)) (List.map (fun x => x.1) ps).toArray) = false := by
        refine KBy.tooLong_not ?_
        simpa using hsz
      rw [ht, if_neg Bool.false_ne_true]
      refine wpAny_bind (wpAny_mkBytes ?_ (by rw [sizeLine_eq]; exact hj))
      refine wpAny_bind (wpAny_holding (wpAny_point ?_))
      refine wpAny_bind (joinLet_any ?_ _ _)
      exact wpAny_pure (h _ _)
end
end Mine
end

section
open PySem PySem.Spec PySem.Calls PySem.W PyProof.Rows PySem.Builtin PySem.Builtin.Re
set_option Elab.async false
set_option maxRecDepth 100000
set_option linter.unusedVariables false
set_option maxHeartbeats 4000000
namespace Mine
def qC : Array Nat := #[14, 4, 0, 1, 1, 6, 1, 16, 46, 1]
def qS (text : Array Nat) (lim s : Nat) (first : Bool) (seen : Sre.Seen) : Sre.M :=
  { code := qC, text, lim, start := s, lastStart := lim, pc := 5, pos := s, handed := s, outermost := first, marks := #[], frames := [{ wait := .nextStart, pc := 5, pos := s, outermost := first }], weight := 1, seen }
def atS (text : Array Nat) (s : Nat) : Bool := s == 0 || text.getD (s - 1) 0 == 10

theorem q_at {text : Array Nat} {lim s : Nat} {first : Bool} {seen : Sre.Seen} : (qS text lim s first seen).step =
    if atS text s = true then { qS text lim s first ((seen.add 6).add 44) with pc := 7 } else { qS text lim s first ((seen.add 6).add 44) with answer := some false } := by
  have e : (qS text lim s first (seen.add 6)).isAt 1 = .ok (atS text s) := rfl
  show (match (qS text lim s first (seen.add 6)).isAt 1 with
    | .error why => (qS text lim s first (seen.add 6)).stick why
    | .ok yes => if yes = true then { qS text lim s first ((seen.add 6).add 44) with pc := 7 } else (qS text lim s first ((seen.add 6).add 44)).say false) = _
  rw [e]
  rfl
theorem q_next {text : Array Nat} {lim s : Nat} {first : Bool} {seen : Sre.Seen} : ({ qS text lim s first seen with answer := some false } : Sre.M).step =
    if s < lim then qS text lim (s + 1) false seen else { qS text lim s first seen with answer := some false, frames := [], weight := 0 } := by
  by_cases h : s < lim
  · rw [if_pos h]
    show (if s < lim then _ else _) = _
    rw [if_pos h]
    rfl
  · rw [if_neg h]
    show (if s < lim then _ else _) = _
    rw [if_neg h]
    rfl
theorem q_lit {text : Array Nat} {lim s : Nat} {first : Bool} {seen : Sre.Seen} : ({ qS text lim s first seen with pc := 7 } : Sre.M).step =
    if s < lim ∧ text.getD s 0 = 46 then { qS text lim s first (seen.add 16) with pc := 9, pos := s + 1 } else { qS text lim s first (seen.add 16) with pc := 7, answer := some false } := by
  by_cases h : s < lim
  · show (if s ≥ lim then ({ qS text lim s first (seen.add 16) with pc := 7 } : Sre.M).say false else (match Sre.accepts qC 7 (text.getD s 0) (seen.add 16) with | .error why => ({ qS text lim s first (seen.add 16) with pc := 7 } : Sre.M).stick why | .ok (false, seen) => ({ qS text lim s first seen with pc := 7 } : Sre.M).say false | .ok (true, seen) => { qS text lim s first seen with pc := 9, pos := s + 1 })) = _
    rw [if_neg (by omega)]
    have e : Sre.accepts qC 7 (text.getD s 0) (seen.add 16) = .ok (text.getD s 0 == 46, seen.add 16) := rfl
    rw [e]
    by_cases h2 : text.getD s 0 = 46
    · rw [if_pos ⟨h, h2⟩, h2]; rfl
    · rw [if_neg (fun x => h2 x.2), beq_false_of_ne h2]; rfl
  · rw [if_neg (fun x => h x.1)]
    show (if s ≥ lim then ({ qS text lim s first (seen.add 16) with pc := 7 } : Sre.M).say false else _) = _
    rw [if_pos (by omega)]
    rfl
theorem q_next7 {text : Array Nat} {lim s : Nat} {first : Bool} {seen : Sre.Seen} : ({ qS text lim s first seen with pc := 7, answer := some false } : Sre.M).step =
    if s < lim then qS text lim (s + 1) false seen else { qS text lim s first seen with answer := some false, frames := [], weight := 0 } := q_next (seen := seen)
theorem q_end {text : Array Nat} {lim s : Nat} {first : Bool} {seen : Sre.Seen} : ({ qS text lim s first seen with pc := 9, pos := s + 1 } : Sre.M).runFor 3 =
    { qS text lim s first (seen.add 1) with pc := 5, pos := s, handed := s + 1, frames := [], weight := 0, answer := some true, outcome := some .matched } := by
  cases first <;> rfl

/-- is there a dot at the beginning of a row at p -/
def dotAt (text : Array Nat) (p : Nat) : Bool := atS text p && text.getD p 0 == 46

theorem q_found0 {text : Array Nat} {lim s : Nat} {first : Bool} {seen : Sre.Seen} (hk : s < lim) (hd : dotAt text s = true) :
    ∃ m, (qS text lim s first seen).runFor 5 = m ∧ m.outcome = some .matched ∧ m.start = s ∧ m.handed = s + 1 := by
  obtain ⟨h1, h2⟩ := Bool.and_eq_true_iff.mp hd
  have e1 : (qS text lim s first seen).runFor 5 = (qS text lim s first seen).step.runFor 4 := rfl
  rw [e1, q_at, if_pos h1]
  have e2 : ({ qS text lim s first ((seen.add 6).add 44) with pc := 7 } : Sre.M).runFor 4 = ({ qS text lim s first ((seen.add 6).add 44) with pc := 7 } : Sre.M).step.runFor 3 := rfl
  rw [e2, q_lit, if_pos ⟨hk, by simpa using h2⟩, q_end]
  exact ⟨_, rfl, rfl, rfl, rfl⟩
theorem q_on {text : Array Nat} {lim s : Nat} {first : Bool} {seen : Sre.Seen} (hd : dotAt text s = false) :
    ∃ n seen', n ≤ 3 ∧ (qS text lim s first seen).runFor n = if s < lim then qS text lim (s + 1) false seen' else { qS text lim s first seen' with answer := some false, frames := [], weight := 0 } := by
  have e1 : ∀ k, (qS text lim s first seen).runFor (k + 1) = (qS text lim s first seen).step.runFor k := fun _ => rfl
  by_cases h1 : atS text s = true
  · have e2 : ({ qS text lim s first ((seen.add 6).add 44) with pc := 7 } : Sre.M).runFor 2 = ({ qS text lim s first ((seen.add 6).add 44) with pc := 7 } : Sre.M).step.runFor 1 := rfl
    have h2 : ¬ text.getD s 0 = 46 := by
      intro h2
      unfold dotAt at hd
      rw [h1, h2] at hd
      cases hd
    refine ⟨3, (((seen.add 6).add 44).add 16), Nat.le_refl _, ?_⟩
    rw [e1, q_at, if_pos h1, e2, q_lit, if_neg (fun x => h2 x.2)]
    have e3 : ({ qS text lim s first (((seen.add 6).add 44).add 16) with pc := 7, answer := some false } : Sre.M).runFor 1 = ({ qS text lim s first (((seen.add 6).add 44).add 16) with pc := 7, answer := some false } : Sre.M).step := rfl
    rw [e3, q_next7]
  · refine ⟨2, ((seen.add 6).add 44), by omega, ?_⟩
    rw [e1, q_at, if_neg h1]
    have e3 : ({ qS text lim s first ((seen.add 6).add 44) with answer := some false } : Sre.M).runFor 1 = ({ qS text lim s first ((seen.add 6).add 44) with answer := some false } : Sre.M).step := rfl
    rw [e3, q_next]
theorem q_found {text : Array Nat} {lim : Nat} : ∀ (k s : Nat) (first : Bool) (seen : Sre.Seen), s + k < lim → (∀ i, s ≤ i → i < s + k → dotAt text i = false) → dotAt text (s + k) = true →
    ∃ n m, n ≤ 3 * k + 5 ∧ (qS text lim s first seen).runFor n = m ∧ m.outcome = some .matched ∧ m.start = s + k ∧ m.handed = s + k + 1
  | 0, s, first, seen, hk, _, hd => by
    obtain ⟨m, h⟩ := q_found0 (first := first) (seen := seen) hk hd
    exact ⟨5, m, by omega, h⟩
  | k + 1, s, first, seen, hk, hn, hd => by
    obtain ⟨n, seen', hn3, e⟩ := q_on (lim := lim) (first := first) (seen := seen) (hn s (Nat.le_refl _) (by omega))
    rw [if_pos (show s < lim by omega)] at e
    have a : s + 1 + k = s + (k + 1) := by omega
    have hn' : ∀ i, s + 1 ≤ i → i < s + 1 + k → dotAt text i = false := fun i hi hi' => hn i (by omega) (by omega)
    obtain ⟨n', m, h1, h2, h3⟩ := q_found (lim := lim) k (s + 1) false seen' (by omega) hn' (by rw [a]; exact hd)
    rw [a] at h3
    exact ⟨n + n', m, by omega, by rw [runFor_add, e]; exact h2, h3⟩
theorem q_none {text : Array Nat} {lim : Nat} : ∀ (k s : Nat) (first : Bool) (seen : Sre.Seen), s + k = lim → (∀ i, s ≤ i → i ≤ lim → dotAt text i = false) →
    ∃ n m, n ≤ 3 * k + 4 ∧ (qS text lim s first seen).runFor n = m ∧ m.outcome = some .failed
  | 0, s, first, seen, hk, hn => by
    obtain ⟨n, seen', hn3, e⟩ := q_on (lim := lim) (first := first) (seen := seen) (hn s (Nat.le_refl _) (by omega))
    rw [if_neg (show ¬ s < lim by omega)] at e
    exact ⟨n + 1, _, by omega, by rw [runFor_add, e], rfl⟩
  | k + 1, s, first, seen, hk, hn => by
    obtain ⟨n, seen', hn3, e⟩ := q_on (lim := lim) (first := first) (seen := seen) (hn s (Nat.le_refl _) (by omega))
    rw [if_pos (show s < lim by omega)] at e
    obtain ⟨n', m, h1, h2, h3⟩ := q_none (lim := lim) k (s + 1) false seen' (by omega) (fun i hi hi' => hn i (by omega) hi')
    exact ⟨n + n', m, by omega, by rw [runFor_add, e]; exact h2, h3⟩

theorem q_search {text : Array Nat} {s : Nat} (hs : s < text.size) : ∃ seen, Sre.forSearch qC text 0 s text.size false = qS text text.size s true seen := by
  refine ⟨({} : Sre.Seen).add 14, ?_⟩
  have h : ¬ ((decide (s > text.size) || decide (text.size - s < 1)) = true) := by simp; omega
  show (if (decide (s > text.size) || decide (text.size - s < 1)) = true then _ else _) = _
  rw [if_neg h]
  rfl
theorem q_search_end {text : Array Nat} {s : Nat} (hs : s = text.size) : ((Sre.forSearch qC text 0 s text.size false).runFor 1).outcome = some .failed := by
  have h : ((decide (s > text.size) || decide (text.size - s < 1)) = true) := by simp; omega
  have e : Sre.forSearch qC text 0 s text.size false = ({ qS text 0 s true (({} : Sre.Seen).add 14) with lim := text.size, frames := [], weight := 0, answer := some false } : Sre.M) := by
    show (if (decide (s > text.size) || decide (text.size - s < 1)) = true then _ else _) = _
    rw [if_pos h]
    rfl
  rw [e]
  rfl
end Mine
end

section
open PySem PySem.Spec PySem.Calls PySem.W PyProof.Rows PySem.Builtin PySem.Builtin.Re
set_option Elab.async false
set_option maxRecDepth 100000
set_option linter.unusedVariables false
set_option maxHeartbeats 4000000
namespace Mine
abbrev pat2O : Obj := { cls := .type "re.Pattern", data := .fields #[Value.bytes #[40, 63, 109, 41, 94, 92, 46] 428, Value.int 8 441, Value.int 0 0, Value.none, Value.none, Value.ref 69, Value.int 1 0] }
abbrev code2O : Obj := { cls := .type "tuple", data := .seq #[Value.int 14 0, Value.int 4 0, Value.int 0 0, Value.int 1 0, Value.int 1 0, Value.int 6 0, Value.int 1 0, Value.int 16 0, Value.int 46 0, Value.int 1 0] }
theorem at70 {w : World} {h : Heap} (X : (hd.heap_39 w.params).In h) : h.get? 70 = some pat2O := X _ _ rfl
theorem at69 {w : World} {h : Heap} (X : (hd.heap_39 w.params).In h) : h.get? 69 = some code2O := X _ _ rfl

section
variable {prog : Program} {w : World} {A : Around} {E : Value → Shared → Prop} {s : Shared}

abbrev qT (B : Array UInt8) (t : Tok) : ReTarget := { pattern := .ref 70, string := .bytes B t, code := qC, text := B.map (·.toNat), kind := 1, groups := 0, pos := 0, lim := (B.map (·.toNat)).size }

theorem whole_eq {B : Array UInt8} {t : Tok} {Q : ReTarget → Shared → Prop} (hP : s.heap.get? 70 = some pat2O) (hC : s.heap.get? 69 = some code2O) (h : Q (qT B t) s) :
    wpAny (model prog w) A (reWholeTarget (.ref 70) (.bytes B t)) Q E s := by
  unfold reWholeTarget
  refine wpAny_bind (wpAny_fieldsOf hP rfl ?_)
  refine wpAny_bind ?_
  unfold reTextOf
  refine wpAny_bind (wpAny_of_eq (a := none) rfl ?_)
  dsimp only
  refine wpAny_bind (wpAny_of_eq KBy.quiet_eq (wpAny_pure ?_))
  dsimp only
  show wpAny _ _ (reNoCollectionInside (.bytes B t) 1 >>= fun _ => _) _ _ s
  refine wpAny_bind ?_
  unfold reNoCollectionInside
  rw [if_pos (by rfl)]
  refine wpAny_bind (wpAny_of_eq KBy.isInstance_eq ?_)
  refine wpAny_pure ?_
  refine wpAny_bind ?_
  show wpAny _ _ (reRawItems (.ref 69)) _ _ s
  unfold reRawItems
  refine wpAny_bind (wpAny_seqItems hC rfl (wpAny_pure (wpAny_pure ?_)))
  refine Eq.mp (congrArg (fun r => Q r s) ?_) h
  rw [ReTarget.mk.injEq]
  exact ⟨rfl, rfl, by kernel_rfl, rfl, rfl, by kernel_rfl, rfl, rfl⟩
end
end Mine
end

section
open PySem PySem.Spec PySem.Calls PySem.W PyProof.Rows PySem.Builtin PySem.Builtin.Re
set_option Elab.async false
set_option maxRecDepth 100000
set_option linter.unusedVariables false
set_option maxHeartbeats 4000000
namespace Mine
/-- a mail with a dot laid ahead of each row that begins with one; b: does a row begin here -/
def quoteL : Bool → List UInt8 → List UInt8
  | _, [] => []
  | b, c :: r => if (b && c == 46) = true then 46 :: 46 :: quoteL (c == 10) r else c :: quoteL (c == 10) r
abbrev tN (B : Array UInt8) : Array Nat := B.map (·.toNat)

theorem tN_get {B : Array UInt8} {i : Nat} (h : i < B.size) : (tN B).getD i 0 = (B[i]).toNat := by
  simp [tN, Array.getD_eq_getD_getElem?, h]
theorem u8_eq {c : UInt8} {n : Nat} (h : n < 256) : (c.toNat == n) = (c == UInt8.ofNat n) := by
  rw [Bool.eq_iff_iff, beq_iff_eq, beq_iff_eq]
  constructor
  · intro e
    rw [← e]; simp
  · intro e
    rw [e, UInt8.toNat_ofNat']; omega
theorem atS_succ {B : Array UInt8} {i : Nat} (h : i < B.size) : atS (tN B) (i + 1) = (B[i] == 10) := by
  unfold atS
  rw [show (i + 1 == 0) = false by simp, Bool.false_or, Nat.add_sub_cancel, tN_get h]
  exact u8_eq (by decide)
theorem dotAt_eq {B : Array UInt8} {i : Nat} (h : i < B.size) : dotAt (tN B) i = (atS (tN B) i && B[i] == 46) := by
  unfold dotAt
  rw [tN_get h, u8_eq (by decide)]
  rfl
theorem drop_cons {B : Array UInt8} {i : Nat} (h : i < B.size) : B.toList.drop i = B[i] :: B.toList.drop (i + 1) := by
  rw [List.drop_eq_getElem_cons (by simpa using h)]
  simp
theorem quote_plain {B : Array UInt8} : ∀ (k i : Nat), i + k ≤ B.size → (∀ j, i ≤ j → j < i + k → dotAt (tN B) j = false) →
    quoteL (atS (tN B) i) (B.toList.drop i) = (B.toList.drop i).take k ++ quoteL (atS (tN B) (i + k)) (B.toList.drop (i + k))
  | 0, i, _, _ => by simp
  | k + 1, i, hk, hn => by
    have hi : i < B.size := by omega
    have h := hn i (Nat.le_refl _) (by omega)
    rw [dotAt_eq hi] at h
    have hn' : ∀ j, i + 1 ≤ j → j < i + 1 + k → dotAt (tN B) j = false := fun j h1 h2 => hn j (by omega) (by omega)
    have ih := quote_plain k (i + 1) (by omega) hn'
    rw [atS_succ hi] at ih
    rw [drop_cons hi, quoteL, h, if_neg Bool.false_ne_true, List.take_succ_cons, ih, List.cons_append]
    rw [show i + 1 + k = i + (k + 1) by omega]
theorem quote_dot {B : Array UInt8} {p : Nat} (hp : p < B.size) (h : dotAt (tN B) p = true) :
    quoteL (atS (tN B) p) (B.toList.drop p) = 46 :: 46 :: quoteL (atS (tN B) (p + 1)) (B.toList.drop (p + 1)) := by
  rw [dotAt_eq hp] at h
  rw [drop_cons hp, quoteL, if_pos h, atS_succ hp]
theorem first_dot {T : Array Nat} : ∀ (k s : Nat), s + k = T.size → (∃ j, s + j < T.size ∧ (∀ i, s ≤ i → i < s + j → dotAt T i = false) ∧ dotAt T (s + j) = true) ∨ (∀ i, s ≤ i → i ≤ T.size → dotAt T i = false)
  | 0, s, hk => by
    refine .inr fun i h1 h2 => ?_
    have : i = T.size := by omega
    unfold dotAt
    rw [this]
    simp
  | k + 1, s, hk => by
    cases h : dotAt T s with
    | true => exact .inl ⟨0, by omega, fun i h1 h2 => absurd h2 (by omega), h⟩
    | false =>
      rcases first_dot (T := T) k (s + 1) (by omega) with ⟨j, h1, h2, h3⟩ | hn
      · refine .inl ⟨j + 1, by omega, fun i a b => ?_, by rw [show s + (j + 1) = s + 1 + j by omega]; exact h3⟩
        by_cases e : i = s
        · rw [e]; exact h
        · exact h2 i (by omega) (by omega)
      · refine .inr fun i a b => ?_
        by_cases e : i = s
        · rw [e]; exact h
        · exact hn i (by omega) b
theorem quoteL_len : ∀ (l : List UInt8) (b : Bool), (quoteL b l).length ≤ 2 * l.length
  | [], _ => by simp [quoteL]
  | c :: r, b => by
    have ih := quoteL_len r (c == 10)
    unfold quoteL
    split <;> simp only [List.length_cons] <;> omega

theorem joined_go {sep : Array UInt8} : ∀ (l : List (Array UInt8)) (k : Nat) (out : Array UInt8), 0 < k →
    ((l.zipIdx k).foldl (fun out (p : Array UInt8 × Nat) => (if p.2 > 0 then out ++ sep else out) ++ p.1) out).toList = out.toList ++ (l.map fun p => sep.toList ++ p.toList).flatten
  | [], k, out, _ => by simp
  | p :: l, k, out, hk => by
    rw [List.zipIdx_cons, List.foldl_cons, joined_go l (k + 1) _ (by omega), if_pos (show k > 0 from hk)]
    simp [List.append_assoc]
theorem joined_cons {sep p : Array UInt8} {l : List (Array UInt8)} : (Bytes.joined sep (p :: l)).toList = p.toList ++ (l.map fun p => sep.toList ++ p.toList).flatten := by
  unfold Bytes.joined
  rw [List.zipIdx_cons, List.foldl_cons]
  have := joined_go (sep := sep) l 1 (#[] ++ p) (by omega)
  simpa using this
theorem joined_empty {l : List (Array UInt8)} : (Bytes.joined #[] l).toList = (l.map (·.toList)).flatten := by
  cases l with
  | nil => rfl
  | cons p l =>
    rw [joined_cons]
    simp
theorem sum_flat : ∀ (l : List (Array UInt8)) (k : Nat), l.foldl (fun a b => a + b.size) k = k + (l.map (·.toList)).flatten.length
  | [], k => by simp
  | p :: l, k => by
    rw [List.foldl_cons, sum_flat l]
    simp
    omega
end Mine
end

section
open PySem PySem.Spec PySem.Calls PySem.W PyProof.Rows PySem.Builtin PySem.Builtin.Re
set_option Elab.async false
set_option maxRecDepth 100000
set_option linter.unusedVariables false
set_option maxHeartbeats 4000000
namespace Mine
section
variable {prog : Program} {w : World}

abbrev listAt (h : Heap) (P : Addr) (ps : List (Array UInt8 × Tok)) : Prop := ∃ n, h.get? P = some { cls := .type "list", data := .seq (bytesL ps).toArray n }

theorem push_list {M : Model} {A : Around} {E : Value → Shared → Prop} {s : Shared} {P : Addr} {ps : List (Array UInt8 × Tok)} {x : Array UInt8} {u : Tok} {Q : Unit → Shared → Prop} (hl : listAt s.heap P ps) (hsz : ps.length ≤ 10000)
    (h : ∀ h', listAt h' P (ps ++ [(x, u)]) → (∀ b o, b ≠ P → s.heap.get? b = some o → h'.get? b = some o) → Q () { s with heap := h' }) : wpAny M A (updateSeq P (·.push (.bytes x u))) Q E s := by
  obtain ⟨n, hl⟩ := hl
  refine wpAny_updateSeq hl rfl (h _ ?_ ?_) ?_ ?_
  · have e := Heap.get?_update_self (Obj.mapSeq (·.push (.bytes x u))) hl rfl
    refine ⟨n + 1, ?_⟩
    rw [e]
    show some ({ cls := _, data := .seq ((bytesL ps).toArray.push (.bytes x u)) (if _ then n else n + 1) } : Obj) = _
    rw [if_neg (by simp)]
    simp [bytesL]
  · intro b o hb ho
    rw [Heap.get?_update_ne _ _ _ _ hb]
    exact ho
  · simp [bytesL, sizeLine_eq]; omega
  · simp [bytesL, sizeLine_eq]; omega

theorem slice_val {M : Model} {A : Around} {E : Value → Shared → Prop} {s : Shared} {B : Array UInt8} {i j : Nat} {Q : Value → Shared → Prop} (hB : B.size ≤ 1000) (h : Q (.bytes (B.extract i j) s.toks) { s with toks := s.toks + 1 }) :
    wpAny M A (reSlice (tN B) 1 i j) Q E s := by
  unfold reSlice
  rw [if_neg (by decide)]
  have e : ((tN B).extract i j).map (·.toUInt8) = B.extract i j := by
    rw [← Array.map_extract, Array.map_map]
    conv => rhs; rw [← Array.map_id (B.extract i j)]
    refine Array.map_congr_left fun a _ => ?_
    simp
  rw [e]
  refine wpAny_mkBytes h ?_
  rw [Array.size_extract, sizeLine_eq]
  omega

abbrev loopC (B : Array UInt8) (t tr : Tok) (n : Int) (done : Nat) (P : Addr) : Code :=
  .builtin "re.Pattern.sub.loop" ⟨[.ref 70, .bytes B t, .bytes #[46, 46] tr, rawInt 0, rawInt 0, rawInt n, rawInt done, rawInt done, .bool false, .ref P, .bool false], []⟩
abbrev flatB (ps : List (Array UInt8 × Tok)) : List UInt8 := (ps.map (·.1.toList)).flatten

theorem next_found {A : Around} {E : Value → Shared → Prop} {s : Shared} {B : Array UInt8} {t : Tok} {d j : Nat} {Q : Option Sre.M → Shared → Prop} (hB : B.size ≤ 1000) (h1 : d + j < B.size)
    (h2 : ∀ i, d ≤ i → i < d + j → dotAt (tN B) i = false) (h3 : dotAt (tN B) (d + j) = true) (h : ∀ m : Sre.M, m.start = d + j → m.handed = d + j + 1 → Q (some m) s) :
    wpAny (model prog w) A (reNextFound (qT B t) d false) Q E s := by
  have hz : (tN B).size = B.size := by simp [tN]
  unfold reNextFound
  obtain ⟨seen, e⟩ := q_search (text := tN B) (s := d) (by omega)
  show wpAny _ _ (reRunToEnd (Sre.forSearch qC (tN B) 0 d (tN B).size false)) _ _ _
  rw [e]
  obtain ⟨n, m, hn, hm, ho, hs, hh⟩ := q_found (lim := (tN B).size) (text := tN B) j d true seen (by omega) h2 h3
  have hfin : (qS (tN B) (tN B).size d true seen).runFor (4 * (1000 + 1)) = m := by
    rw [show 4 * (1000 + 1) = n + (4 * (1000 + 1) - n) by omega, runFor_add, hm]
    exact runFor_done _ _ (by rw [ho]; rfl)
  refine run_any 1000 (by decide) ?_
  rw [hfin, ho]
  exact h m hs hh
theorem next_none {A : Around} {E : Value → Shared → Prop} {s : Shared} {B : Array UInt8} {t : Tok} {d : Nat} {Q : Option Sre.M → Shared → Prop} (hB : B.size ≤ 1000) (h1 : d ≤ B.size)
    (h2 : ∀ i, d ≤ i → i ≤ B.size → dotAt (tN B) i = false) (h : Q none s) :
    wpAny (model prog w) A (reNextFound (qT B t) d false) Q E s := by
  have hz : (tN B).size = B.size := by simp [tN]
  unfold reNextFound
  show wpAny _ _ (reRunToEnd (Sre.forSearch qC (tN B) 0 d (tN B).size false)) _ _ _
  by_cases hd : d = B.size
  · have ho := q_search_end (text := tN B) (s := d) (by omega)
    have hfin : (Sre.forSearch qC (tN B) 0 d (tN B).size false).runFor (4 * (1000 + 1)) = (Sre.forSearch qC (tN B) 0 d (tN B).size false).runFor 1 := by
      rw [show 4 * (1000 + 1) = 1 + 4003 by omega, runFor_add]
      exact runFor_done _ _ (by rw [ho]; rfl)
    refine run_any 1000 (by decide) ?_
    rw [hfin, ho]
    exact h
  · obtain ⟨seen, e⟩ := q_search (text := tN B) (s := d) (by omega)
    rw [e]
    obtain ⟨n, m, hn, hm, ho⟩ := q_none (lim := (tN B).size) (text := tN B) ((tN B).size - d) d true seen (by omega) (fun i a b => h2 i a (by omega))
    have hfin : (qS (tN B) (tN B).size d true seen).runFor (4 * (1000 + 1)) = m := by
      rw [show 4 * (1000 + 1) = n + (4 * (1000 + 1) - n) by omega, runFor_add, hm]
      exact runFor_done _ _ (by rw [ho]; rfl)
    refine run_any 1000 (by decide) ?_
    rw [hfin, ho]
    exact h
end
end Mine
end

section
open PySem PySem.Spec PySem.Calls PySem.W PyProof.Rows PySem.Builtin PySem.Builtin.Re
set_option Elab.async false
set_option maxRecDepth 100000
set_option linter.unusedVariables false
set_option maxHeartbeats 4000000
namespace Mine
section
variable {prog : Program} {w : World}

theorem loop_code {A : Around} {R : Result → Shared → Prop} {s₀ : Shared} {B : Array UInt8} {t tr : Tok} {P : Addr} {Z : List UInt8} (hB : B.size ≤ 1000) (hP0 : s₀.heap.get? P = none) (h70 : s₀.heap.get? 70 = some pat2O) (h69 : s₀.heap.get? 69 = some code2O) (hZ : Z.length ≤ 10000)
    (hret : ∀ V t' h' k', V.toList = Z → (∀ b o, s₀.heap.get? b = some o → h'.get? b = some o) → R (.ok (.ret (.bytes V t'))) { s₀ with heap := h', toks := k' }) :
    ∀ (k d : Nat) (h : Heap) (tk : Nat) (n : Int) (ps : List (Array UInt8 × Tok)), d + k = B.size → (∀ b o, s₀.heap.get? b = some o → h.get? b = some o) → listAt h P ps → ps.length ≤ 2 * d →
      flatB ps ++ quoteL (atS (tN B) d) (B.toList.drop d) = Z → codeAny (model prog w) A (loopC B t tr n d P) R { s₀ with heap := h, toks := tk } := by
  intro k
  induction k using Nat.strongRecOn with
  | ind k ih =>
  intro d h tk n ps hk hkeep hl hps hz
  have hPne : ∀ b o, s₀.heap.get? b = some o → b ≠ P := fun b o ho e => by rw [e, hP0] at ho; cases ho
  refine codeAny_builtin entry_subloop ?_
  rw [Around.under_plainId plain_subloop]
  unfold «re.Pattern.sub.loop»
  show wpAny _ _ (reWholeTarget (.ref 70) (.bytes B t) >>= fun tt => _) _ _ _
  refine wpAny_bind (whole_eq (hkeep _ _ h70) (hkeep _ _ h69) ?_)
  show wpAny _ _ (if ((0 : Int) == 0) = true then _ else _) _ _ _
  rw [if_pos (by decide)]
  refine wpAny_bind ?_
  unfold reLiteralCannotBeTurned
  refine wpAny_bind (wpAny_of_eq (a := none) rfl ?_)
  rw [if_pos (by rfl)]
  refine wpAny_bind (wpAny_of_eq KBy.isInstance_eq ?_)
  refine wpAny_pure ?_
  show wpAny _ _ (reNextFound (qT B t) d false >>= fun r => _) _ _ _
  have hTz : (tN B).size = B.size := by simp [tN]
  rcases first_dot (T := tN B) k d (by omega) with ⟨j, h1, h2, h3⟩ | hn
  · refine wpAny_bind (next_found hB (by omega) h2 h3 fun m hm1 hm2 => ?_)
    have hp : d + j < B.size := by omega
    have tail : ∀ (h' : Heap) (tk' : Nat) (ps' : List (Array UInt8 × Tok)), (∀ b o, s₀.heap.get? b = some o → h'.get? b = some o) → listAt h' P ps' → ps'.length ≤ 2 * d + 1 →
        flatB ps' ++ 46 :: 46 :: quoteL (atS (tN B) (d + j + 1)) (B.toList.drop (d + j + 1)) = Z →
        wpAny (model prog w) A.in1 (updateSeq P (fun x => x.push (Value.bytes #[46, 46] tr)) >>= fun _ => again (loopC B t tr (n + 1) (d + j + 1) P))
          (fun fin s' => match fin with | .done f => R (.ok f) s' | .again c' => c'.quiet = true ∧ codeAny (model prog w) A c' R s') (fun e s' => R (.error e) s') { s₀ with heap := h', toks := tk' } := by
      intro h' tk' ps' k1 k2 k3 k4
      refine wpAny_bind (push_list (s := { s₀ with heap := h', toks := tk' }) k2 (by omega) fun h'' l'' k'' => ?_)
      refine wpAny_pure ⟨plainId_quiet plain_subloop _, ?_⟩
      refine ih (k - (j + 1)) (by omega) (d + j + 1) h'' tk' (n + 1) _ (by omega) (fun b o ho => k'' b o (hPne b o ho) (k1 b o ho)) l'' ?_ ?_
      · simp; omega
      · rw [← k4]
        simp [flatB]
    show wpAny _ _ (if d < m.start then _ else _) _ _ _
    rw [hm1, hm2, show (d + j + 1 == d + j) = false by simp]
    have hq := quote_plain (B := B) j d (by omega) h2
    rw [quote_dot hp h3] at hq
    by_cases hj : d < d + j
    · rw [if_pos hj]
      refine wpAny_bind (slice_val (B := B) hB ?_)
      refine wpAny_bind (push_list (s := { s₀ with heap := h, toks := tk + 1 }) hl (by omega) fun h' l' k' => ?_)
      refine tail h' (tk + 1) _ (fun b o ho => k' b o (hPne b o ho) (hkeep b o ho)) l' (by simp; omega) ?_
      rw [← hz, hq]
      simp [flatB, Array.toList_extract, List.extract_eq_take_drop, Nat.add_sub_cancel_left]
    · rw [if_neg hj]
      refine tail h tk ps hkeep hl (by omega) ?_
      have j0 : j = 0 := by omega
      rw [← hz, hq, j0]
      simp
  · refine wpAny_bind (next_none hB (by omega) (by rw [← hTz]; exact hn) ?_)
    have hq := quote_plain (B := B) (B.size - d) d (by omega) (fun i a b => hn i a (by omega))
    have hq0 : quoteL (atS (tN B) (d + (B.size - d))) (B.toList.drop (d + (B.size - d))) = [] := by
      rw [show d + (B.size - d) = B.toList.length by simp; omega, List.drop_length]
      rfl
    rw [hq0, List.append_nil] at hq
    have tail : ∀ (h' : Heap) (tk' : Nat) (ps' : List (Array UInt8 × Tok)), (∀ b o, s₀.heap.get? b = some o → h'.get? b = some o) → listAt h' P ps' → flatB ps' = Z →
        wpAny (model prog w) A.in1 (reSlice (tN B) 1 0 0 >>= fun joiner => seqItems? (.ref P) >>= fun it => if (it.getD #[]).isEmpty = true then (pure joiner >>= fun text => ret text) else (call (.builtin "bytes.join") [joiner, .ref P] >>= fun text => ret text))
          (fun fin s' => match fin with | .done f => R (.ok f) s' | .again c' => c'.quiet = true ∧ codeAny (model prog w) A c' R s') (fun e s' => R (.error e) s') { s₀ with heap := h', toks := tk' } := by
      intro h' tk' ps' k1 k2 k3
      obtain ⟨n', k2⟩ := k2
      refine wpAny_bind (slice_val (B := B) hB ?_)
      refine wpAny_bind (wpAny_seqItems k2 rfl ?_)
      have e0 : B.extract 0 0 = #[] := by simp
      rw [e0]
      by_cases he : ((some (bytesL ps').toArray).getD #[]).isEmpty = true
      · rw [if_pos he]
        refine wpAny_bind (wpAny_pure (wpAny_pure ?_))
        have : ps' = [] := by simpa [bytesL] using he
        refine hret #[] _ h' _ ?_ k1
        rw [← k3, this]
        rfl
      · rw [if_neg he]
        refine wpAny_bind (bjoin_call (s := { s₀ with heap := h', toks := tk' + 1 }) k2 rfl rfl ?_ ?_ fun t' k' => ?_)
        · rw [sum_flat]
          simp only [List.size_toArray, List.length_nil, Nat.zero_mul, Nat.zero_add, List.map_map]
          have : ((ps'.map ((fun x => x.toList) ∘ fun x => x.1)).flatten).length = Z.length := by rw [← k3]; rfl
          omega
        · rw [← Array.length_toList, joined_empty, List.map_map]
          have : ((ps'.map ((fun x => x.toList) ∘ fun x => x.1)).flatten).length = Z.length := by rw [← k3]; rfl
          omega
        · refine wpAny_pure (hret _ t' h' k' ?_ k1)
          rw [joined_empty, List.map_map, ← k3]
          rfl
    show wpAny _ _ (if d < (tN B).size then _ else _) _ _ _
    by_cases hd : d < (tN B).size
    · rw [if_pos hd]
      refine wpAny_bind (slice_val (B := B) hB ?_)
      refine wpAny_bind (push_list (s := { s₀ with heap := h, toks := tk + 1 }) hl (by omega) fun h' l' k' => ?_)
      refine tail h' (tk + 1) _ (fun b o ho => k' b o (hPne b o ho) (hkeep b o ho)) l' ?_
      rw [← hz, hq]
      simp [flatB, Array.toList_extract, List.extract_eq_take_drop, hTz]
    · rw [if_neg hd]
      refine tail h tk ps hkeep hl ?_
      have d0 : B.size - d = 0 := by omega
      rw [← hz, hq, d0]
      simp
end
end Mine
end

section
open PySem PySem.Spec PySem.Calls PySem.W PyProof.Rows PySem.Builtin PySem.Builtin.Re
set_option Elab.async false
set_option maxRecDepth 100000
set_option linter.unusedVariables false
set_option maxHeartbeats 4000000
namespace Mine
section
variable {prog : Program} {w : World} {A : Around} {E : Value → Shared → Prop} {s : Shared}
theorem wpAny_newList' {M : Model} {items : List Value} {Q : Value → Shared → Prop} (h : Q (.ref s.heap.objs.size) { s with heap := s.heap.push { cls := .type "list", data := .seq items.toArray } })
    (hsz : items.length ≤ 10000) : wpAny M A (newList items) Q E s := wpAny_newObj_type h (by show items.toArray.size ≤ sizeLine; rw [List.size_toArray, sizeLine_eq]; omega)

theorem sub_call {B : Array UInt8} {t tr : Tok} {Q : Value → Shared → Prop} (hB : B.size ≤ 1000) (h70 : s.heap.get? 70 = some pat2O) (h69 : s.heap.get? 69 = some code2O)
    (h : ∀ V t' h' k', V.toList = quoteL true B.toList → (∀ b o, s.heap.get? b = some o → h'.get? b = some o) → Q (.bytes V t') { s with heap := h', toks := k' }) :
    wpAny (model prog w) A (call (.builtin "re.Pattern.sub") [.ref 70, .bytes #[46, 46] tr, .bytes B t]) Q E s := by
  have hT : s.TypeIs (.ref 70) "re.Pattern" := ⟨_, h70, rfl⟩
  have e : reNamed "re.Pattern.sub" "sub" ["repl", "string", "count"] 2 [.bytes #[46, 46] tr, .bytes B t] [] = pure [some (.bytes #[46, 46] tr), some (.bytes B t), none] := by kernel_rfl
  refine wpAny_call (codeAny_call_builtin slot_sub.plain entry_sub (slot_sub.check _ _ _ _ _ _ _ _ hT (args_sub _ _ _) ?_))
  unfold «re.Pattern.sub» reSubstitute
  show wpAny _ _ (reNamed "re.Pattern.sub" "sub" ["repl", "string", "count"] 2 [.bytes #[46, 46] tr, .bytes B t] [] >>= fun r => _) _ _ s
  rw [e]
  refine wpAny_bind (wpAny_pure ?_)
  dsimp only
  refine wpAny_bind (wpAny_pure ?_)
  refine wpAny_bind (wpAny_specialOf (typeIs_bytes _ _ _) noCall_bytes ?_)
  show wpAny _ _ (if (none : Option Value).isSome = true then _ else _) _ _ s
  rw [if_neg (by decide)]
  show wpAny _ _ (asStr? (.bytes #[46, 46] tr) >>= fun r => _) _ _ s
  refine wpAny_bind (wpAny_of_eq (a := none) rfl ?_)
  dsimp only
  refine wpAny_bind (wpAny_of_eq KBy.quiet_eq ?_)
  dsimp only
  refine wpAny_bind (wpAny_pure ?_)
  rw [if_neg (by decide), if_pos (by decide +kernel)]
  refine wpAny_bind (wpAny_pure ?_)
  show wpAny _ _ (holding [Value.bytes #[46, 46] tr] (reWholeTarget (.ref 70) (.bytes B t)) >>= fun r => _) _ _ s
  refine wpAny_bind (wpAny_holding (whole_eq h70 h69 ?_))
  rw [if_neg (show ¬ ((0 : Int) == 1) = true by decide)]
  refine wpAny_bind (wpAny_newList' ?_ (by simp))
  refine wpAny_pure ⟨plainId_quiet plain_subloop _, ?_⟩
  have hl := quoteL_len B.toList true
  have hlB : B.toList.length = B.size := by simp
  refine loop_code (s₀ := s) (Z := quoteL true B.toList) hB ?_ h70 h69 (by omega) ?_ B.size 0 _ s.toks 0 [] (by omega) ?_ ⟨_, Heap.get?_push_size _ rfl⟩ (by simp) ?_
  · cases ho : s.heap.get? s.heap.objs.size with
    | none => rfl
    | some o => exact absurd (Heap.lt_size ho) (Nat.lt_irrefl _)
  · intro V t' h' k' hV hk
    exact h V t' h' k' hV hk
  · exact fun b o ho => Heap.get?_push_of_some _ ho
  · rfl
theorem getm_sub {pl : Sem Bool} {Q : Value × List Value → Shared → Prop} (hP : s.heap.get? 70 = some pat2O)
    (h : Q (.builtin "re.Pattern.sub", [.ref 70]) s) : wpAny (model prog w) A (getMethod (.ref 70) (Str.ofString "sub") pl) Q E s :=
  getMethod_builtin ⟨_, hP, rfl⟩ plainAttrs_pat slot_sub type_sub (fun a e => by cases e; exact ⟨_, hP, rfl⟩) h
theorem sub_N {Q : Value → Shared → Prop} {B : Array UInt8} {t tr : Tok} {h₀ : Heap} {L : Addr} {m : Str → Option Value} {news : List (Addr × Obj)} (F : Fr h₀ L s.heap m) (N : News h₀ L s.heap news)
    (X : (hd.heap_39 w.params).In h₀) (hB : B.size ≤ 1000)
    (h : ∀ V t' h' k', V.toList = quoteL true B.toList → Fr h₀ L h' m → News h₀ L h' news → Q (.bytes V t') { s with heap := h', toks := k' }) :
    wpAny (model prog w) A (call (.builtin "re.Pattern.sub") [.ref 70, .bytes #[46, 46] tr, .bytes B t]) Q E s :=
  sub_call hB (at70 (X.keeps F.keep)) (at69 (X.keeps F.keep)) fun V t' h' k' hV hk => h V t' h' k' hV (Fr.after F hk) (News.grown N hk)
end
local macro_rules | `(tactic| walk_at "getMethod ref") => `(tactic| (k_here; (with_reducible show wpAny _ _ (getMethod (Value.ref 70) (Str.ofString "sub") _) _ _ _); (with_reducible rename Fr _ _ _ _ => kF); (refine getm_sub (at70 (Frag.In.keeps (by assumption) kF.keep)) ?_)))
local macro_rules | `(tactic| walk_at "call builtin:re.Pattern.sub") => `(tactic| (k_here; (with_reducible rename Fr _ _ _ _ => kF); (with_reducible rename News _ _ _ _ => kN); (refine sub_N kF kN (by assumption) (by assumption) ?_); intro V' t' h' k' hV' F' N'; (try k_sweep)))

theorem quote_call : ∀ (w : World) {A : Around} {R : Result → Shared → Prop} {s : Shared} {loose : List Str} {mean : ExcName → Option Value} {mg mb : Str → Option Value}
    (X : (hd.heap_39 w.params).In s.heap) (T : Top hd.view_39 loose mean mg mb s.heap) (hA : A.handled = none) (hroom : A.depth < recursionLimit) (B : Array UInt8) (t1 : Tok) (hB : B.size ≤ 1000)
    (hret : ∀ V t' h' k', V.toList = quoteL true B.toList → (∀ b o, s.heap.get? b = some o → h'.get? b = some o) → R (.ok (.ret (.bytes V t'))) { s with heap := h', toks := k' }),
    codeAny (model PySem.Challenge.rw_xg0008_01.row.prog w) A (.call (.ref 77) ⟨[.bytes B t1], []⟩) R s := by
  w_top off
  k_fill
  intro w A R s loose mean mg mb X T hA hroom B t1 hB hret
  obtain ⟨hn, dp, fr, gd, un⟩ := A
  dsimp only at hA hroom
  subst hA
  k_dflt (refine' enter X T ?k6 ?k7 hroom ?k9 ?kB ?_ ?c2 ?c3 ?c4 ?c5; (case k6 => k_is); (case k7 => k_is); (case k9 => exact BindsTo.of_eq rfl); (case c5 => decide); (case kB => exact locs rfl); (case c2 => exact rfl); (case c3 => exact rfl); (case c4 => exact rfl))
  intro h₁ F N
  try dsimp only
  k_fold
  k_steps
  all_goals exact hret _ _ _ _ (by assumption) (Fr.keep (by assumption))
end Mine
end

section
open PySem PySem.Spec PySem.Calls PySem.W PyProof.Rows PySem.Builtin PySem.Builtin.Bytes
set_option Elab.async false
set_option maxRecDepth 100000
set_option linter.unusedVariables false
set_option maxHeartbeats 4000000
namespace Mine
/-- the rows of a mail -/
def rowsL : List UInt8 → List (List UInt8)
  | [] => [[]]
  | c :: r => if (c == 10) = true then [] :: rowsL r else (c :: ((rowsL r).headD [])) :: (rowsL r).tail
theorem rowsL_ne : ∀ l, rowsL l ≠ []
  | [] => by simp [rowsL]
  | c :: r => by unfold rowsL; split <;> simp
theorem rowsL_split : ∀ l, rowsL l = ((rowsL l).headD []) :: (rowsL l).tail := fun l => by
  have := rowsL_ne l
  cases h : rowsL l with
  | nil => exact absurd h this
  | cons a b => rfl
def glue (pre : List UInt8) (rs : List (List UInt8)) : List (List UInt8) := (pre ++ (rs.headD [])) :: rs.tail

abbrev isNl (B : Array UInt8) (i : Nat) : Bool := B.extract i (i + 1) == #[10]
theorem isNl_eq {B : Array UInt8} {i : Nat} (h : i < B.size) : isNl B i = (B[i] == 10) := by
  have e : B.extract i (i + 1) = #[B[i]] := by
    apply Array.ext
    · simp; omega
    · intro j h1 h2
      simp at h2
      subst h2
      simp
  unfold isNl
  rw [e]
  rw [Bool.eq_iff_iff]
  simp

theorem occ_go {B : Array UInt8} : ∀ (k s e : Nat) (acc : List Nat), e ≤ s →
    ((List.range' s k 1).foldl (fun (acc : List Nat × Nat) (i : Nat) => if (decide (i ≥ acc.2) && B.extract i (i + 1) == #[10]) = true then (i :: acc.1, i + 1) else acc) (acc, e)).1 = ((List.range' s k 1).filter (isNl B)).reverse ++ acc
  | 0, s, e, acc, _ => by simp
  | k + 1, s, e, acc, h => by
    rw [List.range'_succ, List.foldl_cons, List.filter_cons]
    have hs : decide (s ≥ e) = true := by simpa using h
    dsimp only
    rw [hs, Bool.true_and]
    by_cases hc : (B.extract s (s + 1) == #[10]) = true
    · rw [if_pos hc, if_pos hc, occ_go k (s + 1) (s + 1) _ (Nat.le_refl _)]
      simp
    · rw [if_neg hc, if_neg hc, occ_go k (s + 1) e _ (by omega)]
theorem occ_eq {B : Array UInt8} : occurrences B #[10] 0 B.size = (List.range' 0 B.size 1).filter (isNl B) := by
  have e : ((List.range (B.size + 1 - (0 + (#[10] : Array UInt8).size))).map (· + 0)) = List.range' 0 B.size 1 := by
    rw [show B.size + 1 - (0 + (#[10] : Array UInt8).size) = B.size by simp, List.range_eq_range']
    exact List.map_id _
  unfold occurrences
  rw [e]
  have := occ_go (B := B) B.size 0 0 [] (Nat.le_refl _)
  rw [List.append_nil] at this
  have h2 := congrArg List.reverse this
  rw [List.reverse_reverse] at h2
  exact h2
theorem betw_go {B : Array UInt8} : ∀ (k s last : Nat) (parts : Array (Array UInt8)), s + k = B.size → last ≤ s →
    (let r := ((List.range' s k 1).filter (isNl B)).foldl (fun (acc : Array (Array UInt8) × Nat) p => (acc.1.push (B.extract acc.2 p), p + 1)) (parts, last)
     (r.1.push (B.extract r.2 B.size)).toList.map (·.toList)) = parts.toList.map (·.toList) ++ glue (B.extract last s).toList (rowsL (B.toList.drop s))
  | 0, s, last, parts, hk, hl => by
    have : B.toList.drop s = [] := by rw [List.drop_eq_nil_iff]; simp; omega
    rw [this, show s = B.size by omega]
    simp [glue, rowsL]
  | k + 1, s, last, parts, hk, hl => by
    have hs : s < B.size := by omega
    rw [List.range'_succ, List.filter_cons, drop_cons hs, isNl_eq hs]
    by_cases hc : (B[s] == 10) = true
    · rw [if_pos hc, List.foldl_cons, betw_go k (s + 1) (s + 1) _ (by omega) (Nat.le_refl _), rowsL, if_pos hc]
      simp only [glue, Array.toList_push, List.map_append, List.map_cons, List.map_nil, List.append_assoc, List.cons_append, List.nil_append, List.headD_cons, List.tail_cons, List.append_nil]
      rw [show (B.extract (s + 1) (s + 1)).toList = [] by simp, List.nil_append, ← rowsL_split]
    · rw [if_neg hc, betw_go k (s + 1) last _ (by omega) (by omega), rowsL, if_neg hc]
      have e : (B.extract last (s + 1)).toList = (B.extract last s).toList ++ [B[s]] := by
        rw [Array.toList_extract, Array.toList_extract, List.extract_eq_take_drop, List.extract_eq_take_drop, show s + 1 - last = (s - last) + 1 by omega, List.take_add_one]
        congr 1
        rw [List.getElem?_drop, show last + (s - last) = s by omega]
        simp [hs]
      rw [e]
      simp [glue]
theorem betw_eq {B : Array UInt8} : (between B 1 (occurrences B #[10] 0 B.size)).map (·.toList) = rowsL B.toList := by
  have h := betw_go (B := B) B.size 0 0 #[] (by omega) (Nat.le_refl _)
  rw [← occ_eq] at h
  have e : glue (B.extract 0 0).toList (rowsL (B.toList.drop 0)) = rowsL B.toList := by
    rw [List.drop_zero, Array.toList_extract]
    rw [show B.toList.extract 0 0 = [] by simp, glue, List.nil_append, ← rowsL_split]
  rw [e] at h
  simp only [List.map_nil, List.nil_append] at h
  exact h
theorem rowsL_len : ∀ l : List UInt8, (rowsL l).length ≤ l.length + 1 ∧ ∀ r ∈ rowsL l, r.length ≤ l.length
  | [] => by simp [rowsL]
  | c :: r => by
    obtain ⟨h1, h2⟩ := rowsL_len r
    have h3 := rowsL_split r
    unfold rowsL
    split
    · refine ⟨by simp only [List.length_cons]; omega, fun x hx => ?_⟩
      rcases List.mem_cons.mp hx with rfl | hx
      · simp
      · have := h2 x hx; simp only [List.length_cons]; omega
    · refine ⟨by rw [h3] at h1; simp only [List.length_cons] at h1 ⊢; omega, fun x hx => ?_⟩
      rcases List.mem_cons.mp hx with rfl | hx
      · have := h2 ((rowsL r).headD []) (by rw [h3]; exact .head _)
        simp only [List.length_cons]; omega
      · have := h2 x (by rw [h3]; exact .tail _ hx)
        simp only [List.length_cons]; omega
theorem occ_len {B : Array UInt8} : (occurrences B #[10] 0 B.size).length ≤ B.size := by
  rw [occ_eq]
  refine Nat.le_trans (List.length_filter_le _ _) ?_
  simp

section
variable {M : Model} {A : Around} {E : Value → Shared → Prop} {s : Shared}
theorem news_any {Q : List Value → Shared → Prop} : ∀ (l : List (Array UInt8)) (s : Shared), (∀ b ∈ l, b.size ≤ 1000) → (∀ ps : List (Array UInt8 × Tok), ∀ k, ps.map (·.1) = l → Q (bytesL ps) { s with toks := k }) → wpAny M A (l.mapM (Kind.new .bytes)) Q E s
  | [], s, _, h => by rw [List.mapM_nil]; exact wpAny_pure (h [] s.toks rfl)
  | b :: l, s, hz, h => by
    rw [List.mapM_cons]
    refine wpAny_bind (wpAny_mkBytes (b := b) ?_ (by have := hz b (.head _); rw [sizeLine_eq]; omega))
    refine wpAny_bind (news_any l _ (fun c hc => hz c (.tail _ hc)) fun ps k hp => wpAny_pure ?_)
    exact h ((b, s.toks) :: ps) k (by rw [List.map_cons, hp])
end

section
variable {prog : Program} {w : World} {A : Around} {E : Value → Shared → Prop} {s : Shared} {Q : Value → Shared → Prop}
theorem bsplit_call {B : Array UInt8} {t u : Tok} (hB : B.size ≤ 1000)
    (h : ∀ (ps : List (Array UInt8 × Tok)) k, (ps.map (·.1)).map (·.toList) = rowsL B.toList → Q (.ref s.heap.objs.size) { s with heap := s.heap.push { cls := .type "list", data := .seq (bytesL ps).toArray }, toks := k }) :
    wpAny (model prog w) A (call (.builtin "bytes.split") [.bytes B t, .bytes #[10] u]) Q E s := by
  have hT : s.TypeIs (.bytes B t) "bytes" := rfl
  refine wpAny_call (codeAny_call_builtin slot_bsplit.plain entry_bsplit (slot_bsplit.check _ _ _ _ _ _ _ _ hT (args_bsplit _ _) ?_))
  have e : bindOptional "bytes.split" "split" ["sep", "maxsplit"] [.bytes #[10] u] [] = pure [some (.bytes #[10] u), none] := by kernel_rfl
  have ho := occ_len (B := B)
  have htk : (occurrences B #[10] 0 B.size).take (B.size + 1) = occurrences B #[10] 0 B.size := List.take_of_length_le (by omega)
  unfold «bytes.split» splitM
  show wpAny _ _ (bindOptional "bytes.split" "split" ["sep", "maxsplit"] [.bytes #[10] u] [] >>= fun r => _) _ _ s
  rw [e]
  refine wpAny_bind (wpAny_pure ?_)
  dsimp only
  refine wpAny_bind (wpAny_pure ?_)
  refine wpAny_bind (wpAny_of_eq (a := B) rfl ?_)
  show wpAny _ _ (bytesLike "bytes.split" (.bytes #[10] u) >>= fun sep => _) _ _ s
  refine wpAny_bind ?_
  unfold bytesLike
  refine wpAny_bind (wpAny_of_eq KBy.buffer_eq (wpAny_pure ?_))
  show wpAny _ _ (if ((occurrences B #[10] 0 B.size).take (B.size + 1)).isEmpty = true then _ else _) _ _ s
  rw [htk]
  by_cases hE : (occurrences B #[10] 0 B.size).isEmpty = true
  · rw [if_pos hE]
    have h0 : occurrences B #[10] 0 B.size = [] := by simpa using hE
    refine wpAny_bind (wpAny_rule ?_)
    refine wpAny_bind ?_
    unfold Kind.same
    rw [if_pos (by rfl)]
    refine wpAny_bind (wpAny_typeOf hT ?_)
    rw [if_pos (by rfl)]
    refine wpAny_pure ?_
    refine wpAny_bind (wpAny_newList' ?_ (by simp))
    refine wpAny_pure ?_
    have := betw_eq (B := B)
    rw [h0] at this
    refine h [(B, t)] s.toks ?_
    rw [← this]
    simp [between]
  · rw [if_neg hE]
    show wpAny _ _ (List.mapM (Kind.new .bytes) (between B 1 ((occurrences B #[10] 0 B.size).take (B.size + 1))) >>= fun r => _) _ _ s
    rw [htk]
    refine wpAny_bind (news_any _ s ?_ fun ps k hp => ?_)
    · intro b hb
      have hm : b.toList ∈ rowsL B.toList := by
        rw [← betw_eq]
        exact List.mem_map.mpr ⟨b, hb, rfl⟩
      have := (rowsL_len B.toList).2 _ hm
      simp only [Array.length_toList] at this
      omega
    · refine wpAny_bind (wpAny_newList' ?_ ?_)
      · refine wpAny_pure (h ps k ?_)
        rw [hp]
        exact betw_eq
      · have h2 : ps.length = (rowsL B.toList).length := by
          rw [← betw_eq, List.length_map]
          have := congrArg List.length hp
          rw [List.length_map] at this
          exact this
        have h3 := (rowsL_len B.toList).1
        simp only [Array.length_toList] at h3
        rw [List.length_map]
        omega
end
end Mine
end

section
open PySem PySem.Spec PySem.Calls PySem.W PyProof.Rows PySem.Builtin PySem.Builtin.Bytes
set_option Elab.async false
set_option maxRecDepth 100000
set_option linter.unusedVariables false
set_option maxHeartbeats 8000000
namespace Mine
def dotL (r : List UInt8) : List UInt8 := if (r.take 1 == [46]) = true then 46 :: r else r
theorem quote_rows : ∀ (l : List UInt8) (b : Bool), quoteL b l = (if b = true then dotL ((rowsL l).headD []) else (rowsL l).headD []) ++ ((rowsL l).tail.map fun r => 10 :: dotL r).flatten
  | [], b => by cases b <;> rfl
  | c :: r, b => by
    have ih := quote_rows r
    unfold rowsL quoteL
    by_cases hc : (c == 10) = true
    · have hc' : c = 10 := by simpa using hc
      subst hc'
      rw [if_pos hc, if_neg (by simp), hc, ih true, if_pos rfl, rowsL_split r]
      cases b <;> simp [dotL]
    · rw [if_neg hc]
      have h10 : (c == 10) = false := by simpa using hc
      rw [h10, ih false, if_neg Bool.false_ne_true]
      cases b with
      | false => simp
      | true =>
        simp only [Bool.true_and, List.headD_cons, List.tail_cons, if_true]
        by_cases h46 : (c == 46) = true
        · have : c = 46 := by simpa using h46
          subst this
          simp [dotL]
        · rw [if_neg h46]
          have : ¬ (([c] : List UInt8) == [46]) = true := by simpa using h46
          have h47 : ¬ c = 46 := by simpa using h46
          simp [dotL, List.take_succ_cons, h47]
def dotA (b : Array UInt8) : Array UInt8 := if ((KBy.picked b none (some 1)).toList == [46]) = true then #[46] ++ b else b
theorem dotA_toList (b : Array UInt8) : (dotA b).toList = dotL b.toList := by
  have e : (KBy.picked b none (some 1)).toList = b.toList.take 1 := by
    rw [KBc.picked_eq]
    simp only [Option.elim, List.drop_zero, Nat.sub_zero]
    rw [show clipAt b.size (1 : Int) = min 1 b.size from KBc.clip_lit b.size 1]
    show b.toList.take (min 1 b.size) = b.toList.take 1
    refine List.take_eq_take_iff.mpr ?_
    rw [Array.length_toList]
    omega
  unfold dotA dotL
  rw [e]
  split <;> simp
theorem joined_quote {B : Array UInt8} {l : List (Array UInt8)} (h : l.map (·.toList) = rowsL B.toList) : (joined #[10] (l.map dotA)).toList = quoteL true B.toList := by
  rw [quote_rows, if_pos rfl, ← h]
  cases l with
  | nil => exact absurd h.symm (rowsL_ne _)
  | cons p l =>
    rw [List.map_cons, joined_cons]
    simp [dotA_toList, List.map_map, Function.comp_def]
section
variable {prog : Program} {w : World} {A : Around} {E : Value → Shared → Prop} {s : Shared}
theorem getm_bsplit {pl : Sem Bool} {b : Array UInt8} {t : Tok} {Q : Value × List Value → Shared → Prop} (h : Q (.builtin "bytes.split", [.bytes b t]) s) : wpAny (model prog w) A (getMethod (.bytes b t) (Str.ofString "split") pl) Q E s :=
  getMethod_builtin rfl FB.plainAttrs_bytes slot_bsplit type_bsplit (fun a e => by cases e) h
theorem getm_bjoin {pl : Sem Bool} {b : Array UInt8} {t : Tok} {Q : Value × List Value → Shared → Prop} (h : Q (.builtin "bytes.join", [.bytes b t]) s) : wpAny (model prog w) A (getMethod (.bytes b t) (Str.ofString "join") pl) Q E s :=
  getMethod_builtin rfl FB.plainAttrs_bytes slot_bjoin type_bjoin (fun a e => by cases e) h
variable {h₀ : Heap} {L : Addr} {m : Str → Option Value} {news : List (Addr × Obj)}
theorem split_N {B : Array UInt8} {t u : Tok} {Q : Value → Shared → Prop} (F : Fr h₀ L s.heap m) (N : News h₀ L s.heap news) (hB : B.size ≤ 1000)
    (h : ∀ q h' k (ps : List (Array UInt8 × Tok)), (ps.map (·.1)).map (·.toList) = rowsL B.toList → Fr h₀ L h' m → News h₀ L h' ((q, listOf (bytesL ps).toArray 0) :: news) → (∀ p ∈ news, p.1 < q) → Q (.ref q) { s with heap := h', toks := k }) :
    wpAny (model prog w) A (call (.builtin "bytes.split") [.bytes B t, .bytes #[10] u]) Q E s :=
  bsplit_call hB fun ps k hp => h _ _ k ps hp (F.push _) (N.push F _) fun p hp => Heap.lt_size (N p hp).1
theorem join_N {sep : Array UInt8} {t : Tok} {l : Addr} {n : Nat} {ps : List (Array UInt8 × Tok)} {Q : Value → Shared → Prop} (N : News h₀ L s.heap news) (hm : (l, listOf (bytesL ps).toArray n) ∈ news)
    (hj : sep.size * (ps.length - 1) + (flatB ps).length ≤ 16777216) (hz : (joined sep (ps.map (·.1))).size ≤ 16777216) (h : ∀ t k, Q (.bytes (joined sep (ps.map (·.1))) t) { s with toks := k }) :
    wpAny (model prog w) A (call (.builtin "bytes.join") [.bytes sep t, .ref l]) Q E s := by
  refine bjoin_call (N _ hm).1 rfl rfl ?_ hz h
  rw [sum_flat, List.map_map]
  exact hj
theorem push_eq {dn : List (Array UInt8 × Tok)} {x : Array UInt8} {t : Tok} : (bytesL dn).toArray.push (.bytes x t) = (bytesL (dn ++ [(x, t)])).toArray := by simp [bytesL]
theorem append_turn {q D : Addr} {o : Obj} {dn : List (Array UInt8 × Tok)} {n : Nat} {x : Array UInt8} {t : Tok} {own : List (Addr × Obj)} {Q : Value → Shared → Prop} (F : Fr h₀ L s.heap m) (N : News h₀ L s.heap ((q, o) :: (D, listOf (bytesL dn).toArray n) :: own))
    (hq : D < q) (ho : OwnOff own [q, D]) (hz : dn.length ≤ 10000)
    (h : ∀ h', Fr h₀ L h' m → News h₀ L h' ((q, o) :: (D, listOf (bytesL (dn ++ [(x, t)])).toArray (n + 1)) :: own) → Q .none { s with heap := h' }) :
    wpAny (model prog w) A (call (.builtin "list.append") [.ref D, .bytes x t]) Q E s := by
  have e : (bytesL dn).toArray.push (.bytes x t) = (bytesL (dn ++ [(x, t)])).toArray := by simp [bytesL]
  refine append_K F N (.tail (fun e => Nat.ne_of_gt hq e) (.head fun p hp => ho p hp D (by simp))) ?_ ?_
  · rw [e]; exact h
  · simp [bytesL, sizeLine_eq]; omega
theorem slice_row {value slice : PySem.Expr} {b : Array UInt8} {t u : Tok} {Q : Value → Shared → Prop} (F : Fr h₀ L s.heap m) (N : News h₀ L s.heap news) (hz : b.size ≤ 1000)
    (h : ∀ h' t' k, Fr h₀ L h' m → News h₀ L h' news → Q (.bytes (KBy.picked b none (some 1)) t') { s with heap := h', toks := k })
    (hs : subscripted slice false (.bytes b t) (.ref s.heap.objs.size) = operate [.ref s.heap.objs.size, .bytes b t] (getItem (.bytes b t) (.ref s.heap.objs.size)) := by with_unfolding_all rfl)
    (ht : ∀ r, letTemporaryGo value (.bytes b t) r = pure () := by intro _; with_unfolding_all rfl) :
    wpAny (model prog w) A (subscriptTail value slice (.bytes b t) (.ref s.heap.objs.size)) Q E { s with heap := s.heap.push { cls := .type "slice", data := .fields #[.none, .int 1 u, .none] } } :=
  KBc.slice_K F N rfl (by constructor) (by constructor) (by rw [KBw.ints_length]; omega) (fun h' t' k F' N' _ => h h' t' k F' N') hs ht
theorem kdl_end {q D : Addr} {o : Obj} {own : List (Addr × Obj)} {J : (Str → Option Value) → List (Addr × Obj) → Prop} {oD : Obj} {s₁ : Shared} {h' : Heap} {tk : Nat} (F : Fr h₀ L h' m) (N : News h₀ L h' ((q, o) :: (D, oD) :: own)) (ho : OwnOff own [q, D]) (hj : J m [(q, o), (D, oD)]) : InvEndG h₀ L J own s₁ { s₁ with heap := h', toks := tk } :=
  InvEndG.intro F N hj ho (by intro p hp; simp only [List.mem_cons, List.not_mem_nil, or_false] at hp; rcases hp with rfl | rfl <;> simp) (fun p hp => .tail _ (.tail _ hp))
end
theorem flat_go {sep : Array UInt8} : ∀ (l : List (Array UInt8)), (l.map (·.toList)).flatten.length ≤ (l.map fun p => sep.toList ++ p.toList).flatten.length
  | [] => Nat.le_refl _
  | p :: l => by
    have := flat_go (sep := sep) l
    simp only [List.map_cons, List.flatten_cons, List.length_append]
    omega
theorem flat_le {sep : Array UInt8} {l : List (Array UInt8)} : (l.map (·.toList)).flatten.length ≤ (joined sep l).toList.length := by
  cases l with
  | nil => simp
  | cons p l =>
    rw [joined_cons]
    have := flat_go (sep := sep) l
    simp only [List.map_cons, List.flatten_cons, List.length_append]
    omega
def Stop (P : Prop) : Prop := P
theorem Stop.intro {P : Prop} (h : Stop P) : P := h
local macro_rules | `(tactic| walk_at "execs cons Assign cons") => `(tactic| (k_here; (with_reducible refine wpAny_execs_cons ?_); (try dsimp only)))
local macro_rules | `(tactic| walk_at "exec For Name Call cons nil") => `(tactic| (k_here; (rename Fr _ _ _ _ => lF'); (with_unfolding_all refine' For_invVF lF' ?k1 ?k2 ?_; (case k1 => exact rfl); (case k2 => exact rfl); k_whole)))
local macro_rules | `(tactic| walk_at "pyIter ref") => `(tactic| (k_here; (with_reducible show wpAny _ _ (pyIter (Value.ref _)) (fun it s₂ => LoopAtV _ _ _ _ _ _ _ _ _ it s₂) _ _); refine Stop.intro ?_))
local macro_rules | `(tactic| walk_at "getMethod bytes") => `(tactic| (k_here; first | refine getm_bsplit ?_ | refine getm_bjoin ?_))
local macro_rules | `(tactic| walk_at "call builtin:bytes.split") => `(tactic| (k_here; (with_reducible rename Fr _ _ _ _ => kF); (with_reducible rename News _ _ _ _ => kN); (refine split_N kF kN (by assumption) ?_); intro q' h' k' ps' hps' F' N' l1; (try k_lt l1); (try k_sweep)))
local macro_rules | `(tactic| walk_at "subscriptTail") => `(tactic| (k_here; (with_reducible show wpAny _ _ (subscriptTail _ (Expr.Slice _ _ none _) (Value.bytes _ _) (Value.ref _)) _ _ _); (with_reducible rename Fr _ _ _ _ => kF); (with_reducible rename News _ _ _ _ => kN); (refine slice_row (s := ⟨_, _, _, _, _⟩) kF kN (by assumption) ?_); intro h' t' k' F' N'; (try k_sweep)))
local macro_rules | `(tactic| walk_at "call builtin:list.append") => `(tactic| (k_here; (with_reducible show wpAny _ _ (call (Value.builtin _) [Value.ref _, Value.bytes _ _]) _ _ _); (with_reducible rename Fr _ _ _ _ => kF); (with_reducible rename News _ _ _ _ => kN); (refine append_turn kF kN (by assumption) (by assumption) (by assumption) ?_); intro h' F' N'; (try k_sweep)))
local macro_rules | `(tactic| walk_at "binaryOp Add bytes bytes") => `(tactic| (k_here; (with_reducible show wpAny _ _ (binaryOp Operator.Add (Value.bytes _ _) (Value.bytes _ _)) _ _ _); (refine KBy.add_bytes (by simp only [List.size_toArray, List.length_cons, List.length_nil]; omega) ?_); intro _ _))
local macro_rules | `(tactic| walk_at "call builtin:bytes.join") => `(tactic| (k_here; k_dflt (refine' join_N ?N ?m ?a ?b ?_; (case N => k_asm); (case m => k_mem); (case a => assumption); (case b => assumption)); intro t' k'))
local macro_rules | `(tactic| walk_at "InvEndG") => `(tactic| (k_here; refine Stop.intro ?_))

theorem quoted_call : ∀ (w : World) {A : Around} {R : Result → Shared → Prop} {s : Shared} {loose : List Str} {mean : ExcName → Option Value} {mg mb : Str → Option Value}
    (X : (hd.heap_39 w.params).In s.heap) (T : Top hd.view_39 loose mean mg mb s.heap) (hA : A.handled = none) (hroom : A.depth < recursionLimit) (B : Array UInt8) (t1 : Tok) (hB : B.size ≤ 1000)
    (hret : ∀ V t' h' k', V.toList = quoteL true B.toList → (∀ b o, s.heap.get? b = some o → h'.get? b = some o) → R (.ok (.ret (.bytes V t'))) { s with heap := h', toks := k' }),
    codeAny (model PySem.Challenge.rw_xg0008_01.row.prog w) A (.call (.ref 98) ⟨[.bytes B t1], []⟩) R s := by
  w_top off
  k_fill
  intro w A R s loose mean mg mb X T hA hroom B t1 hB hret
  obtain ⟨hn, dp, fr, gd, un⟩ := A
  dsimp only at hA hroom
  subst hA
  k_dflt (refine' enter X T ?k6 ?k7 hroom ?k9 ?kB ?_ ?c2 ?c3 ?c4 ?c5; (case k6 => k_is); (case k7 => k_is); (case k9 => exact BindsTo.of_eq rfl); (case c5 => decide); (case kB => exact locs rfl); (case c2 => exact rfl); (case c3 => exact rfl); (case c4 => exact rfl))
  intro h₁ F N
  try dsimp only
  k_fold
  k_steps
  unfold Stop
  rename_i D hA1 hA2 tkA q hq kq ps hps kF kN lDq
  have hlen : ps.length ≤ 1001 := by
    have h1 := congrArg List.length hps
    rw [List.length_map, List.length_map] at h1
    have h2 := (rowsL_len B.toList).1
    have h3 : B.toList.length = B.size := Array.length_toList
    omega
  refine kdl_iter (fun i m nx => ∃ (dn : List (Array UInt8 × Tok)) (n : Nat), nx = [(q, W.listOf (bytesL ps).toArray 0), (D, W.listOf (bytesL dn).toArray n)] ∧ dn.map (·.1) = (ps.take i).map (fun p => dotA p.1) ∧ m (Str.ofString "rows") = some (.ref D)) rfl (List.Mem.head _) kF kN ⟨[], 0, rfl, rfl, rfl⟩ ?_ ?_
  · rintro i v m₁ nx h tk own hv hoff hm ⟨dn, n, rfl, hdn, hrows⟩ F' N'
    clear kF kN hm
    obtain ⟨p, hp, rfl⟩ : ∃ p, ps[i]? = some p ∧ v = .bytes p.1 p.2 := by
      rw [List.getElem?_map] at hv
      cases hp : ps[i]? with
      | none => rw [hp] at hv; cases hv
      | some p => rw [hp] at hv; cases hv; exact ⟨p, rfl, rfl⟩
    have hpz : p.1.size ≤ 1000 := by
      have h1 : p.1.toList ∈ rowsL B.toList := by
        rw [← hps]
        exact List.mem_map.mpr ⟨p.1, List.mem_map.mpr ⟨p, List.mem_of_getElem? hp, rfl⟩, rfl⟩
      have h2 := (rowsL_len B.toList).2 _ h1
      have h3 : B.toList.length = B.size := Array.length_toList
      have h4 : p.1.toList.length = p.1.size := Array.length_toList
      omega
    have hdz : dn.length ≤ 10000 := by
      have h1 := congrArg List.length hdn
      rw [List.length_map, List.length_map, List.length_take] at h1
      omega
    obtain ⟨row, tr⟩ := p
    dsimp only at hpz
    have e : (fun y => if y = Str.ofString "row" then some (Value.bytes row tr) else m₁ y) = (fun y => if y = Str.ofString "row" then some (Value.bytes row tr) else if y = Str.ofString "rows" then some (Value.ref D) else m₁ y) := by
      funext y
      split
      · rfl
      · split
        · rename_i h1 h2; rw [h2]; exact hrows
        · rfl
    dsimp only at F'
    rw [e] at F'
    simp only [List.cons_append, List.nil_append] at N'
    (try dsimp only)
    k_steps
    all_goals (
      unfold Stop
      (with_reducible rename Fr _ _ _ _ => kF)
      (with_reducible rename News _ _ _ _ => kN)
      (with_reducible rename (_ == _) = _ => hc)
      (try rw [push_eq] at kN)
      refine kdl_end kF kN hoff ⟨.head _, dn ++ [(_, _)], _, rfl, ?_, rfl⟩
      have hd1 : dotA row = (if ((KBy.picked row none (some 1)).toList == [46]) = true then #[46] ++ row else row) := rfl
      have hc' : ((KBy.picked row none (some 1)).toList == [46]) = _ := hc
      rw [hc'] at hd1
      rw [List.map_append, hdn, List.take_add_one, hp, List.map_append]
      simp only [Option.toList, List.map_cons, List.map_nil, hd1, if_true, Bool.false_eq_true, if_false])
  · rintro m₁ nx h tk ⟨dn, n, rfl, hdn, hrows⟩ F' N'
    clear kF kN
    have e : m₁ = (fun y => if y = Str.ofString "rows" then some (Value.ref D) else m₁ y) := by
      funext y
      split
      · rename_i h2; rw [h2]; exact hrows
      · rfl
    rw [e] at F'
    have hdn2 : dn.map (·.1) = (ps.map (·.1)).map dotA := by
      rw [hdn, List.take_of_length_le (by simp), List.map_map]
      rfl
    have hV : (joined #[10] (dn.map (·.1))).toList = quoteL true B.toList := by
      rw [hdn2]
      exact joined_quote hps
    have hl1 := quoteL_len B.toList true
    have hl2 : B.toList.length = B.size := Array.length_toList
    have hl3 : (joined #[10] (dn.map (·.1))).toList.length = (joined #[10] (dn.map (·.1))).size := Array.length_toList
    have hdz : dn.length ≤ 1001 := by
      have h1 := congrArg List.length hdn2
      rw [List.length_map, List.length_map, List.length_map] at h1
      omega
    have hj2 : (joined #[10] (dn.map (·.1))).size ≤ 16777216 := by
      rw [← hl3, hV]; omega
    have hj1 : (#[10] : Array UInt8).size * (dn.length - 1) + (flatB dn).length ≤ 16777216 := by
      have := flat_le (sep := #[10]) (l := dn.map (·.1))
      rw [hV, List.map_map] at this
      have h5 : (flatB dn).length ≤ (quoteL true B.toList).length := this
      have h6 : (#[10] : Array UInt8).size = 1 := rfl
      rw [h6]
      omega
    (try dsimp only)
    k_steps

    all_goals exact hret _ _ _ _ hV (Fr.keep (by assumption))
end Mine
end

section
open PySem PySem.Spec PySem.Calls PySem.W PyProof.Rows
set_option Elab.async false
set_option maxRecDepth 100000
set_option maxHeartbeats 8000000
set_option linter.unusedVariables false
namespace Mine
/-- tz is a text that _law_zone writes for m minutes -/
def ZoneText (m : Int) (tz : Str) : Prop := ∃ a b c d : Nat, a < 10 ∧ b < 10 ∧ c < 10 ∧ d < 10 ∧
  ((m < 0 ∧ 3600 * (10 * a + b : Nat) + 60 * (10 * c + d : Nat) = 60 * -m ∧ (tz = ⟨#[45, 48 + a, 48 + b, 48 + c, 48 + d]⟩ ∨ tz = ⟨#[45, 48 + a, 48 + b, 58, 48 + c, 48 + d]⟩)) ∨
   (0 ≤ m ∧ 3600 * (10 * a + b : Nat) + 60 * (10 * c + d : Nat) = 60 * m ∧ (tz = ⟨#[48 + a, 48 + b, 48 + c, 48 + d]⟩ ∨ tz = ⟨#[48 + a, 48 + b, 58, 48 + c, 48 + d]⟩ ∨ tz = ⟨#[43, 48 + a, 48 + b, 48 + c, 48 + d]⟩ ∨ tz = ⟨#[43, 48 + a, 48 + b, 58, 48 + c, 48 + d]⟩)))

theorem zone_any (w : World) {A : Around} {R : Result → Shared → Prop} {s : Shared} {loose : List Str} {mean : ExcName → Option Value} {mg mb : Str → Option Value}
    (X : (hd.heap_39 w.params).In s.heap) (T : Top hd.view_39 loose mean mg mb s.heap) (hA : A.handled = none) (hroom : A.depth < recursionLimit) (m d : Int) (h0 : -5040 ≤ m) (h1 : m ≤ 5040) (hd0 : 0 ≤ d) (hd1 : d < 4) (t1 t2 : Tok)
    (hret : ∀ (tz : Str) (t : Tok) (h' : Heap) (tk' : Nat), ZoneText m tz → (∀ b o, s.heap.get? b = some o → h'.get? b = some o) → R (.ok (.ret (.str tz t))) { s with heap := h', toks := tk' }) :
    codeAny (model PySem.Challenge.rw_xg0008_01.row.prog w) A (.call (.ref 84) ⟨[.int m t1, .int d t2], []⟩) R s := by
  have hd4 : d = 0 ∨ d = 1 ∨ d = 2 ∨ d = 3 := by omega
  by_cases hm : m < 0
  · have hmn : (if m < 0 then -m else m) = -m := if_pos hm
    obtain ⟨⟨q1, q2⟩, ⟨q3, q4⟩, ⟨q5, q6⟩, ⟨q7, q8⟩, q9⟩ := zone_facts (n := -m) (by omega) (by omega)
    have val : 3600 * (10 * dA (-m) + dB (-m) : Nat) + 60 * (10 * dC (-m) + dD (-m) : Nat) = 60 * -m := by
      simp only [Int.natCast_add, Int.natCast_mul, dA, dB, dC, dD, Int.toNat_of_nonneg q1, Int.toNat_of_nonneg q3, Int.toNat_of_nonneg q5, Int.toNat_of_nonneg q7]
      exact q9
    have fits : dA (-m) < 10 ∧ dB (-m) < 10 ∧ dC (-m) < 10 ∧ dD (-m) < 10 := by
      simp only [dA, dB, dC, dD]; omega
    rcases hd4 with rfl | rfl | rfl | rfl
    · exact zone_call_m0 w X T hA hroom m (-m) hmn hm (by omega) (by omega) t1 t2 fun t h' k' hk => hret _ t h' k' ⟨_, _, _, _, fits.1, fits.2.1, fits.2.2.1, fits.2.2.2, .inl ⟨hm, val, .inr rfl⟩⟩ hk
    · exact zone_call_m1 w X T hA hroom m (-m) hmn hm (by omega) (by omega) t1 t2 fun t h' k' hk => hret _ t h' k' ⟨_, _, _, _, fits.1, fits.2.1, fits.2.2.1, fits.2.2.2, .inl ⟨hm, val, .inl rfl⟩⟩ hk
    · exact zone_call_m2 w X T hA hroom m (-m) hmn hm (by omega) (by omega) t1 t2 fun t h' k' hk => hret _ t h' k' ⟨_, _, _, _, fits.1, fits.2.1, fits.2.2.1, fits.2.2.2, .inl ⟨hm, val, .inr rfl⟩⟩ hk
    · exact zone_call_m3 w X T hA hroom m (-m) hmn hm (by omega) (by omega) t1 t2 fun t h' k' hk => hret _ t h' k' ⟨_, _, _, _, fits.1, fits.2.1, fits.2.2.1, fits.2.2.2, .inl ⟨hm, val, .inl rfl⟩⟩ hk
  · have hmn : (if m < 0 then -m else m) = m := if_neg hm
    obtain ⟨⟨q1, q2⟩, ⟨q3, q4⟩, ⟨q5, q6⟩, ⟨q7, q8⟩, q9⟩ := zone_facts (n := m) (by omega) (by omega)
    have val : 3600 * (10 * dA m + dB m : Nat) + 60 * (10 * dC m + dD m : Nat) = 60 * m := by
      simp only [Int.natCast_add, Int.natCast_mul, dA, dB, dC, dD, Int.toNat_of_nonneg q1, Int.toNat_of_nonneg q3, Int.toNat_of_nonneg q5, Int.toNat_of_nonneg q7]
      exact q9
    have fits : dA m < 10 ∧ dB m < 10 ∧ dC m < 10 ∧ dD m < 10 := by
      simp only [dA, dB, dC, dD]; omega
    have hm0 : 0 ≤ m := by omega
    rcases hd4 with rfl | rfl | rfl | rfl
    · exact zone_call_p0 w X T hA hroom m m hmn hm (by omega) (by omega) t1 t2 fun t h' k' hk => hret _ t h' k' ⟨_, _, _, _, fits.1, fits.2.1, fits.2.2.1, fits.2.2.2, .inr ⟨hm0, val, .inr (.inr (.inr rfl))⟩⟩ hk
    · exact zone_call_p1 w X T hA hroom m m hmn hm (by omega) (by omega) t1 t2 fun t h' k' hk => hret _ t h' k' ⟨_, _, _, _, fits.1, fits.2.1, fits.2.2.1, fits.2.2.2, .inr ⟨hm0, val, .inr (.inr (.inl rfl))⟩⟩ hk
    · exact zone_call_p2 w X T hA hroom m m hmn hm (by omega) (by omega) t1 t2 fun t h' k' hk => hret _ t h' k' ⟨_, _, _, _, fits.1, fits.2.1, fits.2.2.1, fits.2.2.2, .inr ⟨hm0, val, .inr (.inl rfl)⟩⟩ hk
    · exact zone_call_p3 w X T hA hroom m m hmn hm (by omega) (by omega) t1 t2 fun t h' k' hk => hret _ t h' k' ⟨_, _, _, _, fits.1, fits.2.1, fits.2.2.1, fits.2.2.2, .inr ⟨hm0, val, .inl rfl⟩⟩ hk

theorem tz_any (w : World) {A : Around} {R : Result → Shared → Prop} {s : Shared} {loose : List Str} {mean : ExcName → Option Value} {mg mb : Str → Option Value}
    (X : (hd.heap_39 w.params).In s.heap) (T : Top hd.view_39 loose mean mg mb s.heap) (hA : A.handled = none) (hroom : A.depth < recursionLimit) (m : Int) (tz : Str) (hz : ZoneText m tz) (t1 : Tok) (hret : RetI R s (60 * m)) :
    codeAny (model PySem.Challenge.rw_xg0008_01.row.prog w) A (.call (.ref 65) ⟨[.str tz t1], []⟩) R s := by
  obtain ⟨a, b, c, d, ha, hb, hc, hd4, ⟨hm, val, h⟩ | ⟨hm, val, h⟩⟩ := hz
  · have e : -(3600 * (10 * a + b : Nat) + 60 * (10 * c + d : Nat)) = 60 * m := by omega
    rw [← e] at hret
    rcases h with h | h
    · exact tz_call_m0 w X T hA hroom a b c d ha hb hc hd4 tz h t1 hret
    · exact tz_call_m1 w X T hA hroom a b c d ha hb hc hd4 tz h t1 hret
  · rw [← val] at hret
    rcases h with h | h | h | h
    · exact tz_call_u0 w X T hA hroom a b c d ha hb hc hd4 tz h t1 hret
    · exact tz_call_u1 w X T hA hroom a b c d ha hb hc hd4 tz h t1 hret
    · exact tz_call_p0 w X T hA hroom a b c d ha hb hc hd4 tz h t1 hret
    · exact tz_call_p1 w X T hA hroom a b c d ha hb hc hd4 tz h t1 hret
end Mine
end

section
open PySem PySem.Spec PySem.Calls PySem.W PyProof.Rows
set_option Elab.async false
set_option maxRecDepth 100000
set_option maxHeartbeats 4000000
set_option linter.unusedVariables false
namespace Mine
section
variable {prog : Program} {w : World} {A : Around} {E : Value → Shared → Prop} {s : Shared} {env : Env} {h₀ : Heap} {L : Addr} {m : Str → Option Value} {news : List (Addr × Obj)} {scope : Scope} {cl : List (Str × Addr)} {x : Str} {elt : PySem.Expr} {Q : Value → Shared → Prop}

theorem all_true {α : Type} (l : List α) : l.filter (fun _ => true) = l := List.filter_eq_self.mpr fun _ _ => rfl

theorem src_any {I : Addr} {fp : List Addr} {n : Nat} {P : Nat → Value → Prop} {St : Nat → Heap → Prop} (Fv : Value → Value → Prop) (W : Walks prog w A I fp [I] n P St) (hn : n ≤ sizeLine) (hst : St 0 s.heap) (hfp : ∀ b ∈ fp, b < s.heap.objs.size)
    (F : Fr h₀ L s.heap m) (N : News h₀ L s.heap news) (hIL : L ≠ I) (hI0 : h₀.get? I = none) (hIN : ∀ p ∈ news, p.1 ≠ I)
    (el : ∀ C i v s₃ m₃ E', P i v → s₃.heap.Ns C m₃ → m₃ x = some v → (∀ b o, b ≠ I → s.heap.get? b = some o → s₃.heap.get? b = some o) →
      wpAny (model prog w) A (eval elt (compEnvC scope cl C env)) (fun y s₄ => Fv v y ∧ Keeps s₃ s₄) E' s₃)
    (done : ∀ D h' tk ys vs n', vs.length = n → (∀ j v, vs[j]? = some v → P j v) → Paired Fv vs ys → Fr h₀ L h' m → News h₀ L h' ((D, listOf ys.toArray n') :: news) → (∀ p ∈ news, p.1 ≠ D) → Q (.ref D) { s with heap := h', toks := tk }) :
    ∃ I' fp wr n P St, Value.ref I = .ref I' ∧ Walks prog w A I' fp wr n P St ∧ n ≤ sizeLine ∧ St 0 s.heap ∧ (∀ b ∈ fp, b < s.heap.objs.size) ∧
      QuietOnC prog w A env scope cl x [] elt wr P (fun _ => true) Fv s ∧
      (∀ D h' tk ys (vs : List Value), s.heap.get? D = none → h'.IsList D ys → h'.PlainList D ys → vs.length = n → (∀ j v, vs[j]? = some v → P j v) → Paired Fv (vs.filter fun _ => true) ys.toList →
        (∀ b o, b ∉ wr → s.heap.get? b = some o → h'.get? b = some o) → Q (.ref D) { s with heap := h', toks := tk }) := by
  refine ⟨I, fp, [I], n, P, St, rfl, W, hn, hst, hfp, ⟨?_, ?_⟩, ?_⟩
  · intro C i v s₃ m₃ E' _ hP hns hx hk _
    exact wpAny_tests_nil ⟨rfl, ⟨s₃.heap, s₃.toks, rfl, fun _ _ e => e⟩⟩
  · intro C i v s₃ m₃ E' _ hP _ hns hx hk _
    exact el C i v s₃ m₃ E' hP hns hx fun b o hb ho => hk b o (by simpa using hb) ho
  · intro D h' tk ys vs hD hl hpl hlen hP hF hk
    obtain ⟨n', hpl⟩ := hpl
    have hk' : ∀ b o, b ≠ I → s.heap.get? b = some o → h'.get? b = some o := fun b o hb ho => hk b o (by simpa using hb) ho
    have hDN : ∀ p ∈ news, p.1 ≠ D := fun p hp e => by
      have := (N p hp).1
      rw [e, hD] at this
      cases this
    have hDL : D ≠ L := by
      rintro rfl
      obtain ⟨o, _, _, ho, _⟩ := F.ns
      rw [hD] at ho; cases ho
    have hD0 : h₀.get? D = none := by
      cases e : h₀.get? D with
      | none => rfl
      | some o => have := F.keep D o e; rw [hD] at this; cases this
    rw [all_true] at hF
    refine done D h' tk ys.toList vs n' hlen hP hF ⟨F.ns.at' fun o ho => hk' L o hIL ho, fun b o ho => hk' b o (fun e => by rw [e, hI0] at ho; cases ho) (F.keep b o ho), F.above⟩ ?_ hDN
    intro p hp
    rcases List.mem_cons.mp hp with rfl | hp
    · exact ⟨by simpa using hpl, hDL, hD0⟩
    · exact ⟨hk' _ _ (hIN p hp) (N p hp).1, (N p hp).2⟩

theorem src_ledger {ax : Addr} {vs : List Value} {n : Nat} (Fv : Value → Value → Prop) (hh : A.handled = none) (F : Fr h₀ L s.heap m) (N : News h₀ L s.heap news) (hm : (ax, listOf vs.toArray n) ∈ news) (hz : vs.length ≤ 1000)
    (el : ∀ C (i : Nat) v s₃ m₃ E', vs[i]? = some v → s₃.heap.Ns C m₃ → m₃ x = some v → (∀ b o, s.heap.get? b = some o → s₃.heap.get? b = some o) →
      wpAny (model prog w) A (eval elt (compEnvC scope cl C env)) (fun y s₄ => Fv v y ∧ Keeps s₃ s₄) E' s₃)
    (done : ∀ D h' tk ys n', Paired Fv vs ys → Fr h₀ L h' m → News h₀ L h' ((D, listOf ys.toArray n') :: news) → (∀ p ∈ news, p.1 ≠ D) → Q (.ref D) { s with heap := h', toks := tk }) :
    wpAny (model prog w) A (pyIter (.ref ax)) (fun it s => ∃ I' fp wr n P St, it = .ref I' ∧ Walks prog w A I' fp wr n P St ∧ n ≤ sizeLine ∧ St 0 s.heap ∧ (∀ b ∈ fp, b < s.heap.objs.size) ∧
      QuietOnC prog w A env scope cl x [] elt wr P (fun _ => true) Fv s ∧
      (∀ D h' tk ys (vs : List Value), s.heap.get? D = none → h'.IsList D ys → h'.PlainList D ys → vs.length = n → (∀ j v, vs[j]? = some v → P j v) → Paired Fv (vs.filter fun _ => true) ys.toList →
        (∀ b o, b ∉ wr → s.heap.get? b = some o → h'.get? b = some o) → Q (.ref D) { s with heap := h', toks := tk })) E s := by
  have hol : s.heap.get? ax = some (listOf vs.toArray n) := (N _ hm).1
  have hls : s.heap.IsList ax vs.toArray := ⟨_, hol, rfl, n, rfl⟩
  have hlt : ax < s.heap.objs.size := Heap.lt_size hol
  have hne : ax ≠ s.heap.objs.size := Nat.ne_of_lt hlt
  refine wpAny_pyIter_list hls ?_
  have hlen : vs.toArray.size = vs.length := by simp
  have W := Walks.list (prog := prog) (w := w) hh s.heap.objs.size ax hne vs.toArray
  rw [hlen] at W
  refine src_any Fv W (by rw [sizeLine_eq]; omega) ⟨⟨_, Heap.get?_push_size _ rfl, rfl, rfl⟩, hls.at fun o e => Heap.get?_push_of_some _ e⟩ ?_ (F.push _) (News.pushKeep N _) ?_ (next_is_new F) ?_ ?_ ?_
  · intro b hb
    show b < (s.heap.objs.push _).size
    rw [Array.size_push]
    rcases List.mem_cons.mp hb with rfl | hb
    · exact Nat.lt_succ_self _
    · rw [List.mem_singleton.mp hb]; exact Nat.lt_succ_of_lt hlt
  · exact Nat.ne_of_lt F.ns.lt
  · exact fun p hp => Nat.ne_of_lt (Heap.lt_size (N p hp).1)
  · intro C i v s₃ m₃ E' hP hns hx hk
    refine el C i v s₃ m₃ E' (by simpa using hP) hns hx fun b o ho => hk b o (Nat.ne_of_lt (Heap.lt_size ho)) (Heap.get?_push_of_some _ ho)
  · intro D h' tk ys vs' n' hl hP hF F' N' hD
    have e : vs' = vs := by
      apply List.ext_getElem?
      intro j
      cases h1 : vs'[j]? with
      | some v => have := hP j v h1; simpa using this.symm
      | none =>
        have : vs.length ≤ j := by rw [← hl]; exact List.getElem?_eq_none_iff.mp h1
        rw [List.getElem?_eq_none this]
    subst e
    exact done D h' tk ys n' hF F' N' hD
end
end Mine
end

section
open PySem PySem.Spec PySem.Calls PySem.W PyProof.Rows
set_option Elab.async false
set_option maxRecDepth 100000
set_option maxHeartbeats 4000000
set_option linter.unusedVariables false
namespace Mine
/-- the piece of a mail for a remainder by 5 -/
def pieceA (k : Int) : Array UInt8 := if k = 0 then #[10, 46] else if k = 1 then #[10] else if k = 2 then #[46] else if k = 3 then #[97] else #[13, 46]
section
variable {prog : Program} {w : World} {A : Around} {E : Value → Shared → Prop} {s : Shared} {h₀ : Heap} {L : Addr} {m : Str → Option Value} {news : List (Addr × Obj)} {scope : Scope} {cl : List (Str × Addr)} {env : Env} {C : Addr}
theorem menu_item {value slice : PySem.Expr} {l : Addr} {n : Nat} {t0 t1 t2 t3 t4 u : Tok} {k : Int} {Q : Value → Shared → Prop}
    (N : s.heap.get? l = some (listOf #[Value.bytes #[10, 46] t0, Value.bytes #[10] t1, Value.bytes #[46] t2, Value.bytes #[97] t3, Value.bytes #[13, 46] t4] n)) (h0 : 0 ≤ k) (h1 : k < 5)
    (h : ∀ b t, b = pieceA k → Q (.bytes b t) s)
    (hs : subscripted slice false (.ref l) (.int k u) = operate [.ref l, .int k u] (getItem (.ref l) (.int k u)) := by with_unfolding_all rfl) :
    wpAny (model prog w) A (subscriptTail value slice (.ref l) (.int k u)) Q E s := by
  have hl : s.heap.IsList l ([Value.bytes #[10, 46] t0, Value.bytes #[10] t1, Value.bytes #[46] t2, Value.bytes #[97] t3, Value.bytes #[13, 46] t4] : List Value).toArray := ⟨_, N, rfl, n, rfl⟩
  have hk : k = 0 ∨ k = 1 ∨ k = 2 ∨ k = 3 ∨ k = 4 := by omega
  rcases hk with rfl | rfl | rfl | rfl | rfl
  · exact tail_any hl.typeIs slot_list_getitem.lookup (wpAny_getItem_list hl h0 (by decide) (x := Value.bytes #[10, 46] t0) rfl (h _ _ rfl)) hs
  · exact tail_any hl.typeIs slot_list_getitem.lookup (wpAny_getItem_list hl h0 (by decide) (x := Value.bytes #[10] t1) rfl (h _ _ rfl)) hs
  · exact tail_any hl.typeIs slot_list_getitem.lookup (wpAny_getItem_list hl h0 (by decide) (x := Value.bytes #[46] t2) rfl (h _ _ rfl)) hs
  · exact tail_any hl.typeIs slot_list_getitem.lookup (wpAny_getItem_list hl h0 (by decide) (x := Value.bytes #[97] t3) rfl (h _ _ rfl)) hs
  · exact tail_any hl.typeIs slot_list_getitem.lookup (wpAny_getItem_list hl h0 (by decide) (x := Value.bytes #[13, 46] t4) rfl (h _ _ rfl)) hs

theorem menu_elt {a : Int} {t : Tok} {p1 p2 p3 p4 p5 p6 p7 p8 p9 p10 : Pos} (hkind : (compEnvC scope cl C env).scope.kind = .function) (hloc : (compEnvC scope cl C env).kindOf "x" = some .local) (hns : s.heap.Ns (compEnvC scope cl C env).locals m) (hx : m (Str.ofString "x") = some (.int a t)) :
    wpAny (model prog w) A (eval (.Subscript (.List [.Constant (.bytes [10, 46]) 0 p1, .Constant (.bytes [10]) 0 p2, .Constant (.bytes [46]) 0 p3, .Constant (.bytes [97]) 0 p4, .Constant (.bytes [13, 46]) 0 p5] p6) (.BinOp (.Name (Str.ofString "x") p7) .Mod (.Constant (.int 5) 0 p8) p9) p10) (compEnvC scope cl C env))
      (fun y s₄ => (∃ b t', y = .bytes b t' ∧ b = pieceA (a.fmod 5)) ∧ Keeps s s₄) E s := by
  refine Subscript_ (List_ ?_)
  refine spliced_cons (Constant_bytes (k := 0) (pos := p1) (spliced_cons (Constant_bytes (k := 0) (pos := p2) (spliced_cons (Constant_bytes (k := 0) (pos := p3) (spliced_cons (Constant_bytes (k := 0) (pos := p4) (spliced_cons (Constant_bytes (k := 0) (pos := p5) (spliced_nil ?_))))))))))
  refine wpAny_newList' ?_ (by simp)
  refine wpAny_BinOp (wpAny_Name (wpAny_loadName_local hkind hloc (hns.at' fun o e => Heap.get?_push_of_some _ e) hx ?_))
  refine wpAny_Constant_int (mod_int (by decide) ?_)
  refine menu_item (n := 0) (Heap.get?_push_size _ rfl) (fmod_lo _ (by decide)) (fmod_hi _ (by decide)) fun b t hb => ?_
  exact ⟨⟨b, t, rfl, hb⟩, _, _, rfl, fun b o e => Heap.get?_push_of_some _ e⟩
end
end Mine
end

section
open PySem PySem.Spec PySem.Calls PySem.W PyProof.Rows
set_option Elab.async false
set_option maxRecDepth 100000
set_option maxHeartbeats 16000000
set_option linter.unusedVariables false
namespace Mine
variable {fa : Addr} {cd : Value}
def lawP : List Stmt × Scope := match PySem.Challenge.pw_xg0008_01.main.body.drop 19 with
  | [.FunctionDef _ _ body _ _ _ scope _ _ _] => (body, scope)
  | _ => ([], PySem.Challenge.pw_xg0008_01.main.scope)
abbrev lawE (L fa : Addr) (cd : Value) : Env := envOfC (Str.ofString "law") lawP.2 L fa cd

theorem execs_app_wp {M : Model} {A : Around} {env : Env} {E : Value → Shared → Prop} {Q : Flow → Shared → Prop} {b : List Stmt} {Γ : PySem.Ctx} (hΓ : Γ.In A) : ∀ (a : List Stmt) (p : Pos) (s : Shared),
    Sem.wp M Γ (execs a env) (fun f _ s' => match f with | .next => wpAny M A (execs b env) Q E s' | f => Q f s') (fun e _ s' => E e s') p s → Sem.wp M Γ (execs (a ++ b) env) (fun f _ s' => Q f s') (fun e _ s' => E e s') p s
  | [], p, s, h => by
    rw [List.nil_append]
    have h1 : wpAny M A (execs b env) Q E s := h
    exact h1 Γ p hΓ
  | c :: a, p, s, h => by
    have e1 : ∀ l, execs (c :: l) env = (exec c env >>= fun f => match f with | .next => execs l env | f => pure f) := fun l => rfl
    rw [List.cons_append, e1, Sem.wp_bind']
    rw [e1, Sem.wp_bind'] at h
    refine Sem.wp_mono M Γ _ (fun f p' s' h' => ?_) (fun _ _ _ h' => h') p s h
    cases f with
    | next => exact execs_app_wp hΓ a p' s' h'
    | ret v => exact h'
    | brk => exact h'
    | cont => exact h'
theorem execs_app {M : Model} {A : Around} {env : Env} {E : Value → Shared → Prop} {Q : Flow → Shared → Prop} {b : List Stmt} (a : List Stmt) {s : Shared}
    (h : wpAny M A (execs a env) (fun f s' => match f with | .next => wpAny M A (execs b env) Q E s' | f => Q f s') E s) : wpAny M A (execs (a ++ b) env) Q E s :=
  fun Γ p hΓ => execs_app_wp hΓ a p s (h Γ p hΓ)

theorem join_8 {prog : Program} {w : World} {A : Around} {E : Value → Shared → Prop} {s : Shared} {h₀ : Heap} {L : Addr} {news : List (Addr × Obj)} {b0 b1 b2 b3 b4 b5 b6 b7 : Array UInt8} {k0 k1 k2 k3 k4 k5 k6 k7 : Int} {t t0 t1 t2 t3 t4 t5 t6 t7 : Tok} {l : Addr} {n : Nat} {Q : Value → Shared → Prop} (N : News h₀ L s.heap news)
    (hm : (l, listOf (#[Value.bytes b0 t0, Value.bytes b1 t1, Value.bytes b2 t2, Value.bytes b3 t3, Value.bytes b4 t4, Value.bytes b5 t5, Value.bytes b6 t6, Value.bytes b7 t7]) n) ∈ news)
    (e0 : b0 = pieceA k0) (e1 : b1 = pieceA k1) (e2 : b2 = pieceA k2) (e3 : b3 = pieceA k3) (e4 : b4 = pieceA k4) (e5 : b5 = pieceA k5) (e6 : b6 = pieceA k6) (e7 : b7 = pieceA k7)
    (h : ∀ B t k, B.toList = (([k0, k1, k2, k3, k4, k5, k6, k7] : List Int).map fun k => (pieceA k).toList).flatten → Q (.bytes B t) { s with toks := k }) :
    wpAny (model prog w) A (call (.builtin "bytes.join") [.bytes #[] t, .ref l]) Q E s := by
  have piece_len : ∀ k : Int, (pieceA k).toList.length ≤ 2 := by
    intro k
    unfold pieceA
    repeat' split
    all_goals decide
  have l0 : b0.toList.length ≤ 2 := by rw [e0]; exact piece_len k0
  have l1 : b1.toList.length ≤ 2 := by rw [e1]; exact piece_len k1
  have l2 : b2.toList.length ≤ 2 := by rw [e2]; exact piece_len k2
  have l3 : b3.toList.length ≤ 2 := by rw [e3]; exact piece_len k3
  have l4 : b4.toList.length ≤ 2 := by rw [e4]; exact piece_len k4
  have l5 : b5.toList.length ≤ 2 := by rw [e5]; exact piece_len k5
  have l6 : b6.toList.length ≤ 2 := by rw [e6]; exact piece_len k6
  have l7 : b7.toList.length ≤ 2 := by rw [e7]; exact piece_len k7
  refine join_N (ps := [(_, t0), (_, t1), (_, t2), (_, t3), (_, t4), (_, t5), (_, t6), (_, t7)]) N hm ?_ ?_ fun t k => h _ t k ?_
  · simp only [flatB, List.map_cons, List.map_nil, List.flatten_cons, List.flatten_nil, List.length_append, List.length_nil, List.size_toArray, Nat.zero_mul]
    omega
  · rw [← Array.length_toList, joined_empty]
    simp only [List.map_cons, List.map_nil, List.flatten_cons, List.flatten_nil, List.length_append, List.length_nil]
    omega
  · rw [joined_empty, e0, e1, e2, e3, e4, e5, e6, e7]
    rfl
section
local macro_rules | `(tactic| walk_at "eval ListComp") => `(tactic| (k_here; refine Stop.intro ?_))
local macro_rules | `(tactic| walk_at "pyIter ref") => `(tactic| (k_here; refine Stop.intro ?_))
local macro_rules | `(tactic| walk_at "getMethod bytes") => `(tactic| (k_here; refine getm_bjoin ?_))
theorem blkA (w : World) {A : Around} {s : Shared} {loose : List Str} {mean : ExcName → Option Value} {mg mb : Str → Option Value} {h₀ : Heap} {L D : Addr} {n0 n1 n2 n3 n4 n5 n6 n7 : Int} {u0 u1 u2 u3 u4 u5 u6 u7 : Tok} {cs : List (Addr × Obj)} {m : Str → Option Value} {Q : Flow → Shared → Prop} {E : Value → Shared → Prop} {nn : Nat}
    (X : (hd.heap_39 w.params).In h₀) (T : Top hd.view_39 loose mean mg mb h₀) (hA : A.handled = none) (hroom : A.depth + 10 < recursionLimit)
    (F : Fr h₀ L s.heap (fun z => if z = Str.ofString "numbers" then some (.ref D) else m z))
    (N : News h₀ L s.heap ((D, listOf #[.int n0 u0, .int n1 u1, .int n2 u2, .int n3 u3, .int n4 u4, .int n5 u5, .int n6 u6, .int n7 u7] nn) :: cs))
    (hnext : ∀ B t h' k', B.toList = (([n0, n1, n2, n3, n4, n5, n6, n7] : List Int).map fun k => (pieceA (k.fmod 5)).toList).flatten → Fr h₀ L h' (fun z => if z = Str.ofString "mail" then some (.bytes B t) else if z = Str.ofString "numbers" then some (.ref D) else m z) →
      News h₀ L h' ((D, listOf #[.int n0 u0, .int n1 u1, .int n2 u2, .int n3 u3, .int n4 u4, .int n5 u5, .int n6 u6, .int n7 u7] nn) :: cs) → Q .next { s with heap := h', toks := k' }) :
    wpAny (model PySem.Challenge.rw_xg0008_01.row.prog w) A (execs ((lawP.1.drop 1).take 1) (lawE L fa cd)) Q E s := by
  w_top off
  k_fill
  obtain ⟨hn, dp, fr, gd, un⟩ := A
  dsimp only at hA hroom
  subst hA
  unfold lawE lawP PySem.Challenge.pw_xg0008_01
  dsimp only [List.drop, List.take]
  k_steps
  unfold Stop
  k_fold
  refine wpAny_ListComp_free (fun _ => true) (fun v y => ∃ a t b t', v = .int a t ∧ y = .bytes b t' ∧ b = pieceA (a.fmod 5)) (by rfl) (by decide) rfl (by decide) rfl ?_
  k_steps
  unfold Stop
  (with_reducible rename Fr _ _ _ _ => kF)
  (with_reducible rename News _ _ _ _ => kN)
  refine src_ledger (vs := [_, _, _, _, _, _, _, _]) _ rfl kF kN (.head _) (by simp) ?_ ?_
  · intro C i v s₃ m₃ E' hv hns hx hk
    obtain ⟨a, t, rfl⟩ : ∃ a t, v = .int a t := by
      have := List.mem_of_getElem? hv
      simp only [List.mem_cons, List.not_mem_nil, or_false] at this
      rcases this with rfl | rfl | rfl | rfl | rfl | rfl | rfl | rfl <;> exact ⟨_, _, rfl⟩
    refine wpAny_mono (menu_elt rfl rfl hns hx) ?_ fun _ _ e => e
    rintro y s₄ ⟨⟨b, t', rfl, hb⟩, hk⟩
    exact ⟨⟨a, t, b, t', rfl, rfl, hb⟩, hk⟩
  · intro D' h' tk ys n' hP F' N' hne
    clear kF kN
    cases hP with | cons h0 hP =>
    cases hP with | cons h1 hP =>
    cases hP with | cons h2 hP =>
    cases hP with | cons h3 hP =>
    cases hP with | cons h4 hP =>
    cases hP with | cons h5 hP =>
    cases hP with | cons h6 hP =>
    cases hP with | cons h7 hP =>
    cases hP
    obtain ⟨_, _, b0, t0, e, rfl, hb0⟩ := h0; cases e
    obtain ⟨_, _, b1, t1, e, rfl, hb1⟩ := h1; cases e
    obtain ⟨_, _, b2, t2, e, rfl, hb2⟩ := h2; cases e
    obtain ⟨_, _, b3, t3, e, rfl, hb3⟩ := h3; cases e
    obtain ⟨_, _, b4, t4, e, rfl, hb4⟩ := h4; cases e
    obtain ⟨_, _, b5, t5, e, rfl, hb5⟩ := h5; cases e
    obtain ⟨_, _, b6, t6, e, rfl, hb6⟩ := h6; cases e
    obtain ⟨_, _, b7, t7, e, rfl, hb7⟩ := h7; cases e
    k_steps
    refine join_8 N' (.head _) hb0 hb1 hb2 hb3 hb4 hb5 hb6 hb7 fun B t k hB => ?_
    have N2 : News h₀ L h' _ := fun p hp => N' p (.tail _ hp)
    clear N'
    k_steps
    (with_reducible rename Fr _ _ _ _ => kF)
    (with_reducible rename News _ _ _ _ => kN)
    exact hnext _ _ _ _ hB kF kN
end
end Mine
end

section
open PySem PySem.Spec PySem.Calls PySem.W PyProof.Rows
set_option Elab.async false
set_option maxRecDepth 100000
set_option maxHeartbeats 16000000
set_option linter.unusedVariables false
namespace Mine
variable {fa : Addr} {cd : Value}
section
variable {M : Model} {A : Around} {E : Value → Shared → Prop} {s : Shared} {h₀ : Heap} {L a : Addr} {m : Str → Option Value} {cn : Str} {cs : Scope} {ccd : Value} {cl : List (Str × Addr)} {x : Str} {v : Value} {Q : Unit → Shared → Prop} {rest : List (Addr × Obj)} {c : Addr} {o : Obj} {v₀ : Option Value}
theorem store_head (F : Fr h₀ L s.heap m) (N : News h₀ L s.heap ((c, o) :: rest)) (hr : ∀ p ∈ rest, p.1 ≠ c) (hd : o.data = .cell v₀) (hc : cl.lookup x = some c)
    (h : ∀ h' o', Fr h₀ L h' m → News h₀ L h' ((c, o') :: rest) → o'.data = .cell (some v) → Q () { s with heap := h' })
    (hk : cs.kind = .function := by rfl) (hx : (envX cn cs L a ccd cl).kindOf x = some .cell := by rfl) : wpAny M A (storeName (envX cn cs L a ccd cl) x v) Q E s := by
  have hmem := N (c, o) (.head _)
  refine wpAny_storeName_cell hk hx hc ⟨o, hmem.1, hd⟩ fun h' hv hs => ?_
  obtain ⟨o', ho', hd'⟩ := hv
  refine h h' o' ⟨F.ns.sameBut hs (Ne.symm hmem.2.1), fun b ob e => (hs.2 b (fun q => ?_)).trans (F.keep b ob e), F.above⟩ ?_ hd'
  · rw [q, hmem.2.2] at e; cases e
  · intro p hp
    rcases List.mem_cons.mp hp with rfl | hp
    · exact ⟨ho', hmem.2⟩
    · exact ⟨(hs.2 p.1 (hr p hp)).trans (N p (.tail _ hp)).1, (N p (.tail _ hp)).2⟩
end
theorem quote_size {V B : Array UInt8} (h : V.toList = quoteL true B.toList) (hB : B.size ≤ 1000) : V.size ≤ 2000 := by
  have h1 := quoteL_len B.toList true
  have h2 : B.toList.length = B.size := Array.length_toList
  have h3 : V.toList.length = V.size := Array.length_toList
  rw [h] at h3
  omega
section
theorem room_le {A : Around} {k : Nat} (h : A.depth + k < recursionLimit) : A.depth < recursionLimit := by omega
theorem room_le2 {d k : Nat} (h : d + k < recursionLimit) : d < recursionLimit := by omega
local macro_rules | `(tactic| walk_at "call ref") => `(tactic| (k_here; (with_reducible show wpAny _ _ (call (Value.ref 77) _) _ _ _); (with_reducible rename Fr _ _ _ _ => kF); (with_reducible rename News _ _ _ _ => kN); k_dflt (refine' wpAny_call (quote_call _ (Frag.In.keeps (by assumption) kF.keep) (Top_keeps (by assumption) kF) rfl (room_le2 (by assumption)) _ _ (by assumption) ?_)); intro V9 t9 h9 tk9 hV9 k9; (have hz9 := quote_size hV9 (by assumption)); (have F9 := Fr.after kF k9); (have N9 := News.grown kN k9); (try dsimp only); (try k_sweep)))
local macro_rules | `(tactic| walk_at "call ref") => `(tactic| (k_here; (with_reducible show wpAny _ _ (call (Value.ref 98) _) _ _ _); (with_reducible rename Fr _ _ _ _ => kF); (with_reducible rename News _ _ _ _ => kN); k_dflt (refine' wpAny_call (quoted_call _ (Frag.In.keeps (by assumption) kF.keep) (Top_keeps (by assumption) kF) rfl (room_le2 (by assumption)) _ _ (by assumption) ?_)); intro V9 t9 h9 tk9 hV9 k9; (have hz9 := quote_size hV9 (by assumption)); (have F9 := Fr.after kF k9); (have N9 := News.grown kN k9); (try dsimp only); (try k_sweep)))
local macro_rules | `(tactic| walk_at "call builtin:len") => `(tactic| (k_here; (with_reducible show wpAny _ _ (call (Value.builtin "len") [Value.bytes _ _]) _ _ _); (refine len_bytes (by omega) ?_)))
local macro_rules | `(tactic| walk_at "storeName") => `(tactic| (k_here; (with_reducible rename Fr _ _ _ _ => kF); (with_reducible rename News _ _ _ _ => kN); (refine store_head kF kN (by assumption) (by assumption) (by rfl) ?_); intro h' o' F' N' ho'; (try k_sweep)))
theorem blkB : ∀ (w : World) {A : Around} {s : Shared} {loose : List Str} {mean : ExcName → Option Value} {mg mb : Str → Option Value} {h₀ : Heap} {L : Addr} {B : Array UInt8} {tB : Tok} {cs : List (Addr × Obj)} {m : Str → Option Value} {Q : Flow → Shared → Prop} {E : Value → Shared → Prop} {o1 : Obj}
    (X : (hd.heap_39 w.params).In h₀) (T : Top hd.view_39 loose mean mg mb h₀) (hA : A.handled = none) (hroom : A.depth + 10 < recursionLimit) (hB : B.size ≤ 1000)
    (F : Fr h₀ L s.heap (fun z => if z = Str.ofString "mail" then some (.bytes B tB) else m z))
    (N : News h₀ L s.heap ((L + 1, o1) :: cs)) (ho1 : o1.data = .cell none) (hcs : ∀ p ∈ cs, p.1 ≠ L + 1)
    (hnext : ∀ (V : Array UInt8) tV tE h' k' o1', V.toList = quoteL true B.toList → Fr h₀ L h' (fun y => if y = Str.ofString "quoted" then some (.bytes V tV) else if y = Str.ofString "mail" then some (.bytes B tB) else m y) → News h₀ L h' ((L + 1, o1') :: cs) → o1'.data = .cell (some (.int (1 + V.size - B.size) tE)) → Q .next { s with heap := h', toks := k' }),
    wpAny (model PySem.Challenge.rw_xg0008_01.row.prog w) A (execs ((lawP.1.drop 2).take 3) (lawE L fa cd)) Q E s := by
  w_top off
  k_fill
  intro w A s loose mean mg mb h₀ L B tB cs m Q E o1 X T hA hroom hB F N ho1 hcs hnext
  obtain ⟨hn, dp, fr, gd, un⟩ := A
  dsimp only at hA hroom
  subst hA
  unfold lawE lawP PySem.Challenge.pw_xg0008_01
  dsimp only [List.drop, List.take]
  k_steps
  · exfalso
    (with_reducible rename (_ != _) = true => hq)
    revert hq
    simp [*]
  · (with_reducible rename Fr _ _ _ _ => kF)
    (with_reducible rename News _ _ _ _ => kN)
    exact hnext _ _ _ _ _ _ (by assumption) kF kN (by assumption)
end
end Mine
end

section
open PySem PySem.Spec PySem.Calls PySem.W PyProof.Rows
set_option Elab.async false
set_option maxRecDepth 100000
set_option maxHeartbeats 16000000
set_option linter.unusedVariables false
namespace Mine
variable {fa : Addr} {cd : Value}
abbrev totS (n0 n1 n2 n3 n4 n5 n6 n7 : Int) : Int := n0.fdiv 5 + (n1.fdiv 5 + (n2.fdiv 5 + (n3.fdiv 5 + (n4.fdiv 5 + (n5.fdiv 5 + (n6.fdiv 5 + (n7.fdiv 5 + 0)))))))
abbrev liO (S : Int) : Int := 1 + S.fmod 7
abbrev puO (S : Int) : Int := 1 + (S.fdiv 7).fmod 4
abbrev weO (S : Int) : Int := puO S * (if 8 - liO S < liO S then 8 - liO S else liO S)
theorem off_ne {L : Addr} {i j : Nat} (h : i ≠ j) : L + i ≠ L + j := fun e => h (Nat.add_left_cancel e)
theorem fdiv_elt {prog : Program} {w : World} {A : Around} {E : Value → Shared → Prop} {s : Shared} {m : Str → Option Value} {scope : Scope} {cl : List (Str × Addr)} {env : Env} {C : Addr} {a : Int} {t : Tok} {p7 p8 p9 : Pos} (hkind : (compEnvC scope cl C env).scope.kind = .function) (hloc : (compEnvC scope cl C env).kindOf "x" = some .local) (hns : s.heap.Ns (compEnvC scope cl C env).locals m) (hx : m (Str.ofString "x") = some (.int a t)) :
    wpAny (model prog w) A (eval (.BinOp (.Name (Str.ofString "x") p7) .FloorDiv (.Constant (.int 5) 0 p8) p9) (compEnvC scope cl C env))
      (fun y s₄ => (∃ t', y = .int (a.fdiv 5) t') ∧ Keeps s s₄) E s := by
  refine wpAny_BinOp (wpAny_Name (wpAny_loadName_local hkind hloc hns hx ?_))
  refine wpAny_Constant_int (floordiv_int (by decide) ?_)
  exact ⟨⟨_, rfl⟩, _, _, rfl, fun b o e => e⟩
section
variable {M : Model} {A : Around} {E : Value → Shared → Prop} {s : Shared} {h₀ : Heap} {L a : Addr} {m : Str → Option Value} {cn : Str} {cs : Scope} {ccd : Value} {cl : List (Str × Addr)} {x : Str} {v : Value} {Q : Unit → Shared → Prop} {rest : List (Addr × Obj)} {c c1 : Addr} {o q1 : Obj} {v₀ : Option Value}
theorem store_2nd (F : Fr h₀ L s.heap m) (N : News h₀ L s.heap ((c1, q1) :: (c, o) :: rest)) (h1 : c1 ≠ c) (hr : ∀ p ∈ rest, p.1 ≠ c) (hd : o.data = .cell v₀) (hc : cl.lookup x = some c)
    (h : ∀ h' o', Fr h₀ L h' m → News h₀ L h' ((c1, q1) :: (c, o') :: rest) → o'.data = .cell (some v) → Q () { s with heap := h' })
    (hk : cs.kind = .function := by rfl) (hx : (envX cn cs L a ccd cl).kindOf x = some .cell := by rfl) : wpAny M A (storeName (envX cn cs L a ccd cl) x v) Q E s := by
  refine store_head (rest := (c1, q1) :: rest) F (fun p hp => N p ?_) ?_ hd hc (fun h' o' F' N' hd' => h h' o' F' (fun p hp => N' p ?_) hd') hk hx
  · simp only [List.mem_cons] at hp ⊢
    rcases hp with h | h | h
    · exact .inr (.inl h)
    · exact .inl h
    · exact .inr (.inr h)
  · intro p hp
    rcases List.mem_cons.mp hp with rfl | hp
    · exact h1
    · exact hr p hp
  · simp only [List.mem_cons] at hp ⊢
    rcases hp with h | h | h
    · exact .inr (.inl h)
    · exact .inl h
    · exact .inr (.inr h)
end
section
local macro_rules | `(tactic| walk_at "eval ListComp") => `(tactic| (k_here; refine Stop.intro ?_))
local macro_rules | `(tactic| walk_at "pyIter ref") => `(tactic| (k_here; refine Stop.intro ?_))
local macro_rules | `(tactic| walk_at "storeName") => `(tactic| (k_here; (with_reducible rename Fr _ _ _ _ => kF); (with_reducible rename News _ _ _ _ => kN); first
  | (refine store_head kF kN (by assumption) (by assumption) (by rfl) ?_; intro h' o' F' N' ho'; (try k_sweep))
  | (refine store_2nd kF kN (off_ne (by decide)) (by assumption) (by assumption) (by rfl) ?_; intro h' o' F' N' ho'; (try k_sweep))))
theorem blkC : ∀ (w : World) {A : Around} {s : Shared} {loose : List Str} {mean : ExcName → Option Value} {mg mb : Str → Option Value} {h₀ : Heap} {L D : Addr} {n0 n1 n2 n3 n4 n5 n6 n7 : Int} {u0 u1 u2 u3 u4 u5 u6 u7 : Tok} {cs : List (Addr × Obj)} {m : Str → Option Value} {Q : Flow → Shared → Prop} {E : Value → Shared → Prop} {nn : Nat} {o2 o3 : Obj}
    (X : (hd.heap_39 w.params).In h₀) (T : Top hd.view_39 loose mean mg mb h₀) (hA : A.handled = none) (hroom : A.depth + 10 < recursionLimit)
    (F : Fr h₀ L s.heap (fun z => if z = Str.ofString "numbers" then some (.ref D) else m z))
    (N : News h₀ L s.heap ((L + 2, o2) :: (L + 3, o3) :: (D, listOf #[.int n0 u0, .int n1 u1, .int n2 u2, .int n3 u3, .int n4 u4, .int n5 u5, .int n6 u6, .int n7 u7] nn) :: cs))
    (ho2 : o2.data = .cell none) (ho3 : o3.data = .cell none)
    (h2 : ∀ p ∈ ((D, listOf #[.int n0 u0, .int n1 u1, .int n2 u2, .int n3 u3, .int n4 u4, .int n5 u5, .int n6 u6, .int n7 u7] nn) :: cs), p.1 ≠ L + 2)
    (h3 : ∀ p ∈ ((D, listOf #[.int n0 u0, .int n1 u1, .int n2 u2, .int n3 u3, .int n4 u4, .int n5 u5, .int n6 u6, .int n7 u7] nn) :: cs), p.1 ≠ L + 3)
    (hnext : ∀ tT tP t2 t3 h' k' o2' o3', Fr h₀ L h' (fun y => if y = Str.ofString "pure" then some (.int (puO (totS n0 n1 n2 n3 n4 n5 n6 n7)) tP) else if y = Str.ofString "total" then some (.int (totS n0 n1 n2 n3 n4 n5 n6 n7) tT) else if y = Str.ofString "numbers" then some (.ref D) else m y) →
      News h₀ L h' ((L + 2, o2') :: (L + 3, o3') :: (D, listOf #[.int n0 u0, .int n1 u1, .int n2 u2, .int n3 u3, .int n4 u4, .int n5 u5, .int n6 u6, .int n7 u7] nn) :: cs) →
      o2'.data = .cell (some (.int (liO (totS n0 n1 n2 n3 n4 n5 n6 n7)) t2)) → o3'.data = .cell (some (.int (weO (totS n0 n1 n2 n3 n4 n5 n6 n7)) t3)) → Q .next { s with heap := h', toks := k' }),
    wpAny (model PySem.Challenge.rw_xg0008_01.row.prog w) A (execs ((lawP.1.drop 5).take 4) (lawE L fa cd)) Q E s := by
  w_top off
  k_fill
  intro w A s loose mean mg mb h₀ L D n0 n1 n2 n3 n4 n5 n6 n7 u0 u1 u2 u3 u4 u5 u6 u7 cs m Q E nn o2 o3 X T hA hroom F N ho2 ho3 h2 h3 hnext
  obtain ⟨hn, dp, fr, gd, un⟩ := A
  dsimp only at hA hroom
  subst hA
  unfold lawE lawP PySem.Challenge.pw_xg0008_01
  dsimp only [List.drop, List.take]
  k_steps
  unfold Stop
  k_fold
  refine wpAny_ListComp_free (fun _ => true) (fun v y => ∃ a t t', v = .int a t ∧ y = .int (a.fdiv 5) t') (by rfl) (by decide) rfl (by decide) rfl ?_
  k_steps
  unfold Stop
  (with_reducible rename Fr _ _ _ _ => kF)
  (with_reducible rename News _ _ _ _ => kN)
  refine src_ledger (vs := [_, _, _, _, _, _, _, _]) _ rfl kF kN (.tail _ (.tail _ (.head _))) (by simp) ?_ ?_
  · intro C i v s₃ m₃ E' hv hns hx hk
    obtain ⟨a, t, rfl⟩ : ∃ a t, v = .int a t := by
      have := List.mem_of_getElem? hv
      simp only [List.mem_cons, List.not_mem_nil, or_false] at this
      rcases this with rfl | rfl | rfl | rfl | rfl | rfl | rfl | rfl <;> exact ⟨_, _, rfl⟩
    refine wpAny_mono (fdiv_elt rfl rfl hns hx) ?_ fun _ _ e => e
    rintro y s₄ ⟨⟨t', rfl⟩, hk⟩
    exact ⟨⟨a, t, t', rfl, rfl⟩, hk⟩
  · intro D' h' tk ys n' hP F' N' hne
    clear kF kN
    cases hP with | cons h0 hP =>
    cases hP with | cons h1 hP =>
    cases hP with | cons h2' hP =>
    cases hP with | cons h3' hP =>
    cases hP with | cons h4 hP =>
    cases hP with | cons h5 hP =>
    cases hP with | cons h6 hP =>
    cases hP with | cons h7 hP =>
    cases hP
    obtain ⟨_, _, t0, e, rfl⟩ := h0; cases e
    obtain ⟨_, _, t1, e, rfl⟩ := h1; cases e
    obtain ⟨_, _, t2, e, rfl⟩ := h2'; cases e
    obtain ⟨_, _, t3, e, rfl⟩ := h3'; cases e
    obtain ⟨_, _, t4, e, rfl⟩ := h4; cases e
    obtain ⟨_, _, t5, e, rfl⟩ := h5; cases e
    obtain ⟨_, _, t6, e, rfl⟩ := h6; cases e
    obtain ⟨_, _, t7, e, rfl⟩ := h7; cases e
    k_steps
    (with_reducible rename News _ _ _ _ => N1)
    have N2 : News h₀ L _ _ := fun p hp => N1 p (.tail _ hp)
    clear N1
    have h23 : ∀ o : Obj, ∀ p ∈ ((L + 3, o) :: (D, listOf #[.int n0 u0, .int n1 u1, .int n2 u2, .int n3 u3, .int n4 u4, .int n5 u5, .int n6 u6, .int n7 u7] nn) :: cs), p.1 ≠ L + 2 := by
      intro o p hp
      rcases List.mem_cons.mp hp with rfl | hp
      · exact off_ne (by decide)
      · exact h2 p hp
    have h23' := h23 o3
    k_steps
    (with_reducible rename Fr _ _ _ _ => kF)
    (with_reducible rename News _ _ _ _ => kN)
    exact hnext _ _ _ _ _ _ _ _ kF kN (by assumption) (by assumption)
end
end Mine
end

section
open PySem PySem.Spec PySem.Calls PySem.W PyProof.Rows
set_option Elab.async false
set_option maxRecDepth 100000
set_option maxHeartbeats 16000000
set_option linter.unusedVariables false
namespace Mine
variable {fa : Addr} {cd : Value}
def outB : List Stmt := match lawP.1.drop 9 with
  | .For _ _ body _ _ :: _ => body
  | _ => []
def inB : List Stmt := match outB.drop 2 with
  | .For _ _ body _ _ :: _ => body
  | _ => []
section
abbrev quF (a b : Int) : UInt64 := Float64.ofFrac (decide (a < 0) != decide (b < 0)) a.natAbs b.natAbs
theorem pure_ne {p : Int} (h0 : 1 ≤ p) (h1 : p ≤ 4) : (Float64.cmp (quF p 4) 0x0000000000000000 == some Ordering.eq) = false := by
  have : p = 1 ∨ p = 2 ∨ p = 3 ∨ p = 4 := by omega
  rcases this with rfl | rfl | rfl | rfl <;> decide +kernel
/-- the colour that hls_to_rgb tells -/
def colF (h l p : UInt64) (c : Nat) : UInt64 := vF (m1F l p) (m2F l p) (if c = 0 then Float64.add h 4599676419421066581 else if c = 1 then h else Float64.sub h 4599676419421066581)
theorem hls_N (w : World) {A : Around} {E : Value → Shared → Prop} {s : Shared} {h₀ : Heap} {L c : Addr} {m : Str → Option Value} {o : Obj} {rest : List (Addr × Obj)} {loose : List Str} {mean : ExcName → Option Value} {mg mb : Str → Option Value} {h l p : UInt64} {t1 t2 t3 : Tok} {Q : Value → Shared → Prop}
    (F : Fr h₀ L s.heap m) (N : News h₀ L s.heap ((c, o) :: rest)) (hc : ∀ p ∈ rest, p.1 ≠ c) (X : (hd.heap_39 w.params).In h₀) (T : Top hd.view_39 loose mean mg mb h₀) (hroom : A.depth + 1 < recursionLimit)
    (hp : (Float64.cmp p 0x0000000000000000 == some Ordering.eq) = false)
    (hq : ∀ a t1 t2 t3 h' tk', Fr h₀ L h' m → News h₀ L h' ((c, o) :: (a, tupO [.float (colF h l p 0) t1, .float (colF h l p 1) t2, .float (colF h l p 2) t3]) :: rest) → (∀ q ∈ ((a, tupO [.float (colF h l p 0) t1, .float (colF h l p 1) t2, .float (colF h l p 2) t3]) :: rest), q.1 ≠ c) → Q (.ref a) { s with heap := h', toks := tk' }) :
    wpAny (model PySem.Challenge.rw_xg0008_01.row.prog w) A (call (.ref 45) [.float h t1, .float l t2, .float p t3]) Q E s := by
  refine wpAny_call (hls_call w (Frag.In.keeps X F.keep) (T.keeps F.keep) hroom h l p t1 t2 t3 hp ?_)
  intro a x1 x2 x3 h' tk' hk ha hn
  have hne : ∀ q ∈ ((c, o) :: rest), q.1 ≠ a := fun q hq e => by
    have := (N q hq).1
    rw [e, hn] at this
    cases this
  refine hq a x1 x2 x3 h' tk' (Fr.after F hk) ?_ ?_
  · intro q hq
    simp only [List.mem_cons] at hq
    rcases hq with rfl | rfl | hq
    · exact ⟨hk _ _ (N _ (.head _)).1, (N _ (.head _)).2⟩
    · refine ⟨ha, ?_, ?_⟩
      · rintro rfl
        obtain ⟨oL, _, _, ho, _⟩ := F.ns
        rw [hn] at ho; cases ho
      · cases e : h₀.get? a with
        | none => rfl
        | some o' => have := F.keep a o' e; rw [hn] at this; cases this
    · exact ⟨hk _ _ (N _ (.tail _ hq)).1, (N _ (.tail _ hq)).2⟩
  · intro q hq
    rcases List.mem_cons.mp hq with rfl | hq
    · exact fun e => hne (c, o) (.head _) e.symm
    · exact hc q hq
local macro_rules | `(tactic| walk_at "call ref") => `(tactic| (k_here; (with_reducible show wpAny _ _ (call (Value.ref 45) _) _ _ _); (with_reducible rename Fr _ _ _ _ => kF); (with_reducible rename News _ _ _ _ => kN); k_dflt (refine' hls_N _ kF kN (by assumption) (by assumption) (by assumption) ?b1 (by assumption) ?_; (case b1 => dsimp only; omega)); intro a9 x1 x2 x3 h9 tk9 F9 N9 hc9; (try clear kF kN); (try dsimp only)))
local macro_rules | `(tactic| walk_at "storeName") => `(tactic| (k_here; (with_reducible rename Fr _ _ _ _ => kF); (with_reducible rename News _ _ _ _ => kN); (refine store_head kF kN (by assumption) (by assumption) (by rfl) ?_; intro h' o' F' N' ho'; (try k_sweep))))
local macro_rules | `(tactic| walk_at "call ref") => `(tactic| (k_here; (with_reducible show wpAny _ _ (call (Value.ref 84) _) _ _ _); (with_reducible rename Fr _ _ _ _ => kF); (with_reducible rename News _ _ _ _ => kN); k_dflt (refine' wpAny_call (zone_any _ (Frag.In.keeps (by assumption) kF.keep) (Top_keeps (by assumption) kF) rfl (room_le2 (by assumption)) _ _ ?b1 ?b2 ?b3 ?b4 _ _ ?_); (case b1 => omega); (case b2 => omega); (case b3 => exact fmod_lo _ (by decide)); (case b4 => exact fmod_hi _ (by decide))); intro tz9 t9 h9 tk9 hz9 k9; (have F9 := Fr.after kF k9); (have N9 := News.grown kN k9); (try dsimp only); (try k_sweep)))
local macro_rules | `(tactic| walk_at "call ref") => `(tactic| (k_here; (with_reducible show wpAny _ _ (call (Value.ref 65) _) _ _ _); (with_reducible rename Fr _ _ _ _ => kF); (with_reducible rename News _ _ _ _ => kN); k_dflt (refine' wpAny_call (tz_any _ (Frag.In.keeps (by assumption) kF.keep) (Top_keeps (by assumption) kF) rfl (room_le2 (by assumption)) _ _ (by assumption) _ ?_)); intro t9 h9 tk9 k9; (have F9 := Fr.after kF k9); (have N9 := News.grown kN k9); (try dsimp only); (try k_sweep)))
theorem blkI : ∀ (w : World) {A : Around} {s : Shared} {loose : List Str} {mean : ExcName → Option Value} {mg mb : Str → Option Value} {h₀ : Heap} {L : Addr} {e start light pure total k : Int} {te ts tl tp tt tk : Tok} {cs : List (Addr × Obj)} {m : Str → Option Value} {Q : Flow → Shared → Prop} {E : Value → Shared → Prop} {o1 o2 o4 o6 : Obj} {v6 : Option Value}
    (X : (hd.heap_39 w.params).In h₀) (T : Top hd.view_39 loose mean mg mb h₀) (hA : A.handled = none) (hroom : A.depth + 10 < recursionLimit)
    (F : Fr h₀ L s.heap (fun z => if z = Str.ofString "k" then some (.int k tk) else if z = Str.ofString "pure" then some (.int pure tp) else if z = Str.ofString "total" then some (.int total tt) else m z))
    (N : News h₀ L s.heap ((L + 6, o6) :: (L + 1, o1) :: (L + 2, o2) :: (L + 4, o4) :: cs))
    (ho1 : o1.data = .cell (some (.int e te))) (ho2 : o2.data = .cell (some (.int light tl))) (ho4 : o4.data = .cell (some (.int start ts))) (ho6 : o6.data = .cell v6)
    (h6 : ∀ p ∈ ((L + 1, o1) :: (L + 2, o2) :: (L + 4, o4) :: cs), p.1 ≠ L + 6)
    (he1 : 1 ≤ e) (he9 : e ≤ 9) (hk0 : 0 ≤ k) (hk1 : k < e) (hs0 : 0 ≤ start) (hs1 : start < 5040) (hl0 : 1 ≤ light) (hl1 : light ≤ 7) (hp0 : 1 ≤ pure) (hp1 : pure ≤ 4)
    (hnext : ∀ (mm : Int) (a : Addr) x1 x2 x3 h' k' o6' m', (mm = (start + (5040 : Int).fdiv e * k).fmod 5040 ∨ mm = (start + (5040 : Int).fdiv e * k).fmod 5040 - 5040) →
      Fr h₀ L h' m' → (∀ z, z ≠ Str.ofString "minutes" → z ≠ Str.ofString "told" → m' z = if z = Str.ofString "k" then some (.int k tk) else if z = Str.ofString "pure" then some (.int pure tp) else if z = Str.ofString "total" then some (.int total tt) else m z) →
      News h₀ L h' ((L + 6, o6') :: (a, tupO [.float (colF (quF (60 * mm) 302400) (quF light 8) (quF pure 4) 0) x1, .float (colF (quF (60 * mm) 302400) (quF light 8) (quF pure 4) 1) x2, .float (colF (quF (60 * mm) 302400) (quF light 8) (quF pure 4) 2) x3]) :: (L + 1, o1) :: (L + 2, o2) :: (L + 4, o4) :: cs) →
      o6'.data = .cell (some (.ref a)) → Q .next { s with heap := h', toks := k' }),
    wpAny (model PySem.Challenge.rw_xg0008_01.row.prog w) A (execs (inB.take 5) (lawE L fa cd)) Q E s := by
  w_top off
  k_fill
  intro w A s loose mean mg mb h₀ L e start light pure total k te ts tl tp tt tk cs m Q E o1 o2 o4 o6 v6 X T hA hroom F N ho1 ho2 ho4 ho6 h6 he1 he9 hk0 hk1 hs0 hs1 hl0 hl1 hp0 hp1 hnext
  obtain ⟨hn, dp, fr, gd, un⟩ := A
  dsimp only at hA hroom
  subst hA
  have hq0 : 0 ≤ (5040 : Int).fdiv e := by rw [Int.fdiv_eq_ediv_of_nonneg _ (by omega)]; exact Int.ediv_nonneg (by decide) (by omega)
  have hq1 : (5040 : Int).fdiv e ≤ 5040 := by rw [Int.fdiv_eq_ediv_of_nonneg _ (by omega)]; exact Int.ediv_le_self _ (by decide)
  have hM0 : 0 ≤ (start + (5040 : Int).fdiv e * k).fmod 5040 := fmod_lo _ (by decide)
  have hM1 : (start + (5040 : Int).fdiv e * k).fmod 5040 < 5040 := fmod_hi _ (by decide)
  have hpz := pure_ne hp0 hp1
  unfold lawE inB outB lawP PySem.Challenge.pw_xg0008_01
  dsimp only [List.drop, List.take]
  k_steps
  all_goals first
    | (exfalso; omega)
    | ((with_reducible rename Fr _ _ _ _ => kF); (with_reducible rename News _ _ _ _ => kN);
       first
       | exact hnext _ _ _ _ _ _ _ _ _ (.inl rfl) kF (by intro z h1 h2; simp only [if_neg h1, if_neg h2]) kN (by assumption)
       | exact hnext _ _ _ _ _ _ _ _ _ (.inr rfl) kF (by intro z h1 h2; simp only [if_neg h1, if_neg h2]) kN (by assumption))

end
end Mine
end

section
open PySem PySem.Spec PySem.Calls PySem.W PyProof.Rows
set_option Elab.async false
set_option maxRecDepth 100000
set_option maxHeartbeats 4000000
set_option linter.unusedVariables false
namespace Mine
section
variable {prog : Program} {w : World} {A : Around} {E : Value → Shared → Prop} {s : Shared} {env : Env} {h₀ : Heap} {L : Addr} {m : Str → Option Value} {news : List (Addr × Obj)} {scope : Scope} {cl : List (Str × Addr)} {x : Str} {elt : PySem.Expr} {Q : Value → Shared → Prop}

abbrev Gi (G : Nat → Value → Prop) (v y : Value) : Prop := ∃ (i : Nat) (t : Tok), v = .int (i : Int) t ∧ G i y

theorem src_range3 {r : Addr} {t₀ u₀ v₀ : Tok} (G : Nat → Value → Prop) (hh : A.handled = none) (F : Fr h₀ L s.heap m) (N : News h₀ L s.heap news) (hr : IsRange s.heap r 0 3 1 t₀ u₀ v₀)
    (el : ∀ C (i : Nat) t s₃ m₃ E', i < 3 → s₃.heap.Ns C m₃ → m₃ x = some (.int (i : Int) t) → (∀ b o, s.heap.get? b = some o → s₃.heap.get? b = some o) →
      wpAny (model prog w) A (eval elt (compEnvC scope cl C env)) (fun y s₄ => G i y ∧ Keeps s₃ s₄) E' s₃)
    (done : ∀ D h' tk y0 y1 y2 n', G 0 y0 → G 1 y1 → G 2 y2 → Fr h₀ L h' m → News h₀ L h' ((D, listOf #[y0, y1, y2] n') :: news) → (∀ p ∈ news, p.1 ≠ D) → Q (.ref D) { s with heap := h', toks := tk }) :
    wpAny (model prog w) A (pyIter (.ref r)) (fun it s => ∃ I' fp wr n P St, it = .ref I' ∧ Walks prog w A I' fp wr n P St ∧ n ≤ sizeLine ∧ St 0 s.heap ∧ (∀ b ∈ fp, b < s.heap.objs.size) ∧
      QuietOnC prog w A env scope cl x [] elt wr P (fun _ => true) (Gi G) s ∧
      (∀ D h' tk ys (vs : List Value), s.heap.get? D = none → h'.IsList D ys → h'.PlainList D ys → vs.length = n → (∀ j v, vs[j]? = some v → P j v) → Paired (Gi G) (vs.filter fun _ => true) ys.toList →
        (∀ b o, b ∉ wr → s.heap.get? b = some o → h'.get? b = some o) → Q (.ref D) { s with heap := h', toks := tk })) E s := by
  refine wpAny_pyIter_range hr (by rfl) ?_
  have W : Walks prog w A s.heap.objs.size [s.heap.objs.size] [s.heap.objs.size] 3 (fun i v => i < 3 ∧ ∃ t, v = .int (0 + i * 1) t)
      (fun i h => IsRangeIter h s.heap.objs.size (0 + (i : Nat) * 1) ((3 : Nat) - (i : Nat)) 1) := (Walks.range hh _ 0 1 3).bound
  refine src_any (Gi G) W (by rw [sizeLine_eq]; omega) (by show IsRangeIter _ _ _ _ _; exact Heap.get?_push_size _ rfl) ?_ (F.push _) (News.pushKeep N _) ?_ (next_is_new F) ?_ ?_ ?_
  · intro b hb
    rw [List.mem_singleton.mp hb]
    show _ < (s.heap.objs.push _).size
    rw [Array.size_push]
    exact Nat.lt_succ_self _
  · exact Nat.ne_of_lt F.ns.lt
  · exact fun p hp => Nat.ne_of_lt (Heap.lt_size (N p hp).1)
  · rintro C i v s₃ m₃ E' ⟨hi, t, rfl⟩ hns hx hk
    rw [show (0 : Int) + (i : Int) * 1 = (i : Int) by omega] at hx ⊢
    refine wpAny_mono (el C i t s₃ m₃ E' hi hns hx fun b o ho => hk b o (Nat.ne_of_lt (Heap.lt_size ho)) (Heap.get?_push_of_some _ ho)) ?_ fun _ _ e => e
    rintro y s₄ ⟨h1, h2⟩
    exact ⟨⟨i, t, rfl, h1⟩, h2⟩
  · intro D h' tk ys vs n' hl hP hF F' N' hD
    match vs, hl with
    | [a, b, c], _ =>
      cases hF with | cons h0 hF =>
      cases hF with | cons h1 hF =>
      cases hF with | cons h2 hF =>
      cases hF
      obtain ⟨_, t0, e0⟩ := hP 0 a rfl
      obtain ⟨_, t1, e1⟩ := hP 1 b rfl
      obtain ⟨_, t2, e2⟩ := hP 2 c rfl
      subst e0 e1 e2
      obtain ⟨i0, x0, e0, g0⟩ := h0
      obtain ⟨i1, x1, e1, g1⟩ := h1
      obtain ⟨i2, x2, e2, g2⟩ := h2
      injection e0 with e0 _
      injection e1 with e1 _
      injection e2 with e2 _
      have z0 : i0 = 0 := by omega
      have z1 : i1 = 1 := by omega
      have z2 : i2 = 2 := by omega
      subst z0 z1 z2
      exact done D h' tk _ _ _ n' g0 g1 g2 F' N' hD

/-- a place of mix: nought before the first turn, a float behind it -/
def MixV (v : Value) (x : UInt64) : Prop := (∃ t, v = .float x t) ∨ (x = Float64.ofInt 0 ∧ ∃ t, v = .int 0 t)

theorem mix_elt {C Dm a Lm Lc : Addr} {i : Nat} {t : Tok} {v0 v1 v2 : Value} {x0 x1 x2 z0 z1 z2 : UInt64} {y0 y1 y2 : Tok} {n : Nat} {om oc : Obj} {p1 p2 p3 p4 p5 p6 p7 : Pos}
    (hkind : (compEnvC scope cl C env).scope.kind = .function) (hloc : (compEnvC scope cl C env).kindOf (Str.ofString "c") = some .local) (hcm : (compEnvC scope cl C env).kindOf (Str.ofString "mix") = some .cell) (hcc : (compEnvC scope cl C env).kindOf (Str.ofString "colour") = some .cell)
    (hlm : cl.lookup (Str.ofString "mix") = some Lm) (hlc : cl.lookup (Str.ofString "colour") = some Lc)
    (hns : s.heap.Ns (compEnvC scope cl C env).locals m) (hx : m (Str.ofString "c") = some (.int (i : Int) t)) (hi : i < 3)
    (hom : s.heap.get? Lm = some om) (hdm : om.data = .cell (some (.ref Dm))) (hoc : s.heap.get? Lc = some oc) (hdc : oc.data = .cell (some (.ref a)))
    (hD : s.heap.get? Dm = some (listOf #[v0, v1, v2] n)) (ha : s.heap.get? a = some (tupO [.float z0 y0, .float z1 y1, .float z2 y2]))
    (hv0 : MixV v0 x0) (hv1 : MixV v1 x1) (hv2 : MixV v2 x2) :
    wpAny (model prog w) A (eval (.BinOp (.Subscript (.Name (Str.ofString "mix") p1) (.Name (Str.ofString "c") p2) p3) .Add (.Subscript (.Name (Str.ofString "colour") p4) (.Name (Str.ofString "c") p5) p6) p7) (compEnvC scope cl C env))
      (fun y s₄ => (∃ t', y = .float (Float64.add (if i = 0 then x0 else if i = 1 then x1 else x2) (if i = 0 then z0 else if i = 1 then z1 else z2)) t') ∧ Keeps s s₄) E s := by
  have hl : s.heap.IsList Dm ([v0, v1, v2] : List Value).toArray := ⟨_, hD, rfl, n, rfl⟩
  have ht : IsTup s.heap a ([.float z0 y0, .float z1 y1, .float z2 y2] : List Value).toArray := ⟨_, ha, rfl, 0, rfl⟩
  have add : ∀ (v : Value) (x z : UInt64) (y : Tok), MixV v x → wpAny (model prog w) A (binaryOp .Add v (.float z y)) (fun y s₄ => (∃ t', y = .float (Float64.add x z) t') ∧ Keeps s s₄) E s := by
    intro v x z y hv
    rcases hv with ⟨t, rfl⟩ | ⟨rfl, t, rfl⟩
    · exact add_float ⟨⟨_, rfl⟩, _, _, rfl, fun b o e => e⟩
    · exact add_if_fits (Nat.two_pow_pos 1023) ⟨⟨_, rfl⟩, _, _, rfl, fun b o e => e⟩
  have h3 : i = 0 ∨ i = 1 ∨ i = 2 := by omega
  rcases h3 with rfl | rfl | rfl
  · refine wpAny_BinOp (Subscript_ (wpAny_Name (wpAny_loadName_cell hkind hcm hlm ⟨om, hom, hdm⟩ (wpAny_Name (wpAny_loadName_local hkind hloc hns hx ?_)))))
    refine tail_any hl.typeIs slot_list_getitem.lookup (wpAny_getItem_list hl (by decide) (by decide) (x := v0) rfl ?_) (by with_unfolding_all rfl)
    refine Subscript_ (wpAny_Name (wpAny_loadName_cell hkind hcc hlc ⟨oc, hoc, hdc⟩ (wpAny_Name (wpAny_loadName_local hkind hloc hns hx ?_))))
    exact item_tupleT ht (by decide) (by decide) (j := 0) (by rfl) (x := .float z0 y0) rfl (add v0 x0 z0 y0 hv0)
  · refine wpAny_BinOp (Subscript_ (wpAny_Name (wpAny_loadName_cell hkind hcm hlm ⟨om, hom, hdm⟩ (wpAny_Name (wpAny_loadName_local hkind hloc hns hx ?_)))))
    refine tail_any hl.typeIs slot_list_getitem.lookup (wpAny_getItem_list hl (by decide) (by decide) (x := v1) rfl ?_) (by with_unfolding_all rfl)
    refine Subscript_ (wpAny_Name (wpAny_loadName_cell hkind hcc hlc ⟨oc, hoc, hdc⟩ (wpAny_Name (wpAny_loadName_local hkind hloc hns hx ?_))))
    exact item_tupleT ht (by decide) (by decide) (j := 1) (by rfl) (x := .float z1 y1) rfl (add v1 x1 z1 y1 hv1)
  · refine wpAny_BinOp (Subscript_ (wpAny_Name (wpAny_loadName_cell hkind hcm hlm ⟨om, hom, hdm⟩ (wpAny_Name (wpAny_loadName_local hkind hloc hns hx ?_)))))
    refine tail_any hl.typeIs slot_list_getitem.lookup (wpAny_getItem_list hl (by decide) (by decide) (x := v2) rfl ?_) (by with_unfolding_all rfl)
    refine Subscript_ (wpAny_Name (wpAny_loadName_cell hkind hcc hlc ⟨oc, hoc, hdc⟩ (wpAny_Name (wpAny_loadName_local hkind hloc hns hx ?_))))
    exact item_tupleT ht (by decide) (by decide) (j := 2) (by rfl) (x := .float z2 y2) rfl (add v2 x2 z2 y2 hv2)
end
end Mine
end

section
open PySem PySem.Spec PySem.Calls PySem.W PyProof.Rows
set_option Elab.async false
set_option maxRecDepth 100000
set_option maxHeartbeats 16000000
set_option linter.unusedVariables false
namespace Mine
variable {fa : Addr} {cd : Value}
section
local macro_rules | `(tactic| walk_at "eval ListComp") => `(tactic| (k_here; refine Stop.intro ?_))
local macro_rules | `(tactic| walk_at "pyIter ref") => `(tactic| (k_here; refine Stop.intro ?_))
local macro_rules | `(tactic| walk_at "storeName") => `(tactic| (k_here; refine Stop.intro ?_))
theorem blkM : ∀ (w : World) {A : Around} {s : Shared} {loose : List Str} {mean : ExcName → Option Value} {mg mb : Str → Option Value} {h₀ : Heap} {L Dm a : Addr} {v0 v1 v2 : Value} {x0 x1 x2 z0 z1 z2 : UInt64} {y0 y1 y2 : Tok} {n : Nat} {cs : List (Addr × Obj)} {m : Str → Option Value} {Q : Flow → Shared → Prop} {E : Value → Shared → Prop} {o5 o6 : Obj}
    (X : (hd.heap_39 w.params).In h₀) (T : Top hd.view_39 loose mean mg mb h₀) (hA : A.handled = none)
    (F : Fr h₀ L s.heap m)
    (N : News h₀ L s.heap ((L + 5, o5) :: (L + 6, o6) :: (Dm, listOf #[v0, v1, v2] n) :: (a, tupO [.float z0 y0, .float z1 y1, .float z2 y2]) :: cs))
    (ho5 : o5.data = .cell (some (.ref Dm))) (ho6 : o6.data = .cell (some (.ref a))) (hv0 : MixV v0 x0) (hv1 : MixV v1 x1) (hv2 : MixV v2 x2)
    (h5 : ∀ p ∈ ((L + 6, o6) :: (Dm, listOf #[v0, v1, v2] n) :: (a, tupO [.float z0 y0, .float z1 y1, .float z2 y2]) :: cs), p.1 ≠ L + 5)
    (hnext : ∀ D' t0 t1 t2 h' k' o5' n', Fr h₀ L h' m → News h₀ L h' ((L + 5, o5') :: (D', listOf #[.float (Float64.add x0 z0) t0, .float (Float64.add x1 z1) t1, .float (Float64.add x2 z2) t2] n') :: (L + 6, o6) :: cs) → (L + 6 ≠ D' ∧ L + 5 ≠ D' ∧ ∀ p ∈ cs, p.1 ≠ D') → o5'.data = .cell (some (.ref D')) → Q .next { s with heap := h', toks := k' }),
    wpAny (model PySem.Challenge.rw_xg0008_01.row.prog w) A (execs (inB.drop 5) (lawE L fa cd)) Q E s := by
  w_top off
  k_fill
  intro w A s loose mean mg mb h₀ L Dm a v0 v1 v2 x0 x1 x2 z0 z1 z2 y0 y1 y2 n cs m Q E o5 o6 X T hA F N ho5 ho6 hv0 hv1 hv2 h5 hnext
  obtain ⟨hn, dp, fr, gd, un⟩ := A
  dsimp only at hA
  subst hA
  unfold lawE inB outB lawP PySem.Challenge.pw_xg0008_01
  dsimp only [List.drop, List.take]
  k_steps
  unfold Stop
  k_fold
  refine wpAny_ListComp_free (fun _ => true) (Gi fun i y => ∃ t', y = .float (Float64.add (if i = 0 then x0 else if i = 1 then x1 else x2) (if i = 0 then z0 else if i = 1 then z1 else z2)) t') (by with_unfolding_all rfl) (by decide) rfl (by decide) rfl ?_
  k_steps
  unfold Stop
  (with_reducible rename Fr _ _ _ _ => kF)
  (with_reducible rename News _ _ _ _ => kN)
  (with_reducible rename IsRange _ _ _ _ _ _ _ _ => rgX)
  refine src_range3 _ rfl kF kN rgX ?_ ?_
  · intro C i t s₃ m₃ E' hi hns hx hk
    have g5 := hk _ _ (kN (L + 5, o5) (by simp)).1
    have g6 := hk _ _ (kN (L + 6, o6) (by simp)).1
    have gD := hk _ _ (kN (Dm, listOf #[v0, v1, v2] n) (by simp)).1
    have ga := hk _ _ (kN (a, tupO [.float z0 y0, .float z1 y1, .float z2 y2]) (by simp)).1
    exact mix_elt rfl rfl rfl rfl rfl rfl hns hx hi g5 ho5 g6 ho6 gD ga hv0 hv1 hv2
  · rintro D' h' tk y0 y1 y2 n' ⟨t0, rfl⟩ ⟨t1, rfl⟩ ⟨t2, rfl⟩ F' N' hne
    clear kF
    k_steps
    unfold Stop
    have N2 : News h₀ L h' ((L + 5, o5) :: (D', listOf #[.float (Float64.add x0 z0) t0, .float (Float64.add x1 z1) t1, .float (Float64.add x2 z2) t2] n') :: (L + 6, o6) :: cs) := by
      intro p hp
      simp only [List.mem_cons] at hp
      rcases hp with rfl | rfl | rfl | hp
      · exact N' _ (.tail _ (.head _))
      · exact N' _ (.head _)
      · exact N' _ (.tail _ (.tail _ (.head _)))
      · exact N' _ (.tail _ (.tail _ (.tail _ (.tail _ (.tail _ hp)))))
    have hq : ∀ p ∈ ((D', listOf #[.float (Float64.add x0 z0) t0, .float (Float64.add x1 z1) t1, .float (Float64.add x2 z2) t2] n') :: (L + 6, o6) :: cs), p.1 ≠ L + 5 := by
      intro p hp
      rcases List.mem_cons.mp hp with rfl | hp
      · exact fun e => hne (L + 5, o5) (.head _) e.symm
      · refine h5 p ?_
        rcases List.mem_cons.mp hp with rfl | hp
        · exact .head _
        · exact .tail _ (.tail _ (.tail _ hp))
    have hne2 : L + 6 ≠ D' ∧ L + 5 ≠ D' ∧ ∀ p ∈ cs, p.1 ≠ D' := ⟨hne (L + 6, o6) (.tail _ (.head _)), hne (L + 5, o5) (.head _), fun p hp => hne p (.tail _ (.tail _ (.tail _ (.tail _ hp))))⟩
    refine store_head (s := ⟨h', _, _, _, _⟩) F' N2 hq ho5 (by rfl) ?_
    intro h'' o5' F'' N'' ho5'
    clear kN N2 F' N'
    k_steps
    exact hnext D' t0 t1 t2 _ _ o5' n' F'' N'' hne2 ho5'
end
end Mine
end

section
open PySem PySem.Spec PySem.Calls PySem.W PyProof.Rows
set_option Elab.async false
set_option maxRecDepth 100000
set_option maxHeartbeats 4000000
set_option linter.unusedVariables false
namespace Mine
variable {fa : Addr} {cd : Value}
theorem news_ne {h₀ h : Heap} {L a b : Addr} {o o' : Obj} {news : List (Addr × Obj)} (N : News h₀ L h news) (ha : (a, o) ∈ news) (hb : (b, o') ∈ news) (hne : o ≠ o') : a ≠ b := by
  rintro rfl
  have h1 := (N _ ha).1
  have h2 := (N _ hb).1
  rw [h1] at h2
  exact hne (Option.some.inj h2)
theorem cell_ne {o : Obj} {v : Option Value} {o' : Obj} {d : Array Value} {n : Nat} (h : o.data = .cell v) (h' : o'.data = .seq d n) : o ≠ o' := by
  rintro rfl
  rw [h] at h'
  cases h'
/-- the minutes of the k-th time -/
abbrev minM (e start k : Int) : Int := (start + (5040 : Int).fdiv e * k).fmod 5040

theorem blkT (w : World) {A : Around} {s : Shared} {loose : List Str} {mean : ExcName → Option Value} {mg mb : Str → Option Value} {h₀ : Heap} {L D : Addr} {v0 v1 v2 : Value} {x0 x1 x2 : UInt64} {n : Nat} {e start light pure total k : Int} {te ts tl tp tt tk : Tok} {cs : List (Addr × Obj)} {m : Str → Option Value} {Q : Flow → Shared → Prop} {E : Value → Shared → Prop} {o1 o2 o4 o5 o6 : Obj} {v6 : Option Value}
    (X : (hd.heap_39 w.params).In h₀) (T : Top hd.view_39 loose mean mg mb h₀) (hA : A.handled = none) (hroom : A.depth + 10 < recursionLimit)
    (F : Fr h₀ L s.heap (fun z => if z = Str.ofString "k" then some (.int k tk) else m z)) (hmp : m (Str.ofString "pure") = some (.int pure tp)) (hmt : m (Str.ofString "total") = some (.int total tt))
    (N : News h₀ L s.heap ((L + 5, o5) :: (D, listOf #[v0, v1, v2] n) :: (L + 6, o6) :: (L + 1, o1) :: (L + 2, o2) :: (L + 4, o4) :: cs))
    (ho1 : o1.data = .cell (some (.int e te))) (ho2 : o2.data = .cell (some (.int light tl))) (ho4 : o4.data = .cell (some (.int start ts))) (ho5 : o5.data = .cell (some (.ref D))) (ho6 : o6.data = .cell v6)
    (hv0 : MixV v0 x0) (hv1 : MixV v1 x1) (hv2 : MixV v2 x2)
    (h6 : ∀ p ∈ cs, p.1 ≠ L + 6) (h5 : ∀ p ∈ cs, p.1 ≠ L + 5)
    (he1 : 1 ≤ e) (he9 : e ≤ 9) (hk0 : 0 ≤ k) (hk1 : k < e) (hs0 : 0 ≤ start) (hs1 : start < 5040) (hl0 : 1 ≤ light) (hl1 : light ≤ 7) (hp0 : 1 ≤ pure) (hp1 : pure ≤ 4)
    (hnext : ∀ (mm : Int) D' t0 t1 t2 h' k' o5' o6' v6' n' m', (mm = minM e start k ∨ mm = minM e start k - 5040) → Fr h₀ L h' m' → (∀ z, z ≠ Str.ofString "k" → z ≠ Str.ofString "minutes" → z ≠ Str.ofString "told" → m' z = m z) →
      News h₀ L h' ((L + 5, o5') :: (D', listOf #[.float (Float64.add x0 (colF (quF (60 * mm) 302400) (quF light 8) (quF pure 4) 0)) t0, .float (Float64.add x1 (colF (quF (60 * mm) 302400) (quF light 8) (quF pure 4) 1)) t1, .float (Float64.add x2 (colF (quF (60 * mm) 302400) (quF light 8) (quF pure 4) 2)) t2] n') :: (L + 6, o6') :: (L + 1, o1) :: (L + 2, o2) :: (L + 4, o4) :: cs) →
      (∀ p ∈ cs, p.1 ≠ D') → o5'.data = .cell (some (.ref D')) → o6'.data = .cell v6' → Q .next { s with heap := h', toks := k' }) :
    wpAny (model PySem.Challenge.rw_xg0008_01.row.prog w) A (execs inB (lawE L fa cd)) Q E s := by
  have e0 : (fun z => if z = Str.ofString "k" then some (Value.int k tk) else m z) = (fun z => if z = Str.ofString "k" then some (.int k tk) else if z = Str.ofString "pure" then some (.int pure tp) else if z = Str.ofString "total" then some (.int total tt) else m z) := by
    funext z
    split
    · rfl
    · split
      · rename_i h; rw [h]; exact hmp
      · split
        · rename_i h; rw [h]; exact hmt
        · rfl
  rw [e0] at F
  have hD6 : D ≠ L + 6 := Ne.symm (news_ne N (a := L + 6) (o := o6) (b := D) (o' := listOf #[v0, v1, v2] n) (.tail _ (.tail _ (.head _))) (.tail _ (.head _)) (cell_ne ho6 rfl))
  have N1 : News h₀ L s.heap ((L + 6, o6) :: (L + 1, o1) :: (L + 2, o2) :: (L + 4, o4) :: ((L + 5, o5) :: (D, listOf #[v0, v1, v2] n) :: cs)) := by
    intro p hp
    refine N p ?_
    simp only [List.mem_cons] at hp ⊢
    rcases hp with rfl | rfl | rfl | rfl | rfl | rfl | h
    all_goals first | (simp only [true_or, or_true]; done) | (simp only [h, or_true]; done)
  have q6 : ∀ p ∈ ((L + 1, o1) :: (L + 2, o2) :: (L + 4, o4) :: ((L + 5, o5) :: (D, listOf #[v0, v1, v2] n) :: cs)), p.1 ≠ L + 6 := by
    intro p hp
    simp only [List.mem_cons] at hp
    rcases hp with rfl | rfl | rfl | rfl | rfl | h
    · exact off_ne (by decide)
    · exact off_ne (by decide)
    · exact off_ne (by decide)
    · exact off_ne (by decide)
    · exact hD6
    · exact h6 p h
  rw [← List.take_append_drop 5 inB]
  refine execs_app _ ?_
  refine blkI w X T hA hroom F N1 ho1 ho2 ho4 ho6 q6 he1 he9 hk0 hk1 hs0 hs1 hl0 hl1 hp0 hp1 ?_
  intro mm a y1 y2 y3 h' k' o6' m' hmm F' hm' N' ho6'
  have hDa : True := trivial
  have N2 : News h₀ L h' ((L + 5, o5) :: (L + 6, o6') :: (D, listOf #[v0, v1, v2] n) :: (a, tupO [.float (colF (quF (60 * mm) 302400) (quF light 8) (quF pure 4) 0) y1, .float (colF (quF (60 * mm) 302400) (quF light 8) (quF pure 4) 1) y2, .float (colF (quF (60 * mm) 302400) (quF light 8) (quF pure 4) 2) y3]) :: ((L + 1, o1) :: (L + 2, o2) :: (L + 4, o4) :: cs)) := by
    intro p hp
    refine N' p ?_
    simp only [List.mem_cons] at hp ⊢
    rcases hp with rfl | rfl | rfl | rfl | rfl | rfl | rfl | h
    all_goals first | (simp only [true_or, or_true]; done) | (simp only [h, or_true]; done)
  have q5 : ∀ p ∈ ((L + 6, o6') :: (D, listOf #[v0, v1, v2] n) :: (a, tupO [.float (colF (quF (60 * mm) 302400) (quF light 8) (quF pure 4) 0) y1, .float (colF (quF (60 * mm) 302400) (quF light 8) (quF pure 4) 1) y2, .float (colF (quF (60 * mm) 302400) (quF light 8) (quF pure 4) 2) y3]) :: ((L + 1, o1) :: (L + 2, o2) :: (L + 4, o4) :: cs)), p.1 ≠ L + 5 := by
    intro p hp
    have hp' := hp
    simp only [List.mem_cons] at hp
    rcases hp with rfl | rfl | rfl | rfl | rfl | rfl | h
    · exact off_ne (by decide)
    · exact Ne.symm (news_ne N2 (.head _) (.tail _ hp') (cell_ne ho5 rfl))
    · exact Ne.symm (news_ne N2 (.head _) (.tail _ hp') (cell_ne ho5 rfl))
    · exact off_ne (by decide)
    · exact off_ne (by decide)
    · exact off_ne (by decide)
    · exact h5 p h
  refine blkM w (s := { s with heap := h', toks := k' }) X T hA F' N2 ho5 ho6' hv0 hv1 hv2 q5 ?_
  intro D' t0 t1 t2 h'' k'' o5' n' F'' N'' hne ho5'
  refine hnext mm D' t0 t1 t2 h'' k'' o5' o6' _ n' m' hmm F'' ?_ ?_ ?_ ho5' ho6'
  · intro z z1 z2 z3
    rw [hm' z z2 z3, if_neg z1]
    split
    · rename_i h; rw [h]; exact hmp.symm
    · split
      · rename_i h; rw [h]; exact hmt.symm
      · rfl
  · exact N''
  · exact fun p hp => hne.2.2 p (.tail _ (.tail _ (.tail _ hp)))
end Mine
end

section
open PySem PySem.Spec PySem.Calls PySem.W PyProof.Rows
set_option Elab.async false
set_option maxRecDepth 100000
set_option maxHeartbeats 8000000
set_option linter.unusedVariables false
namespace Mine
variable {fa : Addr} {cd : Value}
/-- the sum of a colour's c-th part over the first times -/
def accF (f : Nat → Int) (l p : UInt64) (c : Nat) : Nat → UInt64
  | 0 => Float64.ofInt 0
  | i + 1 => Float64.add (accF f l p c i) (colF (quF (60 * f i) 302400) l p c)
theorem accF_congr {f g : Nat → Int} {l p : UInt64} {c : Nat} : ∀ {i : Nat}, (∀ j, j < i → f j = g j) → accF f l p c i = accF g l p c i
  | 0, _ => rfl
  | i + 1, h => by
    rw [accF, accF, accF_congr (fun j hj => h j (by omega)), h i (by omega)]

abbrev loopNx (L D : Addr) (v0 v1 v2 : Value) (n : Nat) (o1 o2 o4 o5 o6 : Obj) (cs : List (Addr × Obj)) : List (Addr × Obj) :=
  (L + 5, o5) :: (D, listOf #[v0, v1, v2] n) :: (L + 6, o6) :: (L + 1, o1) :: (L + 2, o2) :: (L + 4, o4) :: cs
def LoopJ (L : Addr) (e start light pure : Int) (o1 o2 o4 : Obj) (cs : List (Addr × Obj)) (m₀ : Str → Option Value) (i : Nat) (m : Str → Option Value) (nx : List (Addr × Obj)) : Prop :=
  ∃ (f : Nat → Int) (D : Addr) (v0 v1 v2 : Value) (n : Nat) (o5 o6 : Obj) (v6 : Option Value), nx = loopNx L D v0 v1 v2 n o1 o2 o4 o5 o6 cs ∧ (∀ j, j < i → f j = minM e start j ∨ f j = minM e start j - 5040) ∧
    MixV v0 (accF f (quF light 8) (quF pure 4) 0 i) ∧ MixV v1 (accF f (quF light 8) (quF pure 4) 1 i) ∧ MixV v2 (accF f (quF light 8) (quF pure 4) 2 i) ∧ (∀ z, z ≠ Str.ofString "k" → z ≠ Str.ofString "minutes" → z ≠ Str.ofString "told" → m z = m₀ z) ∧
    o5.data = .cell (some (.ref D)) ∧ o6.data = .cell v6 ∧
    (0 < i → (∃ t, v0 = .float (accF f (quF light 8) (quF pure 4) 0 i) t) ∧ (∃ t, v1 = .float (accF f (quF light 8) (quF pure 4) 1 i) t) ∧ ∃ t, v2 = .float (accF f (quF light 8) (quF pure 4) 2 i) t)

theorem turnL (w : World) {A : Around} {s : Shared} {loose : List Str} {mean : ExcName → Option Value} {mg mb : Str → Option Value} {h₀ : Heap} {L : Addr} {e start light pure total : Int} {te ts tl tp tt tk : Tok} {cs : List (Addr × Obj)} {m₀ m₁ : Str → Option Value} {Q : Flow → Shared → Prop} {E : Value → Shared → Prop} {o1 o2 o4 : Obj} {i : Nat} {nx own : List (Addr × Obj)} {k : Int}
    (X : (hd.heap_39 w.params).In h₀) (T : Top hd.view_39 loose mean mg mb h₀) (hA : A.handled = none) (hroom : A.depth + 10 < recursionLimit)
    (hJ : LoopJ L e start light pure o1 o2 o4 cs m₀ i m₁ nx) (hki : k = (i : Int))
    (F : Fr h₀ L s.heap (fun z => if z = Str.ofString "k" then some (.int k tk) else m₁ z)) (hmp : m₀ (Str.ofString "pure") = some (.int pure tp)) (hmt : m₀ (Str.ofString "total") = some (.int total tt))
    (N : News h₀ L s.heap (nx ++ own)) (hoff : OwnOff own (nx.map (·.1)))
    (ho1 : o1.data = .cell (some (.int e te))) (ho2 : o2.data = .cell (some (.int light tl))) (ho4 : o4.data = .cell (some (.int start ts)))
    (h6 : ∀ p ∈ cs, p.1 ≠ L + 6) (h5 : ∀ p ∈ cs, p.1 ≠ L + 5)
    (he1 : 1 ≤ e) (he9 : e ≤ 9) (hk1 : k < e) (hs0 : 0 ≤ start) (hs1 : start < 5040) (hl0 : 1 ≤ light) (hl1 : light ≤ 7) (hp0 : 1 ≤ pure) (hp1 : pure ≤ 4) :
    wpAny (model PySem.Challenge.rw_xg0008_01.row.prog w) A (execs inB (lawE L fa cd)) (InvPostG h₀ L (LoopJ L e start light pure o1 o2 o4 cs m₀ (i + 1)) own s Q) E s := by
  obtain ⟨f, D, v0, v1, v2, n, o5, o6, v6, rfl, hf, hv0, hv1, hv2, hm, ho5, ho6, _⟩ := hJ
  have mem6 : ∀ p ∈ own, p.1 ≠ L + 6 := fun p hp => hoff p hp _ (by simp)
  have mem5 : ∀ p ∈ own, p.1 ≠ L + 5 := fun p hp => hoff p hp _ (by simp)
  have N' : News h₀ L s.heap ((L + 5, o5) :: (D, listOf #[v0, v1, v2] n) :: (L + 6, o6) :: (L + 1, o1) :: (L + 2, o2) :: (L + 4, o4) :: (cs ++ own)) := N
  refine blkT w (cs := cs ++ own) (total := total) (tp := tp) (tt := tt) X T hA hroom F (by rw [hm _ (by decide) (by decide) (by decide)]; exact hmp) (by rw [hm _ (by decide) (by decide) (by decide)]; exact hmt) N' ho1 ho2 ho4 ho5 ho6 hv0 hv1 hv2
    (fun p hp => (List.mem_append.mp hp).elim (h6 p) (mem6 p)) (fun p hp => (List.mem_append.mp hp).elim (h5 p) (mem5 p)) he1 he9 (by omega) hk1 hs0 hs1 hl0 hl1 hp0 hp1 ?_
  intro mm D' t0 t1 t2 h' k' o5' o6' v6' n' m' hmm F' hm' N'' hne ho5' ho6'
  subst hki
  show InvEndG _ _ _ _ _ _
  have N3 : News h₀ L h' (loopNx L D' _ _ _ n' o1 o2 o4 o5' o6' cs ++ own) := N''
  have hacc : ∀ c, Float64.add (accF f (quF light 8) (quF pure 4) c i) (colF (quF (60 * mm) 302400) (quF light 8) (quF pure 4) c) = accF (fun j => if j = i then mm else f j) (quF light 8) (quF pure 4) c (i + 1) := by
    intro c
    rw [accF, accF_congr (f := fun j => if j = i then mm else f j) (g := f) (fun j hj => if_neg (by omega))]
    simp
  rw [hacc 0, hacc 1, hacc 2] at N3
  refine InvEndG.intro F' N3 ⟨(fun j => if j = i then mm else f j), D', _, _, _, n', o5', o6', v6', rfl, ?_, .inl ⟨t0, rfl⟩, .inl ⟨t1, rfl⟩, .inl ⟨t2, rfl⟩, ?_, ho5', ho6', fun _ => ⟨⟨t0, rfl⟩, ⟨t1, rfl⟩, ⟨t2, rfl⟩⟩⟩ ?_ (fun p hp => List.mem_append_left _ hp) (fun p hp => List.mem_append_right _ hp)
  · intro j hj
    by_cases hji : j = i
    · subst hji; simpa using hmm
    · simpa [hji] using hf j (by omega)
  · intro z z1 z2 z3
    rw [hm' z z1 z2 z3]
    exact hm z z1 z2 z3
  · intro p hp b hb
    simp only [loopNx, List.map_cons, List.mem_cons] at hb
    rcases hb with rfl | rfl | rfl | rfl | rfl | rfl | hb
    · exact hoff p hp _ (by simp)
    · exact hne p (List.mem_append_right _ hp)
    · exact hoff p hp _ (by simp)
    · exact hoff p hp _ (by simp)
    · exact hoff p hp _ (by simp)
    · exact hoff p hp _ (by simp)
    · exact hoff p hp _ (by simp only [loopNx, List.map_cons, List.mem_cons]; exact .inr (.inr (.inr (.inr (.inr (.inr hb))))))

end Mine
end

section
open PySem PySem.Spec PySem.Calls PySem.W PyProof.Rows
set_option Elab.async false
set_option maxRecDepth 100000
set_option maxHeartbeats 16000000
set_option linter.unusedVariables false
namespace Mine
variable {fa : Addr} {cd : Value}
theorem range_J {prog : Program} {w : World} {A : Around} {E : Value → Shared → Prop} {s : Shared} {env : Env} {h₀ : Heap} {x : Str} {body : List Stmt} {Q : Flow → Shared → Prop} {r : Addr} {e : Int} {t₀ u₀ v₀ : Tok} {m₀ : Str → Option Value} {news : List (Addr × Obj)} (J : Nat → (Str → Option Value) → List (Addr × Obj) → Prop)
    (hh : A.handled = none) (hr : IsRange s.heap r 0 e 1 t₀ u₀ v₀) (he1 : 1 ≤ e) (he9 : e ≤ 9) (F : Fr h₀ env.locals s.heap m₀) (N : News h₀ env.locals s.heap news) (hj : J 0 m₀ news)
    (turn : ∀ (i : Nat) (k : Int) t m₁ nx h tk own, k = (i : Int) → k < e → OwnOff own (nx.map (·.1)) → J i m₁ nx → Fr h₀ env.locals h (fun y => if y = x then some (.int k t) else m₁ y) → News h₀ env.locals h (nx ++ own) →
      wpAny (model prog w) A (execs body env) (InvPostG h₀ env.locals (J (i + 1)) own { s with heap := h, toks := tk } Q) E { s with heap := h, toks := tk })
    (done : ∀ m₁ nx h tk, J e.toNat m₁ nx → Fr h₀ env.locals h m₁ → News h₀ env.locals h nx → Q .next { s with heap := h, toks := tk }) :
    wpAny (model prog w) A (pyIter (.ref r)) (fun it s₂ => LoopAtV prog w A h₀ env x body Q E it s₂) E s := by
  have hsm : Builtin.Range.small 0 e 1 = true := by
    have : e = 1 ∨ e = 2 ∨ e = 3 ∨ e = 4 ∨ e = 5 ∨ e = 6 ∨ e = 7 ∨ e = 8 ∨ e = 9 := by omega
    rcases this with rfl | rfl | rfl | rfl | rfl | rfl | rfl | rfl | rfl <;> decide
  have hsz : Builtin.Range.rangeSize 0 e 1 = (e.toNat : Int) := by rw [rangeSize_nat, Int.sub_zero]
  refine wpAny_pyIter_range hr hsm ?_
  have W : Walks prog w A s.heap.objs.size [s.heap.objs.size] [s.heap.objs.size] e.toNat (fun i v => i < e.toNat ∧ ∃ t, v = .int (0 + i * 1) t)
      (fun i h => IsRangeIter h s.heap.objs.size (0 + (i : Nat) * 1) ((e.toNat : Int) - (i : Nat)) 1) := (Walks.range hh _ 0 1 e.toNat).bound
  refine kdr_loop J W (fun _ h => h) (fun _ h => h) ?_ ?_ ?_ ?_ (by show IsRangeIter _ _ _ _ _; rw [hsz]; simpa using Heap.get?_push_size _ rfl) (F.push _) (fun p hp => ⟨Heap.get?_push_of_some _ (N p hp).1, (N p hp).2⟩) hj ?_ ?_
  · intro i h hi b hb
    rw [List.mem_singleton.mp hb]
    exact ⟨_, hi⟩
  · intro hm
    exact absurd F.ns.lt ((List.mem_singleton.mp hm) ▸ Nat.lt_irrefl _)
  · intro b hb
    rw [List.mem_singleton.mp hb]
    exact next_is_new F
  · intro p hp hI
    exact absurd (Heap.lt_size (N p hp).1) ((List.mem_singleton.mp hI) ▸ Nat.lt_irrefl _)
  · rintro i v m₁ nx h tk own hi ⟨_, t, rfl⟩ hoff hJ F₁ N₁
    exact turn i _ t m₁ nx h tk own (by omega) (by omega) hoff hJ F₁ N₁
  · rintro m₁ nx h tk hJ F₁ N₁
    exact done m₁ nx h tk hJ F₁ N₁

section
local macro_rules | `(tactic| walk_at "exec For Name Call cons nil") => `(tactic| (k_here; (rename Fr _ _ _ _ => lF'); (with_unfolding_all refine' For_invVF lF' ?k1 ?k2 ?_ ?k3 ?k4; (case k1 => exact rfl); (case k2 => exact rfl); (case k3 => exact fun _ => rfl); (case k4 => assumption); k_whole)))
local macro_rules | `(tactic| walk_at "pyIter ref") => `(tactic| (k_here; refine Stop.intro ?_))
theorem blkL : ∀ (w : World) {A : Around} {s : Shared} {loose : List Str} {mean : ExcName → Option Value} {mg mb : Str → Option Value} {h₀ : Heap} {L D : Addr} {e start light pure total : Int} {te ts tl tp tt z0 z1 z2 : Tok} {n : Nat} {cs : List (Addr × Obj)} {m : Str → Option Value} {Q : Flow → Shared → Prop} {E : Value → Shared → Prop} {o1 o2 o4 o5 o6 : Obj} {v6 : Option Value}
    (X : (hd.heap_39 w.params).In h₀) (T : Top hd.view_39 loose mean mg mb h₀) (hA : A.handled = none) (hroom : A.depth + 10 < recursionLimit) (hE : PassesOwn (model PySem.Challenge.rw_xg0008_01.row.prog w) A (lawE L fa cd) E)
    (F : Fr h₀ L s.heap m) (hmp : m (Str.ofString "pure") = some (.int pure tp)) (hmt : m (Str.ofString "total") = some (.int total tt))
    (N : News h₀ L s.heap (loopNx L D (.int 0 z0) (.int 0 z1) (.int 0 z2) n o1 o2 o4 o5 o6 cs))
    (ho1 : o1.data = .cell (some (.int e te))) (ho2 : o2.data = .cell (some (.int light tl))) (ho4 : o4.data = .cell (some (.int start ts))) (ho5 : o5.data = .cell (some (.ref D))) (ho6 : o6.data = .cell v6)
    (h6 : ∀ p ∈ cs, p.1 ≠ L + 6) (h5 : ∀ p ∈ cs, p.1 ≠ L + 5)
    (he1 : 1 ≤ e) (he9 : e ≤ 9) (hs0 : 0 ≤ start) (hs1 : start < 5040) (hl0 : 1 ≤ light) (hl1 : light ≤ 7) (hp0 : 1 ≤ pure) (hp1 : pure ≤ 4)
    (hnext : ∀ h' k' m' nx, LoopJ L e start light pure o1 o2 o4 cs m e.toNat m' nx → Fr h₀ L h' m' → News h₀ L h' nx → Q .next { s with heap := h', toks := k' }),
    wpAny (model PySem.Challenge.rw_xg0008_01.row.prog w) A (execs ((outB.drop 2).take 1) (lawE L fa cd)) Q E s := by
  w_top off
  k_fill
  intro w A s loose mean mg mb h₀ L D e start light pure total te ts tl tp tt z0 z1 z2 n cs m Q E o1 o2 o4 o5 o6 v6 X T hA hroom hE F hmp hmt N ho1 ho2 ho4 ho5 ho6 h6 h5 he1 he9 hs0 hs1 hl0 hl1 hp0 hp1 hnext
  have tl' : ∀ {s : Shared} {i : Nat} {nx own : List (Addr × Obj)} {k : Int} {tk : Tok} {m₁ : Str → Option Value} {Q : Flow → Shared → Prop} {E : Value → Shared → Prop} (hJ : LoopJ L e start light pure o1 o2 o4 cs m i m₁ nx) (hki : k = (i : Int)) (F : Fr h₀ L s.heap (fun z => if z = Str.ofString "k" then some (.int k tk) else m₁ z)) (N : News h₀ L s.heap (nx ++ own)) (hoff : OwnOff own (nx.map (·.1))) (hk1 : k < e),
      wpAny (model PySem.Challenge.rw_xg0008_01.row.prog w) A (execs inB (lawE L fa cd)) (InvPostG h₀ L (LoopJ L e start light pure o1 o2 o4 cs m (i + 1)) own s Q) E s :=
    fun hJ hki F N hoff hk1 => turnL w X T hA hroom hJ hki F hmp hmt N hoff ho1 ho2 ho4 h6 h5 he1 he9 hk1 hs0 hs1 hl0 hl1 hp0 hp1
  obtain ⟨hn, dp, fr, gd, un⟩ := A
  dsimp only at hA hroom
  subst hA
  unfold lawE outB lawP PySem.Challenge.pw_xg0008_01 at *
  unfold inB outB lawP PySem.Challenge.pw_xg0008_01 at tl'
  dsimp only [List.drop, List.take] at *
  unfold loopNx at N
  k_steps
  unfold Stop
  (with_reducible rename Fr _ _ _ _ => kF)
  (with_reducible rename News _ _ _ _ => kN)
  (with_reducible rename IsRange _ _ _ _ _ _ _ _ => rgX)
  refine range_J (LoopJ L e start light pure o1 o2 o4 cs m) rfl rgX he1 he9 kF kN ⟨fun _ => 0, D, .int 0 z0, .int 0 z1, .int 0 z2, n, o5, o6, v6, rfl, (fun j hj => absurd hj (Nat.not_lt_zero _)), .inr ⟨rfl, z0, rfl⟩, .inr ⟨rfl, z1, rfl⟩, .inr ⟨rfl, z2, rfl⟩, fun _ _ _ _ => rfl, ho5, ho6, fun h => absurd h (Nat.lt_irrefl _)⟩ ?_ ?_
  · intro i k t m₁ nx h tk own hki hke hoff hJ F' N'
    exact tl' hJ hki F' N' hoff hke
  · intro m₁ nx h tk hJ F' N'
    k_steps
    exact hnext _ _ _ _ hJ F' N'
end
end Mine
end

section
open PySem PySem.Spec PySem.Calls PySem.W PyProof.Rows
set_option Elab.async false
set_option maxRecDepth 100000
set_option maxHeartbeats 16000000
set_option linter.unusedVariables false
namespace Mine
theorem Keeps.to {s s₃ : Shared} {h : Heap} {k : Nat} (e : s₃ = { s with heap := h, toks := k }) (hk : ∀ b o, s.heap.get? b = some o → h.get? b = some o) : Keeps s s₃ := ⟨h, k, e, hk⟩
section
variable {w : World} {A : Around} {E : Value → Shared → Prop} {s : Shared} {h₀ : Heap} {L : Addr} {m m₀ : Str → Option Value} {scope : Scope} {cl : List (Str × Addr)} {env : Env} {C : Addr} {K : Frag}
abbrev redZ (e light start weight c : Int) : Int := 1680 * light * e * e + weight * pullZ e (e * (start - 1680 * c))
theorem red_elt {loose : List Str} {mean : ExcName → Option Value} {mg mb : Str → Option Value} {Le Ll Ls Lw : Addr} {e light start weight : Int} {te tl ts tw t : Tok} {i : Nat} {oe ol os ow : Obj} {p1 p2 p3 p4 p5 p6 p7 p8 p9 p10 p11 p12 p13 p14 p15 p16 p17 p18 p19 p20 : Pos}
    (X : (hd.heap_39 w.params).In h₀) (T : Top hd.view_39 loose mean mg mb h₀) (hA : A.handled = none) (hroom : A.depth < recursionLimit) (F : Fr h₀ L s.heap m₀)
    (hname : nsIn (hd.heap_39 w.params) mainGlobals (Str.ofString "_law_pull") = some (some (.ref 91))) (hkp : keepIn (hd.heap_39 w.params) (.ref 91) = true) (hgl : env.globals = mainGlobals)
    (hkind : (compEnvC scope cl C env).scope.kind = .function) (hloc : (compEnvC scope cl C env).kindOf (Str.ofString "c") = some .local) (hpl : (compEnvC scope cl C env).kindOf (Str.ofString "_law_pull") = some .globalImplicit)
    (hce : (compEnvC scope cl C env).kindOf (Str.ofString "e") = some .cell) (hcl : (compEnvC scope cl C env).kindOf (Str.ofString "light") = some .cell) (hcs : (compEnvC scope cl C env).kindOf (Str.ofString "start") = some .cell) (hcw : (compEnvC scope cl C env).kindOf (Str.ofString "weight") = some .cell)
    (hle : cl.lookup (Str.ofString "e") = some Le) (hll : cl.lookup (Str.ofString "light") = some Ll) (hls : cl.lookup (Str.ofString "start") = some Ls) (hlw : cl.lookup (Str.ofString "weight") = some Lw)
    (hns : s.heap.Ns (compEnvC scope cl C env).locals m) (hx : m (Str.ofString "c") = some (.int (i : Int) t)) (hi : i < 3)
    (hoe : s.heap.get? Le = some oe) (hde : oe.data = .cell (some (.int e te))) (hol : s.heap.get? Ll = some ol) (hdl : ol.data = .cell (some (.int light tl)))
    (hos : s.heap.get? Ls = some os) (hds : os.data = .cell (some (.int start ts))) (how : s.heap.get? Lw = some ow) (hdw : ow.data = .cell (some (.int weight tw)))
    (he1 : 1 ≤ e) (he9 : e ≤ 9) (hw0 : 0 ≤ weight) (hw1 : weight ≤ 100) :
    wpAny (model PySem.Challenge.rw_xg0008_01.row.prog w) A (eval (.BinOp (.BinOp (.BinOp (.BinOp (.Constant (.int 1680) 0 p1) .Mult (.Name (Str.ofString "light") p2) p3) .Mult (.Name (Str.ofString "e") p4) p5) .Mult (.Name (Str.ofString "e") p6) p7) .Add
        (.BinOp (.Name (Str.ofString "weight") p8) .Mult (.Call (.Name (Str.ofString "_law_pull") p9) [.Name (Str.ofString "e") p10, .BinOp (.Name (Str.ofString "e") p11) .Mult (.BinOp (.Name (Str.ofString "start") p12) .Sub (.BinOp (.Constant (.int 1680) 0 p13) .Mult (.Name (Str.ofString "c") p14) p15) p16) p17] [] p18) p19) p20) (compEnvC scope cl C env))
      (fun y s₄ => (∃ t', y = .int (redZ e light start weight i) t') ∧ Keeps s s₄) E s := by
  refine wpAny_BinOp (wpAny_BinOp (wpAny_BinOp (wpAny_BinOp (wpAny_Constant_int (wpAny_Name (wpAny_loadName_cell hkind hcl hll ⟨ol, hol, hdl⟩ (mul_int ?_)))))))
  refine wpAny_Name (wpAny_loadName_cell hkind hce hle ⟨oe, hoe, hde⟩ (mul_int ?_))
  refine wpAny_Name (wpAny_loadName_cell hkind hce hle ⟨oe, hoe, hde⟩ (mul_int ?_))
  refine wpAny_BinOp (wpAny_Name (wpAny_loadName_cell hkind hcw hlw ⟨ow, how, hdw⟩ ?_))
  refine wpAny_Call_ofName (LCgL.ld_global F X T hname ?_ hgl hkind hpl)
  refine callWith_K X hkp ?_
  refine spliced_cons (wpAny_Name (wpAny_loadName_cell hkind hce hle ⟨oe, hoe, hde⟩ ?_))
  refine spliced_cons (wpAny_BinOp (wpAny_Name (wpAny_loadName_cell hkind hce hle ⟨oe, hoe, hde⟩ ?_)))
  refine wpAny_BinOp (wpAny_Name (wpAny_loadName_cell hkind hcs hls ⟨os, hos, hds⟩ ?_))
  refine wpAny_BinOp (wpAny_Constant_int (wpAny_Name (wpAny_loadName_local hkind hloc hns hx (mul_int (sub_int (mul_int (spliced_nil ⟨X.keeps F.keep, ?_⟩)))))))
  dsimp only [List.nil_append]
  refine wpAny_call ?_
  refine' pull_call w ?hX ?hT hA hroom _ _ _ _ ?_
  case hX => exact X.keeps F.keep
  case hT => exact T.keeps F.keep
  intro t' h' tk' hk
  refine mul_int (add_int ?_)
  exact ⟨⟨_, rfl⟩, h', _, rfl, hk⟩
end
end Mine
end

section
open PySem PySem.Spec PySem.Calls PySem.W PyProof.Rows
set_option Elab.async false
set_option maxRecDepth 100000
set_option maxHeartbeats 16000000
set_option linter.unusedVariables false
namespace Mine
variable {fa : Addr} {cd : Value}
theorem news_3rd {h₀ h : Heap} {L : Addr} {a b c : Addr × Obj} {cs : List (Addr × Obj)} (N : News h₀ L h (a :: b :: c :: cs)) : News h₀ L h (c :: b :: a :: cs) := fun p hp => N p (by
  simp only [List.mem_cons] at hp ⊢
  rcases hp with h | h | h | h
  · exact .inr (.inr (.inl h))
  · exact .inr (.inl h)
  · exact .inl h
  · exact .inr (.inr (.inr h)))
theorem allLt_mem {d : Nat} : ∀ {l : List (Addr × Obj)}, AllLt d l → ∀ p ∈ l, p.1 ≠ d
  | [], _, _, hp => nomatch hp
  | a :: l, h, p, hp => (List.mem_cons.mp hp).elim (fun e => e ▸ Nat.ne_of_lt h.1) (allLt_mem h.2 p)
section
local macro_rules | `(tactic| walk_at "storeName") => `(tactic| (k_here; refine Stop.intro ?_))
theorem blkS : ∀ (w : World) {A : Around} {s : Shared} {loose : List Str} {mean : ExcName → Option Value} {mg mb : Str → Option Value} {h₀ : Heap} {L : Addr} {x : Int} {tx : Tok} {cs : List (Addr × Obj)} {m : Str → Option Value} {Q : Flow → Shared → Prop} {E : Value → Shared → Prop} {o4 o5 : Obj} {v4 v5 : Option Value}
    (X : (hd.heap_39 w.params).In h₀) (T : Top hd.view_39 loose mean mg mb h₀) (hA : A.handled = none)
    (F : Fr h₀ L s.heap (fun z => if z = Str.ofString "x" then some (.int x tx) else m z))
    (N : News h₀ L s.heap ((L + 4, o4) :: (L + 5, o5) :: cs)) (ho4 : o4.data = .cell v4) (ho5 : o5.data = .cell v5)
    (h4 : ∀ p ∈ cs, p.1 ≠ L + 4) (h5 : ∀ p ∈ cs, p.1 ≠ L + 5)
    (hnext : ∀ D ts z0 z1 z2 h' k' o4' o5', Fr h₀ L h' (fun z => if z = Str.ofString "x" then some (.int x tx) else m z) →
      News h₀ L h' ((D, listOf #[.int 0 z0, .int 0 z1, .int 0 z2] 0) :: (L + 4, o4') :: (L + 5, o5') :: cs) → (∀ p ∈ ((L + 4, o4') :: (L + 5, o5') :: cs), p.1 ≠ D) →
      o4'.data = .cell (some (.int ((x * 997).fmod 5040) ts)) → o5'.data = .cell (some (.ref D)) → Q .next { s with heap := h', toks := k' }),
    wpAny (model PySem.Challenge.rw_xg0008_01.row.prog w) A (execs (outB.take 2) (lawE L fa cd)) Q E s := by
  w_top off
  k_fill
  intro w A s loose mean mg mb h₀ L x tx cs m Q E o4 o5 v4 v5 X T hA F N ho4 ho5 h4 h5 hnext
  obtain ⟨hn, dp, fr, gd, un⟩ := A
  dsimp only at hA
  subst hA
  unfold lawE outB lawP PySem.Challenge.pw_xg0008_01
  dsimp only [List.drop, List.take]
  k_steps
  unfold Stop
  (with_reducible rename Fr _ _ _ _ => kF)
  (with_reducible rename News _ _ _ _ => kN)
  refine store_head kF kN ?_ ho4 (by rfl) ?_
  · intro p hp
    rcases List.mem_cons.mp hp with rfl | hp
    · exact off_ne (by decide)
    · exact h4 p hp
  intro h' o4' F' N' ho4'
  clear kF kN
  k_steps
  unfold Stop
  (with_reducible rename Fr _ _ _ _ => kF)
  (with_reducible rename News _ _ _ _ => kN)
  (with_reducible rename _ ∧ _ => l1)
  obtain ⟨la, lb, lc⟩ := l1
  refine store_head kF (news_3rd kN) ?_ ho5 (by rfl) ?_
  · intro p hp
    rcases List.mem_cons.mp hp with rfl | hp
    · exact off_ne (by decide)
    · rcases List.mem_cons.mp hp with rfl | hp
      · exact Ne.symm (Nat.ne_of_lt lb)
      · exact h5 p hp
  intro h'' o5' F'' N'' ho5'
  clear kF kN
  k_steps
  (with_reducible rename Fr _ _ _ _ => kF)
  (with_reducible rename News _ _ _ _ => kN)
  refine hnext _ _ _ _ _ _ _ o4' o5' kF (news_3rd kN) ?_ ho4' ho5'
  · intro p hp
    rcases List.mem_cons.mp hp with rfl | hp
    · exact Nat.ne_of_lt la
    · rcases List.mem_cons.mp hp with rfl | hp
      · exact Nat.ne_of_lt lb
      · exact allLt_mem lc p hp
end
end Mine
end

section
open PySem PySem.Spec PySem.Calls PySem.W PyProof.Rows
set_option Elab.async false
set_option maxRecDepth 100000
set_option maxHeartbeats 16000000
set_option linter.unusedVariables false
namespace Mine
variable {fa : Addr} {cd : Value}
abbrev dueA (r g b : Int) : Int := 3000 * r + 5900 * g + 1100 * b
abbrev dueB (r g b : Int) : Int := 5990 * r - 2773 * g - 3217 * b
abbrev dueC (r g b : Int) : Int := 2130 * r - 5251 * g + 3121 * b
theorem news_skip {h₀ h : Heap} {L : Addr} {a b : Addr × Obj} {cs : List (Addr × Obj)} (N : News h₀ L h (a :: b :: cs)) : News h₀ L h (a :: cs) := fun p hp => N p ((List.mem_cons.mp hp).elim (fun e => List.mem_cons.mpr (.inl e)) fun e => .tail _ (.tail _ e))
section
local macro_rules | `(tactic| walk_at "eval ListComp") => `(tactic| (k_here; refine Stop.intro ?_))
local macro_rules | `(tactic| walk_at "pyIter ref") => `(tactic| (k_here; refine Stop.intro ?_))
theorem blkR : ∀ (w : World) {A : Around} {s : Shared} {loose : List Str} {mean : ExcName → Option Value} {mg mb : Str → Option Value} {h₀ : Heap} {L : Addr} {e light start weight : Int} {te tl ts tw : Tok} {cs : List (Addr × Obj)} {m : Str → Option Value} {Q : Flow → Shared → Prop} {E : Value → Shared → Prop} {o1 o2 o3 o4 : Obj}
    (X : (hd.heap_39 w.params).In h₀) (T : Top hd.view_39 loose mean mg mb h₀) (hA : A.handled = none) (hroom : A.depth + 10 < recursionLimit)
    (F : Fr h₀ L s.heap m)
    (N : News h₀ L s.heap ((L + 1, o1) :: (L + 2, o2) :: (L + 3, o3) :: (L + 4, o4) :: cs))
    (ho1 : o1.data = .cell (some (.int e te))) (ho2 : o2.data = .cell (some (.int light tl))) (ho3 : o3.data = .cell (some (.int weight tw))) (ho4 : o4.data = .cell (some (.int start ts)))
    (he1 : 1 ≤ e) (he9 : e ≤ 9) (hw0 : 0 ≤ weight) (hw1 : weight ≤ 100)
    (hnext : ∀ D t0 t1 t2 n h' k' m', Fr h₀ L h' m' → m' (Str.ofString "due") = some (.ref D) → (∀ z, z ≠ Str.ofString "red" → z ≠ Str.ofString "green" → z ≠ Str.ofString "blue" → z ≠ Str.ofString "due" → m' z = m z) →
      News h₀ L h' ((D, listOf #[.int (dueA (redZ e light start weight 0) (redZ e light start weight 1) (redZ e light start weight 2)) t0, .int (dueB (redZ e light start weight 0) (redZ e light start weight 1) (redZ e light start weight 2)) t1, .int (dueC (redZ e light start weight 0) (redZ e light start weight 1) (redZ e light start weight 2)) t2] n) :: (L + 1, o1) :: (L + 2, o2) :: (L + 3, o3) :: (L + 4, o4) :: cs) →
      Q .next { s with heap := h', toks := k' }),
    wpAny (model PySem.Challenge.rw_xg0008_01.row.prog w) A (execs ((outB.drop 3).take 4) (lawE L fa cd)) Q E s := by
  w_top off
  k_fill
  intro w A s loose mean mg mb h₀ L e light start weight te tl ts tw cs m Q E o1 o2 o3 o4 X T hA hroom F N ho1 ho2 ho3 ho4 he1 he9 hw0 hw1 hnext
  obtain ⟨hn, dp, fr, gd, un⟩ := A
  dsimp only at hA hroom
  subst hA
  unfold lawE outB lawP PySem.Challenge.pw_xg0008_01
  dsimp only [List.drop, List.take]
  k_steps
  unfold Stop
  k_fold
  refine wpAny_ListComp_free (fun _ => true) (Gi fun i y => ∃ t', y = .int (redZ e light start weight i) t') (by with_unfolding_all rfl) (by decide) rfl (by decide) rfl ?_
  k_steps
  unfold Stop
  (with_reducible rename Fr _ _ _ _ => kF)
  (with_reducible rename News _ _ _ _ => kN)
  (with_reducible rename IsRange _ _ _ _ _ _ _ _ => rgX)
  refine src_range3 _ rfl kF kN rgX ?_ ?_
  · intro C i t s₃ m₃ E' hi hns hx hk
    have g1 := hk _ _ (kN (L + 1, o1) (by simp)).1
    have g2 := hk _ _ (kN (L + 2, o2) (by simp)).1
    have g3 := hk _ _ (kN (L + 3, o3) (by simp)).1
    have g4 := hk _ _ (kN (L + 4, o4) (by simp)).1
    have F3 : Fr h₀ L s₃.heap m := ⟨kF.ns.at' fun o ho => hk _ _ ho, fun b o ho => hk _ _ (kF.keep b o ho), kF.above⟩
    exact red_elt X T rfl (room_le hroom) F3 (by k_is) (by k_is) rfl rfl rfl rfl rfl rfl rfl rfl rfl rfl rfl rfl hns hx hi g1 ho1 g2 ho2 g4 ho4 g3 ho3 he1 he9 hw0 hw1
  · rintro D' h' tk y0 y1 y2 n' ⟨t0, rfl⟩ ⟨t1, rfl⟩ ⟨t2, rfl⟩ F' N' hne
    clear kF kN rgX
    k_steps
    (with_reducible rename Fr _ _ _ _ => kF)
    (with_reducible rename News _ _ _ _ => kN)
    refine hnext _ _ _ _ _ _ _ _ kF (if_pos rfl) ?_ (news_skip kN)
    intro z z1 z2 z3 z4
    simp only [if_neg z1, if_neg z2, if_neg z3, if_neg z4]
end
end Mine
end

section
open PySem PySem.Spec PySem.Calls PySem.W PyProof.Rows
set_option Elab.async false
set_option maxRecDepth 100000
set_option maxHeartbeats 16000000
set_option linter.unusedVariables false
namespace Mine
theorem yiq_N (w : World) {A : Around} {E : Value → Shared → Prop} {s : Shared} {h₀ : Heap} {L : Addr} {m : Str → Option Value} {rest : List (Addr × Obj)} {loose : List Str} {mean : ExcName → Option Value} {mg mb : Str → Option Value} {r g b : UInt64} {t1 t2 t3 : Tok} {Q : Value → Shared → Prop}
    (F : Fr h₀ L s.heap m) (N : News h₀ L s.heap rest) (X : (hd.heap_39 w.params).In h₀) (T : Top hd.view_39 loose mean mg mb h₀) (hroom : A.depth < recursionLimit)
    (hq : ∀ a t1 t2 t3 h' tk', Fr h₀ L h' m → News h₀ L h' ((a, tupO [.float (yF r g b) t1, .float (iF r g b) t2, .float (qF r g b) t3]) :: rest) → Q (.ref a) { s with heap := h', toks := tk' }) :
    wpAny (model PySem.Challenge.rw_xg0008_01.row.prog w) A (call (.ref 38) [.float r t1, .float g t2, .float b t3]) Q E s := by
  refine wpAny_call (yiq_call w (Frag.In.keeps X F.keep) (T.keeps F.keep) hroom r g b t1 t2 t3 ?_)
  intro a x1 x2 x3 h' tk' hk ha hn
  refine hq a x1 x2 x3 h' tk' (Fr.after F hk) ?_
  intro q hq
  rcases List.mem_cons.mp hq with rfl | hq
  · refine ⟨ha, ?_, ?_⟩
    · rintro rfl
      obtain ⟨oL, _, _, ho, _⟩ := F.ns
      rw [hn] at ho; cases ho
    · cases e : h₀.get? a with
      | none => rfl
      | some o' => have := F.keep a o' e; rw [hn] at this; cases this
  · exact ⟨hk _ _ (N _ hq).1, (N _ hq).2⟩
section
variable {prog : Program} {w : World} {A : Around} {E : Value → Shared → Prop} {s : Shared} {env : Env} {h₀ : Heap} {L : Addr} {m m₀ : Str → Option Value} {news : List (Addr × Obj)} {scope : Scope} {cl : List (Str × Addr)} {x : Str} {elt : PySem.Expr} {Q : Value → Shared → Prop} {C : Addr}

theorem src_tuple3 {a : Addr} {p0 p1 p2 : Value} (Fv : Value → Value → Prop) (hh : A.handled = none) (F : Fr h₀ L s.heap m) (N : News h₀ L s.heap news) (hm : (a, tupO [p0, p1, p2]) ∈ news)
    (el : ∀ C v s₃ m₃ E', (v = p0 ∨ v = p1 ∨ v = p2) → s₃.heap.Ns C m₃ → m₃ x = some v → (∀ b o, s.heap.get? b = some o → s₃.heap.get? b = some o) →
      wpAny (model prog w) A (eval elt (compEnvC scope cl C env)) (fun y s₄ => Fv v y ∧ Keeps s₃ s₄) E' s₃)
    (done : ∀ D h' tk y0 y1 y2 n', Fv p0 y0 → Fv p1 y1 → Fv p2 y2 → Fr h₀ L h' m → News h₀ L h' ((D, listOf #[y0, y1, y2] n') :: news) → (∀ p ∈ news, p.1 ≠ D) → Q (.ref D) { s with heap := h', toks := tk }) :
    wpAny (model prog w) A (pyIter (.ref a)) (fun it s => ∃ I' fp wr n P St, it = .ref I' ∧ Walks prog w A I' fp wr n P St ∧ n ≤ sizeLine ∧ St 0 s.heap ∧ (∀ b ∈ fp, b < s.heap.objs.size) ∧
      QuietOnC prog w A env scope cl x [] elt wr P (fun _ => true) Fv s ∧
      (∀ D h' tk ys (vs : List Value), s.heap.get? D = none → h'.IsList D ys → h'.PlainList D ys → vs.length = n → (∀ j v, vs[j]? = some v → P j v) → Paired Fv (vs.filter fun _ => true) ys.toList →
        (∀ b o, b ∉ wr → s.heap.get? b = some o → h'.get? b = some o) → Q (.ref D) { s with heap := h', toks := tk })) E s := by
  have hol : s.heap.get? a = some (tupO [p0, p1, p2]) := (N _ hm).1
  have hls : s.heap.IsTuple a ([p0, p1, p2] : List Value).toArray := ⟨_, hol, rfl, 0, rfl⟩
  have hlt : a < s.heap.objs.size := Heap.lt_size hol
  have hne : a ≠ s.heap.objs.size := Nat.ne_of_lt hlt
  refine wpAny_pyIter_tuple hls ?_
  have W := Walks.tuple (prog := prog) (w := w) hh s.heap.objs.size a hne ([p0, p1, p2] : List Value).toArray
  refine src_any _ W (by rw [sizeLine_eq]; simp) ⟨⟨_, Heap.get?_push_size _ rfl, rfl, rfl⟩, hls.at fun o e => Heap.get?_push_of_some _ e⟩ ?_ (F.push _) (News.pushKeep N _) ?_ (next_is_new F) ?_ ?_ ?_
  · intro b hb
    show b < (s.heap.objs.push _).size
    rw [Array.size_push]
    rcases List.mem_cons.mp hb with rfl | hb
    · exact Nat.lt_succ_self _
    · rw [List.mem_singleton.mp hb]; exact Nat.lt_succ_of_lt hlt
  · exact Nat.ne_of_lt F.ns.lt
  · exact fun p hp => Nat.ne_of_lt (Heap.lt_size (N p hp).1)
  · intro C i v s₃ m₃ E' hP hns hx hk
    have hv : v = p0 ∨ v = p1 ∨ v = p2 := by
      have := Array.mem_of_getElem? hP
      simpa using this
    have hk' : ∀ b o, s.heap.get? b = some o → s₃.heap.get? b = some o := fun b o ho => hk b o (Nat.ne_of_lt (Heap.lt_size ho)) (Heap.get?_push_of_some _ ho)
    exact el C v s₃ m₃ E' hv hns hx hk'
  · intro D h' tk ys vs n' hl hP hF F' N' hD
    have e : vs = [p0, p1, p2] := by
      apply List.ext_getElem?
      intro j
      cases h1 : vs[j]? with
      | none =>
        have h2 := List.getElem?_eq_none_iff.mp h1
        have h3 : ([p0, p1, p2] : List Value).length ≤ j := by rw [hl] at h2; simpa using h2
        rw [List.getElem?_eq_none h3]
      | some v =>
        have h2 := hP j v h1
        rw [← h2]; simp
    subst e
    cases hF with | cons h0 hF =>
    cases hF with | cons h1 hF =>
    cases hF with | cons h2 hF =>
    cases hF
    exact done D h' tk _ _ _ n' h0 h1 h2 F' N' hD

theorem round_elt {K : Frag} {loose : List Str} {mean : ExcName → Option Value} {mg mb : Str → Option Value} {view : Program} {Le : Addr} {e : Int} {te t : Tok} {z : UInt64} {oe : Obj} {p1 p2 p3 p4 p5 p6 p7 : Pos}
    (X : K.In h₀) (T : Top view loose mean mg mb h₀) (hA : A.handled = none) (F : Fr h₀ L s.heap m₀)
    (hname : nsIn K mainGlobals (Str.ofString "round") = some none) (hboot : bootBuiltins (Str.ofString "round") = some (.builtin "round")) (hgl : env.globals = mainGlobals) (hbl : env.builtins = builtinsNs)
    (hkind : (compEnvC scope cl C env).scope.kind = .function) (hloc : (compEnvC scope cl C env).kindOf (Str.ofString "part") = some .local) (hpl : (compEnvC scope cl C env).kindOf (Str.ofString "round") = some .globalImplicit)
    (hce : (compEnvC scope cl C env).kindOf (Str.ofString "e") = some .cell) (hle : cl.lookup (Str.ofString "e") = some Le)
    (hns : s.heap.Ns (compEnvC scope cl C env).locals m) (hx : m (Str.ofString "part") = some (.float z t))
    (hoe : s.heap.get? Le = some oe) (hde : oe.data = .cell (some (.int e te))) (he1 : 1 ≤ e) (he9 : e ≤ 9) (hfin : Float64.isFinite (Float64.mul (Float64.ofInt (134400000 * e)) z) = true) :
    wpAny (model prog w) A (eval (.Call (.Name (Str.ofString "round") p1) [.BinOp (.BinOp (.Constant (.int 134400000) 0 p2) .Mult (.Name (Str.ofString "e") p3) p4) .Mult (.Name (Str.ofString "part") p5) p6] [] p7) (compEnvC scope cl C env))
      (fun y s₄ => (∃ t', y = .int (Flt.toInt Float64.nearestOf (Float64.mul (Float64.ofInt (134400000 * e)) z)) t') ∧ Keeps s s₄) E s := by
  refine wpAny_Call_ofName (LCgL.ld_built F X T hname hboot (by decide) ?_ hgl hbl hkind hpl)
  refine PyProof.Rows.callWith_builtin1 (spliced_cons ?_)
  refine wpAny_BinOp (wpAny_BinOp (wpAny_Constant_int (wpAny_Name (wpAny_loadName_cell hkind hce hle ⟨oe, hoe, hde⟩ (mul_int ?_)))))
  refine wpAny_Name (wpAny_loadName_local hkind hloc hns hx (mul_if_fits (by omega) (spliced_nil ?_)))
  refine Flt.call_round_float hA ?_ ?_ ?_
  · intro h; unfold Float64.isFinite at hfin; unfold Float64.isNaN at h; revert h hfin; split <;> simp_all
  · intro h; unfold Float64.isFinite at hfin; unfold Float64.isInf at h; revert h hfin; split <;> simp_all
  · intro _
    exact ⟨⟨_, rfl⟩, _, _, rfl, fun b o e => e⟩
end
end Mine
end

section
open PySem PySem.Spec PySem.Calls PySem.W PyProof.Rows
set_option Elab.async false
set_option maxRecDepth 100000
set_option maxHeartbeats 16000000
set_option linter.unusedVariables false
namespace Mine
variable {fa : Addr} {cd : Value}
abbrev partF (e : Int) (z : UInt64) : UInt64 := Float64.mul (Float64.ofInt (134400000 * e)) z
/-- a part that rounds to what is due -/
def Good (e : Int) (z : UInt64) (d : Int) : Prop := Float64.isFinite (partF e z) = true ∧ Flt.toInt Float64.nearestOf (partF e z) = d
section
local macro_rules | `(tactic| walk_at "eval ListComp") => `(tactic| (k_here; refine Stop.intro ?_))
local macro_rules | `(tactic| walk_at "pyIter ref") => `(tactic| (k_here; refine Stop.intro ?_))
local macro_rules | `(tactic| walk_at "call ref") => `(tactic| (k_here; (with_reducible show wpAny _ _ (call (Value.ref 38) _) _ _ _); (with_reducible rename Fr _ _ _ _ => kF); (with_reducible rename News _ _ _ _ => kN); k_dflt (refine' yiq_N _ kF kN (by assumption) (by assumption) (room_le (by assumption)) ?_); intro a9 t1 t2 t3 h9 tk9 F9 N9; (try clear kF kN); (try dsimp only)))
theorem blkF : ∀ (w : World) {A : Around} {s : Shared} {loose : List Str} {mean : ExcName → Option Value} {mg mb : Str → Option Value} {h₀ : Heap} {L Dm Dd : Addr} {x0 x1 x2 : UInt64} {y0 y1 y2 : Tok} {n nd : Nat} {e d0 d1 d2 : Int} {te u0 u1 u2 : Tok} {cs : List (Addr × Obj)} {m : Str → Option Value} {Q : Flow → Shared → Prop} {E : Value → Shared → Prop} {o1 o5 : Obj}
    (X : (hd.heap_39 w.params).In h₀) (T : Top hd.view_39 loose mean mg mb h₀) (hA : A.handled = none) (hroom : A.depth + 10 < recursionLimit) (hun : A.units + 64 < cLine)
    (F : Fr h₀ L s.heap (fun z => if z = Str.ofString "due" then some (.ref Dd) else m z))
    (N : News h₀ L s.heap ((L + 5, o5) :: (Dm, listOf #[.float x0 y0, .float x1 y1, .float x2 y2] n) :: (L + 1, o1) :: (Dd, listOf #[.int d0 u0, .int d1 u1, .int d2 u2] nd) :: cs))
    (ho1 : o1.data = .cell (some (.int e te))) (ho5 : o5.data = .cell (some (.ref Dm)))
    (he1 : 1 ≤ e) (he9 : e ≤ 9) (hg0 : Good e (yF x0 x1 x2) d0) (hg1 : Good e (iF x0 x1 x2) d1) (hg2 : Good e (qF x0 x1 x2) d2)
    (hnext : ∀ h' k', Fr h₀ L h' (fun z => if z = Str.ofString "due" then some (.ref Dd) else m z) →
      News h₀ L h' ((L + 5, o5) :: (Dm, listOf #[.float x0 y0, .float x1 y1, .float x2 y2] n) :: (L + 1, o1) :: (Dd, listOf #[.int d0 u0, .int d1 u1, .int d2 u2] nd) :: cs) → Q .next { s with heap := h', toks := k' }),
    wpAny (model PySem.Challenge.rw_xg0008_01.row.prog w) A (execs (outB.drop 7) (lawE L fa cd)) Q E s := by
  w_top off
  k_fill
  intro w A s loose mean mg mb h₀ L Dm Dd x0 x1 x2 y0 y1 y2 n nd e d0 d1 d2 te u0 u1 u2 cs m Q E o1 o5 X T hA hroom hun F N ho1 ho5 he1 he9 hg0 hg1 hg2 hnext
  obtain ⟨hn, dp, fr, gd, un⟩ := A
  dsimp only at hA hroom hun
  subst hA
  unfold lawE outB lawP PySem.Challenge.pw_xg0008_01
  dsimp only [List.drop, List.take]
  k_steps
  unfold Stop
  k_fold
  refine wpAny_ListComp_free (fun _ => true) (fun v y => ∃ z t t', v = .float z t ∧ y = .int (Flt.toInt Float64.nearestOf (partF e z)) t') (by with_unfolding_all rfl) (by decide) rfl (by decide) rfl ?_
  k_steps
  unfold Stop
  (with_reducible rename Fr _ _ _ _ => kF)
  (with_reducible rename News _ _ _ _ => kN)
  refine src_tuple3 _ rfl kF kN (.head _) ?_ ?_
  · intro C v s₃ m₃ E' hv hns hx hk
    have g1 := hk _ _ (kN (L + 1, o1) (by simp)).1
    have F3 : Fr h₀ L s₃.heap _ := ⟨kF.ns.at' fun o ho => hk _ _ ho, fun b o ho => hk _ _ (kF.keep b o ho), kF.above⟩
    obtain ⟨z, t, rfl, hfin⟩ : ∃ z t, v = .float z t ∧ Float64.isFinite (partF e z) = true := by
      rcases hv with h | h | h
      · exact ⟨_, _, h, hg0.1⟩
      · exact ⟨_, _, h, hg1.1⟩
      · exact ⟨_, _, h, hg2.1⟩
    refine wpAny_mono (round_elt X T rfl F3 (by k_is) (by boot_by_name) rfl rfl rfl rfl rfl rfl rfl hns hx g1 ho1 he1 he9 hfin) ?_ fun _ _ e => e
    rintro y s₄ ⟨⟨t', rfl⟩, h2⟩
    exact ⟨⟨z, t, t', rfl, rfl⟩, h2⟩
  · rintro D' h' tk r0 r1 r2 n' ⟨z0, w0, q0, e0, rfl⟩ ⟨z1, w1, q1, e1, rfl⟩ ⟨z2, w2, q2, e2, rfl⟩ F' N' hne
    cases e0; cases e1; cases e2
    rw [hg0.2, hg1.2, hg2.2] at N'
    clear kF kN
    k_steps
    (with_reducible rename Fr _ _ _ _ => kF)
    (with_reducible rename News _ _ _ _ => kN)
    exact hnext _ _ kF (fun p hp => kN p (.tail _ (.tail _ hp)))
end
end Mine
end

section
open PySem PySem.Spec PySem.Calls PySem.W PyProof.Rows
set_option Elab.async false
set_option maxRecDepth 100000
set_option maxHeartbeats 16000000
set_option linter.unusedVariables false
namespace Mine
variable {fa : Addr} {cd : Value}
abbrev wtO (light pure : Int) : Int := pure * (if 8 - light < light then 8 - light else light)
abbrev Good3 (e light pure weight start : Int) (f : Nat → Int) : Prop :=
  Good e (yF (accF f (quF light 8) (quF pure 4) 0 e.toNat) (accF f (quF light 8) (quF pure 4) 1 e.toNat) (accF f (quF light 8) (quF pure 4) 2 e.toNat)) (dueA (redZ e light start weight 0) (redZ e light start weight 1) (redZ e light start weight 2)) ∧
  Good e (iF (accF f (quF light 8) (quF pure 4) 0 e.toNat) (accF f (quF light 8) (quF pure 4) 1 e.toNat) (accF f (quF light 8) (quF pure 4) 2 e.toNat)) (dueB (redZ e light start weight 0) (redZ e light start weight 1) (redZ e light start weight 2)) ∧
  Good e (qF (accF f (quF light 8) (quF pure 4) 0 e.toNat) (accF f (quF light 8) (quF pure 4) 1 e.toNat) (accF f (quF light 8) (quF pure 4) 2 e.toNat)) (dueC (redZ e light start weight 0) (redZ e light start weight 1) (redZ e light start weight 2))
/-- the plain law: no program in sight -/
def PlainL : Prop := ∀ (e start light pure : Int) (f : Nat → Int), 1 ≤ e → e ≤ 9 → 0 ≤ start → start < 5040 → 1 ≤ light → light ≤ 7 → 1 ≤ pure → pure ≤ 4 →
  (∀ j : Nat, j < e.toNat → f j = minM e start j ∨ f j = minM e start j - 5040) → Good3 e light pure (wtO light pure) start f
theorem wt_hi {light pure : Int} (hl0 : 1 ≤ light) (hl1 : light ≤ 7) (hp0 : 1 ≤ pure) (hp1 : pure ≤ 4) : 0 ≤ wtO light pure ∧ wtO light pure ≤ 100 := by
  have hl : light = 1 ∨ light = 2 ∨ light = 3 ∨ light = 4 ∨ light = 5 ∨ light = 6 ∨ light = 7 := by omega
  have hp : pure = 1 ∨ pure = 2 ∨ pure = 3 ∨ pure = 4 := by omega
  rcases hl with rfl | rfl | rfl | rfl | rfl | rfl | rfl <;> rcases hp with rfl | rfl | rfl | rfl <;> decide

abbrev outNx (L : Addr) (o1 o2 o3 o4 o5 o6 : Obj) (cs : List (Addr × Obj)) : List (Addr × Obj) :=
  (L + 4, o4) :: (L + 5, o5) :: (L + 6, o6) :: (L + 1, o1) :: (L + 2, o2) :: (L + 3, o3) :: cs
theorem outT (hP : PlainL) (w : World) {A : Around} {s : Shared} {loose : List Str} {mean : ExcName → Option Value} {mg mb : Str → Option Value} {h₀ : Heap} {L : Addr} {x e light pure total : Int} {tx te tl tp tt tw : Tok} {cs : List (Addr × Obj)} {m : Str → Option Value} {Q : Flow → Shared → Prop} {E : Value → Shared → Prop} {o1 o2 o3 o4 o5 o6 : Obj} {v4 v5 v6 : Option Value}
    (X : (hd.heap_39 w.params).In h₀) (T : Top hd.view_39 loose mean mg mb h₀) (hA : A.handled = none) (hroom : A.depth + 10 < recursionLimit) (hun : A.units + 64 < cLine) (hE : PassesOwn (model PySem.Challenge.rw_xg0008_01.row.prog w) A (lawE L fa cd) E)
    (F : Fr h₀ L s.heap (fun z => if z = Str.ofString "x" then some (.int x tx) else m z)) (hmp : m (Str.ofString "pure") = some (.int pure tp)) (hmt : m (Str.ofString "total") = some (.int total tt))
    (N : News h₀ L s.heap (outNx L o1 o2 o3 o4 o5 o6 cs))
    (ho1 : o1.data = .cell (some (.int e te))) (ho2 : o2.data = .cell (some (.int light tl))) (ho3 : o3.data = .cell (some (.int (wtO light pure) tw))) (ho4 : o4.data = .cell v4) (ho5 : o5.data = .cell v5) (ho6 : o6.data = .cell v6)
    (h4 : ∀ p ∈ cs, p.1 ≠ L + 4) (h5 : ∀ p ∈ cs, p.1 ≠ L + 5) (h6 : ∀ p ∈ cs, p.1 ≠ L + 6)
    (he1 : 1 ≤ e) (he9 : e ≤ 9) (hl0 : 1 ≤ light) (hl1 : light ≤ 7) (hp0 : 1 ≤ pure) (hp1 : pure ≤ 4)
    (hnext : ∀ h' k' m' o4' o5' o6' v4' v5' v6', Fr h₀ L h' m' → m' (Str.ofString "pure") = some (.int pure tp) → m' (Str.ofString "total") = some (.int total tt) →
      News h₀ L h' (outNx L o1 o2 o3 o4' o5' o6' cs) → o4'.data = .cell v4' → o5'.data = .cell v5' → o6'.data = .cell v6' → Q .next { s with heap := h', toks := k' }) :
    wpAny (model PySem.Challenge.rw_xg0008_01.row.prog w) A (execs outB (lawE L fa cd)) Q E s := by
  have h4' : ∀ p ∈ ((L + 6, o6) :: (L + 1, o1) :: (L + 2, o2) :: (L + 3, o3) :: cs), p.1 ≠ L + 4 := by
    intro p hp
    simp only [List.mem_cons] at hp
    rcases hp with rfl | rfl | rfl | rfl | h
    · exact off_ne (by decide)
    · exact off_ne (by decide)
    · exact off_ne (by decide)
    · exact off_ne (by decide)
    · exact h4 p h
  have h5' : ∀ p ∈ ((L + 6, o6) :: (L + 1, o1) :: (L + 2, o2) :: (L + 3, o3) :: cs), p.1 ≠ L + 5 := by
    intro p hp
    simp only [List.mem_cons] at hp
    rcases hp with rfl | rfl | rfl | rfl | h
    · exact off_ne (by decide)
    · exact off_ne (by decide)
    · exact off_ne (by decide)
    · exact off_ne (by decide)
    · exact h5 p h
  have q6 : ∀ p ∈ ((L + 3, o3) :: cs), p.1 ≠ L + 6 := by
    intro p hp
    rcases List.mem_cons.mp hp with rfl | h
    · exact off_ne (by decide)
    · exact h6 p h
  have q5 : ∀ p ∈ ((L + 3, o3) :: cs), p.1 ≠ L + 5 := by
    intro p hp
    rcases List.mem_cons.mp hp with rfl | h
    · exact off_ne (by decide)
    · exact h5 p h
  have hs0 : 0 ≤ (x * 997).fmod 5040 := fmod_lo _ (by decide)
  have hs1 : (x * 997).fmod 5040 < 5040 := fmod_hi _ (by decide)
  rw [show outB = outB.take 2 ++ ((outB.drop 2).take 1 ++ ((outB.drop 3).take 4 ++ outB.drop 7)) from rfl]
  refine execs_app _ ?_
  refine blkS w X T hA F N ho4 ho5 h4' h5' ?_
  intro D ts z0 z1 z2 h1 k1 o4' o5' F1 N1 hD1 ho4' ho5'
  dsimp only
  refine execs_app _ ?_
  have N2 : News h₀ L h1 (loopNx L D (.int 0 z0) (.int 0 z1) (.int 0 z2) 0 o1 o2 o4' o5' o6 ((L + 3, o3) :: cs)) := by
    intro p hp
    refine N1 p ?_
    simp only [loopNx, List.mem_cons] at hp ⊢
    rcases hp with rfl | rfl | rfl | rfl | rfl | rfl | rfl | h
    all_goals first | (simp only [true_or, or_true]; done) | (simp only [h, or_true]; done)
  refine blkL w (s := { s with heap := h1, toks := k1 }) (total := total) (tp := tp) (tt := tt) X T hA hroom hE F1 ?_ ?_ N2 ho1 ho2 ho4' ho5' ho6 q6 q5 he1 he9 hs0 hs1 hl0 hl1 hp0 hp1 ?_
  · rw [if_neg (by decide)]; exact hmp
  · rw [if_neg (by decide)]; exact hmt
  rintro h2 k2 m2 nx ⟨f, D2, v0, v1, v2, n2, o52, o62, v62, rfl, hf, _, _, _, hm2, ho52, ho62, hfl⟩ F2 N3
  obtain ⟨⟨t0, rfl⟩, ⟨t1, rfl⟩, ⟨t2, rfl⟩⟩ := hfl (by omega)
  dsimp only
  refine execs_app _ ?_
  have N4 : News h₀ L h2 ((L + 1, o1) :: (L + 2, o2) :: (L + 3, o3) :: (L + 4, o4') :: ((L + 5, o52) :: (D2, listOf #[.float (accF f (quF light 8) (quF pure 4) 0 e.toNat) t0, .float (accF f (quF light 8) (quF pure 4) 1 e.toNat) t1, .float (accF f (quF light 8) (quF pure 4) 2 e.toNat) t2] n2) :: (L + 6, o62) :: cs)) := by
    intro p hp
    refine N3 p ?_
    simp only [loopNx, List.mem_cons] at hp ⊢
    rcases hp with rfl | rfl | rfl | rfl | rfl | rfl | rfl | h
    all_goals first | (simp only [true_or, or_true]; done) | (simp only [h, or_true]; done)
  have hw := wt_hi hl0 hl1 hp0 hp1
  refine blkR w (s := { s with heap := h2, toks := k2 }) X T hA hroom F2 N4 ho1 ho2 ho3 ho4' he1 he9 hw.1 hw.2 ?_
  intro Dd t3 t4 t5 n3 h3 k3 m3 F3 hdue hm3 N5
  dsimp only
  have e0 : m3 = (fun z => if z = Str.ofString "due" then some (.ref Dd) else m3 z) := by
    funext z
    split
    · rename_i h; rw [h]; exact hdue
    · rfl
  rw [e0] at F3
  obtain ⟨g0, g1, g2⟩ := hP e ((x * 997).fmod 5040) light pure f he1 he9 hs0 hs1 hl0 hl1 hp0 hp1 hf
  have N6 : News h₀ L h3 ((L + 5, o52) :: (D2, listOf #[.float (accF f (quF light 8) (quF pure 4) 0 e.toNat) t0, .float (accF f (quF light 8) (quF pure 4) 1 e.toNat) t1, .float (accF f (quF light 8) (quF pure 4) 2 e.toNat) t2] n2) :: (L + 1, o1) :: (Dd, listOf #[.int (dueA (redZ e light ((x * 997).fmod 5040) (wtO light pure) 0) (redZ e light ((x * 997).fmod 5040) (wtO light pure) 1) (redZ e light ((x * 997).fmod 5040) (wtO light pure) 2)) t3, .int (dueB (redZ e light ((x * 997).fmod 5040) (wtO light pure) 0) (redZ e light ((x * 997).fmod 5040) (wtO light pure) 1) (redZ e light ((x * 997).fmod 5040) (wtO light pure) 2)) t4, .int (dueC (redZ e light ((x * 997).fmod 5040) (wtO light pure) 0) (redZ e light ((x * 997).fmod 5040) (wtO light pure) 1) (redZ e light ((x * 997).fmod 5040) (wtO light pure) 2)) t5] n3) :: ((L + 4, o4') :: (L + 6, o62) :: (L + 2, o2) :: (L + 3, o3) :: cs)) := by
    intro p hp
    refine N5 p ?_
    simp only [List.mem_cons] at hp ⊢
    rcases hp with rfl | rfl | rfl | rfl | rfl | rfl | rfl | rfl | h
    all_goals first | (simp only [true_or, or_true]; done) | (simp only [h, or_true]; done)
  refine blkF w (s := { s with heap := h3, toks := k3 }) X T hA hroom hun F3 N6 ho1 ho52 he1 he9 g0 g1 g2 ?_
  intro h4'' k4 F4 N7
  rw [← e0] at F4
  refine hnext h4'' k4 m3 o4' o52 o62 _ _ _ F4 ?_ ?_ ?_ ho4' ho52 ho62
  · exact (hm3 _ (by decide) (by decide) (by decide) (by decide)).trans ((hm2 _ (by decide) (by decide) (by decide)).trans ((if_neg (by decide)).trans hmp))
  · exact (hm3 _ (by decide) (by decide) (by decide) (by decide)).trans ((hm2 _ (by decide) (by decide) (by decide)).trans ((if_neg (by decide)).trans hmt))
  · intro p hp
    refine N7 p ?_
    simp only [outNx, List.mem_cons] at hp ⊢
    rcases hp with rfl | rfl | rfl | rfl | rfl | rfl | h
    all_goals first | (simp only [true_or, or_true]; done) | (simp only [h, or_true]; done)
end Mine
end

section
open PySem PySem.Spec PySem.Calls PySem.W PyProof.Rows
set_option Elab.async false
set_option maxRecDepth 100000
set_option maxHeartbeats 16000000
set_option linter.unusedVariables false
namespace Mine
variable {fa : Addr} {cd : Value}
section
local macro_rules | `(tactic| walk_at "exec For Name Subscript cons nil") => `(tactic| (k_here; (rename Fr _ _ _ _ => lF'); (with_unfolding_all refine' For_invVF lF' ?k1 ?k2 ?_ ?k3 ?k4; (case k1 => exact rfl); (case k2 => exact rfl); (case k3 => exact fun _ => rfl); (case k4 => assumption); k_whole)))
local macro_rules | `(tactic| walk_at "pyIter ref") => `(tactic| (k_here; refine Stop.intro ?_))
def OutJ (L D : Addr) (pure total : Int) (tp tt : Tok) (vs : List Value) (o1 o2 o3 : Obj) (m : Str → Option Value) (nx : List (Addr × Obj)) : Prop :=
  ∃ (o4 o5 o6 : Obj) (v4 v5 v6 : Option Value), nx = outNx L o1 o2 o3 o4 o5 o6 [(D, listOf vs.toArray 0)] ∧ m (Str.ofString "pure") = some (.int pure tp) ∧ m (Str.ofString "total") = some (.int total tt) ∧ o4.data = .cell v4 ∧ o5.data = .cell v5 ∧ o6.data = .cell v6
theorem turnO (hP : PlainL) (w : World) {A : Around} {s : Shared} {loose : List Str} {mean : ExcName → Option Value} {mg mb : Str → Option Value} {h₀ : Heap} {L D : Addr} {x e light pure total : Int} {tx te tl tp tt tw : Tok} {vs : List Value} {own news₁ : List (Addr × Obj)} {m : Str → Option Value} {Q : Flow → Shared → Prop} {E : Value → Shared → Prop} {o1 o2 o3 : Obj}
    (X : (hd.heap_39 w.params).In h₀) (T : Top hd.view_39 loose mean mg mb h₀) (hA : A.handled = none) (hroom : A.depth + 10 < recursionLimit) (hun : A.units + 64 < cLine) (hE : PassesOwn (model PySem.Challenge.rw_xg0008_01.row.prog w) A (lawE L fa cd) E)
    (hJ : OutJ L D pure total tp tt vs o1 o2 o3 m news₁)
    (F : Fr h₀ L s.heap (fun z => if z = Str.ofString "x" then some (.int x tx) else m z))
    (N : News h₀ L s.heap (news₁ ++ own)) (hoff : OwnOff own (news₁.map (·.1)))
    (hD : L + 4 < D ∧ L + 5 < D ∧ L + 6 < D)
    (ho1 : o1.data = .cell (some (.int e te))) (ho2 : o2.data = .cell (some (.int light tl))) (ho3 : o3.data = .cell (some (.int (wtO light pure) tw)))
    (he1 : 1 ≤ e) (he9 : e ≤ 9) (hl0 : 1 ≤ light) (hl1 : light ≤ 7) (hp0 : 1 ≤ pure) (hp1 : pure ≤ 4) :
    wpAny (model PySem.Challenge.rw_xg0008_01.row.prog w) A (execs outB (lawE L fa cd)) (InvPostG h₀ L (fun m' nx => (D, listOf vs.toArray 0) ∈ nx ∧ OutJ L D pure total tp tt vs o1 o2 o3 m' nx) own s Q) E s := by
  obtain ⟨o4, o5, o6, v4, v5, v6, rfl, hmp, hmt, ho4, ho5, ho6⟩ := hJ
  have hc : ∀ j, L + j < D → (∀ p ∈ own, p.1 ≠ L + j) → ∀ p ∈ ((D, listOf vs.toArray 0) :: own), p.1 ≠ L + j := by
    intro j h1 h2 p hp
    rcases List.mem_cons.mp hp with rfl | h
    · exact Ne.symm (Nat.ne_of_lt h1)
    · exact h2 p h
  refine outT hP w (cs := (D, listOf vs.toArray 0) :: own) X T hA hroom hun hE F hmp hmt N ho1 ho2 ho3 ho4 ho5 ho6 (hc 4 hD.1 ?_) (hc 5 hD.2.1 ?_) (hc 6 hD.2.2 ?_) he1 he9 hl0 hl1 hp0 hp1 ?_
  · exact fun p hp => hoff p hp _ (by simp)
  · exact fun p hp => hoff p hp _ (by simp)
  · exact fun p hp => hoff p hp _ (by simp)
  intro h' k' m' o4' o5' o6' v4' v5' v6' F' hmp' hmt' N' ho4' ho5' ho6'
  show InvEndG _ _ _ _ _ _
  have N3 : News h₀ L h' (outNx L o1 o2 o3 o4' o5' o6' [(D, listOf vs.toArray 0)] ++ own) := N'
  exact InvEndG.intro F' N3 ⟨by simp, o4', o5', o6', v4', v5', v6', rfl, hmp', hmt', ho4', ho5', ho6'⟩ hoff (fun p hp => List.mem_append_left _ hp) (fun p hp => List.mem_append_right _ hp)
theorem blkO : PlainL → ∀ (w : World) {A : Around} {s : Shared} {loose : List Str} {mean : ExcName → Option Value} {mg mb : Str → Option Value} {h₀ : Heap} {L D : Addr} {e light pure total : Int} {te tl tp tt tw : Tok} {n0 n1 n2 n3 n4 n5 n6 n7 : Int} {u0 u1 u2 u3 u4 u5 u6 u7 : Tok} {nn : Nat} {cs : List (Addr × Obj)} {m : Str → Option Value} {Q : Flow → Shared → Prop} {E : Value → Shared → Prop} {o1 o2 o3 o4 o5 o6 : Obj} {v4 v5 v6 : Option Value}
    (X : (hd.heap_39 w.params).In h₀) (T : Top hd.view_39 loose mean mg mb h₀) (hA : A.handled = none) (hroom : A.depth + 10 < recursionLimit) (hun : A.units + 64 < cLine) (hE : PassesOwn (model PySem.Challenge.rw_xg0008_01.row.prog w) A (lawE L fa cd) E)
    (F : Fr h₀ L s.heap (fun y => if y = Str.ofString "pure" then some (.int pure tp) else if y = Str.ofString "total" then some (.int total tt) else if y = Str.ofString "numbers" then some (.ref D) else m y))
    (N : News h₀ L s.heap (outNx L o1 o2 o3 o4 o5 o6 [(D, listOf #[.int n0 u0, .int n1 u1, .int n2 u2, .int n3 u3, .int n4 u4, .int n5 u5, .int n6 u6, .int n7 u7] nn)]))
    (ho1 : o1.data = .cell (some (.int e te))) (ho2 : o2.data = .cell (some (.int light tl))) (ho3 : o3.data = .cell (some (.int (wtO light pure) tw))) (ho4 : o4.data = .cell v4) (ho5 : o5.data = .cell v5) (ho6 : o6.data = .cell v6)
    (he1 : 1 ≤ e) (he9 : e ≤ 9) (hl0 : 1 ≤ light) (hl1 : light ≤ 7) (hp0 : 1 ≤ pure) (hp1 : pure ≤ 4)
    (hret : ∀ h' k' m' , Fr h₀ L h' m' → Q (.ret (.bool true)) { s with heap := h', toks := k' }),
    wpAny (model PySem.Challenge.rw_xg0008_01.row.prog w) A (execs (lawP.1.drop 9) (lawE L fa cd)) Q E s := by
  w_top off
  k_fill
  intro hP w A s loose mean mg mb h₀ L D e light pure total te tl tp tt tw n0 n1 n2 n3 n4 n5 n6 n7 u0 u1 u2 u3 u4 u5 u6 u7 nn cs m Q E o1 o2 o3 o4 o5 o6 v4 v5 v6 X T hA hroom hun hE F N ho1 ho2 ho3 ho4 ho5 ho6 he1 he9 hl0 hl1 hp0 hp1 hret
  obtain ⟨hn, dp, fr, gd, un⟩ := A
  dsimp only at hA hroom hun
  subst hA
  have tO : ∀ {s : Shared} {D : Addr} {x : Int} {tx : Tok} {vs : List Value} {own news₁ : List (Addr × Obj)} {m : Str → Option Value} {Q : Flow → Shared → Prop} {E : Value → Shared → Prop} (hE : PassesOwn (model PySem.Challenge.rw_xg0008_01.row.prog w) ⟨none, dp, fr, gd, un⟩ (lawE L fa cd) E) (hJ : OutJ L D pure total tp tt vs o1 o2 o3 m news₁)
    (F : Fr h₀ L s.heap (fun z => if z = Str.ofString "x" then some (.int x tx) else m z)) (N : News h₀ L s.heap (news₁ ++ own)) (hoff : OwnOff own (news₁.map (·.1))) (hD : L + 4 < D ∧ L + 5 < D ∧ L + 6 < D),
      wpAny (model PySem.Challenge.rw_xg0008_01.row.prog w) ⟨none, dp, fr, gd, un⟩ (execs outB (lawE L fa cd)) (InvPostG h₀ L (fun m' nx => (D, listOf vs.toArray 0) ∈ nx ∧ OutJ L D pure total tp tt vs o1 o2 o3 m' nx) own s Q) E s :=
    fun hE hJ F N hoff hD => turnO hP w X T rfl hroom hun hE hJ F N hoff hD ho1 ho2 ho3 he1 he9 hl0 hl1 hp0 hp1
  unfold lawE lawP PySem.Challenge.pw_xg0008_01 at *
  unfold outB lawP PySem.Challenge.pw_xg0008_01 at tO
  dsimp only [List.drop, List.take] at *
  unfold outNx at N
  k_steps
  unfold Stop
  (with_reducible rename Fr _ _ _ _ => kF)
  (with_reducible rename News _ _ _ _ => kN)
  (with_reducible rename _ ∧ _ => l1)
  rename_i D1 h1
  refine kdl_iter (vs := [.int n0 u0, .int n1 u1, .int n2 u2]) (nn := 0) (fun _ m nx => OutJ L D1 pure total tp tt [.int n0 u0, .int n1 u1, .int n2 u2] o1 o2 o3 m nx) rfl ?_ kF (news := outNx L o1 o2 o3 o4 o5 o6 [(D1, listOf ([.int n0 u0, .int n1 u1, .int n2 u2] : List Value).toArray 0)]) ?_ ⟨o4, o5, o6, v4, v5, v6, rfl, if_pos rfl, (if_neg (by decide)).trans (if_pos rfl), ho4, ho5, ho6⟩ ?_ ?_
  · simp
  · intro p hp
    refine kN p ?_
    simp only [outNx, List.mem_cons, List.not_mem_nil, or_false] at hp ⊢
    rcases hp with h | h | h | h | h | h | h
    all_goals first | (simp only [h, true_or, or_true]; done)
  · intro i v m₁ news₁ h tk own hv hoff hm hJ F' N'
    obtain ⟨x, tx, rfl⟩ : ∃ x t, v = .int x t := by
      have := List.mem_of_getElem? hv
      simp only [List.mem_cons, List.not_mem_nil, or_false] at this
      rcases this with rfl | rfl | rfl <;> exact ⟨_, _, rfl⟩
    exact tO hE hJ F' N' hoff ⟨l1.1, l1.2.1, l1.2.2.1⟩
  · intro m₁ news₁ h tk hJ F' N'
    clear kF kN
    k_steps
    exact hret _ _ _ F'
end
end Mine
end

section
open PySem PySem.Spec PySem.Calls PySem.W PyProof.Rows
set_option Elab.async false
set_option maxRecDepth 100000
set_option maxHeartbeats 16000000
set_option linter.unusedVariables false
namespace Mine
variable {fa : Addr} {cd : Value}
def dotN (l : List UInt8) : Nat := l.countP (fun c => c == 46)
theorem dots_append (a b : List UInt8) : dotN (a ++ b) = dotN a + dotN b := List.countP_append
theorem quote_hi : ∀ (l : List UInt8) (b : Bool), l.length ≤ (quoteL b l).length ∧ (quoteL b l).length ≤ l.length + dotN l
  | [], _ => by simp [quoteL, dotN]
  | c :: r, b => by
    have ih := quote_hi r (c == 10)
    have e : dotN (c :: r) = dotN r + (if (c == 46) = true then 1 else 0) := by unfold dotN; exact List.countP_cons
    rw [e]
    unfold quoteL
    split
    · rename_i h
      have hc : (c == 46) = true := by simp only [Bool.and_eq_true] at h; exact h.2
      rw [if_pos hc]
      simp only [List.length_cons]; omega
    · simp only [List.length_cons]; omega
theorem dots_piece (k : Int) : dotN (pieceA k).toList ≤ 1 := by
  unfold pieceA
  split
  · decide
  · split
    · decide
    · split
      · decide
      · split <;> decide
theorem dots_flat : ∀ (l : List Int), dotN ((l.map fun k => (pieceA (k.fmod 5)).toList).flatten) ≤ l.length
  | [] => by simp [dotN]
  | k :: l => by
    have h1 := dots_piece (k.fmod 5)
    have h2 := dots_flat l
    simp only [List.map_cons, List.flatten_cons, dots_append, List.length_cons]
    omega
theorem piece_len (k : Int) : (pieceA k).toList.length ≤ 2 := by
  unfold pieceA
  split
  · decide
  · split
    · decide
    · split
      · decide
      · split <;> decide
theorem flat_len : ∀ (l : List Int), ((l.map fun k => (pieceA (k.fmod 5)).toList).flatten).length ≤ 2 * l.length
  | [] => by simp
  | k :: l => by
    have h1 := piece_len (k.fmod 5)
    have h2 := flat_len l
    simp only [List.map_cons, List.flatten_cons, List.length_append, List.length_cons]
    omega
theorem e_range {V B : Array UInt8} {l : List Int} (hl : l.length = 8) (hV : V.toList = quoteL true B.toList) (hB : B.toList = (l.map fun k => (pieceA (k.fmod 5)).toList).flatten) :
    (1 : Int) ≤ 1 + V.size - B.size ∧ (1 : Int) + V.size - B.size ≤ 9 := by
  have h1 := quote_hi B.toList true
  have h2 := dots_flat l
  rw [← hB, hl] at h2
  rw [← hV] at h1
  have e1 : V.toList.length = V.size := Array.length_toList
  have e2 : B.toList.length = B.size := Array.length_toList
  omega
theorem li_range (S : Int) : 1 ≤ liO S ∧ liO S ≤ 7 := by
  have h1 := fmod_lo S (n := 7) (by decide)
  have h2 := fmod_hi S (n := 7) (by decide)
  unfold liO; omega
theorem pu_range (S : Int) : 1 ≤ puO S ∧ puO S ≤ 4 := by
  have h1 := fmod_lo (S.fdiv 7) (n := 4) (by decide)
  have h2 := fmod_hi (S.fdiv 7) (n := 4) (by decide)
  unfold puO; omega

abbrev cells6 (L : Addr) (o1 o2 o3 o4 o5 o6 : Obj) (cs : List (Addr × Obj)) : List (Addr × Obj) :=
  (L + 1, o1) :: (L + 2, o2) :: (L + 3, o3) :: (L + 4, o4) :: (L + 5, o5) :: (L + 6, o6) :: cs
theorem lawR (hP : PlainL) (w : World) {A : Around} {s : Shared} {loose : List Str} {mean : ExcName → Option Value} {mg mb : Str → Option Value} {h₀ : Heap} {L D : Addr} {n0 n1 n2 n3 n4 n5 n6 n7 : Int} {u0 u1 u2 u3 u4 u5 u6 u7 : Tok} {nn : Nat} {m : Str → Option Value} {Q : Flow → Shared → Prop} {E : Value → Shared → Prop} {o1 o2 o3 o4 o5 o6 : Obj}
    (X : (hd.heap_39 w.params).In h₀) (T : Top hd.view_39 loose mean mg mb h₀) (hA : A.handled = none) (hroom : A.depth + 10 < recursionLimit) (hun : A.units + 64 < cLine) (hE : PassesOwn (model PySem.Challenge.rw_xg0008_01.row.prog w) A (lawE L fa cd) E)
    (F : Fr h₀ L s.heap (fun z => if z = Str.ofString "numbers" then some (.ref D) else m z))
    (N : News h₀ L s.heap (cells6 L o1 o2 o3 o4 o5 o6 [(D, listOf #[.int n0 u0, .int n1 u1, .int n2 u2, .int n3 u3, .int n4 u4, .int n5 u5, .int n6 u6, .int n7 u7] nn)]))
    (ho1 : o1.data = .cell none) (ho2 : o2.data = .cell none) (ho3 : o3.data = .cell none) (ho4 : o4.data = .cell none) (ho5 : o5.data = .cell none) (ho6 : o6.data = .cell none)
    (hret : ∀ h' k' m' , Fr h₀ L h' m' → Q (.ret (.bool true)) { s with heap := h', toks := k' }) :
    wpAny (model PySem.Challenge.rw_xg0008_01.row.prog w) A (execs (lawP.1.drop 1) (lawE L fa cd)) Q E s := by
  have hD : ∀ j o, (L + j, o) ∈ cells6 L o1 o2 o3 o4 o5 o6 [(D, listOf #[.int n0 u0, .int n1 u1, .int n2 u2, .int n3 u3, .int n4 u4, .int n5 u5, .int n6 u6, .int n7 u7] nn)] → o.data = .cell none → D ≠ L + j :=
    fun j o hm hz => Ne.symm (news_ne N hm (o' := listOf #[.int n0 u0, .int n1 u1, .int n2 u2, .int n3 u3, .int n4 u4, .int n5 u5, .int n6 u6, .int n7 u7] nn) (by simp) (cell_ne hz rfl))
  have D1 := hD 1 o1 (by simp) ho1
  have D2 := hD 2 o2 (by simp) ho2
  have D3 := hD 3 o3 (by simp) ho3
  rw [show lawP.1.drop 1 = (lawP.1.drop 1).take 1 ++ ((lawP.1.drop 2).take 3 ++ ((lawP.1.drop 5).take 4 ++ lawP.1.drop 9)) from rfl]
  refine execs_app _ ?_
  have N1 : News h₀ L s.heap ((D, listOf #[.int n0 u0, .int n1 u1, .int n2 u2, .int n3 u3, .int n4 u4, .int n5 u5, .int n6 u6, .int n7 u7] nn) :: cells6 L o1 o2 o3 o4 o5 o6 []) := by
    intro p hp
    refine N p ?_
    simp only [cells6, List.mem_cons, List.not_mem_nil, or_false] at hp ⊢
    rcases hp with h | h | h | h | h | h | h
    all_goals (simp only [h, true_or, or_true]; done)
  refine blkA w X T hA hroom F N1 ?_
  intro B tB h1 k1 hB F1 N2
  dsimp only
  refine execs_app _ ?_
  have hBs : B.size ≤ 1000 := by
    have h2 := flat_len [n0, n1, n2, n3, n4, n5, n6, n7]
    rw [← hB] at h2
    have e2 : B.toList.length = B.size := Array.length_toList
    simp only [List.length_cons, List.length_nil] at h2
    omega
  have N3 : News h₀ L h1 ((L + 1, o1) :: ((L + 2, o2) :: (L + 3, o3) :: (L + 4, o4) :: (L + 5, o5) :: (L + 6, o6) :: [(D, listOf #[.int n0 u0, .int n1 u1, .int n2 u2, .int n3 u3, .int n4 u4, .int n5 u5, .int n6 u6, .int n7 u7] nn)])) := by
    intro p hp
    refine N2 p ?_
    simp only [cells6, List.mem_cons, List.not_mem_nil, or_false] at hp ⊢
    rcases hp with h | h | h | h | h | h | h
    all_goals (simp only [h, true_or, or_true]; done)
  refine blkB w (s := { s with heap := h1, toks := k1 }) X T hA hroom hBs F1 N3 ho1 ?_ ?_
  · intro p hp
    simp only [List.mem_cons, List.not_mem_nil, or_false] at hp
    rcases hp with rfl | rfl | rfl | rfl | rfl | rfl
    all_goals first | exact off_ne (by decide) | exact D1
  intro V tV tE h2 k2 o1' hV F2 N4 ho1'
  dsimp only
  refine execs_app _ ?_
  have e2 : (fun y => if y = Str.ofString "quoted" then some (Value.bytes V tV) else if y = Str.ofString "mail" then some (.bytes B tB) else if y = Str.ofString "numbers" then some (.ref D) else m y) =
      (fun z => if z = Str.ofString "numbers" then some (.ref D) else if z = Str.ofString "quoted" then some (Value.bytes V tV) else if z = Str.ofString "mail" then some (.bytes B tB) else m z) := by
    funext z
    by_cases h1 : z = Str.ofString "numbers"
    · subst h1; rw [if_neg (by decide), if_neg (by decide), if_pos rfl, if_pos rfl]
    · simp only [if_neg h1]
  rw [e2] at F2
  have N5 : News h₀ L h2 ((L + 2, o2) :: (L + 3, o3) :: (D, listOf #[.int n0 u0, .int n1 u1, .int n2 u2, .int n3 u3, .int n4 u4, .int n5 u5, .int n6 u6, .int n7 u7] nn) :: ((L + 1, o1') :: (L + 4, o4) :: (L + 5, o5) :: (L + 6, o6) :: [])) := by
    intro p hp
    refine N4 p ?_
    simp only [List.mem_cons, List.not_mem_nil, or_false] at hp ⊢
    rcases hp with h | h | h | h | h | h | h
    all_goals (simp only [h, true_or, or_true]; done)
  refine blkC w (s := { s with heap := h2, toks := k2 }) X T hA hroom F2 N5 ho2 ho3 ?_ ?_ ?_
  · intro p hp
    simp only [List.mem_cons, List.not_mem_nil, or_false] at hp
    rcases hp with rfl | rfl | rfl | rfl | rfl
    all_goals first | exact off_ne (by decide) | exact D2
  · intro p hp
    simp only [List.mem_cons, List.not_mem_nil, or_false] at hp
    rcases hp with rfl | rfl | rfl | rfl | rfl
    all_goals first | exact off_ne (by decide) | exact D3
  intro tT tP t2 t3 h3 k3 o2' o3' F3 N6 ho2' ho3'
  dsimp only
  have hr := e_range (l := [n0, n1, n2, n3, n4, n5, n6, n7]) rfl hV hB
  have hl := li_range (totS n0 n1 n2 n3 n4 n5 n6 n7)
  have hp := pu_range (totS n0 n1 n2 n3 n4 n5 n6 n7)
  have N7 : News h₀ L h3 (outNx L o1' o2' o3' o4 o5 o6 [(D, listOf #[.int n0 u0, .int n1 u1, .int n2 u2, .int n3 u3, .int n4 u4, .int n5 u5, .int n6 u6, .int n7 u7] nn)]) := by
    intro p hp
    refine N6 p ?_
    simp only [outNx, List.mem_cons, List.not_mem_nil, or_false] at hp ⊢
    rcases hp with h | h | h | h | h | h | h
    all_goals (simp only [h, true_or, or_true]; done)
  refine blkO hP w (s := { s with heap := h3, toks := k3 }) (tw := t3) (cs := []) X T hA hroom hun hE F3 N7 ho1' ho2' ho3' ho4 ho5 ho6 hr.1 hr.2 hl.1 hl.2 hp.1 hp.2 ?_
  intro h' k' m' F'
  exact hret h' k' m' F'
end Mine
end

section
set_option maxRecDepth 100000
set_option linter.unusedVariables false
namespace Mine
open PySem PySem.Float64
theorem grid : ∀ (s q : Nat), q ≤ 2 ^ 53 → ∃ t, V t = q * 2 ^ s
  | 0, q, h => ⟨0 * 2 ^ 52 + q, V_at h (.inr rfl)⟩
  | s + 1, q, h => by
    by_cases hq : 2 ^ 52 ≤ q
    · exact ⟨(s + 1) * 2 ^ 52 + q, V_at h (.inl hq)⟩
    · obtain ⟨t, ht⟩ := grid s (2 * q) (by omega)
      refine ⟨t, ?_⟩
      rw [ht, Nat.pow_succ]
      generalize 2 ^ s = k
      rw [Nat.mul_comm 2 q, Nat.mul_assoc, Nat.mul_comm 2 k]
def Fin1 (x : UInt64) : Prop := ∃ a m e, decode x = .fin a m e
theorem pow_big : (2 : Nat) ^ 1079 < (2 ^ 54 - 1) * 2 ^ 2045 := by decide +kernel
theorem right_near {r : UInt64} {neg : Bool} {W D : Nat} (h : Right r neg W D) (hD : 0 < D) (hW : W ≤ D * 2 ^ 1078) :
    Fin1 r ∧ (D : Int) * val r - sgn neg W ≤ (D * 2 ^ 1025 : Nat) ∧ sgn neg W - (D : Int) * val r ≤ (D * 2 ^ 1025 : Nat) := by
  obtain ⟨t, hr, hle, hinf, hnear⟩ := h
  have ht : t < infMag := by
    refine Nat.lt_of_le_of_ne hle fun e => ?_
    have h1 := hinf.mp e
    have h2 : D * 2 ^ 1079 < D * ((2 ^ 54 - 1) * 2 ^ 2045) := Nat.mul_lt_mul_of_pos_left pow_big hD
    have e3 : (2 : Nat) ^ 1079 = 2 ^ 1078 * 2 := by rw [show (1079 : Nat) = 1078 + 1 from rfl, Nat.pow_succ]
    rw [e3, ← Nat.mul_assoc] at h2
    omega
  have hn := hnear ht
  have hg : 0 < D * 2 ^ 1025 := Nat.mul_pos hD (Nat.two_pow_pos _)
  obtain ⟨t', ht'⟩ := grid 1025 (W / (D * 2 ^ 1025)) (by
    refine Nat.div_le_of_le_mul ?_
    have e4 : D * 2 ^ 1025 * 2 ^ 53 = D * 2 ^ 1078 := by rw [Nat.mul_assoc, ← Nat.pow_add]
    rw [e4]; exact hW)
  have h5 := (hn t').1
  have h6 : dist W (D * V t') ≤ D * 2 ^ 1025 := by
    rw [ht']
    have e5 : D * (W / (D * 2 ^ 1025) * 2 ^ 1025) = D * 2 ^ 1025 * (W / (D * 2 ^ 1025)) := by
      generalize W / (D * 2 ^ 1025) = q
      generalize (2 : Nat) ^ 1025 = k
      rw [Nat.mul_comm q k, Nat.mul_assoc]
    rw [e5]
    have h7 := Nat.div_add_mod W (D * 2 ^ 1025)
    have h8 := Nat.mod_lt W hg
    generalize W / (D * 2 ^ 1025) = q at *
    generalize D * 2 ^ 1025 = g at *
    unfold dist
    generalize g * q = z at *
    omega
  have h9 : dist W (D * V t) ≤ D * 2 ^ 1025 := Nat.le_trans h5 h6
  obtain ⟨m, e, hd, hv⟩ := decode_pack neg ht
  rw [hr]
  refine ⟨⟨_, _, _, hd⟩, ?_⟩
  rw [val_pack neg ht]
  have e6 : (D : Int) * sgn neg (V t) = sgn neg (D * V t) := by
    unfold sgn
    cases neg
    · simp
    · simp [Int.mul_neg]
  rw [e6]
  generalize D * V t = z at *
  generalize D * 2 ^ 1025 = g at *
  unfold dist at h9
  unfold sgn
  cases neg
  · simp only [Bool.false_eq_true, if_false]; omega
  · simp only [if_true]; omega
end Mine
end

section
set_option maxRecDepth 100000
set_option linter.unusedVariables false
namespace Mine
open PySem PySem.Float64
/-- the unit: 2^-60 -/
def GG : Nat := 2 ^ 1014
theorem GG_pos : 0 < GG := Nat.two_pow_pos _
theorem GG_1025 : 2 ^ 1025 = GG * 2 ^ 11 := by unfold GG; rw [← Nat.pow_add]
theorem GG_1074 : 2 ^ 1074 = GG * 2 ^ 60 := by unfold GG; rw [← Nat.pow_add]
theorem GG_1078 : 2 ^ 1078 = GG * 2 ^ 64 := by unfold GG; rw [← Nat.pow_add]
def fx (x : UInt64) : Int := val x / (GG : Int)
theorem G_pos : (0 : Int) < (GG : Int) := Int.ofNat_lt.mpr GG_pos
theorem fx_le (x : UInt64) : fx x * GG ≤ val x := Int.ediv_mul_le _ (Int.ne_of_gt G_pos)
theorem fx_gt (x : UInt64) : val x < fx x * GG + GG := by
  have h := Int.lt_ediv_add_one_mul_self (val x) G_pos
  rw [Int.add_mul, Int.one_mul] at h
  exact h
theorem fx_lo {x : UInt64} {c : Int} (h : c * GG ≤ val x) : c ≤ fx x := (Int.le_ediv_iff_mul_le G_pos).mpr h
theorem fx_hi {x : UInt64} {c : Int} (h : val x < c * GG) : fx x < c := (Int.ediv_lt_iff_lt_mul G_pos).mpr h
theorem near_fx {r : UInt64} {neg : Bool} {W D : Nat} (h : Right r neg W D) (hD : 0 < D) (hW : W ≤ D * (GG * 2 ^ 64)) :
    Fin1 r ∧ (D : Int) * val r - sgn neg W ≤ (D : Int) * (2048 * (GG : Int)) ∧ sgn neg W - (D : Int) * val r ≤ (D : Int) * (2048 * (GG : Int)) := by
  have h1 := right_near h hD (by rw [GG_1078]; exact hW)
  rw [GG_1025] at h1
  have e : ((D * (GG * 2 ^ 11) : Nat) : Int) = (D : Int) * (2048 * (GG : Int)) := by
    rw [Int.natCast_mul, Int.natCast_mul, Int.mul_comm (GG : Int)]
    rfl
  rw [e] at h1
  exact h1
theorem fin_val_zero (a : Bool) : Fin1 (zero a) ∧ val (zero a) = 0 := by
  cases a
  · with_unfolding_all exact ⟨⟨_, _, _, rfl⟩, by decide +kernel⟩
  · with_unfolding_all exact ⟨⟨_, _, _, rfl⟩, by decide +kernel⟩
theorem add_fx {x y : UInt64} (hx : Fin1 x) (hy : Fin1 y) (h1 : fx x + fx y ≤ 2 ^ 64 - 2) (h2 : -(2 ^ 64) ≤ fx x + fx y) :
    Fin1 (add x y) ∧ fx x + fx y - 2048 ≤ fx (add x y) ∧ fx (add x y) ≤ fx x + fx y + 2050 := by
  obtain ⟨a, m, e, hdx⟩ := hx
  obtain ⟨b, k, f, hdy⟩ := hy
  have hr := add_right hdx hdy
  have x1 := fx_le x
  have x2 := fx_gt x
  have y1 := fx_le y
  have y2 := fx_gt y
  have hG := G_pos
  have main : Fin1 (add x y) ∧ val (add x y) - (val x + val y) ≤ 2048 * (GG : Int) ∧ (val x + val y) - val (add x y) ≤ 2048 * (GG : Int) := by
    by_cases h0 : val x + val y = 0
    · rw [hr.1 h0, h0]
      have hz := fin_val_zero (a && b)
      exact ⟨hz.1, by rw [hz.2]; omega, by rw [hz.2]; omega⟩
    · have hW : (val x + val y).natAbs ≤ 1 * (GG * 2 ^ 64) := by
        have p1 : val x + val y < (fx x + fx y + 2) * GG := by rw [Int.add_mul, Int.add_mul]; omega
        have p2 : (fx x + fx y) * GG ≤ val x + val y := by rw [Int.add_mul]; omega
        have p3 : (fx x + fx y + 2) * GG ≤ 2 ^ 64 * (GG : Int) := Int.mul_le_mul_of_nonneg_right (by omega) (by omega)
        have p4 : -(2 ^ 64) * (GG : Int) ≤ (fx x + fx y) * GG := Int.mul_le_mul_of_nonneg_right h2 (by omega)
        omega
      have hn := near_fx (hr.2 h0) (by decide) hW
      have hs : sgn (decide (val x + val y < 0)) (val x + val y).natAbs = val x + val y := by
        unfold sgn
        by_cases h : val x + val y < 0
        · rw [decide_eq_true h, if_pos rfl]; omega
        · rw [decide_eq_false h]; simp only [Bool.false_eq_true, if_false]; omega
      rw [hs] at hn
      refine ⟨hn.1, ?_, ?_⟩
      · have := hn.2.1; simp only [Int.natCast_one, Int.one_mul] at this; omega
      · have := hn.2.2; simp only [Int.natCast_one, Int.one_mul] at this; omega
  obtain ⟨hf, m1, m2⟩ := main
  refine ⟨hf, fx_lo ?_, ?_⟩
  · rw [Int.sub_mul, Int.add_mul]; omega
  · have : fx (add x y) < fx x + fx y + 2051 := fx_hi (by rw [Int.add_mul, Int.add_mul]; omega)
    omega
end Mine
end

section
set_option maxRecDepth 100000
set_option linter.unusedVariables false
namespace Mine
open PySem PySem.Float64
theorem sub_fx {x y : UInt64} (hx : Fin1 x) (hy : Fin1 y) (h1 : fx x - fx y ≤ 2 ^ 64 - 2) (h2 : -(2 ^ 64) + 1 ≤ fx x - fx y) :
    Fin1 (sub x y) ∧ fx x - fx y - 2049 ≤ fx (sub x y) ∧ fx (sub x y) ≤ fx x - fx y + 2050 := by
  obtain ⟨b, k, f, hdy⟩ := hy
  have hv := neg_val hdy
  have hn : Fin1 (neg y) := ⟨_, _, _, neg_decode hdy⟩
  have y1 := fx_le y
  have y2 := fx_gt y
  have z1 : fx (neg y) < - fx y + 1 := fx_hi (by rw [hv, Int.add_mul, Int.neg_mul]; have := G_pos; omega)
  have z2 : - fx y - 1 ≤ fx (neg y) := fx_lo (by rw [hv, Int.sub_mul, Int.neg_mul]; omega)
  have h := add_fx hx hn (by omega) (by omega)
  have hs : sub x y = add x (neg y) := by with_unfolding_all rfl
  rw [hs]
  refine ⟨h.1, ?_, ?_⟩
  · have := h.2.1; omega
  · have := h.2.2; omega
theorem val_sgn {x : UInt64} {a : Bool} {m : Nat} {e : Int} (h : decode x = .fin a m e) : val x = sgn a (val x).natAbs := by
  rw [val_natAbs h]; exact val_eq h
theorem sgn_prod (a b : Bool) (m n : Nat) : sgn (a != b) (m * n) = sgn a m * sgn b n := by
  unfold sgn
  cases a <;> cases b <;> simp [Int.neg_mul, Int.mul_neg]
theorem mul_near {x y : UInt64} (hx : Fin1 x) (hy : Fin1 y) (hW : (val x).natAbs * (val y).natAbs ≤ (GG * 2 ^ 60) * (GG * 2 ^ 64)) :
    Fin1 (mul x y) ∧ ((GG : Int) * 2 ^ 60) * val (mul x y) - val x * val y ≤ ((GG : Int) * 2 ^ 60) * (2048 * (GG : Int)) ∧ val x * val y - ((GG : Int) * 2 ^ 60) * val (mul x y) ≤ ((GG : Int) * 2 ^ 60) * (2048 * (GG : Int)) := by
  obtain ⟨a, m, e, hdx⟩ := hx
  obtain ⟨b, k, f, hdy⟩ := hy
  have hr := mul_right hdx hdy
  rw [GG_1074] at hr
  have hn := near_fx hr (Nat.mul_pos GG_pos (Nat.two_pow_pos _)) hW
  have hs : sgn (a != b) ((val x).natAbs * (val y).natAbs) = val x * val y := by rw [sgn_prod, ← val_sgn hdx, ← val_sgn hdy]
  rw [hs] at hn
  exact hn
theorem abs_fx (x : UInt64) : ((val x).natAbs : Int) ≤ ((fx x).natAbs + 1) * (GG : Int) := by
  have h1 := fx_le x
  have h2 := fx_gt x
  have hG := G_pos
  by_cases h : 0 ≤ fx x
  · have e : ((fx x).natAbs : Int) = fx x := by omega
    have hp : 0 ≤ fx x * (GG : Int) := Int.mul_nonneg h (by omega)
    rw [e, Int.add_mul]
    omega
  · have e : ((fx x).natAbs : Int) = - fx x := by omega
    have hp : (fx x + 1) * (GG : Int) ≤ 0 * (GG : Int) := Int.mul_le_mul_of_nonneg_right (by omega) (by omega)
    rw [Int.add_mul] at hp
    rw [e, Int.add_mul, Int.neg_mul]
    omega
theorem mul_cancel {a b G : Int} (hG : 0 < G) (h : a * G ≤ b * G) : a ≤ b := Int.le_of_mul_le_mul_right h hG
theorem mulc_fx {x y : UInt64} {C P : Int} (hx : Fin1 x) (hy : Fin1 y) (hP : 0 < P) (hC : val y * P = C * ((GG : Int) * 2 ^ 60)) (hb : ((fx x).natAbs + 1) * (C.natAbs : Int) ≤ P * 2 ^ 64) :
    Fin1 (mul x y) ∧ P * fx (mul x y) - C * fx x ≤ P * 2048 + C.natAbs ∧ C * fx x - P * fx (mul x y) ≤ P * 2049 + C.natAbs := by
  have hG := G_pos
  have hK : 0 < (GG : Int) * 2 ^ 60 := Int.mul_pos hG (by decide)
  have hW : (val x).natAbs * (val y).natAbs ≤ (GG * 2 ^ 60) * (GG * 2 ^ 64) := by
    have e1 : ((val y).natAbs : Int) * P = (C.natAbs : Int) * ((GG : Int) * 2 ^ 60) := by
      have := congrArg Int.natAbs hC
      rw [Int.natAbs_mul, Int.natAbs_mul] at this
      have h2 : ((P.natAbs : Nat) : Int) = P := by omega
      have h3 : ((((GG : Int) * 2 ^ 60).natAbs : Nat) : Int) = (GG : Int) * 2 ^ 60 := by omega
      have h4 := congrArg (fun n : Nat => (n : Int)) this
      simp only [Int.natCast_mul, h2, h3] at h4
      exact h4
    have e2 := abs_fx x
    have e3 : ((val x).natAbs : Int) * ((val y).natAbs : Int) * P ≤ ((GG : Int) * 2 ^ 60 * ((GG : Int) * 2 ^ 64)) * P := by
      calc ((val x).natAbs : Int) * ((val y).natAbs : Int) * P = ((val x).natAbs : Int) * (((val y).natAbs : Int) * P) := Int.mul_assoc _ _ _
        _ = ((val x).natAbs : Int) * ((C.natAbs : Int) * ((GG : Int) * 2 ^ 60)) := by rw [e1]
        _ ≤ (((fx x).natAbs + 1) * (GG : Int)) * ((C.natAbs : Int) * ((GG : Int) * 2 ^ 60)) := Int.mul_le_mul_of_nonneg_right e2 (Int.mul_nonneg (by omega) (by omega))
        _ = (((fx x).natAbs + 1) * (C.natAbs : Int)) * ((GG : Int) * ((GG : Int) * 2 ^ 60)) := by
          generalize ((fx x).natAbs : Int) + 1 = u; generalize (C.natAbs : Int) = v; generalize (GG : Int) = g; grind
        _ ≤ (P * 2 ^ 64) * ((GG : Int) * ((GG : Int) * 2 ^ 60)) := Int.mul_le_mul_of_nonneg_right hb (Int.mul_nonneg (by omega) (by omega))
        _ = ((GG : Int) * 2 ^ 60 * ((GG : Int) * 2 ^ 64)) * P := by generalize (GG : Int) = g; grind
    have e4 := mul_cancel hP e3
    refine Int.ofNat_le.mp ?_
    rw [Int.natCast_mul, Int.natCast_mul, Int.natCast_mul, Int.natCast_mul]
    exact e4
  have hn := mul_near hx hy hW
  refine ⟨hn.1, ?_, ?_⟩
  all_goals
    have x1 := fx_le x
    have x2 := fx_gt x
    have r1 := fx_le (mul x y)
    have r2 := fx_gt (mul x y)
    obtain ⟨_, n1, n2⟩ := hn
    generalize fx x = a at *
    generalize fx (mul x y) = r at *
    generalize val (mul x y) = R at *
    generalize val x = X at *
    generalize val y = Y at *
    generalize (GG : Int) = G at *
    -- P * R against C * X
    have k1 : P * R - C * X ≤ P * (2048 * G) := by
      refine mul_cancel hK ?_
      have := Int.mul_le_mul_of_nonneg_right n1 (Int.le_of_lt hP)
      have e : X * Y * P = X * (C * (G * 2 ^ 60)) := by rw [Int.mul_assoc, hC]
      grind
    have k2 : C * X - P * R ≤ P * (2048 * G) := by
      refine mul_cancel hK ?_
      have := Int.mul_le_mul_of_nonneg_right n2 (Int.le_of_lt hP)
      have e : X * Y * P = X * (C * (G * 2 ^ 60)) := by rw [Int.mul_assoc, hC]
      grind
    have p1 : P * (r * G) ≤ P * R := Int.mul_le_mul_of_nonneg_left r1 (Int.le_of_lt hP)
    have p2 : P * R ≤ P * (r * G + G) := Int.mul_le_mul_of_nonneg_left (Int.le_of_lt r2) (Int.le_of_lt hP)
    have c1 : C * X - C * (a * G) ≤ (C.natAbs : Int) * G ∧ C * (a * G) - C * X ≤ (C.natAbs : Int) * G := by
      by_cases h : 0 ≤ C
      · have e : (C.natAbs : Int) = C := by omega
        have q1 : C * (a * G) ≤ C * X := Int.mul_le_mul_of_nonneg_left x1 h
        have q2 : C * X ≤ C * (a * G + G) := Int.mul_le_mul_of_nonneg_left (Int.le_of_lt x2) h
        have q3 : 0 ≤ C * G := Int.mul_nonneg h (Int.le_of_lt hG)
        rw [e]
        constructor <;> grind
      · have e : (C.natAbs : Int) = -C := by omega
        have q1 : (-C) * (a * G) ≤ (-C) * X := Int.mul_le_mul_of_nonneg_left x1 (by omega)
        have q2 : (-C) * X ≤ (-C) * (a * G + G) := Int.mul_le_mul_of_nonneg_left (Int.le_of_lt x2) (by omega)
        have q3 : 0 ≤ (-C) * G := Int.mul_nonneg (by omega) (Int.le_of_lt hG)
        rw [e]
        constructor <;> grind
    refine mul_cancel hG ?_
    grind
end Mine
end

section
set_option maxRecDepth 100000
set_option linter.unusedVariables false
namespace Mine
open PySem PySem.Float64
theorem hue_fx (mm : Int) (h1 : -5040 ≤ mm) (h2 : mm ≤ 5040) :
    Fin1 (quF (60 * mm) 302400) ∧ 5040 * fx (quF (60 * mm) 302400) - mm * 2 ^ 60 ≤ 5040 * 2048 ∧ mm * 2 ^ 60 - 5040 * fx (quF (60 * mm) 302400) ≤ 5040 * 2049 := by
  have hb : (decide (60 * mm < 0) != decide ((302400 : Int) < 0)) = decide (mm < 0) := by
    have e : decide ((302400 : Int) < 0) = false := by decide
    rw [e, Bool.bne_false]
    exact decide_eq_decide.mpr ⟨by omega, by omega⟩
  have ha : (60 * mm).natAbs = 60 * mm.natAbs := by omega
  have hc : (302400 : Int).natAbs = 302400 := rfl
  have hr : Right (quF (60 * mm) 302400) (decide (mm < 0)) (mm.natAbs * 2 ^ 1074) 5040 := by
    unfold quF
    rw [hb, ha, hc]
    refine ofFrac_right (by decide) ?_ (by decide)
    generalize (2 : Nat) ^ 1074 = k
    generalize mm.natAbs = n
    grind
  rw [GG_1074] at hr
  have hG := GG_pos
  have hn := near_fx hr (by decide) (by
    have : mm.natAbs ≤ 5040 := by omega
    calc mm.natAbs * (GG * 2 ^ 60) ≤ 5040 * (GG * 2 ^ 60) := Nat.mul_le_mul_right _ this
      _ ≤ 5040 * (GG * 2 ^ 64) := Nat.mul_le_mul_left _ (Nat.mul_le_mul_left _ (by decide)))
  have hs : sgn (decide (mm < 0)) (mm.natAbs * (GG * 2 ^ 60)) = mm * ((GG : Int) * 2 ^ 60) := by
    have e60 : ((2 ^ 60 : Nat) : Int) = 2 ^ 60 := by decide
    have e1 : ((GG * 2 ^ 60 : Nat) : Int) = (GG : Int) * 2 ^ 60 := by rw [Int.natCast_mul, e60]
    rw [sgn_mul, e1]
    congr 1
    unfold sgn
    by_cases h : mm < 0
    · rw [decide_eq_true h, if_pos rfl]; omega
    · rw [decide_eq_false h]; simp only [Bool.false_eq_true, if_false]; omega
  rw [hs] at hn
  obtain ⟨hf, n1, n2⟩ := hn
  have r1 := fx_le (quF (60 * mm) 302400)
  have r2 := fx_gt (quF (60 * mm) 302400)
  have hG' := G_pos
  refine ⟨hf, ?_, ?_⟩
  all_goals
    generalize val (quF (60 * mm) 302400) = R at *
    generalize fx (quF (60 * mm) 302400) = r at *
    generalize (GG : Int) = G at *
    refine mul_cancel hG' ?_
    have e : mm * (G * 2 ^ 60) = mm * 2 ^ 60 * G := by grind
    rw [e] at n1 n2
    rw [Int.sub_mul]
    first
    | (rw [Int.mul_assoc 5040 r G]; omega)
theorem ofBin_right {neg : Bool} {M : Nat} {g : Int} (hg : -1074 ≤ g) : Right (ofBin neg M g) neg (M * 2 ^ (g + 1074).toNat) 1 := by
  unfold ofBin
  refine ofFrac_right (shift_pos _ _ _ (by decide)) ?_ (by decide)
  have := shift_one M g 1074 (by omega)
  rw [Nat.mul_one]
  exact this
theorem cmp_lt {u c : UInt64} (hu : Fin1 u) (hc : Fin1 c) : (cmp u c == some Ordering.lt) = decide (val u < val c) := by
  obtain ⟨_, _, _, h1⟩ := hu
  obtain ⟨_, _, _, h2⟩ := hc
  rw [cmp_right h1 h2]
  by_cases h : val u < val c
  · rw [Int.compare_eq_lt.mpr h, decide_eq_true h]; rfl
  · rw [decide_eq_false h]
    cases e : compare (val u) (val c)
    · exact absurd (Int.compare_eq_lt.mp e) h
    · rfl
    · rfl
theorem cmp_fx_t {u c : UInt64} (hu : Fin1 u) (hc : Fin1 c) (h : (cmp u c == some Ordering.lt) = true) : fx u ≤ fx c := by
  rw [cmp_lt hu hc, decide_eq_true_iff] at h
  exact Int.ediv_le_ediv G_pos (Int.le_of_lt h)
theorem cmp_fx_f {u c : UInt64} (hu : Fin1 u) (hc : Fin1 c) (h : ¬ (cmp u c == some Ordering.lt) = true) : fx c ≤ fx u := by
  rw [cmp_lt hu hc, decide_eq_true_iff] at h
  exact Int.ediv_le_ediv G_pos (Int.not_lt.mp h)
end Mine
end

section
set_option maxRecDepth 100000
set_option linter.unusedVariables false
namespace Mine
open PySem PySem.Float64
theorem divmod_snd (x y : UInt64) : (divmod x y).2 = (if isZero (fmod x y) = true then copysign (zero false) y else if (lt y (zero false) != lt (fmod x y) (zero false)) = true then add (fmod x y) y else fmod x y) := by
  unfold divmod
  simp only
  split
  · rfl
  · split <;> rfl
theorem one_dec : decode 4607182418800017408 = .fin false (2 ^ 52) (-52) := by kernel_rfl
theorem fmod_right {x : UInt64} {a : Bool} {m : Nat} {e : Int} (hx : decode x = .fin a m e) :
    Right (fmod x 4607182418800017408) a ((val x).natAbs % 2 ^ 1074) 1 := by
  have he := decode_ge hx
  have hd : fmod x 4607182418800017408 = ofBin a (m * 2 ^ (e - min e (-52)).toNat % (2 ^ 52 * 2 ^ (-52 - min e (-52)).toNat)) (min e (-52)) := by
    unfold fmod
    rw [hx, one_dec]
    simp only [align, sgn, Bool.false_eq_true, if_false]
    rw [if_neg (by decide)]
    simp only [Int.toNat_natCast]
  rw [hd]
  have h := ofBin_right (neg := a) (M := m * 2 ^ (e - min e (-52)).toNat % (2 ^ 52 * 2 ^ (-52 - min e (-52)).toNat)) (g := min e (-52)) (by omega)
  have e1 : (m * 2 ^ (e - min e (-52)).toNat % (2 ^ 52 * 2 ^ (-52 - min e (-52)).toNat)) * 2 ^ (min e (-52) + 1074).toNat = (val x).natAbs % 2 ^ 1074 := by
    rw [← Nat.mul_mod_mul_right, val_natAbs hx, Nat.mul_assoc, ← Nat.pow_add, Nat.mul_assoc, ← Nat.pow_add, ← Nat.pow_add]
    have e2 : (e - min e (-52)).toNat + (min e (-52) + 1074).toNat = (e + 1074).toNat := by omega
    have e3 : 52 + ((-52 - min e (-52)).toNat + (min e (-52) + 1074).toNat) = 1074 := by omega
    rw [e2, e3]
  rw [e1] at h
  exact h
theorem one_fx : Fin1 4607182418800017408 ∧ val 4607182418800017408 = (GG : Int) * 2 ^ 60 := by
  refine ⟨⟨_, _, _, one_dec⟩, ?_⟩
  have e60 : ((2 ^ 60 : Nat) : Int) = 2 ^ 60 := by decide
  have h : val 4607182418800017408 = ((2 ^ 1074 : Nat) : Int) := by
    rw [val_eq one_dec]
    unfold sgn
    rw [← Nat.pow_add]
    rfl
  rw [h, GG_1074, Int.natCast_mul, e60]
theorem one_fx' : fx 4607182418800017408 = 2 ^ 60 := by
  unfold fx
  rw [one_fx.2]
  exact Int.mul_ediv_cancel_left _ (Int.ne_of_gt G_pos)
theorem zero_fx : fx (zero false) = 0 := by
  unfold fx
  rw [(fin_val_zero false).2, Int.zero_ediv]
theorem isZero_val {m : UInt64} (hm : isZero m = true) : val m = 0 := by
  unfold isZero at hm
  split at hm
  · rename_i h
    rw [val_eq h]
    unfold sgn; simp
  · cases hm
theorem lin_a {A B C G r x : Int} (hG : 0 < G) (r1 : A ≤ r) (r2 : r < A + G) (x1 : B ≤ x) (x2 : x < B + G) (h1 : r - (x - C) ≤ 4500 * G) : A - (B - C) ≤ 5000 * G := by omega
theorem lin_b {A B C G r x : Int} (hG : 0 < G) (r1 : A ≤ r) (r2 : r < A + G) (x1 : B ≤ x) (x2 : x < B + G) (h1 : (x - C) - r ≤ 4500 * G) : (B - C) - A ≤ 5000 * G := by omega
theorem exact_rest {a : Bool} {X q p : Nat} {G : Int} (hG : 0 < G) (hdm : (G * 2 ^ 60) * (q : Int) + (p : Int) = (X : Int)) (hlt : (p : Int) < G * 2 ^ 60) :
    sgn a p = sgn a X - sgn a q * (G * 2 ^ 60) ∧ (a = false → 0 ≤ sgn a p) ∧ (a = true → sgn a p ≤ 0) ∧ sgn a p ≤ G * 2 ^ 60 ∧ -(G * 2 ^ 60) ≤ sgn a p := by
  unfold sgn
  cases a
  · simp only [Bool.false_eq_true, if_false]
    refine ⟨?_, fun _ => by omega, fun h => (nomatch h), by omega, by omega⟩
    grind
  · simp only [if_true]
    refine ⟨?_, fun h => (nomatch h), fun _ => by omega, by omega, by omega⟩
    grind
theorem case_neg {G M r v : Int} (hG : 0 < G) (n1 : M - v ≤ 2048 * G) (n2 : v - M ≤ 2048 * G) (hM : M < 0) (hv : -(G * 2 ^ 60) ≤ v) (m1 : r - (M + G * 2 ^ 60) ≤ 2048 * G) (m2 : (M + G * 2 ^ 60) - r ≤ 2048 * G) :
    r - (v + G * 2 ^ 60) ≤ 4500 * G ∧ (v + G * 2 ^ 60) - r ≤ 4500 * G ∧ -(4500 * G) ≤ r ∧ r ≤ G * 2 ^ 60 + 4500 * G := by omega
theorem add_near {x y : UInt64} (hx : Fin1 x) (hy : Fin1 y) (hW : (val x + val y).natAbs ≤ GG * 2 ^ 64) :
    Fin1 (add x y) ∧ val (add x y) - (val x + val y) ≤ 2048 * (GG : Int) ∧ (val x + val y) - val (add x y) ≤ 2048 * (GG : Int) := by
  obtain ⟨a, m, e, hdx⟩ := hx
  obtain ⟨b, k, f, hdy⟩ := hy
  have hr := add_right hdx hdy
  have hG := G_pos
  by_cases h0 : val x + val y = 0
  · rw [hr.1 h0, h0]
    have hz := fin_val_zero (a && b)
    exact ⟨hz.1, by rw [hz.2]; omega, by rw [hz.2]; omega⟩
  · have hn := near_fx (hr.2 h0) (by decide) (by rw [Nat.one_mul]; exact hW)
    have hs : sgn (decide (val x + val y < 0)) (val x + val y).natAbs = val x + val y := by
      unfold sgn
      by_cases h : val x + val y < 0
      · rw [decide_eq_true h, if_pos rfl]; omega
      · rw [decide_eq_false h]; simp only [Bool.false_eq_true, if_false]; omega
    rw [hs] at hn
    refine ⟨hn.1, ?_, ?_⟩
    · have := hn.2.1; simp only [Int.natCast_one, Int.one_mul] at this; omega
    · have := hn.2.2; simp only [Int.natCast_one, Int.one_mul] at this; omega
theorem lin_c {M v G : Int} (hG : 0 < G) (n1 : M - v ≤ 2048 * G) (n2 : v - M ≤ 2048 * G) (hv : -(G * 2 ^ 60) ≤ v) (hM : M < 0) : -(G * 2 ^ 64) ≤ M + G * 2 ^ 60 ∧ M + G * 2 ^ 60 ≤ G * 2 ^ 64 := by omega
theorem lin_d {M v G : Int} (hG : 0 < G) (n1 : M - v ≤ 2048 * G) (n2 : v - M ≤ 2048 * G) (hv : v ≤ G * 2 ^ 60) (hM : 0 ≤ M) : M - v ≤ 4500 * G ∧ v - M ≤ 4500 * G ∧ -(4500 * G) ≤ M ∧ M ≤ G * 2 ^ 60 + 4500 * G := by omega
theorem nat_abs_le {z : Int} {n : Nat} {m : Int} (e : (n : Int) = m) (h1 : -m ≤ z) (h2 : z ≤ m) : z.natAbs ≤ n := by omega
theorem mod1_fx {x : UInt64} (hx : Fin1 x) :
    ∃ j : Int, Fin1 (divmod x 4607182418800017408).2 ∧ fx (divmod x 4607182418800017408).2 - (fx x - j * 2 ^ 60) ≤ 5000 ∧ (fx x - j * 2 ^ 60) - fx (divmod x 4607182418800017408).2 ≤ 5000 ∧ -5000 ≤ fx (divmod x 4607182418800017408).2 ∧ fx (divmod x 4607182418800017408).2 ≤ 2 ^ 60 + 5000 := by
  obtain ⟨a, m, e, hdx⟩ := hx
  have hr := fmod_right hdx
  have hlt : (val x).natAbs % 2 ^ 1074 < 2 ^ 1074 := Nat.mod_lt _ (Nat.two_pow_pos _)
  have hdm := Nat.div_add_mod (val x).natAbs (2 ^ 1074)
  have hv := val_sgn hdx
  rw [GG_1074] at hr hlt hdm
  have hG := G_pos
  have hn := near_fx hr (by decide) (by
    rw [Nat.one_mul]
    exact Nat.le_trans (Nat.le_of_lt hlt) (Nat.mul_le_mul_left _ (by decide)))
  have x1 := fx_le x
  have x2 := fx_gt x
  have e60 : ((2 ^ 60 : Nat) : Int) = 2 ^ 60 := by decide
  have hK : ((GG * 2 ^ 60 : Nat) : Int) = (GG : Int) * 2 ^ 60 := by rw [Int.natCast_mul, e60]
  -- the exact rest
  have hex : ∃ j : Int, sgn a ((val x).natAbs % (GG * 2 ^ 60)) = val x - j * ((GG : Int) * 2 ^ 60) ∧ (a = false → 0 ≤ sgn a ((val x).natAbs % (GG * 2 ^ 60))) ∧ (a = true → sgn a ((val x).natAbs % (GG * 2 ^ 60)) ≤ 0) ∧ sgn a ((val x).natAbs % (GG * 2 ^ 60)) ≤ (GG : Int) * 2 ^ 60 ∧ -((GG : Int) * 2 ^ 60) ≤ sgn a ((val x).natAbs % (GG * 2 ^ 60)) := by
    have hdm' : ((GG : Int) * 2 ^ 60) * (((val x).natAbs / (GG * 2 ^ 60) : Nat) : Int) + (((val x).natAbs % (GG * 2 ^ 60) : Nat) : Int) = ((val x).natAbs : Int) := by
      rw [← hK, ← Int.natCast_mul, ← Int.natCast_add, hdm]
    have hlt' : (((val x).natAbs % (GG * 2 ^ 60) : Nat) : Int) < (GG : Int) * 2 ^ 60 := by rw [← hK]; exact Int.ofNat_lt.mpr hlt
    have hr := exact_rest (a := a) hG hdm' hlt'
    rw [← hv] at hr
    exact ⟨_, hr⟩
  obtain ⟨j, hj, hp0, hp1, hp2, hp3⟩ := hex
  rw [hj] at hn hp0 hp1 hp2 hp3
  obtain ⟨hf, n1, n2⟩ := hn
  simp only [Int.natCast_one, Int.one_mul] at n1 n2
  rw [divmod_snd]
  have hl1 : lt 4607182418800017408 (zero false) = false := by decide +kernel
  have hcz : copysign (zero false) 4607182418800017408 = zero false := by decide +kernel
  have hz := fin_val_zero false
  -- from a value near to its fixed point
  have fin : ∀ (r : UInt64) (j' : Int), Fin1 r → val r - (val x - j' * ((GG : Int) * 2 ^ 60)) ≤ 4500 * (GG : Int) → (val x - j' * ((GG : Int) * 2 ^ 60)) - val r ≤ 4500 * (GG : Int) → -(4500 * (GG : Int)) ≤ val r → val r ≤ (GG : Int) * 2 ^ 60 + 4500 * (GG : Int) →
      ∃ j : Int, Fin1 r ∧ fx r - (fx x - j * 2 ^ 60) ≤ 5000 ∧ (fx x - j * 2 ^ 60) - fx r ≤ 5000 ∧ -5000 ≤ fx r ∧ fx r ≤ 2 ^ 60 + 5000 := by
    intro r j' hr h1 h2 h3 h4
    have r1 := fx_le r
    have r2 := fx_gt r
    have ej : j' * ((GG : Int) * 2 ^ 60) = j' * 2 ^ 60 * (GG : Int) := by generalize (GG : Int) = G; grind
    rw [ej] at h1 h2
    refine ⟨j', hr, ?_, ?_, ?_, ?_⟩
    · refine mul_cancel hG ?_
      rw [Int.sub_mul, Int.sub_mul]
      exact lin_a hG r1 r2 x1 x2 h1
    · refine mul_cancel hG ?_
      rw [Int.sub_mul, Int.sub_mul]
      exact lin_b hG r1 r2 x1 x2 h2
    · refine fx_lo ?_
      have : (-5000 : Int) * (GG : Int) ≤ -(4500 * (GG : Int)) := by have := hG; omega
      exact Int.le_trans this h3
    · refine Int.le_of_lt_add_one (fx_hi ?_)
      have : (GG : Int) * 2 ^ 60 + 4500 * (GG : Int) < (2 ^ 60 + 5000 + 1) * (GG : Int) := by have := hG; omega
      exact Int.lt_of_le_of_lt h4 this
  have e64 : ((2 ^ 64 : Nat) : Int) = 2 ^ 64 := by decide
  have hK64 : ((GG * 2 ^ 64 : Nat) : Int) = (GG : Int) * 2 ^ 64 := by rw [Int.natCast_mul, e64]
  have hzero : Fin1 (zero false) := hz.1
  split
  · rename_i hm
    have hv0 := isZero_val hm
    rw [hcz]
    rw [hv0] at n1 n2
    have hd := lin_d hG n1 n2 hp2 (Int.le_refl _)
    refine fin _ j hzero ?_ ?_ ?_ ?_
    · rw [hz.2]; exact hd.1
    · rw [hz.2]; exact hd.2.1
    · rw [hz.2]; exact hd.2.2.1
    · rw [hz.2]; exact hd.2.2.2
  · split
    · rename_i _ hm
      rw [hl1] at hm
      have hlt2 : lt (fmod x 4607182418800017408) (zero false) = true := by simpa using hm
      unfold lt at hlt2
      rw [cmp_lt hf hzero, hz.2, decide_eq_true_iff] at hlt2
      have hc := lin_c hG n1 n2 hp3 hlt2
      have ha := add_near hf one_fx.1 (by rw [one_fx.2]; exact nat_abs_le hK64 hc.1 hc.2)
      rw [one_fx.2] at ha
      have hq := case_neg hG n1 n2 hlt2 hp3 ha.2.1 ha.2.2
      have ej : val x - j * ((GG : Int) * 2 ^ 60) + (GG : Int) * 2 ^ 60 = val x - (j - 1) * ((GG : Int) * 2 ^ 60) := by rw [Int.sub_mul, Int.one_mul]; omega
      rw [ej] at hq
      exact fin _ (j - 1) ha.1 hq.1 hq.2.1 hq.2.2.1 hq.2.2.2
    · rename_i _ hm
      rw [hl1] at hm
      have hlt2 : ¬ lt (fmod x 4607182418800017408) (zero false) = true := by
        intro h; rw [h] at hm; exact hm rfl
      unfold lt at hlt2
      rw [cmp_lt hf hzero, hz.2, decide_eq_true_iff] at hlt2
      have hd := lin_d hG n1 n2 hp2 (Int.not_lt.mp hlt2)
      exact fin _ j hf hd.1 hd.2.1 hd.2.2.1 hd.2.2.2
end Mine
end

section
set_option maxRecDepth 100000
set_option maxHeartbeats 1600000
set_option linter.unusedVariables false
namespace Mine
open PySem PySem.Float64
def pull1 (p : Int) : Int := max (-420) (min 420 (1260 - min (p % 5040) (-p % 5040)))
theorem pull_1 {p y j : Int} (e : p = y - 1680 + 5040 * j) (h0 : 0 ≤ y) (h1 : y ≤ 840) : pull1 p = y - 420 := by unfold pull1; omega
theorem pull_2 {p y j : Int} (e : p = y - 1680 + 5040 * j) (h0 : 840 ≤ y) (h1 : y ≤ 2520) : pull1 p = 420 := by unfold pull1; omega
theorem pull_3 {p y j : Int} (e : p = y - 1680 + 5040 * j) (h0 : 2520 ≤ y) (h1 : y ≤ 3360) : pull1 p = 2940 - y := by unfold pull1; omega
theorem pull_4 {p y j : Int} (e : p = y - 1680 + 5040 * j) (h0 : 3360 ≤ y) (h1 : y ≤ 5040) : pull1 p = -420 := by unfold pull1; omega
theorem mul_swap {x y : UInt64} (hx : Fin1 x) (hy : Fin1 y) : mul x y = mul y x := by
  obtain ⟨a, m, e, h1⟩ := hx
  obtain ⟨b, k, f, h2⟩ := hy
  unfold mul
  rw [h1, h2]
  show ofBin (a != b) (m * k) (e + f) = ofBin (b != a) (k * m) (f + e)
  rw [Nat.mul_comm, Int.add_comm]
  congr 1
  cases a <;> cases b <;> rfl
theorem val_lit {x : UInt64} {a : Bool} {m : Nat} {e : Int} (h : decode x = .fin a m e) (he : -60 ≤ e) : val x = sgn a m * 2 ^ (e + 60).toNat * (GG : Int) := by
  have e1 : (e + 1074).toNat = (e + 60).toNat + 1014 := by omega
  rw [val_eq h, e1, Nat.pow_add, ← Nat.mul_assoc, sgn_mul, sgn_mul, Int.natCast_pow]
  rfl
theorem fx_lit {x : UInt64} {a : Bool} {m : Nat} {e : Int} (h : decode x = .fin a m e) (he : -60 ≤ e) : fx x = sgn a m * 2 ^ (e + 60).toNat ∧ val x = fx x * (GG : Int) := by
  have h1 := val_lit h he
  have h2 : fx x = sgn a m * 2 ^ (e + 60).toNat := by
    unfold fx
    rw [h1, Int.mul_ediv_cancel _ (Int.ne_of_gt G_pos)]
  exact ⟨h2, by rw [h2, h1]⟩
theorem c16_dec : decode 4595172819793696085 = .fin false 6004799503160661 (-55) := by kernel_rfl
theorem half_dec : decode 4602678819172646912 = .fin false 4503599627370496 (-53) := by kernel_rfl
theorem c23_dec : decode 4604180019048437077 = .fin false 6004799503160661 (-53) := by kernel_rfl
theorem six_dec : decode 4618441417868443648 = .fin false 6755399441055744 (-50) := by kernel_rfl
theorem c13_dec : decode 4599676419421066581 = .fin false 6004799503160661 (-54) := by kernel_rfl
theorem c16_fx : Fin1 4595172819793696085 ∧ fx 4595172819793696085 = 6004799503160661 * 32 := ⟨⟨_, _, _, c16_dec⟩, (fx_lit c16_dec (by decide)).1⟩
theorem half_fx : Fin1 4602678819172646912 ∧ fx 4602678819172646912 = 4503599627370496 * 128 := ⟨⟨_, _, _, half_dec⟩, (fx_lit half_dec (by decide)).1⟩
theorem c23_fx : Fin1 4604180019048437077 ∧ fx 4604180019048437077 = 6004799503160661 * 128 := ⟨⟨_, _, _, c23_dec⟩, (fx_lit c23_dec (by decide)).1⟩
theorem c13_fx : Fin1 4599676419421066581 ∧ fx 4599676419421066581 = 6004799503160661 * 64 := ⟨⟨_, _, _, c13_dec⟩, (fx_lit c13_dec (by decide)).1⟩
theorem six_fx : Fin1 4618441417868443648 ∧ val 4618441417868443648 * 1 = 6 * ((GG : Int) * 2 ^ 60) := by
  refine ⟨⟨_, _, _, six_dec⟩, ?_⟩
  have h := val_lit six_dec (by decide)
  rw [h]
  have e : sgn false 6755399441055744 * 2 ^ ((-50 : Int) + 60).toNat = 6 * 2 ^ 60 := by decide +kernel
  rw [e, Int.mul_one, Int.mul_comm (GG : Int), Int.mul_assoc]
/-- D * t * 6 -/
theorem ramp_fx {D t : UInt64} {W : Int} (hD : Fin1 D) (ht : Fin1 t) (hW0 : 0 ≤ W) (hW1 : W ≤ 16) (eD : val D * 16 = W * ((GG : Int) * 2 ^ 60)) (h0 : -10000 ≤ fx t) (h1 : fx t ≤ 2 ^ 61) :
    Fin1 (mul (mul D t) 4618441417868443648) ∧ 16 * fx (mul (mul D t) 4618441417868443648) - 6 * (W * fx t) ≤ 300000 ∧ 6 * (W * fx t) - 16 * fx (mul (mul D t) 4618441417868443648) ≤ 300000 := by
  rw [mul_swap hD ht]
  have hb : ((fx t).natAbs + 1) * (W.natAbs : Int) ≤ 16 * 2 ^ 64 := by
    have q1 : ((fx t).natAbs : Int) + 1 ≤ 2 ^ 62 := by omega
    calc ((fx t).natAbs + 1) * (W.natAbs : Int) ≤ 2 ^ 62 * (W.natAbs : Int) := Int.mul_le_mul_of_nonneg_right q1 (by omega)
      _ ≤ 16 * 2 ^ 64 := by omega
  have hz := mulc_fx ht hD (by decide) eD hb
  have hwt0 : -160000 ≤ W * fx t := by
    have := Int.mul_le_mul_of_nonneg_left h0 hW0
    omega
  have hwt1 : W * fx t ≤ 2 ^ 65 := by
    have := Int.mul_le_mul_of_nonneg_left h1 hW0
    omega
  obtain ⟨hf, z1, z2⟩ := hz
  generalize W * fx t = wt at *
  have hb2 : ((fx (mul t D)).natAbs + 1) * ((6 : Int).natAbs : Int) ≤ 1 * 2 ^ 64 := by
    have e : ((6 : Int).natAbs : Int) = 6 := rfl
    rw [e]
    omega
  have h6 := mulc_fx hf six_fx.1 (by decide) six_fx.2 hb2
  obtain ⟨hf6, s1, s2⟩ := h6
  have e : ((6 : Int).natAbs : Int) = 6 := rfl
  rw [e] at s1 s2
  refine ⟨hf6, ?_, ?_⟩ <;> omega
end Mine
end

section
set_option maxRecDepth 100000
set_option maxHeartbeats 3200000
set_option linter.unusedVariables false
namespace Mine
open PySem PySem.Float64
/-- what a lightness and a saturation give -/
structure Lev (m1 m2 : UInt64) (k1 W : Int) : Prop where
  f1 : Fin1 m1
  f2 : Fin1 m2
  fD : Fin1 (sub m2 m1)
  e1 : fx m1 = k1 * 2 ^ 55
  e2 : fx m2 = (k1 + 2 * W) * 2 ^ 55
  eD : val (sub m2 m1) * 16 = W * ((GG : Int) * 2 ^ 60)
  k0 : 0 ≤ k1
  k2 : k1 + 2 * W ≤ 32
  W0 : 1 ≤ W
theorem prod_near {W a b r : Int} (h0 : 0 ≤ W) (h1 : W ≤ 16) (hr : 0 ≤ r) (ha : a - b ≤ r) (hb : b - a ≤ r) : W * a - W * b ≤ 16 * r ∧ W * b - W * a ≤ 16 * r := by
  have q1 := Int.mul_le_mul_of_nonneg_left ha h0
  have q2 := Int.mul_le_mul_of_nonneg_left hb h0
  have q3 := Int.mul_le_mul_of_nonneg_right h1 hr
  rw [Int.mul_sub] at q1 q2
  constructor <;> omega
theorem vF_fx {m1 m2 h : UInt64} {k1 W p : Int} (hL : Lev m1 m2 k1 W) (hh : Fin1 h) (n1 : 5040 * fx h - (p + 1680) * 2 ^ 60 ≤ 5040 * 10000) (n2 : (p + 1680) * 2 ^ 60 - 5040 * fx h ≤ 5040 * 10000) :
    Fin1 (vF m1 m2 h) ∧ 13440 * fx (vF m1 m2 h) - (420 * k1 + 420 * W + W * pull1 p) * 2 ^ 60 ≤ 2 ^ 34 ∧ (420 * k1 + 420 * W + W * pull1 p) * 2 ^ 60 - 13440 * fx (vF m1 m2 h) ≤ 2 ^ 34 := by
  obtain ⟨f1, f2, fD, e1, e2, eD, k0, k2, W0⟩ := hL
  have hW1 : W ≤ 16 := by omega
  obtain ⟨j, hu, u1, u2, u3, u4⟩ := mod1_fx hh
  unfold vF
  generalize (divmod h 4607182418800017408).2 = u at *
  -- the place in the turn
  have ej : p = (p + 1680 - 5040 * j) - 1680 + 5040 * j := by omega
  have y1 : 5040 * fx u - (p + 1680 - 5040 * j) * 2 ^ 60 ≤ 5040 * 15000 := by omega
  have y2 : (p + 1680 - 5040 * j) * 2 ^ 60 - 5040 * fx u ≤ 5040 * 15000 := by omega
  generalize p + 1680 - 5040 * j = y at *
  have b1 : 0 ≤ y := by omega
  have b2 : y ≤ 5040 := by omega
  obtain ⟨g1, v1⟩ := c16_fx
  obtain ⟨g2, v2⟩ := half_fx
  obtain ⟨g3, v3⟩ := c23_fx
  by_cases t1 : (cmp u 4595172819793696085 == some Ordering.lt) = true
  · rw [if_pos t1]
    have q := cmp_fx_t hu g1 t1
    rw [v1] at q
    have hy : y ≤ 840 := by omega
    rw [pull_1 ej b1 hy]
    have hr := ramp_fx fD hu (by omega) hW1 eD (by omega) (by omega)
    obtain ⟨hf, r1, r2⟩ := hr
    have hp := prod_near (W := W) (a := 5040 * fx u) (b := y * 2 ^ 60) (r := 5040 * 15000) (by omega) hW1 (by omega) y1 y2
    have c1 : W * (5040 * fx u) = 5040 * (W * fx u) := by rw [← Int.mul_assoc, Int.mul_comm W 5040, Int.mul_assoc]
    have c2 : W * (y * 2 ^ 60) = W * y * 2 ^ 60 := (Int.mul_assoc _ _ _).symm
    have c3 : W * (y - 420) = W * y - 420 * W := by rw [Int.mul_sub, Int.mul_comm W 420]
    rw [c1, c2] at hp
    rw [c3]
    have wy0 : 0 ≤ W * y := Int.mul_nonneg (by omega) b1
    have wy1 : W * y ≤ 16 * 840 := by
      have q1 := Int.mul_le_mul_of_nonneg_right hW1 b1
      omega
    generalize W * fx u = wu at *
    generalize W * y = wy at *
    have ha := add_fx f1 hf (by omega) (by omega)
    refine ⟨ha.1, ?_, ?_⟩ <;> omega
  rw [if_neg t1]
  have q1 := cmp_fx_f hu g1 t1
  rw [v1] at q1
  have hy1 : 840 ≤ y := by omega
  by_cases t2 : (cmp u 4602678819172646912 == some Ordering.lt) = true
  · rw [if_pos t2]
    have q := cmp_fx_t hu g2 t2
    rw [v2] at q
    have hy : y ≤ 2520 := by omega
    rw [pull_2 ej hy1 hy, e2]
    refine ⟨f2, ?_, ?_⟩ <;> omega
  rw [if_neg t2]
  have q2 := cmp_fx_f hu g2 t2
  rw [v2] at q2
  have hy2 : 2520 ≤ y := by omega
  by_cases t3 : (cmp u 4604180019048437077 == some Ordering.lt) = true
  · rw [if_pos t3]
    have q := cmp_fx_t hu g3 t3
    rw [v3] at q
    have hy : y ≤ 3360 := by omega
    rw [pull_3 ej hy2 hy]
    have hs := sub_fx g3 hu (by omega) (by omega)
    rw [v3] at hs
    obtain ⟨hsf, s1, s2⟩ := hs
    generalize sub 4604180019048437077 u = d at *
    have hr := ramp_fx fD hsf (by omega) hW1 eD (by omega) (by omega)
    obtain ⟨hf, r1, r2⟩ := hr
    have hp := prod_near (W := W) (a := 5040 * fx d) (b := (3360 - y) * 2 ^ 60) (r := 5040 * 20000) (by omega) hW1 (by omega) (by omega) (by omega)
    have c1 : W * (5040 * fx d) = 5040 * (W * fx d) := by rw [← Int.mul_assoc, Int.mul_comm W 5040, Int.mul_assoc]
    have c2 : W * ((3360 - y) * 2 ^ 60) = W * (3360 - y) * 2 ^ 60 := (Int.mul_assoc _ _ _).symm
    have c3 : W * (2940 - y) = W * (3360 - y) - 420 * W := by rw [Int.mul_sub, Int.mul_sub]; omega
    rw [c1, c2] at hp
    rw [c3]
    have wy0 : 0 ≤ W * (3360 - y) := Int.mul_nonneg (by omega) (by omega)
    have wy1 : W * (3360 - y) ≤ 16 * 840 := by
      have q1 := Int.mul_le_mul_of_nonneg_right hW1 (show 0 ≤ 3360 - y by omega)
      omega
    generalize W * fx d = wu at *
    generalize W * (3360 - y) = wy at *
    have ha := add_fx f1 hf (by omega) (by omega)
    refine ⟨ha.1, ?_, ?_⟩ <;> omega
  rw [if_neg t3]
  have q3 := cmp_fx_f hu g3 t3
  rw [v3] at q3
  have hy3 : 3360 ≤ y := by omega
  rw [pull_4 ej hy3 b2, e1]
  refine ⟨f1, ?_, ?_⟩ <;> omega
end Mine
end

section
set_option maxRecDepth 100000
set_option maxHeartbeats 3200000
set_option linter.unusedVariables false
namespace Mine
open PySem PySem.Float64
def fxOf (x : UInt64) : Option Int := match decode x with
  | .fin a m e => if m = 0 then some 0 else if -60 ≤ e then some (sgn a m * 2 ^ (e + 60).toNat) else none
  | _ => none
theorem fxOf_spec {x : UInt64} {F : Int} (h : fxOf x = some F) : Fin1 x ∧ fx x = F ∧ val x = F * (GG : Int) := by
  unfold fxOf at h
  split at h
  · rename_i a m e hd
    by_cases hm : m = 0
    · rw [if_pos hm] at h
      cases h
      have hv : val x = 0 := by rw [val_eq hd, hm]; unfold sgn; simp
      refine ⟨⟨_, _, _, hd⟩, ?_, ?_⟩
      · unfold fx; rw [hv, Int.zero_ediv]
      · rw [hv, Int.zero_mul]
    · rw [if_neg hm] at h
      by_cases he : -60 ≤ e
      · rw [if_pos he] at h
        cases h
        have := fx_lit hd he
        exact ⟨⟨_, _, _, hd⟩, this.1, by rw [this.2, this.1]⟩
      · rw [if_neg he] at h
        cases h
  · cases h
def levOk (l p : Int) : Bool :=
  fxOf (m1F (quF l 8) (quF p 4)) == some ((4 * l - wtO l p) * 2 ^ 55) && fxOf (m2F (quF l 8) (quF p 4)) == some ((4 * l - wtO l p + 2 * wtO l p) * 2 ^ 55) &&
  fxOf (sub (m2F (quF l 8) (quF p 4)) (m1F (quF l 8) (quF p 4))) == some (wtO l p * 2 ^ 56) && decide (0 ≤ 4 * l - wtO l p) && decide (4 * l - wtO l p + 2 * wtO l p ≤ 32) && decide (1 ≤ wtO l p)
theorem lev_of {l p : Int} (h : levOk l p = true) : Lev (m1F (quF l 8) (quF p 4)) (m2F (quF l 8) (quF p 4)) (4 * l - wtO l p) (wtO l p) := by
  unfold levOk at h
  simp only [Bool.and_eq_true, beq_iff_eq, decide_eq_true_eq] at h
  obtain ⟨⟨⟨⟨⟨h1, h2⟩, h3⟩, h4⟩, h5⟩, h6⟩ := h
  have a1 := fxOf_spec h1
  have a2 := fxOf_spec h2
  have a3 := fxOf_spec h3
  refine ⟨a1.1, a2.1, a3.1, a1.2.1, a2.2.1, ?_, h4, h5, h6⟩
  rw [a3.2.2]
  generalize (GG : Int) = G
  generalize wtO l p = W
  grind
theorem lev_all {l p : Int} (hl0 : 1 ≤ l) (hl1 : l ≤ 7) (hp0 : 1 ≤ p) (hp1 : p ≤ 4) : Lev (m1F (quF l 8) (quF p 4)) (m2F (quF l 8) (quF p 4)) (4 * l - wtO l p) (wtO l p) := by
  refine lev_of ?_
  have hl : l = 1 ∨ l = 2 ∨ l = 3 ∨ l = 4 ∨ l = 5 ∨ l = 6 ∨ l = 7 := by omega
  have hp : p = 1 ∨ p = 2 ∨ p = 3 ∨ p = 4 := by omega
  rcases hl with rfl | rfl | rfl | rfl | rfl | rfl | rfl <;> rcases hp with rfl | rfl | rfl | rfl <;> decide +kernel
/-- a colour's part in 13440ths -/
def colZ (l p mm : Int) (c : Nat) : Int := 1680 * l + wtO l p * pull1 (mm - 1680 * c)
theorem col_fx {l p mm : Int} {c : Nat} (hl0 : 1 ≤ l) (hl1 : l ≤ 7) (hp0 : 1 ≤ p) (hp1 : p ≤ 4) (hm0 : -5040 ≤ mm) (hm1 : mm ≤ 5040) (hc : c < 3) :
    Fin1 (colF (quF (60 * mm) 302400) (quF l 8) (quF p 4) c) ∧ 13440 * fx (colF (quF (60 * mm) 302400) (quF l 8) (quF p 4) c) - colZ l p mm c * 2 ^ 60 ≤ 2 ^ 34 ∧ colZ l p mm c * 2 ^ 60 - 13440 * fx (colF (quF (60 * mm) 302400) (quF l 8) (quF p 4) c) ≤ 2 ^ 34 := by
  have hL := lev_all hl0 hl1 hp0 hp1
  obtain ⟨hf, n1, n2⟩ := hue_fx mm hm0 hm1
  have e0 : 420 * (4 * l - wtO l p) + 420 * wtO l p = 1680 * l := by omega
  obtain ⟨g, v⟩ := c13_fx
  unfold colF colZ
  generalize quF (60 * mm) 302400 = h at *
  have hc3 : c = 0 ∨ c = 1 ∨ c = 2 := by omega
  rcases hc3 with rfl | rfl | rfl
  · rw [if_pos rfl]
    have ha := add_fx hf g (by rw [v]; omega) (by rw [v]; omega)
    rw [v] at ha
    have := vF_fx (p := mm - 1680 * (0 : Nat)) hL ha.1 (by omega) (by omega)
    rw [e0] at this
    exact this
  · rw [if_neg (by decide), if_pos rfl]
    have := vF_fx (p := mm - 1680 * (1 : Nat)) hL hf (by omega) (by omega)
    rw [e0] at this
    exact this
  · rw [if_neg (by decide), if_neg (by decide)]
    have ha := sub_fx hf g (by rw [v]; omega) (by rw [v]; omega)
    rw [v] at ha
    have := vF_fx (p := mm - 1680 * (2 : Nat)) hL ha.1 (by omega) (by omega)
    rw [e0] at this
    exact this
/-- the parts of the first times together -/
def sumZ (l p : Int) (f : Nat → Int) (c : Nat) : Nat → Int
  | 0 => 0
  | i + 1 => sumZ l p f c i + colZ l p (f i) c
theorem pull1_le (p : Int) : -420 ≤ pull1 p ∧ pull1 p ≤ 420 := by unfold pull1; omega
theorem wtO_le {l p : Int} (hl0 : 1 ≤ l) (hl1 : l ≤ 7) (hp0 : 1 ≤ p) (hp1 : p ≤ 4) : 0 ≤ wtO l p ∧ wtO l p ≤ 4 * l ∧ wtO l p ≤ 32 - 4 * l := by
  have hp : p = 1 ∨ p = 2 ∨ p = 3 ∨ p = 4 := by omega
  unfold wtO
  rcases hp with rfl | rfl | rfl | rfl <;> omega
theorem colZ_le {l p mm : Int} {c : Nat} (hl0 : 1 ≤ l) (hl1 : l ≤ 7) (hp0 : 1 ≤ p) (hp1 : p ≤ 4) : 0 ≤ colZ l p mm c ∧ colZ l p mm c ≤ 13440 := by
  have hq := pull1_le (mm - 1680 * c)
  have hW := wtO_le hl0 hl1 hp0 hp1
  unfold colZ
  have a := Int.mul_le_mul_of_nonneg_left hq.1 hW.1
  have b := Int.mul_le_mul_of_nonneg_left hq.2 hW.1
  generalize wtO l p * pull1 (mm - 1680 * c) = z at *
  omega
theorem sumZ_le {l p : Int} {f : Nat → Int} {c : Nat} (hl0 : 1 ≤ l) (hl1 : l ≤ 7) (hp0 : 1 ≤ p) (hp1 : p ≤ 4) : ∀ i, 0 ≤ sumZ l p f c i ∧ sumZ l p f c i ≤ 13440 * i
  | 0 => by simp [sumZ]
  | i + 1 => by
    have h1 := sumZ_le (f := f) (c := c) hl0 hl1 hp0 hp1 i
    have h2 := colZ_le (mm := f i) (c := c) hl0 hl1 hp0 hp1
    unfold sumZ
    omega
theorem zero_ofInt : Fin1 (ofInt 0) ∧ fx (ofInt 0) = 0 := by
  have : fxOf (ofInt 0) = some 0 := by decide +kernel
  exact ⟨(fxOf_spec this).1, (fxOf_spec this).2.1⟩
theorem acc_fx {l p : Int} {f : Nat → Int} {c : Nat} (hl0 : 1 ≤ l) (hl1 : l ≤ 7) (hp0 : 1 ≤ p) (hp1 : p ≤ 4) (hc : c < 3) :
    ∀ i : Nat, i ≤ 9 → (∀ j, j < i → -5040 ≤ f j ∧ f j ≤ 5040) → Fin1 (accF f (quF l 8) (quF p 4) c i) ∧ 13440 * fx (accF f (quF l 8) (quF p 4) c i) - sumZ l p f c i * 2 ^ 60 ≤ 2 ^ 35 * i ∧ sumZ l p f c i * 2 ^ 60 - 13440 * fx (accF f (quF l 8) (quF p 4) c i) ≤ 2 ^ 35 * i
  | 0, _, _ => by
    unfold accF sumZ
    have := zero_ofInt
    exact ⟨this.1, by rw [this.2]; decide, by rw [this.2]; decide⟩
  | i + 1, hi, hf => by
    obtain ⟨h0, h1, h2⟩ := acc_fx (f := f) (c := c) hl0 hl1 hp0 hp1 hc i (by omega) (fun j hj => hf j (by omega))
    obtain ⟨c0, c1, c2⟩ := col_fx (c := c) hl0 hl1 hp0 hp1 (hf i (by omega)).1 (hf i (by omega)).2 hc
    have s1 := sumZ_le (f := f) (c := c) hl0 hl1 hp0 hp1 i
    have s2 := colZ_le (mm := f i) (c := c) hl0 hl1 hp0 hp1
    unfold accF sumZ
    generalize accF f (quF l 8) (quF p 4) c i = x at *
    generalize colF (quF (60 * f i) 302400) (quF l 8) (quF p 4) c = y at *
    generalize sumZ l p f c i = X at *
    generalize colZ l p (f i) c = Y at *
    have ha := add_fx h0 c0 (by omega) (by omega)
    refine ⟨ha.1, ?_, ?_⟩ <;> omega
end Mine
end

section
set_option maxRecDepth 100000
set_option maxHeartbeats 3200000
set_option linter.unusedVariables false
namespace Mine
/-- the pulls of n places, s apart, from q -/
def rs (s q : Int) : Nat → Int
  | 0 => 0
  | n + 1 => rs s q n + pull1 (q + s * n)
theorem mod_period (p k : Int) : (p + 5040 * k) % 5040 = p % 5040 := Int.add_mul_emod_self_left p 5040 k
theorem neg_period (p k : Int) : -(p + 5040 * k) % 5040 = -p % 5040 := by
  rw [Int.neg_add, ← Int.mul_neg]
  exact mod_period (-p) (-k)
theorem pull1_period (p : Int) (k : Int) : pull1 (p + 5040 * k) = pull1 p := by
  unfold pull1
  rw [mod_period, neg_period]
theorem rs_shift (s q : Int) : ∀ n : Nat, rs s (q + s) n + pull1 q = rs s q n + pull1 (q + s * n)
  | 0 => by simp [rs]
  | n + 1 => by
    have h := rs_shift s q n
    have e : q + s + s * (n : Int) = q + s * ((n + 1 : Nat) : Int) := by
      have : ((n + 1 : Nat) : Int) = (n : Int) + 1 := by omega
      rw [this, Int.mul_add, Int.mul_one]; omega
    unfold rs
    rw [e]
    omega
theorem rs_turn {s : Int} {n : Nat} (h : s * n = 5040) (q : Int) : rs s (q + s) n = rs s q n := by
  have h1 := rs_shift s q n
  rw [h] at h1
  have h2 := pull1_period q 1
  rw [show (5040 : Int) * 1 = 5040 by decide] at h2
  omega
theorem rs_turns {s : Int} {n : Nat} (h : s * n = 5040) (q : Int) : ∀ i : Nat, rs s (q + s * i) n = rs s q n
  | 0 => by simp
  | i + 1 => by
    have e : q + s * ((i + 1 : Nat) : Int) = q + s * (i : Int) + s := by
      have : ((i + 1 : Nat) : Int) = (i : Int) + 1 := by omega
      rw [this, Int.mul_add, Int.mul_one]; omega
    rw [e, rs_turn h, rs_turns h q i]
theorem rs_any {s : Int} {n : Nat} (h : s * n = 5040) (q i : Int) : rs s (q + s * i) n = rs s q n := by
  rcases Int.le_total 0 i with hi | hi
  · obtain ⟨k, rfl⟩ := Int.eq_ofNat_of_zero_le hi
    exact rs_turns h q k
  · obtain ⟨k, hk⟩ := Int.eq_ofNat_of_zero_le (show 0 ≤ -i by omega)
    have := rs_turns h (q + s * i) k
    rw [← this]
    congr 1
    have e : i = -(k : Int) := by omega
    rw [e, Int.mul_neg]; omega
/-- f is linear between the multiples of d -/
def Lin (d : Int) (f : Int → Int) : Prop := ∀ t r : Int, 0 ≤ r → r ≤ d → d * f (d * t + r) = (d - r) * f (d * t) + r * f (d * t + d)
theorem lin_of {d : Int} {f : Int → Int} (h : ∀ t : Int, ∃ A S B : Int, ∀ u, d * t ≤ u → u ≤ d * t + d → f u = A + S * (u - B)) : Lin d f := by
  intro t r h0 h1
  obtain ⟨A, S, B, hu⟩ := h t
  rw [hu _ (by omega) (by omega), hu (d * t) (by omega) (by omega), hu (d * t + d) (by omega) (by omega)]
  generalize d * t = z
  grind
theorem pull1_blk (b : Int) : ∃ A S : Int, ∀ u, 840 * b ≤ u → u ≤ 840 * b + 840 → pull1 u = A + S * (u - 840 * b) := by
  obtain ⟨k, hk⟩ : ∃ k : Int, b = 6 * k ∨ b = 6 * k + 1 ∨ b = 6 * k + 2 ∨ b = 6 * k + 3 ∨ b = 6 * k + 4 ∨ b = 6 * k + 5 := ⟨b / 6, by omega⟩
  rcases hk with h | h | h | h | h | h
  · exact ⟨420, 0, fun u h0 h1 => by rw [pull_2 (p := u) (y := u + 1680 - 5040 * k) (j := k) (by omega) (by omega) (by omega)]; omega⟩
  · exact ⟨420, -1, fun u h0 h1 => by rw [pull_3 (p := u) (y := u + 1680 - 5040 * k) (j := k) (by omega) (by omega) (by omega)]; omega⟩
  · exact ⟨-420, 0, fun u h0 h1 => by rw [pull_4 (p := u) (y := u + 1680 - 5040 * k) (j := k) (by omega) (by omega) (by omega)]; omega⟩
  · exact ⟨-420, 0, fun u h0 h1 => by rw [pull_4 (p := u) (y := u + 1680 - 5040 * k) (j := k) (by omega) (by omega) (by omega)]; omega⟩
  · exact ⟨-420, 1, fun u h0 h1 => by rw [pull_1 (p := u) (y := u + 1680 - 5040 * (k + 1)) (j := (k + 1)) (by omega) (by omega) (by omega)]; omega⟩
  · exact ⟨420, 0, fun u h0 h1 => by rw [pull_2 (p := u) (y := u + 1680 - 5040 * (k + 1)) (j := (k + 1)) (by omega) (by omega) (by omega)]; omega⟩
theorem way_blk (b : Int) : ∃ A S : Int, ∀ u, 2520 * b ≤ u → u ≤ 2520 * b + 2520 → min (u % 5040) (-u % 5040) - 1260 = A + S * (u - 2520 * b) := by
  have hm : b % 2 = 0 ∨ b % 2 = 1 := by omega
  rcases hm with h | h
  · exact ⟨-1260, 1, fun u h0 h1 => by omega⟩
  · exact ⟨1260, -1, fun u h0 h1 => by omega⟩
theorem lin_pull1 {d c : Int} (hd : 0 < d) (hc : 0 < c) (h : d * c = 840) : Lin d pull1 := by
  refine lin_of fun t => ?_
  obtain ⟨A, S, hu⟩ := pull1_blk (t / c)
  refine ⟨A, S, 840 * (t / c), fun u h0 h1 => hu u ?_ ?_⟩
  · have h2 : d * (c * (t / c)) ≤ d * t := Int.mul_le_mul_of_nonneg_left (Int.mul_ediv_self_le (Int.ne_of_gt hc)) (Int.le_of_lt hd)
    rw [← Int.mul_assoc, h] at h2
    omega
  · have h2 : d * (t + 1) ≤ d * (c * (t / c) + c) := Int.mul_le_mul_of_nonneg_left (by have := Int.lt_mul_ediv_self_add (x := t) hc; omega) (Int.le_of_lt hd)
    rw [Int.mul_add, Int.mul_add, ← Int.mul_assoc, h, Int.mul_one] at h2
    omega
theorem lin_rs {d m : Int} (h : Lin d pull1) (q0 : Int) : ∀ n : Nat, Lin d (fun q => rs (d * m) (d * q0 + q) n)
  | 0 => by intro t r _ _; simp [rs]
  | n + 1 => by
    intro t r h0 h1
    have ih := lin_rs (m := m) h q0 n t r h0 h1
    have e1 : ∀ z : Int, rs (d * m) (d * q0 + z) (n + 1) = rs (d * m) (d * q0 + z) n + pull1 (d * (q0 + m * n) + z) := by
      intro z
      show _ + _ = _ + _
      congr 2
      rw [Int.mul_add, Int.mul_assoc]
      omega
    have h2 := h (q0 + m * n + t) r h0 h1
    have e2 : d * (q0 + m * (n : Int) + t) = d * (q0 + m * n) + d * t := Int.mul_add _ _ _
    rw [e2] at h2
    simp only [e1, Int.mul_add]
    simp only [Int.mul_add, Int.add_assoc] at h2 ih ⊢
    rw [h2, ih]
    omega
theorem lin_mul {d : Int} {f : Int → Int} (e : Int) (h : Lin d f) : Lin d (fun q => e * f q) := by
  intro t r h0 h1
  have := h t r h0 h1
  show d * (e * _) = (d - r) * (e * _) + r * (e * _)
  grind
theorem lin_pullZ {e d : Int} (he : 0 < e) (h : e % 2 = 0 ∨ (e % 2 = 1 ∧ e % 3 = 0 ∧ e * d = 2520) ∨ (e % 2 = 1 ∧ e % 3 ≠ 0 ∧ e * d = 840)) : Lin d (fun q => pullZ e (e * q)) := by
  have key : ∀ {t u : Int}, d * t ≤ u → u ≤ d * t + d → e * d * t ≤ e * u ∧ e * u ≤ e * d * t + e * d := by
    intro t u h0 h1
    have a := Int.mul_le_mul_of_nonneg_left h0 (Int.le_of_lt he)
    have b := Int.mul_le_mul_of_nonneg_left h1 (Int.le_of_lt he)
    rw [Int.mul_add] at b
    rw [Int.mul_assoc]
    exact ⟨a, b⟩
  refine lin_of fun t => ?_
  rcases h with h | ⟨g1, g2, h⟩ | ⟨g1, g2, h⟩
  · exact ⟨0, 0, 0, fun u _ _ => by unfold pullZ; rw [if_pos h]; simp⟩
  · obtain ⟨A, S, hu⟩ := way_blk t
    refine ⟨A, S * e, d * t, fun u h0 h1 => ?_⟩
    have := key h0 h1
    rw [h] at this
    unfold pullZ
    rw [if_neg (by omega), if_pos g2, hu (e * u) this.1 this.2, ← h]
    grind
  · obtain ⟨A, S, hu⟩ := pull1_blk t
    refine ⟨A, S * e, d * t, fun u h0 h1 => ?_⟩
    have := key h0 h1
    rw [h] at this
    have e1 : pullZ e (e * u) = pull1 (e * u) := by unfold pullZ; rw [if_neg (by omega), if_neg g2]; rfl
    rw [e1, hu (e * u) this.1 this.2, ← h]
    grind
theorem lin_eq {d m : Int} {F G : Int → Int} (hd : 0 < d) (hF : Lin d F) (hG : Lin d G) (h : ∀ k : Nat, (k : Int) ≤ m → F (d * k) = G (d * k)) {q : Int} (h0 : 0 ≤ q) (h1 : q < d * m) : F q = G q := by
  have e := Int.mul_ediv_add_emod q d
  have r0 := Int.emod_nonneg q (Int.ne_of_gt hd)
  have r1 := Int.emod_lt_of_pos q hd
  have t0 : 0 ≤ q / d := Int.ediv_nonneg h0 (Int.le_of_lt hd)
  have t1 : q / d < m := Int.ediv_lt_of_lt_mul hd (by rw [Int.mul_comm]; exact h1)
  obtain ⟨k, hk⟩ := Int.eq_ofNat_of_zero_le t0
  rw [hk] at e t1
  have a := hF k (q % d) r0 (Int.le_of_lt r1)
  have b := hG k (q % d) r0 (Int.le_of_lt r1)
  have c0 := h k (by omega)
  have c1 := h (k + 1) (by omega)
  rw [show d * ((k + 1 : Nat) : Int) = d * k + d by rw [Int.natCast_add, Int.mul_add]; simp] at c1
  rw [c0, c1, ← b, e] at a
  exact Int.eq_of_mul_eq_mul_left (Int.ne_of_gt hd) a
theorem raabe_at {e d m : Int} {n c : Nat} (he : 0 < e) (hd : 0 < d) (hc : 0 < c) (h840 : d * c = 840)
    (hZ : e % 2 = 0 ∨ (e % 2 = 1 ∧ e % 3 = 0 ∧ e * d = 2520) ∨ (e % 2 = 1 ∧ e % 3 ≠ 0 ∧ e * d = 840))
    (h : ∀ k : Nat, (k : Int) ≤ m → e * rs (d * m) (d * 0 + d * k) n = pullZ e (e * (d * k))) {q : Int} (h0 : 0 ≤ q) (h1 : q < d * m) : e * rs (d * m) q n = pullZ e (e * q) := by
  have := lin_eq hd (lin_mul e (lin_rs (m := m) (lin_pull1 hd (by omega) h840) 0 n)) (lin_pullZ he hZ) h h0 h1
  rw [Int.mul_zero, Int.zero_add] at this
  exact this
theorem raabe_of {e s : Int} {n : Nat} (hs : 0 < s) (hn : s * n = 5040) (he : e * s = 5040) (h : ∀ {r : Int}, 0 ≤ r → r < s → e * rs s r n = pullZ e (e * r)) (q : Int) : e * rs s q n = pullZ e (e * q) := by
  have h1 := Int.emod_add_mul_ediv q s
  have h4 := h (Int.emod_nonneg q (Int.ne_of_gt hs)) (Int.emod_lt_of_pos q hs)
  rw [← h1, rs_any hn, h4]
  generalize q % s = r
  have e1 : e * (r + s * (q / s)) = e * r + 5040 * (q / s) := by rw [Int.mul_add, ← Int.mul_assoc, he]
  rw [e1]
  generalize e * r = z
  generalize q / s = t
  unfold pullZ
  rw [mod_period, neg_period]
theorem grid_of {m : Nat} {P : Nat → Prop} (h : ∀ k : Nat, k < m + 1 → P k) (k : Nat) (hk : (k : Int) ≤ (m : Int)) : P k := h k (by omega)
theorem raabe {e : Int} (h1 : 1 ≤ e) (h9 : e ≤ 9) (q : Int) : e * rs ((5040 : Int).fdiv e) q e.toNat = pullZ e (e * q) := by
  have : e = 1 ∨ e = 2 ∨ e = 3 ∨ e = 4 ∨ e = 5 ∨ e = 6 ∨ e = 7 ∨ e = 8 ∨ e = 9 := by omega
  rcases this with rfl | rfl | rfl | rfl | rfl | rfl | rfl | rfl | rfl
  · exact raabe_of (s := 5040) (n := 1) (by decide) (by decide) (by decide) (raabe_at (d := 840) (m := 6) (c := 1) (n := 1) (by decide) (by decide) (by decide) (by decide) (by decide) (grid_of (m := 6) (by decide +kernel))) q
  · exact raabe_of (s := 2520) (n := 2) (by decide) (by decide) (by decide) (raabe_at (d := 840) (m := 3) (c := 1) (n := 2) (by decide) (by decide) (by decide) (by decide) (by decide) (grid_of (m := 3) (by decide +kernel))) q
  · exact raabe_of (s := 1680) (n := 3) (by decide) (by decide) (by decide) (raabe_at (d := 840) (m := 2) (c := 1) (n := 3) (by decide) (by decide) (by decide) (by decide) (by decide) (grid_of (m := 2) (by decide +kernel))) q
  · exact raabe_of (s := 1260) (n := 4) (by decide) (by decide) (by decide) (raabe_at (d := 420) (m := 3) (c := 2) (n := 4) (by decide) (by decide) (by decide) (by decide) (by decide) (grid_of (m := 3) (by decide +kernel))) q
  · exact raabe_of (s := 1008) (n := 5) (by decide) (by decide) (by decide) (raabe_at (d := 168) (m := 6) (c := 5) (n := 5) (by decide) (by decide) (by decide) (by decide) (by decide) (grid_of (m := 6) (by decide +kernel))) q
  · exact raabe_of (s := 840) (n := 6) (by decide) (by decide) (by decide) (raabe_at (d := 840) (m := 1) (c := 1) (n := 6) (by decide) (by decide) (by decide) (by decide) (by decide) (grid_of (m := 1) (by decide +kernel))) q
  · exact raabe_of (s := 720) (n := 7) (by decide) (by decide) (by decide) (raabe_at (d := 120) (m := 6) (c := 7) (n := 7) (by decide) (by decide) (by decide) (by decide) (by decide) (grid_of (m := 6) (by decide +kernel))) q
  · exact raabe_of (s := 630) (n := 8) (by decide) (by decide) (by decide) (raabe_at (d := 210) (m := 3) (c := 4) (n := 8) (by decide) (by decide) (by decide) (by decide) (by decide) (grid_of (m := 3) (by decide +kernel))) q
  · exact raabe_of (s := 560) (n := 9) (by decide) (by decide) (by decide) (raabe_at (d := 280) (m := 2) (c := 3) (n := 9) (by decide) (by decide) (by decide) (by decide) (by decide) (grid_of (m := 2) (by decide +kernel))) q
end Mine
end

section
set_option maxRecDepth 100000
set_option maxHeartbeats 3200000
set_option linter.unusedVariables false
namespace Mine
open PySem PySem.Float64
theorem sumZ_rs {l p e start : Int} {f : Nat → Int} {c : Nat} : ∀ n : Nat, (∀ j : Nat, j < n → f j = minM e start j ∨ f j = minM e start j - 5040) → sumZ l p f c n = 1680 * l * n + wtO l p * rs ((5040 : Int).fdiv e) (start - 1680 * c) n
  | 0, _ => by simp [sumZ, rs]
  | n + 1, h => by
    have ih := sumZ_rs (l := l) (p := p) (c := c) n fun j hj => h j (by omega)
    have hp : pull1 (f n - 1680 * c) = pull1 (start - 1680 * c + (5040 : Int).fdiv e * n) := by
      have hm : minM e start n = (start + (5040 : Int).fdiv e * n) % 5040 := Int.fmod_eq_emod_of_nonneg _ (by decide)
      have hd := Int.emod_add_mul_ediv (start + (5040 : Int).fdiv e * n) 5040
      generalize (5040 : Int).fdiv e * (n : Int) = z at *
      generalize (start + z) / 5040 = t at *
      rcases h n (by omega) with e1 | e1
      · rw [e1, hm, ← pull1_period _ t]
        congr 1
        omega
      · rw [e1, hm, ← pull1_period _ (t + 1)]
        congr 1
        omega
    unfold sumZ colZ rs
    rw [ih, hp, Int.mul_add]
    have : ((n + 1 : Nat) : Int) = (n : Int) + 1 := by omega
    rw [this, Int.mul_add, Int.mul_one]
    omega
theorem sumZ_red {l p e start : Int} {f : Nat → Int} {c : Nat} (h1 : 1 ≤ e) (h9 : e ≤ 9) (h : ∀ j : Nat, j < e.toNat → f j = minM e start j ∨ f j = minM e start j - 5040) :
    e * sumZ l p f c e.toNat = redZ e l start (wtO l p) c := by
  have hr := raabe h1 h9 (start - 1680 * c)
  have he : ((e.toNat : Nat) : Int) = e := Int.toNat_of_nonneg (by omega)
  rw [sumZ_rs e.toNat h, he]
  unfold redZ
  rw [← hr]
  generalize rs ((5040 : Int).fdiv e) (start - 1680 * c) e.toNat = R
  generalize wtO l p = W
  grind
theorem mulk_fx {x c : UInt64} {C : Int} (hx : Fin1 x) (hc : fxOf c = some C) (h0 : 0 ≤ C) (h1 : C ≤ 2 ^ 60) (b0 : -(2 ^ 64) + 2 ≤ fx x) (b1 : fx x ≤ 2 ^ 64 - 2) :
    Fin1 (mul c x) ∧ 2 ^ 60 * fx (mul c x) - C * fx x ≤ 2 ^ 60 * 2050 ∧ C * fx x - 2 ^ 60 * fx (mul c x) ≤ 2 ^ 60 * 2050 := by
  have hs := fxOf_spec hc
  rw [mul_swap hs.1 hx]
  have hb : ((fx x).natAbs + 1) * (C.natAbs : Int) ≤ 2 ^ 60 * 2 ^ 64 := by
    have q1 : ((fx x).natAbs : Int) + 1 ≤ 2 ^ 64 := by omega
    calc ((fx x).natAbs + 1) * (C.natAbs : Int) ≤ 2 ^ 64 * (C.natAbs : Int) := Int.mul_le_mul_of_nonneg_right q1 (by omega)
      _ ≤ 2 ^ 60 * 2 ^ 64 := by omega
  have hv : val c * 2 ^ 60 = C * ((GG : Int) * 2 ^ 60) := by rw [hs.2.2, Int.mul_assoc]
  have h := mulc_fx hx hs.1 (by decide) hv hb
  refine ⟨h.1, ?_, ?_⟩
  · have := h.2.1; omega
  · have := h.2.2; omega
theorem k30 : fxOf 0x3fd3333333333333 = some 345876451382054080 := by decide +kernel
theorem k59 : fxOf 0x3fe2e147ae147ae1 = some 680223687718039680 := by decide +kernel
theorem k11 : fxOf 0x3fbc28f5c28f5c29 = some 126821365506753168 := by decide +kernel
theorem k74 : fxOf 0x3fe7ae147ae147ae = some 853161913409066752 := by decide +kernel
theorem k27 : fxOf 0x3fd147ae147ae148 = some 311288806243848704 := by decide +kernel
theorem k48 : fxOf 0x3fdeb851eb851eb8 = some 553402322211286528 := by decide +kernel
theorem k41 : fxOf 0x3fda3d70a3d70a3d = some 472697816888807232 := by decide +kernel
/-- a float between a little below 0 and 10 -/
structure Mid (x : UInt64) : Prop where
  f : Fin1 x
  lo : -(2 ^ 40) ≤ fx x
  hi : fx x ≤ 10 * 2 ^ 60
theorem yF_fx {r g b : UInt64} (hr : Mid r) (hg : Mid g) (hb : Mid b) :
    Fin1 (yF r g b) ∧ 100 * fx (yF r g b) - (30 * fx r + 59 * fx g + 11 * fx b) ≤ 100 * 20000 ∧ (30 * fx r + 59 * fx g + 11 * fx b) - 100 * fx (yF r g b) ≤ 100 * 20000 := by
  obtain ⟨hr, r0, r1⟩ := hr
  obtain ⟨hg, g0, g1⟩ := hg
  obtain ⟨hb, b0, b1⟩ := hb
  obtain ⟨a1, p1, p2⟩ := mulk_fx hr k30 (by decide) (by decide) (by omega) (by omega)
  obtain ⟨a2, p3, p4⟩ := mulk_fx hg k59 (by decide) (by decide) (by omega) (by omega)
  obtain ⟨a3, p5, p6⟩ := mulk_fx hb k11 (by decide) (by decide) (by omega) (by omega)
  unfold yF
  generalize mul 0x3fd3333333333333 r = u at *
  generalize mul 0x3fe2e147ae147ae1 g = v at *
  generalize mul 0x3fbc28f5c28f5c29 b = z at *
  obtain ⟨s1, q1, q2⟩ := add_fx a1 a2 (by omega) (by omega)
  obtain ⟨s2, q3, q4⟩ := add_fx s1 a3 (by omega) (by omega)
  refine ⟨s2, ?_, ?_⟩ <;> omega
theorem iF_fx {r g b : UInt64} (hr : Mid r) (hg : Mid g) (hb : Mid b) :
    Fin1 (iF r g b) ∧ 10000 * fx (iF r g b) - (5990 * fx r - 2773 * fx g - 3217 * fx b) ≤ 10000 * 100000 ∧ (5990 * fx r - 2773 * fx g - 3217 * fx b) - 10000 * fx (iF r g b) ≤ 10000 * 100000 := by
  obtain ⟨hy, y1, y2⟩ := yF_fx hr hg hb
  obtain ⟨hr, r0, r1⟩ := hr
  obtain ⟨hg, g0, g1⟩ := hg
  obtain ⟨hb, b0, b1⟩ := hb
  unfold iF
  generalize yF r g b = y at *
  obtain ⟨a1, p1, p2⟩ := sub_fx hr hy (by omega) (by omega)
  obtain ⟨a2, p3, p4⟩ := sub_fx hb hy (by omega) (by omega)
  generalize sub r y = d1 at *
  generalize sub b y = d2 at *
  obtain ⟨m1, q1, q2⟩ := mulk_fx a1 k74 (by decide) (by decide) (by omega) (by omega)
  obtain ⟨m2, q3, q4⟩ := mulk_fx a2 k27 (by decide) (by decide) (by omega) (by omega)
  generalize mul 0x3fe7ae147ae147ae d1 = u at *
  generalize mul 0x3fd147ae147ae148 d2 = v at *
  obtain ⟨s1, q5, q6⟩ := sub_fx m1 m2 (by omega) (by omega)
  refine ⟨s1, ?_, ?_⟩ <;> omega
theorem qF_fx {r g b : UInt64} (hr : Mid r) (hg : Mid g) (hb : Mid b) :
    Fin1 (qF r g b) ∧ 10000 * fx (qF r g b) - (2130 * fx r - 5251 * fx g + 3121 * fx b) ≤ 10000 * 100000 ∧ (2130 * fx r - 5251 * fx g + 3121 * fx b) - 10000 * fx (qF r g b) ≤ 10000 * 100000 := by
  obtain ⟨hy, y1, y2⟩ := yF_fx hr hg hb
  obtain ⟨hr, r0, r1⟩ := hr
  obtain ⟨hg, g0, g1⟩ := hg
  obtain ⟨hb, b0, b1⟩ := hb
  unfold qF
  generalize yF r g b = y at *
  obtain ⟨a1, p1, p2⟩ := sub_fx hr hy (by omega) (by omega)
  obtain ⟨a2, p3, p4⟩ := sub_fx hb hy (by omega) (by omega)
  generalize sub r y = d1 at *
  generalize sub b y = d2 at *
  obtain ⟨m1, q1, q2⟩ := mulk_fx a1 k48 (by decide) (by decide) (by omega) (by omega)
  obtain ⟨m2, q3, q4⟩ := mulk_fx a2 k41 (by decide) (by decide) (by omega) (by omega)
  generalize mul 0x3fdeb851eb851eb8 d1 = u at *
  generalize mul 0x3fda3d70a3d70a3d d2 = v at *
  obtain ⟨s1, q5, q6⟩ := add_fx m1 m2 (by omega) (by omega)
  refine ⟨s1, ?_, ?_⟩ <;> omega
end Mine
end

section
set_option maxRecDepth 100000
set_option maxHeartbeats 3200000
set_option linter.unusedVariables false
namespace Mine
open PySem PySem.Float64
theorem eq_of_near {d h j : Nat} (hd : 0 < d) (h1 : d * h < d * j + d) (h2 : d * j < d * h + d) : h = j := by
  have a1 : d * h < d * (j + 1) := by rw [Nat.mul_add, Nat.mul_one]; exact h1
  have a2 : d * j < d * (h + 1) := by rw [Nat.mul_add, Nat.mul_one]; exact h2
  have b1 := Nat.lt_of_mul_lt_mul_left a1
  have b2 := Nat.lt_of_mul_lt_mul_left a2
  omega
theorem half_of {n d v K j : Nat} (hd : 0 < d) (hK : 0 < K) (e : n * K = v * d) (h1 : 2 * v < (2 * j + 1) * K) (h2 : 2 * j * K < 2 * v + K) : halfEven n d = j := by
  have hn := halfEven_nearest n d hd j
  have hj : 2 * dist n (d * j) < d := by
    have k1 : 2 * n * K < (2 * (d * j) + d) * K := by
      have := Nat.mul_lt_mul_of_pos_right h1 hd
      have e1 : 2 * n * K = 2 * v * d := by rw [Nat.mul_assoc, e, Nat.mul_assoc]
      have e2 : (2 * (d * j) + d) * K = (2 * j + 1) * K * d := by grind
      rw [e1, e2]; exact this
    have k2 : 2 * (d * j) * K < (2 * n + d) * K := by
      have := Nat.mul_lt_mul_of_pos_right h2 hd
      have e1 : (2 * n + d) * K = (2 * v + K) * d := by grind
      have e2 : 2 * (d * j) * K = 2 * j * K * d := by grind
      rw [e1, e2]; exact this
    have l1 := Nat.lt_of_mul_lt_mul_right k1
    have l2 := Nat.lt_of_mul_lt_mul_right k2
    unfold dist
    omega
  refine eq_of_near hd ?_ ?_
  · unfold dist at *; omega
  · unfold dist at *; omega
theorem sgn_near {a : Bool} {v h K : Nat} {z : Int} (hK : 0 < K) (h1 : 2 * sgn a v < (2 * z + 1) * (K : Int)) (h2 : (2 * z - 1) * (K : Int) < 2 * sgn a v) (hh : ∀ j : Nat, 2 * v < (2 * j + 1) * K → 2 * j * K < 2 * v + K → h = j) : sgn a h = z := by
  have hKi : (0 : Int) < (K : Int) := Int.ofNat_lt.mpr hK
  unfold sgn at *
  cases a
  · simp only [Bool.false_eq_true, if_false] at *
    have hz : 0 ≤ z := by
      by_cases hz : 0 ≤ z
      · exact hz
      · have : (2 * z + 1) * (K : Int) ≤ 0 * (K : Int) := Int.mul_le_mul_of_nonneg_right (by omega) (by omega)
        omega
    obtain ⟨j, rfl⟩ := Int.eq_ofNat_of_zero_le hz
    have := hh j (by
      have : ((2 * v : Nat) : Int) < (((2 * j + 1) * K : Nat) : Int) := by
        rw [Int.natCast_mul, Int.natCast_mul]; push_cast; exact h1
      exact Int.ofNat_lt.mp this) (by
      have : ((2 * j * K : Nat) : Int) < ((2 * v + K : Nat) : Int) := by
        push_cast
        rw [Int.sub_mul, Int.one_mul] at h2
        omega
      exact Int.ofNat_lt.mp this)
    omega
  · simp only [if_true] at *
    have hz : z ≤ 0 := by
      by_cases hz : z ≤ 0
      · exact hz
      · have : 0 * (K : Int) ≤ (2 * z - 1) * (K : Int) := Int.mul_le_mul_of_nonneg_right (by omega) (by omega)
        omega
    obtain ⟨j, hj⟩ := Int.eq_ofNat_of_zero_le (show 0 ≤ -z by omega)
    have ez : z = -(j : Int) := by omega
    subst ez
    have := hh j (by
      have : ((2 * v : Nat) : Int) < (((2 * j + 1) * K : Nat) : Int) := by
        push_cast
        have e : (2 * -(j : Int) - 1) * (K : Int) = -((2 * (j : Int) + 1) * (K : Int)) := by grind
        rw [e] at h2
        omega
      exact Int.ofNat_lt.mp this) (by
      have : ((2 * j * K : Nat) : Int) < ((2 * v + K : Nat) : Int) := by
        push_cast
        have e : (2 * -(j : Int) + 1) * (K : Int) = (K : Int) - 2 * (j : Int) * (K : Int) := by grind
        rw [e] at h1
        omega
      exact Int.ofNat_lt.mp this)
    omega
theorem near_int {x : UInt64} {z : Int} (hx : Fin1 x) (h1 : 2 * val x < (2 * z + 1) * ((GG : Int) * 2 ^ 60)) (h2 : (2 * z - 1) * ((GG : Int) * 2 ^ 60) < 2 * val x) : Flt.toInt nearestOf x = z := by
  obtain ⟨a, m, e, hd⟩ := hx
  have he := decode_ge hd
  have hs := shift_one m e 1074 (by omega)
  have hsp := shift_pos m 1 e (by decide)
  have hv := val_eq hd
  unfold Flt.toInt
  rw [hd]
  show sgn a (halfEven (shift m 1 e).1 (shift m 1 e).2) = z
  rw [hv] at h1 h2
  rw [GG_1074] at hs
  have hK : 0 < GG * 2 ^ 60 := Nat.mul_pos GG_pos (Nat.two_pow_pos _)
  have e60 : ((2 ^ 60 : Nat) : Int) = 2 ^ 60 := by decide
  have hKi : ((GG * 2 ^ 60 : Nat) : Int) = (GG : Int) * 2 ^ 60 := by rw [Int.natCast_mul, e60]
  rw [← hKi] at h1 h2
  exact sgn_near hK h1 h2 fun j k1 k2 => half_of hsp hK hs k1 k2
end Mine
end

section
set_option maxRecDepth 100000
set_option maxHeartbeats 3200000
set_option linter.unusedVariables false
namespace Mine
open PySem PySem.Float64
theorem GG_1057 : 2 ^ 1057 = GG * 2 ^ 43 := by unfold GG; rw [← Nat.pow_add]
theorem GG_1110 : 2 ^ 1110 = GG * 2 ^ 96 := by unfold GG; rw [← Nat.pow_add]
theorem pow_big2 : (2 : Nat) ^ 1111 < (2 ^ 54 - 1) * 2 ^ 2045 := by decide +kernel
theorem right_wide {r : UInt64} {neg : Bool} {W D : Nat} (h : Right r neg W D) (hD : 0 < D) (hW : W ≤ D * 2 ^ 1110) :
    Fin1 r ∧ (D : Int) * val r - sgn neg W ≤ (D * 2 ^ 1057 : Nat) ∧ sgn neg W - (D : Int) * val r ≤ (D * 2 ^ 1057 : Nat) := by
  obtain ⟨t, hr, hle, hinf, hnear⟩ := h
  have ht : t < infMag := by
    refine Nat.lt_of_le_of_ne hle fun e => ?_
    have h1 := hinf.mp e
    have h2 : D * 2 ^ 1111 < D * ((2 ^ 54 - 1) * 2 ^ 2045) := Nat.mul_lt_mul_of_pos_left pow_big2 hD
    have e3 : (2 : Nat) ^ 1111 = 2 ^ 1110 * 2 := by rw [show (1111 : Nat) = 1110 + 1 from rfl, Nat.pow_succ]
    rw [e3, ← Nat.mul_assoc] at h2
    omega
  have hn := hnear ht
  have hg : 0 < D * 2 ^ 1057 := Nat.mul_pos hD (Nat.two_pow_pos _)
  obtain ⟨t', ht'⟩ := grid 1057 (W / (D * 2 ^ 1057)) (by
    refine Nat.div_le_of_le_mul ?_
    have e4 : D * 2 ^ 1057 * 2 ^ 53 = D * 2 ^ 1110 := by rw [Nat.mul_assoc, ← Nat.pow_add]
    rw [e4]; exact hW)
  have h5 := (hn t').1
  have h6 : dist W (D * V t') ≤ D * 2 ^ 1057 := by
    rw [ht']
    have e5 : D * (W / (D * 2 ^ 1057) * 2 ^ 1057) = D * 2 ^ 1057 * (W / (D * 2 ^ 1057)) := by
      generalize W / (D * 2 ^ 1057) = q
      generalize (2 : Nat) ^ 1057 = k
      rw [Nat.mul_comm q k, Nat.mul_assoc]
    rw [e5]
    have h7 := Nat.div_add_mod W (D * 2 ^ 1057)
    have h8 := Nat.mod_lt W hg
    generalize W / (D * 2 ^ 1057) = q at *
    generalize D * 2 ^ 1057 = g at *
    unfold dist
    generalize g * q = z at *
    omega
  have h9 : dist W (D * V t) ≤ D * 2 ^ 1057 := Nat.le_trans h5 h6
  obtain ⟨m, e, hd, hv⟩ := decode_pack neg ht
  rw [hr]
  refine ⟨⟨_, _, _, hd⟩, ?_⟩
  rw [val_pack neg ht]
  have e6 : (D : Int) * sgn neg (V t) = sgn neg (D * V t) := by
    unfold sgn
    cases neg
    · simp
    · simp [Int.mul_neg]
  rw [e6]
  generalize D * V t = z at *
  generalize D * 2 ^ 1057 = g at *
  unfold dist at h9
  unfold sgn
  cases neg
  · simp only [Bool.false_eq_true, if_false]; omega
  · simp only [if_true]; omega
theorem kBig {e : Int} (h1 : 1 ≤ e) (h9 : e ≤ 9) : fxOf (ofInt (134400000 * e)) = some (134400000 * e * 2 ^ 60) := by
  have : e = 1 ∨ e = 2 ∨ e = 3 ∨ e = 4 ∨ e = 5 ∨ e = 6 ∨ e = 7 ∨ e = 8 ∨ e = 9 := by omega
  rcases this with rfl | rfl | rfl | rfl | rfl | rfl | rfl | rfl | rfl <;> decide +kernel
theorem big_near {c x : UInt64} {n : Int} (hc : fxOf c = some (n * 2 ^ 60)) (hx : Fin1 x) (hn0 : 0 ≤ n) (hn1 : n ≤ 2 ^ 31) (b0 : -(2 ^ 64) ≤ fx x) (b1 : fx x ≤ 2 ^ 64) :
    Fin1 (mul c x) ∧ val (mul c x) - n * fx x * (GG : Int) ≤ 2 ^ 44 * (GG : Int) ∧ n * fx x * (GG : Int) - val (mul c x) ≤ 2 ^ 44 * (GG : Int) := by
  have hs := fxOf_spec hc
  obtain ⟨a, m, e, hdc⟩ := id hs.1
  obtain ⟨b, k, f, hdx⟩ := id hx
  have hr := mul_right hdc hdx
  have hsg : sgn (a != b) ((val c).natAbs * (val x).natAbs) = val c * val x := by rw [sgn_prod, ← val_sgn hdc, ← val_sgn hdx]
  have hG := G_pos
  have hvc : val c = n * ((GG : Int) * 2 ^ 60) := by rw [hs.2.2, Int.mul_assoc, Int.mul_comm (2 ^ 60)]
  have hcn : ((val c).natAbs : Int) = n * ((GG : Int) * 2 ^ 60) := by
    have : 0 ≤ n * ((GG : Int) * 2 ^ 60) := Int.mul_nonneg hn0 (Int.mul_nonneg (by omega) (by decide))
    rw [← hvc] at this ⊢
    omega
  have e60 : ((2 ^ 60 : Nat) : Int) = 2 ^ 60 := by decide
  have e96 : ((2 ^ 96 : Nat) : Int) = 2 ^ 96 := by decide
  have e43 : ((2 ^ 43 : Nat) : Int) = 2 ^ 43 := by decide
  have hW : (val c).natAbs * (val x).natAbs ≤ 2 ^ 1074 * 2 ^ 1110 := by
    rw [GG_1074, GG_1110]
    refine Int.ofNat_le.mp ?_
    rw [Int.natCast_mul, Int.natCast_mul, Int.natCast_mul, Int.natCast_mul, hcn, e60, e96]
    have hx2 := abs_fx x
    have q1 : ((fx x).natAbs : Int) + 1 ≤ 2 ^ 65 := by omega
    calc n * ((GG : Int) * 2 ^ 60) * ((val x).natAbs : Int) ≤ n * ((GG : Int) * 2 ^ 60) * ((((fx x).natAbs : Int) + 1) * (GG : Int)) := Int.mul_le_mul_of_nonneg_left hx2 (Int.mul_nonneg hn0 (Int.mul_nonneg (by omega) (by decide)))
      _ ≤ n * ((GG : Int) * 2 ^ 60) * (2 ^ 65 * (GG : Int)) := Int.mul_le_mul_of_nonneg_left (Int.mul_le_mul_of_nonneg_right q1 (by omega)) (Int.mul_nonneg hn0 (Int.mul_nonneg (by omega) (by decide)))
      _ ≤ 2 ^ 31 * ((GG : Int) * 2 ^ 60) * (2 ^ 65 * (GG : Int)) := Int.mul_le_mul_of_nonneg_right (Int.mul_le_mul_of_nonneg_right hn1 (Int.mul_nonneg (by omega) (by decide))) (Int.mul_nonneg (by decide) (by omega))
      _ = (GG : Int) * 2 ^ 60 * ((GG : Int) * 2 ^ 96) := by generalize (GG : Int) = g; grind
  have hn := right_wide hr (Nat.two_pow_pos _) hW
  rw [hsg, GG_1074, GG_1057, Int.natCast_mul, Int.natCast_mul, Int.natCast_mul, Int.natCast_mul, e60, e43, hvc] at hn
  obtain ⟨hf, n1, n2⟩ := hn
  have x1 := fx_le x
  have x2 := fx_gt x
  have hK : 0 < (GG : Int) * 2 ^ 60 := Int.mul_pos hG (by decide)
  refine ⟨hf, ?_, ?_⟩
  all_goals
    generalize val (mul c x) = R at *
    generalize val x = X at *
    generalize fx x = F at *
    have k1 : R - n * X ≤ 2 ^ 43 * (GG : Int) := by
      refine mul_cancel hK ?_
      generalize (GG : Int) = G at *
      grind
    have k2 : n * X - R ≤ 2 ^ 43 * (GG : Int) := by
      refine mul_cancel hK ?_
      generalize (GG : Int) = G at *
      grind
    have p1 : n * (F * (GG : Int)) ≤ n * X := Int.mul_le_mul_of_nonneg_left x1 hn0
    have p2 : n * X ≤ n * (F * (GG : Int) + (GG : Int)) := Int.mul_le_mul_of_nonneg_left (Int.le_of_lt x2) hn0
    have p3 : n * (GG : Int) ≤ 2 ^ 31 * (GG : Int) := Int.mul_le_mul_of_nonneg_right hn1 (by omega)
    rw [Int.mul_add] at p2
    rw [Int.mul_assoc n F]
    generalize n * (F * (GG : Int)) = A at *
    generalize n * (GG : Int) = B at *
    generalize n * X = Cc at *
    generalize (GG : Int) = G at *
    omega
end Mine
end

section
set_option maxRecDepth 100000
set_option maxHeartbeats 3200000
set_option linter.unusedVariables false
namespace Mine
open PySem PySem.Float64 PySem.W PyProof.Rows
theorem good_of {e d : Int} {z : UInt64} (h1 : 1 ≤ e) (h9 : e ≤ 9) (hz : Fin1 z) (b0 : -(2 ^ 64) ≤ fx z) (b1 : fx z ≤ 2 ^ 64)
    (n1 : 134400000 * e * fx z - d * 2 ^ 60 ≤ 2 ^ 58) (n2 : d * 2 ^ 60 - 134400000 * e * fx z ≤ 2 ^ 58) : Good e z d := by
  obtain ⟨hf, v1, v2⟩ := big_near (kBig h1 h9) hz (by omega) (by omega) b0 b1
  refine ⟨?_, ?_⟩
  · obtain ⟨a, m, g, hd⟩ := hf
    show isFinite (mul (ofInt (134400000 * e)) z) = true
    unfold isFinite
    rw [hd]
  · have hG := G_pos
    show Flt.toInt nearestOf (mul (ofInt (134400000 * e)) z) = d
    have m1 : (134400000 * e * fx z) * (GG : Int) ≤ (d * 2 ^ 60 + 2 ^ 58) * (GG : Int) := Int.mul_le_mul_of_nonneg_right (by omega) (by omega)
    have m2 : (d * 2 ^ 60 - 2 ^ 58) * (GG : Int) ≤ (134400000 * e * fx z) * (GG : Int) := Int.mul_le_mul_of_nonneg_right (by omega) (by omega)
    have e1 : (2 * d + 1) * ((GG : Int) * 2 ^ 60) = 2 * ((d * 2 ^ 60 + 2 ^ 58) * (GG : Int)) + 2 ^ 59 * (GG : Int) := by generalize (GG : Int) = G; grind
    have e2 : (2 * d - 1) * ((GG : Int) * 2 ^ 60) = 2 * ((d * 2 ^ 60 - 2 ^ 58) * (GG : Int)) - 2 ^ 59 * (GG : Int) := by generalize (GG : Int) = G; grind
    refine near_int hf ?_ ?_
    · rw [e1]
      generalize 134400000 * e * fx z * (GG : Int) = A at *
      generalize (d * 2 ^ 60 + 2 ^ 58) * (GG : Int) = B at *
      generalize (GG : Int) = G at *
      omega
    · rw [e2]
      generalize 134400000 * e * fx z * (GG : Int) = A at *
      generalize (d * 2 ^ 60 - 2 ^ 58) * (GG : Int) = B at *
      generalize (GG : Int) = G at *
      omega
theorem nine_mul {e D : Int} (h0 : 0 ≤ e) (h9 : e ≤ 9) (hD : D ≤ 2 ^ 54) : e * D ≤ 2 ^ 58 := by
  have h1 : e * D ≤ e * 2 ^ 54 := Int.mul_le_mul_of_nonneg_left hD h0
  omega
theorem good_e {e A d : Int} {z : UInt64} (h1 : 1 ≤ e) (h9 : e ≤ 9) (hz : Fin1 z) (b0 : -(2 ^ 64) ≤ fx z) (b1 : fx z ≤ 2 ^ 64) (hd : d = e * A)
    (n1 : 134400000 * fx z - A * 2 ^ 60 ≤ 2 ^ 54) (n2 : A * 2 ^ 60 - 134400000 * fx z ≤ 2 ^ 54) : Good e z d := by
  have m1 := nine_mul (by omega) h9 n1
  have m2 := nine_mul (by omega) h9 n2
  subst hd
  rw [Int.mul_sub] at m1 m2
  rw [← Int.mul_assoc, ← Int.mul_assoc, Int.mul_comm e 134400000] at m1 m2
  exact good_of h1 h9 hz b0 b1 m1 m2
theorem plainL : PlainL := by
  intro e start light pure f he1 he9 hs0 hs1 hl0 hl1 hp0 hp1 hf
  have hfb : ∀ j, j < e.toNat → -5040 ≤ f j ∧ f j ≤ 5040 := by
    intro j hj
    have hm0 : 0 ≤ minM e start j := fmod_lo _ (by decide)
    have hm1 : minM e start j < 5040 := fmod_hi _ (by decide)
    rcases hf j hj with h | h <;> omega
  have hn : e.toNat ≤ 9 := by omega
  have hni : ((e.toNat : Nat) : Int) = e := Int.toNat_of_nonneg (by omega)
  obtain ⟨a0, p0, q0⟩ := acc_fx (c := 0) hl0 hl1 hp0 hp1 (by decide) e.toNat hn hfb
  obtain ⟨a1, p1, q1⟩ := acc_fx (c := 1) hl0 hl1 hp0 hp1 (by decide) e.toNat hn hfb
  obtain ⟨a2, p2, q2⟩ := acc_fx (c := 2) hl0 hl1 hp0 hp1 (by decide) e.toNat hn hfb
  have r0 : e * sumZ light pure f 0 e.toNat = redZ e light start (wtO light pure) 0 := sumZ_red (l := light) (p := pure) (c := 0) he1 he9 hf
  have r1 : e * sumZ light pure f 1 e.toNat = redZ e light start (wtO light pure) 1 := sumZ_red (l := light) (p := pure) (c := 1) he1 he9 hf
  have r2 : e * sumZ light pure f 2 e.toNat = redZ e light start (wtO light pure) 2 := sumZ_red (l := light) (p := pure) (c := 2) he1 he9 hf
  have s0 := sumZ_le (f := f) (c := 0) hl0 hl1 hp0 hp1 e.toNat
  have s1 := sumZ_le (f := f) (c := 1) hl0 hl1 hp0 hp1 e.toNat
  have s2 := sumZ_le (f := f) (c := 2) hl0 hl1 hp0 hp1 e.toNat
  rw [hni] at p0 q0 p1 q1 p2 q2 s0 s1 s2
  unfold Good3
  generalize redZ e light start (wtO light pure) 0 = R0 at *
  generalize redZ e light start (wtO light pure) 1 = R1 at *
  generalize redZ e light start (wtO light pure) 2 = R2 at *
  generalize accF f (quF light 8) (quF pure 4) 0 e.toNat = X0 at *
  generalize accF f (quF light 8) (quF pure 4) 1 e.toNat = X1 at *
  generalize accF f (quF light 8) (quF pure 4) 2 e.toNat = X2 at *
  generalize sumZ light pure f 0 e.toNat = S0 at *
  generalize sumZ light pure f 1 e.toNat = S1 at *
  generalize sumZ light pure f 2 e.toNat = S2 at *
  clear hf hfb hn hni
  subst r0 r1 r2
  have m0 : Mid X0 := ⟨a0, by omega, by omega⟩
  have m1 : Mid X1 := ⟨a1, by omega, by omega⟩
  have m2 : Mid X2 := ⟨a2, by omega, by omega⟩
  obtain ⟨y0, y1, y2⟩ := yF_fx m0 m1 m2
  obtain ⟨i0, i1, i2⟩ := iF_fx m0 m1 m2
  obtain ⟨j0, j1, j2⟩ := qF_fx m0 m1 m2
  refine ⟨good_e (A := 3000 * S0 + 5900 * S1 + 1100 * S2) he1 he9 y0 (by omega) (by omega) ?_ ?_ ?_, good_e (A := 5990 * S0 - 2773 * S1 - 3217 * S2) he1 he9 i0 (by omega) (by omega) ?_ ?_ ?_, good_e (A := 2130 * S0 - 5251 * S1 + 3121 * S2) he1 he9 j0 (by omega) (by omega) ?_ ?_ ?_⟩
  · unfold dueA; grind
  · omega
  · omega
  · unfold dueB; grind
  · omega
  · omega
  · unfold dueC; grind
  · omega
  · omega
end Mine
end

section
open PySem PySem.Spec PySem.Calls PySem.W PyProof.Rows
set_option Elab.async false
set_option maxRecDepth 100000
set_option maxHeartbeats 3000000
set_option linter.unusedVariables false
namespace Mine
theorem eight_of {vs : List Value} {ns : List Int} (h : IntsAre vs (List.take 8 (List.take 8 ns ++ [0, 5, 3, 10, 1, 2, 4, 8]))) :
    ∃ a0 a1 a2 a3 a4 a5 a6 a7 t0 t1 t2 t3 t4 t5 t6 t7, vs = [Value.int a0 t0, Value.int a1 t1, Value.int a2 t2, Value.int a3 t3, Value.int a4 t4, Value.int a5 t5, Value.int a6 t6, Value.int a7 t7] := by
  have hl : (List.take 8 (List.take 8 ns ++ [0, 5, 3, 10, 1, 2, 4, 8])).length = 8 := by simp
  generalize (List.take 8 (List.take 8 ns ++ [0, 5, 3, 10, 1, 2, 4, 8])) = l at *
  match l, hl with
  | [a0, a1, a2, a3, a4, a5, a6, a7], _ =>
    cases h with | cons _ t0 h =>
    cases h with | cons _ t1 h =>
    cases h with | cons _ t2 h =>
    cases h with | cons _ t3 h =>
    cases h with | cons _ t4 h =>
    cases h with | cons _ t5 h =>
    cases h with | cons _ t6 h =>
    cases h with | cons _ t7 h =>
    cases h
    exact ⟨a0, a1, a2, a3, a4, a5, a6, a7, t0, t1, t2, t3, t4, t5, t6, t7, rfl⟩
local macro_rules | `(tactic| walk_at "exec Assign cons ListComp") => `(tactic| (k_here; k_dflt (refine LCg.Assign_ListComp_U (F₀ := by k_asm) (by rfl) (by with_unfolding_all rfl) (by rfl) (by decide) (by rfl) (by decide) (by rfl) (by rfl) (by rfl) ?_)))
local macro_rules | `(tactic| walk_at "CompSrc") => `(tactic| (k_here; (with_reducible rename IntsAre _ (List.take 8 (List.take 8 _ ++ _)) => hEight); refine Stop.intro ?_))

local macro_rules | `(tactic| walk_at "execs cons") => `(tactic| (k_here; (with_reducible show wpAny _ _ (execs (Stmt.Assign [Expr.Name (Str.ofString "mail") _] _ _ :: _) _) _ _ _); refine Stop.intro ?_))
theorem eight_ints {ys : List Value} {a0 a1 a2 a3 a4 a5 a6 a7 : Int} (h : IntsAre ys [a0, a1, a2, a3, a4, a5, a6, a7]) :
    ∃ t0 t1 t2 t3 t4 t5 t6 t7, ys = [Value.int a0 t0, Value.int a1 t1, Value.int a2 t2, Value.int a3 t3, Value.int a4 t4, Value.int a5 t5, Value.int a6 t6, Value.int a7 t7] := by
  cases h with | cons _ t0 h =>
  cases h with | cons _ t1 h =>
  cases h with | cons _ t2 h =>
  cases h with | cons _ t3 h =>
  cases h with | cons _ t4 h =>
  cases h with | cons _ t5 h =>
  cases h with | cons _ t6 h =>
  cases h with | cons _ t7 h =>
  cases h
  exact ⟨t0, t1, t2, t3, t4, t5, t6, t7, rfl⟩
theorem news_pick {h₀ h : Heap} {L : Addr} {d b1 b2 b3 b4 b5 : Addr × Obj} {o1 o2 o3 o4 o5 o6 : Obj} (N : News h₀ L h [d, b1, b2, b3, b4, b5, (L + 6, o6), (L + 5, o5), (L + 4, o4), (L + 3, o3), (L + 2, o2), (L + 1, o1)]) :
    News h₀ L h (cells6 L o1 o2 o3 o4 o5 o6 [d]) := by
  intro p hp
  refine N p ?_
  simp only [cells6, List.mem_cons, List.not_mem_nil, or_false] at hp ⊢
  rcases hp with h | h | h | h | h | h | h
  all_goals (simp only [h, true_or, or_true]; done)
theorem t0 (hPlain : PlainL) : PySem.Challenge.rw_xg0008_01.Holds := hd (by
  k_go0
  all_goals try k_fold
  k_steps
  unfold Stop
  (with_reducible rename IntsAre _ (List.take 8 (List.take 8 _ ++ _)) => hEight)
  obtain ⟨a0, a1, a2, a3, a4, a5, a6, a7, u0, u1, u2, u3, u4, u5, u6, u7, hvs⟩ := eight_of hEight
  clear hEight
  subst hvs
  k_steps
  unfold Stop
  (with_reducible rename IntsAre _ (List.map _ _) => hI8)
  obtain ⟨y0, y1, y2, y3, y4, y5, y6, y7, hys⟩ := eight_ints hI8
  clear hI8
  subst hys
  (with_reducible rename Fr _ _ _ _ => kF)
  (with_reducible rename News _ _ _ _ => kN)
  have kM := news_pick kN
  have hR := fun (fa : Addr) (cd : Value) => @lawR fa cd hPlain
  unfold lawE lawP PySem.Challenge.pw_xg0008_01 at hR
  dsimp only [List.drop] at hR
  refine' hR _ _ _ ?kX ?kT ?kA ?kR ?kU ?kE kF kM ?z1 ?z2 ?z3 ?z4 ?z5 ?z6 ?_
  case kX => assumption
  case kT => assumption
  case kA => exact rfl
  case kR => (simp only [depth_deeper, depth_caller]; decide)
  case kU => ke_room
  case kE => passes_own
  case z1 => exact Eq.trans (by with_reducible assumption) (by with_unfolding_all rfl)
  case z2 => exact Eq.trans (by with_reducible assumption) (by with_unfolding_all rfl)
  case z3 => exact Eq.trans (by with_reducible assumption) (by with_unfolding_all rfl)
  case z4 => exact Eq.trans (by with_reducible assumption) (by with_unfolding_all rfl)
  case z5 => exact Eq.trans (by with_reducible assumption) (by with_unfolding_all rfl)
  case z6 => exact Eq.trans (by with_reducible assumption) (by with_unfolding_all rfl)
  intro h' k' m' F'
  clear kF kN kM hR
  k_steps)
end Mine
end

theorem PySem.Challenge.cw_xg0008_01_holds : PySem.Challenge.rw_xg0008_01.Holds := by
  exact Mine.t0 Mine.plainL
