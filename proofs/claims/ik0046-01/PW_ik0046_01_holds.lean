import PyProof.Rows.All
import Wide.All
import OpenK.AllK
import Wide.FinOn
import KE.LcTurns
import PyProof.CompFree
import PyProof.StrLawsLast
import Lean
import PySem.Challenge.RW_ik0046_01
open PySem PySem.W PySem.Calls PyProof.Rows
set_option Elab.async false
namespace Mine
open PySem PySem.W PyProof.Rows
noncomputable abbrev Tag (_H : Hook) (Q : Prop) : Prop := Q
theorem Tag.of {Q : Prop} (q : Q) (H : Hook) : Tag H Q := q
noncomputable def keepHook {Q : Prop} (H : Hook) (_ : Q → Tag H Q) : Hook := H
local macro_rules | `(tactic| o_head ($f $k $a $e)) => `(tactic| exact Tag.of (by assumption) ($f $k $a $e))
/-- the library's own hook for this row: its part of the heap is hook0.heap_1 -/
noncomputable def hook0 : Hook := by
  refine' keepHook (Q := PySem.Challenge.rw_ik0046_01.row.Holds) _ (fun h => ?_)
  rotate_left
  k_head
inductive Wrap (K : Params → Frag) : Prop | mk
theorem Wrap.of (K : Params → Frag) : Wrap K := ⟨⟩
noncomputable def unwrap {K : Params → Frag} (_ : Wrap K) : Params → Frag := K
/-- hook0.heap_1, written out, so that no lemma about its twin is laid (it would be 4 MB, and nothing uses it) -/
noncomputable def part : Params → Frag := by
  refine' unwrap (K := ?_) ?_
  rotate_left
  have w : Wrap hook0.heap_1 := .of _
  delta hook0.heap_1 at w
  exact w
theorem part_eq : part = hook0.heap_1 := rfl
noncomputable def hook : Hook := kHook part [2, 3, 15, 17, 18, 20, 21, 22, 24, 25, 27, 28, 29, 31, 32, 34, 35, 36, 43, 45, 46, 48, 49, 50, 51, 52, 55, 62, 64, 65, 67, 68, 69, 71, 72, 74, 75, 76, 78, 79, 81, 82, 83, 84, 85, 88, 90, 91, 93, 94, 95, 97, 98, 100, 101, 102, 104, 105, 107, 108, 109, 111, 112, 114, 115, 116, 118, 119, 121, 122, 123, 125, 126, 128, 129, 130, 132, 133, 135, 136, 137, 139, 140, 142, 143, 144, 145, 146, 147, 148, 149, 150, 151, 152, 153, 154, 155, 156, 157, 158, 159, 160, 161, 162, 163, 164, 165, 166, 167, 168, 169, 170, 171, 172, 173, 174, 175, 176, 177, 179, 180, 182, 183, 184, 186, 187, 189, 190, 191, 193, 194, 196, 197, 198, 201, 202, 203, 205, 206, 208, 209, 210, 212, 213, 215, 216, 217, 219, 220, 222, 223, 224, 226, 227, 229, 230, 231, 234, 235, 236, 238, 239, 241, 242] (fun _ => by kernel_rfl)
local macro_rules | `(tactic| k_head) => `(tactic| o_head Mine.hook)
set_option maxRecDepth 100000 in
set_option maxHeartbeats 8000000 in
open_top hd for PySem.Challenge.rw_ik0046_01
theorem says_eq : Hook.says hook = Hook.says (kHook hook0.heap_1 [2, 3, 15, 17, 18, 20, 21, 22, 24, 25, 27, 28, 29, 31, 32, 34, 35, 36, 43, 45, 46, 48, 49, 50, 51, 52, 55, 62, 64, 65, 67, 68, 69, 71, 72, 74, 75, 76, 78, 79, 81, 82, 83, 84, 85, 88, 90, 91, 93, 94, 95, 97, 98, 100, 101, 102, 104, 105, 107, 108, 109, 111, 112, 114, 115, 116, 118, 119, 121, 122, 123, 125, 126, 128, 129, 130, 132, 133, 135, 136, 137, 139, 140, 142, 143, 144, 145, 146, 147, 148, 149, 150, 151, 152, 153, 154, 155, 156, 157, 158, 159, 160, 161, 162, 163, 164, 165, 166, 167, 168, 169, 170, 171, 172, 173, 174, 175, 176, 177, 179, 180, 182, 183, 184, 186, 187, 189, 190, 191, 193, 194, 196, 197, 198, 201, 202, 203, 205, 206, 208, 209, 210, 212, 213, 215, 216, 217, 219, 220, 222, 223, 224, 226, 227, 229, 230, 231, 234, 235, 236, 238, 239, 241, 242] (fun _ => by kernel_rfl)) := rfl
end Mine
local macro_rules
  | `(tactic| walk_at "call ref") => `(tactic| k_extra "m_use")
  | `(tactic| walk_at "call builtin:list.append") => `(tactic| k_extra "m_append")
  | `(tactic| walk_at "eval Name") => `(tactic| k_extra "m_name")
  | `(tactic| walk_at "binaryOp FloorDiv int int") => `(tactic| k_extra "m_div")
  | `(tactic| walk_at "binaryOp Mod int int") => `(tactic| k_extra "m_mod")
  | `(tactic| walk_at "subscriptTail") => `(tactic| k_extra "m_sub")
  | `(tactic| walk_at "call builtin:len") => `(tactic| k_extra "m_len")
  | `(tactic| walk_at "call builtin:abs") => `(tactic| k_extra "m_abs")
  | `(tactic| walk_at "call builtin:iter") => `(tactic| k_extra "m_iter")
  | `(tactic| walk_at "call builtin:next") => `(tactic| k_extra "m_next")
  | `(tactic| walk_at "loadName") => `(tactic| k_extra "m_ldn")
  | `(tactic| walk_at "call builtin:issubclass") => `(tactic| k_extra "m_isub")
  | `(tactic| walk_at "exec For Name Name cons nil") => `(tactic| k_extra "m_forN")
local macro_rules | `(tactic| k_mem) => `(tactic| k_extra "m_mem")
namespace Mine
open PySem PySem.W PySem.Calls PyProof.Rows
noncomputable abbrev Led := List (Addr × Obj)

/-- a call of the def at f from any frame of a def, at a depth of at most dp: all that stood stands behind it; what it hands back, and the ledger of what it made -/
noncomputable def Gives (w : World) (dp : Nat) (f : Addr) (vs : List Value) (Pre : Heap → Prop) (Ret : Led → Value → Prop) : Prop :=
  ∀ (prog : Program) (mean : ExcName → Option Value) (mg mb : Str → Option Value) (cn : Str) (cs : Scope) (a : Addr) (ccd : Value) (cl : List (Str × Addr)) (outer : List Env) (A₀ : Around) (base h₀ : Heap) (L : Addr) (m : Str → Option Value) (s : Shared) (Q E : Value → Shared → Prop),
    Below A₀ base outer h₀ → Fr h₀ L s.heap m → (hook0.heap_1 w.params).In h₀ → Top hd.view_39 (looseW hd.view_39 [Str.ofString "_filemode_table"]) mean mg mb h₀ → cs.kind = .function → Pre s.heap →
    (∀ r new h' tk', Fr h₀ L h' m → (∀ b o, s.heap.get? b = some o → h'.get? b = some o) → News s.heap L h' new → Ret new r → Q r { s with heap := h', toks := tk' }) →
    wpAny (model prog w) (ktrTop dp (20 * dp) (some []) cn cs L a ccd cl outer) (call (.ref f) vs) Q E s

theorem in_le {Γ : Ctx} {A : Around} {d u : Nat} (h : Γ.In { A with depth := d, units := u }) (hd : d ≤ A.depth) (hu : u ≤ A.units) : Γ.In A :=
  ⟨h.1, Nat.le_trans h.2.1 hd, h.2.2.1, h.2.2.2.1, Nat.le_trans h.2.2.2.2 hu⟩
theorem wpAny_le {α : Type} {M : Model} {A : Around} {d u : Nat} {t : Sem α} {Q : α → Shared → Prop} {E : Value → Shared → Prop} {s : Shared} (h : wpAny M A t Q E s) (hd : d ≤ A.depth) (hu : u ≤ A.units) :
    wpAny M { A with depth := d, units := u } t Q E s := fun Γ p hΓ => h Γ p (in_le hΓ hd hu)

theorem news_up {h₀ h h' : Heap} {L : Addr} {m : Str → Option Value} {new news : Led} (F : Fr h₀ L h m) (N : News h₀ L h news) (hk : ∀ b o, h.get? b = some o → h'.get? b = some o) (n : News h L h' new) : News h₀ L h' (new ++ news) := fun p hp => by
  rcases List.mem_append.mp hp with hp | hp
  · refine ⟨(n p hp).1, (n p hp).2.1, ?_⟩
    cases q : h₀.get? p.1 with
    | none => rfl
    | some o => have := (n p hp).2.2; rw [F.keep _ _ q] at this; cases this
  · exact N.grown hk p hp
/-- what a frame made, seen from the frame below -/
theorem news_out {h₀ h h' : Heap} {L L' : Addr} {m : Str → Option Value} {new : Led} (F : Fr h₀ L h m) (n : News h L' h' new) : News h L h' new := fun p hp => by
  refine ⟨(n p hp).1, fun e => ?_, (n p hp).2.2⟩
  obtain ⟨oL, _, _, hL, _⟩ := F.ns
  have := (n p hp).2.2
  rw [e, hL] at this
  cases this
theorem Gives.use {w : World} {dp : Nat} {f : Addr} {vs : List Value} {news : Led} {Pre : Heap → Prop} {Ret : Led → Value → Prop} (C : Gives w dp f vs Pre Ret)
    {prog : Program} {mean : ExcName → Option Value} {mg mb : Str → Option Value} {d u : Nat} {cn : Str} {cs : Scope} {a : Addr} {ccd : Value} {cl : List (Str × Addr)} {outer : List Env} {A₀ : Around} {base h₀ : Heap} {L : Addr} {m : Str → Option Value} {s : Shared} {Q E : Value → Shared → Prop}
    (B : Below A₀ base outer h₀) (F : Fr h₀ L s.heap m) (X : (hook0.heap_1 w.params).In h₀) (N : News h₀ L s.heap news) (T : Top hd.view_39 (looseW hd.view_39 [Str.ofString "_filemode_table"]) mean mg mb h₀) (hk : cs.kind = .function) (hd : d ≤ dp) (hu : u ≤ 20 * dp) (hp : Pre s.heap)
    (h : ∀ r new h' tk', Fr h₀ L h' m → News h₀ L h' (new ++ news) → (∀ p ∈ new, s.heap.get? p.1 = none) → Ret new r → Q r { s with heap := h', toks := tk' }) :
    wpAny (model prog w) (ktrTop d u (some []) cn cs L a ccd cl outer) (call (.ref f) vs) Q E s :=
  wpAny_le (A := ktrTop dp (20 * dp) (some []) cn cs L a ccd cl outer) (C prog mean mg mb cn cs a ccd cl outer A₀ base h₀ L m s Q E B F X T hk hp
    fun r new h' tk' F' hk' N' hr => h r new h' tk' F' (news_up F N hk' N') (fun p hp => (N' p hp).2.2) hr) hd hu

section
variable {prog : Program} {w : World} {A A₀ : Around} {E : Value → Shared → Prop} {s : Shared} {K : Frag} {L : Addr} {h₀ base : Heap} {m mg mb : Str → Option Value} {p : Program} {loose : List Str} {mean : ExcName → Option Value}
/-- into the def at f: its frame over the whole heap as it stands, its locals as they are bound -/
theorem m_call {env : Env} {outer : List Env} {Q : Value → Shared → Prop} {name qual : Str} {params : Arguments} {body : List Stmt} {scope : Scope} {dV kV doc pm cdv ct oc : Value} {an od : Option Addr} {osl : Array (Option Value)} {f : Addr} {vs : List Value} (binds : List (Str × Value))
    (B : Below A₀ base outer h₀) (F : Fr h₀ L s.heap m) (X₀ : K.In h₀) (T : Top p loose mean mg mb h₀) (hA : A.frames = some (env :: outer)) (hf : env.frame = some L) (hke : env.scope.kind = .function)
    (ho : K.lookup f = some ⟨oc, od, .func (fnOf name qual params body scope dV kV doc pm an cdv ct), osl⟩) (hcd : codeIn K cdv qual = true) (hroom : A.depth < recursionLimit)
    (hbind : bindArgs (fnOf name qual params body scope dV kV doc pm an cdv ct) ⟨vs, []⟩ = pure binds) (hloc : ∀ y ∈ binds, scope.names.lookup y.1 = some .local)
    (h : ∀ L' h₁ tk, Fr s.heap L' h₁ (fun y => binds.reverse.lookup y) → News s.heap L' h₁ [] → Below A base (env :: outer) s.heap → K.In s.heap → Top p loose mean mg mb s.heap →
      let e₁ := envOf qual scope L' f cdv
      let A₁ := A.deeper e₁
      wpAny (model prog w) A₁ (execs body e₁)
        (fun fl s' => LeaveK h₀ L m s.heap (fun r s' => match r with | .ok (.ret v) => Q v s' | .ok _ => False | .error e => E e s') (match fl with | .ret v => v | _ => .none) s')
        (fun e s' => wpAny (model prog w) A₁ (leaving e₁ e) (fun _ s'' => E e s'') (fun e' s'' => E e' s'') s')
        { s with heap := h₁, toks := tk })
    (hco : scope.isCoroutine = false) (hgen : scope.isGenerator = false) (hk : scope.kind = .function)
    (hcell : ∀ x ∈ scope.names, x.2 ≠ .cell) : wpAny (model prog w) A (call (.ref f) vs) Q E s := by
  have B₁ := pushX B F hf hke
  refine wpAny_call (codeAny_call_def (fd := fnOf name qual params body scope dV kV doc pm an cdv ct) (body := body) (binds := binds) hroom ((X₀.keeps F.keep) _ _ ho) rfl ((T.keeps F.keep).nolimit) (codeRec_of (X₀.keeps F.keep) hcd) rfl (BindsTo.of_eq hbind) hcell hloc (fun h₁ hns hk₁ => ?_) hco hgen hk)
  refine wpAny_mono (h s.heap.objs.size h₁ _ ⟨hns, hk₁, Nat.le_refl _⟩ News.nil ⟨hA, fun b o e => F.keep b o (B.stays b o e), B₁.frames⟩ (X₀.keeps F.keep) (T.keeps F.keep)) (fun fl s' hl => ?_) fun _ _ y => y
  obtain ⟨L', m', news', F', N', k⟩ := hl
  exact k (F.keeps F'.keep) (fun p hp => news_up (news := []) F News.nil F'.keep (news_out F N') p (List.mem_append_left _ hp))
end

/-- the count of tokens, forgotten -/
theorem any_toks {α : Type} {M : Model} {A : Around} {t : Sem α} {Q : α → Shared → Prop} {E : Value → Shared → Prop} {h : Heap} {g : Array GenState} {d : Drawn} {a b c e : Nat} {os : OsState}
    (k : ∀ tk, wpAny M A t Q E ⟨h, g, d, tk, os⟩) : wpAny M A t Q E ⟨h, g, d, a + b + c + e, os⟩ := k _
theorem wp_peek1 {α : Type} {K : Frag} {M : Model} {A : Around} {E : Value → Shared → Prop} {Q : α → Shared → Prop} {s : Shared} {o : Obj} {r : Addr → α} (X : K.In s.heap)
    (q : Q (r s.heap.objs.size) { s with heap := s.heap.push o }) :
    ∀ (t : Sem α) (g : Addr → Option α), peek1 K ⟨M.prog, M.w.params⟩ t = some (o, g) → (∀ D, g D = some (r D)) → wpAny M A t Q E s := by
  intro t
  induction t with
  | rule _ k ih => intro g e hg Γ p hΓ; exact ih () g e hg Γ p hΓ
  | point _ k ih => intro g e hg Γ p hΓ; exact ih () g e hg Γ p hΓ
  | ask k ih => intro g e hg Γ p hΓ; exact ih _ g e hg Γ p hΓ
  | load a _ k ih =>
    intro g e hg Γ p hΓ
    simp only [peek1] at e
    split at e
    · rename_i ob ho; exact ⟨ob, X _ _ ho, ih ob g e hg Γ p hΓ⟩
    · cases e
  | alloc ob k _ =>
    intro g e hg
    have e : some (ob, fun D => peek K ⟨M.prog, M.w.params⟩ (k D)) = some (o, g) := e
    obtain ⟨e1, e2⟩ := Prod.mk.inj (Option.some.inj e)
    subst e1
    subst e2
    have X' : K.In (s.heap.push ob) := X.keeps fun b x hb => Heap.get?_push_of_some _ hb
    show wpAny M A (alloc ob >>= k) Q E s
    refine wpAny_bind (wpAny_alloc ?_)
    exact (Looks.of_peek (M := M) (h := s.heap.push ob) X' (hg s.heap.objs.size)).here (s := { s with heap := s.heap.push ob }) q
  | _ => intro g e; cases e

section
variable {prog : Program} {w : World} {A A₀ : Around} {E : Value → Shared → Prop} {s : Shared} {K : Frag} {L : Addr} {h₀ base : Heap} {m mg mb : Str → Option Value} {p : Program} {loose : List Str} {mean : ExcName → Option Value}
/-- m_call for a def with a starred parameter: its tuple is made -/
theorem m_callR {env : Env} {outer : List Env} {Q : Value → Shared → Prop} {name qual : Str} {params : Arguments} {body : List Stmt} {scope : Scope} {dV kV doc pm cdv ct oc : Value} {an od : Option Addr} {osl : Array (Option Value)} {f : Addr} {vs tv : List Value} {g₁ : Addr → Option (List (Str × Value))} (binds : Addr → List (Str × Value))
    (B : Below A₀ base outer h₀) (F : Fr h₀ L s.heap m) (X₀ : K.In h₀) (T : Top p loose mean mg mb h₀) (hA : A.frames = some (env :: outer)) (hf : env.frame = some L) (hke : env.scope.kind = .function)
    (ho : K.lookup f = some ⟨oc, od, .func (fnOf name qual params body scope dV kV doc pm an cdv ct), osl⟩) (hcd : codeIn K cdv qual = true) (hroom : A.depth < recursionLimit)
    (hp : peek1 K ⟨prog, w.params⟩ (bindArgs (fnOf name qual params body scope dV kV doc pm an cdv ct) ⟨vs, []⟩) = some (({ cls := .type "tuple", data := .seq tv.toArray } : Obj), g₁))
    (hg : ∀ D, g₁ D = some (binds D)) (hloc : ∀ D, ∀ y ∈ binds D, scope.names.lookup y.1 = some .local)
    (h : ∀ D L' h₁ tk, Fr s.heap L' h₁ (fun y => (binds D).reverse.lookup y) → News s.heap L' h₁ [(D, ({ cls := .type "tuple", data := .seq tv.toArray } : Obj))] → Below A base (env :: outer) s.heap → K.In s.heap → Top p loose mean mg mb s.heap →
      let e₁ := envOf qual scope L' f cdv
      let A₁ := A.deeper e₁
      wpAny (model prog w) A₁ (execs body e₁)
        (fun fl s' => LeaveK h₀ L m s.heap (fun r s' => match r with | .ok (.ret v) => Q v s' | .ok _ => False | .error e => E e s') (match fl with | .ret v => v | _ => .none) s')
        (fun e s' => wpAny (model prog w) A₁ (leaving e₁ e) (fun _ s'' => E e s'') (fun e' s'' => E e' s'') s')
        { s with heap := h₁, toks := tk })
    (hco : scope.isCoroutine = false) (hgen : scope.isGenerator = false) (hk : scope.kind = .function)
    (hcell : ∀ x ∈ scope.names, x.2 ≠ .cell) : wpAny (model prog w) A (call (.ref f) vs) Q E s := by
  have B₁ := pushX B F hf hke
  refine wpAny_call (codeAny_call_function (fd := fnOf name qual params body scope dV kV doc pm an cdv ct) (body := body) hroom ((X₀.keeps F.keep) _ _ ho) rfl hco hgen rfl (codeRec_of (X₀.keeps F.keep) hcd) ?_)
  refine wp_peek1 (o := ({ cls := .type "tuple", data := .seq tv.toArray } : Obj)) (X₀.keeps F.keep) (r := binds) ?_ _ g₁ hp hg
  have hp1 : ∀ b o, s.heap.get? b = some o → (s.heap.push ({ cls := .type "tuple", data := .seq tv.toArray } : Obj)).get? b = some o := fun b o e => Heap.get?_push_of_some _ e
  refine wpAny_newFunctionEnv hcell (hloc _) (fun h₁ hns hsb => ⟨(((T.keeps F.keep).nolimit).keeps hp1).fresh _ hsb, codeAny_func ?_⟩) hk
  have hk₁ : ∀ b o, (s.heap.push ({ cls := .type "tuple", data := .seq tv.toArray } : Obj)).get? b = some o → h₁.get? b = some o := fun b o e => hsb.extBut b o (Nat.ne_of_lt (Heap.lt_size e)) (Heap.get?_push_of_some _ e)
  have hD := Heap.get?_push_size s.heap (o := ({ cls := .type "tuple", data := .seq tv.toArray } : Obj)) rfl
  refine wpAny_mono (h s.heap.objs.size _ h₁ _ ⟨hns, fun b o e => hk₁ b o (hp1 b o e), ?_⟩ ?_ ⟨hA, fun b o e => F.keep b o (B.stays b o e), B₁.frames⟩ (X₀.keeps F.keep) (T.keeps F.keep)) (fun fl s' hl => ?_) fun _ _ y => y
  · show s.heap.objs.size ≤ (s.heap.push _).objs.size
    rw [Heap.size_push]; exact Nat.le_succ _
  · intro q hq
    rw [List.mem_singleton.mp hq]
    refine ⟨hk₁ _ _ hD, Nat.ne_of_lt (Heap.lt_size hD), ?_⟩
    exact Heap.get?_none_of_le (Nat.le_refl _)
  · obtain ⟨L', m', news', F', N', k⟩ := hl
    exact k (F.keeps F'.keep) (fun p hp => news_up (news := []) F News.nil F'.keep (news_out F N') p (List.mem_append_left _ hp))
end
end Mine
namespace Mine
open PySem PySem.W PySem.Calls PyProof.Rows
theorem words : PySem.Challenge.rw_ik0046_01 = PySem.Challenge.rw_ik0046_01 ∧ hook0.heap_1 = hook0.heap_1 := by
  k_with_none
  k_fill
  k_with "m_intro" => intro prog mean mg mb cn cs a ccd cl outer A₀ base h₀ L m s Q E B F X T hk hpre hret
  k_with "m_enter" => (
    (case k6 => k_dflt k_is); (case k7 => k_dflt k_is); (case k8 => exact Nat.le_of_ble_eq_true rfl); (case k9 => exact rfl); (case c5 => decide); (case kB => exact locs rfl); (case c2 => exact rfl); (case c3 => exact rfl); (case c4 => exact rfl)
    k_whole
    intro L' h' tk F' N' B' X' T' e₁ A₁
    (try dsimp only)
    (try dsimp only [List.reverse, List.reverseAux] at F')
    (try k_fold))
  k_with "m_isub" => (k_here; (with_reducible show wpAny _ _ (call (Value.builtin "issubclass") [Value.type "str", Value.ref _]) _ _ _); k_dflt (refine issub_call (News.get (by k_asm) (by k_mem)) ?_); try dsimp only)
  exact ⟨rfl, rfl⟩
theorem isub_strstr : isSubtype (.type "str") (.type "str") = pure true := by rw [isSubtype_type]; kernel_rfl
theorem isub_typ : typeOf (.type "str") = pure (.type "type") := by kernel_rfl
theorem issub_self {prog : Program} {w : World} {A : Around} {E : Value → Shared → Prop} {k : Value} {dep : Int} {tk : Tok} {s : Shared} {Q : Fin → Shared → Prop} (hk : k = .int dep tk)
    (hq : Q (.done (.ret (.bool true))) s) : wpAny (model prog w) A (Builtin.«issubclass.nested» ⟨[.type "str", .type "str", k], []⟩) Q E s := by
  subst hk
  have f1 := isub_strstr
  have f2 := isub_typ
  repeat (any_goals (first | assumption | (rw [f2]) | (rw [f1]) | wp_step))
theorem entry_issub_nested : entryFor table "issubclass.nested" = some Builtin.«issubclass.nested» := F.entry_issubclass_nested
theorem kind_issub_nested : builtinKind "issubclass.nested" = none := by decide +kernel
theorem plain_issub_nested : plainId "issubclass.nested" = true := by decide +kernel
theorem args_issub_nested (a b c : Value) : argsOk "issubclass.nested" ⟨[a, b, c], []⟩ := by unfold argsOk; kernel_rfl
theorem issub_str {prog : Program} {w : World} {A : Around} {E : Value → Shared → Prop} {tp : Addr} {cs rest : List Value} {tk : Tok} {s : Shared} {Q : Fin → Shared → Prop} (hcs : cs = .type "str" :: rest)
    (htp : s.heap.get? tp = some { cls := .type "tuple", data := .seq cs.toArray })
    (hq : Q (.done (.ret (.bool true))) { s with toks := s.toks }) : wpAny (model prog w) A (Builtin.«issubclass.nested» ⟨[.type "str", .ref tp, .int 0 tk], []⟩) Q E s := by
  obtain ⟨h, g, d, t, os⟩ := s
  have hT2 : (⟨h, g, d, t, os⟩ : Shared).TypeIs (.ref tp) "tuple" := ⟨_, htp, rfl⟩
  have f1 := F.isi_sub_tuple
  repeat (any_goals (first | assumption | wp_step))
  refine wpAny_arrayLoop ?_
  simp only [Option.getD_some, List.toList_toArray]
  subst hcs
  rw [List.forIn_cons]
  refine wpAny_bind (wpAny_bind (call_function_meets kind_issub_nested plain_issub_nested entry_issub_nested (args_issub_nested _ _ _) (S := fun _ R s => R (.ok (.ret (.bool true))) s) (fun _ _ _ _ _ hs => issub_self rfl hs) ?_))
  show wpAny _ _ (truthy (.bool true) >>= _) _ _ _
  refine wpAny_bind (m := truthy (.bool true)) (wpAny_pure ?_)
  exact wpAny_bind (wpAny_pure (wpAny_pure (wpAny_pure (wpAny_pure hq))))
theorem issub_call {prog : Program} {w : World} {A : Around} {E : Value → Shared → Prop} {tp : Addr} {rest : List Value} {s : Shared} {Q : Value → Shared → Prop}
    (htp : s.heap.get? tp = some { cls := .type "tuple", data := .seq (.type "str" :: rest).toArray }) (hq : Q (.bool true) s) :
    wpAny (model prog w) A (call (.builtin "issubclass") [.type "str", .ref tp]) Q E s :=
  call_issubclass (S := fun _ R s => s.heap.get? tp = some { cls := .type "tuple", data := .seq (.type "str" :: rest).toArray } ∧ R (.ok (.ret (.bool true))) s)
    (fun _ _ _ _ _ hs => issubclass_outer (issub_str rfl hs.1 hs.2)) ⟨htp, hq⟩


set_option maxRecDepth 100000 in
set_option maxHeartbeats 2000000 in
theorem fspath (w : World) (x : Str) (t : Tok) : Gives w 800 101 [.str x t] (fun _ => True) (fun new r => new = [] ∧ ∃ t, r = .str x t) := by
  k_extra "m_intro"
  refine' m_call [(Str.ofString "path", .str x t)] B F X T rfl rfl hk ?k6 ?k7 ?k8 ?k9 ?kB ?_ ?c2 ?c3 ?c4 ?c5
  k_extra "m_enter"
  k_steps
  refine hret _ _ _ _ (by assumption) (Fr.keep (by assumption)) News.nil ⟨rfl, _, rfl⟩
set_option maxRecDepth 100000 in
set_option maxHeartbeats 2000000 in
theorem sifmt (w : World) (x : Int) (t : Tok) : Gives w 800 143 [.int x t] (fun _ => True) (fun new r => new = [] ∧ ∃ t, r = .int (Builtin.bitAnd x 61440) t) := by
  k_extra "m_intro"
  refine' m_call [(Str.ofString "mode", .int x t)] B F X T rfl rfl hk ?k6 ?k7 ?k8 ?k9 ?kB ?_ ?c2 ?c3 ?c4 ?c5
  k_extra "m_enter"
  k_steps
  refine hret _ _ _ _ (by assumption) (Fr.keep (by assumption)) News.nil ⟨rfl, _, rfl⟩
set_option maxRecDepth 100000 in
set_option maxHeartbeats 2000000 in
theorem getsep (w : World) (x : Str) (t : Tok) : Gives w 800 115 [.str x t] (fun _ => True) (fun new r => new = [] ∧ ∃ t, r = .str (Str.ofString "/") t) := by
  k_extra "m_intro"
  refine' m_call [(Str.ofString "path", .str x t)] B F X T rfl rfl hk ?k6 ?k7 ?k8 ?k9 ?kB ?_ ?c2 ?c3 ?c4 ?c5
  k_extra "m_enter"
  k_steps
  refine hret _ _ _ _ (by assumption) (Fr.keep (by assumption)) News.nil ⟨rfl, _, rfl⟩
end Mine
namespace Mine
open PySem PySem.W PySem.Calls PySem.Spec PyProof.Rows PyProof.V
section
variable {prog : Program} {w : World} {A : Around} {E : Value → Shared → Prop} {s : Shared} {env : Env} {h₀ : Heap} {target : Expr} {body orelse : List Stmt} {Q : Flow → Shared → Prop}

/-- a loop over the iterator it, from s₂ on, in which nothing is raised -/
noncomputable def MTurns (prog : Program) (w : World) (A : Around) (env : Env) (target : Expr) (body orelse : List Stmt) (Q : Flow → Shared → Prop) (it : Value) (s₂ : Shared) : Prop :=
  codeAny (model prog w) A (.forLoop target it body orelse env) (fun r s' => match r with | .ok f => Q f s' | .error _ => False) s₂

theorem m_for {iter : Expr} {pos : Pos}
    (h : wpAny (model prog w) A (eval iter env) (fun xv s₁ => wpAny (model prog w) A (pyIter xv) (fun it s₂ => MTurns prog w A env target body orelse Q it s₂) E s₁) E s)
    (hs : ∀ x, foldedSetIterable iter env x = pure x) :
    wpAny (model prog w) A (exec (.For target iter body orelse pos) env) Q E s := by
  refine wpAny_For (wpAny_mono h (fun xv s₁ h₁ => wpAny_mono h₁ (fun it s₂ h₂ => ?_) fun _ _ e => e) fun _ _ e => e) hs
  refine codeAny_mono h₂ fun r s' hr => ?_
  cases r with
  | ok f => exact hr
  | error e => exact hr.elim

/-- an object that is no list and no tuple -/
noncomputable def Itr (o : Obj) : Prop := o.cls ≠ .type "list" ∧ o.cls ≠ .type "tuple" ∧ o.cls ≠ .type "bytes_iterator"

noncomputable def TurnP (h₀ : Heap) (L : Addr) (J : (Str → Option Value) → Led → Prop) (ow : Led) (s : Shared) (Q : Flow → Shared → Prop) (f : Flow) (s₂ : Shared) : Prop :=
  match f with
  | .ret v => Q (.ret v) s₂
  | .brk => Q .next s₂
  | _ => ∃ h' tk m' news', s₂ = { s with heap := h', toks := tk } ∧ Fr h₀ L h' m' ∧ News h₀ L h' news' ∧ (∀ p ∈ ow, p ∈ news') ∧ J m' news'
theorem TurnP.next {L : Addr} {J : (Str → Option Value) → Led → Prop} {ow news' : Led} {m' : Str → Option Value} {h' : Heap} {tk : Nat} (F : Fr h₀ L h' m') (N : News h₀ L h' news') (ho : ∀ p ∈ ow, p ∈ news') (hj : J m' news') :
    TurnP h₀ L J ow s Q .next { s with heap := h', toks := tk } := ⟨h', tk, m', news', rfl, F, N, ho, hj⟩

/-- what an invariant says of the ledger, it says of its lists and tuples, and of the objects kp that stood ahead of the loop -/
noncomputable def MonoJ (kp : Led) (J : Nat → (Str → Option Value) → Led → Prop) : Prop := ∀ i m nx nx', J i m nx → (∀ p ∈ nx, (p.2.cls = .type "list" ∨ p.2.cls = .type "tuple" ∨ p ∈ kp ∨ p.2.cls = .type "bytes_iterator") → p ∈ nx') → J i m nx'

theorem m_loop {I : Addr} {fp wr : List Addr} {n : Nat} {P Md : Nat → Value → Heap → Prop} {St : Nat → Heap → Prop} {m : Str → Option Value} {news : Led} {hp : Heap} {tk0 : Nat} (kp : Led) (J : Nat → (Str → Option Value) → Led → Prop) (hmono : MonoJ kp J) (hkp : ∀ p ∈ kp, p.1 ∉ wr)
    (W : KTurns prog w A target I fp wr n P Md St) (hLf : env.locals ∉ fp) (hwr : ∀ b ∈ wr, h₀.get? b = none) (hcl : ∀ i h, St i h → ∀ b ∈ wr, ∃ o, h.get? b = some o ∧ Itr o)
    (hkeep : ∀ b ∈ fp, b ∉ wr → (∃ o, h₀.get? b = some o) ∨ ∃ o, ∀ i m nx, J i m nx → (b, o) ∈ nx) (hnw : ∀ p ∈ news, p.1 ∉ wr) (hst : St 0 hp) (F : Fr h₀ env.locals hp m) (N : News h₀ env.locals hp news) (h0 : J 0 m news)
    (turn : ∀ i v m₁ nx h tk ow, i < n → P i v h → J i m₁ nx → (∀ p ∈ ow, Itr p.2) → Fr h₀ env.locals h m₁ → News h₀ env.locals h (ow ++ nx) →
      ∀ Qt : Flow → Shared → Prop, (∀ f s₂, TurnP h₀ env.locals (J (i + 1)) ow s Q f s₂ → Qt f s₂) → wpAny (model prog w) A (assign target env v) (fun _ s₂ => wpAny (model prog w) A (execs body env) Qt (fun _ _ => False) s₂) (fun _ _ => False) { s with heap := h, toks := tk })
    (done : ∀ m₁ nx h tk, J n m₁ nx → Fr h₀ env.locals h m₁ → News h₀ env.locals h nx → wpAny (model prog w) A (execs orelse env) Q (fun _ _ => False) { s with heap := h, toks := tk }) :
    MTurns prog w A env target body orelse Q (.ref I) { s with heap := hp, toks := tk0 } := by
  have hLw : env.locals ∉ wr := fun h => hLf (W.sub _ h)
  have old : ∀ b o, h₀.get? b = some o → b ∉ wr := fun b o e hb => by rw [hwr b hb] at e; cases e
  refine codeAny_forLoop_any (s := { s with heap := hp, toks := tk0 })
    (fun k s' => ∃ h' tk m' news' i, s' = { s with heap := h', toks := tk } ∧ St i h' ∧ Fr h₀ env.locals h' m' ∧ News h₀ env.locals h' news' ∧ (∀ p ∈ news', p.1 ∉ wr) ∧ J i m' news' ∧ i ≤ n ∧ k = n + 1 - i) ?_ (n + 1)
    ⟨hp, tk0, m, news, 0, rfl, hst, F, N, hnw, h0, Nat.zero_le _, rfl⟩
  rintro k s' ⟨h', tk, m', news', i, rfl, hst', F', N', hnw', hJ, hi, rfl⟩
  have next : ∀ h₁ : Heap, (∀ b o, b ∉ wr → h'.get? b = some o → h₁.get? b = some o) → Fr h₀ env.locals h₁ m' ∧ News h₀ env.locals h₁ news' := fun h₁ hk₁ =>
    ⟨⟨F'.ns.at' fun o e => hk₁ _ o hLw e, fun b o e => hk₁ b o (old b o e) (F'.keep b o e), F'.above⟩, fun p hp => ⟨hk₁ _ _ (hnw' p hp) (N' p hp).1, (N' p hp).2⟩⟩
  by_cases hlt : i < n
  · refine W.item i _ _ _ hlt hst' fun v h₁ tk₁ hMd hk₁ => ?_
    refine W.go i v _ _ _ hMd fun h₂ hP hst₂ hk₂ => ?_
    obtain ⟨F₂, N₂⟩ := next h₂ fun b o hb x => hk₂ b o hb (hk₁ b o hb x)
    have Nown : News h₀ env.locals h₂ (PyProof.Rows.ownOf h₀ fp h₂) := news_ownOf hLf
    let ow : Led := (PyProof.Rows.ownOf h₀ fp h₂).filter fun p => decide (p.1 ∈ wr)
    have how : ∀ p ∈ ow, p ∈ PyProof.Rows.ownOf h₀ fp h₂ ∧ p.1 ∈ wr := fun p hp => by
      have := List.mem_filter.mp hp
      exact ⟨this.1, of_decide_eq_true this.2⟩
    have hcl₂ := hcl _ _ hst₂
    refine wpAny_mono (wpAny_noRaise (turn i v m' news' h₂ tk₁ ow hlt hP hJ (fun p hp => ?_) F₂ (News.append (fun p hp => Nown p (how p hp).1) N₂) _ fun _ _ x => x)) (fun _ s₂ h₂' => wpAny_mono (wpAny_noRaise h₂') (fun f s₃ h₃ => ?_) fun _ _ e => e) fun _ _ e => e
    · obtain ⟨o, ho, hI⟩ := hcl₂ p.1 (how p hp).2
      rw [(Nown p (how p hp).1).1] at ho
      rw [Option.some.inj ho]; exact hI
    · have fin : (∃ h' tk m' news', s₃ = { s with heap := h', toks := tk } ∧ Fr h₀ env.locals h' m' ∧ News h₀ env.locals h' news' ∧ (∀ p ∈ ow, p ∈ news') ∧ J (i + 1) m' news') →
          ∃ m, m < n + 1 - i ∧ ∃ h' tk m' news' i, s₃ = { s with heap := h', toks := tk } ∧ St i h' ∧ Fr h₀ env.locals h' m' ∧ News h₀ env.locals h' news' ∧ (∀ p ∈ news', p.1 ∉ wr) ∧ J i m' news' ∧ i ≤ n ∧ m = n + 1 - i := by
        rintro ⟨h₃', tk₃, m₂, news₂, rfl, F₃, N₃, ho₃, hJ₃⟩
        refine ⟨n + 1 - (i + 1), by rw [Nat.add_sub_add_right]; exact Nat.sub_lt_sub_right (Nat.le_of_lt hlt) (Nat.lt_succ_self n), h₃', tk₃, m₂, news₂.filter (fun p => decide (p.1 ∉ wr)), i + 1, rfl, ?_, F₃, fun p hp => N₃ p (List.mem_filter.mp hp).1, fun p hp => of_decide_eq_true (List.mem_filter.mp hp).2, hmono _ _ _ _ hJ₃ fun p hp hc => List.mem_filter.mpr ⟨hp, ?_⟩, hlt, rfl⟩
        · refine W.frame _ _ _ hst₂ fun b hb o e => ?_
          cases hn : h₀.get? b with
          | some o₀ =>
            have : o₀ = o := by have q := F₂.keep b o₀ hn; rw [e] at q; exact (Option.some.inj q).symm
            exact this ▸ F₃.keep b o₀ hn
          | none =>
            by_cases hbw : b ∈ wr
            · exact (N₃ _ (ho₃ (b, o) (List.mem_filter.mpr ⟨mem_ownOf hb hn e, by simpa using hbw⟩))).1
            · rcases hkeep b hb hbw with ⟨o', ho'⟩ | ⟨o', ho'⟩
              · rw [hn] at ho'; cases ho'
              · have e1 := (N₂ _ (ho' _ _ _ hJ)).1
                have e2 := (N₃ _ (ho' _ _ _ hJ₃)).1
                rw [e] at e1
                rw [Option.some.inj e1]; exact e2
        · by_cases hpw : p.1 ∈ wr
          · obtain ⟨o, ho, hI⟩ := hcl₂ p.1 hpw
            have hm : (p.1, o) ∈ ow := List.mem_filter.mpr ⟨mem_ownOf (W.sub _ hpw) (hwr _ hpw) ho, by simpa using hpw⟩
            have e1 := (N₃ _ (ho₃ _ hm)).1
            rw [(N₃ p hp).1] at e1
            rw [Option.some.inj e1] at hc
            exact absurd hc (fun h => h.elim hI.1 fun h => h.elim hI.2.1 fun h => h.elim (fun h => hkp p h hpw) hI.2.2)
          · simpa using hpw
      cases f with
      | ret v => exact h₃
      | brk => exact h₃
      | cont => exact fin h₃
      | next => exact fin h₃
  · have hin : i = n := by omega
    subst hin
    refine W.done _ _ _ hst' fun h₁ tk₁ hk₁ => ?_
    obtain ⟨F₁, N₁⟩ := next h₁ hk₁
    exact wpAny_noRaise (done m' news' h₁ tk₁ hJ F₁ N₁)
theorem itr_of {o : Obj} {n : String} (h : o.cls = .type n) (h1 : n ≠ "list") (h2 : n ≠ "tuple") (h3 : n ≠ "bytes_iterator") : Itr o := ⟨fun e => h1 (Value.type.inj (h.symm.trans e)), fun e => h2 (Value.type.inj (h.symm.trans e)), fun e => h3 (Value.type.inj (h.symm.trans e))⟩
end
end Mine
namespace Mine
open PySem PySem.W PySem.Calls PySem.Spec PyProof.Rows PyProof.V
section
variable {prog : Program} {w : World} {A : Around} {E : Value → Shared → Prop} {s : Shared} {env : Env} {h₀ : Heap} {target : Expr} {body orelse : List Stmt} {Q : Flow → Shared → Prop}

/-- over a list that stood ahead of the frame -/
theorem m_iterB {l : Addr} {vs : List Value} {m₀ : Str → Option Value} {news : Led} (kp : Led) (J : Nat → (Str → Option Value) → Led → Prop) (hmono : MonoJ kp J) (hkp : ∀ p ∈ kp, p ∈ news)
    (hh : A.handled = none) (hl : h₀.IsList l vs.toArray) (F : Fr h₀ env.locals s.heap m₀) (N : News h₀ env.locals s.heap news) (h0 : J 0 m₀ news)
    (turn : ∀ i v m₁ nx h tk ow, i < vs.length → vs[i]? = some v → J i m₁ nx → (∀ p ∈ ow, Itr p.2) → Fr h₀ env.locals h m₁ → News h₀ env.locals h (ow ++ nx) →
      ∀ Qt : Flow → Shared → Prop, (∀ f s₂, TurnP h₀ env.locals (J (i + 1)) ow s Q f s₂ → Qt f s₂) → wpAny (model prog w) A (assign target env v) (fun _ s₂ => wpAny (model prog w) A (execs body env) Qt (fun _ _ => False) s₂) (fun _ _ => False) { s with heap := h, toks := tk })
    (done : ∀ m₁ nx h tk, J vs.length m₁ nx → Fr h₀ env.locals h m₁ → News h₀ env.locals h nx → wpAny (model prog w) A (execs orelse env) Q (fun _ _ => False) { s with heap := h, toks := tk }) :
    wpAny (model prog w) A (pyIter (.ref l)) (fun it s₂ => MTurns prog w A env target body orelse Q it s₂) E s := by
  have hls : s.heap.IsList l vs.toArray := hl.at fun o e => F.keep l o e
  obtain ⟨ol, hol, _⟩ := id hl
  have hlt : l < h₀.objs.size := Heap.lt_size hol
  have hne : l ≠ s.heap.objs.size := Nat.ne_of_lt (Nat.lt_trans (Nat.lt_of_lt_of_le hlt F.above) F.ns.lt)
  refine wpAny_pyIter_list hls ?_
  refine m_loop (tk0 := s.toks) kp J hmono (fun p hp hI => absurd (Heap.lt_size (N p (hkp p hp)).1) ((List.mem_singleton.mp hI) ▸ Nat.lt_irrefl _)) (KTurns.ofWalks (Walks.list hh s.heap.objs.size l hne vs.toArray) fun i v s Q E st q => letGo_listiter st.1 q) ?_ ?_ ?_ ?_ ?_ ⟨⟨_, Heap.get?_push_size _ rfl, rfl, rfl⟩, hls.at fun o e => Heap.get?_push_of_some _ e⟩ (F.push _) (fun p hp => ⟨Heap.get?_push_of_some _ (N p hp).1, (N p hp).2⟩) h0 ?_ ?_
  · intro hm
    rcases List.mem_cons.mp hm with e | hm
    · exact absurd F.ns.lt (e ▸ Nat.lt_irrefl _)
    · exact absurd (Nat.lt_of_lt_of_le hlt F.above) ((List.mem_singleton.mp hm) ▸ Nat.lt_irrefl _)
  · intro b hb
    rw [List.mem_singleton.mp hb]
    exact next_is_new F
  · intro i h st b hb
    rw [List.mem_singleton.mp hb]
    obtain ⟨o, ho, hc, _⟩ := st.1
    exact ⟨o, ho, itr_of hc (by decide) (by decide) (by decide)⟩
  · intro b hb hbw
    rcases List.mem_cons.mp hb with e | hb
    · exact absurd (List.mem_singleton.mpr e) hbw
    · exact .inl ⟨ol, (List.mem_singleton.mp hb) ▸ hol⟩
  · intro p hp hI
    exact absurd (Heap.lt_size (N p hp).1) ((List.mem_singleton.mp hI) ▸ Nat.lt_irrefl _)
  · intro i v m₁ nx h tk ow hi hP
    exact turn i v m₁ nx h tk ow (by simpa using hi) (by simpa using hP)
  · intro m₁ nx h tk hj
    exact done m₁ nx h tk (by simpa using hj)

/-- over a list of the ledger, that stays -/
theorem m_iterL {l : Addr} {vs : List Value} {k : Nat} {m₀ : Str → Option Value} {news : Led} (kp : Led) (J : Nat → (Str → Option Value) → Led → Prop) (hmono : MonoJ kp J) (hkp : ∀ p ∈ kp, p ∈ news)
    (hh : A.handled = none) (hl : ∀ i m nx, J i m nx → (l, listOf vs.toArray k) ∈ nx) (F : Fr h₀ env.locals s.heap m₀) (N : News h₀ env.locals s.heap news) (h0 : J 0 m₀ news)
    (turn : ∀ i v m₁ nx h tk ow, i < vs.length → vs[i]? = some v → J i m₁ nx → (∀ p ∈ ow, Itr p.2) → Fr h₀ env.locals h m₁ → News h₀ env.locals h (ow ++ nx) →
      ∀ Qt : Flow → Shared → Prop, (∀ f s₂, TurnP h₀ env.locals (J (i + 1)) ow s Q f s₂ → Qt f s₂) → wpAny (model prog w) A (assign target env v) (fun _ s₂ => wpAny (model prog w) A (execs body env) Qt (fun _ _ => False) s₂) (fun _ _ => False) { s with heap := h, toks := tk })
    (done : ∀ m₁ nx h tk, J vs.length m₁ nx → Fr h₀ env.locals h m₁ → News h₀ env.locals h nx → wpAny (model prog w) A (execs orelse env) Q (fun _ _ => False) { s with heap := h, toks := tk }) :
    wpAny (model prog w) A (pyIter (.ref l)) (fun it s₂ => MTurns prog w A env target body orelse Q it s₂) E s := by
  have hm := N _ (hl _ _ _ h0)
  have hls : s.heap.IsList l vs.toArray := ⟨_, hm.1, rfl, k, rfl⟩
  have hne : l ≠ s.heap.objs.size := Nat.ne_of_lt (Heap.lt_size hm.1)
  refine wpAny_pyIter_list hls ?_
  refine m_loop (tk0 := s.toks) kp J hmono (fun p hp hI => absurd (Heap.lt_size (N p (hkp p hp)).1) ((List.mem_singleton.mp hI) ▸ Nat.lt_irrefl _)) (KTurns.ofWalks (Walks.list hh s.heap.objs.size l hne vs.toArray) fun i v s Q E st q => letGo_listiter st.1 q) ?_ ?_ ?_ ?_ ?_ ⟨⟨_, Heap.get?_push_size _ rfl, rfl, rfl⟩, hls.at fun o e => Heap.get?_push_of_some _ e⟩ (F.push _) (fun p hp => ⟨Heap.get?_push_of_some _ (N p hp).1, (N p hp).2⟩) h0 ?_ ?_
  · intro hI
    rcases List.mem_cons.mp hI with e | hI
    · exact absurd F.ns.lt (e ▸ Nat.lt_irrefl _)
    · exact hm.2.1 (List.mem_singleton.mp hI).symm
  · intro b hb
    rw [List.mem_singleton.mp hb]
    exact next_is_new F
  · intro i h st b hb
    rw [List.mem_singleton.mp hb]
    obtain ⟨o, ho, hc, _⟩ := st.1
    exact ⟨o, ho, itr_of hc (by decide) (by decide) (by decide)⟩
  · intro b hb hbw
    rcases List.mem_cons.mp hb with e | hb
    · exact absurd (List.mem_singleton.mpr e) hbw
    · rw [List.mem_singleton.mp hb]
      exact .inr ⟨_, hl⟩
  · intro p hp hI
    exact absurd (Heap.lt_size (N p hp).1) ((List.mem_singleton.mp hI) ▸ Nat.lt_irrefl _)
  · intro i v m₁ nx h tk ow hi hP
    exact turn i v m₁ nx h tk ow (by simpa using hi) (by simpa using hP)
  · intro m₁ nx h tk hj
    exact done m₁ nx h tk (by simpa using hj)

/-- over a tuple that stood ahead of the frame -/
theorem m_iterT {l : Addr} {vs : List Value} {m₀ : Str → Option Value} {news : Led} (kp : Led) (J : Nat → (Str → Option Value) → Led → Prop) (hmono : MonoJ kp J) (hkp : ∀ p ∈ kp, p ∈ news)
    (hh : A.handled = none) (hl : h₀.IsTuple l vs.toArray) (F : Fr h₀ env.locals s.heap m₀) (N : News h₀ env.locals s.heap news) (h0 : J 0 m₀ news)
    (turn : ∀ i v m₁ nx h tk ow, i < vs.length → vs[i]? = some v → J i m₁ nx → (∀ p ∈ ow, Itr p.2) → Fr h₀ env.locals h m₁ → News h₀ env.locals h (ow ++ nx) →
      ∀ Qt : Flow → Shared → Prop, (∀ f s₂, TurnP h₀ env.locals (J (i + 1)) ow s Q f s₂ → Qt f s₂) → wpAny (model prog w) A (assign target env v) (fun _ s₂ => wpAny (model prog w) A (execs body env) Qt (fun _ _ => False) s₂) (fun _ _ => False) { s with heap := h, toks := tk })
    (done : ∀ m₁ nx h tk, J vs.length m₁ nx → Fr h₀ env.locals h m₁ → News h₀ env.locals h nx → wpAny (model prog w) A (execs orelse env) Q (fun _ _ => False) { s with heap := h, toks := tk }) :
    wpAny (model prog w) A (pyIter (.ref l)) (fun it s₂ => MTurns prog w A env target body orelse Q it s₂) E s := by
  have hls : s.heap.IsTuple l vs.toArray := hl.at fun o e => F.keep l o e
  obtain ⟨ol, hol, _⟩ := id hl
  have hlt : l < h₀.objs.size := Heap.lt_size hol
  have hne : l ≠ s.heap.objs.size := Nat.ne_of_lt (Nat.lt_trans (Nat.lt_of_lt_of_le hlt F.above) F.ns.lt)
  refine wpAny_pyIter_tuple hls ?_
  refine m_loop (tk0 := s.toks) kp J hmono (fun p hp hI => absurd (Heap.lt_size (N p (hkp p hp)).1) ((List.mem_singleton.mp hI) ▸ Nat.lt_irrefl _)) (KTurns.ofWalks (Walks.tuple hh s.heap.objs.size l hne vs.toArray) fun i v s Q E st q => letGo_tupleiter st.1 q) ?_ ?_ ?_ ?_ ?_ ⟨⟨_, Heap.get?_push_size _ rfl, rfl, rfl⟩, hls.at fun o e => Heap.get?_push_of_some _ e⟩ (F.push _) (fun p hp => ⟨Heap.get?_push_of_some _ (N p hp).1, (N p hp).2⟩) h0 ?_ ?_
  · intro hm
    rcases List.mem_cons.mp hm with e | hm
    · exact absurd F.ns.lt (e ▸ Nat.lt_irrefl _)
    · exact absurd (Nat.lt_of_lt_of_le hlt F.above) ((List.mem_singleton.mp hm) ▸ Nat.lt_irrefl _)
  · intro b hb
    rw [List.mem_singleton.mp hb]
    exact next_is_new F
  · intro i h st b hb
    rw [List.mem_singleton.mp hb]
    obtain ⟨o, ho, hc, _⟩ := st.1
    exact ⟨o, ho, itr_of hc (by decide) (by decide) (by decide)⟩
  · intro b hb hbw
    rcases List.mem_cons.mp hb with e | hb
    · exact absurd (List.mem_singleton.mpr e) hbw
    · exact .inl ⟨ol, (List.mem_singleton.mp hb) ▸ hol⟩
  · intro p hp hI
    exact absurd (Heap.lt_size (N p hp).1) ((List.mem_singleton.mp hI) ▸ Nat.lt_irrefl _)
  · intro i v m₁ nx h tk ow hi hP
    exact turn i v m₁ nx h tk ow (by simpa using hi) (by simpa using hP)
  · intro m₁ nx h tk hj
    exact done m₁ nx h tk (by simpa using hj)

/-- over a range from nought by ones -/
theorem m_iterR {r : Addr} {b₀ : Int} {t₀ u₀ v₀ : Tok} {n : Nat} {m₀ : Str → Option Value} {news : Led} (kp : Led) (J : Nat → (Str → Option Value) → Led → Prop) (hmono : MonoJ kp J) (hkp : ∀ p ∈ kp, p ∈ news)
    (hh : A.handled = none) (hr : IsRange s.heap r 0 b₀ 1 t₀ u₀ v₀) (hsmall : Builtin.Range.small 0 b₀ 1 = true) (hn : Builtin.Range.rangeSize 0 b₀ 1 = (n : Int)) (F : Fr h₀ env.locals s.heap m₀) (N : News h₀ env.locals s.heap news) (h0 : J 0 m₀ news)
    (turn : ∀ i t m₁ nx h tk ow, i < n → J i m₁ nx → (∀ p ∈ ow, Itr p.2) → Fr h₀ env.locals h m₁ → News h₀ env.locals h (ow ++ nx) →
      ∀ Qt : Flow → Shared → Prop, (∀ f s₂, TurnP h₀ env.locals (J (i + 1)) ow s Q f s₂ → Qt f s₂) → wpAny (model prog w) A (assign target env (.int (i : Int) t)) (fun _ s₂ => wpAny (model prog w) A (execs body env) Qt (fun _ _ => False) s₂) (fun _ _ => False) { s with heap := h, toks := tk })
    (hgo : ∀ I i v (s : Shared) (Q : Unit → Shared → Prop) (E : Value → Shared → Prop), IsRangeIter s.heap I (0 + (i : Nat) * 1) ((n : Int) - (i : Nat)) 1 → Q () s → wpAny (model prog w) A (letOwnedTupleGo target (.ref I) v) Q E s)
    (done : ∀ m₁ nx h tk, J n m₁ nx → Fr h₀ env.locals h m₁ → News h₀ env.locals h nx → wpAny (model prog w) A (execs orelse env) Q (fun _ _ => False) { s with heap := h, toks := tk }) :
    wpAny (model prog w) A (pyIter (.ref r)) (fun it s₂ => MTurns prog w A env target body orelse Q it s₂) E s := by
  refine wpAny_pyIter_range hr hsmall ?_
  refine m_loop (tk0 := s.toks) kp J hmono (fun p hp hI => absurd (Heap.lt_size (N p (hkp p hp)).1) ((List.mem_singleton.mp hI) ▸ Nat.lt_irrefl _)) (KTurns.ofWalks (Walks.range hh s.heap.objs.size 0 1 n) fun i v s Q E st q => hgo _ _ v _ _ _ st q) ?_ ?_ ?_ ?_ ?_ (by show IsRangeIter _ _ _ _ _; rw [hn]; simpa using Heap.get?_push_size _ rfl) (F.push _) (fun p hp => ⟨Heap.get?_push_of_some _ (N p hp).1, (N p hp).2⟩) h0 ?_ ?_
  · intro hm
    exact absurd F.ns.lt ((List.mem_singleton.mp hm) ▸ Nat.lt_irrefl _)
  · intro b hb
    rw [List.mem_singleton.mp hb]
    exact next_is_new F
  · intro i h st b hb
    rw [List.mem_singleton.mp hb]
    exact ⟨_, st, itr_of rfl (by decide) (by decide) (by decide)⟩
  · intro b hb hbw
    exact absurd hb hbw
  · intro p hp hI
    exact absurd (Heap.lt_size (N p hp).1) ((List.mem_singleton.mp hI) ▸ Nat.lt_irrefl _)
  · rintro i v m₁ nx h tk ow hi ⟨t, rfl⟩
    have e1 : (0 : Int) + (i : Int) * 1 = (i : Int) := by omega
    rw [e1]
    exact turn i t m₁ nx h tk ow hi
  · exact done
end
end Mine
namespace Mine
open PySem PySem.W PySem.Calls PySem.Spec PyProof.Rows PyProof.V
section
variable {prog : Program} {w : World} {A : Around} {E : Value → Shared → Prop} {s : Shared} {h₀ : Heap} {L : Addr} {m : Str → Option Value}
/-- an item goes to a list of the ledger: the list stands changed, the rest as it was -/
theorem m_append {l : Addr} {xs : List Value} {n : Nat} {v : Value} {news : Led} {Q : Value → Shared → Prop} (F : Fr h₀ L s.heap m) (N : News h₀ L s.heap news) (hl : (l, listOf xs.toArray n) ∈ news) (hz : xs.length ≤ 1000)
    (h : ∀ h' news', Fr h₀ L h' m → News h₀ L h' news' → (l, listOf (xs ++ [v]).toArray (n + 1)) ∈ news' → (∀ p ∈ news, p.1 ≠ l → p ∈ news') → (∀ p ∈ news, p.2.cls ≠ .type "list" → p ∈ news') → Q .none { s with heap := h' }) :
    wpAny (model prog w) A (call (.builtin "list.append") [.ref l, v]) Q E s := by
  have z := N _ hl
  refine append_at (hsz := by rw [List.size_toArray]; exact Nat.le_trans hz (by decide)) z.1 fun h' hs ho' => ?_
  have e : xs.toArray.push v = (xs ++ [v]).toArray := by simp
  rw [e] at ho'
  have hN : News h₀ L h' ((l, listOf (xs ++ [v]).toArray (n + 1)) :: news.filter fun p => decide (p.1 ≠ l)) := by
    intro p hp
    rcases List.mem_cons.mp hp with rfl | hp
    · exact ⟨ho', z.2⟩
    · have hp' := List.mem_filter.mp hp
      exact ⟨(hs.2 p.1 (of_decide_eq_true hp'.2)).trans (N p hp'.1).1, (N p hp'.1).2⟩
  refine h h' _ (F.change hs z.2.1 z.2.2) hN (.head _) (fun p hp hne => .tail _ (List.mem_filter.mpr ⟨hp, decide_eq_true hne⟩)) fun p hp hc => .tail _ (List.mem_filter.mpr ⟨hp, decide_eq_true fun e => ?_⟩)
  have e1 := (N p hp).1
  rw [e, z.1] at e1
  exact hc (by rw [← Option.some.inj e1])

noncomputable def WhileP (h₀ : Heap) (L : Addr) (J : Nat → (Str → Option Value) → Led → Prop) (n : Nat) (s : Shared) (Q : Flow → Shared → Prop) (f : Flow) (s₃ : Shared) : Prop := match f with
  | .brk => Q .next s₃
  | .ret v => Q (.ret v) s₃
  | _ => ∃ k, k < n ∧ ∃ h' tk' m' nx', s₃ = { s with heap := h', toks := tk' } ∧ Fr h₀ L h' m' ∧ News h₀ L h' nx' ∧ J k m' nx'
theorem WhileP.next {J : Nat → (Str → Option Value) → Led → Prop} {n : Nat} {Q : Flow → Shared → Prop} {h' : Heap} {tk' : Nat} {m' : Str → Option Value} {nx' : Led} (k : Nat) (hk : k < n) (F : Fr h₀ L h' m') (N : News h₀ L h' nx') (hj : J k m' nx') : WhileP h₀ L J n s Q .next { s with heap := h', toks := tk' } :=
  ⟨k, hk, h', tk', m', nx', rfl, F, N, hj⟩
/-- a while in which nothing is raised -/
theorem m_while {env : Env} {test : PySem.Expr} {body orelse : List Stmt} {pos : Pos} {Q : Flow → Shared → Prop} (J : Nat → (Str → Option Value) → Led → Prop) (n : Nat) {m₀ : Str → Option Value} {news : Led}
    (F : Fr h₀ env.locals s.heap m₀) (N : News h₀ env.locals s.heap news) (hj : J n m₀ news)
    (turn : ∀ n m₁ nx h tk, J n m₁ nx → Fr h₀ env.locals h m₁ → News h₀ env.locals h nx → ∀ Qt : Flow → Shared → Prop, (∀ f s₂, WhileP h₀ env.locals J n s Q f s₂ → Qt f s₂) →
      wpAny (model prog w) A (isTrue test env (eval test env)) (fun b s₂ => if b = true
        then wpAny (model prog w) A (execs body env) Qt (fun _ _ => False) s₂
        else wpAny (model prog w) A (execs orelse env) Q (fun _ _ => False) s₂) (fun _ _ => False) { s with heap := h, toks := tk }) :
    wpAny (model prog w) A (exec (.While test body orelse pos) env) Q E s := by
  refine wpAny_noRaise (wpAny_While (codeAny_mono (codeAny_whileLoop (R := fun r s' => match r with | .ok f => Q f s' | .error _ => False)
    (fun n s' => ∃ h tk m nx, s' = { s with heap := h, toks := tk } ∧ Fr h₀ env.locals h m ∧ News h₀ env.locals h nx ∧ J n m nx) ?_ n ⟨s.heap, s.toks, m₀, news, rfl, F, N, hj⟩) fun r s' hr => ?_))
  · rintro n s' ⟨h, tk, m, nx, rfl, F', N', hj'⟩
    refine wpAny_mono (wpAny_noRaise (turn n m nx h tk hj' F' N' _ fun _ _ x => x)) (fun b s₂ h₂ => ?_) fun _ _ e => e
    cases b with
    | false => exact wpAny_noRaise h₂
    | true =>
      refine wpAny_mono (wpAny_noRaise h₂) (fun f s₃ h₃ => ?_) fun _ _ e => e
      cases f with
      | brk => exact h₃
      | ret v => exact h₃
      | next => obtain ⟨k, hk, h', tk', m', nx', e, a, b, c⟩ := h₃; exact ⟨k, hk, h', tk', m', nx', e, a, b, c⟩
      | cont => obtain ⟨k, hk, h', tk', m', nx', e, a, b, c⟩ := h₃; exact ⟨k, hk, h', tk', m', nx', e, a, b, c⟩
  · cases r with
    | ok f => exact hr
    | error e => exact hr.elim
/-- the iterators of a loop lie off the list that grows -/
theorem ow_keep {ow news news' : Led} (hi : ∀ p ∈ ow, Itr p.2) (hs : ∀ p ∈ news, p.2.cls ≠ .type "list" → p ∈ news') (hn : ∀ p ∈ ow, p ∈ news) : ∀ p ∈ ow, p ∈ news' := fun p hp => hs p (hn p hp) (hi p hp).1

/-- quotients by what they come to -/
theorem fdiv_to {a b c : Int} {t u : Tok} {Q : Value → Shared → Prop} (hb : b ≠ 0) (hc : a.fdiv b = c) (hb' : -536870912 < b ∧ b < 536870912) (h : Q (.int c s.toks) { s with toks := s.toks + 1 }) : wpAny (model prog w) A (binaryOp .FloorDiv (.int a t) (.int b u)) Q E s := by
  subst hc
  exact floordiv_int hb h (Or.inl (PyProof.noPylong_small (by omega)))
theorem fmod_to {a b c : Int} {t u : Tok} {Q : Value → Shared → Prop} (hb : b ≠ 0) (hc : a.fmod b = c) (h : Q (.int c s.toks) { s with toks := s.toks + 1 }) : wpAny (model prog w) A (binaryOp .Mod (.int a t) (.int b u)) Q E s := by
  subst hc
  exact mod_int' hb h
theorem fdiv_e {a b : Int} {t u : Tok} {Q : Value → Shared → Prop} (hb : 0 < b ∧ b < 536870912) (h : Q (.int (a / b) s.toks) { s with toks := s.toks + 1 }) : wpAny (model prog w) A (binaryOp .FloorDiv (.int a t) (.int b u)) Q E s :=
  fdiv_to (by omega) (Int.fdiv_eq_ediv_of_nonneg _ (by omega)) (by omega) h
theorem fmod_e {a b : Int} {t u : Tok} {Q : Value → Shared → Prop} (hb : 0 < b) (h : Q (.int (a % b) s.toks) { s with toks := s.toks + 1 }) : wpAny (model prog w) A (binaryOp .Mod (.int a t) (.int b u)) Q E s :=
  fmod_to (by omega) (Int.fmod_eq_emod_of_nonneg _ (by omega)) h
/-- one of two texts, at a place that is 0 or 1 -/
noncomputable def pick2 (k : Int) (a b : Str) : Str := if k = 0 then a else b
theorem pick2_len {k : Int} {a b : Str} (ha : a.length = 1) (hb : b.length = 1) : (pick2 k a b).length = 1 := by unfold pick2; split <;> assumption
theorem list2_item {value slice : PySem.Expr} {l : Addr} {a b : Str} {ta tb : Tok} {n : Nat} {k : Int} {u : Tok} {news : Led} {Q : Value → Shared → Prop} (N : News h₀ L s.heap news) (hm : (l, listOf [Value.str a ta, .str b tb].toArray n) ∈ news) (h0 : 0 ≤ k) (h1 : k < 2) (ha : a.length = 1) (hb : b.length = 1)
    (h : ∀ t x, x = pick2 k a b → x.length = 1 → Q (.str x t) s)
    (hs : subscripted slice false (.ref l) (.int k u) = operate [.ref l, .int k u] (getItem (.ref l) (.int k u)) := by with_unfolding_all rfl) :
    wpAny (model prog w) A (subscriptTail value slice (.ref l) (.int k u)) Q E s := by
  have hl : s.heap.IsList l [Value.str a ta, .str b tb].toArray := ⟨_, (N _ hm).1, rfl, n, rfl⟩
  refine tail_any hl.typeIs slot_list_getitem.lookup ?_ hs
  by_cases hk : k = 0
  · subst hk
    exact wpAny_getItem_list hl h0 (by omega) (x := .str a ta) rfl (h ta _ (by rw [pick2, if_pos rfl]) ha)
  · have hk1 : k = 1 := by omega
    subst hk1
    exact wpAny_getItem_list hl h0 (by omega) (x := .str b tb) rfl (h tb _ (by rw [pick2, if_neg (by decide)]) hb)
theorem tup2_item {value slice : PySem.Expr} {l : Addr} {a b : Str} {ta tb : Tok} {n : Nat} {k : Int} {u : Tok} {news : Led} {Q : Value → Shared → Prop} (N : News h₀ L s.heap news) (hm : (l, ({ cls := .type "tuple", data := .seq [Value.str a ta, .str b tb].toArray n } : Obj)) ∈ news) (h0 : 0 ≤ k) (h1 : k < 2) (ha : a.length = 1) (hb : b.length = 1)
    (h : ∀ t x, x = pick2 k a b → x.length = 1 → Q (.str x t) s)
    (hs : subscripted slice false (.ref l) (.int k u) = operate [.ref l, .int k u] (getItem (.ref l) (.int k u)) := by with_unfolding_all rfl) :
    wpAny (model prog w) A (subscriptTail value slice (.ref l) (.int k u)) Q E s := by
  have hl : IsTup s.heap l [Value.str a ta, .str b tb].toArray := News.isTup N hm
  by_cases hk : k = 0
  · subst hk
    exact item_tupleT hl (by decide) (by decide) (j := 0) rfl (x := .str a ta) rfl (h ta _ (by rw [pick2, if_pos rfl]) ha) hs
  · have hk1 : k = 1 := by omega
    subst hk1
    exact item_tupleT hl (by decide) (by decide) (j := 1) rfl (x := .str b tb) rfl (h tb _ (by rw [pick2, if_neg (by decide)]) hb) hs
end
end Mine
namespace Mine
open PySem PySem.W PySem.Calls PySem.Spec PyProof.Rows PyProof.V
open PySem.AutoSeq1 (wpAny_loadPart')
set_option maxRecDepth 100000
section
variable {prog : Program} {w : World} {A : Around} {E : Value → Shared → Prop} {s : Shared}

theorem nextOf_tuple_item {it l : Addr} {i : Nat} {items} {x : Value} {Q : Value → Shared → Prop} (hit : s.heap.IsTupleIter it l i)
    (hl : s.heap.IsTuple l items) (hx : items[i]? = some x)
    (hQ : ∀ h', h'.IsTupleIter it l (i + 1) → Heap.SameBut it s.heap h' → Q x { s with heap := h' }) :
    wpAny (model prog w) A (Builtin.SmallTypes.nextOf (.ref it)) Q E s := by
  obtain ⟨o, ho, hc, hd⟩ := id hit
  obtain ⟨ol, hol, _, nl, hdl⟩ := hl
  unfold Builtin.SmallTypes.nextOf
  refine wpAny_bind (wpAny_callSpecial?_slot (name := Str.ofString "__next__") hit.typeIs F.slot_tuple_iterator_next
    (wpAny_call_entry F.slot_tuple_iterator_next hit.typeIs F.entry_tuple_iterator_next ?_ (F.args_tuple_iterator_next_1 _)))
  show wpAny _ _ (field (.ref it) 0 >>= _) _ _ s
  refine wpAny_bind (wpAny_field ho hd (x := .ref l) rfl ?_)
  show wpAny _ _ (if (Value.ref l == Value.none) = true then _ else _) _ _ s
  rw [if_neg (show ¬ ((Value.ref l == Value.none) = true) from Bool.false_ne_true)]
  show wpAny _ _ (field (.ref it) 1 >>= _) _ _ s
  refine wpAny_bind (wpAny_field ho hd (x := .int i 0) rfl ?_)
  show wpAny _ _ (seqItems? (.ref l) >>= _) _ _ s
  refine wpAny_bind (wpAny_seqItems hol hdl ?_)
  simp only [Int.toNat_natCast, hx]
  refine wpAny_bind (wpAny_setField ho hd (by simp) (wpAny_pure ⟨x, rfl, wpAny_pure (hQ _ ?_ (Heap.SameBut.update ..))⟩))
  exact ⟨_, Heap.get?_update_self _ ho (Obj.isFreed_of_fields (Obj.data_mapFields hd _)), (Obj.cls_mapFields ..).trans hc, by
    rw [Obj.data_mapFields hd]; simp [rawInt]⟩

theorem nextOf_tuple_end {it l : Addr} {i : Nat} {items} {Q : Value → Shared → Prop} (hh : A.handled = none)
    (hit : s.heap.IsTupleIter it l i) (hl : s.heap.IsTuple l items) (hx : items[i]? = none)
    (hE : ∀ h' e, Heap.ExtBut it s.heap h' → (∃ o, h'.get? e = some o ∧ o.cls = .type "StopIteration") → E (.ref e) { s with heap := h' }) :
    wpAny (model prog w) A (Builtin.SmallTypes.nextOf (.ref it)) Q E s := by
  obtain ⟨o, ho, hc, hd⟩ := id hit
  obtain ⟨ol, hol, _, nl, hdl⟩ := hl
  unfold Builtin.SmallTypes.nextOf
  refine wpAny_bind (wpAny_callSpecial?_slot (name := Str.ofString "__next__") hit.typeIs F.slot_tuple_iterator_next
    (wpAny_call_entry F.slot_tuple_iterator_next hit.typeIs F.entry_tuple_iterator_next ?_ (F.args_tuple_iterator_next_1 _)))
  show wpAny _ _ (field (.ref it) 0 >>= _) _ _ s
  refine wpAny_bind (wpAny_field ho hd (x := .ref l) rfl ?_)
  show wpAny _ _ (if (Value.ref l == Value.none) = true then _ else _) _ _ s
  rw [if_neg (show ¬ ((Value.ref l == Value.none) = true) from Bool.false_ne_true)]
  show wpAny _ _ (field (.ref it) 1 >>= _) _ _ s
  refine wpAny_bind (wpAny_field ho hd (x := .int i 0) rfl ?_)
  show wpAny _ _ (seqItems? (.ref l) >>= _) _ _ s
  refine wpAny_bind (wpAny_seqItems hol hdl ?_)
  simp only [Int.toNat_natCast, hx]
  refine wpAny_bind (wpAny_rule (wpAny_bind (wpAny_setField ho hd (by simp) ?_)))
  show wpAny _ _ (newExc (.type "StopIteration") [] >>= _) _ _ _
  refine wpAny_bind ?_
  simp only [newExc, newTuple]
  refine wpAny_bind (wpAny_newObj_type ?_ (by size_fits))
  refine wpAny_bind (m := firstArgMember _ _) (wpAny_of_eq (a := Value.none) (by first | rfl | (simp only [firstArgMember]; rfl)) ?_)
  refine wpAny_newObj_type ?_ (by size_fits)
  simp only [raiseNew]
  refine wpAny_bind (wpAny_handled ?_)
  first | rw [show A.in1.handled = none from hh] | rw [hh]
  refine wpAny_bind (wpAny_pure (wpAny_throw ?_))
  exact hE _ _ (((Heap.SameBut.update ..).extBut.push _).push _) ⟨_, Heap.get?_push_size _ rfl, rfl⟩

theorem draws_tuple (hh : A.handled = none) (it l : Addr) (hne : l ≠ it) (items : Array Value) :
    Draws prog w A it [it, l] items.size (fun i v => items[i]? = some v) (fun i h => h.IsTupleIter it l i ∧ h.IsTuple l items) where
  live := fun _ _ st => let ⟨o, ho, _⟩ := st.1; ⟨o, ho⟩
  frame := fun _ _ _ st hk => ⟨st.1.at fun o e => hk it (by simp) o e, st.2.at fun o e => hk l (by simp) o e⟩
  item := fun i s Q E hi st hQ => by
    refine nextOf_tuple_item st.1 st.2 (x := items[i]) (by simp [hi]) fun h' hit' hs' => ?_
    exact hQ _ h' s.toks (by simp [hi]) ⟨hit', st.2.extBut hs'.extBut hne⟩ hs'
  done := fun s Q E st hE => nextOf_tuple_end hh st.1 st.2 (by simp) hE

theorem meets_enumerate_newT (l : Addr) (items : Array Value) (n : Nat) (dct : Option Addr) (sl : Array (Option Value)) :
    Meets (Builtin.«enumerate.__new__» ⟨[.type "enumerate", .ref l], []⟩) (fun _ R s => s.heap.get? l = some { cls := .type "tuple", dict := dct, data := .seq items n, slots := sl } ∧
      R (.ok (.ret (.ref (s.heap.push { cls := .type "tuple_iterator", data := .fields #[.ref l, .int 0 0] }).objs.size)))
        { s with heap := (s.heap.push { cls := .type "tuple_iterator", data := .fields #[.ref l, .int 0 0] }).push { cls := .type "enumerate", data := .fields #[.none, .bool false, .ref s.heap.objs.size, rawInt 0, .none, .none] } }) :=
  .of_wp fun prog w A R s h => by
    obtain ⟨hp, g, d, tk, os⟩ := s; obtain ⟨hl, h⟩ := h
    have hsub := sub_enumerate
    have hL : Heap.IsTuple (Shared.heap ⟨hp, g, d, tk, os⟩) l items := ⟨_, hl, rfl, n, rfl⟩
    wp_walk using wpAny_loadPart' hl
    refine wpAny_stack_any fun st => wpAny_pure ?_
    split
    · rename_i c _ _ _ _ _
      cases (c == Value.type "enumerate")
      · wp_walk using wpAny_loadPart' hl, wpAny_pyIter_tuple hL
        exact ⟨_, rfl, h⟩
      · wp_walk using wpAny_loadPart' hl, wpAny_pyIter_tuple hL
        exact ⟨_, rfl, h⟩
    · wp_walk using wpAny_loadPart' hl, wpAny_pyIter_tuple hL
      exact ⟨_, rfl, h⟩

theorem call_enumerate_tuple {l : Addr} {items : Array Value} {Q : Value → Shared → Prop} (hL : s.heap.IsTuple l items)
    (h : ∀ h', IsEnum h' (s.heap.objs.size + 1) s.heap.objs.size 0 .none → h'.IsTupleIter s.heap.objs.size l 0 → h'.objs.size = s.heap.objs.size + 2 →
      (∀ b o, s.heap.get? b = some o → h'.get? b = some o) → Q (.ref (s.heap.objs.size + 1)) { s with heap := h' }) :
    wpAny (model prog w) A (call (.type "enumerate") [.ref l]) Q E s := by
  obtain ⟨⟨c, dct, dt, sl⟩, hl, hc, n, hd⟩ := hL
  replace hc : c = .type "tuple" := hc
  replace hd : dt = .seq items n := hd
  subst hc hd
  refine callType_new F.called_enumerate (by decide) (F.typeCall_enumerate_1 _) (F.newCall_enumerate_1 _) (fun obj => F.args_object_init_2 obj _) F.entry_enumerate_new
    (meets_enumerate_newT l items n dct sl) ⟨hl, ?_⟩
  have hz : (s.heap.push { cls := .type "tuple_iterator", data := .fields #[.ref l, .int 0 0] }).objs.size = s.heap.objs.size + 1 := Heap.size_push ..
  show _ ∧ _
  rw [hz]
  have he : IsEnum ((s.heap.push { cls := .type "tuple_iterator", data := .fields #[.ref l, .int 0 0] }).push
      { cls := .type "enumerate", data := .fields #[.none, .bool false, .ref s.heap.objs.size, rawInt 0, .none, .none] }) (s.heap.objs.size + 1) s.heap.objs.size 0 .none := by
    have := Heap.get?_push_size (s.heap.push { cls := .type "tuple_iterator", data := .fields #[.ref l, .int 0 0] })
      (o := { cls := .type "enumerate", data := .fields #[.none, .bool false, .ref s.heap.objs.size, rawInt 0, .none, .none] }) rfl
    rw [hz] at this; exact this
  refine ⟨⟨_, he, rfl⟩, h _ he ⟨_, Heap.get?_push_of_some _ (Heap.get?_push_size _ rfl), rfl, rfl⟩ (by rw [Heap.size_push, hz]) fun b o x => Heap.get?_push_of_some _ (Heap.get?_push_of_some _ x)⟩
end

section
variable {prog : Program} {w : World} {A : Around} {E : Value → Shared → Prop} {s : Shared} {env : Env} {h₀ : Heap} {body orelse : List Stmt} {Q : Flow → Shared → Prop}
/-- over the numbered items of a tuple that stood ahead of the frame -/
theorem m_iterE {elts : List PySem.Expr} {kt : Nat} {tpos : Pos} {l : Addr} {vs : List Value} {m₀ : Str → Option Value} {news : Led} (kp : Led) (J : Nat → (Str → Option Value) → Led → Prop) (hmono : MonoJ kp J) (hkp : ∀ p ∈ kp, p ∈ news)
    (hh : A.handled = none) (hl : h₀.IsTuple l vs.toArray) (F : Fr h₀ env.locals s.heap m₀) (N : News h₀ env.locals s.heap news) (h0 : J 0 m₀ news)
    (turn : ∀ (i : Nat) x T t m₁ nx h tk ow, i < vs.length → vs[i]? = some x → IsTup h T #[.int (i : Int) t, x] → J i m₁ nx → (∀ p ∈ ow, Itr p.2) → Fr h₀ env.locals h m₁ → News h₀ env.locals h (ow ++ nx) →
      ∀ Qt : Flow → Shared → Prop, (∀ f s₂, TurnP h₀ env.locals (J (i + 1)) ow s Q f s₂ → Qt f s₂) → wpAny (model prog w) A (assign (.Tuple elts kt tpos) env (.ref T)) (fun _ s₂ => wpAny (model prog w) A (execs body env) Qt (fun _ _ => False) s₂) (fun _ _ => False) { s with heap := h, toks := tk })
    (done : ∀ m₁ nx h tk, J vs.length m₁ nx → Fr h₀ env.locals h m₁ → News h₀ env.locals h nx → wpAny (model prog w) A (execs orelse env) Q (fun _ _ => False) { s with heap := h, toks := tk }) :
    wpAny (model prog w) A (call (.type "enumerate") [.ref l]) (fun xv s₁ => wpAny (model prog w) A (pyIter xv) (fun it s₂ => MTurns prog w A env (.Tuple elts kt tpos) body orelse Q it s₂) E s₁) E s := by
  have hls : s.heap.IsTuple l vs.toArray := hl.at fun o e => F.keep l o e
  obtain ⟨ol, hol, _⟩ := id hl
  have hlt0 : l < h₀.objs.size := Heap.lt_size hol
  have hlt : l < s.heap.objs.size := Nat.lt_trans (Nat.lt_of_lt_of_le hlt0 F.above) F.ns.lt
  have hLs : env.locals < s.heap.objs.size := F.ns.lt
  refine call_enumerate_tuple hls fun h' hE hI hsz hk => ?_
  refine wpAny_pyIter_enum hE ?_
  have W := WalksT.enumerateD (draws_tuple (prog := prog) (w := w) (A := A.in1) hh s.heap.objs.size l (Nat.ne_of_lt hlt) vs.toArray) (s.heap.objs.size + 1) (Nat.succ_ne_self _)
    (by
      intro hm
      rcases List.mem_cons.mp hm with e | hm
      · exact Nat.succ_ne_self _ e
      · exact ktu_ne 1 hlt (List.mem_singleton.mp hm).symm) (by simp)
  refine m_loop (tk0 := s.toks) kp J hmono (fun p hp hI' => ?_) (KTurns.ofWalksU W.toU) ?_ ?_ ?_ ?_ ?_ ⟨⟨_, hE⟩, hI, hls.at fun o e => hk l o e⟩ (F.keeps hk) (N.grown hk) h0 ?_ ?_
  · have hb' : p.1 = s.heap.objs.size + 1 ∨ p.1 = s.heap.objs.size := by simpa using hI'
    have hlp := Heap.lt_size (N p (hkp p hp)).1
    rcases hb' with e | e
    · exact ktu_ne 1 hlp e
    · exact Nat.ne_of_lt hlp e
  · intro hm
    have hb' : env.locals = s.heap.objs.size + 1 ∨ env.locals = s.heap.objs.size ∨ env.locals = l := by simpa using hm
    rcases hb' with e | e | e
    · exact ktu_ne 1 hLs e
    · exact Nat.ne_of_lt hLs e
    · exact absurd (Nat.lt_of_lt_of_le hlt0 F.above) (e ▸ Nat.lt_irrefl _)
  · intro b hb
    have hb' : b = s.heap.objs.size + 1 ∨ b = s.heap.objs.size := by simpa using hb
    rcases hb' with rfl | rfl
    · exact ktu_new F (Nat.le_add_right _ _)
    · exact ktu_new F (Nat.le_refl _)
  · rintro i h ⟨⟨old, he⟩, ⟨oi, hoi, hic, _⟩, _⟩ b hb
    have hb' : b = s.heap.objs.size + 1 ∨ b = s.heap.objs.size := by simpa using hb
    rcases hb' with rfl | rfl
    · exact ⟨_, he, itr_of rfl (by decide) (by decide) (by decide)⟩
    · exact ⟨oi, hoi, itr_of hic (by decide) (by decide) (by decide)⟩
  · intro b hb hbw
    have hb' : b = s.heap.objs.size + 1 ∨ b = s.heap.objs.size ∨ b = l := by simpa using hb
    rcases hb' with rfl | rfl | rfl
    · exact absurd (by simp) hbw
    · exact absurd (by simp) hbw
    · exact .inl ⟨ol, hol⟩
  · intro p hp hI'
    have hb' : p.1 = s.heap.objs.size + 1 ∨ p.1 = s.heap.objs.size := by simpa using hI'
    have hlp := Heap.lt_size (N p hp).1
    rcases hb' with e | e
    · exact ktu_ne 1 hlp e
    · exact Nat.ne_of_lt hlp e
  · rintro i v m₁ nx h tk ow hi ⟨T, vals, rfl, ⟨t, x, hx, rfl⟩, hT⟩
    exact turn i x T t m₁ nx h tk ow (by simpa using hi) (by simpa using hx) hT
  · intro m₁ nx h tk hj
    exact done m₁ nx h tk (by simpa using hj)
end
end Mine
namespace Mine
open PySem PySem.W PySem.Calls PyProof.Rows
theorem words_J1 : PySem.Challenge.rw_ik0046_01 = PySem.Challenge.rw_ik0046_01 ∧ hook0.heap_1 = hook0.heap_1 := by
  k_with_none
  k_fill
  k_with "m_intro" => intro prog mean mg mb cn cs a ccd cl outer A₀ base h₀ L m s Q E B F X T hk hpre hret
  k_with "m_enter" => (
    (case k6 => k_dflt k_is); (case k7 => k_dflt k_is); (case k8 => exact Nat.le_of_ble_eq_true rfl); (case k9 => exact rfl); (case c5 => decide); (case kB => exact locs rfl); (case c2 => exact rfl); (case c3 => exact rfl); (case c4 => exact rfl)
    k_whole
    intro L' h' tk F' N' B' X' T' e₁ A₁
    (try dsimp only)
    (try dsimp only [List.reverse, List.reverseAux] at F')
    (try k_fold))
  k_with "m_enterR" => (
    (case k6 => k_dflt k_is); (case k7 => k_dflt k_is); (case k8 => exact Nat.le_of_ble_eq_true rfl); (case kP => exact rfl); (case kG => exact fun _ => rfl); (case c5 => decide); (case kB => exact fun _ => locs rfl); (case c2 => exact rfl); (case c3 => exact rfl); (case c4 => exact rfl)
    k_whole
    intro D' L' h' tk F' N' B' X' T' e₁ A₁
    (try dsimp only)
    (try dsimp only [List.reverse, List.reverseAux] at F')
    (try k_fold))
  k_with "m_name" => k_dflt (refine' ld ?k1 ?k2 ?_; (case k1 => k_asm); (case k2 => first | exact rfl | assumption); k_whole)
  k_with "m_append" => (
    k_dflt (refine' m_append ?k1 ?k2 ?k3 ?k4 ?_; (case k1 => k_asm); (case k2 => k_asm); (case k3 => k_mem); (case k4 => first | assumption | omega | decide); k_whole)
    intro h' n' F' N' hl' hs' ht'
    (try k_sweep))
  k_with "m_mem" => first | assumption | exact List.Mem.head _ | (refine List.mem_cons_of_mem _ ?_; k_mem) | (refine List.mem_append_right _ ?_; k_mem) | (refine List.mem_append_left _ ?_; k_mem)
  k_with "m_fold" => ((with_reducible show wpAny _ _ _ _ _ _); k_fold)
  k_with "m_steps" => (repeat' (first
    | (k_unfold; (try dsimp only)) | (k_end; wrow_close)
    | ((with_reducible show wpAny _ _ (exec _ _) _ _ _); k_fold)
    | ((fail_if_success (with_reducible show wpAny _ _ (exec (Stmt.For _ _ _ _ _) _) _ _ _)); (fail_if_success (with_reducible show wpAny _ _ (exec (Stmt.While _ _ _ _) _) _ _ _)); first | (walk1; (try dsimp only)) | (dsimp only; walk1))))
  k_with "m_div" => ((with_reducible show wpAny _ _ (binaryOp Operator.FloorDiv (Value.int _ _) (Value.int _ _)) _ _ _); k_dflt (refine' fdiv_e ?k1 ?_; (case k1 => first | decide | omega); k_whole))
  k_with "m_mod" => ((with_reducible show wpAny _ _ (binaryOp Operator.Mod (Value.int _ _) (Value.int _ _)) _ _ _); k_dflt (refine' fmod_e ?k1 ?_; (case k1 => first | decide | omega); k_whole))
  k_with "m_for" => (with_unfolding_all refine m_for ?_ (fun _ => rfl))
  k_with "m_use" => (
    (with_reducible show wpAny _ _ (call (Value.ref 101) [Value.str _ _]) _ _ _)
    k_dflt (refine' Gives.use (fspath _ _ _) ?k1 ?k2 ?k3 ?k4 ?k5 ?k6 ?k7 ?k8 ?kp ?_; (case k1 => k_asm); (case k2 => k_asm); (case k3 => k_asm); (case k4 => k_asm); (case k5 => k_asm); (case k6 => exact rfl); (case k7 => exact Nat.le_of_ble_eq_true rfl); (case k8 => exact Nat.le_of_ble_eq_true rfl); (case kp => trivial); k_whole)
    intro r' n' h' tk' F' N' hz' hr'
    (try ((with_reducible show wpAny _ _ _ _ _ _); k_fold))
    obtain ⟨hs', t', e'⟩ := hr'
    subst hs' e'
    (try clear hz')
    (try simp only [List.nil_append] at N')
    (try dsimp only)
    (try k_sweep))
  k_with "m_use" => (
    (with_reducible show wpAny _ _ (call (Value.ref 115) [Value.str _ _]) _ _ _)
    k_dflt (refine' Gives.use (getsep _ _ _) ?k1 ?k2 ?k3 ?k4 ?k5 ?k6 ?k7 ?k8 ?kp ?_; (case k1 => k_asm); (case k2 => k_asm); (case k3 => k_asm); (case k4 => k_asm); (case k5 => k_asm); (case k6 => exact rfl); (case k7 => exact Nat.le_of_ble_eq_true rfl); (case k8 => exact Nat.le_of_ble_eq_true rfl); (case kp => trivial); k_whole)
    intro r' n' h' tk' F' N' hz' hr'
    (try ((with_reducible show wpAny _ _ _ _ _ _); k_fold))
    obtain ⟨hs', t', e'⟩ := hr'
    subst hs' e'
    (try clear hz')
    (try simp only [List.nil_append] at N')
    (try dsimp only)
    (try k_sweep))
  k_with "m_use" => (
    (with_reducible show wpAny _ _ (call (Value.ref 143) [Value.int _ _]) _ _ _)
    k_dflt (refine' Gives.use (sifmt _ _ _) ?k1 ?k2 ?k3 ?k4 ?k5 ?k6 ?k7 ?k8 ?kp ?_; (case k1 => k_asm); (case k2 => k_asm); (case k3 => k_asm); (case k4 => k_asm); (case k5 => k_asm); (case k6 => exact rfl); (case k7 => exact Nat.le_of_ble_eq_true rfl); (case k8 => exact Nat.le_of_ble_eq_true rfl); (case kp => trivial); k_whole)
    intro r' n' h' tk' F' N' hz' hr'
    (try ((with_reducible show wpAny _ _ _ _ _ _); k_fold))
    obtain ⟨hs', t', e'⟩ := hr'
    subst hs' e'
    (try clear hz')
    (try simp only [List.nil_append] at N')
    (try dsimp only)
    (try k_sweep))
  k_with "m_forN" => (k_here; (fail_if_success (with_reducible show wpAny _ _ _ _ (fun _ _ => False) _)); refine wpAny_noRaise ?_)
  exact ⟨rfl, rfl⟩
/-- join, of a way and a name -/
noncomputable def joinS (x y : Str) : Str := if Txt.endswith x (Str.ofString "/") = true then x ++ y else x ++ (Str.ofString "/" ++ y)
theorem joinS_yes {x y : Str} (h : Txt.endswith x (Str.ofString "/") = true) : x ++ y = joinS x y := (if_pos h).symm
theorem joinS_no {x y : Str} (h : Txt.endswith x (Str.ofString "/") = false) : x ++ (Str.ofString "/" ++ y) = joinS x y := (if_neg (by rw [h]; exact Bool.false_ne_true)).symm
theorem str_of {x y : Str} {t : Tok} (h : x = y) : ∃ t', Value.str x t = Value.str y t' := ⟨t, h ▸ rfl⟩
set_option maxRecDepth 100000 in
set_option maxHeartbeats 2000000 in
theorem join (w : World) (x y : Str) (t u : Tok) (hx : x.length ≤ 1000) (hy : y.length ≤ 1000) (hx0 : x.length ≠ 0) (hy0 : Txt.startswith y (Str.ofString "/") = false) : Gives w 700 122 [.str x t, .str y u] (fun _ => True) (fun new r => new = [] ∧ ∃ t, r = .str (joinS x y) t) := by
  k_extra "m_intro"
  refine' m_callR (tv := [.str y u]) (fun D => [(Str.ofString "a", .str x t), (Str.ofString "p", .ref D)]) B F X T rfl rfl hk ?k6 ?k7 ?k8 ?kP ?kG ?kB ?_ ?c2 ?c3 ?c4 ?c5
  k_extra "m_enterR"
  k_steps
  all_goals first
    | exact hret _ _ _ _ (by assumption) (Fr.keep (by assumption)) News.nil ⟨rfl, str_of (joinS_yes (by assumption))⟩
    | exact hret _ _ _ _ (by assumption) (Fr.keep (by assumption)) News.nil ⟨rfl, str_of (joinS_no (by assumption))⟩
    | (exfalso; omega)
end Mine
namespace Mine
open PySem PySem.W PySem.Calls PyProof.Rows
theorem words_B1 : PySem.Challenge.rw_ik0046_01 = PySem.Challenge.rw_ik0046_01 ∧ hook0.heap_1 = hook0.heap_1 := by
  k_with_none
  k_fill
  k_with "m_intro" => intro prog mean mg mb cn cs a ccd cl outer A₀ base h₀ L m s Q E B F X T hk hpre hret
  k_with "m_enter" => (
    (case k6 => k_dflt k_is); (case k7 => k_dflt k_is); (case k8 => exact Nat.le_of_ble_eq_true rfl); (case k9 => exact rfl); (case c5 => decide); (case kB => exact locs rfl); (case c2 => exact rfl); (case c3 => exact rfl); (case c4 => exact rfl)
    k_whole
    intro L' h' tk F' N' B' X' T' e₁ A₁
    (try dsimp only)
    (try dsimp only [List.reverse, List.reverseAux] at F')
    (try k_fold))
  k_with "m_enterR" => (
    (case k6 => k_dflt k_is); (case k7 => k_dflt k_is); (case k8 => exact Nat.le_of_ble_eq_true rfl); (case kP => exact rfl); (case kG => exact fun _ => rfl); (case c5 => decide); (case kB => exact fun _ => locs rfl); (case c2 => exact rfl); (case c3 => exact rfl); (case c4 => exact rfl)
    k_whole
    intro D' L' h' tk F' N' B' X' T' e₁ A₁
    (try dsimp only)
    (try dsimp only [List.reverse, List.reverseAux] at F')
    (try k_fold))
  k_with "m_name" => k_dflt (refine' ld ?k1 ?k2 ?_; (case k1 => k_asm); (case k2 => first | exact rfl | assumption); k_whole)
  k_with "m_append" => (
    k_dflt (refine' m_append ?k1 ?k2 ?k3 ?k4 ?_; (case k1 => k_asm); (case k2 => k_asm); (case k3 => k_mem); (case k4 => first | assumption | omega | decide); k_whole)
    intro h' n' F' N' hl' hs' ht'
    (try k_sweep))
  k_with "m_mem" => first | assumption | exact List.Mem.head _ | (refine List.mem_cons_of_mem _ ?_; k_mem) | (refine List.mem_append_right _ ?_; k_mem) | (refine List.mem_append_left _ ?_; k_mem)
  k_with "m_fold" => ((with_reducible show wpAny _ _ _ _ _ _); k_fold)
  k_with "m_steps" => (repeat' (first
    | (k_unfold; (try dsimp only)) | (k_end; wrow_close)
    | ((with_reducible show wpAny _ _ (exec _ _) _ _ _); k_fold)
    | ((fail_if_success (with_reducible show wpAny _ _ (exec (Stmt.For _ _ _ _ _) _) _ _ _)); (fail_if_success (with_reducible show wpAny _ _ (exec (Stmt.While _ _ _ _) _) _ _ _)); first | (walk1; (try dsimp only)) | (dsimp only; walk1))))
  k_with "m_div" => ((with_reducible show wpAny _ _ (binaryOp Operator.FloorDiv (Value.int _ _) (Value.int _ _)) _ _ _); k_dflt (refine' fdiv_e ?k1 ?_; (case k1 => first | decide | omega); k_whole))
  k_with "m_mod" => ((with_reducible show wpAny _ _ (binaryOp Operator.Mod (Value.int _ _) (Value.int _ _)) _ _ _); k_dflt (refine' fmod_e ?k1 ?_; (case k1 => first | decide | omega); k_whole))
  k_with "m_for" => (with_unfolding_all refine m_for ?_ (fun _ => rfl))
  k_with "m_use" => (
    (with_reducible show wpAny _ _ (call (Value.ref 101) [Value.str _ _]) _ _ _)
    k_dflt (refine' Gives.use (fspath _ _ _) ?k1 ?k2 ?k3 ?k4 ?k5 ?k6 ?k7 ?k8 ?kp ?_; (case k1 => k_asm); (case k2 => k_asm); (case k3 => k_asm); (case k4 => k_asm); (case k5 => k_asm); (case k6 => exact rfl); (case k7 => exact Nat.le_of_ble_eq_true rfl); (case k8 => exact Nat.le_of_ble_eq_true rfl); (case kp => trivial); k_whole)
    intro r' n' h' tk' F' N' hz' hr'
    (try ((with_reducible show wpAny _ _ _ _ _ _); k_fold))
    obtain ⟨hs', t', e'⟩ := hr'
    subst hs' e'
    (try clear hz')
    (try simp only [List.nil_append] at N')
    (try dsimp only)
    (try k_sweep))
  k_with "m_use" => (
    (with_reducible show wpAny _ _ (call (Value.ref 115) [Value.str _ _]) _ _ _)
    k_dflt (refine' Gives.use (getsep _ _ _) ?k1 ?k2 ?k3 ?k4 ?k5 ?k6 ?k7 ?k8 ?kp ?_; (case k1 => k_asm); (case k2 => k_asm); (case k3 => k_asm); (case k4 => k_asm); (case k5 => k_asm); (case k6 => exact rfl); (case k7 => exact Nat.le_of_ble_eq_true rfl); (case k8 => exact Nat.le_of_ble_eq_true rfl); (case kp => trivial); k_whole)
    intro r' n' h' tk' F' N' hz' hr'
    (try ((with_reducible show wpAny _ _ _ _ _ _); k_fold))
    obtain ⟨hs', t', e'⟩ := hr'
    subst hs' e'
    (try clear hz')
    (try simp only [List.nil_append] at N')
    (try dsimp only)
    (try k_sweep))
  k_with "m_use" => (
    (with_reducible show wpAny _ _ (call (Value.ref 143) [Value.int _ _]) _ _ _)
    k_dflt (refine' Gives.use (sifmt _ _ _) ?k1 ?k2 ?k3 ?k4 ?k5 ?k6 ?k7 ?k8 ?kp ?_; (case k1 => k_asm); (case k2 => k_asm); (case k3 => k_asm); (case k4 => k_asm); (case k5 => k_asm); (case k6 => exact rfl); (case k7 => exact Nat.le_of_ble_eq_true rfl); (case k8 => exact Nat.le_of_ble_eq_true rfl); (case kp => trivial); k_whole)
    intro r' n' h' tk' F' N' hz' hr'
    (try ((with_reducible show wpAny _ _ _ _ _ _); k_fold))
    obtain ⟨hs', t', e'⟩ := hr'
    subst hs' e'
    (try clear hz')
    (try simp only [List.nil_append] at N')
    (try dsimp only)
    (try k_sweep))
  exact ⟨rfl, rfl⟩
/-- basename, dirname, of any text -/
noncomputable def baseS (x : Str) : Str := Txt.slice x (some (Txt.rfind x (Str.ofString "/") + 1)) none
noncomputable def headS (x : Str) : Str := Txt.slice x none (some (Txt.rfind x (Str.ofString "/") + 1))
noncomputable def dirS (x : Str) : Str := if (headS x).length ≠ 0 ∧ (headS x != Txt.mul (Str.ofString "/") ((headS x).length : Int)) = true then Txt.rstripChars (headS x) (Str.ofString "/") else headS x
theorem dirS_yes {x : Str} (h1 : ((headS x).length : Int) ≠ 0) (h2 : (headS x != Txt.mul (Str.ofString "/") ((headS x).length : Int)) = true) : Txt.rstripChars (headS x) (Str.ofString "/") = dirS x := (if_pos ⟨fun h => h1 (by rw [h]; rfl), h2⟩).symm
theorem dirS_no {x : Str} (h2 : (headS x != Txt.mul (Str.ofString "/") ((headS x).length : Int)) = false) : headS x = dirS x := (if_neg (fun h => by rw [h2] at h; exact Bool.false_ne_true h.2)).symm
theorem dirS_nil {x : Str} (h1 : ((headS x).length : Int) = 0) : headS x = dirS x := (if_neg (fun h => h.1 (by omega))).symm
set_option maxRecDepth 100000 in
set_option maxHeartbeats 2000000 in
theorem basename (w : World) (x : Str) (t : Tok) (hx : x.length ≤ 1000) : Gives w 700 129 [.str x t] (fun _ => True) (fun new r => new = [] ∧ ∃ t, r = .str (baseS x) t) := by
  k_extra "m_intro"
  refine' m_call [(Str.ofString "p", .str x t)] B F X T rfl rfl hk ?k6 ?k7 ?k8 ?k9 ?kB ?_ ?c2 ?c3 ?c4 ?c5
  k_extra "m_enter"
  k_steps
  all_goals exact hret _ _ _ _ (by assumption) (Fr.keep (by assumption)) News.nil ⟨rfl, str_of rfl⟩
set_option maxRecDepth 100000 in
set_option maxHeartbeats 2000000 in
theorem dirname (w : World) (x : Str) (t : Tok) (hx : x.length ≤ 1000) : Gives w 700 136 [.str x t] (fun _ => True) (fun new r => new = [] ∧ ∃ t, r = .str (dirS x) t) := by
  k_extra "m_intro"
  refine' m_call [(Str.ofString "p", .str x t)] B F X T rfl rfl hk ?k6 ?k7 ?k8 ?k9 ?kB ?_ ?c2 ?c3 ?c4 ?c5
  k_extra "m_enter"
  k_steps
  all_goals first
    | exact hret _ _ _ _ (by assumption) (Fr.keep (by assumption)) News.nil ⟨rfl, str_of (dirS_yes (by assumption) (by assumption))⟩
    | exact hret _ _ _ _ (by assumption) (Fr.keep (by assumption)) News.nil ⟨rfl, str_of (dirS_no (by assumption))⟩
    | exact hret _ _ _ _ (by assumption) (Fr.keep (by assumption)) News.nil ⟨rfl, str_of (dirS_nil (by assumption))⟩
end Mine
namespace Mine
open PySem PySem.W PySem.Calls PyProof.Rows
theorem words_S1 : PySem.Challenge.rw_ik0046_01 = PySem.Challenge.rw_ik0046_01 ∧ hook0.heap_1 = hook0.heap_1 := by
  k_with_none
  k_fill
  k_with "m_intro" => intro prog mean mg mb cn cs a ccd cl outer A₀ base h₀ L m s Q E B F X T hk hpre hret
  k_with "m_enter" => (
    (case k6 => k_dflt k_is); (case k7 => k_dflt k_is); (case k8 => exact Nat.le_of_ble_eq_true rfl); (case k9 => exact rfl); (case c5 => decide); (case kB => exact locs rfl); (case c2 => exact rfl); (case c3 => exact rfl); (case c4 => exact rfl)
    k_whole
    intro L' h' tk F' N' B' X' T' e₁ A₁
    (try dsimp only)
    (try dsimp only [List.reverse, List.reverseAux] at F')
    (try k_fold))
  k_with "m_enterR" => (
    (case k6 => k_dflt k_is); (case k7 => k_dflt k_is); (case k8 => exact Nat.le_of_ble_eq_true rfl); (case kP => exact rfl); (case kG => exact fun _ => rfl); (case c5 => decide); (case kB => exact fun _ => locs rfl); (case c2 => exact rfl); (case c3 => exact rfl); (case c4 => exact rfl)
    k_whole
    intro D' L' h' tk F' N' B' X' T' e₁ A₁
    (try dsimp only)
    (try dsimp only [List.reverse, List.reverseAux] at F')
    (try k_fold))
  k_with "m_name" => k_dflt (refine' ld ?k1 ?k2 ?_; (case k1 => k_asm); (case k2 => first | exact rfl | assumption); k_whole)
  k_with "m_append" => (
    k_dflt (refine' m_append ?k1 ?k2 ?k3 ?k4 ?_; (case k1 => k_asm); (case k2 => k_asm); (case k3 => k_mem); (case k4 => first | assumption | omega | decide); k_whole)
    intro h' n' F' N' hl' hs' ht'
    (try k_sweep))
  k_with "m_mem" => first | assumption | exact List.Mem.head _ | (refine List.mem_cons_of_mem _ ?_; k_mem) | (refine List.mem_append_right _ ?_; k_mem) | (refine List.mem_append_left _ ?_; k_mem)
  k_with "m_fold" => ((with_reducible show wpAny _ _ _ _ _ _); k_fold)
  k_with "m_steps" => (repeat' (first
    | (k_unfold; (try dsimp only)) | (k_end; wrow_close)
    | ((with_reducible show wpAny _ _ (exec _ _) _ _ _); k_fold)
    | ((fail_if_success (with_reducible show wpAny _ _ (exec (Stmt.For _ _ _ _ _) _) _ _ _)); (fail_if_success (with_reducible show wpAny _ _ (exec (Stmt.While _ _ _ _) _) _ _ _)); first | (walk1; (try dsimp only)) | (dsimp only; walk1))))
  k_with "m_div" => ((with_reducible show wpAny _ _ (binaryOp Operator.FloorDiv (Value.int _ _) (Value.int _ _)) _ _ _); k_dflt (refine' fdiv_e ?k1 ?_; (case k1 => first | decide | omega); k_whole))
  k_with "m_mod" => ((with_reducible show wpAny _ _ (binaryOp Operator.Mod (Value.int _ _) (Value.int _ _)) _ _ _); k_dflt (refine' fmod_e ?k1 ?_; (case k1 => first | decide | omega); k_whole))
  k_with "m_for" => (with_unfolding_all refine m_for ?_ (fun _ => rfl))
  k_with "m_use" => (
    (with_reducible show wpAny _ _ (call (Value.ref 101) [Value.str _ _]) _ _ _)
    k_dflt (refine' Gives.use (fspath _ _ _) ?k1 ?k2 ?k3 ?k4 ?k5 ?k6 ?k7 ?k8 ?kp ?_; (case k1 => k_asm); (case k2 => k_asm); (case k3 => k_asm); (case k4 => k_asm); (case k5 => k_asm); (case k6 => exact rfl); (case k7 => exact Nat.le_of_ble_eq_true rfl); (case k8 => exact Nat.le_of_ble_eq_true rfl); (case kp => trivial); k_whole)
    intro r' n' h' tk' F' N' hz' hr'
    (try ((with_reducible show wpAny _ _ _ _ _ _); k_fold))
    obtain ⟨hs', t', e'⟩ := hr'
    subst hs' e'
    (try clear hz')
    (try simp only [List.nil_append] at N')
    (try dsimp only)
    (try k_sweep))
  k_with "m_use" => (
    (with_reducible show wpAny _ _ (call (Value.ref 115) [Value.str _ _]) _ _ _)
    k_dflt (refine' Gives.use (getsep _ _ _) ?k1 ?k2 ?k3 ?k4 ?k5 ?k6 ?k7 ?k8 ?kp ?_; (case k1 => k_asm); (case k2 => k_asm); (case k3 => k_asm); (case k4 => k_asm); (case k5 => k_asm); (case k6 => exact rfl); (case k7 => exact Nat.le_of_ble_eq_true rfl); (case k8 => exact Nat.le_of_ble_eq_true rfl); (case kp => trivial); k_whole)
    intro r' n' h' tk' F' N' hz' hr'
    (try ((with_reducible show wpAny _ _ _ _ _ _); k_fold))
    obtain ⟨hs', t', e'⟩ := hr'
    subst hs' e'
    (try clear hz')
    (try simp only [List.nil_append] at N')
    (try dsimp only)
    (try k_sweep))
  k_with "m_use" => (
    (with_reducible show wpAny _ _ (call (Value.ref 143) [Value.int _ _]) _ _ _)
    k_dflt (refine' Gives.use (sifmt _ _ _) ?k1 ?k2 ?k3 ?k4 ?k5 ?k6 ?k7 ?k8 ?kp ?_; (case k1 => k_asm); (case k2 => k_asm); (case k3 => k_asm); (case k4 => k_asm); (case k5 => k_asm); (case k6 => exact rfl); (case k7 => exact Nat.le_of_ble_eq_true rfl); (case k8 => exact Nat.le_of_ble_eq_true rfl); (case kp => trivial); k_whole)
    intro r' n' h' tk' F' N' hz' hr'
    (try ((with_reducible show wpAny _ _ _ _ _ _); k_fold))
    obtain ⟨hs', t', e'⟩ := hr'
    subst hs' e'
    (try clear hz')
    (try simp only [List.nil_append] at N')
    (try dsimp only)
    (try k_sweep))
  exact ⟨rfl, rfl⟩
theorem str_of' {x y : Str} {t : Tok} (h : x = y) : ∃ t', Value.str x t = Value.str y t' := ⟨t, h ▸ rfl⟩
noncomputable def kindOf' (q : Int) (c : Str) : Prop := (q = 4 ∧ c = Str.ofString "d") ∨ (q = 8 ∧ c = Str.ofString "-") ∨ (q = 10 ∧ c = Str.ofString "l")
noncomputable def sgRows : List (Int × Int × Str × Str) := [(64, 2048, Str.ofString "s", Str.ofString "S"), (8, 1024, Str.ofString "s", Str.ofString "S"), (1, 512, Str.ofString "t", Str.ofString "T")]
theorem sgRows_at {i : Nat} {row : Int × Int × Str × Str} (h : sgRows[i]? = some row) : (0 < row.1 ∧ row.1 < 65) ∧ (0 < row.2.1 ∧ row.2.1 < 2049) ∧ row.2.2.1.length = 1 ∧ row.2.2.2.length = 1 := by
  match i, h with
  | 0, h => cases h; decide
  | 1, h => cases h; decide
  | 2, h => cases h; decide
  | n + 3, h => cases h
noncomputable def sgStep (mode : Int) (x : Str) (row : Int × Int × Str × Str) : Str :=
  x ++ pick2 (mode / row.1 % 8 / 4) (Str.ofString "-") (Str.ofString "r") ++ pick2 (mode / row.1 % 8 / 2 % 2) (Str.ofString "-") (Str.ofString "w") ++
    (if mode / row.2.1 % 2 = 1 then pick2 (mode / row.1 % 8 % 2) row.2.2.2 row.2.2.1 else pick2 (mode / row.1 % 8 % 2) (Str.ofString "-") (Str.ofString "x"))
noncomputable def sgS (c : Str) (mode : Int) (k : Nat) : Str := (sgRows.take k).foldl (sgStep mode) c
theorem sgS_succ {c : Str} {mode : Int} {i : Nat} {row : Int × Int × Str × Str} (h : sgRows[i]? = some row) : sgS c mode (i + 1) = sgStep mode (sgS c mode i) row := by
  unfold sgS
  rw [List.take_add_one, h]
  simp
noncomputable def sgRowAt (T : Addr) (row : Int × Int × Str × Str) (nx : Led) : Prop := ∃ a b c d, (T, ({ cls := .type "tuple", data := .seq #[.int row.1 a, .int row.2.1 b, .str row.2.2.1 c, .str row.2.2.2 d] } : Obj)) ∈ nx
noncomputable abbrev sgVs (T1 T2 T3 : Addr) : List Value := [Value.ref T1, Value.ref T2, Value.ref T3]
noncomputable def sgInv (l T1 T2 T3 : Addr) (c : Str) (mode : Int) (t : Tok) (i : Nat) (m : Str → Option Value) (nx : Led) : Prop :=
  (l, listOf (sgVs T1 T2 T3).toArray 0) ∈ nx ∧ (∀ (j : Nat) (v : Value), (sgVs T1 T2 T3)[j]? = some v → ∃ T row, v = Value.ref T ∧ sgRows[j]? = some row ∧ sgRowAt T row nx) ∧
  m (Str.ofString "mode") = some (.int mode t) ∧ (sgS c mode i).length ≤ 1 + 3 * i ∧ ∃ u, m (Str.ofString "signs") = some (.str (sgS c mode i) u)
theorem sgInv_next {l T1 T2 T3 : Addr} {c : Str} {mode : Int} {t : Tok} {i : Nat} {m₁ m' : Str → Option Value} {nx nx' : Led} {row : Int × Int × Str × Str} {x : Str} {u' : Tok} (h : sgInv l T1 T2 T3 c mode t i m₁ nx) (hrow : sgRows[i]? = some row) (hs : ∀ p ∈ nx, p ∈ nx')
    (h3 : m' (Str.ofString "mode") = some (.int mode t)) (hx : x = sgStep mode (sgS c mode i) row) (h5 : m' (Str.ofString "signs") = some (.str x u')) (hl : x.length ≤ (sgS c mode i).length + 3) : sgInv l T1 T2 T3 c mode t (i + 1) m' nx' := by
  obtain ⟨a, b, _, d, _⟩ := h
  rw [← sgS_succ hrow] at hx
  subst hx
  refine ⟨hs _ a, fun j v hv => ?_, h3, by omega, u', h5⟩
  obtain ⟨T, row, e1, e2, x1, x2, x3, x4, hm⟩ := b j v hv
  exact ⟨T, row, e1, e2, x1, x2, x3, x4, hs _ hm⟩
theorem sgInv_mono {l T1 T2 T3 : Addr} {c : Str} {mode : Int} {t : Tok} : MonoJ [] (sgInv l T1 T2 T3 c mode t) := by
  rintro i m nx nx' ⟨a, b, r⟩ hs
  refine ⟨hs _ a (.inl rfl), fun j v hv => ?_, r⟩
  obtain ⟨T, row, e1, e2, x1, x2, x3, x4, hm⟩ := b j v hv
  exact ⟨T, row, e1, e2, x1, x2, x3, x4, hs _ hm (.inr (.inl rfl))⟩
theorem bit0 (x : Int) : 0 ≤ x % 8 / 4 := Int.ediv_nonneg (Int.emod_nonneg _ (by decide)) (by decide)
theorem bit1 (x : Int) : x % 8 / 4 < 2 := Int.ediv_lt_of_lt_mul (by decide) (Int.emod_lt_of_pos _ (by decide))
theorem two0 (x : Int) : 0 ≤ x % 2 := Int.emod_nonneg _ (by decide)
theorem two1 (x : Int) : x % 2 < 2 := Int.emod_lt_of_pos _ (by decide)
set_option maxRecDepth 100000 in
set_option maxHeartbeats 2000000 in
theorem signs (w : World) (q mode : Int) (c : Str) (t : Tok) (hq : kindOf' q c) (hm0 : mode / 4096 = q) (hc1 : c.length ≤ 1) : Gives w 700 230 [.int mode t] (fun _ => True) (fun new v => new = [] ∧ ∃ t, v = .str (sgS c mode 3) t) := by
  k_with "m_sub" => ((with_reducible show wpAny _ _ (subscriptTail _ _ (Value.ref _) (Value.int _ _)) _ _ _); k_dflt (first
    | (refine' list2_item ?k1 ?k2 ?k3 ?k4 ?k5 ?k6 ?_; (case k1 => k_asm); (case k2 => k_mem); (case k3 => first | exact two0 _ | exact bit0 _); (case k4 => first | exact two1 _ | exact bit1 _); (case k5 => first | assumption | decide); (case k6 => first | assumption | decide); k_whole)
    | (refine' tup2_item ?k1 ?k2 ?k3 ?k4 ?k5 ?k6 ?_; (case k1 => k_asm); (case k2 => k_mem); (case k3 => first | exact two0 _ | exact bit0 _); (case k4 => first | exact two1 _ | exact bit1 _); (case k5 => first | assumption | decide); (case k6 => first | assumption | decide); k_whole)); intro t' x' hx' hl')
  k_with "m_div" => ((with_reducible show wpAny _ _ (binaryOp Operator.FloorDiv (Value.int _ _) (Value.int 4096 _)) _ _ _); k_dflt (refine' fdiv_to (c := q) ?k1 ?k2 ?k3 ?_; (case k1 => decide); (case k2 => (rw [Int.fdiv_eq_ediv_of_nonneg _ (by decide)]; exact hm0)); (case k3 => decide)))
  k_extra "m_intro"
  refine' m_call [(Str.ofString "mode", .int mode t)] B F X T rfl rfl hk ?k6 ?k7 ?k8 ?k9 ?kB ?_ ?c2 ?c3 ?c4 ?c5
  k_extra "m_enter"
  (repeat' (first
    | (k_unfold; (try dsimp only)) | (k_end; wrow_close)
    | ((fail_if_success (with_reducible show wpAny _ _ (getItem _ _) _ _ _)); first | (walk1; (try dsimp only)) | (dsimp only; walk1))))
  (try dsimp only)
  (rename Obj.IsDictOf _ _ _ => hd9)
  (rename PyProof.V.FlatPairs _ _ _ => hf9)
  (rename News _ _ _ _ => N9)
  (rename Fr _ _ _ _ => F9)
  (try dsimp only at hd9 hf9 N9 F9)
  generalize h'.objs.size = d9 at *
  k_dflt (refine' getItem_tab (dv := .str c) PyProof.V.same_int (intKind_is _ _ _ _) ?k1 ?k2 ?_; (case k1 => k_tabat); (case k2 => rcases hq with ⟨rfl, rfl⟩ | ⟨rfl, rfl⟩ | ⟨rfl, rfl⟩ <;> rfl); k_whole)
  intro _ hv'
  dict_open hv'
  (try clear hd9 hf9)
  replace N9 : News s.heap L' _ [] := cb_drop N9 (fun _ h => nomatch h)
  k_extra "m_steps"
  k_extra "m_for"
  k_extra "m_steps"
  rename_i T1 hx1 lx1 T2 hx2 lx2 T3 hx3 lx3 l hx4 F8 N8 lx4
  refine m_iterL (vs := sgVs T1 T2 T3) (k := 0) [] (sgInv l T1 T2 T3 c mode t) sgInv_mono (fun _ h => nomatch h) rfl (fun _ _ _ h => h.1) F8 N8 ⟨by k_mem, ?_, rfl, by simpa [sgS] using hc1, _, rfl⟩ ?_ ?_
  · intro j v hv
    match j, hv with
    | 0, hv => cases hv; exact ⟨_, _, rfl, rfl, _, _, _, _, by k_mem⟩
    | 1, hv => cases hv; exact ⟨_, _, rfl, rfl, _, _, _, _, by k_mem⟩
    | 2, hv => cases hv; exact ⟨_, _, rfl, rfl, _, _, _, _, by k_mem⟩
    | n + 3, hv => cases hv
  · rintro i v m₁ nx h tk ow hi hv hJ how F7 N7 Qt hT
    k_extra "m_fold"
    obtain ⟨j1, j2, j3, j4, u, j5⟩ := id hJ
    obtain ⟨T, ⟨sh, sp, x, y⟩, rfl, hrow, x1, x2, x3, x4, hm⟩ := j2 i v hv
    dsimp only at hm
    clear F8 N8
    obtain ⟨b1, b2, b3, b4⟩ := sgRows_at hrow
    dsimp only at b1 b2 b3 b4
    have hi3 : i < 3 := hi
    k_extra "m_steps"
    all_goals (
      rename Fr _ _ _ _ => F6
      rename News _ _ _ _ => N6
      refine hT _ _ (TurnP.next F6 N6 (fun p hp => ?_) (sgInv_next hJ hrow (fun p hp => ?_) j3 ?_ rfl ?_))
      · (repeat (first | exact List.mem_append_left _ hp | refine List.Mem.tail _ ?_))
      · (repeat (first | exact List.mem_append_right _ hp | refine List.Mem.tail _ ?_))
      · first
          | (subst_vars; unfold sgStep; rw [if_pos (by assumption)])
          | (subst_vars; unfold sgStep; rw [if_neg (by assumption)])
      · simp only [Str.length_append]; omega)
  · rintro m₁ nx h tk ⟨j1, j2, j3, j4, u, j5⟩ F7 N7
    clear F8 N8
    k_extra "m_steps"
    exact hret _ _ _ _ (by assumption) (Fr.keep (by assumption)) News.nil ⟨rfl, _, rfl⟩
end Mine
namespace Mine
open PySem PySem.W PySem.Calls PyProof.Rows
theorem words_F1 : PySem.Challenge.rw_ik0046_01 = PySem.Challenge.rw_ik0046_01 ∧ hook0.heap_1 = hook0.heap_1 := by
  k_with_none
  k_fill
  k_with "m_intro" => intro prog mean mg mb cn cs a ccd cl outer A₀ base h₀ L m s Q E B F X T hk hpre hret
  k_with "m_enter" => (
    (case k6 => k_dflt k_is); (case k7 => k_dflt k_is); (case k8 => exact Nat.le_of_ble_eq_true rfl); (case k9 => exact rfl); (case c5 => decide); (case kB => exact locs rfl); (case c2 => exact rfl); (case c3 => exact rfl); (case c4 => exact rfl)
    k_whole
    intro L' h' tk F' N' B' X' T' e₁ A₁
    (try dsimp only)
    (try dsimp only [List.reverse, List.reverseAux] at F')
    (try k_fold))
  k_with "m_enterR" => (
    (case k6 => k_dflt k_is); (case k7 => k_dflt k_is); (case k8 => exact Nat.le_of_ble_eq_true rfl); (case kP => exact rfl); (case kG => exact fun _ => rfl); (case c5 => decide); (case kB => exact fun _ => locs rfl); (case c2 => exact rfl); (case c3 => exact rfl); (case c4 => exact rfl)
    k_whole
    intro D' L' h' tk F' N' B' X' T' e₁ A₁
    (try dsimp only)
    (try dsimp only [List.reverse, List.reverseAux] at F')
    (try k_fold))
  k_with "m_name" => k_dflt (refine' ld ?k1 ?k2 ?_; (case k1 => k_asm); (case k2 => first | exact rfl | assumption); k_whole)
  k_with "m_append" => (
    k_dflt (refine' m_append ?k1 ?k2 ?k3 ?k4 ?_; (case k1 => k_asm); (case k2 => k_asm); (case k3 => k_mem); (case k4 => first | assumption | omega | decide); k_whole)
    intro h' n' F' N' hl' hs' ht'
    (try k_sweep))
  k_with "m_mem" => first | assumption | exact List.Mem.head _ | (refine List.mem_cons_of_mem _ ?_; k_mem) | (refine List.mem_append_right _ ?_; k_mem) | (refine List.mem_append_left _ ?_; k_mem)
  k_with "m_fold" => ((with_reducible show wpAny _ _ _ _ _ _); k_fold)
  k_with "m_steps" => (repeat' (first
    | (k_unfold; (try dsimp only)) | (k_end; wrow_close)
    | ((with_reducible show wpAny _ _ (exec _ _) _ _ _); k_fold)
    | ((fail_if_success (with_reducible show wpAny _ _ (exec (Stmt.For _ _ _ _ _) _) _ _ _)); (fail_if_success (with_reducible show wpAny _ _ (exec (Stmt.While _ _ _ _) _) _ _ _)); first | (walk1; (try dsimp only)) | (dsimp only; walk1))))
  k_with "m_div" => ((with_reducible show wpAny _ _ (binaryOp Operator.FloorDiv (Value.int _ _) (Value.int _ _)) _ _ _); k_dflt (refine' fdiv_e ?k1 ?_; (case k1 => first | decide | omega); k_whole))
  k_with "m_mod" => ((with_reducible show wpAny _ _ (binaryOp Operator.Mod (Value.int _ _) (Value.int _ _)) _ _ _); k_dflt (refine' fmod_e ?k1 ?_; (case k1 => first | decide | omega); k_whole))
  k_with "m_for" => (with_unfolding_all refine m_for ?_ (fun _ => rfl))
  k_with "m_use" => (
    (with_reducible show wpAny _ _ (call (Value.ref 101) [Value.str _ _]) _ _ _)
    k_dflt (refine' Gives.use (fspath _ _ _) ?k1 ?k2 ?k3 ?k4 ?k5 ?k6 ?k7 ?k8 ?kp ?_; (case k1 => k_asm); (case k2 => k_asm); (case k3 => k_asm); (case k4 => k_asm); (case k5 => k_asm); (case k6 => exact rfl); (case k7 => exact Nat.le_of_ble_eq_true rfl); (case k8 => exact Nat.le_of_ble_eq_true rfl); (case kp => trivial); k_whole)
    intro r' n' h' tk' F' N' hz' hr'
    (try ((with_reducible show wpAny _ _ _ _ _ _); k_fold))
    obtain ⟨hs', t', e'⟩ := hr'
    subst hs' e'
    (try clear hz')
    (try simp only [List.nil_append] at N')
    (try dsimp only)
    (try k_sweep))
  k_with "m_use" => (
    (with_reducible show wpAny _ _ (call (Value.ref 115) [Value.str _ _]) _ _ _)
    k_dflt (refine' Gives.use (getsep _ _ _) ?k1 ?k2 ?k3 ?k4 ?k5 ?k6 ?k7 ?k8 ?kp ?_; (case k1 => k_asm); (case k2 => k_asm); (case k3 => k_asm); (case k4 => k_asm); (case k5 => k_asm); (case k6 => exact rfl); (case k7 => exact Nat.le_of_ble_eq_true rfl); (case k8 => exact Nat.le_of_ble_eq_true rfl); (case kp => trivial); k_whole)
    intro r' n' h' tk' F' N' hz' hr'
    (try ((with_reducible show wpAny _ _ _ _ _ _); k_fold))
    obtain ⟨hs', t', e'⟩ := hr'
    subst hs' e'
    (try clear hz')
    (try simp only [List.nil_append] at N')
    (try dsimp only)
    (try k_sweep))
  k_with "m_use" => (
    (with_reducible show wpAny _ _ (call (Value.ref 143) [Value.int _ _]) _ _ _)
    k_dflt (refine' Gives.use (sifmt _ _ _) ?k1 ?k2 ?k3 ?k4 ?k5 ?k6 ?k7 ?k8 ?kp ?_; (case k1 => k_asm); (case k2 => k_asm); (case k3 => k_asm); (case k4 => k_asm); (case k5 => k_asm); (case k6 => exact rfl); (case k7 => exact Nat.le_of_ble_eq_true rfl); (case k8 => exact Nat.le_of_ble_eq_true rfl); (case kp => trivial); k_whole)
    intro r' n' h' tk' F' N' hz' hr'
    (try ((with_reducible show wpAny _ _ _ _ _ _); k_fold))
    obtain ⟨hs', t', e'⟩ := hr'
    subst hs' e'
    (try clear hz')
    (try simp only [List.nil_append] at N')
    (try dsimp only)
    (try k_sweep))
  exact ⟨rfl, rfl⟩
noncomputable abbrev FmRow := Addr × Int × Str
noncomputable def fmTab : List (Addr × List FmRow) := [(151, [(144, 40960, Str.ofString "l"), (145, 49152, Str.ofString "s"), (146, 32768, Str.ofString "-"), (147, 24576, Str.ofString "b"), (148, 16384, Str.ofString "d"), (149, 8192, Str.ofString "c"), (150, 4096, Str.ofString "p")]), (153, [(152, 256, Str.ofString "r")]), (155, [(154, 128, Str.ofString "w")]), (159, [(156, 2112, Str.ofString "s"), (157, 2048, Str.ofString "S"), (158, 64, Str.ofString "x")]), (161, [(160, 32, Str.ofString "r")]), (163, [(162, 16, Str.ofString "w")]), (167, [(164, 1032, Str.ofString "s"), (165, 1024, Str.ofString "S"), (166, 8, Str.ofString "x")]), (169, [(168, 4, Str.ofString "r")]), (171, [(170, 2, Str.ofString "w")]), (175, [(172, 513, Str.ofString "t"), (173, 512, Str.ofString "T"), (174, 1, Str.ofString "x")])]
noncomputable def fmHit (mode : Int) (i : Nat) (bit : Int) : Bool := if i = 0 then decide (Builtin.bitAnd mode 61440 = bit) else decide (Builtin.bitAnd mode bit = bit)
noncomputable def fmCh (mode : Int) (i : Nat) (rows : List FmRow) : Str := match rows.find? fun r => fmHit mode i r.2.1 with
  | some r => r.2.2
  | none => if i = 0 then Str.ofString "?" else Str.ofString "-"
noncomputable def fmRows (i : Nat) : List FmRow := ((fmTab[i]?).map (·.2)).getD []
noncomputable def fmChars (mode : Int) : Nat → List Str
  | 0 => []
  | i + 1 => fmChars mode i ++ [fmCh mode i (fmRows i)]
noncomputable def fmAt (h : Heap) (tb : Addr × List FmRow) : Prop := h.IsTuple tb.1 (tb.2.map fun r => Value.ref r.1).toArray ∧ ∀ r ∈ tb.2, ∃ a b, IsTup h r.1 #[.int r.2.1 a, .str r.2.2 b]
set_option maxRecDepth 100000 in
set_option maxHeartbeats 2000000 in
theorem fm_heap {w : World} {h : Heap} (X : (hook0.heap_1 w.params).In h) : h.IsTuple 176 (fmTab.map fun p => Value.ref p.1).toArray ∧ ∀ tb ∈ fmTab, fmAt h tb := by
  refine ⟨⟨_, X 176 _ (by k_dflt k_is), rfl, _, rfl⟩, ?_⟩
  refine List.forall_mem_cons.mpr ⟨?_, ?_⟩
  · exact ⟨⟨_, X 151 _ (by k_dflt k_is), rfl, _, rfl⟩, List.forall_mem_cons.mpr ⟨⟨_, _, _, X 144 _ (by k_dflt k_is), rfl, _, rfl⟩, List.forall_mem_cons.mpr ⟨⟨_, _, _, X 145 _ (by k_dflt k_is), rfl, _, rfl⟩, List.forall_mem_cons.mpr ⟨⟨_, _, _, X 146 _ (by k_dflt k_is), rfl, _, rfl⟩, List.forall_mem_cons.mpr ⟨⟨_, _, _, X 147 _ (by k_dflt k_is), rfl, _, rfl⟩, List.forall_mem_cons.mpr ⟨⟨_, _, _, X 148 _ (by k_dflt k_is), rfl, _, rfl⟩, List.forall_mem_cons.mpr ⟨⟨_, _, _, X 149 _ (by k_dflt k_is), rfl, _, rfl⟩, List.forall_mem_cons.mpr ⟨⟨_, _, _, X 150 _ (by k_dflt k_is), rfl, _, rfl⟩, List.forall_mem_nil _⟩⟩⟩⟩⟩⟩⟩⟩
  refine List.forall_mem_cons.mpr ⟨?_, ?_⟩
  · exact ⟨⟨_, X 153 _ (by k_dflt k_is), rfl, _, rfl⟩, List.forall_mem_cons.mpr ⟨⟨_, _, _, X 152 _ (by k_dflt k_is), rfl, _, rfl⟩, List.forall_mem_nil _⟩⟩
  refine List.forall_mem_cons.mpr ⟨?_, ?_⟩
  · exact ⟨⟨_, X 155 _ (by k_dflt k_is), rfl, _, rfl⟩, List.forall_mem_cons.mpr ⟨⟨_, _, _, X 154 _ (by k_dflt k_is), rfl, _, rfl⟩, List.forall_mem_nil _⟩⟩
  refine List.forall_mem_cons.mpr ⟨?_, ?_⟩
  · exact ⟨⟨_, X 159 _ (by k_dflt k_is), rfl, _, rfl⟩, List.forall_mem_cons.mpr ⟨⟨_, _, _, X 156 _ (by k_dflt k_is), rfl, _, rfl⟩, List.forall_mem_cons.mpr ⟨⟨_, _, _, X 157 _ (by k_dflt k_is), rfl, _, rfl⟩, List.forall_mem_cons.mpr ⟨⟨_, _, _, X 158 _ (by k_dflt k_is), rfl, _, rfl⟩, List.forall_mem_nil _⟩⟩⟩⟩
  refine List.forall_mem_cons.mpr ⟨?_, ?_⟩
  · exact ⟨⟨_, X 161 _ (by k_dflt k_is), rfl, _, rfl⟩, List.forall_mem_cons.mpr ⟨⟨_, _, _, X 160 _ (by k_dflt k_is), rfl, _, rfl⟩, List.forall_mem_nil _⟩⟩
  refine List.forall_mem_cons.mpr ⟨?_, ?_⟩
  · exact ⟨⟨_, X 163 _ (by k_dflt k_is), rfl, _, rfl⟩, List.forall_mem_cons.mpr ⟨⟨_, _, _, X 162 _ (by k_dflt k_is), rfl, _, rfl⟩, List.forall_mem_nil _⟩⟩
  refine List.forall_mem_cons.mpr ⟨?_, ?_⟩
  · exact ⟨⟨_, X 167 _ (by k_dflt k_is), rfl, _, rfl⟩, List.forall_mem_cons.mpr ⟨⟨_, _, _, X 164 _ (by k_dflt k_is), rfl, _, rfl⟩, List.forall_mem_cons.mpr ⟨⟨_, _, _, X 165 _ (by k_dflt k_is), rfl, _, rfl⟩, List.forall_mem_cons.mpr ⟨⟨_, _, _, X 166 _ (by k_dflt k_is), rfl, _, rfl⟩, List.forall_mem_nil _⟩⟩⟩⟩
  refine List.forall_mem_cons.mpr ⟨?_, ?_⟩
  · exact ⟨⟨_, X 169 _ (by k_dflt k_is), rfl, _, rfl⟩, List.forall_mem_cons.mpr ⟨⟨_, _, _, X 168 _ (by k_dflt k_is), rfl, _, rfl⟩, List.forall_mem_nil _⟩⟩
  refine List.forall_mem_cons.mpr ⟨?_, ?_⟩
  · exact ⟨⟨_, X 171 _ (by k_dflt k_is), rfl, _, rfl⟩, List.forall_mem_cons.mpr ⟨⟨_, _, _, X 170 _ (by k_dflt k_is), rfl, _, rfl⟩, List.forall_mem_nil _⟩⟩
  refine List.forall_mem_cons.mpr ⟨?_, ?_⟩
  · exact ⟨⟨_, X 175 _ (by k_dflt k_is), rfl, _, rfl⟩, List.forall_mem_cons.mpr ⟨⟨_, _, _, X 172 _ (by k_dflt k_is), rfl, _, rfl⟩, List.forall_mem_cons.mpr ⟨⟨_, _, _, X 173 _ (by k_dflt k_is), rfl, _, rfl⟩, List.forall_mem_cons.mpr ⟨⟨_, _, _, X 174 _ (by k_dflt k_is), rfl, _, rfl⟩, List.forall_mem_nil _⟩⟩⟩⟩
  exact List.forall_mem_nil _
noncomputable def fmOut (pl : Addr) (mode : Int) (t : Tok) (i : Nat) (m : Str → Option Value) (nx : Led) : Prop :=
  m (Str.ofString "mode") = some (.int mode t) ∧ m (Str.ofString "perm") = some (.ref pl) ∧ ∃ xs n, (pl, listOf xs.toArray n) ∈ nx ∧ StrsAre xs (fmChars mode i) ∧ xs.length = i
theorem fmOut_mono {pl : Addr} {mode : Int} {t : Tok} : MonoJ [] (fmOut pl mode t) := by
  rintro i m nx nx' ⟨a, b, xs, n, h, r⟩ hs
  exact ⟨a, b, xs, n, hs _ h (.inl rfl), r⟩
/-- the inner loop: no row so far is hit -/
noncomputable def fmIn (ow : Led) (pl : Addr) (mode : Int) (t : Tok) (i : Nat) (ti : Tok) (xs : List Value) (n : Nat) (rows : List FmRow) (k : Nat) (m : Str → Option Value) (nx : Led) : Prop :=
  (∀ p ∈ ow, p ∈ nx) ∧ m (Str.ofString "mode") = some (.int mode t) ∧ m (Str.ofString "perm") = some (.ref pl) ∧ m (Str.ofString "index") = some (.int (i : Int) ti) ∧ (pl, listOf xs.toArray n) ∈ nx ∧ ∀ r ∈ rows.take k, fmHit mode i r.2.1 = false
theorem fmIn_mono {ow : Led} {pl : Addr} {mode : Int} {t : Tok} {i : Nat} {ti : Tok} {xs : List Value} {n : Nat} {rows : List FmRow} : MonoJ ow (fmIn ow pl mode t i ti xs n rows) := by
  rintro k m nx nx' ⟨o, a, b, c, h, r⟩ hs
  exact ⟨fun p hp => hs p (o p hp) (.inr (.inr (.inl hp))), a, b, c, hs _ h (.inl rfl), r⟩
theorem fm_get {i : Nat} {x : Value} (h : (fmTab.map fun p => Value.ref p.1)[i]? = some x) : ∃ tb, fmTab[i]? = some tb ∧ x = .ref tb.1 := by
  rw [List.getElem?_map] at h
  obtain ⟨tb, a, b⟩ := Option.map_eq_some_iff.mp h
  exact ⟨tb, a, b.symm⟩
theorem fm_row {rows : List FmRow} {i : Nat} {x : Value} (h : (rows.map fun p => Value.ref p.1)[i]? = some x) : ∃ tb, rows[i]? = some tb ∧ x = .ref tb.1 := by
  rw [List.getElem?_map] at h
  obtain ⟨tb, a, b⟩ := Option.map_eq_some_iff.mp h
  exact ⟨tb, a, b.symm⟩
theorem fm_all : ∀ tb ∈ fmTab, ∀ r ∈ tb.2, r.2.2.length = 1 := by decide
theorem fmRows_len (i : Nat) : ∀ r ∈ fmRows i, r.2.2.length = 1 := by
  intro r hr
  unfold fmRows at hr
  cases e : fmTab[i]? with
  | none => rw [e] at hr; cases hr
  | some tb => rw [e] at hr; exact fm_all tb (List.mem_of_getElem? e) r hr
theorem fmCh_len (mode : Int) (i : Nat) : (fmCh mode i (fmRows i)).length = 1 := by
  unfold fmCh
  split
  · rename_i r e; exact fmRows_len i r (List.mem_of_find?_eq_some e)
  · split <;> decide
theorem fmChars_sum (mode : Int) : ∀ i, ((fmChars mode i).map (·.length)).sum = i ∧ (fmChars mode i).length = i
  | 0 => ⟨rfl, rfl⟩
  | i + 1 => by
    have ih := fmChars_sum mode i
    have e := fmCh_len mode i
    constructor
    · show ((fmChars mode i ++ [fmCh mode i (fmRows i)]).map (fun x : Str => x.length)).sum = _
      rw [List.map_append, List.sum_append, ih.1]
      simp [e]
    · show (fmChars mode i ++ [fmCh mode i (fmRows i)]).length = _
      rw [List.length_append, ih.2]
      rfl
theorem fm_split {rows : List FmRow} {k : Nat} {row : FmRow} (h : rows[k]? = some row) : rows = rows.take k ++ row :: rows.drop (k + 1) := by
  have hk := (List.getElem?_eq_some_iff.mp h).1
  have e := List.take_append_drop k rows
  rw [List.drop_eq_getElem_cons hk] at e
  rw [(List.getElem?_eq_some_iff.mp h).2] at e
  exact e.symm
theorem fm_take {mode : Int} {i : Nat} {rows : List FmRow} {k : Nat} {row : FmRow} (h : rows[k]? = some row) (a : ∀ r ∈ rows.take k, fmHit mode i r.2.1 = false) (hn : fmHit mode i row.2.1 = false) : ∀ r ∈ rows.take (k + 1), fmHit mode i r.2.1 = false := by
  intro r hr
  rw [List.take_add_one, h] at hr
  rcases List.mem_append.mp hr with hr | hr
  · exact a r hr
  · rw [List.mem_singleton.mp hr]; exact hn
theorem fmCh_hit {mode : Int} {i : Nat} {tb : Addr × List FmRow} {k : Nat} {row : FmRow} (ht : fmTab[i]? = some tb) (h : tb.2[k]? = some row) (a : ∀ r ∈ tb.2.take k, fmHit mode i r.2.1 = false) (hy : fmHit mode i row.2.1 = true) : fmCh mode i (fmRows i) = row.2.2 := by
  have e : fmRows i = tb.2 := by unfold fmRows; rw [ht]; rfl
  have ef : tb.2.find? (fun r => fmHit mode i r.2.1) = some row := by
    rw [fm_split h, List.find?_append, List.find?_eq_none.mpr (fun r hr => by simp [a r hr])]
    simp [hy]
  unfold fmCh
  rw [e, ef]
theorem fmCh_none {mode : Int} {i : Nat} {tb : Addr × List FmRow} (ht : fmTab[i]? = some tb) (a : ∀ r ∈ tb.2.take tb.2.length, fmHit mode i r.2.1 = false) : fmCh mode i (fmRows i) = if i = 0 then Str.ofString "?" else Str.ofString "-" := by
  have e : fmRows i = tb.2 := by unfold fmRows; rw [ht]; rfl
  rw [List.take_length] at a
  unfold fmCh
  rw [e, List.find?_eq_none.mpr (fun r hr => by simp [a r hr])]
theorem fmHit0 {mode bit : Int} {i : Nat} {b : Bool} (hi : (i : Int) = 0) (h : decide (Builtin.bitAnd mode 61440 = bit) = b) : fmHit mode i bit = b := by unfold fmHit; rw [if_pos (by omega)]; exact h
theorem fmHit1 {mode bit : Int} {i : Nat} {b : Bool} (hi : (i : Int) ≠ 0) (h : decide (Builtin.bitAnd mode bit = bit) = b) : fmHit mode i bit = b := by unfold fmHit; rw [if_neg (by omega)]; exact h
theorem strs_snoc {xs : List Value} {ys : List Str} {y : Str} {t : Tok} (h : StrsAre xs ys) : StrsAre (xs ++ [.str y t]) (ys ++ [y]) := by
  induction h with
  | nil => exact .cons y t .nil
  | cons z u _ ih => exact .cons z u ih
theorem fmOut_next {pl : Addr} {mode : Int} {t : Tok} {i : Nat} {m' : Str → Option Value} {xs : List Value} {n : Nat} {y : Str} {u : Tok} {nx' : Led} (h4 : StrsAre xs (fmChars mode i)) (h5 : xs.length = i)
    (h1 : m' (Str.ofString "mode") = some (.int mode t)) (h2 : m' (Str.ofString "perm") = some (.ref pl)) (hl : (pl, listOf (xs ++ [Value.str y u]).toArray (n + 1)) ∈ nx') (hy : y = fmCh mode i (fmRows i)) : fmOut pl mode t (i + 1) m' nx' := by
  subst hy
  exact ⟨h1, h2, _, _, hl, strs_snoc h4, by simp [h5]⟩
set_option maxRecDepth 100000 in
set_option maxHeartbeats 2000000 in
theorem filemode (w : World) (mode : Int) (t : Tok) : Gives w 700 183 [.int mode t] (fun _ => True) (fun new v => new = [] ∧ ∃ t, v = .str (Txt.join (Str.ofString "") (fmChars mode 10)) t) := by
  k_extra "m_intro"
  refine' m_call [(Str.ofString "mode", .int mode t)] B F X T rfl rfl hk ?k6 ?k7 ?k8 ?k9 ?kB ?_ ?c2 ?c3 ?c4 ?c5
  k_extra "m_enter"
  obtain ⟨hT, hRows⟩ := fm_heap X'
  k_extra "m_steps"
  k_extra "m_for"
  k_extra "m_steps"
  rename_i pl hx1 lx1 hx2 F8 N8
  refine m_iterE [] (fmOut pl mode t) fmOut_mono (fun _ h => nomatch h) rfl hT F8 N8 ⟨rfl, rfl, [], 0, by k_mem, .nil, rfl⟩ ?_ ?_
  · rintro i x T ti m₁ nx h tk ow hi hx hT2 hJF7 how F7 N7 Qt hQ
    k_extra "m_fold"
    obtain ⟨j1, j2, xs, n, j3, j4, j5⟩ := hJF7
    clear F8 N8
    have hi10 : i < 10 := hi
    k_extra "m_steps"
    obtain ⟨tb, htb, rfl⟩ := fm_get hx
    obtain ⟨hTab, hRow⟩ := hRows tb (List.mem_of_getElem? htb)
    k_extra "m_for"
    k_extra "m_steps"
    rename Fr _ _ _ _ => F6
    rename News _ _ _ _ => N6
    refine m_iterT ow (fmIn ow pl mode t i ti xs n tb.2) fmIn_mono (fun p hp => List.mem_append_left _ hp) rfl hTab F6 N6 ⟨fun p hp => List.mem_append_left _ hp, j1, j2, rfl, by k_mem, fun r hr => nomatch hr⟩ ?_ ?_
    · rintro k v m₂ ny h2 tk2 ow2 hk2 hv hJF5 how2 F5 N5 Qt2 hQ2
      k_extra "m_fold"
      obtain ⟨o1, a1, a2, a3, a4, a5⟩ := hJF5
      obtain ⟨row, hrow, rfl⟩ := fm_row hv
      obtain ⟨ba, bb, hrT⟩ := hRow row (List.mem_of_getElem? hrow)
      have hT3 : IsTup h2 row.1 #[.int row.2.1 ba, .str row.2.2 bb] := IsTup.keeps hrT F5.keep
      clear F6 N6
      k_extra "m_steps"
      all_goals first
        | (rename Fr _ _ _ _ => F3
           rename News _ _ _ _ => N3
           refine hQ2 _ _ (TurnP.next F3 N3 (fun p hp => List.mem_append_left _ hp) ⟨fun p hp => List.mem_append_right _ (o1 p hp), a1, a2, a3, List.mem_append_right _ a4, fm_take hrow a5 ?_⟩)
           first | exact fmHit0 (by assumption) (decide_eq_false (by assumption)) | exact fmHit1 (by assumption) (decide_eq_false (by assumption)))
        | (refine hQ2 _ _ ?_
           dsimp only [TurnP]
           k_extra "m_steps"
           rename Fr _ _ _ _ => F3
           rename News _ _ _ _ => N3
           refine hQ _ _ (TurnP.next F3 N3 (fun p hp => ht' p (List.mem_append_right _ (o1 p hp)) (how p hp).1) (fmOut_next j4 j5 a1 a2 hl' (fmCh_hit htb hrow a5 ?_).symm))
           first | exact fmHit0 (by assumption) (decide_eq_true (by assumption)) | exact fmHit1 (by assumption) (decide_eq_true (by assumption)))
    · rintro m₂ ny h2 tk2 ⟨o1, a1, a2, a3, a4, a5⟩ F5 N5
      clear F6 N6
      rw [List.length_map] at a5
      have hc := fmCh_none htb a5
      k_extra "m_steps"
      · rename Fr _ _ _ _ => F3
        rename News _ _ _ _ => N3
        refine hQ _ _ (TurnP.next F3 N3 (fun p hp => ht' p (o1 p hp) (how p hp).1) (fmOut_next j4 j5 a1 a2 hl' ?_))
        rw [hc, if_pos (by omega)]
      · rename Fr _ _ _ _ => F3
        rename News _ _ _ _ => N3
        refine hQ _ _ (TurnP.next F3 N3 (fun p hp => ht' p (o1 p hp) (how p hp).1) (fmOut_next j4 j5 a1 a2 hl' ?_))
        rw [hc, if_neg (by omega)]
  · rintro m₁ nx h tk ⟨j1, j2, xs, n, j3, j4, j5⟩ F7 N7
    clear F8 N8
    have e10 : (fmTab.map fun p => Value.ref p.1).length = 10 := rfl
    rw [e10] at j4
    have hsum := fmChars_sum mode 10
    k_extra "m_steps"
    refine join_listW (News.isList N7 j3) (ys := fmChars mode 10) j4 (by decide) (by rw [hsum.1, hsum.2]; decide) fun t' k' => ?_
    dsimp only
    k_extra "m_steps"
    exact hret _ _ _ _ (by assumption) (Fr.keep (by assumption)) News.nil ⟨rfl, _, rfl⟩
end Mine
namespace Mine
open PySem PySem.W PySem.Calls PyProof.Rows
theorem words_V1 : PySem.Challenge.rw_ik0046_01 = PySem.Challenge.rw_ik0046_01 ∧ hook0.heap_1 = hook0.heap_1 := by
  k_with_none
  k_fill
  k_with "m_intro" => intro prog mean mg mb cn cs a ccd cl outer A₀ base h₀ L m s Q E B F X T hk hpre hret
  k_with "m_enter" => (
    (case k6 => k_dflt k_is); (case k7 => k_dflt k_is); (case k8 => exact Nat.le_of_ble_eq_true rfl); (case k9 => exact rfl); (case c5 => decide); (case kB => exact locs rfl); (case c2 => exact rfl); (case c3 => exact rfl); (case c4 => exact rfl)
    k_whole
    intro L' h' tk F' N' B' X' T' e₁ A₁
    (try dsimp only)
    (try dsimp only [List.reverse, List.reverseAux] at F')
    (try k_fold))
  k_with "m_enterR" => (
    (case k6 => k_dflt k_is); (case k7 => k_dflt k_is); (case k8 => exact Nat.le_of_ble_eq_true rfl); (case kP => exact rfl); (case kG => exact fun _ => rfl); (case c5 => decide); (case kB => exact fun _ => locs rfl); (case c2 => exact rfl); (case c3 => exact rfl); (case c4 => exact rfl)
    k_whole
    intro D' L' h' tk F' N' B' X' T' e₁ A₁
    (try dsimp only)
    (try dsimp only [List.reverse, List.reverseAux] at F')
    (try k_fold))
  k_with "m_name" => k_dflt (refine' ld ?k1 ?k2 ?_; (case k1 => k_asm); (case k2 => first | exact rfl | assumption); k_whole)
  k_with "m_append" => (
    k_dflt (refine' m_append ?k1 ?k2 ?k3 ?k4 ?_; (case k1 => k_asm); (case k2 => k_asm); (case k3 => k_mem); (case k4 => first | assumption | omega | decide); k_whole)
    intro h' n' F' N' hl' hs' ht'
    (try k_sweep))
  k_with "m_mem" => first | assumption | exact List.Mem.head _ | (refine List.mem_cons_of_mem _ ?_; k_mem) | (refine List.mem_append_right _ ?_; k_mem) | (refine List.mem_append_left _ ?_; k_mem)
  k_with "m_fold" => ((with_reducible show wpAny _ _ _ _ _ _); k_fold)
  k_with "m_steps" => (repeat' (first
    | (k_unfold; (try dsimp only)) | (k_end; wrow_close)
    | ((with_reducible show wpAny _ _ (exec _ _) _ _ _); k_fold)
    | ((fail_if_success (with_reducible show wpAny _ _ (exec (Stmt.For _ _ _ _ _) _) _ _ _)); (fail_if_success (with_reducible show wpAny _ _ (exec (Stmt.While _ _ _ _) _) _ _ _)); first | (walk1; (try dsimp only)) | (dsimp only; walk1))))
  k_with "m_div" => ((with_reducible show wpAny _ _ (binaryOp Operator.FloorDiv (Value.int _ _) (Value.int _ _)) _ _ _); k_dflt (refine' fdiv_e ?k1 ?_; (case k1 => first | decide | omega); k_whole))
  k_with "m_mod" => ((with_reducible show wpAny _ _ (binaryOp Operator.Mod (Value.int _ _) (Value.int _ _)) _ _ _); k_dflt (refine' fmod_e ?k1 ?_; (case k1 => first | decide | omega); k_whole))
  k_with "m_for" => (with_unfolding_all refine m_for ?_ (fun _ => rfl))
  k_with "m_use" => (
    (with_reducible show wpAny _ _ (call (Value.ref 101) [Value.str _ _]) _ _ _)
    k_dflt (refine' Gives.use (fspath _ _ _) ?k1 ?k2 ?k3 ?k4 ?k5 ?k6 ?k7 ?k8 ?kp ?_; (case k1 => k_asm); (case k2 => k_asm); (case k3 => k_asm); (case k4 => k_asm); (case k5 => k_asm); (case k6 => exact rfl); (case k7 => exact Nat.le_of_ble_eq_true rfl); (case k8 => exact Nat.le_of_ble_eq_true rfl); (case kp => trivial); k_whole)
    intro r' n' h' tk' F' N' hz' hr'
    (try ((with_reducible show wpAny _ _ _ _ _ _); k_fold))
    obtain ⟨hs', t', e'⟩ := hr'
    subst hs' e'
    (try clear hz')
    (try simp only [List.nil_append] at N')
    (try dsimp only)
    (try k_sweep))
  k_with "m_use" => (
    (with_reducible show wpAny _ _ (call (Value.ref 115) [Value.str _ _]) _ _ _)
    k_dflt (refine' Gives.use (getsep _ _ _) ?k1 ?k2 ?k3 ?k4 ?k5 ?k6 ?k7 ?k8 ?kp ?_; (case k1 => k_asm); (case k2 => k_asm); (case k3 => k_asm); (case k4 => k_asm); (case k5 => k_asm); (case k6 => exact rfl); (case k7 => exact Nat.le_of_ble_eq_true rfl); (case k8 => exact Nat.le_of_ble_eq_true rfl); (case kp => trivial); k_whole)
    intro r' n' h' tk' F' N' hz' hr'
    (try ((with_reducible show wpAny _ _ _ _ _ _); k_fold))
    obtain ⟨hs', t', e'⟩ := hr'
    subst hs' e'
    (try clear hz')
    (try simp only [List.nil_append] at N')
    (try dsimp only)
    (try k_sweep))
  k_with "m_use" => (
    (with_reducible show wpAny _ _ (call (Value.ref 143) [Value.int _ _]) _ _ _)
    k_dflt (refine' Gives.use (sifmt _ _ _) ?k1 ?k2 ?k3 ?k4 ?k5 ?k6 ?k7 ?k8 ?kp ?_; (case k1 => k_asm); (case k2 => k_asm); (case k3 => k_asm); (case k4 => k_asm); (case k5 => k_asm); (case k6 => exact rfl); (case k7 => exact Nat.le_of_ble_eq_true rfl); (case k8 => exact Nat.le_of_ble_eq_true rfl); (case kp => trivial); k_whole)
    intro r' n' h' tk' F' N' hz' hr'
    (try ((with_reducible show wpAny _ _ _ _ _ _); k_fold))
    obtain ⟨hs', t', e'⟩ := hr'
    subst hs' e'
    (try clear hz')
    (try simp only [List.nil_append] at N')
    (try dsimp only)
    (try k_sweep))
  exact ⟨rfl, rfl⟩
/-- the octets of a number ahead of its last, the greatest first -/
noncomputable def vhiF : Nat → Nat → List Nat
  | 0, _ => []
  | k + 1, n => if n = 0 then [] else vhiF k (n / 64) ++ [64 + n % 64]
noncomputable def vhiN (n : Nat) : List Nat := vhiF n n
theorem vhiF_eq : ∀ (k l n : Nat), n ≤ k → n ≤ l → vhiF k n = vhiF l n
  | 0, 0, _, _, _ => rfl
  | 0, _ + 1, n, h, _ => by
    have e : n = 0 := Nat.le_zero.mp h
    subst e; rfl
  | _ + 1, 0, n, _, h => by
    have e : n = 0 := Nat.le_zero.mp h
    subst e; rfl
  | k + 1, l + 1, n, h, h' => by
    show (if n = 0 then [] else vhiF k (n / 64) ++ [64 + n % 64]) = (if n = 0 then [] else vhiF l (n / 64) ++ [64 + n % 64])
    by_cases e : n = 0
    · rw [if_pos e, if_pos e]
    · rw [if_neg e, if_neg e, vhiF_eq k l (n / 64) (by omega) (by omega)]
theorem vhiN_zero : vhiN 0 = [] := rfl
theorem vhiN_pos {n : Nat} (h : n ≠ 0) : vhiN n = vhiN (n / 64) ++ [64 + n % 64] := by
  cases n with
  | zero => exact absurd rfl h
  | succ k =>
    show (if k + 1 = 0 then [] else vhiF k ((k + 1) / 64) ++ [64 + (k + 1) % 64]) = _
    rw [if_neg h, vhiF_eq k ((k + 1) / 64) _ (by omega) (Nat.le_refl _)]
    rfl
noncomputable def vhi (n : Nat) : List Int := (vhiN n).map fun (x : Nat) => (x : Int)
noncomputable def varint (n : Nat) : List Int := vhi (n / 64) ++ [((n % 64 : Nat) : Int)]
theorem vhi_zero : vhi 0 = [] := rfl
theorem vhi_pos {n : Nat} (h : n ≠ 0) : vhi n = vhi (n / 64) ++ [((64 + n % 64 : Nat) : Int)] := by
  unfold vhi
  rw [vhiN_pos h, List.map_append]
  rfl
theorem vhi_len : ∀ (k n : Nat), n < 64 ^ k → (vhi n).length ≤ k
  | 0, n, h => by
    have e : n = 0 := by simpa using h
    rw [e, vhi_zero]; exact Nat.le_refl _
  | k + 1, n, h => by
    by_cases e : n = 0
    · rw [e, vhi_zero]; exact Nat.zero_le _
    · rw [vhi_pos e, List.length_append]
      have := vhi_len k (n / 64) (by rw [Nat.pow_succ] at h; omega)
      simp only [List.length_cons, List.length_nil]
      omega
theorem varint_len {n : Nat} (h : n < 2 ^ 30) : (varint n).length ≤ 5 := by
  unfold varint
  rw [List.length_append]
  have := vhi_len 4 (n / 64) (by omega)
  simp only [List.length_cons, List.length_nil]
  omega
noncomputable def vInv (n : Nat) (k : Nat) (m : Str → Option Value) (nx : Led) : Prop :=
  ∃ (t : Tok) (l : Addr) (xs : List Value) (c : Nat) (ys : List Int), m (Str.ofString "number") = some (.int (k : Int) t) ∧ m (Str.ofString "octets") = some (.ref l) ∧ (l, listOf xs.toArray c) ∈ nx ∧ IntsAre xs ys ∧ vhi (k / 64) ++ ys = varint n
set_option maxRecDepth 100000 in
set_option maxHeartbeats 2000000 in
theorem varint_says (w : World) (n : Nat) (t : Tok) (hn : n < 2 ^ 30) : Gives w 700 197 [.int (n : Int) t] (fun _ => True) (fun new v => ∃ l xs c, v = .ref l ∧ (l, listOf xs.toArray c) ∈ new ∧ IntsAre xs (varint n)) := by
  k_extra "m_intro"
  refine' m_call [(Str.ofString "number", .int (n : Int) t)] B F X T rfl rfl hk ?k6 ?k7 ?k8 ?k9 ?kB ?_ ?c2 ?c3 ?c4 ?c5
  k_extra "m_enter"
  have hlen := varint_len hn
  k_extra "m_steps"
  rename Fr _ _ _ _ => F8
  rename News _ _ _ _ => N8
  (with_unfolding_all refine m_while (vInv n) n F8 N8 ⟨_, _, _, _, [((n % 64 : Nat) : Int)], rfl, rfl, by k_mem, ?_, rfl⟩ ?_)
  · exact .cons _ _ .nil
  · rintro k m₁ nx h tk2 hJF7 F7 N7 Qt hQ
    k_extra "m_fold"
    obtain ⟨t2, l, xs, c, ys, j1, j2, j3, j4, j5⟩ := hJF7
    clear F8 N8
    have hxs : xs.length ≤ 5 := by
      have e := congrArg List.length j5
      rw [List.length_append] at e
      have := j4.length
      omega
    k_extra "m_steps"
    · rename Fr _ _ _ _ => F6
      rename News _ _ _ _ => N6
      refine add_lists (vs := [_]) (ws := xs) (hsz := Nat.le_trans (Nat.add_le_add_left hxs 1) (by decide)) F6 N6 (News.isList N6 (.head _)) (News.isList N6 (.tail _ j3)) fun h9 F9 N9 => ?_
      dsimp only
      k_extra "m_steps"
      rename Fr _ _ _ _ => F5
      rename News _ _ _ _ => N5
      refine hQ _ _ (WhileP.next (k / 64) (by omega) F5 N5 ⟨_, _, _, _, ((64 + k / 64 % 64 : Nat) : Int) :: ys, rfl, rfl, .head _, ?_, ?_⟩)
      · have e : (64 : Int) + (k : Int) / 64 % 64 = ((64 + k / 64 % 64 : Nat) : Int) := by omega
        rw [e]
        exact .cons _ _ j4
      · rw [← j5, vhi_pos (n := k / 64) (by omega), List.append_assoc]
        rfl
    · have hk0 : k / 64 = 0 := by omega
      rw [hk0, vhi_zero] at j5
      rw [List.nil_append] at j5
      subst j5
      exact hret _ _ _ _ (by assumption) (Fr.keep (by assumption)) (news_out F (by assumption)) ⟨l, xs, c, rfl, j3, j4⟩
end Mine
namespace Mine
open PySem PySem.W PySem.Calls PySem.Spec PyProof.Rows PyProof.V
noncomputable def itO (b : Array UInt8) (t : Tok) (i : Nat) : Obj := { cls := .type "bytes_iterator", data := .fields #[.bytes b t, .int i 0] }
theorem ownMembersOf_stop : ownMembersOf (.type "StopIteration") [] = #[] := by
  unfold ownMembersOf
  split <;> first | rfl | (rename_i h; revert h; decide) | simp_all
section
variable {prog : Program} {w : World} {A A₀ : Around} {E : Value → Shared → Prop} {s : Shared} {h₀ base : Heap} {L : Addr} {m mg mb : Str → Option Value} {news : Led} {b : Array UInt8} {t : Tok} {i : Nat} {it : Addr}
/-- one object of the ledger stands changed -/
theorem news_put {o o' : Obj} {h' : Heap} (F : Fr h₀ L s.heap m) (N : News h₀ L s.heap news) (hm : (it, o) ∈ news) (hs : Heap.SameBut it s.heap h') (ho : h'.get? it = some o') :
    Fr h₀ L h' m ∧ News h₀ L h' ((it, o') :: news.filter fun p => decide (p.1 ≠ it)) := by
  have z := N _ hm
  refine ⟨F.change hs z.2.1 z.2.2, fun p hp => ?_⟩
  rcases List.mem_cons.mp hp with rfl | hp
  · exact ⟨ho, z.2⟩
  · have hp' := List.mem_filter.mp hp
    exact ⟨(hs.2 p.1 (of_decide_eq_true hp'.2)).trans (N p hp'.1).1, (N p hp'.1).2⟩
theorem itO_step : Obj.mapFields (·.setIfInBounds 1 (rawInt ((i : Int) + 1))) (itO b t i) = itO b t (i + 1) := rfl
theorem next_b {c : UInt8} {Q : Value → Shared → Prop} (F : Fr h₀ L s.heap m) (N : News h₀ L s.heap news) (hm : (it, itO b t i) ∈ news) (hx : b[i]? = some c)
    (h : ∀ h' u tk, Fr h₀ L h' m → News h₀ L h' ((it, itO b t (i + 1)) :: news.filter fun p => decide (p.1 ≠ it)) → Q (.int (c.toNat : Int) u) { s with heap := h', toks := tk }) :
    wpAny (model prog w) A (call (.builtin "next") [.ref it]) Q E s := by
  have z := N _ hm
  have hT : s.TypeIs (.ref it) "bytes_iterator" := ⟨_, z.1, rfl⟩
  refine call_function_entry (by decide +kernel) (by decide +kernel) kdk_entry_next (kdk_args_next _) ?_
  unfold Builtin.«next»
  refine wpAny_bind (m := someArgs "next" 1 2 _) (wpAny_of_eq (a := [Value.ref it]) (by first | rfl | kernel_rfl!) ?_)
  dsimp only
  refine wpAny_bind (wpAny_specialOf (name := Str.ofString "__next__") hT KBw.slot_next.lookup ?_)
  refine wpAny_ite_split (fun hab => absurd hab (by decide)) (fun _ => ?_)
  refine wpAny_bind (wpAny_callSpecial?_slot (name := PySem.Str.ofString "__next__") hT KBw.slot_next
    (wpAny_call_entry KBw.slot_next hT KBw.entry_next ?_ (KBw.args_next _)))
  show wpAny _ _ (field (.ref it) 0 >>= _) _ _ s
  refine wpAny_bind (wpAny_field z.1 (by rfl) (x := .bytes b t) rfl ?_)
  show wpAny _ _ (if (Value.bytes b t == Value.none) = true then _ else _) _ _ s
  rw [if_neg (show ¬ ((Value.bytes b t == Value.none) = true) from Bool.false_ne_true)]
  show wpAny _ _ (field (.ref it) 1 >>= _) _ _ s
  refine wpAny_bind (wpAny_field z.1 (by rfl) (x := .int i 0) rfl ?_)
  refine wpAny_bind (wpAny_of_eq (a := b) rfl ?_)
  simp only [Int.toNat_natCast, hx]
  have hg : (s.heap.update it (Obj.mapFields (·.setIfInBounds 1 (rawInt ((i : Int) + 1))))).get? it = some (itO b t (i + 1)) := Heap.get?_update_self _ z.1 rfl
  obtain ⟨F', N'⟩ := news_put F N hm (Heap.SameBut.update ..) hg
  refine wpAny_bind (wpAny_setField z.1 (by rfl) (by simp) (wpAny_bind (wpAny_mkInt (wpAny_pure ⟨_, rfl, ?_⟩))))
  exact wpAny_pure ⟨_, rfl, h _ _ _ F' N'⟩
theorem next_stop {Q : Value → Shared → Prop} (hh : A.handled = none) (F : Fr h₀ L s.heap m) (N : News h₀ L s.heap news) (hm : (it, itO b t i) ∈ news) (hx : b[i]? = none)
    (h : ∀ h₂ h' e, Fr h₀ L h₂ m → News h₀ L h₂ (news.filter fun p => decide (p.1 ≠ it)) → Heap.NewExc h₂ h' e "StopIteration" → E (.ref e) { s with heap := h' }) :
    wpAny (model prog w) A (call (.builtin "next") [.ref it]) Q E s := by
  have z := N _ hm
  have hT : s.TypeIs (.ref it) "bytes_iterator" := ⟨_, z.1, rfl⟩
  refine call_function_entry (by decide +kernel) (by decide +kernel) kdk_entry_next (kdk_args_next _) ?_
  unfold Builtin.«next»
  refine wpAny_bind (m := someArgs "next" 1 2 _) (wpAny_of_eq (a := [Value.ref it]) (by first | rfl | kernel_rfl!) ?_)
  dsimp only
  refine wpAny_bind (wpAny_specialOf (name := Str.ofString "__next__") hT KBw.slot_next.lookup ?_)
  refine wpAny_ite_split (fun hab => absurd hab (by decide)) (fun _ => ?_)
  refine wpAny_bind (wpAny_callSpecial?_slot (name := PySem.Str.ofString "__next__") hT KBw.slot_next
    (wpAny_call_entry KBw.slot_next hT KBw.entry_next ?_ (KBw.args_next _)))
  show wpAny _ _ (field (.ref it) 0 >>= _) _ _ s
  refine wpAny_bind (wpAny_field z.1 (by rfl) (x := .bytes b t) rfl ?_)
  show wpAny _ _ (if (Value.bytes b t == Value.none) = true then _ else _) _ _ s
  rw [if_neg (show ¬ ((Value.bytes b t == Value.none) = true) from Bool.false_ne_true)]
  show wpAny _ _ (field (.ref it) 1 >>= _) _ _ s
  refine wpAny_bind (wpAny_field z.1 (by rfl) (x := .int i 0) rfl ?_)
  refine wpAny_bind (wpAny_of_eq (a := b) rfl ?_)
  simp only [Int.toNat_natCast, hx]
  refine wpAny_bind (wpAny_rule (wpAny_bind (wpAny_setField z.1 (by rfl) (by simp) ?_)))
  show wpAny _ _ (newExc (.type "StopIteration") [] >>= _) _ _ _
  refine wpAny_bind ?_
  simp only [newExc, newTuple]
  refine wpAny_bind (wpAny_newObj_type ?_ (by size_fits))
  refine wpAny_bind (m := firstArgMember _ _) (wpAny_of_eq (a := Value.none) (by first | rfl | (simp only [firstArgMember]; rfl)) ?_)
  refine wpAny_newObj_type ?_ (by size_fits)
  simp only [raiseNew]
  refine wpAny_bind (wpAny_handled ?_)
  rw [show A.in1.in1.handled = none from hh]
  refine wpAny_bind (wpAny_pure (wpAny_throw ?_))
  have hg := Heap.get?_update_self (Obj.mapFields (·.setIfInBounds 0 Value.none)) z.1 rfl
  obtain ⟨F', N'⟩ := news_put F N hm (Heap.SameBut.update ..) hg
  refine h _ _ _ F' (fun p hp => N' p (.tail _ hp)) ⟨fun b o hb => Heap.get?_push_of_some _ (Heap.get?_push_of_some _ hb), Heap.get?_none_of_le (by simp), _, .ref (s.heap.update it (Obj.mapFields (·.setIfInBounds 0 Value.none))).objs.size, Heap.get?_push_size _ rfl, rfl, ?_⟩
  rw [ownMembersOf_stop]
  rfl
theorem iter_b {Q : Value → Shared → Prop} (F : Fr h₀ L s.heap m) (N : News h₀ L s.heap news)
    (h : ∀ it h', Fr h₀ L h' m → News h₀ L h' ((it, itO b t 0) :: news) → (∀ p ∈ news, p.1 ≠ it) → Q (.ref it) { s with heap := h' }) :
    wpAny (model prog w) A (call (.builtin "iter") [.bytes b t]) Q E s := by
  refine call_function_entry (by decide +kernel) (by decide +kernel) kdk_entry_iter (kdk_args_iter _) ?_
  unfold Builtin.«iter»
  refine wpAny_bind (m := someArgs "iter" 1 2 _) (wpAny_of_eq (a := [Value.bytes b t]) (by first | rfl | kernel_rfl!) ?_)
  show wpAny _ _ (pyIter (.bytes b t) >>= _) _ _ _
  refine wpAny_bind (KBw.pyIter_bytes ?_)
  exact wpAny_pure ⟨_, rfl, h _ _ (F.push _) (News.push F N _ rfl) fun p hp => Nat.ne_of_lt (Heap.lt_size (N p hp).1)⟩
end
end Mine
namespace Mine
open PySem PySem.W PySem.Calls PySem.Spec PyProof.Rows PyProof.V
/-- a call of the def at f from any frame of a def: the ledger of the caller goes in and comes back -/
noncomputable def GivesL (w : World) (dp : Nat) (f : Addr) (vs : List Value) (Pre : Led → Prop) (Ret : Led → Led → Value → Prop) : Prop :=
  ∀ (prog : Program) (mean : ExcName → Option Value) (mg mb : Str → Option Value) (cn : Str) (cs : Scope) (a : Addr) (ccd : Value) (cl : List (Str × Addr)) (outer : List Env) (A₀ : Around) (base h₀ : Heap) (L : Addr) (m : Str → Option Value) (news : Led) (s : Shared) (Q E : Value → Shared → Prop),
    Below A₀ base outer h₀ → Fr h₀ L s.heap m → (hook0.heap_1 w.params).In h₀ → Top hd.view_39 (looseW hd.view_39 [Str.ofString "_filemode_table"]) mean mg mb h₀ → cs.kind = .function → News h₀ L s.heap news → Pre news →
    (∀ r news' h' tk', Fr h₀ L h' m → News h₀ L h' news' → Ret news news' r → Q r { s with heap := h', toks := tk' }) →
    wpAny (model prog w) (ktrTop dp (20 * dp) (some []) cn cs L a ccd cl outer) (call (.ref f) vs) Q E s
theorem GivesL.use {w : World} {dp : Nat} {f : Addr} {vs : List Value} {news : Led} {Pre : Led → Prop} {Ret : Led → Led → Value → Prop} (C : GivesL w dp f vs Pre Ret)
    {prog : Program} {mean : ExcName → Option Value} {mg mb : Str → Option Value} {d u : Nat} {cn : Str} {cs : Scope} {a : Addr} {ccd : Value} {cl : List (Str × Addr)} {outer : List Env} {A₀ : Around} {base h₀ : Heap} {L : Addr} {m : Str → Option Value} {s : Shared} {Q E : Value → Shared → Prop}
    (B : Below A₀ base outer h₀) (F : Fr h₀ L s.heap m) (X : (hook0.heap_1 w.params).In h₀) (N : News h₀ L s.heap news) (T : Top hd.view_39 (looseW hd.view_39 [Str.ofString "_filemode_table"]) mean mg mb h₀) (hk : cs.kind = .function) (hd : d ≤ dp) (hu : u ≤ 20 * dp) (hp : Pre news)
    (h : ∀ r news' h' tk', Fr h₀ L h' m → News h₀ L h' news' → Ret news news' r → Q r { s with heap := h', toks := tk' }) :
    wpAny (model prog w) (ktrTop d u (some []) cn cs L a ccd cl outer) (call (.ref f) vs) Q E s :=
  wpAny_le (A := ktrTop dp (20 * dp) (some []) cn cs L a ccd cl outer) (C prog mean mg mb cn cs a ccd cl outer A₀ base h₀ L m news s Q E B F X T hk N hp h) hd hu
section
variable {prog : Program} {w : World} {A A₀ : Around} {E : Value → Shared → Prop} {s : Shared} {K : Frag} {L : Addr} {h₀ base : Heap} {m mg mb : Str → Option Value} {p : Program} {loose : List Str} {mean : ExcName → Option Value} {news : Led}
/-- into the def at f, with the caller's ledger as its own -/
theorem m_callL {env : Env} {outer : List Env} {Q : Value → Shared → Prop} {name qual : Str} {params : Arguments} {body : List Stmt} {scope : Scope} {dV kV doc pm cdv ct oc : Value} {an od : Option Addr} {osl : Array (Option Value)} {f : Addr} {vs : List Value} (binds : List (Str × Value))
    (B : Below A₀ base outer h₀) (F : Fr h₀ L s.heap m) (N : News h₀ L s.heap news) (X₀ : K.In h₀) (T : Top p loose mean mg mb h₀) (hA : A.frames = some (env :: outer)) (hf : env.frame = some L) (hke : env.scope.kind = .function)
    (ho : K.lookup f = some ⟨oc, od, .func (fnOf name qual params body scope dV kV doc pm an cdv ct), osl⟩) (hcd : codeIn K cdv qual = true) (hroom : A.depth < recursionLimit)
    (hbind : bindArgs (fnOf name qual params body scope dV kV doc pm an cdv ct) ⟨vs, []⟩ = pure binds) (hloc : ∀ y ∈ binds, scope.names.lookup y.1 = some .local)
    (h : ∀ g L' h₁ tk, Fr h₀ L g m → Fr g L' h₁ (fun y => binds.reverse.lookup y) → News g L' h₁ news → Below A base (env :: outer) g → K.In g → Top p loose mean mg mb g →
      let e₁ := envOf qual scope L' f cdv
      let A₁ := A.deeper e₁
      wpAny (model prog w) A₁ (execs body e₁)
        (fun fl s' => LeaveK h₀ L m g (fun r s' => match r with | .ok (.ret v) => Q v s' | .ok _ => False | .error e => E e s') (match fl with | .ret v => v | _ => .none) s')
        (fun e s' => wpAny (model prog w) A₁ (leaving e₁ e) (fun _ s'' => E e s'') (fun e' s'' => E e' s'') s')
        { s with heap := h₁, toks := tk })
    (hco : scope.isCoroutine = false) (hgen : scope.isGenerator = false) (hk : scope.kind = .function)
    (hcell : ∀ x ∈ scope.names, x.2 ≠ .cell) : wpAny (model prog w) A (call (.ref f) vs) Q E s := by
  obtain ⟨FG, BG, st, lv⟩ := groundX (R := fun r s' => match r with | .ok (.ret v) => Q v s' | .ok _ => False | .error e => E e s') B F N hA hf hke
  refine wpAny_call (codeAny_call_def (fd := fnOf name qual params body scope dV kV doc pm an cdv ct) (body := body) (binds := binds) hroom ((X₀.keeps F.keep) _ _ ho) rfl ((T.keeps F.keep).nolimit) (codeRec_of (X₀.keeps F.keep) hcd) rfl (BindsTo.of_eq hbind) hcell hloc (fun h₁ hns hk₁ => ?_) hco hgen hk)
  exact wpAny_mono (h _ s.heap.objs.size h₁ _ FG ⟨hns, fun b o e => hk₁ b o (of_hideAll _ e), Nat.le_of_eq (hideAll_size _ _)⟩
    (fun p hp => ⟨hk₁ _ _ (N p hp).1, Nat.ne_of_lt (Heap.lt_size (N p hp).1), hideAll_none _ (List.mem_map_of_mem hp)⟩) BG (X₀.keeps st) (T.keeps st)) (fun fl s' hl => lv _ _ hl) fun _ _ y => y
end
end Mine
namespace Mine
open PySem PySem.W PySem.Calls PySem.Spec PyProof.Rows PyProof.V
theorem and63 (c : Nat) : Builtin.bitAnd (c : Int) 63 = ((c % 64 : Nat) : Int) := by
  show (((c : Int).toNat &&& (63 : Int).toNat : Nat) : Int) = _
  rw [Int.toNat_natCast]
  exact congrArg Int.ofNat (Nat.and_two_pow_sub_one_eq_mod c 6)
theorem and64 {c : Nat} (h : c < 128) : Builtin.bitAnd (c : Int) 64 = if c < 64 then 0 else 64 := by
  show (((c : Int).toNat &&& (64 : Int).toNat : Nat) : Int) = _
  rw [Int.toNat_natCast]
  revert c
  decide
theorem or64 (v : Nat) {d : Nat} (h : d < 64) : Builtin.bitOr ((64 * v : Nat) : Int) (d : Int) = ((64 * v + d : Nat) : Int) := by
  rw [bitOr_and]
  have e : Builtin.bitAnd ((64 * v : Nat) : Int) (d : Int) = ((64 * v &&& d : Nat) : Int) := by
    show ((((64 * v : Nat) : Int).toNat &&& (d : Int).toNat : Nat) : Int) = _
    rw [Int.toNat_natCast, Int.toNat_natCast]
  have z : 64 * v &&& d = 0 := by
    apply Nat.eq_of_testBit_eq
    intro i
    rw [Nat.testBit_and, Nat.zero_testBit]
    by_cases hi : i < 6
    · rw [show 64 * v = v * 2 ^ 6 by omega, Nat.testBit_mul_two_pow]
      simp [Nat.not_le.mpr hi]
    · rw [Nat.testBit_lt_two_pow (x := d) (Nat.lt_of_lt_of_le h (Nat.pow_le_pow_right (n := 2) (by decide) (Nat.le_of_not_lt hi))), Bool.and_false]
  rw [e, z]
  omega
/-- the octets ys behind c, with v read so far, read to n -/
noncomputable def rd (v c : Nat) : List Nat → Nat → Prop
  | [], n => c < 64 ∧ v = n
  | c' :: ys, n => 64 ≤ c ∧ c < 128 ∧ v < 2 ^ 40 ∧ rd (64 * v + c' % 64) c' ys n
noncomputable def bN (b : Array UInt8) : List Nat := b.toList.map UInt8.toNat
theorem bget {b : Array UInt8} {i c : Nat} {ys : List Nat} (h : (bN b).drop i = c :: ys) : ∃ u, b[i]? = some u ∧ u.toNat = c ∧ (bN b).drop (i + 1) = ys := by
  have h0 : (bN b)[i]? = some c := by rw [← List.head?_drop, h]; rfl
  have h1 : (bN b).drop (i + 1) = ys := by rw [← List.tail_drop, h]; rfl
  unfold bN at h0
  rw [List.getElem?_map, Array.getElem?_toList] at h0
  cases q : b[i]? with
  | none => rw [q] at h0; cases h0
  | some u => rw [q] at h0; exact ⟨u, rfl, Option.some.inj h0, h1⟩
end Mine
namespace Mine
open PySem PySem.W PySem.Calls PyProof.Rows
theorem words_P1 : PySem.Challenge.rw_ik0046_01 = PySem.Challenge.rw_ik0046_01 ∧ hook0.heap_1 = hook0.heap_1 := by
  k_with_none
  k_fill
  k_with "m_intro" => intro prog mean mg mb cn cs a ccd cl outer A₀ base h₀ L m s Q E B F X T hk hpre hret
  k_with "m_enter" => (
    (case k6 => k_dflt k_is); (case k7 => k_dflt k_is); (case k8 => exact Nat.le_of_ble_eq_true rfl); (case k9 => exact rfl); (case c5 => decide); (case kB => exact locs rfl); (case c2 => exact rfl); (case c3 => exact rfl); (case c4 => exact rfl)
    k_whole
    intro L' h' tk F' N' B' X' T' e₁ A₁
    (try dsimp only)
    (try dsimp only [List.reverse, List.reverseAux] at F')
    (try k_fold))
  k_with "m_enterR" => (
    (case k6 => k_dflt k_is); (case k7 => k_dflt k_is); (case k8 => exact Nat.le_of_ble_eq_true rfl); (case kP => exact rfl); (case kG => exact fun _ => rfl); (case c5 => decide); (case kB => exact fun _ => locs rfl); (case c2 => exact rfl); (case c3 => exact rfl); (case c4 => exact rfl)
    k_whole
    intro D' L' h' tk F' N' B' X' T' e₁ A₁
    (try dsimp only)
    (try dsimp only [List.reverse, List.reverseAux] at F')
    (try k_fold))
  k_with "m_name" => k_dflt (refine' ld ?k1 ?k2 ?_; (case k1 => k_asm); (case k2 => first | exact rfl | assumption); k_whole)
  k_with "m_append" => (
    k_dflt (refine' m_append ?k1 ?k2 ?k3 ?k4 ?_; (case k1 => k_asm); (case k2 => k_asm); (case k3 => k_mem); (case k4 => first | assumption | omega | decide); k_whole)
    intro h' n' F' N' hl' hs' ht'
    (try k_sweep))
  k_with "m_mem" => first | assumption | exact List.Mem.head _ | (refine List.mem_cons_of_mem _ ?_; k_mem) | (refine List.mem_append_right _ ?_; k_mem) | (refine List.mem_append_left _ ?_; k_mem)
  k_with "m_fold" => ((with_reducible show wpAny _ _ _ _ _ _); k_fold)
  k_with "m_steps" => (repeat' (first
    | (k_unfold; (try dsimp only)) | (k_end; wrow_close)
    | ((with_reducible show wpAny _ _ (exec _ _) _ _ _); k_fold)
    | ((fail_if_success (with_reducible show wpAny _ _ (exec (Stmt.For _ _ _ _ _) _) _ _ _)); (fail_if_success (with_reducible show wpAny _ _ (exec (Stmt.While _ _ _ _) _) _ _ _)); first | (walk1; (try dsimp only)) | (dsimp only; walk1))))
  k_with "m_div" => ((with_reducible show wpAny _ _ (binaryOp Operator.FloorDiv (Value.int _ _) (Value.int _ _)) _ _ _); k_dflt (refine' fdiv_e ?k1 ?_; (case k1 => first | decide | omega); k_whole))
  k_with "m_mod" => ((with_reducible show wpAny _ _ (binaryOp Operator.Mod (Value.int _ _) (Value.int _ _)) _ _ _); k_dflt (refine' fmod_e ?k1 ?_; (case k1 => first | decide | omega); k_whole))
  k_with "m_for" => (with_unfolding_all refine m_for ?_ (fun _ => rfl))
  k_with "m_use" => (
    (with_reducible show wpAny _ _ (call (Value.ref 101) [Value.str _ _]) _ _ _)
    k_dflt (refine' Gives.use (fspath _ _ _) ?k1 ?k2 ?k3 ?k4 ?k5 ?k6 ?k7 ?k8 ?kp ?_; (case k1 => k_asm); (case k2 => k_asm); (case k3 => k_asm); (case k4 => k_asm); (case k5 => k_asm); (case k6 => exact rfl); (case k7 => exact Nat.le_of_ble_eq_true rfl); (case k8 => exact Nat.le_of_ble_eq_true rfl); (case kp => trivial); k_whole)
    intro r' n' h' tk' F' N' hz' hr'
    (try ((with_reducible show wpAny _ _ _ _ _ _); k_fold))
    obtain ⟨hs', t', e'⟩ := hr'
    subst hs' e'
    (try clear hz')
    (try simp only [List.nil_append] at N')
    (try dsimp only)
    (try k_sweep))
  k_with "m_use" => (
    (with_reducible show wpAny _ _ (call (Value.ref 115) [Value.str _ _]) _ _ _)
    k_dflt (refine' Gives.use (getsep _ _ _) ?k1 ?k2 ?k3 ?k4 ?k5 ?k6 ?k7 ?k8 ?kp ?_; (case k1 => k_asm); (case k2 => k_asm); (case k3 => k_asm); (case k4 => k_asm); (case k5 => k_asm); (case k6 => exact rfl); (case k7 => exact Nat.le_of_ble_eq_true rfl); (case k8 => exact Nat.le_of_ble_eq_true rfl); (case kp => trivial); k_whole)
    intro r' n' h' tk' F' N' hz' hr'
    (try ((with_reducible show wpAny _ _ _ _ _ _); k_fold))
    obtain ⟨hs', t', e'⟩ := hr'
    subst hs' e'
    (try clear hz')
    (try simp only [List.nil_append] at N')
    (try dsimp only)
    (try k_sweep))
  k_with "m_use" => (
    (with_reducible show wpAny _ _ (call (Value.ref 143) [Value.int _ _]) _ _ _)
    k_dflt (refine' Gives.use (sifmt _ _ _) ?k1 ?k2 ?k3 ?k4 ?k5 ?k6 ?k7 ?k8 ?kp ?_; (case k1 => k_asm); (case k2 => k_asm); (case k3 => k_asm); (case k4 => k_asm); (case k5 => k_asm); (case k6 => exact rfl); (case k7 => exact Nat.le_of_ble_eq_true rfl); (case k8 => exact Nat.le_of_ble_eq_true rfl); (case kp => trivial); k_whole)
    intro r' n' h' tk' F' N' hz' hr'
    (try ((with_reducible show wpAny _ _ _ _ _ _); k_fold))
    obtain ⟨hs', t', e'⟩ := hr'
    subst hs' e'
    (try clear hz')
    (try simp only [List.nil_append] at N')
    (try dsimp only)
    (try k_sweep))
  k_with "m_ldn" => k_dflt (refine' ldn ?k1 ?k2 ?_; (case k1 => k_asm); (case k2 => first | exact rfl | assumption); k_whole)
  k_with "m_next" => (
    k_dflt (refine' next_b ?k1 ?k2 ?k3 ?k4 ?_; (case k1 => k_asm); (case k2 => k_asm); (case k3 => k_mem); (case k4 => assumption); k_whole)
    intro h' t' tk' F' N'
    (try k_sweep))
  exact ⟨rfl, rfl⟩
noncomputable def pInv (it : Addr) (b : Array UInt8) (t : Tok) (news : Led) (rest : List Nat) (j n : Nat) (k : Nat) (m : Str → Option Value) (nx : Led) : Prop :=
  ∃ (t1 t2 : Tok) (i c v : Nat) (ys : List Nat), m (Str.ofString "b") = some (.int (c : Int) t1) ∧ m (Str.ofString "val") = some (.int (v : Int) t2) ∧ m (Str.ofString "iterator") = some (.ref it) ∧ (it, itO b t i) ∈ nx ∧
    ys.length = k ∧ (bN b).drop i = ys ++ rest ∧ rd v c ys n ∧ i + k = j ∧ ∀ p ∈ news, p.1 ≠ it → p ∈ nx
set_option maxRecDepth 100000 in
set_option maxHeartbeats 2000000 in
theorem parse (w : World) (b : Array UInt8) (t : Tok) (it : Addr) (i c : Nat) (ys rest : List Nat) (n : Nat) (hd : (bN b).drop i = c :: (ys ++ rest)) (hr : rd (c % 64) c ys n) :
    GivesL w 700 28 [.ref it] (fun news => (it, itO b t i) ∈ news) (fun news news' r => (it, itO b t (i + 1 + ys.length)) ∈ news' ∧ (∀ p ∈ news, p.1 ≠ it → p ∈ news') ∧ ∃ t', r = .int (n : Int) t') := by
  intro prog mean mg mb cn cs a ccd cl outer A₀ base h₀ L m news s Q E B F X T hk N hpre hret
  refine' m_callL [(Str.ofString "iterator", .ref it)] B F N X T rfl rfl hk ?k6 ?k7 ?k8 ?k9 ?kB ?_ ?c2 ?c3 ?c4 ?c5
  (case k6 => k_dflt k_is); (case k7 => k_dflt k_is); (case k8 => exact Nat.le_of_ble_eq_true rfl); (case k9 => exact rfl); (case c5 => decide); (case kB => exact locs rfl); (case c2 => exact rfl); (case c3 => exact rfl); (case c4 => exact rfl)
  k_whole
  intro g L' h' tk FG F' N' B' X' T' e₁ A₁
  (try dsimp only)
  (try dsimp only [List.reverse, List.reverseAux] at F')
  (try k_fold)
  obtain ⟨u, hu, huc, hd1⟩ := bget hd
  k_extra "m_steps"
  rename Fr _ _ _ _ => F8
  rename News _ _ _ _ => N8
  rw [huc, and63] at F8
  (with_unfolding_all refine m_while (pInv it b t news rest (i + 1 + ys.length) n) ys.length F8 N8 ⟨_, _, i + 1, c, c % 64, ys, rfl, rfl, rfl, .head _, rfl, hd1, hr, rfl, fun p hp hne => .tail _ (List.mem_filter.mpr ⟨hp, decide_eq_true hne⟩)⟩ ?_)
  rintro k m₁ nx h tk2 hJF7 F7 N7 Qt hQ
  k_extra "m_fold"
  obtain ⟨t1, t2, i2, c2, v2, ys2, j1, j2, j3, j4, j5, j6, j7, j8, j9⟩ := hJF7
  clear F8 N8 hd1 hu huc hd hr
  have hc128 : c2 < 128 := by
    cases ys2 with
    | nil => exact Nat.lt_of_lt_of_le j7.1 (by decide)
    | cons _ _ => exact j7.2.1
  cases ys2 with
  | nil =>
    have e0 : Builtin.bitAnd (c2 : Int) 64 = 0 := by rw [and64 hc128, if_pos j7.1]
    k_extra "m_steps"
    · omega
    · have e : i2 = i + 1 + ys.length := by
        have : k = 0 := j5.symm
        omega
      exact hret _ nx _ _ (by assumption) (by assumption) ⟨by rw [← e]; exact j4, j9, _, by rw [← j7.2]⟩
  | cons c' ys3 =>
    obtain ⟨u, hu, huc, hd1⟩ := bget j6
    have e0 : Builtin.bitAnd (c2 : Int) 64 = 64 := by rw [and64 hc128, if_neg (Nat.not_lt.mpr j7.1)]
    have hv : (v2 : Int).natAbs < 2 ^ 64 := by have := j7.2.2.1; omega
    k_extra "m_steps"
    · rename Fr _ _ _ _ => F5
      rename News _ _ _ _ => N5
      have e1 : (v2 : Int) * 2 ^ Int.toNat 6 = ((64 * v2 : Nat) : Int) := by
        rw [show Int.toNat 6 = 6 from rfl]
        omega
      rw [huc, and63, e1, or64 v2 (Nat.mod_lt c' (by decide))] at F5
      have j5' : ys3.length + 1 = k := j5
      refine hQ _ _ (WhileP.next ys3.length (by omega) F5 N5 ⟨_, _, i2 + 1, c', _, ys3, rfl, rfl, j3, .head _, rfl, hd1, j7.2.2.2, by omega, fun p hp hne => .tail _ (List.mem_filter.mpr ⟨j9 p hp hne, decide_eq_true hne⟩)⟩)
    · omega
end Mine
namespace Mine
open PySem PySem.W PySem.Calls PyProof.Rows
theorem words_O1 : PySem.Challenge.rw_ik0046_01 = PySem.Challenge.rw_ik0046_01 ∧ hook0.heap_1 = hook0.heap_1 := by
  k_with_none
  k_fill
  k_with "m_intro" => intro prog mean mg mb cn cs a ccd cl outer A₀ base h₀ L m s Q E B F X T hk hpre hret
  k_with "m_enter" => (
    (case k6 => k_dflt k_is); (case k7 => k_dflt k_is); (case k8 => exact Nat.le_of_ble_eq_true rfl); (case k9 => exact rfl); (case c5 => decide); (case kB => exact locs rfl); (case c2 => exact rfl); (case c3 => exact rfl); (case c4 => exact rfl)
    k_whole
    intro L' h' tk F' N' B' X' T' e₁ A₁
    (try dsimp only)
    (try dsimp only [List.reverse, List.reverseAux] at F')
    (try k_fold))
  k_with "m_enterR" => (
    (case k6 => k_dflt k_is); (case k7 => k_dflt k_is); (case k8 => exact Nat.le_of_ble_eq_true rfl); (case kP => exact rfl); (case kG => exact fun _ => rfl); (case c5 => decide); (case kB => exact fun _ => locs rfl); (case c2 => exact rfl); (case c3 => exact rfl); (case c4 => exact rfl)
    k_whole
    intro D' L' h' tk F' N' B' X' T' e₁ A₁
    (try dsimp only)
    (try dsimp only [List.reverse, List.reverseAux] at F')
    (try k_fold))
  k_with "m_name" => k_dflt (refine' ld ?k1 ?k2 ?_; (case k1 => k_asm); (case k2 => first | exact rfl | assumption); k_whole)
  k_with "m_append" => (
    k_dflt (refine' m_append ?k1 ?k2 ?k3 ?k4 ?_; (case k1 => k_asm); (case k2 => k_asm); (case k3 => k_mem); (case k4 => first | assumption | omega | decide); k_whole)
    intro h' n' F' N' hl' hs' ht'
    (try k_sweep))
  k_with "m_mem" => first | assumption | exact List.Mem.head _ | (refine List.mem_cons_of_mem _ ?_; k_mem) | (refine List.mem_append_right _ ?_; k_mem) | (refine List.mem_append_left _ ?_; k_mem)
  k_with "m_fold" => ((with_reducible show wpAny _ _ _ _ _ _); k_fold)
  k_with "m_steps" => (repeat' (first
    | (k_unfold; (try dsimp only)) | (k_end; wrow_close)
    | ((with_reducible show wpAny _ _ (exec _ _) _ _ _); k_fold)
    | ((fail_if_success (with_reducible show wpAny _ _ (exec (Stmt.For _ _ _ _ _) _) _ _ _)); (fail_if_success (with_reducible show wpAny _ _ (exec (Stmt.While _ _ _ _) _) _ _ _)); first | (walk1; (try dsimp only)) | (dsimp only; walk1))))
  k_with "m_div" => ((with_reducible show wpAny _ _ (binaryOp Operator.FloorDiv (Value.int _ _) (Value.int _ _)) _ _ _); k_dflt (refine' fdiv_e ?k1 ?_; (case k1 => first | decide | omega); k_whole))
  k_with "m_mod" => ((with_reducible show wpAny _ _ (binaryOp Operator.Mod (Value.int _ _) (Value.int _ _)) _ _ _); k_dflt (refine' fmod_e ?k1 ?_; (case k1 => first | decide | omega); k_whole))
  k_with "m_for" => (with_unfolding_all refine m_for ?_ (fun _ => rfl))
  k_with "m_use" => (
    (with_reducible show wpAny _ _ (call (Value.ref 101) [Value.str _ _]) _ _ _)
    k_dflt (refine' Gives.use (fspath _ _ _) ?k1 ?k2 ?k3 ?k4 ?k5 ?k6 ?k7 ?k8 ?kp ?_; (case k1 => k_asm); (case k2 => k_asm); (case k3 => k_asm); (case k4 => k_asm); (case k5 => k_asm); (case k6 => exact rfl); (case k7 => exact Nat.le_of_ble_eq_true rfl); (case k8 => exact Nat.le_of_ble_eq_true rfl); (case kp => trivial); k_whole)
    intro r' n' h' tk' F' N' hz' hr'
    (try ((with_reducible show wpAny _ _ _ _ _ _); k_fold))
    obtain ⟨hs', t', e'⟩ := hr'
    subst hs' e'
    (try clear hz')
    (try simp only [List.nil_append] at N')
    (try dsimp only)
    (try k_sweep))
  k_with "m_use" => (
    (with_reducible show wpAny _ _ (call (Value.ref 115) [Value.str _ _]) _ _ _)
    k_dflt (refine' Gives.use (getsep _ _ _) ?k1 ?k2 ?k3 ?k4 ?k5 ?k6 ?k7 ?k8 ?kp ?_; (case k1 => k_asm); (case k2 => k_asm); (case k3 => k_asm); (case k4 => k_asm); (case k5 => k_asm); (case k6 => exact rfl); (case k7 => exact Nat.le_of_ble_eq_true rfl); (case k8 => exact Nat.le_of_ble_eq_true rfl); (case kp => trivial); k_whole)
    intro r' n' h' tk' F' N' hz' hr'
    (try ((with_reducible show wpAny _ _ _ _ _ _); k_fold))
    obtain ⟨hs', t', e'⟩ := hr'
    subst hs' e'
    (try clear hz')
    (try simp only [List.nil_append] at N')
    (try dsimp only)
    (try k_sweep))
  k_with "m_use" => (
    (with_reducible show wpAny _ _ (call (Value.ref 143) [Value.int _ _]) _ _ _)
    k_dflt (refine' Gives.use (sifmt _ _ _) ?k1 ?k2 ?k3 ?k4 ?k5 ?k6 ?k7 ?k8 ?kp ?_; (case k1 => k_asm); (case k2 => k_asm); (case k3 => k_asm); (case k4 => k_asm); (case k5 => k_asm); (case k6 => exact rfl); (case k7 => exact Nat.le_of_ble_eq_true rfl); (case k8 => exact Nat.le_of_ble_eq_true rfl); (case kp => trivial); k_whole)
    intro r' n' h' tk' F' N' hz' hr'
    (try ((with_reducible show wpAny _ _ _ _ _ _); k_fold))
    obtain ⟨hs', t', e'⟩ := hr'
    subst hs' e'
    (try clear hz')
    (try simp only [List.nil_append] at N')
    (try dsimp only)
    (try k_sweep))
  exact ⟨rfl, rfl⟩
set_option maxRecDepth 100000 in
set_option maxHeartbeats 2000000 in
theorem over_stop (w : World) (b : Array UInt8) (t : Tok) (it : Addr) (i : Nat) (hx : b[i]? = none)
    {prog : Program} {mean : ExcName → Option Value} {mg mb : Str → Option Value} {cn : Str} {cs : Scope} {a : Addr} {ccd : Value} {outer : List Env} {A₀ : Around} {base h₀ : Heap} {L : Addr} {m : Str → Option Value} {news : Led} {s : Shared} {Q E : Value → Shared → Prop}
    (B : Below A₀ base outer h₀) (F : Fr h₀ L s.heap m) (X : (hook0.heap_1 w.params).In h₀) (T : Top hd.view_39 (looseW hd.view_39 [Str.ofString "_filemode_table"]) mean mg mb h₀) (hk : cs.kind = .function) (N : News h₀ L s.heap news) (hpre : (it, itO b t i) ∈ news)
    (XB : (hook0.heap_1 w.params).In base) (TB : Top hd.view_39 (looseW hd.view_39 [Str.ofString "_filemode_table"]) mean mg mb base) (D : KtsDicts (outer.filterMap (·.frame)) h₀)
    (hret : ∀ h' tk' g', KtsTurn (outer.filterMap (·.frame)) h₀ g' → Fr g' L h' m → News g' L h' (news.filter fun p => decide (p.1 ≠ it)) → Below A₀ base outer g' → (hook0.heap_1 w.params).In g' → Top hd.view_39 (looseW hd.view_39 [Str.ofString "_filemode_table"]) mean mg mb g' → KtsDicts (outer.filterMap (·.frame)) g' →
      Q (.bool true) { s with heap := h', toks := tk' }) :
    wpAny (model prog w) (ktrTop 600 12000 (some []) cn cs L a ccd [] outer) (call (.ref 209) [.ref it]) Q E s := by
  refine' wpAny_call (code_defS (g₀ := h₀) (binds := [(Str.ofString "iterator", .ref it)]) B F X N T XB TB D KtsTurn.refl rfl ?k6 ?k7 ?k8 ?k9 ?kB ?_ hk ?c2 ?c3 ?c4 ?c5)
  (case k6 => k_dflt k_is); (case k7 => k_dflt k_is); (case k8 => exact Nat.le_of_ble_eq_true rfl); (case k9 => exact BindsTo.of_eq rfl); (case c5 => decide); (case kB => exact locs rfl); (case c2 => exact rfl); (case c3 => exact rfl); (case c4 => exact rfl)
  k_whole
  intro g L' h' FG F' N' B' X' T' D'
  (try dsimp only)
  (try dsimp only [List.reverse, List.reverseAux] at F')
  (try k_fold)
  k_extra "m_steps"
  rename Fr _ _ _ _ => F8
  rename News _ _ _ _ => N8
  refine next_stop rfl F8 N8 hpre hx fun h₂ h3 e F2 N2 X2 => ?_
  clear F8 N8
  k_extra "m_steps"
  exact hret _ _ _ (by assumption) (by assumption) (by assumption) (by assumption) (by assumption) (by assumption) (by assumption)
theorem over_use (w : World) (b : Array UInt8) (t : Tok) (it : Addr) (i : Nat) (hx : b[i]? = none) {d u : Nat}
    {prog : Program} {mean : ExcName → Option Value} {mg mb : Str → Option Value} {cn : Str} {cs : Scope} {a : Addr} {ccd : Value} {outer : List Env} {A₀ : Around} {base h₀ : Heap} {L : Addr} {m : Str → Option Value} {news : Led} {s : Shared} {Q E : Value → Shared → Prop}
    (B : Below A₀ base outer h₀) (F : Fr h₀ L s.heap m) (X : (hook0.heap_1 w.params).In h₀) (T : Top hd.view_39 (looseW hd.view_39 [Str.ofString "_filemode_table"]) mean mg mb h₀) (hk : cs.kind = .function) (N : News h₀ L s.heap news) (hpre : (it, itO b t i) ∈ news)
    (XB : (hook0.heap_1 w.params).In base) (TB : Top hd.view_39 (looseW hd.view_39 [Str.ofString "_filemode_table"]) mean mg mb base) (D : KtsDicts (outer.filterMap (·.frame)) h₀) (hdp : d ≤ 600) (hun : u ≤ 12000)
    (hret : ∀ h' tk' g', KtsTurn (outer.filterMap (·.frame)) h₀ g' → Fr g' L h' m → News g' L h' (news.filter fun p => decide (p.1 ≠ it)) → Below A₀ base outer g' → (hook0.heap_1 w.params).In g' → Top hd.view_39 (looseW hd.view_39 [Str.ofString "_filemode_table"]) mean mg mb g' → KtsDicts (outer.filterMap (·.frame)) g' →
      Q (.bool true) { s with heap := h', toks := tk' }) :
    wpAny (model prog w) (ktrTop d u (some []) cn cs L a ccd [] outer) (call (.ref 209) [.ref it]) Q E s :=
  wpAny_le (A := ktrTop 600 12000 (some []) cn cs L a ccd [] outer) (over_stop w b t it i hx B F X T hk N hpre XB TB D hret) hdp hun
end Mine
namespace Mine
open PySem PySem.W PySem.Calls PySem.Spec PyProof.Rows PyProof.V
noncomputable abbrev Nd := Nat × Nat × Nat
noncomputable abbrev ndObj (p : Nd) (t1 t2 t3 : Tok) (n : Nat) : Obj := { cls := .type "tuple", data := .seq #[.int (p.1 : Int) t1, .int (p.2.1 : Int) t2, .int (p.2.2 : Int) t3] n }
noncomputable def NdIn (nx : Led) (v : Value) (p : Nd) : Prop := ∃ a n t1 t2 t3, v = .ref a ∧ (a, ndObj p t1 t2 t3 n) ∈ nx
noncomputable def NdsIn (nx : Led) (vs : List Value) (ps : List Nd) : Prop := vs.length = ps.length ∧ ∀ (i : Nat) (p : Nd), ps[i]? = some p → ∃ v, vs[i]? = some v ∧ NdIn nx v p
noncomputable def NdAt (h : Heap) (v : Value) (p : Nd) : Prop := ∃ a t1 t2 t3, v = .ref a ∧ IsTup h a #[.int (p.1 : Int) t1, .int (p.2.1 : Int) t2, .int (p.2.2 : Int) t3]
noncomputable def NdsAt (h : Heap) (vs : List Value) (ps : List Nd) : Prop := vs.length = ps.length ∧ ∀ (i : Nat) (p : Nd), ps[i]? = some p → ∃ v, vs[i]? = some v ∧ NdAt h v p
theorem NdIn.mono {nx nx' : Led} {v : Value} {p : Nd} (H : NdIn nx v p) (h : ∀ q ∈ nx, q.2.cls = .type "tuple" → q ∈ nx') : NdIn nx' v p := by
  obtain ⟨a, n, t1, t2, t3, e, hm⟩ := H
  exact ⟨a, n, t1, t2, t3, e, h _ hm rfl⟩
theorem NdsIn.mono {nx nx' : Led} {vs : List Value} {ps : List Nd} (H : NdsIn nx vs ps) (h : ∀ q ∈ nx, q.2.cls = .type "tuple" → q ∈ nx') : NdsIn nx' vs ps := by
  refine ⟨H.1, fun i p hp => ?_⟩
  obtain ⟨v, hv, hd⟩ := H.2 i p hp
  exact ⟨v, hv, hd.mono h⟩
theorem NdsIn.nil {nx : Led} : NdsIn nx [] [] := ⟨rfl, fun i p hp => by simp at hp⟩
theorem NdsIn.snoc {nx : Led} {vs : List Value} {ps : List Nd} {v : Value} {p : Nd} (H : NdsIn nx vs ps) (hv : NdIn nx v p) : NdsIn nx (vs ++ [v]) (ps ++ [p]) := by
  refine ⟨by simp [H.1], fun i q hq => ?_⟩
  by_cases h : i < ps.length
  · rw [List.getElem?_append_left h] at hq
    obtain ⟨x, hx, hd⟩ := H.2 i q hq
    exact ⟨x, by rw [List.getElem?_append_left (H.1 ▸ h)]; exact hx, hd⟩
  · have h := Nat.le_of_not_lt h
    rw [List.getElem?_append_right h] at hq
    rw [List.getElem?_append_right (H.1 ▸ h), H.1]
    refine ⟨v, ?_, ?_⟩
    · cases e : i - ps.length with
      | zero => rfl
      | succ n => rw [e] at hq; simp at hq
    · cases e : i - ps.length with
      | zero => rw [e] at hq; cases hq; exact hv
      | succ n => rw [e] at hq; simp at hq
theorem NdsIn.at {h₀ h : Heap} {L : Addr} {nx : Led} {vs : List Value} {ps : List Nd} (H : NdsIn nx vs ps) (N : News h₀ L h nx) : NdsAt h vs ps := by
  refine ⟨H.1, fun i p hp => ?_⟩
  obtain ⟨v, hv, a, n, t1, t2, t3, e, hm⟩ := H.2 i p hp
  exact ⟨v, hv, a, t1, t2, t3, e, News.isTup N hm⟩
theorem NdsAt.get {h : Heap} {vs : List Value} {ps : List Nd} (H : NdsAt h vs ps) {i : Nat} {v : Value} (hv : vs[i]? = some v) : ∃ p, ps[i]? = some p ∧ NdAt h v p := by
  have hlt : i < ps.length := by
    rw [← H.1]
    exact (List.getElem?_eq_some_iff.mp hv).1
  obtain ⟨v', hv', hd⟩ := H.2 i _ (List.getElem?_eq_getElem hlt)
  rw [hv] at hv'
  cases hv'
  exact ⟨_, List.getElem?_eq_getElem hlt, hd⟩
theorem NdsIn.get {nx : Led} {vs : List Value} {ps : List Nd} (H : NdsIn nx vs ps) {i : Nat} {v : Value} (hv : vs[i]? = some v) : ∃ p, ps[i]? = some p ∧ NdIn nx v p := by
  have hlt : i < ps.length := by
    rw [← H.1]
    exact (List.getElem?_eq_some_iff.mp hv).1
  obtain ⟨v', hv', hd⟩ := H.2 i _ (List.getElem?_eq_getElem hlt)
  rw [hv] at hv'
  cases hv'
  exact ⟨_, List.getElem?_eq_getElem hlt, hd⟩
section
variable {prog : Program} {w : World} {A : Around} {E : Value → Shared → Prop} {s : Shared} {h₀ : Heap} {L : Addr} {m : Str → Option Value} {news : Led}
theorem len_m {l : Addr} {xs : List Value} {c : Nat} {Q : Value → Shared → Prop} (N : News h₀ L s.heap news) (hm : (l, listOf xs.toArray c) ∈ news) (hz : xs.length ≤ 1000)
    (h : ∀ t k, Q (.int (xs.length : Int) t) { s with toks := k }) : wpAny (model prog w) A (call (.builtin "len") [.ref l]) Q E s := by
  refine len_list (N.isList hm) (by rw [List.size_toArray]; omega) ?_
  rw [List.size_toArray]
  exact h _ _
theorem len_h {l : Addr} {xs : List Value} {Q : Value → Shared → Prop} (hl : s.heap.IsList l xs.toArray) (hz : xs.length ≤ 1000)
    (h : ∀ t k, Q (.int (xs.length : Int) t) { s with toks := k }) : wpAny (model prog w) A (call (.builtin "len") [.ref l]) Q E s := by
  refine len_list hl (by rw [List.size_toArray]; omega) ?_
  rw [List.size_toArray]
  exact h _ _
theorem abs_m {a : Int} {t : Tok} {Q : Value → Shared → Prop} (h : ∀ u tk, Q (.int (a.natAbs : Int) u) { s with toks := tk }) : wpAny (model prog w) A (call (.builtin "abs") [.int a t]) Q E s := by
  refine call_abs_int fun u tk => ?_
  have e : (if a < 0 then -a else a) = (a.natAbs : Int) := by split <;> omega
  rw [e]
  exact h u tk
noncomputable def pick3 (k : Int) (a b c : Int) : Int := if k = 0 then a else if k = 1 then b else c
theorem list3_item {value slice : PySem.Expr} {l : Addr} {a b c : Int} {ta tb tc : Tok} {n : Nat} {k : Int} {u : Tok} {Q : Value → Shared → Prop} (N : News h₀ L s.heap news) (hm : (l, listOf [Value.int a ta, .int b tb, .int c tc].toArray n) ∈ news) (h0 : 0 ≤ k) (h1 : k < 3)
    (h : ∀ t, Q (.int (pick3 k a b c) t) s)
    (hs : subscripted slice false (.ref l) (.int k u) = operate [.ref l, .int k u] (getItem (.ref l) (.int k u)) := by with_unfolding_all rfl) :
    wpAny (model prog w) A (subscriptTail value slice (.ref l) (.int k u)) Q E s := by
  have hl := N.isList hm
  refine tail_any hl.typeIs slot_list_getitem.lookup ?_ hs
  have hk : k = 0 ∨ k = 1 ∨ k = 2 := by omega
  rcases hk with hk | hk | hk <;> subst hk
  · exact wpAny_getItem_list hl h0 (by omega) (x := .int a ta) rfl (h ta)
  · exact wpAny_getItem_list hl h0 (by omega) (x := .int b tb) rfl (h tb)
  · exact wpAny_getItem_list hl h0 (by omega) (x := .int c tc) rfl (h tc)
/-- an item of a list at a place that is reckoned -/
theorem item_l {value slice : PySem.Expr} {l : Addr} {xs : List Value} {c : Nat} {k : Nat} {u : Tok} {x : Value} {Q : Value → Shared → Prop} (N : News h₀ L s.heap news) (hm : (l, listOf xs.toArray c) ∈ news) (hz : k < 2 ^ 63) (hx : xs[k]? = some x) (h : Q x s)
    (hs : subscripted slice false (.ref l) (.int (k : Int) u) = operate [.ref l, .int (k : Int) u] (getItem (.ref l) (.int (k : Int) u)) := by with_unfolding_all rfl) :
    wpAny (model prog w) A (subscriptTail value slice (.ref l) (.int (k : Int) u)) Q E s := by
  have hl := N.isList hm
  refine tail_any hl.typeIs slot_list_getitem.lookup ?_ hs
  exact wpAny_getItem_list hl (by omega) (by omega) (x := x) (by rw [Int.toNat_natCast]; simpa using hx) h
theorem item_h {value slice : PySem.Expr} {l : Addr} {xs : List Value} {k : Nat} {u : Tok} {x : Value} {Q : Value → Shared → Prop} (hl : s.heap.IsList l xs.toArray) (hz : k < 2 ^ 63) (hx : xs[k]? = some x) (h : Q x s)
    (hs : subscripted slice false (.ref l) (.int (k : Int) u) = operate [.ref l, .int (k : Int) u] (getItem (.ref l) (.int (k : Int) u)) := by with_unfolding_all rfl) :
    wpAny (model prog w) A (subscriptTail value slice (.ref l) (.int (k : Int) u)) Q E s := by
  refine tail_any hl.typeIs slot_list_getitem.lookup ?_ hs
  exact wpAny_getItem_list hl (by omega) (by omega) (x := x) (by rw [Int.toNat_natCast]; simpa using hx) h
end
theorem tup_ne : Value.type "tuple" ≠ Value.type "list" := by decide
theorem nd_obj {nx : Led} {a b c : Int} {t1 t2 t3 : Tok} {n : Nat} {D : Addr} {p : Nd} (h1 : a = (p.1 : Int)) (h2 : b = (p.2.1 : Int)) (h3 : c = (p.2.2 : Int)) (hm : (D, ({ cls := .type "tuple", data := .seq #[.int a t1, .int b t2, .int c t3] n } : Obj)) ∈ nx) : NdIn nx (.ref D) p := by
  subst h1 h2 h3
  exact ⟨D, n, t1, t2, t3, rfl, hm⟩
/-- the node of a number, k nodes standing -/
noncomputable def nodeOf (k : Nat) (x : Int) : Nd := (x.natAbs % (k + 1), (pick3 (x % 3) 16384 32768 40960 + Builtin.bitXor 493 (x / 3 % 4096)).toNat, x.natAbs % 2 ^ 30)
theorem xor_in {y : Int} (h0 : 0 ≤ y) (h1 : y < 4096) : 0 ≤ Builtin.bitXor 493 y ∧ Builtin.bitXor 493 y < 4096 := by
  obtain ⟨z, rfl⟩ := Int.eq_ofNat_of_zero_le h0
  have hz : z < 4096 := Int.ofNat_lt.mp h1
  have e1 : Builtin.bitAnd 493 (z : Int) = ((493 &&& z : Nat) : Int) := bitAnd_pp (by decide) h0
  have e6 : Builtin.bitOr 493 (z : Int) = ((493 ||| z : Nat) : Int) := by
    have e := bitOr_and 493 (z : Int)
    have e2 : (493 : Int) + z = ((493 ||| z : Nat) : Int) + ((493 &&& z : Nat) : Int) := congrArg Int.ofNat (nat_or_add_and 493 z).symm
    rw [e1] at e
    rw [e, e2]
    exact Int.add_sub_cancel _ _
  have e7 : Builtin.bitXor 493 (z : Int) = ((493 ||| z : Nat) : Int) - ((493 &&& z : Nat) : Int) := by rw [← e6, ← e1]; rfl
  rw [e7]
  have h2 : 493 &&& z ≤ 493 ||| z := Nat.le_trans Nat.and_le_left Nat.left_le_or
  have h3 : 493 ||| z < 2 ^ 12 := Nat.or_lt_two_pow (by decide) hz
  exact ⟨Int.sub_nonneg_of_le (Int.ofNat_le.mpr h2), Int.lt_of_le_of_lt (Int.sub_le_self _ (Int.natCast_nonneg _)) (Int.ofNat_lt.mpr h3)⟩
noncomputable def mkNodes (ns : List Int) : List Nd := ns.mapIdx nodeOf
theorem mkNodes_len (ns : List Int) : (mkNodes ns).length = ns.length := by simp [mkNodes]
theorem mkNodes_get {ns : List Int} {i : Nat} {x : Int} (h : ns[i]? = some x) : (mkNodes ns)[i]? = some (nodeOf i x) := by simp [mkNodes, h]
theorem take_get {α : Type} {l : List α} {i : Nat} {x : α} (h : l[i]? = some x) : l.take (i + 1) = l.take i ++ [x] := by rw [List.take_add_one, h]; rfl
end Mine
namespace Mine
open PySem PySem.W PySem.Calls PyProof.Rows
theorem words_D1 : PySem.Challenge.rw_ik0046_01 = PySem.Challenge.rw_ik0046_01 ∧ hook0.heap_1 = hook0.heap_1 := by
  k_with_none
  k_fill
  k_with "m_intro" => intro prog mean mg mb cn cs a ccd cl outer A₀ base h₀ L m s Q E B F X T hk hpre hret
  k_with "m_enter" => (
    (case k6 => k_dflt k_is); (case k7 => k_dflt k_is); (case k8 => exact Nat.le_of_ble_eq_true rfl); (case k9 => exact rfl); (case c5 => decide); (case kB => exact locs rfl); (case c2 => exact rfl); (case c3 => exact rfl); (case c4 => exact rfl)
    k_whole
    intro L' h' tk F' N' B' X' T' e₁ A₁
    (try dsimp only)
    (try dsimp only [List.reverse, List.reverseAux] at F')
    (try k_fold))
  k_with "m_enterR" => (
    (case k6 => k_dflt k_is); (case k7 => k_dflt k_is); (case k8 => exact Nat.le_of_ble_eq_true rfl); (case kP => exact rfl); (case kG => exact fun _ => rfl); (case c5 => decide); (case kB => exact fun _ => locs rfl); (case c2 => exact rfl); (case c3 => exact rfl); (case c4 => exact rfl)
    k_whole
    intro D' L' h' tk F' N' B' X' T' e₁ A₁
    (try dsimp only)
    (try dsimp only [List.reverse, List.reverseAux] at F')
    (try k_fold))
  k_with "m_name" => k_dflt (refine' ld ?k1 ?k2 ?_; (case k1 => k_asm); (case k2 => first | exact rfl | assumption); k_whole)
  k_with "m_append" => (
    k_dflt (refine' m_append ?k1 ?k2 ?k3 ?k4 ?_; (case k1 => k_asm); (case k2 => k_asm); (case k3 => k_mem); (case k4 => first | assumption | omega | decide); k_whole)
    intro h' n' F' N' hl' hs' ht'
    (try k_sweep))
  k_with "m_mem" => first | assumption | exact List.Mem.head _ | (refine List.mem_cons_of_mem _ ?_; k_mem) | (refine List.mem_append_right _ ?_; k_mem) | (refine List.mem_append_left _ ?_; k_mem)
  k_with "m_fold" => ((with_reducible show wpAny _ _ _ _ _ _); k_fold)
  k_with "m_steps" => (repeat' (first
    | (k_unfold; (try dsimp only)) | (k_end; wrow_close)
    | ((with_reducible show wpAny _ _ (exec _ _) _ _ _); k_fold)
    | ((fail_if_success (with_reducible show wpAny _ _ (exec (Stmt.For _ _ _ _ _) _) _ _ _)); (fail_if_success (with_reducible show wpAny _ _ (exec (Stmt.While _ _ _ _) _) _ _ _)); first | (walk1; (try dsimp only)) | (dsimp only; walk1))))
  k_with "m_div" => ((with_reducible show wpAny _ _ (binaryOp Operator.FloorDiv (Value.int _ _) (Value.int _ _)) _ _ _); k_dflt (refine' fdiv_e ?k1 ?_; (case k1 => first | decide | omega); k_whole))
  k_with "m_mod" => ((with_reducible show wpAny _ _ (binaryOp Operator.Mod (Value.int _ _) (Value.int _ _)) _ _ _); k_dflt (refine' fmod_e ?k1 ?_; (case k1 => first | decide | omega); k_whole))
  k_with "m_for" => (with_unfolding_all refine m_for ?_ (fun _ => rfl))
  k_with "m_use" => (
    (with_reducible show wpAny _ _ (call (Value.ref 101) [Value.str _ _]) _ _ _)
    k_dflt (refine' Gives.use (fspath _ _ _) ?k1 ?k2 ?k3 ?k4 ?k5 ?k6 ?k7 ?k8 ?kp ?_; (case k1 => k_asm); (case k2 => k_asm); (case k3 => k_asm); (case k4 => k_asm); (case k5 => k_asm); (case k6 => exact rfl); (case k7 => exact Nat.le_of_ble_eq_true rfl); (case k8 => exact Nat.le_of_ble_eq_true rfl); (case kp => trivial); k_whole)
    intro r' n' h' tk' F' N' hz' hr'
    (try ((with_reducible show wpAny _ _ _ _ _ _); k_fold))
    obtain ⟨hs', t', e'⟩ := hr'
    subst hs' e'
    (try clear hz')
    (try simp only [List.nil_append] at N')
    (try dsimp only)
    (try k_sweep))
  k_with "m_use" => (
    (with_reducible show wpAny _ _ (call (Value.ref 115) [Value.str _ _]) _ _ _)
    k_dflt (refine' Gives.use (getsep _ _ _) ?k1 ?k2 ?k3 ?k4 ?k5 ?k6 ?k7 ?k8 ?kp ?_; (case k1 => k_asm); (case k2 => k_asm); (case k3 => k_asm); (case k4 => k_asm); (case k5 => k_asm); (case k6 => exact rfl); (case k7 => exact Nat.le_of_ble_eq_true rfl); (case k8 => exact Nat.le_of_ble_eq_true rfl); (case kp => trivial); k_whole)
    intro r' n' h' tk' F' N' hz' hr'
    (try ((with_reducible show wpAny _ _ _ _ _ _); k_fold))
    obtain ⟨hs', t', e'⟩ := hr'
    subst hs' e'
    (try clear hz')
    (try simp only [List.nil_append] at N')
    (try dsimp only)
    (try k_sweep))
  k_with "m_use" => (
    (with_reducible show wpAny _ _ (call (Value.ref 143) [Value.int _ _]) _ _ _)
    k_dflt (refine' Gives.use (sifmt _ _ _) ?k1 ?k2 ?k3 ?k4 ?k5 ?k6 ?k7 ?k8 ?kp ?_; (case k1 => k_asm); (case k2 => k_asm); (case k3 => k_asm); (case k4 => k_asm); (case k5 => k_asm); (case k6 => exact rfl); (case k7 => exact Nat.le_of_ble_eq_true rfl); (case k8 => exact Nat.le_of_ble_eq_true rfl); (case kp => trivial); k_whole)
    intro r' n' h' tk' F' N' hz' hr'
    (try ((with_reducible show wpAny _ _ _ _ _ _); k_fold))
    obtain ⟨hs', t', e'⟩ := hr'
    subst hs' e'
    (try clear hz')
    (try simp only [List.nil_append] at N')
    (try dsimp only)
    (try k_sweep))
  k_with "m_len" => (
    (with_reducible show wpAny _ _ (call (Value.builtin "len") [Value.ref _]) _ _ _)
    k_dflt (refine' len_m ?k1 ?k2 ?k3 ?_; (case k1 => k_asm); (case k2 => k_mem); (case k3 => first | assumption | omega); k_whole)
    intro t' tk')
  k_with "m_abs" => (
    (with_reducible show wpAny _ _ (call (Value.builtin "abs") [Value.int _ _]) _ _ _)
    k_dflt (refine' abs_m ?_; k_whole)
    intro t' tk')
  k_with "m_sub" => (
    k_dflt (refine' list3_item ?k1 ?k2 ?k3 ?k4 ?_; (case k1 => k_asm); (case k2 => k_mem); (case k3 => omega); (case k4 => omega); k_whole)
    intro t')
  exact ⟨rfl, rfl⟩
noncomputable def ndInv (l0 : Addr) (ns : List Int) (i : Nat) (m : Str → Option Value) (nx : Led) : Prop :=
  ∃ (l : Addr) (xs : List Value) (c : Nat), m (Str.ofString "nodes") = some (.ref l) ∧ (l, listOf xs.toArray c) ∈ nx ∧ NdsIn nx xs ((mkNodes ns).take i) ∧ xs.length = i
theorem ndInv_mono {l0 : Addr} {ns : List Int} : MonoJ [] (ndInv l0 ns) := by
  rintro i m nx nx' ⟨l, xs, c, a, b, d, e⟩ hs
  exact ⟨l, xs, c, a, hs _ b (.inl rfl), d.mono fun q hq hc => hs _ hq (.inr (.inl hc)), e⟩
theorem pick3_in (k : Int) : 0 ≤ pick3 k 16384 32768 40960 ∧ pick3 k 16384 32768 40960 ≤ 40960 := by
  unfold pick3
  split
  · decide
  · split <;> decide
theorem IntsAre.at' {vs : List Value} {ns : List Int} (h : IntsAre vs ns) {i : Nat} {v : Value} (hv : vs[i]? = some v) : ∃ x t, ns[i]? = some x ∧ v = .int x t := by
  induction h generalizing i with
  | nil => simp at hv
  | cons n t r ih =>
    cases i with
    | zero => exact ⟨n, t, rfl, (Option.some.inj hv).symm⟩
    | succ i => exact ih hv
set_option maxRecDepth 100000 in
set_option maxHeartbeats 2000000 in
theorem nodes_says (w : World) (l0 : Addr) (vs : List Value) (ns : List Int) (hI : IntsAre vs ns) (hz : ns.length ≤ 9) :
    Gives w 700 190 [.ref l0] (fun h => h.IsList l0 vs.toArray) (fun new v => ∃ l xs c, v = .ref l ∧ (l, listOf xs.toArray c) ∈ new ∧ NdsIn new xs (mkNodes ns)) := by
  k_extra "m_intro"
  refine' m_call [(Str.ofString "numbers", .ref l0)] B F X T rfl rfl hk ?k6 ?k7 ?k8 ?k9 ?kB ?_ ?c2 ?c3 ?c4 ?c5
  k_extra "m_enter"
  k_extra "m_steps"
  k_extra "m_for"
  k_extra "m_steps"
  rename Fr _ _ _ _ => F8
  rename News _ _ _ _ => N8
  refine m_iterB (vs := vs) [] (ndInv l0 ns) ndInv_mono (fun _ h => nomatch h) rfl hpre F8 N8 ⟨_, [], 0, rfl, by k_mem, NdsIn.nil, rfl⟩ ?_ ?_
  · rintro i v m₁ nx h tk ow hi hv hJF7 how F7 N7 Qt hQ
    k_extra "m_fold"
    obtain ⟨l, xs, c, j1, j2, j3, j4⟩ := hJF7
    obtain ⟨x, tx, hx, rfl⟩ := IntsAre.at' hI hv
    have hlen := hI.length
    have hz' : xs.length ≤ 1000 := by omega
    clear F8 N8
    k_extra "m_steps"
    refine hQ _ _ (TurnP.next F' N' (ow_keep how ht' fun p hp => .tail _ (.tail _ (List.mem_append_left _ hp))) ⟨l, _, _, j1, hl', ?_, by simp [j4]⟩)
    rw [take_get (mkNodes_get hx)]
    refine (j3.mono fun p hp hc => ht' p (.tail _ (.tail _ (List.mem_append_right _ hp))) (fun e => tup_ne (hc.symm.trans e))).snoc ?_
    refine nd_obj ?_ ?_ ?_ (ht' _ (.head _) tup_ne)
    · show (x.natAbs : Int) % ((xs.length : Int) + 1) = ((x.natAbs % (i + 1) : Nat) : Int)
      rw [j4]
      exact (Int.natCast_emod _ _).symm
    · have := pick3_in (x % 3)
      have := (xor_in (y := x / 3 % 4096) (by omega) (by omega)).1
      show _ = ((Int.toNat _ : Nat) : Int)
      omega
    · show (x.natAbs : Int) % 2 ^ 30 = ((x.natAbs % 2 ^ 30 : Nat) : Int)
      omega
  · rintro m₁ nx h tk ⟨l, xs, c, j1, j2, j3, j4⟩ F7 N7
    clear F8 N8
    k_extra "m_steps"
    rw [hI.length, ← mkNodes_len ns, List.take_length] at j3
    exact hret _ _ _ _ (by assumption) (Fr.keep (by assumption)) (news_out F (by assumption)) ⟨l, xs, c, rfl, j2, j3⟩
end Mine
namespace Mine
open PySem PySem.W PySem.Calls PySem.Spec PyProof.Rows PyProof.V
noncomputable def varN (n : Nat) : List Nat := vhiN (n / 64) ++ [n % 64]
theorem vhi_eq (n : Nat) : vhi n = (vhiN n).map fun (x : Nat) => (x : Int) := rfl
theorem varint_eq (n : Nat) : varint n = (varN n).map fun (x : Nat) => (x : Int) := by
  unfold varint varN
  rw [vhi_eq, List.map_append]; rfl
noncomputable def rdF (v x : Nat) : Nat := 64 * v + x % 64
theorem vhiN_fold (n : Nat) : (vhiN n).foldl rdF 0 = n := by
  induction n using Nat.strongRecOn with
  | ind n ih =>
    by_cases h : n = 0
    · rw [h, vhiN_zero]; rfl
    · rw [vhiN_pos h, List.foldl_append, ih (n / 64) (by omega)]
      show 64 * (n / 64) + (64 + n % 64) % 64 = n
      rw [Nat.add_mod_left, Nat.mod_mod]
      exact Nat.div_add_mod n 64
theorem vhiN_big (n : Nat) : ∀ x ∈ vhiN n, 64 ≤ x ∧ x < 128 := by
  induction n using Nat.strongRecOn with
  | ind n ih =>
    by_cases h : n = 0
    · rw [h, vhiN_zero]; exact fun _ h => nomatch h
    · rw [vhiN_pos h]
      intro x hx
      rcases List.mem_append.mp hx with hx | hx
      · exact ih (n / 64) (by omega) x hx
      · rw [List.mem_singleton.mp hx]; omega
theorem varN_fold (n : Nat) : (varN n).foldl rdF 0 = n := by
  unfold varN
  rw [List.foldl_append, vhiN_fold]
  show 64 * (n / 64) + (n % 64) % 64 = n
  rw [Nat.mod_mod]
  exact Nat.div_add_mod n 64
theorem varN_small {n : Nat} : ∀ x ∈ varN n, x < 128 := by
  intro x hx
  rcases List.mem_append.mp hx with hx | hx
  · exact (vhiN_big _ x hx).2
  · rw [List.mem_singleton.mp hx]; omega
theorem fold_ge : ∀ (ys : List Nat) (v : Nat), v ≤ ys.foldl rdF v
  | [], _ => Nat.le_refl _
  | y :: ys, v => Nat.le_trans (by unfold rdF; omega) (fold_ge ys (rdF v y))
theorem rd_of : ∀ (ys : List Nat) (v c : Nat) (hs : List Nat) (d : Nat), c :: ys = hs ++ [d] → (∀ x ∈ hs, 64 ≤ x ∧ x < 128) → d < 64 → ys.foldl rdF v < 2 ^ 40 → rd v c ys (ys.foldl rdF v)
  | [], v, c, hs, d, e, hb, hd, _ => by
    have : hs = [] := by
      cases hs with
      | nil => rfl
      | cons a r => have := congrArg List.length e; simp at this
    subst this
    cases e
    exact ⟨hd, rfl⟩
  | y :: ys, v, c, hs, d, e, hb, hd, hz => by
    cases hs with
    | nil => have := congrArg List.length e; simp at this
    | cons a r =>
      rw [List.cons_append] at e
      injection e with e1 e2
      subst e1
      have := hb c (.head _)
      exact ⟨this.1, this.2, Nat.lt_of_le_of_lt (Nat.le_trans (by unfold rdF; omega) (fold_ge ys (rdF v y))) hz, rd_of ys (rdF v y) y r d e2 (fun x hx => hb x (.tail _ hx)) hd hz⟩
theorem varN_rd {n : Nat} (hn : n < 2 ^ 30) : ∃ c ys, varN n = c :: ys ∧ rd (c % 64) c ys n := by
  obtain ⟨c, ys, e⟩ : ∃ c ys, varN n = c :: ys := by
    cases h : varN n with
    | nil => have := congrArg List.length h; simp [varN] at this
    | cons c ys => exact ⟨c, ys, rfl⟩
  refine ⟨c, ys, e, ?_⟩
  have hf := varN_fold n
  rw [e, List.foldl_cons] at hf
  have h0 : rdF 0 c = c % 64 := by unfold rdF; omega
  rw [h0] at hf
  have := rd_of ys (c % 64) c (vhiN (n / 64)) (n % 64) e.symm (vhiN_big _) (Nat.mod_lt _ (by decide)) (by omega)
  rwa [hf] at this
/-- from i on the octets of b are those of the numbers ns -/
noncomputable def At (b : Array UInt8) (i : Nat) (ns : List Nat) : Prop := (bN b).drop i = ns.flatMap varN
theorem At.step {b : Array UInt8} {i n : Nat} {ns : List Nat} (h : At b i (n :: ns)) (hn : n < 2 ^ 30) : ∃ c ys, (bN b).drop i = c :: (ys ++ ns.flatMap varN) ∧ rd (c % 64) c ys n ∧ At b (i + 1 + ys.length) ns := by
  obtain ⟨c, ys, e, hr⟩ := varN_rd hn
  have h1 : (bN b).drop i = c :: (ys ++ ns.flatMap varN) := by
    rw [h, List.flatMap_cons, e]; rfl
  refine ⟨c, ys, h1, hr, ?_⟩
  unfold At
  rw [Nat.add_assoc, ← List.drop_drop, h1, Nat.add_comm 1]
  show (ys ++ ns.flatMap varN).drop ys.length = _
  rw [List.drop_left]
theorem At.nil {b : Array UInt8} {i : Nat} (h : At b i []) : b[i]? = none := by
  have h0 : (bN b).length ≤ i := List.drop_eq_nil_iff.mp h
  unfold bN at h0
  rw [List.length_map, Array.length_toList] at h0
  exact Array.getElem?_eq_none h0
/-- the iterator it stands ahead of the numbers ns -/
noncomputable def RdI (b : Array UInt8) (t : Tok) (it : Addr) (ns : List Nat) (news : Led) : Prop := ∃ i, (it, itO b t i) ∈ news ∧ At b i ns
noncomputable def flat (ps : List Nd) : List Nat := ps.flatMap fun p => [p.1, p.2.1, p.2.2]
end Mine
namespace Mine
open PySem PySem.W PySem.Calls PySem.Spec PyProof.Rows PyProof.V
theorem small_up {n : Nat} (h : n ≤ 1000) : Builtin.Range.small 0 (n : Int) 1 = true := by
  unfold Builtin.Range.small
  have e : Builtin.Range.rangeSize 0 (n : Int) 1 = (n : Int) := by rw [rangeSize_nat]; simp
  have f : ∀ k : Int, 0 ≤ k → k ≤ 2000 → Builtin.Range.rangeFitsLong k = true := fun k a b => by
    unfold Builtin.Range.rangeFitsLong
    rw [Bool.and_eq_true, decide_eq_true_eq, decide_eq_true_eq]
    omega
  rw [e]
  simp [f, h, Int.le_trans (Int.ofNat_le.mpr h)]
section
variable {prog : Program} {w : World} {A : Around} {E E' : Value → Shared → Prop} {s : Shared} {env : Env} {h₀ : Heap} {target : Expr} {body orelse : List Stmt} {Q : Flow → Shared → Prop}
/-- for … in range(n) -/
theorem m_range {n : Nat} {t₀ : Tok} {m₀ : Str → Option Value} {news : Led} (kp : Led) (J : Nat → (Str → Option Value) → Led → Prop) (hmono : MonoJ kp J) (hkp : ∀ p ∈ kp, p ∈ news)
    (hh : A.handled = none) (hz : n ≤ 1000) (F : Fr h₀ env.locals s.heap m₀) (N : News h₀ env.locals s.heap news) (h0 : J 0 m₀ news)
    (turn : ∀ i t m₁ nx h tk ow, i < n → J i m₁ nx → (∀ p ∈ ow, Itr p.2) → Fr h₀ env.locals h m₁ → News h₀ env.locals h (ow ++ nx) →
      ∀ Qt : Flow → Shared → Prop, (∀ f s₂, TurnP h₀ env.locals (J (i + 1)) ow s Q f s₂ → Qt f s₂) → wpAny (model prog w) A (assign target env (.int (i : Int) t)) (fun _ s₂ => wpAny (model prog w) A (execs body env) Qt (fun _ _ => False) s₂) (fun _ _ => False) { s with heap := h, toks := tk })
    (hgo : ∀ I i v (s : Shared) (Q : Unit → Shared → Prop) (E : Value → Shared → Prop), IsRangeIter s.heap I (0 + (i : Nat) * 1) ((n : Int) - (i : Nat)) 1 → Q () s → wpAny (model prog w) A (letOwnedTupleGo target (.ref I) v) Q E s)
    (done : ∀ m₁ nx h tk, J n m₁ nx → Fr h₀ env.locals h m₁ → News h₀ env.locals h nx → wpAny (model prog w) A (execs orelse env) Q (fun _ _ => False) { s with heap := h, toks := tk }) :
    wpAny (model prog w) A (call (.type "range") [.int (n : Int) t₀]) (fun xv s₁ => wpAny (model prog w) A (pyIter xv) (fun it s₂ => MTurns prog w A env target body orelse Q it s₂) E s₁) E' s := by
  refine call_range_1 ?_
  have hsz : Builtin.Range.rangeSize 0 (n : Int) 1 = (n : Int) := by rw [rangeSize_nat]; simp
  exact m_iterR kp J hmono hkp hh (IsRange.new ..) (small_up hz) hsz (F.push _) (fun p hp => ⟨Heap.get?_push_of_some _ (N p hp).1, (N p hp).2⟩) h0 turn hgo done
end
end Mine
namespace Mine
open PySem PySem.W PySem.Calls PyProof.Rows
theorem words_R1 : PySem.Challenge.rw_ik0046_01 = PySem.Challenge.rw_ik0046_01 ∧ hook0.heap_1 = hook0.heap_1 := by
  k_with_none
  k_fill
  k_with "m_intro" => intro prog mean mg mb cn cs a ccd cl outer A₀ base h₀ L m s Q E B F X T hk hpre hret
  k_with "m_enter" => (
    (case k6 => k_dflt k_is); (case k7 => k_dflt k_is); (case k8 => exact Nat.le_of_ble_eq_true rfl); (case k9 => exact rfl); (case c5 => decide); (case kB => exact locs rfl); (case c2 => exact rfl); (case c3 => exact rfl); (case c4 => exact rfl)
    k_whole
    intro L' h' tk F' N' B' X' T' e₁ A₁
    (try dsimp only)
    (try dsimp only [List.reverse, List.reverseAux] at F')
    (try k_fold))
  k_with "m_enterR" => (
    (case k6 => k_dflt k_is); (case k7 => k_dflt k_is); (case k8 => exact Nat.le_of_ble_eq_true rfl); (case kP => exact rfl); (case kG => exact fun _ => rfl); (case c5 => decide); (case kB => exact fun _ => locs rfl); (case c2 => exact rfl); (case c3 => exact rfl); (case c4 => exact rfl)
    k_whole
    intro D' L' h' tk F' N' B' X' T' e₁ A₁
    (try dsimp only)
    (try dsimp only [List.reverse, List.reverseAux] at F')
    (try k_fold))
  k_with "m_name" => k_dflt (refine' ld ?k1 ?k2 ?_; (case k1 => k_asm); (case k2 => first | exact rfl | assumption); k_whole)
  k_with "m_append" => (
    k_dflt (refine' m_append ?k1 ?k2 ?k3 ?k4 ?_; (case k1 => k_asm); (case k2 => k_asm); (case k3 => k_mem); (case k4 => first | assumption | omega | decide); k_whole)
    intro h' n' F' N' hl' hs' ht'
    (try k_sweep))
  k_with "m_mem" => first | assumption | exact List.Mem.head _ | (refine List.mem_cons_of_mem _ ?_; k_mem) | (refine List.mem_append_right _ ?_; k_mem) | (refine List.mem_append_left _ ?_; k_mem)
  k_with "m_fold" => ((with_reducible show wpAny _ _ _ _ _ _); k_fold)
  k_with "m_steps" => (repeat' (first
    | (k_unfold; (try dsimp only)) | (k_end; wrow_close)
    | ((with_reducible show wpAny _ _ (exec _ _) _ _ _); k_fold)
    | ((fail_if_success (with_reducible show wpAny _ _ (exec (Stmt.For _ _ _ _ _) _) _ _ _)); (fail_if_success (with_reducible show wpAny _ _ (exec (Stmt.While _ _ _ _) _) _ _ _)); first | (walk1; (try dsimp only)) | (dsimp only; walk1))))
  k_with "m_div" => ((with_reducible show wpAny _ _ (binaryOp Operator.FloorDiv (Value.int _ _) (Value.int _ _)) _ _ _); k_dflt (refine' fdiv_e ?k1 ?_; (case k1 => first | decide | omega); k_whole))
  k_with "m_mod" => ((with_reducible show wpAny _ _ (binaryOp Operator.Mod (Value.int _ _) (Value.int _ _)) _ _ _); k_dflt (refine' fmod_e ?k1 ?_; (case k1 => first | decide | omega); k_whole))
  k_with "m_for" => (with_unfolding_all refine m_for ?_ (fun _ => rfl))
  k_with "m_use" => (
    (with_reducible show wpAny _ _ (call (Value.ref 101) [Value.str _ _]) _ _ _)
    k_dflt (refine' Gives.use (fspath _ _ _) ?k1 ?k2 ?k3 ?k4 ?k5 ?k6 ?k7 ?k8 ?kp ?_; (case k1 => k_asm); (case k2 => k_asm); (case k3 => k_asm); (case k4 => k_asm); (case k5 => k_asm); (case k6 => exact rfl); (case k7 => exact Nat.le_of_ble_eq_true rfl); (case k8 => exact Nat.le_of_ble_eq_true rfl); (case kp => trivial); k_whole)
    intro r' n' h' tk' F' N' hz' hr'
    (try ((with_reducible show wpAny _ _ _ _ _ _); k_fold))
    obtain ⟨hs', t', e'⟩ := hr'
    subst hs' e'
    (try clear hz')
    (try simp only [List.nil_append] at N')
    (try dsimp only)
    (try k_sweep))
  k_with "m_use" => (
    (with_reducible show wpAny _ _ (call (Value.ref 115) [Value.str _ _]) _ _ _)
    k_dflt (refine' Gives.use (getsep _ _ _) ?k1 ?k2 ?k3 ?k4 ?k5 ?k6 ?k7 ?k8 ?kp ?_; (case k1 => k_asm); (case k2 => k_asm); (case k3 => k_asm); (case k4 => k_asm); (case k5 => k_asm); (case k6 => exact rfl); (case k7 => exact Nat.le_of_ble_eq_true rfl); (case k8 => exact Nat.le_of_ble_eq_true rfl); (case kp => trivial); k_whole)
    intro r' n' h' tk' F' N' hz' hr'
    (try ((with_reducible show wpAny _ _ _ _ _ _); k_fold))
    obtain ⟨hs', t', e'⟩ := hr'
    subst hs' e'
    (try clear hz')
    (try simp only [List.nil_append] at N')
    (try dsimp only)
    (try k_sweep))
  k_with "m_use" => (
    (with_reducible show wpAny _ _ (call (Value.ref 143) [Value.int _ _]) _ _ _)
    k_dflt (refine' Gives.use (sifmt _ _ _) ?k1 ?k2 ?k3 ?k4 ?k5 ?k6 ?k7 ?k8 ?kp ?_; (case k1 => k_asm); (case k2 => k_asm); (case k3 => k_asm); (case k4 => k_asm); (case k5 => k_asm); (case k6 => exact rfl); (case k7 => exact Nat.le_of_ble_eq_true rfl); (case k8 => exact Nat.le_of_ble_eq_true rfl); (case kp => trivial); k_whole)
    intro r' n' h' tk' F' N' hz' hr'
    (try ((with_reducible show wpAny _ _ _ _ _ _); k_fold))
    obtain ⟨hs', t', e'⟩ := hr'
    subst hs' e'
    (try clear hz')
    (try simp only [List.nil_append] at N')
    (try dsimp only)
    (try k_sweep))
  k_with "m_stepsR" => (repeat' (first
    | (k_unfold; (try dsimp only)) | (k_end; wrow_close)
    | ((with_reducible show wpAny _ _ (exec _ _) _ _ _); k_fold)
    | ((fail_if_success (with_reducible show wpAny _ _ (exec (Stmt.For _ _ _ _ _) _) _ _ _)); (fail_if_success (with_reducible show wpAny _ _ (exec (Stmt.While _ _ _ _) _) _ _ _)); (fail_if_success (with_reducible show wpAny _ _ (call (Value.ref 28) _) _ _ _)); (fail_if_success (with_reducible show wpAny _ _ (call (Value.ref 209) _) _ _ _)); (fail_if_success (with_reducible show wpAny _ _ (call (Value.type "range") _) _ _ _)); first | (walk1; (try dsimp only)) | (dsimp only; walk1))))
  k_with "m_iter" => (
    (with_reducible show wpAny _ _ (call (Value.builtin "iter") [Value.bytes _ _]) _ _ _)
    k_dflt (refine' iter_b ?k1 ?k2 ?_; (case k1 => k_asm); (case k2 => k_asm); k_whole)
    intro it' h' F' N' hne'
    (try dsimp only))
  exact ⟨rfl, rfl⟩
theorem parseN (w : World) (b : Array UInt8) (t : Tok) (it : Addr) (n : Nat) (ns : List Nat) (hn : n < 2 ^ 30) :
    GivesL w 700 28 [.ref it] (RdI b t it (n :: ns)) (fun news news' r => RdI b t it ns news' ∧ (∀ p ∈ news, p.1 ≠ it → p ∈ news') ∧ (∀ p ∈ news, p.2.cls ≠ .type "bytes_iterator" → p ∈ news') ∧ ∃ t', r = .int (n : Int) t') := by
  intro prog mean mg mb cn cs a ccd cl outer A₀ base h₀ L m news s Q E B F X T hk N hpre hret
  obtain ⟨i, hm, hat⟩ := hpre
  obtain ⟨c, ys, h1, hr, h2⟩ := hat.step hn
  refine parse w b t it i c ys _ n h1 hr prog mean mg mb cn cs a ccd cl outer A₀ base h₀ L m news s Q E B F X T hk N hm fun r news' h' tk' F' N' hr' => ?_
  obtain ⟨x1, x2, x3⟩ := hr'
  refine hret r news' h' tk' F' N' ⟨⟨_, x1, h2⟩, x2, fun p hp hc => x2 p hp fun e => hc ?_, x3⟩
  have e1 := (N p hp).1
  rw [e, (N _ hm).1] at e1
  rw [← Option.some.inj e1]; rfl
theorem RdI.mono {b : Array UInt8} {t : Tok} {it : Addr} {ns : List Nat} {nx nx' : Led} (h : RdI b t it ns nx) (k : ∀ p ∈ nx, p.2.cls = .type "bytes_iterator" → p ∈ nx') : RdI b t it ns nx' := by
  obtain ⟨i, hm, ha⟩ := h
  exact ⟨i, k _ hm rfl, ha⟩
theorem lst_nb : Value.type "list" ≠ Value.type "bytes_iterator" := by decide
theorem tup_nb : Value.type "tuple" ≠ Value.type "bytes_iterator" := by decide
theorem flat_drop {ps : List Nd} {i : Nat} {p : Nd} (h : ps[i]? = some p) : flat (ps.drop i) = p.1 :: p.2.1 :: p.2.2 :: flat (ps.drop (i + 1)) := by
  have hlt := (List.getElem?_eq_some_iff.mp h).1
  rw [List.drop_eq_getElem_cons hlt, (List.getElem?_eq_some_iff.mp h).2]
  rfl
noncomputable def rdInv (b : Array UInt8) (t : Tok) (it l : Addr) (news : Led) (ps : List Nd) (i : Nat) (m : Str → Option Value) (nx : Led) : Prop :=
  ∃ (xs : List Value) (c : Nat), m (Str.ofString "iterator") = some (.ref it) ∧ m (Str.ofString "nodes") = some (.ref l) ∧ RdI b t it (flat (ps.drop i)) nx ∧ (l, listOf xs.toArray c) ∈ nx ∧ NdsIn nx xs (ps.take i) ∧ xs.length = i ∧ ∀ p ∈ news, p ∈ nx
theorem rdInv_mono {b : Array UInt8} {t : Tok} {it l : Addr} {news : Led} {ps : List Nd} : MonoJ news (rdInv b t it l news ps) := by
  rintro i m nx nx' ⟨xs, c, a1, a2, a3, a4, a5, a6, a7⟩ hs
  exact ⟨xs, c, a1, a2, a3.mono fun p hp hc => hs p hp (.inr (.inr (.inr hc))), hs _ a4 (.inl rfl), a5.mono fun q hq hc => hs _ hq (.inr (.inl hc)), a6, fun p hp => hs p (a7 p hp) (.inr (.inr (.inl hp)))⟩
set_option maxRecDepth 100000 in
set_option maxHeartbeats 2000000 in
theorem read_says (w : World) (b : Array UInt8) (t : Tok) (ps : List Nd) (hat : At b 0 (ps.length :: flat ps)) (hz : ps.length ≤ 9) (hs : ∀ p ∈ ps, p.1 < 2 ^ 30 ∧ p.2.1 < 2 ^ 30 ∧ p.2.2 < 2 ^ 30)
    {prog : Program} {mean : ExcName → Option Value} {mg mb : Str → Option Value} {cn : Str} {cs : Scope} {a : Addr} {ccd : Value} {A₀ : Around} {h₀ : Heap} {L : Addr} {m : Str → Option Value} {news : Led} {s : Shared} {Q E : Value → Shared → Prop}
    (B : Below A₀ h₀ [] h₀) (F : Fr h₀ L s.heap m) (X : (hook0.heap_1 w.params).In h₀) (T : Top hd.view_39 (looseW hd.view_39 [Str.ofString "_filemode_table"]) mean mg mb h₀) (hk : cs.kind = .function) (N : News h₀ L s.heap news)
    (hret : ∀ r news' h' tk', Fr h₀ L h' m → News h₀ L h' news' → (∀ p ∈ news, p ∈ news') → (∃ tp n l xs c, r = .ref tp ∧ (tp, ({ cls := .type "tuple", data := .seq #[.ref l, .bool true] n } : Obj)) ∈ news' ∧ (l, listOf xs.toArray c) ∈ news' ∧ NdsIn news' xs ps) → Q r { s with heap := h', toks := tk' }) :
    wpAny (model prog w) (ktrTop 500 10000 (some []) cn cs L a ccd [] []) (call (.ref 216) [.bytes b t]) Q E s := by
  refine' wpAny_call (code_defS0 (binds := [(Str.ofString "octets", .bytes b t)]) B F X N T rfl ?k6 ?k7 ?k8 ?k9 ?kB ?_ hk ?c2 ?c3 ?c4 ?c5)
  (case k6 => k_dflt k_is); (case k7 => k_dflt k_is); (case k8 => exact Nat.le_of_ble_eq_true rfl); (case k9 => exact BindsTo.of_eq rfl); (case c5 => decide); (case kB => exact locs rfl); (case c2 => exact rfl); (case c3 => exact rfl); (case c4 => exact rfl)
  k_whole
  intro g L' h' FG F' N' B' X' T' D'
  (try dsimp only)
  (try dsimp only [List.reverse, List.reverseAux] at F')
  (try k_fold)
  k_extra "m_stepsR"
  k_extra "m_for"
  k_extra "m_stepsR"
  rename_i lN hx3 lx1 hx4 F8 N8
  refine' GivesL.use (parseN w b t it' (ps.length) (flat ps) (by omega)) ?k1 ?k2 ?k3 ?k4 ?k5 ?k6 ?k7 ?k8 ?kp ?_; (case k1 => k_asm); (case k2 => k_asm); (case k3 => k_asm); (case k4 => k_asm); (case k5 => k_asm); (case k6 => exact rfl); (case k7 => exact Nat.le_of_ble_eq_true rfl); (case k8 => exact Nat.le_of_ble_eq_true rfl); (case kp => exact ⟨0, by k_mem, hat⟩)
  k_whole
  rintro _ n9 h9 tk9 F9 N9 ⟨jr9, kn9, kc9, t9, rfl⟩
  have hnl : ∀ p ∈ news, p.1 ≠ lN := fun p hp => Nat.ne_of_lt (ktn_ltOf lx1.2 p hp)
  have k0 : ∀ p ∈ news, p ∈ n9 := fun p hp => kn9 p (.tail _ (.tail _ hp)) (hne' p hp)
  have kl : (lN, listOf [].toArray 0) ∈ n9 := kc9 _ (.head _) lst_nb
  k_extra "m_stepsR"
  refine m_range news (rdInv b t it' lN news ps) rdInv_mono k0 rfl (by omega) F9 N9 ⟨[], 0, rfl, rfl, jr9, kl, NdsIn.nil, rfl, k0⟩ ?_ ?_ ?_
  · rintro i ti m₁ nx h tk ow hi hJF7 how F7 N7 Qt hQ
    k_extra "m_fold"
    obtain ⟨xs, c, a1, a2, a3, a4, a5, a6, a7⟩ := hJF7
    obtain ⟨p, hp⟩ : ∃ p, ps[i]? = some p := ⟨_, List.getElem?_eq_getElem hi⟩
    have hsz := hs p (List.mem_of_getElem? hp)
    rw [flat_drop hp] at a3
    have a3' := a3.mono (nx' := ow ++ nx) fun _ h _ => List.mem_append_right _ h
    clear F8 N8 F9 N9 a3
    k_extra "m_stepsR"
    refine' GivesL.use (parseN w b t it' (p.1) (p.2.1 :: p.2.2 :: flat (ps.drop (i + 1))) (hsz.1)) ?k1 ?k2 ?k3 ?k4 ?k5 ?k6 ?k7 ?k8 ?kp ?_; (case k1 => k_asm); (case k2 => k_asm); (case k3 => k_asm); (case k4 => k_asm); (case k5 => k_asm); (case k6 => exact rfl); (case k7 => exact Nat.le_of_ble_eq_true rfl); (case k8 => exact Nat.le_of_ble_eq_true rfl); (case kp => exact a3')
    k_whole
    rintro _ n1 h1 tk1 F1 N1 ⟨jr1, kn1, kc1, t1, rfl⟩
    have b1 : (lN, listOf xs.toArray c) ∈ n1 := kc1 _ (List.mem_append_right _ a4) lst_nb
    k_extra "m_stepsR"
    refine' GivesL.use (parseN w b t it' (p.2.1) (p.2.2 :: flat (ps.drop (i + 1))) (hsz.2.1)) ?k1 ?k2 ?k3 ?k4 ?k5 ?k6 ?k7 ?k8 ?kp ?_; (case k1 => k_asm); (case k2 => k_asm); (case k3 => k_asm); (case k4 => k_asm); (case k5 => k_asm); (case k6 => exact rfl); (case k7 => exact Nat.le_of_ble_eq_true rfl); (case k8 => exact Nat.le_of_ble_eq_true rfl); (case kp => exact jr1)
    k_whole
    rintro _ n2 h2 tk2 F2 N2 ⟨jr2, kn2, kc2, t2, rfl⟩
    have b2 : (lN, listOf xs.toArray c) ∈ n2 := kc2 _ b1 lst_nb
    k_extra "m_stepsR"
    refine' GivesL.use (parseN w b t it' (p.2.2) (flat (ps.drop (i + 1))) (hsz.2.2)) ?k1 ?k2 ?k3 ?k4 ?k5 ?k6 ?k7 ?k8 ?kp ?_; (case k1 => k_asm); (case k2 => k_asm); (case k3 => k_asm); (case k4 => k_asm); (case k5 => k_asm); (case k6 => exact rfl); (case k7 => exact Nat.le_of_ble_eq_true rfl); (case k8 => exact Nat.le_of_ble_eq_true rfl); (case kp => exact jr2)
    k_whole
    rintro _ n3 h3 tk3 F3 N3 ⟨jr3, kn3, kc3, t3, rfl⟩
    have b3 : (lN, listOf xs.toArray c) ∈ n3 := kc3 _ b2 lst_nb
    have hz' : xs.length ≤ 1000 := by omega
    k_extra "m_stepsR"
    refine hQ _ _ (TurnP.next F' N' (fun q hq => ht' q (.tail _ (kc3 q (kc2 q (kc1 q (List.mem_append_left _ hq) (how q hq).2.2) (how q hq).2.2) (how q hq).2.2)) (how q hq).1) ⟨_, _, a1, a2, jr3.mono fun q hq hc => ht' q (.tail _ hq) (fun e => lst_nb (e.symm.trans hc)), hl', ?_, by simp [a6], fun q hq => ?_⟩)
    · rw [take_get hp]
      refine (a5.mono fun q hq hc => ht' q (.tail _ (kc3 q (kc2 q (kc1 q (List.mem_append_right _ hq) (fun e => tup_nb (hc.symm.trans e))) (fun e => tup_nb (hc.symm.trans e))) (fun e => tup_nb (hc.symm.trans e)))) (fun e => tup_ne (hc.symm.trans e))).snoc ?_
      exact ⟨_, _, _, _, _, rfl, ht' _ (.head _) tup_ne⟩
    · exact hs' q (.tail _ (kn3 q (kn2 q (kn1 q (List.mem_append_right _ (a7 q hq)) (hne' q hq)) (hne' q hq)) (hne' q hq))) (hnl q hq)
  · intro I i v s Q E st q
    exact wpAny_pure q
  · rintro m₁ nx h tk ⟨xs, c, a1, a2, a3, a4, a5, a6, a7⟩ F7 N7
    clear F8 N8 F9 N9
    rw [List.drop_length] at a3
    rw [List.take_length] at a5
    obtain ⟨j, hm, ha⟩ := a3
    have hk7 : ∀ p ∈ nx, p.2.cls ≠ .type "bytes_iterator" → p.1 ≠ it' := fun p hp hc e => by
      have e1 := (N7 p hp).1
      rw [e, (N7 _ hm).1] at e1
      exact hc (by rw [← Option.some.inj e1]; rfl)
    k_extra "m_stepsR"
    refine' over_use w b t it' j ha.nil ?k1 ?k2 ?k3 ?k4 ?k5 ?k6 hm X T D' (Nat.le_of_ble_eq_true rfl) (Nat.le_of_ble_eq_true rfl) ?_; (case k1 => k_asm); (case k2 => k_asm); (case k3 => k_asm); (case k4 => k_asm); (case k5 => exact rfl); (case k6 => k_asm)
    k_whole
    rintro h8 tk8 g8 KT8 F8 N8 B8 X8 T8 D8
    k_extra "m_stepsR"
    refine hret _ _ _ _ (by assumption) (by assumption) (fun q hq => .tail _ (List.mem_filter.mpr ⟨a7 q hq, decide_eq_true (hne' q hq)⟩)) ⟨_, _, lN, xs, c, rfl, .head _, .tail _ (List.mem_filter.mpr ⟨a4, decide_eq_true (hk7 _ a4 lst_nb)⟩), ?_⟩
    exact a5.mono fun q hq hc => .tail _ (List.mem_filter.mpr ⟨hq, decide_eq_true (hk7 q hq fun e => tup_nb (hc.symm.trans e))⟩)
theorem read_use (w : World) (b : Array UInt8) (t : Tok) (ps : List Nd) (hat : At b 0 (ps.length :: flat ps)) (hz : ps.length ≤ 9) (hs : ∀ p ∈ ps, p.1 < 2 ^ 30 ∧ p.2.1 < 2 ^ 30 ∧ p.2.2 < 2 ^ 30) {d u : Nat}
    {prog : Program} {mean : ExcName → Option Value} {mg mb : Str → Option Value} {cn : Str} {cs : Scope} {a : Addr} {ccd : Value} {A₀ : Around} {h₀ : Heap} {L : Addr} {m : Str → Option Value} {news : Led} {s : Shared} {Q E : Value → Shared → Prop}
    (B : Below A₀ h₀ [] h₀) (F : Fr h₀ L s.heap m) (X : (hook0.heap_1 w.params).In h₀) (T : Top hd.view_39 (looseW hd.view_39 [Str.ofString "_filemode_table"]) mean mg mb h₀) (hk : cs.kind = .function) (N : News h₀ L s.heap news) (hdp : d ≤ 500) (hun : u ≤ 10000)
    (hret : ∀ r news' h' tk', Fr h₀ L h' m → News h₀ L h' news' → (∀ p ∈ news, p ∈ news') → (∃ tp n l xs c, r = .ref tp ∧ (tp, ({ cls := .type "tuple", data := .seq #[.ref l, .bool true] n } : Obj)) ∈ news' ∧ (l, listOf xs.toArray c) ∈ news' ∧ NdsIn news' xs ps) → Q r { s with heap := h', toks := tk' }) :
    wpAny (model prog w) (ktrTop d u (some []) cn cs L a ccd [] []) (call (.ref 216) [.bytes b t]) Q E s :=
  wpAny_le (A := ktrTop 500 10000 (some []) cn cs L a ccd [] []) (read_says w b t ps hat hz hs B F X T hk N hret) hdp hun
end Mine
namespace Mine
open PySem PySem.W PySem.Calls PySem.Spec PyProof.Rows PyProof.V PyProof.Rows.LCg
section
variable {prog : Program} {w : World} {A : Around} {E : Value → Shared → Prop} {s : Shared} {h₀ : Heap} {L : Addr} {m : Str → Option Value} {env : Env}
/-- one level of a comprehension, in which nothing is raised: its turns are an item, its name, and bd -/
noncomputable def CompCode (prog : Program) (w : World) (A : Around) (e : PySem.Expr) (depth : Nat) (it acc : Value) (cenv : Env) (x : Str) (px : Pos) (bd : Sem Unit) : Prop :=
  ∀ (R : Result → Shared → Prop) (Inv : Nat → Shared → Prop),
    (∀ k s, Inv k s → wpAny (model prog w) A (pyNext it) (fun r s₁ => match r with
      | none => R (.ok .next) s₁
      | some v => wpAny (model prog w) A (assign (.Name x px) cenv v) (fun _ s₂ => wpAny (model prog w) A bd (fun _ s₃ => ∃ j, j < k ∧ Inv j s₃) (fun _ _ => False) s₂) (fun _ _ => False) s₁) (fun _ _ => False) s) →
    ∀ k s, Inv k s → codeAny (model prog w) A (.compLoop e depth it acc cenv) R s
theorem code_of_turn {e : PySem.Expr} {depth : Nat} {it acc : Value} {cenv : Env} {x : Str} {px p : Pos} {bd : Sem Unit}
    (ht : compTurn e depth it acc cenv = (standAt p >>= fun _ => pyNext it >>= fun r => match r with
      | none => pure (.done .next)
      | some v => letOwnedTupleGo (.Name x px) it v >>= fun _ => assign (.Name x px) cenv v >>= fun _ => bd >>= fun _ => again (.compLoop e depth it acc cenv)))
    (hu : A.under (.compLoop e depth it acc cenv) = A := by rfl) (hq : (Code.compLoop e depth it acc cenv).quiet = true := by rfl)
    (hden : (model prog w).den (.compLoop e depth it acc cenv) = (compTurn e depth it acc cenv).onRaise (fun x => do noteFrame x cenv; theTreesLotGoes x) := by rfl) : CompCode prog w A e depth it acc cenv x px bd := by
  intro R Inv turn k s hI
  refine codeAny_loop hq Inv (fun n s hI => ?_) k hI
  rw [hu, hden]
  refine wpAny_noted ?_
  rw [ht]
  refine wpAny_bind (wpAny_standAt (wpAny_bind (wpAny_mono (wpAny_noRaise (turn n s hI)) (fun r s₁ h₁ => ?_) fun _ _ h' => h')))
  cases r with
  | none => exact wpAny_pure h₁
  | some v =>
    refine wpAny_bind (wpAny_of_eq (a := ()) rfl ?_)
    exact wpAny_bind (wpAny_mono (wpAny_noRaise h₁) (fun _ s₂ h₂ => wpAny_bind (wpAny_mono (wpAny_noRaise h₂) (fun _ s₃ h₃ => wpAny_pure ⟨rfl, h₃⟩) fun _ _ h' => h')) fun _ _ h' => h')
/-- the last level -/
noncomputable def lastBd (elt : PySem.Expr) (acc : Value) (cenv : Env) : Sem Unit := eval elt cenv >>= fun x => call (.builtin "list.append") [acc, x] >>= fun _ => pure ()
theorem code_one {elt iter : PySem.Expr} {x : Str} {px : Pos} {scope : Scope} {pos : Pos} {it acc : Value} {cenv : Env} : CompCode prog w A (.ListComp elt [⟨.Name x px, iter, [], 0⟩] scope pos) 0 it acc cenv x px (lastBd elt acc cenv) :=
  code_of_turn (p := iter.pos) rfl
theorem code_two1 {elt iter iter1 : PySem.Expr} {t0 : PySem.Expr} {x : Str} {px : Pos} {scope : Scope} {pos : Pos} {it acc : Value} {cenv : Env} : CompCode prog w A (.ListComp elt [⟨t0, iter, [], 0⟩, ⟨.Name x px, iter1, [], 0⟩] scope pos) 1 it acc cenv x px (lastBd elt acc cenv) :=
  code_of_turn (p := iter1.pos) rfl
/-- the first level of two -/
noncomputable def firstBd (e iter1 : PySem.Expr) (acc : Value) (cenv : Env) : Sem Unit := eval iter1 cenv >>= fun x => standAt iter1.pos >>= fun _ => foldedSetIterable iter1 cenv x >>= fun x => holding [x] (pyIter x) >>= fun it => runOwn (.compStart e 1 it acc cenv) cenv >>= fun _ => pure ()
theorem code_two0 {elt iter iter1 t1 : PySem.Expr} {x : Str} {px : Pos} {scope : Scope} {pos : Pos} {it acc : Value} {cenv : Env} :
    CompCode prog w A (.ListComp elt [⟨.Name x px, iter, [], 0⟩, ⟨t1, iter1, [], 0⟩] scope pos) 0 it acc cenv x px (firstBd (.ListComp elt [⟨.Name x px, iter, [], 0⟩, ⟨t1, iter1, [], 0⟩] scope pos) iter1 acc cenv) :=
  code_of_turn (p := iter.pos) (by
    unfold firstBd
    simp only [bind_assoc, pure_bind]
    rfl)
noncomputable def Off (I C D : Addr) (nx : Led) : Prop := ∀ p ∈ nx, p.1 ≠ I ∧ p.1 ≠ C ∧ p.1 ≠ D
/-- the state that a turn leaves -/
noncomputable def CEnd (h₀ : Heap) (L : Addr) (m : Str → Option Value) (s : Shared) (I C D : Addr) (oI : Obj) (J : List Value → Led → Prop) (s' : Shared) : Prop :=
  ∃ h' tk' ys c oC mC nx, s' = { s with heap := h', toks := tk' } ∧ Fr h₀ L h' m ∧ NsObj oC mC ∧ News h₀ L h' ((I, oI) :: (C, oC) :: (D, listOf ys.toArray c) :: nx) ∧ Off I C D nx ∧ J ys nx
theorem m_cloop {e : PySem.Expr} {depth : Nat} {D C I : Addr} {fp : List Addr} {n : Nat} {P : Nat → Value → Prop} {St : Nat → Heap → Prop} {x : Str} {px : Pos} {bd : Sem Unit} {cenv : Env} {R : Result → Shared → Prop} {hp : Heap} {tk0 : Nat} {ys0 : List Value} {c0 : Nat} {oC0 : Obj} {mC0 : Str → Option Value} {nx0 : Led}
    (hc : CompCode prog w A e depth (.ref I) (.ref D) cenv x px bd) (W : Walks prog w A I fp [I] n P St) (hIo : ∀ i h, St i h → ∃ o, h.get? I = some o)
    (hloc : cenv.locals = C) (hx : cenv.kindOf x = some .local) (hcls : (cenv.scope.kind == .class || (cenv.scope.kind == .module && cenv.locals != cenv.globals)) = false)
    (J : Nat → List Value → Led → Prop) (hCf : C ∉ fp) (hIL : I ≠ L) (hCL : C ≠ L) (hIC : I ≠ C) (hID : I ≠ D) (hCD : C ≠ D) (hI0 : h₀.get? I = none) (hC0 : h₀.get? C = none)
    (hkeep : ∀ b ∈ fp, b ≠ I → (∃ o, h₀.get? b = some o) ∨ ∃ o, ∀ i ys nx, J i ys nx → (b, o) ∈ nx)
    (turn : ∀ i v ys c oC mC oI nx h tk, i < n → P i v → J i ys nx → NsObj oC mC → mC x = some v → Fr h₀ L h m → News h₀ L h ((I, oI) :: (C, oC) :: (D, listOf ys.toArray c) :: nx) → Off I C D nx →
      wpAny (model prog w) A bd (fun _ s' => CEnd h₀ L m s I C D oI (J (i + 1)) s') (fun _ _ => False) { s with heap := h, toks := tk })
    (fin : ∀ ys c oC mC nx h tk, J n ys nx → NsObj oC mC → Fr h₀ L h m → News h₀ L h ((C, oC) :: (D, listOf ys.toArray c) :: nx) → Off I C D nx → R (.ok .next) { s with heap := h, toks := tk })
    (hst : St 0 hp) (F : Fr h₀ L hp m) (hN0 : NsObj oC0 mC0) (N : News h₀ L hp ((C, oC0) :: (D, listOf ys0.toArray c0) :: nx0)) (hoff : Off I C D nx0) (h0 : J 0 ys0 nx0) :
    codeAny (model prog w) A (.compLoop e depth (.ref I) (.ref D) cenv) R { s with heap := hp, toks := tk0 } := by
  refine hc R (fun k s' => ∃ h' tk' i ys c oC mC nx, s' = { s with heap := h', toks := tk' } ∧ i ≤ n ∧ k = n + 1 - i ∧ St i h' ∧ Fr h₀ L h' m ∧ NsObj oC mC ∧ News h₀ L h' ((C, oC) :: (D, listOf ys.toArray c) :: nx) ∧ Off I C D nx ∧ J i ys nx) ?_ (n + 1) _
    ⟨hp, tk0, 0, ys0, c0, oC0, mC0, nx0, rfl, Nat.zero_le _, rfl, hst, F, hN0, N, hoff, h0⟩
  rintro k s' ⟨h', tk', i, ys, c, oC, mC, nx, rfl, hi, rfl, hst', F', hN', N', hoff', hJ⟩
  have offI : ∀ p ∈ (C, oC) :: (D, listOf ys.toArray c) :: nx, p.1 ≠ I := fun p hp => by
    rcases List.mem_cons.mp hp with rfl | hp
    · exact Ne.symm hIC
    · rcases List.mem_cons.mp hp with rfl | hp
      · exact Ne.symm hID
      · exact (hoff' p hp).1
  by_cases hlt : i < n
  · refine W.item i _ _ _ hlt hst' fun v h₁ tk₁ hP hst₁ hk₁ => ?_
    have F₁ := fr_but F' hk₁ (Ne.symm hIL) hI0
    have N₁ := news_but N' hk₁ offI
    have hns : h₁.Ns cenv.locals mC := by rw [hloc]; exact hN'.ns (N₁ _ (.head _)).1
    refine wpAny_assign_Name (wpAny_storeName_local hx hns (fun h₂ hn₂ hs₂ => ?_) hcls)
    rw [hloc] at hn₂ hs₂
    have up : ∀ b o, b ≠ C → h₁.get? b = some o → h₂.get? b = some o := fun b o hb eb => hs₂.extBut b o hb eb
    have hst₂ : St (i + 1) h₂ := W.frame _ _ _ hst₁ fun b hb o eb => up b o (fun q => hCf (q ▸ hb)) eb
    obtain ⟨oI, heI⟩ := hIo _ _ hst₂
    obtain ⟨oC₂, heC, hoC⟩ := ns_obj hn₂
    have F₂ : Fr h₀ L h₂ m := F₁.change hs₂ hCL hC0
    have N₂ : News h₀ L h₂ ((I, oI) :: (C, oC₂) :: (D, listOf ys.toArray c) :: nx) := fun p hp => by
      rcases List.mem_cons.mp hp with rfl | hp
      · exact ⟨heI, hIL, hI0⟩
      · rcases List.mem_cons.mp hp with rfl | hp
        · exact ⟨heC, hCL, hC0⟩
        · have z := N₁ p (.tail _ hp)
          refine ⟨up _ _ ?_ z.1, z.2⟩
          rcases List.mem_cons.mp hp with rfl | hp
          · exact Ne.symm hCD
          · exact (hoff' p hp).2.1
    refine wpAny_mono (turn i v ys c oC₂ _ oI nx h₂ _ hlt hP hJ hoC (by simp) F₂ N₂ hoff') (fun _ s₃ h₃ => ?_) fun _ _ e => e
    obtain ⟨h₃, tk₃, ys₃, c₃, oC₃, mC₃, nx₃, rfl, F₃, hN₃, N₃, off₃, hJ₃⟩ := h₃
    refine ⟨n + 1 - (i + 1), by rw [Nat.add_sub_add_right]; exact Nat.sub_lt_sub_right (Nat.le_of_lt hlt) (Nat.lt_succ_self n), h₃, tk₃, i + 1, ys₃, c₃, oC₃, mC₃, nx₃, rfl, hlt, rfl, W.frame _ _ _ hst₂ fun b hb o eb => ?_, F₃, hN₃, fun p hp => N₃ p (.tail _ hp), off₃, hJ₃⟩
    by_cases hbI : b = I
    · subst hbI
      rw [heI] at eb
      rw [← Option.some.inj eb]
      exact (N₃ _ (.head _)).1
    · rcases hkeep b hb hbI with ⟨o', ho'⟩ | ⟨o', ho'⟩
      · have e1 := F₂.keep b o' ho'
        rw [eb] at e1
        rw [Option.some.inj e1]
        exact F₃.keep b o' ho'
      · have e1 := (N₂ _ (.tail _ (.tail _ (.tail _ (ho' _ _ _ hJ))))).1
        have e2 := (N₃ _ (.tail _ (.tail _ (.tail _ (ho' _ _ _ hJ₃))))).1
        rw [eb] at e1
        rw [Option.some.inj e1]; exact e2
  · have hin : i = n := by omega
    subst hin
    refine W.done _ _ _ hst' fun h₁ tk₁ hk₁ => ?_
    exact fin ys c oC mC nx h₁ tk₁ hJ hN' (fr_but F' hk₁ (Ne.symm hIL) hI0) (news_but N' hk₁ offI) hoff'
/-- the last level of a comprehension: what elt tells goes to the list -/
theorem last_turn {elt : PySem.Expr} {D C I : Addr} {cenv : Env} {ys : List Value} {c : Nat} {oC oI : Obj} {mC : Str → Option Value} {J : List Value → Led → Prop} {h : Heap} {tk : Nat} (hz : ys.length ≤ 1000) (hDL : D ≠ L) (hD0 : h₀.get? D = none) (hDI : I ≠ D) (hDC : C ≠ D) (hoC : NsObj oC mC)
    (H : wpAny (model prog w) A (eval elt cenv) (fun y s' => ∃ h' tk' nx, s' = { s with heap := h', toks := tk' } ∧ Fr h₀ L h' m ∧ News h₀ L h' ((I, oI) :: (C, oC) :: (D, listOf ys.toArray c) :: nx) ∧ Off I C D nx ∧ J (ys ++ [y]) nx) (fun _ _ => False) { s with heap := h, toks := tk }) :
    wpAny (model prog w) A (lastBd elt (.ref D) cenv) (fun _ s' => CEnd h₀ L m s I C D oI J s') (fun _ _ => False) { s with heap := h, toks := tk } := by
  unfold lastBd
  refine wpAny_bind (wpAny_mono H (fun y s' hs => ?_) fun _ _ e => e)
  obtain ⟨h', tk', nx, rfl, F', N', off, hJ⟩ := hs
  have zD := (N' _ (.tail _ (.tail _ (.head _)))).1
  refine wpAny_bind (append_at (hsz := by rw [List.size_toArray]; exact Nat.le_trans hz (by decide)) zD fun h₂ hs₂ hD₂ => wpAny_pure ?_)
  have eo : ({ cls := .type "list", data := .seq (ys.toArray.push y) (c + 1) } : Obj) = listOf (ys ++ [y]).toArray (c + 1) := by simp [W.listOf]
  rw [eo] at hD₂
  refine ⟨h₂, tk', ys ++ [y], c + 1, oC, mC, nx, rfl, F'.change hs₂ hDL hD0, hoC, fun p hp => ?_, off, hJ⟩
  rcases List.mem_cons.mp hp with rfl | hp
  · exact ⟨hs₂.extBut _ _ hDI (N' _ (.head _)).1, (N' _ (.head _)).2⟩
  · rcases List.mem_cons.mp hp with rfl | hp
    · exact ⟨hs₂.extBut _ _ hDC (N' _ (.tail _ (.head _))).1, (N' _ (.tail _ (.head _))).2⟩
    · rcases List.mem_cons.mp hp with rfl | hp
      · exact ⟨hD₂, hDL, hD0⟩
      · have z := N' p (.tail _ (.tail _ (.tail _ hp)))
        exact ⟨hs₂.extBut _ _ (off p hp).2.2 z.1, z.2⟩
structure CDs (h₀ : Heap) (L I C D : Addr) : Prop where
  CL : C ≠ L
  DL : D ≠ L
  IL : I ≠ L
  IC : I ≠ C
  ID : I ≠ D
  CD : C ≠ D
  C0 : h₀.get? C = none
  D0 : h₀.get? D = none
  I0 : h₀.get? I = none
/-- a comprehension whose first iterator stands -/
noncomputable def CAt (prog : Program) (w : World) (A : Around) (e : PySem.Expr) (scope : Scope) (cl : List (Str × Addr)) (env : Env) (Q : Value → Shared → Prop) (E : Value → Shared → Prop) (it : Value) (s₂ : Shared) : Prop :=
  wpAny (model prog w) A (newList []) (fun acc s₃ => wpAny (model prog w) A (newFunctionEnv scope env.globals cl [] env.qual none .none (some env)) (fun cenv s₄ =>
    codeAny (model prog w) A (.compStart e 0 it acc { cenv with scope := relabel scope env }) (compPost (model prog w) A E none Q acc cenv.locals) s₄) E s₃) E s₂
theorem m_comp {elt iter target : PySem.Expr} {rest : List Comprehension} {scope : Scope} {cl : List (Str × Addr)} {pos : Pos} {Q : Value → Shared → Prop} (hclos : closureFor scope env = pure cl) (hkind : scope.kind = .function) (hnames : ∀ x ∈ scope.names, x.2 = .local → scope.names.lookup x.1 = some .local)
    (H : wpAny (model prog w) A (eval iter env) (fun xv s₁ => wpAny (model prog w) A (pyIter xv) (fun it s₂ => CAt prog w A (.ListComp elt (⟨target, iter, [], 0⟩ :: rest) scope pos) scope cl env Q E it s₂) E s₁) E s)
    (hs : ∀ x, foldedSetIterable iter env x = pure x := by intro _; rfl) : wpAny (model prog w) A (eval (.ListComp elt (⟨target, iter, [], 0⟩ :: rest) scope pos) env) Q E s := by
  rw [eval_ListComp]
  exact wpAny_comprehension_free rfl hs hclos hkind hnames H
theorem c_start {elt iter : PySem.Expr} {rest : List Comprehension} {scope : Scope} {cl : List (Str × Addr)} {pos : Pos} {Q : Value → Shared → Prop} {I : Addr} {fp : List Addr} {n : Nat} {P : Nat → Value → Prop} {St : Nat → Heap → Prop} {x : Str} {px : Pos} {bd : Addr → Addr → Sem Unit} {s₂ : Shared} {nx0 : Led}
    (hc : ∀ C D, CompCode prog w A (.ListComp elt (⟨.Name x px, iter, [], 0⟩ :: rest) scope pos) 0 (.ref I) (.ref D) (compEnvC scope cl C env) x px (bd C D)) (W : Walks prog w A I fp [I] n P St) (hIo : ∀ i h, St i h → ∃ o, h.get? I = some o)
    (hcell : ∀ y ∈ scope.names, y.2 ≠ .cell) (hkind : scope.kind = .function) (hx : scope.names.lookup x = some .local) (J : Nat → List Value → Led → Prop) (hfp : ∀ b ∈ fp, b < s₂.heap.objs.size) (hIL : I ≠ L) (hI0 : h₀.get? I = none)
    (hkeep : ∀ b ∈ fp, b ≠ I → (∃ o, h₀.get? b = some o) ∨ ∃ o, ∀ i ys nx, J i ys nx → (b, o) ∈ nx)
    (turn : ∀ C D, CDs h₀ L I C D → ∀ i v ys c oC mC oI nx h tk, i < n → P i v → J i ys nx → NsObj oC mC → mC x = some v → Fr h₀ L h m → News h₀ L h ((I, oI) :: (C, oC) :: (D, listOf ys.toArray c) :: nx) → Off I C D nx →
      wpAny (model prog w) A (bd C D) (fun _ s' => CEnd h₀ L m s₂ I C D oI (J (i + 1)) s') (fun _ _ => False) { s₂ with heap := h, toks := tk })
    (fin : ∀ D ys c nx h tk, J n ys nx → Fr h₀ L h m → News h₀ L h ((D, listOf ys.toArray c) :: nx) → (∀ p ∈ nx, p.1 ≠ D) → Q (.ref D) { s₂ with heap := h, toks := tk })
    (hst : St 0 s₂.heap) (F : Fr h₀ L s₂.heap m) (N : News h₀ L s₂.heap nx0) (hoff : ∀ p ∈ nx0, p.1 ≠ I) (h0 : J 0 [] nx0) :
    CAt prog w A (.ListComp elt (⟨.Name x px, iter, [], 0⟩ :: rest) scope pos) scope cl env Q E (.ref I) s₂ := by
  refine wpAny_newObj_type (wpAny_newFunctionEnv hcell (by intro y hy; simp at hy) (fun h₁ hns₁ hsb₁ => ?_) hkind)
  dsimp only at hns₁ hsb₁ ⊢
  generalize hH2 : s₂.heap.push { cls := .type "list", dict := none, data := .seq ([] : List Value).toArray } = H2 at hns₁ hsb₁ ⊢
  have hC : H2.objs.size = s₂.heap.objs.size + 1 := by rw [← hH2, Heap.size_push]
  have hDC : s₂.heap.objs.size ≠ H2.objs.size := by rw [hC]; exact Nat.ne_of_lt (Nat.lt_succ_self _)
  have below : ∀ b, b < s₂.heap.objs.size → b ≠ H2.objs.size ∧ b ≠ s₂.heap.objs.size := fun b hb => ⟨by rw [hC]; exact Nat.ne_of_lt (Nat.lt_succ_of_lt hb), Nat.ne_of_lt hb⟩
  have hIlt : I < s₂.heap.objs.size := hfp I (W.sub I (List.mem_singleton.mpr rfl))
  have hCf : H2.objs.size ∉ fp := fun hm => by have := hfp _ hm; rw [hC] at this; exact Nat.lt_irrefl _ (Nat.lt_of_succ_lt this)
  have old : ∀ b o, s₂.heap.get? b = some o → h₁.get? b = some o := fun b o e => hsb₁.extBut b o (below b (Heap.lt_size e)).1 (Heap.get?_push_of_some _ (hH2 ▸ Heap.get?_push_of_some _ e))
  have hacc : h₁.get? s₂.heap.objs.size = some (listOf [].toArray 0) := hsb₁.extBut _ _ hDC (Heap.get?_push_of_some _ (hH2 ▸ Heap.get?_push_size _ rfl))
  have hst₁ : St 0 h₁ := W.frame _ _ _ hst fun b _ o e => old b o e
  have fresh₀ : ∀ a, s₂.heap.objs.size ≤ a → h₀.get? a = none := fun a ha => by
    cases e : h₀.get? a with
    | none => rfl
    | some o' => exact absurd (Heap.lt_size (F.keep a o' e)) (Nat.not_lt.mpr ha)
  have hLlt : L < s₂.heap.objs.size := F.ns.lt
  have cd : CDs h₀ L I H2.objs.size s₂.heap.objs.size := ⟨Ne.symm (below L hLlt).1, Ne.symm (below L hLlt).2, hIL, (below I hIlt).1, (below I hIlt).2, Ne.symm hDC, fresh₀ _ (by rw [hC]; exact Nat.le_succ _), fresh₀ _ (Nat.le_refl _), hI0⟩
  obtain ⟨oC, heC, hoC⟩ := ns_obj hns₁
  have key : ∀ tk1, codeAny (model prog w) A (.compLoop (.ListComp elt (⟨.Name x px, iter, [], 0⟩ :: rest) scope pos) 0 (.ref I) (.ref s₂.heap.objs.size) (compEnvC scope cl H2.objs.size env)) (compPost (model prog w) A E none Q (.ref s₂.heap.objs.size) H2.objs.size) { s₂ with heap := h₁, toks := tk1 } := fun tk1 => by
    refine m_cloop (h₀ := h₀) (L := L) (m := m) (hc H2.objs.size s₂.heap.objs.size) W hIo rfl (lookup_relabel_local hx) (by simp [compEnvC, relabel, hkind]) J hCf cd.IL cd.CL cd.IC cd.ID cd.CD cd.I0 cd.C0 hkeep (turn _ _ cd) ?_ hst₁ (F.keeps old) hoC (ys0 := []) (c0 := 0) (nx0 := nx0) ?_ ?_ h0
    · intro ys c oC' mC nx h tk hJ hN' F' N' off
      refine ⟨mC, hN'.ns (N' _ (.head _)).1, fun h' hs => fin _ ys c nx h' tk hJ (F'.change hs cd.CL cd.C0) (fun p hp => ?_) fun p hp => (off p hp).2.2⟩
      have z := N' p (.tail _ hp)
      refine ⟨hs.extBut _ _ ?_ z.1, z.2⟩
      rcases List.mem_cons.mp hp with rfl | hp
      · exact Ne.symm cd.CD
      · exact (off p hp).2.1
    · intro p hp
      rcases List.mem_cons.mp hp with rfl | hp
      · exact ⟨heC, cd.CL, cd.C0⟩
      · rcases List.mem_cons.mp hp with rfl | hp
        · exact ⟨hacc, cd.DL, cd.D0⟩
        · exact ⟨old _ _ (N p hp).1, (N p hp).2⟩
    · exact fun p hp => ⟨hoff p hp, (below _ (Heap.lt_size (N p hp).1)).1, (below _ (Heap.lt_size (N p hp).1)).2⟩
  exact codeAny_compStart_list (key _) (W.self 0 _ _ _ hst₁ (key _))
end
end Mine
namespace Mine
open PySem PySem.W PySem.Calls PySem.Spec PyProof.Rows PyProof.V PyProof.Rows.LCg
section
variable {prog : Program} {w : World} {A : Around} {E : Value → Shared → Prop} {s : Shared} {h₀ : Heap} {L : Addr} {m : Str → Option Value} {env : Env}
/-- nothing raised, and Q -/
noncomputable def NR (Q : Shared → Prop) (r : Result) (s' : Shared) : Prop := match r with | .ok _ => Q s' | .error _ => False
theorem start1 {elt iter iter1 t0 t1 : PySem.Expr} {scope : Scope} {pos : Pos} {it acc : Value} {cenv : Env} {R : Result → Shared → Prop}
    (h0 : codeAny (model prog w) A (.compLoop (.ListComp elt [⟨t0, iter, [], 0⟩, ⟨t1, iter1, [], 0⟩] scope pos) 1 it acc cenv) R s)
    (h : wpAny (model prog w) A (pyIter it) (fun it' s' => codeAny (model prog w) A (.compLoop (.ListComp elt [⟨t0, iter, [], 0⟩, ⟨t1, iter1, [], 0⟩] scope pos) 1 it' acc cenv) R s') (notedBy (model prog w) A cenv fun x s' => R (.error x) s') s) :
    codeAny (model prog w) A (.compStart (.ListComp elt [⟨t0, iter, [], 0⟩, ⟨t1, iter1, [], 0⟩] scope pos) 1 it acc cenv) R s := by
  refine codeAny_of_tree ?_
  show wpAny _ _ ((compStart (.ListComp elt [⟨t0, iter, [], 0⟩, ⟨t1, iter1, [], 0⟩] scope pos) 1 it acc cenv).onRaise (fun x => do noteFrame x cenv; standAt theWindowsPlace)) _ _ s
  refine wpAny_notedAt ?_
  unfold compStart
  show wpAny _ _ (ask >>= _) _ _ s
  refine wpAny_bind (wpAny_askSetting (wpAny_ite ?_))
  split
  · first
      | exact wpAny_bind (wpAny_pure (wpAny_pure (And.intro rfl h0)))
      | exact wpAny_pure (And.intro rfl h0)
  · first
      | exact wpAny_bind (wpAny_rule (wpAny_bind (wpAny_standAt (wpAny_bind (wpAny_mono h (fun it' s' h' => wpAny_pure (And.intro rfl h')) fun _ _ x => x)))))
      | (refine wpAny_bind (wpAny_rule ?_); show wpAny _ _ (standAt iter1.pos >>= _) _ _ s; exact wpAny_bind (wpAny_standAt (wpAny_bind (wpAny_mono h (fun it' s' h' => wpAny_pure (And.intro rfl h')) fun _ _ x => x))))
/-- the first level: the second's iterable, and its loop -/
theorem first_turn {e iter1 : PySem.Expr} {acc : Value} {cenv : Env} {Q : Shared → Prop} (hf : ∀ x, foldedSetIterable iter1 cenv x = pure x)
    (H : wpAny (model prog w) A (eval iter1 cenv) (fun xv s₁ => wpAny (model prog w) A (pyIter xv) (fun it s₂ => codeAny (model prog w) A (.compStart e 1 it acc cenv) (NR Q) s₂) (fun _ _ => False) s₁) (fun _ _ => False) s) :
    wpAny (model prog w) A (firstBd e iter1 acc cenv) (fun _ s' => Q s') (fun _ _ => False) s := by
  unfold firstBd
  refine wpAny_bind (wpAny_mono H (fun xv s₁ h₁ => ?_) fun _ _ e => e)
  refine wpAny_bind (wpAny_standAt (wpAny_bind (wpAny_of_eq (hf xv) (wpAny_bind (wpAny_holding (wpAny_mono h₁ (fun it s₂ h₂ => ?_) fun _ _ e => e))))))
  refine wpAny_bind (wpAny_runOwn (codeAny_mono h₂ fun r s' hr => ?_))
  cases r with
  | ok f => exact wpAny_pure hr
  | error e => exact hr.elim
/-- the second level over a walk, its element the name of its item -/
theorem inner_walk {scope scope0 : Scope} {cl : List (Str × Addr)} {pos pe : Pos} {iter iter1 t0 : PySem.Expr} {y : Str} {py : Pos} {I C D I1 : Addr} {fp : List Addr} {vs : List Value} {St : Nat → Heap → Prop} {oI oC : Obj} {mC : Str → Option Value} {ys : List Value} {c : Nat} {nx : Led} {hp : Heap} {tk0 : Nat}
    (cd : CDs h₀ L I C D) (W : Walks prog w A I1 fp [I1] vs.length (fun i v => vs[i]? = some v) St) (hIo : ∀ i h, St i h → ∃ o, h.get? I1 = some o)
    (hkind : scope.kind = .function) (hy : scope.names.lookup y = some .local) (hyd : (y == ("__debug__" : Str)) = false)
    (hCf : C ∉ fp) (hI1L : I1 ≠ L) (hI1C : I1 ≠ C) (hI1D : I1 ≠ D) (hI1I : I1 ≠ I) (hI10 : h₀.get? I1 = none) (hnx : ∀ p ∈ nx, p.1 ≠ I1)
    (hkeep : ∀ b ∈ fp, b ≠ I1 → (∃ o, h₀.get? b = some o) ∨ ∃ o, (b, o) ∈ (I, oI) :: nx) (hz : ys.length + vs.length ≤ 1000)
    (hst : St 0 hp) (F : Fr h₀ L hp m) (hN0 : NsObj oC mC) (N : News h₀ L hp ((I, oI) :: (C, oC) :: (D, listOf ys.toArray c) :: nx)) (off : Off I C D nx) :
    codeAny (model prog w) A (.compStart (.ListComp (.Name y pe) [⟨t0, iter, [], 0⟩, ⟨.Name y py, iter1, [], 0⟩] scope0 pos) 1 (.ref I1) (.ref D) (compEnvC scope cl C env))
      (NR (CEnd h₀ L m s I C D oI fun ys' nx' => ys' = ys ++ vs ∧ nx' = nx)) { s with heap := hp, toks := tk0 } := by
  have key : codeAny (model prog w) A (.compLoop (.ListComp (.Name y pe) [⟨t0, iter, [], 0⟩, ⟨.Name y py, iter1, [], 0⟩] scope0 pos) 1 (.ref I1) (.ref D) (compEnvC scope cl C env))
      (NR (CEnd h₀ L m s I C D oI fun ys' nx' => ys' = ys ++ vs ∧ nx' = nx)) { s with heap := hp, toks := tk0 } := by
    refine m_cloop (h₀ := h₀) (L := L) (m := m) code_two1 W hIo rfl (lookup_relabel_local hy) (by simp [compEnvC, relabel, hkind]) (fun j ys' nx' => ys' = ys ++ vs.take j ∧ nx' = (I, oI) :: nx) hCf hI1L cd.CL hI1C hI1D cd.CD hI10 cd.C0 ?_ ?_ ?_ hst F hN0 (ys0 := ys) (c0 := c) (nx0 := (I, oI) :: nx) ?_ ?_ ⟨by simp, rfl⟩
    · intro b hb hne
      rcases hkeep b hb hne with h | ⟨o, ho⟩
      · exact .inl h
      · exact .inr ⟨o, fun i ys' nx' hj => hj.2 ▸ ho⟩
    · rintro j v ys' c' oC' mC' oI1 nx' h tk hj hv ⟨rfl, rfl⟩ hoC' hmv F' N' off'
      have hlen : (ys ++ vs.take j).length ≤ 1000 := by rw [List.length_append, List.length_take]; omega
      refine last_turn (c := c') hlen cd.DL cd.D0 hI1D cd.CD hoC' ?_
      refine wpAny_Name (wpAny_loadName_local (m := mC') (by simp [compEnvC, relabel, hkind]) (lookup_relabel_local hy) (hoC'.ns (N' _ (.tail _ (.head _))).1) hmv ?_) hyd
      refine ⟨h, tk, _, rfl, F', N', off', ?_, rfl⟩
      rw [take_get hv, List.append_assoc]
    · rintro ys' c' oC' mC' nx' h tk ⟨rfl, rfl⟩ hoC' F' N' off'
      rw [List.take_length] at N'
      refine ⟨h, tk, ys ++ vs, c', oC', mC', nx, rfl, F', hoC', fun p hp => ?_, off, rfl, rfl⟩
      rcases List.mem_cons.mp hp with rfl | hp
      · exact N' _ (.tail _ (.tail _ (.head _)))
      · rcases List.mem_cons.mp hp with rfl | hp
        · exact N' _ (.head _)
        · rcases List.mem_cons.mp hp with rfl | hp
          · exact N' _ (.tail _ (.head _))
          · exact N' _ (.tail _ (.tail _ (.tail _ hp)))
    · intro p hp
      rcases List.mem_cons.mp hp with rfl | hp
      · exact N _ (.tail _ (.head _))
      · rcases List.mem_cons.mp hp with rfl | hp
        · exact N _ (.tail _ (.tail _ (.head _)))
        · rcases List.mem_cons.mp hp with rfl | hp
          · exact N _ (.head _)
          · exact N _ (.tail _ (.tail _ (.tail _ hp)))
    · intro p hp
      rcases List.mem_cons.mp hp with rfl | hp
      · exact ⟨Ne.symm hI1I, cd.IC, cd.ID⟩
      · exact ⟨hnx p hp, (off p hp).2.1, (off p hp).2.2⟩
  exact start1 key (W.self 0 _ _ _ hst key)
end
end Mine
namespace Mine
open PySem PySem.W PySem.Calls PySem.Spec PyProof.Rows PyProof.V PyProof.Rows.LCg
theorem ints_cat {xs ys : List Value} {as bs : List Int} (h : IntsAre xs as) (g : IntsAre ys bs) : IntsAre (xs ++ ys) (as ++ bs) := by
  induction h with
  | nil => exact g
  | cons n t _ ih => exact .cons n t ih
theorem IntsAre.at2 {vs : List Value} {ns : List Int} (h : IntsAre vs ns) {i : Nat} {v : Value} (hv : vs[i]? = some v) : ∃ x t, ns[i]? = some x ∧ v = .int x t := by
  induction h generalizing i with
  | nil => simp at hv
  | cons n t r ih =>
    cases i with
    | zero => exact ⟨n, t, rfl, (Option.some.inj hv).symm⟩
    | succ i => exact ih hv
noncomputable def flatI (ps : List Nd) : List Int := ps.flatMap fun p => [(p.1 : Int), (p.2.1 : Int), (p.2.2 : Int)]
theorem flatI_snoc (ps : List Nd) (p : Nd) : flatI (ps ++ [p]) = flatI ps ++ [(p.1 : Int), (p.2.1 : Int), (p.2.2 : Int)] := by simp [flatI]
theorem flatI_len (ps : List Nd) : (flatI ps).length = 3 * ps.length := by
  induction ps with
  | nil => rfl
  | cons p r ih => show ([_, _, _] ++ flatI r).length = _; rw [List.length_append, ih]; simp; omega
theorem flatI_eq (ps : List Nd) : flatI ps = (flat ps).map fun (n : Nat) => (n : Int) := by
  induction ps with
  | nil => rfl
  | cons p r ih => show [_, _, _] ++ flatI r = _; rw [ih]; rfl
theorem flat_len (ps : List Nd) : (flat ps).length = 3 * ps.length := by
  have := flatI_len ps
  rw [flatI_eq, List.length_map] at this
  exact this
theorem flat_mem {ps : List Nd} {P : Nat → Prop} (h : ∀ p ∈ ps, P p.1 ∧ P p.2.1 ∧ P p.2.2) : ∀ n ∈ flat ps, P n := by
  intro n hn
  obtain ⟨p, hp, hm⟩ := List.mem_flatMap.mp hn
  have := h p hp
  rcases List.mem_cons.mp hm with rfl | hm
  · exact this.1
  · rcases List.mem_cons.mp hm with rfl | hm
    · exact this.2.1
    · rw [List.mem_singleton.mp hm]; exact this.2.2
section
variable {prog : Program} {w : World} {A : Around} {E : Value → Shared → Prop} {s : Shared} {h₀ : Heap} {L : Addr} {m : Str → Option Value} {env : Env}
theorem walks_list {I : Addr} {fp wr : List Addr} {vs : List Value} {St : Nat → Heap → Prop} (W : Walks prog w A I fp wr vs.toArray.size (fun i v => vs.toArray[i]? = some v) St) : Walks prog w A I fp wr vs.length (fun i v => vs[i]? = some v) St :=
  { sub := W.sub, frame := W.frame, done := W.done, self := W.self, item := fun i s Q E hi st hQ => W.item i s Q E hi st fun v h' tk hP => hQ v h' tk (by simpa using hP) }
/-- [y for x in l for y in x], l a list of nodes ahead of the frame -/
theorem c_flat {iter : PySem.Expr} {x y : Str} {px py pe pi : Pos} {scope : Scope} {cl : List (Str × Addr)} {pos : Pos} {Q : Value → Shared → Prop} {l : Addr} {vs : List Value} {ps : List Nd} {nx0 : Led}
    (hh : A.handled = none) (hl : h₀.IsList l vs.toArray) (hN : NdsAt h₀ vs ps) (hz : ps.length ≤ 9) (hcell : ∀ y ∈ scope.names, y.2 ≠ .cell) (hkind : scope.kind = .function) (hx : scope.names.lookup x = some .local) (hy : scope.names.lookup y = some .local)
    (hxd : (x == ("__debug__" : Str)) = false) (hyd : (y == ("__debug__" : Str)) = false)
    (F : Fr h₀ L s.heap m) (N : News h₀ L s.heap nx0)
    (fin : ∀ D ys c h tk, IntsAre ys (flatI ps) → Fr h₀ L h m → News h₀ L h ((D, listOf ys.toArray c) :: nx0) → (∀ p ∈ nx0, p.1 ≠ D) → Q (.ref D) { s with heap := h, toks := tk }) :
    wpAny (model prog w) A (pyIter (.ref l)) (fun it s₂ => CAt prog w A (.ListComp (.Name y pe) [⟨.Name x px, iter, [], 0⟩, ⟨.Name y py, .Name x pi, [], 0⟩] scope pos) scope cl env Q E it s₂) E s := by
  have hls : s.heap.IsList l vs.toArray := hl.at fun o e => F.keep l o e
  obtain ⟨ol, hol, _⟩ := id hl
  have hlt : l < h₀.objs.size := Heap.lt_size hol
  have hne : l ≠ s.heap.objs.size := Nat.ne_of_lt (Nat.lt_trans (Nat.lt_of_lt_of_le hlt F.above) F.ns.lt)
  have hLs : L < s.heap.objs.size := F.ns.lt
  refine wpAny_pyIter_list hls ?_
  refine c_start (h₀ := h₀) (L := L) (m := m) (nx0 := nx0) (fun C D => code_two0) (Walks.list hh s.heap.objs.size l hne vs.toArray) (fun i h st => ⟨_, st.1.choose_spec.1⟩) hcell hkind hx
    (fun i ys nx => IntsAre ys (flatI (ps.take i)) ∧ nx = nx0) ?_ (Ne.symm (Nat.ne_of_lt hLs)) (next_is_new F) ?_ ?_ ?_ ⟨⟨_, Heap.get?_push_size _ rfl, rfl, rfl⟩, hls.at fun o e => Heap.get?_push_of_some _ e⟩ (F.push _) (fun p hp => ⟨Heap.get?_push_of_some _ (N p hp).1, (N p hp).2⟩) (fun p hp => Nat.ne_of_lt (Heap.lt_size (N p hp).1)) ⟨.nil, rfl⟩
  · intro b hb
    rw [Heap.size_push]
    rcases List.mem_cons.mp hb with rfl | hb
    · exact Nat.lt_succ_self _
    · rw [List.mem_singleton.mp hb]
      exact Nat.lt_succ_of_lt (Nat.lt_trans (Nat.lt_of_lt_of_le hlt F.above) hLs)
  · intro b hb hbI
    rcases List.mem_cons.mp hb with e | hb
    · exact absurd e hbI
    · exact .inl ⟨ol, (List.mem_singleton.mp hb) ▸ hol⟩
  · rintro C D cd i v ys c oC mC oI nx h tk hi hv ⟨hI, rfl⟩ hoC hmv F' N' off
    have hv' : vs[i]? = some v := by simpa using hv
    obtain ⟨p, hp, T, t1, t2, t3, rfl, hT⟩ := hN.get hv'
    obtain ⟨oT, hoT, hcT, nT, hdT⟩ := id hT
    have hTh : h.IsTuple T #[.int (p.1 : Int) t1, .int (p.2.1 : Int) t2, .int (p.2.2 : Int) t3] := (show IsTup h T _ from IsTup.keeps hT F'.keep)
    have hTlt : T < h₀.objs.size := Heap.lt_size hoT
    have hneT : T ≠ h.objs.size := Nat.ne_of_lt (Nat.lt_trans (Nat.lt_of_lt_of_le hTlt F'.above) F'.ns.lt)
    have hip := (List.getElem?_eq_some_iff.mp hp).1
    have hlen : ys.length = 3 * i := by
      have := hI.length
      rw [flatI_len, List.length_take, Nat.min_eq_left (Nat.le_of_lt hip)] at this
      exact this
    have up : ∀ {b o}, h.get? b = some o → b ≠ h.objs.size := fun e => Nat.ne_of_lt (Heap.lt_size e)
    refine first_turn (fun _ => rfl) ?_
    refine wpAny_Name (wpAny_loadName_local (m := mC) (by simp [compEnvC, relabel, hkind]) (lookup_relabel_local hx) (hoC.ns (N' _ (.tail _ (.head _))).1) hmv ?_) hxd
    refine wpAny_pyIter_tuple hTh ?_
    have F1 : Fr h₀ L (h.push { cls := .type "tuple_iterator", data := .fields #[.ref T, .int 0 0] }) m := F'.push _
    have hCfp : C ∉ [h.objs.size, T] := fun hm => by
      rcases List.mem_cons.mp hm with e | hm
      · exact absurd e (up (N' _ (.tail _ (.head _))).1)
      · have e := List.mem_singleton.mp hm
        rw [← e, cd.C0] at hoT
        cases hoT
    have hkp : ∀ b ∈ [h.objs.size, T], b ≠ h.objs.size → (∃ o, h₀.get? b = some o) ∨ ∃ o, (b, o) ∈ (s.heap.objs.size, oI) :: nx := fun b hb hbI => by
      rcases List.mem_cons.mp hb with e | hb
      · exact absurd e hbI
      · exact .inl ⟨oT, (List.mem_singleton.mp hb) ▸ hoT⟩
    have IW := inner_walk (prog := prog) (w := w) (scope0 := scope) (pos := pos) (pe := pe) (py := py) (iter := iter) (iter1 := .Name x pi) (t0 := .Name x px) (env := env) (cl := cl) (s := s) (tk0 := tk) (y := y) (ys := ys) (c := c) (nx := nx) (oI := oI) (oC := oC) (mC := mC) (vs := [.int (p.1 : Int) t1, .int (p.2.1 : Int) t2, .int (p.2.2 : Int) t3])
      cd (walks_list (Walks.tuple hh h.objs.size T hneT #[.int (p.1 : Int) t1, .int (p.2.1 : Int) t2, .int (p.2.2 : Int) t3])) (fun i h st => ⟨_, st.1.choose_spec.1⟩) hkind hy hyd
      hCfp (Ne.symm (Nat.ne_of_lt F'.ns.lt)) (Ne.symm (up (N' _ (.tail _ (.head _))).1)) (Ne.symm (up (N' _ (.tail _ (.tail _ (.head _)))).1)) (Ne.symm (up (N' _ (.head _)).1)) (next_is_new F') (fun p hp => up (N' p (.tail _ (.tail _ (.tail _ hp)))).1)
      hkp (by simp; omega) ⟨⟨_, Heap.get?_push_size _ rfl, rfl, rfl⟩, hTh.at fun o e => Heap.get?_push_of_some _ e⟩ F1 hoC (fun p hp => ⟨Heap.get?_push_of_some _ (N' p hp).1, (N' p hp).2⟩) off
    refine codeAny_mono IW fun r s' hr => ?_
    cases r with
    | error e => exact hr.elim
    | ok f =>
      obtain ⟨h', tk', ys', c', oC', mC', nx', rfl, F2, hN2, N2, off2, rfl, rfl⟩ := hr
      refine ⟨h', tk', _, c', oC', mC', _, rfl, F2, hN2, N2, off2, ?_, rfl⟩
      rw [take_get hp, flatI_snoc]
      exact ints_cat hI (.cons _ _ (.cons _ _ (.cons _ _ .nil)))
  · rintro D ys c nx h tk ⟨hI, rfl⟩ F' N' off
    rw [List.size_toArray, hN.1, List.take_length] at hI
    exact fin D ys c h tk hI F' N' off
noncomputable def vcat (ns : List Nat) : List Int := ns.flatMap varint
theorem vcat_snoc (ns : List Nat) (n : Nat) : vcat (ns ++ [n]) = vcat ns ++ varint n := by simp [vcat]
theorem vcat_len {ns : List Nat} (h : ∀ n ∈ ns, n < 2 ^ 30) : (vcat ns).length ≤ 5 * ns.length := by
  induction ns with
  | nil => exact Nat.le_refl _
  | cons n r ih =>
    show (varint n ++ vcat r).length ≤ _
    have h1 := varint_len (h n (.head _))
    have h2 := ih fun k hk => h k (.tail _ hk)
    rw [List.length_append, List.length_cons]
    omega
/-- a new list of a number's octets -/
noncomputable def VarEnd (h₀ : Heap) (L : Addr) (m : Str → Option Value) (s : Shared) (h : Heap) (led : Led) (n : Nat) (xv : Value) (s₁ : Shared) : Prop :=
  ∃ h' tk' l1 xs1 c1 new, xv = .ref l1 ∧ s₁ = { s with heap := h', toks := tk' } ∧ Fr h₀ L h' m ∧ News h₀ L h' (new ++ led) ∧ (∀ p ∈ new, h.get? p.1 = none) ∧ (l1, listOf xs1.toArray c1) ∈ new ∧ IntsAre xs1 (varint n)
/-- [y for x in l for y in f(x)], l a list of numbers of the ledger, f(x) a new list of octets -/
theorem c_calls {iter iter1 : PySem.Expr} {x y : Str} {px py pe : Pos} {scope : Scope} {cl : List (Str × Addr)} {pos : Pos} {Q : Value → Shared → Prop} {l : Addr} {vs : List Value} {k : Nat} {ns : List Nat} {nx0 : Led}
    (hh : A.handled = none) (hl : (l, listOf vs.toArray k) ∈ nx0) (hI : IntsAre vs (ns.map fun (n : Nat) => (n : Int))) (hz : ns.length ≤ 40) (hs : ∀ n ∈ ns, n < 2 ^ 30) (hcell : ∀ y ∈ scope.names, y.2 ≠ .cell) (hkind : scope.kind = .function) (hx : scope.names.lookup x = some .local) (hy : scope.names.lookup y = some .local)
    (hyd : (y == ("__debug__" : Str)) = false) (hf : ∀ C v, foldedSetIterable iter1 (compEnvC scope cl C env) v = pure v)
    (F : Fr h₀ L s.heap m) (N : News h₀ L s.heap nx0)
    (H : ∀ (C : Addr) (n : Nat) (t : Tok) (oC : Obj) (mC : Str → Option Value) (led : Led) (h : Heap) (tk : Nat), n < 2 ^ 30 → NsObj oC mC → mC x = some (.int (n : Int) t) → Fr h₀ L h m → News h₀ L h led → (C, oC) ∈ led →
      wpAny (model prog w) A (eval iter1 (compEnvC scope cl C env)) (VarEnd h₀ L m s h led n) (fun _ _ => False) { s with heap := h, toks := tk })
    (fin : ∀ D ys c nx h tk, IntsAre ys (vcat ns) → Fr h₀ L h m → News h₀ L h ((D, listOf ys.toArray c) :: nx) → (∀ p ∈ nx0, p ∈ nx) → Q (.ref D) { s with heap := h, toks := tk }) :
    wpAny (model prog w) A (pyIter (.ref l)) (fun it s₂ => CAt prog w A (.ListComp (.Name y pe) [⟨.Name x px, iter, [], 0⟩, ⟨.Name y py, iter1, [], 0⟩] scope pos) scope cl env Q E it s₂) E s := by
  have zl := N _ hl
  have hls : s.heap.IsList l vs.toArray := N.isList hl
  have hlt : l < s.heap.objs.size := Heap.lt_size zl.1
  have hne : l ≠ s.heap.objs.size := Nat.ne_of_lt hlt
  have hLs : L < s.heap.objs.size := F.ns.lt
  have hvl : vs.length = ns.length := by have := hI.length; simpa using this
  refine wpAny_pyIter_list hls ?_
  refine c_start (h₀ := h₀) (L := L) (m := m) (nx0 := nx0) (fun C D => code_two0) (walks_list (Walks.list hh s.heap.objs.size l hne vs.toArray)) (fun i h st => ⟨_, st.1.choose_spec.1⟩) hcell hkind hx
    (fun i ys nx => IntsAre ys (vcat (ns.take i)) ∧ ∀ p ∈ nx0, p ∈ nx) ?_ (Ne.symm (Nat.ne_of_lt hLs)) (next_is_new F) ?_ ?_ ?_ ⟨⟨_, Heap.get?_push_size _ rfl, rfl, rfl⟩, hls.at fun o e => Heap.get?_push_of_some _ e⟩ (F.push _) (fun p hp => ⟨Heap.get?_push_of_some _ (N p hp).1, (N p hp).2⟩) (fun p hp => Nat.ne_of_lt (Heap.lt_size (N p hp).1)) ⟨.nil, fun _ h => h⟩
  · intro b hb
    rw [Heap.size_push]
    rcases List.mem_cons.mp hb with rfl | hb
    · exact Nat.lt_succ_self _
    · rw [List.mem_singleton.mp hb]
      exact Nat.lt_succ_of_lt hlt
  · intro b hb hbI
    rcases List.mem_cons.mp hb with e | hb
    · exact absurd e hbI
    · exact .inr ⟨_, fun i ys nx hJ => hJ.2 _ ((List.mem_singleton.mp hb) ▸ hl)⟩
  · rintro C D cd i v ys c oC mC oI nx h tk hi hv ⟨hI2, hsub⟩ hoC hmv F' N' off
    obtain ⟨a, t, ha, rfl⟩ := IntsAre.at2 hI hv
    rw [List.getElem?_map] at ha
    obtain ⟨n, hn, rfl⟩ := Option.map_eq_some_iff.mp ha
    have hn30 := hs n (List.mem_of_getElem? hn)
    have hin := (List.getElem?_eq_some_iff.mp hn).1
    have hlen : ys.length ≤ 5 * i := by
      have h1 := hI2.length
      have h2 := vcat_len (ns := ns.take i) fun k hk => hs k (List.mem_of_mem_take hk)
      rw [List.length_take, Nat.min_eq_left (Nat.le_of_lt hin)] at h2
      rw [h1]; exact h2
    refine first_turn (hf C) ?_
    refine wpAny_mono (H C n t oC mC _ h tk hn30 hoC hmv F' N' (.tail _ (.head _))) (fun xv s₁ h₁ => ?_) fun _ _ e => e
    obtain ⟨h', tk', l1, xs1, c1, new, rfl, rfl, F1, N1, hnew, hl1, hI1⟩ := h₁
    have z1 := N1 _ (List.mem_append_left _ hl1)
    have hl1s : h'.IsList l1 xs1.toArray := N1.isList (List.mem_append_left _ hl1)
    have hne1 : l1 ≠ h'.objs.size := Nat.ne_of_lt (Heap.lt_size z1.1)
    have up : ∀ {b o}, h'.get? b = some o → b ≠ h'.objs.size := fun e => Nat.ne_of_lt (Heap.lt_size e)
    refine wpAny_pyIter_list hl1s ?_
    have hxl : xs1.length ≤ 5 := by have := hI1.length; have := varint_len hn30; omega
    have old : ∀ {p : Addr × Obj}, p ∈ (s.heap.objs.size, oI) :: (C, oC) :: (D, listOf ys.toArray c) :: nx → ∀ q ∈ new, q.1 ≠ p.1 := fun hp q hq e => by
      have := hnew q hq
      rw [e, (N' _ hp).1] at this
      cases this
    have off1 : Off s.heap.objs.size C D (new ++ nx) := fun p hp => by
      rcases List.mem_append.mp hp with hp | hp
      · exact ⟨old (.head _) p hp, old (.tail _ (.head _)) p hp, old (.tail _ (.tail _ (.head _))) p hp⟩
      · exact off p hp
    have N2 : News h₀ L h' ((s.heap.objs.size, oI) :: (C, oC) :: (D, listOf ys.toArray c) :: (new ++ nx)) := fun p hp => by
      refine N1 p ?_
      rcases List.mem_cons.mp hp with rfl | hp
      · exact List.mem_append_right _ (.head _)
      · rcases List.mem_cons.mp hp with rfl | hp
        · exact List.mem_append_right _ (.tail _ (.head _))
        · rcases List.mem_cons.mp hp with rfl | hp
          · exact List.mem_append_right _ (.tail _ (.tail _ (.head _)))
          · rcases List.mem_append.mp hp with hp | hp
            · exact List.mem_append_left _ hp
            · exact List.mem_append_right _ (.tail _ (.tail _ (.tail _ hp)))
    have hCfp : C ∉ [h'.objs.size, l1] := fun hm => by
      rcases List.mem_cons.mp hm with e | hm
      · exact absurd e (up (N2 _ (.tail _ (.head _))).1)
      · exact old (.tail _ (.head _)) _ hl1 (List.mem_singleton.mp hm).symm
    have hkp : ∀ b ∈ [h'.objs.size, l1], b ≠ h'.objs.size → (∃ o, h₀.get? b = some o) ∨ ∃ o, (b, o) ∈ (s.heap.objs.size, oI) :: (new ++ nx) := fun b hb hbI => by
      rcases List.mem_cons.mp hb with e | hb
      · exact absurd e hbI
      · exact .inr ⟨_, .tail _ (List.mem_append_left _ ((List.mem_singleton.mp hb) ▸ hl1))⟩
    have IW := inner_walk (prog := prog) (w := w) (scope0 := scope) (pos := pos) (pe := pe) (py := py) (iter := iter) (iter1 := iter1) (hp := h'.push { cls := .type "list_iterator", data := .fields #[.ref l1, .int 0 0] }) (t0 := .Name x px) (env := env) (cl := cl) (s := s) (tk0 := tk') (y := y) (ys := ys) (c := c) (nx := new ++ nx) (oI := oI) (oC := oC) (mC := mC) (vs := xs1)
      cd (walks_list (Walks.list hh h'.objs.size l1 hne1 xs1.toArray)) (fun i h st => ⟨_, st.1.choose_spec.1⟩) hkind hy hyd
      hCfp (Ne.symm (Nat.ne_of_lt F1.ns.lt)) (Ne.symm (up (N2 _ (.tail _ (.head _))).1)) (Ne.symm (up (N2 _ (.tail _ (.tail _ (.head _)))).1)) (Ne.symm (up (N2 _ (.head _)).1)) (next_is_new F1) (fun p hp => up (N2 p (.tail _ (.tail _ (.tail _ hp)))).1)
      hkp (by omega) ⟨⟨_, Heap.get?_push_size _ rfl, rfl, rfl⟩, hl1s.at fun o e => Heap.get?_push_of_some _ e⟩ (F1.push _) hoC (fun p hp => ⟨Heap.get?_push_of_some _ (N2 p hp).1, (N2 p hp).2⟩) off1
    refine codeAny_mono IW fun r s' hr => ?_
    cases r with
    | error e => exact hr.elim
    | ok f =>
      obtain ⟨h2, tk2, ys', c', oC', mC', nx', rfl, F2, hN2, N3, off2, rfl, rfl⟩ := hr
      refine ⟨h2, tk2, _, c', oC', mC', _, rfl, F2, hN2, N3, off2, ?_, fun p hp => List.mem_append_right _ (hsub p hp)⟩
      rw [take_get hn, vcat_snoc]
      exact ints_cat hI2 hI1
  · rintro D ys c nx h tk ⟨hI2, hsub⟩ F' N' off
    rw [hvl, List.take_length] at hI2
    exact fin D ys c nx h tk hI2 F' N' hsub
end
end Mine
namespace Mine
open PySem PySem.W PySem.Calls PyProof.Rows
theorem words_OC1 : PySem.Challenge.rw_ik0046_01 = PySem.Challenge.rw_ik0046_01 ∧ hook0.heap_1 = hook0.heap_1 := by
  k_with_none
  k_fill
  k_with "m_intro" => intro prog mean mg mb cn cs a ccd cl outer A₀ base h₀ L m s Q E B F X T hk hpre hret
  k_with "m_enter" => (
    (case k6 => k_dflt k_is); (case k7 => k_dflt k_is); (case k8 => exact Nat.le_of_ble_eq_true rfl); (case k9 => exact rfl); (case c5 => decide); (case kB => exact locs rfl); (case c2 => exact rfl); (case c3 => exact rfl); (case c4 => exact rfl)
    k_whole
    intro L' h' tk F' N' B' X' T' e₁ A₁
    (try dsimp only)
    (try dsimp only [List.reverse, List.reverseAux] at F')
    (try k_fold))
  k_with "m_enterR" => (
    (case k6 => k_dflt k_is); (case k7 => k_dflt k_is); (case k8 => exact Nat.le_of_ble_eq_true rfl); (case kP => exact rfl); (case kG => exact fun _ => rfl); (case c5 => decide); (case kB => exact fun _ => locs rfl); (case c2 => exact rfl); (case c3 => exact rfl); (case c4 => exact rfl)
    k_whole
    intro D' L' h' tk F' N' B' X' T' e₁ A₁
    (try dsimp only)
    (try dsimp only [List.reverse, List.reverseAux] at F')
    (try k_fold))
  k_with "m_name" => k_dflt (refine' ld ?k1 ?k2 ?_; (case k1 => k_asm); (case k2 => first | exact rfl | assumption); k_whole)
  k_with "m_append" => (
    k_dflt (refine' m_append ?k1 ?k2 ?k3 ?k4 ?_; (case k1 => k_asm); (case k2 => k_asm); (case k3 => k_mem); (case k4 => first | assumption | omega | decide); k_whole)
    intro h' n' F' N' hl' hs' ht'
    (try k_sweep))
  k_with "m_mem" => first | assumption | exact List.Mem.head _ | (refine List.mem_cons_of_mem _ ?_; k_mem) | (refine List.mem_append_right _ ?_; k_mem) | (refine List.mem_append_left _ ?_; k_mem)
  k_with "m_fold" => ((with_reducible show wpAny _ _ _ _ _ _); k_fold)
  k_with "m_steps" => (repeat' (first
    | (k_unfold; (try dsimp only)) | (k_end; wrow_close)
    | ((with_reducible show wpAny _ _ (exec _ _) _ _ _); k_fold)
    | ((fail_if_success (with_reducible show wpAny _ _ (exec (Stmt.For _ _ _ _ _) _) _ _ _)); (fail_if_success (with_reducible show wpAny _ _ (exec (Stmt.While _ _ _ _) _) _ _ _)); first | (walk1; (try dsimp only)) | (dsimp only; walk1))))
  k_with "m_div" => ((with_reducible show wpAny _ _ (binaryOp Operator.FloorDiv (Value.int _ _) (Value.int _ _)) _ _ _); k_dflt (refine' fdiv_e ?k1 ?_; (case k1 => first | decide | omega); k_whole))
  k_with "m_mod" => ((with_reducible show wpAny _ _ (binaryOp Operator.Mod (Value.int _ _) (Value.int _ _)) _ _ _); k_dflt (refine' fmod_e ?k1 ?_; (case k1 => first | decide | omega); k_whole))
  k_with "m_for" => (with_unfolding_all refine m_for ?_ (fun _ => rfl))
  k_with "m_use" => (
    (with_reducible show wpAny _ _ (call (Value.ref 101) [Value.str _ _]) _ _ _)
    k_dflt (refine' Gives.use (fspath _ _ _) ?k1 ?k2 ?k3 ?k4 ?k5 ?k6 ?k7 ?k8 ?kp ?_; (case k1 => k_asm); (case k2 => k_asm); (case k3 => k_asm); (case k4 => k_asm); (case k5 => k_asm); (case k6 => exact rfl); (case k7 => exact Nat.le_of_ble_eq_true rfl); (case k8 => exact Nat.le_of_ble_eq_true rfl); (case kp => trivial); k_whole)
    intro r' n' h' tk' F' N' hz' hr'
    (try ((with_reducible show wpAny _ _ _ _ _ _); k_fold))
    obtain ⟨hs', t', e'⟩ := hr'
    subst hs' e'
    (try clear hz')
    (try simp only [List.nil_append] at N')
    (try dsimp only)
    (try k_sweep))
  k_with "m_use" => (
    (with_reducible show wpAny _ _ (call (Value.ref 115) [Value.str _ _]) _ _ _)
    k_dflt (refine' Gives.use (getsep _ _ _) ?k1 ?k2 ?k3 ?k4 ?k5 ?k6 ?k7 ?k8 ?kp ?_; (case k1 => k_asm); (case k2 => k_asm); (case k3 => k_asm); (case k4 => k_asm); (case k5 => k_asm); (case k6 => exact rfl); (case k7 => exact Nat.le_of_ble_eq_true rfl); (case k8 => exact Nat.le_of_ble_eq_true rfl); (case kp => trivial); k_whole)
    intro r' n' h' tk' F' N' hz' hr'
    (try ((with_reducible show wpAny _ _ _ _ _ _); k_fold))
    obtain ⟨hs', t', e'⟩ := hr'
    subst hs' e'
    (try clear hz')
    (try simp only [List.nil_append] at N')
    (try dsimp only)
    (try k_sweep))
  k_with "m_use" => (
    (with_reducible show wpAny _ _ (call (Value.ref 143) [Value.int _ _]) _ _ _)
    k_dflt (refine' Gives.use (sifmt _ _ _) ?k1 ?k2 ?k3 ?k4 ?k5 ?k6 ?k7 ?k8 ?kp ?_; (case k1 => k_asm); (case k2 => k_asm); (case k3 => k_asm); (case k4 => k_asm); (case k5 => k_asm); (case k6 => exact rfl); (case k7 => exact Nat.le_of_ble_eq_true rfl); (case k8 => exact Nat.le_of_ble_eq_true rfl); (case kp => trivial); k_whole)
    intro r' n' h' tk' F' N' hz' hr'
    (try ((with_reducible show wpAny _ _ _ _ _ _); k_fold))
    obtain ⟨hs', t', e'⟩ := hr'
    subst hs' e'
    (try clear hz')
    (try simp only [List.nil_append] at N')
    (try dsimp only)
    (try k_sweep))
  k_with "m_stepsC" => (repeat' (first
    | (k_unfold; (try dsimp only)) | (k_end; wrow_close)
    | ((fail_if_success (with_reducible show wpAny _ _ (eval (Expr.ListComp _ _ _ _) _) _ _ _)); (fail_if_success (with_reducible show wpAny _ _ (call (Value.type "bytes") _) _ _ _)); (fail_if_success (with_reducible show wpAny _ _ (binaryOp Operator.Add _ _) _ _ _)); first | (walk1; (try dsimp only)) | (dsimp only; walk1))))
  k_with "m_len" => (
    (with_reducible show wpAny _ _ (call (Value.builtin "len") [Value.ref _]) _ _ _)
    k_dflt (refine' len_h (by assumption) ?k3 ?_; (case k3 => first | assumption | omega); k_whole)
    intro t' tk')
  k_with "m_use" => (
    (with_reducible show wpAny _ _ (call (Value.ref 197) [Value.int _ _]) _ _ _)
    k_dflt (refine' Gives.use (varint_says _ _ _ (by assumption)) ?k1 ?k2 ?k3 ?k4 ?k5 ?k6 ?k7 ?k8 ?kp ?_; (case k1 => k_asm); (case k2 => k_asm); (case k3 => k_asm); (case k4 => k_asm); (case k5 => k_asm); (case k6 => exact rfl); (case k7 => exact Nat.le_of_ble_eq_true rfl); (case k8 => exact Nat.le_of_ble_eq_true rfl); (case kp => trivial); k_whole)
    intro r' n' h' tk' F' N' hz' hr'
    obtain ⟨l9, xs9, c9, e9, hl9, hI9⟩ := hr'
    subst e9
    (try dsimp only)
    (try k_sweep))
  exact ⟨rfl, rfl⟩
theorem vcat_eq (ns : List Nat) : vcat ns = (ns.flatMap varN).map fun (n : Nat) => (n : Int) := by
  induction ns with
  | nil => rfl
  | cons n r ih => show varint n ++ vcat r = _; rw [ih, varint_eq, List.flatMap_cons, List.map_append]
theorem vcat_in (ns : List Nat) : KBa.In (vcat ns) := by
  intro k hk
  rw [vcat_eq] at hk
  obtain ⟨a, ha, rfl⟩ := List.mem_map.mp hk
  obtain ⟨n, _, hn⟩ := List.mem_flatMap.mp ha
  have := varN_small a hn
  omega
theorem bytes_at (ns : List Nat) : At (byteArr (vcat ns)) 0 ns := by
  unfold At
  rw [List.drop_zero]
  have h := KBa.ints_make (vcat_in ns)
  rw [vcat_eq] at h ⊢
  have inj : ∀ a b : List Nat, (a.map fun (n : Nat) => (n : Int)) = (b.map fun (n : Nat) => (n : Int)) → a = b := by
    intro a
    induction a with
    | nil => intro b h; cases b with
      | nil => rfl
      | cons _ _ => cases h
    | cons x a ih => intro b h; cases b with
      | nil => cases h
      | cons y b =>
        injection h with h1 h2
        rw [ih b h2, Int.ofNat.inj h1]
  apply inj
  refine Eq.trans ?_ h
  unfold KBw.bInts bN
  rw [List.map_map]
  rfl
set_option maxRecDepth 100000 in
set_option maxHeartbeats 2000000 in
theorem octets_says (w : World) (l0 : Addr) (vs : List Value) (ps : List Nd) (hz : ps.length ≤ 9) (hs : ∀ p ∈ ps, p.1 < 2 ^ 30 ∧ p.2.1 < 2 ^ 30 ∧ p.2.2 < 2 ^ 30) :
    Gives w 500 202 [.ref l0] (fun h => h.IsList l0 vs.toArray ∧ NdsAt h vs ps) (fun new v => ∃ b t, v = .bytes b t ∧ At b 0 (ps.length :: flat ps)) := by
  k_extra "m_intro"
  refine' m_call [(Str.ofString "nodes", .ref l0)] B F X T rfl rfl hk ?k6 ?k7 ?k8 ?k9 ?kB ?_ ?c2 ?c3 ?c4 ?c5
  k_extra "m_enter"
  obtain ⟨hL, hN⟩ := hpre
  have hlen := hN.1
  have hLs : ∀ {h : Heap} {m}, Fr s.heap L' h m → h.IsList l0 vs.toArray := fun F => hL.at fun o e => F.keep l0 o e
  have hL1 := hLs F'
  have hvz : vs.length ≤ 1000 := by omega
  k_extra "m_stepsC"
  rename Fr _ _ _ _ => F8
  rename News _ _ _ _ => N8
  have hns : ∀ n ∈ ps.length :: flat ps, n < 2 ^ 30 := fun n hn => (List.mem_cons.mp hn).elim (fun e => by omega) (flat_mem (P := fun n => n < 2 ^ 30) hs n)
  refine m_comp rfl rfl (by decide) ?_
  k_extra "m_stepsC"
  refine c_flat rfl hL hN hz (by decide) rfl rfl rfl (by decide) (by decide) F8 N8 fun D ys c h tk hI FD ND hD => ?_
  have hyl : ys.length = 3 * ps.length := by have := hI.length; rw [flatI_len] at this; exact this
  clear F8 N8
  k_extra "m_stepsC"
  refine add_lists (vs := [.int (vs.length : Int) t']) (ws := ys) (hsz := Nat.le_trans (Nat.add_le_add_left (Nat.le_of_eq hyl) 1) (Nat.le_trans (by show 1 + 3 * ps.length ≤ 1000; omega) (by decide))) FD ND (News.isList ND (.tail _ (.head _))) (News.isList ND (.head _)) fun h9 F9 N9 => ?_
  dsimp only
  k_extra "m_stepsC"
  have hI2 : IntsAre ([.int (vs.length : Int) t'] ++ ys) ((ps.length :: flat ps).map fun (n : Nat) => (n : Int)) := by
    rw [hlen]
    refine .cons _ _ ?_
    rw [← flatI_eq]
    exact hI
  refine m_comp rfl rfl (by decide) ?_
  k_extra "m_stepsC"
  rename Fr _ _ _ _ => F7
  rename News _ _ _ _ => N7
  refine c_calls rfl (.head _) hI2 (by rw [List.length_cons, flat_len]; omega) hns (by decide) rfl rfl rfl (by decide) (fun _ _ => rfl) F7 N7 ?_ ?_
  · intro C n t oC mC led h tk hn30 hoC hmv F6 N6 hCm
    clear F7 N7
    k_extra "m_stepsC"
    exact ⟨_, _, l9, xs9, c9, n', rfl, rfl, F', N', hz', hl9, hI9⟩
  · intro D2 ys2 c2 nx h tk hI3 F6 N6 hsub
    clear F7 N7
    k_extra "m_stepsC"
    have hb := vcat_len hns
    rw [List.length_cons, flat_len] at hb
    have hIn := vcat_in (ps.length :: flat ps)
    refine KBa.make_K F6 N6 rfl (News.isList N6 (.head _)) hI3 hIn (by omega) fun h8 t8 k8 F5 N5 _ => ?_
    clear F6 N6
    k_extra "m_stepsC"
    exact hret _ _ _ _ (by assumption) (Fr.keep (by assumption)) (news_out F (by assumption)) ⟨_, _, rfl, bytes_at _⟩
end Mine
namespace Mine
open PySem PySem.W PySem.Calls PyProof.Rows
noncomputable abbrev sl : Str := Str.ofString "/"
theorem sl_eq : sl = ⟨#[47]⟩ := by decide +kernel
noncomputable def C (s : Str) : List Nat := s.cps.toList
theorem C_ext {a b : Str} (h : C a = C b) : a = b := Str.ext' (Array.toList_inj.mp h)
theorem C_app (a b : Str) : C (a ++ b) = C a ++ C b := by show (a.cps ++ b.cps).toList = _; rw [Array.toList_append]; rfl
theorem C_len (a : Str) : (C a).length = a.length := by simp [C, Str.length]
theorem C_sl : C sl = [47] := by rw [sl_eq]; rfl
/-- a name of a way: no '/' in it, not without letters -/
noncomputable def Nm (s : Str) : Prop := 47 ∉ C s ∧ C s ≠ []
/-- the way that the names tell -/
noncomputable def pathS (ns : List Str) : Str := sl ++ Txt.join sl ns
/-- a way with its last stroke -/
noncomputable def headC (ns : List Str) : List Nat := if ns = [] then [47] else C (pathS ns) ++ [47]
theorem join_snoc (sep y : Str) : ∀ ns : List Str, ns ≠ [] → Str.join sep (ns ++ [y]) = Str.join sep ns ++ (sep ++ y)
  | [], h => absurd rfl h
  | [x], _ => by show x ++ sep ++ y = x ++ (sep ++ y); exact Str.append_assoc _ _ _
  | x :: z :: r, _ => by
    show x ++ sep ++ Str.join sep ((z :: r) ++ [y]) = x ++ sep ++ Str.join sep (z :: r) ++ (sep ++ y)
    rw [join_snoc sep y (z :: r) (by simp), Str.append_assoc (x ++ sep)]
theorem pathS_nil : pathS [] = sl := by decide +kernel
theorem path_snoc (ns : List Str) (y : Str) : C (pathS (ns ++ [y])) = headC ns ++ C y := by
  unfold headC pathS Txt.join
  rw [StrLaws.glued_eq_join, StrLaws.glued_eq_join]
  by_cases h : ns = []
  · subst h
    rw [if_pos rfl, C_app, C_sl]; rfl
  · rw [if_neg h, join_snoc sl y ns h, C_app, C_app, C_app, C_app, C_sl]
    simp
theorem headC_last (ns : List Str) : ∃ l, headC ns = l ++ [47] := by
  unfold headC
  split
  · exact ⟨[], rfl⟩
  · exact ⟨_, rfl⟩
/-- ways of names end in no stroke, but for the first -/
theorem path_last {ns : List Str} (hn : ns ≠ []) (hg : ∀ s ∈ ns, Nm s) : ∃ l c, C (pathS ns) = l ++ [c] ∧ c ≠ 47 := by
  obtain ⟨ms, y, rfl⟩ : ∃ ms y, ns = ms ++ [y] := ⟨ns.dropLast, ns.getLast hn, (List.dropLast_concat_getLast hn).symm⟩
  have hy := hg y (by simp)
  rw [path_snoc]
  refine ⟨headC ms ++ (C y).dropLast, (C y).getLast hy.2, ?_, fun e => hy.1 (e ▸ List.getLast_mem hy.2)⟩
  rw [List.append_assoc, List.dropLast_concat_getLast hy.2]
theorem ends_iff (x : Str) : Txt.endswith x sl = true ↔ ∃ l, C x = l ++ [47] := by
  unfold Txt.endswith
  have h1 := StrLaws.subAt_one x 47 (x.length - 1)
  rw [← sl_eq] at h1
  have hl : sl.length = 1 := by rw [sl_eq]; rfl
  rw [hl] at h1 ⊢
  rw [Bool.and_eq_true, decide_eq_true_eq]
  constructor
  · rintro ⟨a, b⟩
    have := h1.mp ⟨by omega, b⟩
    have hx : C x ≠ [] := fun e => by have := C_len x; rw [e] at this; simp at this; omega
    refine ⟨(C x).dropLast, ?_⟩
    have e : (C x).getLast hx = 47 := by
      rw [List.getLast_eq_getElem]
      have h2 : (C x)[(C x).length - 1]? = some 47 := by rw [C_len]; exact this
      exact (List.getElem?_eq_some_iff.mp h2).2
    rw [← e, List.dropLast_concat_getLast]
  · rintro ⟨l, e⟩
    have hle := C_len x
    rw [e, List.length_append, List.length_singleton] at hle
    refine ⟨by omega, (h1.mpr ?_).2⟩
    show (C x)[x.length - 1]? = some 47
    rw [e, ← hle]
    simp
/-- join adds a name to a way -/
theorem join_path {ns : List Str} {y : Str} (hg : ∀ s ∈ ns, Nm s) : joinS (pathS ns) y = pathS (ns ++ [y]) := by
  apply C_ext
  rw [path_snoc]
  unfold joinS headC
  by_cases h : ns = []
  · subst h
    rw [if_pos rfl, pathS_nil, if_pos ((ends_iff _).mpr ⟨[], C_sl⟩), C_app, C_sl]
  · obtain ⟨l, c, e, hc⟩ := path_last h hg
    have : ¬ Txt.endswith (pathS ns) sl = true := fun he => by
      obtain ⟨l', e'⟩ := (ends_iff _).mp he
      rw [e] at e'
      have := List.append_inj_right' e' rfl
      injection this with this
      exact hc this
    rw [if_neg this, if_neg h, C_app, C_app, C_sl]
    simp
theorem rfind_path (ns : List Str) {y : Str} (hy : 47 ∉ C y) : Txt.rfind (pathS (ns ++ [y])) sl + 1 = ((headC ns).length : Int) := by
  obtain ⟨l, el⟩ := headC_last ns
  have e := path_snoc ns y
  have at1 : ∀ i, StrLaws.At (pathS (ns ++ [y])) sl (pathS (ns ++ [y])).length i ↔ (C (pathS (ns ++ [y])))[i]? = some 47 := fun i => by
    have := StrLaws.subAt_one (pathS (ns ++ [y])) 47 i
    rw [← sl_eq] at this
    exact this
  have hlen : (headC ns).length = l.length + 1 := by rw [el]; simp
  have hin : StrLaws.At (pathS (ns ++ [y])) sl (pathS (ns ++ [y])).length l.length := (at1 _).mpr (by
    rw [e, el]; simp)
  have hout : ∀ k, l.length < k → ¬ StrLaws.At (pathS (ns ++ [y])) sl (pathS (ns ++ [y])).length k := fun k hk hA => by
    have h2 := (at1 k).mp hA
    rw [e, List.getElem?_append_right (by omega)] at h2
    exact hy (List.mem_of_getElem? h2)
  unfold Txt.rfind
  rcases StrLaws.last_spec (pathS (ns ++ [y])) sl with ⟨_, hno⟩ | ⟨i, hi, hA, hmax⟩
  · exact absurd hin (hno _)
  · rw [hi]
    have h1 : ¬ i < l.length := fun h => hmax _ h hin
    have h2 : ¬ l.length < i := fun h => hout _ h hA
    show (i : Int) + 1 = _
    omega
theorem base_path (ns : List Str) {y : Str} (hy : 47 ∉ C y) : baseS (pathS (ns ++ [y])) = y := by
  apply C_ext
  unfold baseS
  rw [rfind_path ns hy]
  have e := path_snoc ns y
  have h := StrLaws.sliceText_from (x := pathS (ns ++ [y])) (i := ((headC ns).length : Int)) ⟨by omega, by
    show _ ≤ (((C (pathS (ns ++ [y]))).length : Nat) : Int)
    rw [e, List.length_append]; omega⟩
  refine (congrArg C h).trans ?_
  show ((C (pathS (ns ++ [y]))).drop _).take _ = _
  rw [Int.toNat_natCast, show (pathS (ns ++ [y])).cps.toList = C (pathS (ns ++ [y])) from rfl, e, List.drop_left, List.take_of_length_le]
  rw [List.length_append]
  omega
theorem head_path (ns : List Str) {y : Str} (hy : 47 ∉ C y) : C (headS (pathS (ns ++ [y]))) = headC ns := by
  unfold headS
  rw [rfind_path ns hy]
  have e := path_snoc ns y
  have h := StrLaws.sliceText_to (x := pathS (ns ++ [y])) (j := ((headC ns).length : Int)) ⟨by omega, by
    show _ ≤ (((C (pathS (ns ++ [y]))).length : Nat) : Int)
    rw [e, List.length_append]; omega⟩
  refine (congrArg C h).trans ?_
  show ((C (pathS (ns ++ [y]))).drop 0).take _ = _
  rw [show (((headC ns).length : Int) - 0).toNat = (headC ns).length by omega, e, List.drop_zero, List.take_left]
theorem C_mul (k : Nat) : C (Txt.mul sl (k : Int)) = List.replicate k 47 := by
  unfold Txt.mul
  by_cases h0 : (k : Int) < 1
  · rw [if_pos h0]
    have : k = 0 := by omega
    rw [this]; rfl
  · rw [if_neg h0]
    by_cases h1 : ((k : Int) == 1 || sl.length == 0) = true
    · rw [if_pos h1]
      have h2 : sl.length = 1 := by rw [sl_eq]; rfl
      rw [h2] at h1
      have h3 : (k : Int) = 1 := by simpa using h1
      have : k = 1 := by omega
      rw [this]; exact C_sl
    · rw [if_neg h1]
      show (((List.replicate (k : Int).toNat sl.cps).foldl (· ++ ·) #[]).toList) = _
      rw [Int.toNat_natCast]
      have key : ∀ (n : Nat) (a : Array Nat), ((List.replicate n sl.cps).foldl (· ++ ·) a).toList = a.toList ++ List.replicate n 47 := by
        intro n
        induction n with
        | zero => intro a; simp
        | succ n ih =>
          intro a
          rw [List.replicate_succ, List.foldl_cons, ih, Array.toList_append, show sl.cps.toList = [47] from C_sl, List.replicate_succ]
          simp
      rw [key]; rfl
theorem rstrip_C (x : Str) : C (Txt.rstripChars x sl) = ((C x).reverse.dropWhile fun c => c == 47).reverse := by
  unfold Txt.rstripChars
  rw [PyProof.Rows.stripBy_eq]
  have hg : (sl.cps.contains : Nat → Bool) = fun c => c == 47 := by
    funext c
    rw [sl_eq]
    simp
    rfl
  rw [hg]
  show C (Builtin.Str.strSub x 0 (x.length - ((((C x).drop 0).reverse.takeWhile fun c => c == 47)).length)) = _
  unfold C
  rw [StrLaws.strSub_toList]
  show ((C x).drop 0).take _ = ((C x).reverse.dropWhile fun c => c == 47).reverse
  rw [List.drop_zero, Nat.sub_zero, ← C_len x]
  have h := List.takeWhile_append_dropWhile (p := fun c => c == 47) (l := (C x).reverse)
  have h2 : C x = ((C x).reverse.dropWhile fun c => c == 47).reverse ++ ((C x).reverse.takeWhile fun c => c == 47).reverse := by
    rw [← List.reverse_append, h, List.reverse_reverse]
  have hl := congrArg List.length h2
  rw [List.length_append, List.length_reverse, List.length_reverse] at hl
  show (C x).take ((C x).length - ((C x).reverse.takeWhile fun c => c == 47).length) = _
  have e : (C x).length - ((C x).reverse.takeWhile fun c => c == 47).length = (((C x).reverse.dropWhile fun c => c == 47).reverse).length := by
    rw [List.length_reverse]; omega
  rw [e]
  exact (congrArg (fun l => List.take (((C x).reverse.dropWhile fun c => c == 47).reverse).length l) h2).trans List.take_left
/-- the way above a way -/
theorem dir_path {ns : List Str} {y : Str} (hg : ∀ s ∈ ns, Nm s) (hy : 47 ∉ C y) : dirS (pathS (ns ++ [y])) = pathS ns := by
  apply C_ext
  have hh := head_path ns hy
  unfold dirS
  by_cases h : ns = []
  · subst h
    have hH : headS (pathS ([] ++ [y])) = sl := C_ext (by rw [hh, C_sl]; rfl)
    rw [hH, pathS_nil, if_neg]
    rintro ⟨_, b⟩
    revert b
    decide +kernel
  · obtain ⟨l, c, e, hc⟩ := path_last h hg
    have eh : headC ns = l ++ [c] ++ [47] := by unfold headC; rw [if_neg h, e]
    have h1 : (headS (pathS (ns ++ [y]))).length ≠ 0 := by
      rw [← C_len, hh, eh]; simp
    have h2 : (headS (pathS (ns ++ [y])) != Txt.mul sl ((headS (pathS (ns ++ [y]))).length : Int)) = true := by
      rw [bne_iff_ne]
      intro he
      have hm : c ∈ C (headS (pathS (ns ++ [y]))) := by rw [hh, eh]; simp
      rw [he, C_mul] at hm
      exact hc (List.eq_of_mem_replicate hm)
    rw [if_pos ⟨h1, h2⟩, rstrip_C, hh, eh, e]
    simp [hc]
end Mine
namespace Mine
open PySem PySem.W PySem.Calls PyProof.Rows
/-- the figures of a number -/
noncomputable abbrev numS (n : Nat) : Str := Str.ofString (toString (n : Int))
theorem C_num (n : Nat) : C (numS n) = (Nat.toDigits 10 n).map Char.toNat := by
  have e : toString (n : Int) = String.ofList (Nat.toDigits 10 n) := by
    show toString n = _
    exact Nat.toString_eq_ofList_toDigits
  unfold numS C
  rw [Str.ofString_eq_toList, e]
  simp
theorem num_digit {n c : Nat} (h : c ∈ C (numS n)) : 48 ≤ c ∧ c ≤ 57 := by
  rw [C_num] at h
  obtain ⟨d, hd, rfl⟩ := List.mem_map.mp h
  have := Nat.isDigit_of_mem_toDigits (by decide) (by decide) hd
  unfold Char.isDigit at this
  rw [Bool.and_eq_true, decide_eq_true_eq, decide_eq_true_eq] at this
  exact ⟨this.1, this.2⟩
theorem num_ne (n : Nat) : C (numS n) ≠ [] := by
  rw [C_num]
  intro h
  exact Nat.toDigits_ne_nil (List.map_eq_nil_iff.mp h)
theorem num_nm (n : Nat) : Nm (numS n) := ⟨fun h => by have := num_digit h; omega, num_ne n⟩
theorem num_len {n : Nat} (h : n < 1073741824) : (numS n).length ≤ 10 := by
  rw [← C_len, C_num, List.length_map]
  exact toDigits_len_pow (by decide) (by decide) (by omega)
theorem num_start (n : Nat) : Txt.startswith (numS n) sl = false := by
  have h1 := StrLaws.subAt_one (numS n) 47 0
  rw [← sl_eq] at h1
  cases h : Txt.startswith (numS n) sl with
  | false => rfl
  | true =>
    unfold Txt.startswith at h
    rw [Bool.and_eq_true, decide_eq_true_eq] at h
    have := h1.mp ⟨h.1, h.2⟩
    exact absurd (List.mem_of_getElem? this) (num_nm n).1
theorem join_len : ∀ ns : List Str, (∀ s ∈ ns, s.length ≤ 10) → (Str.join sl ns).length ≤ 11 * ns.length
  | [], _ => by decide
  | [x], h => by
    show x.length ≤ 11
    have := h x (.head _)
    omega
  | x :: z :: r, h => by
    show (x ++ sl ++ Str.join sl (z :: r)).length ≤ _
    have h1 := h x (.head _)
    have h2 := join_len (z :: r) fun s hs => h s (.tail _ hs)
    have h3 : sl.length = 1 := by rw [sl_eq]; rfl
    rw [Str.length_append, Str.length_append, h3]
    simp only [List.length_cons] at h2 ⊢
    omega
theorem path_len {ns : List Str} (h : ∀ s ∈ ns, s.length ≤ 10) : (pathS ns).length ≤ 1 + 11 * ns.length ∧ (pathS ns).length ≠ 0 := by
  have h2 := join_len ns h
  have h3 : sl.length = 1 := by rw [sl_eq]; rfl
  unfold pathS Txt.join
  rw [StrLaws.glued_eq_join, Str.length_append, h3]
  omega
noncomputable def nmStep (N : List (List Str)) (p : Nd) : List (List Str) := N ++ [N.getD p.1 [] ++ [numS p.2.2]]
/-- the names of the ways -/
noncomputable def nms (ps : List Nd) : List (List Str) := ps.foldl nmStep [[]]
theorem nms_snoc (ps : List Nd) (p : Nd) : nms (ps ++ [p]) = nmStep (nms ps) p := by unfold nms; rw [List.foldl_append]; rfl
theorem nms_len (ps : List Nd) : (nms ps).length = ps.length + 1 := by
  have key : ∀ (ps : List Nd) (N : List (List Str)), (ps.foldl nmStep N).length = N.length + ps.length := by
    intro ps
    induction ps with
    | nil => intro N; rfl
    | cons p r ih => intro N; rw [List.foldl_cons, ih]; simp [nmStep]; omega
  unfold nms
  rw [key]
  simp; omega
noncomputable def Good (k : Nat) (ns : List Str) : Prop := ns.length ≤ k ∧ ∀ s ∈ ns, Nm s ∧ s.length ≤ 10
theorem nms_good : ∀ (ps : List Nd), (∀ p ∈ ps, p.2.2 < 1073741824) → ∀ ns ∈ nms ps, Good ps.length ns := by
  intro ps h
  generalize e : ps.reverse = qs
  induction qs generalizing ps with
  | nil =>
    have : ps = [] := List.reverse_eq_nil_iff.mp e
    subst this
    intro ns hn
    have : ns = [] := List.mem_singleton.mp hn
    subst this
    exact ⟨Nat.le_refl _, fun _ h => nomatch h⟩
  | cons p qs ih =>
    have : ps = qs.reverse ++ [p] := by rw [← List.reverse_reverse ps, e, List.reverse_cons]
    subst this
    have ih' := ih qs.reverse (fun p hp => h p (by simp at hp ⊢; exact .inl hp)) (List.reverse_reverse qs)
    rw [nms_snoc]
    intro ns hn
    rw [List.length_append, List.length_singleton]
    rcases List.mem_append.mp hn with hn | hn
    · exact ⟨Nat.le_succ_of_le (ih' ns hn).1, (ih' ns hn).2⟩
    · rw [List.mem_singleton.mp hn]
      have hA : Good qs.reverse.length ((nms qs.reverse).getD p.1 []) := by
        rw [List.getD_eq_getElem?_getD]
        cases hq : (nms qs.reverse)[p.1]? with
        | none => exact ⟨Nat.zero_le _, fun _ h => nomatch h⟩
        | some ns' => exact ih' ns' (List.mem_of_getElem? hq)
      refine ⟨by rw [List.length_append]; exact Nat.succ_le_succ hA.1, fun s hs => ?_⟩
      rcases List.mem_append.mp hs with hs | hs
      · exact hA.2 s hs
      · rw [List.mem_singleton.mp hs]
        exact ⟨num_nm _, num_len (h p (by simp))⟩
noncomputable abbrev Row4 := Str × Str × Str × Str
/-- a row of the listing: a node p below the way A, its mode's signs by f -/
noncomputable def rw4 (f : Nat → Str) (A : List Str) (p : Nd) : Row4 := (f p.2.1, pathS (A ++ [numS p.2.2]), pathS A, numS p.2.2)
noncomputable def rowsF (f : Nat → Str) : List (List Str) → List Nd → List Row4
  | _, [] => []
  | N, p :: r => rw4 f (N.getD p.1 []) p :: rowsF f (nmStep N p) r
theorem rowsF_snoc (f : Nat → Str) : ∀ (ps : List Nd) (N : List (List Str)) (p : Nd), rowsF f N (ps ++ [p]) = rowsF f N ps ++ [rw4 f ((ps.foldl nmStep N).getD p.1 []) p]
  | [], _, _ => rfl
  | q :: r, N, p => by
    show _ :: rowsF f (nmStep N q) (r ++ [p]) = _
    rw [rowsF_snoc f r (nmStep N q) p]; rfl
noncomputable def rows (f : Nat → Str) (ps : List Nd) : List Row4 := rowsF f [[]] ps
theorem rows_snoc (f : Nat → Str) (ps : List Nd) (p : Nd) : rows f (ps ++ [p]) = rows f ps ++ [rw4 f ((nms ps).getD p.1 []) p] := rowsF_snoc f ps [[]] p
theorem rows_len (f : Nat → Str) (ps : List Nd) : (rows f ps).length = ps.length := by
  have key : ∀ (ps : List Nd) (N : List (List Str)), (rowsF f N ps).length = ps.length := by
    intro ps
    induction ps with
    | nil => intro N; rfl
    | cons p r ih => intro N; show (_ :: _).length = _; rw [List.length_cons, ih]; rfl
  exact key ps _
theorem nms_pre : ∀ (r : List Nd) (N : List (List Str)) (k : Nat), k < N.length → (r.foldl nmStep N)[k]? = N[k]?
  | [], _, _, _ => rfl
  | p :: r, N, k, h => by
    rw [List.foldl_cons, nms_pre r (nmStep N p) k (by simp [nmStep]; omega)]
    unfold nmStep
    exact List.getElem?_append_left h
/-- the names of the way of the node k -/
theorem nms_at {ps : List Nd} {k : Nat} {p : Nd} (h : ps[k]? = some p) : (nms ps)[k + 1]? = some ((nms (ps.take k)).getD p.1 [] ++ [numS p.2.2]) := by
  have e : ps = ps.take (k + 1) ++ ps.drop (k + 1) := (List.take_append_drop _ _).symm
  have hk := (List.getElem?_eq_some_iff.mp h).1
  have hl : (nms (ps.take (k + 1))).length = k + 2 := by rw [nms_len, List.length_take]; omega
  have e1 : nms ps = (ps.drop (k + 1)).foldl nmStep (nms (ps.take (k + 1))) := by
    conv => lhs; rw [e]
    unfold nms
    rw [List.foldl_append]
  rw [e1, nms_pre _ _ _ (by omega), take_get h, nms_snoc]
  unfold nmStep
  have hl2 : (nms (ps.take k)).length = k + 1 := by rw [nms_len, List.length_take]; omega
  rw [List.getElem?_append_right (by omega), hl2]
  simp
end Mine
namespace Mine
open PySem PySem.W PySem.Calls PyProof.Rows
theorem words_L1 : PySem.Challenge.rw_ik0046_01 = PySem.Challenge.rw_ik0046_01 ∧ hook0.heap_1 = hook0.heap_1 := by
  k_with_none
  k_fill
  k_with "m_intro" => intro prog mean mg mb cn cs a ccd cl outer A₀ base h₀ L m s Q E B F X T hk hpre hret
  k_with "m_enter" => (
    (case k6 => k_dflt k_is); (case k7 => k_dflt k_is); (case k8 => exact Nat.le_of_ble_eq_true rfl); (case k9 => exact rfl); (case c5 => decide); (case kB => exact locs rfl); (case c2 => exact rfl); (case c3 => exact rfl); (case c4 => exact rfl)
    k_whole
    intro L' h' tk F' N' B' X' T' e₁ A₁
    (try dsimp only)
    (try dsimp only [List.reverse, List.reverseAux] at F')
    (try k_fold))
  k_with "m_enterR" => (
    (case k6 => k_dflt k_is); (case k7 => k_dflt k_is); (case k8 => exact Nat.le_of_ble_eq_true rfl); (case kP => exact rfl); (case kG => exact fun _ => rfl); (case c5 => decide); (case kB => exact fun _ => locs rfl); (case c2 => exact rfl); (case c3 => exact rfl); (case c4 => exact rfl)
    k_whole
    intro D' L' h' tk F' N' B' X' T' e₁ A₁
    (try dsimp only)
    (try dsimp only [List.reverse, List.reverseAux] at F')
    (try k_fold))
  k_with "m_name" => k_dflt (refine' ld ?k1 ?k2 ?_; (case k1 => k_asm); (case k2 => first | exact rfl | assumption); k_whole)
  k_with "m_append" => (
    k_dflt (refine' m_append ?k1 ?k2 ?k3 ?k4 ?_; (case k1 => k_asm); (case k2 => k_asm); (case k3 => k_mem); (case k4 => first | assumption | omega | decide); k_whole)
    intro h' n' F' N' hl' hs' ht'
    (try k_sweep))
  k_with "m_mem" => first | assumption | exact List.Mem.head _ | (refine List.mem_cons_of_mem _ ?_; k_mem) | (refine List.mem_append_right _ ?_; k_mem) | (refine List.mem_append_left _ ?_; k_mem)
  k_with "m_fold" => ((with_reducible show wpAny _ _ _ _ _ _); k_fold)
  k_with "m_steps" => (repeat' (first
    | (k_unfold; (try dsimp only)) | (k_end; wrow_close)
    | ((with_reducible show wpAny _ _ (exec _ _) _ _ _); k_fold)
    | ((fail_if_success (with_reducible show wpAny _ _ (exec (Stmt.For _ _ _ _ _) _) _ _ _)); (fail_if_success (with_reducible show wpAny _ _ (exec (Stmt.While _ _ _ _) _) _ _ _)); first | (walk1; (try dsimp only)) | (dsimp only; walk1))))
  k_with "m_div" => ((with_reducible show wpAny _ _ (binaryOp Operator.FloorDiv (Value.int _ _) (Value.int _ _)) _ _ _); k_dflt (refine' fdiv_e ?k1 ?_; (case k1 => first | decide | omega); k_whole))
  k_with "m_mod" => ((with_reducible show wpAny _ _ (binaryOp Operator.Mod (Value.int _ _) (Value.int _ _)) _ _ _); k_dflt (refine' fmod_e ?k1 ?_; (case k1 => first | decide | omega); k_whole))
  k_with "m_for" => (with_unfolding_all refine m_for ?_ (fun _ => rfl))
  k_with "m_use" => (
    (with_reducible show wpAny _ _ (call (Value.ref 101) [Value.str _ _]) _ _ _)
    k_dflt (refine' Gives.use (fspath _ _ _) ?k1 ?k2 ?k3 ?k4 ?k5 ?k6 ?k7 ?k8 ?kp ?_; (case k1 => k_asm); (case k2 => k_asm); (case k3 => k_asm); (case k4 => k_asm); (case k5 => k_asm); (case k6 => exact rfl); (case k7 => exact Nat.le_of_ble_eq_true rfl); (case k8 => exact Nat.le_of_ble_eq_true rfl); (case kp => trivial); k_whole)
    intro r' n' h' tk' F' N' hz' hr'
    (try ((with_reducible show wpAny _ _ _ _ _ _); k_fold))
    obtain ⟨hs', t', e'⟩ := hr'
    subst hs' e'
    (try clear hz')
    (try simp only [List.nil_append] at N')
    (try dsimp only)
    (try k_sweep))
  k_with "m_use" => (
    (with_reducible show wpAny _ _ (call (Value.ref 115) [Value.str _ _]) _ _ _)
    k_dflt (refine' Gives.use (getsep _ _ _) ?k1 ?k2 ?k3 ?k4 ?k5 ?k6 ?k7 ?k8 ?kp ?_; (case k1 => k_asm); (case k2 => k_asm); (case k3 => k_asm); (case k4 => k_asm); (case k5 => k_asm); (case k6 => exact rfl); (case k7 => exact Nat.le_of_ble_eq_true rfl); (case k8 => exact Nat.le_of_ble_eq_true rfl); (case kp => trivial); k_whole)
    intro r' n' h' tk' F' N' hz' hr'
    (try ((with_reducible show wpAny _ _ _ _ _ _); k_fold))
    obtain ⟨hs', t', e'⟩ := hr'
    subst hs' e'
    (try clear hz')
    (try simp only [List.nil_append] at N')
    (try dsimp only)
    (try k_sweep))
  k_with "m_use" => (
    (with_reducible show wpAny _ _ (call (Value.ref 143) [Value.int _ _]) _ _ _)
    k_dflt (refine' Gives.use (sifmt _ _ _) ?k1 ?k2 ?k3 ?k4 ?k5 ?k6 ?k7 ?k8 ?kp ?_; (case k1 => k_asm); (case k2 => k_asm); (case k3 => k_asm); (case k4 => k_asm); (case k5 => k_asm); (case k6 => exact rfl); (case k7 => exact Nat.le_of_ble_eq_true rfl); (case k8 => exact Nat.le_of_ble_eq_true rfl); (case kp => trivial); k_whole)
    intro r' n' h' tk' F' N' hz' hr'
    (try ((with_reducible show wpAny _ _ _ _ _ _); k_fold))
    obtain ⟨hs', t', e'⟩ := hr'
    subst hs' e'
    (try clear hz')
    (try simp only [List.nil_append] at N')
    (try dsimp only)
    (try k_sweep))
  k_with "m_use" => (
    (with_reducible show wpAny _ _ (call (Value.ref 122) [Value.str _ _, Value.str _ _]) _ _ _)
    k_dflt (refine' Gives.use (join _ _ _ _ _ (by assumption) (by assumption) (by assumption) (by assumption)) ?k1 ?k2 ?k3 ?k4 ?k5 ?k6 ?k7 ?k8 ?kp ?_; (case k1 => k_asm); (case k2 => k_asm); (case k3 => k_asm); (case k4 => k_asm); (case k5 => k_asm); (case k6 => exact rfl); (case k7 => exact Nat.le_of_ble_eq_true rfl); (case k8 => exact Nat.le_of_ble_eq_true rfl); (case kp => trivial); k_whole)
    intro r' n' h' tk' F' N' hz' hr'
    (try ((with_reducible show wpAny _ _ _ _ _ _); k_fold))
    obtain ⟨hs', t', e'⟩ := hr'
    subst hs' e'
    (try clear hz')
    (try simp only [List.nil_append] at N')
    (try dsimp only)
    (try k_sweep))
  k_with "m_use" => (
    (with_reducible show wpAny _ _ (call (Value.ref 129) [Value.str _ _]) _ _ _)
    k_dflt (refine' Gives.use (basename _ _ _ (by assumption)) ?k1 ?k2 ?k3 ?k4 ?k5 ?k6 ?k7 ?k8 ?kp ?_; (case k1 => k_asm); (case k2 => k_asm); (case k3 => k_asm); (case k4 => k_asm); (case k5 => k_asm); (case k6 => exact rfl); (case k7 => exact Nat.le_of_ble_eq_true rfl); (case k8 => exact Nat.le_of_ble_eq_true rfl); (case kp => trivial); k_whole)
    intro r' n' h' tk' F' N' hz' hr'
    (try ((with_reducible show wpAny _ _ _ _ _ _); k_fold))
    obtain ⟨hs', t', e'⟩ := hr'
    subst hs' e'
    (try clear hz')
    (try simp only [List.nil_append] at N')
    (try dsimp only)
    (try k_sweep))
  k_with "m_use" => (
    (with_reducible show wpAny _ _ (call (Value.ref 136) [Value.str _ _]) _ _ _)
    k_dflt (refine' Gives.use (dirname _ _ _ (by assumption)) ?k1 ?k2 ?k3 ?k4 ?k5 ?k6 ?k7 ?k8 ?kp ?_; (case k1 => k_asm); (case k2 => k_asm); (case k3 => k_asm); (case k4 => k_asm); (case k5 => k_asm); (case k6 => exact rfl); (case k7 => exact Nat.le_of_ble_eq_true rfl); (case k8 => exact Nat.le_of_ble_eq_true rfl); (case kp => trivial); k_whole)
    intro r' n' h' tk' F' N' hz' hr'
    (try ((with_reducible show wpAny _ _ _ _ _ _); k_fold))
    obtain ⟨hs', t', e'⟩ := hr'
    subst hs' e'
    (try clear hz')
    (try simp only [List.nil_append] at N')
    (try dsimp only)
    (try k_sweep))
  k_with "m_use" => (
    (with_reducible show wpAny _ _ (call (Value.ref 183) [Value.int _ _]) _ _ _)
    k_dflt (refine' Gives.use (filemode _ _ _) ?k1 ?k2 ?k3 ?k4 ?k5 ?k6 ?k7 ?k8 ?kp ?_; (case k1 => k_asm); (case k2 => k_asm); (case k3 => k_asm); (case k4 => k_asm); (case k5 => k_asm); (case k6 => exact rfl); (case k7 => exact Nat.le_of_ble_eq_true rfl); (case k8 => exact Nat.le_of_ble_eq_true rfl); (case kp => trivial); k_whole)
    intro r' n' h' tk' F' N' hz' hr'
    (try ((with_reducible show wpAny _ _ _ _ _ _); k_fold))
    obtain ⟨hs', t', e'⟩ := hr'
    subst hs' e'
    (try clear hz')
    (try simp only [List.nil_append] at N')
    (try dsimp only)
    (try k_sweep))
  k_with "m_sub" => (k_dflt (refine' item_l ?k1 ?k2 ?k3 ?k4 ?_; (case k1 => k_asm); (case k2 => k_mem); (case k3 => assumption); (case k4 => assumption); k_whole))
  exact ⟨rfl, rfl⟩
noncomputable def AllIn {α : Type} (R : Led → Value → α → Prop) (nx : Led) (vs : List Value) (ps : List α) : Prop := vs.length = ps.length ∧ ∀ (i : Nat) (p : α), ps[i]? = some p → ∃ v, vs[i]? = some v ∧ R nx v p
section
variable {α : Type} {R : Led → Value → α → Prop} {nx nx' : Led} {vs : List Value} {ps : List α}
theorem AllIn.mono (H : AllIn R nx vs ps) (h : ∀ v p, R nx v p → R nx' v p) : AllIn R nx' vs ps := by
  refine ⟨H.1, fun i p hp => ?_⟩
  obtain ⟨v, hv, hd⟩ := H.2 i p hp
  exact ⟨v, hv, h v p hd⟩
theorem AllIn.nil : AllIn R nx [] [] := ⟨rfl, fun i p hp => by simp at hp⟩
theorem AllIn.snoc {v : Value} {p : α} (H : AllIn R nx vs ps) (hv : R nx v p) : AllIn R nx (vs ++ [v]) (ps ++ [p]) := by
  refine ⟨by simp [H.1], fun i q hq => ?_⟩
  by_cases h : i < ps.length
  · rw [List.getElem?_append_left h] at hq
    obtain ⟨x, hx, hd⟩ := H.2 i q hq
    exact ⟨x, by rw [List.getElem?_append_left (H.1 ▸ h)]; exact hx, hd⟩
  · have h := Nat.le_of_not_lt h
    rw [List.getElem?_append_right h] at hq
    rw [List.getElem?_append_right (H.1 ▸ h), H.1]
    refine ⟨v, ?_, ?_⟩
    · cases e : i - ps.length with
      | zero => rfl
      | succ n => rw [e] at hq; simp at hq
    · cases e : i - ps.length with
      | zero => rw [e] at hq; cases hq; exact hv
      | succ n => rw [e] at hq; simp at hq
end
noncomputable def RowIn (nx : Led) (v : Value) (p : Row4) : Prop := ∃ a n t1 t2 t3 t4, v = .ref a ∧ (a, ({ cls := .type "tuple", data := .seq #[.str p.1 t1, .str p.2.1 t2, .str p.2.2.1 t3, .str p.2.2.2 t4] n } : Obj)) ∈ nx
theorem RowIn.mono {nx nx' : Led} (h : ∀ q ∈ nx, q.2.cls = .type "tuple" → q ∈ nx') (v : Value) (p : Row4) (H : RowIn nx v p) : RowIn nx' v p := by
  obtain ⟨a, n, t1, t2, t3, t4, e, hm⟩ := H
  exact ⟨a, n, t1, t2, t3, t4, e, h _ hm rfl⟩
noncomputable def fmS (mode : Nat) : Str := Txt.join (Str.ofString "") (fmChars (mode : Int) 10)
theorem StrsAre.at' {vs : List Value} {ns : List Str} (h : StrsAre vs ns) {i : Nat} {x : Str} (hx : ns[i]? = some x) : ∃ t, vs[i]? = some (.str x t) := by
  induction h generalizing i with
  | nil => simp at hx
  | cons n t r ih =>
    cases i with
    | zero => exact ⟨t, by rw [← Option.some.inj hx]; rfl⟩
    | succ i => exact ih hx
noncomputable def NdsOk (ps : List Nd) : Prop := ps.length ≤ 9 ∧ ∀ (i : Nat) (p : Nd), ps[i]? = some p → p.1 ≤ i ∧ p.2.2 < 1073741824
theorem NdsOk.num {ps : List Nd} (h : NdsOk ps) : ∀ p ∈ ps, p.2.2 < 1073741824 := fun p hp => by
  obtain ⟨i, hi⟩ := List.getElem?_of_mem hp
  exact (h.2 i p hi).2
/-- the way above the i-th node -/
noncomputable def aboveN (ps : List Nd) (i : Nat) (p : Nd) : List Str := (nms (ps.take i)).getD p.1 []
theorem above_at {ps : List Nd} (h : NdsOk ps) {i : Nat} {p : Nd} (hp : ps[i]? = some p) : (nms (ps.take i))[p.1]? = some (aboveN ps i p) ∧ Good i (aboveN ps i p) := by
  have hi := (List.getElem?_eq_some_iff.mp hp).1
  have hl : (nms (ps.take i)).length = i + 1 := by rw [nms_len, List.length_take]; omega
  have h1 := (h.2 i p hp).1
  have e : (nms (ps.take i))[p.1]? = some (aboveN ps i p) := by
    unfold aboveN
    rw [List.getD_eq_getElem?_getD, List.getElem?_eq_getElem (by omega)]; rfl
  refine ⟨e, ?_⟩
  have g := nms_good (ps.take i) (fun q hq => h.num q (List.mem_of_mem_take hq)) _ (List.mem_of_getElem? e)
  exact ⟨Nat.le_trans g.1 (by rw [List.length_take]; omega), g.2⟩
theorem strs_snoc' {xs : List Value} {ys : List Str} {y : Str} {t : Tok} (h : StrsAre xs ys) : StrsAre (xs ++ [.str y t]) (ys ++ [y]) := by
  induction h with
  | nil => exact .cons y t .nil
  | cons z u _ ih => exact .cons z u ih
noncomputable def lsInv (lw lr : Addr) (ps : List Nd) (i : Nat) (m : Str → Option Value) (nx : Led) : Prop :=
  ∃ (xs : List Value) (c : Nat) (ys : List Value) (c2 : Nat), m (Str.ofString "ways") = some (.ref lw) ∧ m (Str.ofString "rows") = some (.ref lr) ∧ (lw, listOf xs.toArray c) ∈ nx ∧ (lr, listOf ys.toArray c2) ∈ nx ∧
    StrsAre xs ((nms (ps.take i)).map pathS) ∧ AllIn RowIn nx ys (rows fmS (ps.take i))
theorem lsInv_mono {lw lr : Addr} {ps : List Nd} : MonoJ [] (lsInv lw lr ps) := by
  rintro i m nx nx' ⟨xs, c, ys, c2, a1, a2, a3, a4, a5, a6⟩ hs
  exact ⟨xs, c, ys, c2, a1, a2, hs _ a3 (.inl rfl), hs _ a4 (.inl rfl), a5, a6.mono (RowIn.mono fun q hq hc => hs q hq (.inr (.inl hc)))⟩
theorem nine {a i n : Nat} (h : a ≤ i) (hi : i < n) (hn : n ≤ 9) : a ≤ 9 := Nat.le_trans h (Nat.le_trans (Nat.le_of_lt hi) hn)
theorem small_way {l a : Nat} (h : l ≤ 1 + 11 * a) (ha : a ≤ 10) : l ≤ 1000 := Nat.le_trans h (Nat.le_trans (Nat.add_le_add_left (Nat.mul_le_mul_left 11 ha) 1) (by decide))
theorem small_min {l i n : Nat} (e : l = min i n + 1) (hn : n ≤ 9) : l ≤ 1000 := by
  rw [e]
  exact Nat.le_trans (Nat.succ_le_succ (Nat.le_trans (Nat.min_le_right i n) hn)) (by decide)
theorem small_min' {l i n : Nat} (e : l = min i n) (hn : n ≤ 9) : l ≤ 1000 := by
  rw [e]
  exact Nat.le_trans (Nat.le_trans (Nat.min_le_right i n) hn) (by decide)
theorem small_at {a i n : Nat} (h : a ≤ i) (hi : i < n) (hn : n ≤ 9) : a < 2 ^ 63 := Nat.lt_of_le_of_lt (nine h hi hn) (by decide)
set_option maxRecDepth 100000 in
set_option maxHeartbeats 2000000 in
theorem listed_says (w : World) (l0 : Addr) (vs : List Value) (ps : List Nd) (hok : NdsOk ps) :
    Gives w 500 223 [.ref l0] (fun h => h.IsList l0 vs.toArray ∧ NdsAt h vs ps) (fun new v => ∃ l xs c, v = .ref l ∧ (l, listOf xs.toArray c) ∈ new ∧ AllIn RowIn new xs (rows fmS ps)) := by
  k_extra "m_intro"
  refine' m_call [(Str.ofString "nodes", .ref l0)] B F X T rfl rfl hk ?k6 ?k7 ?k8 ?k9 ?kB ?_ ?c2 ?c3 ?c4 ?c5
  k_extra "m_enter"
  obtain ⟨hL, hN⟩ := hpre
  k_extra "m_steps"
  k_extra "m_for"
  k_extra "m_steps"
  rename_i lw ha hb hc _ _ lr hx3 lx hx4 F8 N8
  refine m_iterB (vs := vs) [] (lsInv lw lr ps) lsInv_mono (fun _ h => nomatch h) rfl hL F8 N8 ⟨[_], 0, [], 0, rfl, rfl, by k_mem, by k_mem, ?_, AllIn.nil⟩ ?_ ?_
  · exact .cons sl _ .nil
  · rintro i v m₁ nx h tk ow hi hv hJF7 how F7 N7 Qt hQ
    k_extra "m_fold"
    obtain ⟨xs, c, ys, c2, j1, j2, j3, j4, j5, j6⟩ := hJF7
    obtain ⟨p, hp, T, t1, t2, t3, rfl, hT⟩ := hN.get hv
    have hT2 : IsTup h T #[.int (p.1 : Int) t1, .int (p.2.1 : Int) t2, .int (p.2.2 : Int) t3] := IsTup.keeps hT F7.keep
    clear F8 N8
    obtain ⟨hA, hG⟩ := above_at hok hp
    obtain ⟨tx, hx⟩ := StrsAre.at' j5 (x := pathS (aboveN ps i p)) (by rw [List.getElem?_map, hA]; rfl)
    have hps := hok.1
    have hip := (List.getElem?_eq_some_iff.mp hp).1
    have hp2 := (hok.2 i p hp).2
    have hp1 : p.1 < 2 ^ 63 := small_at (hok.2 i p hp).1 hip hps
    have hgl := hG.1
    have hpl := path_len fun s hs => (hG.2 s hs).2
    have hg9 := nine hgl hip hps
    have hx1 : (pathS (aboveN ps i p)).length ≤ 1000 := small_way hpl.1 (Nat.le_succ_of_le hg9)
    have hx2 : (pathS (aboveN ps i p)).length ≠ 0 := hpl.2
    have hnl := num_len hp2
    have hy1 : (numS p.2.2).length ≤ 1000 := Nat.le_trans hnl (by decide)
    have hy2 : Txt.startswith (numS p.2.2) (Str.ofString "/") = false := num_start _
    have hj := join_path (ns := aboveN ps i p) (y := numS p.2.2) fun s hs => (hG.2 s hs).1
    have hw1 : (joinS (pathS (aboveN ps i p)) (numS p.2.2)).length ≤ 1000 := by
      rw [hj]
      have := (path_len (ns := aboveN ps i p ++ [numS p.2.2]) fun s hs => (List.mem_append.mp hs).elim (fun h => (hG.2 s h).2) fun h => by rw [List.mem_singleton.mp h]; exact hnl).1
      rw [List.length_append, List.length_singleton] at this
      exact small_way this (Nat.succ_le_succ hg9)
    have hzx : xs.length ≤ 1000 := by
      have e := j5.length
      rw [List.length_map, nms_len, List.length_take] at e
      exact small_min e hps
    have hzy : ys.length ≤ 1000 := by
      have e := j6.1
      rw [rows_len, List.length_take] at e
      exact small_min' e hps
    k_extra "m_steps"
    have bl := hl'
    have bs := hs'
    have bt := ht'
    have hw : (lw, listOf xs.toArray c) ∈ n' := hs' _ (.tail _ (List.mem_append_right _ j3)) (Nat.ne_of_lt lx)
    k_extra "m_steps"
    refine hQ _ _ (TurnP.next F' N' (fun q hq => ht' q (bt q (.tail _ (List.mem_append_left _ hq)) (how q hq).1) (how q hq).1) ⟨_, _, _, _, j1, j2, hl', hs' _ bl (Nat.ne_of_gt lx), ?_, ?_⟩)
    · rw [take_get hp, nms_snoc]
      unfold nmStep
      rw [List.map_append]
      show StrsAre _ (_ ++ [pathS (aboveN ps i p ++ [numS p.2.2])])
      rw [← hj]
      exact strs_snoc' j5
    · rw [take_get hp, rows_snoc]
      refine (j6.mono (RowIn.mono fun q hq hc => ht' q (bt q (.tail _ (List.mem_append_right _ hq)) fun e => tup_ne (hc.symm.trans e)) fun e => tup_ne (hc.symm.trans e))).snoc ?_
      have hd := dir_path (ns := aboveN ps i p) (y := numS p.2.2) (fun s hs => (hG.2 s hs).1) (num_nm _).1
      have hb := base_path (aboveN ps i p) (y := numS p.2.2) (num_nm _).1
      rw [← hj] at hd hb
      have hmem := ht' _ (bt _ (.head _) tup_ne) tup_ne
      rw [hd, hb, hj] at hmem
      exact ⟨_, _, _, _, _, _, rfl, hmem⟩
  · rintro m₁ nx h tk ⟨xs, c, ys, c2, j1, j2, j3, j4, j5, j6⟩ F7 N7
    clear F8 N8
    k_extra "m_steps"
    rw [hN.1, List.take_length] at j6
    exact hret _ _ _ _ (by assumption) (Fr.keep (by assumption)) (news_out F (by assumption)) ⟨lr, ys, c2, rfl, j4, j6⟩
end Mine
namespace Mine
open PySem PySem.W PySem.Calls PySem.Spec PyProof.Rows PyProof.V
set_option maxRecDepth 100000
section
variable {prog : Program} {w : World} {A A₀ : Around} {E : Value → Shared → Prop} {s : Shared} {K : Frag} {L : Addr} {h₀ base : Heap} {m mg mb : Str → Option Value} {p : Program} {loose : List Str} {mean : ExcName → Option Value}
/-- m_call for a def with cells -/
theorem m_callC {env : Env} {outer : List Env} {Q : Value → Shared → Prop} {name qual : Str} {params : Arguments} {body : List Stmt} {scope : Scope} {dV kV doc pm cdv ct oc : Value} {an od : Option Addr} {osl : Array (Option Value)} {f : Addr} {vs : List Value} (binds : List (Str × Value))
    (B : Below A₀ base outer h₀) (F : Fr h₀ L s.heap m) (X₀ : K.In h₀) (T : Top p loose mean mg mb h₀) (hA : A.frames = some (env :: outer)) (hf : env.frame = some L) (hke : env.scope.kind = .function)
    (ho : K.lookup f = some ⟨oc, od, .func (fnOf name qual params body scope dV kV doc pm an cdv ct), osl⟩) (hcd : codeIn K cdv qual = true) (hroom : A.depth < recursionLimit)
    (hbind : bindArgs (fnOf name qual params body scope dV kV doc pm an cdv ct) ⟨vs, []⟩ = pure binds) (hkind : (binds.all fun y => scope.names.lookup y.1 == some .local || scope.names.lookup y.1 == some .cell) = true)
    (hnd : ((cellsFrom 0 scope.names []).map (·.1)).Nodup)
    (h : ∀ L' h₁ tk cells, Fr s.heap L' h₁ (bindL (envOfC qual scope L' f cdv).kindOf binds fun _ => none) → News s.heap L' h₁ cells → CellsAre (bindC (envOfC qual scope L' f cdv).kindOf binds fun _ => none) (cellsFrom (L' + 1) scope.names []) cells →
      Below A base (env :: outer) s.heap → K.In s.heap → Top p loose mean mg mb s.heap →
      let e₁ := envOfC qual scope L' f cdv
      let A₁ := A.deeper e₁
      wpAny (model prog w) A₁ (execs body e₁)
        (fun fl s' => LeaveK h₀ L m s.heap (fun r s' => match r with | .ok (.ret v) => Q v s' | .ok _ => False | .error e => E e s') (match fl with | .ret v => v | _ => .none) s')
        (fun e s' => wpAny (model prog w) A₁ (leaving e₁ e) (fun _ s'' => E e s'') (fun e' s'' => E e' s'') s')
        { s with heap := h₁, toks := tk })
    (hco : scope.isCoroutine = false) (hgen : scope.isGenerator = false) (hk : scope.kind = .function) : wpAny (model prog w) A (call (.ref f) vs) Q E s := by
  have B₁ := pushX B F hf hke
  refine wpAny_call (codeAny_call_function (fd := fnOf name qual params body scope dV kV doc pm an cdv ct) (body := body) hroom ((X₀.keeps F.keep) _ _ ho) rfl hco hgen rfl (codeRec_of (X₀.keeps F.keep) hcd) (BindsTo.of_eq hbind _ _ _ _ ?_))
  refine wpAny_newFunctionEnv_cells hk (kindsX hkind _) fun env' he s' x => ?_
  subst he
  refine ⟨((T.keeps F.keep).nolimit).keeps x.toInCall.keep, codeAny_func ?_⟩
  obtain ⟨h₁, tk, rfl, _⟩ := x.done
  have hk₁ := x.toInCall.keep
  obtain ⟨cells, NC, Y⟩ := Cl.news (h₀ := s.heap) (Nat.le_refl _) fun n c hm => ⟨x.cell n c (lookup_of_mem_nodup (cellsFrom_names scope.names 0 (s.heap.objs.size + 1) [] [] rfl ▸ hnd) hm), x.above n c hm⟩
  refine wpAny_mono (h s.heap.objs.size h₁ tk cells ⟨x.toInCall.ns, fun b o e => hk₁ b o e, Nat.le_refl _⟩ NC Y ⟨hA, fun b o e => F.keep b o (B.stays b o e), B₁.frames⟩ (X₀.keeps F.keep) (T.keeps F.keep)) (fun fl s' hl => ?_) fun _ _ y => y
  obtain ⟨L', m', news', F', N', k⟩ := hl
  exact k (F.keeps F'.keep) (fun p hp => news_up (news := []) F News.nil F'.keep (news_out F N') p (List.mem_append_left _ hp))
end
end Mine
namespace Mine
open PySem PySem.W PySem.Calls PySem.Spec PyProof.Rows PyProof.V PyProof.Rows.LCg
section
variable {prog : Program} {w : World} {A : Around} {E E' : Value → Shared → Prop} {s : Shared} {h₀ : Heap} {L : Addr} {m : Str → Option Value} {env : Env}
/-- an element is told: the comprehension's objects stand as they were -/
noncomputable def EltEnd (h₀ : Heap) (L : Addr) (m : Str → Option Value) (s : Shared) (I C D : Addr) (oI oC oD : Obj) (J : Value → Led → Prop) (y : Value) (s' : Shared) : Prop :=
  ∃ h' tk' nx, s' = { s with heap := h', toks := tk' } ∧ Fr h₀ L h' m ∧ News h₀ L h' ((I, oI) :: (C, oC) :: (D, oD) :: nx) ∧ Off I C D nx ∧ J y nx
theorem elt_end3 {I C D : Addr} {oI oC oD : Obj} {J : Value → Led → Prop} {y : Value} {a b c : Addr × Obj} {nx : Led} {h' : Heap} {tk' : Nat} (F : Fr h₀ L h' m) (N : News h₀ L h' (a :: b :: c :: (I, oI) :: (C, oC) :: (D, oD) :: nx)) (off : Off I C D nx)
    (ha : a.1 ≠ I ∧ a.1 ≠ C ∧ a.1 ≠ D) (hb : b.1 ≠ I ∧ b.1 ≠ C ∧ b.1 ≠ D) (hc : c.1 ≠ I ∧ c.1 ≠ C ∧ c.1 ≠ D) (hJ : J y (a :: b :: c :: nx)) : EltEnd h₀ L m s I C D oI oC oD J y { s with heap := h', toks := tk' } := by
  refine ⟨h', tk', a :: b :: c :: nx, rfl, F, fun q hq => ?_, fun q hq => ?_, hJ⟩
  · rcases List.mem_cons.mp hq with rfl | hq
    · exact N _ (.tail _ (.tail _ (.tail _ (.head _))))
    · rcases List.mem_cons.mp hq with rfl | hq
      · exact N _ (.tail _ (.tail _ (.tail _ (.tail _ (.head _)))))
      · rcases List.mem_cons.mp hq with rfl | hq
        · exact N _ (.tail _ (.tail _ (.tail _ (.tail _ (.tail _ (.head _))))))
        · rcases List.mem_cons.mp hq with rfl | hq
          · exact N _ (.head _)
          · rcases List.mem_cons.mp hq with rfl | hq
            · exact N _ (.tail _ (.head _))
            · rcases List.mem_cons.mp hq with rfl | hq
              · exact N _ (.tail _ (.tail _ (.head _)))
              · exact N _ (.tail _ (.tail _ (.tail _ (.tail _ (.tail _ (.tail _ hq))))))
  · rcases List.mem_cons.mp hq with rfl | hq
    · exact ha
    · rcases List.mem_cons.mp hq with rfl | hq
      · exact hb
      · rcases List.mem_cons.mp hq with rfl | hq
        · exact hc
        · exact off q hq
/-- [elt for x in range(n)] -/
theorem c_range {n : Nat} {elt iter : PySem.Expr} {x : Str} {px : Pos} {scope : Scope} {cl : List (Str × Addr)} {pos : Pos} {Q : Value → Shared → Prop} {t₀ : Tok} {nx0 : Led}
    (hh : A.handled = none) (hz : n ≤ 1000) (hcell : ∀ y ∈ scope.names, y.2 ≠ .cell) (hkind : scope.kind = .function) (hx : scope.names.lookup x = some .local) (J : Nat → List Value → Led → Prop) (hJl : ∀ i ys nx, J i ys nx → ys.length = i)
    (F : Fr h₀ L s.heap m) (N : News h₀ L s.heap nx0) (h0 : J 0 [] nx0)
    (turn : ∀ I C D, CDs h₀ L I C D → ∀ i t ys c oC mC oI nx h tk, i < n → J i ys nx → NsObj oC mC → mC x = some (.int (i : Int) t) → Fr h₀ L h m → News h₀ L h ((I, oI) :: (C, oC) :: (D, listOf ys.toArray c) :: nx) → Off I C D nx →
      wpAny (model prog w) A (eval elt (compEnvC scope cl C env)) (EltEnd h₀ L m s I C D oI oC (listOf ys.toArray c) (fun y nx' => J (i + 1) (ys ++ [y]) nx')) (fun _ _ => False) { s with heap := h, toks := tk })
    (fin : ∀ D ys c nx h tk, J n ys nx → Fr h₀ L h m → News h₀ L h ((D, listOf ys.toArray c) :: nx) → (∀ p ∈ nx, p.1 ≠ D) → Q (.ref D) { s with heap := h, toks := tk }) :
    wpAny (model prog w) A (call (.type "range") [.int (n : Int) t₀]) (fun xv s₁ => wpAny (model prog w) A (pyIter xv) (fun it s₂ => CAt prog w A (.ListComp elt [⟨.Name x px, iter, [], 0⟩] scope pos) scope cl env Q E it s₂) E s₁) E' s := by
  refine call_range_1 ?_
  have hsz : Builtin.Range.rangeSize 0 (n : Int) 1 = (n : Int) := by rw [rangeSize_nat]; simp
  have F1 : Fr h₀ L (s.heap.push { cls := .type "range", data := .fields #[.int 0 s.toks, .int (n : Int) t₀, .int 1 (s.toks + 1)] }) m := F.push _
  have N1 : News h₀ L (s.heap.push { cls := .type "range", data := .fields #[.int 0 s.toks, .int (n : Int) t₀, .int 1 (s.toks + 1)] }) nx0 := fun p hp => ⟨Heap.get?_push_of_some _ (N p hp).1, (N p hp).2⟩
  refine wpAny_pyIter_range (IsRange.new ..) (small_up hz) ?_
  refine c_start (h₀ := h₀) (L := L) (m := m) (nx0 := nx0) (fun C D => code_one) (range_walks hh 0 n) (fun i h st => ⟨_, st⟩) hcell hkind hx J ?_ (Ne.symm (Nat.ne_of_lt F1.ns.lt)) (next_is_new F1) ?_ ?_ ?_ ?hst (F1.push _) (fun p hp => ⟨Heap.get?_push_of_some _ (N1 p hp).1, (N1 p hp).2⟩) (fun p hp => Nat.ne_of_lt (Heap.lt_size (N1 p hp).1)) h0
  case hst =>
    show Heap.get? _ _ = some _
    rw [hsz]
    refine (Heap.get?_push_size _ rfl).trans ?_
    simp
  · intro b hb
    rw [List.mem_singleton.mp hb]
    simp only [Heap.size_push]
    exact Nat.lt_succ_self _
  · intro b hb hbI
    exact absurd (List.mem_singleton.mp hb) hbI
  · rintro C D cd i v ys c oC mC oI nx h tk hi ⟨t, rfl⟩ hJ hoC hmv F' N' off
    rw [Int.zero_add] at hmv
    refine last_turn (c := c) (by rw [hJl _ _ _ hJ]; omega) cd.DL cd.D0 cd.ID cd.CD hoC ?_
    exact turn _ C D cd i t ys c oC mC oI nx h tk hi hJ hoC hmv F' N' off
  · exact fin
end
end Mine
namespace Mine
open PySem PySem.W PySem.Calls PySem.Spec PyProof.Rows PyProof.V
theorem slicePick_but {xs : List Value} {x : Value} : slicePick (xs ++ [x]).toArray none (some (-1)) none = xs.toArray := by
  have e : (xs ++ [x]).toArray.size - 1 = xs.length := by rw [List.size_toArray, List.length_append]; rfl
  have h := slicePick_butLast (xs ++ [x]).toArray 1 (Nat.le_refl 1)
  rw [e, List.take_left' rfl] at h
  exact h
section
variable {prog : Program} {w : World} {A : Around} {E : Value → Shared → Prop} {s : Shared} {h₀ : Heap} {L : Addr} {m : Str → Option Value} {news : Led}
theorem item_lI {value slice : PySem.Expr} {l : Addr} {xs : List Value} {c : Nat} {k : Int} {u : Tok} {n : Nat} {x : Value} {Q : Value → Shared → Prop} (N : News h₀ L s.heap news) (hk : k = (n : Int)) (hm : (l, listOf xs.toArray c) ∈ news) (hx : xs[n]? = some x) (hz : n < 2 ^ 63) (h : Q x s)
    (hs : subscripted slice false (.ref l) (.int k u) = operate [.ref l, .int k u] (getItem (.ref l) (.int k u)) := by with_unfolding_all rfl) :
    wpAny (model prog w) A (subscriptTail value slice (.ref l) (.int k u)) Q E s := by
  have hl := N.isList hm
  refine tail_any hl.typeIs slot_list_getitem.lookup ?_ hs
  exact wpAny_getItem_list hl (by omega) (by omega) (x := x) (by rw [hk, Int.toNat_natCast]; simpa using hx) h
theorem item_hB {value slice : PySem.Expr} {l : Addr} {xs : List Value} {k : Nat} {u : Tok} {x : Value} {Q : Value → Shared → Prop} (F : Fr h₀ L s.heap m) (hl : h₀.IsList l xs.toArray) (hx : xs[k]? = some x) (hz : k < 2 ^ 63) (h : Q x s)
    (hs : subscripted slice false (.ref l) (.int (k : Int) u) = operate [.ref l, .int (k : Int) u] (getItem (.ref l) (.int (k : Int) u)) := by with_unfolding_all rfl) :
    wpAny (model prog w) A (subscriptTail value slice (.ref l) (.int (k : Int) u)) Q E s :=
  item_h (hl.at fun o e => F.keep l o e) hz hx h hs
theorem item_tB {value slice : PySem.Expr} {t : Addr} {a b c : Value} {u : Tok} {Q : Value → Shared → Prop} (F : Fr h₀ L s.heap m) (ht : IsTup h₀ t #[a, b, c]) (h : Q b s)
    (hs : subscripted slice false (.ref t) (.int 1 u) = operate [.ref t, .int 1 u] (getItem (.ref t) (.int 1 u)) := by with_unfolding_all rfl) :
    wpAny (model prog w) A (subscriptTail value slice (.ref t) (.int 1 u)) Q E s :=
  item_tupleT (l := [a, b, c]) (IsTup.keeps ht F.keep) (by decide) (by decide) (j := 1) rfl (x := b) rfl h hs
theorem item_last {value slice : PySem.Expr} {l : Addr} {xs : List Value} {x : Value} {c : Nat} {u : Tok} {Q : Value → Shared → Prop} (N : News h₀ L s.heap news) (hm : (l, listOf (xs ++ [x]).toArray c) ∈ news) (h : Q x s)
    (hs : subscripted slice false (.ref l) (.int (-1) u) = operate [.ref l, .int (-1) u] (getItem (.ref l) (.int (-1) u)) := by with_unfolding_all rfl) :
    wpAny (model prog w) A (subscriptTail value slice (.ref l) (.int (-1) u)) Q E s := by
  have hl := N.isList hm
  refine tail_any hl.typeIs slot_list_getitem.lookup ?_ hs
  have hsz : (xs ++ [x]).toArray.size = xs.length + 1 := by simp
  refine wpAny_getItem_list_neg hl (by omega) (by rw [hsz]; omega) (by omega) (x := x) ?_ h
  rw [hsz, show ((-1 : Int) + ((xs.length + 1 : Nat) : Int)).toNat = xs.length by omega]
  simp
theorem item_but {value slice : PySem.Expr} {l S : Addr} {xs : List Value} {x : Value} {c : Nat} {u : Tok} {sd : Option Addr} {sl : Array (Option Value)} {Q : Value → Shared → Prop} (F : Fr h₀ L s.heap m) (N : News h₀ L s.heap news) (hm : (l, listOf (xs ++ [x]).toArray c) ∈ news) (hS : (S, ({ cls := .type "slice", dict := sd, data := .fields #[.none, .int (-1) u, .none], slots := sl } : Obj)) ∈ news) (hz : xs.length ≤ 1000)
    (h : ∀ D h', Fr h₀ L h' m → News h₀ L h' ((D, listOf xs.toArray 0) :: news) → (∀ p ∈ news, p.1 < D) → Q (.ref D) { s with heap := h' })
    (hs : subscripted slice false (.ref l) (.ref S) = operate [.ref S, .ref l] (getItem (.ref l) (.ref S)) := by with_unfolding_all rfl)
    (ht : ∀ r, letTemporaryGo value (.ref l) r = pure () := by intro _; with_unfolding_all rfl) :
    wpAny (model prog w) A (subscriptTail value slice (.ref l) (.ref S)) Q E s := by
  have hl := N.isList hm
  refine subscriptTail_ops hl.typeIs list_getitem_lookup (wpAny_getItem_list_slice hl ⟨_, (N _ hS).1, rfl, rfl⟩ .none (.int (-1) u) .none (by simp) ?_ (by rw [List.size_toArray, List.length_append]; exact Nat.le_trans (Nat.add_le_add_right hz 1) (by decide))) hs ht
  rw [slicePick_but]
  exact h _ _ (F.push _) (News.push F N _ rfl) fun p hp => Heap.lt_size (N p hp).1
end
end Mine
namespace Mine
open PySem PySem.W PySem.Calls PyProof.Rows
noncomputable def Kind (m : Nat) : Prop := m / 4096 = 4 ∨ m / 4096 = 8 ∨ m / 4096 = 10
noncomputable def kindC (m : Nat) : Str := if m / 4096 = 4 then Str.ofString "d" else if m / 4096 = 8 then Str.ofString "-" else Str.ofString "l"
noncomputable def sgN (m : Nat) : Str := sgS (kindC m) (m : Int) 3
theorem and_bit (m k : Nat) : m &&& 2 ^ k = m / 2 ^ k % 2 * 2 ^ k := by
  have h1 : (m &&& 2 ^ k) / 2 ^ k = m / 2 ^ k % 2 := by
    rw [Nat.and_div_two_pow, Nat.div_self (Nat.two_pow_pos k), Nat.and_one_is_mod]
  have h2 : (m &&& 2 ^ k) % 2 ^ k = 0 := by
    rw [Nat.and_mod_two_pow, Nat.mod_self, Nat.and_zero]
  have h3 := Nat.div_add_mod (m &&& 2 ^ k) (2 ^ k)
  rw [h1, h2, Nat.add_zero, Nat.mul_comm] at h3
  exact h3.symm
theorem bitAnd_nat (m b : Nat) : Builtin.bitAnd (m : Int) (b : Int) = ((m &&& b : Nat) : Int) := bitAnd_pp (by omega) (by omega)
theorem bit_or (m k : Nat) : m / 2 ^ k % 2 = 0 ∨ m / 2 ^ k % 2 = 1 := Nat.mod_two_eq_zero_or_one _
theorem hit_bit (m k i : Nat) (hi : i ≠ 0) : fmHit (m : Int) i ((2 ^ k : Nat) : Int) = decide (m / 2 ^ k % 2 = 1) := by
  unfold fmHit
  rw [if_neg hi, bitAnd_nat, and_bit]
  have h := bit_or m k
  have hp := Nat.two_pow_pos k
  rcases h with h | h <;> rw [h]
  · rw [Nat.zero_mul, decide_eq_decide]
    constructor
    · intro e; omega
    · intro e; omega
  · rw [Nat.one_mul]; simp
theorem hit_two (m j k i : Nat) (hi : i ≠ 0) (hjk : ∀ a b : Nat, a < 2 → b < 2 → ((a * 2 ^ j ||| b * 2 ^ k) = (2 ^ j ||| 2 ^ k) ↔ a = 1 ∧ b = 1)) :
    fmHit (m : Int) i ((2 ^ j ||| 2 ^ k : Nat) : Int) = (decide (m / 2 ^ j % 2 = 1) && decide (m / 2 ^ k % 2 = 1)) := by
  unfold fmHit
  rw [if_neg hi, bitAnd_nat, Nat.and_or_distrib_left, and_bit, and_bit]
  have h := hjk (m / 2 ^ j % 2) (m / 2 ^ k % 2) (Nat.mod_lt _ (by decide)) (Nat.mod_lt _ (by decide))
  rw [Bool.eq_iff_iff, decide_eq_true_eq, Bool.and_eq_true, decide_eq_true_eq, decide_eq_true_eq, ← h]
  constructor
  · intro e; exact Int.ofNat.inj e
  · intro e; rw [e]
theorem ch_one (mode : Int) (i : Nat) (hi : i ≠ 0) (a : Addr) (b : Int) (c : Str) : fmCh mode i [(a, b, c)] = if fmHit mode i b = true then c else Str.ofString "-" := by
  unfold fmCh
  simp only [List.find?]
  cases fmHit mode i b with
  | true => rfl
  | false => simp [hi]
theorem ch_three (mode : Int) (i : Nat) (hi : i ≠ 0) (a1 a2 a3 : Addr) (b1 b2 b3 : Int) (c1 c2 c3 : Str) :
    fmCh mode i [(a1, b1, c1), (a2, b2, c2), (a3, b3, c3)] = if fmHit mode i b1 = true then c1 else if fmHit mode i b2 = true then c2 else if fmHit mode i b3 = true then c3 else Str.ofString "-" := by
  unfold fmCh
  simp only [List.find?]
  cases fmHit mode i b1 with
  | true => rfl
  | false =>
    cases fmHit mode i b2 with
    | true => rfl
    | false =>
      cases fmHit mode i b3 with
      | true => rfl
      | false => simp [hi]
theorem rw_at (m i : Nat) (k : Nat) (hi : i ≠ 0) (a : Addr) (c : Str) {b : Int} (hb : b = ((2 ^ k : Nat) : Int)) : fmCh (m : Int) i [(a, b, c)] = pick2 ((m / 2 ^ k % 2 : Nat) : Int) (Str.ofString "-") c := by
  rw [ch_one _ _ hi, hb, hit_bit _ _ _ hi]
  unfold pick2
  have h := bit_or m k
  rcases h with h | h <;> rw [h] <;> rfl
theorem x_at (m i j k : Nat) (hi : i ≠ 0) (a1 a2 a3 : Addr) (c1 c2 c3 : Str) {b1 b2 b3 : Int} (h1 : b1 = ((2 ^ j ||| 2 ^ k : Nat) : Int)) (h2 : b2 = ((2 ^ k : Nat) : Int)) (h3 : b3 = ((2 ^ j : Nat) : Int))
    (hjk : ∀ a b : Nat, a < 2 → b < 2 → ((a * 2 ^ j ||| b * 2 ^ k) = (2 ^ j ||| 2 ^ k) ↔ a = 1 ∧ b = 1)) :
    fmCh (m : Int) i [(a1, b1, c1), (a2, b2, c2), (a3, b3, c3)] = if m / 2 ^ k % 2 = 1 then pick2 ((m / 2 ^ j % 2 : Nat) : Int) c2 c1 else pick2 ((m / 2 ^ j % 2 : Nat) : Int) (Str.ofString "-") c3 := by
  rw [ch_three _ _ hi, h1, h2, h3, hit_two m j k i hi hjk, hit_bit _ _ _ hi, hit_bit _ _ _ hi]
  unfold pick2
  have hj := bit_or m j
  have hk := bit_or m k
  rcases hj with h | h <;> rcases hk with h' | h' <;> rw [h, h'] <;> rfl
theorem kind_at {m : Nat} (h : Kind m) : fmCh (m : Int) 0 (fmRows 0) = kindC m := by
  have e : Builtin.bitAnd (m : Int) 61440 = ((m / 4096 * 4096 : Nat) : Int) := by
    have h0 : Builtin.bitAnd (m : Int) 61440 = ((m &&& 61440 : Nat) : Int) := bitAnd_nat m 61440
    have h1 : (m &&& 61440) / 2 ^ 12 = m / 2 ^ 12 &&& 15 := by rw [Nat.and_div_two_pow]
    have h2 : (m &&& 61440) % 2 ^ 12 = 0 := by rw [Nat.and_mod_two_pow, show 61440 % 2 ^ 12 = 0 by decide, Nat.and_zero]
    have h3 := Nat.div_add_mod (m &&& 61440) (2 ^ 12)
    have h4 : m / 2 ^ 12 &&& 15 = m / 4096 := by
      rcases h with h | h | h <;> (show m / 4096 &&& 15 = m / 4096; rw [h]; decide)
    rw [h1, h2, h4] at h3
    rw [h0, ← h3]
    omega
  unfold fmCh kindC
  rw [show fmRows 0 = [(144, 40960, Str.ofString "l"), (145, 49152, Str.ofString "s"), (146, 32768, Str.ofString "-"), (147, 24576, Str.ofString "b"), (148, 16384, Str.ofString "d"), (149, 8192, Str.ofString "c"), (150, 4096, Str.ofString "p")] from rfl]
  have hh : ∀ b : Int, fmHit (m : Int) 0 b = decide (((m / 4096 * 4096 : Nat) : Int) = b) := fun b => by unfold fmHit; rw [if_pos rfl, e]
  simp only [List.find?, hh]
  rcases h with h | h | h <;> rw [h] <;> rfl
theorem bits4 (m a k : Nat) (h : a * 4 = 2 ^ k) : (m : Int) / (a : Int) % 8 / 4 = ((m / 2 ^ k % 2 : Nat) : Int) := by
  have e : m / a % 8 / 4 = m / a / 4 % 2 := Nat.mod_mul_right_div_self (m / a) 4 2
  rw [Nat.div_div_eq_div_mul, h] at e
  exact congrArg Int.ofNat e
theorem bits2 (m a k : Nat) (h : a * 2 = 2 ^ k) : (m : Int) / (a : Int) % 8 / 2 % 2 = ((m / 2 ^ k % 2 : Nat) : Int) := by
  have e : m / a % 8 / 2 = m / a / 2 % 4 := Nat.mod_mul_right_div_self (m / a) 2 4
  have f : m / a % 8 / 2 % 2 = m / a / 2 % 2 := by rw [e]; exact Nat.mod_mod_of_dvd _ (by decide)
  rw [Nat.div_div_eq_div_mul, h] at f
  exact congrArg Int.ofNat f
theorem bits1 (m a k : Nat) (h : a = 2 ^ k) : (m : Int) / (a : Int) % 8 % 2 = ((m / 2 ^ k % 2 : Nat) : Int) := by
  have e : m / a % 8 % 2 = m / a % 2 := Nat.mod_mod_of_dvd _ (by decide)
  rw [h] at e
  rw [h]
  exact congrArg Int.ofNat e
theorem fm_eq {m : Nat} (h : Kind m) : fmS m = sgN m := by
  have e : fmChars (m : Int) 10 = [kindC m, pick2 ((m / 2 ^ 8 % 2 : Nat) : Int) (Str.ofString "-") (Str.ofString "r"), pick2 ((m / 2 ^ 7 % 2 : Nat) : Int) (Str.ofString "-") (Str.ofString "w"),
      (if m / 2 ^ 11 % 2 = 1 then pick2 ((m / 2 ^ 6 % 2 : Nat) : Int) (Str.ofString "S") (Str.ofString "s") else pick2 ((m / 2 ^ 6 % 2 : Nat) : Int) (Str.ofString "-") (Str.ofString "x")),
      pick2 ((m / 2 ^ 5 % 2 : Nat) : Int) (Str.ofString "-") (Str.ofString "r"), pick2 ((m / 2 ^ 4 % 2 : Nat) : Int) (Str.ofString "-") (Str.ofString "w"),
      (if m / 2 ^ 10 % 2 = 1 then pick2 ((m / 2 ^ 3 % 2 : Nat) : Int) (Str.ofString "S") (Str.ofString "s") else pick2 ((m / 2 ^ 3 % 2 : Nat) : Int) (Str.ofString "-") (Str.ofString "x")),
      pick2 ((m / 2 ^ 2 % 2 : Nat) : Int) (Str.ofString "-") (Str.ofString "r"), pick2 ((m / 2 ^ 1 % 2 : Nat) : Int) (Str.ofString "-") (Str.ofString "w"),
      (if m / 2 ^ 9 % 2 = 1 then pick2 ((m / 2 ^ 0 % 2 : Nat) : Int) (Str.ofString "T") (Str.ofString "t") else pick2 ((m / 2 ^ 0 % 2 : Nat) : Int) (Str.ofString "-") (Str.ofString "x"))] := by
    have dec : ∀ j k : Nat, (∀ a < 2, ∀ b < 2, ((a * 2 ^ j ||| b * 2 ^ k) = (2 ^ j ||| 2 ^ k) ↔ a = 1 ∧ b = 1)) → ∀ a b : Nat, a < 2 → b < 2 → ((a * 2 ^ j ||| b * 2 ^ k) = (2 ^ j ||| 2 ^ k) ↔ a = 1 ∧ b = 1) := fun j k H a b ha hb => H a ha b hb
    rw [← kind_at h,
      ← rw_at m 1 8 (by decide) 152 (Str.ofString "r") (b := 256) rfl, ← rw_at m 2 7 (by decide) 154 (Str.ofString "w") (b := 128) rfl,
      ← x_at m 3 6 11 (by decide) 156 157 158 (Str.ofString "s") (Str.ofString "S") (Str.ofString "x") (b1 := 2112) (b2 := 2048) (b3 := 64) rfl rfl rfl (dec 6 11 (by decide)),
      ← rw_at m 4 5 (by decide) 160 (Str.ofString "r") (b := 32) rfl, ← rw_at m 5 4 (by decide) 162 (Str.ofString "w") (b := 16) rfl,
      ← x_at m 6 3 10 (by decide) 164 165 166 (Str.ofString "s") (Str.ofString "S") (Str.ofString "x") (b1 := 1032) (b2 := 1024) (b3 := 8) rfl rfl rfl (dec 3 10 (by decide)),
      ← rw_at m 7 2 (by decide) 168 (Str.ofString "r") (b := 4) rfl, ← rw_at m 8 1 (by decide) 170 (Str.ofString "w") (b := 2) rfl,
      ← x_at m 9 0 9 (by decide) 172 173 174 (Str.ofString "t") (Str.ofString "T") (Str.ofString "x") (b1 := 513) (b2 := 512) (b3 := 1) rfl rfl rfl (dec 0 9 (by decide))]
    rfl
  have s1 : (m : Int) / 64 % 8 / 4 = ((m / 2 ^ 8 % 2 : Nat) : Int) := bits4 m 64 8 rfl
  have s2 : (m : Int) / 64 % 8 / 2 % 2 = ((m / 2 ^ 7 % 2 : Nat) : Int) := bits2 m 64 7 rfl
  have s3 : (m : Int) / 64 % 8 % 2 = ((m / 2 ^ 6 % 2 : Nat) : Int) := bits1 m 64 6 rfl
  have s4 : (m : Int) / 2048 % 2 = 1 ↔ m / 2 ^ 11 % 2 = 1 := Int.ofNat_inj
  have t1 : (m : Int) / 8 % 8 / 4 = ((m / 2 ^ 5 % 2 : Nat) : Int) := bits4 m 8 5 rfl
  have t2 : (m : Int) / 8 % 8 / 2 % 2 = ((m / 2 ^ 4 % 2 : Nat) : Int) := bits2 m 8 4 rfl
  have t3 : (m : Int) / 8 % 8 % 2 = ((m / 2 ^ 3 % 2 : Nat) : Int) := bits1 m 8 3 rfl
  have t4 : (m : Int) / 1024 % 2 = 1 ↔ m / 2 ^ 10 % 2 = 1 := Int.ofNat_inj
  have u1 : (m : Int) / 1 % 8 / 4 = ((m / 2 ^ 2 % 2 : Nat) : Int) := bits4 m 1 2 rfl
  have u2 : (m : Int) / 1 % 8 / 2 % 2 = ((m / 2 ^ 1 % 2 : Nat) : Int) := bits2 m 1 1 rfl
  have u3 : (m : Int) / 1 % 8 % 2 = ((m / 2 ^ 0 % 2 : Nat) : Int) := bits1 m 1 0 rfl
  have u4 : (m : Int) / 512 % 2 = 1 ↔ m / 2 ^ 9 % 2 = 1 := Int.ofNat_inj
  have es : sgN m = sgStep (m : Int) (sgStep (m : Int) (sgStep (m : Int) (kindC m) (64, 2048, Str.ofString "s", Str.ofString "S")) (8, 1024, Str.ofString "s", Str.ofString "S")) (1, 512, Str.ofString "t", Str.ofString "T") := rfl
  unfold fmS Txt.join
  rw [e, es, StrLaws.glued_eq_join]
  unfold sgStep
  dsimp only
  simp only [s1, s2, s3, s4, t1, t2, t3, t4, u1, u2, u3, u4]
  apply C_ext
  have he : C (Str.ofString "") = [] := by decide +kernel
  simp only [Str.join, C_app, he, List.append_assoc, List.append_nil, List.nil_append]
end Mine
namespace Mine
open PySem PySem.W PySem.Calls PyProof.Rows
theorem words_TO1 : PySem.Challenge.rw_ik0046_01 = PySem.Challenge.rw_ik0046_01 ∧ hook0.heap_1 = hook0.heap_1 := by
  k_with_none
  k_fill
  k_with "m_intro" => intro prog mean mg mb cn cs a ccd cl outer A₀ base h₀ L m s Q E B F X T hk hpre hret
  k_with "m_enter" => (
    (case k6 => k_dflt k_is); (case k7 => k_dflt k_is); (case k8 => exact Nat.le_of_ble_eq_true rfl); (case k9 => exact rfl); (case c5 => decide); (case kB => exact locs rfl); (case c2 => exact rfl); (case c3 => exact rfl); (case c4 => exact rfl)
    k_whole
    intro L' h' tk F' N' B' X' T' e₁ A₁
    (try dsimp only)
    (try dsimp only [List.reverse, List.reverseAux] at F')
    (try k_fold))
  k_with "m_enterR" => (
    (case k6 => k_dflt k_is); (case k7 => k_dflt k_is); (case k8 => exact Nat.le_of_ble_eq_true rfl); (case kP => exact rfl); (case kG => exact fun _ => rfl); (case c5 => decide); (case kB => exact fun _ => locs rfl); (case c2 => exact rfl); (case c3 => exact rfl); (case c4 => exact rfl)
    k_whole
    intro D' L' h' tk F' N' B' X' T' e₁ A₁
    (try dsimp only)
    (try dsimp only [List.reverse, List.reverseAux] at F')
    (try k_fold))
  k_with "m_name" => k_dflt (refine' ld ?k1 ?k2 ?_; (case k1 => k_asm); (case k2 => first | exact rfl | assumption); k_whole)
  k_with "m_append" => (
    k_dflt (refine' m_append ?k1 ?k2 ?k3 ?k4 ?_; (case k1 => k_asm); (case k2 => k_asm); (case k3 => k_mem); (case k4 => first | assumption | omega | decide); k_whole)
    intro h' n' F' N' hl' hs' ht'
    (try k_sweep))
  k_with "m_mem" => first | assumption | exact List.Mem.head _ | (refine List.mem_cons_of_mem _ ?_; k_mem) | (refine List.mem_append_right _ ?_; k_mem) | (refine List.mem_append_left _ ?_; k_mem)
  k_with "m_fold" => ((with_reducible show wpAny _ _ _ _ _ _); k_fold)
  k_with "m_steps" => (repeat' (first
    | (k_unfold; (try dsimp only)) | (k_end; wrow_close)
    | ((with_reducible show wpAny _ _ (exec _ _) _ _ _); k_fold)
    | ((fail_if_success (with_reducible show wpAny _ _ (exec (Stmt.For _ _ _ _ _) _) _ _ _)); (fail_if_success (with_reducible show wpAny _ _ (exec (Stmt.While _ _ _ _) _) _ _ _)); first | (walk1; (try dsimp only)) | (dsimp only; walk1))))
  k_with "m_div" => ((with_reducible show wpAny _ _ (binaryOp Operator.FloorDiv (Value.int _ _) (Value.int _ _)) _ _ _); k_dflt (refine' fdiv_e ?k1 ?_; (case k1 => first | decide | omega); k_whole))
  k_with "m_mod" => ((with_reducible show wpAny _ _ (binaryOp Operator.Mod (Value.int _ _) (Value.int _ _)) _ _ _); k_dflt (refine' fmod_e ?k1 ?_; (case k1 => first | decide | omega); k_whole))
  k_with "m_for" => (with_unfolding_all refine m_for ?_ (fun _ => rfl))
  k_with "m_use" => (
    (with_reducible show wpAny _ _ (call (Value.ref 101) [Value.str _ _]) _ _ _)
    k_dflt (refine' Gives.use (fspath _ _ _) ?k1 ?k2 ?k3 ?k4 ?k5 ?k6 ?k7 ?k8 ?kp ?_; (case k1 => k_asm); (case k2 => k_asm); (case k3 => k_asm); (case k4 => k_asm); (case k5 => k_asm); (case k6 => exact rfl); (case k7 => exact Nat.le_of_ble_eq_true rfl); (case k8 => exact Nat.le_of_ble_eq_true rfl); (case kp => trivial); k_whole)
    intro r' n' h' tk' F' N' hz' hr'
    (try ((with_reducible show wpAny _ _ _ _ _ _); k_fold))
    obtain ⟨hs', t', e'⟩ := hr'
    subst hs' e'
    (try clear hz')
    (try simp only [List.nil_append] at N')
    (try dsimp only)
    (try k_sweep))
  k_with "m_use" => (
    (with_reducible show wpAny _ _ (call (Value.ref 115) [Value.str _ _]) _ _ _)
    k_dflt (refine' Gives.use (getsep _ _ _) ?k1 ?k2 ?k3 ?k4 ?k5 ?k6 ?k7 ?k8 ?kp ?_; (case k1 => k_asm); (case k2 => k_asm); (case k3 => k_asm); (case k4 => k_asm); (case k5 => k_asm); (case k6 => exact rfl); (case k7 => exact Nat.le_of_ble_eq_true rfl); (case k8 => exact Nat.le_of_ble_eq_true rfl); (case kp => trivial); k_whole)
    intro r' n' h' tk' F' N' hz' hr'
    (try ((with_reducible show wpAny _ _ _ _ _ _); k_fold))
    obtain ⟨hs', t', e'⟩ := hr'
    subst hs' e'
    (try clear hz')
    (try simp only [List.nil_append] at N')
    (try dsimp only)
    (try k_sweep))
  k_with "m_use" => (
    (with_reducible show wpAny _ _ (call (Value.ref 143) [Value.int _ _]) _ _ _)
    k_dflt (refine' Gives.use (sifmt _ _ _) ?k1 ?k2 ?k3 ?k4 ?k5 ?k6 ?k7 ?k8 ?kp ?_; (case k1 => k_asm); (case k2 => k_asm); (case k3 => k_asm); (case k4 => k_asm); (case k5 => k_asm); (case k6 => exact rfl); (case k7 => exact Nat.le_of_ble_eq_true rfl); (case k8 => exact Nat.le_of_ble_eq_true rfl); (case kp => trivial); k_whole)
    intro r' n' h' tk' F' N' hz' hr'
    (try ((with_reducible show wpAny _ _ _ _ _ _); k_fold))
    obtain ⟨hs', t', e'⟩ := hr'
    subst hs' e'
    (try clear hz')
    (try simp only [List.nil_append] at N')
    (try dsimp only)
    (try k_sweep))
  k_with "m_use" => (
    (with_reducible show wpAny _ _ (call (Value.ref 230) [Value.int _ _]) _ _ _)
    k_dflt (refine' Gives.use (signsN _ _ _ (by assumption)) ?k1 ?k2 ?k3 ?k4 ?k5 ?k6 ?k7 ?k8 ?kp ?_; (case k1 => k_asm); (case k2 => k_asm); (case k3 => k_asm); (case k4 => k_asm); (case k5 => k_asm); (case k6 => exact rfl); (case k7 => exact Nat.le_of_ble_eq_true rfl); (case k8 => exact Nat.le_of_ble_eq_true rfl); (case kp => trivial); k_whole)
    intro r' n' h' tk' F' N' hz' hr'
    (try ((with_reducible show wpAny _ _ _ _ _ _); k_fold))
    obtain ⟨hs', t', e'⟩ := hr'
    subst hs' e'
    (try clear hz')
    (try simp only [List.nil_append] at N')
    (try dsimp only)
    (try k_sweep))
  k_with "m_len" => (
    (with_reducible show wpAny _ _ (call (Value.builtin "len") [Value.ref _]) _ _ _)
    k_dflt (refine' len_h (by assumption) ?k3 ?_; (case k3 => first | assumption | omega); k_whole)
    intro t' tk')
  k_with "m_stepsT" => (repeat' (first
    | (k_unfold; (try dsimp only)) | (k_end; wrow_close)
    | ((with_reducible show wpAny _ _ (exec _ _) _ _ _); k_fold)
    | ((fail_if_success (with_reducible show wpAny _ _ (exec (Stmt.For _ _ _ _ _) _) _ _ _)); (fail_if_success (with_reducible show wpAny _ _ (eval (Expr.ListComp _ _ _ _) _) _ _ _)); (fail_if_success (with_reducible show wpAny _ _ (binaryOp Operator.Add (Value.ref _) (Value.ref _)) _ _ _)); (fail_if_success (with_reducible show wpAny _ _ (call (Value.builtin "str.join") _) _ _ _)); (fail_if_success (with_reducible show wpAny _ _ (call (Value.type "range") _) _ _ _)); (fail_if_success (with_reducible show wpAny _ _ (call (Value.ref 230) _) _ _ _)); first | (walk1; (try dsimp only)) | (dsimp only; walk1))))
  k_with "m_name" => k_dflt (refine' nameX_C ?N ?c ?m ?d ?_; (case N => k_asm); (case c => exact rfl); (case m => k_mem); (case d => assumption); k_whole)
  k_with "m_sub" => first
    | ((with_reducible show wpAny _ _ (subscriptTail _ _ (Value.ref _) (Value.int (_ + 1) _)) _ _ _); k_dflt (refine' item_lI ?k1 ?k2 ?k3 ?k4 ?k5 ?_; (case k1 => k_asm); (case k2 => with_reducible assumption); (case k3 => k_mem); (case k4 => with_reducible assumption); (case k5 => with_reducible assumption); k_whole))
    | ((with_reducible show wpAny _ _ (subscriptTail _ _ (Value.ref _) (Value.int (Nat.cast _) _)) _ _ _); k_dflt (first
      | (refine' item_hB ?k1 ?k2 ?k3 ?k4 ?_; (case k1 => k_asm); (case k2 => with_reducible assumption); (case k3 => with_reducible assumption); (case k4 => with_reducible assumption); k_whole)
      | (refine' item_l ?k1 ?k2 ?k3 ?k4 ?_; (case k1 => k_asm); (case k2 => k_mem); (case k3 => with_reducible assumption); (case k4 => with_reducible assumption); k_whole)))
    | ((with_reducible show wpAny _ _ (subscriptTail _ _ (Value.ref _) (Value.int 1 _)) _ _ _); k_dflt (refine' item_tB ?k1 ?k2 ?_; (case k1 => k_asm); (case k2 => with_reducible assumption); k_whole))
  exact ⟨rfl, rfl⟩
theorem signsN (w : World) (m : Nat) (t : Tok) (hm : Kind m) : Gives w 700 230 [.int (m : Int) t] (fun _ => True) (fun new v => new = [] ∧ ∃ t, v = .str (sgN m) t) := by
  have hk : kindOf' ((m / 4096 : Nat) : Int) (kindC m) := by
    unfold kindOf' kindC
    rcases hm with h | h | h <;> rw [h] <;> simp
  have hl : (kindC m).length ≤ 1 := by
    unfold kindC
    split
    · decide
    · split <;> decide
  exact signs w ((m / 4096 : Nat) : Int) (m : Int) (kindC m) t hk rfl hl
noncomputable def NmIn (lN : Addr) (nx : Led) (v : Value) (ns : List Str) : Prop := ∃ a ys c, v = .ref a ∧ a ≠ lN ∧ (a, listOf ys.toArray c) ∈ nx ∧ StrsAre ys ns
theorem NmIn.mono {lN : Addr} {nx nx' : Led} (h : ∀ q ∈ nx, q.1 ≠ lN → q.2.cls = .type "list" → q ∈ nx') (v : Value) (ns : List Str) (H : NmIn lN nx v ns) : NmIn lN nx' v ns := by
  obtain ⟨a, ys, c, e, hne, hm, hs⟩ := H
  exact ⟨a, ys, c, e, hne, h _ hm hne rfl, hs⟩
theorem strs_split {xs : List Value} {ys : List Str} {y : Str} (h : StrsAre xs (ys ++ [y])) : ∃ zs t, xs = zs ++ [.str y t] ∧ StrsAre zs ys := by
  induction ys generalizing xs with
  | nil =>
    cases h with
    | cons _ t hr =>
      cases hr
      exact ⟨[], t, rfl, .nil⟩
  | cons z r ih =>
    cases h with
    | cons _ t hr =>
      obtain ⟨zs, t', rfl, hz⟩ := ih hr
      exact ⟨.str z t :: zs, t', rfl, .cons z t hz⟩
theorem join_weight {ns : List Str} (h : ∀ s ∈ ns, s.length ≤ 10) (hz : ns.length ≤ 10) : (ns.map (·.length)).sum + ns.length ≤ 1048576 ∧ (Txt.join sl ns).length ≤ 1000 := by
  have h1 := StrLaws.sumLen_le (B := 10) ns h
  have h2 := join_len ns h
  constructor
  · omega
  · unfold Txt.join
    rw [StrLaws.glued_eq_join]
    omega
noncomputable def tnInv (lN : Addr) (kp : Led) (ps : List Nd) (i : Nat) (m : Str → Option Value) (nx : Led) : Prop :=
  ∃ (xs : List Value) (c : Nat), (lN, listOf xs.toArray c) ∈ nx ∧ AllIn (NmIn lN) nx xs (nms (ps.take i)) ∧ ∀ p ∈ kp, p ∈ nx
theorem tnInv_mono {lN : Addr} {kp : Led} {ps : List Nd} : MonoJ kp (tnInv lN kp ps) := by
  rintro i m nx nx' ⟨xs, c, a1, a2, a3⟩ hs
  exact ⟨xs, c, hs _ a1 (.inl rfl), a2.mono (NmIn.mono fun q hq _ hc => hs q hq (.inl hc)), fun p hp => hs p (a3 p hp) (.inr (.inr (.inl hp)))⟩
theorem strs_cat {xs ys : List Value} {as bs : List Str} (h : StrsAre xs as) (g : StrsAre ys bs) : StrsAre (xs ++ ys) (as ++ bs) := by
  induction h with
  | nil => exact g
  | cons n t _ ih => exact .cons n t ih
set_option maxRecDepth 100000 in
set_option maxHeartbeats 2000000 in
theorem told_says (w : World) (l0 : Addr) (vs : List Value) (ps : List Nd) (hok : NdsOk ps) (hok2 : ∀ (i : Nat) (p : Nd), ps[i]? = some p → Kind p.2.1) :
    Gives w 500 235 [.ref l0] (fun h => h.IsList l0 vs.toArray ∧ NdsAt h vs ps) (fun new v => ∃ l xs c, v = .ref l ∧ (l, listOf xs.toArray c) ∈ new ∧ AllIn RowIn new xs (rows sgN ps)) := by
  k_extra "m_intro"
  refine' m_callC [(Str.ofString "nodes", .ref l0)] B F X T rfl rfl hk ?k6 ?k7 ?k8 ?k9 ?kB ?kD ?_ ?c2 ?c3 ?c4
  (case k6 => k_dflt k_is); (case k7 => k_dflt k_is); (case k8 => exact Nat.le_of_ble_eq_true rfl); (case k9 => exact rfl); (case kB => exact rfl); (case kD => decide +kernel); (case c2 => exact rfl); (case c3 => exact rfl); (case c4 => exact rfl)
  k_whole
  intro L' h' tk cells F' N' Y' B' X' T' e₁ A₁
  k_cells Y'
  (try simp only [List.cons_append, List.nil_append] at N')
  (try dsimp only)
  (show wpAny _ _ _ _ _ _)
  k_fold
  obtain ⟨hL, hN⟩ := hpre
  rename_i oN oD dN dD
  have dD1 : oD.data = .cell (some (.ref l0)) := dD
  have dN1 : oN.data = .cell none := dN
  have F1 : Fr s.heap L' h' (fun _ => none) := F'
  clear dD dN F'
  k_extra "m_stepsT"
  k_extra "m_for"
  k_extra "m_stepsT"
  rename_i lE hE lx0 lN hN1 lx1 hN2 oN2 F8 N8 d8
  refine m_iterB (vs := vs) [(L' + 1 + 1, oN2), (L' + 1, oD)] (tnInv lN [(L' + 1 + 1, oN2), (L' + 1, oD)] ps) tnInv_mono (fun p hp => .tail _ (.tail _ hp)) rfl hL F8 N8 ⟨[.ref lE], 0, .head _, ?_, fun p hp => .tail _ (.tail _ hp)⟩ ?_ ?_
  · refine AllIn.snoc (vs := []) (ps := []) AllIn.nil ⟨lE, [], 0, rfl, Nat.ne_of_lt lx1.1, .tail _ (.head _), .nil⟩
  · rintro i v m₁ nx h tk ow hi hv hJF7 how F7 N7 Qt hQ
    k_extra "m_fold"
    obtain ⟨xs, c, j1, j2, j3⟩ := hJF7
    obtain ⟨p, hp, T, t1, t2, t3, rfl, hT⟩ := hN.get hv
    have hT2 : IsTup h T #[.int (p.1 : Int) t1, .int (p.2.1 : Int) t2, .int (p.2.2 : Int) t3] := IsTup.keeps hT F7.keep
    clear F8 N8
    obtain ⟨hA, hG⟩ := above_at hok hp
    obtain ⟨v1, hx, a1, ys1, c1, rfl, hne1, hm1, hs1⟩ := j2.2 p.1 _ hA
    have hps := hok.1
    have hip := (List.getElem?_eq_some_iff.mp hp).1
    have hp2 := (hok.2 i p hp).2
    have hp1 : p.1 < 2 ^ 63 := small_at (hok.2 i p hp).1 hip hps
    have hzx : xs.length ≤ 1000 := by
      have e := j2.1
      rw [nms_len, List.length_take] at e
      exact small_min e hps
    have jN : (L' + 1 + 1, oN2) ∈ nx := j3 _ (.head _)
    have jD : (L' + 1, oD) ∈ nx := j3 _ (.tail _ (.head _))
    k_extra "m_stepsT"
    all_goals first | exact (Str.ofString "") | exact Value.none | exact (0 : Addr) | skip
    rename_i lB hB F6 N6 lxB
    have hsz0 : ys1.length + 1 ≤ 1000 := by
      have hgl := hG.1
      have hyl := hs1.length
      omega
    refine add_lists (vs := ys1) (ws := [_]) (hsz := Nat.le_trans hsz0 (by decide)) F6 N6 (News.isList N6 (.tail _ (List.mem_append_right _ hm1))) (News.isList N6 (.head _)) fun h9 F9 N9 => ?_
    (try dsimp only)
    have hNs : lN ≠ hB.objs.size := Nat.ne_of_lt (Heap.lt_size (N6 _ (.tail _ (List.mem_append_right _ j1))).1)
    clear F6 N6
    k_extra "m_stepsT"
    refine hQ _ _ (TurnP.next F' N' (fun q hq => ht' q (.tail _ (.tail _ (List.mem_append_left _ hq))) (how q hq).1) ⟨_, _, hl', ?_, fun q hq => hs' q (.tail _ (.tail _ (List.mem_append_right _ (j3 q hq)))) ?_⟩)
    · rw [take_get hp, nms_snoc]
      unfold nmStep
      exact (j2.mono (NmIn.mono fun q hq hne _ => hs' q (.tail _ (.tail _ (List.mem_append_right _ hq))) hne)).snoc ⟨_, _, 0, rfl, Ne.symm hNs, hs' _ (.head _) (Ne.symm hNs), strs_snoc' hs1⟩
    · rcases List.mem_cons.mp hq with rfl | hq
      · exact Nat.ne_of_lt lx1.2.1
      · rw [List.mem_singleton.mp hq]; exact Nat.ne_of_lt lx1.2.2
  · rintro m₁ nx h tk ⟨xs, c, j1, j2, j3⟩ F7 N7
    clear F8 N8
    have jN : (L' + 1 + 1, oN2) ∈ nx := j3 _ (.head _)
    have jD : (L' + 1, oD) ∈ nx := j3 _ (.tail _ (.head _))
    rw [hN.1, List.take_length] at j2
    have hL7 : h.IsList l0 vs.toArray := hL.at fun o e => F7.keep l0 o e
    have hvz : vs.length ≤ 1000 := by rw [hN.1]; exact Nat.le_trans hok.1 (by decide)
    k_extra "m_stepsT"
    refine m_comp (by with_unfolding_all rfl) rfl (by decide) ?_
    k_extra "m_stepsT"
    have hps := hok.1
    refine c_range (n := vs.length) rfl hvz (by decide) rfl rfl (fun i ys nx' => AllIn RowIn nx' ys (rows sgN (ps.take i)) ∧ ys.length = i ∧ ∀ p ∈ nx, p ∈ nx') (fun _ _ _ h => h.2.1) F7 N7 ⟨AllIn.nil, rfl, fun _ h => h⟩ ?_ ?_
    · rintro I C D cd i ti ys c2 oC mC oI nx2 h2 tk2 hi ⟨g1, g2, g3⟩ hoC hmv F6 N6 off
      clear F7 N7
      have jN2 := g3 _ jN
      have jD2 := g3 _ jD
      have jl2 := g3 _ j1
      obtain ⟨p, hp, T, t1, t2, t3, hvT, hT⟩ := hN.get (List.getElem?_eq_getElem hi)
      have hvT' : vs[i]? = some (.ref T) := by rw [List.getElem?_eq_getElem hi, hvT]
      obtain ⟨hA, hG⟩ := above_at hok hp
      have hip := (List.getElem?_eq_some_iff.mp hp).1
      have hi63 : i < 2 ^ 63 := small_at (Nat.le_refl i) hip hps
      have hi64 : i + 1 < 2 ^ 63 := Nat.lt_of_le_of_lt (Nat.le_trans hip hps) (by decide)
      have hk1 : (i : Int) + 1 = ((i + 1 : Nat) : Int) := rfl
      have hnm := nms_at hp
      obtain ⟨v1, hx, a1, ys1, c1, rfl, hne1, hm1, hs1⟩ := j2.2 (i + 1) _ hnm
      obtain ⟨zs, tz, rfl, hzs⟩ := strs_split hs1
      have hs1 : StrsAre (zs ++ [.str (numS p.2.2) tz]) (aboveN ps i p ++ [numS p.2.2]) := hs1
      have hzs : StrsAre zs (aboveN ps i p) := hzs
      have hp2 := (hok.2 i p hp).2
      have hgl := hG.1
      have hbig : ∀ s ∈ aboveN ps i p ++ [numS p.2.2], s.length ≤ 10 := fun s hs => (List.mem_append.mp hs).elim (fun h => (hG.2 s h).2) fun h => by rw [List.mem_singleton.mp h]; exact num_len hp2
      have hw1 := join_weight hbig (by rw [List.length_append, List.length_singleton]; exact Nat.succ_le_succ (nine hgl hip hps))
      have hw2 := join_weight (fun s hs => (hG.2 s hs).2) (Nat.le_succ_of_le (nine hgl hip hps))
      have hj1 := hw1.2
      have hj2 := hw2.2
      have hzl : zs.length ≤ 1000 := by rw [hzs.length]; exact Nat.le_trans (nine hgl hip hps) (by decide)
      have jm1 := g3 _ hm1
      have hmode := hok2 i p hp
      k_extra "m_stepsT"
      all_goals first | exact (Str.ofString "") | exact Value.none | exact (0 : Addr) | skip
      k_extra "m_use"
      k_extra "m_stepsT"
      all_goals first | exact (Str.ofString "") | exact Value.none | exact (0 : Addr) | skip
      rename Fr _ _ _ _ => F5
      rename News _ _ _ _ => N5
      refine join_listW (News.isList N5 (by k_mem)) (by simpa using hs1) (by decide) hw1.1 fun t5 k5 => ?_
      k_extra "m_stepsT"
      all_goals first | exact (Str.ofString "") | exact Value.none | exact (0 : Addr) | skip
      rename Fr _ _ _ _ => F4
      rename News _ _ _ _ => N4
      have hS : ∀ q ∈ (I, oI) :: (C, oC) :: (D, listOf ys.toArray c2) :: nx2, q.1 < _ := fun q hq => Heap.lt_size (N4 q hq).1
      refine item_but (F4.push _) (News.push F4 N4 _ rfl) (.tail _ (by k_mem)) (.head _) hzl fun D3 h3 F3 N3 lD3 => ?_
      (try dsimp only)
      k_extra "m_stepsT"
      all_goals first | exact (Str.ofString "") | exact Value.none | exact (0 : Addr) | skip
      refine join_listW (News.isList N3 (.head _)) (by simpa using hzs) (by decide) hw2.1 fun t6 k6 => ?_
      k_extra "m_stepsT"
      all_goals first | exact (Str.ofString "") | exact Value.none | exact (0 : Addr) | skip
      rename News _ _ _ _ => N2
      refine item_last N2 (by k_mem) ?_
      k_extra "m_stepsT"
      all_goals first | exact (Str.ofString "") | exact Value.none | exact (0 : Addr) | skip
      rename Fr _ _ _ _ => F9
      rename News _ _ _ _ => N9
      rename D3 < _ ∧ _ => l1
      refine elt_end3 F9 N9 off ⟨Nat.ne_of_gt l1.2.2.1, Nat.ne_of_gt l1.2.2.2.1, Nat.ne_of_gt l1.2.2.2.2.1⟩
        ⟨Nat.ne_of_gt (lD3 _ (.tail _ (.head _))), Nat.ne_of_gt (lD3 _ (.tail _ (.tail _ (.head _)))), Nat.ne_of_gt (lD3 _ (.tail _ (.tail _ (.tail _ (.head _)))))⟩
        ⟨Nat.ne_of_gt (hS _ (.head _)), Nat.ne_of_gt (hS _ (.tail _ (.head _))), Nat.ne_of_gt (hS _ (.tail _ (.tail _ (.head _))))⟩ ⟨?_, by rw [List.length_append, g2]; rfl, fun q hq => .tail _ (.tail _ (.tail _ (g3 q hq)))⟩
      rw [take_get hp, rows_snoc]
      refine (g1.mono (RowIn.mono fun q hq _ => .tail _ (.tail _ (.tail _ hq)))).snoc ?_
      exact ⟨_, _, _, _, _, _, rfl, .head _⟩
    · rintro D ys c2 nx2 h2 tk2 ⟨g1, g2, g3⟩ F6 N6 hD
      clear F7 N7
      k_extra "m_stepsT"
      rw [hN.1, List.take_length] at g1
      exact hret _ _ _ _ (by assumption) (Fr.keep (by assumption)) (news_out F (by assumption)) ⟨D, ys, c2, rfl, .head _, g1.mono (RowIn.mono fun q hq _ => .tail _ hq)⟩
end Mine
namespace Mine
open PySem PySem.W PySem.Calls PySem.Spec PyProof.Rows PyProof.V PySem.SeqAt
noncomputable def dN (p : Nd) : PyData := .tuple [.int (p.1 : Int), .int (p.2.1 : Int), .int (p.2.2 : Int)]
noncomputable def dR (p : Row4) : PyData := .tuple [.str p.1, .str p.2.1, .str p.2.2.1, .str p.2.2.2]
theorem eqv_map {α : Type} {f : α → PyData} (h : ∀ a, PyData.eqv (f a) (f a) = true) (l : List α) : PyData.eqv (.list (l.map f)) (.list (l.map f)) = true := by
  show PyData.eqvAll (l.map f) (l.map f) = true
  induction l with
  | nil => rfl
  | cons a r ih => show (PyData.eqv (f a) (f a) && PyData.eqvAll (r.map f) (r.map f)) = true; rw [h, ih]; rfl
theorem shaped_map {α : Type} {f : α → PyData} (l : List α) (h : ∀ a ∈ l, PyData.canLay0 (f a) = true ∧ (f a).depth ≤ 8) : shaped (.list (l.map f)) = true := by
  have h1 : PyData.canLayAll0 (l.map f) = true := by
    induction l with
    | nil => rfl
    | cons a r ih => simp [PyData.canLayAll0, (h a (.head _)).1, ih fun b hb => h b (.tail _ hb)]
  have h2 : PyData.depthAll (l.map f) ≤ 9 := by
    clear h1
    induction l with
    | nil => simp [PyData.depthAll]
    | cons a r ih =>
      have h3 := (h a (.head _)).2
      have h4 := ih fun b hb => h b (.tail _ hb)
      simp only [List.map_cons, PyData.depthAll]
      exact Nat.max_le.mpr ⟨by omega, h4⟩
  unfold shaped
  rw [Bool.and_eq_true, decide_eq_true_eq]
  refine ⟨h1, ?_⟩
  show PyData.depthAll (l.map f) + 1 ≤ 64
  omega
theorem readsAll_of {α : Type} {f : α → PyData} {h : Heap} {vs : List Value} {ps : List α} (hl : vs.length = ps.length) (H : ∀ (i : Nat) (p : α), ps[i]? = some p → ∃ v, vs[i]? = some v ∧ Reads h v (f p) []) : ReadsAll h vs (ps.map f) [] := by
  induction ps generalizing vs with
  | nil =>
    cases vs with
    | nil => exact .nil
    | cons _ _ => simp at hl
  | cons p r ih =>
    cases vs with
    | nil => simp at hl
    | cons v vr =>
      obtain ⟨v', hv, hr⟩ := H 0 p rfl
      cases hv
      exact ReadsAll.cons (as := []) (bs := []) hr (ih (by simpa using hl) fun i q hq => H (i + 1) q hq)
section
variable {prog : Program} {w : World} {A : Around} {E : Value → Shared → Prop} {s : Shared} {h₀ : Heap} {L : Addr} {m : Str → Option Value} {news : Led}
theorem nds_reads {l : Addr} {xs : List Value} {c : Nat} {ps : List Nd} (N : News h₀ L s.heap news) (hm : (l, listOf xs.toArray c) ∈ news) (H : NdsIn news xs ps) : Reads s.heap (.ref l) (.list (ps.map dN)) [l] := by
  refine reads_list_at (N _ hm).1 rfl rfl (readsAll_of H.1 fun i p hp => ?_)
  obtain ⟨v, hv, a, n, t1, t2, t3, rfl, ha⟩ := H.2 i p hp
  exact ⟨_, hv, reads_tuple_at (N _ ha).1 rfl rfl (ReadsAll.cons (as := []) (Reads.int _ _) (ReadsAll.cons (as := []) (Reads.int _ _) (ReadsAll.cons (as := []) (Reads.int _ _) ReadsAll.nil)))⟩
theorem rows_reads {l : Addr} {xs : List Value} {c : Nat} {rs : List Row4} (N : News h₀ L s.heap news) (hm : (l, listOf xs.toArray c) ∈ news) (H : AllIn RowIn news xs rs) : Reads s.heap (.ref l) (.list (rs.map dR)) [l] := by
  refine reads_list_at (N _ hm).1 rfl rfl (readsAll_of H.1 fun i p hp => ?_)
  obtain ⟨v, hv, a, n, t1, t2, t3, t4, rfl, ha⟩ := H.2 i p hp
  exact ⟨_, hv, reads_tuple_at (N _ ha).1 rfl rfl (ReadsAll.cons (as := []) (Reads.str _ _) (ReadsAll.cons (as := []) (Reads.str _ _) (ReadsAll.cons (as := []) (Reads.str _ _) (ReadsAll.cons (as := []) (Reads.str _ _) ReadsAll.nil))))⟩
theorem ne_nodes {l1 l2 : Addr} {xs ys : List Value} {c1 c2 : Nat} {ps : List Nd} {Q : Value → Shared → Prop} (N : News h₀ L s.heap news) (h1 : (l1, listOf xs.toArray c1) ∈ news) (h2 : (l2, listOf ys.toArray c2) ∈ news) (H1 : NdsIn news xs ps) (H2 : NdsIn news ys ps) (hu : A.units + 64 < cLine) (h : Q (.bool false) s) :
    wpAny (model prog w) A (compareOp .NotEq (.ref l1) (.ref l2)) Q E s := by
  have hs : shaped (.list (ps.map dN)) = true := shaped_map ps fun a _ => by simp [dN, PyData.canLay0, PyData.canLayAll0, PyData.depth, PyData.depthAll]
  refine ne_dataH (nds_reads N h1 H1) (nds_reads N h2 H2) hs hs hu ?_
  rw [eqv_map (fun a => by simp [dN, PyData.eqv, PyData.eqvAll]) ps]
  exact h
theorem eq_rows {l1 l2 : Addr} {xs ys : List Value} {c1 c2 : Nat} {rs : List Row4} {Q : Value → Shared → Prop} (N : News h₀ L s.heap news) (h1 : (l1, listOf xs.toArray c1) ∈ news) (h2 : (l2, listOf ys.toArray c2) ∈ news) (H1 : AllIn RowIn news xs rs) (H2 : AllIn RowIn news ys rs) (hok : ∀ r ∈ rs, PyData.strOk r.1 = true ∧ PyData.strOk r.2.1 = true ∧ PyData.strOk r.2.2.1 = true ∧ PyData.strOk r.2.2.2 = true) (hu : A.units + 64 < cLine) (h : Q (.bool true) s) :
    wpAny (model prog w) A (compareOp .Eq (.ref l1) (.ref l2)) Q E s := by
  have hs : shaped (.list (rs.map dR)) = true := shaped_map rs fun a ha => by simp [dR, PyData.canLay0, PyData.canLayAll0, PyData.depth, PyData.depthAll, hok a ha]
  refine eq_dataH (rows_reads N h1 H1) (rows_reads N h2 H2) hs hs hu ?_
  rw [eqv_map (fun a => by simp [dR, PyData.eqv, PyData.eqvAll]) rs]
  exact h
end
end Mine
namespace Mine
open PySem PySem.W PySem.Calls PySem.Spec PyProof.Rows PyProof.V
theorem slicePick_5 (xs : List Value) : slicePick xs.toArray none (some 5) none = (xs.take 5).toArray := slicePick_upto' xs.toArray 5
section
variable {prog : Program} {w : World} {A : Around} {E : Value → Shared → Prop} {s : Shared} {h₀ : Heap} {L : Addr} {m : Str → Option Value} {news : Led}
theorem item_to5 {value slice : PySem.Expr} {l S : Addr} {xs : List Value} {u : Tok} {sd : Option Addr} {sl : Array (Option Value)} {Q : Value → Shared → Prop} (F : Fr h₀ L s.heap m) (N : News h₀ L s.heap news) (hl : h₀.IsList l xs.toArray) (hS : (S, ({ cls := .type "slice", dict := sd, data := .fields #[.none, .int 5 u, .none], slots := sl } : Obj)) ∈ news) (hz : xs.length ≤ 1000)
    (h : ∀ D h', Fr h₀ L h' m → News h₀ L h' ((D, listOf (xs.take 5).toArray 0) :: news) → Q (.ref D) { s with heap := h' })
    (hs : subscripted slice false (.ref l) (.ref S) = operate [.ref S, .ref l] (getItem (.ref l) (.ref S)) := by with_unfolding_all rfl)
    (ht : ∀ r, letTemporaryGo value (.ref l) r = pure () := by intro _; with_unfolding_all rfl) :
    wpAny (model prog w) A (subscriptTail value slice (.ref l) (.ref S)) Q E s := by
  have hl' : s.heap.IsList l xs.toArray := hl.at fun o e => F.keep l o e
  refine subscriptTail_ops hl'.typeIs list_getitem_lookup (wpAny_getItem_list_slice hl' ⟨_, (N _ hS).1, rfl, rfl⟩ .none (.int 5 u) .none (by simp) ?_ (by rw [List.size_toArray]; exact Nat.le_trans hz (by decide))) hs ht
  rw [slicePick_5]
  exact h _ _ (F.push _) (News.push F N _ rfl)
end
theorem IntsAre.take5 : ∀ {vs : List Value} {ns : List Int} (k : Nat), IntsAre vs ns → IntsAre (vs.take k) (ns.take k)
  | _, _, 0, _ => .nil
  | _, _, _ + 1, .nil => .nil
  | _, _, k + 1, .cons n t r => .cons n t (take5 k r)
end Mine
namespace Mine
open PySem PySem.W PySem.Calls PyProof.Rows
noncomputable def okS (x : Str) : Prop := ∀ c ∈ C x, c < 128
theorem okS_app {a b : Str} (ha : okS a) (hb : okS b) : okS (a ++ b) := fun c hc => by
  rw [C_app] at hc
  exact (List.mem_append.mp hc).elim (ha c) (hb c)
theorem okS_pick {k : Int} {a b : Str} (ha : okS a) (hb : okS b) : okS (pick2 k a b) := by unfold pick2; split <;> assumption
theorem okS_strOk {x : Str} (h : okS x) : PyData.strOk x = true := by
  unfold PyData.strOk
  rw [Array.all_eq_true']
  intro c hc
  have := h c (Array.mem_toList_iff.mpr hc)
  exact decide_eq_true (by omega)
theorem okS_num (n : Nat) : okS (numS n) := fun c hc => by have := num_digit hc; omega
theorem okS_sl : okS sl := fun c hc => by rw [C_sl] at hc; rw [List.mem_singleton.mp hc]; decide
theorem okS_join : ∀ ns : List Str, (∀ s ∈ ns, okS s) → okS (Str.join sl ns)
  | [], _ => fun c hc => by cases hc
  | [x], h => h x (.head _)
  | x :: z :: r, h => okS_app (okS_app (h x (.head _)) okS_sl) (okS_join (z :: r) fun s hs => h s (.tail _ hs))
theorem okS_path {ns : List Str} (h : ∀ s ∈ ns, okS s) : okS (pathS ns) := by
  unfold pathS Txt.join
  rw [StrLaws.glued_eq_join]
  exact okS_app okS_sl (okS_join ns h)
theorem okS_one {s : String} (h : (C (Str.ofString s)).all (· < 128) = true) : okS (Str.ofString s) := fun c hc => by
  have := List.all_eq_true.mp h c hc
  exact of_decide_eq_true this
theorem okS_sg (m : Nat) : okS (sgN m) := by
  have l1 : okS (Str.ofString "-") := okS_one (by decide +kernel)
  have l2 : okS (Str.ofString "r") := okS_one (by decide +kernel)
  have l3 : okS (Str.ofString "w") := okS_one (by decide +kernel)
  have l4 : okS (Str.ofString "x") := okS_one (by decide +kernel)
  have l5 : okS (Str.ofString "s") := okS_one (by decide +kernel)
  have l6 : okS (Str.ofString "S") := okS_one (by decide +kernel)
  have l7 : okS (Str.ofString "t") := okS_one (by decide +kernel)
  have l8 : okS (Str.ofString "T") := okS_one (by decide +kernel)
  have l9 : okS (Str.ofString "d") := okS_one (by decide +kernel)
  have l0 : okS (Str.ofString "l") := okS_one (by decide +kernel)
  have st : ∀ (mode : Int) (x : Str) (row : Int × Int × Str × Str), okS x → okS row.2.2.1 → okS row.2.2.2 → okS (sgStep mode x row) := by
    intro mode x row hx h1 h2
    unfold sgStep
    refine okS_app (okS_app (okS_app hx (okS_pick l1 l2)) (okS_pick l1 l3)) ?_
    split
    · exact okS_pick h2 h1
    · exact okS_pick l1 l4
  have hk : okS (kindC m) := by
    unfold kindC
    split
    · exact l9
    · split
      · exact l1
      · exact l0
  have es : sgN m = sgStep (m : Int) (sgStep (m : Int) (sgStep (m : Int) (kindC m) (64, 2048, Str.ofString "s", Str.ofString "S")) (8, 1024, Str.ofString "s", Str.ofString "S")) (1, 512, Str.ofString "t", Str.ofString "T") := rfl
  rw [es]
  exact st _ _ _ (st _ _ _ (st _ _ _ hk l5 l6) l5 l6) l7 l8
theorem rows_str : ∀ (ps : List Nd) (N : List (List Str)), (∀ ns ∈ N, ∀ s ∈ ns, okS s) → ∀ r ∈ rowsF sgN N ps, PyData.strOk r.1 = true ∧ PyData.strOk r.2.1 = true ∧ PyData.strOk r.2.2.1 = true ∧ PyData.strOk r.2.2.2 = true
  | [], _, _, _, h => nomatch h
  | p :: ps, N, hN, r, hr => by
    have hA : ∀ s ∈ N.getD p.1 [], okS s := by
      rw [List.getD_eq_getElem?_getD]
      cases hq : N[p.1]? with
      | none => exact fun _ h => nomatch h
      | some ns => exact hN ns (List.mem_of_getElem? hq)
    have hB : ∀ s ∈ N.getD p.1 [] ++ [numS p.2.2], okS s := fun s hs => (List.mem_append.mp hs).elim (hA s) fun h => by rw [List.mem_singleton.mp h]; exact okS_num _
    rcases List.mem_cons.mp hr with rfl | hr
    · exact ⟨okS_strOk (okS_sg _), okS_strOk (okS_path hB), okS_strOk (okS_path hA), okS_strOk (okS_num _)⟩
    · refine rows_str ps (nmStep N p) (fun ns hn => ?_) r hr
      rcases List.mem_append.mp hn with hn | hn
      · exact hN ns hn
      · rw [List.mem_singleton.mp hn]; exact hB
theorem rows_ok (ps : List Nd) : ∀ r ∈ rows sgN ps, PyData.strOk r.1 = true ∧ PyData.strOk r.2.1 = true ∧ PyData.strOk r.2.2.1 = true ∧ PyData.strOk r.2.2.2 = true :=
  rows_str ps [[]] fun ns hn => by rw [List.mem_singleton.mp hn]; exact fun _ h => nomatch h
theorem rows_congr {f g : Nat → Str} : ∀ (ps : List Nd) (N : List (List Str)), (∀ p ∈ ps, f p.2.1 = g p.2.1) → rowsF f N ps = rowsF g N ps
  | [], _, _ => rfl
  | p :: ps, N, h => by
    show rw4 f _ p :: rowsF f (nmStep N p) ps = rw4 g _ p :: rowsF g (nmStep N p) ps
    rw [rows_congr ps (nmStep N p) fun q hq => h q (.tail _ hq)]
    unfold rw4
    rw [h p (.head _)]
theorem rows_eq {ps : List Nd} (h : ∀ p ∈ ps, Kind p.2.1) : rows fmS ps = rows sgN ps := rows_congr ps _ fun p hp => fm_eq (h p hp)
theorem mk_at {ns : List Int} {i : Nat} {p : Nd} (h : (mkNodes ns)[i]? = some p) : ∃ x, p = nodeOf i x := by
  unfold mkNodes at h
  rw [List.getElem?_mapIdx] at h
  obtain ⟨x, _, e⟩ := Option.map_eq_some_iff.mp h
  exact ⟨x, e.symm⟩
theorem div_at (k : Nat) {z : Nat} (h : z < 4096) : (4096 * k + z) / 4096 = k := by
  rw [Nat.mul_add_div (by decide), Nat.div_eq_of_lt h]; rfl
theorem node_ok (i : Nat) (x : Int) : (nodeOf i x).1 ≤ i ∧ (nodeOf i x).2.2 < 1073741824 ∧ Kind (nodeOf i x).2.1 ∧ (nodeOf i x).2.1 < 65536 := by
  have h1 : x.natAbs % (i + 1) < i + 1 := Nat.mod_lt _ (by omega)
  have h2 := xor_in (y := x / 3 % 4096) (by omega) (by omega)
  have h3 : pick3 (x % 3) 16384 32768 40960 = 16384 ∨ pick3 (x % 3) 16384 32768 40960 = 32768 ∨ pick3 (x % 3) 16384 32768 40960 = 40960 := by
    unfold pick3
    split
    · exact .inl rfl
    · split
      · exact .inr (.inl rfl)
      · exact .inr (.inr rfl)
  generalize hy : Builtin.bitXor 493 (x / 3 % 4096) = y at h2
  obtain ⟨z, rfl⟩ := Int.eq_ofNat_of_zero_le h2.1
  have hz : z < 4096 := Int.ofNat_lt.mp h2.2
  refine ⟨Nat.lt_succ_iff.mp h1, Nat.mod_lt _ (by decide), ?_, ?_⟩
  · show (Int.toNat (_ + Builtin.bitXor 493 (x / 3 % 4096))) / 4096 = 4 ∨ (Int.toNat (_ + Builtin.bitXor 493 (x / 3 % 4096))) / 4096 = 8 ∨ (Int.toNat (_ + Builtin.bitXor 493 (x / 3 % 4096))) / 4096 = 10
    rw [hy]
    rcases h3 with h | h | h <;> rw [h]
    · exact .inl (div_at 4 hz)
    · exact .inr (.inl (div_at 8 hz))
    · exact .inr (.inr (div_at 10 hz))
  · show Int.toNat (_ + Builtin.bitXor 493 (x / 3 % 4096)) < 65536
    rw [hy]
    rcases h3 with h | h | h <;> rw [h]
    · exact Nat.lt_of_lt_of_le (Nat.add_lt_add_left hz 16384) (by decide)
    · exact Nat.lt_of_lt_of_le (Nat.add_lt_add_left hz 32768) (by decide)
    · exact Nat.lt_of_lt_of_le (Nat.add_lt_add_left hz 40960) (by decide)
theorem mk_ok {ns : List Int} (h : ns.length ≤ 9) : NdsOk (mkNodes ns) ∧ (∀ (i : Nat) (p : Nd), (mkNodes ns)[i]? = some p → Kind p.2.1) ∧ ∀ p ∈ mkNodes ns, p.1 < 2 ^ 30 ∧ p.2.1 < 2 ^ 30 ∧ p.2.2 < 2 ^ 30 := by
  have hl : (mkNodes ns).length ≤ 9 := by rw [mkNodes_len]; exact h
  refine ⟨⟨hl, fun i p hp => ?_⟩, fun i p hp => ?_, fun p hp => ?_⟩
  · obtain ⟨x, rfl⟩ := mk_at hp
    exact ⟨(node_ok i x).1, (node_ok i x).2.1⟩
  · obtain ⟨x, rfl⟩ := mk_at hp
    exact (node_ok i x).2.2.1
  · obtain ⟨i, hi⟩ := List.getElem?_of_mem hp
    have hlt := (List.getElem?_eq_some_iff.mp hi).1
    obtain ⟨x, rfl⟩ := mk_at hi
    have := node_ok i x
    refine ⟨by omega, by omega, by omega⟩
end Mine
namespace Mine
open PySem PySem.W PySem.Calls PyProof.Rows
theorem words_LA1 : PySem.Challenge.rw_ik0046_01 = PySem.Challenge.rw_ik0046_01 ∧ hook0.heap_1 = hook0.heap_1 := by
  k_with_none
  k_fill
  k_with "m_intro" => intro prog mean mg mb cn cs a ccd cl outer A₀ base h₀ L m s Q E B F X T hk hpre hret
  k_with "m_enter" => (
    (case k6 => k_dflt k_is); (case k7 => k_dflt k_is); (case k8 => exact Nat.le_of_ble_eq_true rfl); (case k9 => exact rfl); (case c5 => decide); (case kB => exact locs rfl); (case c2 => exact rfl); (case c3 => exact rfl); (case c4 => exact rfl)
    k_whole
    intro L' h' tk F' N' B' X' T' e₁ A₁
    (try dsimp only)
    (try dsimp only [List.reverse, List.reverseAux] at F')
    (try k_fold))
  k_with "m_enterR" => (
    (case k6 => k_dflt k_is); (case k7 => k_dflt k_is); (case k8 => exact Nat.le_of_ble_eq_true rfl); (case kP => exact rfl); (case kG => exact fun _ => rfl); (case c5 => decide); (case kB => exact fun _ => locs rfl); (case c2 => exact rfl); (case c3 => exact rfl); (case c4 => exact rfl)
    k_whole
    intro D' L' h' tk F' N' B' X' T' e₁ A₁
    (try dsimp only)
    (try dsimp only [List.reverse, List.reverseAux] at F')
    (try k_fold))
  k_with "m_name" => k_dflt (refine' ld ?k1 ?k2 ?_; (case k1 => k_asm); (case k2 => first | exact rfl | assumption); k_whole)
  k_with "m_append" => (
    k_dflt (refine' m_append ?k1 ?k2 ?k3 ?k4 ?_; (case k1 => k_asm); (case k2 => k_asm); (case k3 => k_mem); (case k4 => first | assumption | omega | decide); k_whole)
    intro h' n' F' N' hl' hs' ht'
    (try k_sweep))
  k_with "m_mem" => first | assumption | exact List.Mem.head _ | (refine List.mem_cons_of_mem _ ?_; k_mem) | (refine List.mem_append_right _ ?_; k_mem) | (refine List.mem_append_left _ ?_; k_mem)
  k_with "m_fold" => ((with_reducible show wpAny _ _ _ _ _ _); k_fold)
  k_with "m_steps" => (repeat' (first
    | (k_unfold; (try dsimp only)) | (k_end; wrow_close)
    | ((with_reducible show wpAny _ _ (exec _ _) _ _ _); k_fold)
    | ((fail_if_success (with_reducible show wpAny _ _ (exec (Stmt.For _ _ _ _ _) _) _ _ _)); (fail_if_success (with_reducible show wpAny _ _ (exec (Stmt.While _ _ _ _) _) _ _ _)); first | (walk1; (try dsimp only)) | (dsimp only; walk1))))
  k_with "m_div" => ((with_reducible show wpAny _ _ (binaryOp Operator.FloorDiv (Value.int _ _) (Value.int _ _)) _ _ _); k_dflt (refine' fdiv_e ?k1 ?_; (case k1 => first | decide | omega); k_whole))
  k_with "m_mod" => ((with_reducible show wpAny _ _ (binaryOp Operator.Mod (Value.int _ _) (Value.int _ _)) _ _ _); k_dflt (refine' fmod_e ?k1 ?_; (case k1 => first | decide | omega); k_whole))
  k_with "m_for" => (with_unfolding_all refine m_for ?_ (fun _ => rfl))
  k_with "m_use" => (
    (with_reducible show wpAny _ _ (call (Value.ref 101) [Value.str _ _]) _ _ _)
    k_dflt (refine' Gives.use (fspath _ _ _) ?k1 ?k2 ?k3 ?k4 ?k5 ?k6 ?k7 ?k8 ?kp ?_; (case k1 => k_asm); (case k2 => k_asm); (case k3 => k_asm); (case k4 => k_asm); (case k5 => k_asm); (case k6 => exact rfl); (case k7 => exact Nat.le_of_ble_eq_true rfl); (case k8 => exact Nat.le_of_ble_eq_true rfl); (case kp => trivial); k_whole)
    intro r' n' h' tk' F' N' hz' hr'
    (try ((with_reducible show wpAny _ _ _ _ _ _); k_fold))
    obtain ⟨hs', t', e'⟩ := hr'
    subst hs' e'
    (try clear hz')
    (try simp only [List.nil_append] at N')
    (try dsimp only)
    (try k_sweep))
  k_with "m_use" => (
    (with_reducible show wpAny _ _ (call (Value.ref 115) [Value.str _ _]) _ _ _)
    k_dflt (refine' Gives.use (getsep _ _ _) ?k1 ?k2 ?k3 ?k4 ?k5 ?k6 ?k7 ?k8 ?kp ?_; (case k1 => k_asm); (case k2 => k_asm); (case k3 => k_asm); (case k4 => k_asm); (case k5 => k_asm); (case k6 => exact rfl); (case k7 => exact Nat.le_of_ble_eq_true rfl); (case k8 => exact Nat.le_of_ble_eq_true rfl); (case kp => trivial); k_whole)
    intro r' n' h' tk' F' N' hz' hr'
    (try ((with_reducible show wpAny _ _ _ _ _ _); k_fold))
    obtain ⟨hs', t', e'⟩ := hr'
    subst hs' e'
    (try clear hz')
    (try simp only [List.nil_append] at N')
    (try dsimp only)
    (try k_sweep))
  k_with "m_use" => (
    (with_reducible show wpAny _ _ (call (Value.ref 143) [Value.int _ _]) _ _ _)
    k_dflt (refine' Gives.use (sifmt _ _ _) ?k1 ?k2 ?k3 ?k4 ?k5 ?k6 ?k7 ?k8 ?kp ?_; (case k1 => k_asm); (case k2 => k_asm); (case k3 => k_asm); (case k4 => k_asm); (case k5 => k_asm); (case k6 => exact rfl); (case k7 => exact Nat.le_of_ble_eq_true rfl); (case k8 => exact Nat.le_of_ble_eq_true rfl); (case kp => trivial); k_whole)
    intro r' n' h' tk' F' N' hz' hr'
    (try ((with_reducible show wpAny _ _ _ _ _ _); k_fold))
    obtain ⟨hs', t', e'⟩ := hr'
    subst hs' e'
    (try clear hz')
    (try simp only [List.nil_append] at N')
    (try dsimp only)
    (try k_sweep))
  k_with "m_stepsL" => (repeat' (first
    | (k_unfold; (try dsimp only)) | (k_end; wrow_close)
    | ((with_reducible show wpAny _ _ (exec _ _) _ _ _); k_fold)
    | ((fail_if_success (with_reducible show wpAny _ _ (call (Value.ref 190) _) _ _ _)); (fail_if_success (with_reducible show wpAny _ _ (call (Value.ref 202) _) _ _ _)); (fail_if_success (with_reducible show wpAny _ _ (call (Value.ref 216) _) _ _ _)); (fail_if_success (with_reducible show wpAny _ _ (call (Value.ref 223) _) _ _ _)); (fail_if_success (with_reducible show wpAny _ _ (call (Value.ref 235) _) _ _ _)); (fail_if_success (with_reducible show wpAny _ _ (binaryOp Operator.Add (Value.ref _) (Value.ref _)) _ _ _)); (fail_if_success (with_reducible show wpAny _ _ (compareOp _ (Value.ref _) (Value.ref _)) _ _ _)); first | (walk1; (try dsimp only)) | (dsimp only; walk1))))
  exact ⟨rfl, rfl⟩
theorem named_ints {P : Prop} {vs : List Value} {ns : List Int} (hI : IntsAre vs ns) (h : ∀ vs' ns', vs' = vs → ns' = ns → P) : P := h vs ns rfl rfl
theorem named_list {P : Prop} {hp : Heap} {l : Addr} {vs : Array Value} (hI : hp.IsList l vs) (h : ∀ l', l' = l → P) : P := h l rfl
theorem named_news {P : Prop} {hp h : Heap} {l : Addr} {n : Led} (hI : News hp l h n) (k : ∀ h', h' = h → P) : P := k h rfl
set_option maxRecDepth 100000 in
set_option maxHeartbeats 8000000 in
theorem law_ok : PySem.Challenge.rw_ik0046_01.Holds := by
  refine hd ?_
  rw [says_eq]
  k_go0
  (show wpAny _ _ _ _ _ _)
  k_fold
  rename IntsAre _ _ => hI
  rename Heap.IsList _ _ _ => hL
  rename Below _ _ _ _ => K0
  rename (¬ _ < _) => hlen
  refine named_ints hI ?_
  rintro vs ns rfl rfl
  refine named_list hL ?_
  rintro l rfl
  have hz63 : ns.length ≤ 63 := by omega
  k_extra "m_stepsL"
  rename Fr _ _ _ _ => F1
  rename News _ _ _ _ => N1
  refine item_to5 (F1.push _) (News.push F1 N1 _ rfl) hL (.head _) (by have e := hI.length; omega) fun D1 h1 F2 N2 => ?_
  clear F1 N1
  (try dsimp only)
  k_extra "m_stepsL"
  have ht5 : (vs.take 5).length ≤ 5 := by rw [List.length_take]; omega
  refine add_lists (vs := [.int 0 _, .int 70 _, .int 4100 _, .int 262150 _]) (ws := vs.take 5) (hsz := Nat.le_trans (Nat.add_le_add_left ht5 4) (by decide)) F2 N2 (News.isList N2 (.tail _ (.tail _ (.head _)))) (News.isList N2 (.head _)) fun h9 F9 N9 => ?_
  clear F2 N2
  (try dsimp only)
  k_extra "m_stepsL"
  have hI4 : ∀ a b c d, IntsAre ([.int 0 a, .int 70 b, .int 4100 c, .int 262150 d] ++ vs.take 5) ([0, 70, 4100, 262150] ++ ns.take 5) := fun _ _ _ _ => .cons 0 _ (.cons 70 _ (.cons 4100 _ (.cons 262150 _ (IntsAre.take5 5 hI))))
  have hn9 : ([0, 70, 4100, 262150] ++ ns.take 5 : List Int).length ≤ 9 := by rw [List.length_append, List.length_take]; show 4 + _ ≤ 9; omega
  obtain ⟨hok, hkd, hs30⟩ := mk_ok hn9
  generalize hps : mkNodes ([0, 70, 4100, 262150] ++ ns.take 5) = ps at hok hkd hs30
  obtain ⟨ta, tb, tc, td, hLs⟩ : ∃ ta tb tc td, Heap.IsList h9 h1.objs.size ([Value.int 0 ta, .int 70 tb, .int 4100 tc, .int 262150 td] ++ vs.take 5).toArray := ⟨_, _, _, _, News.isList N9 (.head _)⟩
  refine' Gives.use (nodes_says _ _ _ _ (hI4 ta tb tc td) hn9) ?k1 ?k2 ?k3 ?k4 ?k5 ?k6 ?k7 ?k8 ?kp ?_; (case k1 => k_asm); (case k2 => k_asm); (case k3 => k_asm); (case k4 => k_asm); (case k5 => k_asm); (case k6 => exact rfl); (case k7 => exact Nat.le_of_ble_eq_true rfl); (case k8 => exact Nat.le_of_ble_eq_true rfl); (case kp => exact hLs)
  k_whole
  rintro _ n3 h3 tk3 F3 N3 hz3 ⟨lD, xsD, cD, rfl, hmD, hdD⟩
  rw [hps] at hdD
  k_extra "m_stepsL"
  rename Fr _ _ _ _ => F4
  rename News _ _ _ _ => N4
  refine' Gives.use (octets_says _ lD xsD ps hok.1 hs30) ?k1 ?k2 ?k3 ?k4 ?k5 ?k6 ?k7 ?k8 ?kp ?_; (case k1 => k_asm); (case k2 => k_asm); (case k3 => k_asm); (case k4 => k_asm); (case k5 => k_asm); (case k6 => exact rfl); (case k7 => exact Nat.le_of_ble_eq_true rfl); (case k8 => exact Nat.le_of_ble_eq_true rfl); (case kp => exact ⟨News.isList N4 (List.mem_append_left _ hmD), (hdD.mono fun q hq _ => List.mem_append_left _ hq).at N4⟩)
  k_whole
  rintro _ n5 h5 tk5 F5 N5 hz5 ⟨b, tby, rfl, hat⟩
  k_extra "m_stepsL"
  refine' read_use _ b tby ps hat hok.1 hs30 ?k1 ?k2 ?k3 ?k4 ?k5 ?k6 (Nat.le_of_ble_eq_true rfl) (Nat.le_of_ble_eq_true rfl) ?_; (case k1 => exact K0); (case k2 => k_asm); (case k3 => k_asm); (case k4 => k_asm); (case k5 => exact rfl); (case k6 => k_asm)
  k_whole
  rintro _ n6 h6 tk6 F6 N6 hk6 ⟨tp, nv, lF, xsF, cF, rfl, hmT, hmF, hdF⟩
  have hmD6 := hk6 _ (List.mem_append_right _ (List.mem_append_left _ hmD))
  have hdD6 : NdsIn n6 xsD ps := hdD.mono fun q hq _ => hk6 q (List.mem_append_right _ (List.mem_append_left _ hq))
  clear hk6 hdD
  k_extra "m_stepsL"
  rename News _ _ _ _ => N7
  refine ne_nodes N7 hmF hmD6 hdF hdD6 (by units_room) ?_
  k_extra "m_stepsL"
  rename News _ _ _ _ => N10
  refine' Gives.use (listed_says _ lF xsF ps hok) ?k1 ?k2 ?k3 ?k4 ?k5 ?k6 ?k7 ?k8 ?kp ?_; (case k1 => k_asm); (case k2 => k_asm); (case k3 => k_asm); (case k4 => k_asm); (case k5 => k_asm); (case k6 => exact rfl); (case k7 => exact Nat.le_of_ble_eq_true rfl); (case k8 => exact Nat.le_of_ble_eq_true rfl); (case kp => exact ⟨News.isList N10 hmF, hdF.at N10⟩)
  k_whole
  rintro _ n8 h8 tk8 F8 N8 hz8 ⟨lR, xsR, cR, rfl, hmR, hrR⟩
  k_extra "m_stepsL"
  rename News _ _ _ _ => N11
  have hmD8 : (lD, listOf xsD.toArray cD) ∈ n8 ++ n6 := List.mem_append_right _ hmD6
  have hdD8 : NdsIn (n8 ++ n6) xsD ps := hdD6.mono fun q hq _ => List.mem_append_right _ hq
  refine' Gives.use (told_says _ lD xsD ps hok hkd) ?k1 ?k2 ?k3 ?k4 ?k5 ?k6 ?k7 ?k8 ?kp ?_; (case k1 => k_asm); (case k2 => k_asm); (case k3 => k_asm); (case k4 => k_asm); (case k5 => k_asm); (case k6 => exact rfl); (case k7 => exact Nat.le_of_ble_eq_true rfl); (case k8 => exact Nat.le_of_ble_eq_true rfl); (case kp => exact ⟨News.isList N11 hmD8, hdD8.at N11⟩)
  k_whole
  rintro _ n12 h12 tk12 F12 N12 hz12 ⟨lT, xsT, cT, rfl, hmTo, hrT⟩
  k_extra "m_stepsL"
  rename News _ _ _ _ => N13
  rw [rows_eq (fun p hp => by obtain ⟨i, hi⟩ := List.getElem?_of_mem hp; exact hkd i p hi)] at hrR
  refine eq_rows N13 (List.mem_append_right _ (List.mem_append_left _ hmR)) (List.mem_append_left _ hmTo) (hrR.mono (RowIn.mono fun q hq _ => List.mem_append_right _ (List.mem_append_left _ hq))) (hrT.mono (RowIn.mono fun q hq _ => List.mem_append_left _ hq)) (rows_ok ps) (by units_room) ?_
  k_extra "m_stepsL"
end Mine
theorem PySem.Challenge.cw_ik0046_01_holds : PySem.Challenge.rw_ik0046_01.Holds := by
  exact Mine.law_ok
