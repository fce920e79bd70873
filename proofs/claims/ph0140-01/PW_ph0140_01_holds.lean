import PyProof.Rows.All
import Wide.All
import OpenK.AllK
import Wide.FinOn
import Lean
import PySem.Challenge.RW_ph0140_01
open PySem PySem.W PyProof.Rows
set_option Elab.async false
set_option maxRecDepth 100000
set_option maxHeartbeats 40000000
namespace Mine
open_top hd for PySem.Challenge.rw_ph0140_01
end Mine
open PySem.Calls PySem.Spec
namespace Mine

section
variable {prog : Program} {w : World} {A A₀ : Around} {s : Shared} {K : Frag} {L : Addr} {h₀ base : Heap} {m mg mb : Str → Option Value} {p : Program} {loose : List Str} {mean : ExcName → Option Value}

theorem stays_fr {h h' : Heap} (F : Fr h₀ L h m) (st : h.StaysIn h') : Fr h₀ L h' m :=
  let ⟨oL, es, ep, hL, r⟩ := F.ns; ⟨⟨oL, es, ep, st _ _ hL, r⟩, fun b o e => st _ _ (F.keep b o e), F.above⟩
theorem stays_news {h h' : Heap} {news : List (Addr × Obj)} (N : News h₀ L h news) (st : h.StaysIn h') : News h₀ L h' news :=
  fun q hq => ⟨st _ _ (N q hq).1, (N q hq).2⟩
theorem code_def0 {env : Env} {outer : List Env} {R : Result → Shared → Prop} {name qual : Str} {params : Arguments} {body : List Stmt} {scope : Scope} {dV kV doc pm cdv ct oc : Value} {an od : Option Addr} {osl : Array (Option Value)} {f : Addr} {args : Args} {binds : List (Str × Value)}
    (B : Below A₀ base outer h₀) (F : Fr h₀ L s.heap m) (X₀ : K.In h₀) (T : Top p loose mean mg mb h₀) (hA : A.frames = some (env :: outer)) (hf : env.frame = some L) (hke : env.scope.kind = .function)
    (ho : K.lookup f = some ⟨oc, od, .func (fnOf name qual params body scope dV kV doc pm an cdv ct), osl⟩) (hcd : codeIn K cdv qual = true) (hroom : A.depth < recursionLimit)
    (hbind : BindsTo s (fnOf name qual params body scope dV kV doc pm an cdv ct) args binds) (hloc : ∀ y ∈ binds, scope.names.lookup y.1 = some .local)
    (h : ∀ L' (s₁ : Shared) (Qz : Flow → Shared → Prop), (∀ fl h' tk', s.heap.StaysIn h' → R (.ok (.ret (match fl with | .ret v => v | _ => .none))) { s with heap := h', toks := tk' } → Qz fl { s₁ with heap := h', toks := tk' }) → Fr s.heap L' s₁.heap (fun y => binds.reverse.lookup y) → News s.heap L' s₁.heap [] → Below A base (env :: outer) s.heap → K.In s.heap → Top p loose mean mg mb s.heap →
      wpAny (model prog w) (A.deeper (envOf qual scope L' f cdv)) (execs body (envOf qual scope L' f cdv))
        Qz (fun _ _ => False) s₁)
    (hco : scope.isCoroutine = false) (hgen : scope.isGenerator = false) (hk : scope.kind = .function)
    (hcell : ∀ x ∈ scope.names, x.2 ≠ .cell) : codeAny (model prog w) A (.call (.ref f) args) R s := by
  have N : News h₀ L s.heap [] := News.nil
  obtain ⟨FG, BG, st, lv⟩ := groundX (R := R) B F N hA hf hke
  refine codeAny_call_def (fd := fnX name qual params body scope [] dV kV doc pm an cdv ct) (body := body) (binds := binds) hroom (F.keep _ _ (X₀ _ _ ho)) rfl (T.nolimit.keeps F.keep) (codeRec_of (X₀.keeps F.keep) hcd) rfl hbind hcell hloc (fun h₁ hns hk₁ => ?_) hco hgen hk
  exact wpAny_mono (h s.heap.objs.size { s with heap := h₁, toks := s.toks + binds.length } (fun fl s' => R (.ok (.ret (match fl with | .ret v => v | _ => .none))) s') (fun _ _ _ _ r => r) ⟨hns, fun b o e => hk₁ b o e, Nat.le_refl _⟩ News.nil BG (X₀.keeps st) (T.keeps st)) (fun _ _ r => r) fun _ _ y => y.elim
end

noncomputable abbrev Surr (w : World) (p : Program) (loose : List Str) (mean : ExcName → Option Value) (mg mb : Str → Option Value) (dp un : Nat) (cs : Scope) (outer : List Env) (A₀ : Around) (base h₀ : Heap) (L : Addr) (m : Str → Option Value) (s : Shared) (d u : Nat) (P : Prop) : Prop :=
  Below A₀ base outer h₀ → Fr h₀ L s.heap m → (Mine.hd.heap_39 w.params).In h₀ → Top p loose mean mg mb h₀ → cs.kind = .function → dp + d < recursionLimit → un + u < cLine → P

/-- the contract of a def that changes nothing that stood: called at f with vs, where Pre holds of the heap, it ends with a value and a heap of which Post holds. -/
noncomputable def Does (w : World) (f : Addr) (vs : List Value) (d u : Nat) (Pre : Heap → Prop) (Post : Heap → Value → Heap → Prop) : Prop :=
  ∀ (p : Program) (loose : List Str) (mean : ExcName → Option Value) (mg mb : Str → Option Value) (dp un : Nat) (gd : Option (List Code)) (cn : Str) (cs : Scope) (a : Addr) (ccd : Value) (cl : List (Str × Addr)) (outer : List Env) (A₀ : Around) (base h₀ : Heap) (L : Addr) (m : Str → Option Value) (s : Shared) (Q E : Value → Shared → Prop),
    Surr w p loose mean mg mb dp un cs outer A₀ base h₀ L m s d u (Pre s.heap →
      (∀ v h' tk', s.heap.StaysIn h' → Post s.heap v h' → Q v { s with heap := h', toks := tk' }) →
      wpAny (model PySem.Challenge.rw_ph0140_01.row.prog w) (ktrTop dp un gd cn cs L a ccd cl outer) (call (.ref f) vs) Q E s)
end Mine
namespace Mine
/-- the text of these signs -/
noncomputable def T (l : List Nat) : Str := ⟨l.toArray⟩
theorem T_cps (l : List Nat) : (T l).cps.toList = l := rfl
theorem T_of (x : Str) : T x.cps.toList = x := by cases x; simp [T]
theorem T_inj {a b : List Nat} : T a = T b ↔ a = b := ⟨fun h => by have := congrArg (fun x : Str => x.cps.toList) h; simpa [T] using this, fun h => by rw [h]⟩
theorem T_append (a b : List Nat) : T a ++ T b = T (a ++ b) := by
  refine Str.ext' ?_
  rw [Str.cps_append]; simp [T]
theorem T_length (a : List Nat) : (T a).length = a.length := by simp [T, Str.length]
theorem T_mul (c : Nat) (n : Int) : Txt.mul (T [c]) n = T (List.replicate n.toNat c) := by
  have h := mul_one_list c n
  rw [← T_of (Txt.mul (T [c]) n)]
  exact congrArg T h
theorem T_blank : Str.ofString " " = T [32] := by decide +kernel
theorem T_tab : Str.ofString "\t" = T [9] := by decide +kernel
theorem T_nil : Str.ofString "" = T [] := by decide +kernel
theorem T_x : Str.ofString "x" = T [120] := by decide +kernel
end Mine
namespace Mine

noncomputable def leadPiece (x : Int) : List Nat := List.replicate (x.fmod 6).toNat 32 ++ (if (x.fdiv 6).fmod 3 = 0 then [] else [9])
noncomputable def leadOf (l : List Int) : List Nat := l.flatMap leadPiece
theorem leadOf_snoc (l : List Int) (x : Int) : leadOf (l ++ [x]) = leadOf l ++ leadPiece x := by simp [leadOf]

theorem fmod6 (x : Int) : 0 ≤ x.fmod 6 ∧ x.fmod 6 < 6 := by
  have := fdiv_fmod_facts x 6
  (first | lia | omega)
theorem len_mul6 (x : Int) : (Txt.mul (Str.ofString " ") (x.fmod 6)).length ≤ 5 := by
  rw [T_blank, T_mul, T_length, List.length_replicate]
  have := fmod6 x
  (first | lia | omega)
theorem lead_a {a : Str} {pre : List Int} {x : Int} (h : a = T (leadOf pre)) (hz : (x.fdiv 6).fmod 3 ≠ 0) : a ++ Txt.mul (Str.ofString " ") (x.fmod 6) ++ Str.ofString "\t" = T (leadOf (pre ++ [x])) := by
  rw [h, T_blank, T_tab, T_mul, T_append, T_append, leadOf_snoc, leadPiece, if_neg hz, List.append_assoc]
theorem lead_b {a : Str} {pre : List Int} {x : Int} (h : a = T (leadOf pre)) (hz : (x.fdiv 6).fmod 3 = 0) : a ++ Txt.mul (Str.ofString " ") (x.fmod 6) ++ Str.ofString "" = T (leadOf (pre ++ [x])) := by
  rw [h, T_blank, T_nil, T_mul, T_append, T_append, leadOf_snoc, leadPiece, if_pos hz, List.append_assoc]
theorem lead_len (l : List Int) : (T (leadOf l)).length ≤ 6 * l.length := by
  rw [T_length]
  induction l with
  | nil => simp [leadOf]
  | cons x r ih =>
    have := fmod6 x
    have e : leadOf (x :: r) = leadPiece x ++ leadOf r := by simp [leadOf]
    have e2 : (leadPiece x).length ≤ 6 := by
      unfold leadPiece
      rw [List.length_append, List.length_replicate]
      split <;> simp <;> (first | lia | omega)
    rw [e, List.length_append, List.length_cons]
    (first | lia | omega)

local macro_rules | `(tactic| walk_at "binaryOp Add str str") => `(tactic| (refine PyProof.Rows.add_str (fun t' tk' => ?_) ?hsz; rotate_left; (case hsz => (rw [sizeLine_eq]; (try simp only [Str.length_append]); (try have := len_mul6 (by assumption)); (try rw [show (Str.ofString "\t").length = 1 from by decide +kernel]); (try rw [show (Str.ofString "").length = 0 from by decide +kernel]);  omega)); dsimp only))

theorem lead_does (w : World) (l : Addr) (vs : List Value) (ns : List Int) (hi : IntsAre vs ns) (hn : ns.length ≤ 7) :
    Does w 115 [.ref l] 2 16 (fun h => h.IsList l vs.toArray) (fun _ v _ => ∃ t, v = .str (T (leadOf ns)) t) := by
  unfold Does Surr
  k_fill
  intro p loose mean mg mb dp un gd cn cs a ccd cl outer A₀ base h₀ L m s Q E B F X T hk hd hu hl ret
  refine wpAny_call ?_
  k_dflt (refine' code_def0 (binds := [(Str.ofString "numbers", .ref l)]) ?k1 ?k2 ?k3 ?k5 ?kA ?kF ?kK ?k6 ?k7 ?k8 ?k9 ?kB ?_ ?c2 ?c3 ?c4 ?c5)
  ((case kA => exact rfl); (case kF => exact rfl); (case kK => assumption); (case k1 => k_asm); (case k2 => k_asm); (case k3 => k_asm); (case k5 => k_asm); (case k6 => k_is); (case k7 => k_is); (case k8 => ktr_room); (case k9 => exact BindsTo.of_eq rfl); (case c5 => decide); (case kB => exact locs rfl); (case c2 => exact rfl); (case c3 => exact rfl); (case c4 => exact rfl); k_whole; intro L' s₁ Qz hz F' N' B' X' T'; (try dsimp only [List.reverse, List.reverseAux] at F'); (try dsimp only); (try k_fold))
  (rename (∀ (_ : Flow) (_ : Heap) (_ : Nat), _) => hqz)
  k_with "pyIter ref" => k_state (fun pre lead => lead = Mine.T (leadOf pre) ∧ lead.length ≤ 6 * pre.length ∧ pre.length ≤ 7) "lead"
  k_with "state" => ((try dsimp only); first
    | exact ⟨lead_a (by assumption) (by assumption), by rw [lead_a (by assumption) (by assumption)]; exact lead_len _, by simp only [List.length_append, List.length_singleton]; (first | lia | omega)⟩
    | exact ⟨lead_b (by assumption) (by assumption), by rw [lead_b (by assumption) (by assumption)]; exact lead_len _, by simp only [List.length_append, List.length_singleton]; (first | lia | omega)⟩
    | exact ⟨T_nil, by decide, by decide⟩)
  k_steps
  subst_vars
  exact hqz _ _ _ (Fr.keep (by assumption)) (ret _ _ _ (Fr.keep (by assumption)) ⟨_, rfl⟩)
end Mine
namespace Mine
theorem bind_rest {fd : FuncData} {a0 va : Arg} {v : Value} {vs : List Value} (hp : fd.params = { posonlyargs := [], args := [a0], vararg := some va, kwonlyargs := [], kw_defaults := [], kwarg := none, defaults := [] })
    (hd : fd.defaults = .none) : bindArgs fd ⟨v :: vs, []⟩ = (newTuple vs >>= fun t => pure [(a0.arg, v), (va.arg, t)]) := by
  obtain ⟨name, qual, params, body, scope, cl, dV, kV⟩ := fd
  subst hp hd
  unfold bindArgs
  dsimp only [List.map_cons, List.map_nil, List.nil_append, List.append_eq, List.length_cons, List.length_nil, List.zip_cons_cons, List.zip_nil_left, Option.isNone_some, Bool.and_false, Bool.false_eq_true, if_false, List.forIn_nil]
  simp only [seqItems?, List.lookup, beq_self_eq_true]
  simp
  rfl

noncomputable abbrev tupObj (vs : List Value) : Obj := { cls := .type "tuple", data := .seq vs.toArray }

section
variable {prog : Program} {w : World} {A A₀ : Around} {s : Shared} {K : Frag} {L : Addr} {h₀ base : Heap} {m mg mb : Str → Option Value} {p : Program} {loose : List Str} {mean : ExcName → Option Value}
theorem code_rest0 {env : Env} {outer : List Env} {R : Result → Shared → Prop} {name qual : Str} {a0 va : Arg} {body : List Stmt} {scope : Scope} {kV doc pm cdv ct oc : Value} {an od : Option Addr} {osl : Array (Option Value)} {f : Addr} {v : Value} {vs : List Value}
    (B : Below A₀ base outer h₀) (F : Fr h₀ L s.heap m) (X₀ : K.In h₀) (T : Top p loose mean mg mb h₀) (hA : A.frames = some (env :: outer)) (hf : env.frame = some L) (hke : env.scope.kind = .function)
    (ho : K.lookup f = some ⟨oc, od, .func (fnOf name qual { posonlyargs := [], args := [a0], vararg := some va, kwonlyargs := [], kw_defaults := [], kwarg := none, defaults := [] } body scope .none kV doc pm an cdv ct), osl⟩) (hcd : codeIn K cdv qual = true) (hroom : A.depth < recursionLimit)
    (hsz : vs.length ≤ sizeLine)
    (hloc : ∀ D, ∀ y ∈ [(a0.arg, v), (va.arg, Value.ref D)], scope.names.lookup y.1 = some .local)
    (h : ∀ D L' (s₁ : Shared) (Qz : Flow → Shared → Prop), (∀ fl h' tk', s.heap.StaysIn h' → R (.ok (.ret (match fl with | .ret v => v | _ => .none))) { s with heap := h', toks := tk' } → Qz fl { s₁ with heap := h', toks := tk' }) → Fr s.heap L' s₁.heap (fun y => [(a0.arg, v), (va.arg, Value.ref D)].reverse.lookup y) → News s.heap L' s₁.heap [(D, tupObj vs)] → Below A base (env :: outer) s.heap → K.In s.heap → Top p loose mean mg mb s.heap →
      wpAny (model prog w) (A.deeper (envOf qual scope L' f cdv)) (execs body (envOf qual scope L' f cdv))
        Qz (fun _ _ => False) s₁)
    (hco : scope.isCoroutine = false) (hgen : scope.isGenerator = false) (hk : scope.kind = .function)
    (hcell : ∀ x ∈ scope.names, x.2 ≠ .cell) : codeAny (model prog w) A (.call (.ref f) ⟨v :: vs, []⟩) R s := by
  have N : News h₀ L s.heap [] := News.nil
  obtain ⟨FG, BG, st, lv⟩ := groundX (R := R) B F N hA hf hke
  refine codeAny_call_function (fd := fnOf name qual { posonlyargs := [], args := [a0], vararg := some va, kwonlyargs := [], kw_defaults := [], kwarg := none, defaults := [] } body scope .none kV doc pm an cdv ct) (body := body) hroom ((X₀.keeps F.keep) _ _ ho) rfl hco hgen rfl (codeRec_of (X₀.keeps F.keep) hcd) ?_
  rw [bind_rest rfl rfl]
  refine wpAny_bind (wpAny_newObj_type ?_ (by show vs.toArray.size ≤ sizeLine; rw [List.size_toArray]; exact hsz))
  refine wpAny_pure ?_
  have F' : Fr h₀ L (s.heap.push (tupObj vs)) m := F.push _
  have push : ∀ b o, s.heap.get? b = some o → (s.heap.push (tupObj vs)).get? b = some o := fun b o e => Heap.get?_push_of_some _ e
  refine wpAny_newFunctionEnv (s := { s with heap := s.heap.push (tupObj vs) }) hcell (hloc _) (fun h₁ hns hsb => ⟨(T.nolimit.keeps F'.keep).fresh _ hsb, codeAny_func ?_⟩) hk
  have hk₁ : ∀ b o, (s.heap.push (tupObj vs)).get? b = some o → h₁.get? b = some o := fun b o e => hsb.extBut b o (Nat.ne_of_lt (Heap.lt_size e)) (Heap.get?_push_of_some _ e)
  have hD : (s.heap.push (tupObj vs)).get? s.heap.objs.size = some (tupObj vs) := Heap.get?_push_size _ rfl
  have hsz' : (s.heap.push (tupObj vs)).objs.size = s.heap.objs.size + 1 := by simp [Heap.push]
  refine wpAny_mono (h s.heap.objs.size (s.heap.push (tupObj vs)).objs.size { s with heap := h₁, toks := s.toks + 2 } (fun fl s' => R (.ok (.ret (match fl with | .ret v => v | _ => .none))) s') (fun _ _ _ _ r => r) ⟨hns, fun b o e => hk₁ b o (push b o e), by rw [hsz']; exact Nat.le_succ _⟩ ?_ BG (X₀.keeps st) (T.keeps st)) (fun _ _ r => r) fun _ _ y => y.elim
  intro q hq
  rw [List.mem_singleton.mp hq]
  refine ⟨hk₁ _ _ hD, by rw [hsz']; exact Nat.ne_of_lt (Nat.lt_succ_self _), ?_⟩
  cases e : s.heap.get? s.heap.objs.size with
  | none => rfl
  | some o => exact absurd (Heap.lt_size e) (Nat.lt_irrefl _)
end
end Mine
namespace Mine

inductive PairsAre : List Value → List (List Nat × List Nat) → Prop where
  | nil : PairsAre [] []
  | cons (a b : List Nat) (t u : Tok) {vs : List Value} {ps : List (List Nat × List Nat)} (r : PairsAre vs ps) : PairsAre (.str (T a) t :: .str (T b) u :: vs) ((a, b) :: ps)

/-- one put of new for old, as split and join do it -/
noncomputable def putS (x old new : Str) : Str := Txt.join new (Txt.split x old)
noncomputable def replS (x : Str) : List (List Nat × List Nat) → Str
  | [] => x
  | (a, b) :: r => replS (putS x (T a) (T b)) r
noncomputable def fits (x : Str) : List (List Nat × List Nat) → Prop
  | [] => x.length ≤ 100000
  | (a, b) :: r => x.length ≤ 100000 ∧ a ≠ [] ∧ b.length ≤ 16 ∧ fits (putS x (T a) (T b)) r

theorem lk2 {a b : Str} {u v u0 v0 : Value} : (fun y => if y = a then some u else if y = b then some v else List.lookup y [(a, u0), (b, v0)]) = fun y => List.lookup y [(a, u), (b, v)] := by
  funext y
  by_cases h1 : y = a
  · subst h1; simp [List.lookup]
  · by_cases h2 : y = b
    · subst h2
      have h1' : (y == a) = false := by simpa using h1
      simp [List.lookup, h1, h1']
    · have h1' : (y == a) = false := by simpa using h1
      have h2' : (y == b) = false := by simpa using h2
      simp [List.lookup, h1, h2, h1', h2']

noncomputable def ReplJ (x : Str) (ps : List (List Nat × List Nat)) (n : Nat) (m : Str → Option Value) (news : List (Addr × Obj)) : Prop :=
  ∃ x' t' D' vs' ps', n = List.length ps' ∧ PairsAre vs' ps' ∧ replS x' ps' = replS x ps ∧ fits x' ps' ∧ vs'.length ≤ 1000 ∧ (m = fun y => List.lookup y [(Str.ofString "pairs", Value.ref D'), (Str.ofString "text", Value.str x' t')]) ∧ news = [(D', tupObj vs')]

theorem repl_does (w : World) (x : Str) (t : Tok) (vs : List Value) (ps : List (List Nat × List Nat)) (hv : PairsAre vs ps) (hn : vs.length ≤ 1000) (hf : fits x ps) :
    Does w 28 (.str x t :: vs) 2 16 (fun _ => True) (fun _ v _ => ∃ t, v = .str (replS x ps) t) := by
  unfold Does Surr
  k_fill
  intro p loose mean mg mb dp un gd cn cs a ccd cl outer A₀ base h₀ L m s Q E B F X T hk hd hu _ ret
  refine wpAny_call ?_
  k_dflt (refine' code_rest0 ?k1 ?k2 ?k3 ?k5 ?kA ?kF ?kK ?k6 ?k7 ?k8 ?k9 ?kB ?_ ?c2 ?c3 ?c4 ?c5)
  (case kA => exact rfl); (case kF => exact rfl); (case kK => assumption); (case k1 => k_asm); (case k2 => k_asm); (case k3 => k_asm); (case k5 => k_asm); (case k6 => k_is); (case k7 => k_is); (case k8 => ktr_room); (case k9 => (rw [sizeLine_eq]; (first | lia | omega))); (case c5 => decide); (case kB => exact fun _ => locs rfl); (case c2 => exact rfl); (case c3 => exact rfl); (case c4 => exact rfl)
  k_whole; intro D' L' s₁ Qz hz F' N' B' X' T'; (try dsimp only [List.reverse, List.reverseAux] at F'); (try dsimp only); (try k_fold)
  walk1
  refine While_inv2 (ReplJ x ps) (n₀ := ps.length) F' N' ⟨x, t, _, vs, ps, rfl, hv, rfl, hf, hn, rfl, rfl⟩ ?_
  rintro n m₁ news₁ h₁ tk₁ F₁ N₁ ⟨x', t', D', vs', ps', rfl, hv', hr', hf', hn', rfl, rfl⟩
  clear F' N'
  walk1
  walk1
  refine ktl_truthyK N₁ (.head _) hn' ?_
  cases hv' with
  | nil =>
    simp only [List.isEmpty_nil, Bool.not_true, Bool.false_eq_true, if_false]
    k_steps
    change replS x' [] = _ at hr'
    exact hz _ _ _ F₁.keep (ret _ _ _ F₁.keep ⟨_, by rw [← hr']; rfl⟩)
  | cons oa ob ta tb hv' =>
    rename_i vs' ps'
    simp only [List.isEmpty_cons, Bool.not_false, if_true]
    obtain ⟨hx1, ha1, hb1, hf1⟩ := hf'
    have ha2 : ((Mine.T oa).length == 0) = false := by rw [T_length]; cases oa with | nil => exact absurd rfl ha1 | cons _ _ => rfl
    have hi1 : seqIndex? 1 (Value.str (Mine.T oa) ta :: Value.str (Mine.T ob) tb :: vs').length = some 1 := by simp [seqIndex?]; (first | lia | omega)
    have hi0 : seqIndex? 0 (Value.str (Mine.T oa) ta :: Value.str (Mine.T ob) tb :: vs').length = some 0 := by simp [seqIndex?]; (first | lia | omega)
    k_steps
    refine item_tupleT (News.isTup N₁ (.head _)) (by decide) (by decide) hi1 rfl ?_
    k_steps
    refine item_tupleT (News.isTup N₁ (.head _)) (by decide) (by decide) hi0 rfl ?_
    k_steps
    rename_i l2 h2 k2 e1 e2 e3 e4 F2 N2
    have hw := split_weight x' (Mine.T oa) (by rw [T_length]; cases oa with | nil => exact absurd rfl ha1 | cons _ _ => simp)
    rw [← e1] at hw
    refine join_listW e4 e2 (by rw [T_length]; exact hb1) (by (first | lia | omega)) ?_
    intro t9 k9
    rw [e1]
    dsimp only
    k_steps
    rename_i h3 F3 N3
    dsimp only
    refine slice_tuple_from (a := 2) (s := { heap := h3, gens := s₁.gens, drawn := s₁.drawn, toks := tk + 1, os := s₁.os }) F3 N3 (News.isTup N3 (.tail _ (.head _))) (by (first | lia | omega)) (by simp) ?_ (hsz := by rw [sizeLine_eq, List.size_toArray]; exact Nat.le_trans hn' (by decide))
    intro h4 F4 N4
    dsimp only
    k_steps
    rename_i h5 F5 N5
    rw [lk2] at F5
    refine ⟨h5, _, _, [(h3.objs.size + 1, tupObj vs')], ps'.length, rfl, F5, ?_, by simp, _, t9, _, vs', ps', rfl, hv', hr', hf1, ?_, rfl, rfl⟩
    · intro q hq
      rw [List.mem_singleton.mp hq]
      exact N5 _ (.head _)
    · simp only [List.length_cons] at hn'; (first | lia | omega)
end Mine
namespace Mine
section
variable {prog : Program} {w : World} {A : Around} {E : Value → Shared → Prop} {s : Shared} {env : Env} {h₀ : Heap} {x : Str} {body : List Stmt} {Q : Flow → Shared → Prop}

theorem loop_at {I : Addr} {n : Nat} {P : Nat → Value → Prop} {St : Nat → Heap → Prop} {m₀ : Str → Option Value} {news : List (Addr × Obj)} (J : Nat → (Str → Option Value) → List (Addr × Obj) → Prop)
    (W : Walks prog w A I [I] [I] n P St) (hL : env.locals ≠ I) (hI : h₀.get? I = none) (hnw : ∀ p ∈ news, p.1 ≠ I) (hst : St 0 s.heap) (hlive : ∀ i h, St i h → ∃ o, h.get? I = some o) (F : Fr h₀ env.locals s.heap m₀) (N : News h₀ env.locals s.heap news) (hj : J 0 m₀ news)
    (turn : ∀ i v m₁ news₁ (s₁ : Shared) io (Qt : Flow → Shared → Prop), (∀ h' tk m₂ news₂, Fr h₀ env.locals h' m₂ → News h₀ env.locals h' (io :: news₂) → (∀ p ∈ news₂, p.1 ≠ io.1) → J (i + 1) m₂ news₂ → Qt .next { s₁ with heap := h', toks := tk }) → (∀ h' tk, Q .next { s with heap := h', toks := tk } → Qt .brk { s₁ with heap := h', toks := tk }) → (∀ v h' tk, Q (.ret v) { s with heap := h', toks := tk } → Qt (.ret v) { s₁ with heap := h', toks := tk }) → i < n → P i v → io.1 = I → J i m₁ news₁ → (∀ p ∈ news₁, p.1 ≠ I) → Fr h₀ env.locals s₁.heap (fun y => if y = x then some v else m₁ y) → News h₀ env.locals s₁.heap (io :: news₁) →
      wpAny (model prog w) A (execs body env) Qt E s₁)
    (done : ∀ m₁ news₁ h tk, J n m₁ news₁ → Fr h₀ env.locals h m₁ → News h₀ env.locals h news₁ → Q .next { s with heap := h, toks := tk }) :
    LoopAtV prog w A h₀ env x body Q E (.ref I) s := by
  refine ⟨I, [I], [I], n, P, St, m₀, news, J, rfl, W, fun h => hL (List.mem_singleton.mp h), fun b hb => by rw [List.mem_singleton.mp hb]; exact hI, fun p hp h => hnw p hp (List.mem_singleton.mp h), hst, F, N, hj, ?_, ?_⟩
  · rintro i v m₁ news₁ s₁ own ⟨hh', tk', rfl⟩ hin hP hJ hoff hown hget hall hst₁ F₁ N₁
    obtain ⟨oI, ho⟩ := hlive _ _ hst₁
    have hmem : (I, oI) ∈ own := hall I (List.mem_singleton.mpr rfl) hI oI ho
    have hone : ∀ p ∈ own, p = (I, oI) := fun p hp => by
      have h1 : p.1 = I := List.mem_singleton.mp (hown p hp)
      have h2 := hget p hp
      rw [h1, ho] at h2
      exact Prod.ext h1 (Option.some.inj h2).symm
    have N₂ : News h₀ env.locals hh' ((I, oI) :: news₁) := fun p hp => N₁ p ((List.mem_cons.mp hp).elim (fun h => List.mem_append.mpr (.inl (h ▸ hmem))) fun h => List.mem_append.mpr (.inr h))
    have fin : ∀ s₂ : Shared, (∃ h' tk m₂ news₂, s₂ = { s with heap := h', toks := tk } ∧ Fr h₀ env.locals h' m₂ ∧ News h₀ env.locals h' ((I, oI) :: news₂) ∧ (∀ p ∈ news₂, p.1 ≠ I) ∧ J (i + 1) m₂ news₂) → LoopStepU h₀ env.locals [I] own (J (i + 1)) { s with heap := hh', toks := tk' } .next s₂ := by
      rintro s₂ ⟨h', tk, m', nx, e, F', N', ha, hm⟩
      refine ⟨rfl, h', tk, m', nx, e, F', fun p hp => N' p ((List.mem_append.mp hp).elim (fun h => ?_) fun h => .tail _ h), fun p hp hq => ha p hp (List.mem_singleton.mp hq), hm⟩
      rw [hone p h]; exact .head _
    exact turn i v m₁ news₁ { s with heap := hh', toks := tk' } (I, oI) _ (fun h' tk m₂ nx F' N' off hJ' => .next (fin _ ⟨h', tk, m₂, nx, rfl, F', N', off, hJ'⟩)) (fun _ _ q => .brk q) (fun _ _ _ q => .ret q) hin hP rfl hJ (fun p hp q => hoff p hp (List.mem_singleton.mpr q)) F₁ N₂
  · rintro h' tk m' news' F' N' _ hJ
    exact done m' news' h' tk hJ F' N'

theorem loop_range {r : Addr} {a₀ b₀ c₀ : Int} {t₀ u₀ v₀ : Tok} {n : Nat} {m₀ : Str → Option Value} {news : List (Addr × Obj)} (J : Nat → (Str → Option Value) → List (Addr × Obj) → Prop)
    (hh : A.handled = none) (hr : IsRange s.heap r a₀ b₀ c₀ t₀ u₀ v₀) (hsmall : Builtin.Range.small a₀ b₀ c₀ = true) (hn : Builtin.Range.rangeSize a₀ b₀ c₀ = (n : Int)) (F : Fr h₀ env.locals s.heap m₀) (N : News h₀ env.locals s.heap news) (hj : J 0 m₀ news)
    (turn : ∀ (i : Nat) t m₁ news₁ (s₁ : Shared) io (Qt : Flow → Shared → Prop), (∀ h' tk m₂ news₂, Fr h₀ env.locals h' m₂ → News h₀ env.locals h' (io :: news₂) → (∀ p ∈ news₂, p.1 ≠ io.1) → J (i + 1) m₂ news₂ → Qt .next { s₁ with heap := h', toks := tk }) → (∀ h' tk, Q .next { s with heap := h', toks := tk } → Qt .brk { s₁ with heap := h', toks := tk }) → (∀ v h' tk, Q (.ret v) { s with heap := h', toks := tk } → Qt (.ret v) { s₁ with heap := h', toks := tk }) → i < n → J i m₁ news₁ → (∀ p ∈ news₁, p.1 ≠ io.1) → Fr h₀ env.locals s₁.heap (fun y => if y = x then some (.int (a₀ + i * c₀) t) else m₁ y) → News h₀ env.locals s₁.heap (io :: news₁) →
      wpAny (model prog w) A (execs body env) Qt E s₁)
    (done : ∀ m₁ news₁ h tk, J n m₁ news₁ → Fr h₀ env.locals h m₁ → News h₀ env.locals h news₁ → Q .next { s with heap := h, toks := tk }) :
    wpAny (model prog w) A (pyIter (.ref r)) (fun it s₂ => LoopAtV prog w A h₀ env x body Q E it s₂) E s := by
  refine wpAny_pyIter_range hr hsmall ?_
  have W := Walks.range (prog := prog) (w := w) hh s.heap.objs.size a₀ c₀ n
  refine loop_at J W (Nat.ne_of_lt F.ns.lt) (next_is_new F) (fun p hp => Nat.ne_of_lt (Heap.lt_size (N p hp).1)) (by show IsRangeIter _ _ _ _ _; rw [hn]; simpa using Heap.get?_push_size _ rfl) (fun _ _ st => ⟨_, st⟩) (F.push _) (fun p hp => ⟨Heap.get?_push_of_some _ (N p hp).1, (N p hp).2⟩) hj ?_ ?_
  · rintro i v m₁ news₁ s₁ io Qt hN hB hR hi ⟨t, rfl⟩ hio hJ hoff F₁ N₁
    exact turn i t m₁ news₁ s₁ io Qt hN hB hR hi hJ (fun p hp => by rw [hio]; exact hoff p hp) F₁ N₁
  · rintro m₁ nx h tk hJ F₁ N₁
    exact done m₁ nx h tk hJ F₁ N₁

theorem loop_str {xt : Str} {tx : Tok} {m₀ : Str → Option Value} {news : List (Addr × Obj)} (J : Nat → (Str → Option Value) → List (Addr × Obj) → Prop)
    (hh : A.handled = none) (F : Fr h₀ env.locals s.heap m₀) (N : News h₀ env.locals s.heap news) (hj : J 0 m₀ news)
    (turn : ∀ (i : Nat) c t m₁ news₁ (s₁ : Shared) io (Qt : Flow → Shared → Prop), (∀ h' tk m₂ news₂, Fr h₀ env.locals h' m₂ → News h₀ env.locals h' (io :: news₂) → (∀ p ∈ news₂, p.1 ≠ io.1) → J (i + 1) m₂ news₂ → Qt .next { s₁ with heap := h', toks := tk }) → (∀ h' tk, Q .next { s with heap := h', toks := tk } → Qt .brk { s₁ with heap := h', toks := tk }) → (∀ v h' tk, Q (.ret v) { s with heap := h', toks := tk } → Qt (.ret v) { s₁ with heap := h', toks := tk }) → xt.cps[i]? = some c → J i m₁ news₁ → (∀ p ∈ news₁, p.1 ≠ io.1) → Fr h₀ env.locals s₁.heap (fun y => if y = x then some (.str ⟨#[c]⟩ t) else m₁ y) → News h₀ env.locals s₁.heap (io :: news₁) →
      wpAny (model prog w) A (execs body env) Qt E s₁)
    (done : ∀ m₁ news₁ h tk, J xt.cps.size m₁ news₁ → Fr h₀ env.locals h m₁ → News h₀ env.locals h news₁ → Q .next { s with heap := h, toks := tk }) :
    wpAny (model prog w) A (pyIter (.str xt tx)) (fun it s₂ => LoopAtV prog w A h₀ env x body Q E it s₂) E s := by
  have turn' : ∀ i v m₁ news₁ (s₁ : Shared) io (Qt : Flow → Shared → Prop), (∀ h' tk m₂ news₂, Fr h₀ env.locals h' m₂ → News h₀ env.locals h' (io :: news₂) → (∀ p ∈ news₂, p.1 ≠ io.1) → J (i + 1) m₂ news₂ → Qt .next { s₁ with heap := h', toks := tk }) → (∀ h' tk, Q .next { s with heap := h', toks := tk } → Qt .brk { s₁ with heap := h', toks := tk }) → (∀ v h' tk, Q (.ret v) { s with heap := h', toks := tk } → Qt (.ret v) { s₁ with heap := h', toks := tk }) → i < xt.cps.size → SignAt xt i v → io.1 = s.heap.objs.size → J i m₁ news₁ → (∀ p ∈ news₁, p.1 ≠ s.heap.objs.size) → Fr h₀ env.locals s₁.heap (fun y => if y = x then some v else m₁ y) → News h₀ env.locals s₁.heap (io :: news₁) →
      wpAny (model prog w) A (execs body env) Qt E s₁ := by
    rintro i v m₁ news₁ s₁ io Qt hN hB hR _ ⟨c, t, hc, rfl⟩ hio hJ hoff F₁ N₁
    exact turn i c t m₁ news₁ s₁ io Qt hN hB hR hc hJ (fun p hp => by rw [hio]; exact hoff p hp) F₁ N₁
  cases ha : xt.cps.all (· < 128)
  · exact wpAny_pyIter_wide ha (loop_at J (Walks.strWide hh _ xt tx) (Nat.ne_of_lt F.ns.lt) (next_is_new F) (fun p hp => Nat.ne_of_lt (Heap.lt_size (N p hp).1)) ⟨_, Heap.get?_push_size _ rfl, rfl, rfl⟩ (fun _ _ st => ⟨_, st.choose_spec.1⟩) (F.push _) (fun p hp => ⟨Heap.get?_push_of_some _ (N p hp).1, (N p hp).2⟩) hj turn' fun m₁ nx h tk hJ F₁ N₁ => done m₁ nx h tk hJ F₁ N₁)
  · exact wpAny_pyIter_ascii ha (loop_at J (Walks.strAscii hh _ xt tx) (Nat.ne_of_lt F.ns.lt) (next_is_new F) (fun p hp => Nat.ne_of_lt (Heap.lt_size (N p hp).1)) ⟨_, Heap.get?_push_size _ rfl, rfl, rfl⟩ (fun _ _ st => ⟨_, st.choose_spec.1⟩) (F.push _) (fun p hp => ⟨Heap.get?_push_of_some _ (N p hp).1, (N p hp).2⟩) hj turn' fun m₁ nx h tk hJ F₁ N₁ => done m₁ nx h tk hJ F₁ N₁)
end
end Mine
namespace Mine
theorem fmodN (q z : Nat) : (q : Int).fmod (z : Int) = ((q % z : Nat) : Int) := by
  rw [Int.fmod_eq_emod_of_nonneg _ (by (first | lia | omega))]; rfl
theorem fdivN (q z : Nat) : (q : Int).fdiv (z : Int) = ((q / z : Nat) : Int) := by
  rw [Int.fdiv_eq_ediv_of_nonneg _ (by (first | lia | omega))]; rfl

/-- the number of texts from place p on to the column c -/
noncomputable def wayN (z c p : Nat) : Int := if p / z < c / z then ((z - p % z + 1 : Nat) : Int) * ((z + 1 : Nat) : Int) ^ (c / z - p / z - 1) else 1

theorem wayN_stop {z c m : Nat} (hz : 1 ≤ z) (h : m < c / z) : wayN z c ((m + 1) * z) = ((z + 1 : Nat) : Int) ^ (c / z - m - 1) := by
  unfold wayN
  rw [Nat.mul_div_cancel _ (by (first | lia | omega)), Nat.mul_mod_left]
  split
  · rename_i h2
    have : c / z - m - 1 = (c / z - (m + 1) - 1) + 1 := by (first | lia | omega)
    rw [this, Int.pow_succ, Int.mul_comm]
    rfl
  · have : c / z - m - 1 = 0 := by (first | lia | omega)
    rw [this]; rfl

theorem way_in {z c q : Nat} (hz : 1 ≤ z) (h : q - q % z + z ≤ c) : wayN z c q = wayN z c (q + 1) + wayN z c (q - q % z + z) := by
  have hq := Nat.div_add_mod q z
  have hj := Nat.mod_lt q (show z > 0 by (first | lia | omega))
  have hst : q - q % z + z = (q / z + 1) * z := by
    rw [Nat.add_mul, Nat.one_mul, Nat.mul_comm (q / z) z]; (first | lia | omega)
  have hm : q / z < c / z := by
    have : q / z + 1 ≤ c / z := (Nat.le_div_iff_mul_le (by (first | lia | omega))).mpr (by (first | lia | omega))
    (first | lia | omega)
  rw [hst, wayN_stop hz hm]
  have e : wayN z c q = ((z - q % z + 1 : Nat) : Int) * ((z + 1 : Nat) : Int) ^ (c / z - q / z - 1) := by unfold wayN; rw [if_pos hm]
  rw [e]
  by_cases h1 : q % z + 1 < z
  · have d1 : (q + 1) / z = q / z := by
      rw [Nat.div_eq_iff (by (first | lia | omega))]
      constructor
      · rw [Nat.mul_comm] ; (first | lia | omega)
      · have := Nat.mul_comm z (q / z); (first | lia | omega)
    have d2 : (q + 1) % z = q % z + 1 := by
      have := Nat.div_add_mod (q + 1) z
      rw [d1] at this; (first | lia | omega)
    have e2 : wayN z c (q + 1) = ((z - (q % z + 1) + 1 : Nat) : Int) * ((z + 1 : Nat) : Int) ^ (c / z - q / z - 1) := by unfold wayN; rw [d1, d2, if_pos hm]
    rw [e2]
    have : ((z - q % z + 1 : Nat) : Int) = ((z - (q % z + 1) + 1 : Nat) : Int) + 1 := by (first | lia | omega)
    rw [this, Int.add_mul, Int.one_mul]
  · have hq1 : q + 1 = (q / z + 1) * z := by rw [← hst]; (first | lia | omega)
    rw [hq1, wayN_stop hz hm]
    have : ((z - q % z + 1 : Nat) : Int) = 2 := by (first | lia | omega)
    rw [this]; (first | lia | omega)
theorem way_out {z c q : Nat} (hz : 1 ≤ z) (hq : q < c) (h : ¬ q - q % z + z ≤ c) : wayN z c q = wayN z c (q + 1) := by
  have hq' := Nat.div_add_mod q z
  have hst : q - q % z + z = (q / z + 1) * z := by
    rw [Nat.add_mul, Nat.one_mul, Nat.mul_comm (q / z) z]; (first | lia | omega)
  have hm : ¬ q / z < c / z := by
    intro hm
    have : (q / z + 1) * z ≤ c := Nat.le_trans (Nat.mul_le_mul_right z hm) (Nat.div_mul_le_self c z)
    (first | lia | omega)
  have hm2 : q / z ≤ (q + 1) / z := Nat.div_le_div_right (by (first | lia | omega))
  unfold wayN
  rw [if_neg hm, if_neg (by (first | lia | omega))]
/-- the middle of a part of two or more -/
theorem mid_in {l r mid n : Nat} (h : l < r) (h1 : (l : Int) + 1 ≠ (r : Int)) (hm : (l + r) / 2 = mid) (hn : r - l = n) : l < mid ∧ mid < r ∧ mid - l < n ∧ r - mid < n := by
  have h3 : l + 1 < r := Nat.lt_of_le_of_ne h fun e => h1 (by rw [← e]; rfl)
  have a : l < mid := hm ▸ (Nat.le_div_iff_mul_le (by decide)).mpr (by rw [Nat.mul_two, show l.succ + l.succ = l + (l + 1 + 1) from Nat.succ_add_eq_add_succ l (l + 1)]; exact Nat.add_le_add_left h3 l)
  have b : mid < r := hm ▸ (Nat.div_lt_iff_lt_mul (by decide)).mpr (by rw [Nat.mul_two]; exact Nat.add_lt_add_right h r)
  exact ⟨a, b, hn ▸ Nat.sub_lt_sub_right (Nat.le_of_lt a) b, hn ▸ Nat.sub_lt_sub_left h a⟩
theorem mid_sum {l r mid : Nat} (h1 : l < mid) (h2 : mid < r) : r - mid + (mid - l) = r - l := Nat.sub_add_sub_cancel (Nat.le_of_lt h2) (Nat.le_of_lt h1)
theorem mid_sum' {l r mid : Nat} (h1 : l < mid) (h2 : mid < r) : mid - l + (r - mid) = r - l := (Nat.add_comm _ _).trans (mid_sum h1 h2)
theorem dep_in {a n j c : Nat} (h : a + (n + 2) < c) (hj : j < n) : a + 1 + (j + 2) < c := by (first | lia | omega)
theorem un_in {a n j c : Nat} (h : a + (8 * n + 16) < c) (hj : j < n) : a + 3 + (8 * j + 16) < c := by (first | lia | omega)
theorem three_len {l a b c k : Nat} (h1 : l < a) (h2 : a < b) (h3 : b ≤ c) (h4 : k = c) : min l k + (a - l) + (k - a) = c := by
  have h5 : a ≤ c := Nat.le_trans (Nat.le_of_lt h2) h3
  rw [h4, Nat.min_eq_left (Nat.le_trans (Nat.le_of_lt h1) h5), Nat.add_sub_cancel' (Nat.le_of_lt h1), Nat.add_sub_cancel' h5]
end Mine
namespace Mine

noncomputable def WaysJ (z c : Nat) (D : Addr) (m₀ : Str → Option Value) (i : Nat) (m : Str → Option Value) (news : List (Addr × Obj)) : Prop :=
  ∃ (uu : Str → Option Value) (vs : List Value) (ns : List Int), (m = fun y => if y = Str.ofString "place" then uu y else if y = Str.ofString "stop" then uu y else m₀ y) ∧ news = [(D, W.listOf vs.toArray 0)] ∧ IntsAre vs ns ∧ ns.length = c + 1 ∧ ∀ q, q ≤ c → c ≤ q + i → ns.getD q 0 = wayN z c q

theorem ways_turn {z c i : Nat} {ns : List Int} {v : Int} (hi : i < c) (hlen : ns.length = c + 1) (hW : ∀ q, q ≤ c → c ≤ q + i → ns.getD q 0 = wayN z c q) (hv : v = wayN z c (c - 1 - i)) :
    (ns.set (c - 1 - i) v).length = c + 1 ∧ ∀ q, q ≤ c → c ≤ q + (i + 1) → (ns.set (c - 1 - i) v).getD q 0 = wayN z c q := by
  refine ⟨by simp [hlen], fun q h1 h2 => ?_⟩
  rw [List.getD_eq_getElem?_getD, List.getElem?_set]
  by_cases h : c - 1 - i = q
  · rw [if_pos h, if_pos (by (first | lia | omega)), hv, ← h]; rfl
  · rw [if_neg h, ← List.getD_eq_getElem?_getD]
    exact hW q h1 (by (first | lia | omega))
theorem two_out {a b : Str} {m₀ u : Str → Option Value} {v1 v2 : Option Value} : (fun y => if y = b then v1 else if y = a then v2 else if y = a then u y else if y = b then u y else m₀ y) = fun y => if y = a then (fun y => if y = b then v1 else v2) y else if y = b then (fun y => if y = b then v1 else v2) y else m₀ y := by
  funext y
  by_cases h1 : y = b <;> by_cases h2 : y = a <;> simp [h1, h2]
theorem ways_v1 {z c i : Nat} {ns : List Int} (hz : 1 ≤ z) (hi : i < c) (hW : ∀ q, q ≤ c → c ≤ q + i → ns.getD q 0 = wayN z c q) (h : ((c - 1 - i : Nat) : Int) - ((c - 1 - i : Nat) : Int).fmod z + z ≤ c) :
    ns.getD (((c - 1 - i : Nat) : Int) + 1).toNat 0 + ns.getD (((c - 1 - i : Nat) : Int) - ((c - 1 - i : Nat) : Int).fmod z + z).toNat 0 = wayN z c (c - 1 - i) := by
  generalize hq : c - 1 - i = q at *
  have hmod := Nat.mod_le q z
  rw [fmodN] at h ⊢
  have e1 : ((q : Int) + 1).toNat = q + 1 := by (first | lia | omega)
  have e2 : ((q : Int) - ((q % z : Nat) : Int) + z).toNat = q - q % z + z := by (first | lia | omega)
  have hlt := Nat.mod_lt q (show z > 0 by (first | lia | omega))
  rw [e1, e2, hW _ (by (first | lia | omega)) (by (first | lia | omega)), hW _ (by (first | lia | omega)) (by (first | lia | omega))]
  exact (way_in hz (by (first | lia | omega))).symm
theorem ways_v2 {z c i : Nat} {ns : List Int} (hz : 1 ≤ z) (hi : i < c) (hW : ∀ q, q ≤ c → c ≤ q + i → ns.getD q 0 = wayN z c q) (h : ¬ ((c - 1 - i : Nat) : Int) - ((c - 1 - i : Nat) : Int).fmod z + z ≤ c) :
    ns.getD (((c - 1 - i : Nat) : Int) + 1).toNat 0 + 0 = wayN z c (c - 1 - i) := by
  generalize hq : c - 1 - i = q at *
  have hmod := Nat.mod_le q z
  rw [fmodN] at h
  have e1 : ((q : Int) + 1).toNat = q + 1 := by (first | lia | omega)
  rw [e1, hW _ (by (first | lia | omega)) (by (first | lia | omega)), Int.add_zero]
  exact (way_out hz (by (first | lia | omega)) (by (first | lia | omega))).symm

theorem ways_does (w : World) (z c : Nat) (t u : Tok) (hz : 1 ≤ z) (hz7 : z ≤ 7) (hc : c ≤ 10000) :
    Does w 122 [.int z t, .int c u] 2 16 (fun _ => True) (fun h v h' => ∃ D vs, v = .ref D ∧ h.get? D = none ∧ h'.get? D = some (W.listOf vs.toArray 0) ∧ IntsAre vs ((List.range (c + 1)).map (wayN z c))) := by
  unfold Does Surr
  k_fill
  intro p loose mean mg mb dp un gd cn cs a ccd cl outer A₀ base h₀ L m s Q E B F X T hk hd hu _ ret
  refine wpAny_call ?_
  k_dflt (refine' code_def0 (binds := [(Str.ofString "size", .int z t), (Str.ofString "column", .int c u)]) ?k1 ?k2 ?k3 ?k5 ?kA ?kF ?kK ?k6 ?k7 ?k8 ?k9 ?kB ?_ ?c2 ?c3 ?c4 ?c5)
  ((case kA => exact rfl); (case kF => exact rfl); (case kK => assumption); (case k1 => k_asm); (case k2 => k_asm); (case k3 => k_asm); (case k5 => k_asm); (case k6 => k_is); (case k7 => k_is); (case k8 => ktr_room); (case k9 => exact BindsTo.of_eq rfl); (case c5 => decide); (case kB => exact locs rfl); (case c2 => exact rfl); (case c3 => exact rfl); (case c4 => exact rfl); k_whole; intro L' s₁ Qz hz F' N' B' X' T'; (try dsimp only [List.reverse, List.reverseAux] at F'); (try dsimp only); (try k_fold))
  (rename (∀ (_ : Flow) (_ : Heap) (_ : Nat), _) => hqz)
  (repeat' ((fail_if_success (with_reducible show wpAny _ _ (pyIter _) _ _ _)); (first | (k_unfold; (try dsimp only)) | (law_purse 100000 => walk1) | (dsimp only; (law_purse 100000 => walk1)))))
  rename_i D0 vs0 h0 hI0 l0 h1 F1 N1 h2 tk2 t1 u1 v1 hr F2 N2 hk2
  have n0 : (List.replicate (c : Int).toNat [(0 : Int)]).flatten ++ [1] = List.replicate c 0 ++ [1] := by simp
  rw [n0] at hI0
  refine loop_range (n := c) (news := [(D0, W.listOf vs0.toArray 0)]) (WaysJ z c D0 (fun y => if y = Str.ofString "ways" then some (Value.ref D0) else List.lookup y [(Str.ofString "column", Value.int (↑c) u), (Str.ofString "size", Value.int (↑z) t)])) rfl hr (small_down (by (first | lia | omega)) (by (first | lia | omega)) (by (first | lia | omega)) (by (first | lia | omega))) (by rw [rangeSize_downNat]; (first | lia | omega)) F2 (fun q hq => N2 q (by rw [List.mem_singleton.mp hq]; exact .head _)) ⟨fun y => if y = Str.ofString "ways" then some (Value.ref D0) else List.lookup y [(Str.ofString "column", Value.int (↑c) u), (Str.ofString "size", Value.int (↑z) t)], vs0, _, by funext y; simp only [ite_self], rfl, hI0, by simp, ?_⟩ ?_ ?_
  · intro q hq hq2
    have : q = c := by (first | lia | omega)
    subst this
    simp [wayN]
  · clear F2 N2 F1 N1
    rintro i tk m₁ news₁ s3 io Qt hN hBk hRt hi ⟨uu, vs, ns, rfl, rfl, hI, hlen, hW⟩ hoff F3 N3
    have ek : ((c : Int) - 1 + (i : Int) * -1) = ((c - 1 - i : Nat) : Int) := by (first | lia | omega)
    rw [ek] at F3
    have hne : @Ne Nat io.1 D0 := fun e => hoff _ (.head _) e.symm
    have hf1 : 0 ≤ ((c - 1 - i : Nat) : Int).fmod (z : Int) := by rw [fmodN]; (first | lia | omega)
    have hf2 : ((c - 1 - i : Nat) : Int).fmod (z : Int) ≤ ((c - 1 - i : Nat) : Int) := by rw [fmodN]; have := Nat.mod_le (c - 1 - i) z; (first | lia | omega)
    (repeat' ((fail_if_success (with_reducible show wpAny _ _ (pyIter _) _ _ _)); (first | (k_unfold; (try dsimp only)) | (law_purse 100000 => walk1) | (dsimp only; (law_purse 100000 => walk1)))))
    · (rename Fr _ _ _ _ => F4); (rename News _ _ _ _ => N4); (rename IntsAre _ _ => hI4)
      exact hN _ _ _ [_] F4 N4 (fun q hq => by rw [List.mem_singleton.mp hq]; exact hne.symm) ⟨_, _, _, two_out, rfl, hI4, ways_turn hi hlen hW (ways_v1 hz hi hW (by assumption))⟩
    · (rename Fr _ _ _ _ => F4); (rename News _ _ _ _ => N4); (rename IntsAre _ _ => hI4)
      exact hN _ _ _ [_] F4 N4 (fun q hq => by rw [List.mem_singleton.mp hq]; exact hne.symm) ⟨_, _, _, two_out, rfl, hI4, ways_turn hi hlen hW (ways_v2 hz hi hW (by assumption))⟩
  · clear F2 N2 F1 N1
    rintro m₁ news₁ h3 tk3 ⟨uu, vs, ns, rfl, rfl, hI, hlen, hW⟩ F3 N3
    have e : ns = (List.range (c + 1)).map (wayN z c) := by
      apply List.ext_getElem
      · simp [hlen]
      · intro q h1 h2
        have := hW q (by (first | lia | omega)) (by (first | lia | omega))
        rw [List.getD_eq_getElem?_getD, List.getElem?_eq_getElem h1] at this
        simpa using this
    subst e
    (repeat' ((fail_if_success (with_reducible show wpAny _ _ (pyIter _) _ _ _)); (first | (k_unfold; (try dsimp only)) | (law_purse 100000 => walk1) | (dsimp only; (law_purse 100000 => walk1)))))
    exact hqz _ _ _ F3.keep (ret _ _ _ F3.keep ⟨_, vs, rfl, (N3 _ (.head _)).2.2, (N3 _ (.head _)).1, hI⟩)
end Mine
namespace Mine

noncomputable def stopN (z h : Nat) : Nat := h - h % z + z
noncomputable def stepR (z : Nat) (ws : List Int) (ha : Nat × Int) (c : Nat) : Nat × Int :=
  if c = 32 then (ha.1 + 1, ha.2 + (if stopN z ha.1 < ws.length then ws.getD (stopN z ha.1) 0 else 0)) else (stopN z ha.1, ha.2)
noncomputable def rankN (z : Nat) (ws : List Int) (l : List Nat) : Int :=
  let r := l.foldl (stepR z ws) (0, 0)
  if (r.1 : Int) = (ws.length : Int) - 1 then r.2 else -1

noncomputable def RankJ (z : Nat) (ws : List Int) (l : List Nat) (m₀ : Str → Option Value) (i : Nat) (m : Str → Option Value) (news : List (Addr × Obj)) : Prop :=
  ∃ (uu : Str → Option Value) (th ta : Tok), (m = fun y => if y = Str.ofString "sign" then uu y else if y = Str.ofString "stop" then uu y else if y = Str.ofString "here" then some (.int (((l.take i).foldl (stepR z ws) (0, 0)).1 : Nat) th) else if y = Str.ofString "ahead" then some (.int ((l.take i).foldl (stepR z ws) (0, 0)).2 ta) else m₀ y) ∧ news = []

theorem rankM0 {z : Nat} {ws : List Int} {l : List Nat} {a b : Tok} {q : List (Str × Value)} : (fun y => if y = Str.ofString "ahead" then some (Value.int 0 a) else if y = Str.ofString "here" then some (Value.int 0 b) else List.lookup y q) =
    fun y => if y = Str.ofString "sign" then (fun y => List.lookup y q) y else if y = Str.ofString "stop" then (fun y => List.lookup y q) y else if y = Str.ofString "here" then some (.int (((l.take 0).foldl (stepR z ws) (0, 0)).1 : Nat) b) else if y = Str.ofString "ahead" then some (.int ((l.take 0).foldl (stepR z ws) (0, 0)).2 a) else (fun y => List.lookup y q) y := by
  funext y
  by_cases h1 : y = Str.ofString "ahead"
  · subst h1; rfl
  · by_cases h2 : y = Str.ofString "here"
    · subst h2; rfl
    · by_cases h3 : y = Str.ofString "sign"
      · subst h3; rfl
      · by_cases h4 : y = Str.ofString "stop"
        · subst h4; rfl
        · simp only [h1, h2, h3, h4, if_false]

theorem sign_blank {c : Nat} (h : (({ cps := #[c] } : Str) == Str.ofString " ") = true) : c = 32 := by
  have := eq_of_beq h
  rw [show Str.ofString " " = ⟨#[32]⟩ from by decide +kernel] at this
  simpa using this
theorem sign_tab {c : Nat} (h : (({ cps := #[c] } : Str) == Str.ofString "\t") = true) : c = 9 := by
  have := eq_of_beq h
  rw [show Str.ofString "\t" = ⟨#[9]⟩ from by decide +kernel] at this
  simpa using this
theorem rankM1 {H A : Option Value} {S G H0 A0 : Option Value} {uu m₀ : Str → Option Value} :
    (fun y => if y = Str.ofString "here" then H else if y = Str.ofString "ahead" then A else if y = Str.ofString "stop" then S else if y = Str.ofString "sign" then G else if y = Str.ofString "sign" then uu y else if y = Str.ofString "stop" then uu y else if y = Str.ofString "here" then H0 else if y = Str.ofString "ahead" then A0 else m₀ y) =
    fun y => if y = Str.ofString "sign" then (fun y => if y = Str.ofString "stop" then S else G) y else if y = Str.ofString "stop" then (fun y => if y = Str.ofString "stop" then S else G) y else if y = Str.ofString "here" then H else if y = Str.ofString "ahead" then A else m₀ y := by
  funext y
  by_cases h1 : y = Str.ofString "ahead"
  · subst h1; rfl
  · by_cases h2 : y = Str.ofString "here"
    · subst h2; rfl
    · by_cases h3 : y = Str.ofString "sign"
      · subst h3; rfl
      · by_cases h4 : y = Str.ofString "stop"
        · subst h4; rfl
        · simp only [h1, h2, h3, h4, if_false]
theorem rankM2 {H A : Option Value} {S G H0 : Option Value} {uu m₀ : Str → Option Value} :
    (fun y => if y = Str.ofString "here" then H else if y = Str.ofString "stop" then S else if y = Str.ofString "sign" then G else if y = Str.ofString "sign" then uu y else if y = Str.ofString "stop" then uu y else if y = Str.ofString "here" then H0 else if y = Str.ofString "ahead" then A else m₀ y) =
    fun y => if y = Str.ofString "sign" then (fun y => if y = Str.ofString "stop" then S else G) y else if y = Str.ofString "stop" then (fun y => if y = Str.ofString "stop" then S else G) y else if y = Str.ofString "here" then H else if y = Str.ofString "ahead" then A else m₀ y := by
  funext y
  by_cases h1 : y = Str.ofString "ahead"
  · subst h1; rfl
  · by_cases h2 : y = Str.ofString "here"
    · subst h2; rfl
    · by_cases h3 : y = Str.ofString "sign"
      · subst h3; rfl
      · by_cases h4 : y = Str.ofString "stop"
        · subst h4; rfl
        · simp only [h1, h2, h3, h4, if_false]

theorem rank_does (w : World) (z : Nat) (l : List Nat) (D : Addr) (vs : List Value) (ws : List Int) (t u : Tok) (hz : 1 ≤ z) (hz7 : z ≤ 7) (hI : IntsAre vs ws) (hw : ws.length ≤ 20000) (hl : ∀ c ∈ l, c = 32 ∨ c = 9) :
    Does w 129 [.str (T l) t, .int z u, .ref D] 2 16 (fun h => h.IsList D vs.toArray) (fun _ v _ => ∃ t, v = .int (rankN z ws l) t) := by
  unfold Does Surr
  k_fill
  intro p loose mean mg mb dp un gd cn cs a ccd cl outer A₀ base h₀ L m s Q E B F X T hk hd hu hL ret
  have hlen := hI.length
  have hI2 := hI
  refine wpAny_call ?_
  k_dflt (refine' code_def0 (binds := [(Str.ofString "text", .str (Mine.T l) t), (Str.ofString "size", .int z u), (Str.ofString "ways", .ref D)]) ?k1 ?k2 ?k3 ?k5 ?kA ?kF ?kK ?k6 ?k7 ?k8 ?k9 ?kB ?_ ?c2 ?c3 ?c4 ?c5)
  ((case kA => exact rfl); (case kF => exact rfl); (case kK => assumption); (case k1 => k_asm); (case k2 => k_asm); (case k3 => k_asm); (case k5 => k_asm); (case k6 => k_is); (case k7 => k_is); (case k8 => ktr_room); (case k9 => exact BindsTo.of_eq rfl); (case c5 => decide); (case kB => exact locs rfl); (case c2 => exact rfl); (case c3 => exact rfl); (case c4 => exact rfl); k_whole; intro L' s₁ Qz hz F' N' B' X' T'; (try dsimp only [List.reverse, List.reverseAux] at F'); (try dsimp only); (try k_fold))
  (rename (∀ (_ : Flow) (_ : Heap) (_ : Nat), _) => hqz)
  (repeat' ((fail_if_success (with_reducible show wpAny _ _ (pyIter _) _ _ _)); (first | (k_unfold; (try dsimp only)) | (law_purse 100000 => walk1) | (dsimp only; (law_purse 100000 => walk1)))))
  (rename Fr _ _ _ _ => F1); (rename News _ _ _ _ => N1)
  refine loop_str (RankJ z ws l (fun y => List.lookup y [(Str.ofString "ways", Value.ref D), (Str.ofString "size", Value.int (↑z) u), (Str.ofString "text", Value.str (Mine.T l) t)])) rfl F1 N1 ⟨_, _, _, rankM0, rfl⟩ ?_ ?_
  · clear F1 N1
    rintro i c tc m₁ news₁ s3 io Qt hN hBk hRt hc ⟨uu, th, ta, rfl, rfl⟩ hoff F3 N3
    have hc' : l[i]? = some c := by simpa [Mine.T] using hc
    have hs : l.take (i + 1) = l.take i ++ [c] := by simp [List.take_add_one, hc']
    have hcl := hl c (List.mem_of_getElem? hc')
    generalize hst : (l.take i).foldl (stepR z ws) (0, 0) = st at F3
    obtain ⟨hh, aa⟩ := st
    dsimp only at F3
    have hf1 : 0 ≤ ((hh : Nat) : Int).fmod (z : Int) := by rw [fmodN]; omega
    have hf2 : ((hh : Nat) : Int).fmod (z : Int) ≤ ((hh : Nat) : Int) := by rw [fmodN]; have := Nat.mod_le hh z; omega
    have e2 : ((hh : Nat) : Int) - ((hh : Nat) : Int).fmod (z : Int) + (z : Int) = ((stopN z hh : Nat) : Int) := by rw [fmodN]; unfold stopN; have := Nat.mod_le hh z; omega
    have e3 : (l.take (i + 1)).foldl (stepR z ws) (0, 0) = stepR z ws (hh, aa) c := by rw [hs, List.foldl_append, hst]; rfl
    (repeat' ((fail_if_success (with_reducible show wpAny _ _ (pyIter _) _ _ _)); (first | (k_unfold; (try dsimp only)) | (law_purse 100000 => walk1) | (dsimp only; (law_purse 100000 => walk1)))))
    · (rename Fr _ _ _ _ => F4); (rename News _ _ _ _ => N4)
      have hb := sign_blank (by assumption)
      have hlt : stopN z hh < ws.length := by have : ((hh : Nat) : Int) - ((hh : Nat) : Int).fmod (z : Int) + (z : Int) < (ws.length : Int) := by assumption
                                              omega
      have e4 : stepR z ws (hh, aa) c = (hh + 1, aa + ws.getD (stopN z hh) 0) := by unfold stepR; rw [if_pos hb, if_pos hlt]
      rw [e2, Int.toNat_natCast] at F4
      refine hN _ _ _ [] F4 N4 (fun q hq => nomatch hq) ?_
      unfold RankJ
      rw [e3, e4]
      exact ⟨_, _, _, rankM1, rfl⟩
    · (rename Fr _ _ _ _ => F4); (rename News _ _ _ _ => N4)
      have hb := sign_blank (by assumption)
      have hlt : ¬ stopN z hh < ws.length := by have : ¬ ((hh : Nat) : Int) - ((hh : Nat) : Int).fmod (z : Int) + (z : Int) < (ws.length : Int) := by assumption
                                                omega
      have e4 : stepR z ws (hh, aa) c = (hh + 1, aa + 0) := by unfold stepR; rw [if_pos hb, if_neg hlt]
      refine hN _ _ _ [] F4 N4 (fun q hq => nomatch hq) ?_
      unfold RankJ
      rw [e3, e4]
      exact ⟨_, _, _, rankM1, rfl⟩
    · (rename Fr _ _ _ _ => F4); (rename News _ _ _ _ => N4)
      have hb := sign_tab (by assumption)
      have e4 : stepR z ws (hh, aa) c = (stopN z hh, aa) := by unfold stepR; rw [if_neg (by omega)]
      rw [e2] at F4
      refine hN _ _ _ [] F4 N4 (fun q hq => nomatch hq) ?_
      unfold RankJ
      rw [e3, e4]
      exact ⟨_, _, _, rankM2, rfl⟩
    · exfalso
      rcases hcl with rfl | rfl
      · exact absurd (show (({ cps := #[32] } : Str) == Str.ofString " ") = false by assumption) (by decide +kernel)
      · exact absurd (show (({ cps := #[9] } : Str) == Str.ofString "\t") = false by assumption) (by decide +kernel)
  · clear F1 N1
    rintro m₁ news₁ h3 tk3 ⟨uu, th, ta, rfl, rfl⟩ F3 N3
    have et : l.take (Mine.T l).cps.size = l := by simp [Mine.T]
    rw [et] at F3
    generalize hst : l.foldl (stepR z ws) (0, 0) = st at F3
    obtain ⟨hh, aa⟩ := st
    dsimp only at F3
    (repeat' ((fail_if_success (with_reducible show wpAny _ _ (pyIter _) _ _ _)); (first | (k_unfold; (try dsimp only)) | (law_purse 100000 => walk1) | (dsimp only; (law_purse 100000 => walk1)))))
    · have e : rankN z ws l = aa := by unfold rankN; rw [hst]; exact if_pos (by assumption)
      exact hqz _ _ _ F3.keep (ret _ _ _ F3.keep ⟨_, by rw [e]⟩)
    · have e : rankN z ws l = -1 := by unfold rankN; rw [hst]; exact if_neg (by assumption)
      exact hqz _ _ _ F3.keep (ret _ _ _ F3.keep ⟨_, by rw [e]⟩)
end Mine
namespace Mine

theorem runs_does (w : World) (l : List Nat) (t : Tok) (hl : l.length ≤ 100000) (h64 : (Txt.split (T l) (T [9])).length ≤ 64) :
    Does w 136 [.str (T l) t] 2 16 (fun h => True) (fun _ v h' => ∃ ss last as, Reads h' v (.tuple [.list (ss.map .str), .str last]) as ∧ ss.Perm ((Txt.split (T l) (T [9])).take ((Txt.split (T l) (T [9])).length - 1)) ∧ sortedS ss = true ∧ (Txt.split (T l) (T [9]))[(Txt.split (T l) (T [9])).length - 1]? = some last) := by
  unfold Does Surr
  k_fill
  intro p loose mean mg mb dp un gd cn cs a ccd cl outer A₀ base h₀ L m s Q E B F X T hk hd hu hL ret
  have hlen : (Mine.T l).length ≤ 100000 := by rw [T_length]; exact hl
  refine wpAny_call ?_
  k_dflt (refine' code_def0 (binds := [(Str.ofString "text", .str (Mine.T l) t)]) ?k1 ?k2 ?k3 ?k5 ?kA ?kF ?kK ?k6 ?k7 ?k8 ?k9 ?kB ?_ ?c2 ?c3 ?c4 ?c5)
  ((case kA => exact rfl); (case kF => exact rfl); (case kK => assumption); (case k1 => k_asm); (case k2 => k_asm); (case k3 => k_asm); (case k5 => k_asm); (case k6 => k_is); (case k7 => k_is); (case k8 => ktr_room); (case k9 => exact BindsTo.of_eq rfl); (case c5 => decide); (case kB => exact locs rfl); (case c2 => exact rfl); (case c3 => exact rfl); (case c4 => exact rfl); k_whole; intro L' s₁ Qz hz F' N' B' X' T'; (try dsimp only [List.reverse, List.reverseAux] at F'); (try dsimp only); (try k_fold))
  (rename (∀ (_ : Flow) (_ : Heap) (_ : Nat), _) => hqz)
  (repeat' ((fail_if_success (with_reducible show wpAny _ _ (pyIter _) _ _ _)); (first | (k_unfold; (try dsimp only)) | (law_purse 100000 => walk1) | (dsimp only; (law_purse 100000 => walk1)))))
  rename_i l2 h2 k2 e1 e2 e3 e4 h3 F3 N3 h4 F4 N4
  rw [show (-1 : Int) = -((1 : Nat) : Int) from rfl, slicePick_butLast _ 1 (Nat.le_refl _)] at N4
  have hpos : 1 ≤ l2.length := len_of_split e1
  rw [T_tab] at e1
  have hl2 : l2.length = (Txt.split (Mine.T l) (Mine.T [9])).length := by rw [← e1, List.length_map]
  have hvl : (strValues l2).length = l2.length := by have := StrsAre.length e2; rw [List.length_map] at this; exact this
  have es : (strValues l2).toArray.size - 1 = l2.length - 1 := by rw [List.size_toArray, hvl]
  rw [es] at N4
  have hl4 : h4.IsList (h3.objs.size + 1) ((strValues l2).take (l2.length - 1)).toArray := News.isList N4 (.head _)
  have hS4 := StrsAre.take' e2 (l2.length - 1)
  refine sorted_N_str F4 N4 hl4 hS4 (by simp [hvl]; (first | lia | omega)) ?_
  intro h5 vs5 ss5 ep5 F5 N5 hS5 hp5 hs5
  (repeat' ((fail_if_success (with_reducible show wpAny _ _ (pyIter _) _ _ _)); (first | (k_unfold; (try dsimp only)) | (law_purse 100000 => walk1) | (dsimp only; (law_purse 100000 => walk1)))))
  (rename Fr _ _ _ _ => F6); (rename News _ _ _ _ => N6)
  have e9 : (List.map (fun x => x.fst) l2)[l2.length - 1]? = some ((List.map (fun x => x.fst) l2).getD (-1 + ((List.map (fun x => x.fst) l2).length : Int)).toNat Str.empty) := by
    have : (-1 + ((List.map (fun x => x.fst) l2).length : Int)).toNat = l2.length - 1 := by rw [List.length_map]; (first | lia | omega)
    rw [this, List.getD_eq_getElem?_getD]
    have hlt : l2.length - 1 < (List.map (fun x => x.fst) l2).length := by rw [List.length_map]; (first | lia | omega)
    rw [List.getElem?_eq_getElem hlt]; rfl
  have hR : Reads _ (.ref (h4.objs.size + 1)) (.list (ss5.map .str)) _ := reads_list_at (N6 _ (.tail _ (.head _))).1 rfl rfl (StrsAre.reads _ hS5)
  refine hqz _ _ _ F6.keep (ret _ _ _ F6.keep ⟨ss5, _, _, reads_tuple_at (N6 _ (.head _)).1 rfl rfl (.cons hR (.cons (.str _ _) .nil)), ?_, hs5, ?_⟩)
  · rw [← e1, List.length_map]; exact hp5
  · rw [← hl2, ← e1]; exact e9
end Mine
namespace Mine
section
variable {prog : Program} {w : World} {A A₀ : Around} {s : Shared} {K : Frag} {L : Addr} {h₀ base : Heap} {m mg mb : Str → Option Value} {p : Program} {loose : List Str} {mean : ExcName → Option Value} {led : List (Addr × Obj)}
  {env : Env} {outer : List Env} {R : Result → Shared → Prop} {name qual : Str} {params : Arguments} {body : List Stmt} {scope : Scope} {cl : List (Str × Addr)} {dV kV doc pm cdv ct : Value} {an : Option Addr} {fo : Obj} {f : Addr} {args : Args} {binds : List (Str × Value)}

/-- what of h stands in g: all but the ledger's -/
noncomputable def Grounds (h : Heap) (led : List (Addr × Obj)) (g : Heap) : Prop := (∀ b o, h.get? b = some o → b ∉ led.map (·.1) → g.get? b = some o) ∧ ∀ b o, g.get? b = some o → h.get? b = some o

theorem grounds_stay {h g h' : Heap} (G : Grounds h led g) (hl : ∀ q ∈ led, h.get? q.1 = some q.2) (k : ∀ b o, g.get? b = some o → h'.get? b = some o) (N : ∀ q ∈ led, h'.get? q.1 = some q.2) : h.StaysIn h' := fun b o e => by
  by_cases hb : b ∈ led.map (·.1)
  · obtain ⟨q, hq, rfl⟩ := List.mem_map.mp hb
    have h1 := hl q hq
    rw [e] at h1
    rw [Option.some.inj h1]; exact N q hq
  · exact k b o (G.1 b o e hb)

/-- a call's entry, some of what stands taken into the callee's ledger -/
theorem code_X (B : Below A₀ base outer h₀) (F : Fr h₀ L s.heap m) (X₀ : K.In h₀) (T : Top p loose mean mg mb h₀) (N : News h₀ L s.heap led) (hA : A.frames = some (env :: outer)) (hf : env.frame = some L) (hke : env.scope.kind = .function)
    (ho : s.heap.get? f = some fo) (hd : fo.data = .func (fnX name qual params body scope cl dV kV doc pm an cdv ct)) (hcd : s.heap.CodeRec cdv qual) (hroom : A.depth < recursionLimit)
    (hbind : BindsTo s (fnX name qual params body scope cl dV kV doc pm an cdv ct) args binds) (hloc : ∀ y ∈ binds, scope.names.lookup y.1 = some .local)
    (h : ∀ g L' (s₁ : Shared) (Qz : Flow → Shared → Prop), (∀ fl h' tk', R (.ok (.ret (match fl with | .ret v => v | _ => .none))) { s with heap := h', toks := tk' } → Qz fl { s₁ with heap := h', toks := tk' }) → Grounds s.heap led g → h₀.StaysIn g → Fr g L' s₁.heap (fun y => binds.reverse.lookup y) → News g L' s₁.heap led → (∀ q ∈ led, q.1 < L') → Below A base (env :: outer) g → K.In g → Top p loose mean mg mb g →
      wpAny (model prog w) (A.deeper (envX qual scope L' f cdv cl)) (execs body (envX qual scope L' f cdv cl))
        Qz (fun _ _ => False) s₁)
    (hcell : ∀ x ∈ scope.names, x.2 ≠ .cell) (hco : scope.isCoroutine = false) (hgen : scope.isGenerator = false) (hk : scope.kind = .function) : codeAny (model prog w) A (.call (.ref f) args) R s := by
  obtain ⟨FG, BG, st, lv⟩ := groundX (R := R) B F N hA hf hke
  refine codeAny_call_def (fd := fnX name qual params body scope cl dV kV doc pm an cdv ct) (body := body) (binds := binds) hroom ho hd (T.nolimit.keeps F.keep) hcd rfl hbind hcell hloc (fun h₁ hns hk₁ => ?_) hco hgen hk
  exact wpAny_mono (h _ s.heap.objs.size { s with heap := h₁, toks := s.toks + binds.length } (fun fl s' => R (.ok (.ret (match fl with | .ret v => v | _ => .none))) s') (fun _ _ _ r => r) ⟨fun b o e hb => hideAll_get _ e hb, fun b o e => of_hideAll _ e⟩ st ⟨hns, fun b o e => hk₁ b o (of_hideAll _ e), Nat.le_of_eq (hideAll_size _ _)⟩
    (fun p hp => ⟨hk₁ _ _ (N p hp).1, Nat.ne_of_lt (Heap.lt_size (N p hp).1), hideAll_none _ (List.mem_map_of_mem hp)⟩) (fun p hp => Heap.lt_size (N p hp).1) BG (X₀.keeps st) (T.keeps st)) (fun _ _ r => r) fun _ _ y => y.elim

theorem code_XC (B : Below A₀ base outer h₀) (F : Fr h₀ L s.heap m) (X₀ : K.In h₀) (T : Top p loose mean mg mb h₀) (N : News h₀ L s.heap led) (hA : A.frames = some (env :: outer)) (hf : env.frame = some L) (hke : env.scope.kind = .function)
    (ho : s.heap.get? f = some fo) (hd : fo.data = .func (fnX name qual params body scope [] dV kV doc pm an cdv ct)) (hcd : s.heap.CodeRec cdv qual) (hroom : A.depth < recursionLimit)
    (hbind : BindsTo s (fnX name qual params body scope [] dV kV doc pm an cdv ct) args binds)
    (hkind : (binds.all fun y => scope.names.lookup y.1 == some .local || scope.names.lookup y.1 == some .cell) = true)
    (hnd : ((cellsFrom 0 scope.names []).map (·.1)).Nodup)
    (h : ∀ g L' (s₁ : Shared) (Qz : Flow → Shared → Prop) cells, (∀ fl h' tk', R (.ok (.ret (match fl with | .ret v => v | _ => .none))) { s with heap := h', toks := tk' } → Qz fl { s₁ with heap := h', toks := tk' }) → Grounds s.heap led g → h₀.StaysIn g → Fr g L' s₁.heap (bindL (envOfC qual scope L' f cdv).kindOf binds fun _ => none) → News g L' s₁.heap (cells ++ led) →
      CellsAre (bindC (envOfC qual scope L' f cdv).kindOf binds fun _ => none) (cellsFrom (L' + 1) scope.names []) cells → (∀ q ∈ led, q.1 < L') → Below A base (env :: outer) g → K.In g → Top p loose mean mg mb g →
      wpAny (model prog w) (A.deeper (envOfC qual scope L' f cdv)) (execs body (envOfC qual scope L' f cdv))
        Qz (fun _ _ => False) s₁)
    (hco : scope.isCoroutine = false) (hgen : scope.isGenerator = false) (hk : scope.kind = .function) : codeAny (model prog w) A (.call (.ref f) args) R s := by
  obtain ⟨FG, BG, st, lv⟩ := groundX (R := R) B F N hA hf hke
  refine codeAny_call_function hroom ho hd hco hgen rfl hcd (hbind _ _ _ _ ?_)
  refine wpAny_newFunctionEnv_cells hk (kindsX hkind _) fun env' he s' x => ?_
  subst he
  refine ⟨(T.nolimit.keeps F.keep).keeps x.toInCall.keep, codeAny_func ?_⟩
  obtain ⟨h₁, tk, rfl, _⟩ := x.done
  have hk₁ := x.toInCall.keep
  obtain ⟨cells, NC, Y⟩ := Cl.news (h₀ := s.heap) (Nat.le_refl _) fun n c hm => ⟨x.cell n c (lookup_of_mem_nodup (cellsFrom_names scope.names 0 (s.heap.objs.size + 1) [] [] rfl ▸ hnd) hm), x.above n c hm⟩
  refine wpAny_mono (h _ s.heap.objs.size { s with heap := h₁, toks := tk } (fun fl s' => R (.ok (.ret (match fl with | .ret v => v | _ => .none))) s') cells (fun _ _ _ r => r) ⟨fun b o e hb => hideAll_get _ e hb, fun b o e => of_hideAll _ e⟩ st ⟨x.toInCall.ns, fun b o e => hk₁ b o (of_hideAll _ e), Nat.le_of_eq (hideAll_size _ _)⟩ (fun p hp => ?_) Y (fun p hp => Heap.lt_size (N p hp).1) BG (X₀.keeps st) (T.keeps st)) (fun _ _ r => r) fun _ _ y => y.elim
  rcases List.mem_append.mp hp with hp | hp
  · refine ⟨(NC p hp).1, (NC p hp).2.1, ?_⟩
    cases q : (hideAll s.heap (led.map (·.1))).get? p.1 with
    | none => rfl
    | some o => have := of_hideAll _ q; rw [(NC p hp).2.2] at this; cases this
  · exact ⟨hk₁ _ _ (N p hp).1, Nat.ne_of_lt (Heap.lt_size (N p hp).1), hideAll_none _ (List.mem_map_of_mem hp)⟩

theorem code_KC {oc : Value} {od : Option Addr} {osl : Array (Option Value)} (B : Below A₀ base outer h₀) (F : Fr h₀ L s.heap m) (X₀ : K.In h₀) (T : Top p loose mean mg mb h₀) (N : News h₀ L s.heap led) (hA : A.frames = some (env :: outer)) (hf : env.frame = some L) (hke : env.scope.kind = .function)
    (ho : K.lookup f = some ⟨oc, od, .func (fnX name qual params body scope [] dV kV doc pm an cdv ct), osl⟩) (hcd : codeIn K cdv qual = true) (hroom : A.depth < recursionLimit)
    (hbind : BindsTo s (fnX name qual params body scope [] dV kV doc pm an cdv ct) args binds)
    (hkind : (binds.all fun y => scope.names.lookup y.1 == some .local || scope.names.lookup y.1 == some .cell) = true)
    (hnd : ((cellsFrom 0 scope.names []).map (·.1)).Nodup)
    (h : ∀ g L' (s₁ : Shared) (Qz : Flow → Shared → Prop) cells, (∀ fl h' tk', R (.ok (.ret (match fl with | .ret v => v | _ => .none))) { s with heap := h', toks := tk' } → Qz fl { s₁ with heap := h', toks := tk' }) → Grounds s.heap led g → h₀.StaysIn g → Fr g L' s₁.heap (bindL (envOfC qual scope L' f cdv).kindOf binds fun _ => none) → News g L' s₁.heap (cells ++ led) →
      CellsAre (bindC (envOfC qual scope L' f cdv).kindOf binds fun _ => none) (cellsFrom (L' + 1) scope.names []) cells → (∀ q ∈ led, q.1 < L') → Below A base (env :: outer) g → K.In g → Top p loose mean mg mb g →
      wpAny (model prog w) (A.deeper (envOfC qual scope L' f cdv)) (execs body (envOfC qual scope L' f cdv))
        Qz (fun _ _ => False) s₁)
    (hco : scope.isCoroutine = false) (hgen : scope.isGenerator = false) (hk : scope.kind = .function) : codeAny (model prog w) A (.call (.ref f) args) R s :=
  code_XC B F X₀ T N hA hf hke (F.keep _ _ (X₀ _ _ ho)) rfl (codeRec_of (X₀.keeps F.keep) hcd) hroom hbind hkind hnd h hco hgen hk

theorem code_K {oc : Value} {od : Option Addr} {osl : Array (Option Value)} (B : Below A₀ base outer h₀) (F : Fr h₀ L s.heap m) (X₀ : K.In h₀) (T : Top p loose mean mg mb h₀) (N : News h₀ L s.heap led) (hA : A.frames = some (env :: outer)) (hf : env.frame = some L) (hke : env.scope.kind = .function)
    (ho : K.lookup f = some ⟨oc, od, .func (fnX name qual params body scope [] dV kV doc pm an cdv ct), osl⟩) (hcd : codeIn K cdv qual = true) (hroom : A.depth < recursionLimit)
    (hbind : BindsTo s (fnX name qual params body scope [] dV kV doc pm an cdv ct) args binds) (hloc : ∀ y ∈ binds, scope.names.lookup y.1 = some .local)
    (h : ∀ g L' (s₁ : Shared) (Qz : Flow → Shared → Prop), (∀ fl h' tk', R (.ok (.ret (match fl with | .ret v => v | _ => .none))) { s with heap := h', toks := tk' } → Qz fl { s₁ with heap := h', toks := tk' }) → Grounds s.heap led g → h₀.StaysIn g → Fr g L' s₁.heap (fun y => binds.reverse.lookup y) → News g L' s₁.heap led → (∀ q ∈ led, q.1 < L') → Below A base (env :: outer) g → K.In g → Top p loose mean mg mb g →
      wpAny (model prog w) (A.deeper (envOf qual scope L' f cdv)) (execs body (envOf qual scope L' f cdv))
        Qz (fun _ _ => False) s₁)
    (hcell : ∀ x ∈ scope.names, x.2 ≠ .cell) (hco : scope.isCoroutine = false) (hgen : scope.isGenerator = false) (hk : scope.kind = .function) : codeAny (model prog w) A (.call (.ref f) args) R s :=
  code_X B F X₀ T N hA hf hke (F.keep _ _ (X₀ _ _ ho)) rfl (codeRec_of (X₀.keeps F.keep) hcd) hroom hbind hloc h hcell hco hgen hk
end

/-- the contract of a def that the call has made (it stands in the ledger) and that changes nothing that stood -/
noncomputable def FnDoes (w : World) (p : Program) (loose : List Str) (mean : ExcName → Option Value) (mg mb : Str → Option Value) (led : List (Addr × Obj)) (f : Addr) (vs : List Value) (d u : Nat) (Ex : Heap → Prop) (Post : Value → Prop) : Prop :=
  ∀ (dp un : Nat) (gd : Option (List Code)) (cn : Str) (cs : Scope) (a : Addr) (ccd : Value) (cl : List (Str × Addr)) (outer : List Env) (A₀ : Around) (base h₀ : Heap) (L : Addr) (m : Str → Option Value) (s : Shared) (Q E : Value → Shared → Prop),
    Surr w p loose mean mg mb dp un cs outer A₀ base h₀ L m s d u (News h₀ L s.heap led → Ex h₀ →
      (∀ v h' tk', s.heap.StaysIn h' → Post v → Q v { s with heap := h', toks := tk' }) →
      wpAny (model PySem.Challenge.rw_ph0140_01.row.prog w) (ktrTop dp un gd cn cs L a ccd cl outer) (call (.ref f) vs) Q E s)
end Mine
namespace Mine

noncomputable def dvalL (k : Nat) : List Int → Int
  | [] => 0
  | x :: r => x + 2 ^ k * dvalL k r
noncomputable def dval (k : Nat) (ns : List Int) (l r : Nat) : Int := dvalL k ((ns.drop l).take (r - l))

theorem dvalL_append (k : Nat) (a b : List Int) : dvalL k (a ++ b) = dvalL k a + 2 ^ (k * a.length) * dvalL k b := by
  induction a with
  | nil => simp [dvalL]
  | cons x r ih =>
    simp only [List.cons_append, dvalL, ih, List.length_cons]
    rw [Int.mul_add, ← Int.mul_assoc, ← Int.pow_add, show k + k * r.length = k * (r.length + 1) by rw [Nat.mul_add]; (first | lia | omega)]
    (first | lia | omega)
theorem dval_one {k l r : Nat} {ns : List Int} (hr : r = l + 1) (hl : l < ns.length) : ns.getD ((l : Int)).toNat 0 = dval k ns l r := by
  subst hr
  unfold dval
  have e : (ns.drop l).take 1 = [ns[l]] := by rw [List.drop_eq_getElem_cons hl]; rfl
  rw [show l + 1 - l = 1 by (first | lia | omega), Int.toNat_natCast, e, List.getD_eq_getElem?_getD, List.getElem?_eq_getElem hl]
  simp [dvalL]
theorem dvalL_bound (k : Nat) : ∀ l : List Int, (∀ x ∈ l, 0 ≤ x ∧ x < 2 ^ k) → 0 ≤ dvalL k l ∧ dvalL k l < 2 ^ (k * l.length)
  | [], _ => by simp [dvalL]
  | x :: r, h => by
    obtain ⟨h1, h2⟩ := dvalL_bound k r fun y hy => h y (.tail _ hy)
    obtain ⟨h3, h4⟩ := h x (.head _)
    have hp : (0 : Int) < 2 ^ k := pow_pos_of (by decide) k
    have e : (2 : Int) ^ (k * (x :: r).length) = 2 ^ k * 2 ^ (k * r.length) := by rw [← Int.pow_add, List.length_cons, Nat.mul_add, Nat.mul_one, Nat.add_comm]
    have h5 : 0 ≤ 2 ^ k * dvalL k r := Int.mul_nonneg (by (first | lia | omega)) h1
    have h6 : 2 ^ k * (dvalL k r + 1) ≤ 2 ^ k * 2 ^ (k * r.length) := Int.mul_le_mul_of_nonneg_left (by (first | lia | omega)) (by (first | lia | omega))
    rw [Int.mul_add, Int.mul_one] at h6
    rw [e]
    unfold dvalL
    (first | lia | omega)
theorem dval_bits {k l r : Nat} {ns : List Int} (hb : ∀ x ∈ ns, 0 ≤ x ∧ x < 2 ^ k) (hr : r ≤ ns.length) (hn : ns.length ≤ 60) (hk : k ≤ 3) : Builtin.Int.intBits (dval k ns l r) ≤ 180 := by
  rw [intBits_le_iff]
  obtain ⟨h1, h2⟩ := dvalL_bound k ((ns.drop l).take (r - l)) fun y hy => hb y (List.mem_of_mem_drop (List.mem_of_mem_take hy))
  have hlen : k * ((ns.drop l).take (r - l)).length ≤ 180 := by
    rw [List.length_take, List.length_drop]
    exact Nat.le_trans (Nat.mul_le_mul hk (show min (r - l) (ns.length - l) ≤ 60 by (first | lia | omega))) (by decide)
  have h3 : (2 : Nat) ^ (k * ((ns.drop l).take (r - l)).length) ≤ 2 ^ 180 := Nat.pow_le_pow_right (by decide) hlen
  have h4 : ((2 ^ (k * ((ns.drop l).take (r - l)).length) : Nat) : Int) = (2 : Int) ^ (k * ((ns.drop l).take (r - l)).length) := kbt_cast _
  show (dvalL k _).natAbs < _
  rw [← h4] at h2
  (first | lia | omega)
theorem dval_split {k l mid r : Nat} {ns : List Int} (h1 : l ≤ mid) (h2 : mid ≤ r) (h3 : r ≤ ns.length) : dval k ns l r = dval k ns mid r * 2 ^ ((mid - l) * k) + dval k ns l mid := by
  unfold dval
  have e : (ns.drop l).take (r - l) = (ns.drop l).take (mid - l) ++ (ns.drop mid).take (r - mid) := by
    rw [show r - l = (mid - l) + (r - mid) by (first | lia | omega), List.take_add, List.drop_drop, show l + (mid - l) = mid by (first | lia | omega)]
  rw [e, dvalL_append, List.length_take, List.length_drop, show min (mid - l) (ns.length - l) = mid - l by (first | lia | omega), Nat.mul_comm k, Int.mul_comm, Int.add_comm]

section
variable {w : World} {p : Program} {loose : List Str} {mean : ExcName → Option Value} {mg mb : Str → Option Value} {led : List (Addr × Obj)}

noncomputable def D2iInner (w : World) (p : Program) (loose : List Str) (mean : ExcName → Option Value) (mg mb : Str → Option Value) (led : List (Addr × Obj)) (f D : Addr) (vs : List Value) (ns : List Int) (k n : Nat) : Prop :=
  ∀ (l r : Nat) (tl tr : Tok), l < r → r ≤ ns.length → r - l = n → FnDoes w p loose mean mg mb led f [.int l tl, .int r tr] (n + 2) (8 * n + 16) (fun h => h.IsList D vs.toArray) (fun v => ∃ t, v = .int (dval k ns l r) t)

theorem d2i_use {dp un : Nat} {gd : Option (List Code)} {cn : Str} {cs : Scope} {a f D : Addr} {vs : List Value} {ns : List Int} {k : Nat} {ccd : Value} {cl : List (Str × Addr)} {outer : List Env} {A₀ : Around} {base h₀ : Heap} {L : Addr} {m : Str → Option Value} {s : Shared} {Q E : Value → Shared → Prop} {tl tr : Tok}
    (N : News h₀ L s.heap led) (B : Below A₀ base outer h₀) (F : Fr h₀ L s.heap m) (X : (Mine.hd.heap_39 w.params).In h₀) (T : Top p loose mean mg mb h₀) (hk : cs.kind = .function) (hd : dp + (ns.length + 2) < recursionLimit) (hu : un + (8 * ns.length + 16) < cLine) (hl : h₀.IsList D vs.toArray) (h0 : 0 < ns.length)
    (step : ∀ n, (∀ n', n' < n → D2iInner w p loose mean mg mb led f D vs ns k n') → D2iInner w p loose mean mg mb led f D vs ns k n)
    (ret : ∀ t h' tk', s.heap.StaysIn h' → Q (.int (dvalL k ns) t) { s with heap := h', toks := tk' }) :
    wpAny (model PySem.Challenge.rw_ph0140_01.row.prog w) (ktrTop dp un gd cn cs L a ccd cl outer) (call (.ref f) [.int 0 tl, .int ns.length tr]) Q E s := by
  have all : ∀ n, D2iInner w p loose mean mg mb led f D vs ns k n := fun n => by
    induction n using Nat.strongRecOn with
    | _ n ih => exact step n ih
  refine all ns.length 0 ns.length tl tr h0 (Nat.le_refl _) rfl dp un gd cn cs a ccd cl outer A₀ base h₀ L m s Q E B F X T hk hd hu N hl ?_
  rintro v h' tk' st ⟨t, rfl⟩
  have e : dval k ns 0 ns.length = dvalL k ns := by simp [dval]
  rw [e]
  exact ret t h' tk' st
end

theorem d2i_does (w : World) (D : Addr) (vs : List Value) (ns : List Int) (k : Nat) (u : Tok) (hI : IntsAre vs ns) (hn : ns.length ≤ 60) (hk3 : k ≤ 3) (hb : ∀ x ∈ ns, 0 ≤ x ∧ x < 2 ^ k) (hD : D ≠ 37)
   (p : Program) (loose : List Str) (mean : ExcName → Option Value) (mg mb : Str → Option Value) (dp un : Nat) (gd : Option (List Code)) (cn : Str) (cs : Scope) (a : Addr) (ccd : Value) (cl : List (Str × Addr)) (outer : List Env) (A₀ : Around) (base h₀ : Heap) (L : Addr) (m : Str → Option Value) (s : Shared) (Q E : Value → Shared → Prop) :
    Surr w p loose mean mg mb dp un cs outer A₀ base h₀ L m s 100 600 (News h₀ L s.heap [(37, tabObj #[])] → s.heap.IsList D vs.toArray → 
      (∀ t h' tk' ps, (∀ b o, b ≠ 37 → s.heap.get? b = some o → h'.get? b = some o) → h'.get? 37 = some (tabObj ps) → Q (.int (dvalL k ns) t) { s with heap := h', toks := tk' }) →
      wpAny (model PySem.Challenge.rw_ph0140_01.row.prog w) (ktrTop dp un gd cn cs L a ccd cl outer) (call (.ref 42) [.ref D, .int k u]) Q E s) := by
  unfold Surr
  k_fill
  intro B F X T hk hd hu N hL ret
  have hlen := hI.length
  refine wpAny_call ?_
  k_dflt (refine' code_KC (binds := [(Str.ofString "digits", .ref D), (Str.ofString "n", .int k u)]) B F X T N ?kA ?kF ?kK ?k6 ?k7 ?k8 ?k9 ?kB ?kD ?_ ?c2 ?c3 ?c4)
  case kA => exact rfl
  case kF => exact rfl
  case kK => assumption
  case k6 => k_is
  case k7 => k_is
  case k8 => ktr_room
  case k9 => exact BindsTo.of_eq rfl
  case kB => exact rfl
  case kD => decide +kernel
  case c2 => exact rfl
  case c3 => exact rfl
  case c4 => exact rfl
  intro g L' s₁ Qz cells hz G st0 F' N' Y lt B' X' T'
  k_lt lt
  have hL' : g.IsList D vs.toArray := by
    obtain ⟨o, ho, r⟩ := hL
    exact ⟨o, G.1 _ _ ho (by simpa using hD), r⟩
  have hC : CodeHd g 41 37 := codeHd_of_K X' (by kernel_rfl)
  k_cells Y
  (try simp only [List.cons_append, List.nil_append] at N'); (try dsimp only); (try k_fold)
  (repeat' ((fail_if_success (with_reducible show wpAny _ _ (pyIter _) _ _ _)); (fail_if_success (with_reducible show wpAny _ _ (call (Value.ref _) _) _ _ _)); (fail_if_success (with_reducible show wpAny _ _ (binaryOp Operator.LShift _ _) _ _ _)); (first | (k_unfold; (try dsimp only)) | (law_purse 100000 => walk1) | (dsimp only; (law_purse 100000 => walk1)))))
  · (rename Fr _ _ _ _ => F1); (rename News _ _ _ _ => N1)
    try dsimp only
    refine d2i_use (k := k) N1 B' F1 X' T' rfl ?kd ?ku hL' (by assumption) ?step ?ret
    case kd => (try simp only [depth_deeper]); (try dsimp only [ktrTop]); (first | lia | omega)
    case ku => (try simp only [units_deeper]); (try dsimp only [ktrTop]); (first | lia | omega)
    case step =>
      clear F1 N1
      intro n ih l r tl tr hlr hr hrl
      unfold FnDoes Surr
      intro dp2 un2 gd2 cn2 cs2 a2 ccd2 cl2 outer2 A2 base2 g2 L2 m2 s2 Q2 E2 B2 F2 X2 T2 hk2 hd2 hu2 N2 hL2 ret2
      refine wpAny_call ?_
      k_dflt (refine' code_X (binds := [(Str.ofString "L", .int l tl), (Str.ofString "R", .int r tr)]) B2 F2 X2 T2 N2 ?kA ?kF ?kK (N2 _ (.head _)).1 rfl ?k7 ?k8 ?k9 ?kB ?_ ?c1 ?c2 ?c3 ?c4)
      case kA => exact rfl
      case kF => exact rfl
      case kK => assumption
      case k7 => exact codeRec_news N2 (.tail _ (.head _)) (by assumption) (by assumption)
      case k8 => (try dsimp only [ktrTop]); (first | lia | omega)
      case k9 => exact BindsTo.of_eq rfl
      case kB => exact locs rfl
      case c1 => decide
      case c2 => exact rfl
      case c3 => exact rfl
      case c4 => exact rfl
      intro g3 L3 s3 Qz2 hz2 G3 st3 F3 N3 lt3 B3 X3 T3
      have hL3 : g3.IsList D vs.toArray := stays_list st3 hL2
      (try dsimp only [List.reverse, List.reverseAux] at F3); (try dsimp only); (try k_fold)
      have em : ((l : Int) + (r : Int)).fdiv (2 ^ Int.toNat 1) = (((l + r) / 2 : Nat) : Int) := fdivN (l + r) 2
      (repeat' ((fail_if_success (with_reducible show wpAny _ _ (pyIter _) _ _ _)); (fail_if_success (with_reducible show wpAny _ _ (call (Value.ref _) _) _ _ _)); (fail_if_success (with_reducible show wpAny _ _ (binaryOp Operator.LShift _ _) _ _ _)); (first | (k_unfold; (try dsimp only)) | (law_purse 100000 => walk1) | (dsimp only; (law_purse 100000 => walk1)))))
      · (rename Fr _ _ _ _ => F4); (rename News _ _ _ _ => N4)
        have h1 : (l : Int) + 1 = (r : Int) := by assumption
        show Qz2 (.ret (.int (ns.getD ((l : Int)).toNat 0) _)) _
        rw [dval_one (k := k) (r := r) (by (first | lia | omega)) (by (first | lia | omega))]
        exact hz2 _ _ _ (ret2 _ _ _ (grounds_stay G3 (fun q hq => (N2 q hq).1) F4.keep (fun q hq => (N4 q hq).1)) ⟨_, rfl⟩)
      · (rename Fr _ _ _ _ => F4); (rename News _ _ _ _ => N4)
        rw [em] at F4 ⊢
        generalize hmid : (l + r) / 2 = mid at F4 ⊢
        have hM := mid_in hlr (by assumption) hmid hrl
        have hM1 := hM.1
        have hM2 := hM.2.1
        have hM3 := hM.2.2.1
        have hM4 := hM.2.2.2
        (rename (_ : Int) ≠ _ => hne); clear hne
        clear hM hmid em
        refine ih (r - mid) hM4 mid r _ _ hM2 hr rfl _ _ _ _ _ _ _ _ _ _ _ _ _ _ _ _ _ B3 F4 X3 T3 rfl ?kd2 ?ku2 N4 hL3 ?_
        case kd2 => (try simp only [depth_deeper]); (try dsimp only [ktrTop]); exact dep_in hd2 hM4
        case ku2 => (try simp only [units_deeper]); (try dsimp only [ktrTop]); exact un_in hu2 hM4
        rintro v5 h5 tk5 st5 ⟨t5, rfl⟩
        have F5 := stays_fr F4 st5
        have N5 := stays_news N4 st5
        clear F4 N4
        dsimp only at F5 N5 ⊢
        (repeat' ((fail_if_success (with_reducible show wpAny _ _ (pyIter _) _ _ _)); (fail_if_success (with_reducible show wpAny _ _ (call (Value.ref _) _) _ _ _)); (fail_if_success (with_reducible show wpAny _ _ (binaryOp Operator.LShift _ _) _ _ _)); (first | (k_unfold; (try dsimp only)) | (law_purse 100000 => walk1) | (dsimp only; (law_purse 100000 => walk1)))))
        have hsh : 0 ≤ ((mid : Int) - (l : Int)) * (k : Int) := Int.mul_nonneg (by (first | lia | omega)) (by (first | lia | omega))
        have hsh2 : ((mid : Int) - (l : Int)) * (k : Int) ≤ 60 * 3 := Int.mul_le_mul (by (first | lia | omega)) (by (first | lia | omega)) (by (first | lia | omega)) (by (first | lia | omega))
        refine lshift_int hsh (kbm_shl (dval_bits hb hr hn hk3) (by (first | lia | omega)) (by decide)) ?_
        try dsimp only
        (repeat' ((fail_if_success (with_reducible show wpAny _ _ (pyIter _) _ _ _)); (fail_if_success (with_reducible show wpAny _ _ (call (Value.ref _) _) _ _ _)); (fail_if_success (with_reducible show wpAny _ _ (binaryOp Operator.LShift _ _) _ _ _)); (first | (k_unfold; (try dsimp only)) | (law_purse 100000 => walk1) | (dsimp only; (law_purse 100000 => walk1)))))
        refine ih (mid - l) hM3 l mid _ _ hM1 (Nat.le_trans (Nat.le_of_lt hM2) hr) rfl _ _ _ _ _ _ _ _ _ _ _ _ _ _ _ _ _ B3 F5 X3 T3 rfl ?kd3 ?ku3 N5 hL3 ?_
        case kd3 => (try simp only [depth_deeper]); (try dsimp only [ktrTop]); exact dep_in hd2 hM3
        case ku3 => (try simp only [units_deeper]); (try dsimp only [ktrTop]); exact un_in hu2 hM3
        rintro v6 h6 tk6 st6 ⟨t6, rfl⟩
        have F6 := stays_fr F5 st6
        have N6 := stays_news N5 st6
        clear F5 N5
        dsimp only at F6 N6 ⊢
        (repeat' ((fail_if_success (with_reducible show wpAny _ _ (pyIter _) _ _ _)); (fail_if_success (with_reducible show wpAny _ _ (call (Value.ref _) _) _ _ _)); (fail_if_success (with_reducible show wpAny _ _ (binaryOp Operator.LShift _ _) _ _ _)); (first | (k_unfold; (try dsimp only)) | (law_purse 100000 => walk1) | (dsimp only; (law_purse 100000 => walk1)))))
        have e9 : ((((mid : Int) - (l : Int)) * (k : Int))).toNat = (mid - l) * k := by
          have : ((mid : Int) - (l : Int)) * (k : Int) = (((mid - l) * k : Nat) : Int) := by rw [Int.natCast_mul, Int.ofNat_sub (Nat.le_of_lt hM1)]
          rw [this, Int.toNat_natCast]
        rw [e9, ← dval_split (Nat.le_of_lt hM1) (Nat.le_of_lt hM2) hr]
        exact hz2 _ _ _ (ret2 _ _ _ (grounds_stay G3 (fun q hq => (N2 q hq).1) F6.keep (fun q hq => (N6 q hq).1)) ⟨_, rfl⟩)
    case ret =>
      intro t9 h9 tk9 st9
      have F9 := stays_fr F1 st9
      have N9 := stays_news N1 st9
      clear F1 N1
      try dsimp only at F9 N9
      try dsimp only
      (repeat' ((fail_if_success (with_reducible show wpAny _ _ (pyIter _) _ _ _)); (fail_if_success (with_reducible show wpAny _ _ (call (Value.ref _) _) _ _ _)); (fail_if_success (with_reducible show wpAny _ _ (binaryOp Operator.LShift _ _) _ _ _)); (first | (k_unfold; (try dsimp only)) | (law_purse 100000 => walk1) | (dsimp only; (law_purse 100000 => walk1)))))
      have hm37 := N9 (37, tabObj _) (by k_mem)
      exact hz _ _ _ (ret _ _ _ _ (fun b o hb e => F9.keep _ _ (G.1 _ _ e (by simpa using hb))) hm37.1)
  · (rename Fr _ _ _ _ => F9); (rename News _ _ _ _ => N9)
    have h0 : ¬ 0 < ns.length := by assumption
    have hnil : ns = [] := List.eq_nil_of_length_eq_zero (by (first | lia | omega))
    have hm37 := N9 (37, tabObj _) (by k_mem)
    have e0 : dvalL k ns = 0 := by rw [hnil]; rfl
    rw [e0] at ret
    exact hz _ _ _ (ret _ _ _ _ (fun b o hb e => F9.keep _ _ (G.1 _ _ e (by simpa using hb))) hm37.1)
end Mine
namespace Mine
noncomputable def digs (k : Nat) : Nat → Nat → List Int
  | 0, _ => []
  | m + 1, x => ((x % 2 ^ k : Nat) : Int) :: digs k m (x / 2 ^ k)
theorem digs_length (k : Nat) : ∀ m x, (digs k m x).length = m
  | 0, _ => rfl
  | m + 1, x => by simp [digs, digs_length k m]
theorem digs_add (k m1 m2 : Nat) : ∀ x, digs k (m1 + m2) x = digs k m1 (x % 2 ^ (m1 * k)) ++ digs k m2 (x / 2 ^ (m1 * k)) := by
  induction m1 with
  | zero => intro x; simp [digs]
  | succ m1 ih =>
    intro x
    rw [show m1 + 1 + m2 = (m1 + m2) + 1 by (first | lia | omega)]
    simp only [digs, List.cons_append]
    rw [ih]
    have e : 2 ^ ((m1 + 1) * k) = 2 ^ k * 2 ^ (m1 * k) := by rw [← Nat.pow_add, Nat.add_mul, Nat.one_mul, Nat.add_comm]
    rw [e, Nat.mod_mul_right_mod, Nat.mod_mul_right_div_self, Nat.div_div_eq_div_mul]
theorem digs_one (k x : Nat) (h : x < 2 ^ k) : digs k 1 x = [(x : Int)] := by simp [digs, Nat.mod_eq_of_lt h]

theorem bitAnd_high (s : Nat) : ∀ x : Nat, Builtin.bitAnd (x : Int) ((x / 2 ^ s * 2 ^ s : Nat) : Int) = ((x / 2 ^ s * 2 ^ s : Nat) : Int) := by
  induction s with
  | zero =>
    intro x
    have := bitXor_self (x : Int)
    rw [bitXor_and] at this
    simp only [Nat.pow_zero, Nat.div_one, Nat.mul_one]
    (first | lia | omega)
  | succ s ih =>
    intro x
    have e : x / 2 ^ (s + 1) * 2 ^ (s + 1) = 2 * ((x / 2) / 2 ^ s * 2 ^ s) := by
      rw [Nat.pow_succ', Nat.div_div_eq_div_mul, ← Nat.mul_assoc, Nat.mul_comm _ 2, Nat.mul_assoc]
    rw [e, kbt_halves]
    have e1 : ((2 * (x / 2 / 2 ^ s * 2 ^ s) : Nat) : Int) / 2 = ((x / 2 / 2 ^ s * 2 ^ s : Nat) : Int) := by (first | lia | omega)
    have e2 : ((2 * (x / 2 / 2 ^ s * 2 ^ s) : Nat) : Int) % 2 = 0 := by (first | lia | omega)
    have e3 : (x : Int) / 2 = ((x / 2 : Nat) : Int) := by (first | lia | omega)
    rw [e1, e2, e3, ih, if_neg (by (first | lia | omega))]
    (first | lia | omega)
theorem bitXor_low (s x : Nat) : Builtin.bitXor (x : Int) ((x / 2 ^ s : Nat) * 2 ^ s : Int) = ((x % 2 ^ s : Nat) : Int) := by
  have e : (((x / 2 ^ s : Nat) : Int) * 2 ^ s) = ((x / 2 ^ s * 2 ^ s : Nat) : Int) := by rw [Int.natCast_mul, kbt_cast]
  rw [e, bitXor_and, bitAnd_high]
  have := Nat.div_add_mod x (2 ^ s)
  rw [Nat.mul_comm] at this
  (first | lia | omega)

section
variable {h₀ h h' : Heap} {L D : Addr} {m : Str → Option Value} {o o' : Obj} {led : List (Addr × Obj)}
theorem but_fr (F : Fr h₀ L h m) (N : News h₀ L h ((D, o) :: led)) (k : ∀ b o, b ≠ D → h.get? b = some o → h'.get? b = some o) : Fr h₀ L h' m := by
  have hD := (N _ (.head _)).2
  obtain ⟨oL, es, ep, hL, r⟩ := F.ns
  exact ⟨⟨oL, es, ep, k _ _ hD.1.symm hL, r⟩, fun b ob e => k _ _ (fun q => by rw [q, hD.2] at e; cases e) (F.keep b ob e), F.above⟩
theorem but_news (N : News h₀ L h ((D, o) :: led)) (hne : ∀ q ∈ led, q.1 ≠ D) (k : ∀ b o, b ≠ D → h.get? b = some o → h'.get? b = some o) (hD : h'.get? D = some o') : News h₀ L h' ((D, o') :: led) := fun q hq => by
  rcases List.mem_cons.mp hq with rfl | hq
  · exact ⟨hD, (N _ (.head _)).2⟩
  · exact ⟨k _ _ (hne q hq) (N q (.tail _ hq)).1, (N q (.tail _ hq)).2⟩
theorem take3 {a b d : Addr × Obj} (N : News h₀ L h (a :: b :: d :: led)) : News h₀ L h (d :: a :: b :: led) := fun q hq => N q (by
  simp only [List.mem_cons] at hq ⊢
  rcases hq with h | h | h | h
  · exact .inr (.inr (.inl h))
  · exact .inl h
  · exact .inr (.inl h)
  · exact .inr (.inr (.inr h)))
theorem grounds_but {g : Heap} (G : Grounds h ((D, o) :: led) g) (hl : ∀ q ∈ led, h.get? q.1 = some q.2) (k : ∀ b o, g.get? b = some o → h'.get? b = some o) (N : ∀ q ∈ led, h'.get? q.1 = some q.2) : ∀ b o, b ≠ D → h.get? b = some o → h'.get? b = some o := fun b ob hb e => by
  by_cases hm : b ∈ led.map (·.1)
  · obtain ⟨q, hq, rfl⟩ := List.mem_map.mp hm
    have h1 := hl q hq
    rw [e] at h1
    rw [Option.some.inj h1]; exact N q hq
  · refine k b ob (G.1 b ob e fun q => ?_)
    rw [List.map_cons] at q
    rcases List.mem_cons.mp q with q | q
    · exact hb q
    · exact hm q
end

/-- the contract of a made def that changes one list of the ledger -/
noncomputable def FnDoesM (w : World) (p : Program) (loose : List Str) (mean : ExcName → Option Value) (mg mb : Str → Option Value) (led : List (Addr × Obj)) (D f : Addr) (vs : List Value) (args : List Value) (d u : Nat) (Post : List Value → Prop) : Prop :=
  ∀ (dp un : Nat) (gd : Option (List Code)) (cn : Str) (cs : Scope) (a : Addr) (ccd : Value) (cl : List (Str × Addr)) (outer : List Env) (A₀ : Around) (base h₀ : Heap) (L : Addr) (m : Str → Option Value) (s : Shared) (Q E : Value → Shared → Prop),
    Surr w p loose mean mg mb dp un cs outer A₀ base h₀ L m s d u (News h₀ L s.heap ((D, W.listOf vs.toArray 0) :: led) →
      (∀ h' tk' vs', (∀ b o, b ≠ D → s.heap.get? b = some o → h'.get? b = some o) → h'.get? D = some (W.listOf vs'.toArray 0) → Post vs' → Q .none { s with heap := h', toks := tk' }) →
      wpAny (model PySem.Challenge.rw_ph0140_01.row.prog w) (ktrTop dp un gd cn cs L a ccd cl outer) (call (.ref f) args) Q E s)

noncomputable def I2dInner (w : World) (p : Program) (loose : List Str) (mean : ExcName → Option Value) (mg mb : Str → Option Value) (led : List (Addr × Obj)) (D f : Addr) (k cnt n : Nat) : Prop :=
  ∀ (l r x : Nat) (tx tl tr : Tok) (vs : List Value) (ns : List Int), l < r → r ≤ cnt → r - l = n → x < 2 ^ ((r - l) * k) → IntsAre vs ns → ns.length = cnt →
    FnDoesM w p loose mean mg mb led D f vs [.int x tx, .int l tl, .int r tr] (n + 2) (8 * n + 16) (fun vs' => IntsAre vs' (ns.take l ++ digs k (r - l) x ++ ns.drop r))

theorem i2d_use {w : World} {p : Program} {loose : List Str} {mean : ExcName → Option Value} {mg mb : Str → Option Value} {led : List (Addr × Obj)} {dp un : Nat} {gd : Option (List Code)} {cn : Str} {cs : Scope} {a f D : Addr} {vs : List Value} {ns : List Int} {k cnt x : Nat} {ccd : Value} {cl : List (Str × Addr)} {outer : List Env} {A₀ : Around} {base h₀ : Heap} {L : Addr} {m : Str → Option Value} {s : Shared} {Q E : Value → Shared → Prop} {tx tl tr : Tok}
    (N : News h₀ L s.heap ((D, W.listOf vs.toArray 0) :: led)) (B : Below A₀ base outer h₀) (F : Fr h₀ L s.heap m) (X : (Mine.hd.heap_39 w.params).In h₀) (T : Top p loose mean mg mb h₀) (hk : cs.kind = .function) (hd : dp + (cnt + 2) < recursionLimit) (hu : un + (8 * cnt + 16) < cLine) (hI : IntsAre vs ns) (hl : ns.length = cnt) (h0 : 0 < cnt) (hx : x < 2 ^ (cnt * k))
    (step : ∀ n, (∀ n', n' < n → I2dInner w p loose mean mg mb led D f k cnt n') → I2dInner w p loose mean mg mb led D f k cnt n)
    (ret : ∀ h' tk' vs', (∀ b o, b ≠ D → s.heap.get? b = some o → h'.get? b = some o) → h'.get? D = some (W.listOf vs'.toArray 0) → IntsAre vs' (digs k cnt x) → Q .none { s with heap := h', toks := tk' }) :
    wpAny (model PySem.Challenge.rw_ph0140_01.row.prog w) (ktrTop dp un gd cn cs L a ccd cl outer) (call (.ref f) [.int x tx, .int 0 tl, .int cnt tr]) Q E s := by
  have all : ∀ n, I2dInner w p loose mean mg mb led D f k cnt n := fun n => by
    induction n using Nat.strongRecOn with
    | _ n ih => exact step n ih
  refine all cnt 0 cnt x tx tl tr vs ns h0 (Nat.le_refl _) rfl hx hI hl dp un gd cn cs a ccd cl outer A₀ base h₀ L m s Q E B F X T hk hd hu N ?_
  intro h' tk' vs' st hD hI'
  refine ret h' tk' vs' st hD ?_
  have e : ns.take 0 ++ digs k (cnt - 0) x ++ ns.drop cnt = digs k cnt x := by rw [List.drop_eq_nil_of_le (by (first | lia | omega))]; simp
  rw [e] at hI'
  exact hI'
end Mine
namespace Mine

noncomputable def cntOf (k x : Nat) : Nat := (Builtin.Int.intBits (x : Int) + k - 1) / k
noncomputable def i2dQual : Str := Str.ofString "_int2digits.<locals>.inner"
noncomputable abbrev i2dTab (c : Addr) : Obj := tabObj #[rawInt 14, rawInt 4, .ref c]
theorem i2d_qual {scope : Scope} {L f : Addr} {cd : Value} (h : ((envOfC (Str.ofString "_int2digits") scope L f cd).kindOf (Str.ofString "inner") == some .globalExplicit) = false) : qualnameIn (envOfC (Str.ofString "_int2digits") scope L f cd) (Str.ofString "inner") (Str.ofString "inner") = i2dQual := by
  unfold qualnameIn
  rw [if_neg (by rw [h]; exact Bool.false_ne_true)]
  show (Str.ofString "_int2digits" ++ Str.ofString ".<locals>.") ++ Str.ofString "inner" = _
  decide +kernel
theorem ne_tail {h₀ h : Heap} {L D : Addr} {o : Obj} {led : List (Addr × Obj)} (_ : News h₀ L h ((D, o) :: led)) (h : ∀ q ∈ led, q.1 ≠ D) : ∀ q ∈ led, q.1 ≠ D := h
theorem grounds_none {h g : Heap} {led : List (Addr × Obj)} {D : Addr} (G : Grounds h led g) (hg : g.get? D = none) (hD : D ∉ led.map (·.1)) : h.get? D = none := by
  cases e : h.get? D with
  | none => rfl
  | some o => rw [G.1 _ _ e hD] at hg; cases hg
theorem stays_none {h g : Heap} {D : Addr} (st : h.StaysIn g) (hg : g.get? D = none) : h.get? D = none := by
  cases e : h.get? D with
  | none => rfl
  | some o => rw [st _ _ e] at hg; cases hg
theorem cnt_fits {k x : Nat} (hk : 1 ≤ k) : x < 2 ^ (cntOf k x * k) := by
  have h1 : Builtin.Int.intBits (x : Int) ≤ cntOf k x * k := by
    unfold cntOf
    have := Nat.div_add_mod (Builtin.Int.intBits (x : Int) + k - 1) k
    have h2 := Nat.mod_lt (Builtin.Int.intBits (x : Int) + k - 1) (show k > 0 by (first | lia | omega))
    rw [Nat.mul_comm] at this
    (first | lia | omega)
  have := intBits_le_iff.mp h1
  (first | lia | omega)
theorem cnt_zero {k : Nat} (hk : 1 ≤ k) : cntOf k 0 = 0 := by
  unfold cntOf
  have : Builtin.Int.intBits ((0 : Nat) : Int) = 0 := rfl
  rw [this]
  exact Nat.div_eq_of_lt (by (first | lia | omega))
theorem cnt_pos {k x : Nat} (hk : 1 ≤ k) (hx : 0 < x) : 0 < cntOf k x := by
  rcases Nat.eq_zero_or_pos (cntOf k x) with h | h
  · have := cnt_fits (k := k) (x := x) hk
    rw [h, Nat.zero_mul] at this
    (first | lia | omega)
  · exact h
theorem shiftN {mid l k : Nat} (h : l ≤ mid) : (((mid : Int) - (l : Int)) * (k : Int)) = (((mid - l) * k : Nat) : Int) := by rw [Int.natCast_mul, Int.ofNat_sub h]
theorem fdivP (y s : Nat) : (y : Int).fdiv (2 ^ s) = ((y / 2 ^ s : Nat) : Int) := by rw [← kbt_cast, fdivN]
theorem set_mid {ns : List Int} {l : Nat} {v : Int} (h : l < ns.length) : ns.set l v = ns.take l ++ [v] ++ ns.drop (l + 1) := by
  rw [List.set_eq_take_append_cons_drop, if_pos h, List.append_assoc]; rfl
theorem two_parts {ns : List Int} {l mid r : Nat} {a b : List Int} (h1 : l ≤ mid) (h2 : mid ≤ r) (h3 : r ≤ ns.length) (ha : a.length = mid - l) :
    (ns.take l ++ a ++ ns.drop mid).take mid ++ b ++ (ns.take l ++ a ++ ns.drop mid).drop r = ns.take l ++ (a ++ b) ++ ns.drop r := by
  have hl : (ns.take l ++ a).length = mid := by rw [List.length_append, List.length_take, ha]; (first | lia | omega)
  have e1 : (ns.take l ++ a ++ ns.drop mid).take mid = ns.take l ++ a := by rw [List.take_append_of_le_length (by (first | lia | omega)), List.take_of_length_le (by (first | lia | omega))]
  have e2 : (ns.take l ++ a ++ ns.drop mid).drop r = ns.drop r := by
    rw [List.drop_append, List.drop_eq_nil_of_le (by (first | lia | omega)), List.nil_append, List.drop_drop, hl, show mid + (r - mid) = r by (first | lia | omega)]
  rw [e1, e2, List.append_assoc (ns.take l) a b]
theorem take2 {h₀ h : Heap} {L : Addr} {led : List (Addr × Obj)} {a d : Addr × Obj} (N : News h₀ L h (a :: d :: led)) : News h₀ L h (d :: a :: led) := fun q hq => N q (by
  simp only [List.mem_cons] at hq ⊢
  rcases hq with h | h | h
  · exact .inr (.inl h)
  · exact .inl h
  · exact .inr (.inr h))

theorem i2d_first (w : World) (x : Nat) (t : Tok) (k : Nat) (u : Tok) (hk1 : 1 ≤ k) (hk3 : k ≤ 3) (hx : x < 2 ^ 180)
   (p : Program) (loose : List Str) (mean : ExcName → Option Value) (mg mb : Str → Option Value) (dp un : Nat) (gd : Option (List Code)) (cn : Str) (cs : Scope) (a : Addr) (ccd : Value) (cl : List (Str × Addr)) (outer : List Env) (A₀ : Around) (base h₀ : Heap) (L : Addr) (m : Str → Option Value) (s : Shared) (Q E : Value → Shared → Prop) :
    Surr w p loose mean mg mb dp un cs outer A₀ base h₀ L m s 250 2500 (News h₀ L s.heap [(30, tabObj #[])] →
      (∀ D vs' h' tk' c' oc ovs tq, s.heap.get? D = none → h'.get? D = some (W.listOf vs'.toArray 0) → IntsAre vs' (digs k (cntOf k x) x) → (∀ b o, b ≠ 30 → s.heap.get? b = some o → h'.get? b = some o) →
        h'.get? 30 = some (i2dTab c') → h'.get? c' = some oc → oc.data = .fields ovs → ovs[1]? = some (.str i2dQual tq) → @LT.lt Nat _ 30 c' → h₀.get? c' = none → c' ≠ L → s.heap.get? c' = none → Q (.ref D) { s with heap := h', toks := tk' }) →
      wpAny (model PySem.Challenge.rw_ph0140_01.row.prog w) (ktrTop dp un gd cn cs L a ccd cl outer) (call (.ref 35) [.int x t, .int k u]) Q E s) := by
  unfold Surr
  k_fill
  intro B F X T hk hd hu N ret
  refine wpAny_call ?_
  k_dflt (refine' code_KC (binds := [(Str.ofString "a", .int x t), (Str.ofString "n", .int k u)]) B F X T N ?kA ?kF ?kK ?k6 ?k7 ?k8 ?k9 ?kB ?kD ?_ ?c2 ?c3 ?c4)
  case kA => exact rfl
  case kF => exact rfl
  case kK => assumption
  case k6 => k_is
  case k7 => k_is
  case k8 => ktr_room
  case k9 => exact BindsTo.of_eq rfl
  case kB => exact rfl
  case kD => decide +kernel
  case c2 => exact rfl
  case c3 => exact rfl
  case c4 => exact rfl
  intro g L' s₁ Qz cells hqz G st0 F' N' Y lt B' X' T'
  k_lt lt
  have hC : CodeHd g 34 30 := codeHd_of_K X' (by kernel_rfl)
  k_cells Y
  (try simp only [List.cons_append, List.nil_append] at N'); (try dsimp only); (try k_fold)
  have hbits : Builtin.Int.intBits (x : Int) ≤ 180 := by
    rw [intBits_le_iff]
    (first | lia | omega)
  clear hx
  have em : ((Builtin.Int.intBits (x : Int) : Int) + (k : Int) - 1).fdiv (k : Int) = ((cntOf k x : Nat) : Int) := by
    unfold cntOf
    rw [← fdivN]
    congr 1
    (first | lia | omega)
  have hcnt : cntOf k x ≤ 200 := Nat.le_trans (Nat.div_le_self _ _) (by (first | lia | omega))
  have hfit := cnt_fits (k := k) (x := x) hk1
  have hzero : x = 0 → cntOf k x = 0 := fun e => by rw [e]; exact cnt_zero hk1
  have hpos : x ≠ 0 → 0 < cntOf k x := fun e => cnt_pos hk1 (by (first | lia | omega))
  (repeat' ((fail_if_success (with_reducible show wpAny _ _ (pyIter _) _ _ _)); (fail_if_success (with_reducible show wpAny _ _ (call (Value.ref _) _) _ _ _)); (fail_if_success (with_reducible show wpAny _ _ (binaryOp Operator.LShift _ _) _ _ _)); (first | (k_unfold; (try dsimp only)) | (law_purse 100000 => walk1) | (dsimp only; (law_purse 100000 => walk1)))))
  · (rename Fr _ _ _ _ => F1); (rename News _ _ _ _ => N1)
    have hx0 : (x : Int) ≠ 0 := by assumption
    (rename IntsAre _ _ => hI0); (rename List.length (List.flatten _) = _ => hn0)
    rw [em, Int.toNat_natCast] at hI0 hn0 N1
    have hrep : (List.replicate (cntOf k x) [(0 : Int)]).flatten = List.replicate (cntOf k x) 0 := by simp
    rw [hrep] at hI0 hn0
    rw [List.length_replicate] at hn0
    rw [← hn0]
    have N2 := take3 N1
    have hofD := ne_tail N2 (by clear hfit em hbits hpos hzero hcnt; k_all)
    clear N1
    refine i2d_use (k := k) (cnt := cntOf k x) N2 B' F1 X' T' rfl ?kd ?ku hI0 (by simp) (hpos (by (first | lia | omega))) hfit ?step ?ret
    case kd => (try simp only [depth_deeper]); (try dsimp only [ktrTop]); (first | lia | omega)
    case ku => (try simp only [units_deeper]); (try dsimp only [ktrTop]); (first | lia | omega)
    case step =>
      clear F1 N2
      intro n ih l r y ty tl tr vs ns hlr hr hrl hy hI hln
      unfold FnDoesM Surr
      intro dp2 un2 gd2 cn2 cs2 a2 ccd2 cl2 outer2 A2 base2 g2 L2 m2 s2 Q2 E2 B2 F2 X2 T2 hk2 hd2 hu2 N2 ret2
      refine wpAny_call ?_
      k_dflt (refine' code_X (binds := [(Str.ofString "x", .int y ty), (Str.ofString "L", .int l tl), (Str.ofString "R", .int r tr)]) B2 F2 X2 T2 N2 ?kA ?kF ?kK (N2 _ (.tail _ (.head _))).1 rfl ?k7 ?k8 ?k9 ?kB ?_ ?c1 ?c2 ?c3 ?c4)
      case kA => exact rfl
      case kF => exact rfl
      case kK => assumption
      case k7 => exact codeRec_news N2 (.tail _ (.tail _ (.head _))) (by assumption) (by assumption)
      case k8 => (try dsimp only [ktrTop]); (first | lia | omega)
      case k9 => exact BindsTo.of_eq rfl
      case kB => exact locs rfl
      case c1 => decide
      case c2 => exact rfl
      case c3 => exact rfl
      case c4 => exact rfl
      intro g3 L3 s3 Qz2 hz2 G3 st3 F3 N3 lt3 B3 X3 T3
      (try dsimp only [List.reverse, List.reverseAux] at F3); (try dsimp only); (try k_fold)
      have emid : ((l : Int) + (r : Int)).fdiv (2 ^ Int.toNat 1) = (((l + r) / 2 : Nat) : Int) := fdivN (l + r) 2
      have e1 : (((l : Int) + (r : Int)).fdiv (2 ^ Int.toNat 1) - (l : Int)) * (k : Int) = ((((l + r) / 2 - l) * k : Nat) : Int) := by rw [emid, shiftN (by (first | lia | omega))]
      have hs0 : 0 ≤ (((l : Int) + (r : Int)).fdiv (2 ^ Int.toNat 1) - (l : Int)) * (k : Int) := by rw [e1]; (first | lia | omega)
      have hs1 : (((l : Int) + (r : Int)).fdiv (2 ^ Int.toNat 1) - (l : Int)) * (k : Int) ≤ 1000 := by
        rw [e1]
        have := Nat.mul_le_mul (show (l + r) / 2 - l ≤ 200 by (first | lia | omega)) hk3
        (first | lia | omega)
      have hq : Builtin.Int.intBits ((y : Int).fdiv (2 ^ ((((l : Int) + (r : Int)).fdiv (2 ^ Int.toNat 1) - (l : Int)) * (k : Int)).toNat)) ≤ 600 := by
        rw [e1, Int.toNat_natCast, fdivP, intBits_le_iff]
        have h1 := Nat.div_le_self y (2 ^ (((l + r) / 2 - l) * k))
        have h2 : (r - l) * k ≤ 600 := Nat.le_trans (Nat.mul_le_mul (show r - l ≤ 200 by (first | lia | omega)) hk3) (by decide)
        have h3 : (2 : Nat) ^ ((r - l) * k) ≤ 2 ^ 600 := Nat.pow_le_pow_right (by decide) h2
        rw [Int.natAbs_natCast]
        exact Nat.lt_of_le_of_lt h1 (Nat.lt_of_lt_of_le hy h3)
      (repeat' ((fail_if_success (with_reducible show wpAny _ _ (pyIter _) _ _ _)); (fail_if_success (with_reducible show wpAny _ _ (call (Value.ref _) _) _ _ _)); (fail_if_success (with_reducible show wpAny _ _ (binaryOp Operator.LShift _ _) _ _ _)); (first | (k_unfold; (try dsimp only)) | (law_purse 100000 => walk1) | (dsimp only; (law_purse 100000 => walk1)))))
      · (rename Fr _ _ _ _ => F4); (rename News _ _ _ _ => N4); (rename IntsAre _ _ => hI4)
        have h1 : (l : Int) + 1 = (r : Int) := by assumption
        show Qz2 (.ret .none) _
        have hr1 : r = l + 1 := by (first | lia | omega)
        subst hr1
        have hy' : y < 2 ^ k := by rw [show l + 1 - l = 1 by (first | lia | omega), Nat.one_mul] at hy; exact hy
        rw [Int.toNat_natCast] at N4 hI4
        rw [set_mid (by (first | lia | omega))] at hI4
        rw [show l + 1 - l = 1 by (first | lia | omega), digs_one k y hy'] at ret2
        exact hz2 _ _ _ (ret2 _ _ _ (grounds_but G3 (fun q hq => (N2 q (.tail _ hq)).1) F4.keep (fun q hq => (N4 q (.tail _ hq)).1)) (N4 _ (.head _)).1 hI4)
      · refine lshift_int hs0 (kbm_shl hq (by (first | lia | omega)) (by decide)) ?_
        try dsimp only
        (repeat' ((fail_if_success (with_reducible show wpAny _ _ (pyIter _) _ _ _)); (fail_if_success (with_reducible show wpAny _ _ (call (Value.ref _) _) _ _ _)); (fail_if_success (with_reducible show wpAny _ _ (binaryOp Operator.LShift _ _) _ _ _)); (first | (k_unfold; (try dsimp only)) | (law_purse 100000 => walk1) | (dsimp only; (law_purse 100000 => walk1)))))
        (rename Fr _ _ _ _ => F4); (rename News _ _ _ _ => N4)
        have hM := mid_in hlr (by assumption) rfl hrl
        rw [e1, Int.toNat_natCast, fdivP, bitXor_low, emid] at F4 ⊢
        clear e1 emid hs0 hs1 hq
        (rename (_ : Int) ≠ _ => hne); clear hne
        generalize (l + r) / 2 = mid at F4 hM ⊢
        have hM1 := hM.1
        have hM2 := hM.2.1
        have hM3 := hM.2.2.1
        have hM4 := hM.2.2.2
        clear hM
        refine ih (mid - l) hM3 l mid (y % 2 ^ ((mid - l) * k)) _ _ _ vs ns hM1 (Nat.le_trans (Nat.le_of_lt hM2) hr) rfl (Nat.mod_lt _ (Nat.two_pow_pos _)) hI hln _ _ _ _ _ _ _ _ _ _ _ _ _ _ _ _ _ B3 F4 X3 T3 rfl ?kd2 ?ku2 N4 ?_
        case kd2 => (try simp only [depth_deeper]); (try dsimp only [ktrTop]); exact dep_in hd2 hM3
        case ku2 => (try simp only [units_deeper]); (try dsimp only [ktrTop]); exact un_in hu2 hM3
        intro h5 tk5 vs5 k5 hD5 hI5
        have F5 := but_fr F4 N4 k5
        have N5 := but_news N4 hofD k5 hD5
        clear F4 N4
        dsimp only at F5 N5 ⊢
        (repeat' ((fail_if_success (with_reducible show wpAny _ _ (pyIter _) _ _ _)); (fail_if_success (with_reducible show wpAny _ _ (call (Value.ref _) _) _ _ _)); (fail_if_success (with_reducible show wpAny _ _ (binaryOp Operator.LShift _ _) _ _ _)); (first | (k_unfold; (try dsimp only)) | (law_purse 100000 => walk1) | (dsimp only; (law_purse 100000 => walk1)))))
        have hup : y / 2 ^ ((mid - l) * k) < 2 ^ ((r - mid) * k) := by
          rw [Nat.div_lt_iff_lt_mul (Nat.two_pow_pos _), ← Nat.pow_add, ← Nat.add_mul, mid_sum hM1 hM2]
          exact hy
        have hdl : (digs k (mid - l) (y % 2 ^ ((mid - l) * k))).length = mid - l := digs_length _ _ _
        refine ih (r - mid) hM4 mid r (y / 2 ^ ((mid - l) * k)) _ _ _ vs5 _ hM2 hr rfl hup hI5 (by simp only [List.length_append, List.length_take, List.length_drop, hdl]; exact three_len hM1 hM2 hr hln) _ _ _ _ _ _ _ _ _ _ _ _ _ _ _ _ _ B3 F5 X3 T3 rfl ?kd3 ?ku3 N5 ?_
        case kd3 => (try simp only [depth_deeper]); (try dsimp only [ktrTop]); exact dep_in hd2 hM4
        case ku3 => (try simp only [units_deeper]); (try dsimp only [ktrTop]); exact un_in hu2 hM4
        intro h6 tk6 vs6 k6 hD6 hI6
        have F6 := but_fr F5 N5 k6
        have N6 := but_news N5 hofD k6 hD6
        clear F5 N5
        dsimp only at F6 N6 ⊢
        (repeat' ((fail_if_success (with_reducible show wpAny _ _ (pyIter _) _ _ _)); (fail_if_success (with_reducible show wpAny _ _ (call (Value.ref _) _) _ _ _)); (fail_if_success (with_reducible show wpAny _ _ (binaryOp Operator.LShift _ _) _ _ _)); (first | (k_unfold; (try dsimp only)) | (law_purse 100000 => walk1) | (dsimp only; (law_purse 100000 => walk1)))))
        rw [two_parts (Nat.le_of_lt hM1) (Nat.le_of_lt hM2) (hln ▸ hr) hdl, ← digs_add, mid_sum' hM1 hM2] at hI6
        exact hz2 _ _ _ (ret2 _ _ _ (grounds_but G3 (fun q hq => (N2 q (.tail _ hq)).1) F6.keep (fun q hq => (N6 q (.tail _ hq)).1)) (N6 _ (.head _)).1 hI6)
    case ret =>
      intro h9 tk9 vs9 k9 hD9 hI9
      have F9 := but_fr F1 N2 k9
      have N9 := but_news N2 hofD k9 hD9
      clear F1 N2
      try dsimp only at F9 N9
      try dsimp only
      (repeat' ((fail_if_success (with_reducible show wpAny _ _ (pyIter _) _ _ _)); (fail_if_success (with_reducible show wpAny _ _ (call (Value.ref _) _) _ _ _)); (fail_if_success (with_reducible show wpAny _ _ (binaryOp Operator.LShift _ _) _ _ _)); (first | (k_unfold; (try dsimp only)) | (law_purse 100000 => walk1) | (dsimp only; (law_purse 100000 => walk1)))))
      have gD := (N9 _ (.head _)).2.2
      have oldD : s.heap.get? _ = none := grounds_none G gD (by simp only [List.map_cons, List.map_nil, List.mem_cons, List.not_mem_nil, or_false]; first | exact neN (by (first | lia | omega)) | exact not_or.mpr ⟨neN (by (first | lia | omega)), neN (by (first | lia | omega))⟩)
      (rename (_ : Option Value) = some (Value.str (qualnameIn _ _ _) _) => dq)
      (rename (_ : Data) = Data.fields _ => df)
      have hc := N9 _ (.tail _ (.tail _ (.head _)))
      rw [i2d_qual rfl] at dq
      exact hqz _ _ _ (ret _ _ _ _ _ _ _ _ oldD (N9 _ (.head _)).1 hI9 (fun b o hb e => F9.keep _ _ (G.1 _ _ e (by simpa using hb))) (N9 (30, _) (by k_mem)).1 hc.1 df dq (by (first | lia | omega)) (stays_none st0 hc.2.2) (fun q => by
        obtain ⟨oL, _, _, hL, _⟩ := F.ns
        have h1 := hc.2.2
        rw [q, G.1 _ _ hL (by
          have h3 := (N _ (.head _)).2.1
          simp only [List.map_cons, List.map_nil, List.mem_cons, List.not_mem_nil, or_false]
          exact fun e => h3 e.symm)] at h1
        cases h1) (grounds_none G hc.2.2 (by simp only [List.map_cons, List.map_nil, List.mem_cons, List.not_mem_nil, or_false]; exact neN (by (first | lia | omega)))))
  · (rename Fr _ _ _ _ => F9); (rename News _ _ _ _ => N1); (rename IntsAre _ _ => hI0)
    have hx0 : (x : Int) = 0 := by assumption
    have hz := hzero (by (first | lia | omega))
    rw [em, hz] at hI0 N1
    have N9 := take3 N1
    clear N1
    have hI9 : IntsAre [] (digs k (cntOf k x) x) := by rw [hz]; exact .nil
    have gD := (N9 _ (.head _)).2.2
    have oldD : s.heap.get? _ = none := grounds_none G gD (by simp only [List.map_cons, List.map_nil, List.mem_cons, List.not_mem_nil, or_false]; first | exact neN (by (first | lia | omega)) | exact not_or.mpr ⟨neN (by (first | lia | omega)), neN (by (first | lia | omega))⟩)
    (rename (_ : Option Value) = some (Value.str (qualnameIn _ _ _) _) => dq)
    (rename (_ : Data) = Data.fields _ => df)
    have hc := N9 _ (.tail _ (.tail _ (.head _)))
    rw [i2d_qual rfl] at dq
    exact hqz _ _ _ (ret _ _ _ _ _ _ _ _ oldD (N9 _ (.head _)).1 hI9 (fun b o hb e => F9.keep _ _ (G.1 _ _ e (by simpa using hb))) (N9 (30, _) (by k_mem)).1 hc.1 df dq (by (first | lia | omega)) (stays_none st0 hc.2.2) (fun q => by
      obtain ⟨oL, _, _, hL, _⟩ := F.ns
      have h1 := hc.2.2
      rw [q, G.1 _ _ hL (by
        have h3 := (N _ (.head _)).2.1
        simp only [List.map_cons, List.map_nil, List.mem_cons, List.not_mem_nil, or_false]
        exact fun e => h3 e.symm)] at h1
      cases h1) (grounds_none G hc.2.2 (by simp only [List.map_cons, List.map_nil, List.mem_cons, List.not_mem_nil, or_false]; exact neN (by (first | lia | omega)))))

theorem i2d_again (w : World) (x : Nat) (t : Tok) (k : Nat) (u : Tok) (hk1 : 1 ≤ k) (hk3 : k ≤ 3) (hx : x < 2 ^ 180) (c0 : Addr) (oc0 : Obj) (ovs0 : Array Value) (tq0 : Tok) (hoc0 : oc0.data = .fields ovs0) (hov0 : ovs0[1]? = some (.str i2dQual tq0)) (hc030 : @LT.lt Nat _ 30 c0)
   (p : Program) (loose : List Str) (mean : ExcName → Option Value) (mg mb : Str → Option Value) (dp un : Nat) (gd : Option (List Code)) (cn : Str) (cs : Scope) (a : Addr) (ccd : Value) (cl : List (Str × Addr)) (outer : List Env) (A₀ : Around) (base h₀ : Heap) (L : Addr) (m : Str → Option Value) (s : Shared) (Q E : Value → Shared → Prop) :
    Surr w p loose mean mg mb dp un cs outer A₀ base h₀ L m s 250 2500 (News h₀ L s.heap [(30, i2dTab c0), (c0, oc0)] →
      (∀ D vs' h' tk' c' oc ovs tq, s.heap.get? D = none → h'.get? D = some (W.listOf vs'.toArray 0) → IntsAre vs' (digs k (cntOf k x) x) → (∀ b o, b ≠ 30 → s.heap.get? b = some o → h'.get? b = some o) →
        h'.get? 30 = some (i2dTab c') → h'.get? c' = some oc → oc.data = .fields ovs → ovs[1]? = some (.str i2dQual tq) → @LT.lt Nat _ 30 c' → h₀.get? c' = none → c' ≠ L → c' = c0 → Q (.ref D) { s with heap := h', toks := tk' }) →
      wpAny (model PySem.Challenge.rw_ph0140_01.row.prog w) (ktrTop dp un gd cn cs L a ccd cl outer) (call (.ref 35) [.int x t, .int k u]) Q E s) := by
  unfold Surr
  k_fill
  intro B F X T hk hd hu N ret
  refine wpAny_call ?_
  k_dflt (refine' code_KC (binds := [(Str.ofString "a", .int x t), (Str.ofString "n", .int k u)]) B F X T N ?kA ?kF ?kK ?k6 ?k7 ?k8 ?k9 ?kB ?kD ?_ ?c2 ?c3 ?c4)
  case kA => exact rfl
  case kF => exact rfl
  case kK => assumption
  case k6 => k_is
  case k7 => k_is
  case k8 => ktr_room
  case k9 => exact BindsTo.of_eq rfl
  case kB => exact rfl
  case kD => decide +kernel
  case c2 => exact rfl
  case c3 => exact rfl
  case c4 => exact rfl
  intro g L' s₁ Qz cells hqz G st0 F' N' Y lt B' X' T'
  k_lt lt
  have hC : CodeHd g 34 30 := codeHd_of_K X' (by kernel_rfl)
  k_cells Y
  (try simp only [List.cons_append, List.nil_append] at N'); (try dsimp only); (try k_fold)
  have hbits : Builtin.Int.intBits (x : Int) ≤ 180 := by
    rw [intBits_le_iff]
    (first | lia | omega)
  clear hx
  have em : ((Builtin.Int.intBits (x : Int) : Int) + (k : Int) - 1).fdiv (k : Int) = ((cntOf k x : Nat) : Int) := by
    unfold cntOf
    rw [← fdivN]
    congr 1
    (first | lia | omega)
  have hcnt : cntOf k x ≤ 200 := Nat.le_trans (Nat.div_le_self _ _) (by (first | lia | omega))
  have hfit := cnt_fits (k := k) (x := x) hk1
  have hzero : x = 0 → cntOf k x = 0 := fun e => by rw [e]; exact cnt_zero hk1
  have hpos : x ≠ 0 → 0 < cntOf k x := fun e => cnt_pos hk1 (by (first | lia | omega))
  (repeat' ((fail_if_success (with_reducible show wpAny _ _ (pyIter _) _ _ _)); (fail_if_success (with_reducible show wpAny _ _ (call (Value.ref _) _) _ _ _)); (fail_if_success (with_reducible show wpAny _ _ (binaryOp Operator.LShift _ _) _ _ _)); (first | (k_unfold; (try dsimp only)) | (law_purse 100000 => walk1) | (dsimp only; (law_purse 100000 => walk1)))))
  · (rename Fr _ _ _ _ => F1); (rename News _ _ _ _ => N1)
    have hx0 : (x : Int) ≠ 0 := by assumption
    (rename IntsAre _ _ => hI0); (rename List.length (List.flatten _) = _ => hn0)
    rw [em, Int.toNat_natCast] at hI0 hn0 N1
    have hrep : (List.replicate (cntOf k x) [(0 : Int)]).flatten = List.replicate (cntOf k x) 0 := by simp
    rw [hrep] at hI0 hn0
    rw [List.length_replicate] at hn0
    rw [← hn0]
    have N2 := take2 N1
    have hofD := ne_tail N2 (by clear hfit em hbits hpos hzero hcnt; k_all)
    clear N1
    refine i2d_use (k := k) (cnt := cntOf k x) N2 B' F1 X' T' rfl ?kd ?ku hI0 (by simp) (hpos (by (first | lia | omega))) hfit ?step ?ret
    case kd => (try simp only [depth_deeper]); (try dsimp only [ktrTop]); (first | lia | omega)
    case ku => (try simp only [units_deeper]); (try dsimp only [ktrTop]); (first | lia | omega)
    case step =>
      clear F1 N2
      intro n ih l r y ty tl tr vs ns hlr hr hrl hy hI hln
      unfold FnDoesM Surr
      intro dp2 un2 gd2 cn2 cs2 a2 ccd2 cl2 outer2 A2 base2 g2 L2 m2 s2 Q2 E2 B2 F2 X2 T2 hk2 hd2 hu2 N2 ret2
      refine wpAny_call ?_
      k_dflt (refine' code_X (binds := [(Str.ofString "x", .int y ty), (Str.ofString "L", .int l tl), (Str.ofString "R", .int r tr)]) B2 F2 X2 T2 N2 ?kA ?kF ?kK (N2 _ (.tail _ (.head _))).1 rfl ?k7 ?k8 ?k9 ?kB ?_ ?c1 ?c2 ?c3 ?c4)
      case kA => exact rfl
      case kF => exact rfl
      case kK => assumption
      case k7 => (rw [i2d_qual rfl]; exact codeRec_news (c := c0) (oc := oc0) N2 (by k_mem) hoc0 hov0)
      case k8 => (try dsimp only [ktrTop]); (first | lia | omega)
      case k9 => exact BindsTo.of_eq rfl
      case kB => exact locs rfl
      case c1 => decide
      case c2 => exact rfl
      case c3 => exact rfl
      case c4 => exact rfl
      intro g3 L3 s3 Qz2 hz2 G3 st3 F3 N3 lt3 B3 X3 T3
      (try dsimp only [List.reverse, List.reverseAux] at F3); (try dsimp only); (try k_fold)
      have emid : ((l : Int) + (r : Int)).fdiv (2 ^ Int.toNat 1) = (((l + r) / 2 : Nat) : Int) := fdivN (l + r) 2
      have e1 : (((l : Int) + (r : Int)).fdiv (2 ^ Int.toNat 1) - (l : Int)) * (k : Int) = ((((l + r) / 2 - l) * k : Nat) : Int) := by rw [emid, shiftN (by (first | lia | omega))]
      have hs0 : 0 ≤ (((l : Int) + (r : Int)).fdiv (2 ^ Int.toNat 1) - (l : Int)) * (k : Int) := by rw [e1]; (first | lia | omega)
      have hs1 : (((l : Int) + (r : Int)).fdiv (2 ^ Int.toNat 1) - (l : Int)) * (k : Int) ≤ 1000 := by
        rw [e1]
        have := Nat.mul_le_mul (show (l + r) / 2 - l ≤ 200 by (first | lia | omega)) hk3
        (first | lia | omega)
      have hq : Builtin.Int.intBits ((y : Int).fdiv (2 ^ ((((l : Int) + (r : Int)).fdiv (2 ^ Int.toNat 1) - (l : Int)) * (k : Int)).toNat)) ≤ 600 := by
        rw [e1, Int.toNat_natCast, fdivP, intBits_le_iff]
        have h1 := Nat.div_le_self y (2 ^ (((l + r) / 2 - l) * k))
        have h2 : (r - l) * k ≤ 600 := Nat.le_trans (Nat.mul_le_mul (show r - l ≤ 200 by (first | lia | omega)) hk3) (by decide)
        have h3 : (2 : Nat) ^ ((r - l) * k) ≤ 2 ^ 600 := Nat.pow_le_pow_right (by decide) h2
        rw [Int.natAbs_natCast]
        exact Nat.lt_of_le_of_lt h1 (Nat.lt_of_lt_of_le hy h3)
      (repeat' ((fail_if_success (with_reducible show wpAny _ _ (pyIter _) _ _ _)); (fail_if_success (with_reducible show wpAny _ _ (call (Value.ref _) _) _ _ _)); (fail_if_success (with_reducible show wpAny _ _ (binaryOp Operator.LShift _ _) _ _ _)); (first | (k_unfold; (try dsimp only)) | (law_purse 100000 => walk1) | (dsimp only; (law_purse 100000 => walk1)))))
      · (rename Fr _ _ _ _ => F4); (rename News _ _ _ _ => N4); (rename IntsAre _ _ => hI4)
        have h1 : (l : Int) + 1 = (r : Int) := by assumption
        show Qz2 (.ret .none) _
        have hr1 : r = l + 1 := by (first | lia | omega)
        subst hr1
        have hy' : y < 2 ^ k := by rw [show l + 1 - l = 1 by (first | lia | omega), Nat.one_mul] at hy; exact hy
        rw [Int.toNat_natCast] at N4 hI4
        rw [set_mid (by (first | lia | omega))] at hI4
        rw [show l + 1 - l = 1 by (first | lia | omega), digs_one k y hy'] at ret2
        exact hz2 _ _ _ (ret2 _ _ _ (grounds_but G3 (fun q hq => (N2 q (.tail _ hq)).1) F4.keep (fun q hq => (N4 q (.tail _ hq)).1)) (N4 _ (.head _)).1 hI4)
      · refine lshift_int hs0 (kbm_shl hq (by (first | lia | omega)) (by decide)) ?_
        try dsimp only
        (repeat' ((fail_if_success (with_reducible show wpAny _ _ (pyIter _) _ _ _)); (fail_if_success (with_reducible show wpAny _ _ (call (Value.ref _) _) _ _ _)); (fail_if_success (with_reducible show wpAny _ _ (binaryOp Operator.LShift _ _) _ _ _)); (first | (k_unfold; (try dsimp only)) | (law_purse 100000 => walk1) | (dsimp only; (law_purse 100000 => walk1)))))
        (rename Fr _ _ _ _ => F4); (rename News _ _ _ _ => N4)
        have hM := mid_in hlr (by assumption) rfl hrl
        rw [e1, Int.toNat_natCast, fdivP, bitXor_low, emid] at F4 ⊢
        clear e1 emid hs0 hs1 hq
        (rename (_ : Int) ≠ _ => hne); clear hne
        generalize (l + r) / 2 = mid at F4 hM ⊢
        have hM1 := hM.1
        have hM2 := hM.2.1
        have hM3 := hM.2.2.1
        have hM4 := hM.2.2.2
        clear hM
        refine ih (mid - l) hM3 l mid (y % 2 ^ ((mid - l) * k)) _ _ _ vs ns hM1 (Nat.le_trans (Nat.le_of_lt hM2) hr) rfl (Nat.mod_lt _ (Nat.two_pow_pos _)) hI hln _ _ _ _ _ _ _ _ _ _ _ _ _ _ _ _ _ B3 F4 X3 T3 rfl ?kd2 ?ku2 N4 ?_
        case kd2 => (try simp only [depth_deeper]); (try dsimp only [ktrTop]); exact dep_in hd2 hM3
        case ku2 => (try simp only [units_deeper]); (try dsimp only [ktrTop]); exact un_in hu2 hM3
        intro h5 tk5 vs5 k5 hD5 hI5
        have F5 := but_fr F4 N4 k5
        have N5 := but_news N4 hofD k5 hD5
        clear F4 N4
        dsimp only at F5 N5 ⊢
        (repeat' ((fail_if_success (with_reducible show wpAny _ _ (pyIter _) _ _ _)); (fail_if_success (with_reducible show wpAny _ _ (call (Value.ref _) _) _ _ _)); (fail_if_success (with_reducible show wpAny _ _ (binaryOp Operator.LShift _ _) _ _ _)); (first | (k_unfold; (try dsimp only)) | (law_purse 100000 => walk1) | (dsimp only; (law_purse 100000 => walk1)))))
        have hup : y / 2 ^ ((mid - l) * k) < 2 ^ ((r - mid) * k) := by
          rw [Nat.div_lt_iff_lt_mul (Nat.two_pow_pos _), ← Nat.pow_add, ← Nat.add_mul, mid_sum hM1 hM2]
          exact hy
        have hdl : (digs k (mid - l) (y % 2 ^ ((mid - l) * k))).length = mid - l := digs_length _ _ _
        refine ih (r - mid) hM4 mid r (y / 2 ^ ((mid - l) * k)) _ _ _ vs5 _ hM2 hr rfl hup hI5 (by simp only [List.length_append, List.length_take, List.length_drop, hdl]; exact three_len hM1 hM2 hr hln) _ _ _ _ _ _ _ _ _ _ _ _ _ _ _ _ _ B3 F5 X3 T3 rfl ?kd3 ?ku3 N5 ?_
        case kd3 => (try simp only [depth_deeper]); (try dsimp only [ktrTop]); exact dep_in hd2 hM4
        case ku3 => (try simp only [units_deeper]); (try dsimp only [ktrTop]); exact un_in hu2 hM4
        intro h6 tk6 vs6 k6 hD6 hI6
        have F6 := but_fr F5 N5 k6
        have N6 := but_news N5 hofD k6 hD6
        clear F5 N5
        dsimp only at F6 N6 ⊢
        (repeat' ((fail_if_success (with_reducible show wpAny _ _ (pyIter _) _ _ _)); (fail_if_success (with_reducible show wpAny _ _ (call (Value.ref _) _) _ _ _)); (fail_if_success (with_reducible show wpAny _ _ (binaryOp Operator.LShift _ _) _ _ _)); (first | (k_unfold; (try dsimp only)) | (law_purse 100000 => walk1) | (dsimp only; (law_purse 100000 => walk1)))))
        rw [two_parts (Nat.le_of_lt hM1) (Nat.le_of_lt hM2) (hln ▸ hr) hdl, ← digs_add, mid_sum' hM1 hM2] at hI6
        exact hz2 _ _ _ (ret2 _ _ _ (grounds_but G3 (fun q hq => (N2 q (.tail _ hq)).1) F6.keep (fun q hq => (N6 q (.tail _ hq)).1)) (N6 _ (.head _)).1 hI6)
    case ret =>
      intro h9 tk9 vs9 k9 hD9 hI9
      have F9 := but_fr F1 N2 k9
      have N9 := but_news N2 hofD k9 hD9
      clear F1 N2
      try dsimp only at F9 N9
      try dsimp only
      (repeat' ((fail_if_success (with_reducible show wpAny _ _ (pyIter _) _ _ _)); (fail_if_success (with_reducible show wpAny _ _ (call (Value.ref _) _) _ _ _)); (fail_if_success (with_reducible show wpAny _ _ (binaryOp Operator.LShift _ _) _ _ _)); (first | (k_unfold; (try dsimp only)) | (law_purse 100000 => walk1) | (dsimp only; (law_purse 100000 => walk1)))))
      have gD := (N9 _ (.head _)).2.2
      have oldD : s.heap.get? _ = none := grounds_none G gD (by simp only [List.map_cons, List.map_nil, List.mem_cons, List.not_mem_nil, or_false]; first | exact neN (by (first | lia | omega)) | exact not_or.mpr ⟨neN (by (first | lia | omega)), neN (by (first | lia | omega))⟩)
      have hc := N9 (c0, oc0) (by k_mem)
      have hc0 := N (c0, oc0) (.tail _ (.head _))
      exact hqz _ _ _ (ret _ _ _ _ _ _ _ _ oldD (N9 _ (.head _)).1 hI9 (fun b o hb e => by
        by_cases hbc : b = c0
        · subst hbc
          rw [hc0.1] at e
          cases e
          exact hc.1
        · exact F9.keep _ _ (G.1 _ _ e (by simpa using ⟨hb, hbc⟩))) (N9 (30, _) (by k_mem)).1 hc.1 hoc0 hov0 hc030 hc0.2.2 hc0.2.1 rfl)
  · (rename Fr _ _ _ _ => F9); (rename News _ _ _ _ => N1); (rename IntsAre _ _ => hI0)
    have hx0 : (x : Int) = 0 := by assumption
    have hz := hzero (by (first | lia | omega))
    rw [em, hz] at hI0 N1
    have N9 := take2 N1
    clear N1
    have hI9 : IntsAre [] (digs k (cntOf k x) x) := by rw [hz]; exact .nil
    have gD := (N9 _ (.head _)).2.2
    have oldD : s.heap.get? _ = none := grounds_none G gD (by simp only [List.map_cons, List.map_nil, List.mem_cons, List.not_mem_nil, or_false]; first | exact neN (by (first | lia | omega)) | exact not_or.mpr ⟨neN (by (first | lia | omega)), neN (by (first | lia | omega))⟩)
    have hc := N9 (c0, oc0) (by k_mem)
    have hc0 := N (c0, oc0) (.tail _ (.head _))
    exact hqz _ _ _ (ret _ _ _ _ _ _ _ _ oldD (N9 _ (.head _)).1 hI9 (fun b o hb e => by
      by_cases hbc : b = c0
      · subst hbc
        rw [hc0.1] at e
        cases e
        exact hc.1
      · exact F9.keep _ _ (G.1 _ _ e (by simpa using ⟨hb, hbc⟩))) (N9 (30, _) (by k_mem)).1 hc.1 hoc0 hov0 hc030 hc0.2.2 hc0.2.1 rfl)
end Mine
namespace Mine

noncomputable def incr (cs : List Int) (b : Nat) : List Int :=
  if cs.length ≤ b then (cs ++ List.replicate (b - cs.length + 1) 0).set b ((cs ++ List.replicate (b - cs.length + 1) 0).getD b 0 + 1) else cs.set b (cs.getD b 0 + 1)
noncomputable def wsStep (st : List Int × Nat × Nat) (c : Nat) : List Int × Nat × Nat := if c = 32 then (st.1, st.2.1 + 1, st.2.2) else (incr st.1 st.2.1, 0, st.2.2 + 1)
noncomputable def wsOf (l : List Nat) : List Int × Nat × Nat := l.foldl wsStep ([], 0, 0)
theorem wsOf_snoc (l : List Nat) (c : Nat) : wsOf (l ++ [c]) = wsStep (wsOf l) c := by simp [wsOf, List.foldl_append]
theorem incr_length (cs : List Int) (b : Nat) : (incr cs b).length = max cs.length (b + 1) := by
  unfold incr
  split
  · rw [List.length_set, List.length_append, List.length_replicate]; (first | lia | omega)
  · rw [List.length_set]; (first | lia | omega)
theorem ws_fold : ∀ (l : List Nat) (st : List Int × Nat × Nat) (n : Nat), st.1.length ≤ n → st.2.1 ≤ n → st.2.2 ≤ n → (l.foldl wsStep st).1.length ≤ n + l.length ∧ (l.foldl wsStep st).2.1 ≤ n + l.length ∧ (l.foldl wsStep st).2.2 ≤ n + l.length
  | [], _, _, h1, h2, h3 => ⟨h1, h2, h3⟩
  | c :: r, st, n, h1, h2, h3 => by
    have h : (wsStep st c).1.length ≤ n + 1 ∧ (wsStep st c).2.1 ≤ n + 1 ∧ (wsStep st c).2.2 ≤ n + 1 := by
      unfold wsStep
      split
      · dsimp only; (first | lia | omega)
      · dsimp only; rw [incr_length]; (first | lia | omega)
    have := ws_fold r (wsStep st c) (n + 1) h.1 h.2.1 h.2.2
    rw [List.foldl_cons, List.length_cons]
    (first | lia | omega)
theorem ws_small (l : List Nat) : (wsOf l).1.length ≤ l.length ∧ (wsOf l).2.1 ≤ l.length ∧ (wsOf l).2.2 ≤ l.length := by
  have := ws_fold l ([], 0, 0) 0 (Nat.le_refl _) (Nat.le_refl _) (Nat.le_refl _)
  unfold wsOf
  (first | lia | omega)

noncomputable def initM (uu m₀ : Str → Option Value) (nt n b C : Value) : Str → Option Value := fun y => if y = Str.ofString "ch" then uu y else if y = Str.ofString "nt" then some nt else if y = Str.ofString "n" then some n else if y = Str.ofString "b" then some b else if y = Str.ofString "count" then some C else m₀ y

theorem initM0 {m₀ : Str → Option Value} {a b c C : Value} : (fun y => if y = Str.ofString "nt" then some a else if y = Str.ofString "n" then some b else if y = Str.ofString "b" then some c else if y = Str.ofString "count" then some C else m₀ y) = initM m₀ m₀ a b c C := by
  funext y
  unfold initM
  by_cases h : y = Str.ofString "ch"
  · subst h; rfl
  · simp only [h, if_false]

theorem initB {G : Option Value} {b' n' nt n b C : Value} {uu m₀ : Str → Option Value} : (fun y => if y = Str.ofString "b" then some b' else if y = Str.ofString "n" then some n' else if y = Str.ofString "ch" then G else if y = Str.ofString "ch" then uu y else if y = Str.ofString "nt" then some nt else if y = Str.ofString "n" then some n else if y = Str.ofString "b" then some b else if y = Str.ofString "count" then some C else m₀ y) = initM (fun _ => G) m₀ nt n' b' C := by
  funext y
  unfold initM
  by_cases hb : y = Str.ofString "b"
  · subst hb; rfl
  by_cases hcount : y = Str.ofString "count"
  · subst hcount; rfl
  by_cases hnt : y = Str.ofString "nt"
  · subst hnt; rfl
  by_cases hn : y = Str.ofString "n"
  · subst hn; rfl
  by_cases hch : y = Str.ofString "ch"
  · subst hch; rfl
  simp only [hb, hcount, hnt, hn, hch, if_false]
theorem initT1 {G : Option Value} {b' n' nt' C' nt n b C : Value} {uu m₀ : Str → Option Value} : (fun y => if y = Str.ofString "b" then some b' else if y = Str.ofString "count" then some C' else if y = Str.ofString "nt" then some nt' else if y = Str.ofString "n" then some n' else if y = Str.ofString "ch" then G else if y = Str.ofString "ch" then uu y else if y = Str.ofString "nt" then some nt else if y = Str.ofString "n" then some n else if y = Str.ofString "b" then some b else if y = Str.ofString "count" then some C else m₀ y) = initM (fun _ => G) m₀ nt' n' b' C' := by
  funext y
  unfold initM
  by_cases hb : y = Str.ofString "b"
  · subst hb; rfl
  by_cases hcount : y = Str.ofString "count"
  · subst hcount; rfl
  by_cases hnt : y = Str.ofString "nt"
  · subst hnt; rfl
  by_cases hn : y = Str.ofString "n"
  · subst hn; rfl
  by_cases hch : y = Str.ofString "ch"
  · subst hch; rfl
  simp only [hb, hcount, hnt, hn, hch, if_false]
theorem initT2 {G : Option Value} {b' n' nt' nt n b C : Value} {uu m₀ : Str → Option Value} : (fun y => if y = Str.ofString "b" then some b' else if y = Str.ofString "nt" then some nt' else if y = Str.ofString "n" then some n' else if y = Str.ofString "ch" then G else if y = Str.ofString "ch" then uu y else if y = Str.ofString "nt" then some nt else if y = Str.ofString "n" then some n else if y = Str.ofString "b" then some b else if y = Str.ofString "count" then some C else m₀ y) = initM (fun _ => G) m₀ nt' n' b' C := by
  funext y
  unfold initM
  by_cases hb : y = Str.ofString "b"
  · subst hb; rfl
  by_cases hcount : y = Str.ofString "count"
  · subst hcount; rfl
  by_cases hnt : y = Str.ofString "nt"
  · subst hnt; rfl
  by_cases hn : y = Str.ofString "n"
  · subst hn; rfl
  by_cases hch : y = Str.ofString "ch"
  · subst hch; rfl
  simp only [hb, hcount, hnt, hn, hch, if_false]
theorem three_off {I C x dx : Addr} {a b c : Obj} (h1 : @Ne Nat I C) (h2 : @Ne Nat I x) (h3 : @Ne Nat I dx) : ∀ p ∈ [(C, a), (x, b), (dx, c)], p.1 ≠ I := fun p hp => by
  simp only [List.mem_cons, List.not_mem_nil, or_false] at hp
  rcases hp with rfl | rfl | rfl
  · exact h1.symm
  · exact h2.symm
  · exact h3.symm
theorem sub_news {h₀ h : Heap} {L : Addr} {a b : List (Addr × Obj)} (N : News h₀ L h b) (hs : ∀ p ∈ a, p ∈ b) : News h₀ L h a := fun p hp => N p (hs p hp)
theorem sgn_blank {c : Nat} (h : (({ cps := #[c] } : Str) == Str.ofString " ") = true) : c = 32 := by
  have := eq_of_beq h
  rw [show Str.ofString " " = ⟨#[32]⟩ from by decide +kernel] at this
  simpa using this
theorem sgn_tab {c : Nat} (h : (({ cps := #[c] } : Str) == Str.ofString "\t") = true) : c = 9 := by
  have := eq_of_beq h
  rw [show Str.ofString "\t" = ⟨#[9]⟩ from by decide +kernel] at this
  simpa using this
theorem at_snoc {l : List Nat} {i c : Nat} (hi : i ≤ l.length) (h : (T (l ++ [120])).cps[i]? = some c) : (i < l.length ∧ l[i]? = some c) ∨ (i = l.length ∧ c = 120) := by
  have h' : (l ++ [120])[i]? = some c := by simpa [T] using h
  rcases Nat.lt_or_ge i l.length with hlt | hge
  · left
    rw [List.getElem?_append_left hlt] at h'
    exact ⟨hlt, h'⟩
  · right
    have : i = l.length := by (first | lia | omega)
    subst this
    simp at h'
    exact ⟨rfl, h'.symm⟩

theorem tup_ne_dict {h₀ h : Heap} {L D dx : Addr} {its : Array Value} {es : List DictEntry} {n : Nat} {led : List (Addr × Obj)} (N : News h₀ L h led) (m1 : (D, ({ cls := .type "tuple", data := .seq its } : Obj)) ∈ led) (m2 : (dx, dictOf es n) ∈ led) : @Ne Nat D dx := fun e => by
  have h1 := (N _ m1).1
  have h2 := (N _ m2).1
  dsimp only at h1 h2
  rw [e, h2] at h1
  have h3 := congrArg Obj.data (Option.some.inj h1)
  cases h3
theorem tup_ne_inst {h₀ h : Heap} {L D x dx : Addr} {its : Array Value} {led : List (Addr × Obj)} (N : News h₀ L h led) (m1 : (D, ({ cls := .type "tuple", data := .seq its } : Obj)) ∈ led) (m2 : (x, instObj 104 dx) ∈ led) : @Ne Nat D x := fun e => by
  have h1 := (N _ m1).1
  have h2 := (N _ m2).1
  dsimp only at h1 h2
  rw [e, h2] at h1
  cases h1

noncomputable def InitJ (l : List Nat) (x dx : Addr) (od : Obj) (m₀ : Str → Option Value) (i : Nat) (m : Str → Option Value) (news : List (Addr × Obj)) : Prop :=
  ∃ (uu : Str → Option Value) (C : Addr) (vs : List Value) (cs : List Int) (b nt : Nat) (tb tn tnt : Tok), i ≤ l.length ∧ wsOf (l.take i) = (cs, b, nt) ∧ IntsAre vs cs ∧ @LT.lt Nat _ x C ∧ @LT.lt Nat _ dx C ∧ m = initM uu m₀ (.int nt tnt) (.int i tn) (.int b tb) (.ref C) ∧ news = [(C, W.listOf vs.toArray 0), (x, instObj 104 dx), (dx, od)]

noncomputable abbrev wsDict (w : World) (l : List Nat) (t : Tok) (nm : Addr) (k1 k2 k3 k4 k5 tn tnt : Tok) : Obj :=
  dictOf [⟨PyData.keyHash w.params (Str.ofString "raw"), .str (Str.ofString "raw") k1, .str (T (l ++ [120])) t⟩, ⟨PyData.keyHash w.params (Str.ofString "n"), .str (Str.ofString "n") k2, .int l.length tn⟩, ⟨PyData.keyHash w.params (Str.ofString "nt"), .str (Str.ofString "nt") k3, .int (wsOf l).2.2 tnt⟩,
    ⟨PyData.keyHash w.params (Str.ofString "norm"), .str (Str.ofString "norm") k4, .ref nm⟩, ⟨PyData.keyHash w.params (Str.ofString "is_simple"), .str (Str.ofString "is_simple") k5, .bool (decide (((wsOf l).1.length : Int) ≤ 1))⟩] 5
theorem grounds_but2 {h g h' : Heap} {x dx : Addr} {ox od : Obj} (G : Grounds h [(x, ox), (dx, od)] g) (hx : h.get? x = some ox) (k : ∀ b o, g.get? b = some o → h'.get? b = some o) (hx' : h'.get? x = some ox) : ∀ b o, b ≠ dx → h.get? b = some o → h'.get? b = some o := fun b o hb e => by
  by_cases q : b = x
  · rw [q, hx] at e
    rw [q, ← e]; exact hx'
  · exact k b o (G.1 b o e (by simp [q, hb]))
theorem grounds_new {h g : Heap} {x dx D : Addr} {ox od : Obj} (G : Grounds h [(x, ox), (dx, od)] g) (hg : g.get? D = none) (h1 : @Ne Nat D x) (h2 : @Ne Nat D dx) : h.get? D = none := by
  cases e : h.get? D with
  | none => rfl
  | some o =>
    rw [G.1 D o e (by
      have h3 : D ≠ x := h1
      have h4 : D ≠ dx := h2
      simp [h3, h4])] at hg
    cases hg

theorem init_code (w : World) (l : List Nat) (t : Tok) (x dx : Addr) (hl : ∀ c ∈ l, c = 32 ∨ c = 9) (hlen : l.length ≤ 10000) (hxd : @LT.lt Nat _ dx x)
   (p : Program) (loose : List Str) (mean : ExcName → Option Value) (mg mb : Str → Option Value) (dp un : Nat) (gd : Option (List Code)) (cn : Str) (cs : Scope) (a : Addr) (ccd : Value) (cl : List (Str × Addr)) (outer : List Env) (A₀ : Around) (base h₀ : Heap) (L : Addr) (m : Str → Option Value) (s : Shared) (R : Result → Shared → Prop) :
    Surr w p loose mean mg mb dp un cs outer A₀ base h₀ L m s 10 100 (News h₀ L s.heap [(x, instObj 104 dx), (dx, dictOf [] 0)] →
      (∀ (nm ct : Addr) (vs : List Value) (k1 k2 k3 k4 k5 tn tnt tb : Tok) (h' : Heap) (tk' : Nat), (∀ b o, b ≠ dx → s.heap.get? b = some o → h'.get? b = some o) → h'.get? dx = some (wsDict w l t nm k1 k2 k3 k4 k5 tn tnt) → h'.get? nm = some (tupObj [.ref ct, .int (wsOf l).2.1 tb]) → h'.get? ct = some (tupObj vs) → IntsAre vs (wsOf l).1 → s.heap.get? nm = none → s.heap.get? ct = none → R (.ok (.ret .none)) { s with heap := h', toks := tk' }) →
      codeAny (model PySem.Challenge.rw_ph0140_01.row.prog w) (ktrTop dp un gd cn cs L a ccd cl outer) (.call (.ref 59) ⟨[.ref x, .str (T (l ++ [120])) t], []⟩) R s) := by
  unfold Surr
  k_fill
  intro B F X T hk hd hu N ret
  k_dflt (refine' code_K (binds := [(Str.ofString "self", .ref x), (Str.ofString "ws", .str (Mine.T (l ++ [120])) t)]) B F X T N ?kA ?kF ?kK ?k6 ?k7 ?k8 ?k9 ?kB ?_ ?c1 ?c2 ?c3 ?c4)
  case kA => exact rfl
  case kF => exact rfl
  case kK => assumption
  case k6 => k_is
  case k7 => k_is
  case k8 => ktr_room
  case k9 => exact BindsTo.of_eq rfl
  case kB => exact locs rfl
  case c1 => decide
  case c2 => exact rfl
  case c3 => exact rfl
  case c4 => exact rfl
  intro g L' s₁ Qz hz G st0 F' N' lt B' X' T'
  k_lt lt
  (try dsimp only [List.reverse, List.reverseAux] at F'); (try dsimp only); (try k_fold)
  (repeat' ((fail_if_success (with_reducible show wpAny _ _ (pyIter _) _ _ _)); (fail_if_success (with_reducible show wpAny _ _ (call (Value.ref _) _) _ _ _)); (first | (k_unfold; (try dsimp only)) | (law_purse 100000 => walk1) | (dsimp only; (law_purse 100000 => walk1)))))
  (rename Fr _ _ _ _ => F1); (rename News _ _ _ _ => N1)
  refine loop_str (news := [_, (x, instObj 104 dx), (dx, _)]) (InitJ l x dx _ _) rfl F1 (fun q hq => N1 q (by
    rcases List.mem_cons.mp hq with h | hq
    · exact h ▸ .head _
    · exact .tail _ (.tail _ hq))) ⟨_, _, _, _, _, _, _, _, _, Nat.zero_le _, rfl, .nil, by (first | lia | omega), by (first | lia | omega), initM0, rfl⟩ ?_ ?_
  · clear F1 N1
    rintro i c tc m₁ news₁ s3 io Qt hN hBk hRt hc ⟨uu, C, vs, cs, b, nt, tb, tn, tnt, hi, hst, hI, hxC, hdC, rfl, rfl⟩ hoff F3 N3
    unfold initM at F3
    have hne1 : @Ne Nat io.1 C := fun e => hoff _ (.head _) e.symm
    have hne2 : @Ne Nat io.1 x := fun e => hoff _ (.tail _ (.head _)) e.symm
    have hne3 : @Ne Nat io.1 dx := fun e => hoff _ (.tail _ (.tail _ (.head _))) e.symm
    have hsm := ws_small (l.take i)
    rw [hst, List.length_take] at hsm
    obtain ⟨hsm1, hsm2, hsm3⟩ := hsm
    dsimp only at hsm1 hsm2 hsm3
    have hlI := hI.length
    have hcs : cs.length ≤ 10000 := by (first | lia | omega)
    have hvs : vs.length ≤ 10000 := by (first | lia | omega)
    have hat := at_snoc hi hc
    have hs : i < l.length → wsOf (l.take (i + 1)) = wsStep (cs, b, nt) c := fun hlt => by
      rcases hat with ⟨_, h2⟩ | ⟨h1, _⟩
      · rw [show l.take (i + 1) = l.take i ++ [c] by simp [List.take_add_one, h2], wsOf_snoc, hst]
      · (first | lia | omega)
    have ebi : ((b : Int)).toNat = b := Int.toNat_natCast b
    (repeat' ((fail_if_success (with_reducible show wpAny _ _ (pyIter _) _ _ _)); (fail_if_success (with_reducible show wpAny _ _ (call (Value.ref _) _) _ _ _)); (first | (k_unfold; (try dsimp only)) | (law_purse 100000 => walk1) | (dsimp only; (law_purse 100000 => walk1)))))
    · (rename Fr _ _ _ _ => F4); (rename News _ _ _ _ => N4)
      have hb := sgn_blank (by assumption)
      have hlt : i < l.length := by rcases hat with ⟨h, _⟩ | ⟨_, h⟩ <;> (first | lia | omega)
      refine hN _ _ _ _ F4 N4 (three_off hne1 hne2 hne3) ⟨_, C, vs, cs, b + 1, nt, _, _, _, hlt, ?_, hI, hxC, hdC, initB, rfl⟩
      rw [hs hlt]; unfold wsStep; rw [if_pos hb]
    · (rename Fr _ _ _ _ => F4); (rename News _ _ _ _ => N4); (rename IntsAre _ _ => hI4)
      have hb := sgn_tab (by assumption)
      have hlt : i < l.length := by rcases hat with ⟨h, _⟩ | ⟨_, h⟩ <;> (first | lia | omega)
      have hle : (cs.length : Int) ≤ (b : Int) := by assumption
      have er : (List.replicate ((b : Int) - (cs.length : Int) + 1).toNat [(0 : Int)]).flatten = List.replicate (b - cs.length + 1) 0 := by
        have : ((b : Int) - (cs.length : Int) + 1).toNat = b - cs.length + 1 := by (first | lia | omega)
        rw [this]; simp
      rw [er, ebi] at hI4 N4
      refine hN _ _ _ [_, (x, instObj 104 dx), (dx, _)] F4 (sub_news N4 (fun q hq => ?_)) (three_off (by (first | lia | omega)) hne2 hne3) ⟨_, _, _, _, 0, nt + 1, _, _, _, hlt, ?_, hI4, by (first | lia | omega), by (first | lia | omega), initT1, rfl⟩
      · simp only [List.mem_cons, List.not_mem_nil, or_false] at hq ⊢
        rcases hq with h | h | h | h <;> simp [h]
      · rw [hs hlt]; unfold wsStep incr; rw [if_neg (show ¬ c = 32 by (first | lia | omega)), if_pos (show cs.length ≤ b by (first | lia | omega))]
    · (rename Fr _ _ _ _ => F4); (rename News _ _ _ _ => N4); (rename IntsAre _ _ => hI4)
      have hb := sgn_tab (by assumption)
      have hlt : i < l.length := by rcases hat with ⟨h, _⟩ | ⟨_, h⟩ <;> (first | lia | omega)
      have hle : ¬ (cs.length : Int) ≤ (b : Int) := by assumption
      rw [ebi] at hI4 N4
      refine hN _ _ _ _ F4 N4 (three_off hne1 hne2 hne3) ⟨_, C, _, _, 0, nt + 1, _, _, _, hlt, ?_, hI4, hxC, hdC, initT2, rfl⟩
      rw [hs hlt]; unfold wsStep incr; rw [if_neg (show ¬ c = 32 by (first | lia | omega)), if_neg (show ¬ cs.length ≤ b by (first | lia | omega))]
    · have hx : i = l.length ∧ c = 120 := by
        rcases hat with ⟨h1, h2⟩ | h
        · exfalso
          rcases hl c (List.mem_of_getElem? h2) with rfl | rfl
          · exact absurd (show (({ cps := #[32] } : Str) == Str.ofString " ") = false by assumption) (by decide +kernel)
          · exact absurd (show (({ cps := #[9] } : Str) == Str.ofString "\t") = false by assumption) (by decide +kernel)
        · exact h
      rw [hx.1, List.take_length] at hst
      (rename Fr _ _ _ _ => F4); (rename News _ _ _ _ => N4)
      refine hBk _ _ ?_
      refine (show wpAny _ _ (execs _ _) _ _ _ from ?_)
      (repeat' ((fail_if_success (with_reducible show wpAny _ _ (pyIter _) _ _ _)); (fail_if_success (with_reducible show wpAny _ _ (call (Value.ref _) _) _ _ _)); (fail_if_success (with_reducible show wpAny _ _ (setAttr _ _ (Value.ref _)) _ _ _)); (first | (k_unfold; (try dsimp only)) | (law_purse 100000 => walk1) | (dsimp only; (law_purse 100000 => walk1)))))
      (rename Fr _ _ _ _ => F5); (rename News _ _ _ _ => N5)
      have hDd : @Ne Nat _ dx := tup_ne_dict N5 (.tail _ (.head _)) (by k_mem)
      have hDx : @Ne Nat _ x := tup_ne_inst N5 (.tail _ (.head _)) (by k_mem)
      have hD1 := hDd
      (repeat' ((fail_if_success (with_reducible show wpAny _ _ (pyIter _) _ _ _)); (fail_if_success (with_reducible show wpAny _ _ (call (Value.ref _) _) _ _ _)); (first | (k_unfold; (try dsimp only)) | (law_purse 100000 => walk1) | (dsimp only; (law_purse 100000 => walk1)))))
      (rename Fr _ _ _ _ => F6); (rename News _ _ _ _ => N6)
      rw [hx.1] at N6
      have en : wsOf l = (cs, b, nt) := hst
      obtain rfl : cs = (wsOf l).1 := by rw [en]
      obtain rfl : b = (wsOf l).2.1 := by rw [en]
      obtain rfl : nt = (wsOf l).2.2 := by rw [en]
      have M1 := N6 _ (.head _)
      have M2 := N6 _ (.tail _ (.head _))
      have M3 := N6 (dx, _) (.tail _ (.tail _ (.tail _ (.tail _ (.tail _ (.head _))))))
      exact hz _ _ _ (ret _ _ vs _ _ _ _ _ _ _ _ _ _ (grounds_but2 G (N _ (.head _)).1 F6.keep (N6 (x, instObj 104 dx) (.tail _ (.tail _ (.tail _ (.tail _ (.head _)))))).1) M3.1 M1.1 M2.1 hI (grounds_new G M1.2.2 (by (first | lia | omega)) (by (first | lia | omega))) (grounds_new G M2.2.2 hDx hDd))
  · rintro m₁ news₁ h3 tk3 ⟨uu, C, vs, cs, b, nt, tb, tn, tnt, hi, _⟩
    have : (Mine.T (l ++ [120])).cps.size = l.length + 1 := by simp [Mine.T]
    (first | lia | omega)
end Mine
namespace Mine

/-- the contract of a def that reads what stands in a ledger and changes nothing -/
noncomputable def DoesL (w : World) (f : Addr) (args : List Value) (d u : Nat) (led : List (Addr × Obj)) (Post : Value → Prop) : Prop :=
  ∀ (p : Program) (loose : List Str) (mean : ExcName → Option Value) (mg mb : Str → Option Value) (dp un : Nat) (gd : Option (List Code)) (cn : Str) (cs : Scope) (a : Addr) (ccd : Value) (cl : List (Str × Addr)) (outer : List Env) (A₀ : Around) (base h₀ : Heap) (L : Addr) (m : Str → Option Value) (s : Shared) (Q E : Value → Shared → Prop),
    Surr w p loose mean mg mb dp un cs outer A₀ base h₀ L m s d u (News h₀ L s.heap led →
      (∀ v h' tk', s.heap.StaysIn h' → Post v → Q v { s with heap := h', toks := tk' }) →
      wpAny (model PySem.Challenge.rw_ph0140_01.row.prog w) (ktrTop dp un gd cn cs L a ccd cl outer) (call (.ref f) args) Q E s)

noncomputable def ilSum (ts : Nat) (cs : List Int) : Nat → Int
  | 0 => 0
  | n + 1 => ilSum ts cs n + ((ts + n) / ts : Nat) * cs.getD (ts + n) 0
noncomputable def lvlOf (ts : Nat) (l : List Nat) : Int := ((wsOf l).2.1 : Int) + (ts : Int) * (ilSum ts (wsOf l).1 ((wsOf l).1.length - ts) + ((wsOf l).2.2 : Int))

noncomputable abbrev wsLed (w : World) (l : List Nat) (x dx nm ct : Addr) (vs : List Value) (t k1 k2 k3 k4 k5 tn tnt tb : Tok) : List (Addr × Obj) :=
  [(x, instObj 104 dx), (dx, wsDict w l t nm k1 k2 k3 k4 k5 tn tnt), (nm, tupObj [.ref ct, .int (wsOf l).2.1 tb]), (ct, tupObj vs)]

noncomputable def LvlJ (ts : Nat) (cs : List Int) (led : List (Addr × Obj)) (m₀ : Str → Option Value) (j : Nat) (m : Str → Option Value) (news : List (Addr × Obj)) : Prop :=
  ∃ (uu : Str → Option Value) (til : Tok), (m = fun y => if y = Str.ofString "i" then uu y else if y = Str.ofString "il" then some (.int (ilSum ts cs j) til) else m₀ y) ∧ news = led
theorem lvlM0 {m₀ : Str → Option Value} {v : Option Value} : (fun y => if y = Str.ofString "il" then v else m₀ y) = fun y => if y = Str.ofString "i" then m₀ y else if y = Str.ofString "il" then v else m₀ y := by
  funext y
  by_cases h1 : y = Str.ofString "i"
  · subst h1; rfl
  · simp only [h1, if_false]
theorem lvlM1 {uu m₀ : Str → Option Value} {v v' G : Option Value} : (fun y => if y = Str.ofString "il" then v' else if y = Str.ofString "i" then G else if y = Str.ofString "i" then uu y else if y = Str.ofString "il" then v else m₀ y) = fun y => if y = Str.ofString "i" then (fun _ => G) y else if y = Str.ofString "il" then v' else m₀ y := by
  funext y
  by_cases h1 : y = Str.ofString "i"
  · subst h1; rfl
  · by_cases h2 : y = Str.ofString "il"
    · subst h2; rfl
    · simp only [h1, h2, if_false]
theorem lvl_does (w : World) (l : List Nat) (x dx nm ct : Addr) (vs : List Value) (t k1 k2 k3 k4 k5 tn tnt tb : Tok) (ts : Nat) (u : Tok) (hI : IntsAre vs (wsOf l).1) (hl : l.length ≤ 10000) (ht1 : 1 ≤ ts) (ht : ts ≤ 10001) :
    DoesL w 73 [.ref x, .int ts u] 4 40 (wsLed w l x dx nm ct vs t k1 k2 k3 k4 k5 tn tnt tb) (fun v => ∃ t', v = .int (lvlOf ts l) t') := by
  unfold DoesL Surr
  k_fill
  intro p loose mean mg mb dp un gd cn cs a ccd cl outer A₀ base h₀ L m s Q E B F X T hk hd hu N ret
  have hsm := ws_small l
  have hlI := hI.length
  refine wpAny_call ?_
  k_dflt (refine' code_K (binds := [(Str.ofString "self", .ref x), (Str.ofString "tabsize", .int ts u)]) B F X T N ?kA ?kF ?kK ?k6 ?k7 ?k8 ?k9 ?kB ?_ ?c1 ?c2 ?c3 ?c4)
  case kA => exact rfl
  case kF => exact rfl
  case kK => assumption
  case k6 => k_is
  case k7 => k_is
  case k8 => ktr_room
  case k9 => exact BindsTo.of_eq rfl
  case kB => exact locs rfl
  case c1 => decide
  case c2 => exact rfl
  case c3 => exact rfl
  case c4 => exact rfl
  intro g L' s₁ Qz hz G st0 F' N' lt B' X' T'
  k_lt lt
  (try dsimp only [List.reverse, List.reverseAux] at F'); (try dsimp only); (try k_fold)
  (repeat' ((fail_if_success (with_reducible show wpAny _ _ (pyIter _) _ _ _)); (fail_if_success (with_reducible show wpAny _ _ (call (Value.ref _) _) _ _ _)); (fail_if_success (with_reducible show wpAny _ _ (call (Value.builtin "len") [Value.ref _]) _ _ _)); (fail_if_success (with_reducible show wpAny _ _ (subscriptTail _ _ (Value.ref _) (Value.int _ _)) _ _ _)); (first | (k_unfold; (try dsimp only)) | (law_purse 100000 => walk1) | (dsimp only; (law_purse 100000 => walk1)))))
  (rename Fr _ _ _ _ => F1); (rename News _ _ _ _ => N1)
  refine len_tuple (News.isTup N1 (by k_mem)) (by rw [List.size_toArray]; (first | lia | omega)) ?_
  rw [List.size_toArray, hlI]
  try dsimp only
  (repeat' ((fail_if_success (with_reducible show wpAny _ _ (pyIter _) _ _ _)); (fail_if_success (with_reducible show wpAny _ _ (call (Value.ref _) _) _ _ _)); (fail_if_success (with_reducible show wpAny _ _ (call (Value.builtin "len") [Value.ref _]) _ _ _)); (fail_if_success (with_reducible show wpAny _ _ (subscriptTail _ _ (Value.ref _) (Value.int _ _)) _ _ _)); (first | (k_unfold; (try dsimp only)) | (law_purse 100000 => walk1) | (dsimp only; (law_purse 100000 => walk1)))))
  (rename IsRange _ _ _ _ _ _ _ _ => hr)
  (rename Fr _ _ _ _ => F2); (rename News _ _ _ _ => N2)
  refine loop_range (n := (wsOf l).1.length - ts) (LvlJ ts (wsOf l).1 (wsLed w l x dx nm ct vs t k1 k2 k3 k4 k5 tn tnt tb) _) rfl hr (small_one (by (first | lia | omega)) (by (first | lia | omega)) (by (first | lia | omega)) (by (first | lia | omega))) (by rw [rangeSize_nat]; (first | lia | omega)) F2 N2 ⟨_, _, lvlM0, rfl⟩ ?_ ?_
  · clear F2 N2
    rintro j tj m₁ news₁ s3 io Qt hN hBk hRt hj ⟨uu, til, rfl, rfl⟩ hoff F3 N3
    have ej : ((ts : Int) + (j : Int) * 1) = ((ts + j : Nat) : Int) := by (first | lia | omega)
    rw [ej] at F3
    have hget : (wsOf l).1[ts + j]? = some ((wsOf l).1.getD (ts + j) 0) := by
      rw [List.getD_eq_getElem?_getD, List.getElem?_eq_getElem (by (first | lia | omega))]; rfl
    obtain ⟨tv, hv⟩ := IntsAre.get hI _ _ hget
    have hfd : ((ts + j : Nat) : Int).fdiv (ts : Int) = (((ts + j) / ts : Nat) : Int) := fdivN _ _
    have hfl : (ts + j) / ts ≤ 20000 := Nat.le_trans (Nat.div_le_self _ _) (by (first | lia | omega))
    (repeat' ((fail_if_success (with_reducible show wpAny _ _ (pyIter _) _ _ _)); (fail_if_success (with_reducible show wpAny _ _ (call (Value.ref _) _) _ _ _)); (fail_if_success (with_reducible show wpAny _ _ (call (Value.builtin "len") [Value.ref _]) _ _ _)); (fail_if_success (with_reducible show wpAny _ _ (subscriptTail _ _ (Value.ref _) (Value.int _ _)) _ _ _)); (first | (k_unfold; (try dsimp only)) | (law_purse 100000 => walk1) | (dsimp only; (law_purse 100000 => walk1)))))
    refine item_tupleT (News.isTup N3 (by k_mem)) (by (first | lia | omega)) (by (first | lia | omega)) (j := ts + j) (by simp [seqIndex?]; (first | lia | omega)) hv ?_
    try dsimp only
    (repeat' ((fail_if_success (with_reducible show wpAny _ _ (pyIter _) _ _ _)); (fail_if_success (with_reducible show wpAny _ _ (call (Value.ref _) _) _ _ _)); (fail_if_success (with_reducible show wpAny _ _ (call (Value.builtin "len") [Value.ref _]) _ _ _)); (fail_if_success (with_reducible show wpAny _ _ (subscriptTail _ _ (Value.ref _) (Value.int _ _)) _ _ _)); (first | (k_unfold; (try dsimp only)) | (law_purse 100000 => walk1) | (dsimp only; (law_purse 100000 => walk1)))))
    rw [hfd]
    refine PyProof.Rows.mul_int ?_ (.of_left (intBits_le_iff.mpr (by rw [Int.natAbs_natCast]; (first | lia | omega))))
    try dsimp only
    (repeat' ((fail_if_success (with_reducible show wpAny _ _ (pyIter _) _ _ _)); (fail_if_success (with_reducible show wpAny _ _ (call (Value.ref _) _) _ _ _)); (fail_if_success (with_reducible show wpAny _ _ (call (Value.builtin "len") [Value.ref _]) _ _ _)); (fail_if_success (with_reducible show wpAny _ _ (subscriptTail _ _ (Value.ref _) (Value.int _ _)) _ _ _)); (first | (k_unfold; (try dsimp only)) | (law_purse 100000 => walk1) | (dsimp only; (law_purse 100000 => walk1)))))
    (rename Fr _ _ _ _ => F4); (rename News _ _ _ _ => N4)
    exact hN _ _ _ _ F4 N4 hoff ⟨_, _, lvlM1, rfl⟩
  · clear F2 N2
    rintro m₁ news₁ h3 tk3 ⟨uu, til, rfl, rfl⟩ F3 N3
    (repeat' ((fail_if_success (with_reducible show wpAny _ _ (pyIter _) _ _ _)); (fail_if_success (with_reducible show wpAny _ _ (call (Value.ref _) _) _ _ _)); (fail_if_success (with_reducible show wpAny _ _ (call (Value.builtin "len") [Value.ref _]) _ _ _)); (fail_if_success (with_reducible show wpAny _ _ (subscriptTail _ _ (Value.ref _) (Value.int _ _)) _ _ _)); (first | (k_unfold; (try dsimp only)) | (law_purse 100000 => walk1) | (dsimp only; (law_purse 100000 => walk1)))))
    exact hz _ _ _ (ret _ _ _ (grounds_stay G (fun q hq => (N q hq).1) F3.keep (fun q hq => (N3 q hq).1)) ⟨_, rfl⟩)
end Mine
namespace Mine

noncomputable def longOf (l : List Nat) : Int := if ((wsOf l).2.1 : Int) > ((wsOf l).1.length : Int) - 1 then ((wsOf l).2.1 : Int) else ((wsOf l).1.length : Int) - 1

theorem long_does (w : World) (l : List Nat) (x dx nm ct : Addr) (vs : List Value) (t k1 k2 k3 k4 k5 tn tnt tb : Tok) (hI : IntsAre vs (wsOf l).1) (hl : l.length ≤ 10000) :
    DoesL w 66 [.ref x] 4 40 (wsLed w l x dx nm ct vs t k1 k2 k3 k4 k5 tn tnt tb) (fun v => ∃ t', v = .int (longOf l) t') := by
  unfold DoesL Surr
  k_fill
  intro p loose mean mg mb dp un gd cn cs a ccd cl outer A₀ base h₀ L m s Q E B F X T hk hd hu N ret
  have hsm := ws_small l
  have hlI := hI.length
  refine wpAny_call ?_
  k_dflt (refine' code_K (binds := [(Str.ofString "self", .ref x)]) B F X T N ?kA ?kF ?kK ?k6 ?k7 ?k8 ?k9 ?kB ?_ ?c1 ?c2 ?c3 ?c4)
  ((case kA => exact rfl); (case kF => exact rfl); (case kK => assumption); (case k6 => k_is); (case k7 => k_is); (case k8 => ktr_room); (case k9 => exact BindsTo.of_eq rfl); (case kB => exact locs rfl); (case c1 => decide); (case c2 => exact rfl); (case c3 => exact rfl); (case c4 => exact rfl))
  intro g L' s₁ Qz hz G st0 F' N' lt B' X' T'
  k_lt lt
  (try dsimp only [List.reverse, List.reverseAux] at F'); (try dsimp only); (try k_fold)
  (repeat' ((fail_if_success (with_reducible show wpAny _ _ (pyIter _) _ _ _)); (fail_if_success (with_reducible show wpAny _ _ (call (Value.ref _) _) _ _ _)); (fail_if_success (with_reducible show wpAny _ _ (call (Value.builtin "len") [Value.ref _]) _ _ _)); (fail_if_success (with_reducible show wpAny _ _ (compareOp _ (Value.ref _) (Value.ref _)) _ _ _)); (first | (k_unfold; (try dsimp only)) | (law_purse 100000 => walk1) | (dsimp only; (law_purse 100000 => walk1)))))
  (rename Fr _ _ _ _ => F1); (rename News _ _ _ _ => N1)
  refine len_tuple (News.isTup N1 (by k_mem)) (by rw [List.size_toArray]; (first | lia | omega)) ?_
  rw [List.size_toArray, hlI]
  try dsimp only
  (repeat' ((fail_if_success (with_reducible show wpAny _ _ (pyIter _) _ _ _)); (fail_if_success (with_reducible show wpAny _ _ (call (Value.ref _) _) _ _ _)); (fail_if_success (with_reducible show wpAny _ _ (call (Value.builtin "len") [Value.ref _]) _ _ _)); (fail_if_success (with_reducible show wpAny _ _ (compareOp _ (Value.ref _) (Value.ref _)) _ _ _)); (first | (k_unfold; (try dsimp only)) | (law_purse 100000 => walk1) | (dsimp only; (law_purse 100000 => walk1)))))
  (rename Fr _ _ _ _ => F2); (rename News _ _ _ _ => N2)
  exact hz _ _ _ (ret _ _ _ (grounds_stay G (fun q hq => (N q hq).1) F2.keep (fun q hq => (N2 q hq).1)) ⟨_, rfl⟩)

theorem norm_shaped (cs : List Int) (b : Int) : SeqAt.shaped (.tuple [.tuple (cs.map PyData.int), .int b]) = true := by
  simp [SeqAt.shaped, PyData.canLay0, PyData.canLayAll0, PyData.depth, PyData.depthAll, ke_canLayAll0, ke_depthAll]
theorem norm_eqv (cs cs' : List Int) (b b' : Nat) : PyData.eqv (.tuple [.tuple (cs.map PyData.int), .int b]) (.tuple [.tuple (cs'.map PyData.int), .int b']) = decide (cs = cs' ∧ b = b') := by
  simp only [PyData.eqv, PyData.eqvAll, ked_eqvAll, Bool.and_true]
  by_cases h1 : cs = cs' <;> by_cases h2 : b = b' <;> simp [h1, h2] <;> (first | lia | omega)
theorem norm_reads {h₀ h : Heap} {L nm ct : Addr} {vs : List Value} {cs : List Int} {b : Int} {tb : Tok} {led : List (Addr × Obj)} (N : News h₀ L h led) (h1 : (nm, tupObj [.ref ct, .int b tb]) ∈ led) (h2 : (ct, tupObj vs) ∈ led) (hI : IntsAre vs cs) : ∃ as, Reads h (.ref nm) (.tuple [.tuple (cs.map .int), .int b]) as :=
  ⟨_, reads_tuple_at (N _ h1).1 rfl rfl (.cons (reads_tuple_at (N _ h2).1 rfl rfl (IntsAre.reads _ hI)) (.cons (.int _ _) .nil))⟩

theorem equal_does (w : World) (l : List Nat) (x dx nm ct : Addr) (vs : List Value) (t k1 k2 k3 k4 k5 tn tnt tb : Tok) (hI : IntsAre vs (wsOf l).1) (hl : l.length ≤ 10000)
    (l' : List Nat) (x' dx' nm' ct' : Addr) (vs' : List Value) (t' k1' k2' k3' k4' k5' tn' tnt' tb' : Tok) (hI' : IntsAre vs' (wsOf l').1) (hl' : l'.length ≤ 10000) :
    DoesL w 80 [.ref x, .ref x'] 4 200 (wsLed w l x dx nm ct vs t k1 k2 k3 k4 k5 tn tnt tb ++ wsLed w l' x' dx' nm' ct' vs' t' k1' k2' k3' k4' k5' tn' tnt' tb') (fun v => v = .bool (decide ((wsOf l).1 = (wsOf l').1 ∧ (wsOf l).2.1 = (wsOf l').2.1))) := by
  unfold DoesL Surr
  k_fill
  intro p loose mean mg mb dp un gd cn cs a ccd cl outer A₀ base h₀ L m s Q E B F X T hk hd hu N ret
  refine wpAny_call ?_
  k_dflt (refine' code_K (binds := [(Str.ofString "self", .ref x), (Str.ofString "other", .ref x')]) B F X T N ?kA ?kF ?kK ?k6 ?k7 ?k8 ?k9 ?kB ?_ ?c1 ?c2 ?c3 ?c4)
  ((case kA => exact rfl); (case kF => exact rfl); (case kK => assumption); (case k6 => k_is); (case k7 => k_is); (case k8 => ktr_room); (case k9 => exact BindsTo.of_eq rfl); (case kB => exact locs rfl); (case c1 => decide); (case c2 => exact rfl); (case c3 => exact rfl); (case c4 => exact rfl))
  intro g L' s₁ Qz hz G st0 F' N' lt B' X' T'
  (try dsimp only [List.reverse, List.reverseAux] at F'); (try dsimp only [List.cons_append, List.nil_append, wsLed] at N'); (try dsimp only); (try k_fold)
  (repeat' ((fail_if_success (with_reducible show wpAny _ _ (pyIter _) _ _ _)); (fail_if_success (with_reducible show wpAny _ _ (call (Value.ref _) _) _ _ _)); (fail_if_success (with_reducible show wpAny _ _ (call (Value.builtin "len") [Value.ref _]) _ _ _)); (fail_if_success (with_reducible show wpAny _ _ (compareOp _ (Value.ref _) (Value.ref _)) _ _ _)); (first | (k_unfold; (try dsimp only)) | (law_purse 100000 => walk1) | (dsimp only; (law_purse 100000 => walk1)))))
  (rename Fr _ _ _ _ => F1); (rename News _ _ _ _ => N1)
  obtain ⟨as1, r1⟩ := norm_reads N1 (nm := nm) (ct := ct) (by k_mem) (by k_mem) hI
  obtain ⟨as2, r2⟩ := norm_reads N1 (nm := nm') (ct := ct') (by k_mem) (by k_mem) hI'
  refine eq_dataH r1 r2 (norm_shaped _ _) (norm_shaped _ _) (by (try simp only [units_deeper]); (try dsimp only [ktrTop]); (first | lia | omega)) ?_
  rw [norm_eqv]
  exact hz _ _ _ (ret _ _ _ (grounds_stay G (fun q hq => (N q hq).1) F1.keep (fun q hq => (N1 q hq).1)) rfl)
end Mine
namespace Mine


theorem app_l {h₀ h : Heap} {L : Addr} {a b : List (Addr × Obj)} (N : News h₀ L h (a ++ b)) : News h₀ L h a := fun p hp => N p (List.mem_append_left _ hp)
theorem app_r {h₀ h : Heap} {L : Addr} {a b : List (Addr × Obj)} (N : News h₀ L h (a ++ b)) : News h₀ L h b := fun p hp => N p (List.mem_append_right _ hp)

theorem long_bounds (l : List Nat) (hl : l.length ≤ 10000) : -1 ≤ longOf l ∧ longOf l ≤ 10000 := by
  have := ws_small l
  unfold longOf
  split <;> (first | lia | omega)
noncomputable def LessJ (l l' : List Nat) (led : List (Addr × Obj)) (m₀ : Str → Option Value) (i : Nat) (m : Str → Option Value) (news : List (Addr × Obj)) : Prop :=
  ∃ (uu : Str → Option Value), (m = fun y => if y = Str.ofString "ts" then uu y else m₀ y) ∧ news = led ∧ ∀ j, j < i → lvlOf (2 + j) l < lvlOf (2 + j) l'
theorem lessM0 {m₀ : Str → Option Value} : m₀ = fun y => if y = Str.ofString "ts" then m₀ y else m₀ y := by funext y; simp only [ite_self]
theorem lessM1 {uu m₀ : Str → Option Value} {G : Option Value} : (fun y => if y = Str.ofString "ts" then G else if y = Str.ofString "ts" then uu y else m₀ y) = fun y => if y = Str.ofString "ts" then (fun _ => G) y else m₀ y := by
  funext y
  by_cases h1 : y = Str.ofString "ts"
  · subst h1; rfl
  · simp only [h1, if_false]

theorem less_does (w : World) (l : List Nat) (x dx nm ct : Addr) (vs : List Value) (t k1 k2 k3 k4 k5 tn tnt tb : Tok) (hI : IntsAre vs (wsOf l).1) (hl : l.length ≤ 10000)
    (l' : List Nat) (x' dx' nm' ct' : Addr) (vs' : List Value) (t' k1' k2' k3' k4' k5' tn' tnt' tb' : Tok) (hI' : IntsAre vs' (wsOf l').1) (hl' : l'.length ≤ 10000)
    (H : l'.length ≤ l.length ∨ (¬ ((wsOf l).1.length ≤ 1 ∧ (wsOf l').1.length ≤ 1) ∧ ∃ ts : Nat, 2 ≤ ts ∧ ((ts : Int) ≤ longOf l + 1 ∨ (ts : Int) ≤ longOf l' + 1) ∧ lvlOf ts l' ≤ lvlOf ts l)) :
    DoesL w 94 [.ref x, .ref x'] 10 300 (wsLed w l x dx nm ct vs t k1 k2 k3 k4 k5 tn tnt tb ++ wsLed w l' x' dx' nm' ct' vs' t' k1' k2' k3' k4' k5' tn' tnt' tb') (fun v => v = .bool false) := by
  have hKK : IntsAre vs (wsOf l).1 ∧ IntsAre vs' (wsOf l').1 := ⟨hI, hI'⟩
  unfold DoesL Surr
  k_fill
  intro p loose mean mg mb dp un gd cn cs a ccd cl outer A₀ base h₀ L m s Q E B F X T hk hd hu N ret
  refine wpAny_call ?_
  k_dflt (refine' code_K (binds := [(Str.ofString "self", .ref x), (Str.ofString "other", .ref x')]) B F X T N ?kA ?kF ?kK ?k6 ?k7 ?k8 ?k9 ?kB ?_ ?c1 ?c2 ?c3 ?c4)
  ((case kA => exact rfl); (case kF => exact rfl); (case kK => assumption); (case k6 => k_is); (case k7 => k_is); (case k8 => ktr_room); (case k9 => exact BindsTo.of_eq rfl); (case kB => exact locs rfl); (case c1 => decide); (case c2 => exact rfl); (case c3 => exact rfl); (case c4 => exact rfl))
  intro g L' s₁ Qz hz G st0 F' N' lt B' X' T'
  (try dsimp only [List.reverse, List.reverseAux] at F'); (try dsimp only [List.cons_append, List.nil_append, wsLed] at N'); (try dsimp only); (try k_fold)
  (repeat' ((fail_if_success (with_reducible show wpAny _ _ (pyIter _) _ _ _)); (fail_if_success (with_reducible show wpAny _ _ (call (Value.ref _) _) _ _ _)); (fail_if_success (with_reducible show wpAny _ _ (call (Value.builtin "len") [Value.ref _]) _ _ _)); (fail_if_success (with_reducible show wpAny _ _ (compareOp _ (Value.ref _) (Value.ref _)) _ _ _)); (first | (k_unfold; (try dsimp only)) | (law_purse 100000 => walk1) | (dsimp only; (law_purse 100000 => walk1)))))
  · (rename Fr _ _ _ _ => F1); (rename News _ _ _ _ => N1)
    exact hz _ _ _ (ret _ _ _ (grounds_stay G (fun q hq => (N q hq).1) F1.keep (fun q hq => (N1 q hq).1)) rfl)
  all_goals (
    (rename Fr _ _ _ _ => F1); (rename News _ _ _ _ => N1)
    have hlt : ¬ (l'.length : Int) ≤ (l.length : Int) := by assumption
    have N1a : News g L' _ (wsLed w l x dx nm ct vs t k1 k2 k3 k4 k5 tn tnt tb ++ wsLed w l' x' dx' nm' ct' vs' t' k1' k2' k3' k4' k5' tn' tnt' tb') := N1
    refine long_does w l x dx nm ct vs t k1 k2 k3 k4 k5 tn tnt tb hI hl _ _ _ _ _ _ _ _ _ _ _ _ _ _ _ _ _ _ _ _ _ _ B' F1 X' T' rfl ?kd1 ?ku1 (app_l N1a) ?_
    case kd1 => (try simp only [depth_deeper]); (try dsimp only [ktrTop]); (first | lia | omega)
    case ku1 => (try simp only [units_deeper]); (try dsimp only [ktrTop]); (first | lia | omega)
    rintro v2 h2 tk2 st2 ⟨t2, rfl⟩
    have F2 := stays_fr F1 st2
    have N2 := stays_news N1a st2
    clear F1 N1 N1a
    (try dsimp only at F2); (try dsimp only [List.cons_append, List.nil_append, wsLed] at N2); (try dsimp only)
    (repeat' ((fail_if_success (with_reducible show wpAny _ _ (pyIter _) _ _ _)); (fail_if_success (with_reducible show wpAny _ _ (call (Value.ref _) _) _ _ _)); (fail_if_success (with_reducible show wpAny _ _ (call (Value.builtin "len") [Value.ref _]) _ _ _)); (fail_if_success (with_reducible show wpAny _ _ (compareOp _ (Value.ref _) (Value.ref _)) _ _ _)); (first | (k_unfold; (try dsimp only)) | (law_purse 100000 => walk1) | (dsimp only; (law_purse 100000 => walk1)))))
    have N2a : News g L' _ (wsLed w l x dx nm ct vs t k1 k2 k3 k4 k5 tn tnt tb ++ wsLed w l' x' dx' nm' ct' vs' t' k1' k2' k3' k4' k5' tn' tnt' tb') := N2
    refine long_does w l' x' dx' nm' ct' vs' t' k1' k2' k3' k4' k5' tn' tnt' tb' hI' hl' _ _ _ _ _ _ _ _ _ _ _ _ _ _ _ _ _ _ _ _ _ _ B' F2 X' T' rfl ?kd2 ?ku2 (app_r N2a) ?_
    case kd2 => (try simp only [depth_deeper]); (try dsimp only [ktrTop]); (first | lia | omega)
    case ku2 => (try simp only [units_deeper]); (try dsimp only [ktrTop]); (first | lia | omega)
    rintro v3 h3 tk3 st3 ⟨t3, rfl⟩
    have F3 := stays_fr F2 st3
    have N3 := stays_news N2a st3
    clear F2 N2 N2a
    (try dsimp only at F3); (try dsimp only [List.cons_append, List.nil_append, wsLed] at N3); (try dsimp only)
    (repeat' ((fail_if_success (with_reducible show wpAny _ _ (pyIter _) _ _ _)); (fail_if_success (with_reducible show wpAny _ _ (call (Value.ref _) _) _ _ _)); (fail_if_success (with_reducible show wpAny _ _ (call (Value.builtin "len") [Value.ref _]) _ _ _)); (fail_if_success (with_reducible show wpAny _ _ (compareOp _ (Value.ref _) (Value.ref _)) _ _ _)); (first | (k_unfold; (try dsimp only)) | (law_purse 100000 => walk1) | (dsimp only; (law_purse 100000 => walk1)))))
    (rename Fr _ _ _ _ => F4); (rename News _ _ _ _ => N4)
    have hb1 := long_bounds l hl
    have hb2 := long_bounds l' hl'
    (rename IsRange _ _ _ _ _ _ _ _ => hr)
    generalize hM : (if longOf l' > longOf l then longOf l' else longOf l) = M at hr F4
    have hM1 : -1 ≤ M ∧ M ≤ 10000 := by rw [← hM]; split <;> (first | lia | omega)
    refine loop_range (n := (M + 1 + 1 - 2).toNat) (LessJ l l' (wsLed w l x dx nm ct vs t k1 k2 k3 k4 k5 tn tnt tb ++ wsLed w l' x' dx' nm' ct' vs' t' k1' k2' k3' k4' k5' tn' tnt' tb') _) rfl hr (small_one (by (first | lia | omega)) (by (first | lia | omega)) (by (first | lia | omega)) (by (first | lia | omega))) (by rw [rangeSize_nat]) F4 N4 ⟨_, lessM0, rfl, fun j hj => absurd hj (Nat.not_lt_zero _)⟩ ?_ ?_
    · clear F4 N4
      rintro i ti m₁ news₁ s5 io Qt hN hBk hRt hi ⟨uu, rfl, rfl, hj⟩ hoff F5 N5
      have ei : ((2 : Int) + (i : Int) * 1) = ((2 + i : Nat) : Int) := by (first | lia | omega)
      rw [ei] at F5
      (try dsimp only [List.cons_append, List.nil_append, wsLed] at N5)
      (repeat' ((fail_if_success (with_reducible show wpAny _ _ (pyIter _) _ _ _)); (fail_if_success (with_reducible show wpAny _ _ (call (Value.ref _) _) _ _ _)); (fail_if_success (with_reducible show wpAny _ _ (call (Value.builtin "len") [Value.ref _]) _ _ _)); (fail_if_success (with_reducible show wpAny _ _ (compareOp _ (Value.ref _) (Value.ref _)) _ _ _)); (first | (k_unfold; (try dsimp only)) | (law_purse 100000 => walk1) | (dsimp only; (law_purse 100000 => walk1)))))
      have N5a : News g L' _ (io :: (wsLed w l x dx nm ct vs t k1 k2 k3 k4 k5 tn tnt tb ++ wsLed w l' x' dx' nm' ct' vs' t' k1' k2' k3' k4' k5' tn' tnt' tb')) := N5
      refine lvl_does w l x dx nm ct vs t k1 k2 k3 k4 k5 tn tnt tb (2 + i) _ hKK.1 hl (by (first | lia | omega)) (by (first | lia | omega)) _ _ _ _ _ _ _ _ _ _ _ _ _ _ _ _ _ _ _ _ _ _ B' F5 X' T' rfl ?kd3 ?ku3 (app_l (fun q hq => N5a q (.tail _ hq))) ?_
      case kd3 => (try simp only [depth_deeper]); (try dsimp only [ktrTop]); (first | lia | omega)
      case ku3 => (try simp only [units_deeper]); (try dsimp only [ktrTop]); (first | lia | omega)
      rintro v6 h6 tk6 st6 ⟨t6, rfl⟩
      have F6 := stays_fr F5 st6
      have N6 := stays_news N5a st6
      clear F5 N5 N5a
      (try dsimp only at F6); (try dsimp only [List.cons_append, List.nil_append, wsLed] at N6); (try dsimp only)
      (repeat' ((fail_if_success (with_reducible show wpAny _ _ (pyIter _) _ _ _)); (fail_if_success (with_reducible show wpAny _ _ (call (Value.ref _) _) _ _ _)); (fail_if_success (with_reducible show wpAny _ _ (call (Value.builtin "len") [Value.ref _]) _ _ _)); (fail_if_success (with_reducible show wpAny _ _ (compareOp _ (Value.ref _) (Value.ref _)) _ _ _)); (first | (k_unfold; (try dsimp only)) | (law_purse 100000 => walk1) | (dsimp only; (law_purse 100000 => walk1)))))
      have N6a : News g L' _ (io :: (wsLed w l x dx nm ct vs t k1 k2 k3 k4 k5 tn tnt tb ++ wsLed w l' x' dx' nm' ct' vs' t' k1' k2' k3' k4' k5' tn' tnt' tb')) := N6
      refine lvl_does w l' x' dx' nm' ct' vs' t' k1' k2' k3' k4' k5' tn' tnt' tb' (2 + i) _ hKK.2 hl' (by (first | lia | omega)) (by (first | lia | omega)) _ _ _ _ _ _ _ _ _ _ _ _ _ _ _ _ _ _ _ _ _ _ B' F6 X' T' rfl ?kd4 ?ku4 (app_r (fun q hq => N6a q (.tail _ hq))) ?_
      case kd4 => (try simp only [depth_deeper]); (try dsimp only [ktrTop]); (first | lia | omega)
      case ku4 => (try simp only [units_deeper]); (try dsimp only [ktrTop]); (first | lia | omega)
      rintro v7 h7 tk7 st7 ⟨t7, rfl⟩
      have F7 := stays_fr F6 st7
      have N7 := stays_news N6a st7
      clear F6 N6 N6a
      (try dsimp only at F7); (try dsimp only)
      (repeat' ((fail_if_success (with_reducible show wpAny _ _ (pyIter _) _ _ _)); (fail_if_success (with_reducible show wpAny _ _ (call (Value.ref _) _) _ _ _)); (fail_if_success (with_reducible show wpAny _ _ (call (Value.builtin "len") [Value.ref _]) _ _ _)); (fail_if_success (with_reducible show wpAny _ _ (compareOp _ (Value.ref _) (Value.ref _)) _ _ _)); (first | (k_unfold; (try dsimp only)) | (law_purse 100000 => walk1) | (dsimp only; (law_purse 100000 => walk1)))))
      · refine hRt _ _ _ ?_
        exact hz _ _ _ (ret _ _ _ (grounds_stay G (fun q hq => (N q hq).1) F7.keep (fun q hq => (N7 q (.tail _ hq)).1)) rfl)
      · have hgt : ¬ lvlOf (2 + i) l' ≤ lvlOf (2 + i) l := by assumption
        refine hN _ _ _ _ F7 N7 hoff ⟨_, lessM1, rfl, fun j hj2 => ?_⟩
        rcases Nat.lt_or_ge j i with h | h
        · exact hj j h
        · have : j = i := by (first | lia | omega)
          subst this
          (first | lia | omega)
    · clear F4 N4
      rintro m₁ news₁ h5 tk5 ⟨uu, rfl, rfl, hj⟩ F5 N5
      exfalso
      rcases H with h | ⟨_, ts, h2, h3, h4⟩
      · (first | lia | omega)
      · have h5 := hj (ts - 2) (by
          have : (ts : Int) ≤ M + 1 := by rw [← hM]; split <;> (first | lia | omega)
          (first | lia | omega))
        rw [show 2 + (ts - 2) = ts by (first | lia | omega)] at h5
        (first | lia | omega))
end Mine
namespace Mine
section
variable {M : Model} {A : Around} {E : Value → Shared → Prop} {env : Env} {Q : Flow → Shared → Prop}
theorem seq_wp {Γ : PySem.Ctx} (Mid : Shared → Prop) : ∀ (k : Nat) (stmts : List Stmt) (p : Pos) (s : Shared), Sem.wp M Γ (execs (stmts.take k) env) (fun f _ s' => f = Flow.next ∧ Mid s') (fun e _ s' => E e s') p s →
    (∀ p s', Mid s' → Sem.wp M Γ (execs (stmts.drop k) env) (fun f _ s' => Q f s') (fun e _ s' => E e s') p s') → Sem.wp M Γ (execs stmts env) (fun f _ s' => Q f s') (fun e _ s' => E e s') p s
  | 0, _, p, s, h1, h2 => h2 p s (show Flow.next = Flow.next ∧ Mid s from h1).2
  | _ + 1, [], p, s, h1, h2 => h2 p s (show Flow.next = Flow.next ∧ Mid s from h1).2
  | k + 1, st :: rest, p, s, h1, h2 => by
    have h' : Sem.wp M Γ (execs (st :: rest.take k) env) (fun f _ s' => f = Flow.next ∧ Mid s') (fun e _ s' => E e s') p s := h1
    rw [execs_cons, Sem.wp_bind'] at h'
    rw [execs_cons, Sem.wp_bind']
    refine Sem.wp_mono M Γ _ (fun f p' s' hf => ?_) (fun _ _ _ e => e) p s h'
    cases f with
    | next => exact seq_wp Mid k rest p' s' hf h2
    | brk => exact absurd (show Flow.brk = Flow.next ∧ Mid s' from hf).1 (by intro q; cases q)
    | cont => exact absurd (show Flow.cont = Flow.next ∧ Mid s' from hf).1 (by intro q; cases q)
    | ret v => exact absurd (show Flow.ret v = Flow.next ∧ Mid s' from hf).1 (by intro q; cases q)
/-- a body cut behind its first k statements -/
theorem seq_split (k : Nat) {stmts : List Stmt} {s : Shared} (Mid : Shared → Prop) (h1 : wpAny M A (execs (stmts.take k) env) (fun f s' => f = .next ∧ Mid s') E s) (h2 : ∀ s', Mid s' → wpAny M A (execs (stmts.drop k) env) Q E s') : wpAny M A (execs stmts env) Q E s :=
  fun Γ p hΓ => seq_wp Mid k stmts p s (h1 Γ p hΓ) fun p' s' hm => h2 s' hm Γ p' hΓ
end
end Mine
namespace Mine
/-- two lists, item by item -/
inductive Both {α β : Type} (R : α → β → Prop) : List α → List β → Prop where
  | nil : Both R [] []
  | cons {a : α} {b : β} {as : List α} {bs : List β} (h : R a b) (r : Both R as bs) : Both R (a :: as) (b :: bs)
theorem Both.snoc {α β : Type} {R : α → β → Prop} {a : α} {b : β} (h : R a b) : ∀ {as : List α} {bs : List β}, Both R as bs → Both R (as ++ [a]) (bs ++ [b])
  | _, _, .nil => .cons h .nil
  | _, _, .cons h' r => .cons h' (Both.snoc h r)
theorem Both.ints {α : Type} {g : α → Int} : ∀ {as : List α} {ys : List Value}, Both (fun a y => ∃ t, y = .int (g a) t) as ys → IntsAre ys (as.map g)
  | _, _, .nil => .nil
  | _, _, .cons ⟨t, e⟩ r => e ▸ .cons _ t (Both.ints r)
theorem Both.strs {α : Type} {g : α → Str} : ∀ {as : List α} {ys : List Value}, Both (fun a y => ∃ t, y = .str (g a) t) as ys → StrsAre ys (as.map g)
  | _, _, .nil => .nil
  | _, _, .cons ⟨t, e⟩ r => e ▸ .cons _ t (Both.strs r)
section
variable {prog : Program} {w : World} {A : Around} {E : Value → Shared → Prop} {h₀ : Heap} {L : Addr} {m : Str → Option Value} {env : Env} {elt : Expr} {x : Str} {scope : Scope} {cl : List (Str × Addr)} {s : Shared} {S : List (Addr × Obj) → Prop} {P : Nat → Value → Prop} {Fin : List Value → List (Addr × Obj) → Prop} {news : List (Addr × Obj)}
/-- a comprehension's turns: each item a gives a value that R joins to it, and nothing is left behind -/
theorem comp_rest {α : Type} {n : Nat} {items : List α} (isI : α → Value → Prop) (R : α → Value → Prop) (hn : items.length = n) (hP : ∀ i v, i < n → P i v → ∃ a, items[i]? = some a ∧ isI a v)
    (turn : ∀ a v I oI C oC D m₂ ys h tk (E' : Value → Shared → Prop), a ∈ items → isI a v → LCg.NsObj oC m₂ → m₂ x = some v → Fr h₀ L h m → News h₀ L h ((I, oI) :: (C, oC) :: (D, LCg.lst ys) :: news) → LCg.Off3 I C D news → ((@Ne Nat I C) ∧ (@Ne Nat I D) ∧ (@Ne Nat C D)) →
      wpAny (model prog w) A (eval elt (compEnvC scope cl C env)) (LCg.CompEnd h₀ L m { s with heap := h, toks := tk } I oI C oC D (LCg.lst ys) S (fun y news' => news' = news ∧ R a y)) E' { s with heap := h, toks := tk })
    (fin : ∀ ys, Both R items ys → Fin ys news) : LCg.CompRest prog w A h₀ L m env elt x scope cl s S P Fin n 0 [] news := by
  have key : ∀ (j i : Nat) (ys : List Value), i + j = n → Both R (items.take i) ys → LCg.CompRest prog w A h₀ L m env elt x scope cl s S P Fin j i ys news := by
    intro j
    induction j with
    | zero =>
      intro i ys hi hy
      have e : i = items.length := by (first | lia | omega)
      rw [e, List.take_length] at hy
      exact LCg.CompRest.zero (fin ys hy)
    | succ j ih =>
      intro i ys hi hy
      refine LCg.CompRest.succ fun v I oI C oC D m₂ h tk E' hv hC hx F N off ne => ?_
      obtain ⟨a, ha, hv'⟩ := hP i v (by (first | lia | omega)) hv
      refine wpAny_mono (turn a v I oI C oC D m₂ ys h tk E' (List.mem_of_getElem? ha) hv' hC hx F N off ne) (fun y s₂ hq => ?_) fun _ _ e => e
      obtain ⟨h', tk', nw, e, F', N', off', hS, rfl, hR⟩ := hq
      refine ⟨h', tk', nw, e, F', N', off', hS, ih (i + 1) _ (by (first | lia | omega)) ?_⟩
      rw [List.take_add_one, ha]
      exact hy.snoc hR
  exact key n 0 [] (by (first | lia | omega)) .nil

/-- a comprehension over a text's signs, its list stored under a name -/
theorem assign_comp_str {iter : Expr} {y : Str} {px py pos spos : Pos} {Q : Flow → Shared → Prop} (hLe : env.locals = L)
    (hsw : swapsWith (.ListComp elt [⟨.Name x px, iter, [], 0⟩] scope pos) (some (.Name y py)) spos.line env = pure true)
    (hclos : closureFor scope env = pure cl) (hcell : ∀ z ∈ scope.names, z.2 ≠ .cell) (hkind : scope.kind = .function)
    (hnames : ∀ z ∈ scope.names, z.2 = .local → scope.names.lookup z.1 = some .local) (hx : scope.names.lookup x = some .local)
    (hy : env.kindOf y = some .local) (hp : (env.scope.kind == .class || (env.scope.kind == .module && env.locals != env.globals)) = false) (hh : A.handled = none)
    (h : wpAny (model prog w) A (eval iter env) (fun xv s₁ => ∃ xt tx news, xv = .str xt tx ∧ Fr h₀ L s₁.heap m ∧ News h₀ L s₁.heap news ∧ xt.cps.size ≤ sizeLine ∧
      ∀ s₂ : Shared, (∃ g, s₂ = { s₁ with heap := g }) → LCg.CompRest prog w A h₀ L m env elt x scope cl s₂ (fun _ => True) (SignAt xt) (LCg.FinA h₀ L m s₂ y Q) xt.cps.size 0 [] news) E s)
    (hs : ∀ x, foldedSetIterable iter env x = pure x := by intro _; rfl) :
    wpAny (model prog w) A (exec (.Assign [.Name y py] (.ListComp elt [⟨.Name x px, iter, [], 0⟩] scope pos) spos) env) Q E s := by
  subst hLe
  rw [exec_Assign_Name_used _ _ _ _ hsw]
  refine wpAny_bind (wpAny_standAt (wpAny_bind ?_))
  show wpAny _ A (do let _ ← comprehension (.ListComp elt [⟨.Name x px, iter, [], 0⟩] scope pos) scope env _ (newList []) false (eval iter env) (some (assign (.Name y py) env))) _ _ s
  refine wpAny_bind (wpAny_mono (wpAny_comprehension_free (use := some (assign (.Name y py) env)) (Q := fun _ s' => Q .next s') rfl hs hclos hkind hnames
    (wpAny_mono h (fun xv s₁ h₁ => ?_) fun _ _ e => e)) (fun _ s' hq => wpAny_pure (wpAny_pure hq)) fun _ _ e => e)
  obtain ⟨xt, tx, news, rfl, F, N, hsz, R⟩ := h₁
  have stay : ∀ (ty : String) (i : Nat) (h h' : Heap) (o : Obj), h.IsStrIter s₁.heap.objs.size ty xt tx i → h.get? s₁.heap.objs.size = some o → h'.get? s₁.heap.objs.size = some o → h'.IsStrIter s₁.heap.objs.size ty xt tx i := fun ty i h h' o st e e' => by
    obtain ⟨o', q, r⟩ := st
    rw [e] at q
    cases q
    exact ⟨o, e', r⟩
  have lt1 : ∀ (o : Obj), ∀ b ∈ [s₁.heap.objs.size], b < (s₁.heap.push o).objs.size := fun o b hb => by rw [List.mem_singleton.mp hb, Heap.size_push]; exact Nat.lt_succ_self _
  cases ha : xt.cps.all (· < 128)
  · refine wpAny_pyIter_wide ha ?_
    refine LCg.block_U (S := fun _ => True) (Walks.strWide hh _ xt tx) hsz (fun i h st => by obtain ⟨o, e, _⟩ := st; exact ⟨o, e⟩) (fun i h h' o nw st e e' _ _ _ => stay _ i h h' o st e e') hcell hkind hx ⟨_, Heap.get?_push_size _ rfl, rfl, rfl⟩ (lt1 _)
      (F.push _) (N.grown fun _ _ e => Heap.get?_push_of_some _ e) (Nat.ne_of_lt F.ns.lt) (next_is_new F) (fun p hp => Nat.ne_of_lt (Heap.lt_size (N p hp).1)) trivial (R _ ⟨_, rfl⟩) ?_
    intro D C h' tk m' ys news' F' N' o1 hn hC₀ hD₀ hCL hDL hCD offC fin
    show wpAny _ A (assign (.Name y py) env (.ref D)) _ _ _
    refine wpAny_assign_Name (wpAny_storeName_local hy F'.ns (fun h₂ hn₂ hs₂ => ?_) hp)
    have hL₀ : h₀.get? env.locals = none := Heap.get?_none_of_le F'.above
    have F₂ : Fr h₀ env.locals h₂ (fun z => if z = y then some (.ref D) else m z) := ⟨hn₂, fun b o e => hs₂.extBut b o (fun q => by rw [q, hL₀] at e; cases e) (F'.keep b o e), F'.above⟩
    refine ⟨m', hn.sameBut hs₂ hCL, fun h'' hs'' => fin D h'' _ (F₂.change hs'' hCL hC₀) (fun p hp => ?_) o1⟩
    have z : h₂.get? p.1 = some p.2 := hs₂.extBut _ _ (N' p hp).2.1 (N' p hp).1
    refine ⟨hs''.extBut _ _ ?_ z, (N' p hp).2⟩
    rcases List.mem_cons.mp hp with rfl | hp
    · exact Ne.symm hCD
    · exact offC p hp
  · refine wpAny_pyIter_ascii ha ?_
    refine LCg.block_U (S := fun _ => True) (Walks.strAscii hh _ xt tx) hsz (fun i h st => by obtain ⟨o, e, _⟩ := st; exact ⟨o, e⟩) (fun i h h' o nw st e e' _ _ _ => stay _ i h h' o st e e') hcell hkind hx ⟨_, Heap.get?_push_size _ rfl, rfl, rfl⟩ (lt1 _)
      (F.push _) (N.grown fun _ _ e => Heap.get?_push_of_some _ e) (Nat.ne_of_lt F.ns.lt) (next_is_new F) (fun p hp => Nat.ne_of_lt (Heap.lt_size (N p hp).1)) trivial (R _ ⟨_, rfl⟩) ?_
    intro D C h' tk m' ys news' F' N' o1 hn hC₀ hD₀ hCL hDL hCD offC fin
    show wpAny _ A (assign (.Name y py) env (.ref D)) _ _ _
    refine wpAny_assign_Name (wpAny_storeName_local hy F'.ns (fun h₂ hn₂ hs₂ => ?_) hp)
    have hL₀ : h₀.get? env.locals = none := Heap.get?_none_of_le F'.above
    have F₂ : Fr h₀ env.locals h₂ (fun z => if z = y then some (.ref D) else m z) := ⟨hn₂, fun b o e => hs₂.extBut b o (fun q => by rw [q, hL₀] at e; cases e) (F'.keep b o e), F'.above⟩
    refine ⟨m', hn.sameBut hs₂ hCL, fun h'' hs'' => fin D h'' _ (F₂.change hs'' hCL hC₀) (fun p hp => ?_) o1⟩
    have z : h₂.get? p.1 = some p.2 := hs₂.extBut _ _ (N' p hp).2.1 (N' p hp).1
    refine ⟨hs''.extBut _ _ ?_ z, (N' p hp).2⟩
    rcases List.mem_cons.mp hp with rfl | hp
    · exact Ne.symm hCD
    · exact offC p hp
end
end Mine
namespace Mine
/-- the k-th cell of a column as wide as z -/
noncomputable def cellL (z k : Nat) : List Nat := if k < z then List.replicate k 32 ++ [9] else List.replicate z 32
noncomputable def sigL (z : Nat) : List Nat := (List.range (z + 1)).map (97 + ·)
noncomputable def thereP (z i : Nat) : List (List Nat × List Nat) := (List.range i).map fun j => (cellL z (z - j), [97 + (z - j)])
noncomputable def backP (z i : Nat) : List (List Nat × List Nat) := (List.range i).map fun j => ([97 + (z - j)], cellL z (z - j))
theorem PairsAre.snoc {a b : List Nat} {t u : Tok} : ∀ {vs : List Value} {ps : List (List Nat × List Nat)}, PairsAre vs ps → PairsAre (vs ++ [.str (T a) t, .str (T b) u]) (ps ++ [(a, b)])
  | _, _, .nil => .cons a b t u .nil
  | _, _, .cons a' b' t' u' r => .cons a' b' t' u' (PairsAre.snoc r)
theorem PairsAre.len : ∀ {vs : List Value} {ps : List (List Nat × List Nat)}, PairsAre vs ps → vs.length = 2 * ps.length
  | _, _, .nil => rfl
  | _, _, .cons _ _ _ _ r => by simp [PairsAre.len r]; (first | lia | omega)
theorem thereP_succ (z i : Nat) : thereP z (i + 1) = thereP z i ++ [(cellL z (z - i), [97 + (z - i)])] := by simp [thereP, List.range_succ]
theorem backP_succ (z i : Nat) : backP z (i + 1) = backP z i ++ [([97 + (z - i)], cellL z (z - i))] := by simp [backP, List.range_succ]
theorem thereP_len (z i : Nat) : (thereP z i).length = i := by simp [thereP]
theorem backP_len (z i : Nat) : (backP z i).length = i := by simp [backP]
theorem sig_slice {z : Nat} (h : z = 1 ∨ z = 3 ∨ z = 7) : Txt.slice (Str.ofString "abcdefgh") none (some ((z : Int) + 1)) = T (sigL z) := by
  rcases h with rfl | rfl | rfl <;> decide +kernel
theorem sig_item {z k : Nat} (h : z = 1 ∨ z = 3 ∨ z = 7) (hk : k ≤ z) : Txt.item (T (sigL z)) (k : Int) = T [97 + k] := by
  have key : ∀ z : Fin 8, ∀ k : Fin 8, k.val ≤ z.val → Txt.item (T (sigL z.val)) (k.val : Int) = T [97 + k.val] := by decide +kernel
  exact key ⟨z, by (first | lia | omega)⟩ ⟨k, by (first | lia | omega)⟩ hk
theorem sig_len (z : Nat) : (T (sigL z)).length = z + 1 := by rw [T_length]; simp [sigL]
/-- the loop that lays the pairs -/
noncomputable def PairJ (z : Nat) (m₀ : Str → Option Value) (B Th : Addr) (rest : List (Addr × Obj)) (i : Nat) (m : Str → Option Value) (news : List (Addr × Obj)) : Prop :=
  ∃ kv vsB vsT nB nT, (m = fun y => if y = Str.ofString "k" then kv else m₀ y) ∧ news = (B, W.listOf (List.toArray vsB) nB) :: (Th, W.listOf (List.toArray vsT) nT) :: rest ∧ PairsAre vsT (thereP z i) ∧ PairsAre vsB (backP z i)
theorem pairJ0 {z : Nat} {m₀ : Str → Option Value} {B Th : Addr} {nB nT : Nat} {rest : List (Addr × Obj)} : PairJ z m₀ B Th rest 0 m₀ ((B, W.listOf #[] nB) :: (Th, W.listOf #[] nT) :: rest) := by
  refine ⟨m₀ (Str.ofString "k"), [], [], nB, nT, ?_, rfl, .nil, .nil⟩
  funext y
  by_cases h : y = Str.ofString "k"
  · rw [if_pos h, h]
  · rw [if_neg h]
theorem pairM {m₀ : Str → Option Value} {kv kw : Option Value} : (fun y => if y = Str.ofString "k" then kv else if y = Str.ofString "k" then kw else m₀ y) = fun y => if y = Str.ofString "k" then kv else m₀ y := by
  funext y
  by_cases h : y = Str.ofString "k"
  · rw [if_pos h, if_pos h]
  · rw [if_neg h, if_neg h, if_neg h]
theorem cells_are {z : Nat} {ys : List Value} {t : Tok} (h : StrsAre ys (List.map (fun i => T (List.replicate i 32 ++ [9])) (List.range z))) : StrsAre (ys ++ [.str (Txt.mul (Str.ofString " ") (z : Int)) t]) ((List.range (z + 1)).map fun k => T (cellL z k)) := by
  rw [T_blank, T_mul, Int.toNat_natCast]
  have e : ((List.range (z + 1)).map fun k => T (cellL z k)) = List.map (fun i => T (List.replicate i 32 ++ [9])) (List.range z) ++ [T (List.replicate z 32)] := by
    rw [List.range_succ, List.map_append]
    congr 1
    · apply List.map_congr_left
      intro k hk
      have := List.mem_range.mp hk
      simp [cellL, this]
    · simp [cellL]
  rw [e]
  exact h.append' (.cons _ _ .nil)
theorem cells_get {z k : Nat} (h : k ≤ z) : ((List.range (z + 1)).map fun k => T (cellL z k)).getD (k : Int).toNat Str.empty = T (cellL z k) := by
  have : k < z + 1 := by (first | lia | omega)
  simp [List.getD, this]
end Mine
namespace Mine
open Builtin Builtin.Str
/-- y stands at the head of l -/
noncomputable def atHead (y l : List Nat) : Bool := l.take y.length == y
noncomputable def occL (y : List Nat) : List Nat → Nat → Nat → List Nat
  | [], _, _ => []
  | _ :: r, k + 1, i => occL y r k (i + 1)
  | c :: r, 0, i => if atHead y (c :: r) = true then i :: occL y r (y.length - 1) (i + 1) else occL y r 0 (i + 1)
noncomputable def spl (y : List Nat) : List Nat → Nat → List Nat → List (List Nat)
  | [], _, p => [p]
  | _ :: r, k + 1, p => spl y r k p
  | c :: r, 0, p => if atHead y (c :: r) = true then p :: spl y r (y.length - 1) [] else spl y r 0 (p ++ [c])
noncomputable def put (y nw : List Nat) : List Nat → Nat → List Nat
  | [], _ => []
  | _ :: r, k + 1 => put y nw r k
  | c :: r, 0 => if atHead y (c :: r) = true then nw ++ put y nw r (y.length - 1) else c :: put y nw r 0

theorem atHead_len {y l : List Nat} (h : atHead y l = true) : y.length ≤ l.length := by
  have := congrArg List.length (eq_of_beq h)
  rw [List.length_take] at this
  (first | lia | omega)

theorem occ_list {X Y : List Nat} (hY : Y ≠ []) : ∀ (l : List Nat) (i : Nat) (st : Array Nat × Nat), X.drop i = l → i + l.length = X.length → st.1.size ≤ i →
    (forIn (m := Id) (List.range' i (l.length + 1)) st (StrLaws.occBody (T X) (T Y) X.length (X.length + 1))).run.fst.toList = st.1.toList ++ occL Y l (st.2 - i) i
  | [], i, st, hd, hl, hs => by
    have hpos : 0 < Y.length := List.length_pos_iff.mpr hY
    have hn : ¬ (((st.fst.size < X.length + 1 ∧ st.snd ≤ i) ∧ i + (T Y).length ≤ X.length) ∧ subAt (T X) (T Y) i = true) := by
      rw [T_length]
      simp only [List.length_nil] at hl
      (first | lia | omega)
    show (forIn (m := Id) [i] st (StrLaws.occBody (T X) (T Y) X.length (X.length + 1))).run.fst.toList = _
    rw [List.forIn_cons]
    unfold StrLaws.occBody
    rw [if_neg hn]
    simp [occL]
  | c :: r, i, st, hd, hl, hs => by
    have hpos : 0 < Y.length := List.length_pos_iff.mpr hY
    have hr : X.drop (i + 1) = r := by rw [← List.drop_drop, hd]; rfl
    have hl' : i + 1 + r.length = X.length := by simp only [List.length_cons] at hl; (first | lia | omega)
    rw [List.length_cons, List.range'_succ, List.forIn_cons]
    unfold StrLaws.occBody
    have hsub : subAt (T X) (T Y) i = atHead Y (c :: r) := by
      rw [StrLaws.subAt_eq, T_cps, T_cps, T_length, hd]; rfl
    by_cases h1 : st.2 ≤ i
    · have e0 : st.2 - i = 0 := by (first | lia | omega)
      rw [e0]
      by_cases h2 : atHead Y (c :: r) = true
      · have hle := atHead_len h2
        simp only [List.length_cons] at hle
        rw [if_pos ⟨⟨⟨by (first | lia | omega), h1⟩, by rw [T_length]; (first | lia | omega)⟩, by rw [hsub]; exact h2⟩]
        have ih := occ_list (X := X) hY r (i + 1) (st.1.push i, i + (T Y).length) hr hl' (by simp; (first | lia | omega))
        have e1 : i + (T Y).length - (i + 1) = Y.length - 1 := by rw [T_length]; (first | lia | omega)
        dsimp only at ih
        rw [e1] at ih
        unfold occL
        rw [if_pos h2]
        refine Eq.trans ih ?_
        simp
      · rw [if_neg (by rw [hsub]; exact fun h => h2 h.2)]
        have ih := occ_list (X := X) hY r (i + 1) (st.1, st.2) hr hl' (by dsimp only; (first | lia | omega))
        have e1 : st.2 - (i + 1) = 0 := by (first | lia | omega)
        dsimp only at ih
        rw [e1] at ih
        unfold occL
        rw [if_neg h2]
        exact ih
    · rw [if_neg (fun h => h1 h.1.1.2)]
      have ih := occ_list (X := X) hY r (i + 1) (st.1, st.2) hr hl' (by dsimp only; (first | lia | omega))
      obtain ⟨k, hk⟩ : ∃ k, st.2 - i = k + 1 := ⟨st.2 - i - 1, by (first | lia | omega)⟩
      have e1 : st.2 - (i + 1) = k := by (first | lia | omega)
      dsimp only at ih
      rw [e1] at ih
      rw [hk]
      exact ih

theorem occ_is {X Y : List Nat} (hY : Y ≠ []) : occurrences (T X) (T Y) 0 (T X).length ((T X).length + 1) = occL Y X 0 0 := by
  rw [StrLaws.occ_eq, T_length]
  have := occ_list (X := X) hY X 0 (#[], 0) rfl (by (first | lia | omega)) (by simp)
  simpa using this

theorem strSub_T (X : List Nat) (a b : Nat) : strSub (T X) a b = T ((X.drop a).take (b - a)) := by
  rw [← T_of (strSub (T X) a b), StrLaws.strSub_toList]; rfl

theorem parts_spl {X Y : List Nat} (hY : Y ≠ []) : ∀ (l : List Nat) (k i a : Nat), X.drop i = l → i + l.length = X.length → k ≤ l.length → (k = 0 → a ≤ i) → (k ≠ 0 → a = i + k) →
    StrLaws.partsFrom (T X) Y.length a (occL Y l k i) = (spl Y l k ((X.drop a).take (i - a))).map T
  | [], k, i, a, hd, hl, hk, h0, h1 => by
    simp only [List.length_nil] at hl hk
    have : i = X.length := by (first | lia | omega)
    subst this
    simp [occL, spl, StrLaws.partsFrom, strSub_T, T_length]
  | c :: r, 0, i, a, hd, hl, hk, h0, h1 => by
    have hpos : 0 < Y.length := List.length_pos_iff.mpr hY
    have ha := h0 rfl
    have hr : X.drop (i + 1) = r := by rw [← List.drop_drop, hd]; rfl
    have hl' : i + 1 + r.length = X.length := by simp only [List.length_cons] at hl; (first | lia | omega)
    unfold occL spl
    by_cases h2 : atHead Y (c :: r) = true
    · have hle := atHead_len h2
      simp only [List.length_cons] at hle
      rw [if_pos h2, if_pos h2]
      have ih := parts_spl (X := X) hY r (Y.length - 1) (i + 1) (i + Y.length) hr hl' (by (first | lia | omega)) (by (first | lia | omega)) (by (first | lia | omega))
      show strSub (T X) a i :: StrLaws.partsFrom (T X) Y.length (i + Y.length) _ = _
      rw [ih, strSub_T, List.map_cons]
      have : i + 1 - (i + Y.length) = 0 := by (first | lia | omega)
      rw [this, List.take_zero]
    · rw [if_neg h2, if_neg h2]
      have ih := parts_spl (X := X) hY r 0 (i + 1) a hr hl' (by (first | lia | omega)) (by (first | lia | omega)) (by (first | lia | omega))
      rw [ih]
      have e : (X.drop a).take (i + 1 - a) = (X.drop a).take (i - a) ++ [c] := by
        rw [show i + 1 - a = (i - a) + 1 by (first | lia | omega), List.take_add_one, List.getElem?_drop, show a + (i - a) = i by (first | lia | omega)]
        have : X[i]? = some c := by
          have := congrArg (·[0]?) hd
          simpa using this
        rw [this]; rfl
      rw [e]
  | c :: r, k + 1, i, a, hd, hl, hk, h0, h1 => by
    have hr : X.drop (i + 1) = r := by rw [← List.drop_drop, hd]; rfl
    have hl' : i + 1 + r.length = X.length := by simp only [List.length_cons] at hl; (first | lia | omega)
    have ha := h1 (by (first | lia | omega))
    simp only [List.length_cons] at hk
    have ih := parts_spl (X := X) hY r k (i + 1) a hr hl' (by (first | lia | omega)) (by (first | lia | omega)) (by (first | lia | omega))
    unfold occL spl
    rw [ih]
    have e1 : i + 1 - a = 0 := by (first | lia | omega)
    have e2 : i - a = 0 := by (first | lia | omega)
    rw [e1, e2]

theorem spl_none {Y : List Nat} : ∀ (l : List Nat) (p : List Nat), occL Y l 0 i = [] → spl Y l 0 p = [p ++ l]
  | [], p, _ => by simp [spl]
  | c :: r, p, h => by
    unfold occL at h
    unfold spl
    by_cases h2 : atHead Y (c :: r) = true
    · rw [if_pos h2] at h; cases h
    · rw [if_neg h2] at h ⊢
      have := spl_none (i := i + 1) r (p ++ [c]) h
      rw [this]; simp

theorem kind_low {Y : List Nat} (h : ∀ c ∈ Y, c < 256) : Builtin.Str.strKind (T Y) = 1 := by
  unfold Builtin.Str.strKind
  rw [if_pos]
  simpa [T] using h
theorem kind_ge (x : Str) : 1 ≤ Builtin.Str.strKind x := by
  unfold Builtin.Str.strKind
  split
  · (first | lia | omega)
  · split <;> (first | lia | omega)
theorem occ_short {Y : List Nat} : ∀ (l : List Nat) (i : Nat), l.length < Y.length → occL Y l 0 i = []
  | [], _, _ => rfl
  | c :: r, i, h => by
    unfold occL
    rw [if_neg (fun q => by have := atHead_len q; (first | lia | omega))]
    exact occ_short r (i + 1) (by simp only [List.length_cons] at h; (first | lia | omega))

theorem split_is {X Y : List Nat} (hY : Y ≠ []) (hc : ∀ c ∈ Y, c < 256) : Txt.split (T X) (T Y) = (spl Y X 0 []).map T := by
  unfold Txt.split
  rw [occ_is hY]
  have hk := kind_low hc
  have hk2 := kind_ge (T X)
  by_cases h1 : X.length < Y.length
  · rw [if_pos (by rw [T_length, T_length]; simp [h1]), spl_none (i := 0) X [] (occ_short X 0 h1)]; rfl
  · rw [if_neg (by rw [T_length, T_length, hk]; simp; (first | lia | omega))]
    by_cases h2 : (occL Y X 0 0).isEmpty = true
    · rw [if_pos h2, spl_none (i := 0) X [] (List.isEmpty_iff.mp h2)]; rfl
    · rw [if_neg h2, StrLaws.partsBetween_eq, T_length, parts_spl hY X 0 0 0 rfl (by (first | lia | omega)) (by (first | lia | omega)) (by (first | lia | omega)) (by (first | lia | omega))]
      simp

theorem spl_ne {Y : List Nat} : ∀ (l : List Nat) (k : Nat) (p : List Nat), spl Y l k p ≠ []
  | [], _, _ => by simp [spl]
  | c :: r, 0, p => by
    unfold spl
    split
    · simp
    · exact spl_ne r 0 _
  | c :: r, k + 1, p => by unfold spl; exact spl_ne r k p

theorem join_cons {sep : Str} {x : Str} {l : List Str} (h : l ≠ []) : PySem.Str.join sep (x :: l) = x ++ sep ++ PySem.Str.join sep l := by
  cases l with
  | nil => exact absurd rfl h
  | cons a r => rfl
theorem join_spl {Y nw : List Nat} : ∀ (l : List Nat) (k : Nat) (p : List Nat), PySem.Str.join (T nw) ((spl Y l k p).map T) = T (p ++ put Y nw l k)
  | [], k, p => by simp [spl, put, PySem.Str.join]
  | c :: r, 0, p => by
    unfold spl put
    by_cases h2 : atHead Y (c :: r) = true
    · rw [if_pos h2, if_pos h2, List.map_cons, join_cons (by simpa using spl_ne r _ _), join_spl r _ [], T_append, T_append]
      simp
    · rw [if_neg h2, if_neg h2, join_spl r 0 _]
      simp
  | c :: r, k + 1, p => by
    unfold spl put
    exact join_spl r k p

theorem putS_is {X Y nw : List Nat} (hY : Y ≠ []) (hc : ∀ c ∈ Y, c < 256) : putS (T X) (T Y) (T nw) = T (put Y nw X 0) := by
  unfold putS
  show glued _ _ = _
  rw [StrLaws.glued_eq_join, split_is hY hc, join_spl]; rfl

theorem put_drop {Y nw : List Nat} : ∀ (l : List Nat) (k : Nat), put Y nw l k = put Y nw (l.drop k) 0
  | [], k => by simp [put]
  | c :: r, 0 => rfl
  | c :: r, k + 1 => by
    rw [List.drop_succ_cons, ← put_drop r k]; rfl
theorem spl_drop {Y : List Nat} : ∀ (l : List Nat) (k : Nat) (p : List Nat), spl Y l k p = spl Y (l.drop k) 0 p
  | [], k, p => by simp [spl]
  | c :: r, 0, p => rfl
  | c :: r, k + 1, p => by
    rw [List.drop_succ_cons, ← spl_drop r k p]; rfl
theorem put_hit {Y nw : List Nat} (hY : Y ≠ []) (r : List Nat) : put Y nw (Y ++ r) 0 = nw ++ put Y nw r 0 := by
  cases Y with
  | nil => exact absurd rfl hY
  | cons c y =>
    show put (c :: y) nw (c :: (y ++ r)) 0 = _
    have h : atHead (c :: y) (c :: (y ++ r)) = true := by simp [atHead]
    rw [put, if_pos h, put_drop]
    simp
theorem put_miss {Y nw r : List Nat} {c : Nat} (h : ¬ atHead Y (c :: r) = true) : put Y nw (c :: r) 0 = c :: put Y nw r 0 := by rw [put, if_neg h]
theorem spl_hit {Y : List Nat} (hY : Y ≠ []) (p r : List Nat) : spl Y (Y ++ r) 0 p = p :: spl Y r 0 [] := by
  cases Y with
  | nil => exact absurd rfl hY
  | cons c y =>
    show spl (c :: y) (c :: (y ++ r)) 0 p = _
    have h : atHead (c :: y) (c :: (y ++ r)) = true := by simp [atHead]
    rw [spl, if_pos h, spl_drop]
    simp
theorem spl_miss {Y r p : List Nat} {c : Nat} (h : ¬ atHead Y (c :: r) = true) : spl Y (c :: r) 0 p = spl Y r 0 (p ++ [c]) := by rw [spl, if_neg h]
end Mine
namespace Mine
/-- runs of blanks, each ended by a tab, then t blanks -/
noncomputable def enc : List Nat → Nat → List Nat
  | [], t => List.replicate t 32
  | r :: rs, t => List.replicate r 32 ++ 9 :: enc rs t
theorem enc_ex : ∀ l : List Nat, (∀ c ∈ l, c = 32 ∨ c = 9) → ∃ rs t, l = enc rs t
  | [], _ => ⟨[], 0, rfl⟩
  | c :: r, h => by
    obtain ⟨rs, t, e⟩ := enc_ex r fun x hx => h x (.tail _ hx)
    rcases h c (.head _) with rfl | rfl
    · cases rs with
      | nil => exact ⟨[], t + 1, by rw [e]; rfl⟩
      | cons a rs => exact ⟨(a + 1) :: rs, t, by rw [e]; rfl⟩
    · exact ⟨0 :: rs, t, by rw [e]; rfl⟩
theorem enc_signs : ∀ (rs : List Nat) (t : Nat), ∀ c ∈ enc rs t, c = 32 ∨ c = 9
  | [], t, c, h => .inl (List.eq_of_mem_replicate h)
  | r :: rs, t, c, h => by
    rcases List.mem_append.mp h with h | h
    · exact .inl (List.eq_of_mem_replicate h)
    · rcases List.mem_cons.mp h with h | h
      · exact .inr h
      · exact enc_signs rs t c h

theorem cell_ne {z k : Nat} (hz : 1 ≤ z) : cellL z k ≠ [] := by
  unfold cellL
  split
  · simp
  · cases z with
    | zero => (first | lia | omega)
    | succ z => simp
theorem cell_sign {z k c : Nat} (h : c ∈ cellL z k) : c = 32 ∨ c = 9 := by
  unfold cellL at h
  split at h
  · rcases List.mem_append.mp h with h | h
    · exact .inl (List.eq_of_mem_replicate h)
    · exact .inr (List.mem_singleton.mp h)
  · exact .inl (List.eq_of_mem_replicate h)
theorem cell_low {z k : Nat} : ∀ c ∈ cellL z k, c < 256 := fun c h => by rcases cell_sign h with rfl | rfl <;> decide
theorem cell_len {z k : Nat} (h : k ≤ z) : (cellL z k).length ≤ z := by
  unfold cellL
  split
  · simp; (first | lia | omega)
  · simp

/-- the pattern of a cell does not stand at a shorter run -/
theorem cell_off {z k f : Nat} {rest : List Nat} (hf : f < k) (hk : k ≤ z) : ¬ atHead (cellL z k) (List.replicate f 32 ++ 9 :: rest) = true := fun h => by
  have e := eq_of_beq h
  have hlen : f < (cellL z k).length := by unfold cellL; split <;> simp <;> (first | lia | omega)
  have h1 : ((List.replicate f 32 ++ 9 :: rest).take (cellL z k).length)[f]? = some 9 := by
    rw [List.getElem?_take, if_pos hlen, List.getElem?_append_right (by simp)]
    simp
  have h2 : (cellL z k)[f]? = some 32 := by
    unfold cellL
    split
    · rw [List.getElem?_append_left (by simpa using hf), List.getElem?_replicate, if_pos hf]
    · rw [List.getElem?_replicate, if_pos (by (first | lia | omega))]
  rw [e, h2] at h1
  exact absurd h1 (by decide)
theorem put_run {z k : Nat} {nw rest : List Nat} (hk : k ≤ z) : ∀ f, f < k → put (cellL z k) nw (List.replicate f 32 ++ 9 :: rest) 0 = List.replicate f 32 ++ 9 :: put (cellL z k) nw rest 0
  | 0, hf => put_miss (cell_off (f := 0) hf hk)
  | f + 1, hf => by
    show put (cellL z k) nw (32 :: (List.replicate f 32 ++ 9 :: rest)) 0 = _
    rw [put_miss (c := 32) (r := List.replicate f 32 ++ 9 :: rest) (cell_off (f := f + 1) hf hk), put_run hk f (by (first | lia | omega))]; rfl
theorem put_end {z k : Nat} {nw : List Nat} (hk : k ≤ z) (hz : 1 ≤ z) : ∀ n, n < z → put (cellL z k) nw (List.replicate n 32) 0 = List.replicate n 32
  | 0, _ => rfl
  | n + 1, hn => by
    show put (cellL z k) nw (32 :: List.replicate n 32) 0 = _
    rw [put_miss, put_end hk hz n (by (first | lia | omega))]
    · rfl
    · intro h
      have e : (List.replicate (n + 1) 32).take (cellL z k).length = cellL z k := eq_of_beq h
      have hl := congrArg List.length e
      rw [List.length_take, List.length_replicate] at hl
      unfold cellL at e hl
      split at e
      · rename_i hkz
        have : (9 : Nat) ∈ (List.replicate (n + 1) 32).take (List.replicate k 32 ++ [9]).length := by rw [e]; simp
        have := List.eq_of_mem_replicate (List.mem_of_mem_take this)
        (first | lia | omega)
      · rename_i hkz
        rw [if_neg hkz] at hl
        simp at hl
        (first | lia | omega)

/-- figures shown: those from k on as letters, the others as cells -/
noncomputable def shw (z k : Nat) (fs : List Nat) : List Nat := fs.flatMap fun f => if k ≤ f then [97 + f] else cellL z f
theorem put_shw {z k tl : Nat} (hz : 1 ≤ z) (hk : k ≤ z) (ht : tl < z) : ∀ fs : List Nat, (∀ f ∈ fs, f ≤ z) → put (cellL z k) [97 + k] (shw z (k + 1) fs ++ List.replicate tl 32) 0 = shw z k fs ++ List.replicate tl 32
  | [], _ => put_end hk hz tl ht
  | f :: fs, h => by
    have ih := put_shw hz hk ht fs fun x hx => h x (.tail _ hx)
    have hf := h f (.head _)
    have e1 : ∀ k, shw z k (f :: fs) = (if k ≤ f then [97 + f] else cellL z f) ++ shw z k fs := fun k => by simp [shw]
    rw [e1, e1, List.append_assoc, List.append_assoc]
    rcases Nat.lt_trichotomy f k with hlt | heq | hgt
    · have e3 : cellL z f = List.replicate f 32 ++ [9] := by unfold cellL; rw [if_pos (by (first | lia | omega))]
      rw [if_neg (by (first | lia | omega)), if_neg (by (first | lia | omega)), e3, List.append_assoc, List.append_assoc]
      show put _ _ (List.replicate f 32 ++ 9 :: (shw z (k + 1) fs ++ List.replicate tl 32)) 0 = _
      rw [put_run hk f hlt, ih]; rfl
    · subst heq
      rw [if_neg (by (first | lia | omega)), if_pos (Nat.le_refl _), put_hit (cell_ne hz), ih]
    · rw [if_pos (by (first | lia | omega)), if_pos (by (first | lia | omega))]
      show put _ _ ((97 + f) :: (shw z (k + 1) fs ++ List.replicate tl 32)) 0 = _
      rw [put_miss, ih]
      · rfl
      · intro q
        have e := eq_of_beq q
        have hne := cell_ne (k := k) hz
        have hs : ∀ c ∈ cellL z k, c = 32 ∨ c = 9 := fun c hc => cell_sign hc
        cases hc : cellL z k with
        | nil => exact hne hc
        | cons a r =>
          rw [hc] at e hs
          simp only [List.length_cons, List.take_succ_cons, List.cons.injEq] at e
          have := hs a (.head _)
          (first | lia | omega)
noncomputable def downT (z : Nat) : Nat → List (List Nat × List Nat)
  | 0 => []
  | n + 1 => (cellL z n, [97 + n]) :: downT z n
noncomputable def downB (z : Nat) : Nat → List (List Nat × List Nat)
  | 0 => []
  | n + 1 => ([97 + n], cellL z n) :: downB z n
theorem thereP_is {z : Nat} (h : z = 1 ∨ z = 3 ∨ z = 7) : thereP z (z + 1) = downT z (z + 1) := by rcases h with rfl | rfl | rfl <;> rfl
theorem backP_is {z : Nat} (h : z = 1 ∨ z = 3 ∨ z = 7) : backP z (z + 1) = downB z (z + 1) := by rcases h with rfl | rfl | rfl <;> rfl
theorem shw_len {z k : Nat} (hz : 1 ≤ z) : ∀ fs : List Nat, (∀ f ∈ fs, f ≤ z) → (shw z k fs).length ≤ z * fs.length
  | [], _ => by simp [shw]
  | f :: fs, h => by
    have ih := shw_len (k := k) hz fs fun x hx => h x (.tail _ hx)
    have e1 : shw z k (f :: fs) = (if k ≤ f then [97 + f] else cellL z f) ++ shw z k fs := by simp [shw]
    have := cell_len (h f (.head _))
    rw [e1, List.length_append, List.length_cons, Nat.mul_succ]
    split
    · simp; (first | lia | omega)
    · (first | lia | omega)
theorem repl_down {z tl : Nat} (hz : 1 ≤ z) (ht : tl < z) {fs : List Nat} (h : ∀ f ∈ fs, f ≤ z) : ∀ n, n ≤ z + 1 → replS (T (shw z n fs ++ List.replicate tl 32)) (downT z n) = T (shw z 0 fs ++ List.replicate tl 32)
  | 0, _ => rfl
  | n + 1, hn => by
    show replS (putS (T _) (T (cellL z n)) (T [97 + n])) (downT z n) = _
    rw [putS_is (cell_ne hz) cell_low, put_shw hz (by (first | lia | omega)) ht fs h]
    exact repl_down hz ht h n (by (first | lia | omega))
theorem fits_down {z tl : Nat} (hz : 1 ≤ z) (hz7 : z ≤ 7) (ht : tl < z) {fs : List Nat} (h : ∀ f ∈ fs, f ≤ z) (hl : fs.length ≤ 1000) : ∀ n, n ≤ z + 1 → fits (T (shw z n fs ++ List.replicate tl 32)) (downT z n) := by
  have hb : ∀ k, (T (shw z k fs ++ List.replicate tl 32)).length ≤ 100000 := fun k => by
    have := shw_len (k := k) hz fs h
    have h2 : z * fs.length ≤ 7 * 1000 := Nat.mul_le_mul hz7 hl
    rw [T_length, List.length_append, List.length_replicate]
    (first | lia | omega)
  intro n
  induction n with
  | zero => intro _; exact hb 0
  | succ n ih =>
    intro hn
    refine ⟨hb _, cell_ne hz, by simp, ?_⟩
    rw [putS_is (cell_ne hz) cell_low, put_shw hz (by (first | lia | omega)) ht fs h]
    exact ih (by (first | lia | omega))

/-- figures shown: those from k on as cells, the others as letters -/
noncomputable def shb (z k : Nat) (fs : List Nat) : List Nat := fs.flatMap fun f => if k ≤ f then cellL z f else [97 + f]
theorem put_one {c : Nat} {nw : List Nat} : ∀ l : List Nat, put [c] nw l 0 = l.flatMap fun x => if x = c then nw else [x]
  | [] => rfl
  | a :: r => by
    rw [put]
    by_cases h : a = c
    · subst h
      rw [if_pos (by simp [atHead])]
      show nw ++ put [a] nw r 0 = _
      rw [put_one r]; simp
    · rw [if_neg (by simp [atHead, h]), put_one r]; simp [h]
theorem flat_same {c : Nat} {nw : List Nat} : ∀ l : List Nat, (∀ x ∈ l, x ≠ c) → (l.flatMap fun x => if x = c then nw else [x]) = l
  | [], _ => rfl
  | a :: r, h => by rw [List.flatMap_cons, if_neg (h a (.head _)), flat_same r fun x hx => h x (.tail _ hx)]; rfl
theorem put_shb {z k : Nat} : ∀ fs : List Nat, put [97 + k] (cellL z k) (shb z (k + 1) fs) 0 = shb z k fs := fun fs => by
  rw [put_one]
  induction fs with
  | nil => rfl
  | cons f fs ih =>
    have e1 : ∀ k, shb z k (f :: fs) = (if k ≤ f then cellL z f else [97 + f]) ++ shb z k fs := fun k => by simp [shb]
    rw [e1, e1, List.flatMap_append, ih]
    congr 1
    rcases Nat.lt_trichotomy f k with hlt | heq | hgt
    · rw [if_neg (by (first | lia | omega)), if_neg (by (first | lia | omega))]
      exact flat_same _ (by simp; (first | lia | omega))
    · subst heq
      rw [if_neg (by (first | lia | omega)), if_pos (Nat.le_refl _)]
      simp
    · rw [if_pos (by (first | lia | omega)), if_pos (by (first | lia | omega))]
      exact flat_same _ fun x hx => by rcases cell_sign hx with rfl | rfl <;> (first | lia | omega)
theorem shb_len {z k : Nat} (hz : 1 ≤ z) : ∀ fs : List Nat, (∀ f ∈ fs, f ≤ z) → (shb z k fs).length ≤ z * fs.length
  | [], _ => by simp [shb]
  | f :: fs, h => by
    have ih := shb_len (k := k) hz fs fun x hx => h x (.tail _ hx)
    have e1 : shb z k (f :: fs) = (if k ≤ f then cellL z f else [97 + f]) ++ shb z k fs := by simp [shb]
    have := cell_len (h f (.head _))
    rw [e1, List.length_append, List.length_cons, Nat.mul_succ]
    split
    · (first | lia | omega)
    · simp; (first | lia | omega)
theorem repl_back {z : Nat} (hz7 : z ≤ 7) {fs : List Nat} : ∀ n, n ≤ z + 1 → replS (T (shb z n fs)) (downB z n) = T (shb z 0 fs)
  | 0, _ => rfl
  | n + 1, hn => by
    show replS (putS (T _) (T [97 + n]) (T (cellL z n))) (downB z n) = _
    rw [putS_is (by simp) (by simp; (first | lia | omega)), put_shb fs]
    exact repl_back hz7 n (by (first | lia | omega))
theorem fits_back {z : Nat} (hz : 1 ≤ z) (hz7 : z ≤ 7) {fs : List Nat} (h : ∀ f ∈ fs, f ≤ z) (hl : fs.length ≤ 1000) : ∀ n, n ≤ z + 1 → fits (T (shb z n fs)) (downB z n) := by
  have hb : ∀ k, (T (shb z k fs)).length ≤ 100000 := fun k => by
    have := shb_len (k := k) hz fs h
    have h2 : z * fs.length ≤ 7 * 1000 := Nat.mul_le_mul hz7 hl
    rw [T_length]
    (first | lia | omega)
  intro n
  induction n with
  | zero => intro _; exact hb 0
  | succ n ih =>
    intro hn
    refine ⟨hb _, by simp, by have := cell_len (z := z) (k := n) (by (first | lia | omega)); (first | lia | omega), ?_⟩
    rw [putS_is (by simp) (by simp; (first | lia | omega)), put_shb fs]
    exact ih (by (first | lia | omega))

/-- cells, then t blanks -/
noncomputable def cellsT (z : Nat) (fs : List Nat) (tl : Nat) : List Nat := fs.flatMap (cellL z) ++ List.replicate tl 32
theorem shw_top {z : Nat} : ∀ fs : List Nat, (∀ f ∈ fs, f ≤ z) → shw z (z + 1) fs = fs.flatMap (cellL z)
  | [], _ => rfl
  | f :: fs, h => by
    have := h f (.head _)
    have ih := shw_top fs fun x hx => h x (.tail _ hx)
    unfold shw at ih ⊢
    rw [List.flatMap_cons, List.flatMap_cons, ih, if_neg (by (first | lia | omega))]
theorem shw_bot {z : Nat} : ∀ fs : List Nat, shw z 0 fs = fs.map (97 + ·)
  | [] => rfl
  | f :: fs => by
    have ih := shw_bot (z := z) fs
    unfold shw at ih ⊢
    rw [List.flatMap_cons, ih]; simp
theorem shb_top {z : Nat} : ∀ fs : List Nat, (∀ f ∈ fs, f ≤ z) → shb z (z + 1) fs = fs.map (97 + ·)
  | [], _ => rfl
  | f :: fs, h => by
    have := h f (.head _)
    have ih := shb_top fs fun x hx => h x (.tail _ hx)
    unfold shb at ih ⊢
    rw [List.flatMap_cons, ih, if_neg (by (first | lia | omega))]; simp
theorem shb_bot {z : Nat} : ∀ fs : List Nat, shb z 0 fs = fs.flatMap (cellL z)
  | [] => rfl
  | f :: fs => by
    have ih := shb_bot (z := z) fs
    unfold shb at ih ⊢
    rw [List.flatMap_cons, List.flatMap_cons, ih]; simp

/-- the figures of a text -/
noncomputable def figR (z r : Nat) : List Nat := List.replicate (r / z) z ++ [r % z]
noncomputable def figs (z : Nat) (rs : List Nat) (t : Nat) : List Nat := rs.flatMap (figR z) ++ List.replicate (t / z) z
theorem figs_le {z : Nat} (hz : 1 ≤ z) (rs : List Nat) (t : Nat) : ∀ f ∈ figs z rs t, f ≤ z := fun f h => by
  have hm : ∀ r, r % z < z := fun r => Nat.mod_lt r (by (first | lia | omega))
  rcases List.mem_append.mp h with h | h
  · obtain ⟨r, _, h⟩ := List.mem_flatMap.mp h
    rcases List.mem_append.mp h with h | h
    · rw [List.eq_of_mem_replicate h]; exact Nat.le_refl _
    · rw [List.mem_singleton.mp h]; exact Nat.le_of_lt (hm r)
  · rw [List.eq_of_mem_replicate h]; exact Nat.le_refl _
theorem cell_full (z : Nat) : cellL z z = List.replicate z 32 := by unfold cellL; rw [if_neg (by (first | lia | omega))]
theorem full_cells (z : Nat) : ∀ n, (List.replicate n z).flatMap (cellL z) = List.replicate (n * z) 32
  | 0 => by simp
  | n + 1 => by rw [List.replicate_succ, List.flatMap_cons, full_cells z n, cell_full, List.replicate_append_replicate]; congr 1; rw [Nat.succ_mul]; (first | lia | omega)
theorem enc_cells {z : Nat} (hz : 1 ≤ z) : ∀ (rs : List Nat) (t : Nat), enc rs t = cellsT z (figs z rs t) (t % z)
  | [], t => by
    have := Nat.div_add_mod t z
    simp only [cellsT, figs, List.flatMap_nil, List.nil_append, full_cells, List.replicate_append_replicate, enc]
    rw [Nat.mul_comm, this]
  | r :: rs, t => by
    have ih := enc_cells hz rs t
    have hr := Nat.div_add_mod r z
    have hlt := Nat.mod_lt r (show z > 0 by (first | lia | omega))
    have e1 : figs z (r :: rs) t = figR z r ++ figs z rs t := by simp [figs]
    have e2 : (figR z r).flatMap (cellL z) = List.replicate r 32 ++ [9] := by
      unfold figR
      rw [List.flatMap_append, full_cells]
      simp only [List.flatMap_cons, List.flatMap_nil, List.append_nil]
      have : cellL z (r % z) = List.replicate (r % z) 32 ++ [9] := by unfold cellL; rw [if_pos hlt]
      rw [this, ← List.append_assoc, List.replicate_append_replicate, Nat.mul_comm, hr]
    unfold cellsT at ih ⊢
    rw [e1, List.flatMap_append, e2]
    simp only [enc, ih, List.append_assoc, List.cons_append, List.nil_append]

theorem there_is {z : Nat} (h : z = 1 ∨ z = 3 ∨ z = 7) {fs : List Nat} {tl : Nat} (hf : ∀ f ∈ fs, f ≤ z) (ht : tl < z) : replS (T (cellsT z fs tl)) (thereP z (z + 1)) = T (fs.map (97 + ·) ++ List.replicate tl 32) := by
  rw [thereP_is h, cellsT, ← shw_top fs hf, repl_down (by (first | lia | omega)) ht hf _ (Nat.le_refl _), shw_bot]
theorem there_fits {z : Nat} (h : z = 1 ∨ z = 3 ∨ z = 7) {fs : List Nat} {tl : Nat} (hf : ∀ f ∈ fs, f ≤ z) (ht : tl < z) (hl : fs.length ≤ 1000) : fits (T (cellsT z fs tl)) (thereP z (z + 1)) := by
  rw [thereP_is h, cellsT, ← shw_top fs hf]
  exact fits_down (by (first | lia | omega)) (by (first | lia | omega)) ht hf hl _ (Nat.le_refl _)
theorem back_is {z : Nat} (h : z = 1 ∨ z = 3 ∨ z = 7) {fs : List Nat} (hf : ∀ f ∈ fs, f ≤ z) : replS (T (fs.map (97 + ·))) (backP z (z + 1)) = T (fs.flatMap (cellL z)) := by
  rw [backP_is h, ← shb_top fs hf, repl_back (by (first | lia | omega)) _ (Nat.le_refl _), shb_bot]
theorem back_fits {z : Nat} (h : z = 1 ∨ z = 3 ∨ z = 7) {fs : List Nat} (hf : ∀ f ∈ fs, f ≤ z) (hl : fs.length ≤ 1000) : fits (T (fs.map (97 + ·))) (backP z (z + 1)) := by
  rw [backP_is h, ← shb_top fs hf]
  exact fits_back (by (first | lia | omega)) (by (first | lia | omega)) hf hl _ (Nat.le_refl _)

/-- two blanks put to one -/
theorem half_run {rest : List Nat} : ∀ r, put [32, 32] [32] (List.replicate r 32 ++ 9 :: rest) 0 = List.replicate ((r + 1) / 2) 32 ++ 9 :: put [32, 32] [32] rest 0
  | 0 => put_miss (by simp [atHead])
  | 1 => by
    show put [32, 32] [32] (32 :: 9 :: rest) 0 = _
    rw [put_miss (by simp [atHead]), put_miss (by simp [atHead])]; rfl
  | r + 2 => by
    show put [32, 32] [32] ([32, 32] ++ (List.replicate r 32 ++ 9 :: rest)) 0 = _
    rw [put_hit (by simp), half_run r, show (r + 2 + 1) / 2 = (r + 1) / 2 + 1 by (first | lia | omega)]; rfl
theorem half_end : ∀ t, put [32, 32] [32] (List.replicate t 32) 0 = List.replicate ((t + 1) / 2) 32
  | 0 => rfl
  | 1 => by
    show put [32, 32] [32] [32] 0 = _
    rw [put_miss (by simp [atHead])]; rfl
  | t + 2 => by
    show put [32, 32] [32] ([32, 32] ++ List.replicate t 32) 0 = _
    rw [put_hit (by simp), half_end t, show (t + 2 + 1) / 2 = (t + 1) / 2 + 1 by (first | lia | omega)]; rfl
theorem half_enc : ∀ (rs : List Nat) (t : Nat), put [32, 32] [32] (enc rs t) 0 = enc (rs.map fun r => (r + 1) / 2) ((t + 1) / 2)
  | [], t => half_end t
  | r :: rs, t => by
    show put [32, 32] [32] (List.replicate r 32 ++ 9 :: enc rs t) 0 = _
    rw [half_run, half_enc rs t]; rfl
theorem spl_run {rest : List Nat} : ∀ (r : Nat) (p : List Nat), spl [9] (List.replicate r 32 ++ 9 :: rest) 0 p = (p ++ List.replicate r 32) :: spl [9] rest 0 []
  | 0, p => by
    show spl [9] ([9] ++ rest) 0 p = _
    rw [spl_hit (by simp)]; simp
  | r + 1, p => by
    show spl [9] (32 :: (List.replicate r 32 ++ 9 :: rest)) 0 p = _
    rw [spl_miss (by simp [atHead]), spl_run r]
    simp [List.replicate_succ]
theorem spl_end : ∀ (t : Nat) (p : List Nat), spl [9] (List.replicate t 32) 0 p = [p ++ List.replicate t 32]
  | 0, p => by simp [spl]
  | t + 1, p => by
    show spl [9] (32 :: List.replicate t 32) 0 p = _
    rw [spl_miss (by simp [atHead]), spl_end t]
    simp [List.replicate_succ]
theorem spl_enc : ∀ (rs : List Nat) (t : Nat), spl [9] (enc rs t) 0 [] = rs.map (fun r => List.replicate r 32) ++ [List.replicate t 32]
  | [], t => spl_end t []
  | r :: rs, t => by
    show spl [9] (List.replicate r 32 ++ 9 :: enc rs t) 0 [] = _
    rw [spl_run, spl_enc rs t]; rfl
theorem split_enc (rs : List Nat) (t : Nat) : Txt.split (T (enc rs t)) (T [9]) = rs.map (fun r => T (List.replicate r 32)) ++ [T (List.replicate t 32)] := by
  rw [split_is (by simp) (by simp), spl_enc]; simp
theorem half_is (rs : List Nat) (t : Nat) : replS (T (enc rs t)) [([32, 32], [32])] = T (enc (rs.map fun r => (r + 1) / 2) ((t + 1) / 2)) := by
  show putS _ _ _ = _
  rw [putS_is (by simp) (by simp), half_enc]
theorem enc_len : ∀ (rs : List Nat) (t : Nat), (enc rs t).length = (rs.map (· + 1)).sum + t
  | [], t => by simp [enc]
  | r :: rs, t => by
    show (List.replicate r 32 ++ 9 :: enc rs t).length = _
    rw [List.length_append, List.length_cons, enc_len rs t]
    simp; (first | lia | omega)
end Mine
namespace Mine
/-- the state between two statements -/
noncomputable def At (s₁ : Shared) (h₀ : Heap) (L : Addr) (m : Str → Option Value) (news : List (Addr × Obj)) (P : Shared → Prop) : Prop :=
  ∀ h tk, Fr h₀ L h m → News h₀ L h news → P { s₁ with heap := h, toks := tk }
/-- a body cut behind its first k statements; the first part is walked with any state and any end that serve, and no flight; what stands between is said by what may be shown from it -/
theorem seg_cut {M : Model} {A : Around} {E : Value → Shared → Prop} {env : Env} {Q : Flow → Shared → Prop} (k : Nat) {stmts : List Stmt} {s : Shared} {h₀ : Heap} {L : Addr} {m : Str → Option Value} {led : List (Addr × Obj)} (F : Fr h₀ L s.heap m) (N : News h₀ L s.heap led) (Mid : Shared → Heap → Addr → (Shared → Prop) → Prop)
    (h1 : ∀ (s : Shared) (Q' : Flow → Shared → Prop), Fr h₀ L s.heap m → News h₀ L s.heap led → Mid s h₀ L (Q' .next) → wpAny M A (execs (stmts.take k) env) Q' (fun _ _ => False) s)
    (h2 : Mid s h₀ L fun s' => wpAny M A (execs (stmts.drop k) env) Q E s') : wpAny M A (execs stmts env) Q E s :=
  seq_split k (fun s' => wpAny M A (execs (stmts.drop k) env) Q E s') (wpAny_mono (h1 s (fun f s' => match f with | .next => wpAny M A (execs (stmts.drop k) env) Q E s' | _ => False) F N h2) (fun f _ x => match f, x with | .next, x => ⟨rfl, x⟩ | .brk, x => x.elim | .cont, x => x.elim | .ret _, x => x.elim) (fun _ _ x => x.elim)) (fun _ h => h)
theorem seg_cutN {M : Model} {A : Around} {E : Value → Shared → Prop} {env : Env} {Q : Flow → Shared → Prop} (k : Nat) {stmts : List Stmt} {s : Shared} {h₀ : Heap} {L : Addr} {m : Str → Option Value} {all : List (Addr × Obj)} (F : Fr h₀ L s.heap m) (N : News h₀ L s.heap all) (Mid : Shared → Heap → Addr → (Str → Option Value) → List (Addr × Obj) → (Shared → Prop) → Prop)
    (h1 : ∀ (s : Shared) (Q' : Flow → Shared → Prop), Fr h₀ L s.heap m → News h₀ L s.heap all → Mid s h₀ L m all (Q' .next) → wpAny M A (execs (stmts.take k) env) Q' (fun _ _ => False) s)
    (h2 : Mid s h₀ L m all fun s' => wpAny M A (execs (stmts.drop k) env) Q E s') : wpAny M A (execs stmts env) Q E s := seg_cut k F N (fun s h₀ L P => Mid s h₀ L m all P) h1 h2
theorem n_cons {h₀ h : Heap} {L : Addr} {led all : List (Addr × Obj)} {p : Addr × Obj} (N : News h₀ L h all) (mem : p ∈ all) (r : News h₀ L h led) : News h₀ L h (p :: led) := fun q hq => (List.mem_cons.mp hq).elim (fun e => e ▸ N p mem) (r q)
theorem toN {a b : Addr} (h : a ≠ b) : @Ne Nat a b := h
theorem ofN {a b : Addr} (h : @Ne Nat a b) : a ≠ b := h
theorem fr_eq {h₀ h : Heap} {L : Addr} {m m' : Str → Option Value} (F : Fr h₀ L h m) (e : m = m') : Fr h₀ L h m' := e ▸ F
theorem lead_signs : ∀ (l : List Int), ∀ c ∈ leadOf l, c = 32 ∨ c = 9 := fun l c h => by
  obtain ⟨x, _, hc⟩ := List.mem_flatMap.mp h
  rcases List.mem_append.mp hc with h | h
  · exact .inl (List.eq_of_mem_replicate h)
  · split at h
    · cases h
    · exact .inr (List.mem_singleton.mp h)
structure Sizes (tot : Int) (wd z : Nat) : Prop where
  t0 : 0 ≤ tot
  t1 : tot ≤ 63000
  w1 : 1 ≤ wd
  w3 : wd ≤ 3
  zw : z + 1 = 2 ^ wd
theorem Sizes.z4 {tot : Int} {wd z : Nat} (h : Sizes tot wd z) : z = 1 ∨ z = 3 ∨ z = 7 := by
  obtain ⟨_, _, h1, h3, hz⟩ := h
  have : wd = 1 ∨ wd = 2 ∨ wd = 3 := by (first | lia | omega)
  rcases this with rfl | rfl | rfl
  · exact .inl (by (first | lia | omega))
  · exact .inr (.inl (by (first | lia | omega)))
  · exact .inr (.inr (by (first | lia | omega)))
/-- the map behind the first five statements -/
noncomputable def mapA (m0 : Str → Option Value) (tot : Int) (wd z : Nat) (ls : List Nat) (t1 t2 t3 t4 : Tok) : Str → Option Value := fun y =>
  if y = Str.ofString "lead" then some (.str (T ls) t4) else if y = Str.ofString "size" then some (.int z t3) else if y = Str.ofString "width" then some (.int wd t2) else if y = Str.ofString "total" then some (.int tot t1) else m0 y
noncomputable def led3 (L : Addr) (oS : Obj) : List (Addr × Obj) := [(L + 1, oS), (37, tabObj #[]), (30, tabObj #[])]
noncomputable def SignsAre (z : Nat) (oS : Obj) : Prop := ∃ tS, oS.data = .cell (some (.str (T (sigL z)) tS))
theorem sum_small : ∀ (l : List Int) (n : Nat), l.length ≤ n → 0 ≤ (l.map fun k => Int.fmod k 1000).sum ∧ (l.map fun k => Int.fmod k 1000).sum ≤ 1000 * n
  | [], n, _ => by simp; (first | lia | omega)
  | x :: r, n, h => by
    have h1 := sum_small r (n - 1) (by simp at h; (first | lia | omega))
    have := fdiv_fmod_facts x 1000
    simp only [List.map_cons, List.sum_cons]
    simp at h
    (first | lia | omega)
theorem sum_of {vs : List Value} {ns : List Int} (_ : IntsAre vs ns) : 0 ≤ (List.map (fun k => Int.fmod k 1000) (List.take 63 ns)).sum ∧ (List.map (fun k => Int.fmod k 1000) (List.take 63 ns)).sum ≤ 63000 := sum_small (List.take 63 ns) 63 (by simp; (first | lia | omega))
noncomputable def Mid1 (s₁ : Shared) (h₀ : Heap) (L : Addr) (P : Shared → Prop) : Prop :=
  ∀ m0 tot wd z xs t1 t2 t3 t4 oS hh tkk, Fr h₀ L hh (mapA m0 tot wd z (leadOf (11 :: 16 :: xs)) t1 t2 t3 t4) → News h₀ L hh (led3 L oS) → SignsAre z oS → Sizes tot wd z → List.length xs ≤ 5 → P { s₁ with heap := hh, toks := tkk }
noncomputable def mapB (m0 : Str → Option Value) (tot : Int) (wd z : Nat) (ls : List Nat) (t1 t2 t3 t4 : Tok) (C : Addr) : Str → Option Value := fun y =>
  if y = Str.ofString "cells" then some (.ref C) else mapA m0 tot wd z ls t1 t2 t3 t4 y
noncomputable def CellsAre4 (z : Nat) (vs : List Value) : Prop := StrsAre vs ((List.range (z + 1)).map fun k => T (cellL z k))
noncomputable def Mid2 (s₁ : Shared) (h₀ : Heap) (L : Addr) (m0 : Str → Option Value) (tot : Int) (wd z : Nat) (ls : List Nat) (t1 t2 t3 t4 : Tok) (oS : Obj) (P : Shared → Prop) : Prop :=
  ∀ C vs n hh tkk, Fr h₀ L hh (mapB m0 tot wd z ls t1 t2 t3 t4 C) → News h₀ L hh ((C, W.listOf (List.toArray vs) n) :: led3 L oS) → CellsAre4 z vs → @LT.lt Nat _ (L + 1) C → @LT.lt Nat _ 37 C → P { s₁ with heap := hh, toks := tkk }
noncomputable def mapC (m0 : Str → Option Value) (tot : Int) (wd z : Nat) (ls : List Nat) (t1 t2 t3 t4 : Tok) (Th B : Addr) : Str → Option Value := fun y =>
  if y = Str.ofString "back" then some (.ref B) else if y = Str.ofString "there" then some (.ref Th) else mapA m0 tot wd z ls t1 t2 t3 t4 y
noncomputable def Mid3 (s₁ : Shared) (h₀ : Heap) (L : Addr) (tot : Int) (wd z : Nat) (ls : List Nat) (t1 t2 t3 t4 : Tok) (oS : Obj) (P : Shared → Prop) : Prop :=
  ∀ m0 Th B vsT vsB nT nB hh tkk, Fr h₀ L hh (mapC m0 tot wd z ls t1 t2 t3 t4 Th B) → News h₀ L hh ((B, W.listOf (List.toArray vsB) nB) :: (Th, W.listOf (List.toArray vsT) nT) :: led3 L oS) → PairsAre vsT (thereP z (z + 1)) → PairsAre vsB (backP z (z + 1)) → @LT.lt Nat _ (L + 1) Th → @LT.lt Nat _ 37 Th → @LT.lt Nat _ Th B → P { s₁ with heap := hh, toks := tkk }
theorem mapC_is {m0 : Str → Option Value} {tot : Int} {wd z : Nat} {ls : List Nat} {t1 t2 t3 t4 : Tok} {Th B C : Addr} {kv : Option Value} :
    (fun y => if y = Str.ofString "k" then kv else if y = Str.ofString "back" then some (.ref B) else if y = Str.ofString "there" then some (.ref Th) else mapB m0 tot wd z ls t1 t2 t3 t4 C y) =
    mapC (fun y => if y = Str.ofString "k" then kv else if y = Str.ofString "cells" then some (.ref C) else m0 y) tot wd z ls t1 t2 t3 t4 Th B := by
  funext y
  unfold mapC mapB mapA
  by_cases h1 : y = Str.ofString "k"
  · subst h1; rfl
  · by_cases h2 : y = Str.ofString "cells"
    · subst h2; rfl
    · simp only [h1, h2, if_false]
end Mine
namespace Mine
/-- how often each length stands among the runs -/
noncomputable def histF (cs : List Int) (rs : List Nat) : List Int := rs.foldl incr cs
theorem getD_app0 (cs : List Int) (n q : Nat) : (cs ++ List.replicate n 0).getD q 0 = cs.getD q 0 := by
  simp only [List.getD_eq_getElem?_getD]
  rcases Nat.lt_or_ge q cs.length with h | h
  · rw [List.getElem?_append_left h]
  · rw [List.getElem?_append_right h, List.getElem?_eq_none h, List.getElem?_replicate]
    split <;> rfl
theorem getD_set (cs : List Int) (b q : Nat) (v : Int) (hb : b < cs.length) : (cs.set b v).getD q 0 = if b = q then v else cs.getD q 0 := by
  simp only [List.getD_eq_getElem?_getD]
  rw [List.getElem?_set]
  by_cases h : b = q
  · subst h
    rw [if_pos rfl, if_pos hb, if_pos rfl]; rfl
  · rw [if_neg h, if_neg h]
theorem incr_getD (cs : List Int) (b q : Nat) : (incr cs b).getD q 0 = cs.getD q 0 + if b = q then 1 else 0 := by
  unfold incr
  split
  · rename_i h
    rw [getD_set _ _ _ _ (by simp; (first | lia | omega)), getD_app0, getD_app0]
    split
    · rename_i e; rw [e]
    · (first | lia | omega)
  · rename_i h
    rw [getD_set _ _ _ _ (by (first | lia | omega))]
    split
    · rename_i e; rw [e]
    · (first | lia | omega)
theorem hist_getD : ∀ (rs : List Nat) (cs : List Int) (q : Nat), (histF cs rs).getD q 0 = cs.getD q 0 + (rs.count q : Nat)
  | [], cs, q => by simp [histF]
  | r :: rs, cs, q => by
    show (histF (incr cs r) rs).getD q 0 = _
    rw [hist_getD rs, incr_getD, List.count_cons]
    by_cases h : r = q
    · subst h; simp; (first | lia | omega)
    · simp [h]
theorem hist_le : ∀ (rs : List Nat) (cs : List Int) (n : Nat), (histF cs rs).length ≤ n ↔ cs.length ≤ n ∧ ∀ r ∈ rs, r < n
  | [], cs, n => by simp [histF]
  | r :: rs, cs, n => by
    show (histF (incr cs r) rs).length ≤ n ↔ _
    rw [hist_le rs, incr_length]
    simp only [List.mem_cons, forall_eq_or_imp]
    rw [Nat.max_le, and_assoc]
    exact Iff.rfl
theorem foldl_blanks : ∀ (r b : Nat) (cs : List Int) (nt : Nat), (List.replicate r 32).foldl wsStep (cs, b, nt) = (cs, b + r, nt)
  | 0, _, _, _ => rfl
  | r + 1, b, cs, nt => by
    rw [List.replicate_succ, List.foldl_cons]
    show (List.replicate r 32).foldl wsStep (wsStep (cs, b, nt) 32) = _
    have : wsStep (cs, b, nt) 32 = (cs, b + 1, nt) := rfl
    rw [this, foldl_blanks r]
    congr 2; (first | lia | omega)
theorem ws_enc' : ∀ (rs : List Nat) (t : Nat) (cs : List Int) (nt : Nat), (enc rs t).foldl wsStep (cs, 0, nt) = (histF cs rs, t, nt + rs.length)
  | [], t, cs, nt => by
    show (List.replicate t 32).foldl wsStep (cs, 0, nt) = _
    rw [foldl_blanks]
    simp [histF]
  | r :: rs, t, cs, nt => by
    show (List.replicate r 32 ++ 9 :: enc rs t).foldl wsStep (cs, 0, nt) = _
    rw [List.foldl_append, foldl_blanks, List.foldl_cons]
    have : wsStep (cs, 0 + r, nt) 9 = (incr cs r, 0, nt + 1) := by unfold wsStep; rw [if_neg (by (first | lia | omega)), Nat.zero_add]
    rw [this, ws_enc' rs t]
    simp only [List.length_cons]
    rw [show nt + 1 + rs.length = nt + (rs.length + 1) by (first | lia | omega)]; rfl
theorem ws_enc (rs : List Nat) (t : Nat) : wsOf (enc rs t) = (histF [] rs, t, rs.length) := by
  unfold wsOf
  rw [ws_enc' rs t [] 0, Nat.zero_add]
theorem hist_perm {rs rs' : List Nat} : histF [] rs = histF [] rs' ↔ rs.Perm rs' := by
  constructor
  · intro h
    rw [List.perm_iff_count]
    intro q
    have h1 := hist_getD rs [] q
    have h2 := hist_getD rs' [] q
    rw [h] at h1
    rw [h1] at h2
    simp at h2
    exact Int.ofNat_inj.mp h2
  · intro h
    have hl : ∀ n, (histF [] rs).length ≤ n ↔ (histF [] rs').length ≤ n := fun n => by
      rw [hist_le, hist_le]
      constructor
      · exact fun ⟨a, b⟩ => ⟨a, fun r hr => b r (h.mem_iff.mpr hr)⟩
      · exact fun ⟨a, b⟩ => ⟨a, fun r hr => b r (h.mem_iff.mp hr)⟩
    have hlen : (histF [] rs).length = (histF [] rs').length := Nat.le_antisymm ((hl _).mpr (Nat.le_refl _)) ((hl _).mp (Nat.le_refl _))
    apply List.ext_getElem hlen
    intro q h1 h2
    have e1 := hist_getD rs [] q
    have e2 := hist_getD rs' [] q
    rw [h.count_eq q] at e1
    rw [← e2, List.getD_eq_getElem?_getD, List.getD_eq_getElem?_getD, List.getElem?_eq_getElem h1, List.getElem?_eq_getElem h2] at e1
    exact e1

theorem il_beyond (ts : Nat) (cs : List Int) (n : Nat) (h : cs.length ≤ ts + n) : ∀ j, ilSum ts cs (n + j) = ilSum ts cs n
  | 0 => rfl
  | j + 1 => by
    show ilSum ts cs (n + j) + _ * cs.getD (ts + (n + j)) 0 = _
    have : cs.getD (ts + (n + j)) 0 = 0 := by
      rw [List.getD_eq_getElem?_getD, List.getElem?_eq_none (by (first | lia | omega))]; rfl
    rw [this, Int.mul_zero, Int.add_zero, il_beyond ts cs n h j]
theorem il_incr (ts : Nat) (ht : 1 ≤ ts) (cs : List Int) (r : Nat) : ∀ N, ilSum ts (incr cs r) N = ilSum ts cs N + if r < ts + N then ((r / ts : Nat) : Int) else 0
  | 0 => by
    show (0 : Int) = 0 + _
    split
    · rw [Nat.div_eq_of_lt (by (first | lia | omega))]; rfl
    · rfl
  | N + 1 => by
    show ilSum ts (incr cs r) N + _ * (incr cs r).getD (ts + N) 0 = ilSum ts cs N + _ * cs.getD (ts + N) 0 + _
    rw [il_incr ts ht cs r N, incr_getD, Int.mul_add]
    rcases Nat.lt_trichotomy r (ts + N) with h | h | h
    · rw [if_pos h, if_neg (by (first | lia | omega)), if_pos (by (first | lia | omega))]; (first | lia | omega)
    · subst h
      rw [if_neg (by (first | lia | omega)), if_pos rfl, if_pos (by (first | lia | omega))]; (first | lia | omega)
    · rw [if_neg (by (first | lia | omega)), if_neg (by (first | lia | omega)), if_neg (by (first | lia | omega))]; (first | lia | omega)
/-- whole sizes in the runs -/
noncomputable def lvlR (ts : Nat) (rs : List Nat) : Nat := (rs.map (· / ts)).sum
theorem il_hist (ts : Nat) (ht : 1 ≤ ts) (N : Nat) : ∀ (rs : List Nat) (cs : List Int), (∀ r ∈ rs, r < ts + N) → ilSum ts (histF cs rs) N = ilSum ts cs N + (lvlR ts rs : Nat)
  | [], cs, _ => by simp [histF, lvlR]
  | r :: rs, cs, h => by
    show ilSum ts (histF (incr cs r) rs) N = _
    rw [il_hist ts ht N rs _ fun x hx => h x (.tail _ hx), il_incr ts ht, if_pos (h r (.head _))]
    simp only [lvlR, List.map_cons, List.sum_cons]
    (first | lia | omega)
theorem lvl_enc (ts : Nat) (ht : 1 ≤ ts) (rs : List Nat) (t : Nat) : lvlOf ts (enc rs t) = ((t + ts * (lvlR ts rs + rs.length) : Nat) : Int) := by
  unfold lvlOf
  rw [ws_enc]
  dsimp only
  have hb : ∀ r ∈ rs, r < (histF [] rs).length := ((hist_le rs [] (histF [] rs).length).mp (Nat.le_refl _)).2
  have h1 := il_hist ts ht ((histF [] rs).length - ts) rs [] (fun r hr => by have := hb r hr; (first | lia | omega))
  have h0 : ∀ n, ilSum ts [] n = 0 := fun n => by
    induction n with
    | zero => rfl
    | succ n ih => show ilSum ts [] n + _ * ([] : List Int).getD (ts + n) 0 = 0; rw [ih]; simp
  rw [h1, h0, Int.zero_add]
  simp only [Int.natCast_add, Int.natCast_mul]
theorem figs_len {z : Nat} : ∀ (rs : List Nat) (t : Nat), (figs z rs t).length = lvlR z rs + rs.length + t / z
  | [], t => by simp [figs, lvlR]
  | r :: rs, t => by
    have ih := figs_len (z := z) rs t
    have e1 : figs z (r :: rs) t = figR z r ++ figs z rs t := by simp [figs]
    rw [e1, List.length_append, ih]
    simp [figR, lvlR]
    (first | lia | omega)
theorem col_div {z : Nat} (hz : 1 ≤ z) (rs : List Nat) (t : Nat) : (t + z * (lvlR z rs + rs.length)) / z = (figs z rs t).length := by
  rw [Nat.add_mul_div_left _ _ (by (first | lia | omega)), figs_len]; (first | lia | omega)
theorem col_mod {z : Nat} (rs : List Nat) (t : Nat) : (t + z * (lvlR z rs + rs.length)) % z = t % z := by
  rw [Nat.add_mul_mod_self_left]
theorem lvlR_one (rs : List Nat) : lvlR 1 rs = rs.sum := by
  unfold lvlR; congr 1
  exact (List.map_congr_left (fun a _ => Nat.div_one a)).trans (List.map_id' rs)
theorem sum_succ : ∀ rs : List Nat, (rs.map (· + 1)).sum = rs.sum + rs.length
  | [] => rfl
  | r :: rs => by simp [sum_succ rs]; (first | lia | omega)
theorem lvlR_le (z : Nat) : ∀ rs : List Nat, lvlR z rs ≤ rs.sum
  | [] => by simp [lvlR]
  | r :: rs => by
    have := lvlR_le z rs
    have h2 := Nat.div_le_self r z
    simp only [lvlR, List.map_cons, List.sum_cons] at this ⊢
    (first | lia | omega)
theorem figs_small {z : Nat} (rs : List Nat) (t : Nat) : (figs z rs t).length ≤ (enc rs t).length := by
  rw [figs_len, enc_len, sum_succ]
  have := lvlR_le z rs
  have h2 := Nat.div_le_self t z
  (first | lia | omega)
/-- runs all below a size have no whole one -/
theorem lvlR_zero {z : Nat} : ∀ rs : List Nat, (∀ r ∈ rs, r < z) → lvlR z rs = 0
  | [], _ => rfl
  | r :: rs, h => by
    have ih := lvlR_zero rs fun x hx => h x (.tail _ hx)
    simp only [lvlR, List.map_cons, List.sum_cons] at ih ⊢
    rw [ih, Nat.div_eq_of_lt (h r (.head _))]
theorem long_enc (rs : List Nat) (t : Nat) : longOf (enc rs t) = if (t : Int) > ((histF [] rs).length : Int) - 1 then (t : Int) else ((histF [] rs).length : Int) - 1 := by
  unfold longOf; rw [ws_enc]

/-- what less asks for a False -/
noncomputable def LessH (l l' : List Nat) : Prop := l'.length ≤ l.length ∨ (¬ ((wsOf l).1.length ≤ 1 ∧ (wsOf l').1.length ≤ 1) ∧ ∃ ts : Nat, 2 ≤ ts ∧ ((ts : Int) ≤ longOf l + 1 ∨ (ts : Int) ≤ longOf l' + 1) ∧ lvlOf ts l' ≤ lvlOf ts l)
theorem less_both {z : Nat} (hz : z = 1 ∨ z = 3 ∨ z = 7) {rs rs' : List Nat} {t t' : Nat} (h5 : 5 ∈ rs ∨ 5 ∈ rs') (hlv : lvlOf z (enc rs t) = lvlOf z (enc rs' t')) : LessH (enc rs t) (enc rs' t') := by
  have hz1 : 1 ≤ z := by (first | lia | omega)
  rw [lvl_enc z hz1, lvl_enc z hz1] at hlv
  have hb : ∀ (rs : List Nat), ∀ r ∈ rs, r < (histF [] rs).length := fun rs => ((hist_le rs [] (histF [] rs).length).mp (Nat.le_refl _)).2
  rcases Nat.lt_or_ge 1 z with hz2 | hz2
  · right
    have hlong : 6 ≤ (histF [] rs).length ∨ 6 ≤ (histF [] rs').length := by
      rcases h5 with h | h
      · exact .inl (hb _ _ h)
      · exact .inr (hb _ _ h)
    refine ⟨by rw [ws_enc, ws_enc]; dsimp only; (first | lia | omega), ?_⟩
    by_cases hn : (z : Int) ≤ longOf (enc rs t) + 1 ∨ (z : Int) ≤ longOf (enc rs' t') + 1
    · refine ⟨z, hz2, hn, ?_⟩
      rw [lvl_enc z hz1, lvl_enc z hz1, hlv]
      exact Int.le_refl _
    · rw [long_enc, long_enc] at hn
      have h1 : t + 1 < z ∧ (histF [] rs).length < z ∧ t' + 1 < z ∧ (histF [] rs').length < z := by
        refine ⟨?_, ?_, ?_, ?_⟩ <;> (split at hn <;> split at hn <;> (first | lia | omega))
      have hz7 : z = 7 := by (first | lia | omega)
      subst hz7
      have r1 : ∀ r ∈ rs, r < 6 := fun r hr => by have := hb _ _ hr; (first | lia | omega)
      have r2 : ∀ r ∈ rs', r < 6 := fun r hr => by have := hb _ _ hr; (first | lia | omega)
      rw [lvlR_zero rs fun r hr => by have := r1 r hr; (first | lia | omega), lvlR_zero rs' fun r hr => by have := r2 r hr; (first | lia | omega)] at hlv
      refine ⟨6, by (first | lia | omega), ?_, ?_⟩
      · rw [long_enc, long_enc]
        rcases hlong with h | h
        · left; split <;> (first | lia | omega)
        · right; split <;> (first | lia | omega)
      · rw [lvl_enc 6 (by (first | lia | omega)), lvl_enc 6 (by (first | lia | omega)), lvlR_zero rs r1, lvlR_zero rs' r2]
        have hlv' := Int.ofNat_inj.mp hlv
        have : t = t' ∧ rs.length = rs'.length := by (first | lia | omega)
        rw [this.1, this.2]
        exact Int.le_refl _
  · left
    have hz3 : z = 1 := by (first | lia | omega)
    subst hz3
    have hlv' := Int.ofNat_inj.mp hlv
    rw [lvlR_one, lvlR_one] at hlv'
    rw [enc_len, enc_len, sum_succ, sum_succ]
    (first | lia | omega)
end Mine
namespace Mine
/-- the value of the figures, the first one the highest -/
noncomputable def hval (z : Nat) : List Nat → Int
  | [] => 0
  | f :: fs => (f : Int) * ((z + 1 : Nat) : Int) ^ fs.length + hval z fs
noncomputable def waysL (z c : Nat) : List Int := (List.range (c + 1)).map (wayN z c)
theorem waysL_len (z c : Nat) : (waysL z c).length = c + 1 := by simp [waysL]
theorem waysL_get {z c p : Nat} (h : p < (waysL z c).length) : (waysL z c).getD p 0 = wayN z c p := by
  rw [waysL_len] at h
  simp [waysL, h]
theorem stop_in {z m j : Nat} (hj : j < z) : stopN z (m * z + j) = (m + 1) * z := by
  unfold stopN
  rw [Nat.add_comm (m * z) j, Nat.add_mul_mod_self_right, Nat.mod_eq_of_lt hj, Nat.succ_mul]
  (first | lia | omega)
theorem blanks_in {z c m : Nat} (hz : 1 ≤ z) (hm : m < c / z) : ∀ (k j : Nat) (a : Int), j + k ≤ z → (List.replicate k 32).foldl (stepR z (waysL z c)) (m * z + j, a) = (m * z + (j + k), a + (k : Int) * ((z + 1 : Nat) : Int) ^ (c / z - m - 1))
  | 0, j, a, _ => by simp
  | k + 1, j, a, h => by
    have hle : (m + 1) * z ≤ c := Nat.le_trans (Nat.mul_le_mul_right z (show m + 1 ≤ c / z by (first | lia | omega))) (Nat.div_mul_le_self c z)
    have e : stepR z (waysL z c) (m * z + j, a) 32 = (m * z + (j + 1), a + ((z + 1 : Nat) : Int) ^ (c / z - m - 1)) := by
      unfold stepR
      rw [if_pos rfl, stop_in (by (first | lia | omega)), if_pos (by rw [waysL_len]; (first | lia | omega)), waysL_get (by rw [waysL_len]; (first | lia | omega)), wayN_stop hz hm, Nat.add_assoc]
    rw [List.replicate_succ, List.foldl_cons, e, blanks_in hz hm k (j + 1) _ (by (first | lia | omega))]
    refine Prod.ext ?_ ?_
    · dsimp only; (first | lia | omega)
    · dsimp only
      rw [Int.natCast_add k 1, Int.add_mul]
      (first | lia | omega)
theorem cell_step {z c m f : Nat} (hz : 1 ≤ z) (hm : m < c / z) (hf : f ≤ z) (a : Int) : (cellL z f).foldl (stepR z (waysL z c)) (m * z, a) = ((m + 1) * z, a + (f : Int) * ((z + 1 : Nat) : Int) ^ (c / z - m - 1)) := by
  unfold cellL
  split
  · rename_i h
    rw [List.foldl_append, show m * z = m * z + 0 from rfl, blanks_in hz hm f 0 a (by (first | lia | omega))]
    rw [List.foldl_cons, List.foldl_nil]
    unfold stepR
    rw [if_neg (by decide)]
    dsimp only
    rw [Nat.zero_add, stop_in h]
  · have : f = z := by (first | lia | omega)
    subst this
    rw [show m * f = m * f + 0 from rfl, blanks_in hz hm f 0 a (by (first | lia | omega))]
    refine Prod.ext ?_ rfl
    dsimp only
    rw [Nat.succ_mul]; (first | lia | omega)
theorem cells_steps {z c : Nat} (hz : 1 ≤ z) : ∀ (fs : List Nat) (m : Nat) (a : Int), (∀ f ∈ fs, f ≤ z) → m + fs.length = c / z → (fs.flatMap (cellL z)).foldl (stepR z (waysL z c)) (m * z, a) = (c / z * z, a + hval z fs)
  | [], m, a, _, h => by
    simp only [List.length_nil, Nat.add_zero] at h
    simp [hval, h]
  | f :: fs, m, a, hf, h => by
    simp only [List.length_cons] at h
    rw [List.flatMap_cons, List.foldl_append, cell_step hz (by (first | lia | omega)) (hf f (.head _)), cells_steps hz fs (m + 1) _ (fun x hx => hf x (.tail _ hx)) (by (first | lia | omega))]
    rw [show c / z - m - 1 = fs.length by (first | lia | omega), Int.add_assoc]
    rfl
theorem blanks_out {z c : Nat} (hz : 1 ≤ z) : ∀ (k j : Nat) (a : Int), j + k < z → c % z < z → (List.replicate k 32).foldl (stepR z (waysL z c)) (c / z * z + j, a) = (c / z * z + (j + k), a)
  | 0, j, a, _, _ => by simp
  | k + 1, j, a, h, hc => by
    have h1 := Nat.div_add_mod c z
    have h2 := Nat.mod_lt c (show z > 0 by (first | lia | omega))
    have e : stepR z (waysL z c) (c / z * z + j, a) 32 = (c / z * z + (j + 1), a) := by
      unfold stepR
      rw [if_pos rfl, stop_in (by (first | lia | omega)), if_neg (by rw [waysL_len, Nat.succ_mul, Nat.mul_comm]; (first | lia | omega)), Int.add_zero, Nat.add_assoc]
    rw [List.replicate_succ, List.foldl_cons, e, blanks_out hz k (j + 1) _ (by (first | lia | omega)) hc]
    refine Prod.ext ?_ rfl
    dsimp only; (first | lia | omega)
theorem rank_cells {z c : Nat} (hz : 1 ≤ z) {fs : List Nat} {tl : Nat} (hf : ∀ f ∈ fs, f ≤ z) (hl : fs.length = c / z) (ht : tl = c % z) : rankN z (waysL z c) (cellsT z fs tl) = hval z fs := by
  have hlt := Nat.mod_lt c (show z > 0 by (first | lia | omega))
  have hd := Nat.div_add_mod c z
  have e : (cellsT z fs tl).foldl (stepR z (waysL z c)) (0, 0) = (c, hval z fs) := by
    unfold cellsT
    rw [List.foldl_append, show ((0 : Nat), (0 : Int)) = (0 * z, 0) by rw [Nat.zero_mul], cells_steps hz fs 0 0 hf (by (first | lia | omega)), show c / z * z = c / z * z + 0 from rfl, blanks_out hz tl 0 _ (by (first | lia | omega)) hlt]
    refine Prod.ext ?_ ?_
    · dsimp only; rw [Nat.mul_comm]; (first | lia | omega)
    · dsimp only; (first | lia | omega)
  unfold rankN
  dsimp only
  rw [e]
  dsimp only
  rw [waysL_len, if_pos (by (first | lia | omega))]
/-- figures as the law lays them: the lowest first -/
noncomputable def revI (fs : List Nat) : List Int := (fs.map fun f => ((f : Nat) : Int)).reverse
theorem hval_d {z wd : Nat} (hw : z + 1 = 2 ^ wd) : ∀ fs : List Nat, hval z fs = dvalL wd (revI fs)
  | [] => rfl
  | f :: fs => by
    unfold hval revI
    rw [List.map_cons, List.reverse_cons, dvalL_append]
    have ih := hval_d hw fs
    unfold revI at ih
    rw [ih]
    simp only [dvalL, List.length_reverse, List.length_map, Int.mul_zero, Int.add_zero]
    have : (((z + 1 : Nat) : Int)) ^ fs.length = 2 ^ (wd * fs.length) := by
      rw [hw, Int.pow_mul]
      congr 1
    rw [this, Int.mul_comm, Int.add_comm]
theorem dvalL_digs (k : Nat) : ∀ (m x : Nat), x < 2 ^ (k * m) → dvalL k (digs k m x) = (x : Int)
  | 0, x, h => by
    have : x = 0 := by simpa using h
    subst this; rfl
  | m + 1, x, h => by
    have hp : 0 < 2 ^ k := Nat.two_pow_pos k
    have h2 : x / 2 ^ k < 2 ^ (k * m) := by
      rw [Nat.div_lt_iff_lt_mul hp, ← Nat.pow_add]
      rw [Nat.mul_add, Nat.mul_one] at h
      exact h
    unfold digs dvalL
    rw [dvalL_digs k m _ h2]
    have h3 := Nat.div_add_mod x (2 ^ k)
    have h4 : ((2 ^ k * (x / 2 ^ k) + x % 2 ^ k : Nat) : Int) = (x : Int) := by rw [h3]
    rw [Int.natCast_add, Int.natCast_mul, Int.natCast_pow] at h4
    simp only [Int.cast_ofNat_Int] at h4
    (first | lia | omega)
/-- the figures of a number, the highest first -/
noncomputable def topDigs (k m x : Nat) : List Nat := ((digs k m x).map Int.toNat).reverse
theorem digs_nn (k : Nat) : ∀ (m x : Nat), ∀ d ∈ digs k m x, 0 ≤ d ∧ d < 2 ^ k
  | 0, _, d, h => by cases h
  | m + 1, x, d, h => by
    unfold digs at h
    rcases List.mem_cons.mp h with h | h
    · subst h
      have := Nat.mod_lt x (Nat.two_pow_pos k)
      have e : (2 : Int) ^ k = ((2 ^ k : Nat) : Int) := by rw [Int.natCast_pow]; rfl
      (first | lia | omega)
    · exact digs_nn k m _ d h
theorem revI_top (k m x : Nat) : revI (topDigs k m x) = digs k m x := by
  unfold revI topDigs
  rw [List.map_reverse, List.reverse_reverse, List.map_map]
  exact (List.map_congr_left (fun d hd => by have := digs_nn k m x d hd; show ((d.toNat : Nat) : Int) = d; (first | lia | omega))).trans (List.map_id' _)
theorem topDigs_len (k m x : Nat) : (topDigs k m x).length = m := by simp [topDigs, digs_length]
theorem topDigs_le {k z : Nat} (hw : z + 1 = 2 ^ k) (m x : Nat) : ∀ f ∈ topDigs k m x, f ≤ z := fun f h => by
  unfold topDigs at h
  rw [List.mem_reverse] at h
  obtain ⟨d, hd, rfl⟩ := List.mem_map.mp h
  have := digs_nn k m x d hd
  have e : (2 : Int) ^ k = ((2 ^ k : Nat) : Int) := by rw [Int.natCast_pow]; rfl
  (first | lia | omega)
/-- the digits, noughts behind -/
theorem digs_zeros (k : Nat) : ∀ (n m x : Nat), x < 2 ^ (k * n) → digs k (n + m) x = digs k n x ++ List.replicate m 0
  | 0, m, x, h => by
    have : x = 0 := by simpa using h
    subst this
    rw [Nat.zero_add]
    show _ = [] ++ _
    rw [List.nil_append]
    induction m with
    | zero => rfl
    | succ m ih => unfold digs; rw [Nat.zero_div, ih]; simp [List.replicate_succ]
  | n + 1, m, x, h => by
    have hp : 0 < 2 ^ k := Nat.two_pow_pos k
    have h2 : x / 2 ^ k < 2 ^ (k * n) := by
      rw [Nat.div_lt_iff_lt_mul hp, ← Nat.pow_add]
      rw [Nat.mul_add, Nat.mul_one] at h
      exact h
    rw [show n + 1 + m = (n + m) + 1 by (first | lia | omega)]
    unfold digs
    rw [digs_zeros k n m _ h2]; rfl
theorem way_top {z c : Nat} (h : 1 ≤ c / z) : wayN z c 0 = ((z + 1 : Nat) : Int) ^ (c / z) := by
  unfold wayN
  rw [if_pos (by rw [Nat.zero_div]; (first | lia | omega)), Nat.zero_mod, Nat.zero_div, Nat.sub_zero, Nat.sub_zero, Int.mul_comm, ← Int.pow_succ]
  congr 1; (first | lia | omega)
theorem ways_top {z c wd : Nat} (hw : z + 1 = 2 ^ wd) (h : 1 ≤ c / z) : (waysL z c).getD 0 0 = ((2 ^ (wd * (c / z)) : Nat) : Int) := by
  rw [waysL_get (by rw [waysL_len]; (first | lia | omega)), way_top h, hw, Nat.pow_mul, Int.natCast_pow, Int.natCast_pow, Int.natCast_pow]
end Mine
namespace Mine
theorem lead_enc (xs : List Int) : ∃ rs t, leadOf (11 :: 16 :: xs) = enc (5 :: rs) t := by
  obtain ⟨rs, t, h⟩ := enc_ex (leadOf (16 :: xs)) (lead_signs _)
  refine ⟨rs, t, ?_⟩
  show leadPiece 11 ++ leadOf (16 :: xs) = List.replicate 5 32 ++ 9 :: enc rs t
  rw [h]
  have : leadPiece 11 = List.replicate 5 32 ++ [9] := by decide
  rw [this]; simp
theorem n_new {h₀ h h' : Heap} {L D : Addr} {m : Str → Option Value} {led : List (Addr × Obj)} {o : Obj} (F : Fr h₀ L h m) (N : News h₀ L h' led) (h0 : h.get? D = none) (h1 : h'.get? D = some o) : News h₀ L h' ((D, o) :: led) := fun q hq => by
  rcases List.mem_cons.mp hq with rfl | hq
  · refine ⟨h1, fun e => ?_, ?_⟩
    · obtain ⟨oL, _, _, hL, _⟩ := F.ns
      have e' : D = L := e
      rw [e', hL] at h0; cases h0
    · cases e0 : h₀.get? D with
      | none => rfl
      | some o0 => rw [F.keep _ _ e0] at h0; cases h0
  · exact N q hq
/-- what init hands back, laid into the ledger -/
theorem ws_frame {w : World} {h₀ h h' : Heap} {L : Addr} {m : Str → Option Value} {l : List Nat} {t : Tok} {x dx nm ct : Addr} {vs : List Value} {k1 k2 k3 k4 k5 tn tnt tb : Tok} {led : List (Addr × Obj)}
    (F : Fr h₀ L h m) (N : News h₀ L h ((x, instObj 104 dx) :: (dx, dictOf [] 0) :: led)) (lt : ∀ p ∈ led, p.1 < dx) (ltx : dx < x)
    (keep : ∀ b o, b ≠ dx → h.get? b = some o → h'.get? b = some o) (hd : h'.get? dx = some (wsDict w l t nm k1 k2 k3 k4 k5 tn tnt)) (hn : h'.get? nm = some (tupObj [.ref ct, .int (wsOf l).2.1 tb])) (hc : h'.get? ct = some (tupObj vs)) (fn : h.get? nm = none) (fc : h.get? ct = none) :
    Fr h₀ L h' m ∧ News h₀ L h' (wsLed w l x dx nm ct vs t k1 k2 k3 k4 k5 tn tnt tb ++ led) ∧ ∀ p ∈ led, p.1 ≠ x ∧ p.1 ≠ dx ∧ p.1 ≠ nm ∧ p.1 ≠ ct := by
  have N2 : News h₀ L h ((dx, dictOf [] 0) :: (x, instObj 104 dx) :: led) := n_cons N (.tail _ (.head _)) (n_cons N (.head _) fun q hq => N q (.tail _ (.tail _ hq)))
  have hx : x ≠ dx := Nat.ne_of_gt ltx
  have hne : ∀ q ∈ (x, instObj 104 dx) :: led, q.1 ≠ dx := fun q hq => by
    rcases List.mem_cons.mp hq with rfl | hq
    · exact hx
    · exact Nat.ne_of_lt (lt q hq)
  have F' : Fr h₀ L h' m := but_fr F N2 keep
  have N' := but_news N2 hne keep hd
  have new : ∀ {a : Addr} {o : Obj}, h'.get? a = some o → h.get? a = none → h'.get? a = some o ∧ a ≠ L ∧ h₀.get? a = none := fun {a o} e f => by
    refine ⟨e, fun q => ?_, ?_⟩
    · obtain ⟨oL, _, _, hL, _⟩ := F.ns
      rw [q, hL] at f; cases f
    · cases e0 : h₀.get? a with
      | none => rfl
      | some o0 => rw [F.keep _ _ e0] at f; cases f
  refine ⟨F', ?_, fun p hp => ⟨Nat.ne_of_lt (Nat.lt_trans (lt p hp) ltx), Nat.ne_of_lt (lt p hp), fun q => ?_, fun q => ?_⟩⟩
  · show News h₀ L h' ((x, _) :: (dx, _) :: (nm, _) :: (ct, _) :: led)
    refine n_cons N' (.tail _ (.head _)) (n_cons N' (.head _) ?_)
    intro q hq
    rcases List.mem_cons.mp hq with rfl | hq
    · exact new hn fn
    rcases List.mem_cons.mp hq with rfl | hq
    · exact new hc fc
    · exact N' q (.tail _ (.tail _ hq))
  · have := (N p (.tail _ (.tail _ hp))).1
    rw [q, fn] at this; cases this
  · have := (N p (.tail _ (.tail _ hp))).1
    rw [q, fc] at this; cases this
theorem half_sum : ∀ rs : List Nat, (((rs.map fun r => (r + 1) / 2)).map (· + 1)).sum ≤ (rs.map (· + 1)).sum
  | [] => by simp
  | r :: rs => by
    have := half_sum rs
    simp only [List.map_cons, List.sum_cons]
    (first | lia | omega)
theorem half_fits (rs : List Nat) (t : Nat) (h : (enc rs t).length ≤ 100000) : fits (T (enc rs t)) [([32, 32], [32])] := by
  refine ⟨by rw [T_length]; exact h, by simp, by simp, ?_⟩
  show (putS _ _ _).length ≤ _
  rw [putS_is (by simp) (by simp), half_enc, T_length, enc_len]
  rw [enc_len] at h
  have := half_sum rs
  (first | lia | omega)
theorem T_two : Str.ofString "  " = T [32, 32] := by decide +kernel
theorem strs_get : ∀ {vs : List Value} {ss : List Str} (_ : StrsAre vs ss) (i : Nat) (v : Value), vs.toArray[i]? = some v → ∃ s, ss[i]? = some s ∧ ∃ t, v = .str s t
  | _, _, .nil, i, v, h => by simp at h
  | _, _, .cons s t r, 0, v, h => by
    simp at h
    exact ⟨_, rfl, _, h.symm⟩
  | _, _, .cons s t r, i + 1, v, h => by
    have := strs_get r i v (by simpa using h)
    simpa using this
theorem split_len (rs : List Nat) (t : Nat) : (Txt.split (T (enc rs t)) (T [9])).length = rs.length + 1 := by rw [split_enc]; simp
theorem runs_few {rs : List Nat} {t n : Nat} (h : (enc rs t).length ≤ n) : rs.length ≤ n := by rw [enc_len, sum_succ] at h; (first | lia | omega)
theorem mem_sum : ∀ {rs : List Nat} {r : Nat}, r ∈ rs → r ≤ rs.sum
  | a :: rs, r, h => by
    rcases List.mem_cons.mp h with rfl | h
    · simp
    · have := mem_sum h
      simp; (first | lia | omega)
theorem split_small {rs : List Nat} {t : Nat} {a : Str} (h : a ∈ Txt.split (T (enc rs t)) (T [9])) : a.length ≤ (enc rs t).length := by
  rw [split_enc] at h
  rw [enc_len, sum_succ]
  rcases List.mem_append.mp h with h | h
  · obtain ⟨r, hr, rfl⟩ := List.mem_map.mp h
    have := mem_sum hr
    rw [T_length, List.length_replicate]
    (first | lia | omega)
  · rw [List.mem_singleton.mp h, T_length, List.length_replicate]
    (first | lia | omega)
/-- half lengths, rounded up -/
theorem half_lens (rs : List Nat) (t : Nat) : (Txt.split (T (enc (rs.map fun r => (r + 1) / 2) ((t + 1) / 2))) (T [9])).map (fun a : Str => ((a.length : Nat) : Int)) = (Txt.split (T (enc rs t)) (T [9])).map (fun a : Str => (((a.length + 1) / 2 : Nat) : Int)) := by
  rw [split_enc, split_enc]
  simp [T_length]
theorem n_drop {h₀ h : Heap} {L : Addr} {led : List (Addr × Obj)} {p : Addr × Obj} (N : News h₀ L h (p :: led)) : News h₀ L h led := fun q hq => N q (.tail _ hq)
/-- the map behind column -/
noncomputable def mapD (m0 : Str → Option Value) (tot : Int) (wd z : Nat) (ls : List Nat) (t1 t2 t3 t4 : Tok) (Th B x : Addr) (c : Nat) (tc : Tok) : Str → Option Value := fun y =>
  if y = Str.ofString "column" then some (.int c tc) else if y = Str.ofString "one" then some (.ref x) else mapC m0 tot wd z ls t1 t2 t3 t4 Th B y
noncomputable def Mid4 (w : World) (m0 : Str → Option Value) (tot : Int) (wd z : Nat) (ls : List Nat) (t1 t2 t3 t4 : Tok) (Th B : Addr) (led : List (Addr × Obj)) (c : Nat) (s₁ : Shared) (h₀ : Heap) (L : Addr) (P : Shared → Prop) : Prop :=
  ∀ x dx nm ct vs t k1 k2 k3 k4 k5 tn tnt tb tc hh tkk, Fr h₀ L hh (mapD m0 tot wd z ls t1 t2 t3 t4 Th B x c tc) → News h₀ L hh (wsLed w ls x dx nm ct vs t k1 k2 k3 k4 k5 tn tnt tb ++ led) → IntsAre vs (wsOf ls).1 → (∀ p ∈ led, p.1 ≠ x ∧ p.1 ≠ dx ∧ p.1 ≠ nm ∧ p.1 ≠ ct) → P { s₁ with heap := hh, toks := tkk }
/-- the map behind halved -/
noncomputable def mapE (m0 : Str → Option Value) (tot : Int) (wd z : Nat) (ls : List Nat) (t1 t2 t3 t4 : Tok) (Th B x : Addr) (c : Nat) (tc : Tok) (wv : List Nat) (tw : Tok) (H : Addr) : Str → Option Value := fun y =>
  if y = Str.ofString "halved" then some (.ref H) else if y = Str.ofString "word" then some (.str (T wv) tw) else mapD m0 tot wd z ls t1 t2 t3 t4 Th B x c tc y
noncomputable def Mid5 (m0 : Str → Option Value) (tot : Int) (wd z : Nat) (ls : List Nat) (t1 t2 t3 t4 : Tok) (Th B x : Addr) (c : Nat) (tc : Tok) (wv : List Nat) (hv : List Nat) (led : List (Addr × Obj)) (s₁ : Shared) (h₀ : Heap) (L : Addr) (P : Shared → Prop) : Prop :=
  ∀ tw H vsH hh tkk, Fr h₀ L hh (mapE m0 tot wd z ls t1 t2 t3 t4 Th B x c tc wv tw H) → News h₀ L hh ((H, { cls := Value.type "list", data := Data.seq (List.toArray vsH) }) :: led) → StrsAre vsH (Txt.split (T hv) (T [9])) → P { s₁ with heap := hh, toks := tkk }
end Mine
namespace Mine
theorem slice_to {l : List Nat} {k : Nat} (h : k ≤ l.length) : Txt.slice (T l) none (some ((k : Nat) : Int)) = T (l.take k) := by
  have e := eq_of_beq (slice_closes_toL (x := T l) (j := (k : Int)) (by (first | lia | omega)) (by rw [T_length]; (first | lia | omega)))
  rw [e, T_cps]
  simp [T]
theorem slice_fr {l : List Nat} {k : Nat} (h : k ≤ l.length) : Txt.slice (T l) (some ((k : Nat) : Int)) none = T (l.drop k) := by
  have e := eq_of_beq (slice_closes_fromL (x := T l) (i := (k : Int)) (b := l.length) (by (first | lia | omega)) (by rw [T_length]; (first | lia | omega)) (by rw [T_length]))
  rw [e, T_cps, Int.toNat_natCast, List.take_of_length_le (by rw [List.length_drop]; (first | lia | omega))]
  rfl
theorem sig_find {z k : Nat} (h : z = 1 ∨ z = 3 ∨ z = 7) (hk : k ≤ z) : Txt.find (T (sigL z)) ⟨#[97 + k]⟩ = (k : Int) := by
  have key : ∀ z : Fin 8, ∀ k : Fin 8, (z.val = 1 ∨ z.val = 3 ∨ z.val = 7) → k.val ≤ z.val → Txt.find (T (sigL z.val)) ⟨#[97 + k.val]⟩ = (k.val : Int) := by decide +kernel
  exact key ⟨z, by (first | lia | omega)⟩ ⟨k, by (first | lia | omega)⟩ h hk
theorem word_take {fs : List Nat} {tl : Nat} : (fs.map (97 + ·) ++ List.replicate tl 32).take fs.length = fs.map (97 + ·) := by
  rw [List.take_append_of_le_length (by simp), List.take_of_length_le (by simp)]
theorem word_drop {fs : List Nat} {tl : Nat} : (fs.map (97 + ·) ++ List.replicate tl 32).drop fs.length = List.replicate tl 32 := by
  rw [List.drop_append]
  simp
theorem finds {z : Nat} (h : z = 1 ∨ z = 3 ∨ z = 7) : ∀ fs : List Nat, (∀ f ∈ fs, f ≤ z) → (fs.map (97 + ·)).map (fun c => Txt.find (T (sigL z)) ⟨#[c]⟩) = fs.map fun f => ((f : Nat) : Int)
  | [], _ => rfl
  | f :: fs, hf => by
    have ih := finds h fs fun x hx => hf x (.tail _ hx)
    simp only [List.map_cons] at ih ⊢
    rw [ih, sig_find h (hf f (.head _))]
section
variable {prog : Program} {w : World} {A : Around} {E : Value → Shared → Prop} {h₀ : Heap} {L : Addr} {m : Str → Option Value} {env : Env} {elt : Expr} {x : Str} {scope : Scope} {cl : List (Str × Addr)} {s : Shared}
theorem assign_str {iter : Expr} {y : Str} {px py pos spos : Pos} {Q : Flow → Shared → Prop} (F₀ : Fr h₀ L s.heap m) (hLe : env.locals = L)
    (hsw : swapsWith (.ListComp elt [⟨.Name x px, iter, [], 0⟩] scope pos) (some (.Name y py)) spos.line env = pure true)
    (hclos : closureFor scope env = pure cl) (hcell : ∀ z ∈ scope.names, z.2 ≠ .cell) (hkind : scope.kind = .function)
    (hnames : ∀ z ∈ scope.names, z.2 = .local → scope.names.lookup z.1 = some .local) (hx : scope.names.lookup x = some .local)
    (hy : env.kindOf y = some .local) (hp : (env.scope.kind == .class || (env.scope.kind == .module && env.locals != env.globals)) = false) (hh : A.handled = none)
    (hs : ∀ x, foldedSetIterable iter env x = pure x)
    (h : wpAny (model prog w) A (eval iter env) (fun xv s₁ => ∃ xt tx news, xv = .str xt tx ∧ Fr h₀ L s₁.heap m ∧ News h₀ L s₁.heap news ∧ xt.cps.size ≤ sizeLine ∧
      ∀ s₂ : Shared, (∃ g, s₂ = { s₁ with heap := g }) → LCg.CompRest prog w A h₀ L m env elt x scope cl s₂ (fun _ => True) (SignAt xt) (LCg.FinA h₀ L m s₂ y Q) xt.cps.size 0 [] news) E s) :
    wpAny (model prog w) A (exec (.Assign [.Name y py] (.ListComp elt [⟨.Name x px, iter, [], 0⟩] scope pos) spos) env) Q E s :=
  assign_comp_str hLe hsw hclos hcell hkind hnames hx hy hp hh h hs
end
/-- the map behind figures -/
noncomputable def mapF (m0 : Str → Option Value) (tot : Int) (wd z : Nat) (ls : List Nat) (t1 t2 t3 t4 : Tok) (Th B x : Addr) (c : Nat) (tc : Tok) (wv : List Nat) (tw : Tok) (H Fg : Addr) : Str → Option Value := fun y =>
  if y = Str.ofString "figures" then some (.ref Fg) else mapE m0 tot wd z ls t1 t2 t3 t4 Th B x c tc wv tw H y
noncomputable def Mid7 (m0 : Str → Option Value) (tot : Int) (wd z : Nat) (ls : List Nat) (t1 t2 t3 t4 : Tok) (Th B x : Addr) (c : Nat) (tc : Tok) (wv : List Nat) (tw : Tok) (H : Addr) (fs : List Nat) (led : List (Addr × Obj)) (s₁ : Shared) (h₀ : Heap) (L : Addr) (P : Shared → Prop) : Prop :=
  ∀ Fg ys hh tkk, Fr h₀ L hh (mapF m0 tot wd z ls t1 t2 t3 t4 Th B x c tc wv tw H Fg) → News h₀ L hh ((Fg, LCg.lst ys) :: led) → IntsAre ys (fs.map fun f => ((f : Nat) : Int)) → LCg.Off1 Fg led → P { s₁ with heap := hh, toks := tkk }
theorem sign_get {l : List Nat} {i : Nat} {v : Value} (h : SignAt (T l) i v) : ∃ c, l[i]? = some c ∧ ∃ u, v = .str ⟨#[c]⟩ u := by
  obtain ⟨c, u, hc, e⟩ := h
  exact ⟨c, by simpa [T] using hc, u, e⟩
end Mine
namespace Mine
theorem led_ne {h₀ h : Heap} {L a P : Addr} {led : List (Addr × Obj)} {oa o : Obj} (N : News h₀ L h led) (ma : (a, oa) ∈ led) (mP : (P, o) ∈ led) (hne : oa ≠ o) : a ≠ P := fun e => by
  have h1 := (N _ ma).1
  have h2 := (N _ mP).1
  dsimp only at h1 h2
  rw [e, h2] at h1
  exact hne (Option.some.inj h1).symm
/-- a call that has changed the object at P alone -/
theorem tab_frame {h₀ h h' : Heap} {L P : Addr} {m : Str → Option Value} {all : List (Addr × Obj)} {o o' : Obj} (F : Fr h₀ L h m) (N : News h₀ L h all) (mP : (P, o) ∈ all) (keep : ∀ b ob, b ≠ P → h.get? b = some ob → h'.get? b = some ob) (hP : h'.get? P = some o') :
    Fr h₀ L h' m ∧ ∀ led : List (Addr × Obj), (∀ q ∈ led, q ∈ all ∧ q.1 ≠ P) → News h₀ L h' ((P, o') :: led) := by
  have hp := (N _ mP).2
  dsimp only at hp
  obtain ⟨oL, es, ep, hL, r⟩ := F.ns
  refine ⟨⟨⟨oL, es, ep, keep _ _ (fun e => hp.1 e.symm) hL, r⟩, fun b ob e => keep _ _ (fun q => by rw [q, hp.2] at e; cases e) (F.keep b ob e), F.above⟩, fun led hl q hq => ?_⟩
  rcases List.mem_cons.mp hq with rfl | hq
  · exact ⟨hP, hp⟩
  · obtain ⟨h1, h2⟩ := hl q hq
    exact ⟨keep _ _ h2 (N q h1).1, (N q h1).2⟩
theorem revI_bits {z wd : Nat} (hw : z + 1 = 2 ^ wd) {fs : List Nat} (hf : ∀ f ∈ fs, f ≤ z) : ∀ x ∈ revI fs, 0 ≤ x ∧ x < 2 ^ wd := fun x hx => by
  unfold revI at hx
  rw [List.mem_reverse] at hx
  obtain ⟨f, h1, rfl⟩ := List.mem_map.mp hx
  have := hf f h1
  have e : (2 : Int) ^ wd = ((2 ^ wd : Nat) : Int) := by rw [Int.natCast_pow]; rfl
  (first | lia | omega)
theorem revI_len (fs : List Nat) : (revI fs).length = fs.length := by simp [revI]
/-- the map behind number -/
noncomputable def mapG (m0 : Str → Option Value) (tot : Int) (wd z : Nat) (ls : List Nat) (t1 t2 t3 t4 : Tok) (Th B x : Addr) (c : Nat) (tc : Tok) (wv : List Nat) (tw : Tok) (H Fg Wy : Addr) (nu : Int) (tu : Tok) : Str → Option Value := fun y =>
  if y = Str.ofString "number" then some (.int nu tu) else if y = Str.ofString "ways" then some (.ref Wy) else mapF m0 tot wd z ls t1 t2 t3 t4 Th B x c tc wv tw H Fg y
noncomputable def Mid9 (m0 : Str → Option Value) (tot : Int) (wd z : Nat) (ls : List Nat) (t1 t2 t3 t4 : Tok) (Th B x : Addr) (c : Nat) (tc : Tok) (wv : List Nat) (tw : Tok) (H Fg : Addr) (nu : Int) (led : List (Addr × Obj)) (s₁ : Shared) (h₀ : Heap) (L : Addr) (P : Shared → Prop) : Prop :=
  ∀ Wy wys tu ps hh tkk, Fr h₀ L hh (mapG m0 tot wd z ls t1 t2 t3 t4 Th B x c tc wv tw H Fg Wy nu tu) → News h₀ L hh ((37, tabObj ps) :: (Wy, W.listOf (List.toArray wys) 0) :: led) → IntsAre wys (waysL z c) → P { s₁ with heap := hh, toks := tkk }
end Mine
namespace Mine
section
variable {prog : Program} {w : World} {A : Around} {E : Value → Shared → Prop} {s : Shared} {env : Env} {h₀ : Heap} {x : Str} {body : List Stmt} {Q : Flow → Shared → Prop}
/-- a loop over a made list by what holds between its turns -/
theorem loop_list {ax : Addr} {lo : Obj} {vs : List Value} {n : Nat} {m₀ : Str → Option Value} {news : List (Addr × Obj)} (J : Nat → (Str → Option Value) → List (Addr × Obj) → Prop)
    (hh : A.handled = none) (F : Fr h₀ env.locals s.heap m₀) (N : News h₀ env.locals s.heap news) (hm : (ax, lo) ∈ news) (hc : lo.cls = .type "list") (hd : lo.data = .seq vs.toArray n) (hj : J 0 m₀ news)
    (mem : ∀ i m news', J i m news' → (ax, lo) ∈ news')
    (turn : ∀ I it i v m₁ news₁ h tk, (∀ p ∈ news, p.1 < I) → (∀ p ∈ news₁, p.1 ≠ I) → vs[i]? = some v → J i m₁ news₁ → it.cls = .type "list_iterator" → Fr h₀ env.locals h (fun y => if y = x then some v else m₁ y) → News h₀ env.locals h ((I, it) :: news₁) →
      wpAny (model prog w) A (execs body env) (UnrPost h₀ env.locals { s with heap := h, toks := tk } I it (J (i + 1)) Q) E { s with heap := h, toks := tk })
    (done : ∀ m₁ news₁ h tk, J vs.length m₁ news₁ → Fr h₀ env.locals h m₁ → News h₀ env.locals h news₁ → Q .next { s with heap := h, toks := tk }) :
    wpAny (model prog w) A (pyIter (.ref ax)) (fun it s₂ => LoopAtV prog w A h₀ env x body Q E it s₂) E s := by
  refine iter_listUnr hh F N hm hc hd (fun I hI => ?_)
  have key : ∀ k i m news', i + k = vs.length → J i m news' → (∀ p ∈ news', p.1 ≠ I) → ListRest prog w A E h₀ env x body Q s I (ax, lo) (vs.drop i) m news' := by
    intro k
    induction k with
    | zero =>
      intro i m news' hi hJ _
      rw [List.drop_eq_nil_of_le (by (first | lia | omega))]
      have : i = vs.length := by (first | lia | omega)
      subst this
      exact ListRest.zero fun h tk F' N' => done m news' h tk hJ F' N'
    | succ k ih =>
      intro i m news' hi hJ hoff
      have hlt : i < vs.length := by (first | lia | omega)
      rw [List.drop_eq_getElem_cons hlt]
      refine ListRest.succ fun it h tk hcI F' N' => ?_
      refine wpAny_mono (turn I it i _ m news' h tk hI hoff (List.getElem?_eq_getElem hlt) hJ hcI F' N') (fun f s₂ p => ?_) fun _ _ e => e
      have fin : UnrEnd h₀ env.locals { s with heap := h, toks := tk } I it (J (i + 1)) s₂ → UnrEnd h₀ env.locals { s with heap := h, toks := tk } I it (fun m' n' => (ax, lo) ∈ n' ∧ ListRest prog w A E h₀ env x body Q s I (ax, lo) (vs.drop (i + 1)) m' n') s₂ := by
        rintro ⟨h', tk', m', n', e, F2, N2, off, hJ'⟩
        exact ⟨h', tk', m', n', e, F2, N2, off, mem _ _ _ hJ', ih (i + 1) m' n' (by (first | lia | omega)) hJ' off⟩
      cases f with
      | ret v => exact p
      | brk => exact p
      | next => exact fin p
      | cont => exact fin p
  have h0 := key vs.length 0 m₀ news (by (first | lia | omega)) hj fun p hp => Nat.ne_of_lt (hI p hp)
  rw [List.drop_zero] at h0
  exact h0
end
theorem ways_hi {z c wd : Nat} (hw : z + 1 = 2 ^ wd) (h : 1 ≤ c / z) : 0 < (waysL z c).getD 0 0 := by
  rw [ways_top hw h]
  have := Nat.two_pow_pos (wd * (c / z))
  (first | lia | omega)
end Mine
namespace Mine
/-- the code table of _int2digits: as it was, or with its one code -/
noncomputable def TabOk (o30 : Obj) (c0 : Addr) (oc0 : Obj) : Prop :=
  @LT.lt Nat _ 30 c0 ∧ (o30 = tabObj #[] ∨ (o30 = i2dTab c0 ∧ ∃ ovs tq, oc0.data = .fields ovs ∧ ovs[1]? = some (.str i2dQual tq)))
theorem TabOk.cls {o30 : Obj} {c0 : Addr} {oc0 : Obj} (h : TabOk o30 c0 oc0) : o30.cls = .none := by
  rcases h with ⟨_, rfl | ⟨rfl, _⟩⟩ <;> rfl
theorem TabOk.grown {o30 : Obj} {c0 : Addr} {oc0 : Obj} (h : TabOk o30 c0 oc0) : ∃ ps, o30 = tabObj ps := by
  rcases h with ⟨_, rfl | ⟨rfl, _⟩⟩ <;> exact ⟨_, rfl⟩
theorem i2d_does (w : World) (x : Nat) (t : Tok) (k : Nat) (u : Tok) (hk1 : 1 ≤ k) (hk3 : k ≤ 3) (hx : x < 2 ^ 180) (o30 : Obj) (c0 : Addr) (oc0 : Obj) (hT : TabOk o30 c0 oc0)
   (p : Program) (loose : List Str) (mean : ExcName → Option Value) (mg mb : Str → Option Value) (dp un : Nat) (gd : Option (List Code)) (cn : Str) (cs : Scope) (a : Addr) (ccd : Value) (cl : List (Str × Addr)) (outer : List Env) (A₀ : Around) (base h₀ : Heap) (L : Addr) (m : Str → Option Value) (s : Shared) (Q E : Value → Shared → Prop) :
    Surr w p loose mean mg mb dp un cs outer A₀ base h₀ L m s 250 2500 (News h₀ L s.heap [(30, o30), (c0, oc0)] →
      (∀ D vs' h' tk' c' oc, s.heap.get? D = none → h'.get? D = some (W.listOf vs'.toArray 0) → IntsAre vs' (digs k (cntOf k x) x) → (∀ b o, b ≠ 30 → s.heap.get? b = some o → h'.get? b = some o) →
        h'.get? 30 = some (i2dTab c') → h'.get? c' = some oc → TabOk (i2dTab c') c' oc → h₀.get? c' = none → c' ≠ L → (c' = c0 ∨ s.heap.get? c' = none) → Q (.ref D) { s with heap := h', toks := tk' }) →
      wpAny (model PySem.Challenge.rw_ph0140_01.row.prog w) (ktrTop dp un gd cn cs L a ccd cl outer) (call (.ref 35) [.int x t, .int k u]) Q E s) := by
  unfold Surr
  intro B F X T hk hd hu N ret
  rcases hT with ⟨hlt, rfl | ⟨rfl, ovs, tq, h1, h2⟩⟩
  · exact i2d_first w x t k u hk1 hk3 hx _ _ _ _ _ _ _ _ _ _ _ _ _ _ _ _ _ _ _ _ _ _ B F X T hk hd hu (n_cons N (.head _) News.nil)
      (fun D vs' h' tk' c' oc ovs tq a1 a2 a3 a4 a5 a6 a7 a8 a9 a10 a11 a12 => ret D vs' h' tk' c' oc a1 a2 a3 a4 a5 a6 ⟨a9, .inr ⟨rfl, ovs, tq, a7, a8⟩⟩ a10 a11 (.inr a12))
  · exact i2d_again w x t k u hk1 hk3 hx c0 oc0 ovs tq h1 h2 hlt _ _ _ _ _ _ _ _ _ _ _ _ _ _ _ _ _ _ _ _ _ _ B F X T hk hd hu N
      (fun D vs' h' tk' c' oc ovs tq a1 a2 a3 a4 a5 a6 a7 a8 a9 a10 a11 a12 => ret D vs' h' tk' c' oc a1 a2 a3 a4 a5 a6 ⟨a9, .inr ⟨rfl, ovs, tq, a7, a8⟩⟩ a10 a11 (.inl a12))
/-- the names that a turn sets, above the base -/
noncomputable def LoopM (uu base : Str → Option Value) : Str → Option Value := fun y =>
  if y = Str.ofString "other" then uu y else if y = Str.ofString "made" then uu y else if y = Str.ofString "filled" then uu y else if y = Str.ofString "digits" then uu y else if y = Str.ofString "rank" then uu y else base y
theorem loopM0 (base : Str → Option Value) : base = LoopM base base := by funext y; unfold LoopM; simp only [ite_self]
theorem loopM1 {uu base : Str → Option Value} {O M F D R : Option Value} : (fun y => if y = Str.ofString "other" then O else if y = Str.ofString "made" then M else if y = Str.ofString "filled" then F else if y = Str.ofString "digits" then D else if y = Str.ofString "rank" then R else LoopM uu base y) =
    LoopM (fun y => if y = Str.ofString "other" then O else if y = Str.ofString "made" then M else if y = Str.ofString "filled" then F else if y = Str.ofString "digits" then D else R) base := by
  funext y
  unfold LoopM
  by_cases h1 : y = Str.ofString "other"
  · simp only [h1, if_true]
  by_cases h2 : y = Str.ofString "made"
  · subst h2; rfl
  by_cases h3 : y = Str.ofString "filled"
  · subst h3; rfl
  by_cases h4 : y = Str.ofString "digits"
  · subst h4; rfl
  by_cases h5 : y = Str.ofString "rank"
  · subst h5; rfl
  simp only [h1, h2, h3, h4, h5, if_false]
noncomputable def LoopJ (base : Str → Option Value) (lp : Addr × Obj) (led : List (Addr × Obj)) (_ : Nat) (m : Str → Option Value) (news : List (Addr × Obj)) : Prop :=
  ∃ uu o30 c0 oc0, m = LoopM uu base ∧ news = lp :: (30, o30) :: (c0, oc0) :: led ∧ TabOk o30 c0 oc0
theorem fmod_lo {b : Int} (hb : 0 < b) (a : Int) : 0 ≤ a.fmod b := by rw [Int.fmod_eq_emod_of_nonneg _ (by (first | lia | omega))]; exact Int.emod_nonneg _ (by (first | lia | omega))
theorem fmod_hi {b : Int} (hb : 0 < b) (a : Int) : a.fmod b < b := by rw [Int.fmod_eq_emod_of_nonneg _ (by (first | lia | omega))]; exact Int.emod_lt_of_pos _ hb
theorem bits_lo {x : Nat} (h : 0 < x) : 2 ^ (Builtin.Int.intBits (x : Int) - 1) ≤ x := by
  have h1 : ¬ Builtin.Int.intBits (x : Int) ≤ Builtin.Int.intBits (x : Int) - 1 := by
    have : 0 < Builtin.Int.intBits (x : Int) := by
      rcases Nat.eq_zero_or_pos (Builtin.Int.intBits (x : Int)) with e | e
      · have := intBits_le_iff.mp (Nat.le_of_eq e)
        simp at this
        (first | lia | omega)
      · exact e
    (first | lia | omega)
  rw [intBits_le_iff] at h1
  (first | lia | omega)
theorem digs_snoc (k m x : Nat) : digs k (m + 1) x = digs k m (x % 2 ^ (m * k)) ++ [((x / 2 ^ (m * k) % 2 ^ k : Nat) : Int)] := by
  rw [digs_add k m 1]; rfl
/-- no nought at the end -/
theorem digs_last {k x : Nat} (hk : 1 ≤ k) (hx : 0 < x) : ∃ l d, digs k (cntOf k x) x = l ++ [d] ∧ d ≠ 0 := by
  obtain ⟨n, hn⟩ : ∃ n, cntOf k x = n + 1 := ⟨cntOf k x - 1, by have := cnt_pos hk hx; (first | lia | omega)⟩
  rw [hn, digs_snoc]
  refine ⟨_, _, rfl, ?_⟩
  have hlo := bits_lo hx
  have h1 : n * k ≤ Builtin.Int.intBits (x : Int) - 1 := by
    have h2 : (n + 1) * k ≤ Builtin.Int.intBits (x : Int) + k - 1 := by rw [← hn]; exact Nat.div_mul_le_self _ _
    rw [Nat.succ_mul] at h2
    (first | lia | omega)
  have h3 : 2 ^ (n * k) ≤ x := Nat.le_trans (Nat.pow_le_pow_right (by (first | lia | omega)) h1) hlo
  have hup : x < 2 ^ (n * k) * 2 ^ k := by
    have := cnt_fits (k := k) (x := x) hk
    rw [hn, Nat.succ_mul, Nat.pow_add] at this
    exact this
  have h4 : 1 ≤ x / 2 ^ (n * k) := (Nat.le_div_iff_mul_le (Nat.two_pow_pos _)).mpr (by (first | lia | omega))
  have h5 : x / 2 ^ (n * k) < 2 ^ k := by rw [Nat.div_lt_iff_lt_mul (Nat.two_pow_pos _), Nat.mul_comm]; exact hup
  rw [Nat.mod_eq_of_lt h5]
  (first | lia | omega)
theorem cnt_le {k x M : Nat} (hk : 1 ≤ k) (h : x < 2 ^ (k * M)) : cntOf k x ≤ M := by
  have h1 : Builtin.Int.intBits (x : Int) ≤ k * M := by
    rw [intBits_le_iff]
    (first | lia | omega)
  unfold cntOf
  have : (Builtin.Int.intBits (x : Int) + k - 1) / k < M + 1 := by
    rw [Nat.div_lt_iff_lt_mul (by (first | lia | omega)), Nat.succ_mul, Nat.mul_comm M k]
    (first | lia | omega)
  (first | lia | omega)
/-- the digits of a rank, noughts behind -/
theorem filled_is {k x M : Nat} (hk : 1 ≤ k) (h : x < 2 ^ (k * M)) : digs k (cntOf k x) x ++ List.replicate (M - cntOf k x) 0 = digs k M x := by
  have h1 := cnt_le hk h
  rw [← digs_zeros k (cntOf k x) (M - cntOf k x) x (by rw [Nat.mul_comm]; exact cnt_fits hk)]
  congr 1; (first | lia | omega)
end Mine
namespace Mine
noncomputable def bl (r : Nat) : Str := T (List.replicate r 32)
theorem bl_len (r : Nat) : (bl r).length = r := by rw [bl, T_length, List.length_replicate]
theorem ltCps_bl : ∀ a b : Nat, ltCps (bl a).cps.toList (bl b).cps.toList = decide (a < b)
  | 0, 0 => rfl
  | 0, b + 1 => by simp [bl, T_cps, ltCps, List.replicate_succ]
  | a + 1, 0 => by simp [bl, T_cps, ltCps, List.replicate_succ]
  | a + 1, b + 1 => by
    have ih := ltCps_bl a b
    simp only [bl, T_cps] at ih ⊢
    rw [List.replicate_succ, List.replicate_succ]
    simp [ltCps, ih]
theorem bl_back {ss : List Str} {rs : List Nat} (h : ss.Perm (rs.map bl)) : ss = (ss.map Str.length).map bl ∧ (ss.map Str.length).Perm rs := by
  constructor
  · rw [List.map_map]
    refine ((List.map_congr_left fun s hs => ?_).trans (List.map_id' ss)).symm
    obtain ⟨r, _, rfl⟩ := List.mem_map.mp (h.mem_iff.mp hs)
    show bl (bl r).length = bl r
    rw [bl_len]
  · have h2 := h.map Str.length
    rw [List.map_map] at h2
    have e : rs.map (Str.length ∘ bl) = rs := (List.map_congr_left fun r _ => bl_len r).trans (List.map_id' rs)
    rw [e] at h2
    exact h2
theorem rising_bl : ∀ (ns : List Nat) (p : Nat), risingS (bl p) (ns.map bl) = true → (p :: ns).Pairwise (· ≤ ·)
  | [], p, _ => by simp
  | n :: ns, p, h => by
    have h' : (!ltCps (bl n).cps.toList (bl p).cps.toList && risingS (bl n) (ns.map bl)) = true := h
    rw [ltCps_bl, Bool.and_eq_true] at h'
    have h1 : p ≤ n := by
      have := h'.1
      simp at this
      exact this
    have ih := rising_bl ns n h'.2
    rw [List.pairwise_cons] at ih ⊢
    refine ⟨fun a ha => ?_, List.pairwise_cons.mpr ih⟩
    rcases List.mem_cons.mp ha with rfl | ha
    · exact h1
    · exact Nat.le_trans h1 (ih.1 a ha)
theorem sorted_bl {ns : List Nat} (h : sortedS (ns.map bl) = true) : ns.Pairwise (· ≤ ·) := by
  cases ns with
  | nil => simp
  | cons n ns => exact rising_bl ns n h
theorem sorted_same : ∀ {a b : List Nat}, a.Pairwise (· ≤ ·) → b.Pairwise (· ≤ ·) → a.Perm b → a = b
  | [], b, _, _, h => (List.nil_perm.mp h).symm
  | x :: a, [], _, _, h => absurd (List.perm_nil.mp h) (by simp)
  | x :: a, y :: b, ha, hb, h => by
    rw [List.pairwise_cons] at ha hb
    have hx : x ≤ y := by
      rcases List.mem_cons.mp (h.mem_iff.mpr (.head _) : y ∈ x :: a) with e | e
      · (first | lia | omega)
      · exact ha.1 y e
    have hy : y ≤ x := by
      rcases List.mem_cons.mp (h.mem_iff.mp (.head _) : x ∈ y :: b) with e | e
      · (first | lia | omega)
      · exact hb.1 x e
    have e : x = y := by (first | lia | omega)
    subst e
    rw [sorted_same ha.2 hb.2 (List.Perm.cons_inv h)]
theorem runs_iff {ss ss' : List Str} {rs rs' : List Nat} (h : ss.Perm (rs.map bl)) (hs : sortedS ss = true) (h' : ss'.Perm (rs'.map bl)) (hs' : sortedS ss' = true) : ss = ss' ↔ rs.Perm rs' := by
  obtain ⟨e, p⟩ := bl_back h
  obtain ⟨e', p'⟩ := bl_back h'
  constructor
  · intro q
    rw [q] at p
    exact p.symm.trans p'
  · intro q
    rw [e] at hs
    rw [e'] at hs'
    rw [e, e', sorted_same (sorted_bl hs) (sorted_bl hs') (p.trans (q.trans p'.symm))]
theorem split_take (rs : List Nat) (t : Nat) : (Txt.split (T (enc rs t)) (T [9])).take ((Txt.split (T (enc rs t)) (T [9])).length - 1) = rs.map bl := by
  rw [split_enc]
  simp [bl]
theorem split_end {rs : List Nat} {t : Nat} {last : Str} (h : (Txt.split (T (enc rs t)) (T [9]))[(Txt.split (T (enc rs t)) (T [9])).length - 1]? = some last) : last = bl t := by
  rw [split_enc] at h
  simp at h
  exact h.symm
theorem bl_inj {a b : Nat} : bl a = bl b ↔ a = b := ⟨fun h => by have := congrArg Str.length h; rwa [bl_len, bl_len] at this, fun h => by rw [h]⟩
/-- the two answers to: is it the same indentation? -/
theorem same_iff {rs rs' : List Nat} {t t' : Nat} {ss ss' : List Str} {last last' : Str} (h : ss.Perm ((Txt.split (T (enc rs t)) (T [9])).take ((Txt.split (T (enc rs t)) (T [9])).length - 1))) (hs : sortedS ss = true) (hl : (Txt.split (T (enc rs t)) (T [9]))[(Txt.split (T (enc rs t)) (T [9])).length - 1]? = some last)
    (h' : ss'.Perm ((Txt.split (T (enc rs' t')) (T [9])).take ((Txt.split (T (enc rs' t')) (T [9])).length - 1))) (hs' : sortedS ss' = true) (hl' : (Txt.split (T (enc rs' t')) (T [9]))[(Txt.split (T (enc rs' t')) (T [9])).length - 1]? = some last') :
    ((wsOf (enc rs t)).1 = (wsOf (enc rs' t')).1 ∧ (wsOf (enc rs t)).2.1 = (wsOf (enc rs' t')).2.1) ↔ (ss = ss' ∧ last = last') := by
  rw [split_take] at h h'
  rw [ws_enc, ws_enc, split_end hl, split_end hl', runs_iff h hs h' hs', bl_inj]
  dsimp only
  rw [hist_perm]
theorem strs_eqv : ∀ (ss ss' : List Str), PyData.eqvAll (ss.map .str) (ss'.map .str) = decide (ss = ss')
  | [], [] => by simp [PyData.eqvAll]
  | [], _ :: _ => by simp [PyData.eqvAll]
  | _ :: _, [] => by simp [PyData.eqvAll]
  | a :: r, b :: r' => by
    have ih := strs_eqv r r'
    simp only [List.map_cons, PyData.eqvAll, PyData.eqv, ih]
    by_cases h1 : a = b <;> by_cases h2 : r = r' <;> simp [h1, h2]
theorem runs_eqv (ss ss' : List Str) (l l' : Str) : PyData.eqv (.tuple [.list (ss.map .str), .str l]) (.tuple [.list (ss'.map .str), .str l']) = decide (ss = ss' ∧ l = l') := by
  simp only [PyData.eqv, PyData.eqvAll, strs_eqv, Bool.and_true]
  by_cases h1 : ss = ss' <;> by_cases h2 : l = l' <;> simp [h1, h2]
end Mine
namespace Mine
theorem News.get2 {h₀ h : Heap} {L : Addr} {a b : Addr × Obj} {led : List (Addr × Obj)} (N : News h₀ L h (a :: b :: led)) : News h₀ L h [a, b] := n_cons N (.head _) (n_cons N (.tail _ (.head _)) News.nil)
theorem drop_last {k rk : Nat} (hk : 1 ≤ k) : ¬ (List.drop ((digs k (cntOf k rk) rk).length - 1) (digs k (cntOf k rk) rk) = [0]) := by
  rcases Nat.eq_zero_or_pos rk with rfl | h
  · rw [cnt_zero hk]
    simp [digs]
  · obtain ⟨l, d, e, hd⟩ := digs_last hk h
    rw [e]
    simp
    exact hd
theorem fill_eq {k rk : Nat} {fs : List Nat} (hk : 1 ≤ k) (h : rk < 2 ^ (k * fs.length)) : digs k (cntOf k rk) rk ++ (List.replicate (((fs.map fun f => ((f : Nat) : Int)).length : Int) - ((digs k (cntOf k rk) rk).length : Int)).toNat [(0 : Int)]).flatten = digs k fs.length rk := by
  rw [← filled_is hk h, List.length_map, digs_length]
  have : ((fs.length : Int) - (cntOf k rk : Int)).toNat = fs.length - cntOf k rk := by (first | lia | omega)
  rw [this]
  simp
theorem top_rev (k m x : Nat) : (digs k m x).reverse = (topDigs k m x).map fun f => ((f : Nat) : Int) := by
  have h := revI_top k m x
  unfold revI at h
  rw [← h, List.reverse_reverse]
theorem ints_get {vs : List Value} {fs : List Nat} (h : IntsAre vs (fs.map fun f => ((f : Nat) : Int))) (i : Nat) (v : Value) (hv : vs.toArray[i]? = some v) : ∃ f, fs[i]? = some f ∧ ∃ t, v = .int ((f : Nat) : Int) t := by
  obtain ⟨k, t, e, hk⟩ := IntsAre.at h i v (by simpa using hv)
  rw [List.getElem?_map] at hk
  cases hf : fs[i]? with
  | none => rw [hf] at hk; cases hk
  | some f =>
    rw [hf] at hk
    exact ⟨f, rfl, t, by rw [e]; congr 1; exact (Option.some.inj hk).symm⟩
theorem join_ones : ∀ fs : List Nat, PySem.Str.join (T []) (fs.map fun f => T [97 + f]) = T (fs.map (97 + ·))
  | [] => rfl
  | [f] => rfl
  | f :: g :: r => by
    rw [List.map_cons, join_cons (by simp), join_ones (g :: r), T_append, T_append]; rfl
theorem ones_sum : ∀ fs : List Nat, ((fs.map fun f => T [97 + f]).map (·.length)).sum = fs.length
  | [] => rfl
  | f :: r => by
    have := ones_sum r
    simp only [List.map_cons, List.sum_cons, this, T_length, List.length_cons, List.length_nil]
    (first | lia | omega)
theorem glue_ones (fs : List Nat) : Txt.join (Str.ofString "") (fs.map fun f => T [97 + f]) = T (fs.map (97 + ·)) := by
  unfold Txt.join
  rw [StrLaws.glued_eq_join, T_nil, join_ones]
theorem led_new {h₀ h : Heap} {L c' : Addr} {a b : Addr × Obj} {rest : List (Addr × Obj)} (N : News h₀ L h (a :: b :: rest)) (h1 : c' = b.1 ∨ h.get? c' = none) : ∀ q ∈ List.drop 2 (a :: b :: rest), (∀ z ∈ List.take 1 (List.drop 1 (a :: b :: rest)), q.1 ≠ z.1) → q.1 ≠ c' := fun q hq hz => by
  rcases h1 with rfl | h1
  · exact hz b (.head _)
  · intro e
    have := (N q (.tail _ (.tail _ hq))).1
    rw [e, h1] at this; cases this
/-- digits are laid -/
noncomputable def MidT1 (k rk : Nat) (s₁ : Shared) (h₀ : Heap) (L : Addr) (m : Str → Option Value) (all : List (Addr × Obj)) (P : Shared → Prop) : Prop :=
  ∀ D vs c' oc hh tkk, Fr h₀ L hh (fun y => if y = Str.ofString "digits" then some (.ref D) else m y) → News h₀ L hh ((D, W.listOf (List.toArray vs) 0) :: (30, i2dTab c') :: (c', oc) :: all.drop 2) → IntsAre vs (digs k (cntOf k rk) rk) → TabOk (i2dTab c') c' oc → (∀ q ∈ all.drop 2, (∀ z ∈ (all.drop 1).take 1, q.1 ≠ z.1) → q.1 ≠ c') → P { s₁ with heap := hh, toks := tkk }
theorem n_cons1 {h₀ h : Heap} {L a : Addr} {o : Obj} {led : List (Addr × Obj)} (h1 : h.get? a = some o) (h2 : a ≠ L) (h3 : h₀.get? a = none) (r : News h₀ L h led) : News h₀ L h ((a, o) :: led) := fun q hq => (List.mem_cons.mp hq).elim (fun e => e ▸ ⟨h1, h2, h3⟩) (r q)
/-- the text is made -/
noncomputable def MidT2 (mk : List Nat) (s₁ : Shared) (h₀ : Heap) (L : Addr) (m : Str → Option Value) (all : List (Addr × Obj)) (P : Shared → Prop) : Prop :=
  ∀ tm Fd hh tkk, Fr h₀ L hh (fun y => if y = Str.ofString "made" then some (.str (T mk) tm) else if y = Str.ofString "filled" then some (.ref Fd) else m y) → News h₀ L hh (all.drop 1) → P { s₁ with heap := hh, toks := tkk }
theorem cells_small {z : Nat} (hz : 1 ≤ z) (hz7 : z ≤ 7) {fs : List Nat} (hf : ∀ f ∈ fs, f ≤ z) (hl : fs.length ≤ 42) : (fs.flatMap (cellL z)).length ≤ 294 := by
  have h := shb_len (k := 0) hz fs hf
  rw [shb_bot] at h
  have := Nat.mul_le_mul hz7 hl
  (first | lia | omega)
end Mine
namespace Mine
theorem offP {h₀ h : Heap} {L P : Addr} {o : Obj} {c : Addr × Obj} {rest : List (Addr × Obj)} (N : News h₀ L h ((P, o) :: c :: rest)) (ho : o.cls = .none) (hr : ∀ q ∈ rest, q.2.cls ≠ .none ∨ q.1 ≠ P) : ∀ q ∈ rest, q.1 ≠ P := fun q hq => by
  rcases hr q hq with h | h
  · exact led_ne N (a := q.1) (oa := q.2) (.tail _ (.tail _ hq)) (.head _) fun e => h (by rw [e]; exact ho)
  · exact h
theorem tab_frame2 {h₀ h h' : Heap} {L P : Addr} {m : Str → Option Value} {rest : List (Addr × Obj)} {o o' : Obj} {c : Addr × Obj} (F : Fr h₀ L h m) (N : News h₀ L h ((P, o) :: c :: rest)) (off : ∀ q ∈ rest, q.1 ≠ P) (keep : ∀ b ob, b ≠ P → h.get? b = some ob → h'.get? b = some ob) (hP : h'.get? P = some o') :
    Fr h₀ L h' m ∧ News h₀ L h' ((P, o') :: rest) := by
  obtain ⟨F', N'⟩ := tab_frame F N (.head _) keep hP
  exact ⟨F', N' rest fun q hq => ⟨.tail _ (.tail _ hq), off q hq⟩⟩
end Mine
namespace Mine
theorem cells_signs {z : Nat} {fs : List Nat} {tl : Nat} : ∀ c ∈ cellsT z fs tl, c = 32 ∨ c = 9 := fun c h => by
  rcases List.mem_append.mp h with h | h
  · obtain ⟨f, _, hc⟩ := List.mem_flatMap.mp h
    exact cell_sign hc
  · exact .inl (List.eq_of_mem_replicate h)
theorem count_let : ∀ fs : List Nat, (fs.map (97 + ·)).count 32 = 0
  | [] => rfl
  | f :: r => by
    rw [List.map_cons, List.count_cons, count_let r, if_neg]
    simp only [beq_iff_eq]; (first | lia | omega)
theorem cells_inj {z : Nat} (h : z = 1 ∨ z = 3 ∨ z = 7) {fs fs2 : List Nat} {tl tl2 : Nat} (hf : ∀ f ∈ fs, f ≤ z) (hf2 : ∀ f ∈ fs2, f ≤ z) (ht : tl < z) (ht2 : tl2 < z) (e : cellsT z fs tl = cellsT z fs2 tl2) : fs.length = fs2.length ∧ tl = tl2 := by
  have h1 := there_is h hf ht
  have h2 := there_is h hf2 ht2
  rw [e, h2] at h1
  have h3 := T_inj.mp h1
  have h4 := congrArg (List.count 32) h3
  have h5 := congrArg List.length h3
  rw [List.count_append, List.count_append, count_let, count_let, List.count_replicate_self, List.count_replicate_self] at h4
  rw [List.length_append, List.length_append, List.length_map, List.length_map, List.length_replicate, List.length_replicate] at h5
  (first | lia | omega)
theorem lvl_cells {z c : Nat} (h : z = 1 ∨ z = 3 ∨ z = 7) {fs : List Nat} {tl : Nat} (hf : ∀ f ∈ fs, f ≤ z) (hl : fs.length = c / z) (ht : tl = c % z) {rs : List Nat} {t : Nat} (e : cellsT z fs tl = enc rs t) : lvlOf z (cellsT z fs tl) = (c : Int) := by
  have hz1 : 1 ≤ z := by (first | lia | omega)
  have htl : tl < z := by rw [ht]; exact Nat.mod_lt _ (by (first | lia | omega))
  rw [e, lvl_enc z hz1]
  have hc := col_div hz1 rs t
  have hm := col_mod (z := z) rs t
  rw [enc_cells hz1] at e
  obtain ⟨e1, e2⟩ := cells_inj h hf (figs_le hz1 rs t) htl (Nat.mod_lt _ (by (first | lia | omega))) e
  have d1 := Nat.div_add_mod (t + z * (lvlR z rs + rs.length)) z
  have d2 := Nat.div_add_mod c z
  rw [hc, hm, ← e1, ← e2, hl, ht] at d1
  (first | lia | omega)
theorem rank_top {z c wd rk : Nat} (hz : 1 ≤ z) (hw : z + 1 = 2 ^ wd) (h : rk < 2 ^ (wd * (c / z))) : rankN z (waysL z c) (cellsT z (topDigs wd (c / z) rk) (c % z)) = (rk : Int) := by
  rw [rank_cells hz (topDigs_le hw _ _) (topDigs_len _ _ _) rfl, hval_d hw, revI_top, dvalL_digs _ _ _ h]
/-- the other is made -/
noncomputable def MidT3 (w : World) (mk : List Nat) (s₁ : Shared) (h₀ : Heap) (L : Addr) (m : Str → Option Value) (all : List (Addr × Obj)) (P : Shared → Prop) : Prop :=
  ∀ x dx nm ct vs t k1 k2 k3 k4 k5 tn tnt tb hh tkk, Fr h₀ L hh (fun y => if y = Str.ofString "other" then some (.ref x) else m y) → News h₀ L hh (wsLed w mk x dx nm ct vs t k1 k2 k3 k4 k5 tn tnt tb ++ all) → IntsAre vs (wsOf mk).1 → P { s₁ with heap := hh, toks := tkk }
theorem n_app {h₀ h : Heap} {L : Addr} {a b : List (Addr × Obj)} (Na : News h₀ L h a) (Nb : News h₀ L h b) : News h₀ L h (a ++ b) := fun q hq => (List.mem_append.mp hq).elim (Na q) (Nb q)
theorem bl_ok (r : Nat) : PyData.strOk (bl r) = true := by
  unfold PyData.strOk bl T
  rw [Array.all_eq_true_iff_forall_mem]
  intro x hx
  have h2 := List.eq_of_mem_replicate (by simpa using hx : x ∈ List.replicate r 32)
  rw [h2]; decide
theorem lay_strs : ∀ ss : List Str, (∀ s ∈ ss, ∃ r, s = bl r) → PyData.canLayAll0 (ss.map PyData.str) = true
  | [], _ => rfl
  | s :: r, h => by
    obtain ⟨k, rfl⟩ := h s (.head _)
    have ih := lay_strs r fun x hx => h x (.tail _ hx)
    simp only [List.map_cons, PyData.canLayAll0, PyData.canLay0, ih, bl_ok, Bool.and_self]
theorem depth_strs : ∀ ss : List Str, PyData.depthAll (ss.map PyData.str) = 0
  | [] => rfl
  | _ :: r => by simp [PyData.depthAll, PyData.depth, depth_strs r]
theorem runs_shaped {rs : List Nat} {t : Nat} {ss : List Str} {last : Str} (h : ss.Perm ((Txt.split (T (enc rs t)) (T [9])).take ((Txt.split (T (enc rs t)) (T [9])).length - 1))) (hl : (Txt.split (T (enc rs t)) (T [9]))[(Txt.split (T (enc rs t)) (T [9])).length - 1]? = some last) : SeqAt.shaped (.tuple [.list (ss.map PyData.str), .str last]) = true := by
  rw [split_take] at h
  have h2 : ∀ s ∈ ss, ∃ r, s = bl r := fun s hs => by
    obtain ⟨r, _, e⟩ := List.mem_map.mp (h.mem_iff.mp hs)
    exact ⟨r, e.symm⟩
  rw [split_end hl]
  simp [SeqAt.shaped, PyData.canLay0, PyData.canLayAll0, PyData.depth, PyData.depthAll, lay_strs ss h2, depth_strs, bl_ok]
theorem cells_runs {z : Nat} (h : z = 1 ∨ z = 3 ∨ z = 7) {fs : List Nat} {tl : Nat} (hf : ∀ f ∈ fs, f ≤ z) (htl : tl < z) {rs : List Nat} {t : Nat} (e : cellsT z fs tl = enc rs t) : rs.length ≤ fs.length := by
  have hz1 : 1 ≤ z := by (first | lia | omega)
  rw [enc_cells hz1] at e
  obtain ⟨e1, _⟩ := cells_inj h hf (figs_le hz1 rs t) htl (Nat.mod_lt _ (by (first | lia | omega))) e
  rw [e1, figs_len]
  generalize t / z = q
  (first | lia | omega)
theorem split_64 {rs : List Nat} {t : Nat} (h : (enc rs t).length ≤ 42) : (Txt.split (T (enc rs t)) (T [9])).length ≤ 64 := by
  rw [split_len]
  have := runs_few h
  (first | lia | omega)
end Mine
namespace Mine
theorem law_all : PySem.Challenge.rw_ph0140_01.Holds := Mine.hd (by
  k_go0
  all_goals try k_fold
  (rename Below _ _ _ _ => KB); (rename Frag.In _ _ => KX); (rename Top _ _ _ _ _ _ => KT); (rename Fr _ _ _ _ => F0); (rename News _ _ _ _ => N0); (rename IntsAre _ _ => hI0)
  (rename World => w)
  refine seg_cut 5 F0 N0 Mid1 ?pA ?pB
  case pA =>
    clear F0 N0
    intro sg Qg F0 N0 hQg
    dsimp only [List.take]
    (repeat' ((fail_if_success (with_reducible show wpAny _ _ (pyIter _) _ _ _)); (fail_if_success (with_reducible show wpAny _ _ (call (Value.ref _) _) _ _ _)); (first | (k_unfold; (try dsimp only)) | (law_purse 100000 => walk1) | (dsimp only; (law_purse 100000 => walk1)))))
    (rename Fr _ _ _ _ => F1); (rename News _ _ _ _ => N1); (rename IntsAre _ ([11, 16] ++ _) => hI1)
    refine lead_does _ _ _ _ hI1 ?hlenzS1 _ _ _ _ _ _ _ _ _ _ _ _ _ _ _ _ _ _ _ _ _ _ KB F1 KX KT rfl ?kd1zS1 ?ku1zS1 (News.isList N1 (by k_mem)) ?_
    case hlenzS1 => simp; (first | lia | omega)
    case kd1zS1 => decide
    case ku1zS1 => decide
    rintro v2 h2 tk2 st2 ⟨t2, rfl⟩
    have F2 := stays_fr F1 st2
    have N2 := stays_news N1 st2
    clear F1 N1
    have hts := sum_of hI0
    generalize hT : (List.map (fun k' => Int.fmod k' 1000) (List.take 63 _)).sum = tot at *
    generalize hq : (tot + 1).fmod 3 = q at *
    have hwd : ∃ wd : Nat, 1 ≤ wd ∧ wd ≤ 3 ∧ (1 + q : Int) = (wd : Int) := ⟨(1 + q).toNat, by (first | lia | omega), by (first | lia | omega), by (first | lia | omega)⟩
    obtain ⟨wd, hwd1, hwd3, hwq⟩ := hwd
    rw [hwq] at F2
    have hzz : ∃ z : Nat, (2 : Int) ^ ((wd : Int)).toNat - 1 = (z : Int) ∧ z + 1 = 2 ^ wd ∧ 1 ≤ z ∧ z ≤ 7 := by
      have h3 : wd = 1 ∨ wd = 2 ∨ wd = 3 := by (first | lia | omega)
      rcases h3 with rfl | rfl | rfl
      · exact ⟨1, by decide, by decide, by decide, by decide⟩
      · exact ⟨3, by decide, by decide, by decide, by decide⟩
      · exact ⟨7, by decide, by decide, by decide, by decide⟩
    obtain ⟨z, hz0, hz1, hz2, hz3⟩ := hzz
    rw [hz0] at F2
    (try dsimp only at F2); (try dsimp only)
    (repeat' ((fail_if_success (with_reducible show wpAny _ _ (pyIter _) _ _ _)); (fail_if_success (with_reducible show wpAny _ _ (call (Value.ref _) _) _ _ _)); (first | (k_unfold; (try dsimp only)) | (law_purse 100000 => walk1) | (dsimp only; (law_purse 100000 => walk1)))))
    (rename Fr _ _ _ _ => F3); (rename News _ _ _ _ => N3)
    have hz4 : z = 1 ∨ z = 3 ∨ z = 7 := by
      have h3 : wd = 1 ∨ wd = 2 ∨ wd = 3 := by (first | lia | omega)
      rcases h3 with rfl | rfl | rfl
      · exact .inl (by (first | lia | omega))
      · exact .inr (.inl (by (first | lia | omega)))
      · exact .inr (.inr (by (first | lia | omega)))
    (rename (_ = Data.cell (some (Value.str (Txt.slice _ _ _) _))) => dS)
    rw [sig_slice hz4] at dS
    refine hQg _ tot wd z _ _ _ _ _ _ _ _ F3 (fun q hq => N3 q ?_) ⟨_, dS⟩ ⟨hts.1, hts.2, hwd1, hwd3, hz1⟩ (by simp; (first | lia | omega))
    unfold led3 at hq
    simp only [List.mem_cons, List.not_mem_nil, or_false] at hq ⊢
    rcases hq with h | h | h <;> simp [h]
  clear F0 N0
  rintro m0 tot wd z xs t1 t2 t3 t4 oS h1 tk1 F1 N1 ⟨tS, dS⟩ hS hx5
  dsimp only [List.drop]
  unfold led3 at *
  obtain ⟨ht0, ht1, hw1, hw3, hzw⟩ := hS
  have hz4 := Sizes.z4 ⟨ht0, ht1, hw1, hw3, hzw⟩
  have hz1 : 1 ≤ z := by (first | lia | omega)
  have hz7 : z ≤ 7 := by (first | lia | omega)
  refine seg_cut 1 F1 N1 (fun s₁ h₀ L P => Mid2 s₁ h₀ L m0 tot wd z (leadOf (11 :: 16 :: xs)) t1 t2 t3 t4 oS P) ?p2 ?q2
  case p2 =>
    clear F1 N1
    intro sg Qg F1 N1 hQg
    dsimp only [List.take]
    have hsl := sig_len z
    (repeat' ((fail_if_success (with_reducible show wpAny _ _ (pyIter _) _ _ _)); (fail_if_success (with_reducible show wpAny _ _ (call (Value.ref _) _) _ _ _)); (fail_if_success (with_reducible show wpAny _ _ (eval (Expr.ListComp _ _ _ _) _) _ _ _)); (fail_if_success (with_reducible show wpAny _ _ (call (Value.type "range") [_, _, _]) _ _ _)); (fail_if_success (with_reducible show LCg.CompSrc _ _ _ _ _ _ _ _ _ _ _ _ _ _)); (first | (k_unfold; (try dsimp only)) | (law_purse 100000 => walk1) | (dsimp only; (law_purse 100000 => walk1)))))
    k_dflt (refine LCg.ListComp_U (F₀ := F1) (by with_unfolding_all rfl) (by decide) (by rfl) (by decide) (by rfl) ?_)
    (repeat' ((fail_if_success (with_reducible show wpAny _ _ (pyIter _) _ _ _)); (fail_if_success (with_reducible show wpAny _ _ (call (Value.ref _) _) _ _ _)); (fail_if_success (with_reducible show wpAny _ _ (eval (Expr.ListComp _ _ _ _) _) _ _ _)); (fail_if_success (with_reducible show wpAny _ _ (call (Value.type "range") [_, _, _]) _ _ _)); (fail_if_success (with_reducible show LCg.CompSrc _ _ _ _ _ _ _ _ _ _ _ _ _ _)); (first | (k_unfold; (try dsimp only)) | (law_purse 100000 => walk1) | (dsimp only; (law_purse 100000 => walk1)))))
    (rename Fr _ _ _ _ => F4); (rename News _ _ _ _ => N4); (rename IsRange _ _ _ _ _ _ _ _ => hr4)
    refine LCg.CompSrc.range (n := z) rfl F4 N4 hr4 (small_one (by (first | lia | omega)) (by (first | lia | omega)) (by (first | lia | omega)) (by (first | lia | omega))) (by rw [rangeSize_nat]; (first | lia | omega)) (by rw [sizeLine_eq]; (first | lia | omega)) (fun g4 => comp_rest (items := List.range z) (fun i v => ∃ t, v = .int ((i : Nat) : Int) t) (fun i y => ∃ t, y = .str (T (List.replicate i 32 ++ [9])) t) (by simp) (fun i v hi hv => ?hPzS2) ?turnzS2 ?finzS2)
    case hPzS2 =>
      obtain ⟨t, rfl⟩ := hv
      exact ⟨i, by simp [hi], t, by simp⟩
    case turnzS2 =>
      clear F4 N4
      rintro i v I oI C oC D m5 ys h5 tk5 E5 hi ⟨t5, rfl⟩ hC5 hx5 F5 N5 off5 ne5
      have hi7 : i < 7 := by have := List.mem_range.mp hi; (first | lia | omega)
      (repeat' ((fail_if_success (with_reducible show wpAny _ _ (pyIter _) _ _ _)); (fail_if_success (with_reducible show wpAny _ _ (call (Value.ref _) _) _ _ _)); (fail_if_success (with_reducible show wpAny _ _ (eval (Expr.ListComp _ _ _ _) _) _ _ _)); (fail_if_success (with_reducible show wpAny _ _ (call (Value.type "range") [_, _, _]) _ _ _)); (fail_if_success (with_reducible show LCg.CompSrc _ _ _ _ _ _ _ _ _ _ _ _ _ _)); (first | (k_unfold; (try dsimp only)) | (law_purse 100000 => walk1) | (dsimp only; (law_purse 100000 => walk1)))))
      (rename Fr _ _ _ _ => F6); (rename News _ _ _ _ => N6)
      refine LCg.CompEnd.intro F6 N6 _ (fun p hp => hp) off5 trivial ⟨rfl, ?_⟩
      rw [T_blank, T_tab, T_mul, T_append, Int.toNat_natCast]
      exact ⟨_, rfl⟩
    case finzS2 =>
      clear F4 N4
      intro ys4 hB4 D6 h6 tk6 F6 N6 off6
      have hS6 := hB4.strs
      (try simp only [LCg.Off1, and_true] at off6)
      (try dsimp only)
      (repeat' ((fail_if_success (with_reducible show wpAny _ _ (pyIter _) _ _ _)); (fail_if_success (with_reducible show wpAny _ _ (call (Value.ref _) _) _ _ _)); (fail_if_success (with_reducible show wpAny _ _ (eval (Expr.ListComp _ _ _ _) _) _ _ _)); (fail_if_success (with_reducible show wpAny _ _ (call (Value.type "range") [_, _, _]) _ _ _)); (fail_if_success (with_reducible show LCg.CompSrc _ _ _ _ _ _ _ _ _ _ _ _ _ _)); (first | (k_unfold; (try dsimp only)) | (law_purse 100000 => walk1) | (dsimp only; (law_purse 100000 => walk1)))))
      (rename Fr _ _ _ _ => F7); (rename News _ _ _ _ => N7)
      have hL6 := hS6.length
      rw [List.length_map, List.length_range] at hL6
      refine add_lists F7 N7 (News.isList N7 (by k_mem)) (News.isList N7 (by k_mem)) (fun h8 F8 N8 => ?_) (by rw [sizeLine_eq, hL6]; simp; (first | lia | omega))
      (try dsimp only at F8 N8); (try dsimp only)
      have lA := Heap.lt_size (N7 (37, tabObj #[]) (by k_mem)).1
      have lB := Heap.lt_size (N7 (_, oS) (by k_mem)).1
      clear F7 N7
      have hC8 := fun t => cells_are (t := t) hS6
      (repeat' ((fail_if_success (with_reducible show wpAny _ _ (pyIter _) _ _ _)); (fail_if_success (with_reducible show wpAny _ _ (call (Value.ref _) _) _ _ _)); (fail_if_success (with_reducible show wpAny _ _ (eval (Expr.ListComp _ _ _ _) _) _ _ _)); (fail_if_success (with_reducible show wpAny _ _ (call (Value.type "range") [_, _, _]) _ _ _)); (fail_if_success (with_reducible show LCg.CompSrc _ _ _ _ _ _ _ _ _ _ _ _ _ _)); (first | (k_unfold; (try dsimp only)) | (law_purse 100000 => walk1) | (dsimp only; (law_purse 100000 => walk1)))))
      (rename Fr _ _ _ _ => F9); (rename News _ _ _ _ => N9)
      exact hQg _ _ _ _ _ F9 (n_cons N9 (.head _) (n_cons N9 (by k_mem) (n_cons N9 (by k_mem) (n_cons N9 (by k_mem) News.nil)))) (hC8 _) lB lA
  clear F1 N1
  rintro C vsC nC h2 tk2 F2 N2 hCel lC1 lC2
  dsimp only [List.drop]
  unfold led3 at *
  have hsl := sig_len z
  refine seg_cut 3 F2 N2 (fun s₁ h₀ L P => Mid3 s₁ h₀ L tot wd z (leadOf (11 :: 16 :: xs)) t1 t2 t3 t4 oS P) ?p3 ?q3
  case p3 =>
    clear F2 N2
    intro sg Qg F2 N2 hQg
    dsimp only [List.take]
    (repeat' ((fail_if_success (with_reducible show wpAny _ _ (pyIter _) _ _ _)); (fail_if_success (with_reducible show wpAny _ _ (call (Value.ref _) _) _ _ _)); (fail_if_success (with_reducible show wpAny _ _ (eval (Expr.ListComp _ _ _ _) _) _ _ _)); (fail_if_success (with_reducible show wpAny _ _ (call (Value.type "range") [_, _, _]) _ _ _)); (fail_if_success (with_reducible show LCg.CompSrc _ _ _ _ _ _ _ _ _ _ _ _ _ _)); (first | (k_unfold; (try dsimp only)) | (law_purse 100000 => walk1) | (dsimp only; (law_purse 100000 => walk1)))))
    (rename Fr _ _ _ _ => F9); (rename News _ _ _ _ => N9)
    with_unfolding_all refine range3_rows F9 N9 (by decide) ?_
    intro h10 tk10 t10 u10 v10 hr10 F10 N10 _
    clear F9 N9
    (repeat' ((fail_if_success (with_reducible show wpAny _ _ (pyIter _) _ _ _)); (fail_if_success (with_reducible show wpAny _ _ (call (Value.ref _) _) _ _ _)); (fail_if_success (with_reducible show wpAny _ _ (eval (Expr.ListComp _ _ _ _) _) _ _ _)); (fail_if_success (with_reducible show wpAny _ _ (call (Value.type "range") [_, _, _]) _ _ _)); (fail_if_success (with_reducible show LCg.CompSrc _ _ _ _ _ _ _ _ _ _ _ _ _ _)); (first | (k_unfold; (try dsimp only)) | (law_purse 100000 => walk1) | (dsimp only; (law_purse 100000 => walk1)))))
    refine loop_range (n := z + 1) (PairJ z _ _ _ _) rfl hr10 (small_down (by (first | lia | omega)) (by (first | lia | omega)) (by (first | lia | omega)) (by (first | lia | omega))) ?hnzS3 F10 N10 pairJ0 ?turn2zS3 ?done2zS3
    case hnzS3 => rw [rangeSize_downNat]; (first | lia | omega)
    case turn2zS3 =>
      clear F10 N10
      rintro i t11 m11 n11 s11 io11 Qt hNt hBk hRt hi11 ⟨kv, vsB, vsT, nB, nT, rfl, rfl, hT11, hB11⟩ hof11 F11 N11
      rw [pairM, show (z : Int) + (i : Int) * -1 = ((z - i : Nat) : Int) from by (first | lia | omega)] at F11
      (try dsimp only [envOfC] at F11 N11)
      have hj11 : z - i ≤ z := by (first | lia | omega)
      generalize hj : z - i = j at *
      have hlT := hT11.len
      have hlB := hB11.len
      rw [thereP_len] at hlT
      rw [backP_len] at hlB
      (repeat' ((fail_if_success (with_reducible show wpAny _ _ (pyIter _) _ _ _)); (fail_if_success (with_reducible show wpAny _ _ (call (Value.ref _) _) _ _ _)); (fail_if_success (with_reducible show wpAny _ _ (eval (Expr.ListComp _ _ _ _) _) _ _ _)); (fail_if_success (with_reducible show wpAny _ _ (call (Value.type "range") [_, _, _]) _ _ _)); (fail_if_success (with_reducible show LCg.CompSrc _ _ _ _ _ _ _ _ _ _ _ _ _ _)); (first | (k_unfold; (try dsimp only)) | (law_purse 100000 => walk1) | (dsimp only; (law_purse 100000 => walk1)))))
      (rename Fr _ _ _ _ => F12); (rename News _ _ _ _ => N12)
      refine item_strsA (News.isList N12 (by k_mem)) hCel (by (first | lia | omega)) (by simp; (first | lia | omega)) (by (first | lia | omega)) (fun t12 => ?_)
      rw [cells_get hj11]
      (repeat' ((fail_if_success (with_reducible show wpAny _ _ (pyIter _) _ _ _)); (fail_if_success (with_reducible show wpAny _ _ (call (Value.ref _) _) _ _ _)); (fail_if_success (with_reducible show wpAny _ _ (eval (Expr.ListComp _ _ _ _) _) _ _ _)); (fail_if_success (with_reducible show wpAny _ _ (call (Value.type "range") [_, _, _]) _ _ _)); (fail_if_success (with_reducible show LCg.CompSrc _ _ _ _ _ _ _ _ _ _ _ _ _ _)); (first | (k_unfold; (try dsimp only)) | (law_purse 100000 => walk1) | (dsimp only; (law_purse 100000 => walk1)))))
      (rename Fr _ _ _ _ => F13); (rename News _ _ _ _ => N13)
      have q1 := toN (hof11 _ (.head _))
      have q2 := toN (hof11 _ (.tail _ (.head _)))
      have q3 := toN (hof11 _ (.tail _ (.tail _ (.head _))))
      have q4 := toN (hof11 _ (.tail _ (.tail _ (.tail _ (.head _)))))
      have q5 := toN (hof11 _ (.tail _ (.tail _ (.tail _ (.tail _ (.head _))))))
      have q6 := toN (hof11 _ (.tail _ (.tail _ (.tail _ (.tail _ (.tail _ (.head _)))))))
      dsimp only at q1 q2 q3 q4 q5 q6
      refine extend_in (own := [_, _, _]) F13 N13 ?o1zS3 ?o2zS3 (N13 _ (.head _)).1 (fun h14 n14 F14 N14 => ?_) ?szzS3
      case o1zS3 =>
        intro p hp
        simp only [List.mem_cons, List.not_mem_nil, or_false] at hp
        rcases hp with rfl | rfl | rfl <;> exact ofN (by (try dsimp only); (first | lia | omega))
      case o2zS3 =>
        intro p hp
        simp only [List.mem_cons, List.not_mem_nil, or_false] at hp
        rcases hp with rfl | rfl | rfl | rfl <;> exact ofN (by (try dsimp only); (first | lia | omega))
      case szzS3 => rw [sizeLine_eq]; simp; (first | lia | omega)
      simp only [List.cons_append, List.nil_append] at N14
      dsimp only
      clear F13 N13
      (repeat' ((fail_if_success (with_reducible show wpAny _ _ (pyIter _) _ _ _)); (fail_if_success (with_reducible show wpAny _ _ (call (Value.ref _) _) _ _ _)); (fail_if_success (with_reducible show wpAny _ _ (eval (Expr.ListComp _ _ _ _) _) _ _ _)); (fail_if_success (with_reducible show wpAny _ _ (call (Value.type "range") [_, _, _]) _ _ _)); (fail_if_success (with_reducible show LCg.CompSrc _ _ _ _ _ _ _ _ _ _ _ _ _ _)); (first | (k_unfold; (try dsimp only)) | (law_purse 100000 => walk1) | (dsimp only; (law_purse 100000 => walk1)))))
      (rename Fr _ _ _ _ => F15); (rename News _ _ _ _ => N15)
      refine item_strsA (News.isList N15 (by k_mem)) hCel (by (first | lia | omega)) (by simp; (first | lia | omega)) (by (first | lia | omega)) (fun t15 => ?_)
      rw [cells_get hj11]
      (repeat' ((fail_if_success (with_reducible show wpAny _ _ (pyIter _) _ _ _)); (fail_if_success (with_reducible show wpAny _ _ (call (Value.ref _) _) _ _ _)); (fail_if_success (with_reducible show wpAny _ _ (eval (Expr.ListComp _ _ _ _) _) _ _ _)); (fail_if_success (with_reducible show wpAny _ _ (call (Value.type "range") [_, _, _]) _ _ _)); (fail_if_success (with_reducible show LCg.CompSrc _ _ _ _ _ _ _ _ _ _ _ _ _ _)); (first | (k_unfold; (try dsimp only)) | (law_purse 100000 => walk1) | (dsimp only; (law_purse 100000 => walk1)))))
      (rename Fr _ _ _ _ => F16); (rename News _ _ _ _ => N16)
      refine extend_in (own := [_, _, _]) F16 N16 ?o3zS3 ?o4zS3 (N16 _ (.head _)).1 (fun h17 n17 F17 N17 => ?_) ?sz2zS3
      case o3zS3 =>
        intro p hp
        simp only [List.mem_cons, List.not_mem_nil, or_false] at hp
        rcases hp with rfl | rfl | rfl <;> exact ofN (by (try dsimp only); (first | lia | omega))
      case o4zS3 =>
        intro p hp
        simp only [List.mem_cons, List.not_mem_nil, or_false] at hp
        rcases hp with rfl | rfl | rfl | rfl | rfl <;> exact ofN (by (try dsimp only); (first | lia | omega))
      case sz2zS3 => rw [sizeLine_eq]; simp; (first | lia | omega)
      simp only [List.cons_append, List.nil_append] at N17
      dsimp only
      clear F16 N16
      (repeat' ((fail_if_success (with_reducible show wpAny _ _ (pyIter _) _ _ _)); (fail_if_success (with_reducible show wpAny _ _ (call (Value.ref _) _) _ _ _)); (fail_if_success (with_reducible show wpAny _ _ (eval (Expr.ListComp _ _ _ _) _) _ _ _)); (fail_if_success (with_reducible show wpAny _ _ (call (Value.type "range") [_, _, _]) _ _ _)); (fail_if_success (with_reducible show LCg.CompSrc _ _ _ _ _ _ _ _ _ _ _ _ _ _)); (first | (k_unfold; (try dsimp only)) | (law_purse 100000 => walk1) | (dsimp only; (law_purse 100000 => walk1)))))
      (rename Fr _ _ _ _ => F18); (rename News _ _ _ _ => N18)
      rw [sig_item hz4 hj11] at N18
      refine hNt _ _ _ _ F18 (n_cons N18 (by k_mem) (n_cons N18 (.tail _ (.tail _ (.tail _ (.head _)))) (n_cons N18 (.tail _ (.tail _ (.tail _ (.tail _ (.head _))))) (n_cons N18 (by k_mem) (n_cons N18 (by k_mem) (n_cons N18 (by k_mem) (n_cons N18 (by k_mem) News.nil))))))) ?offzS3 ⟨_, _, _, _, _, rfl, rfl, ?jtzS3, ?jbzS3⟩
      case offzS3 =>
        intro p hp
        simp only [List.mem_cons, List.not_mem_nil, or_false] at hp
        rcases hp with rfl | rfl | rfl | rfl | rfl | rfl <;> exact ofN (by (try dsimp only); (first | lia | omega))
      case jtzS3 => rw [thereP_succ, hj]; exact hT11.snoc
      case jbzS3 => rw [backP_succ, hj]; exact hB11.snoc
    case done2zS3 =>
      clear F10 N10
      rintro m19 n19 h19 tk19 ⟨kv, vsB, vsT, nB, nT, rfl, rfl, hT19, hB19⟩ F19 N19
      (repeat' ((fail_if_success (with_reducible show wpAny _ _ (pyIter _) _ _ _)); (fail_if_success (with_reducible show wpAny _ _ (call (Value.ref _) _) _ _ _)); (fail_if_success (with_reducible show wpAny _ _ (eval (Expr.ListComp _ _ _ _) _) _ _ _)); (fail_if_success (with_reducible show wpAny _ _ (call (Value.type "range") [_, _, _]) _ _ _)); (fail_if_success (with_reducible show LCg.CompSrc _ _ _ _ _ _ _ _ _ _ _ _ _ _)); (first | (k_unfold; (try dsimp only)) | (law_purse 100000 => walk1) | (dsimp only; (law_purse 100000 => walk1)))))
      exact hQg _ _ _ _ _ _ _ _ _ (fr_eq F19 mapC_is) (n_cons N19 (.head _) (n_cons N19 (.tail _ (.head _)) (n_cons N19 (by k_mem) (n_cons N19 (by k_mem) (n_cons N19 (by k_mem) News.nil))))) hT19 hB19 (by (first | lia | omega)) (by (first | lia | omega)) (by (first | lia | omega))
  clear F2 N2 hCel lC1 lC2
  rintro m3 Th B vsT vsB nT nB h3 tk3 F3 N3 hThere hBack lT1 lT2 lB1
  dsimp only [List.drop]
  unfold led3 at *
  have hll := lead_len (11 :: 16 :: xs)
  rw [T_length] at hll
  obtain ⟨rs, tt, hrs⟩ := lead_enc xs
  rw [hrs] at F3 hll
  clear hrs
  have hls := enc_signs (5 :: rs) tt
  have hcol := lvl_enc z hz1 (5 :: rs) tt
  have hcd := col_div hz1 (5 :: rs) tt
  have hcm := col_mod (z := z) (5 :: rs) tt
  have hfz := figs_le hz1 (5 :: rs) tt
  have hfl := figs_small (z := z) (5 :: rs) tt
  have hce := enc_cells hz1 (5 :: rs) tt
  have htl : tt % z < z := Nat.mod_lt _ (by (first | lia | omega))
  generalize hc : tt + z * (lvlR z (5 :: rs) + (5 :: rs).length) = c at hcol hcd hcm
  generalize hfs : figs z (5 :: rs) tt = fs at *
  generalize hld : enc (5 :: rs) tt = ls at *
  have hll2 : ls.length ≤ 42 := by simp only [List.length_cons] at hll; (first | lia | omega)
  have hlT : (Mine.T ls).length ≤ 42 := by rw [T_length]; exact hll2
  clear hll
  refine seg_cut 2 F3 N3 (fun s₁ h₀ L P => Mid4 w m3 tot wd z ls t1 t2 t3 t4 Th B ((B, W.listOf (List.toArray vsB) nB) :: (Th, W.listOf (List.toArray vsT) nT) :: led3 L oS) c s₁ h₀ L P) ?p4 ?q4
  case p4 =>
    clear F3 N3
    intro sg Qg F3 N3 hQg
    dsimp only [List.take]
    (repeat' ((fail_if_success (with_reducible show wpAny _ _ (pyIter _) _ _ _)); (fail_if_success (with_reducible show wpAny _ _ (call (Value.ref _) _) _ _ _)); (fail_if_success (with_reducible show wpAny _ _ (eval (Expr.ListComp _ _ _ _) _) _ _ _)); (fail_if_success (with_reducible show wpAny _ _ (call (Value.type "range") [_, _, _]) _ _ _)); (fail_if_success (with_reducible show LCg.CompSrc _ _ _ _ _ _ _ _ _ _ _ _ _ _)); (first | (k_unfold; (try dsimp only)) | (law_purse 100000 => walk1) | (dsimp only; (law_purse 100000 => walk1)))))
    (rename Fr _ _ _ _ => F5); (rename News _ _ _ _ => N5)
    rw [T_x, T_append]
    refine' call_cls F5 KX N5 ?k4zS4 ?k5zS4 ?k6zS4 ?_
    case k4zS4 => k_is
    case k5zS4 => k_is
    case k6zS4 => k_is
    intro x dx h6 F6 N6 lt6 ltx6
    refine init_code w ls _ x dx hls (by (first | lia | omega)) ltx6 _ _ _ _ _ _ _ _ _ _ _ _ _ _ _ _ _ _ _ _ _ KB F6 KX KT rfl ?kdzS4 ?kuzS4 (n_cons N6 (.head _) (n_cons N6 (.tail _ (.head _)) News.nil)) ?_
    case kdzS4 => exact of_decide_eq_true rfl
    case kuzS4 => exact of_decide_eq_true rfl
    intro nm ct vs k1 k2 k3 k4 k5 tn tnt tb h7 tk7 keep7 hd7 hn7 hc7 hI7 fn7 fc7
    refine ⟨rfl, ?_⟩
    obtain ⟨F7, N7, ne7⟩ := ws_frame F6 N6 lt6 ltx6 keep7 hd7 hn7 hc7 fn7 fc7
    clear F5 N5 F6 N6
    try dsimp only
    (repeat' ((fail_if_success (with_reducible show wpAny _ _ (pyIter _) _ _ _)); (fail_if_success (with_reducible show wpAny _ _ (call (Value.ref _) _) _ _ _)); (fail_if_success (with_reducible show wpAny _ _ (eval (Expr.ListComp _ _ _ _) _) _ _ _)); (fail_if_success (with_reducible show wpAny _ _ (call (Value.type "range") [_, _, _]) _ _ _)); (fail_if_success (with_reducible show LCg.CompSrc _ _ _ _ _ _ _ _ _ _ _ _ _ _)); (first | (k_unfold; (try dsimp only)) | (law_purse 100000 => walk1) | (dsimp only; (law_purse 100000 => walk1)))))
    refine lvl_does w ls x dx nm ct vs _ k1 k2 k3 k4 k5 tn tnt tb z _ hI7 (by (first | lia | omega)) hz1 (by (first | lia | omega)) _ _ _ _ _ _ _ _ _ _ _ _ _ _ _ _ _ _ _ _ _ _ KB (by assumption) KX KT rfl ?kd2zS4 ?ku2zS4 (app_l (by assumption)) ?_
    case kd2zS4 => exact of_decide_eq_true rfl
    case ku2zS4 => exact of_decide_eq_true rfl
    rintro v8 h8 tk8 st8 ⟨t8, rfl⟩
    (rename Fr _ _ _ _ => F8); (rename News _ _ _ _ => N8)
    have F9 := stays_fr F8 st8
    have N9 := stays_news N8 st8
    rw [hcol]
    clear F8 N8
    try dsimp only
    (repeat' ((fail_if_success (with_reducible show wpAny _ _ (pyIter _) _ _ _)); (fail_if_success (with_reducible show wpAny _ _ (call (Value.ref _) _) _ _ _)); (fail_if_success (with_reducible show wpAny _ _ (eval (Expr.ListComp _ _ _ _) _) _ _ _)); (fail_if_success (with_reducible show wpAny _ _ (call (Value.type "range") [_, _, _]) _ _ _)); (fail_if_success (with_reducible show LCg.CompSrc _ _ _ _ _ _ _ _ _ _ _ _ _ _)); (first | (k_unfold; (try dsimp only)) | (law_purse 100000 => walk1) | (dsimp only; (law_purse 100000 => walk1)))))
    exact hQg x dx nm ct vs _ k1 k2 k3 k4 k5 tn tnt tb _ _ _ (by assumption) (by assumption) hI7 ne7
  clear F3 N3
  rintro x dx nm ct vsW tW k1 k2 k3 k4 k5 tn tnt tb tc h4 tk4 F4 N4 hIW ne4
  dsimp only [List.drop]
  unfold led3 at *
  have hTl := hThere.len
  rw [thereP_len] at hTl
  have hfit2 : fits (Mine.T ls) [([32, 32], [32])] := hld ▸ half_fits (5 :: rs) tt (by rw [hld]; (first | lia | omega))
  have hhal : replS (Mine.T ls) [([32, 32], [32])] = Mine.T (enc ((5 :: rs).map fun r => (r + 1) / 2) ((tt + 1) / 2)) := hld ▸ half_is (5 :: rs) tt
  have hhl : (Mine.T (enc ((5 :: rs).map fun r => (r + 1) / 2) ((tt + 1) / 2))).length ≤ 100000 := by rw [← hhal]; exact hfit2.2.2.2
  generalize hhv : enc ((5 :: rs).map fun r => (r + 1) / 2) ((tt + 1) / 2) = hv at *
  generalize hwv : fs.map (97 + ·) ++ List.replicate (tt % z) 32 = wv at *
  refine seg_cut 2 F4 N4 (fun s₁ h₀ L P => Mid5 m3 tot wd z ls t1 t2 t3 t4 Th B x c tc wv hv (wsLed w ls x dx nm ct vsW tW k1 k2 k3 k4 k5 tn tnt tb ++ [(B, W.listOf (List.toArray vsB) nB), (Th, W.listOf (List.toArray vsT) nT), (L + 1, oS), (37, tabObj #[]), (30, tabObj #[])]) s₁ h₀ L P) ?p5 ?q5
  case p5 =>
    clear F4 N4
    intro sg Qg F4 N4 hQg
    dsimp only [List.take]
    (repeat' ((fail_if_success (with_reducible show wpAny _ _ (pyIter _) _ _ _)); (fail_if_success (with_reducible show wpAny _ _ (call (Value.ref _) _) _ _ _)); (fail_if_success (with_reducible show wpAny _ _ (eval (Expr.ListComp _ _ _ _) _) _ _ _)); (fail_if_success (with_reducible show wpAny _ _ (call (Value.type "range") [_, _, _]) _ _ _)); (fail_if_success (with_reducible show LCg.CompSrc _ _ _ _ _ _ _ _ _ _ _ _ _ _)); (first | (k_unfold; (try dsimp only)) | (law_purse 100000 => walk1) | (dsimp only; (law_purse 100000 => walk1)))))
    refine star_seq F4 N4 (by k_mem) rfl rfl (.inl rfl) (List.toList_toArray) (by rw [sizeLine_eq, List.size_toArray]; (first | lia | omega)) (fun h5 F5 N5 => ?_)
    clear F4 N4
    try dsimp only
    (repeat' ((fail_if_success (with_reducible show wpAny _ _ (pyIter _) _ _ _)); (fail_if_success (with_reducible show wpAny _ _ (call (Value.ref _) _) _ _ _)); (fail_if_success (with_reducible show wpAny _ _ (eval (Expr.ListComp _ _ _ _) _) _ _ _)); (fail_if_success (with_reducible show wpAny _ _ (call (Value.type "range") [_, _, _]) _ _ _)); (fail_if_success (with_reducible show LCg.CompSrc _ _ _ _ _ _ _ _ _ _ _ _ _ _)); (first | (k_unfold; (try dsimp only)) | (law_purse 100000 => walk1) | (dsimp only; (law_purse 100000 => walk1)))))
    rw [List.append_nil]
    refine repl_does w (Mine.T ls) _ vsT (thereP z (z + 1)) hThere (by (first | lia | omega)) (hce ▸ there_fits hz4 hfz htl (by (first | lia | omega))) _ _ _ _ _ _ _ _ _ _ _ _ _ _ _ _ _ _ _ _ _ _ KB (by assumption) KX KT rfl ?kd5zS5 ?ku5zS5 trivial ?_
    case kd5zS5 => exact of_decide_eq_true rfl
    case ku5zS5 => exact of_decide_eq_true rfl
    rintro v6 h6 tk6 st6 ⟨t6, rfl⟩
    (rename Fr _ _ _ _ => F6); (rename News _ _ _ _ => N6)
    have F7 := stays_fr F6 st6
    have N7 := stays_news N6 st6
    clear F6 N6
    rw [show replS (Mine.T ls) (thereP z (z + 1)) = Mine.T wv from hwv ▸ hce ▸ there_is hz4 hfz htl]
    try dsimp only
    (repeat' ((fail_if_success (with_reducible show wpAny _ _ (pyIter _) _ _ _)); (fail_if_success (with_reducible show wpAny _ _ (call (Value.ref _) _) _ _ _)); (fail_if_success (with_reducible show wpAny _ _ (eval (Expr.ListComp _ _ _ _) _) _ _ _)); (fail_if_success (with_reducible show wpAny _ _ (call (Value.type "range") [_, _, _]) _ _ _)); (fail_if_success (with_reducible show LCg.CompSrc _ _ _ _ _ _ _ _ _ _ _ _ _ _)); (first | (k_unfold; (try dsimp only)) | (law_purse 100000 => walk1) | (dsimp only; (law_purse 100000 => walk1)))))
    rw [T_two, T_blank]
    (rename Fr _ _ _ _ => F8); (rename News _ _ _ _ => N8)
    refine repl_does w (Mine.T ls) _ [_, _] [([32, 32], [32])] (.cons _ _ _ _ .nil) (Nat.le_of_ble_eq_true rfl) hfit2 _ _ _ _ _ _ _ _ _ _ _ _ _ _ _ _ _ _ _ _ _ _ KB F8 KX KT rfl ?kd6zS5 ?ku6zS5 trivial ?_
    case kd6zS5 => exact of_decide_eq_true rfl
    case ku6zS5 => exact of_decide_eq_true rfl
    rintro v9 h9 tk9 st9 ⟨t9, rfl⟩
    have F9 := stays_fr F8 st9
    have N9 := stays_news N8 st9
    clear F8 N8
    rw [hhal]
    try dsimp only
    (repeat' ((fail_if_success (with_reducible show wpAny _ _ (pyIter _) _ _ _)); (fail_if_success (with_reducible show wpAny _ _ (call (Value.ref _) _) _ _ _)); (fail_if_success (with_reducible show wpAny _ _ (eval (Expr.ListComp _ _ _ _) _) _ _ _)); (fail_if_success (with_reducible show wpAny _ _ (call (Value.type "range") [_, _, _]) _ _ _)); (fail_if_success (with_reducible show LCg.CompSrc _ _ _ _ _ _ _ _ _ _ _ _ _ _)); (first | (k_unfold; (try dsimp only)) | (law_purse 100000 => walk1) | (dsimp only; (law_purse 100000 => walk1)))))
    (rename Fr _ _ _ _ => FA); (rename News _ _ _ _ => NA)
    (rename StrsAre _ _ => hSA)
    (rename (List.map _ _ = Txt.split _ _) => hsp)
    rw [hsp, T_tab] at hSA
    exact hQg _ _ _ _ _ FA NA hSA
  clear F4 N4
  rintro tw H vsH h5 tk5 F5 N5 hSH
  dsimp only [List.drop]
  refine seg_cut 1 F5 N5 (fun s₁ h₀ L P => At s₁ h₀ L (mapE m3 tot wd z ls t1 t2 t3 t4 Th B x c tc wv tw H) (wsLed w ls x dx nm ct vsW tW k1 k2 k3 k4 k5 tn tnt tb ++ [(B, W.listOf (List.toArray vsB) nB), (Th, W.listOf (List.toArray vsT) nT), (L + 1, oS), (37, tabObj #[]), (30, tabObj #[])]) P) ?p6 ?q6
  case p6 =>
    clear F5 N5
    intro sg Qg F5 N5 hQg
    dsimp only [List.take]
    (repeat' ((fail_if_success (with_reducible show wpAny _ _ (pyIter _) _ _ _)); (fail_if_success (with_reducible show wpAny _ _ (call (Value.ref _) _) _ _ _)); (fail_if_success (with_reducible show wpAny _ _ (eval (Expr.ListComp _ _ _ _) _) _ _ _)); (fail_if_success (with_reducible show wpAny _ _ (call (Value.type "range") [_, _, _]) _ _ _)); (fail_if_success (with_reducible show LCg.CompSrc _ _ _ _ _ _ _ _ _ _ _ _ _ _)); (first | (k_unfold; (try dsimp only)) | (law_purse 100000 => walk1) | (dsimp only; (law_purse 100000 => walk1)))))
    (rename Fr _ _ _ _ => F6); (rename News _ _ _ _ => N6)
    refine repl_does w (Mine.T ls) _ [] [] .nil (Nat.le_of_ble_eq_true rfl) (show (Mine.T ls).length ≤ 100000 by (first | lia | omega)) _ _ _ _ _ _ _ _ _ _ _ _ _ _ _ _ _ _ _ _ _ _ KB F6 KX KT rfl ?kd7zS6 ?ku7zS6 trivial ?_
    case kd7zS6 => exact of_decide_eq_true rfl
    case ku7zS6 => exact of_decide_eq_true rfl
    rintro v7 h7 tk7 st7 ⟨t7, rfl⟩
    have F7 := stays_fr F6 st7
    have N7 := stays_news N6 st7
    clear F6 N6
    rw [show replS (Mine.T ls) [] = Mine.T ls from rfl]
    try dsimp only
    (repeat' ((fail_if_success (with_reducible show wpAny _ _ (pyIter _) _ _ _)); (fail_if_success (with_reducible show wpAny _ _ (call (Value.ref _) _) _ _ _)); (fail_if_success (with_reducible show wpAny _ _ (eval (Expr.ListComp _ _ _ _) _) _ _ _)); (fail_if_success (with_reducible show wpAny _ _ (call (Value.type "range") [_, _, _]) _ _ _)); (fail_if_success (with_reducible show LCg.CompSrc _ _ _ _ _ _ _ _ _ _ _ _ _ _)); (first | (k_unfold; (try dsimp only)) | (law_purse 100000 => walk1) | (dsimp only; (law_purse 100000 => walk1)))))
    · exact absurd (by assumption : (Mine.T ls != Mine.T ls) = true) (by simp)
    (rename Fr _ _ _ _ => F8); (rename News _ _ _ _ => N8)
    have hSl := hSH.length
    have hrl : (5 :: rs).length ≤ 42 := runs_few (t := tt) (hld ▸ hll2)
    have hhalf := half_lens (5 :: rs) tt
    rw [hhv, hld] at hhalf
    have hsl1 : (Txt.split (Mine.T hv) (Mine.T [9])).length ≤ 43 := by rw [← hhv, split_len, List.length_map]; (first | lia | omega)
    have hsl2 : (Txt.split (Mine.T ls) (Mine.T [9])).length ≤ 43 := by rw [← hld, split_len]; (first | lia | omega)
    k_dflt (refine LCg.ListComp_U (F₀ := F8) (by with_unfolding_all rfl) (by decide) (by rfl) (by decide) (by rfl) ?_)
    (repeat' ((fail_if_success (with_reducible show wpAny _ _ (pyIter _) _ _ _)); (fail_if_success (with_reducible show wpAny _ _ (call (Value.ref _) _) _ _ _)); (fail_if_success (with_reducible show wpAny _ _ (eval (Expr.ListComp _ _ _ _) _) _ _ _)); (fail_if_success (with_reducible show wpAny _ _ (call (Value.type "range") [_, _, _]) _ _ _)); (fail_if_success (with_reducible show LCg.CompSrc _ _ _ _ _ _ _ _ _ _ _ _ _ _)); (first | (k_unfold; (try dsimp only)) | (law_purse 100000 => walk1) | (dsimp only; (law_purse 100000 => walk1)))))
    (rename Fr _ _ _ _ => F9); (rename News _ _ _ _ => N9)
    refine LCg.CompSrc.ledger rfl F9 N9 (.head _) (by rw [List.size_toArray, sizeLine_eq]; (first | lia | omega)) (fun g9 => comp_rest (items := Txt.split (Mine.T hv) (Mine.T [9])) (fun a v => ∃ t, v = .str a t) (fun a y => ∃ t, y = .int (a.length : Nat) t) (by rw [List.size_toArray, hSl]) (fun i v hi hv => strs_get hSH i v hv) ?turnzS6 ?finzS6)
    case turnzS6 =>
      clear F9 N9
      rintro i v I oI C oC D m5 ys h5 tk5 E5 hi ⟨t5, rfl⟩ hC5 hx5 F5 N5 off5 ne5
      have hi9 : i.length ≤ 100000 := by
        rw [← hhv] at hi hhl
        rw [T_length] at hhl
        exact Nat.le_trans (split_small hi) hhl
      (repeat' ((fail_if_success (with_reducible show wpAny _ _ (pyIter _) _ _ _)); (fail_if_success (with_reducible show wpAny _ _ (call (Value.ref _) _) _ _ _)); (fail_if_success (with_reducible show wpAny _ _ (eval (Expr.ListComp _ _ _ _) _) _ _ _)); (fail_if_success (with_reducible show wpAny _ _ (call (Value.type "range") [_, _, _]) _ _ _)); (fail_if_success (with_reducible show LCg.CompSrc _ _ _ _ _ _ _ _ _ _ _ _ _ _)); (first | (k_unfold; (try dsimp only)) | (law_purse 100000 => walk1) | (dsimp only; (law_purse 100000 => walk1)))))
      (rename Fr _ _ _ _ => F6); (rename News _ _ _ _ => N6)
      refine LCg.CompEnd.intro F6 N6 _ (fun p hp => hp) off5 ?hszS6 ?hrzS6
      case hrzS6 => exact ⟨rfl, _, rfl⟩
      case hszS6 => exact .inr ⟨_, .head _, rfl, _, rfl⟩
    case finzS6 =>
      clear F9 N9
      intro ys9 hB9 D9 h10 tk10 F10 N10 off10
      have hS9 := hB9.ints
      (try simp only [LCg.Off1, and_true] at off10)
      (try dsimp only)
      k_dflt (refine LCg.ListComp_U (F₀ := F10) (by with_unfolding_all rfl) (by decide) (by rfl) (by decide) (by rfl) ?_)
      (repeat' ((fail_if_success (with_reducible show wpAny _ _ (pyIter _) _ _ _)); (fail_if_success (with_reducible show wpAny _ _ (call (Value.ref _) _) _ _ _)); (fail_if_success (with_reducible show wpAny _ _ (eval (Expr.ListComp _ _ _ _) _) _ _ _)); (fail_if_success (with_reducible show wpAny _ _ (call (Value.type "range") [_, _, _]) _ _ _)); (fail_if_success (with_reducible show LCg.CompSrc _ _ _ _ _ _ _ _ _ _ _ _ _ _)); (first | (k_unfold; (try dsimp only)) | (law_purse 100000 => walk1) | (dsimp only; (law_purse 100000 => walk1)))))
      (rename Fr _ _ _ _ => F11); (rename News _ _ _ _ => N11)
      (rename StrsAre _ _ => hS2); (rename (List.map _ _ = Txt.split _ _) => hsp2)
      rw [hsp2, T_tab] at hS2
      have hSl2 := hS2.length
      refine LCg.CompSrc.ledger rfl F11 N11 (.head _) (by rw [List.size_toArray, sizeLine_eq]; (first | lia | omega)) (fun g9 => comp_rest (items := Txt.split (Mine.T ls) (Mine.T [9])) (fun a v => ∃ t, v = .str a t) (fun a y => ∃ t, y = .int (((a.length + 1) / 2 : Nat) : Int) t) (by rw [List.size_toArray, hSl2]) (fun i v hi hv => strs_get hS2 i v hv) ?turn2zS6 ?fin2zS6)
      case turn2zS6 =>
        clear F11 N11
        rintro i v I oI C oC D m5 ys h5 tk5 E5 hi ⟨t5, rfl⟩ hC5 hx5 F5 N5 off5 ne5
        have hi9 : i.length ≤ 42 := by
          rw [← hld] at hi hll2
          exact Nat.le_trans (split_small hi) hll2
        (repeat' ((fail_if_success (with_reducible show wpAny _ _ (pyIter _) _ _ _)); (fail_if_success (with_reducible show wpAny _ _ (call (Value.ref _) _) _ _ _)); (fail_if_success (with_reducible show wpAny _ _ (eval (Expr.ListComp _ _ _ _) _) _ _ _)); (fail_if_success (with_reducible show wpAny _ _ (call (Value.type "range") [_, _, _]) _ _ _)); (fail_if_success (with_reducible show LCg.CompSrc _ _ _ _ _ _ _ _ _ _ _ _ _ _)); (first | (k_unfold; (try dsimp only)) | (law_purse 100000 => walk1) | (dsimp only; (law_purse 100000 => walk1)))))
        (rename Fr _ _ _ _ => F6); (rename News _ _ _ _ => N6)
        refine LCg.CompEnd.intro F6 N6 _ (fun p hp => hp) off5 ?hs2zS6 ?hr2zS6
        case hs2zS6 => exact .inr ⟨_, .head _, rfl, _, rfl⟩
        case hr2zS6 => exact ⟨rfl, _, by rw [show (((i.length : Nat) : Int) + 1) = ((i.length + 1 : Nat) : Int) from rfl, show (2 : Int) = ((2 : Nat) : Int) from rfl, fdivN]⟩
      case fin2zS6 =>
        clear F11 N11
        intro ys12 hB12 D12 h12 tk12 F12 N12 off12
        have hS12 := hB12.ints
        (try simp only [LCg.Off1, and_true] at off12)
        (try dsimp only)
        (repeat' ((fail_if_success (with_reducible show wpAny _ _ (pyIter _) _ _ _)); (fail_if_success (with_reducible show wpAny _ _ (call (Value.ref _) _) _ _ _)); (fail_if_success (with_reducible show wpAny _ _ (eval (Expr.ListComp _ _ _ _) _) _ _ _)); (fail_if_success (with_reducible show wpAny _ _ (call (Value.type "range") [_, _, _]) _ _ _)); (fail_if_success (with_reducible show LCg.CompSrc _ _ _ _ _ _ _ _ _ _ _ _ _ _)); (first | (k_unfold; (try dsimp only)) | (law_purse 100000 => walk1) | (dsimp only; (law_purse 100000 => walk1)))))
        exact hQg _ _ (by assumption) (n_drop (n_drop (n_drop (n_drop (by assumption)))))
  clear F5 N5 hSH
  rintro h6 tk6 F6 N6
  dsimp only [List.drop]
  have hwl : (Mine.T wv).length ≤ 100 := by rw [T_length, ← hwv, List.length_append, List.length_map, List.length_replicate]; (first | lia | omega)
  have hwl2 : fs.length ≤ wv.length := by rw [← hwv, List.length_append, List.length_map]; (first | lia | omega)
  refine seg_cut 1 F6 N6 (fun s₁ h₀ L P => Mid7 m3 tot wd z ls t1 t2 t3 t4 Th B x c tc wv tw H fs (wsLed w ls x dx nm ct vsW tW k1 k2 k3 k4 k5 tn tnt tb ++ [(B, W.listOf (List.toArray vsB) nB), (Th, W.listOf (List.toArray vsT) nT), (L + 1, oS), (37, tabObj #[]), (30, tabObj #[])]) s₁ h₀ L P) ?p7 ?q7
  case p7 =>
    clear F6 N6
    intro sg Qg F6 N6 hQg
    dsimp only [List.take]
    (repeat' ((fail_if_success (with_reducible show wpAny _ _ (pyIter _) _ _ _)); (fail_if_success (with_reducible show wpAny _ _ (call (Value.ref _) _) _ _ _)); (fail_if_success (with_reducible show wpAny _ _ (eval (Expr.ListComp _ _ _ _) _) _ _ _)); (fail_if_success (with_reducible show wpAny _ _ (exec (Stmt.Assign _ (Expr.ListComp _ _ _ _) _) _) _ _ _)); (fail_if_success (with_reducible show Exists _)); (fail_if_success (with_reducible show wpAny _ _ (call (Value.type "range") [_, _, _]) _ _ _)); (fail_if_success (with_reducible show LCg.CompSrc _ _ _ _ _ _ _ _ _ _ _ _ _ _)); (first | (k_unfold; (try dsimp only)) | (law_purse 100000 => walk1) | (dsimp only; (law_purse 100000 => walk1)))))
    refine' assign_str F6 ?m1zS7 ?m2zS7 ?m3zS7 ?m4zS7 ?m5zS7 ?m6zS7 ?m7zS7 ?m8zS7 ?m9zS7 ?m10zS7 ?m11zS7 ?m12zS7
    case m1zS7 => rfl
    case m2zS7 => rfl
    case m3zS7 => with_unfolding_all rfl
    case m4zS7 => decide
    case m5zS7 => rfl
    case m6zS7 => decide
    case m7zS7 => rfl
    case m8zS7 => rfl
    case m9zS7 => rfl
    case m10zS7 => rfl
    case m11zS7 => intro _; rfl
    (repeat' ((fail_if_success (with_reducible show wpAny _ _ (pyIter _) _ _ _)); (fail_if_success (with_reducible show wpAny _ _ (call (Value.ref _) _) _ _ _)); (fail_if_success (with_reducible show wpAny _ _ (eval (Expr.ListComp _ _ _ _) _) _ _ _)); (fail_if_success (with_reducible show wpAny _ _ (exec (Stmt.Assign _ (Expr.ListComp _ _ _ _) _) _) _ _ _)); (fail_if_success (with_reducible show Exists _)); (fail_if_success (with_reducible show wpAny _ _ (call (Value.type "range") [_, _, _]) _ _ _)); (fail_if_success (with_reducible show LCg.CompSrc _ _ _ _ _ _ _ _ _ _ _ _ _ _)); (first | (k_unfold; (try dsimp only)) | (law_purse 100000 => walk1) | (dsimp only; (law_purse 100000 => walk1)))))
    (rename Fr _ _ _ _ => F7); (rename News _ _ _ _ => N7)
    have hfd : (c : Int).fdiv (z : Int) = ((fs.length : Nat) : Int) := by rw [fdivN, hcd]
    have hwt : wv.take fs.length = fs.map (97 + ·) := by rw [← hwv, word_take]
    rw [hfd, slice_to hwl2, hwt]
    refine ⟨_, _, _, rfl, F7, N7, ?sz7zS7, ?rest7zS7⟩
    case sz7zS7 => show (Mine.T _).length ≤ _; rw [T_length, sizeLine_eq, List.length_map]; (first | lia | omega)
    case rest7zS7 =>
      rintro s₂ ⟨g7, rfl⟩
      refine comp_rest (items := fs.map (97 + ·)) (fun c v => ∃ u, v = .str ⟨#[c]⟩ u) (fun c y => ∃ t, y = .int (Txt.find (Mine.T (sigL z)) ⟨#[c]⟩) t) rfl (fun i v hi hv => sign_get hv) ?turn7zS7 ?fin7zS7
      case turn7zS7 =>
        clear F7 N7
        rintro i v I oI C oC D m5 ys h5 tk5 E5 hi ⟨t5, rfl⟩ hC5 hx5 F5 N5 off5 ne5
        (repeat' ((fail_if_success (with_reducible show wpAny _ _ (pyIter _) _ _ _)); (fail_if_success (with_reducible show wpAny _ _ (call (Value.ref _) _) _ _ _)); (fail_if_success (with_reducible show wpAny _ _ (eval (Expr.ListComp _ _ _ _) _) _ _ _)); (fail_if_success (with_reducible show wpAny _ _ (exec (Stmt.Assign _ (Expr.ListComp _ _ _ _) _) _) _ _ _)); (fail_if_success (with_reducible show Exists _)); (fail_if_success (with_reducible show wpAny _ _ (call (Value.type "range") [_, _, _]) _ _ _)); (fail_if_success (with_reducible show LCg.CompSrc _ _ _ _ _ _ _ _ _ _ _ _ _ _)); (first | (k_unfold; (try dsimp only)) | (law_purse 100000 => walk1) | (dsimp only; (law_purse 100000 => walk1)))))
        (rename Fr _ _ _ _ => F8); (rename News _ _ _ _ => N8)
        refine LCg.CompEnd.intro F8 N8 _ (fun p hp => hp) off5 trivial ?hr7zS7
        exact ⟨rfl, _, rfl⟩
      case fin7zS7 =>
        intro ys7 hB7 D7 h8 tk8 F8 N8 off8
        have hI7 := hB7.ints
        rw [finds hz4 fs hfz] at hI7
        clear F7 N7
        (repeat' ((fail_if_success (with_reducible show wpAny _ _ (pyIter _) _ _ _)); (fail_if_success (with_reducible show wpAny _ _ (call (Value.ref _) _) _ _ _)); (fail_if_success (with_reducible show wpAny _ _ (eval (Expr.ListComp _ _ _ _) _) _ _ _)); (fail_if_success (with_reducible show wpAny _ _ (exec (Stmt.Assign _ (Expr.ListComp _ _ _ _) _) _) _ _ _)); (fail_if_success (with_reducible show Exists _)); (fail_if_success (with_reducible show wpAny _ _ (call (Value.type "range") [_, _, _]) _ _ _)); (fail_if_success (with_reducible show LCg.CompSrc _ _ _ _ _ _ _ _ _ _ _ _ _ _)); (first | (k_unfold; (try dsimp only)) | (law_purse 100000 => walk1) | (dsimp only; (law_purse 100000 => walk1)))))
        exact hQg D7 ys7 _ _ F8 N8 hI7 off8
  clear F6 N6
  rintro Fg ysF h7 tk7 F7 N7 hIF offF
  dsimp only [List.drop]
  have hfd : (c : Int).fdiv (z : Int) = ((fs.length : Nat) : Int) := by rw [fdivN, hcd]
  have hfm : (c : Int).fmod (z : Int) = ((tt % z : Nat) : Int) := by rw [fmodN, hcm]
  have hwt : wv.drop fs.length = List.replicate (tt % z) 32 := by rw [← hwv, word_drop]
  have hany : ((fs.map (fun f => ((f : Nat) : Int))).any fun x => x == -1) = false := by simp
  have hsd : (Txt.slice (Mine.T wv) (some ((c : Int).fdiv (z : Int))) none != Txt.mul (Str.ofString " ") ((c : Int).fmod (z : Int))) = false := by
    rw [hfd, hfm, slice_fr hwl2, hwt, T_blank, T_mul, Int.toNat_natCast]; simp
  refine seg_cut 1 F7 N7 (fun s₁ h₀ L P => At s₁ h₀ L (mapF m3 tot wd z ls t1 t2 t3 t4 Th B x c tc wv tw H Fg) ((Fg, LCg.lst ysF) :: (wsLed w ls x dx nm ct vsW tW k1 k2 k3 k4 k5 tn tnt tb ++ [(B, W.listOf (List.toArray vsB) nB), (Th, W.listOf (List.toArray vsT) nT), (L + 1, oS), (37, tabObj #[]), (30, tabObj #[])])) P) ?p8 ?q8
  case p8 =>
    clear F7 N7
    intro sg Qg F7 N7 hQg
    dsimp only [List.take]
    (repeat' ((fail_if_success (with_reducible show wpAny _ _ (pyIter _) _ _ _)); (fail_if_success (with_reducible show wpAny _ _ (call (Value.ref _) _) _ _ _)); (fail_if_success (with_reducible show wpAny _ _ (eval (Expr.ListComp _ _ _ _) _) _ _ _)); (fail_if_success (with_reducible show wpAny _ _ (exec (Stmt.Assign _ (Expr.ListComp _ _ _ _) _) _) _ _ _)); (fail_if_success (with_reducible show Exists _)); (fail_if_success (with_reducible show wpAny _ _ (call (Value.type "range") [_, _, _]) _ _ _)); (fail_if_success (with_reducible show LCg.CompSrc _ _ _ _ _ _ _ _ _ _ _ _ _ _)); (first | (k_unfold; (try dsimp only)) | (law_purse 100000 => walk1) | (dsimp only; (law_purse 100000 => walk1)))))
    exact hQg _ _ (by assumption) (by assumption)
  clear F7 N7
  rintro h8 tk8 F8 N8
  dsimp only [List.drop]
  have hc10 : c ≤ 10000 := by
    have := Nat.div_add_mod c z
    have h1 : z * (c / z) ≤ 7 * 42 := Nat.mul_le_mul hz7 (by (first | lia | omega))
    (first | lia | omega)
  have hyl : ysF.length = fs.length := by have := hIF.length; rw [List.length_map] at this; exact this
  have hyl2 : ysF.length ≤ 42 := by (first | lia | omega)
  refine seg_cut 3 F8 N8 (fun s₁ h₀ L P => Mid9 m3 tot wd z ls t1 t2 t3 t4 Th B x c tc wv tw H Fg (dvalL wd (revI fs)) ((Fg, LCg.lst ysF) :: (wsLed w ls x dx nm ct vsW tW k1 k2 k3 k4 k5 tn tnt tb ++ [(B, W.listOf (List.toArray vsB) nB), (L + 1, oS), (30, tabObj #[])])) s₁ h₀ L P) ?p9 ?q9
  case p9 =>
    clear F8 N8
    intro sg Qg F8 N8 hQg
    dsimp only [List.take]
    (repeat' ((fail_if_success (with_reducible show wpAny _ _ (pyIter _) _ _ _)); (fail_if_success (with_reducible show wpAny _ _ (call (Value.ref _) _) _ _ _)); (fail_if_success (with_reducible show wpAny _ _ (eval (Expr.ListComp _ _ _ _) _) _ _ _)); (fail_if_success (with_reducible show wpAny _ _ (exec (Stmt.Assign _ (Expr.ListComp _ _ _ _) _) _) _ _ _)); (fail_if_success (with_reducible show Exists _)); (fail_if_success (with_reducible show wpAny _ _ (call (Value.type "range") [_, _, _]) _ _ _)); (fail_if_success (with_reducible show LCg.CompSrc _ _ _ _ _ _ _ _ _ _ _ _ _ _)); (first | (k_unfold; (try dsimp only)) | (law_purse 100000 => walk1) | (dsimp only; (law_purse 100000 => walk1)))))
    (rename Fr _ _ _ _ => F9); (rename News _ _ _ _ => N9)
    refine ways_does w z c _ _ hz1 hz7 hc10 _ _ _ _ _ _ _ _ _ _ _ _ _ _ _ _ _ _ _ _ _ _ KB F9 KX KT rfl ?kd8zS9 ?ku8zS9 trivial ?_
    case kd8zS9 => exact of_decide_eq_true rfl
    case ku8zS9 => exact of_decide_eq_true rfl
    rintro v10 h10 tk10 st10 ⟨Wy, wys, rfl, wy0, wy1, hIy⟩
    have F10 := stays_fr F9 st10
    have N10 := n_new F9 (stays_news N9 st10) wy0 wy1
    clear F9 N9
    try dsimp only
    (repeat' ((fail_if_success (with_reducible show wpAny _ _ (pyIter _) _ _ _)); (fail_if_success (with_reducible show wpAny _ _ (call (Value.ref _) _) _ _ _)); (fail_if_success (with_reducible show wpAny _ _ (eval (Expr.ListComp _ _ _ _) _) _ _ _)); (fail_if_success (with_reducible show wpAny _ _ (exec (Stmt.Assign _ (Expr.ListComp _ _ _ _) _) _) _ _ _)); (fail_if_success (with_reducible show Exists _)); (fail_if_success (with_reducible show wpAny _ _ (call (Value.type "range") [_, _, _]) _ _ _)); (fail_if_success (with_reducible show LCg.CompSrc _ _ _ _ _ _ _ _ _ _ _ _ _ _)); (first | (k_unfold; (try dsimp only)) | (law_purse 100000 => walk1) | (dsimp only; (law_purse 100000 => walk1)))))
    (rename Fr _ _ _ _ => F11); (rename News _ _ _ _ => N11)
    (rename IntsAre _ (List.reverse _) => hIr)
    have hIr2 : IntsAre _ (revI fs) := hIr
    have hDn := led_ne N11 (.head _) (mP := (by k_mem : (37, tabObj #[]) ∈ _)) (fun e => by cases congrArg Obj.cls e)
    refine d2i_does w _ _ (revI fs) wd _ hIr2 (by rw [revI_len]; (first | lia | omega)) hw3 (revI_bits hzw hfz) hDn _ _ _ _ _ _ _ _ _ _ _ _ _ _ _ _ _ _ _ _ _ _ KB F11 KX KT rfl ?kd9zS9 ?ku9zS9 (n_cons N11 (by k_mem) News.nil) (News.isList N11 (.head _)) ?_
    case kd9zS9 => exact of_decide_eq_true rfl
    case ku9zS9 => exact of_decide_eq_true rfl
    intro t12 h12 tk12 ps keep12 h37
    obtain ⟨F12, N12'⟩ := tab_frame F11 N11 (P := 37) (o := tabObj #[]) (by k_mem) keep12 h37
    have N12 := N12' ((Wy, W.listOf (List.toArray wys) 0) :: (Fg, LCg.lst ysF) :: (wsLed w ls x dx nm ct vsW tW k1 k2 k3 k4 k5 tn tnt tb ++ [(B, W.listOf (List.toArray vsB) nB), (_, oS), (30, tabObj #[])])) (fun q hq => by
      simp only [List.cons_append, List.nil_append, List.mem_cons, List.not_mem_nil, or_false] at hq
      rcases hq with rfl | rfl | rfl | rfl | rfl | rfl | rfl | rfl | rfl
      · exact ⟨by k_mem, led_ne N11 (by k_mem) (mP := (by k_mem : (37, tabObj #[]) ∈ _)) (fun e => by cases congrArg Obj.cls e)⟩
      · exact ⟨by k_mem, led_ne N11 (by k_mem) (mP := (by k_mem : (37, tabObj #[]) ∈ _)) (fun e => by cases congrArg Obj.cls e)⟩
      · exact ⟨by k_mem, led_ne N11 (by k_mem) (mP := (by k_mem : (37, tabObj #[]) ∈ _)) (fun e => by cases congrArg Obj.cls e)⟩
      · exact ⟨by k_mem, led_ne N11 (by k_mem) (mP := (by k_mem : (37, tabObj #[]) ∈ _)) (fun e => by cases congrArg Obj.cls e)⟩
      · exact ⟨by k_mem, led_ne N11 (by k_mem) (mP := (by k_mem : (37, tabObj #[]) ∈ _)) (fun e => by cases congrArg Obj.cls e)⟩
      · exact ⟨by k_mem, led_ne N11 (by k_mem) (mP := (by k_mem : (37, tabObj #[]) ∈ _)) (fun e => by cases congrArg Obj.cls e)⟩
      · exact ⟨by k_mem, led_ne N11 (by k_mem) (mP := (by k_mem : (37, tabObj #[]) ∈ _)) (fun e => by cases congrArg Obj.cls e)⟩
      · exact ⟨by k_mem, led_ne N11 (by k_mem) (mP := (by k_mem : (37, tabObj #[]) ∈ _)) (fun e => by cases dS.symm.trans (congrArg Obj.data e))⟩
      · exact ⟨by k_mem, ofN (by decide)⟩)
    clear F11 N11 N12'
    try dsimp only
    (repeat' ((fail_if_success (with_reducible show wpAny _ _ (pyIter _) _ _ _)); (fail_if_success (with_reducible show wpAny _ _ (call (Value.ref _) _) _ _ _)); (fail_if_success (with_reducible show wpAny _ _ (eval (Expr.ListComp _ _ _ _) _) _ _ _)); (fail_if_success (with_reducible show wpAny _ _ (exec (Stmt.Assign _ (Expr.ListComp _ _ _ _) _) _) _ _ _)); (fail_if_success (with_reducible show Exists _)); (fail_if_success (with_reducible show wpAny _ _ (call (Value.type "range") [_, _, _]) _ _ _)); (fail_if_success (with_reducible show LCg.CompSrc _ _ _ _ _ _ _ _ _ _ _ _ _ _)); (first | (k_unfold; (try dsimp only)) | (law_purse 100000 => walk1) | (dsimp only; (law_purse 100000 => walk1)))))
    (rename Fr _ _ _ _ => F13); (rename News _ _ _ _ => N13)
    refine rank_does w z ls Wy wys (waysL z c) _ _ hz1 hz7 hIy (by rw [waysL_len]; (first | lia | omega)) hls _ _ _ _ _ _ _ _ _ _ _ _ _ _ _ _ _ _ _ _ _ _ KB F13 KX KT rfl ?kd10zS9 ?ku10zS9 (News.isList N13 (by k_mem)) ?_
    case kd10zS9 => exact of_decide_eq_true rfl
    case ku10zS9 => exact of_decide_eq_true rfl
    rintro v14 h14 tk14 st14 ⟨t14, rfl⟩
    have F14 := stays_fr F13 st14
    have N14 := stays_news N13 st14
    clear F13 N13
    have hrk : rankN z (waysL z c) ls = dvalL wd (revI fs) := by rw [hce, rank_cells hz1 hfz hcd.symm hcm.symm, hval_d hzw]
    rw [hrk]
    try dsimp only
    (repeat' ((fail_if_success (with_reducible show wpAny _ _ (pyIter _) _ _ _)); (fail_if_success (with_reducible show wpAny _ _ (call (Value.ref _) _) _ _ _)); (fail_if_success (with_reducible show wpAny _ _ (eval (Expr.ListComp _ _ _ _) _) _ _ _)); (fail_if_success (with_reducible show wpAny _ _ (exec (Stmt.Assign _ (Expr.ListComp _ _ _ _) _) _) _ _ _)); (fail_if_success (with_reducible show Exists _)); (fail_if_success (with_reducible show wpAny _ _ (call (Value.type "range") [_, _, _]) _ _ _)); (fail_if_success (with_reducible show LCg.CompSrc _ _ _ _ _ _ _ _ _ _ _ _ _ _)); (first | (k_unfold; (try dsimp only)) | (law_purse 100000 => walk1) | (dsimp only; (law_purse 100000 => walk1)))))
    · rename_i hbad; exact absurd rfl hbad
    exact hQg Wy wys _ ps _ _ (by assumption) (by assumption) hIy
  clear F8 N8 hsd hwt
  rintro Wy wys tu ps h9 tk9 F9 N9 hIy
  dsimp only [List.drop]
  have hM1 : 1 ≤ c / z := by rw [hcd, ← hfs, figs_len, List.length_cons]; generalize tt / z = e; (first | lia | omega)
  have hwt0 := ways_top hzw hM1
  have hwhi : 0 < (waysL z c).getD (Int.toNat 0) 0 := ways_hi hzw hM1
  have hylen := hIy.length
  rw [waysL_len] at hylen
  have hylen2 : wys.length ≤ 10001 := by (first | lia | omega)
  generalize hnu : dvalL wd (revI fs) = nu at *
  refine seg_cut 1 F9 N9 (fun s₁ h₀ L P => ∀ h tk bs lp m led, LoopJ bs lp ((37, tabObj ps) :: (Wy, W.listOf (List.toArray wys) 0) :: (Fg, LCg.lst ysF) :: (wsLed w ls x dx nm ct vsW tW k1 k2 k3 k4 k5 tn tnt tb ++ [(B, W.listOf (List.toArray vsB) nB), (L + 1, oS)])) 2 m led → Fr h₀ L h m → News h₀ L h led → P { s₁ with heap := h, toks := tk }) ?loopZ ?lastZ
  case lastZ =>
    clear F9 N9
    rintro hZ tkZ bZ lpZ mZ ledZ ⟨uu, o30, c0, oc0, rfl, rfl, hT⟩ FZ NZ
    obtain ⟨q30, rfl⟩ := hT.grown
    dsimp only [List.drop]
    (repeat' ((fail_if_success (with_reducible show wpAny _ _ (pyIter _) _ _ _)); (fail_if_success (with_reducible show wpAny _ _ (call (Value.ref _) _) _ _ _)); (fail_if_success (with_reducible show wpAny _ _ (eval (Expr.ListComp _ _ _ _) _) _ _ _)); (fail_if_success (with_reducible show wpAny _ _ (exec (Stmt.Assign _ (Expr.ListComp _ _ _ _) _) _) _ _ _)); (fail_if_success (with_reducible show Exists _)); (fail_if_success (with_reducible show wpAny _ _ (call (Value.type "range") [_, _, _]) _ _ _)); (fail_if_success (with_reducible show LCg.CompSrc _ _ _ _ _ _ _ _ _ _ _ _ _ _)); (first | (k_unfold; (try dsimp only)) | (law_purse 100000 => walk1) | (dsimp only; (law_purse 100000 => walk1)))))
    k_end; kc_close
  clear F9 N9
  intro sZ QZ F9 N9 hQZ
  dsimp only [List.take]
  walk1
  with_unfolding_all refine' For_invVF F9 ?kz1 ?kz2 ?_
  case kz1 => exact rfl
  case kz2 => exact rfl
  (repeat' ((fail_if_success (with_reducible show wpAny _ _ (pyIter _) _ _ _)); (fail_if_success (with_reducible show wpAny _ _ (call (Value.ref _) _) _ _ _)); (fail_if_success (with_reducible show wpAny _ _ (eval (Expr.ListComp _ _ _ _) _) _ _ _)); (fail_if_success (with_reducible show wpAny _ _ (exec (Stmt.Assign _ (Expr.ListComp _ _ _ _) _) _) _ _ _)); (fail_if_success (with_reducible show Exists _)); (fail_if_success (with_reducible show wpAny _ _ (call (Value.type "range") [_, _, _]) _ _ _)); (fail_if_success (with_reducible show LCg.CompSrc _ _ _ _ _ _ _ _ _ _ _ _ _ _)); (first | (k_unfold; (try dsimp only)) | (law_purse 100000 => walk1) | (dsimp only; (law_purse 100000 => walk1)))))
  (rename Fr _ _ _ _ => FA); (rename News _ _ _ _ => NA)
  have hbits := dvalL_bound wd (revI fs) (revI_bits hzw hfz)
  rw [hnu, revI_len] at hbits
  refine loop_list (LoopJ _ _ ((37, tabObj ps) :: (Wy, W.listOf (List.toArray wys) 0) :: (Fg, LCg.lst ysF) :: (wsLed w ls x dx nm ct vsW tW k1 k2 k3 k4 k5 tn tnt tb ++ [(B, W.listOf (List.toArray vsB) nB), (_, oS)]))) rfl FA (n_cons NA (.head _) (n_cons NA (by k_mem : (30, tabObj #[]) ∈ _) (n_cons NA (.tail _ (.head _)) (n_cons NA (.tail _ (.head _)) (n_cons NA (by k_mem) (n_cons NA (by k_mem) (n_cons NA (by k_mem) (n_cons NA (by k_mem) (n_cons NA (by k_mem) (n_cons NA (by k_mem) (n_cons NA (by k_mem) (n_cons NA (by k_mem) News.nil)))))))))))) (.head _) rfl rfl ⟨_, _, _, _, loopM0 _, rfl, ⟨by decide, .inl rfl⟩⟩ ?memJ ?turn ?done
  case memJ =>
    rintro i m' n' ⟨uu, o30, c0, oc0, rfl, rfl, hT⟩
    exact .head _
  case done =>
    clear FA NA
    rintro m₁ news₁ h10 tk10 hJ10 F10 N10
    dsimp only
    (repeat' ((fail_if_success (with_reducible show wpAny _ _ (pyIter _) _ _ _)); (fail_if_success (with_reducible show wpAny _ _ (call (Value.ref _) _) _ _ _)); (fail_if_success (with_reducible show wpAny _ _ (eval (Expr.ListComp _ _ _ _) _) _ _ _)); (fail_if_success (with_reducible show wpAny _ _ (exec (Stmt.Assign _ (Expr.ListComp _ _ _ _) _) _) _ _ _)); (fail_if_success (with_reducible show Exists _)); (fail_if_success (with_reducible show wpAny _ _ (call (Value.type "range") [_, _, _]) _ _ _)); (fail_if_success (with_reducible show LCg.CompSrc _ _ _ _ _ _ _ _ _ _ _ _ _ _)); (first | (k_unfold; (try dsimp only)) | (law_purse 100000 => walk1) | (dsimp only; (law_purse 100000 => walk1)))))
    exact hQZ _ _ _ _ _ _ hJ10 F10 N10
  case turn =>
    have hhi : (2 : Int) ^ (wd * fs.length) = ((2 ^ (wd * fs.length) : Nat) : Int) := by rw [Int.natCast_pow]; rfl

    rw [hcd] at hwt0
    clear FA NA
    rintro I it i v m₁ news₁ h10 tk10 hI10 hof10 hv ⟨uu, o30, c0, oc0, rfl, rfl, hT⟩ hcI F10 N10
    obtain ⟨rk, tr, rfl, hrk⟩ : ∃ (rk : Nat) (tr : Tok), v = .int rk tr ∧ rk < 2 ^ (wd * fs.length) := by
      have hv' := List.mem_of_getElem? hv
      simp only [List.mem_cons, List.not_mem_nil, or_false] at hv'
      rcases hv' with rfl | rfl
      · refine ⟨nu.toNat, tu, ?_, by (first | lia | omega)⟩
        congr 1; (first | lia | omega)
      · have hm1 := fmod_lo hwhi (nu + 1 + tot)
        have hm2 := fmod_hi hwhi (nu + 1 + tot)
        rw [show (waysL z c).getD (Int.toNat 0) 0 = ((2 ^ (wd * fs.length) : Nat) : Int) from hwt0] at hm1 hm2 ⊢
        exact ⟨_, _, congrArg (fun q => Value.int q _) (Int.toNat_of_nonneg hm1).symm, by (first | lia | omega)⟩
    clear hv hbits hnu hwt0 hwhi
    have hr180 : rk < 2 ^ 180 := Nat.lt_of_lt_of_le hrk (Nat.pow_le_pow_right (by decide) (by
      have := Nat.mul_le_mul hw3 (show fs.length ≤ 42 by (first | lia | omega))
      (first | lia | omega)))
    obtain ⟨q30, rfl⟩ := hT.grown
    have N10r := (n_cons N10 (.tail _ (.tail _ (.head _))) (n_cons N10 (.tail _ (.tail _ (.tail _ (.head _)))) (n_cons N10 (.head _) (n_cons N10 (.tail _ (.head _)) (n_drop (n_drop (n_drop (n_drop N10))))))))
    clear N10
    refine seg_cutN 2 F10 N10r (MidT1 wd rk) ?t1 ?u1
    case t1 =>
      clear F10 N10r
      intro sg Qg F10 N10r hQg
      dsimp only [List.take]
      (repeat' ((fail_if_success (with_reducible show wpAny _ _ (pyIter _) _ _ _)); (fail_if_success (with_reducible show wpAny _ _ (call (Value.ref _) _) _ _ _)); (fail_if_success (with_reducible show wpAny _ _ (eval (Expr.ListComp _ _ _ _) _) _ _ _)); (fail_if_success (with_reducible show wpAny _ _ (exec (Stmt.Assign _ (Expr.ListComp _ _ _ _) _) _) _ _ _)); (fail_if_success (with_reducible show Exists _)); (fail_if_success (with_reducible show wpAny _ _ (call (Value.type "range") [_, _, _]) _ _ _)); (fail_if_success (with_reducible show LCg.CompSrc _ _ _ _ _ _ _ _ _ _ _ _ _ _)); (first | (k_unfold; (try dsimp only)) | (law_purse 100000 => walk1) | (dsimp only; (law_purse 100000 => walk1)))))
      (rename Fr _ _ _ _ => F11); (rename News _ _ _ _ => N11)
      refine i2d_does w rk _ wd _ hw1 hw3 hr180 _ c0 oc0 hT _ _ _ _ _ _ _ _ _ _ _ _ _ _ _ _ _ _ _ _ _ _ KB F11 KX KT rfl ?kdAzSB ?kuAzSB (News.get2 N11) ?_
      case kdAzSB => exact of_decide_eq_true rfl
      case kuAzSB => exact of_decide_eq_true rfl
      intro D12 vs12 h12 tk12 c12 oc12 fD12 hD12 hI12 keep12 h30 hc12 hT12 fc12 cL12 new12
      have off12 := offP N11 rfl (fun q hq => by
        simp only [List.cons_append, List.nil_append, List.mem_cons, List.not_mem_nil, or_false] at hq
        rcases hq with rfl | rfl | rfl | rfl | rfl | rfl | rfl | rfl | rfl | rfl | rfl
        · exact .inl (by rw [hcI]; exact fun e => by cases e)
        · exact .inl (fun e => by cases e)
        · exact .inr (ofN (a := 37) (b := 30) (by decide))
        · exact .inl (fun e => by cases e)
        · exact .inl (fun e => by cases e)
        · exact .inl (fun e => by cases e)
        · exact .inl (fun e => by cases e)
        · exact .inl (fun e => by cases e)
        · exact .inl (fun e => by cases e)
        · exact .inl (fun e => by cases e)
        · exact .inr (ofN (by (try dsimp only); (first | lia | omega))))
      obtain ⟨F12, N12a⟩ := tab_frame2 F11 N11 off12 keep12 h30
      have N12 := n_new F11 (n_cons N12a (.head _) (n_cons1 hc12 cL12 fc12 (n_drop N12a))) fD12 hD12
      have hdl := digs_length wd (cntOf wd rk) rk
      have hcl := cnt_le hw1 hrk
      have hvl := hI12.length
      rw [hdl] at hvl
      have hvl2 : vs12.length ≤ 42 := by (first | lia | omega)
      have hnd := drop_last (k := wd) (rk := rk) hw1
      have hnew := led_new N11 new12
      clear F11 N11 N12a
      try dsimp only
      (repeat' ((fail_if_success (with_reducible show wpAny _ _ (pyIter _) _ _ _)); (fail_if_success (with_reducible show wpAny _ _ (call (Value.ref _) _) _ _ _)); (fail_if_success (with_reducible show wpAny _ _ (eval (Expr.ListComp _ _ _ _) _) _ _ _)); (fail_if_success (with_reducible show wpAny _ _ (exec (Stmt.Assign _ (Expr.ListComp _ _ _ _) _) _) _ _ _)); (fail_if_success (with_reducible show Exists _)); (fail_if_success (with_reducible show wpAny _ _ (call (Value.type "range") [_, _, _]) _ _ _)); (fail_if_success (with_reducible show LCg.CompSrc _ _ _ _ _ _ _ _ _ _ _ _ _ _)); (first | (k_unfold; (try dsimp only)) | (law_purse 100000 => walk1) | (dsimp only; (law_purse 100000 => walk1)))))
      exact hQg D12 vs12 c12 oc12 _ _ (by assumption) (n_drop (n_drop (by assumption))) hI12 hT12 hnew
    clear F10 N10r
    rintro D vsD c1 oc1 h11 tk11 F11 N11 hID hT1 hnew
    dsimp only [List.drop] at N11 ⊢
    have hcI1 : I ≠ c1 := hnew (I, it) (.head _) (fun z hz => by
      rw [List.mem_singleton.mp hz]
      exact fun e => hof10 (c0, oc0) (.tail _ (.tail _ (.head _))) e.symm)
    clear hnew
    have hdl := digs_length wd (cntOf wd rk) rk
    have hcl := cnt_le hw1 hrk
    have hvl := hID.length
    rw [hdl] at hvl
    have hvl2 : vsD.length ≤ 42 := by (first | lia | omega)
    have hBl := hBack.len
    rw [backP_len] at hBl
    refine seg_cutN 2 F11 N11 (MidT2 (cellsT z (topDigs wd fs.length rk) (tt % z))) ?t2 ?u2
    case t2 =>
      clear F11 N11
      intro sg Qg F11 N11 hQg
      dsimp only [List.take]
      (repeat' ((fail_if_success (with_reducible show wpAny _ _ (pyIter _) _ _ _)); (fail_if_success (with_reducible show wpAny _ _ (call (Value.ref _) _) _ _ _)); (fail_if_success (with_reducible show wpAny _ _ (eval (Expr.ListComp _ _ _ _) _) _ _ _)); (fail_if_success (with_reducible show wpAny _ _ (exec (Stmt.Assign _ (Expr.ListComp _ _ _ _) _) _) _ _ _)); (fail_if_success (with_reducible show Exists _)); (fail_if_success (with_reducible show wpAny _ _ (call (Value.type "range") [_, _, _]) _ _ _)); (fail_if_success (with_reducible show LCg.CompSrc _ _ _ _ _ _ _ _ _ _ _ _ _ _)); (first | (k_unfold; (try dsimp only)) | (law_purse 100000 => walk1) | (dsimp only; (law_purse 100000 => walk1)))))
      (rename Fr _ _ _ _ => F12); (rename News _ _ _ _ => N12)
      (rename IntsAre _ (digs _ _ _ ++ _) => hI12)
      rw [fill_eq hw1 hrk] at hI12
      have hdl2 := digs_length wd fs.length rk
      have hfl2 := hI12.length
      rw [hdl2] at hfl2
      k_dflt (refine LCg.ListComp_U (F₀ := F12) (by with_unfolding_all rfl) (by decide) (by rfl) (by decide) (by rfl) ?_)
      (repeat' ((fail_if_success (with_reducible show wpAny _ _ (pyIter _) _ _ _)); (fail_if_success (with_reducible show wpAny _ _ (call (Value.ref _) _) _ _ _)); (fail_if_success (with_reducible show wpAny _ _ (eval (Expr.ListComp _ _ _ _) _) _ _ _)); (fail_if_success (with_reducible show wpAny _ _ (exec (Stmt.Assign _ (Expr.ListComp _ _ _ _) _) _) _ _ _)); (fail_if_success (with_reducible show Exists _)); (fail_if_success (with_reducible show wpAny _ _ (call (Value.type "range") [_, _, _]) _ _ _)); (fail_if_success (with_reducible show LCg.CompSrc _ _ _ _ _ _ _ _ _ _ _ _ _ _)); (first | (k_unfold; (try dsimp only)) | (law_purse 100000 => walk1) | (dsimp only; (law_purse 100000 => walk1)))))
      (rename Fr _ _ _ _ => F13); (rename News _ _ _ _ => N13)
      (rename IntsAre _ (List.reverse _) => hI13)
      rw [top_rev] at hI13
      have htl13 := topDigs_len wd fs.length rk
      have htz := topDigs_le hzw fs.length rk
      have hfl3 := hI13.length
      rw [List.length_map, htl13] at hfl3
      refine LCg.CompSrc.ledger rfl F13 N13 (.head _) (by rw [List.size_toArray, sizeLine_eq]; (first | lia | omega)) (fun g9 => comp_rest (items := topDigs wd fs.length rk) (fun f v => ∃ t, v = .int ((f : Nat) : Int) t) (fun f y => ∃ t, y = .str (Mine.T [97 + f]) t) (by rw [List.size_toArray, hfl3, htl13]) (fun i v hi hv => ints_get hI13 i v hv) ?turnCzSC ?finCzSC)
      case turnCzSC =>
        clear F13 N13
        rintro i v I oI C oC D m5 ys h5 tk5 E5 hi ⟨t5, rfl⟩ hC5 hx5 F5 N5 off5 ne5
        have hiz := htz i hi
        (repeat' ((fail_if_success (with_reducible show wpAny _ _ (pyIter _) _ _ _)); (fail_if_success (with_reducible show wpAny _ _ (call (Value.ref _) _) _ _ _)); (fail_if_success (with_reducible show wpAny _ _ (eval (Expr.ListComp _ _ _ _) _) _ _ _)); (fail_if_success (with_reducible show wpAny _ _ (exec (Stmt.Assign _ (Expr.ListComp _ _ _ _) _) _) _ _ _)); (fail_if_success (with_reducible show Exists _)); (fail_if_success (with_reducible show wpAny _ _ (call (Value.type "range") [_, _, _]) _ _ _)); (fail_if_success (with_reducible show LCg.CompSrc _ _ _ _ _ _ _ _ _ _ _ _ _ _)); (first | (k_unfold; (try dsimp only)) | (law_purse 100000 => walk1) | (dsimp only; (law_purse 100000 => walk1)))))
        (rename Fr _ _ _ _ => F6); (rename News _ _ _ _ => N6)
        refine LCg.CompEnd.intro F6 N6 _ (fun p hp => hp) off5 ?hsCzSC ?hrCzSC
        case hrCzSC => exact ⟨rfl, _, by rw [sig_item hz4 hiz]⟩
        case hsCzSC => exact .inr ⟨_, .head _, rfl, _, rfl⟩
      case finCzSC =>
        clear F13 N13
        intro ys14 hB14 D14 h14 tk14 F14 N14 off14
        have hS14 := hB14.strs
        (try simp only [LCg.Off1, and_true] at off14)
        (try dsimp only)
        (repeat' ((fail_if_success (with_reducible show wpAny _ _ (pyIter _) _ _ _)); (fail_if_success (with_reducible show wpAny _ _ (call (Value.ref _) _) _ _ _)); (fail_if_success (with_reducible show wpAny _ _ (eval (Expr.ListComp _ _ _ _) _) _ _ _)); (fail_if_success (with_reducible show wpAny _ _ (exec (Stmt.Assign _ (Expr.ListComp _ _ _ _) _) _) _ _ _)); (fail_if_success (with_reducible show Exists _)); (fail_if_success (with_reducible show wpAny _ _ (call (Value.type "range") [_, _, _]) _ _ _)); (fail_if_success (with_reducible show LCg.CompSrc _ _ _ _ _ _ _ _ _ _ _ _ _ _)); (first | (k_unfold; (try dsimp only)) | (law_purse 100000 => walk1) | (dsimp only; (law_purse 100000 => walk1)))))
        (rename Fr _ _ _ _ => F15); (rename News _ _ _ _ => N15)
        refine join_list (News.isList N15 (.head _)) hS14 (by rw [ones_sum, List.length_map, htl13, show (Str.ofString "").length = 0 from by decide +kernel]; (first | lia | omega)) ?_
        intro t16 k16
        rw [glue_ones]
        try dsimp only
        (repeat' ((fail_if_success (with_reducible show wpAny _ _ (pyIter _) _ _ _)); (fail_if_success (with_reducible show wpAny _ _ (call (Value.ref _) _) _ _ _)); (fail_if_success (with_reducible show wpAny _ _ (eval (Expr.ListComp _ _ _ _) _) _ _ _)); (fail_if_success (with_reducible show wpAny _ _ (exec (Stmt.Assign _ (Expr.ListComp _ _ _ _) _) _) _ _ _)); (fail_if_success (with_reducible show Exists _)); (fail_if_success (with_reducible show wpAny _ _ (call (Value.type "range") [_, _, _]) _ _ _)); (fail_if_success (with_reducible show LCg.CompSrc _ _ _ _ _ _ _ _ _ _ _ _ _ _)); (first | (k_unfold; (try dsimp only)) | (law_purse 100000 => walk1) | (dsimp only; (law_purse 100000 => walk1)))))
        refine star_seq F15 N15 (by k_mem) rfl rfl (.inl rfl) (List.toList_toArray) (by rw [sizeLine_eq, List.size_toArray]; (first | lia | omega)) (fun h17 F17 N17 => ?_)
        clear F15 N15
        try dsimp only
        (repeat' ((fail_if_success (with_reducible show wpAny _ _ (pyIter _) _ _ _)); (fail_if_success (with_reducible show wpAny _ _ (call (Value.ref _) _) _ _ _)); (fail_if_success (with_reducible show wpAny _ _ (eval (Expr.ListComp _ _ _ _) _) _ _ _)); (fail_if_success (with_reducible show wpAny _ _ (exec (Stmt.Assign _ (Expr.ListComp _ _ _ _) _) _) _ _ _)); (fail_if_success (with_reducible show Exists _)); (fail_if_success (with_reducible show wpAny _ _ (call (Value.type "range") [_, _, _]) _ _ _)); (fail_if_success (with_reducible show LCg.CompSrc _ _ _ _ _ _ _ _ _ _ _ _ _ _)); (first | (k_unfold; (try dsimp only)) | (law_purse 100000 => walk1) | (dsimp only; (law_purse 100000 => walk1)))))
        rw [List.append_nil]
        refine repl_does w (Mine.T ((topDigs wd fs.length rk).map (97 + ·))) _ vsB (backP z (z + 1)) hBack (by (first | lia | omega)) (back_fits hz4 htz (by (first | lia | omega))) _ _ _ _ _ _ _ _ _ _ _ _ _ _ _ _ _ _ _ _ _ _ KB F17 KX KT rfl ?kdCzSC ?kuCzSC trivial ?_
        case kdCzSC => exact of_decide_eq_true rfl
        case kuCzSC => exact of_decide_eq_true rfl
        rintro v18 h18 tk18 st18 ⟨t18, rfl⟩
        have F18 := stays_fr F17 st18
        have N18 := stays_news N17 st18
        clear F17 N17
        rw [back_is hz4 htz]
        try dsimp only
        (repeat' ((fail_if_success (with_reducible show wpAny _ _ (pyIter _) _ _ _)); (fail_if_success (with_reducible show wpAny _ _ (call (Value.ref _) _) _ _ _)); (fail_if_success (with_reducible show wpAny _ _ (eval (Expr.ListComp _ _ _ _) _) _ _ _)); (fail_if_success (with_reducible show wpAny _ _ (exec (Stmt.Assign _ (Expr.ListComp _ _ _ _) _) _) _ _ _)); (fail_if_success (with_reducible show Exists _)); (fail_if_success (with_reducible show wpAny _ _ (call (Value.type "range") [_, _, _]) _ _ _)); (fail_if_success (with_reducible show LCg.CompSrc _ _ _ _ _ _ _ _ _ _ _ _ _ _)); (first | (k_unfold; (try dsimp only)) | (law_purse 100000 => walk1) | (dsimp only; (law_purse 100000 => walk1)))))
        (rename Fr _ _ _ _ => F19); (rename News _ _ _ _ => N19)
        rw [hfm, T_blank, T_mul, Int.toNat_natCast]
        have hcs := cells_small hz1 hz7 htz (by (first | lia | omega))
        refine PyProof.Rows.add_str (fun t' tk' => ?_) ?hszCzSC
        rotate_left
        case hszCzSC => rw [sizeLine_eq]; (try simp only [Str.length_append]); rw [T_length, T_length, List.length_replicate]; (first | lia | omega)
        rw [T_append]
        try dsimp only
        (repeat' ((fail_if_success (with_reducible show wpAny _ _ (pyIter _) _ _ _)); (fail_if_success (with_reducible show wpAny _ _ (call (Value.ref _) _) _ _ _)); (fail_if_success (with_reducible show wpAny _ _ (eval (Expr.ListComp _ _ _ _) _) _ _ _)); (fail_if_success (with_reducible show wpAny _ _ (exec (Stmt.Assign _ (Expr.ListComp _ _ _ _) _) _) _ _ _)); (fail_if_success (with_reducible show Exists _)); (fail_if_success (with_reducible show wpAny _ _ (call (Value.type "range") [_, _, _]) _ _ _)); (fail_if_success (with_reducible show LCg.CompSrc _ _ _ _ _ _ _ _ _ _ _ _ _ _)); (first | (k_unfold; (try dsimp only)) | (law_purse 100000 => walk1) | (dsimp only; (law_purse 100000 => walk1)))))
        exact hQg _ _ _ _ (by assumption) (n_drop (n_drop (n_drop (n_drop (n_drop (n_drop (by assumption)))))))
    clear F11 N11 hID hdl hcl hvl hvl2
    rintro tm Fd h12 tk12 F12 N12
    dsimp only [List.drop] at N12 ⊢
    have hrank := rank_top (c := c) hz1 hzw (by rw [hcd]; exact hrk)
    rw [hcd, hcm] at hrank
    have htz := topDigs_le hzw fs.length rk
    have htl13 := topDigs_len wd fs.length rk
    have hcs := cells_small hz1 hz7 htz (by (first | lia | omega))
    obtain ⟨rs2, t2', hmk⟩ := enc_ex (cellsT z (topDigs wd fs.length rk) (tt % z)) cells_signs
    have hlvl := lvl_cells (c := c) hz4 htz (by rw [htl13, hcd]) hcm.symm hmk
    have hr2 := cells_runs hz4 htz htl hmk
    rw [htl13] at hr2
    have hmks := cells_signs (z := z) (fs := topDigs wd fs.length rk) (tl := tt % z)
    have hml : (cellsT z (topDigs wd fs.length rk) (tt % z)).length ≤ 301 := by
      unfold cellsT
      rw [List.length_append, List.length_replicate]; (first | lia | omega)
    generalize cellsT z (topDigs wd fs.length rk) (tt % z) = mk at *
    have hmT : (Mine.T mk).length ≤ 301 := by rw [T_length]; exact hml
    refine seg_cutN 2 F12 N12 (MidT3 w mk) ?t3 ?u3
    case t3 =>
      clear F12 N12
      intro sg Qg F12 N12 hQg
      dsimp only [List.take]
      (repeat' ((fail_if_success (with_reducible show wpAny _ _ (pyIter _) _ _ _)); (fail_if_success (with_reducible show wpAny _ _ (call (Value.ref _) _) _ _ _)); (fail_if_success (with_reducible show wpAny _ _ (eval (Expr.ListComp _ _ _ _) _) _ _ _)); (fail_if_success (with_reducible show wpAny _ _ (exec (Stmt.Assign _ (Expr.ListComp _ _ _ _) _) _) _ _ _)); (fail_if_success (with_reducible show Exists _)); (fail_if_success (with_reducible show wpAny _ _ (call (Value.type "range") [_, _, _]) _ _ _)); (fail_if_success (with_reducible show LCg.CompSrc _ _ _ _ _ _ _ _ _ _ _ _ _ _)); (first | (k_unfold; (try dsimp only)) | (law_purse 100000 => walk1) | (dsimp only; (law_purse 100000 => walk1)))))
      (rename Fr _ _ _ _ => F13); (rename News _ _ _ _ => N13)
      rw [T_x, T_append]
      refine' call_cls F13 KX N13 ?kc4zSD ?kc5zSD ?kc6zSD ?_
      case kc4zSD => k_is
      case kc5zSD => k_is
      case kc6zSD => k_is
      intro x2 dx2 h14 F14 N14 lt14 ltx14
      refine init_code w mk _ x2 dx2 hmks (by (first | lia | omega)) ltx14 _ _ _ _ _ _ _ _ _ _ _ _ _ _ _ _ _ _ _ _ _ KB F14 KX KT rfl ?kdzSD ?kuzSD (n_cons N14 (.head _) (n_cons N14 (.tail _ (.head _)) News.nil)) ?_
      case kdzSD => exact of_decide_eq_true rfl
      case kuzSD => exact of_decide_eq_true rfl
      intro nm2 ct2 vs2 k1' k2' k3' k4' k5' tn' tnt' tb' h15 tk15 keep15 hd15 hn15 hc15 hI15 fn15 fc15
      refine ⟨rfl, ?_⟩
      obtain ⟨F15, N15, ne15⟩ := ws_frame F14 N14 lt14 ltx14 keep15 hd15 hn15 hc15 fn15 fc15
      clear F13 N13 F14 N14
      try dsimp only
      (repeat' ((fail_if_success (with_reducible show wpAny _ _ (pyIter _) _ _ _)); (fail_if_success (with_reducible show wpAny _ _ (call (Value.ref _) _) _ _ _)); (fail_if_success (with_reducible show wpAny _ _ (eval (Expr.ListComp _ _ _ _) _) _ _ _)); (fail_if_success (with_reducible show wpAny _ _ (exec (Stmt.Assign _ (Expr.ListComp _ _ _ _) _) _) _ _ _)); (fail_if_success (with_reducible show Exists _)); (fail_if_success (with_reducible show wpAny _ _ (call (Value.type "range") [_, _, _]) _ _ _)); (fail_if_success (with_reducible show LCg.CompSrc _ _ _ _ _ _ _ _ _ _ _ _ _ _)); (first | (k_unfold; (try dsimp only)) | (law_purse 100000 => walk1) | (dsimp only; (law_purse 100000 => walk1)))))
      (rename Fr _ _ _ _ => F16); (rename News _ _ _ _ => N16)
      refine rank_does w z mk Wy wys (waysL z c) _ _ hz1 hz7 hIy (by rw [waysL_len]; (first | lia | omega)) hmks _ _ _ _ _ _ _ _ _ _ _ _ _ _ _ _ _ _ _ _ _ _ KB F16 KX KT rfl ?kd10zSD ?ku10zSD (News.isList N16 (by k_mem)) ?_
      case kd10zSD => exact of_decide_eq_true rfl
      case ku10zSD => exact of_decide_eq_true rfl
      rintro v17 h17 tk17 st17 ⟨t17, rfl⟩
      have F17 := stays_fr F16 st17
      have N17 := stays_news N16 st17
      clear F16 N16
      rw [hrank]
      try dsimp only
      (repeat' ((fail_if_success (with_reducible show wpAny _ _ (pyIter _) _ _ _)); (fail_if_success (with_reducible show wpAny _ _ (call (Value.ref _) _) _ _ _)); (fail_if_success (with_reducible show wpAny _ _ (eval (Expr.ListComp _ _ _ _) _) _ _ _)); (fail_if_success (with_reducible show wpAny _ _ (exec (Stmt.Assign _ (Expr.ListComp _ _ _ _) _) _) _ _ _)); (fail_if_success (with_reducible show Exists _)); (fail_if_success (with_reducible show wpAny _ _ (call (Value.type "range") [_, _, _]) _ _ _)); (fail_if_success (with_reducible show LCg.CompSrc _ _ _ _ _ _ _ _ _ _ _ _ _ _)); (first | (k_unfold; (try dsimp only)) | (law_purse 100000 => walk1) | (dsimp only; (law_purse 100000 => walk1)))))
      · rename_i hbad; exact absurd rfl hbad
      (rename Fr _ _ _ _ => F18); (rename News _ _ _ _ => N18)
      refine lvl_does w mk x2 dx2 nm2 ct2 vs2 _ k1' k2' k3' k4' k5' tn' tnt' tb' z _ hI15 (by (first | lia | omega)) hz1 (by (first | lia | omega)) _ _ _ _ _ _ _ _ _ _ _ _ _ _ _ _ _ _ _ _ _ _ KB (by assumption) KX KT rfl ?kd11zSD ?ku11zSD (app_l (by assumption)) ?_
      case kd11zSD => exact of_decide_eq_true rfl
      case ku11zSD => exact of_decide_eq_true rfl
      rintro v19 h19 tk19 st19 ⟨t19, rfl⟩
      have F19 := stays_fr F18 st19
      have N19 := stays_news N18 st19
      clear F18 N18
      rw [hlvl]
      try dsimp only
      (repeat' ((fail_if_success (with_reducible show wpAny _ _ (pyIter _) _ _ _)); (fail_if_success (with_reducible show wpAny _ _ (call (Value.ref _) _) _ _ _)); (fail_if_success (with_reducible show wpAny _ _ (eval (Expr.ListComp _ _ _ _) _) _ _ _)); (fail_if_success (with_reducible show wpAny _ _ (exec (Stmt.Assign _ (Expr.ListComp _ _ _ _) _) _) _ _ _)); (fail_if_success (with_reducible show Exists _)); (fail_if_success (with_reducible show wpAny _ _ (call (Value.type "range") [_, _, _]) _ _ _)); (fail_if_success (with_reducible show LCg.CompSrc _ _ _ _ _ _ _ _ _ _ _ _ _ _)); (first | (k_unfold; (try dsimp only)) | (law_purse 100000 => walk1) | (dsimp only; (law_purse 100000 => walk1)))))
      · rename_i hbad; exact absurd rfl hbad
      exact hQg x2 dx2 nm2 ct2 vs2 _ k1' k2' k3' k4' k5' tn' tnt' tb' _ _ (by assumption) (by assumption) hI15
    clear F12 N12
    rintro x2 dx2 nm2 ct2 vs2 tK k1' k2' k3' k4' k5' tn' tnt' tb' h13 tk13 F13 N13 hI2
    dsimp only [List.drop] at N13 ⊢
    have hH1 : LessH ls mk := by
      have h := less_both hz4 (rs := 5 :: rs) (rs' := rs2) (t := tt) (t' := t2') (.inl (.head _)) (by rw [hld, ← hmk, hcol, hlvl])
      rwa [hld, ← hmk] at h
    have hH2 : LessH mk ls := by
      have h := less_both hz4 (rs := rs2) (rs' := 5 :: rs) (t := t2') (t' := tt) (.inr (.head _)) (by rw [hld, ← hmk, hcol, hlvl])
      rwa [hld, ← hmk] at h
    refine seg_cutN 1 F13 N13 (fun s₁ h₀ L m all P => At s₁ h₀ L m all P) ?t4 ?u4
    case t4 =>
      clear F13 N13
      intro sg Qg F13 N13 hQg
      dsimp only [List.take]
      (repeat' ((fail_if_success (with_reducible show wpAny _ _ (pyIter _) _ _ _)); (fail_if_success (with_reducible show wpAny _ _ (call (Value.ref _) _) _ _ _)); (fail_if_success (with_reducible show wpAny _ _ (eval (Expr.ListComp _ _ _ _) _) _ _ _)); (fail_if_success (with_reducible show wpAny _ _ (exec (Stmt.Assign _ (Expr.ListComp _ _ _ _) _) _) _ _ _)); (fail_if_success (with_reducible show Exists _)); (fail_if_success (with_reducible show wpAny _ _ (call (Value.type "range") [_, _, _]) _ _ _)); (fail_if_success (with_reducible show LCg.CompSrc _ _ _ _ _ _ _ _ _ _ _ _ _ _)); (first | (k_unfold; (try dsimp only)) | (law_purse 100000 => walk1) | (dsimp only; (law_purse 100000 => walk1)))))
      have Na := app_l N13
      have Nb := app_l (n_drop (n_drop (n_drop (n_drop (n_drop (n_drop (n_drop (app_r N13))))))))
      refine less_does w ls x dx nm ct vsW tW k1 k2 k3 k4 k5 tn tnt tb hIW (by (first | lia | omega)) mk x2 dx2 nm2 ct2 vs2 tK k1' k2' k3' k4' k5' tn' tnt' tb' hI2 (by (first | lia | omega)) hH1 _ _ _ _ _ _ _ _ _ _ _ _ _ _ _ _ _ _ _ _ _ _ KB F13 KX KT rfl ?kd12zSE ?ku12zSE (n_app Nb Na) ?_
      case kd12zSE => exact of_decide_eq_true rfl
      case ku12zSE => exact of_decide_eq_true rfl
      rintro v14 h14 tk14 st14 rfl
      have F14 := stays_fr F13 st14
      have N14 := stays_news N13 st14
      clear F13 N13 Na Nb
      try dsimp only
      (repeat' ((fail_if_success (with_reducible show wpAny _ _ (pyIter _) _ _ _)); (fail_if_success (with_reducible show wpAny _ _ (call (Value.ref _) _) _ _ _)); (fail_if_success (with_reducible show wpAny _ _ (eval (Expr.ListComp _ _ _ _) _) _ _ _)); (fail_if_success (with_reducible show wpAny _ _ (exec (Stmt.Assign _ (Expr.ListComp _ _ _ _) _) _) _ _ _)); (fail_if_success (with_reducible show Exists _)); (fail_if_success (with_reducible show wpAny _ _ (call (Value.type "range") [_, _, _]) _ _ _)); (fail_if_success (with_reducible show LCg.CompSrc _ _ _ _ _ _ _ _ _ _ _ _ _ _)); (first | (k_unfold; (try dsimp only)) | (law_purse 100000 => walk1) | (dsimp only; (law_purse 100000 => walk1)))))
      have Na2 := app_l N14
      have Nb2 := app_l (n_drop (n_drop (n_drop (n_drop (n_drop (n_drop (n_drop (app_r N14))))))))
      refine less_does w mk x2 dx2 nm2 ct2 vs2 tK k1' k2' k3' k4' k5' tn' tnt' tb' hI2 (by (first | lia | omega)) ls x dx nm ct vsW tW k1 k2 k3 k4 k5 tn tnt tb hIW (by (first | lia | omega)) hH2 _ _ _ _ _ _ _ _ _ _ _ _ _ _ _ _ _ _ _ _ _ _ KB F14 KX KT rfl ?kd13zSE ?ku13zSE (n_app Na2 Nb2) ?_
      case kd13zSE => exact of_decide_eq_true rfl
      case ku13zSE => exact of_decide_eq_true rfl
      rintro v15 h15 tk15 st15 rfl
      have F15 := stays_fr F14 st15
      have N15 := stays_news N14 st15
      clear F14 N14 Na2 Nb2
      try dsimp only
      (repeat' ((fail_if_success (with_reducible show wpAny _ _ (pyIter _) _ _ _)); (fail_if_success (with_reducible show wpAny _ _ (call (Value.ref _) _) _ _ _)); (fail_if_success (with_reducible show wpAny _ _ (eval (Expr.ListComp _ _ _ _) _) _ _ _)); (fail_if_success (with_reducible show wpAny _ _ (exec (Stmt.Assign _ (Expr.ListComp _ _ _ _) _) _) _ _ _)); (fail_if_success (with_reducible show Exists _)); (fail_if_success (with_reducible show wpAny _ _ (call (Value.type "range") [_, _, _]) _ _ _)); (fail_if_success (with_reducible show LCg.CompSrc _ _ _ _ _ _ _ _ _ _ _ _ _ _)); (first | (k_unfold; (try dsimp only)) | (law_purse 100000 => walk1) | (dsimp only; (law_purse 100000 => walk1)))))
      exact hQg _ _ F15 N15
    clear F13 N13
    have hmk64 : (Txt.split (Mine.T mk) (Mine.T [9])).length ≤ 64 := by rw [hmk, split_len]; (first | lia | omega)
    rintro h14 tk14 F14 N14
    dsimp only [List.drop] at N14 ⊢
    refine seg_cutN 1 F14 N14 (fun s₁ h₀ L m all P => At s₁ h₀ L m all P) ?t5 ?u5
    case u5 =>
      clear F14 N14
      rintro h18 tk18 F18 N18
      dsimp only [List.drop] at N18 ⊢
      (repeat' ((fail_if_success (with_reducible show wpAny _ _ (pyIter _) _ _ _)); (fail_if_success (with_reducible show wpAny _ _ (call (Value.ref _) _) _ _ _)); (fail_if_success (with_reducible show wpAny _ _ (eval (Expr.ListComp _ _ _ _) _) _ _ _)); (fail_if_success (with_reducible show wpAny _ _ (exec (Stmt.Assign _ (Expr.ListComp _ _ _ _) _) _) _ _ _)); (fail_if_success (with_reducible show Exists _)); (fail_if_success (with_reducible show wpAny _ _ (call (Value.type "range") [_, _, _]) _ _ _)); (fail_if_success (with_reducible show LCg.CompSrc _ _ _ _ _ _ _ _ _ _ _ _ _ _)); (first | (k_unfold; (try dsimp only)) | (law_purse 100000 => walk1) | (dsimp only; (law_purse 100000 => walk1)))))
      have NB := app_r N18
      have NC := n_cons NB (.tail _ (.tail _ (.head _))) (n_cons NB (.tail _ (.tail _ (.tail _ (.head _)))) (n_cons NB (.head _) (n_cons NB (.tail _ (.head _)) (n_drop (n_drop (n_drop (n_drop NB)))))))
      refine ⟨h18, _, _, _, rfl, fr_eq F18 loopM1, NC, ?off, _, _, _, _, rfl, rfl, hT1⟩
      case off =>
        intro p hp
        simp only [List.cons_append, List.nil_append, List.mem_cons, List.not_mem_nil, or_false] at hp
        rcases hp with rfl | rfl | rfl | rfl | rfl | rfl | rfl | rfl | rfl | rfl | rfl | rfl
        · exact hof10 _ (.head _)
        · exact hof10 (30, tabObj q30) (.tail _ (.head _))
        · exact hcI1.symm
        all_goals exact hof10 _ (by k_mem)
    clear F14 N14
    intro sg Qg F14 N14 hQg
    dsimp only [List.take]
    (repeat' ((fail_if_success (with_reducible show wpAny _ _ (pyIter _) _ _ _)); (fail_if_success (with_reducible show wpAny _ _ (call (Value.ref _) _) _ _ _)); (fail_if_success (with_reducible show wpAny _ _ (eval (Expr.ListComp _ _ _ _) _) _ _ _)); (fail_if_success (with_reducible show wpAny _ _ (exec (Stmt.Assign _ (Expr.ListComp _ _ _ _) _) _) _ _ _)); (fail_if_success (with_reducible show Exists _)); (fail_if_success (with_reducible show wpAny _ _ (call (Value.type "range") [_, _, _]) _ _ _)); (fail_if_success (with_reducible show LCg.CompSrc _ _ _ _ _ _ _ _ _ _ _ _ _ _)); (first | (k_unfold; (try dsimp only)) | (law_purse 100000 => walk1) | (dsimp only; (law_purse 100000 => walk1)))))
    have Na := app_l N14
    have Nb := app_l (n_drop (n_drop (n_drop (n_drop (n_drop (n_drop (n_drop (app_r N14))))))))
    refine equal_does w ls x dx nm ct vsW tW k1 k2 k3 k4 k5 tn tnt tb hIW (by (first | lia | omega)) mk x2 dx2 nm2 ct2 vs2 tK k1' k2' k3' k4' k5' tn' tnt' tb' hI2 (by (first | lia | omega)) _ _ _ _ _ _ _ _ _ _ _ _ _ _ _ _ _ _ _ _ _ _ KB F14 KX KT rfl ?kd14 ?ku14 (n_app Nb Na) ?_
    case kd14 => exact of_decide_eq_true rfl
    case ku14 => exact of_decide_eq_true rfl
    rintro v15 h15 tk15 st15 rfl
    have F15 := stays_fr F14 st15
    have N15 := stays_news N14 st15
    clear F14 N14 Na Nb
    try dsimp only
    (repeat' ((fail_if_success (with_reducible show wpAny _ _ (pyIter _) _ _ _)); (fail_if_success (with_reducible show wpAny _ _ (call (Value.ref _) _) _ _ _)); (fail_if_success (with_reducible show wpAny _ _ (eval (Expr.ListComp _ _ _ _) _) _ _ _)); (fail_if_success (with_reducible show wpAny _ _ (exec (Stmt.Assign _ (Expr.ListComp _ _ _ _) _) _) _ _ _)); (fail_if_success (with_reducible show Exists _)); (fail_if_success (with_reducible show wpAny _ _ (call (Value.type "range") [_, _, _]) _ _ _)); (fail_if_success (with_reducible show LCg.CompSrc _ _ _ _ _ _ _ _ _ _ _ _ _ _)); (first | (k_unfold; (try dsimp only)) | (law_purse 100000 => walk1) | (dsimp only; (law_purse 100000 => walk1)))))
    refine runs_does w ls _ (by (first | lia | omega)) (hld ▸ split_64 (hld ▸ hll2)) _ _ _ _ _ _ _ _ _ _ _ _ _ _ _ _ _ _ _ _ _ _ KB F15 KX KT rfl ?kd15 ?ku15 trivial ?_
    case kd15 => exact of_decide_eq_true rfl
    case ku15 => exact of_decide_eq_true rfl
    rintro v16 h16 tk16 st16 ⟨ss1, la1, as1, hR1, hp1, hs1, he1⟩
    have F16 := stays_fr F15 st16
    have N16 := stays_news N15 st16
    clear F15 N15
    try dsimp only
    (repeat' ((fail_if_success (with_reducible show wpAny _ _ (pyIter _) _ _ _)); (fail_if_success (with_reducible show wpAny _ _ (call (Value.ref _) _) _ _ _)); (fail_if_success (with_reducible show wpAny _ _ (eval (Expr.ListComp _ _ _ _) _) _ _ _)); (fail_if_success (with_reducible show wpAny _ _ (exec (Stmt.Assign _ (Expr.ListComp _ _ _ _) _) _) _ _ _)); (fail_if_success (with_reducible show Exists _)); (fail_if_success (with_reducible show wpAny _ _ (call (Value.type "range") [_, _, _]) _ _ _)); (fail_if_success (with_reducible show LCg.CompSrc _ _ _ _ _ _ _ _ _ _ _ _ _ _)); (first | (k_unfold; (try dsimp only)) | (law_purse 100000 => walk1) | (dsimp only; (law_purse 100000 => walk1)))))
    refine runs_does w mk _ (by (first | lia | omega)) hmk64 _ _ _ _ _ _ _ _ _ _ _ _ _ _ _ _ _ _ _ _ _ _ KB F16 KX KT rfl ?kd16 ?ku16 trivial ?_
    case kd16 => exact of_decide_eq_true rfl
    case ku16 => exact of_decide_eq_true rfl
    rintro v17 h17 tk17 st17 ⟨ss2, la2, as2, hR2, hp2, hs2, he2⟩
    have F17 := stays_fr F16 st17
    have N17 := stays_news N16 st17
    have hR1' := Reads.keeps st17 hR1
    clear F16 N16
    try dsimp only
    refine eq_dataH hR1' hR2 (runs_shaped (hld ▸ hp1) (hld ▸ he1)) (runs_shaped (hmk ▸ hp2) (hmk ▸ he2)) (of_decide_eq_true rfl) ?_
    rw [runs_eqv]
    have hsame : decide ((wsOf ls).1 = (wsOf mk).1 ∧ (wsOf ls).2.1 = (wsOf mk).2.1) = decide (ss1 = ss2 ∧ la1 = la2) := by
      rw [← hld] at hp1 he1 ⊢
      rw [hmk] at hp2 he2 ⊢
      exact decide_eq_decide.mpr (same_iff hp1 hs1 he1 hp2 hs2 he2)
    rw [hsame]
    generalize decide (ss1 = ss2 ∧ la1 = la2) = bb
    (repeat' ((fail_if_success (with_reducible show wpAny _ _ (pyIter _) _ _ _)); (fail_if_success (with_reducible show wpAny _ _ (call (Value.ref _) _) _ _ _)); (fail_if_success (with_reducible show wpAny _ _ (eval (Expr.ListComp _ _ _ _) _) _ _ _)); (fail_if_success (with_reducible show wpAny _ _ (exec (Stmt.Assign _ (Expr.ListComp _ _ _ _) _) _) _ _ _)); (fail_if_success (with_reducible show Exists _)); (fail_if_success (with_reducible show wpAny _ _ (call (Value.type "range") [_, _, _]) _ _ _)); (fail_if_success (with_reducible show LCg.CompSrc _ _ _ _ _ _ _ _ _ _ _ _ _ _)); (first | (k_unfold; (try dsimp only)) | (law_purse 100000 => walk1) | (dsimp only; (law_purse 100000 => walk1)))))
    · exact absurd (by assumption : (bb != bb) = true) (by simp)
    (rename Fr _ _ _ _ => F18); (rename News _ _ _ _ => N18)
    exact hQg _ _ F18 N18)
end Mine
theorem PySem.Challenge.cw_ph0140_01_holds : PySem.Challenge.rw_ph0140_01.Holds :=
  Mine.law_all
