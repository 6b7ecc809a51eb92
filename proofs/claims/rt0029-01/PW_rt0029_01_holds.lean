import PyProof.Rows.All
import Wide.All
import OpenK.AllK
import Wide.FinOn
import KE.BitLaws
import Lean
import PySem.Challenge.RW_rt0029_01
set_option Elab.async false

section
open PySem PySem.W PyProof.Rows PySem.Calls PySem.Spec
namespace Mine

theorem below_up {A : Around} {base h h' : Heap} {outer : List Env} (B : Below A base outer h) (k : h.StaysIn h') : Below A base outer h' :=
  ⟨B.stack, fun b o e => k b o (B.stays b o e), B.frames.of_keeps fun b o e _ => ⟨o, k b o e, rfl⟩⟩

theorem fr_down {h₀ g h : Heap} {L : Addr} {m : Str → Option Value} (F : Fr g L h m) (k : h₀.StaysIn g) (ha : h₀.objs.size ≤ L) : Fr h₀ L h m :=
  ⟨F.ns, fun b o e => F.keep b o (k b o e), ha⟩

theorem news_down {h₀ g h : Heap} {L : Addr} {news : List (Addr × Obj)} (N : News g L h news) (k : h₀.StaysIn g) : News h₀ L h news := fun p hp =>
  ⟨(N p hp).1, (N p hp).2.1, by
    cases q : h₀.get? p.1 with
    | none => rfl
    | some o => have := (N p hp).2.2; rw [k _ _ q] at this; cases this⟩

theorem enter_pure {prog : Program} {w : World} {A : Around} {s : Shared} {K : Frag} {p : Program} {loose : List Str} {mean : ExcName → Option Value} {mg mb : Str → Option Value} {h₀ : Heap} {L : Addr} {m : Str → Option Value} {env : Env} {R : Result → Shared → Prop} {name qual : Str} {params : Arguments} {body : List Stmt} {scope : Scope} {dV kV doc pm cdv ct oc : Value} {an od : Option Addr} {osl : Array (Option Value)} {f : Addr} {args : Args} {binds : List (Str × Value)}
    (F : Fr h₀ L s.heap m) (X₀ : K.In h₀) (T : Top p loose mean mg mb h₀) (hf : env.frame = some L) (hke : env.scope.kind = .function)
    (ho : K.lookup f = some ⟨oc, od, .func (fnOf name qual params body scope dV kV doc pm an cdv ct), osl⟩) (hcd : codeIn K cdv qual = true) (hroom : A.depth < recursionLimit)
    (hbind : BindsTo s (fnOf name qual params body scope dV kV doc pm an cdv ct) args binds) (hloc : ∀ y ∈ binds, scope.names.lookup y.1 = some .local)
    (h : ∀ L' h₁, Fr s.heap L' h₁ (fun y => binds.reverse.lookup y) → News s.heap L' h₁ [] → K.In s.heap → Top p loose mean mg mb s.heap →
      wpAny (model prog w) (A.deeper (envOf qual scope L' f cdv)) (execs body (envOf qual scope L' f cdv))
        (fun fl s' => LeaveK h₀ L m s.heap R (match fl with | .ret v => v | _ => .none) s')
        (fun e s' => wpAny (model prog w) (A.deeper (envOf qual scope L' f cdv)) (leaving (envOf qual scope L' f cdv) e) (fun _ s'' => R (.error e) s'') (fun e' s'' => R (.error e') s'') s')
        { s with heap := h₁, toks := s.toks + binds.length })
    (hco : scope.isCoroutine = false) (hgen : scope.isGenerator = false) (hk : scope.kind = .function)
    (hcell : ∀ x ∈ scope.names, x.2 ≠ .cell) : codeAny (model prog w) A (.call (.ref f) args) R s := by
  have st : h₀.StaysIn s.heap := F.keep
  have X := X₀.keeps F.keep
  have T' := T.keeps F.keep
  refine codeAny_call_def (fd := fnOf name qual params body scope dV kV doc pm an cdv ct) (body := body) (binds := binds) hroom (X _ _ ho) rfl (T'.nolimit) (codeRec_of X hcd) rfl hbind hcell hloc (fun h₁ hns hk₁ => ?_) hco hgen hk
  refine wpAny_mono (h s.heap.objs.size h₁ ⟨hns, fun b o e => hk₁ b o e, Nat.le_refl _⟩ News.nil X T') (fun fl s' hl => ?_) fun _ _ y => y
  obtain ⟨L', m', news', F', N', k⟩ := hl
  obtain ⟨oL, es, ep, hL, hLd, hLk, hLf⟩ := F.ns
  refine k ⟨⟨oL, es, ep, F'.keep L oL hL, hLd, hLk, hLf⟩, fun b o e => F'.keep b o (st b o e), F.above⟩ fun p hp => ⟨(N' p hp).1, fun q => ?_, ?_⟩
  · have := (N' p hp).2.2; rw [q, hL] at this; cases this
  · cases q : h₀.get? p.1 with
    | none => rfl
    | some o => have := (N' p hp).2.2; rw [st _ _ q] at this; cases this

theorem ret1 {h₀ h h' : Heap} {L L' : Addr} {m m' : Str → Option Value} {news out news9 : List (Addr × Obj)} (F : Fr h₀ L h m) (N : News h₀ L h news) (F9 : Fr h L' h' m') (N9 : News h L' h' news9) (hs : ∀ p ∈ out, p ∈ news9) :
    Fr h₀ L h' m ∧ News h₀ L h' (out ++ news) ∧ h.StaysIn h' ∧ ∀ p ∈ news, ∀ q ∈ out, p.1 ≠ q.1 := by
  have fresh : ∀ q ∈ out, h.get? q.1 = none := fun q hq => (N9 q (hs q hq)).2.2
  refine ⟨F.keeps F9.keep, fun p hp => ?_, F9.keep, fun p hp q hq e => ?_⟩
  · rcases List.mem_append.mp hp with hp | hp
    · refine ⟨(N9 p (hs p hp)).1, fun e => ?_, ?_⟩
      · obtain ⟨oL, _, _, hL, _⟩ := F.ns
        have := fresh p hp; rw [e, hL] at this; cases this
      · cases q : h₀.get? p.1 with
        | none => rfl
        | some o => have := fresh p hp; rw [F.keep _ _ q] at this; cases this
    · exact N.grown F9.keep p hp
  · have := fresh q hq; rw [← e, (N p hp).1] at this; cases this
theorem drop_news {h₀ h : Heap} {L : Addr} {news out : List (Addr × Obj)} (N : News h₀ L h news) (hs : ∀ p ∈ out, p ∈ news) : News h₀ L h out := fun p hp => N p (hs p hp)

/-- what «split» hands back -/
def splitF (x : Str) : Str × Str :=
  let i := Txt.rfind x (Str.ofString "/") + 1
  let head := Txt.slice x none (some i)
  let tail := Txt.slice x (some i) none
  (if (head.length : Int) ≠ 0 ∧ (head != Txt.mul (Str.ofString "/") (head.length : Int)) = true then Txt.rstripChars head (Str.ofString "/") else head, tail)

theorem news_name {h₀ h : Heap} {L a : Addr} {o : Obj} {r : List (Addr × Obj)} (_N : News h₀ L h ((a, o) :: r)) : ∃ x, x = a := ⟨a, rfl⟩
theorem news_name2 {h₀ h : Heap} {L a : Addr} {o : Obj} {p : Addr × Obj} {r : List (Addr × Obj)} (_N : News h₀ L h (p :: (a, o) :: r)) : ∃ x, x = a := ⟨a, rfl⟩
theorem news_name3 {h₀ h : Heap} {L a : Addr} {o : Obj} {p q : Addr × Obj} {r : List (Addr × Obj)} (_N : News h₀ L h (p :: q :: (a, o) :: r)) : ∃ x, x = a := ⟨a, rfl⟩
theorem news_nm {h₀ h : Heap} {L a : Addr} {o : Obj} {l : List (Addr × Obj)} (k : Nat) (_N : News h₀ L h l) (_e : l[k]? = some (a, o)) : ∃ x, x = a := ⟨a, rfl⟩
theorem ints_name {vs : List Value} {ns : List Int} (_h : IntsAre vs ns) : ∃ x, x = vs := ⟨vs, rfl⟩
def Hid (P : Prop) : Prop := P
theorem Hid.out {P : Prop} (h : Hid P) : P := h
end Mine
end

section
open PySem PySem.W PyProof.Rows
-- the head in pieces lays some four hundred thousand nodes of twins (15 MB): the line below lets that road fall, and the head takes its other one, the top in one run
local macro_rules
  | `(($e : $t)) => if e.raw.isOfKind ``Lean.Parser.Term.structInst && t.raw.getId.eraseMacroScopes == `Env then Lean.Macro.throwError "at once" else Lean.Macro.throwUnsupported
namespace Mine
set_option maxRecDepth 100000 in
set_option maxHeartbeats 8000000 in
open_top hd for PySem.Challenge.rw_rt0029_01
end Mine
end

section
open PySem PySem.W PyProof.Rows PySem.Calls PySem.Spec
set_option maxRecDepth 100000
namespace Mine
section
variable {prog : Program} {w : World} {A : Around} {E : Value → Shared → Prop} {s : Shared}
theorem str_meta : typeOf (.type "str") = pure (.type "type") := by first | rfl | kernel_rfl | decide +kernel
theorem str_sub : isSubtype (.type "str") (.type "str") = pure true := by rw [isSubtype_type]; kernel_rfl

theorem iss_nested_self {k : Value} {dep : Int} {tk : Tok} {Q : Fin → Shared → Prop} (hk : k = .int dep tk) 
    (hq : Q (.done (.ret (.bool true))) s) :
    wpAny (model prog w) A (Builtin.«issubclass.nested» ⟨[.type "str", .type "str", k], []⟩) Q E s := by
  subst hk
  have hm := str_meta
  have hself := str_sub
  repeat (any_goals (first | assumption | (rw [if_pos hm]) | (rw [hself]) | wp_step))

theorem iss_nested_meets (dep : Int) (tk : Tok) : Meets (Builtin.«issubclass.nested» ⟨[.type "str", .type "str", .int dep tk], []⟩) (fun _ R s => R (.ok (.ret (.bool true))) s) :=
  fun _ _ _ _ _ hs => iss_nested_self rfl hs

theorem iss_kind : builtinKind "issubclass.nested" = none := by decide +kernel
theorem iss_plain : plainId "issubclass.nested" = true := by decide +kernel
theorem iss_args (a b c : Value) : argsOk "issubclass.nested" ⟨[a, b, c], []⟩ := by unfold argsOk; kernel_rfl

theorem iss_items {dep : Int} {cs : List Value} {Q : Option Fin × Unit → Shared → Prop} 
    (h : Q (some (.done (.ret (.bool true))), ()) s) :
    wpAny (model prog w) A (forIn (Value.type "str" :: cs) ((none : Option Fin), ()) fun c _ => do
      if ← truthy (← call (.builtin "issubclass.nested") [.type "str", c, rawInt (dep + 1)]) then
        let r ← ret (.bool true)
        pure (ForInStep.done (some r, ()))
      else pure (ForInStep.yield (none, ()))) Q E s := by
  rw [List.forIn_cons]
  refine wpAny_bind (wpAny_bind (call_function_meets iss_kind iss_plain F.entry_issubclass_nested (iss_args _ _ _) (iss_nested_meets _ _) ?_))
  show wpAny _ _ (truthy (.bool true) >>= _) _ _ _
  refine wpAny_bind (m := truthy (.bool true)) (wpAny_pure ?_)
  exact wpAny_bind (wpAny_pure (wpAny_pure (wpAny_pure h)))

theorem iss_nested_tuple {tp : Addr} {cs : List Value} {arr : Array Value} {tk : Tok} {Q : Fin → Shared → Prop} (harr : arr.toList = Value.type "str" :: cs)
    (htp : s.heap.get? tp = some { cls := .type "tuple", data := .seq arr })
    (hq : Q (.done (.ret (.bool true))) s) : wpAny (model prog w) A (Builtin.«issubclass.nested» ⟨[.type "str", .ref tp, .int 0 tk], []⟩) Q E s := by
  obtain ⟨h, g, d, t, os⟩ := s
  have hT2 : (⟨h, g, d, t, os⟩ : Shared).TypeIs (.ref tp) "tuple" := ⟨_, htp, rfl⟩
  have f1 := PySem.F.isi_sub_tuple
  repeat (any_goals (first | assumption | wp_step))
  refine wpAny_arrayLoop ?_
  simp only [Option.getD_some, harr]
  refine iss_items (dep := 0) ?_
  repeat (any_goals (first | assumption | wp_step))

theorem iss_call {tp : Addr} {cs : List Value} {Q : Value → Shared → Prop}
    (htp : s.heap.get? tp = some { cls := .type "tuple", data := .seq (Value.type "str" :: cs).toArray })
    (hq : Q (.bool true) s) : wpAny (model prog w) A (call (.builtin "issubclass") [.type "str", .ref tp]) Q E s :=
  call_issubclass (S := fun _ R s' => s' = s ∧ R (.ok (.ret (.bool true))) s') (fun _ _ _ _ _ ⟨he, hs⟩ => issubclass_outer (iss_nested_tuple (cs := cs) rfl (he ▸ htp) hs)) ⟨rfl, hq⟩
end
end Mine
end

section
namespace Mine
theorem rst_S1 : True := by w_top off; trivial
end Mine
local macro_rules | `(tactic| walk_at "mine pad") => `(tactic| fail "pad")
open PySem PySem.W PyProof.Rows PySem.Calls PySem.Spec
namespace Mine
local macro_rules | `(tactic| walk_at "call builtin:issubclass") => `(tactic| (k_here; (with_reducible show wpAny _ _ (call (Value.builtin "issubclass") [Value.type "str", Value.ref _]) _ _ _); (rename News _ _ _ _ => N9); (with_unfolding_all refine iss_call (cs := [Value.type "bytes"]) (News.get N9 (by k_mem)) ?_)))
set_option maxRecDepth 100000 in
set_option maxHeartbeats 8000000 in
theorem get_sep_spec {w : World} {s₀ : Shared} {mg mb : Str → Option Value} {dp un : Nat} {gd : Option (List Code)} {cn : Str} {cs : Scope} {a : Addr} {ccd : Value} {cl : List (Str × Addr)} {outer : List Env} {h₀ : Heap} {L : Addr} {m : Str → Option Value} {news : List (Addr × Obj)} {s : Shared}
    {Q E : Value → Shared → Prop} {x : Str} {t : Tok} :
    (hd.heap_39 w.params).In h₀ → Top hd.view_39 (looseW hd.view_39 []) (ExcName.means s₀.heap) mg mb h₀ →
    Fr h₀ L s.heap m → News h₀ L s.heap news → cs.kind = .function → dp + 2 < recursionLimit → un + 20 < cLine →
    
    (∀ t h' tk', Fr h₀ L h' m → News h₀ L h' news → s.heap.StaysIn h' → Q (.str (Str.ofString "/") t) { s with heap := h', toks := tk' }) →
    wpAny (model PySem.Challenge.rw_rt0029_01.row.prog w) (ktrTop dp un gd cn cs L a ccd cl outer) (call (.ref 115) [.str x t]) Q E s := by
  k_fill
  intro X T F N hk hd hu hret
  refine wpAny_call ?_
  k_dflt (refine' enter_pure (env := envX cn cs L a ccd cl) ?k2 ?k3 ?k5 ?kF ?kK ?k6 ?k7 ?k8 ?k9 ?kB ?_ ?c2 ?c3 ?c4 ?c5; (case kF => exact rfl); (case kK => assumption); (case k2 => k_asm); (case k3 => k_asm); (case k5 => k_asm); (case k6 => k_is); (case k7 => k_is); (case k8 => ktr_room); (case k9 => exact BindsTo.of_eq rfl); (case c5 => decide); (case kB => exact locs rfl); (case c2 => exact rfl); (case c3 => exact rfl); (case c4 => exact rfl); k_whole; intro L' h' F' N' X' T'; (try dsimp only); (try k_fold))
  repeat' (first | (k_unfold; (try dsimp only)) | (k_end; wrow_close) | walk1 | (dsimp only; walk1) | (dsimp only; k_unfold; (try dsimp only)) | (leave1; try dsimp only) | fail "no step")
  (rename Fr s.heap _ _ _ => F9)
  exact hret _ _ _ (F.keeps F9.keep) (N.grown F9.keep) F9.keep
set_option maxRecDepth 100000 in
set_option maxHeartbeats 8000000 in
theorem fspath_spec {w : World} {s₀ : Shared} {mg mb : Str → Option Value} {dp un : Nat} {gd : Option (List Code)} {cn : Str} {cs : Scope} {a : Addr} {ccd : Value} {cl : List (Str × Addr)} {outer : List Env} {h₀ : Heap} {L : Addr} {m : Str → Option Value} {news : List (Addr × Obj)} {s : Shared}
    {Q E : Value → Shared → Prop} {x : Str} {t : Tok} :
    (hd.heap_39 w.params).In h₀ → Top hd.view_39 (looseW hd.view_39 []) (ExcName.means s₀.heap) mg mb h₀ →
    Fr h₀ L s.heap m → News h₀ L s.heap news → cs.kind = .function → dp + 2 < recursionLimit → un + 20 < cLine →
    
    (∀ h' tk', Fr h₀ L h' m → News h₀ L h' news → s.heap.StaysIn h' → Q (.str x t) { s with heap := h', toks := tk' }) →
    wpAny (model PySem.Challenge.rw_rt0029_01.row.prog w) (ktrTop dp un gd cn cs L a ccd cl outer) (call (.ref 101) [.str x t]) Q E s := by
  k_fill
  intro X T F N hk hd hu hret
  refine wpAny_call ?_
  k_dflt (refine' enter_pure (env := envX cn cs L a ccd cl) ?k2 ?k3 ?k5 ?kF ?kK ?k6 ?k7 ?k8 ?k9 ?kB ?_ ?c2 ?c3 ?c4 ?c5; (case kF => exact rfl); (case kK => assumption); (case k2 => k_asm); (case k3 => k_asm); (case k5 => k_asm); (case k6 => k_is); (case k7 => k_is); (case k8 => ktr_room); (case k9 => exact BindsTo.of_eq rfl); (case c5 => decide); (case kB => exact locs rfl); (case c2 => exact rfl); (case c3 => exact rfl); (case c4 => exact rfl); k_whole; intro L' h' F' N' X' T'; (try dsimp only); (try k_fold))
  repeat' (first | (k_unfold; (try dsimp only)) | (k_end; wrow_close) | walk1 | (dsimp only; walk1) | (dsimp only; k_unfold; (try dsimp only)) | (leave1; try dsimp only) | fail "no step")
  (rename Fr s.heap _ _ _ => F9)
  exact hret _ _ (F.keeps F9.keep) (N.grown F9.keep) F9.keep
end Mine
end

section
open PySem PySem.W PyProof.Rows PySem.Calls PySem.Spec
namespace Mine
/-- what one turn of «join» makes of the path -/
def joinS (path b : Str) : Str :=
  if Txt.startswith b (Str.ofString "/") = true ∨ (path.length : Int) = 0 then b
  else if Txt.endswith path (Str.ofString "/") = true then path ++ b
  else path ++ (Str.ofString "/" ++ b)
def joinF (xs : List Str) : Str := xs.foldl joinS (Str.ofString "/")
/-- an int's text -/
def itxt (n : Int) : Str := Str.ofString (toString n)
/-- the path of a row of octets -/
def pathOf (os : List Int) : Str := joinF (os.map itxt)
/-- octets of a row -/
def Octs (os : List Int) : Prop := ∀ b ∈ os, 0 ≤ b ∧ b < 128
/-- a path cut at its slashes -/
def partsOf (os : List Int) : List Str := if os = [] then [Str.ofString "", Str.ofString ""] else Str.ofString "" :: os.map itxt
/-- a part that is a name -/
def okC (c : Str) : Bool := decide ((c.length : Int) ≠ 0) && (c != Str.ofString ".")
theorem partsOf_len (os : List Int) : (partsOf os).length ≤ os.length + 2 := by
  unfold partsOf
  split
  · simp
  · simp
theorem filter_snoc {ps : List Str} {i : Nat} {y : Str} (h : ps[i]? = some y) : (ps.take (i + 1)).filter okC = (ps.take i).filter okC ++ if okC y then [y] else [] := by
  rw [List.take_add_one, h, List.filter_append]
  cases hp : okC y <;> simp [hp]
theorem okC_yes {c : Str} (h1 : (c.length : Int) ≠ 0) (h2 : (c != Str.ofString ".") = true) : okC c = true := by
  unfold okC; rw [decide_eq_true h1, h2]; rfl
theorem okC_no {c : Str} (h : (c.length : Int) = 0 ∨ (c != Str.ofString ".") = false) : ¬ okC c = true := by
  unfold okC
  rcases h with h | h
  · rw [decide_eq_false (fun q => q h)]; simp
  · rw [h]; simp
end Mine
end

section
open PySem PySem.W PyProof.Rows PySem.Calls PySem.Spec
open PySem.Builtin.Str
open PySem.StrLaws
namespace Mine
/-- a name of a path: no slash in it, no void, no dot -/
def goodT (y : Str) : Bool := !y.cps.toList.isEmpty && y.cps.toList.all (fun c => c != 47 && c != 46) && decide (y.length ≤ 3)
theorem good_all : ∀ n : Fin 128, goodT (itxt (n.val : Int)) = true := by decide +kernel
theorem good_itxt {o : Int} (h0 : 0 ≤ o) (h1 : o < 128) : goodT (itxt o) = true := by
  have h := good_all ⟨o.toNat, by omega⟩
  simp only at h
  rwa [show ((o.toNat : Nat) : Int) = o by omega] at h
theorem good_ne {y : Str} (h : goodT y = true) : y.cps.toList ≠ [] := by
  unfold goodT at h
  simp only [Bool.and_eq_true, Bool.not_eq_true', List.isEmpty_eq_false_iff] at h
  exact h.1.1
theorem good_no {y : Str} (h : goodT y = true) : ∀ c ∈ y.cps.toList, c ≠ 47 ∧ c ≠ 46 := by
  unfold goodT at h
  simp only [Bool.and_eq_true, List.all_eq_true, bne_iff_ne, ne_eq] at h
  exact fun c hc => h.1.2 c hc
theorem good_len {y : Str} (h : goodT y = true) : y.length ≤ 3 := by
  unfold goodT at h
  simp only [Bool.and_eq_true, decide_eq_true_eq] at h
  exact h.2
theorem itxt_len {o : Int} (h0 : 0 ≤ o) (h1 : o < 128) : (itxt o).length ≤ 3 := good_len (good_itxt h0 h1)
theorem slash : Str.ofString "/" = ⟨#[47]⟩ := by decide +kernel
theorem len_list (x : Str) : x.length = x.cps.toList.length := by simp [Str.length]
theorem str_eq {x y : Str} (h : x.cps.toList = y.cps.toList) : x = y := Str.ext' (Array.toList_inj.mp h)
theorem app_list (x y : Str) : (x ++ y).cps.toList = x.cps.toList ++ y.cps.toList := by rw [Str.cps_append, Array.toList_append]
theorem slash_list : (Str.ofString "/").cps.toList = [47] := by rw [slash]

theorem starts_slash (y : Str) : Txt.startswith y (Str.ofString "/") = (y.cps.toList.head? == some 47) := by
  unfold Txt.startswith
  rw [subAt_eq, show (Str.ofString "/").length = 1 by rw [slash]; rfl, slash_list, len_list]
  cases y.cps.toList with
  | nil => rfl
  | cons c r => simp
theorem ends_slash (y : Str) : Txt.endswith y (Str.ofString "/") = (y.cps.toList.getLast? == some 47) := by
  unfold Txt.endswith
  rw [subAt_eq, show (Str.ofString "/").length = 1 by rw [slash]; rfl, slash_list, len_list]
  rcases List.eq_nil_or_concat y.cps.toList with h | ⟨l, a, h⟩
  · rw [h]; rfl
  · rw [h, List.concat_eq_append]
    simp

theorem octs_snoc {os : List Int} {o : Int} (h : Octs (os ++ [o])) : Octs os ∧ goodT (itxt o) = true :=
  ⟨fun b hb => h b (List.mem_append_left _ hb), good_itxt (h o (by simp)).1 (h o (by simp)).2⟩
theorem snoc_ind {α : Type} {P : List α → Prop} (h0 : P []) (h1 : ∀ l a, P l → P (l ++ [a])) (l : List α) : P l := by
  have H : ∀ (n : Nat) (l : List α), l.length = n → P l := by
    intro n
    induction n with
    | zero => intro l h; rw [List.eq_nil_of_length_eq_zero h]; exact h0
    | succ n ih =>
      intro l h
      rcases List.eq_nil_or_concat l with rfl | ⟨r, a, rfl⟩
      · exact h0
      · rw [List.concat_eq_append] at h ⊢
        exact h1 r a (ih r (by simpa using h))
  exact H l.length l rfl

/-- a path's signs -/
def pathL (os : List Int) : List Nat := match os with | [] => [47] | _ => os.flatMap fun o => 47 :: (itxt o).cps.toList
theorem pathL_snoc (os : List Int) (o : Int) : pathL (os ++ [o]) = (if os = [] then [] else pathL os) ++ 47 :: (itxt o).cps.toList := by
  cases os with
  | nil => simp [pathL]
  | cons a r =>
    have e : (a :: r) ++ [o] = a :: (r ++ [o]) := rfl
    rw [e, if_neg (List.cons_ne_nil _ _)]
    show (a :: (r ++ [o])).flatMap _ = (a :: r).flatMap _ ++ _
    simp
theorem pathL_last {os : List Int} (h : Octs os) (hne : os ≠ []) : (pathL os).getLast? ≠ some 47 := by
  rcases List.eq_nil_or_concat os with rfl | ⟨r, o, rfl⟩
  · exact absurd rfl hne
  · rw [List.concat_eq_append] at h ⊢
    have g := (octs_snoc h).2
    rw [pathL_snoc]
    obtain ⟨c, t, hc⟩ := List.exists_cons_of_ne_nil (good_ne g)
    rw [List.getLast?_append, List.getLast?_cons]
    intro e
    simp only [Option.some_or, Option.some.injEq] at e
    have hl : (itxt o).cps.toList.getLast? = some ((itxt o).cps.toList.getLast?.getD 47) := by rw [hc]; simp [List.getLast?_cons]
    rw [e] at hl
    exact (good_no g 47 (List.mem_of_getLast? hl)).1 rfl
theorem path_list : ∀ (os : List Int), Octs os → (pathOf os).cps.toList = pathL os := by
  refine snoc_ind (fun _ => slash_list) fun os o ih h => ?_
  obtain ⟨h1, g⟩ := octs_snoc h
  have e : pathOf (os ++ [o]) = joinS (pathOf os) (itxt o) := by simp [pathOf, joinF]
  have ih := ih h1
  have hs : ¬ (Txt.startswith (itxt o) (Str.ofString "/") = true ∨ ((pathOf os).length : Int) = 0) := by
    rintro (q | q)
    · rw [starts_slash] at q
      obtain ⟨c, t, hc⟩ := List.exists_cons_of_ne_nil (good_ne g)
      rw [hc] at q
      have e47 : c = 47 := by simpa using q
      exact (good_no g c (by rw [hc]; exact .head _)).1 e47
    · rw [len_list, ih] at q
      cases os with
      | nil => simp [pathL] at q
      | cons a r =>
        have q2 : (pathL (a :: r)).length = 0 := by omega
        simp [pathL] at q2
  rw [e, joinS, if_neg hs, pathL_snoc]
  by_cases hn : os = []
  · subst hn
    rw [if_pos (show Txt.endswith (pathOf []) (Str.ofString "/") = true by rw [ends_slash, ih]; rfl), if_pos rfl, app_list, ih]
    rfl
  · rw [if_neg (show ¬ Txt.endswith (pathOf os) (Str.ofString "/") = true by rw [ends_slash, ih]; simpa using pathL_last h1 hn), if_neg hn, app_list, app_list, ih, slash_list]
    rfl
theorem pathL_ne (os : List Int) : ∃ t, pathL os = 47 :: t := by
  cases os with
  | nil => exact ⟨[], rfl⟩
  | cons a r => exact ⟨(itxt a).cps.toList ++ r.flatMap fun o => 47 :: (itxt o).cps.toList, by simp only [pathL, List.flatMap_cons, List.cons_append]⟩
theorem pathOf_ne {os : List Int} (h : Octs os) (hne : os ≠ []) : (pathOf os != Str.ofString "/") = true := by
  rw [bne_iff_ne]
  intro e
  have := path_list os h
  rw [e, slash_list] at this
  exact pathL_last h hne (by rw [← this]; rfl)
theorem pathOf_len {os : List Int} (h : Octs os) : (pathOf os).length ≤ 1 + 4 * os.length := by
  rw [len_list, path_list os h]
  cases os with
  | nil => simp [pathL]
  | cons a r =>
    have H : ∀ l : List Int, Octs l → (l.flatMap fun o => 47 :: (itxt o).cps.toList).length ≤ 4 * l.length := by
      intro l
      induction l with
      | nil => intro _; simp
      | cons a r ih =>
        intro h
        have h1 := ih fun b hb => h b (.tail _ hb)
        have h2 := itxt_len (h a (.head _)).1 (h a (.head _)).2
        rw [len_list] at h2
        simp only [List.flatMap_cons, List.length_append, List.length_cons]
        omega
    have := H (a :: r) h
    show ((a :: r).flatMap fun o => 47 :: (itxt o).cps.toList).length ≤ _
    omega
theorem pathOf_starts {os : List Int} (h : Octs os) : Txt.startswith (pathOf os) (Str.ofString "/") = true := by
  rw [starts_slash, path_list os h]
  obtain ⟨t, e⟩ := pathL_ne os
  rw [e]; rfl

theorem at_slash (x : Str) (i : Nat) : At x (Str.ofString "/") x.length i ↔ x.cps.toList[i]? = some 47 := by
  rw [slash]; exact subAt_one x 47 i
theorem last_at {x : Str} {l r : List Nat} (e : x.cps.toList = l ++ 47 :: r) (h : ∀ c ∈ r, c ≠ 47) : Txt.rfind x (Str.ofString "/") = (l.length : Int) := by
  unfold Txt.rfind
  have hp : At x (Str.ofString "/") x.length l.length := (at_slash x _).mpr (by rw [e]; simp)
  rcases last_spec x (Str.ofString "/") with ⟨_, hn⟩ | ⟨i, e1, hi, hk⟩
  · exact absurd hp (hn _)
  · rw [e1]
    rw [at_slash, e] at hi
    have : i = l.length := by
      rcases Nat.lt_trichotomy i l.length with q | q | q
      · exact absurd hp (hk _ q)
      · exact q
      · rw [List.getElem?_append_right (by omega)] at hi
        obtain ⟨j, hj⟩ : ∃ j, i - l.length = j + 1 := ⟨i - l.length - 1, by omega⟩
        rw [hj, List.getElem?_cons_succ] at hi
        exact absurd rfl (h 47 (List.mem_of_getElem? hi))
    simp [this]
theorem slice_take {x : Str} {l r : List Nat} (e : x.cps.toList = l ++ r) : Txt.slice x none (some (l.length : Int)) = ⟨l.toArray⟩ := by
  have h := sliceText_to (x := x) (j := (l.length : Int)) ⟨by omega, by rw [e, List.length_append]; omega⟩
  rw [e] at h
  refine Eq.trans (b := sliceText x none (some (l.length : Int))) rfl (h.trans ?_)
  simp
theorem slice_drop {x : Str} {l r : List Nat} (e : x.cps.toList = l ++ r) : Txt.slice x (some (l.length : Int)) none = ⟨r.toArray⟩ := by
  have h := sliceText_from (x := x) (i := (l.length : Int)) ⟨by omega, by rw [e, List.length_append]; omega⟩
  rw [e] at h
  refine Eq.trans (b := sliceText x (some (l.length : Int)) none) rfl (h.trans ?_)
  have e9 : ((l.length : Int) + (r.length : Int)).toNat - l.length = r.length := by omega
  simp [e9]

theorem rstrip_one {x : Str} {l : List Nat} (e : x.cps.toList = l ++ [47]) (h : l.getLast? ≠ some 47) : Txt.rstripChars x (Str.ofString "/") = ⟨l.toArray⟩ := by
  unfold Txt.rstripChars Txt.stripBy
  have hc : ∀ c, (Str.ofString "/").cps.contains c = (c == 47) := by intro c; rw [slash]; simp; rfl
  have hn : ((x.cps.toList.drop 0).reverse.takeWhile (Str.ofString "/").cps.contains) = [47] := by
    rw [List.drop_zero, e, List.reverse_append]
    show List.takeWhile _ (47 :: l.reverse) = _
    rw [List.takeWhile_cons, hc, if_pos (by decide)]
    rcases List.eq_nil_or_concat l with rfl | ⟨r, a, rfl⟩
    · rfl
    · rw [List.concat_eq_append] at h ⊢
      rw [List.reverse_append]
      show 47 :: List.takeWhile _ (a :: r.reverse) = _
      rw [List.takeWhile_cons, hc, if_neg (by simpa using h)]
  have hl : x.length = l.length + 1 := by rw [len_list, e]; simp
  have e2 : stripHi (Str.ofString "/").cps.contains true x (stripLo (Str.ofString "/").cps.contains false x) = l.length := by
    show x.length - ((x.cps.toList.drop 0).reverse.takeWhile _).length = _
    rw [hn, hl]; simp
  have e3 : stripSame (Str.ofString "/").cps.contains false true x = false := by
    unfold stripSame
    rw [e2, hl]
    simp
  rw [e3, if_neg Bool.false_ne_true]
  unfold PySem.stripped
  rw [e2]
  apply str_eq
  rw [strSub_toList, e]
  show (List.drop 0 (l ++ [47])).take (l.length - 0) = _
  simp
theorem pathOf_split {os : List Int} {o : Int} (h : Octs (os ++ [o])) : splitF (pathOf (os ++ [o])) = (pathOf os, itxt o) := by
  obtain ⟨h1, g⟩ := octs_snoc h
  have e := path_list _ h
  rw [pathL_snoc] at e
  have hr := last_at e fun c hc => (good_no g c hc).1
  unfold splitF
  dsimp only
  rw [hr]
  by_cases hn : os = []
  · subst hn
    rw [if_pos rfl, List.nil_append] at e
    rw [if_pos rfl, show (([] : List Nat).length : Int) + 1 = (([47] : List Nat).length : Int) from rfl]
    have e1 : (pathOf ([] ++ [o])).cps.toList = [47] ++ (itxt o).cps.toList := e
    rw [slice_take e1, slice_drop e1]
    rw [if_neg (by rintro ⟨_, q⟩; exact absurd q (by decide +kernel))]
    refine Prod.ext ?_ (str_eq rfl)
    exact slash.symm
  · rw [if_neg hn] at e
    rw [if_neg hn]
    have e1 : (pathOf (os ++ [o])).cps.toList = (pathL os ++ [47]) ++ (itxt o).cps.toList := by rw [e]; simp
    rw [show ((pathL os).length : Int) + 1 = ((pathL os ++ [47]).length : Int) by simp]
    rw [slice_take e1, slice_drop e1]
    obtain ⟨a, r, rfl⟩ := List.exists_cons_of_ne_nil hn
    obtain ⟨c, t, hc⟩ := List.exists_cons_of_ne_nil (good_ne (good_itxt (h1 a (.head _)).1 (h1 a (.head _)).2))
    have hp : pathL (a :: r) = 47 :: c :: (t ++ r.flatMap fun o => 47 :: (itxt o).cps.toList) := by simp [pathL, hc]
    have hc47 : c ≠ 47 := (good_no (good_itxt (h1 a (.head _)).1 (h1 a (.head _)).2) c (by rw [hc]; exact .head _)).1
    rw [if_pos]
    · refine Prod.ext ?_ (str_eq rfl)
      show Txt.rstripChars _ _ = _
      rw [rstrip_one (l := pathL (a :: r)) rfl (pathL_last h1 hn)]
      exact str_eq (path_list _ h1).symm
    · refine ⟨?_, ?_⟩
      · show (((pathL (a :: r) ++ [47]).toArray.size : Nat) : Int) ≠ 0
        simp only [List.size_toArray, List.length_append, List.length_cons]
        omega
      · rw [bne_iff_ne]
        intro q
        have q2 := congrArg (fun z : Str => z.cps.toList) q
        have q3 : ∀ (n : Int), ∀ d ∈ (Txt.mul (Str.ofString "/") n).cps.toList, d = 47 := by
          intro n d hd
          unfold Txt.mul at hd
          split at hd
          · exact absurd hd (by simp [Str.empty])
          · split at hd
            · rw [slash_list] at hd; exact List.mem_singleton.mp hd
            · have H : ∀ (k : Nat) (acc : Array Nat), (∀ d ∈ acc.toList, d = 47) → ∀ d ∈ ((List.replicate k (Str.ofString "/").cps).foldl (· ++ ·) acc).toList, d = 47 := by
                intro k
                induction k with
                | zero => intro acc ha; exact ha
                | succ k ih =>
                  intro acc ha
                  rw [List.replicate_succ, List.foldl_cons]
                  refine ih _ fun d hd => ?_
                  rw [Array.toList_append, slash_list] at hd
                  rcases List.mem_append.mp hd with hd | hd
                  · exact ha d hd
                  · exact List.mem_singleton.mp hd
              exact H _ #[] (fun d hd => absurd hd (by simp)) d hd
        have : c ∈ (⟨(pathL (a :: r) ++ [47]).toArray⟩ : Str).cps.toList := by rw [hp]; simp
        dsimp only at q2
        rw [q2] at this
        exact hc47 (q3 _ c this)
theorem parts_short {os : List Int} (h : Octs os) {i : Nat} {y : Str} (hy : (partsOf os)[i]? = some y) : y.length ≤ 3 := by
  have hm := List.mem_of_getElem? hy
  unfold partsOf at hm
  split at hm
  · have e : y = Str.ofString "" := by simpa using hm
    rw [e]; decide
  · rcases List.mem_cons.mp hm with rfl | hm
    · decide
    · obtain ⟨o, ho, rfl⟩ := List.mem_map.mp hm
      exact itxt_len (h o ho).1 (h o ho).2
/-- parts without a sign are found again from what they are joined to -/
theorem join_uniq (c : Nat) : ∀ (ps qs : List Str), ps ≠ [] → qs ≠ [] → (∀ p ∈ ps, c ∉ p.cps.toList) → (∀ p ∈ qs, c ∉ p.cps.toList) → (Str.join ⟨#[c]⟩ ps).cps.toList = (Str.join ⟨#[c]⟩ qs).cps.toList → ps = qs := by
  have cut : ∀ (a b r t : List Nat), c ∉ a → c ∉ b → a ++ c :: r = b ++ c :: t → a = b ∧ r = t := by
    intro a
    induction a with
    | nil =>
      intro b r t _ hb e
      cases b with
      | nil => simp at e; exact ⟨rfl, e⟩
      | cons d b =>
        simp at e
        exact absurd (by rw [e.1]; exact .head _) hb
    | cons d a ih =>
      intro b r t ha hb e
      cases b with
      | nil =>
        simp at e
        exact absurd (by rw [e.1]; exact .head _) ha
      | cons f b =>
        simp only [List.cons_append, List.cons.injEq] at e
        obtain ⟨e1, e2⟩ := ih b r t (fun q => ha (.tail _ q)) (fun q => hb (.tail _ q)) e.2
        exact ⟨by rw [e.1, e1], e2⟩
  have two : ∀ (x y : Str) (r : List Str), (Str.join ⟨#[c]⟩ (x :: y :: r)).cps.toList = x.cps.toList ++ c :: (Str.join ⟨#[c]⟩ (y :: r)).cps.toList := by
    intro x y r
    show (x ++ ⟨#[c]⟩ ++ Str.join ⟨#[c]⟩ (y :: r)).cps.toList = _
    rw [app_list, app_list]
    simp
  intro ps
  induction ps with
  | nil => intro qs h; exact absurd rfl h
  | cons x ps ih =>
    intro qs _ hq hps hqs e
    obtain ⟨y, qs, rfl⟩ := List.exists_cons_of_ne_nil hq
    cases ps with
    | nil =>
      cases qs with
      | nil => rw [str_eq (x := x) (y := y) e]
      | cons z qs =>
        rw [two] at e
        exact absurd (show c ∈ x.cps.toList by rw [show x.cps.toList = _ from e]; simp) (hps x (.head _))
    | cons u ps =>
      cases qs with
      | nil =>
        rw [two] at e
        exact absurd (show c ∈ y.cps.toList by rw [← (show _ = y.cps.toList from e)]; simp) (hqs y (.head _))
      | cons z qs =>
        rw [two, two] at e
        obtain ⟨e1, e2⟩ := cut _ _ _ _ (hps x (.head _)) (hqs y (.head _)) e
        rw [str_eq e1, ih (z :: qs) (List.cons_ne_nil _ _) (List.cons_ne_nil _ _) (fun p hp => hps p (.tail _ hp)) (fun p hp => hqs p (.tail _ hp)) e2]
theorem join_parts : ∀ (os : List Int), os ≠ [] → (Str.join ⟨#[47]⟩ (Str.ofString "" :: os.map itxt)).cps.toList = pathL os := by
  have H : ∀ (r : List Int) (x : Str), (Str.join ⟨#[47]⟩ (x :: r.map itxt)).cps.toList = x.cps.toList ++ r.flatMap fun o => 47 :: (itxt o).cps.toList := by
    intro r
    induction r with
    | nil => intro x; simp [Str.join]
    | cons a r ih =>
      intro x
      show (x ++ ⟨#[47]⟩ ++ Str.join ⟨#[47]⟩ (itxt a :: r.map itxt)).cps.toList = _
      rw [app_list, app_list, ih]
      simp
  intro os hne
  rw [H]
  cases os with
  | nil => exact absurd rfl hne
  | cons a r => rw [show (Str.ofString "").cps.toList = [] by decide +kernel]; rfl
theorem split_ne (x y : Str) : Txt.split x y ≠ [] := by
  intro e
  have := split_pos x y
  rw [e] at this
  exact absurd this (by decide)
theorem split_pathOf {os : List Int} (h : Octs os) : Txt.split (pathOf os) (Str.ofString "/") = partsOf os := by
  have hj := congrArg (fun z : Str => z.cps.toList) (join_split (pathOf os) (Str.ofString "/"))
  rw [path_list os h] at hj
  have hf := split_free (pathOf os) 47
  rw [← slash] at hf
  unfold partsOf
  by_cases hn : os = []
  · subst hn
    rw [if_pos rfl]
    refine join_uniq 47 _ _ (split_ne _ _) (List.cons_ne_nil _ _) hf ?_ ?_
    · intro p hp
      have e : p = Str.ofString "" := by simpa using hp
      rw [e]; decide +kernel
    · rw [← slash, hj]
      decide +kernel
  · rw [if_neg hn]
    refine join_uniq 47 _ _ (split_ne _ _) (List.cons_ne_nil _ _) hf ?_ ?_
    · intro p hp
      rcases List.mem_cons.mp hp with rfl | hp
      · decide +kernel
      · obtain ⟨o, ho, rfl⟩ := List.mem_map.mp hp
        exact fun q => (good_no (good_itxt (h o ho).1 (h o ho).2) 47 q).1 rfl
    · rw [← slash, hj, slash, join_parts os hn]
theorem good_ok {y : Str} (g : goodT y = true) : okC y = true := by
  refine okC_yes ?_ ?_
  · obtain ⟨c, t, hc⟩ := List.exists_cons_of_ne_nil (good_ne g)
    rw [len_list, hc, List.length_cons]; omega
  · rw [bne_iff_ne]
    intro e
    have h46 : (46 : Nat) ∈ y.cps.toList := by rw [e]; decide +kernel
    exact (good_no g 46 h46).2 rfl
theorem parts_ok {os : List Int} (h : Octs os) : (partsOf os).filter okC = os.map itxt := by
  have hv : okC (Str.ofString "") = false := by decide +kernel
  unfold partsOf
  split
  · rename_i e
    subst e
    rw [List.filter_cons, hv, List.filter_cons, hv]
    rfl
  · rw [List.filter_cons, hv]
    show List.filter okC (os.map itxt) = _
    rw [List.filter_eq_self]
    intro p hp
    obtain ⟨o, ho, rfl⟩ := List.mem_map.mp hp
    exact good_ok (good_itxt (h o ho).1 (h o ho).2)
end Mine
end

section
open PySem PySem.W PyProof.Rows PySem.Calls PySem.Spec
namespace Mine

theorem enter_frs {prog : Program} {w : World} {A : Around} {s : Shared} {K : Frag} {p : Program} {loose : List Str} {mean : ExcName → Option Value} {mg mb : Str → Option Value} {h₀ : Heap} {L : Addr} {m : Str → Option Value} {env : Env} {outer : List Env} {R : Result → Shared → Prop} {name qual : Str} {params : Arguments} {body : List Stmt} {scope : Scope} {dV kV doc pm cdv ct oc : Value} {an od : Option Addr} {osl : Array (Option Value)} {f : Addr} {args : Args} {binds : List (Str × Value)} {muts frs : List (Addr × Obj)}
    (F : Fr h₀ L s.heap m) (N : News h₀ L s.heap (muts ++ frs)) (Fs : TI.Frs outer frs) (X₀ : K.In h₀) (T : Top p loose mean mg mb h₀) (hf : env.frame = some L) (hke : env.scope.kind = .function)
    (ho : K.lookup f = some ⟨oc, od, .func (fnOf name qual params body scope dV kV doc pm an cdv ct), osl⟩) (hcd : codeIn K cdv qual = true) (hroom : A.depth < recursionLimit)
    (hbind : BindsTo s (fnOf name qual params body scope dV kV doc pm an cdv ct) args binds) (hloc : ∀ y ∈ binds, scope.names.lookup y.1 = some .local)
    (h : ∀ g L' h₁ oL, (∀ b o, s.heap.get? b = some o → b ∉ L :: (muts ++ frs).map (·.1) → g.get? b = some o) → (∀ b o, g.get? b = some o → s.heap.get? b = some o) → s.heap.get? L = some oL → TI.Frs (env :: outer) ((L, oL) :: frs) →
      Fr g L' h₁ (fun y => binds.reverse.lookup y) → News g L' h₁ (muts ++ (L, oL) :: frs) → K.In g → Top p loose mean mg mb g → (∀ p ∈ muts ++ (L, oL) :: frs, p.1 < L') →
      wpAny (model prog w) (A.deeper (envOf qual scope L' f cdv)) (execs body (envOf qual scope L' f cdv))
        (fun fl s' => R (.ok (.ret (match fl with | .ret v => v | _ => .none))) s')
        (fun e s' => wpAny (model prog w) (A.deeper (envOf qual scope L' f cdv)) (leaving (envOf qual scope L' f cdv) e) (fun _ s'' => R (.error e) s'') (fun e' s'' => R (.error e') s'') s')
        { s with heap := h₁, toks := s.toks + binds.length })
    (hco : scope.isCoroutine = false) (hgen : scope.isGenerator = false) (hk : scope.kind = .function)
    (hcell : ∀ x ∈ scope.names, x.2 ≠ .cell) : codeAny (model prog w) A (.call (.ref f) args) R s := by
  have X := X₀.keeps F.keep
  have T' := T.keeps F.keep
  obtain ⟨oL, es, ep, hL, hLd, hLk, hLf⟩ := id F.ns
  have hkind : env.scope.kind ≠ .module := by rw [hke]; decide
  refine codeAny_call_def (fd := fnOf name qual params body scope dV kV doc pm an cdv ct) (body := body) (binds := binds) hroom (X _ _ ho) rfl (T'.nolimit) (codeRec_of X hcd) rfl hbind hcell hloc (fun h₁ hns hk₁ => ?_) hco hgen hk
  let as := L :: (muts ++ frs).map (·.1)
  have out : ∀ b o, h₀.get? b = some o → b ∉ as := fun b o e hm => by
    rcases List.mem_cons.mp hm with q | q
    · have := Nat.lt_of_lt_of_le (Heap.lt_size e) F.above
      rw [q] at this
      exact Nat.lt_irrefl _ this
    · obtain ⟨p, hp, rfl⟩ := List.mem_map.mp q
      rw [(N p hp).2.2] at e; cases e
  have st : h₀.StaysIn (hideAll s.heap as) := fun b o e => hideAll_get _ (F.keep b o e) (out b o e)
  refine h (hideAll s.heap as) s.heap.objs.size h₁ oL (fun b o e n => hideAll_get _ e n) (fun b o e => of_hideAll _ e) hL ⟨hkind, hf, ⟨es, ep, hLd⟩, Fs⟩ ⟨hns, fun b o e => hk₁ b o (of_hideAll _ e), Nat.le_of_eq (hideAll_size _ _)⟩ (fun p hp => ?_) (X₀.keeps st) (T.keeps st) (fun p hp => ?_)
  · have hp' : s.heap.get? p.1 = some p.2 ∧ p.1 ∈ as := by
      rcases List.mem_append.mp hp with q | q
      · exact ⟨(N p (List.mem_append_left _ q)).1, .tail _ (List.mem_map_of_mem (List.mem_append_left _ q))⟩
      · rcases List.mem_cons.mp q with rfl | q
        · exact ⟨hL, .head _⟩
        · exact ⟨(N p (List.mem_append_right _ q)).1, .tail _ (List.mem_map_of_mem (List.mem_append_right _ q))⟩
    exact ⟨hk₁ _ _ hp'.1, Nat.ne_of_lt (Heap.lt_size hp'.1), hideAll_none _ hp'.2⟩
  · rcases List.mem_append.mp hp with q | q
    · exact Heap.lt_size (N p (List.mem_append_left _ q)).1
    · rcases List.mem_cons.mp q with rfl | q
      · exact Heap.lt_size hL
      · exact Heap.lt_size (N p (List.mem_append_right _ q)).1

theorem ret_frs {h₀ g h h' : Heap} {L L' : Addr} {m m' : Str → Option Value} {outer : List Env} {muts frs frs' rest out news9 : List (Addr × Obj)} {oL : Obj}
    (F : Fr h₀ L h m) (N : News h₀ L h (muts ++ frs)) (Fs : TI.Frs outer frs) (Nr : News h₀ L h rest) (hrm : ∀ p ∈ rest, p.1 ∉ muts.map (·.1)) (hrd : ∀ p ∈ rest, ∀ x ∈ frs, x.1 ≠ p.1)
    (hg : ∀ b o, h.get? b = some o → b ∉ L :: (muts ++ frs).map (·.1) → g.get? b = some o) (hg2 : ∀ b o, g.get? b = some o → h.get? b = some o) (hL : h.get? L = some oL)
    (F9 : Fr g L' h' m') (N9 : News g L' h' news9) (SU : TI.SameUp ((L, oL) :: frs) frs') (hs : ∀ p ∈ out ++ frs', p ∈ news9) (hod : out.all TI.notDict = true) :
    ∃ frs₂, TI.SameUp frs frs₂ ∧ Fr h₀ L h' m ∧ News h₀ L h' (out ++ (frs₂ ++ rest)) := by
  cases frs' with
  | nil => exact SU.elim
  | cons q frs₂ =>
    obtain ⟨q1, ⟨sl, q2⟩, SU₂⟩ := SU
    have hq := (N9 q (hs q (List.mem_append_right _ (.head _)))).1
    have q1' : q.1 = L := q1
    have q2' : q.2 = { oL with slots := sl } := q2
    rw [q1', q2'] at hq
    obtain ⟨oL', es, ep, hL', hLd, hLk, hLf⟩ := F.ns
    obtain rfl : oL = oL' := Option.some.inj (hL.symm.trans hL')
    have out0 : ∀ b o, h₀.get? b = some o → b ∉ L :: (muts ++ frs).map (·.1) := fun b o e hm => by
      rcases List.mem_cons.mp hm with q | q
      · have := Nat.lt_of_lt_of_le (Heap.lt_size e) F.above
        rw [q] at this
        exact Nat.lt_irrefl _ this
      · obtain ⟨p, hp, rfl⟩ := List.mem_map.mp q
        rw [(N p hp).2.2] at e; cases e
    have dL : ∀ p : Addr × Obj, TI.notDict p = true → h'.get? p.1 = some p.2 → p.1 ≠ L := fun p hd e e' => by
      rw [e', hq] at e
      exact TI.notDict_ne hd (show p.2.data = .dict es ep by rw [← Option.some.inj e]; exact hLd)
    have dLh : ∀ p : Addr × Obj, TI.notDict p = true → h.get? p.1 = some p.2 → p.1 ≠ L := fun p hd e e' => by
      rw [e', hL] at e
      exact TI.notDict_ne hd (show p.2.data = .dict es ep by rw [← Option.some.inj e]; exact hLd)
    refine ⟨frs₂, SU₂, ⟨⟨_, es, ep, hq, hLd, hLk, hLf⟩, fun b o e => F9.keep b o (hg b o (F.keep b o e) (out0 b o e)), F.above⟩, fun p hp => ?_⟩
    have fresh0 : ∀ p : Addr × Obj, g.get? p.1 = none → h₀.get? p.1 = none := fun p e => by
      cases z : h₀.get? p.1 with
      | none => rfl
      | some o => have := hg _ _ (F.keep _ _ z) (out0 _ _ z); rw [e] at this; cases this
    rcases List.mem_append.mp hp with hp | hp
    · have z := N9 p (hs p (List.mem_append_left _ hp))
      exact ⟨z.1, dL p (List.all_eq_true.mp hod p hp) z.1, fresh0 p z.2.2⟩
    · rcases List.mem_append.mp hp with hp | hp
      · have z := N9 p (hs p (List.mem_append_right _ (.tail _ hp)))
        obtain ⟨x, hx, e⟩ := SU₂.fwd p hp
        exact ⟨z.1, e ▸ (N x (List.mem_append_right _ hx)).2.1, fresh0 p z.2.2⟩
      · have z := Nr p hp
        refine ⟨F9.keep _ _ (hg _ _ z.1 fun hm => ?_), z.2.1, z.2.2⟩
        rcases List.mem_cons.mp hm with e | hm
        · exact z.2.1 e
        · rw [List.map_append] at hm
          rcases List.mem_append.mp hm with hm | hm
          · exact hrm p hp hm
          · obtain ⟨x, hx, e⟩ := List.mem_map.mp hm
            exact hrd p hp x hx e

theorem rest_off {h₀ h : Heap} {L : Addr} {frs rest : List (Addr × Obj)} {outer : List Env} (N : News h₀ L h frs) (Fs : TI.Frs outer frs) (Nr : News h₀ L h rest) (hrd : rest.all TI.notDict = true) : ∀ p ∈ rest, ∀ x ∈ frs, x.1 ≠ p.1 := fun p hp x hx e => by
  obtain ⟨es', ep', hd⟩ := Fs.dict x hx
  have zx := (N x hx).1
  rw [e, (Nr p hp).1] at zx
  exact TI.notDict_ne (List.all_eq_true.mp hrd p hp) (show p.2.data = .dict es' ep' by rw [Option.some.inj zx]; exact hd)
/-- what the call made lies apart from what stood aside -/
theorem fresh_frs {h₀ g h h' : Heap} {L L' : Addr} {m : Str → Option Value} {outer : List Env} {muts frs rest news9 : List (Addr × Obj)}
    (_F : Fr h₀ L h m) (N : News h₀ L h (muts ++ frs)) (Fs : TI.Frs outer frs) (Nr : News h₀ L h rest) (hrm : ∀ p ∈ rest, p.1 ∉ muts.map (·.1)) (hrd : ∀ p ∈ rest, ∀ x ∈ frs, x.1 ≠ p.1)
    (hg : ∀ b o, h.get? b = some o → b ∉ L :: (muts ++ frs).map (·.1) → g.get? b = some o) (N9 : News g L' h' news9) : ∀ q ∈ news9, ∀ p ∈ rest, p.1 ≠ q.1 := fun q hq p hp e => by
  have z := Nr p hp
  have hgp := hg _ _ z.1 fun hm => by
    rcases List.mem_cons.mp hm with e | hm
    · exact z.2.1 e
    · rw [List.map_append] at hm
      rcases List.mem_append.mp hm with hm | hm
      · exact hrm p hp hm
      · obtain ⟨x, hx, e⟩ := List.mem_map.mp hm
        exact hrd p hp x hx e
  rw [e, (N9 q hq).2.2] at hgp
  cases hgp

theorem frs_off {h₀ h : Heap} {L : Addr} {news fr : List (Addr × Obj)} {l : List Env} (N : News h₀ L h news) (Fs : TI.Frs l fr) (hsub : ∀ p ∈ fr, p ∈ news) {as : List Addr} (ha : ∀ a ∈ as, ∃ o, (a, o) ∈ news ∧ TI.notDict (a, o) = true) : OwnOff fr as := by
  intro p hp a hm e
  obtain ⟨o, ho, hd⟩ := ha a hm
  obtain ⟨es, ep, hdd⟩ := Fs.dict p hp
  have h1 := (N p (hsub p hp)).1
  have h2 := (N _ ho).1
  rw [e] at h1
  have h3 : p.2 = o := Option.some.inj (h1.symm.trans h2)
  exact TI.notDict_ne hd (show o.data = .dict es ep by rw [← h3]; exact hdd)

/-- the ledger of the frame below, when an exception has left the frame above it -/
theorem held_down {h₀ g h h' : Heap} {L L' e : Addr} {X : String} {m m' : Str → Option Value} {outer : List Env} {muts frs frs' rest out news9 : List (Addr × Obj)} {oL : Obj}
    (F : Fr h₀ L h m) (N : News h₀ L h (muts ++ frs)) (Fs : TI.Frs outer frs) (Nr : News h₀ L h rest) (hrm : ∀ p ∈ rest, p.1 ∉ muts.map (·.1)) (hrd : ∀ p ∈ rest, ∀ x ∈ frs, x.1 ≠ p.1)
    (hg : ∀ b o, h.get? b = some o → b ∉ L :: (muts ++ frs).map (·.1) → g.get? b = some o) (hg2 : ∀ b o, g.get? b = some o → h.get? b = some o) (hL : h.get? L = some oL)
    (H : TT.HeldNA g L' h' m' e X news9 .none) (SU : TI.SameUp ((L, oL) :: frs) frs') (hs : ∀ p ∈ out ++ frs', p ∈ news9) (hod : out.all TI.notDict = true) :
    ∃ frs₂, TI.SameUp frs frs₂ ∧ TT.HeldNA h₀ L h' m e X (out ++ (frs₂ ++ rest)) .none := by
  obtain ⟨⟨F9, ⟨ob, vs, tb, otb, tvs, he, hcl, hd, h1, htb, htd, h3, htbL, htbe, htb0⟩, hef⟩, N9, hap⟩ := H
  obtain ⟨frs₂, SU₂, R1, R2⟩ := ret_frs F N Fs Nr hrm hrd hg hg2 hL F9 N9 SU hs hod
  have out0 : ∀ b o, h₀.get? b = some o → b ∉ L :: (muts ++ frs).map (·.1) := fun b o e hm => by
    rcases List.mem_cons.mp hm with q | q
    · have := Nat.lt_of_lt_of_le (Heap.lt_size e) F.above
      rw [q] at this
      exact Nat.lt_irrefl _ this
    · obtain ⟨p, hp, rfl⟩ := List.mem_map.mp q
      rw [(N p hp).2.2] at e; cases e
  have fresh0 : ∀ b : Addr, g.get? b = none → h₀.get? b = none := fun b e => by
    cases z : h₀.get? b with
    | none => rfl
    | some o => have := hg _ _ (F.keep _ _ z) (out0 _ _ z); rw [e] at this; cases this
  refine ⟨frs₂, SU₂, ⟨⟨R1, ⟨ob, vs, tb, otb, tvs, he, hcl, hd, h1, htb, htd, h3, fun q => ?_, htbe, fresh0 _ htb0⟩, fresh0 _ hef⟩, R2, ?_⟩⟩
  · obtain ⟨oL', es, ep, hL', hLd, _⟩ := R1.ns
    rw [q, hL'] at htb
    cases htb
    rw [hLd] at htd
    cases htd
  · intro ob' vs' tb' e1 e2 e3 p hp q
    rw [he] at e1
    obtain rfl := Option.some.inj e1
    rw [hd] at e2
    injection e2 with e2
    subst e2
    rw [h1] at e3
    injection e3 with e3
    injection e3 with e3
    subst e3
    rcases List.mem_append.mp hp with hp | hp
    · exact hap ob vs tb he hd h1 p (hs p (List.mem_append_left _ hp)) q
    · rcases List.mem_append.mp hp with hp | hp
      · obtain ⟨x, hx, ex⟩ := SU₂.fwd p hp
        have z := (R2 p (List.mem_append_right _ (List.mem_append_left _ hp))).1
        obtain ⟨es', ep', hdd⟩ := (Fs.up SU₂).dict p hp
        rw [q, htb] at z
        have z' := Option.some.inj z
        rw [← z', htd] at hdd
        cases hdd
      · have z := Nr p hp
        have hgp := hg _ _ z.1 fun hm => by
          rcases List.mem_cons.mp hm with e | hm
          · exact z.2.1 e
          · rw [List.map_append] at hm
            rcases List.mem_append.mp hm with hm | hm
            · exact hrm p hp hm
            · obtain ⟨x, hx, e⟩ := List.mem_map.mp hm
              exact hrd p hp x hx e
        rw [q, htb0] at hgp
        cases hgp

/-- a second frame looks at an exception in flight -/
theorem noted_onT {prog : Program} {w : World} {A₀ : Around} {E : Value → Shared → Prop} {s' : Shared} {hb : Heap} {L a e : Addr} {m : Str → Option Value} {name : Str} {scope : Scope} {cd : Value} {Q : Unit → Shared → Prop} {X : String} {l : List Env} {frs new : List (Addr × Obj)}
    (hfr : A₀.frames = some l) (Fs : TI.Frs l frs) (H : TT.HeldNA hb L s'.heap m e X (new ++ frs) .none) (hnd : new.all TI.notDict = true) (hcx : ∀ p ∈ new, p.2.cls ≠ .type X)
    (k : ∀ h' frs', TI.SameUp frs frs' → TI.Frs l frs' → TT.HeldN hb L h' m e X (new ++ frs') → Q () { s' with heap := h' }) (hk : scope.kind = .function := by rfl) :
    wpAny (model prog w) (A₀.deeper (envOf name scope L a cd)) (noteFrame (.ref e) (envOf name scope L a cd)) Q E s' := by
  obtain ⟨⟨F, ⟨ob, vs, tb, otb, tvs, he, hcl, hd, h1, htb, htd, h3, htbL, htbe, htb0⟩, hef⟩, N, hap⟩ := H
  have hap' := hap ob vs tb he hd h1
  let dead := tb :: e :: L :: frs.map (·.1)
  have hsub : ∀ p ∈ frs, p ∈ new ++ frs := fun p hp => List.mem_append_right _ hp
  have deadL : ∀ b ∈ L :: frs.map (·.1), (TI.gone s'.heap dead).get? b = none := fun b hm => TI.gone_none (.tail _ (.tail _ hm))
  obtain ⟨hff, hNs, frs₁, SU, ht⟩ := TI.frames_at (name := name) (a := a) (cd := cd) (h' := s'.heap) (base := TI.gone s'.heap dead) hk Fs F N hsub (fun b o hb' => ⟨o.slots, hb'⟩) deadL
  have hsz : 0 < vs.size := Nat.lt_of_le_of_lt (Nat.zero_le _) (Array.getElem?_eq_some_iff.mp h1).1
  have htr : s'.heap.TracedW (TI.gone s'.heap dead) e (.type X) vs[0] := ⟨ob, vs, tb, otb, tvs, he, ⟨hcl, Array.getElem?_eq_getElem hsz⟩, hd, h1, TI.gone_none (.head _), htbe, htb, htd, h3⟩
  refine wpAny_noteFrame_onW (Around.frames_deeper hfr) hff rfl htr (fun b o eb => (TI.gone_some eb).2) (TI.gone_none (.tail _ (.head _))) fun h' hN => ?_
  obtain ⟨k1, k2, k3, k4⟩ := hN
  have hNs' : h'.Ns L m := Heap.UpToSlots.ns k4 hNs
  have Fs₁ := Fs.up SU
  obtain ⟨frs₂, SU₂, ht₂⟩ := TI.sameUp_of (h' := h') fun p hp => k4 p.1 p.2 (ht p hp) fun vs q => by
    obtain ⟨es, ep, hd⟩ := Fs₁.dict p hp
    rw [hd] at q; cases q
  have SU' := SU.trans SU₂
  have Fs₂ := Fs₁.up SU₂
  have keep : ∀ b o, b ∉ dead → s'.heap.get? b = some o → h'.get? b = some o := fun b o hn ho => k1 b o ((TI.gone_get hn).trans ho)
  obtain ⟨oe, ws, T, oT, ts, he', ⟨hcl', _⟩, hd', h1', hnT, hTe, hT, hdT, h3'⟩ := k3
  have hTL : T ≠ L := fun q => by
    obtain ⟨oL, es, ep, hL, hLd, _⟩ := hNs'
    rw [q, hL] at hT
    cases hT
    rw [hLd] at hdT
    cases hdT
  have baseIn : ∀ b o, hb.get? b = some o → b ∉ dead := fun b o e' hm => by
    rcases List.mem_cons.mp hm with q | hm
    · rw [q, htb0] at e'; cases e'
    · rcases List.mem_cons.mp hm with q | hm
      · rw [q, hef] at e'; cases e'
      · exact TI.base_apart F N hsub e' hm
  have newOff : ∀ p ∈ new, p.1 ∉ dead := fun p hp hm => by
    rcases List.mem_cons.mp hm with q | hm
    · exact hap' p (List.mem_append_left _ hp) q
    · rcases List.mem_cons.mp hm with q | hm
      · have z := (N p (List.mem_append_left _ hp)).1
        rw [q, he] at z
        exact hcx p hp (by rw [← Option.some.inj z]; exact hcl)
      · exact TI.new_apart Fs N hnd hp hm
  have hbT : hb.get? T = none := by
    cases z : hb.get? T with
    | none => rfl
    | some o =>
      have := (TI.gone_get (baseIn _ _ z)).trans (F.keep _ _ z)
      rw [hnT] at this; cases this
  refine k h' frs₂ SU' Fs₂ ⟨⟨⟨hNs', fun b o ho => keep b o (baseIn b o ho) (F.keep b o ho), F.above⟩, ⟨oe, ws, T, oT, ts, he', hcl', hd', h1', hT, hdT, h3', hTL, hTe, hbT⟩, hef⟩, fun p hp => ?_, ?_⟩
  · rcases List.mem_append.mp hp with hp | hp
    · obtain ⟨p1, p2, p3⟩ := N p (List.mem_append_left _ hp)
      exact ⟨keep p.1 p.2 (newOff p hp) p1, p2, p3⟩
    · obtain ⟨x, hx, q⟩ := SU'.fwd p hp
      obtain ⟨_, p2, p3⟩ := N x (hsub x hx)
      exact ⟨ht₂ p hp, by rw [q]; exact p2, by rw [q]; exact p3⟩
  · intro ob' ws' tb' e1 e2 e3 p hp q
    rw [he'] at e1
    obtain rfl := Option.some.inj e1
    rw [hd'] at e2
    injection e2 with e2
    subst e2
    rw [h1'] at e3
    injection e3 with e3
    injection e3 with e3
    subst e3
    rcases List.mem_append.mp hp with hp | hp
    · have z := (TI.gone_get (newOff p hp)).trans (N p (List.mem_append_left _ hp)).1
      rw [q, hnT] at z
      cases z
    · obtain ⟨es', ep', hdd⟩ := Fs₂.dict p hp
      have z := ht₂ p hp
      rw [q, hT] at z
      have z' := Option.some.inj z
      rw [← z', hdT] at hdd
      cases hdd
end Mine
end

section
open PySem PySem.W PyProof.Rows PySem.Calls PySem.Spec
namespace Mine

theorem enter_pureC {prog : Program} {w : World} {A : Around} {s : Shared} {K : Frag} {p : Program} {loose : List Str} {mean : ExcName → Option Value} {mg mb : Str → Option Value} {h₀ : Heap} {L : Addr} {m : Str → Option Value} {env : Env} {R : Result → Shared → Prop} {name qual : Str} {params : Arguments} {body : List Stmt} {scope : Scope} {dV kV doc pm cdv ct oc : Value} {an od : Option Addr} {osl : Array (Option Value)} {f : Addr} {args : Args} {binds : List (Str × Value)}
    (F : Fr h₀ L s.heap m) (X₀ : K.In h₀) (T : Top p loose mean mg mb h₀) (_hf : env.frame = some L) (_hke : env.scope.kind = .function)
    (ho : K.lookup f = some ⟨oc, od, .func (fnOf name qual params body scope dV kV doc pm an cdv ct), osl⟩) (hcd : codeIn K cdv qual = true) (hroom : A.depth < recursionLimit)
    (hbind : BindsTo s (fnOf name qual params body scope dV kV doc pm an cdv ct) args binds) (hkind : (binds.all fun y => scope.names.lookup y.1 == some .local || scope.names.lookup y.1 == some .cell) = true)
    (hnd : ((cellsFrom 0 scope.names []).map (·.1)).Nodup)
    (h : ∀ L' h₁ tk cells, Fr s.heap L' h₁ (bindL (envOfC qual scope L' f cdv).kindOf binds fun _ => none) → News s.heap L' h₁ cells →
      CellsAre (bindC (envOfC qual scope L' f cdv).kindOf binds fun _ => none) (cellsFrom (L' + 1) scope.names []) cells → K.In s.heap → Top p loose mean mg mb s.heap →
      wpAny (model prog w) (A.deeper (envOfC qual scope L' f cdv)) (execs body (envOfC qual scope L' f cdv))
        (fun fl s' => LeaveK h₀ L m s.heap R (match fl with | .ret v => v | _ => .none) s')
        (fun e s' => wpAny (model prog w) (A.deeper (envOfC qual scope L' f cdv)) (leaving (envOfC qual scope L' f cdv) e) (fun _ s'' => R (.error e) s'') (fun e' s'' => R (.error e') s'') s')
        { s with heap := h₁, toks := tk })
    (hco : scope.isCoroutine = false) (hgen : scope.isGenerator = false) (hk : scope.kind = .function) : codeAny (model prog w) A (.call (.ref f) args) R s := by
  have st : h₀.StaysIn s.heap := F.keep
  have X := X₀.keeps F.keep
  have T' := T.keeps F.keep
  refine codeAny_call_function (fd := fnOf name qual params body scope dV kV doc pm an cdv ct) (body := body) hroom (X _ _ ho) rfl hco hgen rfl (codeRec_of X hcd) (hbind _ _ _ _ ?_)
  refine wpAny_newFunctionEnv_cells hk (kindsX hkind _) fun env' he s' x => ?_
  subst he
  refine ⟨(T'.nolimit).keeps x.toInCall.keep, codeAny_func ?_⟩
  obtain ⟨h₁, tk, rfl, _⟩ := x.done
  have hk₁ := x.toInCall.keep
  obtain ⟨cells, NC, Y⟩ := Cl.news (h₀ := s.heap) (Nat.le_refl _) fun n c hm => ⟨x.cell n c (lookup_of_mem_nodup (cellsFrom_names scope.names 0 (s.heap.objs.size + 1) [] [] rfl ▸ hnd) hm), x.above n c hm⟩
  refine wpAny_mono (h s.heap.objs.size h₁ tk cells ⟨x.toInCall.ns, fun b o e => hk₁ b o e, Nat.le_refl _⟩ NC Y X T') (fun fl s' hl => ?_) fun _ _ y => y
  obtain ⟨L', m', news', F', N', k⟩ := hl
  obtain ⟨oL, es, ep, hL, hLd, hLk, hLf⟩ := F.ns
  refine k ⟨⟨oL, es, ep, F'.keep L oL hL, hLd, hLk, hLf⟩, fun b o e => F'.keep b o (st b o e), F.above⟩ fun p hp => ⟨(N' p hp).1, fun q => ?_, ?_⟩
  · have := (N' p hp).2.2; rw [q, hL] at this; cases this
  · cases q : h₀.get? p.1 with
    | none => rfl
    | some o => have := (N' p hp).2.2; rw [st _ _ q] at this; cases this

theorem enter_frsC {prog : Program} {w : World} {A : Around} {s : Shared} {K : Frag} {p : Program} {loose : List Str} {mean : ExcName → Option Value} {mg mb : Str → Option Value} {h₀ : Heap} {L : Addr} {m : Str → Option Value} {env : Env} {outer : List Env} {R : Result → Shared → Prop} {name qual : Str} {params : Arguments} {body : List Stmt} {scope : Scope} {dV kV doc pm cdv ct oc : Value} {an od : Option Addr} {osl : Array (Option Value)} {f : Addr} {args : Args} {binds : List (Str × Value)} {muts frs : List (Addr × Obj)}
    (F : Fr h₀ L s.heap m) (N : News h₀ L s.heap (muts ++ frs)) (Fs : TI.Frs outer frs) (X₀ : K.In h₀) (T : Top p loose mean mg mb h₀) (hf : env.frame = some L) (hke : env.scope.kind = .function)
    (ho : K.lookup f = some ⟨oc, od, .func (fnOf name qual params body scope dV kV doc pm an cdv ct), osl⟩) (hcd : codeIn K cdv qual = true) (hroom : A.depth < recursionLimit)
    (hbind : BindsTo s (fnOf name qual params body scope dV kV doc pm an cdv ct) args binds) (hloc : (binds.all fun y => scope.names.lookup y.1 == some .local || scope.names.lookup y.1 == some .cell) = true)
    (hnd : ((cellsFrom 0 scope.names []).map (·.1)).Nodup)
    (h : ∀ g L' h₁ oL tk cells, (∀ b o, s.heap.get? b = some o → b ∉ L :: (muts ++ frs).map (·.1) → g.get? b = some o) → (∀ b o, g.get? b = some o → s.heap.get? b = some o) → s.heap.get? L = some oL → TI.Frs (env :: outer) ((L, oL) :: frs) →
      Fr g L' h₁ (bindL (envOfC qual scope L' f cdv).kindOf binds fun _ => none) → News g L' h₁ (cells ++ (muts ++ (L, oL) :: frs)) → CellsAre (bindC (envOfC qual scope L' f cdv).kindOf binds fun _ => none) (cellsFrom (L' + 1) scope.names []) cells →
      K.In g → Top p loose mean mg mb g → (∀ p ∈ muts ++ (L, oL) :: frs, p.1 < L') →
      wpAny (model prog w) (A.deeper (envOfC qual scope L' f cdv)) (execs body (envOfC qual scope L' f cdv))
        (fun fl s' => R (.ok (.ret (match fl with | .ret v => v | _ => .none))) s')
        (fun e s' => wpAny (model prog w) (A.deeper (envOfC qual scope L' f cdv)) (leaving (envOfC qual scope L' f cdv) e) (fun _ s'' => R (.error e) s'') (fun e' s'' => R (.error e') s'') s')
        { s with heap := h₁, toks := tk })
    (hco : scope.isCoroutine = false) (hgen : scope.isGenerator = false) (hk : scope.kind = .function) : codeAny (model prog w) A (.call (.ref f) args) R s := by
  have X := X₀.keeps F.keep
  have T' := T.keeps F.keep
  obtain ⟨oL, es, ep, hL, hLd, hLk, hLf⟩ := id F.ns
  have hkind : env.scope.kind ≠ .module := by rw [hke]; decide
  refine codeAny_call_function (fd := fnOf name qual params body scope dV kV doc pm an cdv ct) (body := body) hroom (X _ _ ho) rfl hco hgen rfl (codeRec_of X hcd) (hbind _ _ _ _ ?_)
  refine wpAny_newFunctionEnv_cells hk (kindsX hloc _) fun env' he s' x => ?_
  subst he
  refine ⟨(T'.nolimit).keeps x.toInCall.keep, codeAny_func ?_⟩
  obtain ⟨h₁, tk, rfl, _⟩ := x.done
  have hk₁ := x.toInCall.keep
  obtain ⟨cells, NC, Y⟩ := Cl.news (h₀ := s.heap) (Nat.le_refl _) fun n c hm => ⟨x.cell n c (lookup_of_mem_nodup (cellsFrom_names scope.names 0 (s.heap.objs.size + 1) [] [] rfl ▸ hnd) hm), x.above n c hm⟩
  let as := L :: (muts ++ frs).map (·.1)
  have out : ∀ b o, h₀.get? b = some o → b ∉ as := fun b o e hm => by
    rcases List.mem_cons.mp hm with q | q
    · have := Nat.lt_of_lt_of_le (Heap.lt_size e) F.above
      rw [q] at this
      exact Nat.lt_irrefl _ this
    · obtain ⟨p, hp, rfl⟩ := List.mem_map.mp q
      rw [(N p hp).2.2] at e; cases e
  have st : h₀.StaysIn (hideAll s.heap as) := fun b o e => hideAll_get _ (F.keep b o e) (out b o e)
  refine h (hideAll s.heap as) s.heap.objs.size h₁ oL tk cells (fun b o e n => hideAll_get _ e n) (fun b o e => of_hideAll _ e) hL ⟨hkind, hf, ⟨es, ep, hLd⟩, Fs⟩ ⟨x.toInCall.ns, fun b o e => hk₁ b o (of_hideAll _ e), Nat.le_of_eq (hideAll_size _ _)⟩ (fun p hp => ?_) Y (X₀.keeps st) (T.keeps st) (fun p hp => ?_)
  · rcases List.mem_append.mp hp with hp | hp
    · refine ⟨(NC p hp).1, (NC p hp).2.1, ?_⟩
      cases q : (hideAll s.heap as).get? p.1 with
      | none => rfl
      | some o => have := of_hideAll _ q; rw [(NC p hp).2.2] at this; cases this
    have hp' : s.heap.get? p.1 = some p.2 ∧ p.1 ∈ as := by
      rcases List.mem_append.mp hp with q | q
      · exact ⟨(N p (List.mem_append_left _ q)).1, .tail _ (List.mem_map_of_mem (List.mem_append_left _ q))⟩
      · rcases List.mem_cons.mp q with rfl | q
        · exact ⟨hL, .head _⟩
        · exact ⟨(N p (List.mem_append_right _ q)).1, .tail _ (List.mem_map_of_mem (List.mem_append_right _ q))⟩
    exact ⟨hk₁ _ _ hp'.1, Nat.ne_of_lt (Heap.lt_size hp'.1), hideAll_none _ hp'.2⟩
  · rcases List.mem_append.mp hp with q | q
    · exact Heap.lt_size (N p (List.mem_append_left _ q)).1
    · rcases List.mem_cons.mp q with rfl | q
      · exact Heap.lt_size hL
      · exact Heap.lt_size (N p (List.mem_append_right _ q)).1
end Mine
end

section
open PySem PySem.W PyProof.Rows PySem.Calls PySem.Spec
set_option maxRecDepth 100000
namespace Mine
abbrev setT1 (led : Bool) : SetTable := { mask := 7, place := #[1], dummies := #[], finger := 0, led := led, moves := 0, plain := true }
abbrev setO0 (led : Bool) : Obj := { cls := .type "set", dict := none, data := .set #[] 0 (.fresh 0 0 led) }
abbrev setO1 (led : Bool) : Obj := { cls := .type "set", dict := none, data := .set #[(1, .bool true)] 1 (setT1 led) }
theorem lay_true (led : Bool) : layNew (.fresh 0 0 led) #[] 1 (.bool true) = (#[(1, .bool true)], setT1 led, false, false) := by cases led <;> rfl
theorem full_true (led : Bool) : (setT1 led).tooFull = false := by cases led <;> rfl

section
variable {prog : Program} {w : World} {A : Around} {E : Value → Shared → Prop} {s : Shared}
theorem hash_true {Q : Int → Shared → Prop} (h : Q 1 { s with toks := s.toks + 1 }) : wpAny (model prog w) A (pyHash (.bool true)) Q E s := by
  have hT : s.TypeIs (.bool true) "bool" := PySem.typeIs_bool s true
  unfold pyHash
  refine wpAny_bind ?_
  rw [cRoomFor, if_neg (by rw [show [Value.bool true].any Value.onHeap = false from rfl]; exact Bool.false_ne_true)]
  refine wpAny_pure ?_
  refine wpAny_bind (wpAny_specialOf hT F.slot_bool_hash.lookup ?_)
  rw [if_neg (by rw [beq_builtin_none]; exact Bool.false_ne_true)]
  refine wpAny_bind (wpAny_specialOf hT F.slot_bool_hash.lookup ?_)
  show wpAny _ _ (callSpecialIfBoundUnlessNone? (.bool true) "__hash__" _ >>= _) Q E s
  refine wpAny_bind (wpAny_callSpecialIfBoundUnlessNone?_slot hT F.slot_bool_hash
    (wpAny_call_entry F.slot_bool_hash hT F.entry_int_hash
      (show wpAny _ _ (do ret (← mkInt (rawHash 1))) _ _ s from wpAny_ret_mkInt ?_) (F.args_int_hash_1 _)))
  show wpAny _ _ (if (decide (-(2 : Int) ^ 63 ≤ rawHash 1) && decide (rawHash 1 < 2 ^ 63)) = true then _ else _) Q E _
  rw [show rawHash 1 = 1 from by decide +kernel]
  rw [if_pos (by decide)]
  exact wpAny_pure h

/-- the first True put in a set -/
theorem add_true0 {a : Addr} {led : Bool} {Q : Value → Shared → Prop} (ho : s.heap.get? a = some (setO0 led))
    (h : ∀ h', Heap.SameBut a s.heap h' → h'.get? a = some (setO1 led) → Q .none { s with heap := h', toks := s.toks + 1 }) : wpAny (model prog w) A (call (.builtin "set.add") [.ref a, .bool true]) Q E s := by
  have hT : s.TypeIs (.ref a) "set" := ⟨_, ho, rfl⟩
  refine wpAny_call_entry F.slot_set_add hT F.entry_set_add ?_ (F.args_set_add_2 _ _)
  unfold Builtin.«set.add» Builtin.Frozenset.oneOther
  simp only [List.isEmpty_nil, bind_assoc]
  unfold Builtin.Frozenset.addrOf setAdd
  refine wpAny_bind (wpAny_pure ?_)
  try dsimp only
  refine wpAny_bind (wpAny_pure ?_)
  try dsimp only
  refine wpAny_bind (wpAny_holding (wpAny_bind (hash_true ?_)))
  unfold setAddHashed setAddHashedIn
  refine wpAny_holding (wpAny_bind (wpAny_setState_of ho rfl (by cases led <;> rfl) ?_))
  dsimp only
  rw [if_pos (by decide +kernel)]
  unfold setAddByScan
  refine wpAny_bind (wpAny_bind (wpAny_rule (wpAny_bind ?_)))
  show wpAny _ _ (setScanFrom a (.bool true) 1 true (#[] : Array (Int × Value)).toList 0) _ _ _
  unfold setScanFrom
  refine wpAny_pure ?_
  dsimp only
  refine wpAny_bind (wpAny_pure ?_)
  rw [lay_true]
  dsimp only
  refine wpAny_bind (wpAny_pure ?_)
  rw [if_pos (by cases led <;> rfl)]
  refine wpAny_bind (wpAny_storeSet_of ho rfl ?_ (by rw [sizeLine_eq]; decide))
  rw [full_true]
  rw [if_neg (by decide)]
  refine wpAny_pure (wpAny_pure ?_)
  show wpAny _ _ (ret Value.none) _ _ _
  refine wpAny_pure ⟨_, rfl, h _ (Heap.SameBut.update ..) ?_⟩
  rw [Heap.get?_update_self _ ho rfl]
  rfl

/-- True once more -/
theorem add_true1 {a : Addr} {led : Bool} {Q : Value → Shared → Prop} (ho : s.heap.get? a = some (setO1 led))
    (h : Q .none { s with toks := s.toks + 1 }) : wpAny (model prog w) A (call (.builtin "set.add") [.ref a, .bool true]) Q E s := by
  have hT : s.TypeIs (.ref a) "set" := ⟨_, ho, rfl⟩
  refine wpAny_call_entry F.slot_set_add hT F.entry_set_add ?_ (F.args_set_add_2 _ _)
  unfold Builtin.«set.add» Builtin.Frozenset.oneOther
  simp only [List.isEmpty_nil, bind_assoc]
  unfold Builtin.Frozenset.addrOf setAdd
  refine wpAny_bind (wpAny_pure ?_)
  try dsimp only
  refine wpAny_bind (wpAny_pure ?_)
  try dsimp only
  refine wpAny_bind (wpAny_holding (wpAny_bind (hash_true ?_)))
  unfold setAddHashed setAddHashedIn
  refine wpAny_holding (wpAny_bind (wpAny_setState_of ho rfl (by cases led <;> rfl) ?_))
  dsimp only
  rw [if_pos (by decide +kernel)]
  unfold setAddByScan
  refine wpAny_bind (wpAny_bind (wpAny_rule (wpAny_bind ?_)))
  show wpAny _ _ (setScanFrom a (.bool true) 1 true [((1 : Int), Value.bool true)] 0) _ _ _
  unfold setScanFrom
  rw [if_pos (by rfl)]
  refine wpAny_bind (wpAny_bind (wpAny_setState_of ho rfl (by cases led <;> rfl) (wpAny_pure ?_)))
  refine wpAny_bind ?_
  unfold eqBool
  refine wpAny_holding ?_
  rw [if_pos (by rfl)]
  refine wpAny_bind (wpAny_rule (wpAny_pure ?_))
  refine wpAny_pure ?_
  dsimp only
  refine wpAny_pure (wpAny_pure ?_)
  show wpAny _ _ (ret Value.none) _ _ _
  exact wpAny_pure ⟨_, rfl, h⟩
end
end Mine
end

section
open PySem PySem.W PyProof.Rows PySem.Calls PySem.Spec
set_option maxRecDepth 100000
namespace Mine
theorem setit_next : Slot "set_iterator" "__next__" "set_iterator.__next__" :=
  .of (owner := "set_iterator") (n := "__next__") (by rw [typeLookup_type, builtinLookup_eq_fast]; kernel_rfl) (by decide +kernel) (by decide +kernel) (by decide +kernel)
    (by first | exact .inl (by decide +kernel) | exact .inr (by decide +kernel)) (by rw [isSubtype_type]; kernel_rfl)
theorem setit_next_entry : entryFor table "set_iterator.__next__" = some Builtin.«set_iterator.__next__» := entryFor_of_tree (by kernel_rfl)
theorem setit_own : Manifest.owners.lookup (String.ofList ['r', 'o', 't', 'a', 'r', 'e', 't', 'i', '_', 't', 'e', 's'].reverse) = some Manifest.sig_set_iterator := by kernel_rfl
theorem setit_next_args (a : Value) : argsOk "set_iterator.__next__" ⟨[a], []⟩ := by
  unfold argsOk; rw [signature?_of (id := "set_iterator.__next__") (n := ['_', '_', 't', 'x', 'e', 'n', '_', '_']) (o := ['r', 'o', 't', 'a', 'r', 'e', 't', 'i', '_', 't', 'e', 's']) (by kernel_rfl) setit_own]; kernel_rfl
theorem set_iter_entry : entryFor table "set.__iter__" = some Builtin.«frozenset.__iter__» :=
  entryFor_alias (id' := "frozenset.__iter__") (by kernel_rfl) (by first | rfl | decide +kernel | (unfold String.splitOn; simp +decide [String.splitOnAux])) (by decide +kernel) (by kernel_rfl)

abbrev setIt (a : Addr) (f i : Int) : Obj := { cls := .type "set_iterator", data := .fields #[.int f 0, .int i 0, .ref a, .int 1 0, .int 1 0] }
theorem pick_one {α : Type} (next : Nat → Nat) (x : α) : pickOrder next #[x] = #[x] := by
  simp [pickOrder, pickOrder.go, Nat.mod_one]

section
variable {prog : Program} {w : World} {A : Around} {E : Value → Shared → Prop} {s : Shared}
abbrev byTxt (w : World) : Bool := w.params.followText "set-order"
theorem set_pyIter {a : Addr} {Q : Value → Shared → Prop} (ho : s.heap.get? a = some (setO1 (!byTxt w)))
    (h : Q (.ref s.heap.objs.size) { s with heap := s.heap.push (setIt a 0 0) }) : wpAny (model prog w) A (pyIter (.ref a)) Q E s := by
  have hT : s.TypeIs (.ref a) "set" := ⟨_, ho, rfl⟩
  refine wpAny_pyIter_slot hT F.slot_set_iter (wpAny_call_entry F.slot_set_iter hT set_iter_entry ?_ (F.args_set_iter_1 _))
  show wpAny _ _ ((Builtin.Frozenset.sizeOf a) >>= _) _ _ s
  refine wpAny_bind ?_
  unfold Builtin.Frozenset.sizeOf setEntries
  refine wpAny_bind (wpAny_bind (wpAny_setState_of ho rfl (by cases (byTxt w) <;> rfl) (wpAny_pure (wpAny_pure ?_))))
  refine wpAny_bind ?_
  unfold setDrawn setsByText
  refine wpAny_bind (wpAny_setState_of ho rfl (by cases (byTxt w) <;> rfl) ?_)
  dsimp only
  refine wpAny_bind (wpAny_bind (wpAny_askSetting (wpAny_pure (wpAny_pure ?_))))
  refine wpAny_ite_split (fun h => absurd ((Bool.and_eq_true _ _).mp h).2 (fun h2 => Bool.false_ne_true (show false = true from h2))) (fun _ => ?_)
  refine wpAny_bind (wpAny_pure ?_)
  refine wpAny_bind ?_
  unfold setEpoch
  refine wpAny_bind (wpAny_setState_of ho rfl (by cases (byTxt w) <;> rfl) (wpAny_pure ?_))
  refine wpAny_bind ?_
  unfold newFields
  refine wpAny_newObj_type ?_ (by size_fits)
  exact wpAny_pure ⟨_, rfl, "set_iterator", _, ⟨_, Heap.get?_push_size _ rfl, rfl⟩, setit_next.lookup, h⟩

theorem set_next1 {a I : Addr} {Q : Option Value → Shared → Prop} (ho : s.heap.get? a = some (setO1 (!byTxt w))) (hI : s.heap.get? I = some (setIt a 0 0))
    (h : ∀ h' f, (f = 0 ∧ byTxt w = true ∨ f = 2 ∧ byTxt w = false) → h'.get? I = some (setIt a f 1) → Heap.SameBut I s.heap h' → Q (some (.bool true)) { s with heap := h' }) : wpAny (model prog w) A (pyNext (.ref I)) Q E s := by
  have hT : s.TypeIs (.ref I) "set_iterator" := ⟨_, hI, rfl⟩
  unfold pyNext
  refine wpAny_bind (wpAny_attempt (wpAny_callSpecial?_slot (name := Str.ofString "__next__") hT setit_next
    (wpAny_call_entry setit_next hT setit_next_entry ?_ (setit_next_args _))))
  show wpAny _ _ (fieldsOf (.ref I) >>= _) _ _ s
  refine wpAny_bind ?_
  unfold fieldsOf
  refine wpAny_bind (wpAny_load hI (wpAny_pure ?_))
  dsimp only
  refine wpAny_bind ?_
  unfold setEntries
  refine wpAny_bind (wpAny_setState_of ho rfl (by cases (byTxt w) <;> rfl) (wpAny_pure ?_))
  refine wpAny_ite_split (fun h => absurd (show ((1 : Int) != 1) = true from h) (by decide)) (fun _ => ?_)
  refine wpAny_bind ?_
  unfold setNext setsByText
  refine wpAny_bind (wpAny_setState_of ho rfl (by cases (byTxt w) <;> rfl) ?_)
  dsimp only
  refine wpAny_bind (wpAny_bind (wpAny_askSetting (wpAny_pure ?_)))
  have step : ∀ f : Int, (f = 0 ∧ byTxt w = true ∨ f = 2 ∧ byTxt w = false) → wpAny (model prog w) A.in1 (do setField (.ref I) 0 (.int f 0); setField (.ref I) 1 (.int 1 0); ret (.bool true))
      (fun fin s' => ∃ v, fin = .done (.ret v) ∧ wpAny (model prog w) A (pure (some v)) Q E s') (fun e s' => wpAny (model prog w) A (do if ← isInstance e (.type "StopIteration") then pure none else throw e) Q E s') s := by
    intro f hf
    refine wpAny_bind (wpAny_setField hI rfl (by simp) ?_)
    have hI1 : (s.heap.update I (Obj.mapFields (·.setIfInBounds 0 (.int f 0)))).get? I = some (setIt a f 0) := by rw [Heap.get?_update_self _ hI rfl]; rfl
    refine wpAny_bind (wpAny_setField hI1 rfl (by simp) ?_)
    have hI2 : ((s.heap.update I (Obj.mapFields (·.setIfInBounds 0 (.int f 0)))).update I (Obj.mapFields (·.setIfInBounds 1 (.int 1 0)))).get? I = some (setIt a f 1) := by rw [Heap.get?_update_self _ hI1 rfl]; rfl
    exact wpAny_pure ⟨_, rfl, wpAny_pure (h _ f hf hI2 ((Heap.SameBut.update ..).trans (Heap.SameBut.update ..)))⟩
  cases hb : byTxt w with
  | true =>
    rw [hb] at ho
    rw [if_pos (by exact hb)]
    rw [if_neg (by decide)]
    refine wpAny_bind ?_
    unfold setWalk setsByText
    refine wpAny_bind (wpAny_setState_of ho rfl (by rfl) ?_)
    dsimp only
    refine wpAny_bind (wpAny_bind (wpAny_askSetting (wpAny_pure ?_)))
    rw [if_pos (by exact hb)]
    refine wpAny_bind (wpAny_askSetting (wpAny_pure ?_))
    rw [pick_one]
    refine wpAny_pure ?_
    exact step 0 (.inl ⟨rfl, hb⟩)
  | false =>
    rw [hb] at ho
    refine wpAny_ite_split (fun h => absurd ((show byTxt w = true from h).symm.trans hb) (by decide)) (fun _ => ?_)
    refine wpAny_ite_split (fun h => absurd (show false = true from h) (by decide)) (fun _ => ?_)
    refine wpAny_bind (wpAny_pure ?_)
    refine wpAny_pure ?_
    exact step 2 (.inr ⟨rfl, hb⟩)

theorem set_next2 {a I : Addr} {f : Int} {Q : Option Value → Shared → Prop} (hh : A.handled = none) (ho : s.heap.get? a = some (setO1 (!byTxt w))) (hI : s.heap.get? I = some (setIt a f 1)) (hf : f = 0 ∧ byTxt w = true ∨ f = 2 ∧ byTxt w = false)
    (h : ∀ h', (∀ b o, b ≠ I → s.heap.get? b = some o → h'.get? b = some o) → Q none { s with heap := h' }) : wpAny (model prog w) A (pyNext (.ref I)) Q E s := by
  have hT : s.TypeIs (.ref I) "set_iterator" := ⟨_, hI, rfl⟩
  unfold pyNext
  have stop : wpAny (model prog w) A.in1 (do setField (.ref I) 2 .none; raiseNew (← newExc (.type "StopIteration") []) : Sem Fin)
      (fun fin s' => ∃ v, fin = .done (.ret v) ∧ wpAny (model prog w) A (pure (some v)) Q E s') (fun e s' => wpAny (model prog w) A (do if ← isInstance e (.type "StopIteration") then pure none else throw e) Q E s') s := by
    refine wpAny_bind (wpAny_setField hI rfl (by simp) ?_)
    refine wpAny_bind ?_
    simp only [newExc, newTuple]
    refine wpAny_bind (wpAny_newObj_type ?_ (by size_fits))
    refine wpAny_bind (m := firstArgMember _ _) (wpAny_of_eq (a := Value.none) (by first | rfl | (simp only [firstArgMember]; rfl)) ?_)
    refine wpAny_newObj_type ?_ (by size_fits)
    simp only [raiseNew]
    refine wpAny_bind (wpAny_handled ?_)
    rw [show A.in1.handled = none from hh]
    refine wpAny_bind (wpAny_pure (wpAny_throw ?_))
    refine wpAny_bind (wpAny_isInstance (T := "StopIteration") (b := true) ⟨_, Heap.get?_push_size _ rfl, rfl⟩ isSubtype_stop ?_)
    exact wpAny_pure (h _ fun b o hb e => Heap.get?_push_of_some _ (Heap.get?_push_of_some _ ((Heap.get?_update_other _ _ (Ne.symm hb)).trans e)))
  refine wpAny_bind (wpAny_attempt (wpAny_callSpecial?_slot (name := Str.ofString "__next__") hT setit_next
    (wpAny_call_entry setit_next hT setit_next_entry ?_ (setit_next_args _))))
  show wpAny _ _ (fieldsOf (.ref I) >>= _) _ _ s
  refine wpAny_bind ?_
  unfold fieldsOf
  refine wpAny_bind (wpAny_load hI (wpAny_pure ?_))
  dsimp only
  refine wpAny_bind ?_
  unfold setEntries
  refine wpAny_bind (wpAny_setState_of ho rfl (by cases (byTxt w) <;> rfl) (wpAny_pure ?_))
  refine wpAny_ite_split (fun h => absurd (show ((1 : Int) != 1) = true from h) (by decide)) (fun _ => ?_)
  refine wpAny_bind ?_
  unfold setNext setsByText
  refine wpAny_bind (wpAny_setState_of ho rfl (by cases (byTxt w) <;> rfl) ?_)
  dsimp only
  refine wpAny_bind (wpAny_bind (wpAny_askSetting (wpAny_pure ?_)))
  rcases hf with ⟨rfl, hb⟩ | ⟨rfl, hb⟩
  · rw [hb] at ho
    rw [if_pos (by exact hb)]
    rw [if_neg (by decide)]
    refine wpAny_bind ?_
    unfold setWalk setsByText
    refine wpAny_bind (wpAny_setState_of ho rfl (by rfl) ?_)
    dsimp only
    refine wpAny_bind (wpAny_bind (wpAny_askSetting (wpAny_pure ?_)))
    rw [if_pos (by exact hb)]
    refine wpAny_bind (wpAny_askSetting (wpAny_pure ?_))
    rw [pick_one]
    refine wpAny_pure ?_
    exact stop
  · rw [hb] at ho
    refine wpAny_ite_split (fun h => absurd ((show byTxt w = true from h).symm.trans hb) (by decide)) (fun _ => ?_)
    rw [hb]
    refine wpAny_ite_split (fun h => absurd (show false = true from h) (by decide)) (fun _ => ?_)
    refine wpAny_bind (wpAny_pure ?_)
    refine wpAny_pure ?_
    exact stop

theorem unpack_true {a : Addr} {Q : List Value → Shared → Prop} (hh : A.handled = none) (ho : s.heap.get? a = some (setO1 (!byTxt w)))
    (h : ∀ h', (∀ b o, s.heap.get? b = some o → h'.get? b = some o) → Q [.bool true] { s with heap := h' }) : wpAny (model prog w) A (unpackItems (.ref a) 1 none) Q E s := by
  have hT : s.TypeIs (.ref a) "set" := ⟨_, ho, rfl⟩
  have hlt : a < s.heap.objs.size := Heap.lt_size ho
  unfold unpackItems
  refine wpAny_bind ?_
  unfold notIterableAtAll
  refine wpAny_bind (wpAny_specialOf hT F.slot_set_iter.lookup ?_)
  refine wpAny_pure ?_
  simp only [Bool.false_eq_true, if_false]
  refine wpAny_bind (wpAny_holding (set_pyIter ho ?_))
  have g1 : (s.heap.push (setIt a 0 0)).get? s.heap.objs.size = some (setIt a 0 0) := Heap.get?_push_size _ rfl
  refine wpAny_bind (wpAny_holding ?_)
  unfold draw
  refine wpAny_bind (set_next1 (Heap.get?_push_of_some _ ho) g1 fun h1 f hf hI1 hs1 => ?_)
  have ho1 : h1.get? a = some (setO1 (!byTxt w)) := hs1.extBut _ _ (Nat.ne_of_lt hlt) (Heap.get?_push_of_some _ ho)
  refine wpAny_bind (wpAny_holding ?_)
  unfold draw
  refine wpAny_pure (wpAny_pure ?_)
  rw [if_neg (by decide)]
  refine wpAny_bind (wpAny_holding (set_next2 hh ho1 hI1 hf fun h2 hk2 => ?_))
  rw [if_neg (by decide)]
  refine wpAny_pure (h h2 fun b o e => hk2 b o (Nat.ne_of_lt (Heap.lt_size e)) (hs1.extBut _ _ (Nat.ne_of_lt (Heap.lt_size e)) (Heap.get?_push_of_some _ e)))
end
end Mine
end

section
open PySem PySem.W PyProof.Rows PySem.Calls PySem.Spec PyProof.Rows.LCg
set_option maxRecDepth 100000
namespace Mine
section
variable {prog : Program} {w : World} {A : Around} {E : Value → Shared → Prop} {R : Result → Shared → Prop} {s : Shared}

theorem compTurn_set (elt target iter : Expr) (scope : Scope) (pos : Pos) (it acc : Value) (env : Env) :
    compTurn (.SetComp elt [⟨target, iter, [], 0⟩] scope pos) 0 it acc env = (standAt iter.pos >>= fun _ => pyNext it >>= fun r => match r with
      | none => pure (.done .next)
      | some v => letOwnedTupleGo target it v >>= fun _ => assign target env v >>= fun _ =>
        (eval elt env >>= fun x => standAt elt.pos >>= fun _ => call (.builtin "set.add") [acc, x] >>= fun _ => pure ()) >>= fun _ =>
          again (.compLoop (.SetComp elt [⟨target, iter, [], 0⟩] scope pos) 0 it acc env)) := by rfl

theorem compStart_set {elt target iter scope pos it acc env}
    (h0 : codeAny (model prog w) A (.compLoop (.SetComp elt [⟨target, iter, [], 0⟩] scope pos) 0 it acc env) R s)
    (h : wpAny (model prog w) A (pyIter it) (fun it' s' => codeAny (model prog w) A (.compLoop (.SetComp elt [⟨target, iter, [], 0⟩] scope pos) 0 it' acc env) R s')
      (notedBy (model prog w) A env fun x s' => R (.error x) s') s) :
    codeAny (model prog w) A (.compStart (.SetComp elt [⟨target, iter, [], 0⟩] scope pos) 0 it acc env) R s := by
  refine codeAny_of_tree ?_
  show wpAny _ A ((compStart (.SetComp elt [⟨target, iter, [], 0⟩] scope pos) 0 it acc env).onRaise (fun x => do noteFrame x env; standAt theWindowsPlace)) _ _ s
  refine wpAny_notedAt ?_
  unfold compStart
  show wpAny _ A (ask >>= _) _ _ s
  refine wpAny_bind (wpAny_askSetting (wpAny_ite ?_))
  split
  · first
      | exact wpAny_bind (wpAny_pure (wpAny_pure (And.intro rfl h0)))
      | exact wpAny_pure (And.intro rfl h0)
  · refine wpAny_bind (wpAny_rule ?_)
    first
      | exact wpAny_bind (wpAny_standAt (wpAny_bind (wpAny_mono h (fun it' s' h' => wpAny_pure (And.intro rfl h')) fun _ _ x => x)))
      | (show wpAny _ _ (standAt iter.pos >>= _) _ _ s; exact wpAny_bind (wpAny_standAt (wpAny_bind (wpAny_mono h (fun it' s' h' => wpAny_pure (And.intro rfl h')) fun _ _ x => x))))

theorem compLoop_set {elt target iter : Expr} {scope : Scope} {pos : Pos} {it acc : Value} {env : Env} (I : Nat → Shared → Prop)
    (turn : ∀ n s, I n s → wpAny (model prog w) A (pyNext it) (fun r s₁ => match r with
      | none => R (.ok .next) s₁
      | some v => wpAny (model prog w) A (assign target env v) (fun _ s₂ => wpAny (model prog w) A (eval elt env) (fun x s₃ =>
          wpAny (model prog w) A (call (.builtin "set.add") [acc, x]) (fun _ s₄ => ∃ m, m < n ∧ I m s₄) (notedBy (model prog w) A env fun e s' => R (.error e) s') s₃)
          (notedBy (model prog w) A env fun e s' => R (.error e) s') s₂) (notedBy (model prog w) A env fun e s' => R (.error e) s') s₁) (notedBy (model prog w) A env fun e s' => R (.error e) s') s)
    (n : Nat) (h : I n s) (ht : ∀ v, letOwnedTupleGo target it v = pure () := by intro _; rfl) :
    codeAny (model prog w) A (.compLoop (.SetComp elt [⟨target, iter, [], 0⟩] scope pos) 0 it acc env) R s := by
  refine codeAny_loop rfl I (fun n s hI => ?_) n h
  show wpAny _ _ ((compTurn (.SetComp elt [⟨target, iter, [], 0⟩] scope pos) 0 it acc env).onRaise (fun x => do noteFrame x env; theTreesLotGoes x)) _ _ s
  refine wpAny_noted ?_
  rw [compTurn_set]
  refine wpAny_bind (wpAny_standAt (wpAny_bind (wpAny_mono (turn n s hI) (fun r s₁ h₁ => ?_) fun _ _ h' => h')))
  cases r with
  | none => exact wpAny_pure h₁
  | some v =>
    refine wpAny_bind (wpAny_of_eq (ht v) ?_)
    exact wpAny_bind (wpAny_mono h₁ (fun _ s₂ h₂ => wpAny_bind (wpAny_bind (wpAny_mono h₂ (fun x s₃ h₃ => wpAny_bind (wpAny_standAt (wpAny_bind (wpAny_mono h₃
      (fun _ s₄ h₄ => wpAny_pure (wpAny_pure ⟨rfl, h₄⟩)) fun _ _ h' => h')))) fun _ _ h' => h'))) fun _ _ h' => h')
end

/-- the turns of a set comprehension that puts in True each time -/
def SetRest (prog : Program) (w : World) (A : Around) (h₀ : Heap) (L : Addr) (m : Str → Option Value) (env : Env) (elt : Expr) (x : Str) (scope : Scope) (cl : List (Str × Addr)) (s : Shared) (S : List (Addr × Obj) → Prop) (P : Nat → Value → Prop)
    (Fin : List (Addr × Obj) → Prop) : Nat → Nat → List (Addr × Obj) → Prop
  | 0, _, news => Fin news
  | k + 1, i, news => ∀ v I oI C oC D oD m₂ h tk (E' : Value → Shared → Prop), P i v → NsObj oC m₂ → m₂ x = some v → Fr h₀ L h m → News h₀ L h ((I, oI) :: (C, oC) :: (D, oD) :: news) → Off3 I C D news → ((@Ne Nat I C) ∧ (@Ne Nat I D) ∧ (@Ne Nat C D)) →
      wpAny (model prog w) A (eval elt (compEnvC scope cl C env)) (CompEnd h₀ L m { s with heap := h, toks := tk } I oI C oC D oD S (fun y news' => y = .bool true ∧ SetRest prog w A h₀ L m env elt x scope cl s S P Fin k (i + 1) news')) E' { s with heap := h, toks := tk }

/-- the set, i things having been put in -/
def setAt (led : Bool) : Nat → Obj
  | 0 => setO0 led
  | _ + 1 => setO1 led

section
variable {prog : Program} {w : World} {A : Around} {E : Value → Shared → Prop} {s : Shared} {h₀ : Heap} {L : Addr} {m : Str → Option Value} {env : Env}

theorem add_true {a : Addr} {led : Bool} {i : Nat} {Q : Value → Shared → Prop} (ho : s.heap.get? a = some (setAt led i))
    (h : ∀ h', Heap.SameBut a s.heap h' → h'.get? a = some (setAt led (i + 1)) → Q .none { s with heap := h', toks := s.toks + 1 }) : wpAny (model prog w) A (call (.builtin "set.add") [.ref a, .bool true]) Q E s := by
  cases i with
  | zero => exact add_true0 ho h
  | succ i => exact add_true1 ho (h s.heap (Heap.SameBut.refl ..) ho)

theorem newSet_w {Q : Value → Shared → Prop} (h : Q (.ref s.heap.objs.size) { s with heap := s.heap.push (setO0 (!byTxt w)) }) : wpAny (model prog w) A (newSet (.type "set")) Q E s := by
  unfold newSet setsByText
  refine wpAny_bind (wpAny_bind (wpAny_askSetting (wpAny_pure ?_)))
  dsimp only
  simp only [newObj]
  exact wpAny_bind (wpAny_alloc (wpAny_pure h))

theorem block_S {elt iter : Expr} {x : Str} {px : Pos} {scope : Scope} {cl : List (Str × Addr)} {pos : Pos} {s₂ : Shared} {I : Addr} {fp : List Addr} {n : Nat} {P : Nat → Value → Prop} {St : Nat → Heap → Prop} {S : List (Addr × Obj) → Prop} {news : List (Addr × Obj)}
    {Fin : List (Addr × Obj) → Prop} {RR : Value → Addr → Result → Shared → Prop}
    (W : Walks prog w A I fp [I] n P St) (hIo : ∀ i h, St i h → ∃ o, h.get? I = some o)
    (hSt : ∀ i h h' o nw, St i h → h.get? I = some o → h'.get? I = some o → (∀ b o, h₀.get? b = some o → h'.get? b = some o) → News h₀ L h' nw → S nw → St i h')
    (hcell : ∀ y ∈ scope.names, y.2 ≠ .cell) (hkind : scope.kind = .function) (hx : scope.names.lookup x = some .local) (hst : St 0 s₂.heap) (hfp : ∀ b ∈ fp, b < s₂.heap.objs.size)
    (F : Fr h₀ L s₂.heap m) (N : News h₀ L s₂.heap news) (hIL : L ≠ I) (hI₀ : h₀.get? I = none) (off : ∀ p ∈ news, p.1 ≠ I) (hS : S news)
    (R : SetRest prog w A h₀ L m env elt x scope cl s₂ S P Fin n 0 news)
    (hRR : ∀ D C h tk m' news', Fr h₀ L h m → News h₀ L h ((D, setAt (!byTxt w) n) :: news') → Off1 D news' → h.Ns C m' → h₀.get? C = none → h₀.get? D = none → C ≠ L → D ≠ L → C ≠ D → (∀ p ∈ news', p.1 ≠ C) → Fin news' → RR (.ref D) C (.ok .next) { s₂ with heap := h, toks := tk }) :
    wpAny (model prog w) A (newSet (.type "set")) (fun acc s₃ => wpAny (model prog w) A (newFunctionEnv scope env.globals cl [] env.qual none .none (some env)) (fun cenv s₄ =>
      codeAny (model prog w) A (.compStart (.SetComp elt [⟨.Name x px, iter, [], 0⟩] scope pos) 0 (.ref I) acc { cenv with scope := relabel scope env }) (RR acc cenv.locals) s₄) E s₃) E s₂ := by
  refine newSet_w (wpAny_newFunctionEnv hcell (by intro y hy; simp at hy) (fun h₁ hns₁ hsb₁ => ?_) hkind)
  dsimp only at hns₁ hsb₁ ⊢
  generalize hH2 : s₂.heap.push (setO0 (!byTxt w)) = H2 at hns₁ hsb₁ ⊢
  let D := s₂.heap.objs.size
  let C := H2.objs.size
  have hC : C = D + 1 := by show H2.objs.size = _; rw [← hH2, Heap.size_push]
  have hDC : D ≠ C := by rw [hC]; exact Nat.ne_of_lt (Nat.lt_succ_self _)
  have below : ∀ b, b < D → b ≠ C ∧ b ≠ D := fun b hb => ⟨by rw [hC]; exact Nat.ne_of_lt (Nat.lt_succ_of_lt hb), Nat.ne_of_lt hb⟩
  have hDf : D ∉ fp := fun hm => Nat.lt_irrefl _ (hfp _ hm)
  have hCf : C ∉ fp := fun hm => by have := hfp _ hm; rw [hC] at this; exact Nat.lt_irrefl _ (Nat.lt_of_succ_lt this)
  have hIf : I ∈ fp := W.sub I (List.mem_singleton.mpr rfl)
  have hIlt : I < D := hfp I hIf
  have old : ∀ b o, s₂.heap.get? b = some o → h₁.get? b = some o := fun b o e => hsb₁.extBut b o (below b (Heap.lt_size e)).1 (Heap.get?_push_of_some _ (hH2 ▸ Heap.get?_push_of_some _ e))
  have hacc : h₁.get? D = some (setAt (!byTxt w) 0) := hsb₁.extBut _ _ hDC (Heap.get?_push_of_some _ (hH2 ▸ Heap.get?_push_size _ rfl))
  have hst₁ : St 0 h₁ := W.frame _ _ _ hst fun b _ o e => old b o e
  have fresh₀ : ∀ a, D ≤ a → h₀.get? a = none := fun a ha => by
    cases e : h₀.get? a with
    | none => rfl
    | some o' => exact absurd (Heap.lt_size (F.keep a o' e)) (Nat.not_lt.mpr ha)
  have hD₀ : h₀.get? D = none := fresh₀ _ (Nat.le_refl _)
  have hC₀ : h₀.get? C = none := fresh₀ _ (by rw [hC]; exact Nat.le_succ _)
  have hLlt : L < D := F.ns.lt
  have hDL : D ≠ L := Ne.symm (below L hLlt).2
  have hCL : C ≠ L := Ne.symm (below L hLlt).1
  have hCI : I ≠ C := (below I hIlt).1
  have hDI : I ≠ D := (below I hIlt).2
  have off₀ : Off3 I C D news := Off3.of fun p hp => ⟨off p hp, (below _ (Heap.lt_size (N p hp).1)).1, (below _ (Heap.lt_size (N p hp).1)).2⟩
  have loop : ∀ s₃ : Shared, s₃ = { s₂ with heap := h₁, toks := s₂.toks + ([] : List (Str × Value)).length } →
      codeAny (model prog w) A (.compLoop (.SetComp elt [⟨.Name x px, iter, [], 0⟩] scope pos) 0 (.ref I) (.ref D) (compEnvC scope cl C env)) (RR (.ref D) C) s₃ := by
    rintro s₃ rfl
    refine compLoop_set
      (fun k s' => ∃ h' tk i m' news', s' = { s₂ with heap := h', toks := tk } ∧ i ≤ n ∧ k = n + 1 - i ∧ St i h' ∧ Fr h₀ L h' m ∧ h'.Ns C m' ∧ News h₀ L h' ((D, setAt (!byTxt w) i) :: news') ∧
        Off3 I C D news' ∧ S news' ∧ SetRest prog w A h₀ L m env elt x scope cl s₂ S P Fin (n - i) i news') ?_ (n + 1)
      ⟨h₁, _, 0, _, news, rfl, Nat.zero_le _, rfl, hst₁, F.keeps old, hns₁, fun p hp => ?_, off₀, hS, R⟩
    · rintro k s' ⟨h', tk, i, m', news', rfl, hi, rfl, hst', F', hn', N', off', hS', R'⟩
      have off3 := off'.mem
      by_cases hlt : i < n
      · obtain ⟨j, hj⟩ : ∃ j, n - i = j + 1 := ⟨n - i - 1, by omega⟩
        rw [hj] at R'
        refine W.item i _ _ _ hlt hst' fun v h₂ tk₂ hPv hst₂ hk₂ => ?_
        refine wpAny_assign_Name (wpAny_storeName_local (lookup_relabel_local hx) (hn'.at' fun o e => hk₂ _ o (by simpa using Ne.symm hCI) e) (fun h₃ hn₃ hs₃ => ?_) (by simp [compEnvC, relabel, hkind]))
        have hst₃ : St (i + 1) h₃ := W.frame _ _ _ hst₂ fun b hb o e => hs₃.extBut b o (fun q => hCf (by have q' : b = C := q; rw [← q']; exact hb)) e
        obtain ⟨oI, heI⟩ := hIo _ _ hst₃
        obtain ⟨oC, heC, hoC⟩ := ns_obj hn₃
        have F₃ : Fr h₀ L h₃ m := (fr_but F' hk₂ hIL hI₀).change hs₃ hCL hC₀
        have N₂ : News h₀ L h₂ ((D, setAt (!byTxt w) i) :: news') := news_but N' hk₂ fun p hp => by
          rcases List.mem_cons.mp hp with rfl | hp
          · exact Ne.symm hDI
          · exact (off3 p hp).1
        have N₃ : News h₀ L h₃ ((I, oI) :: (C, oC) :: (D, setAt (!byTxt w) i) :: news') := fun p hp => by
          rcases List.mem_cons.mp hp with rfl | hp
          · exact ⟨heI, Ne.symm hIL, hI₀⟩
          · rcases List.mem_cons.mp hp with rfl | hp
            · exact ⟨heC, hCL, hC₀⟩
            · have z := N₂ p hp
              refine ⟨hs₃.extBut _ _ ?_ z.1, z.2⟩
              rcases List.mem_cons.mp hp with rfl | hp
              · exact hDC
              · exact (off3 p hp).2.1
        refine wpAny_mono (R' v I oI C oC D _ _ h₃ _ _ hPv hoC (by simp) F₃ N₃ off' ⟨hCI, hDI, Ne.symm hDC⟩) (fun y s₄ h₄ => ?_) fun _ _ e => e
        obtain ⟨h₄, tk₄, news₄, rfl, F₄, N₄, off₄, hS₄, rfl, R₄⟩ := h₄
        have zI := (N₄ (I, oI) List.mem_cons_self).1
        have zC := (N₄ (C, oC) (List.mem_cons_of_mem _ List.mem_cons_self)).1
        have zD := (N₄ (D, setAt (!byTxt w) i) (List.mem_cons_of_mem _ (List.mem_cons_of_mem _ List.mem_cons_self))).1
        have N₄' : News h₀ L h₄ news₄ := fun p hp => N₄ p (List.mem_cons_of_mem _ (List.mem_cons_of_mem _ (List.mem_cons_of_mem _ hp)))
        have hst₄ : St (i + 1) h₄ := hSt _ _ _ _ _ hst₃ heI zI F₄.keep N₄' hS₄
        refine add_true zD fun h₅ hs₅ hD₅ => ?_
        have off4 := off₄.mem
        refine ⟨n + 1 - (i + 1), by omega, h₅, _, i + 1, _, news₄, rfl, hlt, rfl, W.frame _ _ _ hst₄ fun b hb o e => hs₅.extBut b o (fun q => hDf (q ▸ hb)) e, F₄.change hs₅ hDL hD₀,
          (hoC.ns zC).sameBut hs₅ (Ne.symm hDC), fun p hp => ?_, off₄, hS₄, ?_⟩
        · rcases List.mem_cons.mp hp with rfl | hp
          · exact ⟨hD₅, hDL, hD₀⟩
          · exact ⟨hs₅.extBut _ _ (off4 p hp).2.2 (N₄' p hp).1, (N₄' p hp).2⟩
        · rw [show n - (i + 1) = j by omega]
          exact R₄
      · obtain rfl : i = n := Nat.le_antisymm hi (Nat.not_lt.mp hlt)
        rw [Nat.sub_self] at R'
        refine W.done _ _ _ hst' fun h₂ tk₂ hk₂ => ?_
        exact hRR _ _ h₂ tk₂ _ news' (fr_but F' hk₂ hIL hI₀) (news_but N' hk₂ fun p hp => by
          rcases List.mem_cons.mp hp with rfl | hp
          · exact Ne.symm hDI
          · exact (off3 p hp).1) off'.one (hn'.at' fun o e => hk₂ _ o (by simpa using Ne.symm hCI) e) hC₀ hD₀ hCL hDL (Ne.symm hDC) (fun p hp => (off3 p hp).2.1) R'
    · rcases List.mem_cons.mp hp with rfl | hp
      · exact ⟨hacc, hDL, hD₀⟩
      · exact ⟨old _ _ (N p hp).1, (N p hp).2⟩
  exact compStart_set (loop _ rfl) (W.self 0 _ _ _ hst₁ (loop _ rfl))

theorem tup_st {ax I : Addr} {its : Array Value} : ∀ i (h h' : Heap) (o : Obj) (nw : List (Addr × Obj)), (h.IsTupleIter I ax i ∧ h.IsTuple ax its) → h.get? I = some o → h'.get? I = some o → (∀ b o, h₀.get? b = some o → h'.get? b = some o) → News h₀ L h' nw →
    (ax, ({ cls := .type "tuple", data := .seq its } : Obj)) ∈ nw → (h'.IsTupleIter I ax i ∧ h'.IsTuple ax its) :=
  fun i h h' o nw st e e' _ N S => ⟨by obtain ⟨o', q, r⟩ := st.1; rw [e] at q; cases q; exact ⟨o, e', r⟩, ⟨_, (N _ S).1, rfl, _, rfl⟩⟩

/-- a set comprehension's source: a tuple of the ledger -/
def SetSrc (prog : Program) (w : World) (A : Around) (h₀ : Heap) (L : Addr) (m : Str → Option Value) (env : Env) (elt : Expr) (x : Str) (scope : Scope) (cl : List (Str × Addr)) (Q : Value → Shared → Prop) (xv : Value) (s₁ : Shared) : Prop :=
  ∃ ax its news, xv = .ref ax ∧ A.handled = none ∧ Fr h₀ L s₁.heap m ∧ News h₀ L s₁.heap news ∧ (ax, ({ cls := .type "tuple", data := .seq its } : Obj)) ∈ news ∧
      ∀ g, SetRest prog w A h₀ L m env elt x scope cl { s₁ with heap := g } (fun nw => (ax, ({ cls := .type "tuple", data := .seq its } : Obj)) ∈ nw) (fun i v => its[i]? = some v)
        (fun nw => ∀ D h tk, Fr h₀ L h m → News h₀ L h ((D, setAt (!byTxt w) its.size) :: nw) → Off1 D nw → Q (.ref D) { s₁ with heap := h, toks := tk }) its.size 0 news
theorem SetComp_tup {elt iter : Expr} {x : Str} {px : Pos} {scope : Scope} {cl : List (Str × Addr)} {pos : Pos} {Q : Value → Shared → Prop} (_F₀ : Fr h₀ L s.heap m)
    (hclos : closureFor scope env = pure cl) (hcell : ∀ y ∈ scope.names, y.2 ≠ .cell) (hkind : scope.kind = .function)
    (hnames : ∀ y ∈ scope.names, y.2 = .local → scope.names.lookup y.1 = some .local) (hx : scope.names.lookup x = some .local)
    (h : wpAny (model prog w) A (eval iter env) (SetSrc prog w A h₀ L m env elt x scope cl Q) E s)
    (hs : ∀ x, foldedSetIterable iter env x = pure x := by intro _; rfl) :
    wpAny (model prog w) A (eval (.SetComp elt [⟨.Name x px, iter, [], 0⟩] scope pos) env) Q E s := by
  show wpAny _ _ (comprehension (.SetComp elt [⟨.Name x px, iter, [], 0⟩] scope pos) scope env _ (newSet (.type "set")) false (eval iter env)) _ _ _
  refine wpAny_comprehension_free (use := none) rfl hs hclos hkind hnames (wpAny_mono h (fun xv s₁ h₁ => ?_) fun _ _ e => e)
  obtain ⟨ax, its, news, rfl, hh, F, N, hm, R⟩ := h₁
  have ht : s₁.heap.IsTuple ax its := ⟨_, (N _ hm).1, rfl, _, rfl⟩
  have hlt : ax < s₁.heap.objs.size := Heap.lt_size (N _ hm).1
  refine wpAny_pyIter_tuple ht ?_
  have up : ∀ b o, s₁.heap.get? b = some o → (s₁.heap.push { cls := .type "tuple_iterator", data := .fields #[.ref ax, .int 0 0] }).get? b = some o := fun b o e => Heap.get?_push_of_some _ e
  refine block_S (Walks.tuple hh s₁.heap.objs.size ax (Nat.ne_of_lt hlt) its) (fun i h st => by obtain ⟨o, e, _⟩ := st.1; exact ⟨o, e⟩) tup_st hcell hkind hx ⟨⟨_, Heap.get?_push_size _ rfl, rfl, rfl⟩, ht.push _⟩ (fun b hb => ?_)
    (F.keeps up) (N.grown up) (Nat.ne_of_lt F.ns.lt) (next_is_new F) (fun p hp => Nat.ne_of_lt (Heap.lt_size (N p hp).1)) hm (R _) ?_
  · show b < (s₁.heap.push _).objs.size
    rw [Heap.size_push]
    rcases List.mem_cons.mp hb with rfl | hb
    · exact Nat.lt_succ_self _
    · rw [List.mem_singleton.mp hb]; exact Nat.lt_succ_of_lt hlt
  · intro D C h tk m' news' F' N' o1 hn hC₀ hD₀ hCL hDL hCD offC fin
    refine ⟨m', hn, fun h'' hs'' => fin D h'' tk (F'.change hs'' hCL hC₀) (fun p hp => ?_) o1⟩
    refine ⟨hs''.extBut _ _ ?_ (N' p hp).1, (N' p hp).2⟩
    rcases List.mem_cons.mp hp with rfl | hp
    · exact Ne.symm hCD
    · exact offC p hp
end
end Mine
end

section
open PySem PySem.W PyProof.Rows PySem.Calls PySem.Spec PyProof.Rows.LCg
set_option maxRecDepth 100000
namespace Mine
section
variable {prog : Program} {w : World} {A : Around} {E : Value → Shared → Prop} {s : Shared} {h₀ : Heap} {L : Addr} {m : Str → Option Value} {env : Env}
/-- a comprehension's source: a tuple of the ledger -/
def TupSrc (prog : Program) (w : World) (A : Around) (h₀ : Heap) (L : Addr) (m : Str → Option Value) (env : Env) (elt : Expr) (x : Str) (scope : Scope) (cl : List (Str × Addr)) (Fin : Shared → List Value → List (Addr × Obj) → Prop) (xv : Value) (s₁ : Shared) : Prop :=
  ∃ ax its news, xv = .ref ax ∧ A.handled = none ∧ Fr h₀ L s₁.heap m ∧ News h₀ L s₁.heap news ∧ (ax, ({ cls := .type "tuple", data := .seq its } : Obj)) ∈ news ∧ its.size ≤ sizeLine ∧
      ∀ g, CompRest prog w A h₀ L m env elt x scope cl { s₁ with heap := g } (fun nw => (ax, ({ cls := .type "tuple", data := .seq its } : Obj)) ∈ nw) (fun i v => its[i]? = some v) (Fin { s₁ with heap := g }) its.size 0 [] news
theorem Assign_Comp_tup {elt iter : Expr} {x y : Str} {px py : Pos} {scope : Scope} {cl : List (Str × Addr)} {pos spos : Pos} {Q : Flow → Shared → Prop} (_F₀ : Fr h₀ L s.heap m) (hLe : env.locals = L)
    (hsw : swapsWith (.ListComp elt [⟨.Name x px, iter, [], 0⟩] scope pos) (some (.Name y py)) spos.line env = pure true)
    (hclos : closureFor scope env = pure cl) (hcell : ∀ z ∈ scope.names, z.2 ≠ .cell) (hkind : scope.kind = .function)
    (hnames : ∀ z ∈ scope.names, z.2 = .local → scope.names.lookup z.1 = some .local) (hx : scope.names.lookup x = some .local)
    (hy : env.kindOf y = some .local) (hp : (env.scope.kind == .class || (env.scope.kind == .module && env.locals != env.globals)) = false)
    (h : wpAny (model prog w) A (eval iter env) (TupSrc prog w A h₀ L m env elt x scope cl (fun s₂ => FinA h₀ L m s₂ y Q)) E s)
    (hs : ∀ x, foldedSetIterable iter env x = pure x := by intro _; rfl) :
    wpAny (model prog w) A (exec (.Assign [.Name y py] (.ListComp elt [⟨.Name x px, iter, [], 0⟩] scope pos) spos) env) Q E s := by
  subst hLe
  rw [exec_Assign_Name_used _ _ _ _ hsw]
  refine wpAny_bind (wpAny_standAt (wpAny_bind ?_))
  show wpAny _ A (do let _ ← comprehension (.ListComp elt [⟨.Name x px, iter, [], 0⟩] scope pos) scope env _ (newList []) false (eval iter env) (some (assign (.Name y py) env))) _ _ s
  refine wpAny_bind (wpAny_mono (wpAny_comprehension_free (use := some (assign (.Name y py) env)) (Q := fun _ s' => Q .next s') rfl hs hclos hkind hnames
    (wpAny_mono h (fun xv s₁ h₁ => ?_) fun _ _ e => e)) (fun _ s' hq => wpAny_pure (wpAny_pure hq)) fun _ _ e => e)
  obtain ⟨ax, its, news, rfl, hh, F, N, hm, hsz, R⟩ := h₁
  have ht : s₁.heap.IsTuple ax its := ⟨_, (N _ hm).1, rfl, _, rfl⟩
  have hlt : ax < s₁.heap.objs.size := Heap.lt_size (N _ hm).1
  refine wpAny_pyIter_tuple ht ?_
  have up : ∀ b o, s₁.heap.get? b = some o → (s₁.heap.push { cls := .type "tuple_iterator", data := .fields #[.ref ax, .int 0 0] }).get? b = some o := fun b o e => Heap.get?_push_of_some _ e
  refine block_U (Walks.tuple hh s₁.heap.objs.size ax (Nat.ne_of_lt hlt) its) hsz (fun i h st => by obtain ⟨o, e, _⟩ := st.1; exact ⟨o, e⟩) tup_st hcell hkind hx ⟨⟨_, Heap.get?_push_size _ rfl, rfl, rfl⟩, ht.push _⟩ (fun b hb => ?_)
    (F.keeps up) (N.grown up) (Nat.ne_of_lt F.ns.lt) (next_is_new F) (fun p hp => Nat.ne_of_lt (Heap.lt_size (N p hp).1)) hm (R _) ?_
  · show b < (s₁.heap.push _).objs.size
    rw [Heap.size_push]
    rcases List.mem_cons.mp hb with rfl | hb
    · exact Nat.lt_succ_self _
    · rw [List.mem_singleton.mp hb]; exact Nat.lt_succ_of_lt hlt
  · intro D C h' tk m' ys news' F' N' o1 hn hC₀ hD₀ hCL hDL hCD offC fin
    show wpAny _ A (assign (.Name y py) env (.ref D)) _ _ _
    refine wpAny_assign_Name (wpAny_storeName_local hy F'.ns (fun h₂ hn₂ hs₂ => ?_) hp)
    have hL₀ : h₀.get? env.locals = none := Heap.get?_none_of_le F'.above
    have F₂ : Fr h₀ env.locals h₂ (fun z => if z = y then some (.ref D) else m z) := ⟨hn₂, fun b o e => hs₂.extBut b o (fun q => by rw [q, hL₀] at e; cases e) (F'.keep b o e), F'.above⟩
    refine ⟨m', hn.sameBut hs₂ hCL, fun h'' hs'' => fin D h'' _ (F₂.change hs'' hCL hC₀) (fun p hp => ?_) o1⟩
    have z : h₂.get? p.1 = some p.2 := hs₂.extBut _ _ (N' p hp).2.1 (N' p hp).1
    refine ⟨hs''.extBut _ _ ?_ z, (N' p hp).2⟩
    rcases List.mem_cons.mp hp with rfl | hp
    · exact Ne.symm hCD
    · exact offC p hp

/-- «x, = a set of True» -/
theorem assign_set1 {A : Around} {elts : List Expr} {k : Nat} {pos : Pos} {S : Addr} {news : List (Addr × Obj)} {Q : Unit → Shared → Prop} (hh : A.handled = none) (F : Fr h₀ L s.heap m) (N : News h₀ L s.heap news) (hm : (S, setO1 (!byTxt w)) ∈ news)
    (hn : (assignEach elts env).length = 1) (hstar : (assignEach elts env).findIdx? (·.1) = none)
    (h : ∀ h', Fr h₀ L h' m → News h₀ L h' news → wpAny (model prog w) A (assignInOrder ((assignEach elts env).map (·.2)) [.bool true]) Q E { s with heap := h' }) :
    wpAny (model prog w) A (assign (.Tuple elts k pos) env (.ref S)) Q E s := by
  rw [arm_assign_Tuple]
  refine wpAny_bind (wpAny_standAt ?_)
  unfold unpack
  rw [hn, hstar]
  exact wpAny_bind (wpAny_holding (unpack_true hh (N _ hm).1 fun h' hk => h h' (F.keeps hk) (N.grown hk)))
end
end Mine
end

section
open PySem PySem.W PyProof.Rows PySem.Calls PySem.Spec PyProof.Rows.LCg PyProof.Rows.LCt
set_option maxRecDepth 100000
namespace Mine
section
variable {prog : Program} {w : World} {A : Around} {s : Shared} {h₀ : Heap} {L : Addr} {m : Str → Option Value} {env : Env}
theorem rest_ind {elt : Expr} {x : Str} {scope : Scope} {cl : List (Str × Addr)} {S : List (Addr × Obj) → Prop} {P : Nat → Value → Prop} {Fin : List Value → List (Addr × Obj) → Prop} {n : Nat} {news : List (Addr × Obj)}
    (Inv : Nat → List Value → Prop) (h0 : Inv 0 []) (fin : ∀ ys, Inv n ys → Fin ys news)
    (step : ∀ k i ys, i < n → Inv i ys → (∀ ys', Inv (i + 1) ys' → CompRest prog w A h₀ L m env elt x scope cl s S P Fin k (i + 1) ys' news) → CompRest prog w A h₀ L m env elt x scope cl s S P Fin (k + 1) i ys news) :
    CompRest prog w A h₀ L m env elt x scope cl s S P Fin n 0 [] news := by
  have H : ∀ k i ys, i + k = n → Inv i ys → CompRest prog w A h₀ L m env elt x scope cl s S P Fin k i ys news := by
    intro k
    induction k with
    | zero => intro i ys e hi; exact fin ys (by rw [← e]; exact hi)
    | succ k ih => intro i ys e hi; exact step k i ys (by omega) hi fun ys' h' => ih (i + 1) ys' (by omega) h'
  exact H n 0 [] (Nat.zero_add n) h0
theorem restT_ind {ct elt : Expr} {x : Str} {scope : Scope} {cl : List (Str × Addr)} {S : List (Addr × Obj) → Prop} {P : Nat → Value → Prop} {Fin : List Value → List (Addr × Obj) → Prop} {n : Nat} {news : List (Addr × Obj)}
    (Inv : Nat → List Value → Prop) (h0 : Inv 0 []) (fin : ∀ ys, Inv n ys → Fin ys news)
    (step : ∀ k i ys, i < n → Inv i ys → (∀ ys', Inv (i + 1) ys' → CompRestT prog w A h₀ L m env ct elt x scope cl s S P Fin k (i + 1) ys' news) → CompRestT prog w A h₀ L m env ct elt x scope cl s S P Fin (k + 1) i ys news) :
    CompRestT prog w A h₀ L m env ct elt x scope cl s S P Fin n 0 [] news := by
  have H : ∀ k i ys, i + k = n → Inv i ys → CompRestT prog w A h₀ L m env ct elt x scope cl s S P Fin k i ys news := by
    intro k
    induction k with
    | zero => intro i ys e hi; exact fin ys (by rw [← e]; exact hi)
    | succ k ih => intro i ys e hi; exact step k i ys (by omega) hi fun ys' h' => ih (i + 1) ys' (by omega) h'
  exact H n 0 [] (Nat.zero_add n) h0
end
theorem split_K {ps : List Str} {prog : Program} {w : World} {A : Around} {E : Value → Shared → Prop} {s : Shared} {h₀ : Heap} {L : Addr} {m : Str → Option Value} {news : List (Addr × Obj)} {x y : Str} {t u : Tok} {Q : Value → Shared → Prop} (F : Fr h₀ L s.heap m) (N : News h₀ L s.heap news) (hy : (y.length == 0) = false) (hx : x.length ≤ 1000) (hp : Txt.split x y = ps)
    (h : ∀ D vs h' k, StrsAre vs ps → Fr h₀ L h' m → News h₀ L h' ((D, W.listOf vs.toArray 0) :: news) → (∀ p ∈ news, p.1 < D) → Q (.ref D) { s with heap := h', toks := k }) :
    wpAny (model prog w) A (call (.builtin "str.split") [.str x t, .str y u]) Q E s :=
  KSpl.split1 F N hy (fun D l h' k e S F' N' l1 => h D _ h' k (hp ▸ e ▸ S) F' N' l1) (by rw [sizeLine_eq]; omega)
end Mine
namespace Mine
section
variable {prog : Program} {w : World} {A : Around} {s : Shared} {h₀ : Heap} {L : Addr} {m : Str → Option Value} {env : Env}
theorem SetRest.zero {elt : Expr} {x : Str} {scope : Scope} {cl : List (Str × Addr)} {S : List (Addr × Obj) → Prop} {P : Nat → Value → Prop} {Fin : List (Addr × Obj) → Prop} {i : Nat} {news : List (Addr × Obj)} (h : Fin news) :
    SetRest prog w A h₀ L m env elt x scope cl s S P Fin 0 i news := h
theorem SetRest.succ {elt : Expr} {x : Str} {scope : Scope} {cl : List (Str × Addr)} {S : List (Addr × Obj) → Prop} {P : Nat → Value → Prop} {Fin : List (Addr × Obj) → Prop} {k i : Nat} {news : List (Addr × Obj)}
    (h : ∀ v I oI C oC D oD m₂ h tk (E' : Value → Shared → Prop), P i v → NsObj oC m₂ → m₂ x = some v → Fr h₀ L h m → News h₀ L h ((I, oI) :: (C, oC) :: (D, oD) :: news) → Off3 I C D news → ((@Ne Nat I C) ∧ (@Ne Nat I D) ∧ (@Ne Nat C D)) →
      wpAny (model prog w) A (eval elt (compEnvC scope cl C env)) (CompEnd h₀ L m { s with heap := h, toks := tk } I oI C oC D oD S (fun y news' => y = .bool true ∧ SetRest prog w A h₀ L m env elt x scope cl s S P Fin k (i + 1) news')) E' { s with heap := h, toks := tk }) :
    SetRest prog w A h₀ L m env elt x scope cl s S P Fin (k + 1) i news := h
end
end Mine
namespace Mine
theorem sub_perm {a b c d : Addr × Obj} {r : List (Addr × Obj)} : ∀ p ∈ a :: b :: c :: d :: r, p ∈ d :: a :: b :: c :: r := by
  intro p hp
  rcases List.mem_cons.mp hp with rfl | hp
  · exact .tail _ (.head _)
  rcases List.mem_cons.mp hp with rfl | hp
  · exact .tail _ (.tail _ (.head _))
  rcases List.mem_cons.mp hp with rfl | hp
  · exact .tail _ (.tail _ (.tail _ (.head _)))
  rcases List.mem_cons.mp hp with rfl | hp
  · exact .head _
  · exact .tail _ (.tail _ (.tail _ (.tail _ hp)))
theorem off_cons {I C D Dn : Addr} {oI oC oD o : Obj} {news : List (Addr × Obj)} (o1 : Off1 Dn ((I, oI) :: (C, oC) :: (D, oD) :: news)) (off : Off3 I C D news) : Off3 I C D ((Dn, o) :: news) :=
  ⟨⟨Ne.symm o1.1, Ne.symm o1.2.1, Ne.symm o1.2.2.1⟩, off⟩
end Mine
end

section
namespace Mine
theorem rst_Lex : True := by w_top off; trivial
end Mine
open PySem PySem.W PyProof.Rows PySem.Calls PySem.Spec
open AutoSeq1 (wpAny_loadPart')
set_option maxRecDepth 100000
namespace Mine
/-- a text ahead of another -/
def ltT (x y : Str) : Bool := decide (x.cps.toList < y.cps.toList)
/-- a row of texts ahead of another -/
def lexB : List Str → List Str → Bool
  | [], [] => false
  | [], _ :: _ => true
  | _ :: _, [] => false
  | x :: xs, y :: ys => if x = y then lexB xs ys else ltT x y
theorem lexB_nil (ys : List Str) : lexB [] ys = decide (0 < ys.length) := by cases ys <;> simp [lexB]
theorem lexB_nil' (xs : List Str) : lexB xs [] = false := by cases xs <;> simp [lexB]

theorem lt_loop {l b : Addr} {us vs : List Value} {xs ys : List Str} {k k2 : Nat} (hu : StrsAre us xs) (hv : StrsAre vs ys) (n : Nat) : ∀ i : Nat, us.length - i = n → i ≤ us.length → i ≤ vs.length →
    Meets (Builtin.«list.__eq__.loop» ⟨[.ref l, .ref b, rawInt i, rawInt 0], []⟩)
      (fun _ R s => s.heap.get? l = some (W.listOf us.toArray k) ∧ s.heap.get? b = some (W.listOf vs.toArray k2) ∧ R (.ok (.ret (.bool (lexB (xs.drop i) (ys.drop i))))) s) := by
  induction n with
  | zero =>
    intro i hn hi hj prog w A R s h
    obtain ⟨hp, g, d, tk, os⟩ := s
    obtain ⟨hl, hb, h⟩ := h
    wp_walk using wpAny_loadPart' hl, wpAny_loadPart' hb
    have e1 : us.toArray[((i : Nat) : Int).toNat]? = none := by simp; omega
    have e2 : xs.drop i = [] := by have := hu.length; exact List.drop_eq_nil_of_le (by omega)
    rw [e1]
    rw [e2, lexB_nil] at h
    wp_walk using wpAny_loadPart' hl, wpAny_loadPart' hb
    have e3 : decide (us.toArray.size < vs.toArray.size) = decide (0 < (ys.drop i).length) := by
      have h1 := hv.length
      have h2 := hu.length
      simp only [List.size_toArray, List.length_drop]
      apply decide_eq_decide.mpr
      omega
    show R (.ok (.ret (.bool (decide (us.toArray.size < vs.toArray.size))))) _
    rw [e3]
    exact h
  | succ n ih =>
    intro i hn hi hj prog w A R s h
    obtain ⟨hp, g, d, tk, os⟩ := s
    obtain ⟨hl, hb, h⟩ := h
    wp_walk using wpAny_loadPart' hl, wpAny_loadPart' hb
    have hlx := hu.length
    have hly := hv.length
    have hi' : i < xs.length := by omega
    obtain ⟨t, ht⟩ := hu.get i xs[i] (by simp [hi'])
    have e1 : us.toArray[((i : Nat) : Int).toNat]? = some (.str xs[i] t) := by simpa using ht
    have d1 : xs.drop i = xs[i] :: xs.drop (i + 1) := List.drop_eq_getElem_cons hi'
    rw [e1]
    rcases Nat.lt_or_ge i ys.length with hj' | hj'
    · obtain ⟨t2, ht2⟩ := hv.get i ys[i] (by simp [hj'])
      have e2 : vs.toArray[((i : Nat) : Int).toNat]? = some (.str ys[i] t2) := by simpa using ht2
      have d2 : ys.drop i = ys[i] :: ys.drop (i + 1) := List.drop_eq_getElem_cons hj'
      have hc : ((i : Int) + 1) = ((i + 1 : Nat) : Int) := by push_cast; rfl
      rw [e2]
      rw [d1, d2, lexB] at h
      refine wpAny_bind (eqBool_str ?_)
      cases hq : xs[i] == ys[i] with
      | true =>
        rw [if_pos (eq_of_beq hq)] at h
        wp_walk
        rw [hc]
        exact ⟨plainId_quiet MeetsSeq3.plain_eq_loop _, codeAny_builtin MeetsSeq3.entry_eq_loop (by
          rw [Around.under_plainId MeetsSeq3.plain_eq_loop _]
          exact ih (i + 1) (by omega) (by omega) (by omega) prog w A R _ ⟨hl, hb, h⟩)⟩
      | false =>
        rw [if_neg (fun q => by rw [q] at hq; simp at hq)] at h
        wp_walk using wpAny_loadPart' hl, wpAny_loadPart' hb
        rw [e1, e2]
        refine wpAny_bind (P.lt_str ?_)
        exact wpAny_pure h
    · have e2 : vs.toArray[((i : Nat) : Int).toNat]? = none := by simp; omega
      have d2 : ys.drop i = [] := List.drop_eq_nil_of_le hj'
      rw [e2]
      rw [d2, lexB_nil'] at h
      wp_walk using wpAny_loadPart' hl, wpAny_loadPart' hb
      show R (.ok (.ret (.bool (decide (us.toArray.size < vs.toArray.size))))) _
      rw [show decide (us.toArray.size < vs.toArray.size) = false from decide_eq_false (by simp only [List.size_toArray]; omega)]
      exact h
end Mine
end

section
namespace Mine
theorem rst_Lex2 : True := by w_top off; trivial
end Mine
local macro_rules | `(tactic| walk_at "mine pad") => `(tactic| fail "pad")
open PySem PySem.W PyProof.Rows PySem.Calls PySem.Spec
open AutoSeq1 (wpAny_loadPart')
set_option maxRecDepth 100000
namespace Mine
theorem gt_loop {l b : Addr} {us vs : List Value} {xs ys : List Str} {k k2 : Nat} (hu : StrsAre us xs) (hv : StrsAre vs ys) (n : Nat) : ∀ i : Nat, us.length - i = n → i ≤ us.length → i ≤ vs.length →
    Meets (Builtin.«list.__eq__.loop» ⟨[.ref l, .ref b, rawInt i, rawInt 4], []⟩)
      (fun _ R s => s.heap.get? l = some (W.listOf us.toArray k) ∧ s.heap.get? b = some (W.listOf vs.toArray k2) ∧ R (.ok (.ret (.bool (lexB (ys.drop i) (xs.drop i))))) s) := by
  induction n with
  | zero =>
    intro i hn hi hj prog w A R s h
    obtain ⟨hp, g, d, tk, os⟩ := s
    obtain ⟨hl, hb, h⟩ := h
    wp_walk using wpAny_loadPart' hl, wpAny_loadPart' hb
    have e1 : us.toArray[((i : Nat) : Int).toNat]? = none := by simp; omega
    have e2 : xs.drop i = [] := by have := hu.length; exact List.drop_eq_nil_of_le (by omega)
    rw [e1]
    rw [e2, lexB_nil'] at h
    wp_walk using wpAny_loadPart' hl, wpAny_loadPart' hb
    show R (.ok (.ret (.bool (decide (us.toArray.size > vs.toArray.size))))) _
    rw [show decide (us.toArray.size > vs.toArray.size) = false from decide_eq_false (by simp only [List.size_toArray]; omega)]
    exact h
  | succ n ih =>
    intro i hn hi hj prog w A R s h
    obtain ⟨hp, g, d, tk, os⟩ := s
    obtain ⟨hl, hb, h⟩ := h
    wp_walk using wpAny_loadPart' hl, wpAny_loadPart' hb
    have hlx := hu.length
    have hly := hv.length
    have hi' : i < xs.length := by omega
    obtain ⟨t, ht⟩ := hu.get i xs[i] (by simp [hi'])
    have e1 : us.toArray[((i : Nat) : Int).toNat]? = some (.str xs[i] t) := by simpa using ht
    have d1 : xs.drop i = xs[i] :: xs.drop (i + 1) := List.drop_eq_getElem_cons hi'
    rw [e1]
    rcases Nat.lt_or_ge i ys.length with hj' | hj'
    · obtain ⟨t2, ht2⟩ := hv.get i ys[i] (by simp [hj'])
      have e2 : vs.toArray[((i : Nat) : Int).toNat]? = some (.str ys[i] t2) := by simpa using ht2
      have d2 : ys.drop i = ys[i] :: ys.drop (i + 1) := List.drop_eq_getElem_cons hj'
      have hc : ((i : Int) + 1) = ((i + 1 : Nat) : Int) := by push_cast; rfl
      rw [e2]
      rw [d1, d2, lexB] at h
      refine wpAny_bind (eqBool_str ?_)
      cases hq : xs[i] == ys[i] with
      | true =>
        rw [if_pos (eq_of_beq hq).symm] at h
        wp_walk
        rw [hc]
        exact ⟨plainId_quiet MeetsSeq3.plain_eq_loop _, codeAny_builtin MeetsSeq3.entry_eq_loop (by
          rw [Around.under_plainId MeetsSeq3.plain_eq_loop _]
          exact ih (i + 1) (by omega) (by omega) (by omega) prog w A R _ ⟨hl, hb, h⟩)⟩
      | false =>
        rw [if_neg (fun q => by rw [q] at hq; simp at hq)] at h
        wp_walk using wpAny_loadPart' hl, wpAny_loadPart' hb
        rw [e1, e2]
        refine wpAny_bind (P.gt_str ?_)
        exact wpAny_pure h
    · have e2 : vs.toArray[((i : Nat) : Int).toNat]? = none := by simp; omega
      have d2 : ys.drop i = [] := List.drop_eq_nil_of_le hj'
      rw [e2]
      rw [d1, d2, lexB_nil, List.length_cons, show decide (0 < (xs.drop (i + 1)).length + 1) = true from decide_eq_true (Nat.succ_pos _)] at h
      wp_walk using wpAny_loadPart' hl, wpAny_loadPart' hb
      show R (.ok (.ret (.bool (decide (us.toArray.size > vs.toArray.size))))) _
      rw [show decide (us.toArray.size > vs.toArray.size) = true from decide_eq_true (by simp only [List.size_toArray]; omega)]
      exact h

section
variable {prog : Program} {w : World} {A : Around} {E : Value → Shared → Prop} {s : Shared}

theorem lt_lists {l b : Addr} {us vs : List Value} {xs ys : List Str} {k k2 : Nat} {Q : Value → Shared → Prop} (hu : StrsAre us xs) (hv : StrsAre vs ys) (hl : s.heap.get? l = some (W.listOf us.toArray k)) (hb : s.heap.get? b = some (W.listOf vs.toArray k2))
    (hroom : A.units < cLine) (h : Q (.bool (lexB xs ys)) s) : wpAny (model prog w) A (richCompare .Lt (.ref l) (.ref b)) Q E s := by
  have ha : s.TypeIs (.ref l) "list" := ⟨_, hl, rfl⟩
  have hb' : s.TypeIs (.ref b) "list" := ⟨_, hb, rfl⟩
  refine richCompare_meets_room ha hb' F.slot_list_lt F.entry_list_lt (F.args_list_lt_2 _ _) (S := fun _ R s => s.heap.get? l = some (W.listOf us.toArray k) ∧ s.heap.get? b = some (W.listOf vs.toArray k2) ∧ R (.ok (.ret (.bool (lexB xs ys)))) s) ?_ ⟨hl, hb, ⟨(fun e => nomatch e), h⟩⟩ hroom
  intro prog w A R s h
  obtain ⟨hp, g, d, tk, os⟩ := s
  obtain ⟨hl, hb, h⟩ := h
  have f3 := AutoSeq1.sub_list_list
  wp_walk using wpAny_loadPart' hl, wpAny_loadPart' hb
  exact ⟨plainId_quiet MeetsSeq3.plain_eq_loop _, codeAny_builtin MeetsSeq3.entry_eq_loop (by
    rw [Around.under_plainId MeetsSeq3.plain_eq_loop _]
    exact lt_loop hu hv _ 0 rfl (Nat.zero_le _) (Nat.zero_le _) prog w A R _ ⟨hl, hb, h⟩)⟩

theorem gt_lists {l b : Addr} {us vs : List Value} {xs ys : List Str} {k k2 : Nat} {Q : Value → Shared → Prop} (hu : StrsAre us xs) (hv : StrsAre vs ys) (hl : s.heap.get? l = some (W.listOf us.toArray k)) (hb : s.heap.get? b = some (W.listOf vs.toArray k2))
    (hroom : A.units < cLine) (h : Q (.bool (lexB ys xs)) s) : wpAny (model prog w) A (richCompare .Gt (.ref l) (.ref b)) Q E s := by
  have ha : s.TypeIs (.ref l) "list" := ⟨_, hl, rfl⟩
  have hb' : s.TypeIs (.ref b) "list" := ⟨_, hb, rfl⟩
  refine richCompare_meets_room ha hb' F.slot_list_gt F.entry_list_gt (F.args_list_gt_2 _ _) (S := fun _ R s => s.heap.get? l = some (W.listOf us.toArray k) ∧ s.heap.get? b = some (W.listOf vs.toArray k2) ∧ R (.ok (.ret (.bool (lexB ys xs)))) s) ?_ ⟨hl, hb, ⟨(fun e => nomatch e), h⟩⟩ hroom
  intro prog w A R s h
  obtain ⟨hp, g, d, tk, os⟩ := s
  obtain ⟨hl, hb, h⟩ := h
  have f3 := AutoSeq1.sub_list_list
  wp_walk using wpAny_loadPart' hl, wpAny_loadPart' hb
  exact ⟨plainId_quiet MeetsSeq3.plain_eq_loop _, codeAny_builtin MeetsSeq3.entry_eq_loop (by
    rw [Around.under_plainId MeetsSeq3.plain_eq_loop _]
    exact gt_loop hu hv _ 0 rfl (Nat.zero_le _) (Nat.zero_le _) prog w A R _ ⟨hl, hb, h⟩)⟩
end

section
variable {prog : Program} {w : World} {A : Around} {R : Result → Shared → Prop} {I : Addr} {fp wr : List Addr} {n : Nat} {P : Nat → Value → Prop} {St : Nat → Heap → Prop} {J : Heap → Prop}
/-- the best of things that are compared upon a heap that keeps J -/
theorem min_turns (Wk : Walks prog w A.in1 I fp wr n P St) (bt : Nat → Nat → Bool) (S : Addr) (hSf : S ∉ fp) (hJ : ∀ h h', J h → (∀ b o, b ∉ wr → b ≠ S → h.get? b = some o → h'.get? b = some o) → J h')
    (hcmp : ∀ i j vi vj (s : Shared) (Q : Value → Shared → Prop) (E : Value → Shared → Prop), P i vi → P j vj → J s.heap → Q (.bool (bt i j)) s → wpAny (model prog w) A.in1 (richCompare .Lt vi vj) Q E s) (k : Nat) :
    ∀ (j : Nat) (s : Shared) (vb : Value) (c : Nat), n - (j + 1) = k → j + 1 ≤ n → St (j + 1) s.heap → J s.heap → P (argBest bt j) vb → s.heap.get? S = some (W.listOf #[vb, vb] c) →
    (∀ v h' tk, P (argBest bt (n - 1)) v → (∀ b o, b ∉ wr → b ≠ S → s.heap.get? b = some o → h'.get? b = some o) → R (.ok (.ret v)) { s with heap := h', toks := tk }) →
    codeAny (model prog w) A (.builtin "min.loop" ⟨[.ref I, .none, .ref S], []⟩) R s := by
  have hSw : S ∉ wr := fun h => hSf (Wk.sub _ h)
  have hname : (toString "min" ++ toString ".loop" : String) = "min.loop" := by decide
  induction k with
  | zero =>
    intro j s vb c hk hj hst hJs hPb hS hR
    have hin : j + 1 = n := by omega
    refine codeAny_builtin F.entry_min_loop ?_
    rw [Around.under_plainId F.plain_min_loop _]
    show wpAny _ A.in1 (seqItems? (.ref S) >>= _) _ _ s
    refine wpAny_bind (wpAny_seqItems hS rfl ?_)
    show wpAny _ A.in1 (tryCatch (pyNext (.ref I)) _ >>= _) _ _ s
    refine wpAny_bind (wpAny_tryCatch (Wk.done s _ _ (hin ▸ hst) fun h' tk hk' => ?_))
    have hS' := hk' S _ hSw hS
    show wpAny _ A.in1 (updateSeq S (fun _ => #[]) >>= _) _ _ _
    refine wpAny_bind (wpAny_updateSeq hS' rfl (wpAny_bind (wpAny_letGo (wpAny_pure ?_))))
    exact hR vb _ tk (by rw [← hin]; exact hPb) fun b o hbw hbS e => (Heap.get?_update_other _ _ (Ne.symm hbS)).trans (hk' b o hbw e)
  | succ k ih =>
    intro j s vb c hk hj hst hJs hPb hS hR
    have hlt : j + 1 < n := by omega
    refine codeAny_builtin F.entry_min_loop ?_
    rw [Around.under_plainId F.plain_min_loop _]
    show wpAny _ A.in1 (seqItems? (.ref S) >>= _) _ _ s
    refine wpAny_bind (wpAny_seqItems hS rfl ?_)
    show wpAny _ A.in1 (tryCatch (pyNext (.ref I)) _ >>= _) _ _ s
    refine wpAny_bind (wpAny_tryCatch (Wk.item (j + 1) s _ _ hlt hst fun v h' tk hP hst' hk' => ?_))
    have hS' := hk' S _ hSw hS
    have hJ' : J h' := hJ _ _ hJs fun b o hbw _ e => hk' b o hbw e
    show wpAny _ A.in1 (tryCatch (holding [v, v] (richCompare .Lt v vb >>= _)) _ >>= _) _ _ _
    refine wpAny_bind (wpAny_tryCatch (wpAny_holding (wpAny_bind (hcmp (j + 1) (argBest bt j) v vb _ _ _ hP hPb hJ' ?_))))
    refine wpAny_bind (wpAny_holding (wpAny_truthy_bool (wpAny_bind (wpAny_letGo (wpAny_pure ?_)))))
    cases hb : bt (j + 1) (argBest bt j) with
    | true =>
      simp only [if_true]
      refine wpAny_bind (wpAny_updateSeq hS' rfl (wpAny_bind (wpAny_letGo ?_)))
      rw [hname]
      have z : ∀ b o, b ≠ S → h'.get? b = some o → (h'.update S (Obj.mapSeq fun _ => #[v, v])).get? b = some o := fun b o hbS e => (Heap.get?_update_other _ _ (Ne.symm hbS)).trans e
      refine wpAny_pure ⟨plainId_quiet F.plain_min_loop _, ih (j + 1) _ v _ (by omega) hlt (Wk.frame _ _ _ hst' fun b hbf o e => z b o (fun q => hSf (q ▸ hbf)) e) (hJ _ _ hJ' fun b o _ hbS e => z b o hbS e) (by simp only [argBest, hb, if_true]; exact hP) (Heap.get?_update_self _ hS' rfl)
        fun v' h'' tk'' hP' hk'' => hR v' h'' tk'' hP' fun b o hbw hbS e => hk'' b o hbw hbS (z b o hbS (hk' b o hbw e))⟩
    | false =>
      simp only [Bool.false_eq_true, if_false]
      refine wpAny_bind (wpAny_letGo ?_)
      rw [hname]
      exact wpAny_pure ⟨plainId_quiet F.plain_min_loop _, ih (j + 1) _ vb c (by omega) hlt hst' hJ' (by simp only [argBest, hb, Bool.false_eq_true, if_false]; exact hPb) hS' fun v' h'' tk'' hP' hk'' =>
        hR v' h'' tk'' hP' fun b o hbw hbS e => hk'' b o hbw hbS (hk' b o hbw e)⟩
end

section
variable {prog : Program} {w : World} {A : Around} {E : Value → Shared → Prop} {s : Shared}
/-- «min» of a list of rows of texts -/
theorem min_rows {l : Addr} {vs : List Value} {xss : List (List Str)} {Q : Value → Shared → Prop} (hh : A.handled = none) (hu : A.units + 1 < cLine) (hl : s.heap.IsList l vs.toArray) (hlen : vs.length = xss.length) (hn : 0 < vs.length)
    (hrow : ∀ (i : Nat) (x : List Str), xss[i]? = some x → ∃ (a : Addr) (us : List Value) (k : Nat), vs[i]? = some (Value.ref a) ∧ s.heap.get? a = some (W.listOf us.toArray k) ∧ StrsAre us x)
    (h : ∀ (i : Nat) (v : Value) (h' : Heap) (tk : Nat), i < vs.length → i = argBest (fun i j => lexB (xss[i]?.getD []) (xss[j]?.getD [])) (vs.length - 1) → vs[i]? = some v → s.heap.StaysIn h' → Q v { s with heap := h', toks := tk }) :
    wpAny (model prog w) A (call (.builtin "min") [.ref l]) Q E s := by
  have hname : (toString "min" ++ toString ".loop" : String) = "min.loop" := by decide
  have hlt : l < s.heap.objs.size := by obtain ⟨o, e, _⟩ := hl; exact Heap.lt_size e
  let I := s.heap.objs.size
  let it : Obj := { cls := .type "list_iterator", data := .fields #[.ref l, .int 0 0] }
  let eL : Obj := { cls := .type "list", data := .seq ([] : List Value).toArray }
  have Wk := Walks.list (prog := prog) (w := w) (A := A.in1) hh I l (Nat.ne_of_lt hlt) vs.toArray
  have hsz : vs.toArray.size = vs.length := by simp
  rw [hsz] at Wk
  refine call_function_tree F.kind_min F.plain_min F.entry_min (F.args_min1 _) ?_
  show wpAny _ A.in1 (Builtin.Builtins.bindParams "min" ["key", "default"] 0 ⟨[], []⟩ >>= _) _ _ s
  refine wpAny_bind (wpAny_of_eq (show Builtin.Builtins.bindParams "min" ["key", "default"] 0 ⟨[], []⟩ = pure [none, none] from rfl) ?_)
  refine wpAny_bind (wpAny_pure ?_)
  refine wpAny_bind (wpAny_pyIter_list hl ?_)
  refine wpAny_bind (wpAny_newObj_type ?_)
  let S := (s.heap.push it).objs.size
  have hS : S = I + 1 := Heap.size_push ..
  have hSf : S ∉ [I, l] := fun hm => by
    rcases List.mem_cons.mp hm with e | hm
    · exact absurd (hS.symm.trans e) (Nat.succ_ne_self _)
    · have e := List.mem_singleton.mp hm
      exact absurd (hS.symm.trans e) (Nat.ne_of_gt (Nat.lt_succ_of_lt hlt))
  let J : Heap → Prop := fun g => ∀ b o, s.heap.get? b = some o → g.get? b = some o
  have notWr : ∀ b o, s.heap.get? b = some o → b ∉ [I] ∧ b ≠ S := fun b o e => by
    have hb : b < I := Heap.lt_size e
    exact ⟨fun hm => absurd (List.mem_singleton.mp hm) (Nat.ne_of_lt hb), by rw [hS]; exact Nat.ne_of_lt (Nat.lt_succ_of_lt hb)⟩
  have hJ : ∀ h h', J h → (∀ b o, b ∉ [I] → b ≠ S → h.get? b = some o → h'.get? b = some o) → J h' := fun h h' j k b o e => k b o (notWr b o e).1 (notWr b o e).2 (j b o e)
  have J0 : J ((s.heap.push it).push eL) := fun b o e => Heap.get?_push_of_some _ (Heap.get?_push_of_some _ e)
  have st0 : ((s.heap.push it).push eL).IsListIter I l 0 ∧ ((s.heap.push it).push eL).IsList l vs.toArray := ⟨⟨_, Heap.get?_push_of_some _ (Heap.get?_push_size _ rfl), rfl, rfl⟩, (hl.push _).push _⟩
  have hSm : ((s.heap.push it).push eL).get? S = some (W.listOf #[] 0) := Heap.get?_push_size _ rfl
  rw [hname]
  refine wpAny_pure ⟨plainId_quiet F.plain_min_loop _, codeAny_builtin F.entry_min_loop ?_⟩
  rw [Around.under_plainId F.plain_min_loop _]
  show wpAny _ A.in1 (seqItems? (.ref S) >>= _) _ _ _
  refine wpAny_bind (wpAny_seqItems hSm rfl ?_)
  show wpAny _ A.in1 (tryCatch (pyNext (.ref I)) _ >>= _) _ _ _
  refine wpAny_bind (wpAny_tryCatch (Wk.item 0 _ _ _ hn st0 fun v h1 tk1 hP hst1 hk1 => ?_))
  have hSw : S ∉ [I] := fun hm => hSf (List.mem_cons.mpr (.inl (List.mem_singleton.mp hm)))
  have hS1 := hk1 S _ hSw hSm
  show wpAny _ A.in1 (updateSeq S (fun _ => #[v, v]) >>= _) _ _ _
  refine wpAny_bind (wpAny_updateSeq hS1 rfl ?_)
  have z : ∀ b o, b ≠ S → h1.get? b = some o → (h1.update S (Obj.mapSeq fun _ => #[v, v])).get? b = some o := fun b o hbS e => (Heap.get?_update_other _ _ (Ne.symm hbS)).trans e
  have J1 : J h1 := hJ _ _ J0 fun b o hb _ e => hk1 b o hb e
  rw [hname]
  refine wpAny_pure ⟨plainId_quiet F.plain_min_loop _, min_turns (J := J) Wk (fun i j => lexB (xss[i]?.getD []) (xss[j]?.getD [])) S hSf hJ (fun i j vi vj s₂ Q₂ E₂ hi hj hJ₂ hq => ?_) _ 0 _ v _ rfl hn (Wk.frame _ _ _ hst1 fun b hbf o e => z b o (fun q => hSf (q ▸ hbf)) e) (hJ _ _ J1 fun b o _ hbS e => z b o hbS e) hP (Heap.get?_update_self _ hS1 rfl) fun v' h' tk' hP' hk' => ?_⟩
  · have hi' : vs[i]? = some vi := by simpa using hi
    have hj' : vs[j]? = some vj := by simpa using hj
    have hil : i < xss.length := hlen ▸ (List.getElem?_eq_some_iff.mp hi').1
    have hjl : j < xss.length := hlen ▸ (List.getElem?_eq_some_iff.mp hj').1
    obtain ⟨a1, us1, k1, e1, g1, r1⟩ := hrow i xss[i] (List.getElem?_eq_getElem hil)
    obtain ⟨a2, us2, k2, e2, g2, r2⟩ := hrow j xss[j] (List.getElem?_eq_getElem hjl)
    rw [hi'] at e1
    rw [hj'] at e2
    cases e1
    cases e2
    rw [List.getElem?_eq_getElem hil, List.getElem?_eq_getElem hjl] at hq
    exact lt_lists r1 r2 (hJ₂ _ _ g1) (hJ₂ _ _ g2) hu hq
  · have hv : vs[argBest (fun i j => lexB (xss[i]?.getD []) (xss[j]?.getD [])) (vs.length - 1)]? = some v' := by simpa using hP'
    exact h _ v' h' tk' (List.getElem?_eq_some_iff.mp hv).1 rfl hv fun b o e => hk' b o (notWr b o e).1 (notWr b o e).2 (z b o (notWr b o e).2 (J1 b o e))
end

section
variable {prog : Program} {w : World} {A : Around} {R : Result → Shared → Prop} {I : Addr} {fp wr : List Addr} {n : Nat} {P : Nat → Value → Prop} {St : Nat → Heap → Prop} {J : Heap → Prop}
/-- the best of things that are compared upon a heap that keeps J -/
theorem max_turns (Wk : Walks prog w A.in1 I fp wr n P St) (bt : Nat → Nat → Bool) (S : Addr) (hSf : S ∉ fp) (hJ : ∀ h h', J h → (∀ b o, b ∉ wr → b ≠ S → h.get? b = some o → h'.get? b = some o) → J h')
    (hcmp : ∀ i j vi vj (s : Shared) (Q : Value → Shared → Prop) (E : Value → Shared → Prop), P i vi → P j vj → J s.heap → Q (.bool (bt i j)) s → wpAny (model prog w) A.in1 (richCompare .Gt vi vj) Q E s) (k : Nat) :
    ∀ (j : Nat) (s : Shared) (vb : Value) (c : Nat), n - (j + 1) = k → j + 1 ≤ n → St (j + 1) s.heap → J s.heap → P (argBest bt j) vb → s.heap.get? S = some (W.listOf #[vb, vb] c) →
    (∀ v h' tk, P (argBest bt (n - 1)) v → (∀ b o, b ∉ wr → b ≠ S → s.heap.get? b = some o → h'.get? b = some o) → R (.ok (.ret v)) { s with heap := h', toks := tk }) →
    codeAny (model prog w) A (.builtin "max.loop" ⟨[.ref I, .none, .ref S], []⟩) R s := by
  have hSw : S ∉ wr := fun h => hSf (Wk.sub _ h)
  have hname : (toString "max" ++ toString ".loop" : String) = "max.loop" := by decide
  induction k with
  | zero =>
    intro j s vb c hk hj hst hJs hPb hS hR
    have hin : j + 1 = n := by omega
    refine codeAny_builtin F.entry_max_loop ?_
    rw [Around.under_plainId F.plain_max_loop _]
    show wpAny _ A.in1 (seqItems? (.ref S) >>= _) _ _ s
    refine wpAny_bind (wpAny_seqItems hS rfl ?_)
    show wpAny _ A.in1 (tryCatch (pyNext (.ref I)) _ >>= _) _ _ s
    refine wpAny_bind (wpAny_tryCatch (Wk.done s _ _ (hin ▸ hst) fun h' tk hk' => ?_))
    have hS' := hk' S _ hSw hS
    show wpAny _ A.in1 (updateSeq S (fun _ => #[]) >>= _) _ _ _
    refine wpAny_bind (wpAny_updateSeq hS' rfl (wpAny_bind (wpAny_letGo (wpAny_pure ?_))))
    exact hR vb _ tk (by rw [← hin]; exact hPb) fun b o hbw hbS e => (Heap.get?_update_other _ _ (Ne.symm hbS)).trans (hk' b o hbw e)
  | succ k ih =>
    intro j s vb c hk hj hst hJs hPb hS hR
    have hlt : j + 1 < n := by omega
    refine codeAny_builtin F.entry_max_loop ?_
    rw [Around.under_plainId F.plain_max_loop _]
    show wpAny _ A.in1 (seqItems? (.ref S) >>= _) _ _ s
    refine wpAny_bind (wpAny_seqItems hS rfl ?_)
    show wpAny _ A.in1 (tryCatch (pyNext (.ref I)) _ >>= _) _ _ s
    refine wpAny_bind (wpAny_tryCatch (Wk.item (j + 1) s _ _ hlt hst fun v h' tk hP hst' hk' => ?_))
    have hS' := hk' S _ hSw hS
    have hJ' : J h' := hJ _ _ hJs fun b o hbw _ e => hk' b o hbw e
    show wpAny _ A.in1 (tryCatch (holding [v, v] (richCompare .Gt v vb >>= _)) _ >>= _) _ _ _
    refine wpAny_bind (wpAny_tryCatch (wpAny_holding (wpAny_bind (hcmp (j + 1) (argBest bt j) v vb _ _ _ hP hPb hJ' ?_))))
    refine wpAny_bind (wpAny_holding (wpAny_truthy_bool (wpAny_bind (wpAny_letGo (wpAny_pure ?_)))))
    cases hb : bt (j + 1) (argBest bt j) with
    | true =>
      simp only [if_true]
      refine wpAny_bind (wpAny_updateSeq hS' rfl (wpAny_bind (wpAny_letGo ?_)))
      rw [hname]
      have z : ∀ b o, b ≠ S → h'.get? b = some o → (h'.update S (Obj.mapSeq fun _ => #[v, v])).get? b = some o := fun b o hbS e => (Heap.get?_update_other _ _ (Ne.symm hbS)).trans e
      refine wpAny_pure ⟨plainId_quiet F.plain_max_loop _, ih (j + 1) _ v _ (by omega) hlt (Wk.frame _ _ _ hst' fun b hbf o e => z b o (fun q => hSf (q ▸ hbf)) e) (hJ _ _ hJ' fun b o _ hbS e => z b o hbS e) (by simp only [argBest, hb, if_true]; exact hP) (Heap.get?_update_self _ hS' rfl)
        fun v' h'' tk'' hP' hk'' => hR v' h'' tk'' hP' fun b o hbw hbS e => hk'' b o hbw hbS (z b o hbS (hk' b o hbw e))⟩
    | false =>
      simp only [Bool.false_eq_true, if_false]
      refine wpAny_bind (wpAny_letGo ?_)
      rw [hname]
      exact wpAny_pure ⟨plainId_quiet F.plain_max_loop _, ih (j + 1) _ vb c (by omega) hlt hst' hJ' (by simp only [argBest, hb, Bool.false_eq_true, if_false]; exact hPb) hS' fun v' h'' tk'' hP' hk'' =>
        hR v' h'' tk'' hP' fun b o hbw hbS e => hk'' b o hbw hbS (hk' b o hbw e)⟩
end

section
variable {prog : Program} {w : World} {A : Around} {E : Value → Shared → Prop} {s : Shared}
/-- «max» of a list of rows of texts -/
theorem max_rows {l : Addr} {vs : List Value} {xss : List (List Str)} {Q : Value → Shared → Prop} (hh : A.handled = none) (hu : A.units + 1 < cLine) (hl : s.heap.IsList l vs.toArray) (hlen : vs.length = xss.length) (hn : 0 < vs.length)
    (hrow : ∀ (i : Nat) (x : List Str), xss[i]? = some x → ∃ (a : Addr) (us : List Value) (k : Nat), vs[i]? = some (Value.ref a) ∧ s.heap.get? a = some (W.listOf us.toArray k) ∧ StrsAre us x)
    (h : ∀ (i : Nat) (v : Value) (h' : Heap) (tk : Nat), i < vs.length → i = argBest (fun i j => lexB (xss[j]?.getD []) (xss[i]?.getD [])) (vs.length - 1) → vs[i]? = some v → s.heap.StaysIn h' → Q v { s with heap := h', toks := tk }) :
    wpAny (model prog w) A (call (.builtin "max") [.ref l]) Q E s := by
  have hname : (toString "max" ++ toString ".loop" : String) = "max.loop" := by decide
  have hlt : l < s.heap.objs.size := by obtain ⟨o, e, _⟩ := hl; exact Heap.lt_size e
  let I := s.heap.objs.size
  let it : Obj := { cls := .type "list_iterator", data := .fields #[.ref l, .int 0 0] }
  let eL : Obj := { cls := .type "list", data := .seq ([] : List Value).toArray }
  have Wk := Walks.list (prog := prog) (w := w) (A := A.in1) hh I l (Nat.ne_of_lt hlt) vs.toArray
  have hsz : vs.toArray.size = vs.length := by simp
  rw [hsz] at Wk
  refine call_function_tree F.kind_max F.plain_max F.entry_max (F.args_max1 _) ?_
  show wpAny _ A.in1 (Builtin.Builtins.bindParams "max" ["key", "default"] 0 ⟨[], []⟩ >>= _) _ _ s
  refine wpAny_bind (wpAny_of_eq (show Builtin.Builtins.bindParams "max" ["key", "default"] 0 ⟨[], []⟩ = pure [none, none] from rfl) ?_)
  refine wpAny_bind (wpAny_pure ?_)
  refine wpAny_bind (wpAny_pyIter_list hl ?_)
  refine wpAny_bind (wpAny_newObj_type ?_)
  let S := (s.heap.push it).objs.size
  have hS : S = I + 1 := Heap.size_push ..
  have hSf : S ∉ [I, l] := fun hm => by
    rcases List.mem_cons.mp hm with e | hm
    · exact absurd (hS.symm.trans e) (Nat.succ_ne_self _)
    · have e := List.mem_singleton.mp hm
      exact absurd (hS.symm.trans e) (Nat.ne_of_gt (Nat.lt_succ_of_lt hlt))
  let J : Heap → Prop := fun g => ∀ b o, s.heap.get? b = some o → g.get? b = some o
  have notWr : ∀ b o, s.heap.get? b = some o → b ∉ [I] ∧ b ≠ S := fun b o e => by
    have hb : b < I := Heap.lt_size e
    exact ⟨fun hm => absurd (List.mem_singleton.mp hm) (Nat.ne_of_lt hb), by rw [hS]; exact Nat.ne_of_lt (Nat.lt_succ_of_lt hb)⟩
  have hJ : ∀ h h', J h → (∀ b o, b ∉ [I] → b ≠ S → h.get? b = some o → h'.get? b = some o) → J h' := fun h h' j k b o e => k b o (notWr b o e).1 (notWr b o e).2 (j b o e)
  have J0 : J ((s.heap.push it).push eL) := fun b o e => Heap.get?_push_of_some _ (Heap.get?_push_of_some _ e)
  have st0 : ((s.heap.push it).push eL).IsListIter I l 0 ∧ ((s.heap.push it).push eL).IsList l vs.toArray := ⟨⟨_, Heap.get?_push_of_some _ (Heap.get?_push_size _ rfl), rfl, rfl⟩, (hl.push _).push _⟩
  have hSm : ((s.heap.push it).push eL).get? S = some (W.listOf #[] 0) := Heap.get?_push_size _ rfl
  rw [hname]
  refine wpAny_pure ⟨plainId_quiet F.plain_max_loop _, codeAny_builtin F.entry_max_loop ?_⟩
  rw [Around.under_plainId F.plain_max_loop _]
  show wpAny _ A.in1 (seqItems? (.ref S) >>= _) _ _ _
  refine wpAny_bind (wpAny_seqItems hSm rfl ?_)
  show wpAny _ A.in1 (tryCatch (pyNext (.ref I)) _ >>= _) _ _ _
  refine wpAny_bind (wpAny_tryCatch (Wk.item 0 _ _ _ hn st0 fun v h1 tk1 hP hst1 hk1 => ?_))
  have hSw : S ∉ [I] := fun hm => hSf (List.mem_cons.mpr (.inl (List.mem_singleton.mp hm)))
  have hS1 := hk1 S _ hSw hSm
  show wpAny _ A.in1 (updateSeq S (fun _ => #[v, v]) >>= _) _ _ _
  refine wpAny_bind (wpAny_updateSeq hS1 rfl ?_)
  have z : ∀ b o, b ≠ S → h1.get? b = some o → (h1.update S (Obj.mapSeq fun _ => #[v, v])).get? b = some o := fun b o hbS e => (Heap.get?_update_other _ _ (Ne.symm hbS)).trans e
  have J1 : J h1 := hJ _ _ J0 fun b o hb _ e => hk1 b o hb e
  rw [hname]
  refine wpAny_pure ⟨plainId_quiet F.plain_max_loop _, max_turns (J := J) Wk (fun i j => lexB (xss[j]?.getD []) (xss[i]?.getD [])) S hSf hJ (fun i j vi vj s₂ Q₂ E₂ hi hj hJ₂ hq => ?_) _ 0 _ v _ rfl hn (Wk.frame _ _ _ hst1 fun b hbf o e => z b o (fun q => hSf (q ▸ hbf)) e) (hJ _ _ J1 fun b o _ hbS e => z b o hbS e) hP (Heap.get?_update_self _ hS1 rfl) fun v' h' tk' hP' hk' => ?_⟩
  · have hi' : vs[i]? = some vi := by simpa using hi
    have hj' : vs[j]? = some vj := by simpa using hj
    have hil : i < xss.length := hlen ▸ (List.getElem?_eq_some_iff.mp hi').1
    have hjl : j < xss.length := hlen ▸ (List.getElem?_eq_some_iff.mp hj').1
    obtain ⟨a1, us1, k1, e1, g1, r1⟩ := hrow i xss[i] (List.getElem?_eq_getElem hil)
    obtain ⟨a2, us2, k2, e2, g2, r2⟩ := hrow j xss[j] (List.getElem?_eq_getElem hjl)
    rw [hi'] at e1
    rw [hj'] at e2
    cases e1
    cases e2
    rw [List.getElem?_eq_getElem hil, List.getElem?_eq_getElem hjl] at hq
    exact gt_lists r1 r2 (hJ₂ _ _ g1) (hJ₂ _ _ g2) hu hq
  · have hv : vs[argBest (fun i j => lexB (xss[j]?.getD []) (xss[i]?.getD [])) (vs.length - 1)]? = some v' := by simpa using hP'
    exact h _ v' h' tk' (List.getElem?_eq_some_iff.mp hv).1 rfl hv fun b o e => hk' b o (notWr b o e).1 (notWr b o e).2 (z b o (notWr b o e).2 (J1 b o e))
end
end Mine
end

section
open PySem PySem.W PyProof.Rows PySem.Calls PySem.Spec
set_option maxRecDepth 100000
namespace Mine
/-- rows of texts that lie in a ledger -/
def RowsIn (news : List (Addr × Obj)) (vs : List Value) (xss : List (List Str)) : Prop :=
  vs.length = xss.length ∧ ∀ (i : Nat) (x : List Str), xss[i]? = some x → ∃ (a : Addr) (us : List Value) (k : Nat), vs[i]? = some (Value.ref a) ∧ (a, W.listOf us.toArray k) ∈ news ∧ StrsAre us x
theorem RowsIn.nil {news : List (Addr × Obj)} : RowsIn news [] [] := ⟨rfl, fun i x h => by simp at h⟩
theorem RowsIn.cons {news : List (Addr × Obj)} {vs : List Value} {xss : List (List Str)} {a : Addr} {us : List Value} {k : Nat} {x : List Str} (hm : (a, W.listOf us.toArray k) ∈ news) (hs : StrsAre us x) (r : RowsIn news vs xss) : RowsIn news (.ref a :: vs) (x :: xss) :=
  ⟨by rw [List.length_cons, List.length_cons, r.1], fun i y h => by
    cases i with
    | zero => exact ⟨a, us, k, rfl, hm, by have e : x = y := by simpa using h
                                           exact e ▸ hs⟩
    | succ i => exact r.2 i y (by simpa using h)⟩
section
variable {prog : Program} {w : World} {A : Around} {E : Value → Shared → Prop} {s : Shared} {h₀ : Heap} {L l : Addr} {m : Str → Option Value} {news : List (Addr × Obj)} {vs : List Value} {xss : List (List Str)} {c : Nat} {Q : Value → Shared → Prop}

theorem min_K (hh : A.handled = none) (hu : A.units + 1 < cLine) (F : Fr h₀ L s.heap m) (N : News h₀ L s.heap news) (hm : (l, W.listOf vs.toArray c) ∈ news) (hr : RowsIn news vs xss) (hn : 0 < vs.length)
    (h : ∀ (i : Nat) (a : Addr) (us : List Value) (k : Nat) (x : List Str) (h' : Heap) (tk : Nat), i = argBest (fun i j => lexB (xss[i]?.getD []) (xss[j]?.getD [])) (vs.length - 1) → xss[i]? = some x → (a, W.listOf us.toArray k) ∈ news → StrsAre us x → Fr h₀ L h' m → News h₀ L h' news → Q (.ref a) { s with heap := h', toks := tk }) :
    wpAny (model prog w) A (call (.builtin "min") [.ref l]) Q E s := by
  refine min_rows hh hu ⟨_, (N _ hm).1, rfl, c, rfl⟩ hr.1 hn (fun i x hx => ?_) fun i v h' tk hi hb hv S' => ?_
  · obtain ⟨a, us, k, e, ha, hs⟩ := hr.2 i x hx
    exact ⟨a, us, k, e, (N _ ha).1, hs⟩
  · have hi' : i < xss.length := hr.1 ▸ hi
    obtain ⟨a, us, k, e, ha, hs⟩ := hr.2 i xss[i] (List.getElem?_eq_getElem hi')
    rw [hv] at e
    cases e
    exact h i a us k _ h' tk hb (List.getElem?_eq_getElem hi') ha hs (F.keeps S') (N.grown S')

theorem max_K (hh : A.handled = none) (hu : A.units + 1 < cLine) (F : Fr h₀ L s.heap m) (N : News h₀ L s.heap news) (hm : (l, W.listOf vs.toArray c) ∈ news) (hr : RowsIn news vs xss) (hn : 0 < vs.length)
    (h : ∀ (i : Nat) (a : Addr) (us : List Value) (k : Nat) (x : List Str) (h' : Heap) (tk : Nat), i = argBest (fun i j => lexB (xss[j]?.getD []) (xss[i]?.getD [])) (vs.length - 1) → xss[i]? = some x → (a, W.listOf us.toArray k) ∈ news → StrsAre us x → Fr h₀ L h' m → News h₀ L h' news → Q (.ref a) { s with heap := h', toks := tk }) :
    wpAny (model prog w) A (call (.builtin "max") [.ref l]) Q E s := by
  refine max_rows hh hu ⟨_, (N _ hm).1, rfl, c, rfl⟩ hr.1 hn (fun i x hx => ?_) fun i v h' tk hi hb hv S' => ?_
  · obtain ⟨a, us, k, e, ha, hs⟩ := hr.2 i x hx
    exact ⟨a, us, k, e, (N _ ha).1, hs⟩
  · have hi' : i < xss.length := hr.1 ▸ hi
    obtain ⟨a, us, k, e, ha, hs⟩ := hr.2 i xss[i] (List.getElem?_eq_getElem hi')
    rw [hv] at e
    cases e
    exact h i a us k _ h' tk hb (List.getElem?_eq_getElem hi') ha hs (F.keeps S') (N.grown S')
end
end Mine
end

section
open PySem
namespace Mine
/-- the body of the k-th statement of the text, a def -/
def bodyAt (k : Nat) : List Stmt := match PySem.Challenge.pw_rt0029_01.main.body.drop k with | .FunctionDef _ _ b _ _ _ _ _ _ _ :: _ => b | _ => []
def scopeAt (k : Nat) (d : Scope) : Scope := match PySem.Challenge.pw_rt0029_01.main.body.drop k with | .FunctionDef _ _ _ _ _ _ sc _ _ _ :: _ => sc | _ => d
def tryBody (l : List Stmt) : List Stmt := match l with | .Try b _ _ _ _ :: _ => b | _ => []
def forBody (l : List Stmt) : List Stmt := match l with | .For _ _ b _ _ :: _ => b | _ => []
end Mine
end

section
open PySem PySem.W PyProof.Rows PySem.Calls PySem.Spec PyProof.Rows.LCg PyProof.Rows.LCt
set_option maxRecDepth 100000
namespace Mine
def nthS (l : List Stmt) (k : Nat) : Stmt := match l.drop k with | s :: _ => s | [] => .Pass default
theorem RowsIn.mono {nw nw' : List (Addr × Obj)} {vs : List Value} {xss : List (List Str)} (h : ∀ p ∈ nw, p ∈ nw') (r : RowsIn nw vs xss) : RowsIn nw' vs xss :=
  ⟨r.1, fun i x hx => by obtain ⟨a, us, k, e, hm, hs⟩ := r.2 i x hx; exact ⟨a, us, k, e, h _ hm, hs⟩⟩
theorem RowsIn.snoc {nw : List (Addr × Obj)} {vs : List Value} {xss : List (List Str)} {a : Addr} {us : List Value} {k : Nat} {x : List Str} (r : RowsIn nw vs xss) (hm : (a, W.listOf us.toArray k) ∈ nw) (hs : StrsAre us x) : RowsIn nw (vs ++ [.ref a]) (xss ++ [x]) :=
  ⟨by rw [List.length_append, List.length_append, r.1]; rfl, fun i y hy => by
    rcases Nat.lt_or_ge i xss.length with h | h
    · rw [List.getElem?_append_left h] at hy
      obtain ⟨b, us', k', e, hm', hs'⟩ := r.2 i y hy
      exact ⟨b, us', k', by rw [List.getElem?_append_left (by rw [r.1]; exact h)]; exact e, hm', hs'⟩
    · rw [List.getElem?_append_right h] at hy
      obtain ⟨j, hj⟩ : ∃ j, i - xss.length = j := ⟨_, rfl⟩
      rw [hj] at hy
      cases j with
      | zero =>
        have e : x = y := by simpa using hy
        subst e
        exact ⟨a, us, k, by rw [List.getElem?_append_right (by rw [r.1]; exact h), r.1, hj]; rfl, hm, hs⟩
      | succ j => simp at hy⟩
section
variable {prog : Program} {w : World} {A : Around} {s : Shared} {h₀ : Heap} {L : Addr} {m : Str → Option Value} {env : Env}
theorem rest_indN {elt : Expr} {x : Str} {scope : Scope} {cl : List (Str × Addr)} {S : List (Addr × Obj) → Prop} {P : Nat → Value → Prop} {Fin : List Value → List (Addr × Obj) → Prop} {n : Nat} {news : List (Addr × Obj)}
    (Inv : Nat → List Value → List (Addr × Obj) → Prop) (h0 : Inv 0 [] news) (fin : ∀ ys nw, Inv n ys nw → Fin ys nw)
    (step : ∀ k i ys nw, i < n → Inv i ys nw → (∀ ys' nw', Inv (i + 1) ys' nw' → CompRest prog w A h₀ L m env elt x scope cl s S P Fin k (i + 1) ys' nw') → CompRest prog w A h₀ L m env elt x scope cl s S P Fin (k + 1) i ys nw) :
    CompRest prog w A h₀ L m env elt x scope cl s S P Fin n 0 [] news := by
  have H : ∀ k i ys nw, i + k = n → Inv i ys nw → CompRest prog w A h₀ L m env elt x scope cl s S P Fin k i ys nw := by
    intro k
    induction k with
    | zero => intro i ys nw e hi; exact fin ys nw (by rw [← e]; exact hi)
    | succ k ih => intro i ys nw e hi; exact step k i ys nw (by omega) hi fun ys' nw' h' => ih (i + 1) ys' nw' (by omega) h'
  exact H n 0 [] news (Nat.zero_add n) h0
theorem set_indN {elt : Expr} {x : Str} {scope : Scope} {cl : List (Str × Addr)} {S : List (Addr × Obj) → Prop} {P : Nat → Value → Prop} {Fin : List (Addr × Obj) → Prop} {n : Nat} {news : List (Addr × Obj)}
    (fin : Fin news)
    (step : ∀ k i, i < n → SetRest prog w A h₀ L m env elt x scope cl s S P Fin k (i + 1) news → SetRest prog w A h₀ L m env elt x scope cl s S P Fin (k + 1) i news) :
    SetRest prog w A h₀ L m env elt x scope cl s S P Fin n 0 news := by
  have H : ∀ k i, i + k = n → SetRest prog w A h₀ L m env elt x scope cl s S P Fin k i news := by
    intro k
    induction k with
    | zero => intro i e; exact fin
    | succ k ih => intro i e; exact step k i (by omega) (ih (i + 1) (by omega))
  exact H n 0 (Nat.zero_add n)
end
theorem fr_same {h₀ h : Heap} {L : Addr} {m m' : Str → Option Value} (F : Fr h₀ L h m) (e : ∀ z, m z = m' z) : Fr h₀ L h m' := (funext e : m = m') ▸ F
theorem off_tail {I C D X : Addr} {o : Obj} {news : List (Addr × Obj)} (h1 : X ≠ I) (h2 : X ≠ C) (h3 : X ≠ D) (off : Off3 I C D news) : Off3 I C D ((X, o) :: news) := ⟨⟨h1, h2, h3⟩, off⟩
end Mine
end

section
namespace Mine
theorem rst_Cp1 : True := by w_top off; trivial
end Mine
local macro_rules | `(tactic| walk_at "mine pad") => `(tactic| fail "pad")
local macro_rules | `(tactic| walk_at "mine pad") => `(tactic| fail "pad")
open PySem PySem.W PyProof.Rows PySem.Calls PySem.Spec
namespace Mine
local macro_rules | `(tactic| walk_at "call builtin:str.split") => `(tactic| (k_here; (with_reducible show wpAny _ _ (call (Value.builtin "str.split") _) _ _ _); (refine split_K (by k_asm) (by k_asm) (by decide) (by assumption) rfl ?_); intro D' vs' h' k' hS' F' N' l1))
def cpTry : List Stmt := tryBody ((bodyAt 18).drop 3)
def cpScope : Scope := scopeAt 18 default
set_option maxRecDepth 100000 in
set_option maxHeartbeats 8000000 in
theorem cp_split {w : World} {s₀ : Shared} {mg mb : Str → Option Value} {dp un : Nat} {gd : Option (List Code)} {cn : Str} {cs : Scope} {a : Addr} {ccd : Value} {cl : List (Str × Addr)} {outer : List Env} {h₀ : Heap} {L L' : Addr} {m : Str → Option Value} {news : List (Addr × Obj)} {s : Shared} {Q : Flow → Shared → Prop} {E : Value → Shared → Prop} {D : Addr} {vs : List Value} {xs : List Str} {oS : Obj} {tS : Tok} :
    (hd.heap_39 w.params).In h₀ → Top hd.view_39 (looseW hd.view_39 []) (ExcName.means s₀.heap) mg mb h₀ →
    Fr h₀ L' s.heap m → News h₀ L' s.heap news → dp + 4 < recursionLimit → un + 40 < cLine →
    m (Str.ofString "paths") = some (.ref D) → (D, ({ cls := .type "tuple", data := .seq vs.toArray } : Obj)) ∈ news → (L' + 1, oS) ∈ news → oS.data = .cell (some (.str (Str.ofString "/") tS)) →
    StrsAre vs xs → xs.length ≤ 80 → (∀ x ∈ xs, x.length ≤ 1000) →
    (∀ h' tk' D2 ys nw, Fr h₀ L' h' (fun z => if z = Str.ofString "split_paths" then some (.ref D2) else m z) → News h₀ L' h' nw → (∀ p ∈ news, p ∈ nw) → (D2, LCg.lst ys) ∈ nw → RowsIn nw ys (xs.map fun x => Txt.split x (Str.ofString "/")) → Q .next { s with heap := h', toks := tk' }) →
    wpAny (model PySem.Challenge.rw_rt0029_01.row.prog w) ((ktrTop dp un gd cn cs L a ccd cl outer).deeper (envOfC (Str.ofString "commonpath") cpScope L' 134 (.ref 133))) (exec (nthS cpTry 0) (envOfC (Str.ofString "commonpath") cpScope L' 134 (.ref 133))) Q E s := by
  k_fill
  intro X T F N hd hu hm1 hD hS hSd hV hxl hx hret
  (conv in (occs := *) cpScope => all_goals whnf)
  (conv in (nthS _ _) => whnf)
  replace F := ksw_fr (stored := []) (m₀ := m) (ps := [(Str.ofString "paths", .ref D)]) (List.forall_mem_singleton.mpr hm1) (fun _ _ _ => rfl) F
  dsimp only [kstB] at F
  k_dflt (refine Assign_Comp_tup (_F₀ := by k_asm) (by rfl) (by with_unfolding_all rfl) (by with_unfolding_all rfl) (by decide) (by rfl) (by decide) (by rfl) (by rfl) (by rfl) ?_)
  repeat' ((fail_if_success (with_reducible show TupSrc _ _ _ _ _ _ _ _ _ _ _ _ _ _)); first | (k_unfold; (try dsimp only)) | (k_end; wrow_close) | walk1 | (dsimp only; walk1) | (dsimp only; k_unfold; (try dsimp only)) | (leave1; try dsimp only) | fail "no step")
  k_dflt (refine ⟨_, _, _, rfl, rfl, by k_asm, by k_asm, hD, by (rw [sizeLine_eq, List.size_toArray, hV.length]; omega), fun g9 => ?_⟩)
  refine rest_indN (fun i ys nw => (∀ p ∈ news, p ∈ nw) ∧ RowsIn nw ys ((xs.take i).map fun x => Txt.split x (Str.ofString "/"))) ⟨fun p hp => hp, RowsIn.nil⟩ ?_ ?_
  · rintro ys nw ⟨hsub, hr⟩
    unfold LCg.FinA
    intro Ds hs9 tks Fs9 Ns9 o1s
    refine hret hs9 tks Ds ys _ ?_ Ns9 (fun p hp => .tail _ (hsub p hp)) (.head _) ?_
    · exact fr_same Fs9 fun z => by
        dsimp only
        split
        · rfl
        · split
          · rename_i e; rw [e, hm1]
          · rfl
    · rw [List.size_toArray, hV.length, List.take_length] at hr
      exact hr.mono fun p hp => .tail _ hp
  · rintro k i ys nw hi ⟨hsub, hr⟩ ih
    (with_unfolding_all refine LCg.CompRest.succ ?_)
    intro v' I' oI' C' oC' D' m' h' tk' E' hv' hC' hx' F' N' off' ne'
    have hv8 := hv'
    rw [List.getElem?_toArray] at hv8
    obtain ⟨y, ty, rfl, hy⟩ := hV.item i v' hv8
    have hyl : y.length ≤ 1000 := hx y (List.mem_of_getElem? hy)
    have hS2 : (L' + 1, oS) ∈ (I', oI') :: (C', oC') :: (D', LCg.lst ys) :: nw := .tail _ (.tail _ (.tail _ (hsub _ hS)))
    repeat' ((fail_if_success (with_reducible show LCg.CompEnd _ _ _ _ _ _ _ _ _ _ _ _ _ _)); (fail_if_success (with_reducible show LCg.CompRest _ _ _ _ _ _ _ _ _ _ _ _ _ _ _ _ _ _ _)); first | (k_unfold; (try dsimp only)) | (k_end; wrow_close) | walk1 | (dsimp only; walk1) | (dsimp only; k_unfold; (try dsimp only)) | (leave1; try dsimp only) | fail "no step")
    (rename ∀ p ∈ _, _ < _ => l9)
    (rename Fr h₀ _ _ _ => F9)
    (rename News h₀ _ _ _ => N9)
    (rename StrsAre _ (Txt.split y _) => hS9)
    refine LCg.CompEnd.intro F9 N9 _ sub_perm (off_tail (Ne.symm (Nat.ne_of_lt (l9 _ (.head _)))) (Ne.symm (Nat.ne_of_lt (l9 _ (.tail _ (.head _))))) (Ne.symm (Nat.ne_of_lt (l9 _ (.tail _ (.tail _ (.head _)))))) off') (.tail _ (hsub _ hD)) (ih _ _ ⟨fun p hp => .tail _ (hsub p hp), ?_⟩)
    rw [List.take_add_one, hy, List.map_append]
    exact (hr.mono fun p hp => .tail _ hp).snoc (.head _) hS9
local macro_rules | `(tactic| walk_at "exec Try") => `(tactic| (k_here; (with_reducible show wpAny _ _ (exec (Stmt.Try _ (_ :: _) [] [] _) _) _ _ _); (refine wpAny_Try_except (wpAny_noRaise ?_)); (try dsimp only)))
set_option maxRecDepth 100000 in
set_option maxHeartbeats 8000000 in
theorem cp_set {w : World} {s₀ : Shared} {mg mb : Str → Option Value} {dp un : Nat} {gd : Option (List Code)} {cn : Str} {cs : Scope} {a : Addr} {ccd : Value} {cl : List (Str × Addr)} {outer : List Env} {h₀ : Heap} {L L' : Addr} {m : Str → Option Value} {news : List (Addr × Obj)} {s : Shared} {Q : Flow → Shared → Prop} {E : Value → Shared → Prop} {D : Addr} {vs : List Value} {xs : List Str} {oS : Obj} {tS : Tok} :
    (hd.heap_39 w.params).In h₀ → Top hd.view_39 (looseW hd.view_39 []) (ExcName.means s₀.heap) mg mb h₀ →
    Fr h₀ L' s.heap m → News h₀ L' s.heap news → dp + 4 < recursionLimit → un + 40 < cLine →
    m (Str.ofString "paths") = some (.ref D) → (D, ({ cls := .type "tuple", data := .seq vs.toArray } : Obj)) ∈ news → (L' + 1, oS) ∈ news → oS.data = .cell (some (.str (Str.ofString "/") tS)) →
    StrsAre vs xs → xs ≠ [] → (∀ x ∈ xs, x.length ≤ 1000) → (∀ x ∈ xs, Txt.startswith x (Str.ofString "/") = true) →
    (∀ h' tk', Fr h₀ L' h' (fun z => if z = Str.ofString "isabs" then some (.bool true) else m z) → News h₀ L' h' news → Q .next { s with heap := h', toks := tk' }) →
    wpAny (model PySem.Challenge.rw_rt0029_01.row.prog w) ((ktrTop dp un gd cn cs L a ccd cl outer).deeper (envOfC (Str.ofString "commonpath") cpScope L' 134 (.ref 133))) (exec (nthS cpTry 1) (envOfC (Str.ofString "commonpath") cpScope L' 134 (.ref 133))) Q (fun _ _ => False) s := by
  k_fill
  intro X T F N hd hu hm1 hD hS hSd hV hxl hx hst hret
  (conv in (occs := *) cpScope => all_goals whnf)
  (conv in (nthS _ _) => whnf)
  replace F := ksw_fr (stored := []) (m₀ := m) (ps := [(Str.ofString "paths", .ref D)]) (List.forall_mem_singleton.mpr hm1) (fun _ _ _ => rfl) F
  dsimp only [kstB] at F
  repeat' ((fail_if_success (with_reducible show wpAny _ _ (eval (Expr.SetComp _ _ _ _) _) _ _ _)); first | (k_unfold; (try dsimp only)) | (k_end; wrow_close) | walk1 | (dsimp only; walk1) | (dsimp only; k_unfold; (try dsimp only)) | (leave1; try dsimp only) | fail "no step")
  k_dflt (refine SetComp_tup (_F₀ := by k_asm) (by with_unfolding_all rfl) (by decide) (by rfl) (by decide) (by rfl) ?_)
  repeat' ((fail_if_success (with_reducible show SetSrc _ _ _ _ _ _ _ _ _ _ _ _ _ _)); first | (k_unfold; (try dsimp only)) | (k_end; wrow_close) | walk1 | (dsimp only; walk1) | (dsimp only; k_unfold; (try dsimp only)) | (leave1; try dsimp only) | fail "no step")
  k_dflt (refine ⟨_, _, _, rfl, rfl, by k_asm, by k_asm, hD, fun g9 => ?_⟩)
  refine set_indN ?_ ?_
  · intro D' h' tk' F' N' o1'
    obtain ⟨n9, hn9⟩ : ∃ n, vs.toArray.size = n + 1 := by
      obtain ⟨x, r, rfl⟩ := List.exists_cons_of_ne_nil hxl
      exact ⟨r.length, by rw [List.size_toArray, hV.length]; rfl⟩
    rw [hn9] at N'
    (try dsimp only)
    repeat' ((fail_if_success (with_reducible show wpAny _ _ (assign (Expr.Tuple _ _ _) _ _) _ _ _)); first | (k_unfold; (try dsimp only)) | (k_end; wrow_close) | walk1 | (dsimp only; walk1) | (dsimp only; k_unfold; (try dsimp only)) | (leave1; try dsimp only) | fail "no step")
    replace N' : News _ _ _ ((D', setO1 (!byTxt w)) :: _) := N'
    (with_unfolding_all refine' assign_set1 (S := D') rfl F' N' (.head _) ?k1 ?k2 ?_)
    (case k1 => exact rfl)
    (case k2 => exact rfl)
    clear F' N'
    intro h' F' N'
    repeat' (first | (k_unfold; (try dsimp only)) | (k_end; wrow_close) | walk1 | (dsimp only; walk1) | (dsimp only; k_unfold; (try dsimp only)) | (leave1; try dsimp only) | fail "no step")
    (rename Fr h₀ _ _ _ => F9)
    (rename News h₀ _ _ _ => N9)
    refine hret _ _ (fr_same F9 fun z => ?_) (drop_news N9 fun p hp => .tail _ hp)
    (try dsimp only)
    split
    · rfl
    · split
      · rename_i e; rw [e, hm1]
      · rfl
  · intro k i hi ih
    (with_unfolding_all refine SetRest.succ ?_)
    intro v' I' oI' C' oC' D' oD' m' h' tk' E' hv' hC' hx' F' N' off' ne'
    have hv8 := hv'
    rw [List.getElem?_toArray] at hv8
    obtain ⟨y, ty, rfl, hy⟩ := hV.item i v' hv8
    have hyl : y.length ≤ 1000 := hx y (List.mem_of_getElem? hy)
    have hys := hst y (List.mem_of_getElem? hy)
    have hS2 : (L' + 1, oS) ∈ (I', oI') :: (C', oC') :: (D', oD') :: news := .tail _ (.tail _ (.tail _ hS))
    repeat' ((fail_if_success (with_reducible show LCg.CompEnd _ _ _ _ _ _ _ _ _ _ _ _ _ _)); first | (k_unfold; (try dsimp only)) | (k_end; wrow_close) | walk1 | (dsimp only; walk1) | (dsimp only; k_unfold; (try dsimp only)) | (leave1; try dsimp only) | fail "no step")
    exact LCg.CompEnd.intro F' N' _ (fun p hp => hp) off' hD ⟨by rw [hys], ih⟩
set_option maxRecDepth 100000 in
set_option maxHeartbeats 8000000 in
theorem cp_filter {w : World} {s₀ : Shared} {mg mb : Str → Option Value} {dp un : Nat} {gd : Option (List Code)} {cn : Str} {cs : Scope} {a : Addr} {ccd : Value} {cl : List (Str × Addr)} {outer : List Env} {h₀ : Heap} {L L' : Addr} {m : Str → Option Value} {news : List (Addr × Obj)} {s : Shared} {Q : Flow → Shared → Prop} {E : Value → Shared → Prop} {D : Addr} {ys₀ : List Value} {pss : List (List Str)} {oC : Obj} {tC : Tok} :
    (hd.heap_39 w.params).In h₀ → Top hd.view_39 (looseW hd.view_39 []) (ExcName.means s₀.heap) mg mb h₀ →
    Fr h₀ L' s.heap m → News h₀ L' s.heap news → dp + 4 < recursionLimit → un + 40 < cLine →
    m (Str.ofString "split_paths") = some (.ref D) → (D, LCg.lst ys₀) ∈ news → RowsIn news ys₀ pss → (L' + 1 + 1, oC) ∈ news → oC.data = .cell (some (.str (Str.ofString ".") tC)) →
    pss.length ≤ 80 → (∀ x ∈ pss, x.length ≤ 100) → (∀ x ∈ pss, ∀ y ∈ x, y.length ≤ 1000) →
    (∀ h' tk' D2 ys nw, Fr h₀ L' h' (fun z => if z = Str.ofString "split_paths" then some (.ref D2) else m z) → News h₀ L' h' nw → (∀ p ∈ news, p ∈ nw) → (D2, LCg.lst ys) ∈ nw → RowsIn nw ys (pss.map fun x => x.filter okC) → Q .next { s with heap := h', toks := tk' }) →
    wpAny (model PySem.Challenge.rw_rt0029_01.row.prog w) ((ktrTop dp un gd cn cs L a ccd cl outer).deeper (envOfC (Str.ofString "commonpath") cpScope L' 134 (.ref 133))) (exec (nthS cpTry 2) (envOfC (Str.ofString "commonpath") cpScope L' 134 (.ref 133))) Q E s := by
  k_fill
  intro X T F N hd hu hm1 hD hR hC hCd hpl hp1 hp2 hret
  (conv in (occs := *) cpScope => all_goals whnf)
  (conv in (nthS _ _) => whnf)
  replace F := ksw_fr (stored := []) (m₀ := m) (ps := [(Str.ofString "split_paths", .ref D)]) (List.forall_mem_singleton.mpr hm1) (fun _ _ _ => rfl) F
  dsimp only [kstB] at F
  k_dflt (refine LCg.Assign_ListComp_U (F₀ := by k_asm) (by rfl) (by with_unfolding_all rfl) (by with_unfolding_all rfl) (by decide) (by rfl) (by decide) (by rfl) (by rfl) (by rfl) ?_)
  repeat' ((fail_if_success (with_reducible show LCg.CompSrc _ _ _ _ _ _ _ _ _ _ _ _ _ _)); first | (k_unfold; (try dsimp only)) | (k_end; wrow_close) | walk1 | (dsimp only; walk1) | (dsimp only; k_unfold; (try dsimp only)) | (leave1; try dsimp only) | fail "no step")
  refine LCg.CompSrc.ledger rfl (by k_asm) (by k_asm) hD (by rw [sizeLine_eq, List.size_toArray, hR.1]; omega) fun g9 => ?_
  refine rest_indN (fun i ys nw => (∀ p ∈ news, p ∈ nw) ∧ RowsIn nw ys ((pss.take i).map fun x => x.filter okC)) ⟨fun p hp => hp, RowsIn.nil⟩ ?_ ?_
  · rintro ys nw ⟨hsub, hr⟩
    unfold LCg.FinA
    intro Ds hs9 tks Fs9 Ns9 o1s
    refine hret hs9 tks Ds ys _ ?_ Ns9 (fun p hp => .tail _ (hsub p hp)) (.head _) ?_
    · exact fr_same Fs9 fun z => by
        dsimp only
        split
        · rfl
        · split
          · contradiction
          · rfl
    · rw [List.size_toArray, hR.1, List.take_length] at hr
      exact hr.mono fun p hp => .tail _ hp
  · rintro k i ys nw hi ⟨hsub, hr⟩ ih
    (with_unfolding_all refine LCg.CompRest.succ ?_)
    intro vo Io oIo Co oCo Do mo ho tko Eo hvo hCo hxo Fo No offo neo
    have hil : i < pss.length := by rw [List.size_toArray, hR.1] at hi; exact hi
    obtain ⟨ax, ux, kx, e9, hmx, hSp⟩ := hR.2 i pss[i] (List.getElem?_eq_getElem hil)
    rw [List.getElem?_toArray, e9] at hvo
    obtain rfl := Option.some.inj hvo
    have hz1 := hp1 pss[i] (List.getElem_mem hil)
    have hz2 := hp2 pss[i] (List.getElem_mem hil)
    have hmx2 : (ax, W.listOf ux.toArray kx) ∈ (Io, oIo) :: (Co, oCo) :: (Do, LCg.lst ys) :: nw := .tail _ (.tail _ (.tail _ (hsub _ hmx)))
    have hC2 : (L' + 1 + 1, oC) ∈ (Io, oIo) :: (Co, oCo) :: (Do, LCg.lst ys) :: nw := .tail _ (.tail _ (.tail _ (hsub _ hC)))
    repeat' ((fail_if_success (with_reducible show wpAny _ _ (eval (Expr.ListComp _ _ _ _) _) _ _ _)); first | (k_unfold; (try dsimp only)) | (k_end; wrow_close) | walk1 | (dsimp only; walk1) | (dsimp only; k_unfold; (try dsimp only)) | (leave1; try dsimp only) | fail "no step")
    k_dflt (refine LCt.ListComp_T (F₀ := by k_asm) (by with_unfolding_all rfl) (by decide) (by rfl) (by decide) (by rfl) ?_)
    repeat' ((fail_if_success (with_reducible show LCt.CompSrcT _ _ _ _ _ _ _ _ _ _ _ _ _ _ _)); first | (k_unfold; (try dsimp only)) | (k_end; wrow_close) | walk1 | (dsimp only; walk1) | (dsimp only; k_unfold; (try dsimp only)) | (leave1; try dsimp only) | fail "no step")
    k_dflt (refine LCt.CompSrcT.ledger (by rfl) (by k_asm) (by k_asm) hmx2 ?_ ?_)
    · rw [sizeLine_eq, List.size_toArray, hSp.length]; omega
    intro g8
    refine restT_ind (fun j us => StrsAre us ((pss[i].take j).filter okC)) (by exact .nil) ?_ ?_
    · intro us hinv
      rw [List.size_toArray, hSp.length, List.take_length] at hinv
      unfold LCg.FinE
      intro Dn hn tkn Fn Nn o1n
      refine LCg.CompEnd.intro Fn Nn _ sub_perm (off_cons o1n offo) (Or.inr ⟨_, .tail _ (hsub _ hD), rfl, _, rfl⟩) (ih _ _ ⟨fun p hp => .tail _ (hsub p hp), ?_⟩)
      rw [List.take_add_one, List.getElem?_eq_getElem hil, List.map_append]
      exact (hr.mono fun p hp => .tail _ hp).snoc (.head _) hinv
    · intro k j us hj hinv ihj
      (with_unfolding_all refine LCt.CompRestT.succ ?_)
      intro v' I' oI' C' oC' D' m' h' tk' E' hv' hC' hx' F' N' off' ne'
      have hv8 := hv'
      rw [List.getElem?_toArray] at hv8
      obtain ⟨y, ty, rfl, hy⟩ := hSp.item j v' hv8
      have hyl : y.length ≤ 1000 := hz2 y (List.mem_of_getElem? hy)
      have hC3 : (L' + 1 + 1, oC) ∈ (I', oI') :: (C', oC') :: (D', LCg.lst us) :: (Io, oIo) :: (Co, oCo) :: (Do, LCg.lst ys) :: nw := .tail _ (.tail _ (.tail _ hC2))
      repeat' ((fail_if_success (with_reducible show LCt.CompRestT _ _ _ _ _ _ _ _ _ _ _ _ _ _ _ _ _ _ _ _)); (fail_if_success (with_reducible show LCg.CompEnd _ _ _ _ _ _ _ _ _ _ _ _ _ _)); first | (k_unfold; (try dsimp only)) | (k_end; wrow_close) | walk1 | (dsimp only; walk1) | (dsimp only; k_unfold; (try dsimp only)) | (leave1; try dsimp only) | fail "no step")
      · refine LCg.CompEnd.intro F' N' _ (fun p hp => hp) off' (Or.inr ⟨_, hmx2, rfl, _, rfl⟩) (ihj _ ?_)
        show StrsAre _ _
        rw [filter_snoc hy, if_pos (okC_yes (by assumption) (by assumption))]
        exact StrsAre.append' hinv (.cons _ _ .nil)
      · refine LCg.CompEnd.intro F' N' _ (fun p hp => hp) off' (Or.inr ⟨_, hmx2, rfl, _, rfl⟩) (ihj _ ?_)
        show StrsAre _ _
        rw [filter_snoc hy, if_neg (okC_no (Or.inr (by assumption))), List.append_nil]
        exact hinv
      · refine LCg.CompEnd.intro F' N' _ (fun p hp => hp) off' (Or.inr ⟨_, hmx2, rfl, _, rfl⟩) (ihj _ ?_)
        show StrsAre _ _
        rw [filter_snoc hy, if_neg (okC_no (Or.inl (by assumption))), List.append_nil]
        exact hinv
end Mine
end

section
open PySem PySem.W PyProof.Rows PySem.Calls PySem.Spec
namespace Mine

/-- the state of a loop: names ps, ledger Led, what is stored and forgotten -/
def KS {σ : Type} (Led : σ → List (Addr × Obj)) (ps : σ → List (Str × Value)) (x : Str) (stored : List Str) (m₀ : Str → Option Value) (P : σ → Prop) (m : Str → Option Value) (nx : List (Addr × Obj)) : Prop :=
  ∃ c : σ, nx = Led c ∧ (∀ p ∈ ps c, m p.1 = some p.2) ∧ (∀ z, z ≠ x → (∀ p ∈ ps c, z ≠ p.1) → stored.contains z = false → m z = m₀ z) ∧ P c

section
variable {prog : Program} {w : World} {A : Around} {E : Value → Shared → Prop} {s : Shared} {env : Env} {h₀ : Heap} {x : Str} {body : List Stmt} {Q : Flow → Shared → Prop} {m₀ : Str → Option Value}

theorem ks_loop {σ : Type} {I : Addr} {fp wr : List Addr} {n : Nat} {Pv : Nat → Value → Prop} {St : Nat → Heap → Prop} (Led : σ → List (Addr × Obj)) (ps : σ → List (Str × Value)) (stored : List Str) (P : Nat → σ → Prop) (c₀ : σ)
    (W : Walks prog w A I fp wr n Pv St) (hLf : env.locals ∉ fp) (hwr : ∀ b ∈ wr, h₀.get? b = none) (hnw : ∀ p ∈ Led c₀, p.1 ∉ wr) (hfp : ∀ q ∈ Led c₀, q.1 ∉ fp) (hst : St 0 s.heap)
    (F : Fr h₀ env.locals s.heap m₀) (N : News h₀ env.locals s.heap (Led c₀)) (hk : ∀ p ∈ ps c₀, m₀ p.1 = some p.2) (hp : P 0 c₀)
    (turn : ∀ (c : σ) i v (u : Str → Option Value) h tk own, i < n → Pv i v → OwnOff own ((Led c₀).map (·.1)) → P i c →
      Fr h₀ env.locals h (fun y => if y = x then some v else kstB (fun z => if stored.contains z then u z else m₀ z) (ps c) y) → News h₀ env.locals h (Led c ++ own) →
      wpAny (model prog w) A (execs body env) (InvPostN h₀ env.locals (KS Led ps x stored m₀ (P (i + 1))) own ((Led c₀).map (·.1)) { s with heap := h, toks := tk } Q) E { s with heap := h, toks := tk })
    (done : ∀ (c : σ) (u : Str → Option Value) h tk, P n c → Fr h₀ env.locals h (fun y => if y = x then u y else kstB (fun z => if stored.contains z then u z else m₀ z) (ps c) y) → News h₀ env.locals h (Led c) → Q .next { s with heap := h, toks := tk }) :
    LoopAtV prog w A h₀ env x body Q E (.ref I) s := by
  refine loop_invN (fun i m nx => KS Led ps x stored m₀ (P i) m nx) W hLf hwr hnw hfp hst F N ⟨c₀, rfl, hk, fun _ _ _ _ => rfl, hp⟩ ?_ ?_
  · rintro i v m₁ nx h tk own hi hv _ hoff ⟨c, rfl, h1, h2, hp'⟩ F₁ N₁
    exact turn c i v m₁ h tk own hi hv hoff hp' (kst_fr h1 h2 F₁) N₁
  · rintro m₁ nx h tk ⟨c, rfl, h1, h2, hp'⟩ F₁ N₁
    exact done c m₁ h tk hp' (kst_frOut h1 h2 F₁) N₁

theorem ks_list {σ : Type} {l : Addr} {vs : List Value} (Led : σ → List (Addr × Obj)) (ps : σ → List (Str × Value)) (stored : List Str) (P : Nat → σ → Prop) (c₀ : σ)
    (hh : A.handled = none) (hl : h₀.IsList l vs.toArray) 
    (F : Fr h₀ env.locals s.heap m₀) (N : News h₀ env.locals s.heap (Led c₀)) (hk : ∀ p ∈ ps c₀, m₀ p.1 = some p.2) (hp : P 0 c₀)
    (turn : ∀ (c : σ) i v (u : Str → Option Value) h tk own, i < vs.length → vs[i]? = some v → OwnOff own ((Led c₀).map (·.1)) → P i c →
      Fr h₀ env.locals h (fun y => if y = x then some v else kstB (fun z => if stored.contains z then u z else m₀ z) (ps c) y) → News h₀ env.locals h (Led c ++ own) →
      wpAny (model prog w) A (execs body env) (InvPostN h₀ env.locals (KS Led ps x stored m₀ (P (i + 1))) own ((Led c₀).map (·.1)) { s with heap := h, toks := tk } Q) E { s with heap := h, toks := tk })
    (done : ∀ (c : σ) (u : Str → Option Value) h tk, P vs.length c → Fr h₀ env.locals h (fun y => if y = x then u y else kstB (fun z => if stored.contains z then u z else m₀ z) (ps c) y) → News h₀ env.locals h (Led c) → Q .next { s with heap := h, toks := tk }) :
    wpAny (model prog w) A (pyIter (.ref l)) (fun it s₂ => LoopAtV prog w A h₀ env x body Q E it s₂) E s := by
  have hls : s.heap.IsList l vs.toArray := hl.at fun o e => F.keep l o e
  obtain ⟨ol, hol, _⟩ := id hl
  have hlt : l < h₀.objs.size := Heap.lt_size hol
  have hne : l ≠ s.heap.objs.size := Nat.ne_of_lt (Nat.lt_trans (Nat.lt_of_lt_of_le hlt F.above) F.ns.lt)
  refine wpAny_pyIter_list hls ?_
  have W := Walks.list (prog := prog) (w := w) hh s.heap.objs.size l hne vs.toArray
  have hlen : vs.toArray.size = vs.length := by simp
  rw [hlen] at W
  refine ks_loop (s := { s with heap := s.heap.push { cls := .type "list_iterator", data := .fields #[.ref l, .int 0 0] } }) Led ps stored P c₀ W ?_ ?_ ?_ ?_ ⟨⟨_, Heap.get?_push_size _ rfl, rfl, rfl⟩, hls.at fun o e => Heap.get?_push_of_some _ e⟩ (F.push _) (fun p hp => ⟨Heap.get?_push_of_some _ (N p hp).1, (N p hp).2⟩) hk hp ?_ ?_
  · intro hm
    rcases List.mem_cons.mp hm with e | hm
    · exact absurd F.ns.lt (e ▸ Nat.lt_irrefl _)
    · exact absurd (Nat.lt_of_lt_of_le hlt F.above) ((List.mem_singleton.mp hm) ▸ Nat.lt_irrefl _)
  · intro b hb
    rw [List.mem_singleton.mp hb]
    exact next_is_new F
  · intro p hp hI
    exact absurd (Heap.lt_size (N p hp).1) ((List.mem_singleton.mp hI) ▸ Nat.lt_irrefl _)
  · intro q hq hI
    rcases List.mem_cons.mp hI with h1 | h1
    · exact absurd (Heap.lt_size (N q hq).1) (by rw [h1]; exact Nat.lt_irrefl _)
    · have h2 := List.mem_singleton.mp h1
      have h3 := (N q hq).2.2
      rw [h2, hol] at h3
      cases h3
  · intro c i v u h tk own hi hv hoff hP F₁ N₁
    exact turn c i v u h tk own hi (by simpa using hv) hoff hP F₁ N₁
  · intro c u h tk hP F₁ N₁
    exact done c u h tk hP F₁ N₁

theorem ks_tuple {σ : Type} {l : Addr} {vs : List Value} (Led : σ → List (Addr × Obj)) (ps : σ → List (Str × Value)) (stored : List Str) (P : Nat → σ → Prop) (c₀ : σ)
    (hh : A.handled = none) (hl : h₀.IsTuple l vs.toArray) 
    (F : Fr h₀ env.locals s.heap m₀) (N : News h₀ env.locals s.heap (Led c₀)) (hk : ∀ p ∈ ps c₀, m₀ p.1 = some p.2) (hp : P 0 c₀)
    (turn : ∀ (c : σ) i v (u : Str → Option Value) h tk own, i < vs.length → vs[i]? = some v → OwnOff own ((Led c₀).map (·.1)) → P i c →
      Fr h₀ env.locals h (fun y => if y = x then some v else kstB (fun z => if stored.contains z then u z else m₀ z) (ps c) y) → News h₀ env.locals h (Led c ++ own) →
      wpAny (model prog w) A (execs body env) (InvPostN h₀ env.locals (KS Led ps x stored m₀ (P (i + 1))) own ((Led c₀).map (·.1)) { s with heap := h, toks := tk } Q) E { s with heap := h, toks := tk })
    (done : ∀ (c : σ) (u : Str → Option Value) h tk, P vs.length c → Fr h₀ env.locals h (fun y => if y = x then u y else kstB (fun z => if stored.contains z then u z else m₀ z) (ps c) y) → News h₀ env.locals h (Led c) → Q .next { s with heap := h, toks := tk }) :
    wpAny (model prog w) A (pyIter (.ref l)) (fun it s₂ => LoopAtV prog w A h₀ env x body Q E it s₂) E s := by
  have hls : s.heap.IsTuple l vs.toArray := hl.at fun o e => F.keep l o e
  obtain ⟨ol, hol, _⟩ := id hl
  have hlt : l < h₀.objs.size := Heap.lt_size hol
  have hne : l ≠ s.heap.objs.size := Nat.ne_of_lt (Nat.lt_trans (Nat.lt_of_lt_of_le hlt F.above) F.ns.lt)
  refine wpAny_pyIter_tuple hls ?_
  have W := Walks.tuple (prog := prog) (w := w) hh s.heap.objs.size l hne vs.toArray
  have hlen : vs.toArray.size = vs.length := by simp
  rw [hlen] at W
  refine ks_loop (s := { s with heap := s.heap.push { cls := .type "tuple_iterator", data := .fields #[.ref l, .int 0 0] } }) Led ps stored P c₀ W ?_ ?_ ?_ ?_ ⟨⟨_, Heap.get?_push_size _ rfl, rfl, rfl⟩, hls.at fun o e => Heap.get?_push_of_some _ e⟩ (F.push _) (fun p hp => ⟨Heap.get?_push_of_some _ (N p hp).1, (N p hp).2⟩) hk hp ?_ ?_
  · intro hm
    rcases List.mem_cons.mp hm with e | hm
    · exact absurd F.ns.lt (e ▸ Nat.lt_irrefl _)
    · exact absurd (Nat.lt_of_lt_of_le hlt F.above) ((List.mem_singleton.mp hm) ▸ Nat.lt_irrefl _)
  · intro b hb
    rw [List.mem_singleton.mp hb]
    exact next_is_new F
  · intro p hp hI
    exact absurd (Heap.lt_size (N p hp).1) ((List.mem_singleton.mp hI) ▸ Nat.lt_irrefl _)
  · intro q hq hI
    rcases List.mem_cons.mp hI with h1 | h1
    · exact absurd (Heap.lt_size (N q hq).1) (by rw [h1]; exact Nat.lt_irrefl _)
    · have h2 := List.mem_singleton.mp h1
      have h3 := (N q hq).2.2
      rw [h2, hol] at h3
      cases h3
  · intro c i v u h tk own hi hv hoff hP F₁ N₁
    exact turn c i v u h tk own hi (by simpa using hv) hoff hP F₁ N₁
  · intro c u h tk hP F₁ N₁
    exact done c u h tk hP F₁ N₁

theorem ks_end {σ : Type} {Led : σ → List (Addr × Obj)} {ps : σ → List (Str × Value)} {stored : List Str} {P : σ → Prop} (c : σ) {L : Addr} {m' : Str → Option Value} {own news' : List (Addr × Obj)} {adr : List Addr} {s₁ : Shared} {h' : Heap} {tk : Nat}
    (F : Fr h₀ L h' m') (N : News h₀ L h' news') (hn : ∀ p ∈ Led c, p ∈ news') (ho : ∀ p ∈ own, p ∈ news') (ha : (Led c).map (·.1) = adr) (hk : ∀ p ∈ ps c, m' p.1 = some p.2) (hr : ∀ z, z ≠ x → (∀ p ∈ ps c, z ≠ p.1) → stored.contains z = false → m' z = m₀ z) (hp : P c) :
    InvEndN h₀ L (KS Led ps x stored m₀ P) own adr s₁ { s₁ with heap := h', toks := tk } :=
  InvEndN.intro F N ⟨c, rfl, hk, hr, hp⟩ ha hn ho
end
end Mine
end

section
open PySem PySem.W PyProof.Rows PySem.Calls PySem.Spec
namespace Mine
/-- where the lesser row goes on, the greater goes on, as long as they are alike -/
theorem lex_goes : ∀ (xs ys : List Str) (i : Nat), lexB ys xs = false → xs.take i = ys.take i → i < xs.length → i < ys.length
  | [], _, _, _, _, h => absurd h (Nat.not_lt_zero _)
  | x :: xs, [], i, h, _, _ => by simp [lexB] at h
  | x :: xs, y :: ys, 0, _, _, _ => Nat.succ_pos _
  | x :: xs, y :: ys, i + 1, h, e, hi => by
    simp only [List.take_succ_cons, List.cons.injEq] at e
    rw [lexB, if_pos e.1.symm] at h
    exact Nat.succ_lt_succ (lex_goes xs ys i h e.2 (by simpa using hi))
/-- the common beginning of two rows -/
def lcp : List Str → List Str → List Str
  | x :: xs, y :: ys => if x = y then x :: lcp xs ys else []
  | _, _ => []
theorem lcp_break : ∀ (xs ys : List Str) (i : Nat) {a b : Str}, xs.take i = ys.take i → xs[i]? = some a → ys[i]? = some b → a ≠ b → lcp xs ys = xs.take i
  | [], _, i, a, b, _, h, _, _ => by simp at h
  | _ :: _, [], i, a, b, _, _, h, _ => by simp at h
  | x :: xs, y :: ys, 0, a, b, _, ha, hb, hn => by
    have e1 : x = a := by simpa using ha
    have e2 : y = b := by simpa using hb
    rw [lcp, if_neg (by rw [e1, e2]; exact hn)]
    rfl
  | x :: xs, y :: ys, i + 1, a, b, e, ha, hb, hn => by
    simp only [List.take_succ_cons, List.cons.injEq] at e
    rw [lcp, if_pos e.1, lcp_break xs ys i e.2 (by simpa using ha) (by simpa using hb) hn]
    rfl
theorem lcp_all : ∀ (xs ys : List Str), xs = ys.take xs.length → lcp xs ys = xs
  | [], ys, _ => by cases ys <;> rfl
  | x :: xs, [], h => by simp at h
  | x :: xs, y :: ys, h => by
    simp only [List.length_cons, List.take_succ_cons, List.cons.injEq] at h
    rw [lcp, if_pos h.1, lcp_all xs ys h.2]
end Mine
end

section
open PySem PySem.W PyProof.Rows PySem.Calls PySem.Spec
namespace Mine
/-- the least and the greatest of some rows, as «min» and «max» find them -/
def minRow (xss : List (List Str)) : List Str := xss[argBest (fun i j => lexB (xss[i]?.getD []) (xss[j]?.getD [])) (xss.length - 1)]?.getD []
def maxRow (xss : List (List Str)) : List Str := xss[argBest (fun i j => lexB (xss[j]?.getD []) (xss[i]?.getD [])) (xss.length - 1)]?.getD []

theorem ltT_irrefl (x : Str) : ltT x x = false := by
  unfold ltT
  exact decide_eq_false (List.lt_irrefl _)
theorem ltT_trans {x y z : Str} (h1 : ltT x y = true) (h2 : ltT y z = true) : ltT x z = true := by
  unfold ltT at *
  exact decide_eq_true (List.lt_trans (of_decide_eq_true h1) (of_decide_eq_true h2))
theorem ltT_total {x y : Str} (h : x ≠ y) (h1 : ltT x y = false) : ltT y x = true := by
  unfold ltT at *
  refine decide_eq_true ?_
  have h1 := of_decide_eq_false h1
  rcases List.le_total x.cps.toList y.cps.toList with h2 | h2
  · exact Classical.byContradiction fun h3 => h (Str.ext' (Array.toList_inj.mp (List.le_antisymm h2 (List.not_lt.mp h1))))
  · exact Classical.byContradiction fun h3 => h (Str.ext' (Array.toList_inj.mp (List.le_antisymm (List.not_lt.mp h3) (List.not_lt.mp h1))))
theorem lexB_irrefl : ∀ x : List Str, lexB x x = false
  | [] => rfl
  | x :: xs => by rw [lexB, if_pos rfl, lexB_irrefl xs]
theorem lexB_trans : ∀ x y z : List Str, lexB x y = true → lexB y z = true → lexB x z = true
  | [], [], _, h, _ => by simp [lexB] at h
  | [], _ :: _, [], _, h => by simp [lexB] at h
  | [], _ :: _, _ :: _, _, _ => rfl
  | _ :: _, [], _, h, _ => by simp [lexB] at h
  | _ :: _, _ :: _, [], _, h => by simp [lexB] at h
  | x :: xs, y :: ys, z :: zs, h1, h2 => by
    rw [lexB] at h1 h2 ⊢
    by_cases e1 : x = y
    · subst e1
      rw [if_pos rfl] at h1
      by_cases e2 : x = z
      · rw [if_pos e2] at h2 ⊢; exact lexB_trans xs ys zs h1 h2
      · rw [if_neg e2] at h2 ⊢; exact h2
    · rw [if_neg e1] at h1
      by_cases e2 : y = z
      · subst e2; rw [if_neg e1]; exact h1
      · rw [if_neg e2] at h2
        have h3 := ltT_trans h1 h2
        rw [if_neg (fun e => by rw [e, ltT_irrefl] at h3; cases h3)]
        exact h3
theorem lexB_total : ∀ x y : List Str, x ≠ y → lexB x y = false → lexB y x = true
  | [], [], h, _ => absurd rfl h
  | [], _ :: _, _, h => by simp [lexB] at h
  | _ :: _, [], _, _ => rfl
  | x :: xs, y :: ys, h, h1 => by
    rw [lexB] at h1 ⊢
    by_cases e1 : x = y
    · rw [if_pos e1] at h1
      rw [if_pos e1.symm]
      exact lexB_total xs ys (fun e => h (by rw [e1, e])) h1
    · rw [if_neg e1] at h1
      rw [if_neg (Ne.symm e1)]
      exact ltT_total e1 h1
theorem lexB_le_trans {x y z : List Str} (h1 : lexB y x = false) (h2 : lexB z y = false) : lexB z x = false := by
  cases h : lexB z x with
  | false => rfl
  | true =>
    by_cases e : x = y
    · rw [e, h2] at h; cases h
    · have h3 := lexB_total y x (Ne.symm e) h1
      rw [lexB_trans _ _ _ h h3] at h2; cases h2
theorem argBest_le (bt : Nat → Nat → Bool) : ∀ k, argBest bt k ≤ k
  | 0 => Nat.le_refl _
  | k + 1 => by
    rw [argBest]
    split
    · exact Nat.le_refl _
    · exact Nat.le_succ_of_le (argBest_le bt k)
theorem min_le (xss : List (List Str)) : ∀ k i, i ≤ k → lexB (xss[i]?.getD []) (xss[argBest (fun i j => lexB (xss[i]?.getD []) (xss[j]?.getD [])) k]?.getD []) = false
  | 0, i, h => by rw [Nat.le_zero.mp h]; exact lexB_irrefl _
  | k + 1, i, h => by
    rw [argBest]
    cases hb : lexB (xss[k + 1]?.getD []) (xss[argBest (fun i j => lexB (xss[i]?.getD []) (xss[j]?.getD [])) k]?.getD []) with
    | true =>
      rw [if_pos rfl]
      rcases Nat.lt_or_eq_of_le h with h | h
      · have h1 := min_le xss k i (Nat.lt_succ_iff.mp h)
        refine lexB_le_trans (y := xss[argBest (fun i j => lexB (xss[i]?.getD []) (xss[j]?.getD [])) k]?.getD []) ?_ h1
        cases h2 : lexB (xss[argBest (fun i j => lexB (xss[i]?.getD []) (xss[j]?.getD [])) k]?.getD []) (xss[k + 1]?.getD []) with
        | false => rfl
        | true => rw [← lexB_irrefl (xss[k + 1]?.getD []), lexB_trans _ _ _ hb h2]
      · rw [h]; exact lexB_irrefl _
    | false =>
      rw [if_neg Bool.false_ne_true]
      rcases Nat.lt_or_eq_of_le h with h | h
      · exact min_le xss k i (Nat.lt_succ_iff.mp h)
      · rw [h]; exact hb
theorem max_ge (xss : List (List Str)) : ∀ k i, i ≤ k → lexB (xss[argBest (fun i j => lexB (xss[j]?.getD []) (xss[i]?.getD [])) k]?.getD []) (xss[i]?.getD []) = false
  | 0, i, h => by rw [Nat.le_zero.mp h]; exact lexB_irrefl _
  | k + 1, i, h => by
    rw [argBest]
    cases hb : lexB (xss[argBest (fun i j => lexB (xss[j]?.getD []) (xss[i]?.getD [])) k]?.getD []) (xss[k + 1]?.getD []) with
    | true =>
      rw [if_pos rfl]
      rcases Nat.lt_or_eq_of_le h with h | h
      · have h1 := max_ge xss k i (Nat.lt_succ_iff.mp h)
        refine lexB_le_trans (y := xss[argBest (fun i j => lexB (xss[j]?.getD []) (xss[i]?.getD [])) k]?.getD []) h1 ?_
        cases h2 : lexB (xss[k + 1]?.getD []) (xss[argBest (fun i j => lexB (xss[j]?.getD []) (xss[i]?.getD [])) k]?.getD []) with
        | false => rfl
        | true => rw [← lexB_irrefl (xss[k + 1]?.getD []), lexB_trans _ _ _ h2 hb]
      · rw [h]; exact lexB_irrefl _
    | false =>
      rw [if_neg Bool.false_ne_true]
      rcases Nat.lt_or_eq_of_le h with h | h
      · exact max_ge xss k i (Nat.lt_succ_iff.mp h)
      · rw [h]; exact hb
theorem min_max_le (xss : List (List Str)) : lexB (maxRow xss) (minRow xss) = false := by
  have h1 := min_le xss (xss.length - 1) 0 (Nat.zero_le _)
  have h2 := max_ge xss (xss.length - 1) 0 (Nat.zero_le _)
  exact lexB_le_trans h1 h2
end Mine
end

section
open PySem PySem.W PyProof.Rows PySem.Calls PySem.Spec
namespace Mine
theorem strs_take : ∀ {vs : List Value} {xs : List Str} (i : Nat), StrsAre vs xs → StrsAre (vs.take i) (xs.take i)
  | _, _, 0, _ => by rw [List.take_zero, List.take_zero]; exact .nil
  | _, _, _ + 1, .nil => by rw [List.take_nil, List.take_nil]; exact .nil
  | _, _, i + 1, .cons y t r => by rw [List.take_succ_cons, List.take_succ_cons]; exact .cons y t (strs_take i r)
theorem pick_upto (vs : List Value) (i : Nat) : slicePick vs.toArray none (some (i : Int)) none = (vs.take i).toArray := by
  have e : sliceBounds none (some (i : Int)) none vs.toArray.size = (((0 : Nat) : Int), ((min i vs.toArray.size : Nat) : Int), 1) := by
    simp only [sliceBounds, Option.getD_none, show (1 : Int) > 0 by decide, if_true, if_neg (show ¬ ((i : Int) < 0) by omega)]
    congr 1
    congr 1
    omega
  rw [kmk_pick_nat _ e]
  show ((vs.drop 0).take (min i vs.toArray.size - 0)).toArray = _
  rw [List.drop_zero, Nat.sub_zero, List.size_toArray, kmk_take_min]
theorem pick_from (vs : List Value) (i : Nat) : slicePick vs.toArray (some (i : Int)) none none = (vs.drop i).toArray := by
  have e : sliceBounds (some (i : Int)) none none vs.toArray.size = (((min i vs.toArray.size : Nat) : Int), ((vs.toArray.size : Nat) : Int), 1) := by
    simp only [sliceBounds, Option.getD_none, show (1 : Int) > 0 by decide, if_true, if_neg (show ¬ ((i : Int) < 0) by omega)]
    congr 1
    omega
  rw [kmk_pick_nat _ e]
  show ((vs.drop (min i vs.toArray.size)).take (vs.toArray.size - min i vs.toArray.size)).toArray = _
  rw [List.size_toArray, kmk_drop_min, List.take_of_length_le (by rw [List.length_drop]; omega)]
theorem sum_short : ∀ (xs : List Str), (∀ y ∈ xs, y.length ≤ 3) → (xs.map (·.length)).sum ≤ xs.length * 3
  | [], _ => Nat.zero_le _
  | x :: xs, h => by
    have h1 := sum_short xs fun y hy => h y (.tail _ hy)
    have h2 := h x (.head _)
    simp only [List.map_cons, List.sum_cons, List.length_cons, Nat.succ_mul]
    omega
theorem slash1 : (Str.ofString "/").length = 1 := by decide +kernel
theorem join_short {xs : List Str} (h : ∀ y ∈ xs, y.length ≤ 3) (hl : xs.length ≤ 80) : (Txt.join (Str.ofString "/") xs).length ≤ 1000 := by
  have h1 := StrLaws.join_length_le (Str.ofString "/") xs
  have h2 := sum_short xs h
  show (Builtin.Str.glued _ _).length ≤ _
  rw [StrLaws.glued_eq_join]
  rw [slash1] at h1
  omega
section
variable {prog : Program} {w : World} {A : Around} {E : Value → Shared → Prop} {s : Shared} {h₀ : Heap} {L a : Addr} {m : Str → Option Value} {news : List (Addr × Obj)}
theorem join_K {vs : List Value} {xs : List Str} {t : Tok} {o : Obj} {k : Nat} {Q : Value → Shared → Prop} (F : Fr h₀ L s.heap m) (N : News h₀ L s.heap news) (hm : (a, o) ∈ news) (ho : o.cls = .type "list") (hd : o.data = .seq vs.toArray k)
    (hs : StrsAre vs xs) (hx : ∀ y ∈ xs, y.length ≤ 3) (hl : xs.length ≤ 80)
    (h : ∀ t' k, Fr h₀ L s.heap m → News h₀ L s.heap news → (Txt.join (Str.ofString "/") xs).length ≤ 1000 → Q (.str (Txt.join (Str.ofString "/") xs) t') { s with toks := k }) :
    wpAny (model prog w) A (call (.builtin "str.join") [.str (Str.ofString "/") t, .ref a]) Q E s := by
  refine join_list (items := vs.toArray) ⟨o, (N _ hm).1, ho, k, hd⟩ hs ?_ fun t' k => h t' k F N (join_short hx hl)
  have h2 := sum_short xs hx
  rw [slash1]; omega
end
end Mine
end

section
open PySem PySem.W PyProof.Rows PySem.Calls PySem.Spec
namespace Mine
section
variable {prog : Program} {w : World} {A : Around} {E : Value → Shared → Prop} {s : Shared} {env : Env} {h₀ : Heap} {target : Expr} {body : List Stmt} {Q : Flow → Shared → Prop}
/-- a loop over enumerate of a list of any length -/
theorem items_ind {ws : List (Addr × String)} {keep : List (Addr × Obj)} {vs : List Value} {m₀ : Str → Option Value} {news : List (Addr × Obj)} (Inv : Nat → (Str → Option Value) → Prop) (h0 : Inv 0 m₀)
    (fin : ∀ m, Inv vs.length m → ItemsRest prog w A E h₀ env target body Q s ws keep [] m news)
    (step : ∀ i v m r, vs[i]? = some v → Inv i m → (∀ m', Inv (i + 1) m' → ItemsRest prog w A E h₀ env target body Q s ws keep r m' news) → ItemsRest prog w A E h₀ env target body Q s ws keep (.pair (fun t => .int (i : Int) t) v :: r) m news) :
    ItemsRest prog w A E h₀ env target body Q s ws keep (enumItems 0 vs) m₀ news := by
  have H : ∀ (us : List Value) (i : Nat) (m : Str → Option Value), i + us.length = vs.length → vs.drop i = us → Inv i m → ItemsRest prog w A E h₀ env target body Q s ws keep (enumItems i us) m news := by
    intro us
    induction us with
    | nil => intro i m e _ hi; exact fin m (by rw [← e]; exact hi)
    | cons v r ih =>
      intro i m e hd hi
      have hv : vs[i]? = some v := by rw [← List.head?_drop, hd]; rfl
      exact step i v m _ hv hi fun m' h' => ih (i + 1) m' (by rw [← e, List.length_cons]; omega) (by rw [← List.tail_drop, hd]; rfl) h'
  exact H vs 0 m₀ (Nat.zero_add _) rfl h0
end
end Mine
end

section
namespace Mine
theorem rst_S9t : True := by w_top off; trivial
end Mine
open PySem PySem.W PyProof.Rows PySem.Calls PySem.Spec
namespace Mine

def cpTail : List Stmt := (tryBody ((bodyAt 18).drop 3)).drop 3
set_option maxRecDepth 100000 in
set_option maxHeartbeats 8000000 in
theorem cp_tail {w : World} {s₀ : Shared} {mg mb : Str → Option Value} {dp un : Nat} {gd : Option (List Code)} {cn : Str} {cs : Scope} {a : Addr} {ccd : Value} {cl : List (Str × Addr)} {outer : List Env} {h₀ : Heap} {L L' : Addr} {m : Str → Option Value} {news : List (Addr × Obj)} {s : Shared} {Q : Flow → Shared → Prop} 
    {D : Addr} {vs : List Value} {xss : List (List Str)} {c : Nat} {oS : Obj} {tS : Tok} :
    (hd.heap_39 w.params).In h₀ → Top hd.view_39 (looseW hd.view_39 []) (ExcName.means s₀.heap) mg mb h₀ →
    Fr h₀ L' s.heap m → News h₀ L' s.heap news → dp + 4 < recursionLimit → un + 40 < cLine →
    m (Str.ofString "split_paths") = some (.ref D) → m (Str.ofString "isabs") = some (.bool true) → (D, W.listOf vs.toArray c) ∈ news → (L' + 1, oS) ∈ news → oS.data = .cell (some (.str (Str.ofString "/") tS)) →
    RowsIn news vs xss → 0 < vs.length → (∀ x ∈ xss, x.length ≤ 80) → (∀ x ∈ xss, ∀ y ∈ x, y.length ≤ 3) →
    (∀ h' tk' t' m', Fr h₀ L' h' m' → Q (.ret (.str (Str.ofString "/" ++ Txt.join (Str.ofString "/") (lcp (minRow xss) (maxRow xss))) t')) { s with heap := h', toks := tk' }) →
    wpAny (model PySem.Challenge.rw_rt0029_01.row.prog w) ((ktrTop dp un gd cn cs L a ccd cl outer).deeper (envOfC (Str.ofString "commonpath") cpScope L' 134 (.ref 133))) (execs cpTail (envOfC (Str.ofString "commonpath") cpScope L' 134 (.ref 133))) Q (fun _ _ => False) s := by
  k_fill
  intro X T F N hd hu hm1 hm2 hD hS hSd hR hn hb1 hb2 hret
  (conv in (occs := *) cpScope => all_goals whnf)
  (conv in cpTail => whnf)
  replace F := ksw_fr (stored := []) (m₀ := m) (ps := [(Str.ofString "split_paths", .ref D), (Str.ofString "isabs", .bool true)]) (List.forall_mem_cons.mpr ⟨hm1, List.forall_mem_singleton.mpr hm2⟩) (fun _ _ _ => rfl) F
  dsimp only [kstB] at F
  repeat' ((fail_if_success (with_reducible show wpAny _ _ (call (Value.builtin "min") _ _) _ _ _)); first | (k_unfold; (try dsimp only)) | (k_end; wrow_close) | walk1 | (dsimp only; walk1) | (dsimp only; k_unfold; (try dsimp only)) | (leave1; try dsimp only) | fail "no step")
  (rename Fr h₀ _ _ _ => F3)
  (rename News h₀ _ _ _ => N3)
  (with_unfolding_all refine' min_K rfl ?hu F3 N3 hD hR hn ?_)
  (case hu => ktr_units)
  clear F3 N3
  intro i1 a1 us1 k1 r1 h8 tk8 hb1' hr1 hm1' hS1 F3 N3
  repeat' ((fail_if_success (with_reducible show wpAny _ _ (call (Value.builtin "max") _ _) _ _ _)); first | (k_unfold; (try dsimp only)) | (k_end; wrow_close) | walk1 | (dsimp only; walk1) | (dsimp only; k_unfold; (try dsimp only)) | (leave1; try dsimp only) | fail "no step")
  (rename Fr h₀ _ _ _ => F4)
  (rename News h₀ _ _ _ => N4)
  (with_unfolding_all refine' max_K rfl ?hu F4 N4 hD hR hn ?_)
  (case hu => ktr_units)
  clear F4 N4
  intro i2 a2 us2 k2 r2 h7 tk7 hb2' hr2 hm2' hS2 F5 N5
  have e1 : r1 = minRow xss := by unfold minRow; rw [← hR.1, ← hb1', hr1]; rfl
  have e2 : r2 = maxRow xss := by unfold maxRow; rw [← hR.1, ← hb2', hr2]; rfl
  have hle : lexB r2 r1 = false := by rw [e1, e2]; exact min_max_le xss
  have hz1 := hb1 r1 (List.mem_of_getElem? hr1)
  have hz2 := hb1 r2 (List.mem_of_getElem? hr2)
  have hy1 := hb2 r1 (List.mem_of_getElem? hr1)
  have hy2 := hb2 r2 (List.mem_of_getElem? hr2)
  rw [← e1, ← e2] at hret
  have N7 : News h₀ L' h7 [(a1, W.listOf us1.toArray k1), (a2, W.listOf us2.toArray k2), (L' + 1, oS)] := drop_news N5 (List.forall_mem_cons.mpr ⟨hm1', List.forall_mem_cons.mpr ⟨hm2', List.forall_mem_singleton.mpr hS⟩⟩)
  clear N5 hm1' hm2' hD hS hR hn hb1 hb2 hr1 hr2 hb1' hb2' hm1 hm2 e1 e2
  repeat' ((fail_if_success (with_reducible show wpAny _ _ (exec (Stmt.For _ _ _ _ _) _) _ _ _)); first | (k_unfold; (try dsimp only)) | (k_end; wrow_close) | walk1 | (dsimp only; walk1) | (dsimp only; k_unfold; (try dsimp only)) | (leave1; try dsimp only) | fail "no step")
  (rename Fr h₀ _ _ _ => F6)
  (rename News h₀ _ _ _ => N6)
  (with_unfolding_all refine' For_turns F6 ?_)
  repeat' ((fail_if_success (with_reducible show wpAny _ _ (call (Value.type "enumerate") _ _) _ _ _)); first | (k_unfold; (try dsimp only)) | (k_end; wrow_close) | walk1 | (dsimp only; walk1) | (dsimp only; k_unfold; (try dsimp only)) | (leave1; try dsimp only) | fail "no step")
  (rename Fr h₀ _ _ _ => F8)
  (rename News h₀ _ _ _ => N8)
  (with_unfolding_all refine' ktu_enum rfl F8 N8 (.head _) rfl rfl rfl ?_)
  clear F8 N8
  intro I0 hI0
  refine items_ind (fun i m => (m (Str.ofString "common") = some (.ref a1) ∧ m (Str.ofString "s1") = some (.ref a1) ∧ m (Str.ofString "s2") = some (.ref a2) ∧ m (Str.ofString "isabs") = some (.bool true)) ∧ r1.take i = r2.take i) ?_ ?_ ?_
  · exact ⟨⟨by with_unfolding_all rfl, by with_unfolding_all rfl, by with_unfolding_all rfl, by with_unfolding_all rfl⟩, rfl⟩
  · intro m9 hm9
    obtain ⟨⟨q1, q2, q3, q4⟩, q5⟩ := hm9
    have hlc : lcp r1 r2 = r1 := lcp_all r1 r2 (by rw [hS1.length, List.take_length] at q5; exact q5)
    rw [hlc] at hret
    refine ItemsRest.zero ?_
    intro h9 tk9 F9 N9
    replace F9 := ksw_fr (stored := []) (m₀ := m9) (ps := [(Str.ofString "common", .ref a1), (Str.ofString "isabs", .bool true)]) (List.forall_mem_cons.mpr ⟨q1, List.forall_mem_singleton.mpr q4⟩) (fun _ _ _ => rfl) F9
    dsimp only [kstB] at F9
    (try dsimp only)
    repeat' ((fail_if_success (with_reducible show wpAny _ _ (call (Value.builtin "str.join") _ _) _ _ _)); first | (k_unfold; (try dsimp only)) | (k_end; wrow_close) | walk1 | (dsimp only; walk1) | (dsimp only; k_unfold; (try dsimp only)) | (leave1; try dsimp only) | fail "no step")
    (rename Fr h₀ _ _ _ => F3)
    (rename News h₀ _ _ _ => N3)
    (with_unfolding_all refine' join_K F3 N3 (.head _) rfl rfl hS1 hy1 hz1 ?_)
    clear F3 N3
    intro tj kj F3 N3 hj
    repeat' (first | (k_unfold; (try dsimp only)) | (k_end; wrow_close) | walk1 | (dsimp only; walk1) | (dsimp only; k_unfold; (try dsimp only)) | (leave1; try dsimp only) | fail "no step")
    exact hret _ _ _ _ F3
  · intro i9 v9 m9 rr hv9 hm9 ih9
    obtain ⟨⟨q1, q2, q3, q4⟩, q5⟩ := hm9
    refine ItemsRest.pair ?_
    intro T9 t9 h9 tk9 hT9 F9
    refine AllObj.cons fun oE hE9 => AllObj.cons fun oI hI9 => AllObj.nil ?_
    intro N9
    dsimp only [List.cons_append, List.nil_append] at N9
    replace F9 := ksw_fr (stored := []) (m₀ := m9) (ps := [(Str.ofString "common", .ref a1), (Str.ofString "s1", .ref a1), (Str.ofString "s2", .ref a2), (Str.ofString "isabs", .bool true)]) (List.forall_mem_cons.mpr ⟨q1, List.forall_mem_cons.mpr ⟨q2, List.forall_mem_cons.mpr ⟨q3, List.forall_mem_singleton.mpr q4⟩⟩⟩) (fun _ _ _ => rfl) F9
    dsimp only [kstB] at F9
    obtain ⟨y9, ty9, rfl, hy9⟩ := hS1.item i9 v9 hv9
    have hi9 : i9 < r2.length := lex_goes r1 r2 i9 hle q5 (List.getElem?_eq_some_iff.mp hy9).1
    obtain ⟨tz9, hz9⟩ := hS2.get i9 r2[i9] (List.getElem?_eq_getElem hi9)
    repeat' ((fail_if_success (with_reducible show UnrEndW _ _ _ _ _ _)); (fail_if_success (with_reducible show wpAny _ _ (call (Value.builtin "str.join") _ _) _ _ _)); first | (k_unfold; (try dsimp only)) | (k_end; wrow_close) | walk1 | (dsimp only; walk1) | (dsimp only; k_unfold; (try dsimp only)) | (leave1; try dsimp only) | fail "no step")
    · have e8 : y9 ≠ r2[i9] := by
        have e7 : (y9 != r2.getD (i9 : Int).toNat Str.empty) = true := by assumption
        rw [bne_iff_ne, List.getD_eq_getElem?_getD, Int.toNat_natCast, List.getElem?_eq_getElem hi9] at e7
        exact e7
      have hlc : lcp r1 r2 = r1.take i9 := lcp_break r1 r2 i9 q5 hy9 (List.getElem?_eq_getElem hi9) e8
      rw [hlc] at hret
      (rename Fr h₀ _ _ _ => F3)
      (rename News h₀ _ _ _ => N3)
      (with_unfolding_all refine' join_K (vs := us1.take i9) F3 N3 (.head _) rfl ?hd (strs_take i9 hS1) (fun y hy => hy1 y (List.mem_of_mem_take hy)) (by rw [List.length_take]; omega) ?_)
      (case hd => exact congrArg (fun z => Data.seq z 0) (pick_upto us1 i9))
      clear F3 N3
      intro tj kj F3 N3 hj
      repeat' (first | (k_unfold; (try dsimp only)) | (k_end; wrow_close) | walk1 | (dsimp only; walk1) | (dsimp only; k_unfold; (try dsimp only)) | (leave1; try dsimp only) | fail "no step")
      exact hret _ _ _ _ F3
    · have e8 : y9 = r2[i9] := by
        have e7 : (y9 != r2.getD (i9 : Int).toNat Str.empty) = false := by assumption
        rw [bne_eq_false_iff_eq, List.getD_eq_getElem?_getD, Int.toNat_natCast, List.getElem?_eq_getElem hi9] at e7
        exact e7
      (rename Fr h₀ _ _ _ => F3)
      (rename News h₀ _ _ _ => N3)
      refine ⟨_, _, _, [(a1, W.listOf us1.toArray k1), (a2, W.listOf us2.toArray k2), (L' + 1, oS)], rfl, F3, N3, ?_, ⟨.head _, trivial⟩, ih9 _ ⟨⟨by with_unfolding_all rfl, by with_unfolding_all rfl, by with_unfolding_all rfl, by with_unfolding_all rfl⟩, ?_⟩⟩
      · intro p hp q hq
        have h1 := hI0 p hp
        rcases List.mem_cons.mp hq with rfl | hq
        · exact Nat.ne_of_lt (Nat.lt_succ_of_lt h1)
        · rw [List.mem_singleton.mp hq]; exact Nat.ne_of_lt h1
      · rw [List.take_add_one, List.take_add_one, q5, hy9, List.getElem?_eq_getElem hi9, e8]
end Mine
end

section
open PySem PySem.W PyProof.Rows PySem.Calls PySem.Spec
set_option maxRecDepth 100000
namespace Mine
theorem map_nolen : typeLookup (.type "map") "__len__" = pure none := by rw [typeLookup_type, builtinLookup_eq_fast]; kernel_rfl
theorem map_nohint : typeLookup (.type "map") "__length_hint__" = pure none := by rw [typeLookup_type, builtinLookup_eq_fast]; kernel_rfl
theorem map_mro : mroOf (.type "map") = pure [.type "map", .type "object"] := by rw [mroOf_type]; kernel_rfl
theorem map_new_at : typeLookup (.type "map") "__new__" = pure (some (.builtin "map.__new__")) := by rw [typeLookup_type, builtinLookup_eq_fast]; kernel_rfl
theorem map_init : Slot "map" "__init__" "object.__init__" :=
  .of (owner := "object") (n := "__init__") (by rw [typeLookup_type, builtinLookup_eq_fast]; kernel_rfl) (by decide +kernel) (by decide +kernel) (by decide +kernel)
    (by first | exact .inl (by decide +kernel) | exact .inr (by decide +kernel)) (by rw [isSubtype_type]; kernel_rfl)
theorem map_next : Slot "map" "__next__" "map.__next__" :=
  .of (owner := "map") (n := "__next__") (by rw [typeLookup_type, builtinLookup_eq_fast]; kernel_rfl) (by decide +kernel) (by decide +kernel) (by decide +kernel)
    (by first | exact .inl (by decide +kernel) | exact .inr (by decide +kernel)) (by rw [isSubtype_type]; kernel_rfl)
theorem map_iter : Slot "map" "__iter__" "map.__iter__" :=
  .of (owner := "map") (n := "__iter__") (by rw [typeLookup_type, builtinLookup_eq_fast]; kernel_rfl) (by decide +kernel) (by decide +kernel) (by decide +kernel)
    (by first | exact .inl (by decide +kernel) | exact .inr (by decide +kernel)) (by rw [isSubtype_type]; kernel_rfl)
theorem map_next_entry : entryFor table "map.__next__" = some Builtin.«map.__next__» := entryFor_of_tree (by kernel_rfl)
theorem map_new_entry : entryFor table "map.__new__" = some Builtin.«map.__new__» := entryFor_of_tree (by kernel_rfl)
theorem map_iter_entry : entryFor table "map.__iter__" = some Builtin.«dict_keyiterator.__iter__» :=
  entryFor_alias (id' := "dict_keyiterator.__iter__") (by kernel_rfl) (by first | rfl | decide +kernel | (unfold String.splitOn; simp +decide [String.splitOnAux])) (by decide +kernel) (by kernel_rfl)
theorem map_called : TypeCalled "map" "map.__new__" "object.__init__" :=
  ⟨by decide +kernel, by decide +kernel, ⟨_, _, map_mro⟩, madeBy_type map_mro map_new_at (by decide +kernel), by decide +kernel, by rw [isSubtype_type]; kernel_rfl, map_init⟩
theorem map_tcall (a b : Value) : checkTypeCall "map" ⟨[a, b], []⟩ = pure () := by kernel_rfl
theorem map_ncall (a b : Value) : checkBuiltinCall "map.__new__" ⟨[.type "map", a, b], []⟩ = pure () := by kernel_rfl
theorem map_sub : isSubtype (.type "map") (.type "map") = pure true := by rw [isSubtype_type]; kernel_rfl
end Mine
end

section
namespace Mine
theorem rst_MapU : True := by w_top off; trivial
end Mine
local macro_rules | `(tactic| walk_at "mine pad") => `(tactic| fail "pad")
open PySem PySem.W PyProof.Rows PySem.Calls PySem.Spec
set_option maxRecDepth 100000
namespace Mine
theorem map_own : Manifest.owners.lookup (String.ofList ['p', 'a', 'm'].reverse) = some Manifest.sig_map := by kernel_rfl
theorem map_next_args (a : Value) : argsOk "map.__next__" ⟨[a], []⟩ := by
  unfold argsOk; rw [signature?_of (id := "map.__next__") (n := ['_', '_', 't', 'x', 'e', 'n', '_', '_']) (o := ['p', 'a', 'm']) (by kernel_rfl) map_own]; kernel_rfl
theorem map_iter_args (a : Value) : argsOk "map.__iter__" ⟨[a], []⟩ := by
  unfold argsOk; rw [signature?_of (id := "map.__iter__") (n := ['_', '_', 'r', 'e', 't', 'i', '_', '_']) (o := ['p', 'a', 'm']) (by kernel_rfl) map_own]; kernel_rfl

abbrev mapO (J : Addr) (f : Value) : Obj := { cls := .type "map", data := .fields #[.ref J, f] }
abbrev tupO (vs : Array Value) : Obj := { cls := .type "tuple", data := .seq vs }
abbrev itl (l : Addr) : Obj := { cls := .type "list_iterator", data := .fields #[.ref l, .int 0 0] }

section
variable {prog : Program} {w : World} {A : Around} {E : Value → Shared → Prop} {s : Shared}

abbrev mapH1 (h : Heap) (l : Addr) : Heap := h.push (itl l)
abbrev mapH2 (h : Heap) (l : Addr) : Heap := (mapH1 h l).push (tupO #[.ref h.objs.size])
abbrev mapH3 (h : Heap) (l : Addr) (f : Value) : Heap := (mapH2 h l).push (mapO (mapH1 h l).objs.size f)

theorem map_new_meets (l : Addr) (f : Value) (xs : Array Value) :
    Meets (Builtin.«map.__new__» ⟨[.type "map", f, .ref l], []⟩) (fun _ R s => s.heap.IsList l xs ∧ R (.ok (.ret (.ref (mapH2 s.heap l).objs.size))) { s with heap := mapH3 s.heap l f }) :=
  .of_wp fun prog w A R s h => by
    obtain ⟨hp, g, d, tk, os⟩ := s; obtain ⟨hl1, h⟩ := h
    have hsub := map_sub
    have hL1 : Heap.IsList (Shared.heap ⟨hp, g, d, tk, os⟩) l xs := hl1
    wp_walk using wpAny_pyIter_list hL1
    exact ⟨_, rfl, h⟩

theorem call_map {l : Addr} {f : Value} {xs : Array Value} {Q : Value → Shared → Prop} (hl : s.heap.IsList l xs)
    (h : Q (.ref (mapH2 s.heap l).objs.size) { s with heap := mapH3 s.heap l f }) : wpAny (model prog w) A (call (.type "map") [f, .ref l]) Q E s := by
  refine callType_new map_called (by decide) (map_tcall _ _) (map_ncall _ _) (fun obj => F.args_object_init_3 obj _ _) map_new_entry (map_new_meets l f xs) ⟨hl, ?_⟩
  exact ⟨⟨_, Heap.get?_push_size _ rfl, rfl⟩, h⟩

/-- one turn of a map over a list -/
theorem map_item {M J It l : Addr} {f : Value} {xs : Array Value} {x : Value} {i : Nat} {Q : Value → Shared → Prop} (hM : s.heap.get? M = some (mapO J f)) (hJ : s.heap.get? J = some (tupO #[.ref It]))
    (hI : s.heap.IsListIter It l i) (hl : s.heap.IsList l xs) (hx : xs[i]? = some x)
    (hf : ∀ h', h'.IsListIter It l (i + 1) → Heap.SameBut It s.heap h' → wpAny (model prog w) A (call f [x]) Q E { s with heap := h' }) :
    wpAny (model prog w) A (Builtin.«map.__next__» ⟨[.ref M], []⟩) (fun fin s' => ∃ v, fin = .done (.ret v) ∧ Q v s') E s := by
  show wpAny _ _ (field (.ref M) 0 >>= _) _ _ _
  refine wpAny_bind (wpAny_field hM rfl (x := .ref J) rfl ?_)
  refine wpAny_bind (wpAny_seqItems hJ rfl ?_)
  simp only [List.forIn_toArray, List.forIn_cons, List.forIn_nil, bind_assoc, pure_bind]
  refine wpAny_bind (wpAny_holding ?_)
  refine wpAny_nextOf_list_item hI hl hx fun h' hI' hs' => ?_
  have hMI : M ≠ It := fun e => by obtain ⟨o, ho, hc, _⟩ := hI; rw [← e, hM] at ho; cases ho; simp at hc
  refine wpAny_bind (wpAny_field (hs'.extBut _ _ hMI hM) rfl (x := f) rfl ?_)
  refine wpAny_bind (wpAny_holding (wpAny_mono (hf h' hI' hs') (fun v s' hv => ?_) fun _ _ e => e))
  refine wpAny_bind (wpAny_letGo (wpAny_pure ⟨v, rfl, hv⟩))

theorem map_end {M J It l : Addr} {f : Value} {xs : Array Value} {i : Nat} {Q : Fin → Shared → Prop} (hh : A.handled = none) (hM : s.heap.get? M = some (mapO J f)) (hJ : s.heap.get? J = some (tupO #[.ref It]))
    (hI : s.heap.IsListIter It l i) (hl : s.heap.IsList l xs) (hx : xs[i]? = none)
    (hE : ∀ h' e, Heap.ExtBut It s.heap h' → (∃ o, h'.get? e = some o ∧ o.cls = .type "StopIteration") → E (.ref e) { s with heap := h' }) :
    wpAny (model prog w) A (Builtin.«map.__next__» ⟨[.ref M], []⟩) Q E s := by
  show wpAny _ _ (field (.ref M) 0 >>= _) _ _ _
  refine wpAny_bind (wpAny_field hM rfl (x := .ref J) rfl ?_)
  refine wpAny_bind (wpAny_seqItems hJ rfl ?_)
  simp only [List.forIn_toArray, List.forIn_cons, List.forIn_nil, bind_assoc, pure_bind]
  refine wpAny_bind (wpAny_holding ?_)
  exact wpAny_nextOf_list_end hh hI hl hx hE

/-- what stands while a map over a list is drawn from -/
def MapSt (hB : Heap) (It l : Addr) (i : Nat) (s : Shared) : Prop := s.heap.IsListIter It l i ∧ ∀ b o, b ≠ It → hB.get? b = some o → s.heap.get? b = some o

theorem walks_map {hB : Heap} {M J It l : Addr} {f : Value} {xs : Array Value} {P : Nat → Value → Prop} (hh : A.handled = none) (hM : hB.get? M = some (mapO J f)) (hJ : hB.get? J = some (tupO #[.ref It])) (hl : hB.IsList l xs) (hI : hB.IsListIter It l 0)
    (hf : ∀ i x (s : Shared) (Q : Value → Shared → Prop) (E : Value → Shared → Prop), xs[i]? = some x → (∀ b o, b ≠ It → hB.get? b = some o → s.heap.get? b = some o) → (∀ v h' tk, P i v → s.heap.StaysIn h' → Q v { s with heap := h', toks := tk }) →
      wpAny (model prog w) A.in1 (call f [x]) Q E s) :
    WalksS prog w A M (List.range hB.objs.size) [It] (fun a b => a = b) xs.size P (MapSt hB It l) where
  sub := fun b hb => by
    obtain ⟨o, ho, _⟩ := hI
    rw [List.mem_singleton.mp hb]
    exact List.mem_range.mpr (Heap.lt_size ho)
  grefl := fun _ => rfl
  gtrans := fun _ _ _ x y => x.trans y
  frame := fun i s h' tk st _ hk => ⟨st.1.at fun o e => hk It (List.mem_range.mpr (by obtain ⟨o, ho, _⟩ := hI; exact Heap.lt_size ho)) o e, fun b o hb e => hk b (List.mem_range.mpr (Heap.lt_size e)) o (st.2 b o hb e)⟩
  item := fun i s Q E hi st hQ => by
    have hMI : M ≠ It := fun e => by obtain ⟨o, ho, hc, _⟩ := hI; rw [← e, hM] at ho; cases ho; simp at hc
    have hJI : J ≠ It := fun e => by obtain ⟨o, ho, hc, _⟩ := hI; rw [← e, hJ] at ho; cases ho; simp at hc
    have hlI : l ≠ It := fun e => by obtain ⟨o, ho, hc, _⟩ := hI; obtain ⟨o', ho', hc', _⟩ := hl; rw [e, ho] at ho'; cases ho'; rw [hc] at hc'; simp at hc'
    have hM' := st.2 _ _ hMI hM
    have hT : s.TypeIs (.ref M) "map" := ⟨_, hM', rfl⟩
    obtain ⟨x, hx⟩ : ∃ x, xs[i]? = some x := ⟨xs[i], Array.getElem?_eq_getElem hi⟩
    unfold pyNext
    refine wpAny_bind (wpAny_attempt (wpAny_callSpecial?_slot (name := Str.ofString "__next__") hT map_next
      (wpAny_call_entry map_next hT map_next_entry (map_item hM' (st.2 _ _ hJI hJ) st.1 (hl.at fun o e => st.2 _ o hlI e) hx fun h' hI' hs' => ?_) (map_next_args _))))
    refine wpAny_with_toks (n := s.toks) (Nat.le_refl _) ?_
    refine hf i x _ _ _ hx (fun b o hb e => hs'.extBut _ _ hb (st.2 b o hb e)) fun v h'' tk hP hk ht => ?_
    refine wpAny_pure (hQ v _ hP ⟨hI'.at fun o e => hk _ o e, fun b o hb e => hk _ _ (hs'.extBut _ _ hb (st.2 b o hb e))⟩ ⟨fun b o hb e => hk _ _ (hs'.extBut _ _ (fun q => hb (List.mem_singleton.mpr q)) e), rfl, rfl, rfl, ht⟩)
  done := fun s Q E st hQ => by
    have hMI : M ≠ It := fun e => by obtain ⟨o, ho, hc, _⟩ := hI; rw [← e, hM] at ho; cases ho; simp at hc
    have hJI : J ≠ It := fun e => by obtain ⟨o, ho, hc, _⟩ := hI; rw [← e, hJ] at ho; cases ho; simp at hc
    have hlI : l ≠ It := fun e => by obtain ⟨o, ho, hc, _⟩ := hI; obtain ⟨o', ho', hc', _⟩ := hl; rw [e, ho] at ho'; cases ho'; rw [hc] at hc'; simp at hc'
    have hM' := st.2 _ _ hMI hM
    have hT : s.TypeIs (.ref M) "map" := ⟨_, hM', rfl⟩
    unfold pyNext
    refine wpAny_bind (wpAny_attempt (wpAny_callSpecial?_slot (name := Str.ofString "__next__") hT map_next
      (wpAny_call_entry map_next hT map_next_entry (map_end hh hM' (st.2 _ _ hJI hJ) st.1 (hl.at fun o e => st.2 _ o hlI e) (by simp) fun h' e hk he => ?_) (map_next_args _))))
    obtain ⟨o, ho, hc⟩ := he
    refine wpAny_bind (wpAny_isInstance (T := "StopIteration") (b := true) ⟨o, ho, hc⟩ isSubtype_stop ?_)
    exact wpAny_pure (hQ _ ⟨fun b o hb e => hk _ _ (fun q => hb (List.mem_singleton.mpr q)) e, rfl, rfl, rfl, Nat.le_refl _⟩)
  self := fun i s Q E st hQ => by
    have hMI : M ≠ It := fun e => by obtain ⟨o, ho, hc, _⟩ := hI; rw [← e, hM] at ho; cases ho; simp at hc
    have hM' := st.2 _ _ hMI hM
    have hT : s.TypeIs (.ref M) "map" := ⟨_, hM', rfl⟩
    refine wpAny_pyIter_slot hT map_iter (wpAny_call_entry map_iter hT map_iter_entry ?_ (map_iter_args _))
    show wpAny _ _ (ret (.ref M)) _ _ s
    exact wpAny_pure ⟨_, rfl, "map", _, hT, map_next.lookup, hQ⟩
end
end Mine
end

section
namespace Mine
theorem rst_MapV : True := by w_top off; trivial
end Mine
open PySem PySem.W PyProof.Rows PySem.Calls PySem.Spec
open AutoSeq1 (wpAny_loadPart')
set_option maxRecDepth 100000
namespace Mine
section
variable {prog : Program} {w : World} {A : Around} {E : Value → Shared → Prop} {s : Shared} {I : Addr} {fp wr : List Addr} {G : Array GenState → Array GenState → Prop} {n : Nat} {P : Nat → Value → Prop} {St : Nat → Shared → Prop}

/-- all that a map gives, in a list -/
theorem collect_map {Q : List Value → Shared → Prop} (W : WalksS prog w A.in1 I fp wr G n P St) (hT : ∀ i s, St i s → s.TypeIs (.ref I) "map") (hst : St 0 s) (hfp : ∀ b ∈ fp, b < s.heap.objs.size) (hI : I ∈ fp)
    (hQ : ∀ s' acc, Moved wr G s s' → ItemsOf P acc n → Q acc.toList s') (hn : n ≤ sizeLine) : wpAny (model prog w) A (collect (.ref I)) Q E s := by
  let eL : Obj := { cls := .type "list", data := .seq ([] : List Value).toArray }
  let S := s.heap.objs.size
  have hSf : S ∉ fp := fun hm => Nat.lt_irrefl _ (hfp _ hm)
  have hSI : S ≠ I := fun e => hSf (e ▸ hI)
  unfold collect
  refine wpAny_bind (wpAny_runValue (codeAny_builtin F.entry_proto_collect ?_))
  rw [Around.under_plainId F.plain_proto_collect _]
  show wpAny _ A.in1 (newList [] >>= fun l => again (.builtin "list.__iadd__" ⟨[l, .ref I], []⟩)) _ _ s
  refine wpAny_bind (wpAny_newObj_type ?_)
  refine wpAny_pure ⟨plainId_quiet F.plain_list_iadd _, codeAny_builtin F.entry_list_iadd ?_⟩
  rw [Around.under_plainId F.plain_list_iadd _]
  have st1 := W.frame 0 s (s.heap.push eL) s.toks hst (Nat.le_refl _) fun b _ o e => Heap.get?_push_of_some _ e
  have g1 : (s.heap.push eL).get? S = some eL := Heap.get?_push_size _ rfl
  show wpAny _ A.in1 (Builtin.List.listExtendWith (.ref S) (.ref I) (.ref S)) _ _ _
  unfold Builtin.List.listExtendWith
  refine wpAny_bind (wpAny_typeOf (hT 0 _ st1) ?_)
  rw [if_neg (by rw [show Builtin.List.listSameRef (.ref S) (.ref I) = false by simp [Builtin.List.listSameRef, hSI]]; decide)]
  refine wpAny_bind (W.self 0 _ _ _ st1 ?_)
  refine wpAny_bind (wpAny_holding ?_)
  unfold Builtin.List.listLengthHint
  refine wpAny_bind (wpAny_specialOf (hT 0 _ st1) map_nolen ?_)
  show wpAny _ A.in1 (specialOf (Value.ref I) (Str.ofString "__length_hint__") >>= _) _ _ _
  refine wpAny_bind (wpAny_specialOf (hT 0 _ st1) map_nohint ?_)
  refine wpAny_pure ?_
  show wpAny _ A.in1 (rule "list.extend.makes-room" >>= fun _ => (updateSeq S (·.push .none) >>= fun _ => updateSeq S (·.pop)) >>= fun _ =>
    again (.builtin "list.extend.loop" ⟨[.ref S, .ref I, .ref S], []⟩)) _ _ _
  refine wpAny_bind (wpAny_rule (wpAny_bind (wpAny_bind (wpAny_updateSeq g1 rfl ?_))))
  have g2 := Heap.get?_update_self (Obj.mapSeq (·.push Value.none)) g1 rfl
  refine wpAny_updateSeq g2 rfl ?_
  have g3 := Heap.get?_update_self (Obj.mapSeq (·.pop)) g2 rfl
  have ap : ∀ b o, b ≠ S → (s.heap.push eL).get? b = some o → (((s.heap.push eL).update S (Obj.mapSeq (·.push Value.none))).update S (Obj.mapSeq (·.pop))).get? b = some o :=
    fun b o hb e => (Heap.get?_update_other _ _ (Ne.symm hb)).trans ((Heap.get?_update_other _ _ (Ne.symm hb)).trans e)
  have st3 := W.frame 0 ({ s with heap := s.heap.push eL } : Shared) _ s.toks st1 (Nat.le_refl _) fun b hb o e => ap b o (fun q => hSf (q ▸ hb)) e
  refine wpAny_pure ⟨plainId_quiet F.plain_extend_loop _, codeAny_extend_loopS W hn S hSf _ n 0 _ _ _ rfl (Nat.zero_le _) st3 g3 (ItemsOf.nil P) fun s' acc' c' hm hS' hacc => ?_⟩
  show wpAny _ A (load S >>= _) _ _ s'
  refine wpAny_bind (wpAny_load hS' (wpAny_pure (hQ s' acc' (Moved.drop_new (o := eL) (tk := s.toks) (Moved.trans W.gtrans ((Moved.refl W.grefl).then_heap (Nat.le_refl _) fun b o hb e => ?_) hm) (Nat.le_refl _)) hacc)))
  exact ap b o (fun q => hb (q ▸ List.mem_cons_self)) e

theorem code_tuple_map {Q₁ : Value → Shared → Prop} (W : WalksS prog w A.in1.in1 I fp wr G n P St) (hT : ∀ i s, St i s → s.TypeIs (.ref I) "map") (hst : St 0 s) (hfp : ∀ b ∈ fp, b < s.heap.objs.size) (hI : I ∈ fp)
    (h : ∀ s' acc, Moved wr G s s' → ItemsOf P acc n → Q₁ (.ref s'.heap.objs.size) { s' with heap := s'.heap.push { cls := .type "tuple", data := .seq acc } }) (hsz : n ≤ sizeLine) :
    codeAny (model prog w) A (.call (.builtin "tuple.__new__") ⟨[.type "tuple", .ref I], []⟩) (wants Q₁ E) s := by
  refine codeAny_of_tree ?_
  show wpAny _ A.in1 (do checkBuiltinCall "tuple.__new__" ⟨[.type "tuple", .ref I], []⟩; again (.builtin "tuple.__new__" ⟨[.type "tuple", .ref I], []⟩)) _ _ s
  refine wpAny_bind (wpAny_of_eq (F.newCall_tuple_1 _) (wpAny_pure ⟨plainId_quiet F.plain_tuple_new _, codeAny_builtin F.entry_tuple_new ?_⟩))
  rw [Around.under_plainId F.plain_tuple_new _]
  have hsub := sub_tuple_self
  have hinit := init_tuple_lookup
  have hmh := madeHere_tuple
  have hTI := hT 0 s hst
  wp_walk using wpAny_typeOf hTI, collect_map (hn := hsz) W hT hst hfp hI
  intro s' acc hm hacc
  show wpAny _ _ (Builtin.Tuple.tupleExact acc.toList.toArray >>= fun v => ret v) _ _ _
  unfold Builtin.Tuple.tupleExact
  have e : acc.toList.toArray = acc := by simp
  rw [e]
  exact wpAny_bind (wpAny_newObj_type (wpAny_pure (h s' acc hm hacc)) (by show acc.size ≤ sizeLine; rw [hacc.1]; exact hsz))

theorem call_tuple_map {Q : Value → Shared → Prop} (W : WalksS prog w A.in1.in1.in1 I fp wr G n P St) (hT : ∀ i s, St i s → s.TypeIs (.ref I) "map") (hst : St 0 s) (hfp : ∀ b ∈ fp, b < s.heap.objs.size) (hI : I ∈ fp)
    (hQ : ∀ s' acc, Moved wr G s s' → ItemsOf P acc n → Q (.ref s'.heap.objs.size) { s' with heap := s'.heap.push { cls := .type "tuple", data := .seq acc } }) (hsz : n ≤ sizeLine) :
    wpAny (model prog w) A (call (.type "tuple") [.ref I]) Q E s := by
  refine callType_codes (Q₁ := fun obj s₁ => s₁.TypeIs obj "tuple" ∧ Q obj s₁) F.called_tuple (F.typeCall_tuple_1 _) F.entry_object_init
    (code_tuple_map (hsz := hsz) W hT hst hfp hI fun s' acc hm hacc => ⟨⟨_, Heap.get?_push_size _ rfl, rfl⟩, hQ s' acc hm hacc⟩) fun obj s₁ h₁ => ?_
  exact ⟨h₁.1, F.args_object_init_2 obj _, object_init_meets F.called_tuple.init.lookup F.called_tuple.made (by decide) prog w A.in1 _ s₁ ⟨h₁.1, rfl, h₁.2⟩⟩
end

/-- «map» in a frame -/
theorem map_K {prog : Program} {w : World} {A : Around} {E : Value → Shared → Prop} {s : Shared} {h₀ : Heap} {L l : Addr} {m : Str → Option Value} {news : List (Addr × Obj)} {f : Value} {xs : Array Value} {Q : Value → Shared → Prop}
    (F : Fr h₀ L s.heap m) (N : News h₀ L s.heap news) (hl : s.heap.IsList l xs)
    (h : ∀ It J M h', Fr h₀ L h' m → News h₀ L h' ((M, mapO J f) :: (J, tupO #[.ref It]) :: (It, itl l) :: news) → s.heap.StaysIn h' → (∀ p ∈ news, p.1 ≠ It) → Q (.ref M) { s with heap := h' }) :
    wpAny (model prog w) A (call (.type "map") [f, .ref l]) Q E s := by
  refine call_map hl (h _ _ _ _ ((F.push _).push _ |>.push _) (((N.push F _).push (F.push _) _).push ((F.push _).push _) _) ?_ ?_)
  · exact fun b o e => Heap.get?_push_of_some _ (Heap.get?_push_of_some _ (Heap.get?_push_of_some _ e))
  · exact fun p hp => Nat.ne_of_lt (Heap.lt_size (N p hp).1)

/-- «tuple» of a map in a frame: the function it maps changes nothing that stands -/
theorem tuple_map_K {prog : Program} {w : World} {A : Around} {E : Value → Shared → Prop} {s : Shared} {h₀ : Heap} {L l It J M : Addr} {m : Str → Option Value} {news : List (Addr × Obj)} {f : Value} {xs : List Value} {Q : Value → Shared → Prop} {P : Nat → Value → Prop}
    (hh : A.handled = none) (F : Fr h₀ L s.heap m) (N : News h₀ L s.heap ((M, mapO J f) :: (J, tupO #[.ref It]) :: (It, itl l) :: news)) (hl : s.heap.IsList l xs.toArray) (hoff : ∀ p ∈ news, p.1 ≠ It)
    (hf : ∀ i x (s : Shared) (Q : Value → Shared → Prop) (E : Value → Shared → Prop), xs[i]? = some x → Fr h₀ L s.heap m → (∀ v h' tk, P i v → s.heap.StaysIn h' → Q v { s with heap := h', toks := tk }) → wpAny (model prog w) A.in1.in1.in1.in1 (call f [x]) Q E s)
    (hsz : xs.length ≤ sizeLine)
    (h : ∀ D h' tk acc, ItemsOf P acc xs.length → Fr h₀ L h' m → News h₀ L h' ((D, tupO acc) :: news) → Q (.ref D) { s with heap := h', toks := tk }) :
    wpAny (model prog w) A (call (.type "tuple") [.ref M]) Q E s := by
  have zM := N _ (.head _)
  have zJ := N _ (.tail _ (.head _))
  have zI := N _ (.tail _ (.tail _ (.head _)))
  have hMI : M ≠ It := fun e => by have := zM.1; rw [e, zI.1] at this; simp at this
  have hI : s.heap.IsListIter It l 0 := ⟨_, zI.1, rfl, rfl⟩
  have base : ∀ b o, h₀.get? b = some o → b ≠ It := fun b o e q => by have := zI.2.2; rw [← q, e] at this; cases this
  have W := walks_map (prog := prog) (w := w) (A := A.in1.in1.in1) (P := P) (hB := s.heap) hh zM.1 zJ.1 hl hI fun i x s₂ Q₂ E₂ hx hk k => by
    refine hf i x s₂ Q₂ E₂ (by simpa using hx) ?_ k
    obtain ⟨oL, es, ep, hL, hLd, hLk, hLf⟩ := F.ns
    exact ⟨⟨oL, es, ep, hk _ _ (fun q => zI.2.1 q.symm) hL, hLd, hLk, hLf⟩, fun b o e => hk b o (base b o e) (F.keep b o e), F.above⟩
  have hn : xs.toArray.size = xs.length := by simp
  rw [hn] at W
  refine call_tuple_map W (fun i s₂ st => ⟨_, st.2 _ _ hMI zM.1, rfl⟩) ⟨hI, fun b o _ e => e⟩ (fun b hb => List.mem_range.mp hb) (List.mem_range.mpr (Heap.lt_size zM.1)) (fun s' acc hm hacc => ?_) hsz
  obtain ⟨hp, g, d, tk, os⟩ := s'
  obtain ⟨hm1, hm2, hm3, hm4, hm5⟩ := hm
  dsimp only at hm1 hm2 hm3 hm4
  subst hm2 hm3 hm4
  have k1 : ∀ b o, b ≠ It → s.heap.get? b = some o → hp.get? b = some o := fun b o hb e => hm1 b o (fun q => hb (List.mem_singleton.mp q)) e
  obtain ⟨oL, es, ep, hL, hLd, hLk, hLf⟩ := F.ns
  have F1 : Fr h₀ L hp m := ⟨⟨oL, es, ep, k1 _ _ (fun q => zI.2.1 q.symm) hL, hLd, hLk, hLf⟩, fun b o e => k1 b o (base b o e) (F.keep b o e), F.above⟩
  have N1 : News h₀ L hp news := fun p hp' => by
    have z := N p (.tail _ (.tail _ (.tail _ hp')))
    exact ⟨k1 _ _ (hoff p hp') z.1, z.2⟩
  exact h _ _ tk acc hacc (F1.push _) (N1.push F1 _)
theorem items_same {vs : List Value} {acc : Array Value} (h : ItemsOf (fun i v => vs[i]? = some v) acc vs.length) : acc = vs.toArray := by
  refine Array.ext (by simp [h.1]) fun i h1 h2 => ?_
  have z := h.2 i acc[i] (Array.getElem?_eq_getElem h1)
  simp at h2
  simpa [List.getElem?_eq_getElem h2] using z.symm
end Mine
end

section
open PySem PySem.W PyProof.Rows PySem.Calls PySem.Spec
open PySem.Builtin.Str
open PySem.StrLaws
namespace Mine
section
variable {α β : Type} [DecidableEq α]
/-- the beginning that two rows have in common -/
def lcpG : List α → List α → List α
  | x :: xs, y :: ys => if x = y then x :: lcpG xs ys else []
  | _, _ => []
/-- the beginning that rows have in common -/
def comm : List (List α) → List α
  | [] => []
  | [x] => x
  | x :: y :: r => lcpG x (comm (y :: r))
omit [DecidableEq α] in
def IsComm (rows : List (List α)) (c : List α) : Prop := (∀ r ∈ rows, c <+: r) ∧ ∀ a, ¬ ∀ r ∈ rows, (c ++ [a]) <+: r
omit [DecidableEq α] in
theorem comm_uniq {rows : List (List α)} {c d : List α} (hne : rows ≠ []) (h1 : IsComm rows c) (h2 : IsComm rows d) : c = d := by
  obtain ⟨r, rs, rfl⟩ := List.exists_cons_of_ne_nil hne
  have long : ∀ c d : List α, IsComm (r :: rs) c → IsComm (r :: rs) d → ¬ c.length < d.length := by
    intro c d h1 h2 hl
    obtain ⟨t, ht⟩ := List.prefix_of_prefix_length_le (h1.1 r (.head _)) (h2.1 r (.head _)) (Nat.le_of_lt hl)
    cases t with
    | nil => rw [← ht, List.append_nil] at hl; exact Nat.lt_irrefl _ hl
    | cons a t =>
      refine h1.2 a fun x hx => List.IsPrefix.trans ⟨t, ?_⟩ (h2.1 x hx)
      rw [← ht]; simp
  have h3 := long c d h1 h2
  have h4 := long d c h2 h1
  obtain ⟨t, ht⟩ := List.prefix_of_prefix_length_le (h1.1 r (.head _)) (h2.1 r (.head _)) (by omega)
  have h5 := congrArg List.length ht
  rw [List.length_append] at h5
  rw [List.eq_nil_of_length_eq_zero (show t.length = 0 by omega), List.append_nil] at ht
  exact ht
theorem lcpG_left : ∀ x y : List α, lcpG x y <+: x
  | [], _ => by simp [lcpG]
  | _ :: _, [] => by simp [lcpG]
  | x :: xs, y :: ys => by
    rw [lcpG]
    split
    · exact (List.cons_prefix_cons).mpr ⟨rfl, lcpG_left xs ys⟩
    · exact List.nil_prefix
theorem lcpG_right : ∀ x y : List α, lcpG x y <+: y
  | [], _ => by simp [lcpG]
  | _ :: _, [] => by simp [lcpG]
  | x :: xs, y :: ys => by
    rw [lcpG]
    split
    · rename_i e; exact (List.cons_prefix_cons).mpr ⟨e, lcpG_right xs ys⟩
    · exact List.nil_prefix
theorem lcpG_max : ∀ (c x y : List α), c <+: x → c <+: y → c <+: lcpG x y
  | [], _, _, _, _ => List.nil_prefix
  | a :: c, [], _, h, _ => by simp at h
  | a :: c, _ :: _, [], _, h => by simp at h
  | a :: c, x :: xs, y :: ys, h1, h2 => by
    obtain ⟨e1, h1⟩ := List.cons_prefix_cons.mp h1
    obtain ⟨e2, h2⟩ := List.cons_prefix_cons.mp h2
    rw [lcpG, if_pos (e1.symm.trans e2)]
    exact List.cons_prefix_cons.mpr ⟨e1, lcpG_max c xs ys h1 h2⟩
theorem comm_pre : ∀ rows : List (List α), ∀ r ∈ rows, comm rows <+: r
  | [x], r, h => by rw [List.mem_singleton.mp h]; exact List.prefix_rfl
  | x :: y :: rs, r, h => by
    rw [comm]
    rcases List.mem_cons.mp h with rfl | h
    · exact lcpG_left _ _
    · exact (lcpG_right _ _).trans (comm_pre (y :: rs) r h)
theorem comm_max : ∀ (rows : List (List α)) (c : List α), rows ≠ [] → (∀ r ∈ rows, c <+: r) → c <+: comm rows
  | [], _, h, _ => absurd rfl h
  | [x], c, _, h => h x (.head _)
  | x :: y :: rs, c, _, h => lcpG_max c x _ (h x (.head _)) (comm_max (y :: rs) c (List.cons_ne_nil _ _) fun r hr => h r (.tail _ hr))
theorem comm_is {rows : List (List α)} (hne : rows ≠ []) : IsComm rows (comm rows) :=
  ⟨comm_pre rows, fun a h => by
    have := (comm_max rows _ hne h).length_le
    rw [List.length_append, List.length_singleton] at this
    omega⟩
theorem is_comm {rows : List (List α)} {c : List α} (hne : rows ≠ []) (h : IsComm rows c) : c = comm rows := comm_uniq hne h (comm_is hne)
omit [DecidableEq α] in
theorem IsComm.map {rows : List (List α)} {c : List α} {f : α → β} (hne : rows ≠ []) (hf : ∀ r ∈ rows, ∀ r' ∈ rows, ∀ a ∈ r, ∀ b ∈ r', f a = f b → a = b) (h : IsComm rows c) : IsComm (rows.map fun r => r.map f) (c.map f) := by
  refine ⟨fun r hr => ?_, fun b hb => ?_⟩
  · obtain ⟨x, hx, rfl⟩ := List.mem_map.mp hr
    exact (h.1 x hx).map f
  · obtain ⟨r, rs, rfl⟩ := List.exists_cons_of_ne_nil hne
    have at' : ∀ x ∈ r :: rs, ∃ a t, x = c ++ a :: t ∧ f a = b := by
      intro x hx
      obtain ⟨t, ht⟩ := h.1 x hx
      obtain ⟨u, hu⟩ := hb (x.map f) (List.mem_map_of_mem hx)
      rw [← ht, List.map_append, List.append_assoc] at hu
      have hu := List.append_cancel_left hu
      cases t with
      | nil => simp at hu
      | cons a t =>
        simp only [List.map_cons, List.cons_append, List.cons.injEq, List.nil_append] at hu
        exact ⟨a, t, ht.symm, hu.1.symm⟩
    obtain ⟨a, t, e, hab⟩ := at' r (.head _)
    refine h.2 a fun x hx => ?_
    obtain ⟨a', t', e', hab'⟩ := at' x hx
    have := hf r (.head _) x hx a (by rw [e]; simp) a' (by rw [e']; simp) (hab.trans hab'.symm)
    rw [e', this]
    exact ⟨t', by simp⟩
end
theorem lcp_eq : ∀ xs ys : List Str, lcp xs ys = lcpG xs ys
  | [], _ => by simp [lcp, lcpG]
  | _ :: _, [] => by simp [lcp, lcpG]
  | x :: xs, y :: ys => by rw [lcp, lcpG, lcp_eq xs ys]
theorem between : ∀ (c r1 r2 x : List Str), c <+: r1 → c <+: r2 → lexB x r1 = false → lexB r2 x = false → c <+: x
  | [], _, _, _, _, _, _, _ => List.nil_prefix
  | a :: c, [], _, _, h, _, _, _ => by simp at h
  | a :: c, _ :: _, [], _, _, h, _, _ => by simp at h
  | a :: c, b :: r1, d :: r2, [], _, _, h, _ => by simp [lexB] at h
  | a :: c, b :: r1, d :: r2, e :: x, h1, h2, h3, h4 => by
    obtain ⟨rfl, g1⟩ := List.cons_prefix_cons.mp h1
    obtain ⟨rfl, g2⟩ := List.cons_prefix_cons.mp h2
    clear h1 h2
    rw [lexB] at h3 h4
    by_cases q : e = a
    · subst q
      rw [if_pos rfl] at h3 h4
      exact List.cons_prefix_cons.mpr ⟨rfl, between c r1 r2 x g1 g2 h3 h4⟩
    · rw [if_neg q] at h3
      rw [if_neg (Ne.symm q)] at h4
      rw [ltT_total q h3] at h4
      cases h4
theorem min_mem {xss : List (List Str)} (h : xss ≠ []) : minRow xss ∈ xss := by
  unfold minRow
  have h1 := argBest_le (fun i j => lexB (xss[i]?.getD []) (xss[j]?.getD [])) (xss.length - 1)
  have h2 : 0 < xss.length := List.length_pos_iff.mpr h
  rw [List.getElem?_eq_getElem (by omega)]
  exact List.getElem_mem _
theorem max_mem {xss : List (List Str)} (h : xss ≠ []) : maxRow xss ∈ xss := by
  unfold maxRow
  have h1 := argBest_le (fun i j => lexB (xss[j]?.getD []) (xss[i]?.getD [])) (xss.length - 1)
  have h2 : 0 < xss.length := List.length_pos_iff.mpr h
  rw [List.getElem?_eq_getElem (by omega)]
  exact List.getElem_mem _
theorem min_max_comm {xss : List (List Str)} (h : xss ≠ []) : IsComm xss (lcp (minRow xss) (maxRow xss)) := by
  rw [lcp_eq]
  refine ⟨fun r hr => ?_, fun a ha => ?_⟩
  · obtain ⟨i, hi, rfl⟩ := List.getElem_of_mem hr
    have e : xss[i] = xss[i]?.getD [] := by rw [List.getElem?_eq_getElem hi]; rfl
    refine between _ (minRow xss) (maxRow xss) _ (lcpG_left _ _) (lcpG_right _ _) ?_ ?_
    · rw [e]; exact min_le xss _ i (by omega)
    · rw [e]; exact max_ge xss _ i (by omega)
  · have := (lcpG_max _ _ _ (ha _ (min_mem h)) (ha _ (max_mem h))).length_le
    rw [List.length_append, List.length_singleton] at this
    omega
theorem itxt_inj_all : ∀ n k : Fin 128, itxt (n.val : Int) = itxt (k.val : Int) → n = k := by
  have h : ∀ n : Fin 128, ((itxt (n.val : Int)).cps.toList.foldl (fun a c => 10 * a + (c - 48)) 0) = n.val := by decide +kernel
  intro n k e
  have h1 := h n
  rw [e, h k] at h1
  exact Fin.ext h1.symm
theorem itxt_inj {a b : Int} (ha : 0 ≤ a ∧ a < 128) (hb : 0 ≤ b ∧ b < 128) (e : itxt a = itxt b) : a = b := by
  have h := itxt_inj_all ⟨a.toNat, by omega⟩ ⟨b.toNat, by omega⟩ (by
    show itxt ((a.toNat : Nat) : Int) = itxt ((b.toNat : Nat) : Int)
    rw [show ((a.toNat : Nat) : Int) = a by omega, show ((b.toNat : Nat) : Int) = b by omega]
    exact e)
  have := congrArg Fin.val h
  simp only at this
  omega
theorem comm_texts {oss : List (List Int)} (hne : oss ≠ []) (ho : ∀ o ∈ oss, Octs o) : lcp (minRow (oss.map fun o => o.map itxt)) (maxRow (oss.map fun o => o.map itxt)) = (comm oss).map itxt := by
  have hne' : (oss.map fun o => o.map itxt) ≠ [] := by simpa using hne
  refine comm_uniq hne' (min_max_comm hne') ((comm_is hne).map hne fun r hr r' hr' a ha b hb e => itxt_inj (ho r hr a ha) (ho r' hr' b hb) e)
theorem comm_octs {oss : List (List Int)} (hne : oss ≠ []) (ho : ∀ o ∈ oss, Octs o) : Octs (comm oss) := by
  obtain ⟨r, rs, rfl⟩ := List.exists_cons_of_ne_nil hne
  exact fun b hb => ho r (.head _) b ((comm_pre (r :: rs) r (.head _)).subset hb)
theorem path_join {os : List Int} (h : Octs os) : Str.ofString "/" ++ Txt.join (Str.ofString "/") (os.map itxt) = pathOf os := by
  apply str_eq
  rw [path_list os h, app_list, slash_list]
  have e9 : Txt.join (Str.ofString "/") (os.map itxt) = Str.join (Str.ofString "/") (os.map itxt) := by
    show glued _ _ = _
    rw [StrLaws.glued_eq_join]
  rw [e9]
  have H : ∀ (r : List Int) (x : Str), (Str.join ⟨#[47]⟩ (x :: r.map itxt)).cps.toList = x.cps.toList ++ r.flatMap fun o => 47 :: (itxt o).cps.toList := by
    intro r
    induction r with
    | nil => intro x; simp [Str.join]
    | cons a r ih =>
      intro x
      show (x ++ ⟨#[47]⟩ ++ Str.join ⟨#[47]⟩ (itxt a :: r.map itxt)).cps.toList = _
      rw [app_list, app_list, ih]
      simp
  cases os with
  | nil => rfl
  | cons a r =>
    rw [slash, List.map_cons, H]
    simp [pathL]
end Mine
end

section
namespace Mine
theorem rst_Cp2 : True := by w_top off; trivial
end Mine
local macro_rules | `(tactic| walk_at "mine pad") => `(tactic| fail "pad")
open PySem PySem.W PyProof.Rows PySem.Calls PySem.Spec
namespace Mine
local macro_rules | `(tactic| walk_at "exec Try") => `(tactic| (k_here; (with_reducible show wpAny _ _ (exec (Stmt.Try _ (_ :: _) [] [] _) _) _ _ _); (refine wpAny_Try_except (wpAny_noRaise ?_)); (try dsimp only)))
theorem truthy_cons {prog : Program} {w : World} {A : Around} {E : Value → Shared → Prop} {s : Shared} {h₀ : Heap} {L t : Addr} {news : List (Addr × Obj)} {v : Value} {r : List Value} {Q : Bool → Shared → Prop} (N : News h₀ L s.heap news) (hm : (t, ({ cls := .type "tuple", data := .seq (v :: r).toArray } : Obj)) ∈ news) (hz : (v :: r).length ≤ 1000)
    (h : Q true { s with toks := s.toks + 1 + 1 }) : wpAny (model prog w) A (truthy (.ref t)) Q E s := ktl_truthyK N hm hz h
theorem item_cons {prog : Program} {w : World} {A : Around} {E : Value → Shared → Prop} {s : Shared} {h₀ : Heap} {L : Addr} {news : List (Addr × Obj)} {value slice : Expr} {t : Addr} {v : Value} {r : List Value} {u : Tok} {Q : Value → Shared → Prop} (N : News h₀ L s.heap news) (hm : (t, ({ cls := .type "tuple", data := .seq (v :: r).toArray } : Obj)) ∈ news) (h : Q v s)
    (hs : subscripted slice false (.ref t) (.int 0 u) = operate [.ref t, .int 0 u] (getItem (.ref t) (.int 0 u)) := by with_unfolding_all rfl) (hg : ∀ r, letTemporaryGo value (.ref t) r = pure () := by intro _; with_unfolding_all rfl) :
    wpAny (model prog w) A (subscriptTail value slice (.ref t) (.int 0 u)) Q E s :=
  item_tupleL (l := v :: r) ⟨_, (N _ hm).1, rfl, _, rfl⟩ (by decide) (by decide) (j := 0) (by unfold seqIndex?; simp) rfl h hs hg
theorem parts_le {os : List Int} (h : Octs os) : ∀ y ∈ partsOf os, y.length ≤ 3 := fun y hy => by
  obtain ⟨i, hi, rfl⟩ := List.getElem_of_mem hy
  exact parts_short h (List.getElem?_eq_getElem hi)
set_option maxRecDepth 100000 in
set_option maxHeartbeats 8000000 in
theorem commonpath_spec {w : World} {s₀ : Shared} {mg mb : Str → Option Value} {dp un : Nat} {gd : Option (List Code)} {cn : Str} {cs : Scope} {a : Addr} {ccd : Value} {cl : List (Str × Addr)} {outer : List Env} {h₀ : Heap} {L : Addr} {m : Str → Option Value} {news : List (Addr × Obj)} {s : Shared}
    {Q E : Value → Shared → Prop} {l : Addr} {vs : List Value} {oss : List (List Int)} :
    (hd.heap_39 w.params).In h₀ → Top hd.view_39 (looseW hd.view_39 []) (ExcName.means s₀.heap) mg mb h₀ →
    Fr h₀ L s.heap m → News h₀ L s.heap news → cs.kind = .function → dp + 4 < recursionLimit → un + 40 < cLine →
    s.heap.IsList l vs.toArray → StrsAre vs (oss.map pathOf) → oss ≠ [] → oss.length ≤ 10 → (∀ o ∈ oss, Octs o) → (∀ o ∈ oss, o.length ≤ 80) → 
    (∀ h' tk' t', Fr h₀ L h' m → News h₀ L h' news → s.heap.StaysIn h' → Q (.str (pathOf (comm oss)) t') { s with heap := h', toks := tk' }) →
    wpAny (model PySem.Challenge.rw_rt0029_01.row.prog w) (ktrTop dp un gd cn cs L a ccd cl outer) (call (.ref 134) [.ref l]) Q E s := by
  k_fill
  intro X T F N hk hd hu hl hV hne hol ho1 ho2 hret
  have hVl : vs.length = oss.length := by rw [hV.length, List.length_map]
  have hx1 : ∀ x ∈ oss.map pathOf, x.length ≤ 1000 := fun x hx => by
    obtain ⟨o, ho, rfl⟩ := List.mem_map.mp hx
    have h1 := pathOf_len (ho1 o ho)
    have h2 := ho2 o ho
    omega
  have hx2 : ∀ x ∈ oss.map pathOf, Txt.startswith x (Str.ofString "/") = true := fun x hx => by
    obtain ⟨o, ho, rfl⟩ := List.mem_map.mp hx
    exact pathOf_starts (ho1 o ho)
  have hx3 : (oss.map pathOf).map (fun x => Txt.split x (Str.ofString "/")) = oss.map partsOf := by
    rw [List.map_map]
    exact List.map_congr_left fun o ho => split_pathOf (ho1 o ho)
  have hx4 : (oss.map partsOf).map (fun x => x.filter okC) = oss.map fun o => o.map itxt := by
    rw [List.map_map]
    exact List.map_congr_left fun o ho => parts_ok (ho1 o ho)
  have hx5 : ∀ x ∈ oss.map partsOf, x.length ≤ 100 := fun x hx => by
    obtain ⟨o, ho, rfl⟩ := List.mem_map.mp hx
    have h1 := partsOf_len o
    have h2 := ho2 o ho
    omega
  have hx6 : ∀ x ∈ oss.map partsOf, ∀ y ∈ x, y.length ≤ 1000 := fun x hx y hy => by
    obtain ⟨o, ho, rfl⟩ := List.mem_map.mp hx
    exact Nat.le_trans (parts_le (ho1 o ho) y hy) (by decide)
  have hx7 : ∀ x ∈ oss.map (fun o => o.map itxt), x.length ≤ 80 := fun x hx => by
    obtain ⟨o, ho, rfl⟩ := List.mem_map.mp hx
    rw [List.length_map]; exact ho2 o ho
  have hx8 : ∀ x ∈ oss.map (fun o => o.map itxt), ∀ y ∈ x, y.length ≤ 3 := fun x hx y hy => by
    obtain ⟨o, ho, rfl⟩ := List.mem_map.mp hx
    obtain ⟨b, hb, rfl⟩ := List.mem_map.mp hy
    exact itxt_len (ho1 o ho b hb).1 (ho1 o ho b hb).2
  have hx9 : Str.ofString "/" ++ Txt.join (Str.ofString "/") (lcp (minRow (oss.map fun o => o.map itxt)) (maxRow (oss.map fun o => o.map itxt))) = pathOf (comm oss) := by
    rw [comm_texts hne ho1, path_join (comm_octs hne ho1)]
  have hne' : oss.map pathOf ≠ [] := by simpa using hne
  obtain ⟨v1, vr, hvs⟩ : ∃ v r, vs = v :: r := List.exists_cons_of_ne_nil (fun e => by rw [e] at hVl; exact hne (List.eq_nil_of_length_eq_zero hVl.symm))
  obtain ⟨x1, tx1, hv1, hxx⟩ := hV.item 0 v1 (by rw [hvs]; rfl)
  subst hv1
  subst hvs
  refine wpAny_call ?_
  k_dflt (refine' enter_pureC (env := envX cn cs L a ccd cl) (binds := [(Str.ofString "paths", .ref l)]) ?k2 ?k3 ?k5 ?kF ?kK ?k6 ?k7 ?k8 ?k9 ?kB ?kD ?_ ?c2 ?c3 ?c4; (case kF => exact rfl); (case kK => assumption); (case k2 => k_asm); (case k3 => k_asm); (case k5 => k_asm); (case k6 => k_is); (case k7 => k_is); (case k8 => ktr_room); (case k9 => exact BindsTo.of_eq rfl); (case kB => exact rfl); (case kD => decide +kernel); (case c2 => exact rfl); (case c3 => exact rfl); (case c4 => exact rfl); k_whole; intro L' h' tk' cells' F' N' Y' X' T'; k_cells Y'; (try simp only [List.cons_append, List.nil_append] at N'); (try dsimp only); (try k_fold))
  replace F' := fr_same (m' := fun y => if y = Str.ofString "paths" then some (.ref l) else none) F' (fun z => by with_unfolding_all rfl)
  repeat' ((fail_if_success (with_reducible show wpAny _ _ (call (Value.type "map") _ _) _ _ _)); first | (k_unfold; (try dsimp only)) | (k_end; wrow_close) | walk1 | (dsimp only; walk1) | (dsimp only; k_unfold; (try dsimp only)) | (leave1; try dsimp only) | fail "no step")
  (rename Fr s.heap _ _ _ => F2)
  (rename News s.heap _ _ _ => N2)
  obtain ⟨c1, e9⟩ := news_nm 0 N2 rfl
  subst e9
  obtain ⟨c2, e9⟩ := news_nm 1 N2 rfl
  subst e9
  (with_unfolding_all refine' map_K (xs := (Value.str x1 tx1 :: vr).toArray) F2 N2 (hl.at fun o e => F2.keep l o e) ?_)
  clear F2 N2
  intro It J M h' F2 N2 S2 hoff
  have hlI : h'.IsList l (Value.str x1 tx1 :: vr).toArray := hl.at fun o e => F2.keep l o e
  repeat' ((fail_if_success (with_reducible show wpAny _ _ (call (Value.type "tuple") _ _) _ _ _)); first | (k_unfold; (try dsimp only)) | (k_end; wrow_close) | walk1 | (dsimp only; walk1) | (dsimp only; k_unfold; (try dsimp only)) | (leave1; try dsimp only) | fail "no step")
  (with_unfolding_all refine' tuple_map_K (P := fun i v => (Value.str x1 tx1 :: vr)[i]? = some v) rfl F2 N2 hlI ?hoff ?hf ?hsz ?_)
  (case hoff => exact hoff)
  (case hf =>
    intro i x s9 Q9 E9 hx F9 k9
    obtain ⟨y, ty, rfl, _⟩ := hV.item i x (by simpa using hx)
    (with_unfolding_all refine' fspath_spec (news := []) ?k1 ?k2 F9 News.nil ?k6 ?k7 ?k8 ?_)
    (case k1 => k_asm)
    (case k2 => k_asm)
    (case k6 => exact rfl)
    (case k7 => ktr_room)
    (case k8 => ktr_units)
    intro h' tk' F' N' S'
    exact k9 _ _ _ (by simpa using hx) S')
  (case hsz => (rw [sizeLine_eq]; (try rw [List.size_toArray]); omega))
  clear F2 N2 hlI
  intro D h9 tk9 acc hacc F2 N2
  obtain rfl := items_same hacc
  repeat' ((fail_if_success (with_reducible show wpAny _ _ (truthy _) _ _ _)); first | (k_unfold; (try dsimp only)) | (k_end; wrow_close) | walk1 | (dsimp only; walk1) | (dsimp only; k_unfold; (try dsimp only)) | (leave1; try dsimp only) | fail "no step")
  (rename News s.heap _ _ _ => N9)
  (with_unfolding_all refine' truthy_cons N9 (.head _) (by rw [hVl]; omega) ?_)
  repeat' ((fail_if_success (with_reducible show wpAny _ _ (exec (Stmt.Try _ _ _ _ _) _) _ _ _)); (fail_if_success (with_reducible show wpAny _ _ (subscriptTail _ _ _ _) _ _ _)); first | (k_unfold; (try dsimp only)) | (k_end; wrow_close) | walk1 | (dsimp only; walk1) | (dsimp only; k_unfold; (try dsimp only)) | (leave1; try dsimp only) | fail "no step")
  (rename News s.heap _ _ _ => N8)
  (with_unfolding_all refine' item_cons N8 (.head _) ?_)
  repeat' ((fail_if_success (with_reducible show wpAny _ _ (exec (Stmt.Try _ _ _ _ _) _) _ _ _)); first | (k_unfold; (try dsimp only)) | (k_end; wrow_close) | walk1 | (dsimp only; walk1) | (dsimp only; k_unfold; (try dsimp only)) | (leave1; try dsimp only) | fail "no step")
  refine wpAny_Try_except (wpAny_noRaise ?_)
  (try dsimp only)
  repeat' ((fail_if_success (with_reducible show wpAny _ _ (exec (Stmt.Assign _ (Expr.ListComp _ _ _ _) _) _) _ _ _)); first | (k_unfold; (try dsimp only)) | (k_end; wrow_close) | walk1 | (dsimp only; walk1) | (dsimp only; k_unfold; (try dsimp only)) | (leave1; try dsimp only) | fail "no step")
  (rename Fr s.heap _ _ _ => F3)
  (rename News s.heap _ _ _ => N3)
  (try dsimp only [List.cons_append, List.nil_append] at N3)
  (with_unfolding_all refine' cp_split X' T' F3 N3 ?hd ?hu ?hm (.head _) (.tail _ (.tail _ (.head _))) (by assumption) hV ?hl1 hx1 ?_)
  (case hd => omega)
  (case hu => omega)
  (case hm => exact rfl)
  (case hl1 => rw [List.length_map]; omega)
  clear F3 N3
  intro h3 tk3 D3 ys3 nw3 F3 N3 hsub3 hD3 hR3
  rw [hx3] at hR3
  repeat' ((fail_if_success (with_reducible show wpAny _ _ (exec (Stmt.Try _ _ _ _ _) _) _ _ _)); first | (k_unfold; (try dsimp only)) | (k_end; wrow_close) | walk1 | (dsimp only; walk1) | (dsimp only; k_unfold; (try dsimp only)) | (leave1; try dsimp only) | fail "no step")
  (rename Fr s.heap _ _ _ => F4)
  (rename News s.heap _ _ _ => N4)
  (with_unfolding_all refine' cp_set (E := fun _ _ => False) X' T' F4 N4 ?hd ?hu ?hm (hsub3 _ (.head _)) (hsub3 _ (.tail _ (.tail _ (.head _)))) (by assumption) hV hne' hx1 hx2 ?_)
  (case hd => omega)
  (case hu => omega)
  (case hm => exact rfl)
  clear F4 N4
  intro h4 tk4 F4 N4
  repeat' ((fail_if_success (with_reducible show wpAny _ _ (exec (Stmt.Assign _ (Expr.ListComp _ _ _ _) _) _) _ _ _)); first | (k_unfold; (try dsimp only)) | (k_end; wrow_close) | walk1 | (dsimp only; walk1) | (dsimp only; k_unfold; (try dsimp only)) | (leave1; try dsimp only) | fail "no step")
  (rename Fr s.heap _ _ _ => F5)
  (rename News s.heap _ _ _ => N5)
  (with_unfolding_all refine' cp_filter X' T' F5 N5 ?hd ?hu ?hm hD3 hR3 (hsub3 _ (.tail _ (.head _))) (by assumption) ?hl1 hx5 hx6 ?_)
  (case hd => omega)
  (case hu => omega)
  (case hm => exact rfl)
  (case hl1 => rw [List.length_map]; omega)
  clear F5 N5
  intro h5 tk5 D5 ys5 nw5 F5 N5 hsub5 hD5 hR5
  rw [hx4] at hR5
  (with_unfolding_all refine' cp_tail X' T' F5 N5 ?hd ?hu ?hm ?hm2 hD5 (hsub5 _ (hsub3 _ (.tail _ (.tail _ (.head _))))) (by assumption) hR5 ?hn hx7 hx8 ?_)
  (case hd => omega)
  (case hu => omega)
  (case hm => exact rfl)
  (case hm2 => exact rfl)
  (case hn => rw [hR5.1, List.length_map]; exact List.length_pos_iff.mpr hne)
  intro h6 tk6 t6 m6 F6
  rw [hx9]
  have N6 : News s.heap L' h6 [] := News.nil
  clear F5 N5
  (try dsimp only)
  repeat' (first | (k_unfold; (try dsimp only)) | (k_end; wrow_close) | walk1 | (dsimp only; walk1) | (dsimp only; k_unfold; (try dsimp only)) | (leave1; try dsimp only) | fail "no step")
  exact hret _ _ _ (F.keeps F6.keep) (N.grown F6.keep) F6.keep
end Mine
end

section
namespace Mine
theorem rst_S2 : True := by w_top off; trivial
end Mine
local macro_rules | `(tactic| walk_at "mine pad") => `(tactic| fail "pad")
local macro_rules | `(tactic| walk_at "mine pad") => `(tactic| fail "pad")
local macro_rules | `(tactic| walk_at "mine pad") => `(tactic| fail "pad")
open PySem PySem.W PyProof.Rows PySem.Calls PySem.Spec
namespace Mine
local macro_rules | `(tactic| walk_at "call ref") => `(tactic| (k_here; (with_reducible show wpAny _ _ (call (Value.ref 115) _) _ _ _); (refine' get_sep_spec ?k1 ?k2 ?k4 ?k5 ?k6 ?k7 ?k8  ?_); (case k1 => k_asm); (case k2 => k_asm); (case k4 => k_asm); (case k5 => k_asm); (case k6 => first | exact rfl | assumption); (case k7 => ktr_room); (case k8 => ktr_units); intro t' h' tk' F' N' S'; (try dsimp only)))
local macro_rules | `(tactic| walk_at "call ref") => `(tactic| (k_here; (with_reducible show wpAny _ _ (call (Value.ref 101) _) _ _ _); (refine' fspath_spec ?k1 ?k2 ?k4 ?k5 ?k6 ?k7 ?k8  ?_); (case k1 => k_asm); (case k2 => k_asm); (case k4 => k_asm); (case k5 => k_asm); (case k6 => first | exact rfl | assumption); (case k7 => ktr_room); (case k8 => ktr_units); intro h' tk' F' N' S'; (try dsimp only)))
set_option maxRecDepth 100000 in
set_option maxHeartbeats 8000000 in
theorem split_spec {w : World} {s₀ : Shared} {mg mb : Str → Option Value} {dp un : Nat} {gd : Option (List Code)} {cn : Str} {cs : Scope} {a : Addr} {ccd : Value} {cl : List (Str × Addr)} {outer : List Env} {h₀ : Heap} {L : Addr} {m : Str → Option Value} {news : List (Addr × Obj)} {s : Shared}
    {Q E : Value → Shared → Prop} {x : Str} {t : Tok} :
    (hd.heap_39 w.params).In h₀ → Top hd.view_39 (looseW hd.view_39 []) (ExcName.means s₀.heap) mg mb h₀ →
    Fr h₀ L s.heap m → News h₀ L s.heap news → cs.kind = .function → dp + 4 < recursionLimit → un + 40 < cLine →
    x.length ≤ 1000 → 
    (∀ r h' tk' u v t1 t2, (u, v) = splitF x → Fr h₀ L h' m → News h₀ L h' ((r, { cls := .type "tuple", data := .seq #[.str u t1, .str v t2] }) :: news) → s.heap.StaysIn h' → (∀ p ∈ news, p.1 ≠ r) → Q (.ref r) { s with heap := h', toks := tk' }) →
    wpAny (model PySem.Challenge.rw_rt0029_01.row.prog w) (ktrTop dp un gd cn cs L a ccd cl outer) (call (.ref 129) [.str x t]) Q E s := by
  k_fill
  intro X T F N hk hd hu hx hret
  refine wpAny_call ?_
  k_dflt (refine' enter_pure (env := envX cn cs L a ccd cl) ?k2 ?k3 ?k5 ?kF ?kK ?k6 ?k7 ?k8 ?k9 ?kB ?_ ?c2 ?c3 ?c4 ?c5; (case kF => exact rfl); (case kK => assumption); (case k2 => k_asm); (case k3 => k_asm); (case k5 => k_asm); (case k6 => k_is); (case k7 => k_is); (case k8 => ktr_room); (case k9 => exact BindsTo.of_eq rfl); (case c5 => decide); (case kB => exact locs rfl); (case c2 => exact rfl); (case c3 => exact rfl); (case c4 => exact rfl); k_whole; intro L' h' F' N' X' T'; (try dsimp only); (try k_fold))
  repeat' (first | (k_unfold; (try dsimp only)) | (k_end; wrow_close) | walk1 | (dsimp only; walk1) | (dsimp only; k_unfold; (try dsimp only)) | (leave1; try dsimp only) | fail "no step")
  all_goals (
    (rename Fr s.heap _ _ _ => F9)
    (rename News s.heap _ _ _ => N9)
    obtain ⟨R1, R2, R3, R4⟩ := ret1 F N F9 N9 (out := [_]) (fun p hp => by rw [List.mem_singleton.mp hp]; exact .head _)
    refine hret _ _ _ _ _ _ _ ?_ R1 R2 R3 (fun p hp => R4 p hp _ (.head _)))
  all_goals (unfold splitF; dsimp only)
  all_goals (first | rw [if_pos ⟨by assumption, by assumption⟩] | rw [if_neg (by rintro ⟨h1, h2⟩; first | exact absurd (h2.symm.trans (by assumption : _ = false)) (by decide) | omega)])
end Mine
end

section
open PySem PySem.W PyProof.Rows PySem.Calls PySem.Spec
set_option maxRecDepth 100000
namespace Mine
theorem bind_join {name qual : Str} {q1 q2 : Pos} {body : List Stmt} {scope : Scope} {doc pm cdv ct : Value} {v : Value} {vs : List Value} :
    bindArgs (fnOf name qual { posonlyargs := [], args := [{ arg := Str.ofString "a", annotation := none, pos := q1 }], vararg := some { arg := Str.ofString "p", annotation := none, pos := q2 }, kwonlyargs := [], kw_defaults := [], kwarg := none, defaults := [] } body scope .none .none doc pm none cdv ct) ⟨v :: vs, []⟩
      = (do let t ← newTuple vs; pure [(Str.ofString "a", v), (Str.ofString "p", t)]) := by
  unfold bindArgs
  dsimp only [fnOf]
  simp only [Option.isNone_some, Bool.and_false, List.map_nil, List.map_cons, List.nil_append]
  rfl

theorem enter_rest {prog : Program} {w : World} {A : Around} {s : Shared} {K : Frag} {p : Program} {loose : List Str} {mean : ExcName → Option Value} {mg mb : Str → Option Value} {h₀ : Heap} {L : Addr} {m : Str → Option Value} {env : Env} {R : Result → Shared → Prop} {name qual : Str} {params : Arguments} {body : List Stmt} {scope : Scope} {dV kV doc pm cdv ct oc : Value} {an od : Option Addr} {osl : Array (Option Value)} {f : Addr} {args : Args} {vs : List Value} {binds : Value → List (Str × Value)}
    (F : Fr h₀ L s.heap m) (X₀ : K.In h₀) (T : Top p loose mean mg mb h₀) (hf : env.frame = some L) (hke : env.scope.kind = .function)
    (ho : K.lookup f = some ⟨oc, od, .func (fnOf name qual params body scope dV kV doc pm an cdv ct), osl⟩) (hcd : codeIn K cdv qual = true) (hroom : A.depth < recursionLimit)
    (hbind : bindArgs (fnOf name qual params body scope dV kV doc pm an cdv ct) args = (do let t ← newTuple vs; pure (binds t))) (hsz : vs.length ≤ sizeLine) (hloc : ∀ t, ∀ y ∈ binds t, scope.names.lookup y.1 = some .local)
    (h : ∀ g D L' h₁, s.heap.StaysIn g → g.IsTuple D vs.toArray → Fr g L' h₁ (fun y => (binds (.ref D)).reverse.lookup y) → News g L' h₁ [] → K.In g → Top p loose mean mg mb g →
      wpAny (model prog w) (A.deeper (envOf qual scope L' f cdv)) (execs body (envOf qual scope L' f cdv))
        (fun fl s' => LeaveK h₀ L m g R (match fl with | .ret v => v | _ => .none) s')
        (fun e s' => wpAny (model prog w) (A.deeper (envOf qual scope L' f cdv)) (leaving (envOf qual scope L' f cdv) e) (fun _ s'' => R (.error e) s'') (fun e' s'' => R (.error e') s'') s')
        { s with heap := h₁, toks := s.toks + (binds (.ref D)).length })
    (hco : scope.isCoroutine = false) (hgen : scope.isGenerator = false) (hk : scope.kind = .function)
    (hcell : ∀ x ∈ scope.names, x.2 ≠ .cell) : codeAny (model prog w) A (.call (.ref f) args) R s := by
  have X := X₀.keeps F.keep
  have T' := T.keeps F.keep
  refine codeAny_call_function (fd := fnOf name qual params body scope dV kV doc pm an cdv ct) (body := body) hroom (X _ _ ho) rfl hco hgen rfl (codeRec_of X hcd) ?_
  rw [hbind]
  refine wpAny_bind (wpAny_newTuple ?_ hsz)
  refine wpAny_pure ?_
  let tup : Obj := { cls := .type "tuple", data := .seq vs.toArray }
  have F1 : Fr h₀ L (s.heap.push tup) m := F.push tup
  have st1 : s.heap.StaysIn (s.heap.push tup) := fun b o e => Heap.get?_push_of_some _ e
  have st : h₀.StaysIn (s.heap.push tup) := F1.keep
  have X1 := X.keeps st1
  have T1 := T'.keeps st1
  refine wpAny_newFunctionEnv hcell (hloc _) (fun h₁ hns hsb => ⟨T1.nolimit.fresh _ hsb, codeAny_func ?_⟩) hk
  have hk₁ : ∀ b o, (s.heap.push tup).get? b = some o → h₁.get? b = some o := fun b o e => hsb.extBut b o (Nat.ne_of_lt (Heap.lt_size e)) (Heap.get?_push_of_some _ e)
  refine wpAny_mono (h (s.heap.push tup) s.heap.objs.size (s.heap.push tup).objs.size h₁ st1 ⟨_, Heap.get?_push_size _ rfl, rfl, _, rfl⟩ ⟨hns, hk₁, Nat.le_refl _⟩ News.nil X1 T1) (fun fl s' hl => ?_) fun _ _ y => y
  obtain ⟨L', m', news', F', N', k⟩ := hl
  obtain ⟨oL, es, ep, hL, hLd, hLk, hLf⟩ := F1.ns
  refine k ⟨⟨oL, es, ep, F'.keep L oL hL, hLd, hLk, hLf⟩, fun b o e => F'.keep b o (st b o e), F.above⟩ fun p hp => ⟨(N' p hp).1, fun q => ?_, ?_⟩
  · have := (N' p hp).2.2; rw [q, hL] at this; cases this
  · cases q : h₀.get? p.1 with
    | none => rfl
    | some o => have := (N' p hp).2.2; rw [st _ _ q] at this; cases this
end Mine
end

section
namespace Mine
theorem rst_S3 : True := by w_top off; trivial
end Mine
open PySem PySem.W PyProof.Rows PySem.Calls PySem.Spec
namespace Mine
local macro_rules | `(tactic| walk_at "call ref") => `(tactic| (k_here; (with_reducible show wpAny _ _ (call (Value.ref 115) _) _ _ _); (refine' get_sep_spec ?k1 ?k2 ?k4 ?k5 ?k6 ?k7 ?k8  ?_); (case k1 => k_asm); (case k2 => k_asm); (case k4 => k_asm); (case k5 => k_asm); (case k6 => first | exact rfl | assumption); (case k7 => ktr_room); (case k8 => ktr_units); intro t' h' tk' F' N' S'; (try dsimp only)))
local macro_rules | `(tactic| walk_at "call ref") => `(tactic| (k_here; (with_reducible show wpAny _ _ (call (Value.ref 101) _) _ _ _); (refine' fspath_spec ?k1 ?k2 ?k4 ?k5 ?k6 ?k7 ?k8  ?_); (case k1 => k_asm); (case k2 => k_asm); (case k4 => k_asm); (case k5 => k_asm); (case k6 => first | exact rfl | assumption); (case k7 => ktr_room); (case k8 => ktr_units); intro h' tk' F' N' S'; (try dsimp only)))
local macro_rules | `(tactic| walk_at "exec Try") => `(tactic| (k_here; (with_reducible show wpAny _ _ (exec (Stmt.Try _ (_ :: _) [] [] _) _) _ _ _); (refine wpAny_Try_except (wpAny_noRaise ?_)); (try dsimp only)))

theorem joinF_succ {xs : List Str} {i : Nat} {y : Str} (h : xs[i]? = some y) : joinF (xs.take (i + 1)) = joinS (joinF (xs.take i)) y := by
  unfold joinF
  rw [List.take_add_one, h]
  simp
theorem slash_length : (Str.ofString "/").length = 1 := by decide +kernel
set_option maxRecDepth 100000 in
set_option maxHeartbeats 8000000 in
theorem join_spec {w : World} {s₀ : Shared} {mg mb : Str → Option Value} {dp un : Nat} {gd : Option (List Code)} {cn : Str} {cs : Scope} {a : Addr} {ccd : Value} {cl : List (Str × Addr)} {outer : List Env} {h₀ : Heap} {L : Addr} {m : Str → Option Value} {news : List (Addr × Obj)} {s : Shared}
    {Q E : Value → Shared → Prop} {vs : List Value} {xs : List Str} {t : Tok} :
    (hd.heap_39 w.params).In h₀ → Top hd.view_39 (looseW hd.view_39 []) (ExcName.means s₀.heap) mg mb h₀ →
    Fr h₀ L s.heap m → News h₀ L s.heap news → cs.kind = .function → dp + 4 < recursionLimit → un + 40 < cLine →
    StrsAre vs xs → xs.length ≤ 100 → (∀ x ∈ xs, x.length ≤ 3) → 
    (∀ h' tk' t', Fr h₀ L h' m → News h₀ L h' news → s.heap.StaysIn h' → Q (.str (joinF xs) t') { s with heap := h', toks := tk' }) →
    wpAny (model PySem.Challenge.rw_rt0029_01.row.prog w) (ktrTop dp un gd cn cs L a ccd cl outer) (call (.ref 122) (.str (Str.ofString "/") t :: vs)) Q E s := by
  k_fill
  intro X T F N hk hd hu hS hx hl hret
  refine wpAny_call ?_
  k_dflt (refine' enter_rest (env := envX cn cs L a ccd cl) ?k2 ?k3 ?k5 ?kF ?kK ?k6 ?k7 ?k8 ?kV ?kP ?kB ?_ ?c2 ?c3 ?c4 ?c5; (case kF => exact rfl); (case kK => assumption); (case k2 => k_asm); (case k3 => k_asm); (case k5 => k_asm); (case k6 => k_is); (case k7 => k_is); (case k8 => ktr_room); (case kV => exact bind_join); (case kP => (rw [hS.length, sizeLine_eq]; omega)); (case kB => exact fun _ => locs rfl); (case c5 => decide); (case c2 => exact rfl); (case c3 => exact rfl); (case c4 => exact rfl); k_whole; intro g' D' L' h' S' hD' F' N' X' T'; (try dsimp only); (try k_fold))
  repeat' (first | (k_unfold; (try dsimp only)) | (k_end; wrow_close) | walk1 | (dsimp only; walk1) | (dsimp only; k_unfold; (try dsimp only)) | (leave1; try dsimp only) | fail "no step")
  (rename Fr g' _ _ _ => F1)
  (with_unfolding_all refine' For_invVF F1 ?k1 ?k2 ?_)
  (case k1 => exact rfl)
  (case k2 => exact rfl)
  repeat' (first | (k_unfold; (try dsimp only)) | (k_end; wrow_close) | walk1 | (dsimp only; walk1) | (dsimp only; k_unfold; (try dsimp only)) | (leave1; try dsimp only) | fail "no step")
  (rename Fr g' _ _ _ => F2)
  (rename News g' _ _ _ => N2)
  (with_unfolding_all refine' ks_tuple (σ := Str × Tok) (fun _ => []) (fun c => [(Str.ofString "path", .str c.1 c.2)]) [] (fun i c => c.1 = joinF (xs.take i) ∧ c.1.length ≤ 1 + 4 * i) (Str.ofString "/", t) rfl hD' F2 N2 ?k1 ?k2 ?_ ?_)
  (case k1 => exact List.forall_mem_singleton.mpr (by with_unfolding_all rfl))
  (case k2 => exact ⟨rfl, show (Str.ofString "/").length ≤ 1 from by decide +kernel⟩)
  · clear F2 N2
    rintro ⟨path, tp⟩ i v u h9 tk9 own hi hv hoff ⟨hP, hlen⟩ F2 N2
    obtain ⟨y, ty, rfl, hy⟩ := hS.item i v hv
    have hly : y.length ≤ 3 := hl y (List.mem_of_getElem? hy)
    dsimp only at hP hlen
    have hvl : vs.length = xs.length := hS.length
    have hi100 : i < 100 := by omega
    have hpl : path.length ≤ 401 := by omega
    dsimp only [kstB, List.nil_append] at F2 N2
    (try k_fold)
    repeat' (first | (k_unfold; (try dsimp only)) | (k_end; wrow_close) | walk1 | (dsimp only; walk1) | (dsimp only; k_unfold; (try dsimp only)) | (leave1; try dsimp only) | fail "no step")
    all_goals (
      (rename Fr g' _ _ _ => F9)
      (rename News g' _ _ _ => N9)
      refine ks_end ⟨_, _⟩ F9 N9 (fun p hp => nomatch hp) (fun p hp => hp) rfl (List.forall_mem_singleton.mpr (by with_unfolding_all rfl)) ?_ ?_
      (intro z h1 h2 h3; have h4 := h2 _ (.head _); dsimp only at h4; simp [h1, h4]))
    all_goals (
      show _ = joinF _ ∧ _
      rw [joinF_succ hy, ← hP]
      unfold joinS
      refine ⟨?_, ?_⟩)
    all_goals first
      | (rw [if_pos (Or.inl (by assumption))]; done)
      | (rw [if_pos (Or.inr (by omega))]; done)
      | (rw [if_neg (by rintro (h | h); exact absurd (h.symm.trans (by assumption : _ = false)) (by decide); omega)]; first | (rw [if_pos (by assumption)]; done) | (rw [if_neg (by rw [(by assumption : Txt.endswith _ _ = false)]; decide)]; done))
      | (show Str.length _ ≤ _; (try simp only [Str.length_append, slash_length]); omega)
  · rintro ⟨p, tp⟩ u h9 tk9 ⟨hP, hlen⟩ F2 N2
    dsimp only at hP
    rw [hS.length, List.take_length] at hP
    subst hP
    dsimp only [kstB] at F2 N2
    repeat' (first | (k_unfold; (try dsimp only)) | (k_end; wrow_close) | walk1 | (dsimp only; walk1) | (dsimp only; k_unfold; (try dsimp only)) | (leave1; try dsimp only) | fail "no step")
    (rename Fr g' _ _ _ => F9)
    have SK := fun b o e => F9.keep b o (S' b o e)
    exact hret _ _ _ (F.keeps SK) (N.grown SK) SK
end Mine
end

section
open PySem PySem.W PyProof.Rows PySem.Calls PySem.Spec
namespace Mine
theorem seq_list_iadd : seqSlot? (.type "list") (dunderI "add") = pure (some (.builtin "list.__iadd__")) := PySem.seqSlot_of PySem.F.slot_list_iadd.lookup (by decide +kernel)
theorem noinfill_list : fillsInplaceSlot (.type "list") "add" (Operator.Add == .Add) = pure false := by
  unfold fillsInplaceSlot
  show (typeLookup (.type "list") (dunderI "add") >>= fun fi => pure (fi.isSome && !isSeqSlot fi)) = pure false
  rw [PySem.F.slot_list_iadd.lookup]
  have e : isSeqSlot (some (.builtin "list.__iadd__")) = true := by decide +kernel
  show (pure ((some (Value.builtin "list.__iadd__")).isSome && !isSeqSlot (some (.builtin "list.__iadd__"))) : Sem Bool) = pure false
  rw [e]; rfl

section
variable {prog : Program} {w : World} {A : Around} {E : Value → Shared → Prop} {s : Shared} {h₀ : Heap} {L D b : Addr} {m : Str → Option Value} {news news' : List (Addr × Obj)}
theorem iadd_K {its its2 : Array Value} {n n2 : Nat} {Q : Value → Shared → Prop} (F : Fr h₀ L s.heap m) (N : News h₀ L s.heap news) (hb : (b, W.listOf its2 n2) ∈ news)
    (U : Upd D (W.listOf its n) (W.listOf (its ++ its2) (if (its ++ its2).size == its.size then n else n + 1)) news news')
    (h : ∀ h', Fr h₀ L h' m → News h₀ L h' news' → Q (.ref D) { s with heap := h' }) (hsz : its.size + its2.size ≤ sizeLine) : wpAny (model prog w) A (inplaceOp .Add (.ref D) (.ref b)) Q E s := by
  have hbb := (N _ hb).1
  obtain ⟨pre, post, rfl, rfl, a, b'⟩ := U.split
  have z := N (D, W.listOf its n) (List.mem_append.mpr (.inr (.head _)))
  unfold inplaceOp
  refine wpAny_holding ?_
  refine wpAny_bind (wpAny_typeOf ⟨_, z.1, rfl⟩ (wpAny_bind (wpAny_of_eq noinfill_list ?_)))
  show wpAny _ A (if false = true then _ else _) Q E s
  rw [if_neg Bool.false_ne_true]
  refine wpAny_bind (wpAny_binaryOp1_none (T := "list") (nm := "add") ⟨_, z.1, rfl⟩ ⟨_, hbb, rfl⟩ noFill_list_add ?_)
  refine wpAny_bind (wpAny_of_eq seq_list_iadd ?_)
  refine wpAny_bind (wpAny_rule ?_)
  have hsz1 : its.size ≤ sizeLine := Nat.le_trans (Nat.le_add_right _ _) hsz
  refine call_meets PySem.F.slot_list_iadd ⟨_, z.1, rfl⟩ PySem.F.entry_list_iadd (PySem.F.args_list_iadd_2 _ _) (AutoSeq1.list___iadd___list_list_0 D its n b its2 n2 (extend_door hsz) hsz1 (Nat.le_succ_of_le hsz)) ⟨z.1, hbb, ?_⟩
  have ho' : (s.heap.update D (Obj.mapSeq fun x => x ++ its2)).get? D = some (W.listOf (its ++ its2) (if (its ++ its2).size == its.size then n else n + 1)) := by
    rw [Heap.get?_update_self _ z.1 (by rw [mapSeq_app]; rfl), mapSeq_app]
  exact h _ (F.change (Heap.SameBut.update ..) z.2.1 z.2.2) (news_set N a b' (Heap.SameBut.update ..) ho')
end
end Mine
end

section
namespace Mine
theorem rst_S4 : True := by w_top off; trivial
end Mine
open PySem PySem.W PyProof.Rows PySem.Calls PySem.Spec
namespace Mine

/-- the octets of one number -/
def oct1 (n : Int) : List Int :=
  if n ≤ 63 then [n % 64] else if n ≤ 4095 then [64 + n / 64 % 64, n % 64] else if n ≤ 262143 then [64 + n / 4096 % 64, 64 + n / 64 % 64, n % 64]
  else [64 + n / 262144 % 64, 64 + n / 4096 % 64, 64 + n / 64 % 64, n % 64]
def octs (ns : List Int) : List Int := ns.flatMap oct1
theorem octs_succ {ns : List Int} {i : Nat} {n : Int} (h : ns[i]? = some n) : octs (ns.take (i + 1)) = octs (ns.take i) ++ oct1 n := by
  unfold octs
  rw [List.take_add_one, h]
  simp
theorem f64 (n : Int) : n.fdiv 64 = n / 64 := Int.fdiv_eq_ediv_of_nonneg _ (by decide)
theorem m64 (n : Int) : n.fmod 64 = n % 64 := Int.fmod_eq_emod_of_nonneg _ (by decide)
local macro_rules | `(tactic| walk_at "WhlIf") => `(tactic| (first | (refine WhlIf.yes (by simp only [decide_eq_true_eq, f64]; omega) ?_) | (refine WhlIf.no (by simp only [decide_eq_false_iff_not, f64]; omega) ?_)))
local macro_rules | `(tactic| walk_at "inplaceOp Add ref ref") => `(tactic| (k_here; (with_reducible show wpAny _ _ (inplaceOp Operator.Add (Value.ref _) (Value.ref _)) _ _ _); (refine' iadd_K ?k1 ?k2 ?k3 ?k4 ?_ ?z; (case k1 => k_asm); (case k2 => k_asm); (case k3 => k_mem); (case k4 => k_upd); (case z => ((simp only [List.size_toArray, List.length_cons, List.length_nil]); (rw [sizeLine_eq]); omega))); intro h' F' N'; (try k_sweep)))
theorem oct1_len (n : Int) : (oct1 n).length ≤ 4 := by unfold oct1; split <;> (try split) <;> (try split) <;> simp
theorem octs_len : ∀ (ns : List Int), (octs ns).length ≤ 4 * ns.length
  | [] => by simp [octs]
  | n :: r => by
    have h := octs_len r
    have h1 := oct1_len n
    unfold octs at *
    rw [List.flatMap_cons, List.length_append, List.length_cons]
    omega
theorem oct1_c1 {n : Int} (h : n ≤ 63) : oct1 n = [n.fmod 64] := by unfold oct1; rw [if_pos h, m64]
theorem oct1_c2 {n : Int} (h : 64 ≤ n) (h2 : n ≤ 4095) : oct1 n = [64 + (n.fdiv 64).fmod 64, n.fmod 64] := by
  unfold oct1; rw [if_neg (by omega), if_pos h2]; simp only [f64, m64]
theorem oct1_c3 {n : Int} (h : 4096 ≤ n) (h2 : n ≤ 262143) : oct1 n = [64 + ((n.fdiv 64).fdiv 64).fmod 64, 64 + (n.fdiv 64).fmod 64, n.fmod 64] := by
  unfold oct1; rw [if_neg (by omega), if_neg (by omega), if_pos h2]; simp only [f64, m64]
  rw [show n / 64 / 64 = n / 4096 by omega]
theorem oct1_c4 {n : Int} (h : 262144 ≤ n) : oct1 n = [64 + (((n.fdiv 64).fdiv 64).fdiv 64).fmod 64, 64 + ((n.fdiv 64).fdiv 64).fmod 64, 64 + (n.fdiv 64).fmod 64, n.fmod 64] := by
  unfold oct1; rw [if_neg (by omega), if_neg (by omega), if_neg (by omega)]; simp only [f64, m64]
  rw [show n / 64 / 64 / 64 = n / 262144 by omega, show n / 64 / 64 = n / 4096 by omega]
set_option maxRecDepth 100000 in
set_option maxHeartbeats 8000000 in
theorem octets_spec {w : World} {s₀ : Shared} {mg mb : Str → Option Value} {dp un : Nat} {gd : Option (List Code)} {cn : Str} {cs : Scope} {a : Addr} {ccd : Value} {cl : List (Str × Addr)} {outer : List Env} {h₀ : Heap} {L : Addr} {m : Str → Option Value} {news : List (Addr × Obj)} {s : Shared}
    {Q E : Value → Shared → Prop} {l : Addr} {vs : List Value} {ns : List Int} :
    (hd.heap_39 w.params).In h₀ → Top hd.view_39 (looseW hd.view_39 []) (ExcName.means s₀.heap) mg mb h₀ →
    Fr h₀ L s.heap m → News h₀ L s.heap news → cs.kind = .function → dp + 4 < recursionLimit → un + 40 < cLine →
    s.heap.IsList l vs.toArray → IntsAre vs ns → (∀ n ∈ ns, 0 ≤ n ∧ n < 300000) → ns.length ≤ 20 → 
    (∀ r h' tk' us k, IntsAre us (octs ns) → Fr h₀ L h' m → News h₀ L h' ((r, { cls := .type "list", data := .seq us.toArray k }) :: news) → s.heap.StaysIn h' → (∀ p ∈ news, p.1 ≠ r) → Q (.ref r) { s with heap := h', toks := tk' }) →
    wpAny (model PySem.Challenge.rw_rt0029_01.row.prog w) (ktrTop dp un gd cn cs L a ccd cl outer) (call (.ref 155) [.ref l]) Q E s := by
  k_fill
  intro X T F N hk hd hu hl hI hb hx hret
  replace hI : Hid (IntsAre vs ns) := hI
  refine wpAny_call ?_
  k_dflt (refine' enter_pure (env := envX cn cs L a ccd cl) (binds := [(Str.ofString "row", .ref l)]) ?k2 ?k3 ?k5 ?kF ?kK ?k6 ?k7 ?k8 ?k9 ?kB ?_ ?c2 ?c3 ?c4 ?c5; (case kF => exact rfl); (case kK => assumption); (case k2 => k_asm); (case k3 => k_asm); (case k5 => k_asm); (case k6 => k_is); (case k7 => k_is); (case k8 => ktr_room); (case k9 => exact BindsTo.of_eq rfl); (case c5 => decide); (case kB => exact locs rfl); (case c2 => exact rfl); (case c3 => exact rfl); (case c4 => exact rfl); k_whole; intro L' h' F' N' X' T'; (try dsimp only); (try k_fold))
  repeat' ((fail_if_success (with_reducible show wpAny _ _ (exec (Stmt.For _ _ _ _ _) _) _ _ _)); first | (k_unfold; (try dsimp only)) | (k_end; wrow_close) | walk1 | (dsimp only; walk1) | (dsimp only; k_unfold; (try dsimp only)) | (leave1; try dsimp only) | fail "no step")
  (rename Fr s.heap _ _ _ => F1)
  (with_unfolding_all refine' For_invVF F1 ?k1 ?k2 ?_)
  (case k1 => exact rfl)
  (case k2 => exact rfl)
  repeat' ((fail_if_success (with_reducible show wpAny _ _ (pyIter _) _ _ _)); first | (k_unfold; (try dsimp only)) | (k_end; wrow_close) | walk1 | (dsimp only; walk1) | (dsimp only; k_unfold; (try dsimp only)) | (leave1; try dsimp only) | fail "no step")
  (rename Fr s.heap _ _ _ => F2)
  (rename News s.heap _ _ _ => N2)
  obtain ⟨o9, e9⟩ := news_name N2
  subst e9
  (with_unfolding_all refine' ks_list (σ := List Value × Nat) (fun c => [(o9, W.listOf c.1.toArray c.2)]) (fun _ => []) [Str.ofString "one"] (fun i c => Hid (IntsAre c.1 (octs (ns.take i)))) ([], 0) rfl hl F2 N2 ?k1 ?k2 ?_ ?_)
  (case k1 => exact List.forall_mem_nil _)
  (case k2 => exact IntsAre.nil)
  · clear F2 N2
    rintro ⟨us, k⟩ i v u h9 tk9 own hi hv hoff hP F2 N2
    dsimp only [kstB, List.nil_append, List.cons_append] at F2 N2 hP
    have hlen : vs.length = ns.length := (Hid.out hI).length
    have hul : us.length ≤ 80 := by
      have h1 := (Hid.out hP).length
      have h2 := octs_len (ns.take i)
      rw [List.length_take] at h2
      omega
    obtain ⟨n, hn⟩ : ∃ n, ns[i]? = some n := ⟨ns[i], by simp [hlen ▸ hi]⟩
    obtain ⟨t, ht⟩ := (Hid.out hI).get i n hn
    obtain rfl : v = .int n t := Option.some.inj (hv.symm.trans ht)
    obtain ⟨hn0, hn1⟩ := hb n (List.mem_of_getElem? hn)
    have cases4 : n ≤ 63 ∨ (64 ≤ n ∧ n ≤ 4095) ∨ (4096 ≤ n ∧ n ≤ 262143) ∨ (262144 ≤ n ∧ n < 300000) := by omega
    rcases cases4 with c1 | ⟨c1, c2⟩ | ⟨c1, c2⟩ | ⟨c1, c2⟩
    · have e9 := oct1_c1 c1
      (try k_fold)
      repeat' ((fail_if_success (with_reducible show wpAny _ _ (exec (Stmt.While _ _ _ _) _) _ _ _)); first | (k_unfold; (try dsimp only)) | (k_end; wrow_close) | walk1 | (dsimp only; walk1) | (dsimp only; k_unfold; (try dsimp only)) | (leave1; try dsimp only) | fail "no step")
      refine whl_start 10 ?_
      repeat' (first | (k_unfold; (try dsimp only)) | (k_end; wrow_close) | walk1 | (dsimp only; walk1) | (dsimp only; k_unfold; (try dsimp only)) | (leave1; try dsimp only) | fail "no step")
      (rename Fr s.heap _ _ _ => F9)
      (rename News s.heap _ _ _ => N9)
      (simp only [List.append_toArray] at N9)
      refine ks_end ⟨_, _⟩ F9 N9 (List.forall_mem_singleton.mpr (by k_mem)) (fun p hp => by kst_mem) rfl (List.forall_mem_nil _) ?_ ?_
      · (intro z h1 h2 h3; (simp only [List.contains_cons, List.contains_nil, Bool.or_false, Bool.or_eq_false_iff, beq_eq_false_iff_ne, ne_eq] at h3); (simp only [List.forall_mem_cons, List.not_mem_nil, false_implies, implies_true, and_true, ne_eq] at h2); (try simp only [h1, h2, h3, if_false]); (repeat' split) <;> first | rfl | (simp_all; done))
      · show Hid (IntsAre _ _)
        rw [octs_succ hn, e9]
        exact IntsAre.append hP (by l_intsW)
    · have e9 := oct1_c2 c1 c2
      (try k_fold)
      repeat' ((fail_if_success (with_reducible show wpAny _ _ (exec (Stmt.While _ _ _ _) _) _ _ _)); first | (k_unfold; (try dsimp only)) | (k_end; wrow_close) | walk1 | (dsimp only; walk1) | (dsimp only; k_unfold; (try dsimp only)) | (leave1; try dsimp only) | fail "no step")
      refine whl_start 10 ?_
      repeat' (first | (k_unfold; (try dsimp only)) | (k_end; wrow_close) | walk1 | (dsimp only; walk1) | (dsimp only; k_unfold; (try dsimp only)) | (leave1; try dsimp only) | fail "no step")
      (rename Fr s.heap _ _ _ => F9)
      (rename News s.heap _ _ _ => N9)
      (simp only [List.append_toArray] at N9)
      refine ks_end ⟨_, _⟩ F9 N9 (List.forall_mem_singleton.mpr (by k_mem)) (fun p hp => by kst_mem) rfl (List.forall_mem_nil _) ?_ ?_
      · (intro z h1 h2 h3; (simp only [List.contains_cons, List.contains_nil, Bool.or_false, Bool.or_eq_false_iff, beq_eq_false_iff_ne, ne_eq] at h3); (simp only [List.forall_mem_cons, List.not_mem_nil, false_implies, implies_true, and_true, ne_eq] at h2); (try simp only [h1, h2, h3, if_false]); (repeat' split) <;> first | rfl | (simp_all; done))
      · show Hid (IntsAre _ _)
        rw [octs_succ hn, e9]
        exact IntsAre.append hP (by l_intsW)
    · have e9 := oct1_c3 c1 c2
      (try k_fold)
      repeat' ((fail_if_success (with_reducible show wpAny _ _ (exec (Stmt.While _ _ _ _) _) _ _ _)); first | (k_unfold; (try dsimp only)) | (k_end; wrow_close) | walk1 | (dsimp only; walk1) | (dsimp only; k_unfold; (try dsimp only)) | (leave1; try dsimp only) | fail "no step")
      refine whl_start 10 ?_
      repeat' (first | (k_unfold; (try dsimp only)) | (k_end; wrow_close) | walk1 | (dsimp only; walk1) | (dsimp only; k_unfold; (try dsimp only)) | (leave1; try dsimp only) | fail "no step")
      (rename Fr s.heap _ _ _ => F9)
      (rename News s.heap _ _ _ => N9)
      (simp only [List.append_toArray] at N9)
      refine ks_end ⟨_, _⟩ F9 N9 (List.forall_mem_singleton.mpr (by k_mem)) (fun p hp => by kst_mem) rfl (List.forall_mem_nil _) ?_ ?_
      · (intro z h1 h2 h3; (simp only [List.contains_cons, List.contains_nil, Bool.or_false, Bool.or_eq_false_iff, beq_eq_false_iff_ne, ne_eq] at h3); (simp only [List.forall_mem_cons, List.not_mem_nil, false_implies, implies_true, and_true, ne_eq] at h2); (try simp only [h1, h2, h3, if_false]); (repeat' split) <;> first | rfl | (simp_all; done))
      · show Hid (IntsAre _ _)
        rw [octs_succ hn, e9]
        exact IntsAre.append hP (by l_intsW)
    · have e9 := oct1_c4 c1
      (try k_fold)
      repeat' ((fail_if_success (with_reducible show wpAny _ _ (exec (Stmt.While _ _ _ _) _) _ _ _)); first | (k_unfold; (try dsimp only)) | (k_end; wrow_close) | walk1 | (dsimp only; walk1) | (dsimp only; k_unfold; (try dsimp only)) | (leave1; try dsimp only) | fail "no step")
      refine whl_start 10 ?_
      repeat' (first | (k_unfold; (try dsimp only)) | (k_end; wrow_close) | walk1 | (dsimp only; walk1) | (dsimp only; k_unfold; (try dsimp only)) | (leave1; try dsimp only) | fail "no step")
      (rename Fr s.heap _ _ _ => F9)
      (rename News s.heap _ _ _ => N9)
      (simp only [List.append_toArray] at N9)
      refine ks_end ⟨_, _⟩ F9 N9 (List.forall_mem_singleton.mpr (by k_mem)) (fun p hp => by kst_mem) rfl (List.forall_mem_nil _) ?_ ?_
      · (intro z h1 h2 h3; (simp only [List.contains_cons, List.contains_nil, Bool.or_false, Bool.or_eq_false_iff, beq_eq_false_iff_ne, ne_eq] at h3); (simp only [List.forall_mem_cons, List.not_mem_nil, false_implies, implies_true, and_true, ne_eq] at h2); (try simp only [h1, h2, h3, if_false]); (repeat' split) <;> first | rfl | (simp_all; done))
      · show Hid (IntsAre _ _)
        rw [octs_succ hn, e9]
        exact IntsAre.append hP (by l_intsW)
  · rintro ⟨us, k⟩ u h9 tk9 hP F2 N2
    dsimp only at hP
    rw [(Hid.out hI).length, List.take_length] at hP
    dsimp only [kstB, List.cons_append, List.nil_append] at F2 N2
    repeat' (first | (k_unfold; (try dsimp only)) | (k_end; wrow_close) | walk1 | (dsimp only; walk1) | (dsimp only; k_unfold; (try dsimp only)) | (leave1; try dsimp only) | fail "no step")
    (rename Fr s.heap _ _ _ => F9)
    (rename News s.heap _ _ _ => N9)
    obtain ⟨R1, R2, R3, R4⟩ := ret1 F N F9 N9 (out := [_]) (fun p hp => by rw [List.mem_singleton.mp hp]; exact .head _)
    exact hret _ _ _ _ _ hP R1 R2 R3 (fun p hp => R4 p hp _ (.head _))
end Mine
end

section
open PySem PySem.W PyProof.Rows PySem.Calls PySem.Spec
namespace Mine
/-- the numbers of a row -/
def NumsOk (ns : List Int) : Prop := ∀ n ∈ ns, 0 ≤ n ∧ n < 300000
theorem oct1_ok {n : Int} (h0 : 0 ≤ n) (h1 : n < 300000) : Octs (oct1 n) := by
  intro b hb
  unfold oct1 at hb
  split at hb
  · have e : b = n % 64 := by simpa using hb
    omega
  · split at hb
    · have e : b = 64 + n / 64 % 64 ∨ b = n % 64 := by simpa using hb
      omega
    · split at hb
      · have e : b = 64 + n / 4096 % 64 ∨ b = 64 + n / 64 % 64 ∨ b = n % 64 := by simpa using hb
        omega
      · have e : b = 64 + n / 262144 % 64 ∨ b = 64 + n / 4096 % 64 ∨ b = 64 + n / 64 % 64 ∨ b = n % 64 := by simpa using hb
        omega
theorem octs_ok {ns : List Int} (h : NumsOk ns) : Octs (octs ns) := by
  intro b hb
  obtain ⟨n, hn, hb⟩ := List.mem_flatMap.mp hb
  exact oct1_ok (h n hn).1 (h n hn).2 b hb
end Mine
end

section
open PySem PySem.W PyProof.Rows PySem.Calls PySem.Spec PyProof.Rows.LCg PyProof.Rows.LCt
set_option maxRecDepth 100000
namespace Mine
/-- rows of ints that lie in a heap -/
def RowsAt (h : Heap) (vs : List Value) (rows : List (List Int)) : Prop :=
  vs.length = rows.length ∧ ∀ (i : Nat) (r : List Int), rows[i]? = some r → ∃ (a : Addr) (us : List Value), vs[i]? = some (Value.ref a) ∧ h.IsList a us.toArray ∧ IntsAre us r
theorem RowsAt.keeps {h h' : Heap} {vs : List Value} {rows : List (List Int)} (R : RowsAt h vs rows) (k : h.StaysIn h') : RowsAt h' vs rows :=
  ⟨R.1, fun i r hr => by obtain ⟨a, us, e, hl, hi⟩ := R.2 i r hr; exact ⟨a, us, e, hl.at fun o q => k _ o q, hi⟩⟩
theorem RowsAt.nil {h : Heap} : RowsAt h [] [] := ⟨rfl, fun i r hr => by simp at hr⟩
theorem RowsAt.cons {h : Heap} {vs : List Value} {rows : List (List Int)} {a : Addr} {us : List Value} {r : List Int} (hl : h.IsList a us.toArray) (hi : IntsAre us r) (R : RowsAt h vs rows) : RowsAt h (.ref a :: vs) (r :: rows) :=
  ⟨by rw [List.length_cons, List.length_cons, R.1], fun i x hx => by
    cases i with
    | zero => exact ⟨a, us, rfl, hl, by have e : r = x := by simpa using hx
                                        exact e ▸ hi⟩
    | succ i => exact R.2 i x (by simpa using hx)⟩
theorem RowsAt.row {h : Heap} {vs : List Value} {rows : List (List Int)} (R : RowsAt h vs rows) {i : Nat} {v : Value} (hv : vs[i]? = some v) : ∃ a us r, v = .ref a ∧ rows[i]? = some r ∧ h.IsList a us.toArray ∧ IntsAre us r := by
  have hi : i < rows.length := by rw [← R.1]; exact (List.getElem?_eq_some_iff.mp hv).1
  obtain ⟨a, us, e, hl, hI⟩ := R.2 i rows[i] (List.getElem?_eq_getElem hi)
  rw [hv] at e
  exact ⟨a, us, _, Option.some.inj e, List.getElem?_eq_getElem hi, hl, hI⟩
end Mine
namespace Mine
section
variable {prog : Program} {w : World} {A : Around} {E : Value → Shared → Prop} {s : Shared} {h₀ : Heap} {L : Addr} {m : Str → Option Value}
theorem item_at {value slice : PySem.Expr} {l : Addr} {vs : List Value} {k : Nat} {u : Tok} {v : Value} {Q : Value → Shared → Prop}
    (F : Fr h₀ L s.heap m) (hl : h₀.IsList l vs.toArray) (hk : k ≤ 1000) (hx : vs[k]? = some v) (h : Q v s)
    (hs : subscripted slice false (.ref l) (.int (k : Int) u) = operate [.ref l, .int (k : Int) u] (getItem (.ref l) (.int (k : Int) u)) := by with_unfolding_all rfl) :
    wpAny (model prog w) A (subscriptTail value slice (.ref l) (.int (k : Int) u)) Q E s := by
  have hl' : s.heap.IsList l vs.toArray := hl.at fun o e => F.keep l o e
  exact tail_any hl'.typeIs slot_list_getitem.lookup (wpAny_getItem_list hl' (Int.natCast_nonneg k) (by omega) (by simpa using hx) h) hs
theorem item_in {news : List (Addr × Obj)} {value slice : PySem.Expr} {l : Addr} {vs : List Value} {n : Nat} {k : Nat} {u : Tok} {v : Value} {Q : Value → Shared → Prop}
    (N : News h₀ L s.heap news) (hm : (l, W.listOf vs.toArray n) ∈ news) (hk : k ≤ 1000) (hx : vs[k]? = some v) (h : Q v s)
    (hs : subscripted slice false (.ref l) (.int (k : Int) u) = operate [.ref l, .int (k : Int) u] (getItem (.ref l) (.int (k : Int) u)) := by with_unfolding_all rfl) :
    wpAny (model prog w) A (subscriptTail value slice (.ref l) (.int (k : Int) u)) Q E s := by
  have hl' : s.heap.IsList l vs.toArray := ⟨_, (N _ hm).1, rfl, n, rfl⟩
  exact tail_any hl'.typeIs slot_list_getitem.lookup (wpAny_getItem_list hl' (Int.natCast_nonneg k) (by omega) (by simpa using hx) h) hs
end
end Mine
namespace Mine
section
variable {prog : Program} {w : World} {A : Around} {E : Value → Shared → Prop} {s : Shared} {h₀ : Heap} {L : Addr} {m : Str → Option Value}
theorem eq_nil_K {news : List (Addr × Obj)} {a b : Addr} {ys : List Value} {n n2 : Nat} {Q : Value → Shared → Prop} (hu : A.units < cLine) (N : News h₀ L s.heap news) (ha : (a, W.listOf ys.toArray n) ∈ news) (hb : (b, W.listOf #[] n2) ∈ news)
    (h : Q (.bool ys.isEmpty) s) : wpAny (model prog w) A (compareOp .Eq (.ref a) (.ref b)) Q E s := by
  have la : s.heap.IsList a ys.toArray := ⟨_, (N _ ha).1, rfl, n, rfl⟩
  have lb : s.heap.IsList b #[] := ⟨_, (N _ hb).1, rfl, n2, rfl⟩
  cases ys with
  | nil => exact SeqAt.eq_listAt (e := fun _ => true) la lb rfl hu (fun j h1 _ => absurd h1 (Nat.not_lt_zero j)) h
  | cons y r => exact SeqAt.eq_list_lengthsAt la lb (by simp) hu h
end
theorem comm_step {r0 : List Int} {rr : List (List Int)} {k : Nat} (h : ∀ r ∈ r0 :: rr, r.take k = r0.take k) (hk : ∀ r ∈ r0 :: rr, r[k]? = r0[k]?) : ∀ r ∈ r0 :: rr, r.take (k + 1) = r0.take (k + 1) := fun r hr => by
  rw [List.take_add_one, List.take_add_one, h r hr, hk r hr]
theorem take_prefix {r0 r : List Int} {k : Nat} (h : r.take k = r0.take k) : r0.take k <+: r := h ▸ List.take_prefix k r
/-- a row is at its end -/
theorem comm_end {r0 : List Int} {rr : List (List Int)} {k : Nat} (h : ∀ r ∈ r0 :: rr, r.take k = r0.take k) {r : List Int} (hr : r ∈ r0 :: rr) (hk : r.length ≤ k) : IsComm (r0 :: rr) (r0.take k) := by
  refine ⟨fun x hx => take_prefix (h x hx), fun a ha => ?_⟩
  have h1 := (ha r hr).length_le
  have h2 := congrArg List.length (h r hr)
  rw [List.length_take, List.length_take] at h2
  rw [List.length_append, List.length_singleton, List.length_take] at h1
  omega
/-- the next ones are not alike -/
theorem comm_differ {r0 : List Int} {rr : List (List Int)} {k : Nat} (h : ∀ r ∈ r0 :: rr, r.take k = r0.take k) (hl : ∀ r ∈ r0 :: rr, k ≤ r.length) (hk : ¬ ∀ r ∈ r0 :: rr, r[k]? = r0[k]?) : IsComm (r0 :: rr) (r0.take k) := by
  refine ⟨fun x hx => take_prefix (h x hx), fun a ha => hk ?_⟩
  have at' : ∀ r ∈ r0 :: rr, r[k]? = some a := by
    intro r hr
    obtain ⟨t, ht⟩ := ha r hr
    have e : (r0.take k).length = k := by rw [List.length_take]; have := hl r0 (.head _); omega
    rw [← ht, List.append_assoc, List.getElem?_append_right (by omega), e]
    simp
  intro r hr
  rw [at' r hr, at' r0 (.head _)]
end Mine
namespace Mine
section
variable {prog : Program} {w : World} {A : Around} {E : Value → Shared → Prop} {s : Shared} {h₀ : Heap} {L : Addr} {m : Str → Option Value} {news : List (Addr × Obj)}
theorem slice_upto {value slice : PySem.Expr} {l : Addr} {vs : List Value} {k : Nat} {u : Tok} {Q : Value → Shared → Prop}
    (F : Fr h₀ L s.heap m) (N : News h₀ L s.heap news) (hl : s.heap.IsList l vs.toArray) (hz : vs.length ≤ 1000)
    (h : ∀ D h', Fr h₀ L h' m → News h₀ L h' ((D, W.listOf (vs.take k).toArray 0) :: news) → (∀ p ∈ news, p.1 < D) → Q (.ref D) { s with heap := h' })
    (hs : subscripted slice false (.ref l) (.ref s.heap.objs.size) = operate [.ref s.heap.objs.size, .ref l] (getItem (.ref l) (.ref s.heap.objs.size))) :
    wpAny (model prog w) A (subscriptTail value slice (.ref l) (.ref s.heap.objs.size)) Q E { s with heap := s.heap.push { cls := .type "slice", data := .fields #[.none, .int (k : Int) u, .none] } } := by
  refine kba_turn (value' := PySem.Expr.Name (Str.ofString "_") default) (fun _ => rfl) ?_
  refine kmk_slice F N hl .none (.int (k : Int) u) (fun D h' F' N' l1 => h D h' F' ?_ l1) hs (fun _ => rfl) (by rw [sizeLine_eq, List.size_toArray]; omega)
  rw [← pick_upto]
  exact N'
theorem slice_from {value slice : PySem.Expr} {l : Addr} {vs : List Value} {k : Nat} {u : Tok} {Q : Value → Shared → Prop}
    (F : Fr h₀ L s.heap m) (N : News h₀ L s.heap news) (hl : s.heap.IsList l vs.toArray) (hz : vs.length ≤ 1000)
    (h : ∀ D h', Fr h₀ L h' m → News h₀ L h' ((D, W.listOf (vs.drop k).toArray 0) :: news) → (∀ p ∈ news, p.1 < D) → Q (.ref D) { s with heap := h' })
    (hs : subscripted slice false (.ref l) (.ref s.heap.objs.size) = operate [.ref s.heap.objs.size, .ref l] (getItem (.ref l) (.ref s.heap.objs.size))) :
    wpAny (model prog w) A (subscriptTail value slice (.ref l) (.ref s.heap.objs.size)) Q E { s with heap := s.heap.push { cls := .type "slice", data := .fields #[.int (k : Int) u, .none, .none] } } := by
  refine kba_turn (value' := PySem.Expr.Name (Str.ofString "_") default) (fun _ => rfl) ?_
  refine kmk_slice F N hl (.int (k : Int) u) .none (fun D h' F' N' l1 => h D h' F' ?_ l1) hs (fun _ => rfl) (by rw [sizeLine_eq, List.size_toArray]; omega)
  rw [← pick_from]
  exact N'
end
end Mine
end

section
open PySem PySem.W PyProof.Rows PySem.Calls PySem.Spec PyProof.Rows.LCg PyProof.Rows.LCt
set_option maxRecDepth 100000
namespace Mine
/-- rows of ints that lie in a ledger -/
def RowsL (nw : List (Addr × Obj)) (vs : List Value) (rows : List (List Int)) : Prop :=
  vs.length = rows.length ∧ ∀ (i : Nat) (r : List Int), rows[i]? = some r → ∃ (a : Addr) (us : List Value) (k : Nat), vs[i]? = some (Value.ref a) ∧ (a, W.listOf us.toArray k) ∈ nw ∧ IntsAre us r
theorem RowsL.nil {nw : List (Addr × Obj)} : RowsL nw [] [] := ⟨rfl, fun i r h => by simp at h⟩
theorem RowsL.mono {nw nw' : List (Addr × Obj)} {vs : List Value} {rows : List (List Int)} (h : ∀ p ∈ nw, p ∈ nw') (r : RowsL nw vs rows) : RowsL nw' vs rows :=
  ⟨r.1, fun i x hx => by obtain ⟨a, us, k, e, hm, hs⟩ := r.2 i x hx; exact ⟨a, us, k, e, h _ hm, hs⟩⟩
theorem RowsL.at {nw : List (Addr × Obj)} {vs : List Value} {rows : List (List Int)} {h₀ h : Heap} {L : Addr} (N : News h₀ L h nw) (r : RowsL nw vs rows) : RowsAt h vs rows :=
  ⟨r.1, fun i x hx => by obtain ⟨a, us, k, e, hm, hs⟩ := r.2 i x hx; exact ⟨a, us, e, ⟨_, (N _ hm).1, rfl, k, rfl⟩, hs⟩⟩
theorem RowsL.snoc {nw : List (Addr × Obj)} {vs : List Value} {rows : List (List Int)} {a : Addr} {us : List Value} {k : Nat} {x : List Int} (r : RowsL nw vs rows) (hm : (a, W.listOf us.toArray k) ∈ nw) (hs : IntsAre us x) : RowsL nw (vs ++ [.ref a]) (rows ++ [x]) :=
  ⟨by rw [List.length_append, List.length_append, r.1]; rfl, fun i y hy => by
    rcases Nat.lt_or_ge i rows.length with h | h
    · rw [List.getElem?_append_left h] at hy
      obtain ⟨b, us', k', e, hm', hs'⟩ := r.2 i y hy
      exact ⟨b, us', k', by rw [List.getElem?_append_left (by rw [r.1]; exact h)]; exact e, hm', hs'⟩
    · rw [List.getElem?_append_right h] at hy
      obtain ⟨j, hj⟩ : ∃ j, i - rows.length = j := ⟨_, rfl⟩
      rw [hj] at hy
      cases j with
      | zero =>
        have e : x = y := by simpa using hy
        subst e
        exact ⟨a, us, k, by rw [List.getElem?_append_right (by rw [r.1]; exact h), r.1, hj]; rfl, hm, hs⟩
      | succ j => simp at hy⟩
theorem src_mono {h₀ : Heap} {ax : Addr} {its : Array Value} {nw nw' : List (Addr × Obj)} (h : ∀ p ∈ nw, p ∈ nw') (x : SrcAt h₀ ax its nw) : SrcAt h₀ ax its nw' := by
  rcases x with q | ⟨o, hm, r⟩
  · exact .inl q
  · exact .inr ⟨o, h _ hm, r⟩
theorem src_in {h₀ : Heap} {ax : Addr} {its : Array Value} {n : Nat} {nw : List (Addr × Obj)} (h : (ax, W.listOf its n) ∈ nw) : SrcAt h₀ ax its nw := .inr ⟨_, h, rfl, n, rfl⟩
theorem off_new {I C D X : Addr} {oI oC oD o : Obj} {news : List (Addr × Obj)} (h : ∀ p ∈ (I, oI) :: (C, oC) :: (D, oD) :: news, p.1 ≠ X) (off : Off3 I C D news) : Off3 I C D ((X, o) :: news) := by
  obtain ⟨h1, h⟩ := List.forall_mem_cons.mp h
  obtain ⟨h2, h⟩ := List.forall_mem_cons.mp h
  obtain ⟨h3, h⟩ := List.forall_mem_cons.mp h
  exact off_tail (Ne.symm h1) (Ne.symm h2) (Ne.symm h3) off
theorem ints_item {vs : List Value} {ns : List Int} (h : IntsAre vs ns) {i : Nat} {v : Value} (hv : vs[i]? = some v) : ∃ (n : Int) (t : Tok), v = .int n t ∧ ns[i]? = some n := by
  have hi : i < ns.length := by rw [← h.length]; exact (List.getElem?_eq_some_iff.mp hv).1
  obtain ⟨t, ht⟩ := h.get i ns[i] (List.getElem?_eq_getElem hi)
  exact ⟨ns[i], t, Option.some.inj (hv.symm.trans ht), List.getElem?_eq_getElem hi⟩
theorem off1_all {D : Addr} {l : List (Addr × Obj)} (x : Off1 D l) : ∀ p ∈ l, p.1 ≠ D := by
  induction l with
  | nil => exact List.forall_mem_nil _
  | cons q r ih => exact List.forall_mem_cons.mpr ⟨x.1, ih x.2⟩
section
variable {prog : Program} {w : World} {A : Around} {s : Shared} {h₀ : Heap} {L : Addr} {m : Str → Option Value} {env : Env}
theorem src_comp {elt : Expr} {x : Str} {scope : Scope} {cl : List (Str × Addr)} {Fin : Shared → List Value → List (Addr × Obj) → Prop} {ax : Addr} {its : Array Value} {news : List (Addr × Obj)} {s₁ : Shared}
    (hh : A.handled = none) (F : Fr h₀ L s₁.heap m) (N : News h₀ L s₁.heap news) (S : SrcAt h₀ ax its news) (hsz : its.size ≤ sizeLine)
    (h : ∀ g, CompRest prog w A h₀ L m env elt x scope cl { s₁ with heap := g } (SrcAt h₀ ax its) (fun i v => its[i]? = some v) (Fin { s₁ with heap := g }) its.size 0 [] news) :
    CompSrc prog w A h₀ L m env elt x scope cl Fin (.ref ax) s₁ := .inl ⟨ax, its, news, rfl, hh, F, N, S, hsz, fun _ ⟨g, e⟩ => e ▸ h g⟩
end
end Mine
namespace Mine
section
variable {prog : Program} {w : World} {A : Around} {E : Value → Shared → Prop} {s : Shared} {h₀ : Heap} {L : Addr} {m : Str → Option Value} {news : List (Addr × Obj)}
theorem item_src {value slice : PySem.Expr} {l : Addr} {vs : List Value} {k : Nat} {u : Tok} {v : Value} {Q : Value → Shared → Prop}
    (F : Fr h₀ L s.heap m) (N : News h₀ L s.heap news) (hl : SrcAt h₀ l vs.toArray news) (hk : k ≤ 1000) (hx : vs[k]? = some v) (h : Q v s)
    (hs : subscripted slice false (.ref l) (.int (k : Int) u) = operate [.ref l, .int (k : Int) u] (getItem (.ref l) (.int (k : Int) u)) := by with_unfolding_all rfl) :
    wpAny (model prog w) A (subscriptTail value slice (.ref l) (.int (k : Int) u)) Q E s := by
  have hl' : s.heap.IsList l vs.toArray := hl.list F.keep N
  exact tail_any hl'.typeIs slot_list_getitem.lookup (wpAny_getItem_list hl' (Int.natCast_nonneg k) (by omega) (by simpa using hx) h) hs
theorem len_in {f : Addr} {us : List Value} {n : Nat} {ns : List Int} {Q : Value → Shared → Prop} (N : News h₀ L s.heap news) (hm : (f, W.listOf us.toArray n) ∈ news) (hi : IntsAre us ns) (hz : ns.length ≤ 1000)
    (h : ∀ t k, Q (.int (ns.length : Nat) t) { s with toks := k }) : wpAny (model prog w) A (call (.builtin "len") [.ref f]) Q E s :=
  kun_lenL ⟨_, (N _ hm).1, rfl, n, rfl⟩ (by rw [List.size_toArray, hi.length]) (by omega) (h _ _)
end
end Mine
end

section
namespace Mine
theorem rst_To1 : True := by w_top off; trivial
end Mine
open PySem PySem.W PyProof.Rows PySem.Calls PySem.Spec
namespace Mine
local macro_rules | `(tactic| k_all) => `(tactic| assumption)
def toScope : Scope := scopeAt 25 default
def toBody : List Stmt := forBody ((bodyAt 25).drop 2)
set_option maxRecDepth 100000 in
set_option maxHeartbeats 8000000 in
theorem to_paths {w : World} {s₀ : Shared} {mg mb : Str → Option Value} {dp un : Nat} {gd : Option (List Code)} {cn : Str} {cs : Scope} {a : Addr} {ccd : Value} {cl : List (Str × Addr)} {outer : List Env} {h₀ : Heap} {L L' : Addr} {m : Str → Option Value} {news : List (Addr × Obj)} {s : Shared} {Q : Flow → Shared → Prop} {E : Value → Shared → Prop} {l : Addr} {vs : List Value} {rows : List (List Int)} {oP oF : Obj} {xP xF : Option Value} :
    (hd.heap_39 w.params).In h₀ → Top hd.view_39 (looseW hd.view_39 []) (ExcName.means s₀.heap) mg mb h₀ →
    Fr h₀ L' s.heap m → News h₀ L' s.heap ((L' + 1 + 1, oF) :: (L' + 1, oP) :: news) → dp + 14 < recursionLimit → un + 160 < cLine →
    m (Str.ofString "rows") = some (.ref l) → h₀.IsList l vs.toArray → RowsAt h₀ vs rows → rows.length ≤ 10 → (∀ r ∈ rows, NumsOk r) → (∀ r ∈ rows, r.length ≤ 20) →
    oP.data = .cell xP → oF.data = .cell xF → (∀ p ∈ news, p.1 ≠ L' + 1) → (∀ p ∈ news, p.1 ≠ L' + 1 + 1) →
    (∀ h' tk' D ys oP', Fr h₀ L' h' m → News h₀ L' h' ((D, LCg.lst ys) :: (L' + 1 + 1, oF) :: (L' + 1, oP') :: news) → oP'.data = .cell (some (.ref D)) → StrsAre ys (rows.map fun r => pathOf (octs r)) → (∀ p ∈ (L' + 1 + 1, oF) :: (L' + 1, oP) :: news, p.1 ≠ D) → Q .next { s with heap := h', toks := tk' }) →
    wpAny (model PySem.Challenge.rw_rt0029_01.row.prog w) ((ktrTop dp un gd cn cs L a ccd cl outer).deeper (envOfC (Str.ofString "_law_told") toScope L' 167 (.ref 166))) (exec (nthS (bodyAt 25) 0) (envOfC (Str.ofString "_law_told") toScope L' 167 (.ref 166))) Q E s := by
  k_fill
  intro X T F N hd hu hm1 hl hR hrl hok hrb hP hF off1 off2 hret
  (conv in (occs := *) toScope => all_goals whnf)
  (conv in (nthS _ _) => whnf)
  replace F := ksw_fr (stored := []) (m₀ := m) (ps := [(Str.ofString "rows", .ref l)]) (List.forall_mem_singleton.mpr hm1) (fun _ _ _ => rfl) F
  dsimp only [kstB] at F
  repeat' ((fail_if_success (with_reducible show wpAny _ _ (eval (Expr.ListComp _ _ _ _) _) _ _ _)); first | (k_unfold; (try dsimp only)) | (k_end; wrow_close) | walk1 | (dsimp only; walk1) | (dsimp only; k_unfold; (try dsimp only)) | (leave1; try dsimp only) | fail "no step")
  k_dflt (refine LCg.ListComp_U (F₀ := by k_asm) (by with_unfolding_all rfl) (by decide) (by rfl) (by decide) (by rfl) ?_)
  repeat' ((fail_if_success (with_reducible show LCg.CompSrc _ _ _ _ _ _ _ _ _ _ _ _ _ _)); first | (k_unfold; (try dsimp only)) | (k_end; wrow_close) | walk1 | (dsimp only; walk1) | (dsimp only; k_unfold; (try dsimp only)) | (leave1; try dsimp only) | fail "no step")
  refine src_comp rfl (by k_asm) (by k_asm) (.inl hl) (by rw [sizeLine_eq, List.size_toArray, hR.1]; omega) fun g9 => ?_
  refine rest_ind (fun i ys => StrsAre ys ((rows.take i).map fun r => pathOf (octs r))) (by exact .nil) ?_ ?_
  · intro ys hinv
    rw [List.size_toArray, hR.1, List.take_length] at hinv
    (try unfold LCg.FinE)
    intro Dn hn tkn Fn Nn o1n
    have o2n := off1_all o1n
    obtain ⟨q1, q2, q3⟩ := o1n
    repeat' (first | (k_unfold; (try dsimp only)) | (k_end; wrow_close) | walk1 | (dsimp only; walk1) | (dsimp only; k_unfold; (try dsimp only)) | (leave1; try dsimp only) | fail "no step")
    (rename Fr h₀ _ _ _ => F8)
    (rename News h₀ _ _ _ => N8)
    refine hret _ _ Dn ys _ (fr_same F8 fun z => ?_) N8 (by assumption) hinv o2n
    (try dsimp only)
    split
    · rename_i e; rw [e, hm1]
    · rfl
  · intro k i ys hi hinv ih
    (with_unfolding_all refine LCg.CompRest.succ ?_)
    intro v' I' oI' C' oC' D' m' h' tk' E' hv' hC' hx' F' N' off' ne'
    have hv8 := hv'
    rw [List.getElem?_toArray] at hv8
    obtain ⟨a1, us1, r1, rfl, hr1, hl1, hi1⟩ := hR.row hv8
    have hb1 := hrb r1 (List.mem_of_getElem? hr1)
    have hk1 := hok r1 (List.mem_of_getElem? hr1)
    repeat' ((fail_if_success (with_reducible show LCg.CompEnd _ _ _ _ _ _ _ _ _ _ _ _ _ _)); (fail_if_success (with_reducible show wpAny _ _ (eval (Expr.ListComp _ _ _ _) _) _ _ _)); first | (k_unfold; (try dsimp only)) | (k_end; wrow_close) | walk1 | (dsimp only; walk1) | (dsimp only; k_unfold; (try dsimp only)) | (leave1; try dsimp only) | fail "no step")
    k_dflt (refine LCg.ListComp_U (F₀ := by k_asm) (by with_unfolding_all rfl) (by decide) (by rfl) (by decide) (by rfl) ?_)
    repeat' ((fail_if_success (with_reducible show wpAny _ _ (call (Value.ref 155) _ _) _ _ _)); first | (k_unfold; (try dsimp only)) | (k_end; wrow_close) | walk1 | (dsimp only; walk1) | (dsimp only; k_unfold; (try dsimp only)) | (leave1; try dsimp only) | fail "no step")
    (rename Fr h₀ _ _ _ => F9)
    (rename News h₀ _ _ _ => N9)
    (with_unfolding_all refine' octets_spec X T F9 N9 ?hk ?hd ?hu (hl1.at fun o e => F9.keep a1 o e) hi1 hk1 hb1 ?_)
    (case hk => exact rfl)
    (case hd => ktr_room)
    (case hu => ktr_units)
    clear F9 N9
    intro r9 h9 tk9 us9 k9 hI9 F9 N9 S9 l9
    have hoc := octs_ok hk1
    have hol := octs_len r1
    repeat' ((fail_if_success (with_reducible show LCg.CompSrc _ _ _ _ _ _ _ _ _ _ _ _ _ _)); first | (k_unfold; (try dsimp only)) | (k_end; wrow_close) | walk1 | (dsimp only; walk1) | (dsimp only; k_unfold; (try dsimp only)) | (leave1; try dsimp only) | fail "no step")
    refine src_comp rfl F9 N9 (src_in (.head _)) (by rw [sizeLine_eq, List.size_toArray, hI9.length]; omega) fun g8 => ?_
    refine rest_ind (fun j zs => StrsAre zs (((octs r1).take j).map itxt)) (by exact .nil) ?_ ?_
    · intro zs hzv
      rw [List.size_toArray, hI9.length, List.take_length] at hzv
      (try unfold LCg.FinE)
      intro Dz hz9 tkz Fz Nz o1z
      repeat' ((fail_if_success (with_reducible show LCg.CompEnd _ _ _ _ _ _ _ _ _ _ _ _ _ _)); (fail_if_success (with_reducible show StarOf _ _ _ _ _ _)); first | (k_unfold; (try dsimp only)) | (k_end; wrow_close) | walk1 | (dsimp only; walk1) | (dsimp only; k_unfold; (try dsimp only)) | (leave1; try dsimp only) | fail "no step")
      (with_unfolding_all refine' star_seq (ws := zs) Fz Nz (.head _) rfl rfl (.inl rfl) rfl ?z ?_)
      (case z => (rw [sizeLine_eq, List.size_toArray, hzv.length, List.length_map]; omega))
      clear Fz Nz
      intro hz8 Fz Nz
      repeat' ((fail_if_success (with_reducible show LCg.CompEnd _ _ _ _ _ _ _ _ _ _ _ _ _ _)); (fail_if_success (with_reducible show wpAny _ _ (call (Value.ref 122) _ _) _ _ _)); first | (k_unfold; (try dsimp only)) | (k_end; wrow_close) | walk1 | (dsimp only; walk1) | (dsimp only; k_unfold; (try dsimp only)) | (leave1; try dsimp only) | fail "no step")
      rw [List.append_nil]
      (with_unfolding_all refine' join_spec X T Fz Nz ?hk ?hd ?hu hzv ?hl ?hx ?_)
      (case hk => exact rfl)
      (case hd => ktr_room)
      (case hu => ktr_units)
      (case hl => rw [List.length_map]; omega)
      (case hx =>
        intro y hy
        obtain ⟨b, hb, rfl⟩ := List.mem_map.mp hy
        exact itxt_len (hoc b hb).1 (hoc b hb).2)
      clear Fz Nz
      intro hz7 tk7 t7 Fz Nz S7
      (try dsimp only)
      refine LCg.CompEnd.intro Fz Nz _ (fun p hp => .tail _ (.tail _ hp)) off' (.inl hl) (ih _ ?_)
      rw [List.take_add_one, hr1, List.map_append]
      exact StrsAre.append' hinv (.cons _ _ .nil)
    · intro k2 j zs hj hzv ihz
      (with_unfolding_all refine LCg.CompRest.succ ?_)
      intro v' I2 oI2 C2 oC2 D2 m2 h2 tk2 E2 hv2 hC2 hx2 F2 N2 off2' ne2
      have hv8 := hv2
      rw [List.getElem?_toArray] at hv8
      obtain ⟨b, tb, rfl, hb⟩ := ints_item hI9 hv8
      repeat' ((fail_if_success (with_reducible show LCg.CompEnd _ _ _ _ _ _ _ _ _ _ _ _ _ _)); (fail_if_success (with_reducible show wpAny _ _ (call (Value.type "str") _ _) _ _ _)); first | (k_unfold; (try dsimp only)) | (k_end; wrow_close) | walk1 | (dsimp only; walk1) | (dsimp only; k_unfold; (try dsimp only)) | (leave1; try dsimp only) | fail "no step")
      have hb0 := hoc b (List.mem_of_getElem? hb)
      (with_unfolding_all refine' P.str_of_int (Nat.lt_of_le_of_lt (Nat.log2_le_self _) (by omega)) ?_)
      (try dsimp only)
      repeat' ((fail_if_success (with_reducible show LCg.CompEnd _ _ _ _ _ _ _ _ _ _ _ _ _ _)); first | (k_unfold; (try dsimp only)) | (k_end; wrow_close) | walk1 | (dsimp only; walk1) | (dsimp only; k_unfold; (try dsimp only)) | (leave1; try dsimp only) | fail "no step")
      refine LCg.CompEnd.intro F2 N2 _ (fun p hp => hp) off2' (src_in (.head _)) (ihz _ ?_)
      rw [List.take_add_one, hb, List.map_append]
      exact StrsAre.append' hzv (.cons _ _ .nil)
end Mine
end

section
open PySem PySem.W PyProof.Rows PySem.Calls PySem.Spec
namespace Mine
theorem ints_at {vs : List Value} {ns : List Int} (h : IntsAre vs ns) {i : Nat} {v : Value} (e : vs[i]? = some v) : ∃ n t, v = .int n t ∧ ns[i]? = some n := by
  have hl := h.length
  have hi : i < vs.length := (List.getElem?_eq_some_iff.mp e).1
  obtain ⟨t, ht⟩ := h.get i ns[i] (by simp [hl ▸ hi])
  exact ⟨_, t, Option.some.inj (e.symm.trans ht), by simp [hl ▸ hi]⟩

theorem ints_eraseIdx : ∀ {vs : List Value} {ns : List Int}, IntsAre vs ns → ∀ j, IntsAre (vs.eraseIdx j) (ns.eraseIdx j)
  | _, _, .nil, _ => by simpa using IntsAre.nil
  | _, _, .cons k t h, 0 => h
  | _, _, .cons k t h, j + 1 => .cons k t (ints_eraseIdx h j)

theorem isInt_at {vs : List Value} {ns : List Int} (h : IntsAre vs ns) (x : Int) {i : Nat} (hi : i < vs.toArray.size) (hi' : i < ns.length) : isInt x vs.toArray[i] = (ns[i] == x) := by
  obtain ⟨n, t, e, en⟩ := ints_at h (i := i) (v := vs.toArray[i]) (by simp at hi ⊢)
  rw [e]
  have : ns[i] = n := by
    have := List.getElem?_eq_some_iff.mp en
    exact this.2
  rw [this]
  rfl

theorem erase_at {l : List Int} {x : Int} (h : x ∈ l) : l.eraseIdx (l.idxOf x) = l.erase x := by
  rw [List.erase_eq_eraseIdx_of_idxOf rfl]

section
variable {prog : Program} {w : World} {A : Around} {E : Value → Shared → Prop} {s : Shared} {h₀ : Heap} {L D : Addr} {m : Str → Option Value} {news news' : List (Addr × Obj)}

theorem remove_hit {us : List Value} {l : List Int} {n : Nat} {x : Int} {t : Tok} {Q : Value → Shared → Prop} (F : Fr h₀ L s.heap m) (N : News h₀ L s.heap news) (hi : IntsAre us l) (hm : x ∈ l)
    (U : Upd D (W.listOf us.toArray n) (W.listOf (us.eraseIdx (l.idxOf x)).toArray (n + 1)) news news')
    (hz : us.length ≤ sizeLine)
    (h : ∀ h', Fr h₀ L h' m → News h₀ L h' news' → IntsAre (us.eraseIdx (l.idxOf x)) (l.erase x) → Q .none { s with heap := h' }) :
    wpAny (model prog w) A (call (.builtin "list.remove") [.ref D, .int x t]) Q E s := by
  obtain ⟨pre, post, rfl, rfl, a, b'⟩ := U.split
  have z := N (D, W.listOf us.toArray n) (List.mem_append.mpr (.inr (.head _)))
  have hlt : l.idxOf x < l.length := List.idxOf_lt_length_iff.mpr hm
  have hju : l.idxOf x < us.length := by rw [hi.length]; exact hlt
  have hj : l.idxOf x < us.toArray.size := by simpa using hju
  refine call_meets PySem.F.slot_list_remove ⟨_, z.1, rfl⟩ PySem.F.entry_list_remove (PySem.F.args_list_remove_2 _ _) (PySem.MeetsSeq.list_remove D us.toArray n (.int x t) (isInt x) (fun y hy => eq_isInt x t hi y (by simpa using hy)) (l.idxOf x) hj ?_ ?_ (by simpa using hz)) ⟨z.1, ?_⟩
  · rw [isInt_at hi x hj hlt]
    simp
  · intro k hk hlt'
    rw [isInt_at hi x hk (Nat.lt_trans hlt' hlt)]
    exact List.not_of_lt_findIdx hlt'
  · have hsz : us.toArray.eraseIdxIfInBounds (l.idxOf x) = (us.eraseIdx (l.idxOf x)).toArray := by simp
    have ho' : (s.heap.update D (Obj.mapSeq fun xs => xs.eraseIdxIfInBounds (l.idxOf x))).get? D = some (W.listOf (us.eraseIdx (l.idxOf x)).toArray (n + 1)) := by
      have e1 : Obj.mapSeq (fun xs => xs.eraseIdxIfInBounds (l.idxOf x)) (W.listOf us.toArray n) = W.listOf (us.eraseIdx (l.idxOf x)).toArray (n + 1) := by
        show (⟨.type "list", none, .seq (us.toArray.eraseIdxIfInBounds (l.idxOf x)) (if (us.toArray.eraseIdxIfInBounds (l.idxOf x)).size == us.toArray.size then n else n + 1), #[]⟩ : Obj) = _
        rw [hsz]
        have hne : ((us.eraseIdx (l.idxOf x)).toArray.size == us.toArray.size) = false := by
          simp only [List.size_toArray, List.length_eraseIdx, hju, if_true, beq_eq_false_iff_ne, ne_eq]
          omega
        rw [hne]
        rfl
      rw [Heap.get?_update_self _ z.1 (by rw [e1]; rfl), e1]
    have hI := ints_eraseIdx hi (l.idxOf x)
    rw [erase_at hm] at hI
    exact h _ (F.change (Heap.SameBut.update ..) z.2.1 z.2.2) (news_set N a b' (Heap.SameBut.update ..) ho') hI

theorem remove_miss {us : List Value} {l : List Int} {n : Nat} {x : Int} {t : Tok} {Q : Value → Shared → Prop} (hh : A.handled = none) (N : News h₀ L s.heap news) (hi : IntsAre us l) (hm : x ∉ l)
    (hmem : (D, W.listOf us.toArray n) ∈ news)
    (h : ∀ h' tk e, Heap.NewExc s.heap h' e "ValueError" → E (.ref e) { s with heap := h', toks := tk }) :
    wpAny (model prog w) A (call (.builtin "list.remove") [.ref D, .int x t]) Q E s := by
  have z := N _ hmem
  refine call_meets PySem.F.slot_list_remove ⟨_, z.1, rfl⟩ PySem.F.entry_list_remove (PySem.F.args_list_remove_2 _ _) (PySem.MeetsSeq.list_remove_none D us.toArray n (.int x t) (isInt x) (fun y hy => eq_isInt x t hi y (by simpa using hy)) ?_) ⟨z.1, hh, h⟩
  intro k hk
  have hk' : k < l.length := by have := hi.length; simp at hk; omega
  rw [isInt_at hi x hk hk']
  simp only [beq_eq_false_iff_ne, ne_eq]
  intro e
  exact hm (e ▸ List.getElem_mem hk')
end
end Mine
end

section
namespace Mine
theorem rst_S6 : True := by w_top off; trivial
end Mine
local macro_rules | `(tactic| walk_at "mine pad") => `(tactic| fail "pad")
open PySem PySem.W PyProof.Rows PySem.Calls PySem.Spec
namespace Mine

/-- what «unorderable_list_difference» does, the first list read from its end -/
def uldGo : List Int → List Int → List Int → List Int × List Int
  | [], miss, act => (miss, act)
  | x :: r, miss, act => if x ∈ act then uldGo r miss (act.erase x) else uldGo r (miss ++ [x]) act
structure US where
  es : List Value
  ke : Nat
  bs : List Value
  kb : Nat
  us : List Value
  ku : Nat
  fr : List (Addr × Obj)
  xs : List Int
  ys : List Int
  zs : List Int
theorem uld_pop {xs zs ys : List Int} (h : xs ≠ []) : uldGo xs.reverse zs ys = if xs.getLastD 0 ∈ ys then uldGo xs.dropLast.reverse zs (ys.erase (xs.getLastD 0)) else uldGo xs.dropLast.reverse (zs ++ [xs.getLastD 0]) ys := by
  rcases List.eq_nil_or_concat xs with rfl | ⟨l, a, rfl⟩
  · exact absurd rfl h
  · simp only [List.concat_eq_append, List.reverse_append, List.reverse_singleton, List.singleton_append, List.getLastD_concat, List.dropLast_concat]
    rw [uldGo]
set_option maxRecDepth 100000 in
set_option maxHeartbeats 8000000 in
theorem uld_spec {w : World} {s₀ : Shared} {mg mb : Str → Option Value} {dp un : Nat} {gd : Option (List Code)} {cn : Str} {cs : Scope} {a : Addr} {ccd : Value} {cl : List (Str × Addr)} {outer : List Env} {h₀ : Heap} {L : Addr} {m : Str → Option Value} {frs rest : List (Addr × Obj)} {s : Shared}
    {Q E : Value → Shared → Prop} {e b : Addr} {es bs : List Value} {ke kb : Nat} {xs ys : List Int} :
    (hd.heap_39 w.params).In h₀ → Top hd.view_39 (looseW hd.view_39 []) (ExcName.means s₀.heap) mg mb h₀ →
    Fr h₀ L s.heap m → News h₀ L s.heap ([(e, W.listOf es.toArray ke), (b, W.listOf bs.toArray kb)] ++ frs) → TI.Frs outer frs → News h₀ L s.heap rest → (∀ p ∈ rest, p.1 ∉ ([(e, W.listOf es.toArray ke), (b, W.listOf bs.toArray kb)]).map (·.1)) → (∀ p ∈ rest, ∀ x ∈ frs, x.1 ≠ p.1) → cs.kind = .function → dp + 4 < recursionLimit → un + 60 < cLine →
    e ≠ b → IntsAre es xs → IntsAre bs ys → xs.length ≤ 20 → ys.length ≤ 20 →
    (∀ r ms us vs k k2 zs ws frs₂ h' tk', IntsAre us zs → IntsAre vs ws → (zs, ws) = uldGo xs.reverse [] ys → TI.SameUp frs frs₂ → Fr h₀ L h' m →
      News h₀ L h' ([(r, { cls := .type "tuple", data := .seq #[.ref ms, .ref b] }), (ms, W.listOf us.toArray k), (b, W.listOf vs.toArray k2)] ++ (frs₂ ++ rest)) → (∀ p ∈ rest, p.1 ≠ r ∧ p.1 ≠ ms) → Q (.ref r) { s with heap := h', toks := tk' }) →
    wpAny (model PySem.Challenge.rw_rt0029_01.row.prog w) (ktrTop dp un gd cn cs L a ccd cl outer) (call (.ref 141) [.ref e, .ref b]) Q E s := by
  k_fill
  intro X T F N Fs Nr hrm hrd hk hd hu heb hE hB hxl hyl hret
  replace hE : Hid (IntsAre es xs) := hE
  replace hB : Hid (IntsAre bs ys) := hB
  refine wpAny_call ?_
  k_dflt (refine' enter_frs (env := envX cn cs L a ccd cl) (binds := [(Str.ofString "expected", .ref e), (Str.ofString "actual", .ref b)]) F N Fs ?k3 ?k5 ?kF ?kK ?k6 ?k7 ?k8 ?k9 ?kB ?_ ?c2 ?c3 ?c4 ?c5; (case kF => exact rfl); (case kK => assumption); (case k3 => k_asm); (case k5 => k_asm); (case k6 => k_is); (case k7 => k_is); (case k8 => ktr_room); (case k9 => exact BindsTo.of_eq rfl); (case c5 => decide); (case kB => exact locs rfl); (case c2 => exact rfl); (case c3 => exact rfl); (case c4 => exact rfl); k_whole; intro g' L' h' oL' hg1 hg2 hL' Fs' F' N' X' T' l1; (try dsimp only); (try k_fold))
  repeat' ((fail_if_success (with_reducible show wpAny _ _ (exec (Stmt.While _ _ _ _) _) _ _ _)); first | (k_unfold; (try dsimp only)) | (k_end; wrow_close) | walk1 | (dsimp only; walk1) | (dsimp only; k_unfold; (try dsimp only)) | (leave1; try dsimp only) | fail "no step")
  (rename Fr g' _ _ _ => F2)
  (rename News g' _ _ _ => N2)
  obtain ⟨ms, e9⟩ := news_nm 0 N2 rfl
  subst e9
  (rename (∀ p ∈ _ ++ _, _ < ms) => l2)
  have hme : @LT.lt Nat _ e ms := ltN (l2 _ (.head _))
  have hmb : @LT.lt Nat _ b ms := ltN (l2 _ (.tail _ (.head _)))
  have heb' : @Ne Nat e b := neN heb
  (with_unfolding_all refine' ksw_while (σ := US) (fun c => (ms, W.listOf c.us.toArray c.ku) :: (e, W.listOf c.es.toArray c.ke) :: (b, W.listOf c.bs.toArray c.kb) :: c.fr) (fun _ => []) (fun _ => True) [Str.ofString "item"] (fun c => Hid ((IntsAre c.es c.xs ∧ IntsAre c.bs c.ys ∧ IntsAre c.us c.zs) ∧ uldGo c.xs.reverse c.zs c.ys = uldGo xs.reverse [] ys ∧ c.xs.length + c.zs.length ≤ 20 ∧ c.ys.length ≤ 20 ∧ TI.Frs (envX cn cs L a ccd cl :: outer) c.fr ∧ TI.SameUp ((L, oL') :: frs) c.fr)) (fun c => c.xs.length) ⟨es, ke, bs, kb, [], 0, (L, oL') :: frs, xs, ys, []⟩ F2 N2 trivial ?k1 ?k2 ?_)
  (case k1 => exact List.forall_mem_nil _)
  (case k2 => exact ⟨⟨Hid.out hE, Hid.out hB, IntsAre.nil⟩, rfl, by simpa using hxl, hyl, Fs', TI.SameUp.refl _⟩)
  clear F2 N2
  rintro ⟨es1, ke1, bs1, kb1, us1, ku1, fr1, xs1, ys1, zs1⟩ u h9 tk9 _ hP F2 N2
  obtain ⟨⟨hi1, hi2, hi3⟩, hgo, hl1, hl2, hf1, hs1⟩ := Hid.out hP
  clear hP
  dsimp only [kstB] at F2 N2 hi1 hi2 hi3 hgo hl1 hl2 hf1 hs1
  have hoff : OwnOff fr1 [ms, e, b] := frs_off N2 hf1 (fun p hp => .tail _ (.tail _ (.tail _ hp))) (List.forall_mem_cons.mpr ⟨⟨_, .head _, rfl⟩, List.forall_mem_cons.mpr ⟨⟨_, .tail _ (.head _), rfl⟩, List.forall_mem_singleton.mpr ⟨_, .tail _ (.tail _ (.head _)), rfl⟩⟩⟩)
  have hz1 := hi1.length
  have hz2 := hi2.length
  have hz3 := hi3.length
  clear hE hB l2
  (try k_fold)
  repeat' ((fail_if_success (with_reducible show wpAny _ _ (call (Value.builtin "list.remove") _ _) _ _ _)); first | (k_unfold; (try dsimp only)) | (k_end; wrow_close) | walk1 | (dsimp only; walk1) | (dsimp only; k_unfold; (try dsimp only)) | (leave1; try dsimp only) | fail "no step")
  · have hne : xs1 ≠ [] := by
      rintro rfl
      exact absurd (by assumption : 0 < List.length ([] : List Int)) (by decide)
    by_cases hm : xs1.getLastD 0 ∈ ys1
    · (rename Fr g' _ _ _ => F3)
      (rename News g' _ _ _ => N3)
      (with_unfolding_all refine' remove_hit F3 N3 hi2 hm ?U ?z ?_)
      (case U => k_upd)
      (case z => (rw [sizeLine_eq]; omega))
      clear F3 N3
      intro h10 F3 N3 hi4
      repeat' (first | (k_unfold; (try dsimp only)) | (k_end; wrow_close) | walk1 | (dsimp only; walk1) | (dsimp only; k_unfold; (try dsimp only)) | (leave1; try dsimp only) | fail "no step")
      (rename Fr g' _ _ _ => F9)
      (rename News g' _ _ _ => N9)
      (rename IntsAre es1.dropLast _ => hi5)
      refine ksw_end ⟨_, _, _, _, _, _, _, _, _, _⟩ F9 N9 (fun p hp => hp) trivial (List.forall_mem_nil _) ?_ ⟨⟨hi5, hi4, hi3⟩, ?_, ?_, ?_, hf1, hs1⟩ ?_
      · intro z h2 h3; ((simp only [List.contains_cons, List.contains_nil, Bool.or_false, Bool.or_eq_false_iff, beq_eq_false_iff_ne, ne_eq] at h3); (try simp only [h3, if_false]); (repeat' split) <;> first | rfl | (simp_all; done))
      · rw [← hgo, uld_pop hne, if_pos hm]
      · dsimp only; rw [List.length_dropLast]; omega
      · exact Nat.le_trans (List.length_erase_le) hl2
      · dsimp only; rw [List.length_dropLast]; omega
    · (rename News g' _ _ _ => N3)
      (with_unfolding_all refine' remove_miss rfl N3 hi2 hm ?mm ?_)
      (case mm => k_mem)
      intro h10 tk10 ex hx10
      (try dsimp only)
      (rename Fr g' _ _ _ => F3)
      (with_unfolding_all refine' TI.noted_newT (new := [(ms, _), (e, _), (b, _)]) rfl hf1 hx10 F3 N3 rfl ?_)
      clear F3 N3
      intro h11 fr2 SU2 Fs2 H2
      dsimp only [List.cons_append, List.nil_append] at H2
      have hoff2 : OwnOff fr2 [ms, e, b] := frs_off H2.made Fs2 (fun p hp => .tail _ (.tail _ (.tail _ hp))) (List.forall_mem_cons.mpr ⟨⟨_, .head _, rfl⟩, List.forall_mem_cons.mpr ⟨⟨_, .tail _ (.head _), rfl⟩, List.forall_mem_singleton.mpr ⟨_, .tail _ (.tail _ (.head _)), rfl⟩⟩⟩)
      repeat' (first | (k_unfold; (try dsimp only)) | (k_end; wrow_close) | walk1 | (dsimp only; walk1) | (dsimp only; k_unfold; (try dsimp only)) | (leave1; try dsimp only) | fail "no step")
      (rename Fr g' _ _ _ => F9)
      (rename News g' _ _ _ => N9)
      (try simp only [List.push_toArray] at N9)
      (rename IntsAre es1.dropLast _ => hi5)
      refine ksw_end ⟨_, _, _, _, _, _, _, _, _, _⟩ F9 N9 (fun p hp => hp) trivial (List.forall_mem_nil _) ?_ ⟨⟨hi5, hi2, IntsAre.append hi3 (by l_intsW)⟩, ?_, ?_, hl2, Fs2, hs1.trans SU2⟩ ?_
      · intro z h2 h3; ((simp only [List.contains_cons, List.contains_nil, Bool.or_false, Bool.or_eq_false_iff, beq_eq_false_iff_ne, ne_eq] at h3); (try simp only [h3, if_false]); (repeat' split) <;> first | rfl | (simp_all; done))
      · rw [← hgo, uld_pop hne, if_neg hm]
      · dsimp only; rw [List.length_dropLast, List.length_append, List.length_singleton]; omega
      · dsimp only; rw [List.length_dropLast]; omega
  · (rename Fr g' _ _ _ => F9)
    (rename News g' _ _ _ => N9)
    have hxs : xs1 = [] := List.eq_nil_of_length_eq_zero (by omega)
    subst hxs
    obtain ⟨frs₂, R0, R1, R2⟩ := ret_frs F N Fs Nr hrm hrd hg1 hg2 hL' F9 N9 hs1 (out := [_, (ms, _), (b, _)]) (fun p hp => by
      rcases List.mem_cons.mp hp with rfl | hp
      · exact .head _
      rcases List.mem_cons.mp hp with rfl | hp
      · exact .tail _ (.head _)
      rcases List.mem_cons.mp hp with rfl | hp
      · exact .tail _ (.tail _ (.tail _ (.head _)))
      · exact .tail _ (.tail _ (.tail _ (.tail _ hp)))) rfl
    exact hret _ _ _ _ _ _ _ _ _ _ _ hi3 hi2 hgo R0 R1 R2 (fun p hp => ⟨fresh_frs F N Fs Nr hrm hrd hg1 N9 _ (.head _) p hp, fresh_frs F N Fs Nr hrm hrd hg1 N9 _ (.tail _ (.head _)) p hp⟩)
end Mine
end

section
open PySem PySem.W PyProof.Rows PySem.Calls PySem.Spec
set_option maxRecDepth 100000
namespace Mine
/-- an iterator over the list at l, i items taken -/
abbrev itO (l : Addr) (i : Nat) : Obj := { cls := .type "list_iterator", data := .fields #[.ref l, .int (i : Int) 0] }
/-- one that has come to its end -/
abbrev itE (i : Nat) : Obj := { cls := .type "list_iterator", data := .fields #[.none, .int (i : Int) 0] }

section
variable {prog : Program} {w : World} {A : Around} {E : Value → Shared → Prop} {s : Shared} {h₀ : Heap} {L l I : Addr} {m : Str → Option Value} {news news' : List (Addr × Obj)}

theorem iter_list {items : Array Value} {Q : Value → Shared → Prop} (F : Fr h₀ L s.heap m) (N : News h₀ L s.heap news) (hl : s.heap.IsList l items)
    (h : ∀ D h', Fr h₀ L h' m → News h₀ L h' ((D, itO l 0) :: news) → (∀ p ∈ news, p.1 < D) → Q (.ref D) { s with heap := h' }) :
    wpAny (model prog w) A (call (.builtin "iter") [.ref l]) Q E s := by
  refine call_function_entry (by decide +kernel) (by decide +kernel) kdk_entry_iter (kdk_args_iter _) ?_
  unfold Builtin.«iter»
  refine wpAny_bind (m := someArgs "iter" 1 2 _) (wpAny_of_eq (a := [Value.ref l]) (by first | rfl | kernel_rfl!) ?_)
  dsimp only
  refine wpAny_bind (wpAny_pyIter_list hl ?_)
  exact wpAny_pure ⟨_, rfl, h _ _ (F.push _) (N.push F _) fun p hp => Heap.lt_size (N p hp).1⟩

theorem next_hit {items : Array Value} {x : Value} {i : Nat} {Q : Value → Shared → Prop} (F : Fr h₀ L s.heap m) (N : News h₀ L s.heap news) (hl : s.heap.IsList l items) (hx : items[i]? = some x)
    (U : Upd I (itO l i) (itO l (i + 1)) news news')
    (h : ∀ h', Fr h₀ L h' m → News h₀ L h' news' → Q x { s with heap := h' }) :
    wpAny (model prog w) A (call (.builtin "next") [.ref I]) Q E s := by
  obtain ⟨pre, post, rfl, rfl, a, b'⟩ := U.split
  have z := N (I, itO l i) (List.mem_append.mpr (.inr (.head _)))
  obtain ⟨ol, hol, _, nl, hdl⟩ := hl
  have hT : s.TypeIs (.ref I) "list_iterator" := ⟨_, z.1, rfl⟩
  refine call_function_entry (by decide +kernel) (by decide +kernel) kdk_entry_next (kdk_args_next _) ?_
  unfold Builtin.«next»
  refine wpAny_bind (m := someArgs "next" 1 2 _) (wpAny_of_eq (a := [Value.ref I]) (by first | rfl | kernel_rfl!) ?_)
  dsimp only
  refine wpAny_bind (wpAny_specialOf (name := Str.ofString "__next__") hT slot_listiter_next.lookup ?_)
  refine wpAny_ite_split (fun hab => absurd hab (by decide)) (fun _ => ?_)
  refine wpAny_bind (wpAny_callSpecial?_slot (name := Str.ofString "__next__") hT slot_listiter_next
    (wpAny_call_entry slot_listiter_next hT entry_listiter_next ?_ (args_listiter_next _)))
  show wpAny _ _ (field (.ref I) 0 >>= _) _ _ s
  refine wpAny_bind (wpAny_field z.1 rfl (x := .ref l) rfl ?_)
  show wpAny _ _ (if (Value.ref l == Value.none) = true then _ else _) _ _ s
  rw [if_neg (show ¬ ((Value.ref l == Value.none) = true) from Bool.false_ne_true)]
  show wpAny _ _ (field (.ref I) 1 >>= _) _ _ s
  refine wpAny_bind (wpAny_field z.1 rfl (x := .int i 0) rfl ?_)
  show wpAny _ _ (seqItems? (.ref l) >>= _) _ _ s
  refine wpAny_bind (wpAny_seqItems hol hdl ?_)
  simp only [Int.toNat_natCast, hx]
  refine wpAny_bind (wpAny_setField z.1 rfl (by simp) (wpAny_pure ⟨x, rfl, wpAny_pure ⟨_, rfl, h _ (F.change (Heap.SameBut.update ..) z.2.1 z.2.2) (news_set N a b' (Heap.SameBut.update ..) ?_)⟩⟩))
  rw [Heap.get?_update_self _ z.1 (by rfl)]
  rfl

theorem next_end {items : Array Value} {i : Nat} {Q : Value → Shared → Prop} (hh : A.handled = none) (F : Fr h₀ L s.heap m) (N : News h₀ L s.heap news) (hl : s.heap.IsList l items) (hx : items[i]? = none)
    (U : Upd I (itO l i) (itE i) news news')
    (h : ∀ h1 h' e, Fr h₀ L h1 m → News h₀ L h1 news' → Heap.NewExc h1 h' e "StopIteration" → E (.ref e) { s with heap := h' }) :
    wpAny (model prog w) A (call (.builtin "next") [.ref I]) Q E s := by
  obtain ⟨pre, post, rfl, rfl, a, b'⟩ := U.split
  have z := N (I, itO l i) (List.mem_append.mpr (.inr (.head _)))
  obtain ⟨ol, hol, _, nl, hdl⟩ := hl
  have hT : s.TypeIs (.ref I) "list_iterator" := ⟨_, z.1, rfl⟩
  refine call_function_entry (by decide +kernel) (by decide +kernel) kdk_entry_next (kdk_args_next _) ?_
  unfold Builtin.«next»
  refine wpAny_bind (m := someArgs "next" 1 2 _) (wpAny_of_eq (a := [Value.ref I]) (by first | rfl | kernel_rfl!) ?_)
  dsimp only
  refine wpAny_bind (wpAny_specialOf (name := Str.ofString "__next__") hT slot_listiter_next.lookup ?_)
  refine wpAny_ite_split (fun hab => absurd hab (by decide)) (fun _ => ?_)
  refine wpAny_bind (wpAny_callSpecial?_slot (name := Str.ofString "__next__") hT slot_listiter_next
    (wpAny_call_entry slot_listiter_next hT entry_listiter_next ?_ (args_listiter_next _)))
  show wpAny _ _ (field (.ref I) 0 >>= _) _ _ s
  refine wpAny_bind (wpAny_field z.1 rfl (x := .ref l) rfl ?_)
  show wpAny _ _ (if (Value.ref l == Value.none) = true then _ else _) _ _ s
  rw [if_neg (show ¬ ((Value.ref l == Value.none) = true) from Bool.false_ne_true)]
  show wpAny _ _ (field (.ref I) 1 >>= _) _ _ s
  refine wpAny_bind (wpAny_field z.1 rfl (x := .int i 0) rfl ?_)
  show wpAny _ _ (seqItems? (.ref l) >>= _) _ _ s
  refine wpAny_bind (wpAny_seqItems hol hdl ?_)
  simp only [Int.toNat_natCast, hx]
  refine wpAny_bind (wpAny_rule (wpAny_bind (wpAny_setField z.1 rfl (by simp) ?_)))
  show wpAny _ _ (newExc (.type "StopIteration") [] >>= _) _ _ _
  refine wpAny_bind ?_
  simp only [newExc, newTuple]
  refine wpAny_bind (wpAny_newObj_type ?_ (by size_fits))
  refine wpAny_bind (m := firstArgMember _ _) (wpAny_of_eq (a := Value.none) (by first | rfl | (simp only [firstArgMember]; rfl)) ?_)
  refine wpAny_newObj_type ?_ (by size_fits)
  simp only [raiseNew]
  refine wpAny_bind (wpAny_handled ?_)
  rw [show A.in1.in1.handled = none from hh]
  refine wpAny_bind (wpAny_pure (wpAny_throw ?_))
  have ho' : (s.heap.update I (Obj.mapFields (·.setIfInBounds 0 .none))).get? I = some (itE i) := by
    rw [Heap.get?_update_self _ z.1 (by rfl)]
    rfl
  refine h _ _ _ (F.change (Heap.SameBut.update ..) z.2.1 z.2.2) (news_set N a b' (Heap.SameBut.update ..) ho') ⟨fun b o e => Heap.get?_push_of_some _ (Heap.get?_push_of_some _ e), ?_, ?_⟩
  · refine Heap.get?_none_of_le ?_
    dsimp only
    rw [Heap.size_push]
    exact Nat.le_succ _
  · exact ⟨_, _, Heap.get?_push_size _ rfl, rfl, rfl⟩
end
end Mine
end

section
open PySem PySem.W PyProof.Rows PySem.Calls PySem.Spec
namespace Mine
theorem band64_nat : ∀ n : Fin 128, n.val &&& 64 = if n.val < 64 then 0 else 64 := by decide +kernel
theorem band64 {b : Int} (h0 : 0 ≤ b) (h1 : b < 128) : Builtin.bitAnd b 64 = if b < 64 then 0 else 64 := by
  rw [bitAnd_pp h0 (by decide)]
  have h := band64_nat ⟨b.toNat, by omega⟩
  simp only at h
  rw [show (64 : Int).toNat = 64 from rfl, h]
  split <;> split <;> first | rfl | omega
theorem intBits_le {a : Int} {k : Nat} (h0 : 0 ≤ a) (h : a < 2 ^ k) : Builtin.Int.intBits a ≤ k := by
  unfold Builtin.Int.intBits
  by_cases ha : a = 0
  · subst ha; simp
  · have hb : (a == 0) = false := by simpa using ha
    rw [hb]
    simp only [Bool.false_eq_true, if_false]
    have hn : a.natAbs < 2 ^ k := by
      have : (a.natAbs : Int) < ((2 ^ k : Nat) : Int) := by
        rw [Int.natAbs_of_nonneg h0]
        simpa using h
      exact Int.ofNat_lt.mp this
    have := (Nat.log2_lt (by omega)).mpr hn
    omega
theorem bor_shift {v y : Int} (h0 : 0 ≤ v) (h1 : 0 ≤ y) (h2 : y < 64) : Builtin.bitOr (v * 2 ^ (6 : Int).toNat) y = v * 64 + y := by
  have e : v * 2 ^ (6 : Int).toNat = v * 64 := rfl
  rw [e, bitOr_and, bitAnd_pp (by omega) h1]
  have hz : (v * 64).toNat &&& y.toNat = 0 := by
    have hv : (v * 64).toNat = v.toNat * 64 := by omega
    rw [hv]
    have hy : y.toNat < 2 ^ 6 := by omega
    have h3 := Nat.two_pow_add_eq_or_of_lt hy v.toNat
    have h4 : 2 ^ 6 * v.toNat + y.toNat = (2 ^ 6 * v.toNat ||| y.toNat) := h3
    apply Nat.eq_of_testBit_eq
    intro i
    rw [Nat.testBit_and, Nat.zero_testBit]
    by_cases hi : i < 6
    · have : (v.toNat * 64).testBit i = false := by
        rw [Nat.mul_comm, show (64 : Nat) = 2 ^ 6 from rfl, Nat.testBit_two_pow_mul]
        simp; omega
      rw [this]; rfl
    · have : y.toNat.testBit i = false := Nat.testBit_lt_two_pow (Nat.lt_of_lt_of_le hy (Nat.pow_le_pow_right (by decide) (by omega)))
      rw [this, Bool.and_false]
  rw [hz]
  simp
end Mine
end

section
namespace Mine
theorem rst_S7 : True := by w_top off; trivial
end Mine
local macro_rules | `(tactic| walk_at "mine pad") => `(tactic| fail "pad")
local macro_rules | `(tactic| walk_at "mine pad") => `(tactic| fail "pad")
open PySem PySem.W PyProof.Rows PySem.Calls PySem.Spec
namespace Mine

def parseGo : Int → Int → List Int → Option (Int × List Int)
  | v, b, [] => if b < 64 then some (v, []) else none
  | v, b, c :: r => if b < 64 then some (v, c :: r) else parseGo (v * 64 + c % 64) c r
def parse1 : List Int → Option (Int × List Int)
  | [] => none
  | b :: r => parseGo (b % 64) b r
theorem parseGo_lt {v b : Int} {r : List Int} (h : b < 64) : parseGo v b r = some (v, r) := by
  cases r <;> (unfold parseGo; rw [if_pos h])
theorem two_pow_mono {a b : Nat} (h : a ≤ b) : (2 : Int) ^ a ≤ 2 ^ b := by
  exact_mod_cast Nat.pow_le_pow_right (by decide : 0 < 2) h
local macro_rules | `(tactic| walk_at "inplaceOp LShift int int") => `(tactic| (k_here; (refine ilshift_int (by decide) ?_ ?_); ((rename (_ < (2 : Int) ^ _) => hv9); (rename ((0 : Int) ≤ _) => hv8); (have hv7 := intBits_le (by assumption) hv9); omega)))
set_option maxRecDepth 100000 in
set_option maxHeartbeats 8000000 in
theorem parse_spec {w : World} {s₀ : Shared} {mg mb : Str → Option Value} {dp un : Nat} {gd : Option (List Code)} {cn : Str} {cs : Scope} {a : Addr} {ccd : Value} {cl : List (Str × Addr)} {outer : List Env} {h₀ : Heap} {L : Addr} {m : Str → Option Value} {frs rest : List (Addr × Obj)} {s : Shared}
    {Q E : Value → Shared → Prop} {I l : Addr} {i : Nat} {vs : List Value} {os : List Int} :
    (hd.heap_39 w.params).In h₀ → Top hd.view_39 (looseW hd.view_39 []) (ExcName.means s₀.heap) mg mb h₀ →
    Fr h₀ L s.heap m → News h₀ L s.heap ([(I, itO l i)] ++ frs) → TI.Frs outer frs → News h₀ L s.heap rest → (∀ p ∈ rest, p.1 ∉ ([(I, itO l i)]).map (·.1)) → (∀ p ∈ rest, ∀ x ∈ frs, x.1 ≠ p.1) → cs.kind = .function → dp + 4 < recursionLimit → un + 60 < cLine →
    s.heap.IsList l vs.toArray → l ≠ L → l ≠ I → (∀ p ∈ frs, p.1 ≠ l) → IntsAre vs os → (∀ b ∈ os, 0 ≤ b ∧ b < 128) → os.length ≤ 100 →
    (∀ v t j h' tk' frs₂, parse1 (os.drop i) = some (v, os.drop j) → i < j → j ≤ os.length → TI.SameUp frs frs₂ → Fr h₀ L h' m → News h₀ L h' ([(I, itO l j)] ++ (frs₂ ++ rest)) → Q (.int v t) { s with heap := h', toks := tk' }) →
    (∀ j e frs₂ h' tk', parse1 (os.drop i) = none → TI.SameUp frs frs₂ → TT.HeldNA h₀ L h' m e "StopIteration" ([(I, itE j)] ++ (frs₂ ++ rest)) .none → E (.ref e) { s with heap := h', toks := tk' }) →
    wpAny (model PySem.Challenge.rw_rt0029_01.row.prog w) (ktrTop dp un gd cn cs L a ccd cl outer) (call (.ref 28) [.ref I]) Q E s := by
  k_fill
  intro X T F N Fs Nr hrm hrd hk hd hu hl hlL hlI hlf hI hb hx hret hraise
  replace hI : Hid (IntsAre vs os) := hI
  refine wpAny_call ?_
  k_dflt (refine' enter_frs (env := envX cn cs L a ccd cl) (binds := [(Str.ofString "iterator", .ref I)]) F N Fs ?k3 ?k5 ?kF ?kK ?k6 ?k7 ?k8 ?k9 ?kB ?_ ?c2 ?c3 ?c4 ?c5; (case kF => exact rfl); (case kK => assumption); (case k3 => k_asm); (case k5 => k_asm); (case k6 => k_is); (case k7 => k_is); (case k8 => ktr_room); (case k9 => exact BindsTo.of_eq rfl); (case c5 => decide); (case kB => exact locs rfl); (case c2 => exact rfl); (case c3 => exact rfl); (case c4 => exact rfl); k_whole; intro g' L' h' oL' hg1 hg2 hL' Fs' F' N' X' T' l1; (try dsimp only); (try k_fold))
  have hgl : g'.IsList l vs.toArray := hl.at fun o e => hg1 l o e (by
    intro hm
    rcases List.mem_cons.mp hm with q | q
    · exact hlL q
    · rcases List.mem_cons.mp q with q | q
      · exact hlI q
      · obtain ⟨p, hp, q⟩ := List.mem_map.mp q
        exact hlf p hp q)
  dsimp only [List.cons_append, List.nil_append] at N'
  have hoff : OwnOff ((L, oL') :: frs) [I] := frs_off N' Fs' (fun p hp => .tail _ hp) (List.forall_mem_singleton.mpr ⟨_, .head _, rfl⟩)
  have hl0 : l ≠ l → False := fun h => h rfl
  clear hl0
  have hlen : vs.length = os.length := (Hid.out hI).length
  repeat' ((fail_if_success (with_reducible show wpAny _ _ (call (Value.builtin "next") _ _) _ _ _)); first | (k_unfold; (try dsimp only)) | (k_end; wrow_close) | walk1 | (dsimp only; walk1) | (dsimp only; k_unfold; (try dsimp only)) | (leave1; try dsimp only) | fail "no step")
  cases hi : os[i]? with
  | none =>
    have hd0 : os.drop i = [] := by
      have := List.getElem?_eq_none_iff.mp hi
      exact List.drop_eq_nil_of_le this
    (rename Fr g' _ _ _ => F3)
    (rename News g' _ _ _ => N3)
    (with_unfolding_all refine' next_end rfl F3 N3 (hgl.at fun o e => F3.keep l o e) (i := i) ?hx ?U ?_)
    (case hx => (have := List.getElem?_eq_none_iff.mp hi; simp; omega))
    (case U => k_upd)
    clear F3 N3
    intro h1 h9 ex F3 N3 hx9
    k_unfold
    (try dsimp only)
    unfold leaving
    (with_unfolding_all refine' wpAny_bind (TI.noted_newT (new := [(I, _)]) rfl Fs' hx9 F3 N3 rfl ?_))
    intro h2 fr2 SU2 Fs2 H2
    (with_unfolding_all refine' TT.HeldNA.land H2 ?_)
    intro h3 H3
    obtain ⟨frs₂, R0, R1⟩ := held_down F N Fs Nr hrm hrd hg1 hg2 hL' H3 SU2 (out := [(I, _)]) (fun p hp => hp) rfl
    exact hraise _ _ _ _ _ (by rw [hd0]; rfl) R0 R1
  | some b0 =>
    obtain ⟨t0, ht0⟩ := (Hid.out hI).get i b0 hi
    obtain ⟨hb0, hb1⟩ := hb b0 (List.mem_of_getElem? hi)
    have hlt : i < os.length := (List.getElem?_eq_some_iff.mp hi).1
    have hd0 : os.drop i = b0 :: os.drop (i + 1) := by
      rw [List.drop_eq_getElem_cons hlt]
      congr 1
      exact (List.getElem?_eq_some_iff.mp hi).2
    (rename Fr g' _ _ _ => F3)
    (rename News g' _ _ _ => N3)
    (with_unfolding_all refine' next_hit F3 N3 (hgl.at fun o e => F3.keep l o e) (i := i) (x := .int b0 t0) ?hx ?U ?_)
    (case hx => (simpa using ht0))
    (case U => k_upd)
    clear F3 N3
    intro h1 F3 N3
    repeat' ((fail_if_success (with_reducible show wpAny _ _ (exec (Stmt.While _ _ _ _) _) _ _ _)); first | (k_unfold; (try dsimp only)) | (k_end; wrow_close) | walk1 | (dsimp only; walk1) | (dsimp only; k_unfold; (try dsimp only)) | (leave1; try dsimp only) | fail "no step")
    (rename Fr g' _ _ _ => F3)
    (rename News g' _ _ _ => N3)
    simp only [bitAnd_m6] at F3
    (with_unfolding_all refine' ksw_while (σ := Int × Tok × Int × Tok × Nat) (fun c => (I, itO l c.2.2.2.2) :: (L, oL') :: frs) (fun c => [(Str.ofString "b", .int c.1 c.2.1), (Str.ofString "val", .int c.2.2.1 c.2.2.2.1)]) (fun _ => True) [] (fun c => Hid (0 ≤ c.1 ∧ c.1 < 128 ∧ 0 ≤ c.2.2.1 ∧ c.2.2.1 < 2 ^ (6 * c.2.2.2.2) ∧ i < c.2.2.2.2 ∧ c.2.2.2.2 ≤ os.length ∧ parseGo c.2.2.1 c.1 (os.drop c.2.2.2.2) = parse1 (os.drop i))) (fun c => os.length - c.2.2.2.2) (b0, t0, b0 % 64, _, i + 1) F3 N3 trivial ?k1 ?k2 ?_)
    (case k1 => exact List.forall_mem_cons.mpr ⟨by with_unfolding_all rfl, List.forall_mem_singleton.mpr (by with_unfolding_all rfl)⟩)
    (case k2 => exact ⟨hb0, hb1, by show 0 ≤ b0 % 64; omega, (show b0 % 64 < 2 ^ (6 * (i + 1)) from Int.lt_of_lt_of_le (show b0 % 64 < 2 ^ 6 by omega) (two_pow_mono (by omega))), Nat.lt_succ_self _, hlt, by rw [hd0]; rfl⟩)
    clear F3 N3
    rintro ⟨b1, tb1, v1, tv1, j⟩ u h9 tk9 _ hP F3 N3
    obtain ⟨p1, p2, p3, p4, p5, p6, p7⟩ := Hid.out hP
    dsimp only [kstB] at F3 N3 p1 p2 p3 p4 p5 p6 p7
    clear hP
    (try k_fold)
    repeat' ((fail_if_success (with_reducible show wpAny _ _ (call (Value.builtin "next") _ _) _ _ _)); first | (k_unfold; (try dsimp only)) | (k_end; wrow_close) | walk1 | (dsimp only; walk1) | (dsimp only; k_unfold; (try dsimp only)) | (leave1; try dsimp only) | fail "no step")
    · have h64 : ¬ b1 < 64 := by
        intro h
        exact absurd ((band64 p1 p2).trans (if_pos h)) (by assumption)
      cases hj : os[j]? with
      | none =>
        have hd1 : os.drop j = [] := List.drop_eq_nil_of_le (List.getElem?_eq_none_iff.mp hj)
        (rename Fr g' _ _ _ => F3)
        (rename News g' _ _ _ => N3)
        (with_unfolding_all refine' next_end rfl F3 N3 (hgl.at fun o e => F3.keep l o e) (i := j) ?hx ?U ?_)
        (case hx => (have := List.getElem?_eq_none_iff.mp hj; simp; omega))
        (case U => k_upd)
        clear F3 N3
        intro h1 h10 ex F3 N3 hx9
        (repeat k_unfold)
        (try dsimp only)
        unfold leaving
        (with_unfolding_all refine' wpAny_bind (TI.noted_newT (new := [(I, _)]) rfl Fs' hx9 F3 N3 rfl ?_))
        intro h2 fr2 SU2 Fs2 H2
        (with_unfolding_all refine' TT.HeldNA.land H2 ?_)
        intro h3 H3
        obtain ⟨frs₂, R0, R1⟩ := held_down F N Fs Nr hrm hrd hg1 hg2 hL' H3 SU2 (out := [(I, _)]) (fun p hp => hp) rfl
        exact hraise _ _ _ _ _ (by rw [← p7, hd1]; unfold parseGo; rw [if_neg h64]) R0 R1
      | some b2 =>
        obtain ⟨t2, ht2⟩ := (Hid.out hI).get j b2 hj
        obtain ⟨hb2, hb3⟩ := hb b2 (List.mem_of_getElem? hj)
        have hlt2 : j < os.length := (List.getElem?_eq_some_iff.mp hj).1
        have hd2 : os.drop j = b2 :: os.drop (j + 1) := by
          rw [List.drop_eq_getElem_cons hlt2]
          congr 1
          exact (List.getElem?_eq_some_iff.mp hj).2
        have e9 : Builtin.bitOr (v1 * 2 ^ Int.toNat 6) (Builtin.bitAnd b2 63) = v1 * 64 + b2 % 64 := by
          rw [bitAnd_m6]; exact bor_shift p3 (by omega) (by omega)
        (rename Fr g' _ _ _ => F3)
        (rename News g' _ _ _ => N3)
        (with_unfolding_all refine' next_hit F3 N3 (hgl.at fun o e => F3.keep l o e) (i := j) (x := .int b2 t2) ?hx ?U ?_)
        (case hx => (simpa using ht2))
        (case U => k_upd)
        clear F3 N3
        intro h1 F3 N3
        repeat' (first | (k_unfold; (try dsimp only)) | (k_end; wrow_close) | walk1 | (dsimp only; walk1) | (dsimp only; k_unfold; (try dsimp only)) | (leave1; try dsimp only) | fail "no step")
        (rename Fr g' _ _ _ => F9)
        (rename News g' _ _ _ => N9)
        simp only [e9] at F9
        refine ksw_end (b2, t2, v1 * 64 + b2 % 64, _, j + 1) F9 N9 (fun p hp => hp) trivial (List.forall_mem_cons.mpr ⟨by with_unfolding_all rfl, List.forall_mem_singleton.mpr (by with_unfolding_all rfl)⟩) ?_ ⟨hb2, hb3, by show 0 ≤ v1 * 64 + b2 % 64; omega, ?_, Nat.lt_succ_of_lt p5, hlt2, ?_⟩ (by dsimp only; omega)
        · intro z h2 h3
          have q1 := h2 _ (.head _)
          have q2 := h2 _ (.tail _ (.head _))
          dsimp only at q1 q2
          simp [q1, q2]
        · show v1 * 64 + b2 % 64 < 2 ^ (6 * (j + 1))
          have : (2 : Int) ^ (6 * (j + 1)) = 2 ^ (6 * j) * 64 := by rw [Nat.mul_add, Int.pow_add]; rfl
          rw [this]; omega
        · show parseGo (v1 * 64 + b2 % 64) b2 (os.drop (j + 1)) = _
          rw [← p7, hd2, parseGo, if_neg h64]
    · have h64 : b1 < 64 := by
        rcases Int.lt_or_le b1 64 with h | h
        · exact h
        · exact absurd ((band64 p1 p2).symm.trans (by assumption)) (by rw [if_neg (by omega)]; decide)
      obtain ⟨frs₂, R0, R1, R2⟩ := ret_frs F N Fs Nr hrm hrd hg1 hg2 hL' F3 N3 (TI.SameUp.refl _) (out := [(I, _)]) (fun p hp => hp) rfl
      exact hret _ _ _ _ _ _ (by rw [← p7, parseGo_lt h64]) p5 p6 R0 R1 R2
end Mine
end

section
namespace Mine
theorem rst_S8 : True := by w_top off; trivial
end Mine
open PySem PySem.W PyProof.Rows PySem.Calls PySem.Spec
namespace Mine

/-- the numbers that are read of octets, till there are none -/
inductive ReadRel : List Int → List Int → Prop
  | stop {os : List Int} : parse1 os = none → ReadRel os []
  | step {os r ns : List Int} {v : Int} : parse1 os = some (v, r) → ReadRel r ns → ReadRel os (v :: ns)
theorem held_sub {h₀ h : Heap} {L e : Addr} {m : Str → Option Value} {X : String} {news news' : List (Addr × Obj)} {fl : Value} (H : TT.HeldNA h₀ L h m e X news fl) (hs : ∀ p ∈ news', p ∈ news) : TT.HeldNA h₀ L h m e X news' fl :=
  ⟨H.held, drop_news H.made hs, fun ob vs tb h1 h2 h3 p hp => H.apart ob vs tb h1 h2 h3 p (hs p hp)⟩
local macro_rules | `(tactic| walk_at "call builtin:iter") => `(tactic| (k_here; (with_reducible show wpAny _ _ (call (Value.builtin "iter") [Value.ref _]) _ _ _); (rename Fr _ _ _ _ => F9); (rename News _ _ _ _ => N9); (with_unfolding_all refine' iter_list F9 N9 ?k1 ?_); (case k1 => is_list); clear F9 N9; intro D' h' F' N' l1; (try k_lt l1)))
set_option maxRecDepth 100000 in
set_option maxHeartbeats 8000000 in
theorem read_spec {w : World} {s₀ : Shared} {mg mb : Str → Option Value} {dp un : Nat} {gd : Option (List Code)} {cn : Str} {cs : Scope} {a : Addr} {ccd : Value} {cl : List (Str × Addr)} {outer : List Env} {h₀ : Heap} {L : Addr} {m : Str → Option Value} {frs rest : List (Addr × Obj)} {s : Shared}
    {Q E : Value → Shared → Prop} {x : Str} {t : Tok} {os : List Int} :
    (hd.heap_39 w.params).In h₀ → Top hd.view_39 (looseW hd.view_39 []) (ExcName.means s₀.heap) mg mb h₀ →
    Fr h₀ L s.heap m → News h₀ L s.heap (([] : List (Addr × Obj)) ++ frs) → TI.Frs outer frs → News h₀ L s.heap rest → (∀ p ∈ rest, p.1 ∉ (([] : List (Addr × Obj))).map (·.1)) → (∀ p ∈ rest, ∀ x ∈ frs, x.1 ≠ p.1) → cs.kind = .function → dp + 8 < recursionLimit → un + 100 < cLine →
    x = pathOf os → Octs os → os.length ≤ 80 →
    (∀ r us k ns h' tk' frs₂, IntsAre us ns → ReadRel os ns → TI.SameUp frs frs₂ → Fr h₀ L h' m → News h₀ L h' ([(r, W.listOf us.toArray k)] ++ (frs₂ ++ rest)) → (∀ p ∈ rest, p.1 ≠ r) → Q (.ref r) { s with heap := h', toks := tk' }) →
    wpAny (model PySem.Challenge.rw_rt0029_01.row.prog w) (ktrTop dp un gd cn cs L a ccd cl outer) (call (.ref 162) [.str x t]) Q E s := by
  k_fill
  intro X T F N Fs Nr hrm hrd hk hd hu hx hos hol hret
  refine wpAny_call ?_
  k_dflt (refine' enter_frs (env := envX cn cs L a ccd cl) (binds := [(Str.ofString "path", .str x t)]) F N Fs ?k3 ?k5 ?kF ?kK ?k6 ?k7 ?k8 ?k9 ?kB ?_ ?c2 ?c3 ?c4 ?c5; (case kF => exact rfl); (case kK => assumption); (case k3 => k_asm); (case k5 => k_asm); (case k6 => k_is); (case k7 => k_is); (case k8 => ktr_room); (case k9 => exact BindsTo.of_eq rfl); (case c5 => decide); (case kB => exact locs rfl); (case c2 => exact rfl); (case c3 => exact rfl); (case c4 => exact rfl); k_whole; intro g' L' h' oL' hg1 hg2 hL' Fs' F' N' X' T' l1; (try dsimp only); (try k_fold))
  dsimp only [List.cons_append, List.nil_append] at N'
  repeat' ((fail_if_success (with_reducible show wpAny _ _ (exec (Stmt.While _ _ _ _) _) _ _ _)); first | (k_unfold; (try dsimp only)) | (k_end; wrow_close) | walk1 | (dsimp only; walk1) | (dsimp only; k_unfold; (try dsimp only)) | (leave1; try dsimp only) | fail "no step")
  (rename Fr g' _ _ _ => F2)
  (rename News g' _ _ _ => N2)
  obtain ⟨l0, e9⟩ := news_nm 0 N2 rfl
  subst e9
  subst hx
  (with_unfolding_all refine' ksw_while (σ := Tok × List Value × Addr × Nat × Nat) (fun c => (c.2.2.1, W.listOf c.2.1.toArray c.2.2.2.1) :: (L, oL') :: frs) (fun c => [(Str.ofString "path", .str (pathOf (os.take c.2.2.2.2)) c.1), (Str.ofString "octets", .ref c.2.2.1)]) (fun _ => True) [Str.ofString "name"] (fun c => Hid (IntsAre c.2.1 (os.drop c.2.2.2.2) ∧ c.2.2.2.2 ≤ os.length)) (fun c => c.2.2.2.2) (t, [], l0, 0, os.length) F2 N2 trivial ?k1 ?k2 ?_)
  (case k1 => (dsimp only; rw [List.take_length]; exact List.forall_mem_cons.mpr ⟨by with_unfolding_all rfl, List.forall_mem_singleton.mpr (by with_unfolding_all rfl)⟩))
  (case k2 => exact ⟨by dsimp only; rw [List.drop_length]; exact IntsAre.nil, Nat.le_refl _⟩)
  clear F2 N2
  rintro ⟨tp, us, la, ka, j⟩ u h9 tk9 _ hP F2 N2
  obtain ⟨p1, p2⟩ := Hid.out hP
  dsimp only [kstB] at F2 N2 p1 p2
  clear hP
  (try k_fold)
  repeat' ((fail_if_success (with_reducible show wpAny _ _ (call (Value.ref 129) _ _) _ _ _)); (fail_if_success (with_reducible show wpAny _ _ (exec (Stmt.Try _ _ _ _ _) _) _ _ _)); first | (k_unfold; (try dsimp only)) | (k_end; wrow_close) | walk1 | (dsimp only; walk1) | (dsimp only; k_unfold; (try dsimp only)) | (leave1; try dsimp only) | fail "no step")
  · have hj : j ≠ 0 := by
      rintro rfl
      exact absurd (show (pathOf (os.take 0) != Str.ofString "/") = true by assumption) (by rw [List.take_zero]; decide +kernel)
    obtain ⟨j, rfl⟩ : ∃ i, j = i + 1 := ⟨j - 1, by omega⟩
    have hlt : j < os.length := p2
    have e1 : os.take (j + 1) = os.take j ++ [os[j]] := List.take_succ_eq_append_getElem hlt
    have hS : splitF (pathOf (os.take (j + 1))) = (pathOf (os.take j), Str.ofString (toString os[j])) := by
      rw [e1]; exact pathOf_split (fun b hb => hos b (by rw [← e1] at hb; exact List.mem_of_mem_take hb))
    have hlen : (pathOf (os.take (j + 1))).length ≤ 1000 := by
      have h := pathOf_len (os := os.take (j + 1)) (fun b hb => hos b (List.mem_of_mem_take hb))
      rw [List.length_take] at h
      omega
    obtain ⟨hb0, hb1⟩ := hos os[j] (List.getElem_mem hlt)
    (with_unfolding_all refine' split_spec ?k1 ?k2 ?k4 ?k5 ?k6 ?k7 ?k8 hlen ?_)
    (case k1 => k_asm)
    (case k2 => k_asm)
    (case k4 => k_asm)
    (case k5 => k_asm)
    (case k6 => exact rfl)
    (case k7 => ktr_room)
    (case k8 => ktr_units)
    intro r1 h' tk' x1 x2 t1 t2 hs F' N' S' hne
    rw [hS] at hs
    injection hs with hs1 hs2
    subst hs1 hs2
    (try dsimp only)
    repeat' (first | (k_unfold; (try dsimp only)) | (k_end; wrow_close) | walk1 | (dsimp only; walk1) | (dsimp only; k_unfold; (try dsimp only)) | (leave1; try dsimp only) | fail "no step")
    (rename Fr g' _ _ _ => F9)
    (rename News g' _ _ _ => N9)
    (rename IntsAre _ (_ ++ _) => hI9)
    have e2 : [os[j]] ++ os.drop (j + 1) = os.drop j := (List.drop_eq_getElem_cons hlt).symm
    rw [e2] at hI9
    refine ksw_end (_, _, _, 0, j) F9 N9 (List.forall_mem_cons.mpr ⟨.head _, fun p hp => .tail _ (.tail _ (.tail _ (.tail _ hp)))⟩) trivial (List.forall_mem_cons.mpr ⟨by with_unfolding_all rfl, List.forall_mem_singleton.mpr (by with_unfolding_all rfl)⟩) ?_ ⟨hI9, Nat.le_of_lt hlt⟩ (Nat.lt_succ_self _)
    · intro z h2 h3
      have q1 := h2 _ (.head _)
      have q2 := h2 _ (.tail _ (.head _))
      dsimp only at q1 q2
      have h4 := h3
      simp only [List.contains_cons, List.contains_nil, Bool.or_false, beq_eq_false_iff_ne, ne_eq] at h4
      simp only [q1, q2, h4, h3, if_false, Bool.false_eq_true]
  · have hj : j = 0 := by
      rcases Nat.eq_zero_or_pos j with h | h
      · exact h
      · exact absurd ((pathOf_ne (os := os.take j) (fun b hb => hos b (List.mem_of_mem_take hb)) (by intro h9; have := congrArg List.length h9; rw [List.length_take, List.length_nil] at this; omega)).symm.trans (by assumption : _ = false)) (by decide)
    subst hj
    rw [List.drop_zero] at p1
    replace p1 : Hid (IntsAre us os) := p1
    refine wpAny_Try_except ?_
    (try dsimp only)
    repeat' ((fail_if_success (with_reducible show wpAny _ _ (exec (Stmt.While _ _ _ _) _) _ _ _)); first | (k_unfold; (try dsimp only)) | (k_end; wrow_close) | walk1 | (dsimp only; walk1) | (dsimp only; k_unfold; (try dsimp only)) | (leave1; try dsimp only) | fail "no step")
    (rename Fr g' _ _ _ => F2)
    (rename News g' _ _ _ => N2)
    obtain ⟨ln, e9⟩ := news_nm 0 N2 rfl
    subst e9
    obtain ⟨li, e9⟩ := news_nm 1 N2 rfl
    subst e9
    (rename (li < ln ∧ _) => hl8)
    (rename (la < li ∧ _) => hl9)
    have hla : la ≠ li := Nat.ne_of_lt hl9.1
    (with_unfolding_all refine' ksw_while (σ := List Value × Nat × List Int × Nat × List (Addr × Obj)) (fun c => (ln, W.listOf c.1.toArray c.2.1) :: (li, itO la c.2.2.2.1) :: (la, W.listOf us.toArray ka) :: c.2.2.2.2) (fun _ => []) (fun _ => True) [] (fun c => Hid (IntsAre c.1 c.2.2.1 ∧ c.2.2.2.1 ≤ os.length ∧ c.2.2.1.length ≤ c.2.2.2.1 ∧ (∀ ms, ReadRel (os.drop c.2.2.2.1) ms → ReadRel os (c.2.2.1 ++ ms)) ∧ TI.Frs (envX cn cs L a ccd cl :: outer) c.2.2.2.2 ∧ TI.SameUp ((L, oL') :: frs) c.2.2.2.2)) (fun c => os.length - c.2.2.2.1) ([], 0, [], 0, (L, oL') :: frs) F2 N2 trivial ?k1 ?k2 ?_)
    (case k1 => exact List.forall_mem_nil _)
    (case k2 => exact ⟨IntsAre.nil, Nat.zero_le _, Nat.le_refl _, fun ms h => h, Fs', TI.SameUp.refl _⟩)
    clear F2 N2
    rintro ⟨us1, ku1, ns1, i1, fr1⟩ u h9 tk9 _ hP F2 N2
    obtain ⟨q1, q2, q3, q4, q5, q6⟩ := Hid.out hP
    dsimp only [kstB] at F2 N2 q1 q2 q3 q4 q5 q6
    clear hP
    (try k_fold)
    repeat' ((fail_if_success (with_reducible show wpAny _ _ (call (Value.ref 28) _ _) _ _ _)); first | (k_unfold; (try dsimp only)) | (k_end; wrow_close) | walk1 | (dsimp only; walk1) | (dsimp only; k_unfold; (try dsimp only)) | (leave1; try dsimp only) | fail "no step")
    (rename Fr g' _ _ _ => F3)
    (rename News g' _ _ _ => N3)
    have hmm : ∀ p ∈ [(ln, W.listOf us1.toArray ku1), (la, W.listOf us.toArray ka)], p ∈ (ln, W.listOf us1.toArray ku1) :: (li, itO la i1) :: (la, W.listOf us.toArray ka) :: fr1 := by
      intro p hp
      rcases List.mem_cons.mp hp with rfl | hp
      · exact .head _
      · rw [List.mem_singleton.mp hp]; exact .tail _ (.tail _ (.head _))
    have hIL : h9.IsList la us.toArray := ⟨_, (N3 _ (.tail _ (.tail _ (.head _)))).1, rfl, ka, rfl⟩
    have hlaL : la ≠ L' := (N3 _ (.tail _ (.tail _ (.head _)))).2.1
    have hlf : ∀ p ∈ fr1, p.1 ≠ la := fun p hp => frs_off (as := [la]) N3 q5 (fun p hp => .tail _ (.tail _ (.tail _ hp))) (List.forall_mem_singleton.mpr ⟨_, .tail _ (.tail _ (.head _)), rfl⟩) p hp la (.head _)
    have hrm9 : ∀ p ∈ [(ln, W.listOf us1.toArray ku1), (la, W.listOf us.toArray ka)], p.1 ∉ [(li, itO la i1)].map (·.1) := by
      intro p hp hq
      have hq' : p.1 = li := List.mem_singleton.mp hq
      rcases List.mem_cons.mp hp with rfl | hp
      · exact absurd hl8.1 (by rw [← hq']; exact Nat.lt_irrefl _)
      · rw [List.mem_singleton.mp hp] at hq'; exact hla hq'
    (with_unfolding_all refine' parse_spec (I := li) (l := la) (i := i1) (frs := fr1) (rest := [(ln, W.listOf us1.toArray ku1), (la, W.listOf us.toArray ka)]) X' T' F3 ?kN q5 ?kNr hrm9 ?hrd rfl ?kd ?ku hIL hlaL hla hlf (Hid.out p1) hos ?kl ?hret ?hraise)
    (case kN => (refine drop_news N3 (fun p hp => ?_); rcases List.mem_cons.mp hp with rfl | hp; exact .tail _ (.head _); exact .tail _ (.tail _ (.tail _ hp))))
    (case kNr => exact drop_news N3 hmm)
    (case hrd => exact rest_off (drop_news N3 fun p hp => .tail _ (.tail _ (.tail _ hp))) q5 (drop_news N3 hmm) rfl)
    (case kd => ktr_room)
    (case ku => ktr_units)
    (case kl => omega)
    (case hret =>
      intro v tv j h' tk' frs₂ hp hij hjl SU F4 N4
      clear N3 F3 hIL
      dsimp only [List.cons_append, List.nil_append] at N4
      have Fs4 := q5.up SU
      replace N4 : News g' L' h' ((ln, W.listOf us1.toArray ku1) :: (li, itO la j) :: (la, W.listOf us.toArray ka) :: frs₂) := drop_news N4 (by
        intro p hp
        rcases List.mem_cons.mp hp with rfl | hp
        · exact .tail _ (List.mem_append_right _ (.head _))
        rcases List.mem_cons.mp hp with rfl | hp
        · exact .head _
        rcases List.mem_cons.mp hp with rfl | hp
        · exact .tail _ (List.mem_append_right _ (.tail _ (.head _)))
        · exact .tail _ (List.mem_append_left _ hp))
      have hoff4 : OwnOff frs₂ [ln, li, la] := frs_off N4 Fs4 (fun p hp => .tail _ (.tail _ (.tail _ hp))) (List.forall_mem_cons.mpr ⟨⟨_, .head _, rfl⟩, List.forall_mem_cons.mpr ⟨⟨_, .tail _ (.head _), rfl⟩, List.forall_mem_singleton.mpr ⟨_, .tail _ (.tail _ (.head _)), rfl⟩⟩⟩)
      have hul : us1.length ≤ 80 := by have := q1.length; omega
      (try dsimp only)
      repeat' (first | (k_unfold; (try dsimp only)) | (k_end; wrow_close) | walk1 | (dsimp only; walk1) | (dsimp only; k_unfold; (try dsimp only)) | (leave1; try dsimp only) | fail "no step")
      (rename Fr g' _ _ _ => F9)
      (rename News g' _ _ _ => N9)
      (try simp only [List.push_toArray] at N9)
      refine ksw_end (_, _, ns1 ++ [v], j, frs₂) F9 N9 (fun p hp => hp) trivial ?_ ?_ ?_ ?_
      · exact List.forall_mem_nil _
      · intro z h2 h3; first | rfl | (simp; done)
      · show Hid (IntsAre _ _ ∧ _)
        refine ⟨IntsAre.append q1 (by l_intsW), hjl, ?_, ?_, Fs4, q6.trans SU⟩
        · dsimp only; rw [List.length_append, List.length_singleton]; omega
        · intro ms hms
          dsimp only
          rw [List.append_assoc]
          exact q4 _ (.step hp hms)
      · dsimp only; omega)
    intro j e frs₂ h' tk' hp SU H
    have Fs4 := q5.up SU
    (try dsimp only)
    (with_unfolding_all refine' noted_onT (new := [(ln, W.listOf us1.toArray ku1), (li, itE j), (la, W.listOf us.toArray ka)]) rfl Fs4 (held_sub H ?hs) rfl ?hcx ?_)
    (case hs =>
      intro p hp
      dsimp only [List.cons_append, List.nil_append] at hp ⊢
      rcases List.mem_cons.mp hp with rfl | hp
      · exact .tail _ (List.mem_append_right _ (.head _))
      rcases List.mem_cons.mp hp with rfl | hp
      · exact .head _
      rcases List.mem_cons.mp hp with rfl | hp
      · exact .tail _ (List.mem_append_right _ (.tail _ (.head _)))
      · exact .tail _ (List.mem_append_left _ hp))
    (case hcx => exact List.forall_mem_cons.mpr ⟨fun h => absurd h (show ¬ Value.type "list" = .type "StopIteration" by decide), List.forall_mem_cons.mpr ⟨fun h => absurd h (show ¬ Value.type "list_iterator" = .type "StopIteration" by decide), List.forall_mem_singleton.mpr (fun h => absurd h (show ¬ Value.type "list" = .type "StopIteration" by decide))⟩⟩)
    clear F3 N3 H hIL
    intro h11 fr2 SU2 Fs2 H2
    dsimp only [List.cons_append, List.nil_append] at H2
    repeat' (first | (k_unfold; (try dsimp only)) | (k_end; wrow_close) | walk1 | (dsimp only; walk1) | (dsimp only; k_unfold; (try dsimp only)) | (leave1; try dsimp only) | fail "no step")
    (rename Fr g' _ _ _ => F9)
    (rename News g' _ _ _ => N9)
    obtain ⟨frs₃, R0, R1, R2⟩ := ret_frs F N Fs Nr hrm hrd hg1 hg2 hL' F9 N9 ((q6.trans SU).trans SU2) (out := [(ln, _)]) (fun p hp => by
      rcases List.mem_cons.mp hp with rfl | hp
      · exact .head _
      · exact .tail _ (.tail _ (.tail _ hp))) rfl
    exact hret _ _ _ ns1 _ _ _ q1 (by have := q4 [] (.stop hp); rwa [List.append_nil] at this) R0 R1 R2 (fresh_frs F N Fs Nr hrm hrd hg1 N9 _ (.head _))
end Mine
end

section
namespace Mine
theorem rst_Al : True := by w_top off; trivial
end Mine
local macro_rules | `(tactic| walk_at "mine pad") => `(tactic| fail "pad")
local macro_rules | `(tactic| walk_at "mine pad") => `(tactic| fail "pad")
open PySem PySem.W PyProof.Rows PySem.Calls PySem.Spec
namespace Mine
def alScope : Scope := scopeAt 26 default
set_option maxRecDepth 100000 in
set_option maxHeartbeats 8000000 in
theorem al_room {w : World} {s₀ : Shared} {mg mb : Str → Option Value} {dp un : Nat} {gd : Option (List Code)} {cn : Str} {cs : Scope} {a : Addr} {ccd : Value} {cl : List (Str × Addr)} {outer : List Env} {h₀ : Heap} {L L' : Addr} {m : Str → Option Value} {news : List (Addr × Obj)} {s : Shared} {Q : Flow → Shared → Prop} {E : Value → Shared → Prop} {l : Addr} {vs : List Value} {rows : List (List Int)} {oR : Obj} :
    (hd.heap_39 w.params).In h₀ → Top hd.view_39 (looseW hd.view_39 []) (ExcName.means s₀.heap) mg mb h₀ →
    Fr h₀ L' s.heap m → News h₀ L' s.heap news → dp + 4 < recursionLimit → un + 40 < cLine →
    (L' + 1, oR) ∈ news → oR.data = .cell (some (.ref l)) → h₀.IsList l vs.toArray → RowsAt h₀ vs rows → rows ≠ [] → rows.length ≤ 10 → (∀ r ∈ rows, r.length ≤ 100) →
    (∀ h' tk' M t, Fr h₀ L' h' (fun z => if z = Str.ofString "room" then some (.int M t) else m z) → News h₀ L' h' news → (∃ r ∈ rows, M = r.length) → (∀ r ∈ rows, M ≤ r.length) → Q .next { s with heap := h', toks := tk' }) →
    wpAny (model PySem.Challenge.rw_rt0029_01.row.prog w) ((ktrTop dp un gd cn cs L a ccd cl outer).deeper (envOfC (Str.ofString "_law_alike") alScope L' 172 (.ref 171))) (exec (nthS (bodyAt 26) 1) (envOfC (Str.ofString "_law_alike") alScope L' 172 (.ref 171))) Q E s := by
  k_fill
  intro X T F N hd hu hRm hRd hl hR hne hrl hrb hret
  (conv in (occs := *) alScope => all_goals whnf)
  (conv in (nthS _ _) => whnf)
  repeat' ((fail_if_success (with_reducible show wpAny _ _ (eval (Expr.ListComp _ _ _ _) _) _ _ _)); first | (k_unfold; (try dsimp only)) | (k_end; wrow_close) | walk1 | (dsimp only; walk1) | (dsimp only; k_unfold; (try dsimp only)) | (leave1; try dsimp only) | fail "no step")
  k_dflt (refine LCg.ListComp_U (F₀ := by k_asm) (by with_unfolding_all rfl) (by decide) (by rfl) (by decide) (by rfl) ?_)
  repeat' ((fail_if_success (with_reducible show LCg.CompSrc _ _ _ _ _ _ _ _ _ _ _ _ _ _)); first | (k_unfold; (try dsimp only)) | (k_end; wrow_close) | walk1 | (dsimp only; walk1) | (dsimp only; k_unfold; (try dsimp only)) | (leave1; try dsimp only) | fail "no step")
  refine LCg.CompSrc.base rfl (by k_asm) (by k_asm) hl (by rw [sizeLine_eq, List.size_toArray, hR.1]; omega) fun g9 => ?_
  refine rest_ind (fun i ys => IntsAre ys ((rows.take i).map fun r => (r.length : Int))) IntsAre.nil ?_ ?_
  · intro ys hinv
    rw [List.size_toArray, hR.1, List.take_length] at hinv
    unfold LCg.FinE
    intro Dn hn tkn Fn Nn o1n
    repeat' ((fail_if_success (with_reducible show wpAny _ _ (call (Value.builtin "min") _ _) _ _ _)); first | (k_unfold; (try dsimp only)) | (k_end; wrow_close) | walk1 | (dsimp only; walk1) | (dsimp only; k_unfold; (try dsimp only)) | (leave1; try dsimp only) | fail "no step")
    (with_unfolding_all refine' kso_min Fn Nn (kso_isList Nn (.head _) rfl) hinv ?hne rfl ?_)
    (case hne => rw [List.length_map]; exact List.length_pos_iff.mpr hne)
    clear Fn Nn
    intro h5 M t5 tk5 Fn Nn hM1 hM2
    repeat' (first | (k_unfold; (try dsimp only)) | (k_end; wrow_close) | walk1 | (dsimp only; walk1) | (dsimp only; k_unfold; (try dsimp only)) | (leave1; try dsimp only) | fail "no step")
    (rename Fr h₀ _ _ _ => F9)
    (rename News h₀ _ _ _ => N9)
    refine hret _ _ M t5 F9 (drop_news N9 fun p hp => .tail _ hp) ?_ ?_
    · obtain ⟨r, hr, e⟩ := List.mem_map.mp hM1
      exact ⟨r, hr, e.symm⟩
    · exact fun r hr => hM2 _ (List.mem_map_of_mem hr)
  · intro k i ys hi hinv ih
    (with_unfolding_all refine LCg.CompRest.succ ?_)
    intro v' I' oI' C' oC' D' m' h' tk' E' hv' hC' hx' F' N' off' ne'
    have hv8 := hv'
    rw [List.getElem?_toArray] at hv8
    obtain ⟨a1, us1, r1, rfl, hr1, hl1, hi1⟩ := hR.row hv8
    have hb1 := hrb r1 (List.mem_of_getElem? hr1)
    repeat' ((fail_if_success (with_reducible show LCg.CompEnd _ _ _ _ _ _ _ _ _ _ _ _ _ _)); first | (k_unfold; (try dsimp only)) | (k_end; wrow_close) | walk1 | (dsimp only; walk1) | (dsimp only; k_unfold; (try dsimp only)) | (leave1; try dsimp only) | fail "no step")
    refine LCg.CompEnd.intro F' N' _ (fun p hp => hp) off' (Or.inl hl) (ih _ ?_)
    rw [List.take_add_one, hr1, List.map_append]
    exact IntsAre.append hinv (.cons _ _ .nil)
set_option maxRecDepth 100000 in
set_option maxHeartbeats 8000000 in
theorem al_while {w : World} {s₀ : Shared} {mg mb : Str → Option Value} {dp un : Nat} {gd : Option (List Code)} {cn : Str} {cs : Scope} {a : Addr} {ccd : Value} {cl : List (Str × Addr)} {outer : List Env} {h₀ : Heap} {L L' : Addr} {m : Str → Option Value} {news : List (Addr × Obj)} {s : Shared} {Q : Flow → Shared → Prop} {E : Value → Shared → Prop} {l a0 : Addr} {us0 vr : List Value} {r0 : List Int} {rr : List (List Int)} {oR oS₀ : Obj} {M : Int} {tM t₀ : Tok} :
    (hd.heap_39 w.params).In h₀ → Top hd.view_39 (looseW hd.view_39 []) (ExcName.means s₀.heap) mg mb h₀ →
    Fr h₀ L' s.heap m → News h₀ L' s.heap [(L' + 1 + 1, oS₀), (L' + 1, oR)] → dp + 4 < recursionLimit → un + 40 < cLine →
    m (Str.ofString "room") = some (.int M tM) → oR.data = .cell (some (.ref l)) → oS₀.data = .cell (some (.int 0 t₀)) → h₀.IsList l (Value.ref a0 :: vr).toArray → RowsAt h₀ (.ref a0 :: vr) (r0 :: rr) → h₀.IsList a0 us0.toArray → IntsAre us0 r0 → rr.length ≤ 10 → (∀ r ∈ r0 :: rr, r.length ≤ 100) →
    (∃ r ∈ r0 :: rr, M = r.length) → (∀ r ∈ r0 :: rr, M ≤ r.length) →
    (∀ h' tk' oS k t m', Fr h₀ L' h' m' → News h₀ L' h' [(L' + 1 + 1, oS), (L' + 1, oR)] → oS.data = .cell (some (.int (k : Nat) t)) → k ≤ r0.length → IsComm (r0 :: rr) (r0.take k) → Q .next { s with heap := h', toks := tk' }) →
    wpAny (model PySem.Challenge.rw_rt0029_01.row.prog w) ((ktrTop dp un gd cn cs L a ccd cl outer).deeper (envOfC (Str.ofString "_law_alike") alScope L' 172 (.ref 171))) (exec (nthS (bodyAt 26) 2) (envOfC (Str.ofString "_law_alike") alScope L' 172 (.ref 171))) Q (fun _ _ => False) s := by
  k_fill
  intro X T F N hd hu hm1 hRd hSd hl hR hl0 hi0 hrl hrb hM1 hM2 hret
  (conv in (occs := *) alScope => all_goals whnf)
  (conv in (nthS _ _) => whnf)
  have hb0 := hrb r0 (.head _)
  have hM0 := hM2 r0 (.head _)
  (with_unfolding_all refine' ksw_while (σ := Obj × Nat × Tok) (fun c => [(L' + 1 + 1, c.1), (L' + 1, oR)]) (fun _ => [(Str.ofString "room", .int M tM)]) (fun c => c.1.data = .cell (some (.int (c.2.1 : Nat) c.2.2))) [] (fun c => Hid ((c.2.1 : Int) ≤ M ∧ ∀ r ∈ r0 :: rr, r.take c.2.1 = r0.take c.2.1)) (fun c => M.toNat - c.2.1) (oS₀, 0, t₀) F N hSd (List.forall_mem_singleton.mpr hm1) ?k2 ?_)
  (case k2 => exact ⟨by obtain ⟨r, _, e⟩ := hM1; show ((0 : Nat) : Int) ≤ M; rw [e]; omega, fun r _ => rfl⟩)
  clear F N
  rintro ⟨oS, k, t⟩ u h9 tk9 hSd hP F2 N2
  obtain ⟨p1, p2⟩ := Hid.out hP
  dsimp only [kstB] at F2 N2 p1 p2 hSd
  clear hP
  (try k_fold)
  repeat' ((fail_if_success (with_reducible show wpAny _ _ (eval (Expr.ListComp _ _ _ _) _) _ _ _)); (fail_if_success (with_reducible show KswEnd _ _ _ _ _ _ _ _ _ _ _ _)); first | (k_unfold; (try dsimp only)) | (k_end; wrow_close) | walk1 | (dsimp only; walk1) | (dsimp only; k_unfold; (try dsimp only)) | (leave1; try dsimp only) | fail "no step")
  · have hkM : (k : Int) < M := by assumption
    have hk0 : k < r0.length := by omega
    k_dflt (refine LCt.ListComp_T (F₀ := by k_asm) (by with_unfolding_all rfl) (by decide) (by rfl) (by decide) (by rfl) ?_)
    repeat' ((fail_if_success (with_reducible show LCt.CompSrcT _ _ _ _ _ _ _ _ _ _ _ _ _ _ _)); first | (k_unfold; (try dsimp only)) | (k_end; wrow_close) | walk1 | (dsimp only; walk1) | (dsimp only; k_unfold; (try dsimp only)) | (leave1; try dsimp only) | fail "no step")
    k_dflt (refine LCt.CompSrcT.base (by rfl) (by k_asm) (by k_asm) hl ?_ ?_)
    · rw [sizeLine_eq, List.size_toArray, hR.1, List.length_cons]; omega
    intro g8
    refine restT_ind (fun i ys => Hid (ys.length ≤ i ∧ (ys = [] ↔ ∀ r ∈ (r0 :: rr).take i, r[k]? = r0[k]?))) ⟨Nat.le_refl _, by simp⟩ ?_ ?_
    · intro ys hinv
      rw [List.size_toArray, hR.1, List.take_length] at hinv
      obtain ⟨hy1, hy2⟩ := Hid.out hinv
      clear hinv
      unfold LCg.FinE
      intro Dn hn tkn Fn Nn o1n
      repeat' ((fail_if_success (with_reducible show wpAny _ _ (compareOp _ _ _) _ _ _)); first | (k_unfold; (try dsimp only)) | (k_end; wrow_close) | walk1 | (dsimp only; walk1) | (dsimp only; k_unfold; (try dsimp only)) | (leave1; try dsimp only) | fail "no step")
      (rename News h₀ _ _ _ => N9)
      (with_unfolding_all refine' eq_nil_K ?hu N9 (.tail _ (.head _)) (.head _) ?_)
      (case hu => ktr_units)
      repeat' ((fail_if_success (with_reducible show KswEnd _ _ _ _ _ _ _ _ _ _ _ _)); first | (k_unfold; (try dsimp only)) | (k_end; wrow_close) | walk1 | (dsimp only; walk1) | (dsimp only; k_unfold; (try dsimp only)) | (leave1; try dsimp only) | fail "no step")
      · (rename Fr h₀ _ _ _ => F9)
        (rename News h₀ _ _ _ => N9)
        have hy3 : ys = [] := List.isEmpty_iff.mp (by assumption)
        refine ksw_end (_, k + 1, _) F9 N9 (fun p hp => List.mem_append_right _ hp) (by assumption) (List.forall_mem_singleton.mpr rfl) ?_ ⟨by show ((k + 1 : Nat) : Int) ≤ M; omega, comm_step p2 (hy2.mp hy3)⟩ (by show M.toNat - (k + 1) < M.toNat - k; omega)
        intro z h1 h2
        have h3 := h1 _ (.head _)
        dsimp only at h3
        rw [if_neg h3]
        rfl
      · (rename Fr h₀ _ _ _ => F9)
        (rename News h₀ _ _ _ => N9)
        have hy3 : ¬ ys = [] := fun q => by
          have q2 : ys.isEmpty = false := by assumption
          rw [q] at q2; cases q2
        exact hret _ _ oS k t _ F9 (drop_news N9 fun p hp => .tail _ (.tail _ hp)) hSd (Nat.le_of_lt hk0) (comm_differ p2 (fun r hr => by have := hM2 r hr; omega) fun q => hy3 (hy2.mpr q))
    · intro k9 i ys hi hinv ih
      (with_unfolding_all refine LCt.CompRestT.succ ?_)
      intro v' I' oI' C' oC' D' m' h' tk' E' hv' hC' hx' F' N' off' ne'
      have hv8 := hv'
      rw [List.getElem?_toArray] at hv8
      obtain ⟨a1, us1, r1, rfl, hr1, hl1, hi1⟩ := hR.row hv8
      have hb1 := hrb r1 (List.mem_of_getElem? hr1)
      have hM3 := hM2 r1 (List.mem_of_getElem? hr1)
      have hk1 : k < r1.length := by omega
      obtain ⟨t1, ht1⟩ := hi1.get k r1[k] (List.getElem?_eq_getElem hk1)
      obtain ⟨t2, ht2⟩ := hi0.get k r0[k] (List.getElem?_eq_getElem hk0)
      repeat' ((fail_if_success (with_reducible show LCt.CompRestT _ _ _ _ _ _ _ _ _ _ _ _ _ _ _ _ _ _ _ _)); (fail_if_success (with_reducible show LCg.CompEnd _ _ _ _ _ _ _ _ _ _ _ _ _ _)); (fail_if_success (with_reducible show wpAny _ _ (subscriptTail _ _ _ _) _ _ _)); first | (k_unfold; (try dsimp only)) | (k_end; wrow_close) | walk1 | (dsimp only; walk1) | (dsimp only; k_unfold; (try dsimp only)) | (leave1; try dsimp only) | fail "no step")
      (rename Fr h₀ _ _ _ => F9)
      (with_unfolding_all refine' item_at F9 hl1 (by omega) ht1 ?_)
      repeat' ((fail_if_success (with_reducible show LCt.CompRestT _ _ _ _ _ _ _ _ _ _ _ _ _ _ _ _ _ _ _ _)); (fail_if_success (with_reducible show LCg.CompEnd _ _ _ _ _ _ _ _ _ _ _ _ _ _)); (fail_if_success (with_reducible show wpAny _ _ (subscriptTail _ _ _ _) _ _ _)); first | (k_unfold; (try dsimp only)) | (k_end; wrow_close) | walk1 | (dsimp only; walk1) | (dsimp only; k_unfold; (try dsimp only)) | (leave1; try dsimp only) | fail "no step")
      (rename Fr h₀ _ _ _ => F9)
      (with_unfolding_all refine' item_at (k := 0) F9 hl (by omega) rfl ?_)
      repeat' ((fail_if_success (with_reducible show LCt.CompRestT _ _ _ _ _ _ _ _ _ _ _ _ _ _ _ _ _ _ _ _)); (fail_if_success (with_reducible show LCg.CompEnd _ _ _ _ _ _ _ _ _ _ _ _ _ _)); (fail_if_success (with_reducible show wpAny _ _ (subscriptTail _ _ _ _) _ _ _)); first | (k_unfold; (try dsimp only)) | (k_end; wrow_close) | walk1 | (dsimp only; walk1) | (dsimp only; k_unfold; (try dsimp only)) | (leave1; try dsimp only) | fail "no step")
      (rename Fr h₀ _ _ _ => F9)
      (with_unfolding_all refine' item_at F9 hl0 (by omega) ht2 ?_)
      repeat' ((fail_if_success (with_reducible show LCt.CompRestT _ _ _ _ _ _ _ _ _ _ _ _ _ _ _ _ _ _ _ _)); (fail_if_success (with_reducible show LCg.CompEnd _ _ _ _ _ _ _ _ _ _ _ _ _ _)); first | (k_unfold; (try dsimp only)) | (k_end; wrow_close) | walk1 | (dsimp only; walk1) | (dsimp only; k_unfold; (try dsimp only)) | (leave1; try dsimp only) | fail "no step")
      · (rename Fr h₀ _ _ _ => F9)
        (rename News h₀ _ _ _ => N9)
        refine LCg.CompEnd.intro F9 N9 _ (fun p hp => hp) off' (Or.inl hl) (ih _ ?_)
        refine ⟨by rw [List.length_append, List.length_singleton]; have := (Hid.out hinv).1; omega, ⟨fun q => absurd q (by simp), fun q => ?_⟩⟩
        have h1 := q r1 (by rw [List.take_add_one, hr1]; simp)
        rw [List.getElem?_eq_getElem hk1, List.getElem?_eq_getElem hk0] at h1
        exact absurd (Option.some.inj h1) (by assumption)
      · (rename Fr h₀ _ _ _ => F9)
        (rename News h₀ _ _ _ => N9)
        refine LCg.CompEnd.intro F9 N9 _ (fun p hp => hp) off' (Or.inl hl) (ih _ ?_)
        obtain ⟨g1, g2⟩ := Hid.out hinv
        refine ⟨by omega, g2.trans ?_⟩
        rw [List.take_add_one, hr1]
        refine ⟨fun q r hr => ?_, fun q r hr => q r (List.mem_append_left _ hr)⟩
        rcases List.mem_append.mp hr with hr | hr
        · exact q r hr
        · have e : r = r1 := by simpa using hr
          rw [e, List.getElem?_eq_getElem hk1, List.getElem?_eq_getElem hk0]
          exact congrArg some (by assumption)
  · obtain ⟨r, hr, e⟩ := hM1
    exact hret _ _ oS k t _ F2 N2 hSd (by omega) (comm_end p2 hr (by omega))
local macro_rules | `(tactic| walk_at "exec Try") => `(tactic| fail "none")
set_option maxRecDepth 100000 in
set_option maxHeartbeats 8000000 in
theorem alike_spec {w : World} {s₀ : Shared} {mg mb : Str → Option Value} {dp un : Nat} {gd : Option (List Code)} {cn : Str} {cs : Scope} {a : Addr} {ccd : Value} {cl : List (Str × Addr)} {outer : List Env} {h₀ : Heap} {L : Addr} {m : Str → Option Value} {news : List (Addr × Obj)} {s : Shared}
    {Q E : Value → Shared → Prop} {l : Addr} {vs : List Value} {rows : List (List Int)} :
    (hd.heap_39 w.params).In h₀ → Top hd.view_39 (looseW hd.view_39 []) (ExcName.means s₀.heap) mg mb h₀ →
    Fr h₀ L s.heap m → News h₀ L s.heap news → cs.kind = .function → dp + 4 < recursionLimit → un + 40 < cLine →
    s.heap.IsList l vs.toArray → RowsAt s.heap vs rows → rows ≠ [] → rows.length ≤ 10 → (∀ r ∈ rows, r.length ≤ 100) → 
    (∀ r h' tk' us k, IntsAre us (comm rows) → Fr h₀ L h' m → News h₀ L h' ((r, W.listOf us.toArray k) :: news) → s.heap.StaysIn h' → (∀ p ∈ news, p.1 ≠ r) → Q (.ref r) { s with heap := h', toks := tk' }) →
    wpAny (model PySem.Challenge.rw_rt0029_01.row.prog w) (ktrTop dp un gd cn cs L a ccd cl outer) (call (.ref 172) [.ref l]) Q E s := by
  k_fill
  intro X T F N hk hd hu hl hR hne hrl hrb hret
  obtain ⟨r0, rr, rfl⟩ := List.exists_cons_of_ne_nil hne
  obtain ⟨a0, us0, e0, hl0, hi0⟩ := hR.2 0 r0 rfl
  obtain ⟨v0, vr, rfl⟩ : ∃ v r, vs = v :: r := List.exists_cons_of_ne_nil (fun e => by rw [e] at e0; cases e0)
  obtain rfl : v0 = .ref a0 := Option.some.inj e0
  refine wpAny_call ?_
  k_dflt (refine' enter_pureC (env := envX cn cs L a ccd cl) (binds := [(Str.ofString "rows", .ref l)]) ?k2 ?k3 ?k5 ?kF ?kK ?k6 ?k7 ?k8 ?k9 ?kB ?kD ?_ ?c2 ?c3 ?c4; (case kF => exact rfl); (case kK => assumption); (case k2 => k_asm); (case k3 => k_asm); (case k5 => k_asm); (case k6 => k_is); (case k7 => k_is); (case k8 => ktr_room); (case k9 => exact BindsTo.of_eq rfl); (case kB => exact rfl); (case kD => decide +kernel); (case c2 => exact rfl); (case c3 => exact rfl); (case c4 => exact rfl); k_whole; intro L' h' tk' cells' F' N' Y' X' T'; k_cells Y'; (try simp only [List.cons_append, List.nil_append] at N'); (try dsimp only); (try k_fold))
  (try dsimp only)
  repeat' ((fail_if_success (with_reducible show wpAny _ _ (exec (Stmt.Assign _ (Expr.Call _ _ _ _) _) _) _ _ _)); first | (k_unfold; (try dsimp only)) | (k_end; wrow_close) | walk1 | (dsimp only; walk1) | (dsimp only; k_unfold; (try dsimp only)) | (leave1; try dsimp only) | fail "no step")
  (rename Obj.data _ = Data.cell (bindC _ _ _ _) => hcr)
  replace hcr := hcr.trans (show _ = Data.cell (some (.ref l)) by with_unfolding_all rfl)
  (rename Fr s.heap _ _ _ => F3)
  (rename News s.heap _ _ _ => N3)
  (with_unfolding_all refine' al_room X' T' F3 N3 ?hd ?hu (.tail _ (.head _)) hcr hl hR hne hrl hrb ?_)
  (case hd => omega)
  (case hu => omega)
  clear F3 N3
  intro h3 tk3 M tM F3 N3 hM1 hM2
  repeat' ((fail_if_success (with_reducible show wpAny _ _ (exec (Stmt.While _ _ _ _) _) _ _ _)); first | (k_unfold; (try dsimp only)) | (k_end; wrow_close) | walk1 | (dsimp only; walk1) | (dsimp only; k_unfold; (try dsimp only)) | (leave1; try dsimp only) | fail "no step")
  (rename Fr s.heap _ _ _ => F4)
  (rename News s.heap _ _ _ => N4)
  (with_unfolding_all refine' wpAny_noRaise (al_while (news := []) (E := fun _ _ => False) X' T' F4 N4 ?hd ?hu ?hm hcr (by assumption) hl hR hl0 hi0 ?hrl hrb hM1 hM2 ?_))
  (case hd => omega)
  (case hu => omega)
  (case hm => exact rfl)
  (case hrl => simp only [List.length_cons] at hrl; omega)
  clear F4 N4
  intro h4 tk4 oS k t m4 F4 N4 hSd hkl hcm
  have hce := is_comm (List.cons_ne_nil _ _) hcm
  repeat' ((fail_if_success (with_reducible show wpAny _ _ (subscriptTail _ _ _ _) _ _ _)); first | (k_unfold; (try dsimp only)) | (k_end; wrow_close) | walk1 | (dsimp only; walk1) | (dsimp only; k_unfold; (try dsimp only)) | (leave1; try dsimp only) | fail "no step")
  (with_unfolding_all refine' item_at (k := 0) F4 hl (by omega) rfl ?_)
  repeat' ((fail_if_success (with_reducible show wpAny _ _ (subscriptTail _ _ _ _) _ _ _)); first | (k_unfold; (try dsimp only)) | (k_end; wrow_close) | walk1 | (dsimp only; walk1) | (dsimp only; k_unfold; (try dsimp only)) | (leave1; try dsimp only) | fail "no step")
  have hb0 := hrb r0 (.head _)
  (with_unfolding_all refine' slice_upto (s := ⟨h4, _, _, _, _⟩) (vs := us0) (k := k) F4 N4 (hl0.at fun o e => F4.keep a0 o e) ?hz ?_ ?hs)
  (case hs => with_unfolding_all rfl)
  (case hz => rw [hi0.length]; omega)
  clear F4 N4
  intro D5 h5 F5 N5 l5
  repeat' (first | (k_unfold; (try dsimp only)) | (k_end; wrow_close) | walk1 | (dsimp only; walk1) | (dsimp only; k_unfold; (try dsimp only)) | (leave1; try dsimp only) | fail "no step")
  (rename Fr s.heap _ _ _ => F9)
  (rename News s.heap _ _ _ => N9)
  obtain ⟨R1, R2, R3, R4⟩ := ret1 F N F9 N9 (out := [_]) (fun p hp => by rw [List.mem_singleton.mp hp]; exact .head _)
  exact hret _ _ _ (us0.take k) _ (by rw [← hce]; exact hi0.take k) R1 R2 R3 (fun p hp => R4 p hp _ (.head _))
end Mine
end

section
namespace Mine
theorem rst_Du1 : True := by w_top off; trivial
end Mine
open PySem PySem.W PyProof.Rows PySem.Calls PySem.Spec
namespace Mine
local macro_rules | `(tactic| k_all) => `(tactic| assumption)
def duScope : Scope := scopeAt 27 default
def duBody : List Stmt := forBody ((bodyAt 27).drop 1)
set_option maxRecDepth 100000 in
set_option maxHeartbeats 8000000 in
theorem du_path {w : World} {s₀ : Shared} {mg mb : Str → Option Value} {dp un : Nat} {gd : Option (List Code)} {cn : Str} {cs : Scope} {a : Addr} {ccd : Value} {cl : List (Str × Addr)} {outer : List Env} {h₀ : Heap} {L L' : Addr} {m : Str → Option Value} {news : List (Addr × Obj)} {s : Shared} {Q : Flow → Shared → Prop} {E : Value → Shared → Prop} {l : Addr} {vs : List Value} {rows : List (List Int)} :
    (hd.heap_39 w.params).In h₀ → Top hd.view_39 (looseW hd.view_39 []) (ExcName.means s₀.heap) mg mb h₀ →
    Fr h₀ L' s.heap m → News h₀ L' s.heap news → dp + 10 < recursionLimit → un + 120 < cLine →
    m (Str.ofString "some") = some (.ref l) → LCg.SrcAt h₀ l vs.toArray news → RowsAt h₀ vs rows → rows ≠ [] → rows.length ≤ 10 → (∀ r ∈ rows, NumsOk r) → (∀ r ∈ rows, r.length ≤ 20) →
    (∀ h' tk' t, Fr h₀ L' h' (fun z => if z = Str.ofString "path" then some (.str (pathOf (comm (rows.map octs))) t) else m z) → News h₀ L' h' news → Q .next { s with heap := h', toks := tk' }) →
    wpAny (model PySem.Challenge.rw_rt0029_01.row.prog w) ((ktrTop dp un gd cn cs L a ccd cl outer).deeper (envOfC (Str.ofString "_law_due") duScope L' 177 (.ref 176))) (exec (nthS duBody 0) (envOfC (Str.ofString "_law_due") duScope L' 177 (.ref 176))) Q E s := by
  k_fill
  intro X T F N hd hu hm1 hS hR hne hrl hok hrb hret
  (conv in (occs := *) duScope => all_goals whnf)
  (conv in (nthS _ _) => whnf)
  replace F := ksw_fr (stored := []) (m₀ := m) (ps := [(Str.ofString "some", .ref l)]) (List.forall_mem_singleton.mpr hm1) (fun _ _ _ => rfl) F
  dsimp only [kstB] at F
  repeat' ((fail_if_success (with_reducible show wpAny _ _ (eval (Expr.ListComp _ _ _ _) _) _ _ _)); first | (k_unfold; (try dsimp only)) | (k_end; wrow_close) | walk1 | (dsimp only; walk1) | (dsimp only; k_unfold; (try dsimp only)) | (leave1; try dsimp only) | fail "no step")
  k_dflt (refine LCg.ListComp_U (F₀ := by k_asm) (by with_unfolding_all rfl) (by decide) (by rfl) (by decide) (by rfl) ?_)
  repeat' ((fail_if_success (with_reducible show wpAny _ _ (eval (Expr.ListComp _ _ _ _) _) _ _ _)); first | (k_unfold; (try dsimp only)) | (k_end; wrow_close) | walk1 | (dsimp only; walk1) | (dsimp only; k_unfold; (try dsimp only)) | (leave1; try dsimp only) | fail "no step")
  k_dflt (refine LCg.ListComp_U (F₀ := by k_asm) (by with_unfolding_all rfl) (by decide) (by rfl) (by decide) (by rfl) ?_)
  repeat' ((fail_if_success (with_reducible show LCg.CompSrc _ _ _ _ _ _ _ _ _ _ _ _ _ _)); first | (k_unfold; (try dsimp only)) | (k_end; wrow_close) | walk1 | (dsimp only; walk1) | (dsimp only; k_unfold; (try dsimp only)) | (leave1; try dsimp only) | fail "no step")
  refine src_comp rfl (by k_asm) (by k_asm) hS (by rw [sizeLine_eq, List.size_toArray, hR.1]; omega) fun g9 => ?_
  refine rest_indN (fun i ys nw => (∀ p ∈ news, p ∈ nw) ∧ RowsL nw ys ((rows.take i).map octs)) ⟨fun p hp => hp, RowsL.nil⟩ ?_ ?_
  · rintro ys nw ⟨hsub, hr⟩
    rw [List.size_toArray, hR.1, List.take_length] at hr
    unfold LCg.FinE
    intro Ds hs9 tks Fs9 Ns9 o1s
    repeat' ((fail_if_success (with_reducible show wpAny _ _ (call (Value.ref 172) _ _) _ _ _)); first | (k_unfold; (try dsimp only)) | (k_end; wrow_close) | walk1 | (dsimp only; walk1) | (dsimp only; k_unfold; (try dsimp only)) | (leave1; try dsimp only) | fail "no step")
    have ho1 : ∀ o ∈ rows.map octs, Octs o := fun o ho => by
      obtain ⟨r, hr, rfl⟩ := List.mem_map.mp ho
      exact octs_ok (hok r hr)
    have ho2 : ∀ o ∈ rows.map octs, o.length ≤ 100 := fun o ho => by
      obtain ⟨r, hr, rfl⟩ := List.mem_map.mp ho
      have := octs_len r
      have := hrb r hr
      omega
    have hne' : rows.map octs ≠ [] := by simpa using hne
    have hoc := comm_octs hne' ho1
    (with_unfolding_all refine' alike_spec X T Fs9 Ns9 ?hk ?hd ?hu ⟨_, (Ns9 _ (.head _)).1, rfl, _, rfl⟩ ((hr.mono fun p hp => .tail _ hp).at Ns9) hne' ?hl ho2 ?_)
    (case hk => exact rfl)
    (case hd => ktr_room)
    (case hu => ktr_units)
    (case hl => rw [List.length_map]; exact hrl)
    clear Fs9 Ns9
    intro r9 h9 tk9 us9 k9 hI9 F9 N9 S9 l9
    have hcl : (comm (rows.map octs)).length ≤ 80 := by
      obtain ⟨r, rs, e⟩ := List.exists_cons_of_ne_nil hne
      have h1 := (comm_pre (rows.map octs) (octs r) (by rw [e]; exact .head _)).length_le
      have h2 := octs_len r
      have h3 := hrb r (by rw [e]; exact .head _)
      omega
    repeat' ((fail_if_success (with_reducible show LCg.CompSrc _ _ _ _ _ _ _ _ _ _ _ _ _ _)); first | (k_unfold; (try dsimp only)) | (k_end; wrow_close) | walk1 | (dsimp only; walk1) | (dsimp only; k_unfold; (try dsimp only)) | (leave1; try dsimp only) | fail "no step")
    refine src_comp rfl F9 N9 (src_in (.head _)) (by rw [sizeLine_eq, List.size_toArray, hI9.length]; omega) fun g8 => ?_
    refine rest_ind (fun i ys => StrsAre ys (((comm (rows.map octs)).take i).map itxt)) (by exact .nil) ?_ ?_
    · intro zs hinv
      rw [List.size_toArray, hI9.length, List.take_length] at hinv
      (try unfold LCg.FinE)
      intro Dz hz9 tkz Fz Nz o1z
      repeat' ((fail_if_success (with_reducible show wpAny _ _ (call (Value.builtin "str.join") _ _) _ _ _)); first | (k_unfold; (try dsimp only)) | (k_end; wrow_close) | walk1 | (dsimp only; walk1) | (dsimp only; k_unfold; (try dsimp only)) | (leave1; try dsimp only) | fail "no step")
      (with_unfolding_all refine' join_K Fz Nz (.head _) rfl rfl hinv ?hy ?hl ?_)
      (case hy =>
        intro y hy
        obtain ⟨b, hb, rfl⟩ := List.mem_map.mp hy
        exact itxt_len (hoc b hb).1 (hoc b hb).2)
      (case hl => rw [List.length_map]; exact hcl)
      clear Fz Nz
      intro tj kj Fz Nz hj
      repeat' (first | (k_unfold; (try dsimp only)) | (k_end; wrow_close) | walk1 | (dsimp only; walk1) | (dsimp only; k_unfold; (try dsimp only)) | (leave1; try dsimp only) | fail "no step")
      (rename Fr h₀ _ _ _ => F8)
      (rename News h₀ _ _ _ => N8)
      rw [path_join hoc] at F8
      exact hret _ _ _ (fr_same F8 fun z => by
        (try dsimp only)
        split
        · rfl
        · split
          · rename_i e; rw [e, hm1]
          · rfl) (drop_news N8 fun p hp => .tail _ (.tail _ (.tail _ (hsub p hp))))
    · intro k i zs hi hinv ihz
      (with_unfolding_all refine LCg.CompRest.succ ?_)
      intro v' I' oI' C' oC' D' m' h' tk' E' hv' hC' hx' F' N' off' ne'
      have hv8 := hv'
      rw [List.getElem?_toArray] at hv8
      obtain ⟨b, tb, rfl, hb⟩ := ints_item hI9 hv8
      repeat' ((fail_if_success (with_reducible show LCg.CompEnd _ _ _ _ _ _ _ _ _ _ _ _ _ _)); (fail_if_success (with_reducible show wpAny _ _ (call (Value.type "str") _ _) _ _ _)); first | (k_unfold; (try dsimp only)) | (k_end; wrow_close) | walk1 | (dsimp only; walk1) | (dsimp only; k_unfold; (try dsimp only)) | (leave1; try dsimp only) | fail "no step")
      have hb0 := hoc b (List.mem_of_getElem? hb)
      (with_unfolding_all refine' P.str_of_int (Nat.lt_of_le_of_lt (Nat.log2_le_self _) (by omega)) ?_)
      (try dsimp only)
      repeat' ((fail_if_success (with_reducible show LCg.CompEnd _ _ _ _ _ _ _ _ _ _ _ _ _ _)); first | (k_unfold; (try dsimp only)) | (k_end; wrow_close) | walk1 | (dsimp only; walk1) | (dsimp only; k_unfold; (try dsimp only)) | (leave1; try dsimp only) | fail "no step")
      refine LCg.CompEnd.intro F' N' _ (fun p hp => hp) off' (src_in (.head _)) (ihz _ ?_)
      rw [List.take_add_one, hb, List.map_append]
      exact StrsAre.append' hinv (.cons _ _ .nil)
  · rintro k i ys nw hi ⟨hsub, hr⟩ ih
    (with_unfolding_all refine LCg.CompRest.succ ?_)
    intro v' I' oI' C' oC' D' m' h' tk' E' hv' hC' hx' F' N' off' ne'
    have hv8 := hv'
    rw [List.getElem?_toArray] at hv8
    obtain ⟨a1, us1, r1, rfl, hr1, hl1, hi1⟩ := hR.row hv8
    have hb1 := hrb r1 (List.mem_of_getElem? hr1)
    have hk1 := hok r1 (List.mem_of_getElem? hr1)
    repeat' ((fail_if_success (with_reducible show LCg.CompEnd _ _ _ _ _ _ _ _ _ _ _ _ _ _)); (fail_if_success (with_reducible show wpAny _ _ (call (Value.ref 155) _ _) _ _ _)); first | (k_unfold; (try dsimp only)) | (k_end; wrow_close) | walk1 | (dsimp only; walk1) | (dsimp only; k_unfold; (try dsimp only)) | (leave1; try dsimp only) | fail "no step")
    (rename Fr h₀ _ _ _ => F9)
    (rename News h₀ _ _ _ => N9)
    (with_unfolding_all refine' octets_spec X T F9 N9 ?hk ?hd ?hu (hl1.at fun o e => F9.keep a1 o e) hi1 hk1 hb1 ?_)
    (case hk => exact rfl)
    (case hd => ktr_room)
    (case hu => ktr_units)
    clear F9 N9
    intro r9 h9 tk9 us9 k9 hI9 F9 N9 S9 l9
    (try dsimp only)
    refine LCg.CompEnd.intro F9 N9 _ sub_perm (off_new l9 off') (src_mono (fun p hp => .tail _ (hsub p hp)) hS) (ih _ _ ⟨fun p hp => .tail _ (hsub p hp), ?_⟩)
    rw [List.take_add_one, hr1, List.map_append]
    exact (hr.mono fun p hp => .tail _ hp).snoc (.head _) hI9
set_option maxRecDepth 100000 in
set_option maxHeartbeats 8000000 in
theorem du_first {w : World} {s₀ : Shared} {mg mb : Str → Option Value} {dp un : Nat} {gd : Option (List Code)} {cn : Str} {cs : Scope} {a : Addr} {ccd : Value} {cl : List (Str × Addr)} {outer : List Env} {h₀ : Heap} {L L' : Addr} {m : Str → Option Value} {news : List (Addr × Obj)} {s : Shared} {Q : Flow → Shared → Prop} {E : Value → Shared → Prop} {l : Addr} {vs : List Value} {rows : List (List Int)} :
    (hd.heap_39 w.params).In h₀ → Top hd.view_39 (looseW hd.view_39 []) (ExcName.means s₀.heap) mg mb h₀ →
    Fr h₀ L' s.heap m → News h₀ L' s.heap news → dp + 10 < recursionLimit → un + 120 < cLine →
    m (Str.ofString "some") = some (.ref l) → LCg.SrcAt h₀ l vs.toArray news → RowsAt h₀ vs rows → rows ≠ [] → rows.length ≤ 10 → (∀ r ∈ rows, r.length ≤ 20) →
    (∀ h' tk' f us k, IntsAre us (comm rows) → Fr h₀ L' h' (fun z => if z = Str.ofString "first" then some (.ref f) else m z) → News h₀ L' h' ((f, W.listOf us.toArray k) :: news) → (∀ p ∈ news, p.1 ≠ f) → Q .next { s with heap := h', toks := tk' }) →
    wpAny (model PySem.Challenge.rw_rt0029_01.row.prog w) ((ktrTop dp un gd cn cs L a ccd cl outer).deeper (envOfC (Str.ofString "_law_due") duScope L' 177 (.ref 176))) (exec (nthS duBody 1) (envOfC (Str.ofString "_law_due") duScope L' 177 (.ref 176))) Q E s := by
  k_fill
  intro X T F N hd hu hm1 hS hR hne hrl hrb hret
  (conv in (occs := *) duScope => all_goals whnf)
  (conv in (nthS _ _) => whnf)
  replace F := ksw_fr (stored := []) (m₀ := m) (ps := [(Str.ofString "some", .ref l)]) (List.forall_mem_singleton.mpr hm1) (fun _ _ _ => rfl) F
  dsimp only [kstB] at F
  repeat' ((fail_if_success (with_reducible show wpAny _ _ (call (Value.ref 172) _ _) _ _ _)); first | (k_unfold; (try dsimp only)) | (k_end; wrow_close) | walk1 | (dsimp only; walk1) | (dsimp only; k_unfold; (try dsimp only)) | (leave1; try dsimp only) | fail "no step")
  (with_unfolding_all refine' alike_spec X T F N ?hk ?hd ?hu (hS.list F.keep N) (hR.keeps F.keep) hne hrl (fun r hr => Nat.le_trans (hrb r hr) (by decide)) ?_)
  (case hk => exact rfl)
  (case hd => ktr_room)
  (case hu => ktr_units)
  clear F N
  intro r9 h9 tk9 us9 k9 hI9 F9 N9 S9 l9
  repeat' (first | (k_unfold; (try dsimp only)) | (k_end; wrow_close) | walk1 | (dsimp only; walk1) | (dsimp only; k_unfold; (try dsimp only)) | (leave1; try dsimp only) | fail "no step")
  (rename Fr h₀ _ _ _ => F8)
  (rename News h₀ _ _ _ => N8)
  exact hret _ _ _ _ _ hI9 (fr_same F8 fun z => by
        (try dsimp only)
        split
        · rfl
        · split
          · rename_i e; rw [e, hm1]
          · rfl) N8 l9
set_option maxRecDepth 100000 in
set_option maxHeartbeats 8000000 in
theorem du_onetwo {w : World} {s₀ : Shared} {mg mb : Str → Option Value} {dp un : Nat} {gd : Option (List Code)} {cn : Str} {cs : Scope} {a : Addr} {ccd : Value} {cl : List (Str × Addr)} {outer : List Env} {h₀ : Heap} {L L' : Addr} {m : Str → Option Value} {news : List (Addr × Obj)} {s : Shared} {Q : Flow → Shared → Prop} {E : Value → Shared → Prop} {l f a1 a2 : Addr} {us u1 u2 vr : List Value} {k : Nat} {fs r1 r2 : List Int} {oO oT : Obj} {xO xT : Option Value} :
    (hd.heap_39 w.params).In h₀ → Top hd.view_39 (looseW hd.view_39 []) (ExcName.means s₀.heap) mg mb h₀ →
    Fr h₀ L' s.heap m → News h₀ L' s.heap ((L' + 1 + 1, oT) :: (L' + 1, oO) :: news) → dp + 10 < recursionLimit → un + 120 < cLine →
    m (Str.ofString "some") = some (.ref l) → m (Str.ofString "first") = some (.ref f) → LCg.SrcAt h₀ l (Value.ref a1 :: .ref a2 :: vr).toArray news → h₀.IsList a1 u1.toArray → h₀.IsList a2 u2.toArray → IntsAre u1 r1 → IntsAre u2 r2 → r1.length ≤ 20 → r2.length ≤ 20 → (f, W.listOf us.toArray k) ∈ news → IntsAre us fs → fs.length ≤ 20 →
    oO.data = .cell xO → oT.data = .cell xT → (∀ p ∈ news, p.1 ≠ L' + 1) → (∀ p ∈ news, p.1 ≠ L' + 1 + 1) →
    (∀ h' tk' b1 b2 oO' oT', Fr h₀ L' h' m → News h₀ L' h' ((b2, W.listOf (u2.drop fs.length).toArray 0) :: (b1, W.listOf (u1.drop fs.length).toArray 0) :: (L' + 1 + 1, oT') :: (L' + 1, oO') :: news) → oO'.data = .cell (some (.ref b1)) → oT'.data = .cell (some (.ref b2)) →
      (∀ p ∈ (L' + 1 + 1, oT) :: (L' + 1, oO) :: news, p.1 ≠ b1 ∧ p.1 ≠ b2) → Q .next { s with heap := h', toks := tk' }) →
    wpAny (model PySem.Challenge.rw_rt0029_01.row.prog w) ((ktrTop dp un gd cn cs L a ccd cl outer).deeper (envOfC (Str.ofString "_law_due") duScope L' 177 (.ref 176))) (exec (nthS duBody 2) (envOfC (Str.ofString "_law_due") duScope L' 177 (.ref 176))) Q E s := by
  k_fill
  intro X T F N hd hu hm1 hm2 hS hl1 hl2 hi1 hi2 hz1 hz2 hf hIf hzf hO hT off1 off2 hret
  (conv in (occs := *) duScope => all_goals whnf)
  (conv in (nthS _ _) => whnf)
  replace F := ksw_fr (stored := []) (m₀ := m) (ps := [(Str.ofString "some", .ref l), (Str.ofString "first", .ref f)]) (List.forall_mem_cons.mpr ⟨hm1, List.forall_mem_singleton.mpr hm2⟩) (fun _ _ _ => rfl) F
  dsimp only [kstB] at F
  have hf2 : (f, W.listOf us.toArray k) ∈ (L' + 1 + 1, oT) :: (L' + 1, oO) :: news := .tail _ (.tail _ hf)
  have hS2 := src_mono (nw' := (L' + 1 + 1, oT) :: (L' + 1, oO) :: news) (fun p hp => .tail _ (.tail _ hp)) hS
  repeat' ((fail_if_success (with_reducible show wpAny _ _ (subscriptTail _ _ _ _) _ _ _)); first | (k_unfold; (try dsimp only)) | (k_end; wrow_close) | walk1 | (dsimp only; walk1) | (dsimp only; k_unfold; (try dsimp only)) | (leave1; try dsimp only) | fail "no step")
  (with_unfolding_all refine' item_src (k := 0) F N hS2 (by omega) rfl ?_)
  repeat' ((fail_if_success (with_reducible show wpAny _ _ (subscriptTail _ _ _ _) _ _ _)); (fail_if_success (with_reducible show wpAny _ _ (call (Value.builtin "len") _ _) _ _ _)); first | (k_unfold; (try dsimp only)) | (k_end; wrow_close) | walk1 | (dsimp only; walk1) | (dsimp only; k_unfold; (try dsimp only)) | (leave1; try dsimp only) | fail "no step")
  (with_unfolding_all refine' len_in N hf2 hIf (by omega) ?_)
  intro tn kn
  repeat' ((fail_if_success (with_reducible show wpAny _ _ (subscriptTail _ _ _ _) _ _ _)); (fail_if_success (with_reducible show wpAny _ _ (call (Value.builtin "len") _ _) _ _ _)); first | (k_unfold; (try dsimp only)) | (k_end; wrow_close) | walk1 | (dsimp only; walk1) | (dsimp only; k_unfold; (try dsimp only)) | (leave1; try dsimp only) | fail "no step")
  (with_unfolding_all refine' slice_from (s := ⟨s.heap, _, _, _, _⟩) (vs := u1) (k := fs.length) F N (hl1.at fun o e => F.keep a1 o e) (by rw [hi1.length]; omega) ?_ ?hs)
  (case hs => with_unfolding_all rfl)
  clear F N
  intro b1 h1 F1 N1 l1
  have hS3 := src_mono (nw' := (b1, W.listOf (u1.drop fs.length).toArray 0) :: (L' + 1 + 1, oT) :: (L' + 1, oO) :: news) (fun p hp => .tail _ hp) hS2
  repeat' ((fail_if_success (with_reducible show wpAny _ _ (subscriptTail _ _ _ _) _ _ _)); (fail_if_success (with_reducible show wpAny _ _ (call (Value.builtin "len") _ _) _ _ _)); first | (k_unfold; (try dsimp only)) | (k_end; wrow_close) | walk1 | (dsimp only; walk1) | (dsimp only; k_unfold; (try dsimp only)) | (leave1; try dsimp only) | fail "no step")
  (with_unfolding_all refine' item_src (k := 1) F1 N1 hS3 (by omega) rfl ?_)
  repeat' ((fail_if_success (with_reducible show wpAny _ _ (subscriptTail _ _ _ _) _ _ _)); (fail_if_success (with_reducible show wpAny _ _ (call (Value.builtin "len") _ _) _ _ _)); first | (k_unfold; (try dsimp only)) | (k_end; wrow_close) | walk1 | (dsimp only; walk1) | (dsimp only; k_unfold; (try dsimp only)) | (leave1; try dsimp only) | fail "no step")
  (with_unfolding_all refine' len_in N1 (.tail _ hf2) hIf (by omega) ?_)
  intro tn2 kn2
  repeat' ((fail_if_success (with_reducible show wpAny _ _ (subscriptTail _ _ _ _) _ _ _)); (fail_if_success (with_reducible show wpAny _ _ (call (Value.builtin "len") _ _) _ _ _)); first | (k_unfold; (try dsimp only)) | (k_end; wrow_close) | walk1 | (dsimp only; walk1) | (dsimp only; k_unfold; (try dsimp only)) | (leave1; try dsimp only) | fail "no step")
  (with_unfolding_all refine' slice_from (s := ⟨h1, _, _, _, _⟩) (vs := u2) (k := fs.length) F1 N1 (hl2.at fun o e => F1.keep a2 o e) (by rw [hi2.length]; omega) ?_ ?hs)
  (case hs => with_unfolding_all rfl)
  clear F1 N1
  intro b2 h2 F2 N2 l2
  have l1' := l1
  have l2' := l2
  k_lt l1
  k_lt l2
  repeat' (first | (k_unfold; (try dsimp only)) | (k_end; wrow_close) | walk1 | (dsimp only; walk1) | (dsimp only; k_unfold; (try dsimp only)) | (leave1; try dsimp only) | fail "no step")
  (rename Fr h₀ _ _ _ => F8)
  (rename News h₀ _ _ _ => N8)
  refine hret _ _ b1 b2 _ _ (fr_same F8 fun z => ?_) (drop_news N8 fun p hp => .tail _ hp) (by assumption) (by assumption) (fun p hp => ⟨Nat.ne_of_lt (l1' p hp), Nat.ne_of_lt (l2' p (.tail _ hp))⟩)
  split
  · rename_i e; rw [e, hm1]
  · split
    · rename_i e; rw [e, hm2]
    · rfl
end Mine
end

section
open PySem PySem.W PyProof.Rows PySem.Calls PySem.Spec PyProof.Rows.LCg PyProof.Rows.LCt
set_option maxRecDepth 100000
namespace Mine
section
variable {prog : Program} {w : World} {A : Around} {E : Value → Shared → Prop} {s : Shared} {h₀ : Heap} {L : Addr} {m : Str → Option Value} {env : Env}
/-- a comprehension's source: a range of any step -/
def RgSrc (prog : Program) (w : World) (A : Around) (h₀ : Heap) (L : Addr) (m : Str → Option Value) (env : Env) (ct elt : Expr) (x : Str) (scope : Scope) (cl : List (Str × Addr)) (Fin : Shared → List Value → List (Addr × Obj) → Prop) (xv : Value) (s₁ : Shared) : Prop :=
  ∃ r a b c t u v n news, xv = .ref r ∧ A.handled = none ∧ Fr h₀ L s₁.heap m ∧ News h₀ L s₁.heap news ∧ IsRange s₁.heap r a b c t u v ∧ Builtin.Range.small a b c = true ∧ Builtin.Range.rangeSize a b c = ((n : Nat) : Int) ∧ n ≤ sizeLine ∧
    ∀ g, CompRestT prog w A h₀ L m env ct elt x scope cl { s₁ with heap := g } (fun _ => True) (fun i v => ∃ t, v = .int (a + (i : Int) * c) t) (Fin { s₁ with heap := g }) n 0 [] news
theorem Assign_CompT_rg {ct elt iter : Expr} {x y : Str} {px py : Pos} {scope : Scope} {cl : List (Str × Addr)} {pos spos : Pos} {Q : Flow → Shared → Prop} (_F₀ : Fr h₀ L s.heap m) (hLe : env.locals = L)
    (hsw : swapsWith (.ListComp elt [⟨.Name x px, iter, [ct], 0⟩] scope pos) (some (.Name y py)) spos.line env = pure true)
    (hclos : closureFor scope env = pure cl) (hcell : ∀ z ∈ scope.names, z.2 ≠ .cell) (hkind : scope.kind = .function)
    (hnames : ∀ z ∈ scope.names, z.2 = .local → scope.names.lookup z.1 = some .local) (hx : scope.names.lookup x = some .local)
    (hy : env.kindOf y = some .local) (hp : (env.scope.kind == .class || (env.scope.kind == .module && env.locals != env.globals)) = false)
    (h : wpAny (model prog w) A (eval iter env) (RgSrc prog w A h₀ L m env ct elt x scope cl (fun s₂ => FinA h₀ L m s₂ y Q)) E s)
    (hs : ∀ x, foldedSetIterable iter env x = pure x := by intro _; rfl) :
    wpAny (model prog w) A (exec (.Assign [.Name y py] (.ListComp elt [⟨.Name x px, iter, [ct], 0⟩] scope pos) spos) env) Q E s := by
  subst hLe
  rw [exec_Assign_Name_used _ _ _ _ hsw]
  refine wpAny_bind (wpAny_standAt (wpAny_bind ?_))
  show wpAny _ A (do let _ ← comprehension (.ListComp elt [⟨.Name x px, iter, [ct], 0⟩] scope pos) scope env _ (newList []) false (eval iter env) (some (assign (.Name y py) env))) _ _ s
  refine wpAny_bind (wpAny_mono (wpAny_comprehension_free (use := some (assign (.Name y py) env)) (Q := fun _ s' => Q .next s') rfl hs hclos hkind hnames
    (wpAny_mono h (fun xv s₁ h₁ => ?_) fun _ _ e => e)) (fun _ s' hq => wpAny_pure (wpAny_pure hq)) fun _ _ e => e)
  obtain ⟨r, a, b, c, t, u, v, n, news, rfl, hh, F, N, hr, hsm, hn, hsz, R⟩ := h₁
  refine wpAny_pyIter_range hr hsm ?_
  refine block_T (Walks.range hh s₁.heap.objs.size a c n) hsz (fun i h st => ⟨_, st⟩) (fun i h h' o nw st e e' _ _ _ => by
      have st' : h.get? s₁.heap.objs.size = some _ := st
      show h'.get? s₁.heap.objs.size = some _
      rw [e', ← e]; exact st') hcell hkind hx (by show IsRangeIter _ _ _ _ _; rw [hn]; simpa using Heap.get?_push_size _ rfl) (fun b hb => ?_)
    (F.keeps fun _ _ e => Heap.get?_push_of_some _ e) (N.grown fun _ _ e => Heap.get?_push_of_some _ e) (Nat.ne_of_lt F.ns.lt) (next_is_new F) (fun p hp => Nat.ne_of_lt (Heap.lt_size (N p hp).1)) trivial (R _) ?_
  · rw [List.mem_singleton.mp hb]
    show s₁.heap.objs.size < (s₁.heap.push _).objs.size
    rw [Heap.size_push]; exact Nat.lt_succ_self _
  · intro D C h' tk m' ys news' F' N' o1 hn' hC₀ hD₀ hCL hDL hCD offC fin
    show wpAny _ A (assign (.Name y py) env (.ref D)) _ _ _
    refine wpAny_assign_Name (wpAny_storeName_local hy F'.ns (fun h₂ hn₂ hs₂ => ?_) hp)
    have hL₀ : h₀.get? env.locals = none := Heap.get?_none_of_le F'.above
    have F₂ : Fr h₀ env.locals h₂ (fun z => if z = y then some (.ref D) else m z) := ⟨hn₂, fun b o e => hs₂.extBut b o (fun q => by rw [q, hL₀] at e; cases e) (F'.keep b o e), F'.above⟩
    refine ⟨m', hn'.sameBut hs₂ hCL, fun h'' hs'' => fin D h'' _ (F₂.change hs'' hCL hC₀) (fun p hp => ?_) o1⟩
    have z : h₂.get? p.1 = some p.2 := hs₂.extBut _ _ (N' p hp).2.1 (N' p hp).1
    refine ⟨hs''.extBut _ _ ?_ z, (N' p hp).2⟩
    rcases List.mem_cons.mp hp with rfl | hp
    · exact Ne.symm hCD
    · exact offC p hp
end
end Mine
end

section
namespace Mine
theorem rst_Du2 : True := by w_top off; trivial
end Mine
local macro_rules | `(tactic| walk_at "mine pad") => `(tactic| fail "pad")
open PySem PySem.W PyProof.Rows PySem.Calls PySem.Spec
namespace Mine
local macro_rules | `(tactic| k_all) => `(tactic| assumption)
/-- of a row's numbers from its end on: those with as many like ones behind as the other row has, or more -/
def lacksF (two : List Int) : List Int → List Int
  | [] => []
  | x :: r => lacksF two r ++ if two.count x ≤ r.count x then [x] else []
theorem lacksF_len (two : List Int) : ∀ l : List Int, (lacksF two l).length ≤ l.length
  | [] => Nat.le_refl _
  | x :: r => by
    have h := lacksF_len two r
    rw [lacksF, List.length_append, List.length_cons]
    split <;> simp <;> omega
theorem size_down (n : Nat) : Builtin.Range.rangeSize ((n : Int) - 1) (-1) (-1) = ((n : Nat) : Int) := by
  rw [rangeSize_downNat]; omega
theorem small_dn {n : Nat} (h : n ≤ 20) : Builtin.Range.small ((n : Int) - 1) (-1) (-1) = true := by
  refine small_down ?_ ?_ ?_ ?_ <;> omega
section
variable {prog : Program} {w : World} {A : Around} {E : Value → Shared → Prop} {s : Shared} {h₀ : Heap} {L : Addr} {m : Str → Option Value} {news : List (Addr × Obj)}
theorem count_in {f : Addr} {us : List Value} {n : Nat} {ns : List Int} {x : Int} {tx : Tok} {Q : Value → Shared → Prop} (N : News h₀ L s.heap news) (hm : (f, W.listOf us.toArray n) ∈ news) (hi : IntsAre us ns)
    (h : ∀ t k, Q (.int (ns.count x : Nat) t) { s with toks := k }) : wpAny (model prog w) A (call (.builtin "list.count") [.ref f, .int x tx]) Q E s :=
  count_list_ints ⟨_, (N _ hm).1, rfl, n, rfl⟩ hi (h _ _)
end
set_option maxRecDepth 100000 in
set_option maxHeartbeats 8000000 in
theorem du_lacks {w : World} {s₀ : Shared} {mg mb : Str → Option Value} {dp un : Nat} {gd : Option (List Code)} {cn : Str} {cs : Scope} {a : Addr} {ccd : Value} {cl : List (Str × Addr)} {outer : List Env} {h₀ : Heap} {L L' : Addr} {m : Str → Option Value} {news : List (Addr × Obj)} {s : Shared} {Q : Flow → Shared → Prop} {E : Value → Shared → Prop} {b1 b2 : Addr} {v1 v2 : List Value} {one two : List Int} {oO oT : Obj} :
    (hd.heap_39 w.params).In h₀ → Top hd.view_39 (looseW hd.view_39 []) (ExcName.means s₀.heap) mg mb h₀ →
    Fr h₀ L' s.heap m → News h₀ L' s.heap news → dp + 10 < recursionLimit → un + 120 < cLine →
    (L' + 1, oO) ∈ news → oO.data = .cell (some (.ref b1)) → (L' + 1 + 1, oT) ∈ news → oT.data = .cell (some (.ref b2)) → (b1, W.listOf v1.toArray 0) ∈ news → (b2, W.listOf v2.toArray 0) ∈ news → IntsAre v1 one → IntsAre v2 two → one.length ≤ 20 → two.length ≤ 20 →
    (∀ h' tk' D ys, IntsAre ys (lacksF two one) → Fr h₀ L' h' (fun z => if z = Str.ofString "lacks" then some (.ref D) else m z) → News h₀ L' h' ((D, LCg.lst ys) :: news) → (∀ p ∈ news, p.1 ≠ D) → Q .next { s with heap := h', toks := tk' }) →
    wpAny (model PySem.Challenge.rw_rt0029_01.row.prog w) ((ktrTop dp un gd cn cs L a ccd cl outer).deeper (envOfC (Str.ofString "_law_due") duScope L' 177 (.ref 176))) (exec (nthS duBody 3) (envOfC (Str.ofString "_law_due") duScope L' 177 (.ref 176))) Q E s := by
  k_fill
  intro X T F N hd hu hO hOd hT hTd hb1 hb2 hI1 hI2 hz1 hz2 hret
  (conv in (occs := *) duScope => all_goals whnf)
  (conv in (nthS _ _) => whnf)
  k_dflt (refine Assign_CompT_rg (_F₀ := by k_asm) (by rfl) (by with_unfolding_all rfl) (by with_unfolding_all rfl) (by decide) (by rfl) (by decide) (by rfl) (by rfl) (by rfl) ?_)
  repeat' ((fail_if_success (with_reducible show wpAny _ _ (call (Value.builtin "len") _ _) _ _ _)); first | (k_unfold; (try dsimp only)) | (k_end; wrow_close) | walk1 | (dsimp only; walk1) | (dsimp only; k_unfold; (try dsimp only)) | (leave1; try dsimp only) | fail "no step")
  (with_unfolding_all refine' len_in N hb1 hI1 (by omega) ?_)
  intro tn kn
  repeat' ((fail_if_success (with_reducible show RgSrc _ _ _ _ _ _ _ _ _ _ _ _ _ _ _)); first | (k_unfold; (try dsimp only)) | (k_end; wrow_close) | walk1 | (dsimp only; walk1) | (dsimp only; k_unfold; (try dsimp only)) | (leave1; try dsimp only) | fail "no step")
  (rename Fr h₀ _ _ _ => F3)
  (rename News h₀ _ _ _ => N3)
  (rename IsRange _ _ _ _ _ _ _ _ => hRg)
  refine ⟨_, _, _, _, _, _, _, one.length, news, rfl, rfl, F3, N3, hRg, small_dn hz1, size_down _, by rw [sizeLine_eq]; omega, fun g9 => ?_⟩
  clear F3 N3 hRg
  refine restT_ind (fun i ys => IntsAre ys (lacksF two (one.drop (one.length - i)))) (by rw [Nat.sub_zero, List.drop_length]; exact IntsAre.nil) ?_ ?_
  · intro ys hinv
    rw [Nat.sub_self, List.drop_zero] at hinv
    (try unfold LCg.FinA)
    intro D9 h9 tk9 F9 N9 o9
    exact hret h9 tk9 D9 ys hinv F9 N9 (off1_all o9)
  · intro k i ys hi hinv ih
    (with_unfolding_all refine LCt.CompRestT.succ ?_)
    intro v' I' oI' C' oC' D' m' h' tk' E' hv' hC' hx' F' N' off' ne'
    obtain ⟨t9, hv9⟩ := hv'
    have hj : ((one.length : Int) - 1 + (i : Int) * -1) = ((one.length - 1 - i : Nat) : Int) := by omega
    rw [hj] at hv9
    obtain ⟨j, hjd⟩ : ∃ j, one.length - 1 - i = j := ⟨_, rfl⟩
    rw [hjd] at hv9
    have hjl : j < one.length := by omega
    subst hv9
    obtain ⟨tj, htj⟩ := hI1.get j one[j] (List.getElem?_eq_getElem hjl)
    have hO2 : (L' + 1, oO) ∈ (I', oI') :: (C', oC') :: (D', LCg.lst ys) :: news := .tail _ (.tail _ (.tail _ hO))
    have hT2 : (L' + 1 + 1, oT) ∈ (I', oI') :: (C', oC') :: (D', LCg.lst ys) :: news := .tail _ (.tail _ (.tail _ hT))
    have hb3 : (b1, W.listOf v1.toArray 0) ∈ (I', oI') :: (C', oC') :: (D', LCg.lst ys) :: news := .tail _ (.tail _ (.tail _ hb1))
    have hb4 : (b2, W.listOf v2.toArray 0) ∈ (I', oI') :: (C', oC') :: (D', LCg.lst ys) :: news := .tail _ (.tail _ (.tail _ hb2))
    repeat' ((fail_if_success (with_reducible show LCt.CompRestT _ _ _ _ _ _ _ _ _ _ _ _ _ _ _ _ _ _ _ _)); (fail_if_success (with_reducible show LCg.CompEnd _ _ _ _ _ _ _ _ _ _ _ _ _ _)); (fail_if_success (with_reducible show wpAny _ _ (subscriptTail _ _ _ _) _ _ _)); first | (k_unfold; (try dsimp only)) | (k_end; wrow_close) | walk1 | (dsimp only; walk1) | (dsimp only; k_unfold; (try dsimp only)) | (leave1; try dsimp only) | fail "no step")
    (with_unfolding_all refine' slice_from (s := ⟨h', _, _, _, _⟩) (vs := v1) (k := j + 1) F' N' ⟨_, (N' _ hb3).1, rfl, _, rfl⟩ (by rw [hI1.length]; omega) ?_ ?hs)
    (case hs => with_unfolding_all rfl)
    intro d1 h1 F1 N1 l1
    have hO3 := List.mem_cons_of_mem (d1, W.listOf (v1.drop (j + 1)).toArray 0) hO2
    have hT3 := List.mem_cons_of_mem (d1, W.listOf (v1.drop (j + 1)).toArray 0) hT2
    (with_unfolding_all refine' kl_method N1 (.head _) PySem.F.slot_list_count PySem.F.type_list_count ?_)
    (try dsimp only)
    repeat' ((fail_if_success (with_reducible show LCt.CompRestT _ _ _ _ _ _ _ _ _ _ _ _ _ _ _ _ _ _ _ _)); (fail_if_success (with_reducible show LCg.CompEnd _ _ _ _ _ _ _ _ _ _ _ _ _ _)); (fail_if_success (with_reducible show wpAny _ _ (subscriptTail _ _ _ _) _ _ _)); (fail_if_success (with_reducible show wpAny _ _ (call (Value.builtin "list.count") _ _) _ _ _)); (fail_if_success (with_reducible show wpAny _ _ (getMethod _ _ _) _ _ _)); first | (k_unfold; (try dsimp only)) | (k_end; wrow_close) | walk1 | (dsimp only; walk1) | (dsimp only; k_unfold; (try dsimp only)) | (leave1; try dsimp only) | fail "no step")
    (with_unfolding_all refine' item_in (vs := v1) (k := j) N1 (.tail _ hb3) (by omega) htj ?_)
    repeat' ((fail_if_success (with_reducible show LCt.CompRestT _ _ _ _ _ _ _ _ _ _ _ _ _ _ _ _ _ _ _ _)); (fail_if_success (with_reducible show LCg.CompEnd _ _ _ _ _ _ _ _ _ _ _ _ _ _)); (fail_if_success (with_reducible show wpAny _ _ (subscriptTail _ _ _ _) _ _ _)); (fail_if_success (with_reducible show wpAny _ _ (call (Value.builtin "list.count") _ _) _ _ _)); (fail_if_success (with_reducible show wpAny _ _ (getMethod _ _ _) _ _ _)); first | (k_unfold; (try dsimp only)) | (k_end; wrow_close) | walk1 | (dsimp only; walk1) | (dsimp only; k_unfold; (try dsimp only)) | (leave1; try dsimp only) | fail "no step")
    (with_unfolding_all refine' count_in (ns := one.drop (j + 1)) N1 (.head _) (hI1.drop (j + 1)) ?_)
    intro tc kc
    repeat' ((fail_if_success (with_reducible show LCt.CompRestT _ _ _ _ _ _ _ _ _ _ _ _ _ _ _ _ _ _ _ _)); (fail_if_success (with_reducible show LCg.CompEnd _ _ _ _ _ _ _ _ _ _ _ _ _ _)); (fail_if_success (with_reducible show wpAny _ _ (subscriptTail _ _ _ _) _ _ _)); (fail_if_success (with_reducible show wpAny _ _ (call (Value.builtin "list.count") _ _) _ _ _)); (fail_if_success (with_reducible show wpAny _ _ (getMethod _ _ _) _ _ _)); first | (k_unfold; (try dsimp only)) | (k_end; wrow_close) | walk1 | (dsimp only; walk1) | (dsimp only; k_unfold; (try dsimp only)) | (leave1; try dsimp only) | fail "no step")
    (with_unfolding_all refine' kl_method N1 (.tail _ hb4) PySem.F.slot_list_count PySem.F.type_list_count ?_)
    (try dsimp only)
    repeat' ((fail_if_success (with_reducible show LCt.CompRestT _ _ _ _ _ _ _ _ _ _ _ _ _ _ _ _ _ _ _ _)); (fail_if_success (with_reducible show LCg.CompEnd _ _ _ _ _ _ _ _ _ _ _ _ _ _)); (fail_if_success (with_reducible show wpAny _ _ (subscriptTail _ _ _ _) _ _ _)); (fail_if_success (with_reducible show wpAny _ _ (call (Value.builtin "list.count") _ _) _ _ _)); (fail_if_success (with_reducible show wpAny _ _ (getMethod _ _ _) _ _ _)); first | (k_unfold; (try dsimp only)) | (k_end; wrow_close) | walk1 | (dsimp only; walk1) | (dsimp only; k_unfold; (try dsimp only)) | (leave1; try dsimp only) | fail "no step")
    (with_unfolding_all refine' item_in (vs := v1) (k := j) N1 (.tail _ hb3) (by omega) htj ?_)
    repeat' ((fail_if_success (with_reducible show LCt.CompRestT _ _ _ _ _ _ _ _ _ _ _ _ _ _ _ _ _ _ _ _)); (fail_if_success (with_reducible show LCg.CompEnd _ _ _ _ _ _ _ _ _ _ _ _ _ _)); (fail_if_success (with_reducible show wpAny _ _ (subscriptTail _ _ _ _) _ _ _)); (fail_if_success (with_reducible show wpAny _ _ (call (Value.builtin "list.count") _ _) _ _ _)); (fail_if_success (with_reducible show wpAny _ _ (getMethod _ _ _) _ _ _)); first | (k_unfold; (try dsimp only)) | (k_end; wrow_close) | walk1 | (dsimp only; walk1) | (dsimp only; k_unfold; (try dsimp only)) | (leave1; try dsimp only) | fail "no step")
    (with_unfolding_all refine' count_in (ns := two) N1 (.tail _ hb4) hI2 ?_)
    intro tc2 kc2
    repeat' ((fail_if_success (with_reducible show LCt.CompRestT _ _ _ _ _ _ _ _ _ _ _ _ _ _ _ _ _ _ _ _)); (fail_if_success (with_reducible show LCg.CompEnd _ _ _ _ _ _ _ _ _ _ _ _ _ _)); (fail_if_success (with_reducible show wpAny _ _ (subscriptTail _ _ _ _) _ _ _)); (fail_if_success (with_reducible show wpAny _ _ (call (Value.builtin "list.count") _ _) _ _ _)); (fail_if_success (with_reducible show wpAny _ _ (getMethod _ _ _) _ _ _)); (fail_if_success (with_reducible show LCg.CompEnd _ _ _ _ _ _ _ _ _ _ _ _ _ _)); first | (k_unfold; (try dsimp only)) | (k_end; wrow_close) | walk1 | (dsimp only; walk1) | (dsimp only; k_unfold; (try dsimp only)) | (leave1; try dsimp only) | fail "no step")
    have e1 : one.length - (i + 1) = j := by omega
    have e2 : one.length - i = j + 1 := by omega
    have e3 : one.drop j = one[j] :: one.drop (j + 1) := List.drop_eq_getElem_cons hjl
    rw [e2] at hinv
    rw [e1, e3] at ih
    · (with_unfolding_all refine' item_in (vs := v1) (k := j) N1 (.tail _ hb3) (by omega) htj ?_)
      refine LCg.CompEnd.intro F1 N1 news (fun p hp => .tail _ hp) off' trivial (ih _ ?_)
      rw [lacksF, if_pos (by omega)]
      exact hinv.append (.cons _ _ .nil)
    · have e1 : one.length - (i + 1) = j := by omega
      have e2 : one.length - i = j + 1 := by omega
      have e3 : one.drop j = one[j] :: one.drop (j + 1) := List.drop_eq_getElem_cons hjl
      rw [e2] at hinv
      rw [e1, e3] at ih
      refine LCg.CompEnd.intro F1 N1 news (fun p hp => .tail _ hp) off' trivial (ih _ ?_)
      rw [lacksF, if_neg (by omega), List.append_nil]
      exact hinv
end Mine
end

section
open PySem PySem.W PyProof.Rows PySem.Calls PySem.Spec
namespace Mine
theorem parseGo_app : ∀ (r x : List Int) (v b w : Int) (t : List Int), parseGo v b r = some (w, t) → parseGo v b (r ++ x) = some (w, t ++ x)
  | [], x, v, b, w, t, h => by
    unfold parseGo at h
    split at h
    · rename_i hb
      simp only [Option.some.injEq, Prod.mk.injEq] at h
      obtain ⟨rfl, rfl⟩ := h
      rw [parseGo_lt hb]
    · cases h
  | c :: r, x, v, b, w, t, h => by
    unfold parseGo at h
    split at h
    · rename_i hb
      simp only [Option.some.injEq, Prod.mk.injEq] at h
      obtain ⟨rfl, rfl⟩ := h
      rw [parseGo_lt hb]
    · rename_i hb
      rw [List.cons_append]
      unfold parseGo
      rw [if_neg hb]
      exact parseGo_app r x _ c w t h
theorem parse1_app {os x r : List Int} {v : Int} (h : parse1 os = some (v, r)) : parse1 (os ++ x) = some (v, r ++ x) := by
  cases os with
  | nil => cases h
  | cons b os => exact parseGo_app os x _ b v r h
theorem parse1_oct {n : Int} (h0 : 0 ≤ n) (h1 : n < 300000) (x : List Int) : parse1 (oct1 n ++ x) = some (n, x) := by
  unfold oct1
  split
  · show parseGo (n % 64 % 64) (n % 64) x = _
    rw [parseGo_lt (by omega)]
    congr 2
    omega
  · split
    · show parseGo ((64 + n / 64 % 64) % 64) (64 + n / 64 % 64) (n % 64 :: x) = _
      rw [parseGo, if_neg (by omega), parseGo_lt (by omega)]
      congr 2
      omega
    · split
      · show parseGo ((64 + n / 4096 % 64) % 64) (64 + n / 4096 % 64) ((64 + n / 64 % 64) :: n % 64 :: x) = _
        rw [parseGo, if_neg (by omega), parseGo, if_neg (by omega), parseGo_lt (by omega)]
        congr 2
        omega
      · show parseGo ((64 + n / 262144 % 64) % 64) (64 + n / 262144 % 64) ((64 + n / 4096 % 64) :: (64 + n / 64 % 64) :: n % 64 :: x) = _
        rw [parseGo, if_neg (by omega), parseGo, if_neg (by omega), parseGo, if_neg (by omega), parseGo_lt (by omega)]
        congr 2
        omega
theorem octs_cons (n : Int) (r : List Int) : octs (n :: r) = oct1 n ++ octs r := rfl
theorem octs_app (a b : List Int) : octs (a ++ b) = octs a ++ octs b := by simp [octs]
/-- what is read of numbers laid one behind the other, and something behind them -/
theorem read_app : ∀ (c tail ms : List Int), NumsOk c → ReadRel (octs c ++ tail) ms → ∃ ms', ms = c ++ ms' ∧ ReadRel tail ms'
  | [], tail, ms, _, h => ⟨ms, rfl, h⟩
  | n :: c, tail, ms, hc, h => by
    have hn := hc n (.head _)
    rw [octs_cons, List.append_assoc] at h
    have hp := parse1_oct hn.1 hn.2 (octs c ++ tail)
    cases h with
    | stop h => rw [hp] at h; cases h
    | step h h2 =>
      rw [hp] at h
      simp only [Option.some.injEq, Prod.mk.injEq] at h
      obtain ⟨rfl, rfl⟩ := h
      obtain ⟨ms', e, h3⟩ := read_app c tail _ (fun m hm => hc m (.tail _ hm)) h2
      exact ⟨ms', by rw [e]; rfl, h3⟩
theorem read_none {os ms : List Int} (h : parse1 os = none) (r : ReadRel os ms) : ms = [] := by
  cases r with
  | stop => rfl
  | step h2 => rw [h] at h2; cases h2
theorem read_octs {c ms : List Int} (hc : NumsOk c) (h : ReadRel (octs c) ms) : ms = c := by
  rw [← List.append_nil (octs c)] at h
  obtain ⟨ms', e, h2⟩ := read_app c [] ms hc h
  rw [e, read_none rfl h2, List.append_nil]
theorem octs_prefix {a b : List Int} (h : a <+: b) : octs a <+: octs b := by
  obtain ⟨t, rfl⟩ := h
  exact ⟨octs t, (octs_app a t).symm⟩
/-- of the octets that rows have in common the numbers are read that they have in common -/
theorem read_comm {rows : List (List Int)} {ms : List Int} (hne : rows ≠ []) (hok : ∀ r ∈ rows, NumsOk r) (h : ReadRel (comm (rows.map octs)) ms) : ms = comm rows := by
  have hne' : rows.map octs ≠ [] := by simpa using hne
  have hco := comm_is hne'
  have hc := comm_is hne
  have hpre : octs (comm rows) <+: comm (rows.map octs) := comm_max _ _ hne' fun o ho => by
    obtain ⟨r, hr, rfl⟩ := List.mem_map.mp ho
    exact octs_prefix (hc.1 r hr)
  obtain ⟨tail, ht⟩ := hpre
  rw [← ht] at h
  obtain ⟨r0, rs, e0⟩ := List.exists_cons_of_ne_nil hne
  have hcok : NumsOk (comm rows) := fun n hn => hok r0 (by rw [e0]; exact .head _) n ((hc.1 r0 (by rw [e0]; exact .head _)).subset hn)
  obtain ⟨ms', e, h2⟩ := read_app _ tail ms hcok h
  have hnone : parse1 tail = none := by
    cases hp : parse1 tail with
    | none => rfl
    | some vr =>
      obtain ⟨v, q⟩ := vr
      exfalso
      refine hc.2 v fun r hr => ?_
      obtain ⟨d, hd⟩ := hc.1 r hr
      have h3 := hco.1 (octs r) (List.mem_map_of_mem hr)
      rw [← ht, ← hd, octs_app] at h3
      obtain ⟨x, hx⟩ := (List.prefix_append_right_inj (octs (comm rows))).mp h3
      have h4 := parse1_app (x := x) hp
      rw [hx] at h4
      cases d with
      | nil => cases h4
      | cons n d =>
        have hn := hok r hr n (by rw [← hd]; simp)
        rw [octs_cons, parse1_oct hn.1 hn.2] at h4
        simp only [Option.some.injEq, Prod.mk.injEq] at h4
        rw [← hd, ← h4.1]
        exact ⟨d, by simp⟩
  rw [e, read_none hnone h2, List.append_nil]

/-- of a row's numbers those that have had their number of like ones ahead -/
def keepF (c : Int → Nat) : List Int → List Int → List Int
  | _, [] => []
  | pre, t :: ts => (if c t ≤ pre.count t then [t] else []) ++ keepF c (pre ++ [t]) ts
theorem keep_congr (c c' : Int → Nat) : ∀ (ts pre pre' : List Int), (∀ t n, c t ≤ pre.count t + n ↔ c' t ≤ pre'.count t + n) → keepF c pre ts = keepF c' pre' ts
  | [], _, _, _ => rfl
  | t :: ts, pre, pre', h => by
    rw [keepF, keepF]
    have h0 := h t 0
    simp only [Nat.add_zero] at h0
    rw [keep_congr c c' ts (pre ++ [t]) (pre' ++ [t]) fun u n => by
      rw [List.count_append, List.count_append, Nat.add_assoc, Nat.add_assoc]
      exact h u _]
    simp only [h0]
theorem keep_erase (x : Int) (c : Int → Nat) : ∀ (ts pre : List Int), pre.count x = 0 → keepF (fun t => c t + if t = x then 1 else 0) pre ts = keepF c pre (ts.erase x)
  | [], _, _ => rfl
  | t :: ts, pre, h => by
    by_cases e : t = x
    · subst e
      rw [List.erase_cons_head, keepF, if_neg (by rw [h]; simp), List.nil_append]
      refine keep_congr _ _ ts _ _ fun u n => ?_
      rw [List.count_append]
      by_cases q : u = t
      · subst q; simp; omega
      · have q2 : ¬ (t == u) = true := by simpa using Ne.symm q
        rw [List.count_singleton, if_neg q2, if_neg q]
        omega
    · rw [List.erase_cons_tail (by simpa using e), keepF, keepF]
      have h2 : (pre ++ [t]).count x = 0 := by
        rw [List.count_append, h, List.count_singleton, if_neg (by simpa using e)]
      rw [keep_erase x c ts (pre ++ [t]) h2, if_neg e]
      rfl
theorem uld_keep : ∀ (zs miss act : List Int), uldGo zs miss act = (miss ++ keepF act.count [] zs, keepF zs.count [] act)
  | [], miss, act => by
    have H : ∀ (ts pre : List Int), keepF (fun _ => 0) pre ts = ts := by
      intro ts
      induction ts with
      | nil => intro _; rfl
      | cons t ts ih => intro pre; rw [keepF, if_pos (Nat.zero_le _), ih]; rfl
    rw [uldGo]
    show (miss, act) = (miss ++ [], keepF (fun t => ([] : List Int).count t) [] act)
    rw [List.append_nil]
    congr 1
    exact (H act []).symm
  | x :: r, miss, act => by
    have e1 : keepF (x :: r).count [] act = keepF r.count [] (act.erase x) := by
      rw [← keep_erase x r.count act [] rfl]
      refine keep_congr _ _ act [] [] fun t n => ?_
      rw [List.count_cons]
      by_cases q : t = x
      · subst q; simp
      · have q2 : ¬ (x == t) = true := by simpa using Ne.symm q
        rw [if_neg q2, if_neg q]
    rw [uldGo]
    by_cases h : x ∈ act
    · rw [if_pos h, uld_keep r miss (act.erase x), e1]
      congr 2
      have hpos : 0 < act.count x := List.count_pos_iff.mpr h
      rw [keepF, if_neg (by show ¬ act.count x ≤ 0; omega), List.nil_append]
      refine keep_congr _ _ r _ _ fun t n => ?_
      rw [List.count_erase]
      by_cases q : t = x
      · subst q; simp; omega
      · have q2 : ¬ (x == t) = true := by simpa using Ne.symm q
        rw [if_neg q2, List.nil_append, List.count_singleton, if_neg q2]
        rfl
    · have hz : act.count x = 0 := List.count_eq_zero.mpr h
      rw [if_neg h, uld_keep r (miss ++ [x]) act, e1, List.erase_of_not_mem h]
      congr 1
      rw [keepF, if_pos (by rw [hz]; exact Nat.zero_le _), List.append_assoc]
      congr 2
      refine keep_congr _ _ r _ _ fun t n => ?_
      rw [List.nil_append, List.count_singleton]
      by_cases q : t = x
      · subst q; simp [hz]
      · have q2 : ¬ (x == t) = true := by simpa using Ne.symm q
        rw [if_neg q2]
        rfl
theorem keep_snoc (c : Int → Nat) : ∀ (l pre : List Int) (t : Int), keepF c pre (l ++ [t]) = keepF c pre l ++ if c t ≤ (pre ++ l).count t then [t] else []
  | [], pre, t => by
    show (if c t ≤ pre.count t then [t] else []) ++ [] = [] ++ if c t ≤ (pre ++ []).count t then [t] else []
    rw [List.append_nil, List.nil_append, List.append_nil]
  | x :: l, pre, t => by
    rw [List.cons_append, keepF, keepF, keep_snoc c l (pre ++ [x]) t, List.append_assoc, List.append_assoc]
    rfl
theorem lacks_keep (xs : List Int) : ∀ l : List Int, lacksF xs l = keepF xs.count [] l.reverse
  | [] => rfl
  | t :: l => by
    rw [lacksF, List.reverse_cons, keep_snoc, lacks_keep xs l, List.nil_append, List.count_reverse]
theorem uld_lacks (xs ys : List Int) : uldGo xs.reverse [] ys = (lacksF ys xs, lacksF xs ys.reverse) := by
  rw [uld_keep, List.nil_append, lacks_keep, lacks_keep, List.reverse_reverse]
  congr 1
  exact keep_congr _ _ ys [] [] fun t n => by rw [List.count_reverse]
end Mine
end

section
namespace Mine
theorem rst_To2 : True := by w_top off; trivial
end Mine
open PySem PySem.W PyProof.Rows PySem.Calls PySem.Spec
namespace Mine
local macro_rules | `(tactic| k_all) => `(tactic| assumption)
/-- the rows that are named -/
def sel (rows : List (List Int)) (ks : List Nat) : List (List Int) := ks.map fun k => rows[k]?.getD []
theorem sel_mem {rows : List (List Int)} {ks : List Nat} (hk : ∀ k ∈ ks, k < rows.length) : ∀ r ∈ sel rows ks, r ∈ rows := fun r hr => by
  obtain ⟨k, hk', rfl⟩ := List.mem_map.mp hr
  rw [List.getElem?_eq_getElem (hk k hk')]
  exact List.getElem_mem _
/-- what is named -/
structure Picks (news : List (Addr × Obj)) (l : Addr) (rows : List (List Int)) (us : List Value) (ks : List Nat) : Prop where
  inn : ∃ n, (l, W.listOf us.toArray n) ∈ news
  isI : IntsAre us (ks.map fun k : Nat => (k : Int))
  ne : ks ≠ []
  lt : ∀ k ∈ ks, k < rows.length
  le : ks.length ≤ 5
theorem Picks.mono {news news' : List (Addr × Obj)} {l : Addr} {rows : List (List Int)} {us : List Value} {ks : List Nat} (h : ∀ p ∈ news, p ∈ news') (x : Picks news l rows us ks) : Picks news' l rows us ks :=
  ⟨by obtain ⟨n, hn⟩ := x.inn; exact ⟨n, h _ hn⟩, x.isI, x.ne, x.lt, x.le⟩
set_option maxRecDepth 100000 in
set_option maxHeartbeats 8000000 in
theorem to_path {w : World} {s₀ : Shared} {mg mb : Str → Option Value} {dp un : Nat} {gd : Option (List Code)} {cn : Str} {cs : Scope} {a : Addr} {ccd : Value} {cl : List (Str × Addr)} {outer : List Env} {h₀ : Heap} {L L' : Addr} {m : Str → Option Value} {news : List (Addr × Obj)} {s : Shared} {Q : Flow → Shared → Prop} {E : Value → Shared → Prop} {l D : Addr} {us ys : List Value} {ks : List Nat} {rows : List (List Int)} {oP : Obj} :
    (hd.heap_39 w.params).In h₀ → Top hd.view_39 (looseW hd.view_39 []) (ExcName.means s₀.heap) mg mb h₀ →
    Fr h₀ L' s.heap m → News h₀ L' s.heap news → dp + 14 < recursionLimit → un + 160 < cLine →
    m (Str.ofString "some") = some (.ref l) → Picks news l rows us ks → (L' + 1, oP) ∈ news → oP.data = .cell (some (.ref D)) → (D, LCg.lst ys) ∈ news → StrsAre ys (rows.map fun r => pathOf (octs r)) → rows.length ≤ 10 → (∀ r ∈ rows, NumsOk r) → (∀ r ∈ rows, r.length ≤ 20) →
    (∀ h' tk' t, Fr h₀ L' h' (fun z => if z = Str.ofString "path" then some (.str (pathOf (comm ((sel rows ks).map octs))) t) else m z) → News h₀ L' h' news → Q .next { s with heap := h', toks := tk' }) →
    wpAny (model PySem.Challenge.rw_rt0029_01.row.prog w) ((ktrTop dp un gd cn cs L a ccd cl outer).deeper (envOfC (Str.ofString "_law_told") toScope L' 167 (.ref 166))) (exec (nthS toBody 0) (envOfC (Str.ofString "_law_told") toScope L' 167 (.ref 166))) Q E s := by
  k_fill
  intro X T F N hd hu hm1 hpk hP hPd hD hY hrl hok hrb hret
  obtain ⟨n0, hln⟩ := hpk.inn
  have hI := hpk.isI
  have hkl := hpk.le
  have hlen : us.length = ks.length := by rw [hI.length, List.length_map]
  (conv in (occs := *) toScope => all_goals whnf)
  (conv in (nthS _ _) => whnf)
  replace F := ksw_fr (stored := []) (m₀ := m) (ps := [(Str.ofString "some", .ref l)]) (List.forall_mem_singleton.mpr hm1) (fun _ _ _ => rfl) F
  dsimp only [kstB] at F
  repeat' ((fail_if_success (with_reducible show wpAny _ _ (eval (Expr.ListComp _ _ _ _) _) _ _ _)); first | (k_unfold; (try dsimp only)) | (k_end; wrow_close) | walk1 | (dsimp only; walk1) | (dsimp only; k_unfold; (try dsimp only)) | (leave1; try dsimp only) | fail "no step")
  k_dflt (refine LCg.ListComp_U (F₀ := by k_asm) (by with_unfolding_all rfl) (by decide) (by rfl) (by decide) (by rfl) ?_)
  repeat' ((fail_if_success (with_reducible show LCg.CompSrc _ _ _ _ _ _ _ _ _ _ _ _ _ _)); first | (k_unfold; (try dsimp only)) | (k_end; wrow_close) | walk1 | (dsimp only; walk1) | (dsimp only; k_unfold; (try dsimp only)) | (leave1; try dsimp only) | fail "no step")
  refine src_comp rfl (by k_asm) (by k_asm) (src_in hln) (by rw [sizeLine_eq, List.size_toArray, hlen]; omega) fun g9 => ?_
  refine rest_ind (fun i zs => StrsAre zs (((ks.take i).map fun k => pathOf (octs (rows[k]?.getD []))))) (by exact .nil) ?_ ?_
  · intro zs hzv
    rw [List.size_toArray, hlen, List.take_length] at hzv
    (try unfold LCg.FinE)
    intro Dn hn tkn Fn Nn o1n
    repeat' ((fail_if_success (with_reducible show wpAny _ _ (call (Value.ref 134) _ _) _ _ _)); first | (k_unfold; (try dsimp only)) | (k_end; wrow_close) | walk1 | (dsimp only; walk1) | (dsimp only; k_unfold; (try dsimp only)) | (leave1; try dsimp only) | fail "no step")
    have hso : ∀ o ∈ (sel rows ks).map octs, Octs o ∧ o.length ≤ 80 := fun o ho => by
      obtain ⟨r, hr, rfl⟩ := List.mem_map.mp ho
      have hr' := sel_mem hpk.lt r hr
      have h1 := octs_len r
      have h2 := hrb r hr'
      exact ⟨octs_ok (hok r hr'), by omega⟩
    (with_unfolding_all refine' commonpath_spec (oss := (sel rows ks).map octs) X T Fn Nn ?hk ?hd ?hu ⟨_, (Nn _ (.head _)).1, rfl, _, rfl⟩ ?hV ?hne ?hol (fun o ho => (hso o ho).1) (fun o ho => (hso o ho).2) ?_)
    (case hk => exact rfl)
    (case hd => ktr_room)
    (case hu => ktr_units)
    (case hV =>
      have e : ((sel rows ks).map octs).map pathOf = ks.map fun k => pathOf (octs (rows[k]?.getD [])) := by
        unfold sel; rw [List.map_map, List.map_map]; rfl
      rw [e]; exact hzv)
    (case hne => unfold sel; simpa using hpk.ne)
    (case hol => unfold sel; rw [List.length_map, List.length_map]; omega)
    clear Fn Nn
    intro h7 tk7 t7 F7 N7 S7
    repeat' (first | (k_unfold; (try dsimp only)) | (k_end; wrow_close) | walk1 | (dsimp only; walk1) | (dsimp only; k_unfold; (try dsimp only)) | (leave1; try dsimp only) | fail "no step")
    (rename Fr h₀ _ _ _ => F8)
    (rename News h₀ _ _ _ => N8)
    refine hret _ _ t7 (fr_same F8 fun z => ?_) (drop_news N8 fun p hp => .tail _ hp)
    (try dsimp only)
    split
    · rfl
    · split
      · rename_i e; rw [e, hm1]
      · rfl
  · intro k9 i zs hi hzv ihz
    (with_unfolding_all refine LCg.CompRest.succ ?_)
    intro v' I' oI' C' oC' D' m' h' tk' E' hv' hC' hx' F' N' off' ne'
    have hv8 := hv'
    rw [List.getElem?_toArray] at hv8
    obtain ⟨b, tb, rfl, hb⟩ := ints_item hI hv8
    have hil : i < ks.length := by rw [List.size_toArray, hlen] at hi; exact hi
    rw [List.getElem?_map, List.getElem?_eq_getElem hil] at hb
    obtain rfl : b = (ks[i] : Int) := (Option.some.inj hb).symm
    have hlt := hpk.lt ks[i] (List.getElem_mem hil)
    have hP2 : (L' + 1, oP) ∈ (I', oI') :: (C', oC') :: (D', LCg.lst zs) :: news := .tail _ (.tail _ (.tail _ hP))
    have hD2 : (D, LCg.lst ys) ∈ (I', oI') :: (C', oC') :: (D', LCg.lst zs) :: news := .tail _ (.tail _ (.tail _ hD))
    obtain ⟨ty, hty⟩ := hY.get ks[i] (pathOf (octs rows[ks[i]])) (by rw [List.getElem?_map, List.getElem?_eq_getElem hlt]; rfl)
    repeat' ((fail_if_success (with_reducible show LCg.CompEnd _ _ _ _ _ _ _ _ _ _ _ _ _ _)); (fail_if_success (with_reducible show wpAny _ _ (subscriptTail _ _ _ _) _ _ _)); first | (k_unfold; (try dsimp only)) | (k_end; wrow_close) | walk1 | (dsimp only; walk1) | (dsimp only; k_unfold; (try dsimp only)) | (leave1; try dsimp only) | fail "no step")
    (with_unfolding_all refine' item_in (vs := ys) (k := ks[i]) N' hD2 (by omega) hty ?_)
    refine LCg.CompEnd.intro F' N' _ (fun p hp => hp) off' (src_in hln) (ihz _ ?_)
    rw [List.take_add_one, List.getElem?_eq_getElem hil, List.map_append]
    have e : rows[ks[i]]?.getD [] = rows[ks[i]] := by rw [List.getElem?_eq_getElem hlt]; rfl
    refine StrsAre.append' hzv ?_
    show StrsAre _ [pathOf (octs (rows[ks[i]]?.getD []))]
    rw [e]
    exact .cons _ _ .nil
end Mine
end

section
namespace Mine
theorem rst_To3 : True := by w_top off; trivial
end Mine
local macro_rules | `(tactic| walk_at "mine pad") => `(tactic| fail "pad")
open PySem PySem.W PyProof.Rows PySem.Calls PySem.Spec
namespace Mine
local macro_rules | `(tactic| k_all) => `(tactic| assumption)
theorem frs_ne {h₀ h : Heap} {L : Addr} {news fr : List (Addr × Obj)} {l : List Env} (N : News h₀ L h news) (Fs : TI.Frs l fr) (hsub : ∀ p ∈ fr, p ∈ news) {a : Addr} {o : Obj} (ha : (a, o) ∈ news) (hd : TI.notDict (a, o) = true) : ∀ p ∈ fr, p.1 ≠ a := fun p hp =>
  frs_off (as := [a]) N Fs hsub (fun b hb => ⟨o, by rw [List.mem_singleton.mp hb]; exact ⟨ha, hd⟩⟩) p hp a (.head _)
theorem cell_nd {a : Addr} {o : Obj} {x : Option Value} (h : o.data = .cell x) : TI.notDict (a, o) = true := by
  show (match o.data with | .dict _ _ => false | _ => true) = true
  rw [h]
/-- what lies apart from the frames -/
def ApF (news fr : List (Addr × Obj)) : Prop := ∀ p ∈ news, ∀ x ∈ fr, x.1 ≠ p.1
theorem ApF.cons {p : Addr × Obj} {news fr : List (Addr × Obj)} (h : ∀ x ∈ fr, x.1 ≠ p.1) (r : ApF news fr) : ApF (p :: news) fr := List.forall_mem_cons.mpr ⟨h, r⟩
theorem ApF.up {news fr fr' : List (Addr × Obj)} (SU : TI.SameUp fr fr') (r : ApF news fr) : ApF news fr' := fun p hp x hx => by
  obtain ⟨y, hy, e⟩ := SU.fwd x hx
  rw [e]; exact r p hp y hy
theorem ApF.app {new news fr : List (Addr × Obj)} (a : ApF new fr) (b : ApF news fr) : ApF (new ++ news) fr := fun p hp => (List.mem_append.mp hp).elim (a p) (b p)
theorem all_cons {p : Addr × Obj} {l : List (Addr × Obj)} (h : TI.notDict p = true) (hl : l.all TI.notDict = true) : (p :: l).all TI.notDict = true := by
  rw [List.all_cons, h, hl]; rfl
set_option maxRecDepth 100000 in
set_option maxHeartbeats 8000000 in
theorem to_first {w : World} {s₀ : Shared} {mg mb : Str → Option Value} {dp un : Nat} {gd : Option (List Code)} {cn : Str} {cs : Scope} {a : Addr} {ccd : Value} {cl : List (Str × Addr)} {outer : List Env} {h₀ : Heap} {L L' : Addr} {m : Str → Option Value} {news : List (Addr × Obj)} {s : Shared} {Q : Flow → Shared → Prop} {E : Value → Shared → Prop} {rows : List (List Int)} {tP : Tok} {fr : List (Addr × Obj)} {oF : Obj} {xF : Option Value} :
    (hd.heap_39 w.params).In h₀ → Top hd.view_39 (looseW hd.view_39 []) (ExcName.means s₀.heap) mg mb h₀ →
    Fr h₀ L' s.heap m → News h₀ L' s.heap ((L' + 1 + 1, oF) :: (news ++ fr)) → dp + 14 < recursionLimit → un + 160 < cLine →
    cs.kind = .function → TI.Frs (envX cn cs L a ccd cl :: outer) fr → ApF news fr → m (Str.ofString "path") = some (.str (pathOf (comm (rows.map octs))) tP) → oF.data = .cell xF → (∀ p ∈ news, p.1 ≠ L' + 1 + 1) →
    rows ≠ [] → (∀ r ∈ rows, NumsOk r) → (∀ r ∈ rows, r.length ≤ 20) →
    (∀ h' tk' f us k oF' fr', IntsAre us (comm rows) → TI.SameUp fr fr' → Fr h₀ L' h' m → News h₀ L' h' ((f, W.listOf us.toArray k) :: (L' + 1 + 1, oF') :: (news ++ fr')) → oF'.data = .cell (some (.ref f)) → (∀ p ∈ news, p.1 ≠ f) → f ≠ L' + 1 + 1 → Q .next { s with heap := h', toks := tk' }) →
    wpAny (model PySem.Challenge.rw_rt0029_01.row.prog w) ((ktrTop dp un gd cn cs L a ccd cl outer).deeper (envOfC (Str.ofString "_law_told") toScope L' 167 (.ref 166))) (exec (nthS toBody 1) (envOfC (Str.ofString "_law_told") toScope L' 167 (.ref 166))) Q E s := by
  k_fill
  intro X T F N hd hu hck Fs hnd hm1 hF off2 hne hok hrb hret
  (conv in (occs := *) toScope => all_goals whnf)
  (conv in (nthS _ _) => whnf)
  replace F := ksw_fr (stored := []) (m₀ := m) (ps := [(Str.ofString "path", .str (pathOf (comm (rows.map octs))) tP)]) (List.forall_mem_singleton.mpr hm1) (fun _ _ _ => rfl) F
  dsimp only [kstB] at F
  have hne' : rows.map octs ≠ [] := by simpa using hne
  have hoc : ∀ o ∈ rows.map octs, Octs o := fun o ho => by
    obtain ⟨r, hr, rfl⟩ := List.mem_map.mp ho
    exact octs_ok (hok r hr)
  have hco := comm_octs hne' hoc
  have hcl : (comm (rows.map octs)).length ≤ 80 := by
    obtain ⟨r, rs, e⟩ := List.exists_cons_of_ne_nil hne
    have h1 := (comm_pre (rows.map octs) (octs r) (by rw [e]; exact .head _)).length_le
    have h2 := octs_len r
    have h3 := hrb r (by rw [e]; exact .head _)
    omega
  repeat' ((fail_if_success (with_reducible show wpAny _ _ (call (Value.ref 162) _ _) _ _ _)); first | (k_unfold; (try dsimp only)) | (k_end; wrow_close) | walk1 | (dsimp only; walk1) | (dsimp only; k_unfold; (try dsimp only)) | (leave1; try dsimp only) | fail "no step")
  have Nf : News h₀ L' s.heap ([] ++ fr) := drop_news N fun p hp => .tail _ (List.mem_append_right _ hp)
  have Nr : News h₀ L' s.heap ((L' + 1 + 1, oF) :: news) := drop_news N fun p hp => by
    rcases List.mem_cons.mp hp with rfl | hp
    · exact .head _
    · exact .tail _ (List.mem_append_left _ hp)
  (with_unfolding_all refine' read_spec (frs := fr) (rest := (L' + 1 + 1, oF) :: news) X T F Nf Fs Nr (fun p hp hq => nomatch hq) (hnd.cons (frs_ne N Fs (fun p hp => .tail _ (List.mem_append_right _ hp)) (.head _) (cell_nd hF))) ?hk ?hd ?hu rfl hco hcl ?_)
  (case hk => exact rfl)
  (case hd => ktr_room)
  (case hu => ktr_units)
  clear F N Nf Nr
  intro f us k ns h2 tk2 fr' hI hrel SU F N lf
  obtain rfl := read_comm hne hok hrel
  obtain ⟨lfF, lfN⟩ := List.forall_mem_cons.mp lf
  have Fs' := Fs.up SU
  have N2 : News h₀ L' h2 ((f, W.listOf us.toArray k) :: (L' + 1 + 1, oF) :: (news ++ fr')) := drop_news N fun p hp => by
    simp only [List.mem_cons, List.mem_append, List.not_mem_nil, or_false, false_or] at hp ⊢
    rcases hp with h | h | h | h <;> simp [h]
  have off3 : ∀ p ∈ news ++ fr', p.1 ≠ L' + 1 + 1 := fun p hp => (List.mem_append.mp hp).elim (off2 p) (frs_ne N2 Fs' (fun p hp => .tail _ (.tail _ (List.mem_append_right _ hp))) (.tail _ (.head _)) (cell_nd hF) p)
  have lfF' : @Ne Nat f (L' + 1 + 1) := Ne.symm lfF
  clear N
  repeat' (first | (k_unfold; (try dsimp only)) | (k_end; wrow_close) | walk1 | (dsimp only; walk1) | (dsimp only; k_unfold; (try dsimp only)) | (leave1; try dsimp only) | fail "no step")
  (rename Fr h₀ _ _ _ => F8)
  (rename News h₀ _ _ _ => N8)
  refine hret _ _ f us k _ fr' hI SU (fr_same F8 fun z => ?_) N8 (by assumption) lfN (Ne.symm lfF)
  (try dsimp only)
  split
  · rename_i e; rw [e, hm1]
  · rfl
end Mine
end

section
namespace Mine
theorem rst_To4 : True := by w_top off; trivial
end Mine
open PySem PySem.W PyProof.Rows PySem.Calls PySem.Spec
namespace Mine
local macro_rules | `(tactic| k_all) => `(tactic| assumption)
theorem off3_of {I C D : Addr} {l : List (Addr × Obj)} (h : ∀ p ∈ l, p.1 ≠ I ∧ p.1 ≠ C ∧ p.1 ≠ D) : LCg.Off3 I C D l := by
  induction l with
  | nil => trivial
  | cons q r ih =>
    obtain ⟨h1, h2⟩ := List.forall_mem_cons.mp h
    exact ⟨h1, ih h2⟩
/-- the ledger of the callers' frames and of what is kept -/
structure Kept (news fr nn fr' : List (Addr × Obj)) : Prop where
  sub : ∀ p ∈ news, p ∈ nn
  ap : ApF nn fr'
  up : TI.SameUp fr fr'
  off : ∀ p ∈ nn, p ∈ news ∨ ∀ q ∈ news, p.1 ≠ q.1
theorem Kept.refl {news fr : List (Addr × Obj)} (h : ApF news fr) : Kept news fr news fr := ⟨fun _ h => h, h, TI.SameUp.refl _, fun _ h => .inl h⟩
theorem sameUp_off {fr fr' : List (Addr × Obj)} {P : Addr → Prop} (SU : TI.SameUp fr fr') (h : ∀ p ∈ fr, P p.1) : ∀ p ∈ fr', P p.1 := fun p hp => by
  obtain ⟨x, hx, e⟩ := SU.fwd p hp
  rw [e]; exact h x hx
set_option maxRecDepth 100000 in
set_option maxHeartbeats 8000000 in
theorem to_rests {w : World} {s₀ : Shared} {mg mb : Str → Option Value} {dp un : Nat} {gd : Option (List Code)} {cn : Str} {cs : Scope} {a : Addr} {ccd : Value} {cl : List (Str × Addr)} {outer : List Env} {h₀ : Heap} {L L' : Addr} {m : Str → Option Value} {news : List (Addr × Obj)} {s : Shared} {Q : Flow → Shared → Prop} {E : Value → Shared → Prop} {l D f : Addr} {us ys uf : List Value} {ks : List Nat} {kf : Nat} {fs : List Int} {rows : List (List Int)} {fr : List (Addr × Obj)} {oP oF : Obj} :
    (hd.heap_39 w.params).In h₀ → Top hd.view_39 (looseW hd.view_39 []) (ExcName.means s₀.heap) mg mb h₀ →
    Fr h₀ L' s.heap m → News h₀ L' s.heap (news ++ fr) → dp + 14 < recursionLimit → un + 160 < cLine →
    cs.kind = .function → TI.Frs (envX cn cs L a ccd cl :: outer) fr → ApF news fr →
    m (Str.ofString "some") = some (.ref l) → Picks news l rows us ks → (L' + 1, oP) ∈ news → oP.data = .cell (some (.ref D)) → (D, LCg.lst ys) ∈ news → StrsAre ys (rows.map fun r => pathOf (octs r)) → (L' + 1 + 1, oF) ∈ news → oF.data = .cell (some (.ref f)) → (f, W.listOf uf.toArray kf) ∈ news → IntsAre uf fs → fs.length ≤ 100 →
    rows.length ≤ 10 → (∀ r ∈ rows, NumsOk r) → (∀ r ∈ rows, r.length ≤ 20) →
    (∀ h' tk' R zs nn fr', Fr h₀ L' h' (fun z => if z = Str.ofString "rests" then some (.ref R) else m z) → News h₀ L' h' ((R, LCg.lst zs) :: (nn ++ fr')) → Kept news fr nn fr' → RowsL nn zs ((sel rows ks).map fun r => r.drop fs.length) → zs.Nodup → (∀ p ∈ news, Value.ref p.1 ∉ zs) → (∀ p ∈ nn ++ fr', p.1 ≠ R) → Q .next { s with heap := h', toks := tk' }) →
    wpAny (model PySem.Challenge.rw_rt0029_01.row.prog w) ((ktrTop dp un gd cn cs L a ccd cl outer).deeper (envOfC (Str.ofString "_law_told") toScope L' 167 (.ref 166))) (exec (nthS toBody 2) (envOfC (Str.ofString "_law_told") toScope L' 167 (.ref 166))) Q E s := by
  k_fill
  intro X T F N hd hu hck Fs hnd hm1 hpk hP hPd hD hY hF hFd hf hIf hfl hrl hok hrb hret
  obtain ⟨n0, hln⟩ := hpk.inn
  have hI := hpk.isI
  have hkl := hpk.le
  have hlen : us.length = ks.length := by rw [hI.length, List.length_map]
  (conv in (occs := *) toScope => all_goals whnf)
  (conv in (nthS _ _) => whnf)
  replace F := ksw_fr (stored := []) (m₀ := m) (ps := [(Str.ofString "some", .ref l)]) (List.forall_mem_singleton.mpr hm1) (fun _ _ _ => rfl) F
  dsimp only [kstB] at F
  k_dflt (refine LCg.Assign_ListComp_U (F₀ := by k_asm) (by rfl) (by with_unfolding_all rfl) (by with_unfolding_all rfl) (by decide) (by rfl) (by decide) (by rfl) (by rfl) (by rfl) ?_)
  repeat' ((fail_if_success (with_reducible show LCg.CompSrc _ _ _ _ _ _ _ _ _ _ _ _ _ _)); first | (k_unfold; (try dsimp only)) | (k_end; wrow_close) | walk1 | (dsimp only; walk1) | (dsimp only; k_unfold; (try dsimp only)) | (leave1; try dsimp only) | fail "no step")
  refine src_comp rfl F N (src_in (List.mem_append_left _ hln)) (by rw [sizeLine_eq, List.size_toArray, hlen]; omega) fun g9 => ?_
  refine rest_indN (fun i zs nw => ∃ nn fr', nw = nn ++ fr' ∧ Kept news fr nn fr' ∧ RowsL nn zs (((ks.take i).map fun k => rows[k]?.getD []).map fun r => r.drop fs.length) ∧ zs.Nodup ∧ ∀ p ∈ news, Value.ref p.1 ∉ zs) ⟨news, fr, rfl, Kept.refl hnd, RowsL.nil, List.nodup_nil, fun _ _ => List.not_mem_nil⟩ ?_ ?_
  · rintro zs nw ⟨nn, fr', rfl, hkp, hr, hnod, hzn⟩
    rw [List.size_toArray, hlen, List.take_length] at hr
    (try unfold LCg.FinA)
    intro Dn hn tkn Fn Nn o1n
    refine hret hn tkn Dn zs nn fr' (fr_same Fn fun z => ?_) Nn hkp hr hnod hzn (off1_all o1n)
    (try dsimp only)
    split
    · rfl
    · split
      · rename_i e; rw [e, hm1]
      · rfl
  · rintro k9 i zs nw hi ⟨nn, fr', rfl, hkp, hr, hnod, hzn⟩ ih
    have Fs' := Fs.up hkp.up
    (with_unfolding_all refine LCg.CompRest.succ ?_)
    intro v' I' oI' C' oC' D' m' h' tk' E' hv' hC' hx' F' N' off' ne'
    have hv8 := hv'
    rw [List.getElem?_toArray] at hv8
    obtain ⟨b, tb, rfl, hb⟩ := ints_item hI hv8
    have hil : i < ks.length := by rw [List.size_toArray, hlen] at hi; exact hi
    rw [List.getElem?_map, List.getElem?_eq_getElem hil] at hb
    obtain rfl : b = (ks[i] : Int) := (Option.some.inj hb).symm
    have hlt := hpk.lt ks[i] (List.getElem_mem hil)
    have erow : rows[ks[i]]?.getD [] = rows[ks[i]] := by rw [List.getElem?_eq_getElem hlt]; rfl
    have hrok := hok rows[ks[i]] (List.getElem_mem hlt)
    have hrle := hrb rows[ks[i]] (List.getElem_mem hlt)
    have up : ∀ p ∈ news, p ∈ (I', oI') :: (C', oC') :: (D', LCg.lst zs) :: (nn ++ fr') := fun p hp => .tail _ (.tail _ (.tail _ (List.mem_append_left _ (hkp.sub p hp))))
    have hP2 := up _ hP
    have hD2 := up _ hD
    have hF2 := up _ hF
    obtain ⟨ty, hty⟩ := hY.get ks[i] (pathOf (octs rows[ks[i]])) (by rw [List.getElem?_map, List.getElem?_eq_getElem hlt]; rfl)
    repeat' ((fail_if_success (with_reducible show LCg.CompEnd _ _ _ _ _ _ _ _ _ _ _ _ _ _)); (fail_if_success (with_reducible show wpAny _ _ (subscriptTail _ _ _ _) _ _ _)); first | (k_unfold; (try dsimp only)) | (k_end; wrow_close) | walk1 | (dsimp only; walk1) | (dsimp only; k_unfold; (try dsimp only)) | (leave1; try dsimp only) | fail "no step")
    (with_unfolding_all refine' item_in (vs := ys) (k := ks[i]) N' hD2 (by omega) hty ?_)
    repeat' ((fail_if_success (with_reducible show LCg.CompEnd _ _ _ _ _ _ _ _ _ _ _ _ _ _)); (fail_if_success (with_reducible show wpAny _ _ (call (Value.ref 162) _ _) _ _ _)); first | (k_unfold; (try dsimp only)) | (k_end; wrow_close) | walk1 | (dsimp only; walk1) | (dsimp only; k_unfold; (try dsimp only)) | (leave1; try dsimp only) | fail "no step")
    have om := off'.mem
    have Nf : News h₀ L' h' ([] ++ fr') := drop_news N' fun p hp => .tail _ (.tail _ (.tail _ (List.mem_append_right _ hp)))
    have Nr : News h₀ L' h' ((I', oI') :: (C', oC') :: (D', LCg.lst zs) :: nn) := drop_news N' fun p hp => by
      simp only [List.mem_cons, List.mem_append] at hp ⊢
      rcases hp with h | h | h | h <;> simp [h]
    have hro : ∀ p ∈ (I', oI') :: (C', oC') :: (D', LCg.lst zs) :: nn, ∀ x ∈ fr', x.1 ≠ p.1 :=
      List.forall_mem_cons.mpr ⟨fun x hx => (om x (List.mem_append_right _ hx)).1, List.forall_mem_cons.mpr ⟨fun x hx => (om x (List.mem_append_right _ hx)).2.1, List.forall_mem_cons.mpr ⟨fun x hx => (om x (List.mem_append_right _ hx)).2.2,
        hkp.ap⟩⟩⟩
    have hol := octs_len rows[ks[i]]
    (with_unfolding_all refine' read_spec (os := octs rows[ks[i]]) (frs := fr') (rest := (I', oI') :: (C', oC') :: (D', LCg.lst zs) :: nn) X T F' Nf Fs' Nr (fun p hp hq => nomatch hq) hro ?hk ?hd ?hu rfl (octs_ok hrok) (by omega) ?_)
    (case hk => exact rfl)
    (case hd => ktr_room)
    (case hu => ktr_units)
    clear F' N' Nf Nr
    intro r9 us9 k8 ns9 h9 tk9 fr9 hI9 hrel SU F9 N9 l9
    obtain rfl := read_octs hrok hrel
    obtain ⟨lI, lC, lD, lN⟩ : I' ≠ r9 ∧ C' ≠ r9 ∧ D' ≠ r9 ∧ ∀ p ∈ nn, p.1 ≠ r9 := by
      obtain ⟨q1, l9⟩ := List.forall_mem_cons.mp l9
      obtain ⟨q2, l9⟩ := List.forall_mem_cons.mp l9
      obtain ⟨q3, l9⟩ := List.forall_mem_cons.mp l9
      exact ⟨q1, q2, q3, l9⟩
    have N8 : News h₀ L' h9 ((r9, W.listOf us9.toArray k8) :: (I', oI') :: (C', oC') :: (D', LCg.lst zs) :: (nn ++ fr9)) := drop_news N9 fun p hp => by
      simp only [List.mem_cons, List.mem_append, List.not_mem_nil, or_false] at hp ⊢
      rcases hp with h | h | h | h | h | h <;> simp [h]
    clear N9
    have up2 : ∀ p ∈ news, p ∈ (r9, W.listOf us9.toArray k8) :: (I', oI') :: (C', oC') :: (D', LCg.lst zs) :: (nn ++ fr9) := fun p hp => .tail _ (.tail _ (.tail _ (.tail _ (List.mem_append_left _ (hkp.sub p hp)))))
    have hF3 := up2 _ hF
    have hf3 := up2 _ hf
    repeat' ((fail_if_success (with_reducible show LCg.CompEnd _ _ _ _ _ _ _ _ _ _ _ _ _ _)); (fail_if_success (with_reducible show wpAny _ _ (subscriptTail _ _ _ _) _ _ _)); (fail_if_success (with_reducible show wpAny _ _ (call (Value.builtin "len") _ _) _ _ _)); first | (k_unfold; (try dsimp only)) | (k_end; wrow_close) | walk1 | (dsimp only; walk1) | (dsimp only; k_unfold; (try dsimp only)) | (leave1; try dsimp only) | fail "no step")
    (with_unfolding_all refine' len_in N8 hf3 hIf (by omega) ?_)
    intro tn kn
    repeat' ((fail_if_success (with_reducible show LCg.CompEnd _ _ _ _ _ _ _ _ _ _ _ _ _ _)); (fail_if_success (with_reducible show wpAny _ _ (subscriptTail _ _ _ _) _ _ _)); (fail_if_success (with_reducible show wpAny _ _ (call (Value.builtin "len") _ _) _ _ _)); first | (k_unfold; (try dsimp only)) | (k_end; wrow_close) | walk1 | (dsimp only; walk1) | (dsimp only; k_unfold; (try dsimp only)) | (leave1; try dsimp only) | fail "no step")
    (with_unfolding_all refine' slice_from (s := ⟨h9, _, _, _, _⟩) (vs := us9) (k := fs.length) F9 N8 ⟨_, (N8 _ (.head _)).1, rfl, _, rfl⟩ (by rw [hI9.length]; omega) ?_ ?hs)
    (case hs => with_unfolding_all rfl)
    clear F9
    intro d7 h7 F7 N7 l7
    obtain ⟨e1, e2, e3, e4, e5⟩ : r9 < d7 ∧ I' < d7 ∧ C' < d7 ∧ D' < d7 ∧ ∀ p ∈ nn ++ fr9, p.1 < d7 := by
      obtain ⟨q0, l7⟩ := List.forall_mem_cons.mp l7
      obtain ⟨q1, l7⟩ := List.forall_mem_cons.mp l7
      obtain ⟨q2, l7⟩ := List.forall_mem_cons.mp l7
      obtain ⟨q3, l7⟩ := List.forall_mem_cons.mp l7
      exact ⟨q0, q1, q2, q3, l7⟩
    have hkp2 : Kept news fr ((d7, W.listOf (us9.drop fs.length).toArray 0) :: nn) fr9 := ⟨fun p hp => .tail _ (hkp.sub p hp), (hkp.ap.up SU).cons fun x hx => Nat.ne_of_lt (e5 x (List.mem_append_right _ hx)), hkp.up.trans SU, List.forall_mem_cons.mpr ⟨.inr fun q hq => Ne.symm (Nat.ne_of_lt (e5 q (List.mem_append_left _ (hkp.sub q hq)))), hkp.off⟩⟩
    refine LCg.CompEnd.intro F7 N7 ((d7, W.listOf (us9.drop fs.length).toArray 0) :: (nn ++ fr9)) ?_ ?_ ?_ (ih _ _ ⟨_, fr9, rfl, hkp2, ?_, ?_, ?_⟩)
    · intro p hp
      simp only [List.mem_cons] at hp ⊢
      rcases hp with h | h | h | h | h <;> simp [h]
    · refine off3_of (List.forall_mem_cons.mpr ⟨⟨Ne.symm (Nat.ne_of_lt e2), Ne.symm (Nat.ne_of_lt e3), Ne.symm (Nat.ne_of_lt e4)⟩, fun p hp => ?_⟩)
      rcases List.mem_append.mp hp with hp | hp
      · exact om p (List.mem_append_left _ hp)
      · exact sameUp_off (P := fun a => a ≠ I' ∧ a ≠ C' ∧ a ≠ D') SU (fun p hp => om p (List.mem_append_right _ hp)) p hp
    · exact src_in (.tail _ (List.mem_append_left _ (hkp.sub _ hln)))
    · rw [List.take_add_one, List.getElem?_eq_getElem hil, List.map_append, List.map_append]
      have hz := (hr.mono (nw' := (d7, W.listOf (us9.drop fs.length).toArray 0) :: nn) fun p hp => .tail _ hp).snoc (.head _) (hI9.drop fs.length)
      show RowsL _ _ (_ ++ [(rows[ks[i]]?.getD []).drop fs.length])
      rw [erow]
      exact hz
    · rw [List.nodup_append]
      refine ⟨hnod, by simp, ?_⟩
      intro a ha b hb
      rw [List.mem_singleton.mp hb]
      rintro rfl
      obtain ⟨j, hj, ej⟩ := List.getElem_of_mem ha
      have hjl : j < (((ks.take i).map fun k => rows[k]?.getD []).map fun r => r.drop fs.length).length := by rw [← hr.1]; exact hj
      obtain ⟨a2, us2, k2, e6, hm2, _⟩ := hr.2 j _ (List.getElem?_eq_getElem hjl)
      rw [List.getElem?_eq_getElem hj, ej] at e6
      obtain rfl : d7 = a2 := by simpa using e6
      exact absurd (e5 _ (List.mem_append_left _ hm2)) (Nat.lt_irrefl _)
    · intro p hp hm
      rcases List.mem_append.mp hm with hm | hm
      · exact hzn p hp hm
      · have q : p.1 = d7 := by simpa using hm
        exact absurd (e5 _ (List.mem_append_left _ (hkp.sub p hp))) (by rw [q]; exact Nat.lt_irrefl _)
end Mine
end

section
open PySem PySem.W PyProof.Rows PySem.Calls PySem.Spec
namespace Mine
abbrev tupOf (a b : Addr) : Obj := { cls := .type "tuple", data := .seq #[.ref a, .ref b] }
/-- an item [path, first, (lacks, more)] in a ledger -/
def ItemIn (nw : List (Addr × Obj)) (v : Value) (p : Str) (fs ls ms : List Int) : Prop :=
  ∃ (e tp f la mo : Addr) (t : Tok) (uf ul um : List Value) (ke kf kl km : Nat), v = .ref e ∧ (e, W.listOf #[.str p t, .ref f, .ref tp] ke) ∈ nw ∧ (tp, tupOf la mo) ∈ nw ∧ (f, W.listOf uf.toArray kf) ∈ nw ∧ (la, W.listOf ul.toArray kl) ∈ nw ∧ (mo, W.listOf um.toArray km) ∈ nw ∧
    IntsAre uf fs ∧ IntsAre ul ls ∧ IntsAre um ms
theorem ItemIn.mono {nw nw' : List (Addr × Obj)} {v : Value} {p : Str} {fs ls ms : List Int} (h : ∀ p ∈ nw, p ∈ nw') (x : ItemIn nw v p fs ls ms) : ItemIn nw' v p fs ls ms := by
  obtain ⟨e, tp, f, la, mo, t, uf, ul, um, ke, kf, kl, km, h1, h2, h3, h4, h5, h6, h7⟩ := x
  exact ⟨e, tp, f, la, mo, t, uf, ul, um, ke, kf, kl, km, h1, h _ h2, h _ h3, h _ h4, h _ h5, h _ h6, h7⟩
/-- the same in a heap -/
def ItemAt (h : Heap) (v : Value) (p : Str) (fs ls ms : List Int) : Prop :=
  ∃ (e tp f la mo : Addr) (t : Tok) (uf ul um : List Value), v = .ref e ∧ h.IsList e #[.str p t, .ref f, .ref tp] ∧ h.IsTuple tp #[.ref la, .ref mo] ∧ h.IsList f uf.toArray ∧ h.IsList la ul.toArray ∧ h.IsList mo um.toArray ∧
    IntsAre uf fs ∧ IntsAre ul ls ∧ IntsAre um ms
theorem ItemIn.at {h₀ h : Heap} {L : Addr} {nw : List (Addr × Obj)} {v : Value} {p : Str} {fs ls ms : List Int} (N : News h₀ L h nw) (x : ItemIn nw v p fs ls ms) : ItemAt h v p fs ls ms := by
  obtain ⟨e, tp, f, la, mo, t, uf, ul, um, ke, kf, kl, km, h1, h2, h3, h4, h5, h6, h7⟩ := x
  exact ⟨e, tp, f, la, mo, t, uf, ul, um, h1, ⟨_, (N _ h2).1, rfl, _, rfl⟩, ⟨_, (N _ h3).1, rfl, _, rfl⟩, ⟨_, (N _ h4).1, rfl, _, rfl⟩, ⟨_, (N _ h5).1, rfl, _, rfl⟩, ⟨_, (N _ h6).1, rfl, _, rfl⟩, h7⟩
theorem ItemAt.keeps {h h' : Heap} {v : Value} {p : Str} {fs ls ms : List Int} (k : h.StaysIn h') (x : ItemAt h v p fs ls ms) : ItemAt h' v p fs ls ms := by
  obtain ⟨e, tp, f, la, mo, t, uf, ul, um, h1, h2, h3, h4, h5, h6, h7⟩ := x
  exact ⟨e, tp, f, la, mo, t, uf, ul, um, h1, h2.at fun o q => k _ o q, h3.at fun o q => k _ o q, h4.at fun o q => k _ o q, h5.at fun o q => k _ o q, h6.at fun o q => k _ o q, h7⟩
end Mine
namespace Mine
/-- what one item holds -/
structure ItemD where
  p : Str
  fs : List Int
  ls : List Int
  ms : List Int
def ItemAll (h : Heap) : List Value → List ItemD → Prop
  | [], [] => True
  | v :: vs, d :: ds => ItemAt h v d.p d.fs d.ls d.ms ∧ ItemAll h vs ds
  | _, _ => False
theorem ItemAll.keeps {h h' : Heap} (k : h.StaysIn h') : ∀ {vs : List Value} {ds : List ItemD}, ItemAll h vs ds → ItemAll h' vs ds
  | [], [], _ => trivial
  | _ :: _, _ :: _, x => ⟨x.1.keeps k, ItemAll.keeps k x.2⟩
/-- a list of such items -/
def ItemsAt (h : Heap) (v : Value) (ds : List ItemD) : Prop := ∃ (r : Addr) (vs : List Value), v = .ref r ∧ h.IsList r vs.toArray ∧ ItemAll h vs ds
theorem ItemsAt.keeps {h h' : Heap} {v : Value} {ds : List ItemD} (k : h.StaysIn h') (x : ItemsAt h v ds) : ItemsAt h' v ds := by
  obtain ⟨r, vs, e, hl, ha⟩ := x
  exact ⟨r, vs, e, hl.at fun o q => k _ o q, ha.keeps k⟩
/-- what stands apart while the loop runs -/
structure Apart (L D I : Addr) (news : List (Addr × Obj)) : Prop where
  o1 : ∀ p ∈ news, p.1 ≠ L + 1
  o2 : ∀ p ∈ news, p.1 ≠ L + 1 + 1
  o3 : ∀ p ∈ news, p.1 ≠ D
  o4 : ∀ p ∈ news, p.1 ≠ I
  d1 : @Ne Nat D (L + 1)
  d2 : @Ne Nat D (L + 1 + 1)
  i1 : @Ne Nat I (L + 1)
  i2 : @Ne Nat I (L + 1 + 1)
  i3 : @Ne Nat I D
theorem Apart.more {L D I : Addr} {news new : List (Addr × Obj)} {oD oT oO oI : Obj} (a : Apart L D I news) (h : ∀ p ∈ new, ∀ q ∈ (D, oD) :: (L + 1 + 1, oT) :: (L + 1, oO) :: (I, oI) :: news, p.1 ≠ q.1) : Apart L D I (new ++ news) := by
  have h1 : ∀ p ∈ new, p.1 ≠ D ∧ p.1 ≠ L + 1 + 1 ∧ p.1 ≠ L + 1 ∧ p.1 ≠ I := fun p hp => by
    have g := h p hp
    obtain ⟨g1, g⟩ := List.forall_mem_cons.mp g
    obtain ⟨g2, g⟩ := List.forall_mem_cons.mp g
    obtain ⟨g3, g⟩ := List.forall_mem_cons.mp g
    obtain ⟨g4, g⟩ := List.forall_mem_cons.mp g
    exact ⟨g1, g2, g3, g4⟩
  exact ⟨fun p hp => (List.mem_append.mp hp).elim (fun q => (h1 p q).2.2.1) (a.o1 p), fun p hp => (List.mem_append.mp hp).elim (fun q => (h1 p q).2.1) (a.o2 p), fun p hp => (List.mem_append.mp hp).elim (fun q => (h1 p q).1) (a.o3 p),
    fun p hp => (List.mem_append.mp hp).elim (fun q => (h1 p q).2.2.2) (a.o4 p), a.d1, a.d2, a.i1, a.i2, a.i3⟩
end Mine
end

section
namespace Mine
theorem rst_To5 : True := by w_top off; trivial
end Mine
local macro_rules | `(tactic| walk_at "mine pad") => `(tactic| fail "pad")
open PySem PySem.W PyProof.Rows PySem.Calls PySem.Spec
namespace Mine
local macro_rules | `(tactic| k_all) => `(tactic| assumption)
set_option maxRecDepth 100000 in
set_option maxHeartbeats 8000000 in
theorem to_append {w : World} {s₀ : Shared} {mg mb : Str → Option Value} {dp un : Nat} {gd : Option (List Code)} {cn : Str} {cs : Scope} {a : Addr} {ccd : Value} {cl : List (Str × Addr)} {outer : List Env} {h₀ : Heap} {L L' : Addr} {m : Str → Option Value} {news : List (Addr × Obj)} {s : Shared} {Q : Flow → Shared → Prop} {E : Value → Shared → Prop} {T R e b f : Addr} {vs zr ue ub : List Value} {kT ke kb : Nat} {xs ys : List Int} {P : Str} {tP : Tok} {fr : List (Addr × Obj)} {oF : Obj} :
    (hd.heap_39 w.params).In h₀ → Top hd.view_39 (looseW hd.view_39 []) (ExcName.means s₀.heap) mg mb h₀ →
    Fr h₀ L' s.heap m → News h₀ L' s.heap ((T, W.listOf vs.toArray kT) :: (R, LCg.lst (Value.ref e :: .ref b :: zr)) :: (e, W.listOf ue.toArray ke) :: (b, W.listOf ub.toArray kb) :: (news ++ fr)) → dp + 14 < recursionLimit → un + 160 < cLine →
    cs.kind = .function → TI.Frs (envX cn cs L a ccd cl :: outer) fr → ApF news fr →
    m (Str.ofString "told") = some (.ref T) → m (Str.ofString "path") = some (.str P tP) → m (Str.ofString "rests") = some (.ref R) → (L' + 1 + 1, oF) ∈ news → oF.data = .cell (some (.ref f)) → IntsAre ue xs → IntsAre ub ys → xs.length ≤ 20 → ys.length ≤ 20 →
    @Ne Nat e b → @Ne Nat T e → @Ne Nat T b → @Ne Nat R e → @Ne Nat R b → @Ne Nat R T → (∀ p ∈ news, p.1 ≠ e) → (∀ p ∈ news, p.1 ≠ b) → (∀ p ∈ news, p.1 ≠ T) → vs.length ≤ 100 →
    (∀ h' tk' i r ms u1 u2 k1 k2 ki k' fr', Fr h₀ L' h' m → TI.SameUp fr fr' → News h₀ L' h' ((T, W.listOf (vs ++ [Value.ref i]).toArray k') :: (i, W.listOf #[.str P tP, .ref f, .ref r] ki) :: (r, tupOf ms b) :: (ms, W.listOf u1.toArray k1) :: (b, W.listOf u2.toArray k2) :: (news ++ fr')) → IntsAre u1 (lacksF ys xs) → IntsAre u2 (lacksF xs ys.reverse) →
      (∀ p ∈ (T, W.listOf vs.toArray kT) :: news, p.1 ≠ i ∧ p.1 ≠ r ∧ p.1 ≠ ms) → Q .next { s with heap := h', toks := tk' }) →
    wpAny (model PySem.Challenge.rw_rt0029_01.row.prog w) ((ktrTop dp un gd cn cs L a ccd cl outer).deeper (envOfC (Str.ofString "_law_told") toScope L' 167 (.ref 166))) (exec (nthS toBody 3) (envOfC (Str.ofString "_law_told") toScope L' 167 (.ref 166))) Q E s := by
  k_fill
  intro X T' F N hd hu hck Fs hnd hm1 hm2 hm3 hF hFd hI1 hI2 hz1 hz2 heb hTe hTb hRe hRb hRT offe offb offT hvl hret
  (conv in (occs := *) toScope => all_goals whnf)
  (conv in (nthS _ _) => whnf)
  replace F := ksw_fr (stored := []) (m₀ := m) (ps := [(Str.ofString "told", .ref T), (Str.ofString "path", .str P tP), (Str.ofString "rests", .ref R)]) (List.forall_mem_cons.mpr ⟨hm1, List.forall_mem_cons.mpr ⟨hm2, List.forall_mem_singleton.mpr hm3⟩⟩) (fun _ _ _ => rfl) F
  dsimp only [kstB] at F
  have hF2 : (L' + 1 + 1, oF) ∈ (T, W.listOf vs.toArray kT) :: (R, LCg.lst (Value.ref e :: .ref b :: zr)) :: (e, W.listOf ue.toArray ke) :: (b, W.listOf ub.toArray kb) :: (news ++ fr) := .tail _ (.tail _ (.tail _ (.tail _ (List.mem_append_left _ hF))))
  repeat' ((fail_if_success (with_reducible show wpAny _ _ (subscriptTail _ _ _ _) _ _ _)); first | (k_unfold; (try dsimp only)) | (k_end; wrow_close) | walk1 | (dsimp only; walk1) | (dsimp only; k_unfold; (try dsimp only)) | (leave1; try dsimp only) | fail "no step")
  (with_unfolding_all refine' item_in (vs := Value.ref e :: .ref b :: zr) (k := 0) N (.tail _ (.head _)) (by omega) rfl ?_)
  repeat' ((fail_if_success (with_reducible show wpAny _ _ (subscriptTail _ _ _ _) _ _ _)); first | (k_unfold; (try dsimp only)) | (k_end; wrow_close) | walk1 | (dsimp only; walk1) | (dsimp only; k_unfold; (try dsimp only)) | (leave1; try dsimp only) | fail "no step")
  (with_unfolding_all refine' item_in (vs := Value.ref e :: .ref b :: zr) (k := 1) N (.tail _ (.head _)) (by omega) rfl ?_)
  repeat' ((fail_if_success (with_reducible show wpAny _ _ (call (Value.ref 141) _ _) _ _ _)); first | (k_unfold; (try dsimp only)) | (k_end; wrow_close) | walk1 | (dsimp only; walk1) | (dsimp only; k_unfold; (try dsimp only)) | (leave1; try dsimp only) | fail "no step")
  have Nf : News h₀ L' s.heap ([(e, W.listOf ue.toArray ke), (b, W.listOf ub.toArray kb)] ++ fr) := drop_news N fun p hp => by
    simp only [List.mem_cons, List.mem_append, List.not_mem_nil, or_false] at hp ⊢
    rcases hp with (h | h) | h <;> simp [h]
  have Nr : News h₀ L' s.heap ((T, W.listOf vs.toArray kT) :: news) := drop_news N fun p hp => by
    simp only [List.mem_cons, List.mem_append] at hp ⊢
    rcases hp with h | h <;> simp [h]
  have Nfr : News h₀ L' s.heap fr := drop_news N fun p hp => .tail _ (.tail _ (.tail _ (.tail _ (List.mem_append_right _ hp))))
  have hrm : ∀ p ∈ (T, W.listOf vs.toArray kT) :: news, p.1 ∉ [(e, W.listOf ue.toArray ke), (b, W.listOf ub.toArray kb)].map (·.1) := by
    intro p hp hm
    have hm' : p.1 = e ∨ p.1 = b := by simpa using hm
    rcases List.mem_cons.mp hp with rfl | hp
    · exact hm'.elim hTe hTb
    · exact hm'.elim (offe p hp) (offb p hp)
  (with_unfolding_all refine' uld_spec (frs := fr) (rest := (T, W.listOf vs.toArray kT) :: news) X T' F Nf Fs Nr hrm (hnd.cons (frs_ne N Fs (fun p hp => .tail _ (.tail _ (.tail _ (.tail _ (List.mem_append_right _ hp))))) (.head _) rfl)) ?hk ?hd ?hu heb hI1 hI2 hz1 hz2 ?_)
  (case hk => exact rfl)
  (case hd => ktr_room)
  (case hu => ktr_units)
  clear F N Nf Nr Nfr
  intro r ms u1 u2 k1 k2 zs ws fr' h7 tk7 hJ1 hJ2 heq SU F N l7
  rw [uld_lacks] at heq
  obtain ⟨rfl, rfl⟩ := Prod.mk.inj heq
  have Fs' := Fs.up SU
  have N7 : News h₀ L' h7 ((r, tupOf ms b) :: (ms, W.listOf u1.toArray k1) :: (T, W.listOf vs.toArray kT) :: (b, W.listOf u2.toArray k2) :: (news ++ fr')) := drop_news N fun p hp => by
    simp only [List.mem_cons, List.mem_append, List.not_mem_nil, or_false] at hp ⊢
    rcases hp with h | h | h | h | h | h <;> simp [h]
  obtain ⟨⟨lTr, lTm⟩, lN⟩ := List.forall_mem_cons.mp l7
  have lTr' : @Ne Nat T r := lTr
  have lTm' : @Ne Nat T ms := lTm
  have offT2 : ∀ p ∈ news ++ fr', p.1 ≠ T := fun p hp => (List.mem_append.mp hp).elim (offT p) (frs_ne N7 Fs' (fun p hp => .tail _ (.tail _ (.tail _ (.tail _ (List.mem_append_right _ hp))))) (.tail _ (.tail _ (.head _))) rfl p)
  clear N
  repeat' (first | (k_unfold; (try dsimp only)) | (k_end; wrow_close) | walk1 | (dsimp only; walk1) | (dsimp only; k_unfold; (try dsimp only)) | (leave1; try dsimp only) | fail "no step")
  (rename Fr h₀ _ _ _ => F8)
  (rename News h₀ _ _ _ => N8)
  (rename (_ ∧ _ ∧ _ ∧ _ ∧ AllLt _ _) => la1)
  rw [List.push_toArray] at N8
  obtain ⟨iA, q⟩ := news_nm 0 N8 rfl
  subst q
  have h9 := ktn_ltOf la1.2.2.2.2
  refine hret _ _ iA r ms u1 u2 k1 k2 0 (kT + 1) fr' (fr_same F8 fun z => ?_) SU (drop_news N8 fun p hp => ?_) hJ1 hJ2 (fun p hp => ?_)
  · (try dsimp only)
    split
    · rename_i e; rw [e, hm1]
    · split
      · rename_i e; rw [e, hm2]
      · split
        · rename_i e; rw [e, hm3]
        · rfl
  · simp only [List.mem_cons, List.mem_append] at hp ⊢
    rcases hp with h | h | h | h | h | h | h <;> simp [h]
  · rcases List.mem_cons.mp hp with rfl | hp
    · exact ⟨Nat.ne_of_lt la1.2.2.1, lTr, lTm⟩
    · exact ⟨Nat.ne_of_lt (h9 p (List.mem_append_left _ hp)), (lN p hp).1, (lN p hp).2⟩
end Mine
end

section
namespace Mine
theorem rst_Du3 : True := by w_top off; trivial
end Mine
open PySem PySem.W PyProof.Rows PySem.Calls PySem.Spec
namespace Mine
local macro_rules | `(tactic| k_all) => `(tactic| assumption)
theorem size_up (n : Nat) : Builtin.Range.rangeSize 0 (n : Int) 1 = ((n : Nat) : Int) := by
  rw [rangeSize_nat]; omega
theorem small_all : ∀ k : Fin 21, Builtin.Range.small 0 (k.val : Int) 1 = true := by decide +kernel
theorem small_up {n : Nat} (h : n ≤ 20) : Builtin.Range.small 0 (n : Int) 1 = true := small_all ⟨n, by omega⟩
set_option maxRecDepth 100000 in
set_option maxHeartbeats 8000000 in
theorem du_more {w : World} {s₀ : Shared} {mg mb : Str → Option Value} {dp un : Nat} {gd : Option (List Code)} {cn : Str} {cs : Scope} {a : Addr} {ccd : Value} {cl : List (Str × Addr)} {outer : List Env} {h₀ : Heap} {L L' : Addr} {m : Str → Option Value} {news : List (Addr × Obj)} {s : Shared} {Q : Flow → Shared → Prop} {E : Value → Shared → Prop} {b1 b2 : Addr} {v1 v2 : List Value} {one two : List Int} {oO oT : Obj} :
    (hd.heap_39 w.params).In h₀ → Top hd.view_39 (looseW hd.view_39 []) (ExcName.means s₀.heap) mg mb h₀ →
    Fr h₀ L' s.heap m → News h₀ L' s.heap news → dp + 10 < recursionLimit → un + 120 < cLine →
    (L' + 1, oO) ∈ news → oO.data = .cell (some (.ref b1)) → (L' + 1 + 1, oT) ∈ news → oT.data = .cell (some (.ref b2)) → (b1, W.listOf v1.toArray 0) ∈ news → (b2, W.listOf v2.toArray 0) ∈ news → IntsAre v1 one → IntsAre v2 two → one.length ≤ 20 → two.length ≤ 20 →
    (∀ h' tk' D ys, IntsAre ys (lacksF one two.reverse) → Fr h₀ L' h' (fun z => if z = Str.ofString "more" then some (.ref D) else m z) → News h₀ L' h' ((D, LCg.lst ys) :: news) → (∀ p ∈ news, p.1 ≠ D) → Q .next { s with heap := h', toks := tk' }) →
    wpAny (model PySem.Challenge.rw_rt0029_01.row.prog w) ((ktrTop dp un gd cn cs L a ccd cl outer).deeper (envOfC (Str.ofString "_law_due") duScope L' 177 (.ref 176))) (exec (nthS duBody 4) (envOfC (Str.ofString "_law_due") duScope L' 177 (.ref 176))) Q E s := by
  k_fill
  intro X T F N hd hu hO hOd hT hTd hb1 hb2 hI1 hI2 hz1 hz2 hret
  (conv in (occs := *) duScope => all_goals whnf)
  (conv in (nthS _ _) => whnf)
  k_dflt (refine Assign_CompT_rg (_F₀ := by k_asm) (by rfl) (by with_unfolding_all rfl) (by with_unfolding_all rfl) (by decide) (by rfl) (by decide) (by rfl) (by rfl) (by rfl) ?_)
  repeat' ((fail_if_success (with_reducible show wpAny _ _ (call (Value.builtin "len") _ _) _ _ _)); first | (k_unfold; (try dsimp only)) | (k_end; wrow_close) | walk1 | (dsimp only; walk1) | (dsimp only; k_unfold; (try dsimp only)) | (leave1; try dsimp only) | fail "no step")
  (with_unfolding_all refine' len_in N hb2 hI2 (by omega) ?_)
  intro tn kn
  repeat' ((fail_if_success (with_reducible show RgSrc _ _ _ _ _ _ _ _ _ _ _ _ _ _ _)); first | (k_unfold; (try dsimp only)) | (k_end; wrow_close) | walk1 | (dsimp only; walk1) | (dsimp only; k_unfold; (try dsimp only)) | (leave1; try dsimp only) | fail "no step")
  (rename Fr h₀ _ _ _ => F3)
  (rename News h₀ _ _ _ => N3)
  (rename IsRange _ _ _ _ _ _ _ _ => hRg)
  refine ⟨_, _, _, _, _, _, _, two.length, news, rfl, rfl, F3, N3, hRg, small_up hz2, size_up _, by rw [sizeLine_eq]; omega, fun g9 => ?_⟩
  clear F3 N3 hRg
  refine restT_ind (fun i ys => IntsAre ys (lacksF one (two.take i).reverse)) IntsAre.nil ?_ ?_
  · intro ys hinv
    rw [List.take_length] at hinv
    (try unfold LCg.FinA)
    intro D9 h9 tk9 F9 N9 o9
    exact hret h9 tk9 D9 ys hinv F9 N9 (off1_all o9)
  · intro k i ys hi hinv ih
    (with_unfolding_all refine LCt.CompRestT.succ ?_)
    intro v' I' oI' C' oC' D' m' h' tk' E' hv' hC' hx' F' N' off' ne'
    obtain ⟨t9, hv9⟩ := hv'
    have hj : ((0 : Int) + (i : Int) * 1) = (i : Int) := by omega
    rw [hj] at hv9
    subst hv9
    obtain ⟨tj, htj⟩ := hI2.get i two[i] (List.getElem?_eq_getElem hi)
    have hO2 : (L' + 1, oO) ∈ (I', oI') :: (C', oC') :: (D', LCg.lst ys) :: news := .tail _ (.tail _ (.tail _ hO))
    have hT2 : (L' + 1 + 1, oT) ∈ (I', oI') :: (C', oC') :: (D', LCg.lst ys) :: news := .tail _ (.tail _ (.tail _ hT))
    have hb3 : (b1, W.listOf v1.toArray 0) ∈ (I', oI') :: (C', oC') :: (D', LCg.lst ys) :: news := .tail _ (.tail _ (.tail _ hb1))
    have hb4 : (b2, W.listOf v2.toArray 0) ∈ (I', oI') :: (C', oC') :: (D', LCg.lst ys) :: news := .tail _ (.tail _ (.tail _ hb2))
    repeat' ((fail_if_success (with_reducible show LCt.CompRestT _ _ _ _ _ _ _ _ _ _ _ _ _ _ _ _ _ _ _ _)); (fail_if_success (with_reducible show LCg.CompEnd _ _ _ _ _ _ _ _ _ _ _ _ _ _)); (fail_if_success (with_reducible show wpAny _ _ (subscriptTail _ _ _ _) _ _ _)); first | (k_unfold; (try dsimp only)) | (k_end; wrow_close) | walk1 | (dsimp only; walk1) | (dsimp only; k_unfold; (try dsimp only)) | (leave1; try dsimp only) | fail "no step")
    (with_unfolding_all refine' slice_upto (s := ⟨h', _, _, _, _⟩) (vs := v2) (k := i) F' N' ⟨_, (N' _ hb4).1, rfl, _, rfl⟩ (by rw [hI2.length]; omega) ?_ ?hs)
    (case hs => with_unfolding_all rfl)
    intro d1 h1 F1 N1 l1
    have hO3 := List.mem_cons_of_mem (d1, W.listOf (v2.take i).toArray 0) hO2
    have hT3 := List.mem_cons_of_mem (d1, W.listOf (v2.take i).toArray 0) hT2
    repeat' ((fail_if_success (with_reducible show LCt.CompRestT _ _ _ _ _ _ _ _ _ _ _ _ _ _ _ _ _ _ _ _)); (fail_if_success (with_reducible show LCg.CompEnd _ _ _ _ _ _ _ _ _ _ _ _ _ _)); (fail_if_success (with_reducible show wpAny _ _ (subscriptTail _ _ _ _) _ _ _)); (fail_if_success (with_reducible show wpAny _ _ (getMethod _ _ _) _ _ _)); first | (k_unfold; (try dsimp only)) | (k_end; wrow_close) | walk1 | (dsimp only; walk1) | (dsimp only; k_unfold; (try dsimp only)) | (leave1; try dsimp only) | fail "no step")
    (with_unfolding_all refine' kl_method N1 (.head _) PySem.F.slot_list_count PySem.F.type_list_count ?_)
    (try dsimp only)
    repeat' ((fail_if_success (with_reducible show LCt.CompRestT _ _ _ _ _ _ _ _ _ _ _ _ _ _ _ _ _ _ _ _)); (fail_if_success (with_reducible show LCg.CompEnd _ _ _ _ _ _ _ _ _ _ _ _ _ _)); (fail_if_success (with_reducible show wpAny _ _ (subscriptTail _ _ _ _) _ _ _)); (fail_if_success (with_reducible show wpAny _ _ (getMethod _ _ _) _ _ _)); first | (k_unfold; (try dsimp only)) | (k_end; wrow_close) | walk1 | (dsimp only; walk1) | (dsimp only; k_unfold; (try dsimp only)) | (leave1; try dsimp only) | fail "no step")
    (with_unfolding_all refine' item_in (vs := v2) (k := i) N1 (.tail _ hb4) (by omega) htj ?_)
    repeat' ((fail_if_success (with_reducible show LCt.CompRestT _ _ _ _ _ _ _ _ _ _ _ _ _ _ _ _ _ _ _ _)); (fail_if_success (with_reducible show LCg.CompEnd _ _ _ _ _ _ _ _ _ _ _ _ _ _)); (fail_if_success (with_reducible show wpAny _ _ (subscriptTail _ _ _ _) _ _ _)); (fail_if_success (with_reducible show wpAny _ _ (call (Value.builtin "list.count") _ _) _ _ _)); (fail_if_success (with_reducible show wpAny _ _ (getMethod _ _ _) _ _ _)); first | (k_unfold; (try dsimp only)) | (k_end; wrow_close) | walk1 | (dsimp only; walk1) | (dsimp only; k_unfold; (try dsimp only)) | (leave1; try dsimp only) | fail "no step")
    (with_unfolding_all refine' count_in (ns := two.take i) N1 (.head _) (hI2.take i) ?_)
    intro tc kc
    repeat' ((fail_if_success (with_reducible show LCt.CompRestT _ _ _ _ _ _ _ _ _ _ _ _ _ _ _ _ _ _ _ _)); (fail_if_success (with_reducible show LCg.CompEnd _ _ _ _ _ _ _ _ _ _ _ _ _ _)); (fail_if_success (with_reducible show wpAny _ _ (subscriptTail _ _ _ _) _ _ _)); (fail_if_success (with_reducible show wpAny _ _ (getMethod _ _ _) _ _ _)); first | (k_unfold; (try dsimp only)) | (k_end; wrow_close) | walk1 | (dsimp only; walk1) | (dsimp only; k_unfold; (try dsimp only)) | (leave1; try dsimp only) | fail "no step")
    (with_unfolding_all refine' kl_method N1 (.tail _ hb3) PySem.F.slot_list_count PySem.F.type_list_count ?_)
    (try dsimp only)
    repeat' ((fail_if_success (with_reducible show LCt.CompRestT _ _ _ _ _ _ _ _ _ _ _ _ _ _ _ _ _ _ _ _)); (fail_if_success (with_reducible show LCg.CompEnd _ _ _ _ _ _ _ _ _ _ _ _ _ _)); (fail_if_success (with_reducible show wpAny _ _ (subscriptTail _ _ _ _) _ _ _)); (fail_if_success (with_reducible show wpAny _ _ (getMethod _ _ _) _ _ _)); first | (k_unfold; (try dsimp only)) | (k_end; wrow_close) | walk1 | (dsimp only; walk1) | (dsimp only; k_unfold; (try dsimp only)) | (leave1; try dsimp only) | fail "no step")
    (with_unfolding_all refine' item_in (vs := v2) (k := i) N1 (.tail _ hb4) (by omega) htj ?_)
    repeat' ((fail_if_success (with_reducible show LCt.CompRestT _ _ _ _ _ _ _ _ _ _ _ _ _ _ _ _ _ _ _ _)); (fail_if_success (with_reducible show LCg.CompEnd _ _ _ _ _ _ _ _ _ _ _ _ _ _)); (fail_if_success (with_reducible show wpAny _ _ (subscriptTail _ _ _ _) _ _ _)); (fail_if_success (with_reducible show wpAny _ _ (call (Value.builtin "list.count") _ _) _ _ _)); (fail_if_success (with_reducible show wpAny _ _ (getMethod _ _ _) _ _ _)); first | (k_unfold; (try dsimp only)) | (k_end; wrow_close) | walk1 | (dsimp only; walk1) | (dsimp only; k_unfold; (try dsimp only)) | (leave1; try dsimp only) | fail "no step")
    (with_unfolding_all refine' count_in (ns := one) N1 (.tail _ hb3) hI1 ?_)
    intro tc2 kc2
    repeat' ((fail_if_success (with_reducible show LCt.CompRestT _ _ _ _ _ _ _ _ _ _ _ _ _ _ _ _ _ _ _ _)); (fail_if_success (with_reducible show LCg.CompEnd _ _ _ _ _ _ _ _ _ _ _ _ _ _)); (fail_if_success (with_reducible show wpAny _ _ (subscriptTail _ _ _ _) _ _ _)); (fail_if_success (with_reducible show wpAny _ _ (getMethod _ _ _) _ _ _)); first | (k_unfold; (try dsimp only)) | (k_end; wrow_close) | walk1 | (dsimp only; walk1) | (dsimp only; k_unfold; (try dsimp only)) | (leave1; try dsimp only) | fail "no step")
    · (with_unfolding_all refine' item_in (vs := v2) (k := i) N1 (.tail _ hb4) (by omega) htj ?_)
      refine LCg.CompEnd.intro F1 N1 news (fun p hp => .tail _ hp) off' trivial (ih _ ?_)
      rw [List.take_succ_eq_append_getElem hi, List.reverse_append]
      show IntsAre _ (lacksF one (two[i] :: (two.take i).reverse))
      rw [lacksF, if_pos (by rw [List.count_reverse]; omega)]
      exact hinv.append (.cons _ _ .nil)
    · refine LCg.CompEnd.intro F1 N1 news (fun p hp => .tail _ hp) off' trivial (ih _ ?_)
      rw [List.take_succ_eq_append_getElem hi, List.reverse_append]
      show IntsAre _ (lacksF one (two[i] :: (two.take i).reverse))
      rw [lacksF, if_neg (by rw [List.count_reverse]; omega), List.append_nil]
      exact hinv
end Mine
end

section
namespace Mine
theorem rst_Du4 : True := by w_top off; trivial
end Mine
local macro_rules | `(tactic| walk_at "mine pad") => `(tactic| fail "pad")
open PySem PySem.W PyProof.Rows PySem.Calls PySem.Spec
namespace Mine
local macro_rules | `(tactic| k_all) => `(tactic| assumption)
set_option maxRecDepth 100000 in
set_option maxHeartbeats 8000000 in
theorem du_append {w : World} {s₀ : Shared} {mg mb : Str → Option Value} {dp un : Nat} {gd : Option (List Code)} {cn : Str} {cs : Scope} {a : Addr} {ccd : Value} {cl : List (Str × Addr)} {outer : List Env} {h₀ : Heap} {L L' : Addr} {m : Str → Option Value} {news : List (Addr × Obj)} {s : Shared} {Q : Flow → Shared → Prop} {E : Value → Shared → Prop} {D f la mo : Addr} {vs : List Value} {k : Nat} {P : Str} {tP : Tok} :
    (hd.heap_39 w.params).In h₀ → Top hd.view_39 (looseW hd.view_39 []) (ExcName.means s₀.heap) mg mb h₀ →
    Fr h₀ L' s.heap m → News h₀ L' s.heap ((D, W.listOf vs.toArray k) :: news) → dp + 10 < recursionLimit → un + 120 < cLine →
    m (Str.ofString "due") = some (.ref D) → m (Str.ofString "path") = some (.str P tP) → m (Str.ofString "first") = some (.ref f) → m (Str.ofString "lacks") = some (.ref la) → m (Str.ofString "more") = some (.ref mo) → (∀ p ∈ news, p.1 ≠ D) → vs.length ≤ 100 →
    (∀ h' tk' e tp ke k', Fr h₀ L' h' m → News h₀ L' h' ((D, W.listOf (vs ++ [Value.ref e]).toArray k') :: (e, W.listOf #[.str P tP, .ref f, .ref tp] ke) :: (tp, tupOf la mo) :: news) → (∀ p ∈ (D, W.listOf vs.toArray k) :: news, p.1 ≠ e ∧ p.1 ≠ tp) → Q .next { s with heap := h', toks := tk' }) →
    wpAny (model PySem.Challenge.rw_rt0029_01.row.prog w) ((ktrTop dp un gd cn cs L a ccd cl outer).deeper (envOfC (Str.ofString "_law_due") duScope L' 177 (.ref 176))) (exec (nthS duBody 5) (envOfC (Str.ofString "_law_due") duScope L' 177 (.ref 176))) Q E s := by
  k_fill
  intro X T F N hd hu hm1 hm2 hm3 hm4 hm5 hoff hvl hret
  (conv in (occs := *) duScope => all_goals whnf)
  (conv in (nthS _ _) => whnf)
  replace F := ksw_fr (stored := []) (m₀ := m) (ps := [(Str.ofString "due", .ref D), (Str.ofString "path", .str P tP), (Str.ofString "first", .ref f), (Str.ofString "lacks", .ref la), (Str.ofString "more", .ref mo)]) (List.forall_mem_cons.mpr ⟨hm1, List.forall_mem_cons.mpr ⟨hm2, List.forall_mem_cons.mpr ⟨hm3, List.forall_mem_cons.mpr ⟨hm4, List.forall_mem_singleton.mpr hm5⟩⟩⟩⟩) (fun _ _ _ => rfl) F
  dsimp only [kstB] at F
  repeat' (first | (k_unfold; (try dsimp only)) | (k_end; wrow_close) | walk1 | (dsimp only; walk1) | (dsimp only; k_unfold; (try dsimp only)) | (leave1; try dsimp only) | fail "no step")
  (rename Fr h₀ _ _ _ => F8)
  (rename News h₀ _ _ _ => N8)
  (rename (_ ∧ _ ∧ AllLt _ _) => la2)
  (rename (_ ∧ AllLt _ _) => la1)
  rw [List.push_toArray] at N8
  have h1 := ktn_ltOf la1.2
  have h2 := ktn_ltOf la2.2.2
  obtain ⟨eA, q⟩ := news_nm 0 N8 rfl
  subst q
  obtain ⟨tA, q⟩ := news_nm 1 N8 rfl
  subst q
  refine hret _ _ eA tA 0 (k + 1) (fr_same F8 fun z => ?_) (drop_news N8 fun p hp => ?_) (fun p hp => ?_)
  · split
    · rename_i e; rw [e, hm1]
    · split
      · rename_i e; rw [e, hm2]
      · split
        · rename_i e; rw [e, hm3]
        · split
          · rename_i e; rw [e, hm4]
          · split
            · rename_i e; rw [e, hm5]
            · rfl
  · rcases List.mem_cons.mp hp with rfl | hp
    · exact .tail _ (.tail _ (.head _))
    · rcases List.mem_cons.mp hp with rfl | hp
      · exact .head _
      · rcases List.mem_cons.mp hp with rfl | hp
        · exact .tail _ (.head _)
        · exact .tail _ (.tail _ (.tail _ hp))
  · rcases List.mem_cons.mp hp with rfl | hp
    · exact ⟨Nat.ne_of_lt la2.2.1, Nat.ne_of_lt la1.1⟩
    · exact ⟨Nat.ne_of_lt (h2 p hp), Nat.ne_of_lt (h1 p hp)⟩
set_option maxRecDepth 100000 in
set_option maxHeartbeats 8000000 in
theorem du_turn {w : World} {s₀ : Shared} {mg mb : Str → Option Value} {dp un : Nat} {gd : Option (List Code)} {cn : Str} {cs : Scope} {a : Addr} {ccd : Value} {cl : List (Str × Addr)} {outer : List Env} {h₀ : Heap} {L L' : Addr} {m : Str → Option Value} {news : List (Addr × Obj)} {s : Shared} {Q : Flow → Shared → Prop} {E : Value → Shared → Prop} {D l a1 a2 : Addr} {vs u1 u2 vr : List Value} {k : Nat} {r1 r2 : List Int} {rr : List (List Int)} {oO oT : Obj} {xO xT : Option Value} :
    (hd.heap_39 w.params).In h₀ → Top hd.view_39 (looseW hd.view_39 []) (ExcName.means s₀.heap) mg mb h₀ →
    Fr h₀ L' s.heap m → News h₀ L' s.heap ((D, W.listOf vs.toArray k) :: (L' + 1 + 1, oT) :: (L' + 1, oO) :: news) → dp + 10 < recursionLimit → un + 120 < cLine →
    m (Str.ofString "due") = some (.ref D) → m (Str.ofString "some") = some (.ref l) → LCg.SrcAt h₀ l (Value.ref a1 :: .ref a2 :: vr).toArray news → RowsAt h₀ (.ref a1 :: .ref a2 :: vr) (r1 :: r2 :: rr) →
    h₀.IsList a1 u1.toArray → h₀.IsList a2 u2.toArray → IntsAre u1 r1 → IntsAre u2 r2 → rr.length ≤ 5 → (∀ r ∈ r1 :: r2 :: rr, NumsOk r) → (∀ r ∈ r1 :: r2 :: rr, r.length ≤ 20) →
    oO.data = .cell xO → oT.data = .cell xT → (∀ p ∈ news, p.1 ≠ L' + 1) → (∀ p ∈ news, p.1 ≠ L' + 1 + 1) → (∀ p ∈ news, p.1 ≠ D) → @Ne Nat D (L' + 1) → @Ne Nat D (L' + 1 + 1) → vs.length ≤ 100 →
    (∀ h' tk' m' e k' oO' oT' xO' xT' new, Fr h₀ L' h' m' → m' (Str.ofString "due") = some (.ref D) → News h₀ L' h' ((D, W.listOf (vs ++ [Value.ref e]).toArray k') :: (L' + 1 + 1, oT') :: (L' + 1, oO') :: (new ++ news)) → oO'.data = .cell xO' → oT'.data = .cell xT' →
      (∀ p ∈ new, ∀ q ∈ (D, W.listOf vs.toArray k) :: (L' + 1 + 1, oT) :: (L' + 1, oO) :: news, p.1 ≠ q.1) → ItemIn new (.ref e) (pathOf (comm ((r1 :: r2 :: rr).map octs))) (comm (r1 :: r2 :: rr)) (lacksF (r2.drop (comm (r1 :: r2 :: rr)).length) (r1.drop (comm (r1 :: r2 :: rr)).length)) (lacksF (r1.drop (comm (r1 :: r2 :: rr)).length) (r2.drop (comm (r1 :: r2 :: rr)).length).reverse) →
      Q .next { s with heap := h', toks := tk' }) →
    wpAny (model PySem.Challenge.rw_rt0029_01.row.prog w) ((ktrTop dp un gd cn cs L a ccd cl outer).deeper (envOfC (Str.ofString "_law_due") duScope L' 177 (.ref 176))) (execs duBody (envOfC (Str.ofString "_law_due") duScope L' 177 (.ref 176))) Q E s := by
  k_fill
  intro X T F N hd hu hm0 hm1' hS hR hl1 hl2 hi1 hi2 hrl hok hrb hO hT off1 off2 off3 hD1 hD2 hvl hret
  have hb1 := hrb r1 (.head _)
  have hb2 := hrb r2 (.tail _ (.head _))
  have hcl : (comm (r1 :: r2 :: rr)).length ≤ 20 := Nat.le_trans (comm_pre (r1 :: r2 :: rr) r1 (.head _)).length_le hb1
  have hS2 := src_mono (nw' := (D, W.listOf vs.toArray k) :: (L' + 1 + 1, oT) :: (L' + 1, oO) :: news) (fun p hp => .tail _ (.tail _ (.tail _ hp))) hS
  have eB : duBody = [nthS duBody 0, nthS duBody 1, nthS duBody 2, nthS duBody 3, nthS duBody 4, nthS duBody 5] := rfl
  rw [eB]
  refine wpAny_execs_cons (du_path X T F N hd hu hm1' hS2 hR (List.cons_ne_nil _ _) (by simp only [List.length_cons]; omega) hok hrb ?_)
  clear F N
  intro h1 tk1 tP F N
  show wpAny _ _ (execs (_ :: _) _) _ _ _
  refine wpAny_execs_cons (du_first X T F N hd hu hm1' hS2 hR (List.cons_ne_nil _ _) (by simp only [List.length_cons]; omega) hrb ?_)
  clear F N
  intro h2 tk2 f uf kf hIf F N lf
  show wpAny _ _ (execs (_ :: _) _) _ _ _
  obtain ⟨lfD, lfT, lfO, lfN⟩ : D ≠ f ∧ L' + 1 + 1 ≠ f ∧ L' + 1 ≠ f ∧ ∀ p ∈ news, p.1 ≠ f := by
    obtain ⟨q1, lf⟩ := List.forall_mem_cons.mp lf
    obtain ⟨q2, lf⟩ := List.forall_mem_cons.mp lf
    obtain ⟨q3, lf⟩ := List.forall_mem_cons.mp lf
    exact ⟨q1, q2, q3, lf⟩
  have N2 : News h₀ L' h2 ((L' + 1 + 1, oT) :: (L' + 1, oO) :: (f, W.listOf uf.toArray kf) :: (D, W.listOf vs.toArray k) :: news) := drop_news N fun p hp => by
    simp only [List.mem_cons] at hp ⊢
    rcases hp with h | h | h | h | h <;> simp [h]
  have hS3 : LCg.SrcAt h₀ l (Value.ref a1 :: .ref a2 :: vr).toArray ((f, W.listOf uf.toArray kf) :: (D, W.listOf vs.toArray k) :: news) := src_mono (fun p hp => .tail _ (.tail _ hp)) hS
  refine wpAny_execs_cons (du_onetwo X T F N2 hd hu hm1' rfl hS3 hl1 hl2 hi1 hi2 hb1 hb2 (.head _) hIf hcl hO hT ?_ ?_ ?_)
  · exact List.forall_mem_cons.mpr ⟨Ne.symm lfO, List.forall_mem_cons.mpr ⟨hD1, off1⟩⟩
  · exact List.forall_mem_cons.mpr ⟨Ne.symm lfT, List.forall_mem_cons.mpr ⟨hD2, off2⟩⟩
  clear N N2
  intro h3 tk3 b1 b2 oO' oT' F N hO' hT' lb
  obtain ⟨lbT, lbO, lbf, lbD, lbN⟩ : (L' + 1 + 1 ≠ b1 ∧ L' + 1 + 1 ≠ b2) ∧ (L' + 1 ≠ b1 ∧ L' + 1 ≠ b2) ∧ (f ≠ b1 ∧ f ≠ b2) ∧ (D ≠ b1 ∧ D ≠ b2) ∧ ∀ p ∈ news, p.1 ≠ b1 ∧ p.1 ≠ b2 := by
    obtain ⟨q1, lb⟩ := List.forall_mem_cons.mp lb
    obtain ⟨q2, lb⟩ := List.forall_mem_cons.mp lb
    obtain ⟨q3, lb⟩ := List.forall_mem_cons.mp lb
    obtain ⟨q4, lb⟩ := List.forall_mem_cons.mp lb
    exact ⟨q1, q2, q3, q4, lb⟩
  show wpAny _ _ (execs (_ :: _) _) _ _ _
  refine wpAny_execs_cons (du_lacks X T F N hd hu (.tail _ (.tail _ (.tail _ (.head _)))) hO' (.tail _ (.tail _ (.head _))) hT' (.tail _ (.head _)) (.head _) (hi1.drop _) (hi2.drop _) (by rw [List.length_drop]; omega) (by rw [List.length_drop]; omega) ?_)
  clear N
  intro h4 tk4 la yl hIl F N ll
  obtain ⟨ll2, ll1, llT, llO, llf, llD, llN⟩ : b2 ≠ la ∧ b1 ≠ la ∧ L' + 1 + 1 ≠ la ∧ L' + 1 ≠ la ∧ f ≠ la ∧ D ≠ la ∧ ∀ p ∈ news, p.1 ≠ la := by
    obtain ⟨q1, ll⟩ := List.forall_mem_cons.mp ll
    obtain ⟨q2, ll⟩ := List.forall_mem_cons.mp ll
    obtain ⟨q3, ll⟩ := List.forall_mem_cons.mp ll
    obtain ⟨q4, ll⟩ := List.forall_mem_cons.mp ll
    obtain ⟨q5, ll⟩ := List.forall_mem_cons.mp ll
    obtain ⟨q6, ll⟩ := List.forall_mem_cons.mp ll
    exact ⟨q1, q2, q3, q4, q5, q6, ll⟩
  show wpAny _ _ (execs (_ :: _) _) _ _ _
  refine wpAny_execs_cons (du_more X T F N hd hu (.tail _ (.tail _ (.tail _ (.tail _ (.head _))))) hO' (.tail _ (.tail _ (.tail _ (.head _)))) hT' (.tail _ (.tail _ (.head _))) (.tail _ (.head _)) (hi1.drop _) (hi2.drop _) (by rw [List.length_drop]; omega) (by rw [List.length_drop]; omega) ?_)
  clear N
  intro h5 tk5 mo ym hIm F N lm
  obtain ⟨lml, lm2, lm1, lmT, lmO, lmf, lmD, lmN⟩ : la ≠ mo ∧ b2 ≠ mo ∧ b1 ≠ mo ∧ L' + 1 + 1 ≠ mo ∧ L' + 1 ≠ mo ∧ f ≠ mo ∧ D ≠ mo ∧ ∀ p ∈ news, p.1 ≠ mo := by
    obtain ⟨q0, lm⟩ := List.forall_mem_cons.mp lm
    obtain ⟨q1, lm⟩ := List.forall_mem_cons.mp lm
    obtain ⟨q2, lm⟩ := List.forall_mem_cons.mp lm
    obtain ⟨q3, lm⟩ := List.forall_mem_cons.mp lm
    obtain ⟨q4, lm⟩ := List.forall_mem_cons.mp lm
    obtain ⟨q5, lm⟩ := List.forall_mem_cons.mp lm
    obtain ⟨q6, lm⟩ := List.forall_mem_cons.mp lm
    exact ⟨q0, q1, q2, q3, q4, q5, q6, lm⟩
  have N5 : News h₀ L' h5 ((D, W.listOf vs.toArray k) :: (mo, LCg.lst ym) :: (la, LCg.lst yl) :: (L' + 1 + 1, oT') :: (L' + 1, oO') :: (f, W.listOf uf.toArray kf) :: news) := drop_news N fun p hp => by
    simp only [List.mem_cons] at hp ⊢
    rcases hp with h | h | h | h | h | h | h <;> simp [h]
  show wpAny _ _ (execs (_ :: _) _) _ _ _
  refine wpAny_execs_cons (du_append X T F N5 hd hu hm0 rfl rfl rfl rfl ?_ hvl ?_)
  · exact List.forall_mem_cons.mpr ⟨Ne.symm lmD, List.forall_mem_cons.mpr ⟨Ne.symm llD, List.forall_mem_cons.mpr ⟨Ne.symm hD2, List.forall_mem_cons.mpr ⟨Ne.symm hD1, List.forall_mem_cons.mpr ⟨Ne.symm lfD, off3⟩⟩⟩⟩⟩
  clear N N5
  intro h6 tk6 e tp ke k' F N le
  obtain ⟨leD, lem, lel, leT, leO, lef, leN⟩ : (D ≠ e ∧ D ≠ tp) ∧ (mo ≠ e ∧ mo ≠ tp) ∧ (la ≠ e ∧ la ≠ tp) ∧ (L' + 1 + 1 ≠ e ∧ L' + 1 + 1 ≠ tp) ∧ (L' + 1 ≠ e ∧ L' + 1 ≠ tp) ∧ (f ≠ e ∧ f ≠ tp) ∧ ∀ p ∈ news, p.1 ≠ e ∧ p.1 ≠ tp := by
    obtain ⟨q0, le⟩ := List.forall_mem_cons.mp le
    obtain ⟨q1, le⟩ := List.forall_mem_cons.mp le
    obtain ⟨q2, le⟩ := List.forall_mem_cons.mp le
    obtain ⟨q3, le⟩ := List.forall_mem_cons.mp le
    obtain ⟨q4, le⟩ := List.forall_mem_cons.mp le
    obtain ⟨q5, le⟩ := List.forall_mem_cons.mp le
    exact ⟨q0, q1, q2, q3, q4, q5, le⟩
  refine wpAny_execs_nil (hret _ _ _ e k' oO' oT' _ _ [(e, W.listOf #[.str (pathOf (comm ((r1 :: r2 :: rr).map octs))) tP, .ref f, .ref tp] ke), (tp, tupOf la mo), (f, W.listOf uf.toArray kf), (la, LCg.lst yl), (mo, LCg.lst ym)] F ?_ (drop_news N ?_) hO' hT' ?_ ?_)
  · exact hm0
  · intro p hp
    simp only [List.mem_cons, List.mem_append, List.not_mem_nil, or_false] at hp ⊢
    rcases hp with h | h | h | (h | h | h | h | h) | h <;> simp [h]
  · intro p hp q hq
    simp only [List.mem_cons, List.not_mem_nil, or_false] at hp hq
    rcases hp with rfl | rfl | rfl | rfl | rfl <;> rcases hq with rfl | rfl | rfl | hq
    · exact Ne.symm leD.1
    · exact Ne.symm leT.1
    · exact Ne.symm leO.1
    · exact Ne.symm (leN q hq).1
    · exact Ne.symm leD.2
    · exact Ne.symm leT.2
    · exact Ne.symm leO.2
    · exact Ne.symm (leN q hq).2
    · exact Ne.symm lfD
    · exact Ne.symm lfT
    · exact Ne.symm lfO
    · exact Ne.symm (lfN q hq)
    · exact Ne.symm llD
    · exact Ne.symm llT
    · exact Ne.symm llO
    · exact Ne.symm (llN q hq)
    · exact Ne.symm lmD
    · exact Ne.symm lmT
    · exact Ne.symm lmO
    · exact Ne.symm (lmN q hq)
  · exact ⟨e, tp, f, la, mo, tP, uf, yl, ym, ke, kf, _, _, rfl, .head _, .tail _ (.head _), .tail _ (.tail _ (.head _)), .tail _ (.tail _ (.tail _ (.head _))), .tail _ (.tail _ (.tail _ (.tail _ (.head _)))), hIf, hIl, hIm⟩
end Mine
end

section
namespace Mine
theorem rst_Du5 : True := by w_top off; trivial
end Mine
open PySem PySem.W PyProof.Rows PySem.Calls PySem.Spec
namespace Mine
local macro_rules | `(tactic| k_all) => `(tactic| assumption)
theorem news_ob {h₀ h : Heap} {L a : Addr} {o : Obj} {l : List (Addr × Obj)} (k : Nat) (_N : News h₀ L h l) (_e : l[k]? = some (a, o)) : ∃ x, x = o := ⟨o, rfl⟩
def duTarget : Expr := match (bodyAt 27).drop 1 with | .For t _ _ _ _ :: _ => t | _ => default
/-- the data of one turn -/
def dueD (rows : List (List Int)) (r1 r2 : List Int) : ItemD := ⟨pathOf (comm (rows.map octs)), comm rows, lacksF (r2.drop (comm rows).length) (r1.drop (comm rows).length), lacksF (r1.drop (comm rows).length) (r2.drop (comm rows).length).reverse⟩
def dueF (r0 r1 r2 : List Int) : List ItemD := [dueD [r0, r1] r0 r1, dueD [r0, r2] r0 r2, dueD [r1, r2] r1 r2, dueD [r0, r1, r2] r0 r1]
set_option maxRecDepth 100000 in
set_option maxHeartbeats 8000000 in
theorem due_step {w : World} {s₀ : Shared} {mg mb : Str → Option Value} {dp un : Nat} {gd : Option (List Code)} {cn : Str} {cs : Scope} {a : Addr} {ccd : Value} {cl : List (Str × Addr)} {outer : List Env} {h₀ : Heap} {L L' : Addr} {m : Str → Option Value} {news : List (Addr × Obj)} {rest : List Itm} {s : Shared} {Q : Flow → Shared → Prop} {E : Value → Shared → Prop} {D I l l0 a1 a2 : Addr} {lo : Obj} {vs u1 u2 vr : List Value} {k : Nat} {r1 r2 : List Int} {rr : List (List Int)} {oO oT : Obj} {xO xT : Option Value} :
    (hd.heap_39 w.params).In h₀ → Top hd.view_39 (looseW hd.view_39 []) (ExcName.means s₀.heap) mg mb h₀ → dp + 10 < recursionLimit → un + 120 < cLine →
    m (Str.ofString "due") = some (.ref D) → LCg.SrcAt h₀ l (Value.ref a1 :: .ref a2 :: vr).toArray news → RowsAt h₀ (.ref a1 :: .ref a2 :: vr) (r1 :: r2 :: rr) →
    h₀.IsList a1 u1.toArray → h₀.IsList a2 u2.toArray → IntsAre u1 r1 → IntsAre u2 r2 → rr.length ≤ 5 → (∀ r ∈ r1 :: r2 :: rr, NumsOk r) → (∀ r ∈ r1 :: r2 :: rr, r.length ≤ 20) →
    oO.data = .cell xO → oT.data = .cell xT → Apart L' D I news → vs.length ≤ 100 → (l0, lo) ∈ news →
    (∀ m' e k' oO' oT' xO' xT' new, m' (Str.ofString "due") = some (.ref D) → oO'.data = .cell xO' → oT'.data = .cell xT' → Apart L' D I (new ++ news) → ItemIn new (.ref e) (dueD (r1 :: r2 :: rr) r1 r2).p (dueD (r1 :: r2 :: rr) r1 r2).fs (dueD (r1 :: r2 :: rr) r1 r2).ls (dueD (r1 :: r2 :: rr) r1 r2).ms →
      ItemsRest PySem.Challenge.rw_rt0029_01.row.prog w ((ktrTop dp un gd cn cs L a ccd cl outer).deeper (envOfC (Str.ofString "_law_due") duScope L' 177 (.ref 176))) E h₀ (envOfC (Str.ofString "_law_due") duScope L' 177 (.ref 176)) duTarget duBody Q s [(I, "list_iterator")] [(l0, lo)] rest m' ((D, W.listOf (vs ++ [Value.ref e]).toArray k') :: (L' + 1 + 1, oT') :: (L' + 1, oO') :: (new ++ news))) →
    ItemsRest PySem.Challenge.rw_rt0029_01.row.prog w ((ktrTop dp un gd cn cs L a ccd cl outer).deeper (envOfC (Str.ofString "_law_due") duScope L' 177 (.ref 176))) E h₀ (envOfC (Str.ofString "_law_due") duScope L' 177 (.ref 176)) duTarget duBody Q s [(I, "list_iterator")] [(l0, lo)] (.val (.ref l) :: rest) m ((D, W.listOf vs.toArray k) :: (L' + 1 + 1, oT) :: (L' + 1, oO) :: news) := by
  k_fill
  intro X T hd hu hm0 hS hR hl1 hl2 hi1 hi2 hrl hok hrb hO hT hA hvl hkeep cont
  (conv in (occs := *) duTarget => all_goals whnf)
  refine ItemsRest.val ?_
  intro h tk F
  refine AllObj.cons fun oI hI => AllObj.nil ?_
  intro N
  dsimp only [List.cons_append, List.nil_append] at N
  refine wpAny_assign_Name (wpAny_storeName_local (by with_unfolding_all rfl) F.ns (fun h₂ hn₂ hs₂ => ?_) (by with_unfolding_all rfl))
  have hL₀ : h₀.get? L' = none := Heap.get?_none_of_le F.above
  have F2 : Fr h₀ L' h₂ (fun x => if x = Str.ofString "some" then some (Value.ref l) else m x) := ⟨hn₂, fun b o e => hs₂.extBut b o (fun q => by rw [q] at e; exact absurd (hL₀.symm.trans e) (by simp)) (F.keep b o e), F.above⟩
  have N2 : News h₀ L' h₂ ((D, W.listOf vs.toArray k) :: (L' + 1 + 1, oT) :: (L' + 1, oO) :: (I, oI) :: news) := fun p hp => by
    have hp' : p ∈ (I, oI) :: (D, W.listOf vs.toArray k) :: (L' + 1 + 1, oT) :: (L' + 1, oO) :: news := by
      simp only [List.mem_cons] at hp ⊢
      rcases hp with h | h | h | h | h <;> simp [h]
    exact ⟨hs₂.extBut _ _ (N p hp').2.1 (N p hp').1, (N p hp').2⟩
  refine du_turn (news := (I, oI) :: news) X T F2 N2 hd hu hm0 rfl (src_mono (fun p hp => .tail _ hp) hS) hR hl1 hl2 hi1 hi2 hrl hok hrb hO hT (List.forall_mem_cons.mpr ⟨hA.i1, hA.o1⟩) (List.forall_mem_cons.mpr ⟨hA.i2, hA.o2⟩) (List.forall_mem_cons.mpr ⟨hA.i3, hA.o3⟩) hA.d1 hA.d2 hvl ?_
  clear F N F2 N2
  intro h' tk' m' e k' oO' oT' xO' xT' new F3 hm3 N3 hO' hT' hnew hitem
  have N4 : News h₀ L' h' ([(I, oI)] ++ ((D, W.listOf (vs ++ [Value.ref e]).toArray k') :: (L' + 1 + 1, oT') :: (L' + 1, oO') :: (new ++ news))) := drop_news N3 fun p hp => by
    simp only [List.mem_cons, List.mem_append, List.not_mem_nil, or_false] at hp ⊢
    rcases hp with h | h | h | h | h | h <;> simp [h]
  have hI2 : ∀ p ∈ new, p.1 ≠ I := fun p hp => hnew p hp (I, oI) (.tail _ (.tail _ (.tail _ (.head _))))
  refine ⟨h', tk', m', _, rfl, F3, N4, ?_, ⟨?_, trivial⟩, cont m' e k' oO' oT' xO' xT' new hm3 hO' hT' (hA.more hnew) hitem⟩
  · intro p hp q hq
    rw [List.mem_singleton.mp hq]
    rcases List.mem_cons.mp hp with rfl | hp
    · exact Ne.symm hA.i3
    rcases List.mem_cons.mp hp with rfl | hp
    · exact Ne.symm hA.i2
    rcases List.mem_cons.mp hp with rfl | hp
    · exact Ne.symm hA.i1
    rcases List.mem_append.mp hp with hp | hp
    · exact hI2 p hp
    · exact hA.o4 p hp
  · exact .tail _ (.tail _ (.tail _ (List.mem_append_right _ hkeep)))
set_option maxRecDepth 100000 in
set_option maxHeartbeats 8000000 in
theorem due_spec {w : World} {s₀ : Shared} {mg mb : Str → Option Value} {dp un : Nat} {gd : Option (List Code)} {cn : Str} {cs : Scope} {a : Addr} {ccd : Value} {cl : List (Str × Addr)} {outer : List Env} {h₀ : Heap} {L : Addr} {m : Str → Option Value} {news : List (Addr × Obj)} {s : Shared}
    {Q E : Value → Shared → Prop} {l a0 a1 a2 : Addr} {u0 u1 u2 : List Value} {r0 r1 r2 : List Int} :
    (hd.heap_39 w.params).In h₀ → Top hd.view_39 (looseW hd.view_39 []) (ExcName.means s₀.heap) mg mb h₀ →
    Fr h₀ L s.heap m → News h₀ L s.heap news → cs.kind = .function → dp + 12 < recursionLimit → un + 140 < cLine →
    s.heap.IsList l #[.ref a0, .ref a1, .ref a2] → s.heap.IsList a0 u0.toArray → s.heap.IsList a1 u1.toArray → s.heap.IsList a2 u2.toArray → IntsAre u0 r0 → IntsAre u1 r1 → IntsAre u2 r2 → (∀ r ∈ [r0, r1, r2], NumsOk r) → (∀ r ∈ [r0, r1, r2], r.length ≤ 20) → 
    (∀ r h' tk', Fr h₀ L h' m → News h₀ L h' news → s.heap.StaysIn h' → ItemsAt h' (.ref r) (dueF r0 r1 r2) → Q (.ref r) { s with heap := h', toks := tk' }) →
    wpAny (model PySem.Challenge.rw_rt0029_01.row.prog w) (ktrTop dp un gd cn cs L a ccd cl outer) (call (.ref 177) [.ref l]) Q E s := by
  k_fill
  intro X T F N hk hd hu hl hl0 hl1 hl2 hi0 hi1 hi2 hok hrb hret
  have hb0 := hrb r0 (by simp)
  refine wpAny_call ?_
  k_dflt (refine' enter_pureC (env := envX cn cs L a ccd cl) (binds := [(Str.ofString "rows", .ref l)]) ?k2 ?k3 ?k5 ?kF ?kK ?k6 ?k7 ?k8 ?k9 ?kB ?kD ?_ ?c2 ?c3 ?c4; (case kF => exact rfl); (case kK => assumption); (case k2 => k_asm); (case k3 => k_asm); (case k5 => k_asm); (case k6 => k_is); (case k7 => k_is); (case k8 => ktr_room); (case k9 => exact BindsTo.of_eq rfl); (case kB => exact rfl); (case kD => decide +kernel); (case c2 => exact rfl); (case c3 => exact rfl); (case c4 => exact rfl); k_whole; intro L' h' tk' cells' F' N' Y' X' T'; k_cells Y'; (try simp only [List.cons_append, List.nil_append] at N'); (try dsimp only); (try k_fold))
  replace F' := fr_same (m' := fun y => if y = Str.ofString "rows" then some (.ref l) else none) F' (fun z => by with_unfolding_all rfl)
  repeat' ((fail_if_success (with_reducible show wpAny _ _ (exec (Stmt.For _ _ _ _ _) _) _ _ _)); (fail_if_success (with_reducible show wpAny _ _ (subscriptTail _ _ _ _) _ _ _)); first | (k_unfold; (try dsimp only)) | (k_end; wrow_close) | walk1 | (dsimp only; walk1) | (dsimp only; k_unfold; (try dsimp only)) | (leave1; try dsimp only) | fail "no step")
  (rename Fr s.heap _ _ _ => F6)
  (with_unfolding_all refine' For_turns F6 ?_)
  repeat' ((fail_if_success (with_reducible show wpAny _ _ (pyIter _) (fun it s₂ => TurnsAt _ _ _ _ _ _ _ _ _ it s₂) _ _)); first | (k_unfold; (try dsimp only)) | (k_end; wrow_close) | walk1 | (dsimp only; walk1) | (dsimp only; k_unfold; (try dsimp only)) | (leave1; try dsimp only) | fail "no step")
  (rename Fr s.heap _ _ _ => F7)
  (rename News s.heap _ _ _ => N7)
  obtain ⟨l0, q⟩ := news_nm 0 N7 rfl
  subst q
  obtain ⟨l3, q⟩ := news_nm 1 N7 rfl
  subst q
  obtain ⟨l2, q⟩ := news_nm 2 N7 rfl
  subst q
  obtain ⟨l1, q⟩ := news_nm 3 N7 rfl
  subst q
  obtain ⟨D, q⟩ := news_nm 4 N7 rfl
  subst q
  obtain ⟨oT, q⟩ := news_ob 5 N7 rfl
  subst q
  obtain ⟨oO, q⟩ := news_ob 6 N7 rfl
  subst q
  (rename Obj.data _ = Data.cell (bindC _ _ _ (Str.ofString "two")) => hcT)
  (rename Obj.data _ = Data.cell (bindC _ _ _ (Str.ofString "one")) => hcO)
  (rename (_ < _ ∧ _ < _) => g2)
  (rename (_ < _ ∧ _ < _ ∧ _ < _) => g3)
  (rename (_ < _ ∧ _ < _ ∧ _ < _ ∧ _ < _) => g4)
  (rename (_ < _ ∧ _ < _ ∧ _ < _ ∧ _ < _ ∧ _ < _) => g5)
  (rename (_ < _ ∧ _ < _ ∧ _ < _ ∧ _ < _ ∧ _ < _ ∧ _ < _) => g6)
  have N8 : News s.heap L' _ ((D, W.listOf ([] : List Value).toArray 0) :: (L' + 1 + 1, oT) :: (L' + 1, oO) :: [(l0, W.listOf #[.ref l1, .ref l2, .ref l3, .ref l] 0), (l3, W.listOf #[.ref a1, .ref a2] 0), (l2, W.listOf #[.ref a0, .ref a2] 0), (l1, W.listOf #[.ref a0, .ref a1] 0)]) := drop_news N7 fun p hp => by
    simp only [List.mem_cons, List.not_mem_nil, or_false] at hp ⊢
    rcases hp with h | h | h | h | h | h | h <;> simp [h]
  (with_unfolding_all refine iter_listTurns (lo := W.listOf #[.ref l1, .ref l2, .ref l3, .ref l] 0) (vs := [.ref l1, .ref l2, .ref l3, .ref l]) (by rfl) F7 N8 (.tail _ (.tail _ (.tail _ (.head _)))) (by rfl) (by rfl) ?_)
  clear F7 N7 N8
  intro I hI
  have hI0 := ltN (hI _ (.head _))
  have hI1 := ltN (hI _ (.tail _ (.head _)))
  have hI2 := ltN (hI _ (.tail _ (.tail _ (.head _))))
  have hI3 := ltN (hI _ (.tail _ (.tail _ (.tail _ (.head _)))))
  have hI4 := ltN (hI _ (.tail _ (.tail _ (.tail _ (.tail _ (.head _))))))
  have hI5 := ltN (hI _ (.tail _ (.tail _ (.tail _ (.tail _ (.tail _ (.head _)))))))
  have hI6 := ltN (hI _ (.tail _ (.tail _ (.tail _ (.tail _ (.tail _ (.tail _ (.head _))))))))
  dsimp only at hI0 hI1 hI2 hI3 hI4 hI5 hI6
  have hA : Apart L' D I [(l0, W.listOf #[.ref l1, .ref l2, .ref l3, .ref l] 0), (l3, W.listOf #[.ref a1, .ref a2] 0), (l2, W.listOf #[.ref a0, .ref a2] 0), (l1, W.listOf #[.ref a0, .ref a1] 0)] := by
    refine ⟨?_, ?_, ?_, ?_, neN (by omega), neN (by omega), neN (by omega), neN (by omega), neN (by omega)⟩ <;> exact List.forall_mem_cons.mpr ⟨neN (by dsimp only; omega), List.forall_mem_cons.mpr ⟨neN (by dsimp only; omega), List.forall_mem_cons.mpr ⟨neN (by dsimp only; omega), List.forall_mem_singleton.mpr (neN (by dsimp only; omega))⟩⟩⟩
  have ok : ∀ {a b : List Int}, a ∈ [r0, r1, r2] → b ∈ [r0, r1, r2] → ∀ r ∈ [a, b], NumsOk r := fun ha hb => List.forall_mem_cons.mpr ⟨hok _ ha, List.forall_mem_singleton.mpr (hok _ hb)⟩
  have lo : ∀ {a b : List Int}, a ∈ [r0, r1, r2] → b ∈ [r0, r1, r2] → ∀ r ∈ [a, b], r.length ≤ 20 := fun ha hb => List.forall_mem_cons.mpr ⟨hrb _ ha, List.forall_mem_singleton.mpr (hrb _ hb)⟩
  have m0 : r0 ∈ [r0, r1, r2] := .head _
  have m1 : r1 ∈ [r0, r1, r2] := .tail _ (.head _)
  have m2 : r2 ∈ [r0, r1, r2] := .tail _ (.tail _ (.head _))
  (with_unfolding_all refine' due_step X' T' ?hd ?hu ?hm (src_in (.tail _ (.tail _ (.tail _ (.head _))))) (.cons hl0 hi0 (.cons hl1 hi1 .nil)) hl0 hl1 hi0 hi1 (Nat.zero_le _) (ok m0 m1) (lo m0 m1) hcO hcT hA (Nat.zero_le _) (.head _) ?_)
  (case hd => omega)
  (case hu => omega)
  (case hm => exact rfl)
  intro m1' e1 k1 oO1 oT1 xO1 xT1 n1 hm1 hO1 hT1 hA1 it1
  (with_unfolding_all refine' due_step X' T' ?hd ?hu hm1 (src_in (List.mem_append_right n1 (.tail _ (.tail _ (.head _))))) (.cons hl0 hi0 (.cons hl2 hi2 .nil)) hl0 hl2 hi0 hi2 (Nat.zero_le _) (ok m0 m2) (lo m0 m2) hO1 hT1 hA1 (by simp) (List.mem_append_right n1 (.head _)) ?_)
  (case hd => omega)
  (case hu => omega)
  intro m2' e2 k2 oO2 oT2 xO2 xT2 n2 hm2 hO2 hT2 hA2 it2
  (with_unfolding_all refine' due_step X' T' ?hd ?hu hm2 (src_in (List.mem_append_right n2 (List.mem_append_right n1 (.tail _ (.head _))))) (.cons hl1 hi1 (.cons hl2 hi2 .nil)) hl1 hl2 hi1 hi2 (Nat.zero_le _) (ok m1 m2) (lo m1 m2) hO2 hT2 hA2 (by simp) (List.mem_append_right n2 (List.mem_append_right n1 (.head _))) ?_)
  (case hd => omega)
  (case hu => omega)
  intro m3' e3 k3 oO3 oT3 xO3 xT3 n3 hm3 hO3 hT3 hA3 it3
  (with_unfolding_all refine' due_step X' T' ?hd ?hu hm3 (.inl hl) (.cons hl0 hi0 (.cons hl1 hi1 (.cons hl2 hi2 .nil))) hl0 hl1 hi0 hi1 (by simp) hok hrb hO3 hT3 hA3 (by simp) (List.mem_append_right n3 (List.mem_append_right n2 (List.mem_append_right n1 (.head _)))) ?_)
  (case hd => omega)
  (case hu => omega)
  intro m4' e4 k4 oO4 oT4 xO4 xT4 n4 hm4 hO4 hT4 hA4 it4
  refine ItemsRest.zero ?_
  intro h9 tk9 F9 N9
  have S9 := F9.keep
  have J1 : ItemAt h9 (.ref e1) _ _ _ _ := (it1.mono fun p hp => .tail _ (.tail _ (.tail _ (List.mem_append_right n4 (List.mem_append_right n3 (List.mem_append_right n2 (List.mem_append_left _ hp))))))).at N9
  have J2 : ItemAt h9 (.ref e2) _ _ _ _ := (it2.mono fun p hp => .tail _ (.tail _ (.tail _ (List.mem_append_right n4 (List.mem_append_right n3 (List.mem_append_left _ hp)))))).at N9
  have J3 : ItemAt h9 (.ref e3) _ _ _ _ := (it3.mono fun p hp => .tail _ (.tail _ (.tail _ (List.mem_append_right n4 (List.mem_append_left _ hp))))).at N9
  have J4 : ItemAt h9 (.ref e4) _ _ _ _ := (it4.mono fun p hp => .tail _ (.tail _ (.tail _ (List.mem_append_left _ hp)))).at N9
  have JD : h9.IsList D (([] : List Value) ++ [Value.ref e1] ++ [Value.ref e2] ++ [Value.ref e3] ++ [Value.ref e4]).toArray := ⟨_, (N9 _ (.head _)).1, rfl, _, rfl⟩
  have JA : ItemsAt h9 (.ref D) (dueF r0 r1 r2) := ⟨D, _, rfl, JD, J1, J2, J3, J4, trivial⟩
  have N10 : News s.heap L' h9 [] := News.nil
  clear N9
  replace F9 := ksw_fr (stored := []) (m₀ := m4') (ps := [(Str.ofString "due", .ref D)]) (List.forall_mem_singleton.mpr hm4) (fun _ _ _ => rfl) F9
  dsimp only [kstB] at F9
  (try dsimp only)
  repeat' (first | (k_unfold; (try dsimp only)) | (k_end; wrow_close) | walk1 | (dsimp only; walk1) | (dsimp only; k_unfold; (try dsimp only)) | (leave1; try dsimp only) | fail "no step")
  exact hret _ _ _ (F.keeps S9) (N.grown S9) S9 JA
end Mine
end

section
open PySem PySem.W PyProof.Rows PySem.Calls PySem.Spec
namespace Mine
local macro_rules | `(tactic| k_all) => `(tactic| assumption)
set_option maxRecDepth 100000 in
set_option maxHeartbeats 8000000 in
theorem to_turn {w : World} {s₀ : Shared} {mg mb : Str → Option Value} {dp un : Nat} {gd : Option (List Code)} {cn : Str} {cs : Scope} {a : Addr} {ccd : Value} {cl : List (Str × Addr)} {outer : List Env} {h₀ : Heap} {L L' : Addr} {m : Str → Option Value} {news : List (Addr × Obj)} {s : Shared} {Q : Flow → Shared → Prop} {E : Value → Shared → Prop} {T D l : Addr} {vs us ys : List Value} {kT : Nat} {ks : List Nat} {rows rr : List (List Int)} {r1 r2 : List Int} {fr : List (Addr × Obj)} {oP oF : Obj} {xF : Option Value} :
    (hd.heap_39 w.params).In h₀ → Top hd.view_39 (looseW hd.view_39 []) (ExcName.means s₀.heap) mg mb h₀ →
    Fr h₀ L' s.heap m → News h₀ L' s.heap ((T, W.listOf vs.toArray kT) :: (L' + 1 + 1, oF) :: (news ++ fr)) → dp + 14 < recursionLimit → un + 160 < cLine →
    cs.kind = .function → TI.Frs (envX cn cs L a ccd cl :: outer) fr → ApF news fr →
    m (Str.ofString "told") = some (.ref T) → m (Str.ofString "some") = some (.ref l) → Picks news l rows us ks → sel rows ks = r1 :: r2 :: rr → (L' + 1, oP) ∈ news → oP.data = .cell (some (.ref D)) → (D, LCg.lst ys) ∈ news → StrsAre ys (rows.map fun r => pathOf (octs r)) → oF.data = .cell xF →
    rows.length ≤ 10 → (∀ r ∈ rows, NumsOk r) → (∀ r ∈ rows, r.length ≤ 20) → (∀ p ∈ news, p.1 ≠ L' + 1 + 1) → (∀ p ∈ news, p.1 ≠ T) → @Ne Nat T (L' + 1 + 1) → vs.length ≤ 100 →
    (∀ h' tk' m' i k' oF' xF' fr' new, Fr h₀ L' h' m' → m' (Str.ofString "told") = some (.ref T) → TI.SameUp fr fr' → News h₀ L' h' ((T, W.listOf (vs ++ [Value.ref i]).toArray k') :: (L' + 1 + 1, oF') :: ((new ++ news) ++ fr')) → oF'.data = .cell xF' → ApF new fr' →
      (∀ p ∈ new, ∀ q ∈ (T, W.listOf vs.toArray kT) :: (L' + 1 + 1, oF) :: news, p.1 ≠ q.1) → ItemIn new (.ref i) (dueD (sel rows ks) r1 r2).p (dueD (sel rows ks) r1 r2).fs (dueD (sel rows ks) r1 r2).ls (dueD (sel rows ks) r1 r2).ms → Q .next { s with heap := h', toks := tk' }) →
    wpAny (model PySem.Challenge.rw_rt0029_01.row.prog w) ((ktrTop dp un gd cn cs L a ccd cl outer).deeper (envOfC (Str.ofString "_law_told") toScope L' 167 (.ref 166))) (execs toBody (envOfC (Str.ofString "_law_told") toScope L' 167 (.ref 166))) Q E s := by
  k_fill
  intro X T' F N hd hu hck Fs hnd hm0 hm1 hpk hsel hP hPd hD hY hF hrl hok hrb off2 offT hT2 hvl hret
  have hsm := sel_mem hpk.lt
  have hsne : sel rows ks ≠ [] := by rw [hsel]; exact List.cons_ne_nil _ _
  have hsok : ∀ r ∈ sel rows ks, NumsOk r := fun r hr => hok r (hsm r hr)
  have hsrb : ∀ r ∈ sel rows ks, r.length ≤ 20 := fun r hr => hrb r (hsm r hr)
  have hb1 := hsrb r1 (by rw [hsel]; exact .head _)
  have hb2 := hsrb r2 (by rw [hsel]; exact .tail _ (.head _))
  have hcl : (comm (sel rows ks)).length ≤ 20 := Nat.le_trans (comm_pre (sel rows ks) r1 (by rw [hsel]; exact .head _)).length_le hb1
  have up1 : ∀ p ∈ news, p ∈ (T, W.listOf vs.toArray kT) :: (L' + 1 + 1, oF) :: (news ++ fr) := fun p hp => .tail _ (.tail _ (List.mem_append_left _ hp))
  have eB : toBody = [nthS toBody 0, nthS toBody 1, nthS toBody 2, nthS toBody 3] := rfl
  rw [eB]
  have apT : ApF ((T, W.listOf vs.toArray kT) :: news) fr := hnd.cons (frs_ne N Fs (fun p hp => .tail _ (.tail _ (List.mem_append_right _ hp))) (.head _) rfl)
  refine wpAny_execs_cons (to_path X T' F N hd hu hm1 (hpk.mono up1) (up1 _ hP) hPd (up1 _ hD) hY hrl hok hrb ?_)
  clear F N
  intro h1 tk1 tP F N
  show wpAny _ _ (execs (_ :: _) _) _ _ _
  have N1 : News h₀ L' h1 ((L' + 1 + 1, oF) :: (((T, W.listOf vs.toArray kT) :: news) ++ fr)) := drop_news N fun p hp => by
    simp only [List.mem_cons, List.mem_append, List.cons_append] at hp ⊢
    rcases hp with h | h | h | h <;> simp [h]
  refine wpAny_execs_cons (to_first X T' F N1 hd hu hck Fs apT rfl hF (List.forall_mem_cons.mpr ⟨hT2, off2⟩) hsne hsok hsrb ?_)
  clear F N N1
  intro h2 tk2 f uf kf oF' fr1 hIf SU1 F N hF' lf hfF
  have Fs1 := Fs.up SU1
  obtain ⟨lfT, lfN⟩ := List.forall_mem_cons.mp lf
  show wpAny _ _ (execs (_ :: _) _) _ _ _
  have subF : ∀ p ∈ fr1, p ∈ (f, W.listOf uf.toArray kf) :: (L' + 1 + 1, oF') :: (((T, W.listOf vs.toArray kT) :: news) ++ fr1) := fun p hp => .tail _ (.tail _ (List.mem_append_right _ hp))
  have apF : ∀ x ∈ fr1, x.1 ≠ f := frs_ne N Fs1 subF (.head _) rfl
  have apC : ∀ x ∈ fr1, x.1 ≠ L' + 1 + 1 := frs_ne N Fs1 subF (.tail _ (.head _)) (cell_nd hF')
  have hnd2 : ApF ((f, W.listOf uf.toArray kf) :: (L' + 1 + 1, oF') :: (T, W.listOf vs.toArray kT) :: news) fr1 := ((apT.up SU1).cons apC).cons apF
  have up2 : ∀ p ∈ news, p ∈ (f, W.listOf uf.toArray kf) :: (L' + 1 + 1, oF') :: (T, W.listOf vs.toArray kT) :: news := fun p hp => .tail _ (.tail _ (.tail _ hp))
  refine wpAny_execs_cons (to_rests (news := (f, W.listOf uf.toArray kf) :: (L' + 1 + 1, oF') :: (T, W.listOf vs.toArray kT) :: news) X T' F N hd hu hck Fs1 hnd2 hm1 (hpk.mono up2) (up2 _ hP) hPd (up2 _ hD) hY (.tail _ (.head _)) hF' (.head _) hIf (by omega) hrl hok hrb ?_)
  clear F N
  intro h3 tk3 R zs nn fr2 F N hkp hrw hnod hzn hRn
  have Fs2 := Fs1.up hkp.up
  rw [hsel] at hrw
  obtain ⟨e, ue, ke, he1, he2, hIe⟩ := hrw.2 0 _ rfl
  obtain ⟨b, ub, kb, hb3, hb4, hIb⟩ := hrw.2 1 _ rfl
  obtain ⟨zr, rfl⟩ : ∃ zr, zs = .ref e :: .ref b :: zr := by
    match zs, he1, hb3 with
    | x :: y :: zr, he1, hb3 =>
      obtain rfl := Option.some.inj he1
      obtain rfl := Option.some.inj hb3
      exact ⟨zr, rfl⟩
  have heb : e ≠ b := by
    intro q
    subst q
    simp at hnod
  have hze : ∀ p ∈ (f, W.listOf uf.toArray kf) :: (L' + 1 + 1, oF') :: (T, W.listOf vs.toArray kT) :: news, p.1 ≠ e := fun p hp q => hzn p hp (by rw [q]; exact .head _)
  have hzb : ∀ p ∈ (f, W.listOf uf.toArray kf) :: (L' + 1 + 1, oF') :: (T, W.listOf vs.toArray kT) :: news, p.1 ≠ b := fun p hp q => hzn p hp (by rw [q]; exact .tail _ (.head _))
  obtain ⟨zfe, zFe, zTe, zNe⟩ : f ≠ e ∧ L' + 1 + 1 ≠ e ∧ T ≠ e ∧ ∀ p ∈ news, p.1 ≠ e := by
    obtain ⟨q1, q⟩ := List.forall_mem_cons.mp hze
    obtain ⟨q2, q⟩ := List.forall_mem_cons.mp q
    obtain ⟨q3, q⟩ := List.forall_mem_cons.mp q
    exact ⟨q1, q2, q3, q⟩
  obtain ⟨zfb, zFb, zTb, zNb⟩ : f ≠ b ∧ L' + 1 + 1 ≠ b ∧ T ≠ b ∧ ∀ p ∈ news, p.1 ≠ b := by
    obtain ⟨q1, q⟩ := List.forall_mem_cons.mp hzb
    obtain ⟨q2, q⟩ := List.forall_mem_cons.mp q
    obtain ⟨q3, q⟩ := List.forall_mem_cons.mp q
    exact ⟨q1, q2, q3, q⟩
  have hRe : e ≠ R := hRn (e, _) (List.mem_append_left _ he2)
  have hRb : b ≠ R := hRn (b, _) (List.mem_append_left _ hb4)
  have hRT : T ≠ R := hRn (T, W.listOf vs.toArray kT) (List.mem_append_left _ (hkp.sub _ (.tail _ (.tail _ (.head _)))))
  have N3 : News h₀ L' h3 ((T, W.listOf vs.toArray kT) :: (R, LCg.lst (Value.ref e :: .ref b :: zr)) :: (e, W.listOf ue.toArray ke) :: (b, W.listOf ub.toArray kb) :: (((f, W.listOf uf.toArray kf) :: (L' + 1 + 1, oF') :: news) ++ fr2)) := drop_news N fun p hp => by
    rcases List.mem_cons.mp hp with rfl | hp
    · exact .tail _ (List.mem_append_left _ (hkp.sub _ (.tail _ (.tail _ (.head _)))))
    rcases List.mem_cons.mp hp with rfl | hp
    · exact .head _
    rcases List.mem_cons.mp hp with rfl | hp
    · exact .tail _ (List.mem_append_left _ he2)
    rcases List.mem_cons.mp hp with rfl | hp
    · exact .tail _ (List.mem_append_left _ hb4)
    rcases List.mem_append.mp hp with hp | hp
    · refine .tail _ (List.mem_append_left _ (hkp.sub _ ?_))
      rcases List.mem_cons.mp hp with rfl | hp
      · exact .head _
      rcases List.mem_cons.mp hp with rfl | hp
      · exact .tail _ (.head _)
      · exact .tail _ (.tail _ (.tail _ hp))
    · exact .tail _ (List.mem_append_right _ hp)
  show wpAny _ _ (execs (_ :: _) _) _ _ _
  refine wpAny_execs_cons (to_append (news := (f, W.listOf uf.toArray kf) :: (L' + 1 + 1, oF') :: news) X T' F N3 hd hu hck Fs2 ((((hnd.up SU1).cons apC).cons apF).up hkp.up) hm0 rfl rfl (.tail _ (.head _)) hF' hIe hIb (by rw [List.length_drop]; omega) (by rw [List.length_drop]; omega) heb zTe zTb (Ne.symm hRe) (Ne.symm hRb) (Ne.symm hRT) ?_ ?_ ?_ hvl ?_)
  · exact List.forall_mem_cons.mpr ⟨zfe, List.forall_mem_cons.mpr ⟨zFe, zNe⟩⟩
  · exact List.forall_mem_cons.mpr ⟨zfb, List.forall_mem_cons.mpr ⟨zFb, zNb⟩⟩
  · exact List.forall_mem_cons.mpr ⟨Ne.symm lfT, List.forall_mem_cons.mpr ⟨Ne.symm hT2, offT⟩⟩
  clear F N N3
  intro h4 tk4 i r ms u1 u2 k1 k2 ki k' fr3 F SU3 N hJ1 hJ2 l4
  obtain ⟨l4T, l4f, l4F, l4N⟩ : (T ≠ i ∧ T ≠ r ∧ T ≠ ms) ∧ (f ≠ i ∧ f ≠ r ∧ f ≠ ms) ∧ (L' + 1 + 1 ≠ i ∧ L' + 1 + 1 ≠ r ∧ L' + 1 + 1 ≠ ms) ∧ ∀ p ∈ news, p.1 ≠ i ∧ p.1 ≠ r ∧ p.1 ≠ ms := by
    obtain ⟨q1, q⟩ := List.forall_mem_cons.mp l4
    obtain ⟨q2, q⟩ := List.forall_mem_cons.mp q
    obtain ⟨q3, q⟩ := List.forall_mem_cons.mp q
    exact ⟨q1, q2, q3, q⟩
  refine wpAny_execs_nil (hret _ _ _ i k' oF' _ fr3 [(i, W.listOf #[.str (pathOf (comm ((sel rows ks).map octs))) tP, .ref f, .ref r] ki), (r, tupOf ms b), (f, W.listOf uf.toArray kf), (ms, W.listOf u1.toArray k1), (b, W.listOf u2.toArray k2)] F ?_ ((SU1.trans hkp.up).trans SU3) (drop_news N ?_) hF' ?_ ?_ ?_)
  · exact hm0
  · intro p hp
    simp only [List.mem_cons, List.mem_append, List.not_mem_nil, false_or, List.cons_append] at hp ⊢
    rcases hp with h | h | h | h | h | h | h | h | h <;> simp [h]
  · exact rest_off (drop_news N fun p hp => .tail _ (.tail _ (.tail _ (.tail _ (.tail _ (List.mem_append_right _ hp)))))) (Fs2.up SU3) (drop_news N fun p hp => by
      simp only [List.mem_cons, List.not_mem_nil, or_false, List.mem_append, List.cons_append] at hp ⊢
      rcases hp with h | h | h | h | h <;> simp [h]) rfl
  · intro p hp q hq
    simp only [List.mem_cons, List.not_mem_nil, or_false] at hp hq
    rcases hp with rfl | rfl | rfl | rfl | rfl <;> rcases hq with rfl | rfl | hq
    · exact Ne.symm l4T.1
    · exact Ne.symm l4F.1
    · exact Ne.symm (l4N q hq).1
    · exact Ne.symm l4T.2.1
    · exact Ne.symm l4F.2.1
    · exact Ne.symm (l4N q hq).2.1
    · exact Ne.symm lfT
    · exact hfF
    · exact Ne.symm (lfN q hq)
    · exact Ne.symm l4T.2.2
    · exact Ne.symm l4F.2.2
    · exact Ne.symm (l4N q hq).2.2
    · exact Ne.symm zTb
    · exact Ne.symm zFb
    · exact Ne.symm (zNb q hq)
  · refine ⟨i, r, f, ms, b, tP, uf, u1, u2, ki, kf, k1, k2, rfl, .head _, .tail _ (.head _), .tail _ (.tail _ (.head _)), .tail _ (.tail _ (.tail _ (.head _))), .tail _ (.tail _ (.tail _ (.tail _ (.head _)))), hIf, (by rw [hsel]; exact hJ1), (by rw [hsel]; exact hJ2)⟩
end Mine
end

section
namespace Mine
theorem rst_To7 : True := by w_top off; trivial
end Mine
local macro_rules | `(tactic| walk_at "mine pad") => `(tactic| fail "pad")
open PySem PySem.W PyProof.Rows PySem.Calls PySem.Spec
namespace Mine
local macro_rules | `(tactic| k_all) => `(tactic| assumption)
def toTarget : Expr := match (bodyAt 25).drop 2 with | .For t _ _ _ _ :: _ => t | _ => default
def toIter : Expr := match (bodyAt 25).drop 2 with | .For _ i _ _ _ :: _ => i | _ => default
structure ApartT (L T I : Addr) (news : List (Addr × Obj)) : Prop where
  o2 : ∀ p ∈ news, p.1 ≠ L + 1 + 1
  o3 : ∀ p ∈ news, p.1 ≠ T
  o4 : ∀ p ∈ news, p.1 ≠ I
  d2 : @Ne Nat T (L + 1 + 1)
  i2 : @Ne Nat I (L + 1 + 1)
  i3 : @Ne Nat I T
theorem ApartT.more {L T I : Addr} {news new : List (Addr × Obj)} {oD oT oI : Obj} (a : ApartT L T I news) (h : ∀ p ∈ new, ∀ q ∈ (T, oD) :: (L + 1 + 1, oT) :: (I, oI) :: news, p.1 ≠ q.1) : ApartT L T I (new ++ news) := by
  have h1 : ∀ p ∈ new, p.1 ≠ T ∧ p.1 ≠ L + 1 + 1 ∧ p.1 ≠ I := fun p hp => by
    have g := h p hp
    obtain ⟨g1, g⟩ := List.forall_mem_cons.mp g
    obtain ⟨g2, g⟩ := List.forall_mem_cons.mp g
    obtain ⟨g3, g⟩ := List.forall_mem_cons.mp g
    exact ⟨g1, g2, g3⟩
  exact ⟨fun p hp => (List.mem_append.mp hp).elim (fun q => (h1 p q).2.1) (a.o2 p), fun p hp => (List.mem_append.mp hp).elim (fun q => (h1 p q).1) (a.o3 p),
    fun p hp => (List.mem_append.mp hp).elim (fun q => (h1 p q).2.2) (a.o4 p), a.d2, a.i2, a.i3⟩
theorem list_in {h g : Heap} {L l : Addr} {h₀ : Heap} {m : Str → Option Value} {frs : List (Addr × Obj)} {outer : List Env} {its : Array Value} (F : Fr h₀ L h m) (N : News h₀ L h frs) (Fs : TI.Frs outer frs)
    (hg : ∀ b o, h.get? b = some o → b ∉ L :: (([] : List (Addr × Obj)) ++ frs).map (fun x => x.1) → g.get? b = some o) (hl : h.IsList l its) : g.IsList l its := by
  obtain ⟨o, ho, hc, n, hd⟩ := hl
  refine ⟨o, hg l o ho fun hm => ?_, hc, n, hd⟩
  rcases List.mem_cons.mp hm with e | hm
  · obtain ⟨oL, es, ep, hL, hLd, _⟩ := F.ns
    rw [e, hL] at ho
    obtain rfl := Option.some.inj ho
    rw [hLd] at hd
    cases hd
  · rw [List.nil_append] at hm
    obtain ⟨x, hx, e⟩ := List.mem_map.mp hm
    obtain ⟨es, ep, hxd⟩ := Fs.dict x hx
    have zx := (N x hx).1
    have e' : x.1 = l := e
    rw [e', ho] at zx
    rw [← Option.some.inj zx, hd] at hxd
    cases hxd
set_option maxRecDepth 100000 in
set_option maxHeartbeats 8000000 in
theorem to_step {w : World} {s₀ : Shared} {mg mb : Str → Option Value} {dp un : Nat} {gd : Option (List Code)} {cn : Str} {cs : Scope} {a : Addr} {ccd : Value} {cl : List (Str × Addr)} {outer : List Env} {h₀ : Heap} {L L' : Addr} {m : Str → Option Value} {news : List (Addr × Obj)} {rest : List Itm} {s : Shared} {Q : Flow → Shared → Prop} {E : Value → Shared → Prop} {T I D l l0 : Addr} {lo : Obj} {vs us ys : List Value} {kT : Nat} {ks : List Nat} {rows rr : List (List Int)} {r1 r2 : List Int} {fr : List (Addr × Obj)} {oP oF : Obj} {xF : Option Value} :
    (hd.heap_39 w.params).In h₀ → Top hd.view_39 (looseW hd.view_39 []) (ExcName.means s₀.heap) mg mb h₀ → dp + 14 < recursionLimit → un + 160 < cLine →
    cs.kind = .function → TI.Frs (envX cn cs L a ccd cl :: outer) fr → ApF news fr → (∀ x ∈ fr, x.1 ≠ I) →
    m (Str.ofString "told") = some (.ref T) → Picks news l rows us ks → sel rows ks = r1 :: r2 :: rr → (L' + 1, oP) ∈ news → oP.data = .cell (some (.ref D)) → (D, LCg.lst ys) ∈ news → StrsAre ys (rows.map fun r => pathOf (octs r)) → oF.data = .cell xF →
    rows.length ≤ 10 → (∀ r ∈ rows, NumsOk r) → (∀ r ∈ rows, r.length ≤ 20) → ApartT L' T I news → vs.length ≤ 100 → (l0, lo) ∈ news →
    (∀ m' i k' oF' xF' fr' new, m' (Str.ofString "told") = some (.ref T) → oF'.data = .cell xF' → TI.SameUp fr fr' → ApF (new ++ news) fr' → ApartT L' T I (new ++ news) → ItemIn new (.ref i) (dueD (sel rows ks) r1 r2).p (dueD (sel rows ks) r1 r2).fs (dueD (sel rows ks) r1 r2).ls (dueD (sel rows ks) r1 r2).ms →
      ItemsRest PySem.Challenge.rw_rt0029_01.row.prog w ((ktrTop dp un gd cn cs L a ccd cl outer).deeper (envOfC (Str.ofString "_law_told") toScope L' 167 (.ref 166))) E h₀ (envOfC (Str.ofString "_law_told") toScope L' 167 (.ref 166)) toTarget toBody Q s [(I, "list_iterator")] [(l0, lo)] rest m' ((T, W.listOf (vs ++ [Value.ref i]).toArray k') :: (L' + 1 + 1, oF') :: ((new ++ news) ++ fr'))) →
    ItemsRest PySem.Challenge.rw_rt0029_01.row.prog w ((ktrTop dp un gd cn cs L a ccd cl outer).deeper (envOfC (Str.ofString "_law_told") toScope L' 167 (.ref 166))) E h₀ (envOfC (Str.ofString "_law_told") toScope L' 167 (.ref 166)) toTarget toBody Q s [(I, "list_iterator")] [(l0, lo)] (.val (.ref l) :: rest) m ((T, W.listOf vs.toArray kT) :: (L' + 1 + 1, oF) :: (news ++ fr)) := by
  k_fill
  intro X T' hd hu hck Fs hnd hfI hm0 hpk hsel hP hPd hD hY hF hrl hok hrb hA hvl hkeep cont
  (conv in (occs := *) toTarget => all_goals whnf)
  refine ItemsRest.val ?_
  intro h tk F
  refine AllObj.cons fun oI hI => AllObj.nil ?_
  intro N
  dsimp only [List.cons_append, List.nil_append] at N
  refine wpAny_assign_Name (wpAny_storeName_local (by with_unfolding_all rfl) F.ns (fun h₂ hn₂ hs₂ => ?_) (by with_unfolding_all rfl))
  have hL₀ : h₀.get? L' = none := Heap.get?_none_of_le F.above
  have F2 : Fr h₀ L' h₂ (fun x => if x = Str.ofString "some" then some (Value.ref l) else m x) := ⟨hn₂, fun b o e => hs₂.extBut b o (fun q => by rw [q] at e; exact absurd (hL₀.symm.trans e) (by simp)) (F.keep b o e), F.above⟩
  have N2 : News h₀ L' h₂ ((T, W.listOf vs.toArray kT) :: (L' + 1 + 1, oF) :: (((I, oI) :: news) ++ fr)) := fun p hp => by
    have hp' : p ∈ (I, oI) :: (T, W.listOf vs.toArray kT) :: (L' + 1 + 1, oF) :: (news ++ fr) := by
      simp only [List.mem_cons, List.mem_append, List.cons_append] at hp ⊢
      rcases hp with h | h | h | h | h <;> simp [h]
    exact ⟨hs₂.extBut _ _ (N p hp').2.1 (N p hp').1, (N p hp').2⟩
  have upI : ∀ p ∈ news, p ∈ (I, oI) :: news := fun p hp => .tail _ hp
  refine to_turn (news := (I, oI) :: news) X T' F2 N2 hd hu hck Fs (hnd.cons hfI) hm0 rfl (hpk.mono upI) hsel (upI _ hP) hPd (upI _ hD) hY hF hrl hok hrb (List.forall_mem_cons.mpr ⟨hA.i2, hA.o2⟩) (List.forall_mem_cons.mpr ⟨hA.i3, hA.o3⟩) hA.d2 hvl ?_
  clear F N F2 N2
  intro h' tk' m' i k' oF' xF' fr' new F3 hm3 SU N3 hF' hap hnew hitem
  have N4 : News h₀ L' h' ([(I, oI)] ++ ((T, W.listOf (vs ++ [Value.ref i]).toArray k') :: (L' + 1 + 1, oF') :: ((new ++ news) ++ fr'))) := drop_news N3 fun p hp => by
    simp only [List.mem_cons, List.mem_append, List.not_mem_nil, or_false] at hp ⊢
    rcases hp with h | h | h | (h | h) | h <;> simp [h]
  have hI2 : ∀ p ∈ new, p.1 ≠ I := fun p hp => hnew p hp (I, oI) (.tail _ (.tail _ (.head _)))
  refine ⟨h', tk', m', _, rfl, F3, N4, ?_, ⟨?_, trivial⟩, cont m' i k' oF' xF' fr' new hm3 hF' SU (hap.app (hnd.up SU)) (hA.more hnew) hitem⟩
  · intro p hp q hq
    rw [List.mem_singleton.mp hq]
    rcases List.mem_cons.mp hp with rfl | hp
    · exact Ne.symm hA.i3
    rcases List.mem_cons.mp hp with rfl | hp
    · exact Ne.symm hA.i2
    rcases List.mem_append.mp hp with hp | hp
    · rcases List.mem_append.mp hp with hp | hp
      · exact hI2 p hp
      · exact hA.o4 p hp
    · exact sameUp_off (P := fun a => a ≠ I) SU hfI p hp
  · exact .tail _ (.tail _ (List.mem_append_left _ (List.mem_append_right _ hkeep)))
set_option maxRecDepth 100000 in
set_option maxHeartbeats 8000000 in
theorem to_loop {w : World} {s₀ : Shared} {mg mb : Str → Option Value} {dp un : Nat} {gd : Option (List Code)} {cn : Str} {cs : Scope} {a : Addr} {ccd : Value} {cl : List (Str × Addr)} {outer : List Env} {h₀ : Heap} {L L' : Addr} {m : Str → Option Value} {news : List (Addr × Obj)} {s : Shared} {Q : Flow → Shared → Prop} {E : Value → Shared → Prop} {D : Addr} {ys : List Value} {r0 r1 r2 : List Int} {fr : List (Addr × Obj)} {oP oF : Obj} {xF : Option Value} :
    (hd.heap_39 w.params).In h₀ → Top hd.view_39 (looseW hd.view_39 []) (ExcName.means s₀.heap) mg mb h₀ →
    Fr h₀ L' s.heap m → News h₀ L' s.heap ((L' + 1 + 1, oF) :: (news ++ fr)) → dp + 14 < recursionLimit → un + 160 < cLine →
    cs.kind = .function → TI.Frs (envX cn cs L a ccd cl :: outer) fr → ApF news fr → (L' + 1, oP) ∈ news → oP.data = .cell (some (.ref D)) → (D, LCg.lst ys) ∈ news → StrsAre ys ([r0, r1, r2].map fun r => pathOf (octs r)) → oF.data = .cell xF →
    (∀ r ∈ [r0, r1, r2], NumsOk r) → (∀ r ∈ [r0, r1, r2], r.length ≤ 20) → (∀ p ∈ news, p.1 ≠ L' + 1 + 1) →
    (∀ h' tk' T fr' m', Fr h₀ L' h' m' → TI.SameUp fr fr' → News h₀ L' h' fr' → ItemsAt h' (.ref T) (dueF r0 r1 r2) → Q (.ret (.ref T)) { s with heap := h', toks := tk' }) →
    wpAny (model PySem.Challenge.rw_rt0029_01.row.prog w) ((ktrTop dp un gd cn cs L a ccd cl outer).deeper (envOfC (Str.ofString "_law_told") toScope L' 167 (.ref 166))) (execs ((bodyAt 25).drop 1) (envOfC (Str.ofString "_law_told") toScope L' 167 (.ref 166))) Q (fun _ _ => False) s := by
  k_fill
  intro X T' F N hd hu hck Fs hap hP hPd hD hY hF hok hrb off2 hret
  (conv in (occs := *) toScope => all_goals whnf)
  (conv in (List.drop _ _) => whnf)
  repeat' ((fail_if_success (with_reducible show wpAny _ _ (exec (Stmt.For _ _ _ _ _) _) _ _ _)); first | (k_unfold; (try dsimp only)) | (k_end; wrow_close) | walk1 | (dsimp only; walk1) | (dsimp only; k_unfold; (try dsimp only)) | (leave1; try dsimp only) | fail "no step")
  (rename Fr h₀ _ _ _ => F6)
  change wpAny _ _ (exec (Stmt.For _ toIter _ _ _) _) _ _ _
  have hs9 : ∀ x, foldedSetIterable toIter (envOfC (Str.ofString "_law_told") toScope L' 167 (.ref 166)) x = pure x := fun _ => rfl
  generalize hIt : toIter = it at hs9 ⊢
  (with_unfolding_all refine' For_turns (hs := hs9) F6 ?_)
  subst hIt
  (conv in toIter => whnf)
  repeat' ((fail_if_success (with_reducible show wpAny _ _ (pyIter _) (fun it s₂ => TurnsAt _ _ _ _ _ _ _ _ _ it s₂) _ _)); first | (k_unfold; (try dsimp only)) | (k_end; wrow_close) | walk1 | (dsimp only; walk1) | (dsimp only; k_unfold; (try dsimp only)) | (leave1; try dsimp only) | fail "no step")
  (rename Fr h₀ _ _ _ => F7)
  (rename News h₀ _ _ _ => N7)
  obtain ⟨l0, q⟩ := news_nm 0 N7 rfl
  subst q
  obtain ⟨l4, q⟩ := news_nm 1 N7 rfl
  subst q
  obtain ⟨l3, q⟩ := news_nm 2 N7 rfl
  subst q
  obtain ⟨l2, q⟩ := news_nm 3 N7 rfl
  subst q
  obtain ⟨l1, q⟩ := news_nm 4 N7 rfl
  subst q
  obtain ⟨T, q⟩ := news_nm 5 N7 rfl
  subst q
  (rename (_ < _ ∧ AllLt _ _) => gT)
  (rename (_ < _ ∧ _ < _ ∧ AllLt _ _) => g1)
  (rename (_ < _ ∧ _ < _ ∧ _ < _ ∧ AllLt _ _) => g2)
  (rename (_ < _ ∧ _ < _ ∧ _ < _ ∧ _ < _ ∧ AllLt _ _) => g3)
  (rename (_ < _ ∧ _ < _ ∧ _ < _ ∧ _ < _ ∧ _ < _ ∧ AllLt _ _) => g4)
  (rename (_ < _ ∧ _ < _ ∧ _ < _ ∧ _ < _ ∧ _ < _ ∧ _ < _ ∧ AllLt _ _) => g0)
  have aT := ktn_ltOf gT.2
  have a1 := ktn_ltOf g1.2.2
  have a2 := ktn_ltOf g2.2.2.2
  have a3 := ktn_ltOf g3.2.2.2.2
  have a4 := ktn_ltOf g4.2.2.2.2.2
  have a0 := ktn_ltOf g0.2.2.2.2.2.2
  obtain ⟨n0, hn0⟩ : ∃ n0, n0 = [(l0, W.listOf #[.ref l1, .ref l2, .ref l3, .ref l4] 0), (l4, W.listOf #[.int 0 (tk + 1 + 1 + 1 + 1 + 1 + 1), .int 1 (tk + 1 + 1 + 1 + 1 + 1 + 1 + 1), .int 2 (tk + 1 + 1 + 1 + 1 + 1 + 1 + 1 + 1)] 0), (l3, W.listOf #[.int 1 (tk + 1 + 1 + 1 + 1), .int 2 (tk + 1 + 1 + 1 + 1 + 1)] 0), (l2, W.listOf #[.int 0 (tk + 1 + 1), .int 2 (tk + 1 + 1 + 1)] 0), (l1, W.listOf #[.int 0 tk, .int 1 (tk + 1)] 0)] ++ news := ⟨_, rfl⟩
  have hm0 : (l0, W.listOf #[.ref l1, .ref l2, .ref l3, .ref l4] 0) ∈ n0 := by rw [hn0]; exact .head _
  have hq4 : Picks n0 l4 [r0, r1, r2] [.int 0 (tk + 1 + 1 + 1 + 1 + 1 + 1), .int 1 (tk + 1 + 1 + 1 + 1 + 1 + 1 + 1), .int 2 (tk + 1 + 1 + 1 + 1 + 1 + 1 + 1 + 1)] [0, 1, 2] := ⟨⟨0, by rw [hn0]; exact .tail _ (.head _)⟩, .cons _ _ (.cons _ _ (.cons _ _ .nil)), by simp, by simp, by simp⟩
  have hq3 : Picks n0 l3 [r0, r1, r2] [.int 1 (tk + 1 + 1 + 1 + 1), .int 2 (tk + 1 + 1 + 1 + 1 + 1)] [1, 2] := ⟨⟨0, by rw [hn0]; exact .tail _ (.tail _ (.head _))⟩, .cons _ _ (.cons _ _ .nil), by simp, by simp, by simp⟩
  have hq2 : Picks n0 l2 [r0, r1, r2] [.int 0 (tk + 1 + 1), .int 2 (tk + 1 + 1 + 1)] [0, 2] := ⟨⟨0, by rw [hn0]; exact .tail _ (.tail _ (.tail _ (.head _)))⟩, .cons _ _ (.cons _ _ .nil), by simp, by simp, by simp⟩
  have hq1 : Picks n0 l1 [r0, r1, r2] [.int 0 tk, .int 1 (tk + 1)] [0, 1] := ⟨⟨0, by rw [hn0]; exact .tail _ (.tail _ (.tail _ (.tail _ (.head _))))⟩, .cons _ _ (.cons _ _ .nil), by simp, by simp, by simp⟩
  have un : ∀ p ∈ news, p ∈ n0 := fun p hp => by rw [hn0]; exact List.mem_append_right _ hp
  have N8 : News h₀ L' _ ((T, W.listOf ([] : List Value).toArray 0) :: (L' + 1 + 1, oF) :: (n0 ++ fr)) := drop_news N7 fun p hp => by
    rw [hn0] at hp
    simp only [List.mem_cons, List.mem_append, List.not_mem_nil, false_or, List.cons_append, List.nil_append] at hp ⊢
    rcases hp with h | h | h | h | h | h | h | h | h <;> simp [h]
  have hap0 : ApF n0 fr := by
    rw [hn0]
    exact ApF.app (List.forall_mem_cons.mpr ⟨fun x hx => Nat.ne_of_lt (a0 x (List.mem_append_right _ hx)), List.forall_mem_cons.mpr ⟨fun x hx => Nat.ne_of_lt (a4 x (List.mem_append_right _ hx)), List.forall_mem_cons.mpr ⟨fun x hx => Nat.ne_of_lt (a3 x (List.mem_append_right _ hx)), List.forall_mem_cons.mpr ⟨fun x hx => Nat.ne_of_lt (a2 x (List.mem_append_right _ hx)), List.forall_mem_singleton.mpr (fun x hx => Nat.ne_of_lt (a1 x (List.mem_append_right _ hx)))⟩⟩⟩⟩) hap
  (with_unfolding_all refine iter_listTurns (lo := W.listOf #[.ref l1, .ref l2, .ref l3, .ref l4] 0) (vs := [.ref l1, .ref l2, .ref l3, .ref l4]) (by rfl) F7 N8 (.tail _ (.tail _ (List.mem_append_left _ hm0))) (by rfl) (by rfl) ?_)
  clear F7 N7 N8
  intro I hI
  have hIT := ltN (hI _ (.head _))
  have hIF := ltN (hI _ (.tail _ (.head _)))
  dsimp only at hIT hIF
  have hIn : ∀ p ∈ n0, p.1 ≠ I := fun p hp => Nat.ne_of_lt (hI p (.tail _ (.tail _ (List.mem_append_left _ hp))))
  have hIf : ∀ x ∈ fr, x.1 ≠ I := fun p hp => Nat.ne_of_lt (hI p (.tail _ (.tail _ (List.mem_append_right _ hp))))
  have hA0 : ApartT L' T I n0 := by
    refine ⟨?_, ?_, hIn, neN (by omega), neN (by omega), neN (by omega)⟩
    · rw [hn0]
      exact List.forall_mem_append.mpr ⟨List.forall_mem_cons.mpr ⟨neN (by dsimp only; omega), List.forall_mem_cons.mpr ⟨neN (by dsimp only; omega), List.forall_mem_cons.mpr ⟨neN (by dsimp only; omega), List.forall_mem_cons.mpr ⟨neN (by dsimp only; omega), List.forall_mem_singleton.mpr (neN (by dsimp only; omega))⟩⟩⟩⟩, off2⟩
    · rw [hn0]
      exact List.forall_mem_append.mpr ⟨List.forall_mem_cons.mpr ⟨neN (by dsimp only; omega), List.forall_mem_cons.mpr ⟨neN (by dsimp only; omega), List.forall_mem_cons.mpr ⟨neN (by dsimp only; omega), List.forall_mem_cons.mpr ⟨neN (by dsimp only; omega), List.forall_mem_singleton.mpr (neN (by dsimp only; omega))⟩⟩⟩⟩, fun p hp => Nat.ne_of_lt (aT p (List.mem_append_left _ hp))⟩
  (with_unfolding_all refine' to_step (rows := [r0, r1, r2]) (r1 := r0) (r2 := r1) X T' hd hu hck Fs hap0 hIf ?hm hq1 rfl (un _ hP) hPd (un _ hD) hY hF (by simp) hok hrb hA0 (Nat.zero_le _) hm0 ?_)
  (case hm => exact rfl)
  intro m1' e1 k1 oF1 xF1 fr1 n1 hm1 hF1 SU1 ap1 hA1 it1
  have Fs1 := Fs.up SU1
  have un1 : ∀ p ∈ n0, p ∈ n1 ++ n0 := fun p hp => List.mem_append_right _ hp
  (with_unfolding_all refine' to_step (rows := [r0, r1, r2]) (r1 := r0) (r2 := r2) X T' hd hu hck Fs1 ap1 (sameUp_off (P := fun a => a ≠ I) SU1 hIf) hm1 (hq2.mono un1) rfl (un1 _ (un _ hP)) hPd (un1 _ (un _ hD)) hY hF1 (by simp) hok hrb hA1 (by simp) (un1 _ hm0) ?_)
  intro m2' e2 k2 oF2 xF2 fr2 n2 hm2 hF2 SU2 ap2 hA2 it2
  have Fs2 := Fs1.up SU2
  have un2 : ∀ p ∈ n0, p ∈ n2 ++ (n1 ++ n0) := fun p hp => List.mem_append_right _ (un1 p hp)
  (with_unfolding_all refine' to_step (rows := [r0, r1, r2]) (r1 := r1) (r2 := r2) X T' hd hu hck Fs2 ap2 (sameUp_off (P := fun a => a ≠ I) (SU1.trans SU2) hIf) hm2 (hq3.mono un2) rfl (un2 _ (un _ hP)) hPd (un2 _ (un _ hD)) hY hF2 (by simp) hok hrb hA2 (by simp) (un2 _ hm0) ?_)
  intro m3' e3 k3 oF3 xF3 fr3 n3 hm3 hF3 SU3 ap3 hA3 it3
  have Fs3 := Fs2.up SU3
  have un3 : ∀ p ∈ n0, p ∈ n3 ++ (n2 ++ (n1 ++ n0)) := fun p hp => List.mem_append_right _ (un2 p hp)
  (with_unfolding_all refine' to_step (rows := [r0, r1, r2]) (r1 := r0) (r2 := r1) X T' hd hu hck Fs3 ap3 (sameUp_off (P := fun a => a ≠ I) ((SU1.trans SU2).trans SU3) hIf) hm3 (hq4.mono un3) rfl (un3 _ (un _ hP)) hPd (un3 _ (un _ hD)) hY hF3 (by simp) hok hrb hA3 (by simp) (un3 _ hm0) ?_)
  intro m4' e4 k4 oF4 xF4 fr4 n4 hm4 hF4 SU4 ap4 hA4 it4
  refine ItemsRest.zero ?_
  intro h9 tk9 F9 N9
  have J1 : ItemAt h9 (.ref e1) _ _ _ _ := (it1.mono fun p hp => .tail _ (.tail _ (List.mem_append_left _ (List.mem_append_right n4 (List.mem_append_right n3 (List.mem_append_right n2 (List.mem_append_left _ hp))))))).at N9
  have J2 : ItemAt h9 (.ref e2) _ _ _ _ := (it2.mono fun p hp => .tail _ (.tail _ (List.mem_append_left _ (List.mem_append_right n4 (List.mem_append_right n3 (List.mem_append_left _ hp)))))).at N9
  have J3 : ItemAt h9 (.ref e3) _ _ _ _ := (it3.mono fun p hp => .tail _ (.tail _ (List.mem_append_left _ (List.mem_append_right n4 (List.mem_append_left _ hp))))).at N9
  have J4 : ItemAt h9 (.ref e4) _ _ _ _ := (it4.mono fun p hp => .tail _ (.tail _ (List.mem_append_left _ (List.mem_append_left _ hp)))).at N9
  have JD : h9.IsList T (([] : List Value) ++ [Value.ref e1] ++ [Value.ref e2] ++ [Value.ref e3] ++ [Value.ref e4]).toArray := ⟨_, (N9 _ (.head _)).1, rfl, _, rfl⟩
  have JA : ItemsAt h9 (.ref T) (dueF r0 r1 r2) := ⟨T, _, rfl, JD, J1, J2, J3, J4, trivial⟩
  have N10 : News h₀ L' h9 fr4 := drop_news N9 fun p hp => .tail _ (.tail _ (List.mem_append_right _ hp))
  have SU := ((SU1.trans SU2).trans SU3).trans SU4
  clear N9
  replace F9 := ksw_fr (stored := []) (m₀ := m4') (ps := [(Str.ofString "told", .ref T)]) (List.forall_mem_singleton.mpr hm4) (fun _ _ _ => rfl) F9
  dsimp only [kstB] at F9
  (try dsimp only)
  repeat' (first | (k_unfold; (try dsimp only)) | (k_end; wrow_close) | walk1 | (dsimp only; walk1) | (dsimp only; k_unfold; (try dsimp only)) | (leave1; try dsimp only) | fail "no step")
  exact hret _ _ T fr4 _ F9 SU N10 JA
end Mine
end

section
namespace Mine
theorem rst_To8 : True := by w_top off; trivial
end Mine
open PySem PySem.W PyProof.Rows PySem.Calls PySem.Spec
namespace Mine
local macro_rules | `(tactic| k_all) => `(tactic| assumption)
set_option maxRecDepth 100000 in
set_option maxHeartbeats 8000000 in
theorem told_spec {w : World} {s₀ : Shared} {mg mb : Str → Option Value} {dp un : Nat} {gd : Option (List Code)} {cn : Str} {cs : Scope} {a : Addr} {ccd : Value} {cl : List (Str × Addr)} {outer : List Env} {h₀ : Heap} {L : Addr} {m : Str → Option Value} {frs rest : List (Addr × Obj)} {s : Shared}
    {Q E : Value → Shared → Prop} {l a0 a1 a2 : Addr} {u0 u1 u2 : List Value} {r0 r1 r2 : List Int} :
    (hd.heap_39 w.params).In h₀ → Top hd.view_39 (looseW hd.view_39 []) (ExcName.means s₀.heap) mg mb h₀ →
    Fr h₀ L s.heap m → News h₀ L s.heap (([] : List (Addr × Obj)) ++ frs) → TI.Frs outer frs → News h₀ L s.heap rest → (∀ p ∈ rest, p.1 ∉ (([] : List (Addr × Obj))).map (·.1)) → (∀ p ∈ rest, ∀ x ∈ frs, x.1 ≠ p.1) → cs.kind = .function → dp + 16 < recursionLimit → un + 180 < cLine →
    s.heap.IsList l #[.ref a0, .ref a1, .ref a2] → s.heap.IsList a0 u0.toArray → s.heap.IsList a1 u1.toArray → s.heap.IsList a2 u2.toArray → IntsAre u0 r0 → IntsAre u1 r1 → IntsAre u2 r2 → (∀ r ∈ [r0, r1, r2], NumsOk r) → (∀ r ∈ [r0, r1, r2], r.length ≤ 20) →
    (∀ r h' tk' frs₂, TI.SameUp frs frs₂ → Fr h₀ L h' m → News h₀ L h' (frs₂ ++ rest) → ItemsAt h' (.ref r) (dueF r0 r1 r2) → Q (.ref r) { s with heap := h', toks := tk' }) →
    wpAny (model PySem.Challenge.rw_rt0029_01.row.prog w) (ktrTop dp un gd cn cs L a ccd cl outer) (call (.ref 167) [.ref l]) Q E s := by
  k_fill
  intro X T F N Fs Nr hrm hrd hk hd hu hl hl0 hl1 hl2 hi0 hi1 hi2 hok hrb hret
  have N0 : News h₀ L s.heap frs := N
  refine wpAny_call ?_
  k_dflt (refine' enter_frsC (env := envX cn cs L a ccd cl) (binds := [(Str.ofString "rows", .ref l)]) F N Fs ?k3 ?k5 ?kF ?kK ?k6 ?k7 ?k8 ?k9 ?kB ?kD ?_ ?c2 ?c3 ?c4; (case kF => exact rfl); (case kK => assumption); (case k3 => k_asm); (case k5 => k_asm); (case k6 => k_is); (case k7 => k_is); (case k8 => ktr_room); (case k9 => exact BindsTo.of_eq rfl); (case kB => exact rfl); (case kD => decide +kernel); (case c2 => exact rfl); (case c3 => exact rfl); (case c4 => exact rfl); k_whole; intro g' L' h' oL' tk' cells' hg1 hg2 hL' Fs' F' N' Y' X' T' l1; k_cells Y'; (try simp only [List.cons_append, List.nil_append] at N'); (try dsimp only); (try k_fold))
  have gl := list_in F N0 Fs hg1 hl
  have gl0 := list_in F N0 Fs hg1 hl0
  have gl1 := list_in F N0 Fs hg1 hl1
  have gl2 := list_in F N0 Fs hg1 hl2
  replace F' := fr_same (m' := fun y => if y = Str.ofString "rows" then some (.ref l) else none) F' (fun z => by with_unfolding_all rfl)
  (try dsimp only [List.cons_append, List.nil_append] at N')
  obtain ⟨oF, q⟩ := news_ob 0 N' rfl
  subst q
  obtain ⟨oP, q⟩ := news_ob 1 N' rfl
  subst q
  (rename Obj.data _ = Data.cell (bindC _ _ _ (Str.ofString "first")) => hcF)
  (rename Obj.data _ = Data.cell (bindC _ _ _ (Str.ofString "paths")) => hcP)
  have lfr : ∀ p ∈ (L, oL') :: frs, p.1 < L' := l1
  repeat' ((fail_if_success (with_reducible show wpAny _ _ (exec (Stmt.Assign _ (Expr.ListComp _ _ _ _) _) _) _ _ _)); first | (k_unfold; (try dsimp only)) | (k_end; wrow_close) | walk1 | (dsimp only; walk1) | (dsimp only; k_unfold; (try dsimp only)) | (leave1; try dsimp only) | fail "no step")
  have hRA : RowsAt g' [.ref a0, .ref a1, .ref a2] [r0, r1, r2] := .cons gl0 hi0 (.cons gl1 hi1 (.cons gl2 hi2 .nil))
  (with_unfolding_all refine' to_paths (vs := [.ref a0, .ref a1, .ref a2]) (news := (L, oL') :: frs) X' T' F' N' ?hd ?hu ?hm gl hRA (by simp) hok hrb hcP hcF (fun p hp => Nat.ne_of_lt (Nat.lt_succ_of_lt (lfr p hp))) (fun p hp => Nat.ne_of_lt (Nat.lt_succ_of_lt (Nat.lt_succ_of_lt (lfr p hp)))) ?_)
  (case hd => omega)
  (case hu => omega)
  (case hm => exact rfl)
  clear F' N'
  intro h3 tk3 D ys oP' F3 N3 hP3 hY l3
  obtain ⟨q1, l4⟩ := List.forall_mem_cons.mp l3
  obtain ⟨q2, l5⟩ := List.forall_mem_cons.mp l4
  have N4 : News g' L' h3 ((L' + 1 + 1, oF) :: ([(D, LCg.lst ys), (L' + 1, oP')] ++ ((L, oL') :: frs))) := drop_news N3 fun p hp => by
    simp only [List.mem_cons, List.mem_append, List.not_mem_nil, or_false] at hp ⊢
    rcases hp with h | (h | h) | h <;> simp [h]
  have ap : ApF [(D, LCg.lst ys), (L' + 1, oP')] ((L, oL') :: frs) := List.forall_mem_cons.mpr ⟨fun x hx => l5 x hx, List.forall_mem_singleton.mpr fun x hx => Nat.ne_of_lt (Nat.lt_succ_of_lt (lfr x hx))⟩
  (with_unfolding_all refine' wpAny_noRaise (to_loop (E := fun _ _ => False) X' T' F3 N4 ?hd ?hu ?hck Fs' ap (.tail _ (.head _)) hP3 (.head _) hY hcF hok hrb ?off ?_))
  (case hd => omega)
  (case hu => omega)
  (case hck => exact hk)
  (case off => exact List.forall_mem_cons.mpr ⟨Ne.symm q1, List.forall_mem_singleton.mpr (neN (by dsimp only; omega))⟩)
  clear F3 N3 N4
  intro h9 tk9 R fr9 m9 F9 SU N9 hJ
  obtain ⟨frs₂, R0, R1, R2⟩ := ret_frs F N Fs Nr hrm hrd hg1 hg2 hL' F9 N9 SU (out := []) (fun p hp => hp) rfl
  exact hret _ _ _ frs₂ R0 R1 R2 hJ
end Mine
end

section
namespace Mine
theorem rst_S5 : True := by w_top off; trivial
end Mine
local macro_rules | `(tactic| walk_at "mine pad") => `(tactic| fail "pad")
open PySem PySem.W PyProof.Rows PySem.Calls PySem.Spec
namespace Mine

def bitF (k : Nat) (n : Int) : Bool := decide (((n.fdiv (2 ^ k)).fmod 2) = 1)
def rowF (k : Nat) (ns : List Int) : List Int := ns.flatMap fun n => if bitF k n then [(n.fdiv 8).fmod 300000] else []
theorem rowF_snoc (k : Nat) (ns : List Int) (n : Int) : rowF k (ns ++ [n]) = rowF k ns ++ (if bitF k n then [(n.fdiv 8).fmod 300000] else []) := by
  simp [rowF]
theorem rowF_len (k : Nat) : ∀ ns : List Int, (rowF k ns).length ≤ ns.length
  | [] => by simp [rowF]
  | n :: r => by
    have h := rowF_len k r
    unfold rowF at *
    rw [List.flatMap_cons, List.length_append, List.length_cons]
    split
    · rw [List.length_singleton]; omega
    · rw [List.length_nil]; omega
def nums (ns : List Int) : List Int := ns.take 6 ++ [47, 33295, 2153, 2146, 57, 57, 58, 74]
local macro_rules | `(tactic| walk_at "UnrEnd") => `(tactic| (k_here; (rename (_ ∧ _ ∧ _ ∧ _ ∧ _ ∧ AllLt _ _) => l9); (rename News _ _ _ _ => N9); (refine UnrEnd.intro (by assumption) N9 _ (fun p hp => hp) (List.forall_mem_cons.mpr ⟨Nat.ne_of_lt l9.1, List.forall_mem_cons.mpr ⟨Nat.ne_of_lt l9.2.1, List.forall_mem_cons.mpr ⟨Nat.ne_of_lt l9.2.2.1, List.forall_mem_cons.mpr ⟨Nat.ne_of_lt l9.2.2.2.1, List.forall_mem_cons.mpr ⟨Nat.ne_of_lt l9.2.2.2.2.1, fun p hp => Nat.ne_of_lt (ktn_ltOf l9.2.2.2.2.2 p hp)⟩⟩⟩⟩⟩) ?_)))
set_option maxRecDepth 100000 in
set_option maxHeartbeats 8000000 in
theorem rows_spec {w : World} {s₀ : Shared} {mg mb : Str → Option Value} {dp un : Nat} {gd : Option (List Code)} {cn : Str} {cs : Scope} {a : Addr} {ccd : Value} {cl : List (Str × Addr)} {outer : List Env} {h₀ : Heap} {L : Addr} {m : Str → Option Value} {news : List (Addr × Obj)} {s : Shared}
    {Q E : Value → Shared → Prop} {l : Addr} {vs : List Value} {ns : List Int} :
    (hd.heap_39 w.params).In h₀ → Top hd.view_39 (looseW hd.view_39 []) (ExcName.means s₀.heap) mg mb h₀ →
    Fr h₀ L s.heap m → News h₀ L s.heap news → cs.kind = .function → dp + 4 < recursionLimit → un + 40 < cLine →
    s.heap.IsList l vs.toArray → IntsAre vs ns → ns.length ≤ 63 → 
    (∀ r a0 a1 a2 h' tk' u0 u1 u2 k0 k1 k2, IntsAre u0 (rowF 0 (nums ns)) → IntsAre u1 (rowF 1 (nums ns)) → IntsAre u2 (rowF 2 (nums ns)) → Fr h₀ L h' m →
      News h₀ L h' ([(r, W.listOf #[.ref a0, .ref a1, .ref a2] 0), (a2, W.listOf u2.toArray k2), (a1, W.listOf u1.toArray k1), (a0, W.listOf u0.toArray k0)] ++ news) → s.heap.StaysIn h' →
      (∀ p ∈ news, ∀ q ∈ [(r, W.listOf #[.ref a0, .ref a1, .ref a2] 0), (a2, W.listOf u2.toArray k2), (a1, W.listOf u1.toArray k1), (a0, W.listOf u0.toArray k0)], p.1 ≠ q.1) → Q (.ref r) { s with heap := h', toks := tk' }) →
    wpAny (model PySem.Challenge.rw_rt0029_01.row.prog w) (ktrTop dp un gd cn cs L a ccd cl outer) (call (.ref 148) [.ref l]) Q E s := by
  k_fill
  intro X T F N hk hd hu hl hI hx hret
  refine wpAny_call ?_
  k_dflt (refine' enter_pure (env := envX cn cs L a ccd cl) (binds := [(Str.ofString "script", .ref l)]) ?k2 ?k3 ?k5 ?kF ?kK ?k6 ?k7 ?k8 ?k9 ?kB ?_ ?c2 ?c3 ?c4 ?c5; (case kF => exact rfl); (case kK => assumption); (case k2 => k_asm); (case k3 => k_asm); (case k5 => k_asm); (case k6 => k_is); (case k7 => k_is); (case k8 => ktr_room); (case k9 => exact BindsTo.of_eq rfl); (case c5 => decide); (case kB => exact locs rfl); (case c2 => exact rfl); (case c3 => exact rfl); (case c4 => exact rfl); k_whole; intro L' h' F' N' X' T'; (try dsimp only); (try k_fold))
  repeat' ((fail_if_success (with_reducible show wpAny _ _ (exec (Stmt.For _ _ _ _ _) _) _ _ _)); first | (k_unfold; (try dsimp only)) | (k_end; wrow_close) | walk1 | (dsimp only; walk1) | (dsimp only; k_unfold; (try dsimp only)) | (leave1; try dsimp only) | fail "no step")
  (rename Fr s.heap _ _ _ => F1)
  (with_unfolding_all refine' For_invVF F1 ?k1 ?k2 ?_)
  (case k1 => exact rfl)
  (case k2 => exact rfl)
  repeat' ((fail_if_success (with_reducible show wpAny _ _ (pyIter _) _ _ _)); first | (k_unfold; (try dsimp only)) | (k_end; wrow_close) | walk1 | (dsimp only; walk1) | (dsimp only; k_unfold; (try dsimp only)) | (leave1; try dsimp only) | fail "no step")
  (rename Fr s.heap _ _ _ => F2)
  (rename News s.heap _ _ _ => N2)
  (rename IntsAre _ (_ ++ _) => hW)
  obtain ⟨ws, e⟩ := ints_name hW
  subst e
  obtain ⟨dD, e⟩ := news_nm 0 N2 rfl
  subst e
  obtain ⟨dR, e⟩ := news_nm 3 N2 rfl
  subst e
  obtain ⟨d2, e⟩ := news_nm 4 N2 rfl
  subst e
  obtain ⟨d1, e⟩ := news_nm 5 N2 rfl
  subst e
  obtain ⟨d0, e⟩ := news_nm 6 N2 rfl
  subst e
  (with_unfolding_all refine' kst_listL (σ := (List Value × Nat) × (List Value × Nat) × (List Value × Nat)) (fun c => [(dD, W.listOf ws.toArray 0), (dR, W.listOf #[.ref d0, .ref d1, .ref d2] 0), (d2, W.listOf c.2.2.1.toArray c.2.2.2), (d1, W.listOf c.2.1.1.toArray c.2.1.2), (d0, W.listOf c.1.1.toArray c.1.2)]) (fun _ => []) (fun _ => True) [Str.ofString "k"] (fun pre c => Hid (IntsAre c.1.1 (rowF 0 pre) ∧ IntsAre c.2.1.1 (rowF 1 pre) ∧ IntsAre c.2.2.1 (rowF 2 pre))) (([], 0), ([], 0), ([], 0)) rfl (fun _ => .head _) hW F2 (drop_news N2 ?k0) trivial ?k1 ?k2 ?_ ?_)
  (case k0 => k_allIn)
  (case k1 => exact List.forall_mem_nil _)
  (case k2 => exact ⟨IntsAre.nil, IntsAre.nil, IntsAre.nil⟩)
  · clear hW F2 N2
    rintro ⟨⟨u0, k0⟩, ⟨u1, k1⟩, ⟨u2, k2⟩⟩ pre post n t u h9 tk9 own hsp hmem hoff _ hP F2 N2
    dsimp only at hP hoff
    have hpl : pre.length < 14 := by
      have := congrArg List.length hsp
      simp only [List.length_append, List.length_cons, List.length_nil, List.length_take] at this
      omega
    have hz0 : u0.length ≤ 14 := by have := (Hid.out hP).1.length; have := rowF_len 0 pre; omega
    have hz1 : u1.length ≤ 14 := by have := (Hid.out hP).2.1.length; have := rowF_len 1 pre; omega
    have hz2 : u2.length ≤ 14 := by have := (Hid.out hP).2.2.length; have := rowF_len 2 pre; omega
    dsimp only [kstB, List.nil_append, List.cons_append] at F2 N2
    clear hsp hmem
    (try k_fold)
    repeat' (first | (k_unfold; (try dsimp only)) | (k_end; wrow_close) | walk1 | (dsimp only; walk1) | (dsimp only; k_unfold; (try dsimp only)) | (leave1; try dsimp only) | fail "no step")
    all_goals (
      (rename Fr s.heap _ _ _ => F9)
      (rename News s.heap _ _ _ => N9)
      (try simp only [List.push_toArray] at N9)
      refine kst_end ⟨(_, _), (_, _), (_, _)⟩ F9 N9 (by k_allIn) (fun p hp => by kst_mem) rfl trivial (List.forall_mem_nil _) ?_ ?_
      · (intro z h1 h2 h3; (simp only [List.contains_cons, List.contains_nil, Bool.or_false, Bool.or_eq_false_iff, beq_eq_false_iff_ne, ne_eq] at h3); (simp only [List.forall_mem_cons, List.not_mem_nil, false_implies, implies_true, and_true, ne_eq] at h2); (try simp only [h1, h2, h3, if_false]); (repeat' split) <;> first | rfl | (simp_all; done))
      · refine ⟨?_, ?_, ?_⟩
        · rw [rowF_snoc]
          first
            | (rw [if_pos (show bitF 0 n = true from decide_eq_true (by assumption))]; exact IntsAre.append (Hid.out hP).1 (by l_intsW))
            | (rw [if_neg (show ¬ bitF 0 n = true from fun h => absurd (of_decide_eq_true h) (by assumption)), List.append_nil]; exact (Hid.out hP).1)
        · rw [rowF_snoc]
          first
            | (rw [if_pos (show bitF 1 n = true from decide_eq_true (by assumption))]; exact IntsAre.append (Hid.out hP).2.1 (by l_intsW))
            | (rw [if_neg (show ¬ bitF 1 n = true from fun h => absurd (of_decide_eq_true h) (by assumption)), List.append_nil]; exact (Hid.out hP).2.1)
        · rw [rowF_snoc]
          first
            | (rw [if_pos (show bitF 2 n = true from decide_eq_true (by assumption))]; exact IntsAre.append (Hid.out hP).2.2 (by l_intsW))
            | (rw [if_neg (show ¬ bitF 2 n = true from fun h => absurd (of_decide_eq_true h) (by assumption)), List.append_nil]; exact (Hid.out hP).2.2))
  · clear hW F2 N2
    rintro ⟨⟨u0, k0⟩, ⟨u1, k1⟩, ⟨u2, k2⟩⟩ u h9 tk9 _ hP F2 N2
    dsimp only [kstB, List.nil_append, List.cons_append] at F2 N2 hP
    repeat' (first | (k_unfold; (try dsimp only)) | (k_end; wrow_close) | walk1 | (dsimp only; walk1) | (dsimp only; k_unfold; (try dsimp only)) | (leave1; try dsimp only) | fail "no step")
    (rename Fr s.heap _ _ _ => F9)
    (rename News s.heap _ _ _ => N9)
    obtain ⟨R1, R2, R3, R4⟩ := ret1 F N F9 N9 (out := [(dR, _), (d2, _), (d1, _), (d0, _)]) (by k_allIn)
    exact hret _ _ _ _ _ _ _ _ _ _ _ _ (Hid.out hP).1 (Hid.out hP).2.1 (Hid.out hP).2.2 R1 R2 R3 R4
end Mine
end

section
open PySem PySem.W PyProof.Rows PySem.Calls PySem.Spec
namespace Mine
section
variable {A : Around} {s : Shared}
theorem eq_str (p : Str) (t u : Tok) : SeqAt.EqAt A s (.str p t) (.str p u) true := by
  have h := SeqAt.EqAt.str_str (A := A) (s := s) p t p u
  rwa [beq_self_eq_true] at h
theorem eq_ints' {a b : Addr} {us vs : List Value} {ns : List Int} (h1 : s.heap.IsList a us.toArray) (i1 : IntsAre us ns) (h2 : s.heap.IsList b vs.toArray) (i2 : IntsAre vs ns) (hu : A.in1.units + 64 < cLine) : SeqAt.EqAt A.in1 s (.ref a) (.ref b) true := by
  have h := keq_ints h1 i1 h2 i2 hu
  rwa [decide_eq_true rfl] at h
theorem all_true (n : Nat) : (List.range n).all (fun _ => true) = true := by simp
theorem eq_pair {a b la lb ma mb : Addr} {ul um vl vm : List Value} {ls ms : List Int} (ta : s.heap.IsTuple a #[.ref la, .ref ma]) (tb : s.heap.IsTuple b #[.ref lb, .ref mb]) (h1 : s.heap.IsList la ul.toArray) (h2 : s.heap.IsList ma um.toArray) (h3 : s.heap.IsList lb vl.toArray) (h4 : s.heap.IsList mb vm.toArray)
    (i1 : IntsAre ul ls) (i2 : IntsAre um ms) (i3 : IntsAre vl ls) (i4 : IntsAre vm ms) (hu : A.units < cLine) (hu1 : A.in1.units + 64 < cLine) : SeqAt.EqAt A s (.ref a) (.ref b) true := by
  by_cases e : a = b
  · subst e; exact SeqAt.EqAt.same _
  · refine SeqAt.EqAt.of_refs e ?_
    have h := SeqAt.RcAt.tuples (A := A) (s := s) (e := fun _ => true) ta tb hu fun j g1 g2 => by
      match j, g1, g2 with
      | 0, _, _ => exact eq_ints' h1 i1 h3 i3 hu1
      | 1, _, _ => exact eq_ints' h2 i2 h4 i4 hu1
      | j + 2, g1, _ => exact absurd g1 (by simp)
    exact h
theorem eq_item {v v' : Value} {p : Str} {fs ls ms : List Int} (x : ItemAt s.heap v p fs ls ms) (y : ItemAt s.heap v' p fs ls ms) (hu : A.units < cLine) (hu1 : A.in1.units + 64 < cLine) (hu2 : A.in1.units < cLine) (hu3 : A.in1.in1.units + 64 < cLine) : SeqAt.EqAt A s v v' true := by
  obtain ⟨e, tp, f, la, mo, t, uf, ul, um, rfl, h1, h2, h3, h4, h5, i1, i2, i3⟩ := x
  obtain ⟨e', tp', f', la', mo', t', uf', ul', um', rfl, g1, g2, g3, g4, g5, j1, j2, j3⟩ := y
  by_cases q : e = e'
  · subst q; exact SeqAt.EqAt.same _
  · refine SeqAt.EqAt.of_refs q ?_
    have h := SeqAt.RcAt.lists (A := A) (s := s) (e := fun _ => true) h1 g1 rfl hu fun j k1 k2 => by
      match j, k1, k2 with
      | 0, _, _ => exact eq_str _ _ _
      | 1, _, _ => exact eq_ints' h3 i1 g3 j1 hu1
      | 2, _, _ => exact eq_pair h2 g2 h4 h5 g4 g5 i2 i3 j2 j3 hu2 hu3
      | j + 3, k1, _ => exact absurd k1 (by simp)
    exact h
theorem item_all {h : Heap} : ∀ {vs : List Value} {ds : List ItemD}, ItemAll h vs ds → vs.length = ds.length ∧ ∀ (j : Nat) (v : Value), vs[j]? = some v → ∃ d, ds[j]? = some d ∧ ItemAt h v d.p d.fs d.ls d.ms
  | [], [], _ => ⟨rfl, fun j v hv => by simp at hv⟩
  | v :: vs, d :: ds, x => by
    obtain ⟨h1, h2⟩ := item_all x.2
    refine ⟨by rw [List.length_cons, List.length_cons, h1], fun j w hw => ?_⟩
    cases j with
    | zero => obtain rfl : v = w := by simpa using hw
              exact ⟨d, rfl, x.1⟩
    | succ j => exact h2 j w (by simpa using hw)
theorem eq_items {prog : Program} {w : World} {E : Value → Shared → Prop} {Q : Value → Shared → Prop} {a b : Addr} {ds : List ItemD} (x : ItemsAt s.heap (.ref a) ds) (y : ItemsAt s.heap (.ref b) ds) (hu0 : A.units < cLine) (hu : A.in1.units < cLine) (hu1 : A.in1.in1.units + 64 < cLine) (hu2 : A.in1.in1.units < cLine) (hu3 : A.in1.in1.in1.units + 64 < cLine)
    (h : Q (.bool true) s) : wpAny (model prog w) A (compareOp .Eq (.ref a) (.ref b)) Q E s := by
  obtain ⟨r, vs, e, hl, ha⟩ := x
  obtain ⟨r', vs', e', hl', ha'⟩ := y
  cases e
  cases e'
  obtain ⟨n1, m1⟩ := item_all ha
  obtain ⟨n2, m2⟩ := item_all ha'
  refine SeqAt.eq_listAt (e := fun _ => true) hl hl' (by rw [List.size_toArray, List.size_toArray, n1, n2]) hu0 (fun j k1 k2 => ?_) (by rw [all_true]; exact h)
  obtain ⟨d, hd, z⟩ := m1 j (vs.toArray[j]) (by simp)
  obtain ⟨d', hd', z'⟩ := m2 j (vs'.toArray[j]) (by simp)
  rw [hd] at hd'
  obtain rfl := Option.some.inj hd'
  exact eq_item z z' hu hu1 hu2 hu3
end
theorem rowF_ok (k : Nat) (ns : List Int) : ∀ n ∈ ns.flatMap (fun n => if decide (((n.fdiv (2 ^ k)).fmod 2) = 1) then [(n.fdiv 8).fmod 300000] else []), 0 ≤ n ∧ n < 300000 := by
  intro n hn
  obtain ⟨x, _, hx⟩ := List.mem_flatMap.mp hn
  split at hx
  · rw [List.mem_singleton.mp hx]
    exact ⟨Int.fmod_nonneg_of_pos _ (by decide), Int.fmod_lt_of_pos _ (by decide)⟩
  · exact absurd hx (by simp)
end Mine
end

section
namespace Mine
theorem rst_Law : True := by w_top off; trivial
end Mine
open PySem PySem.W PyProof.Rows PySem.Calls PySem.Spec
namespace Mine
end Mine
open Mine
set_option maxRecDepth 100000 in
set_option maxHeartbeats 8000000 in
theorem PySem.Challenge.cw_rt0029_01_holds : PySem.Challenge.rw_rt0029_01.Holds := by
  exact Mine.hd (by
  k_go0
  (all_goals try k_fold)
  repeat' ((fail_if_success (with_reducible show wpAny _ _ (call (Value.ref 148) _ _) _ _ _)); first | (k_unfold; (try dsimp only)) | (k_end; wrow_close) | walk1 | (dsimp only; walk1) | (dsimp only; k_unfold; (try dsimp only)) | (leave1; try dsimp only) | fail "no step")
  (rename IntsAre _ _ => hI)
  (rename Heap.IsList _ _ _ => hIL)
  (rename Fr _ _ _ _ => F)
  (rename News _ _ _ _ => N)
  (rename (¬ (_ : Int) < _) => hc)
  (with_unfolding_all refine' rows_spec ?k1 ?k2 F N ?k6 ?k7 ?k8 (hIL.at fun o e => F.keep _ o e) hI ?hx ?_)
  (case k1 => k_asm)
  (case k2 => k_asm)
  (case k6 => exact rfl)
  (case k7 => ktr_room)
  (case k8 => ktr_units)
  (case hx => omega)
  clear F N
  intro r a0 a1 a2 h1 tk1 u0 u1 u2 k0 k1 k2 hJ0 hJ1 hJ2 F N S1 off
  repeat' ((fail_if_success (with_reducible show wpAny _ _ (call (Value.ref 167) _ _) _ _ _)); first | (k_unfold; (try dsimp only)) | (k_end; wrow_close) | walk1 | (dsimp only; walk1) | (dsimp only; k_unfold; (try dsimp only)) | (leave1; try dsimp only) | fail "no step")
  (rename Fr _ _ _ _ => F7)
  (rename News _ _ _ _ => N7)
  have hn : ∀ (k : Nat) (x : List Int), (nums x).length ≤ 14 → (rowF k (nums x)).length ≤ 20 := fun k x h => Nat.le_trans (rowF_len k (nums x)) (Nat.le_trans h (by decide))
  have hnum : ∀ x : List Int, (nums x).length ≤ 14 := fun x => by
    unfold nums
    rw [List.length_append, List.length_take]
    simp only [List.length_cons, List.length_nil]
    omega
  have hok : ∀ x : List Int, ∀ q ∈ [rowF 0 (nums x), rowF 1 (nums x), rowF 2 (nums x)], NumsOk q := fun x => List.forall_mem_cons.mpr ⟨rowF_ok 0 _, List.forall_mem_cons.mpr ⟨rowF_ok 1 _, List.forall_mem_singleton.mpr (rowF_ok 2 _)⟩⟩
  have hrb : ∀ x : List Int, ∀ q ∈ [rowF 0 (nums x), rowF 1 (nums x), rowF 2 (nums x)], q.length ≤ 20 := fun x => List.forall_mem_cons.mpr ⟨hn 0 x (hnum x), List.forall_mem_cons.mpr ⟨hn 1 x (hnum x), List.forall_mem_singleton.mpr (hn 2 x (hnum x))⟩⟩
  have gl : ∀ {L : Addr} {h0 h : Heap} {a : Addr} {vs : Array Value} {n : Nat} {nw : List (Addr × Obj)}, News h0 L h nw → (a, W.listOf vs n) ∈ nw → h.IsList a vs := fun N hm => ⟨_, (N _ hm).1, rfl, _, rfl⟩
  (with_unfolding_all refine' told_spec (frs := []) (rest := [(r, W.listOf #[.ref a0, .ref a1, .ref a2] 0), (a2, W.listOf u2.toArray k2), (a1, W.listOf u1.toArray k1), (a0, W.listOf u0.toArray k0)]) ?k1 ?k2 F7 News.nil trivial N7 (fun p hp hq => nomatch hq) (fun p hp x hx => nomatch hx) ?k6 ?k7 ?k8 (gl N7 (.head _)) (gl N7 (.tail _ (.tail _ (.tail _ (.head _))))) (gl N7 (.tail _ (.tail _ (.head _)))) (gl N7 (.tail _ (.head _))) hJ0 hJ1 hJ2 (hok _) (hrb _) ?_)
  (case k1 => k_asm)
  (case k2 => k_asm)
  (case k6 => exact rfl)
  (case k7 => ktr_room)
  (case k8 => ktr_units)
  clear F7 N7
  intro rt h2 tk2 fr2 SU F2 N2 hT
  obtain rfl : fr2 = [] := by
    cases fr2 with
    | nil => rfl
    | cons q qs => exact SU.elim
  rw [List.nil_append] at N2
  repeat' ((fail_if_success (with_reducible show wpAny _ _ (call (Value.ref 177) _ _) _ _ _)); first | (k_unfold; (try dsimp only)) | (k_end; wrow_close) | walk1 | (dsimp only; walk1) | (dsimp only; k_unfold; (try dsimp only)) | (leave1; try dsimp only) | fail "no step")
  (with_unfolding_all refine' due_spec ?k1 ?k2 F2 N2 ?k6 ?k7 ?k8 (gl N2 (.head _)) (gl N2 (.tail _ (.tail _ (.tail _ (.head _))))) (gl N2 (.tail _ (.tail _ (.head _)))) (gl N2 (.tail _ (.head _))) hJ0 hJ1 hJ2 (hok _) (hrb _) ?_)
  (case k1 => k_asm)
  (case k2 => k_asm)
  (case k6 => exact rfl)
  (case k7 => ktr_room)
  (case k8 => ktr_units)
  clear F2 N2
  intro rd h3 tk3 F3 N3 S3 hD
  repeat' ((fail_if_success (with_reducible show wpAny _ _ (compareOp _ _ _) _ _ _)); first | (k_unfold; (try dsimp only)) | (k_end; wrow_close) | walk1 | (dsimp only; walk1) | (dsimp only; k_unfold; (try dsimp only)) | (leave1; try dsimp only) | fail "no step")
  (with_unfolding_all refine' eq_items (hT.keeps S3) hD ?z0 ?z1 ?z2 ?z3 ?z4 ?_)
  (case z0 => ktr_units)
  (case z1 => ktr_units)
  (case z2 => ktr_units)
  (case z3 => ktr_units)
  (case z4 => ktr_units)
  repeat' (first | (k_unfold; (try dsimp only)) | (k_end; wrow_close) | walk1 | (dsimp only; walk1) | (dsimp only; k_unfold; (try dsimp only)) | (leave1; try dsimp only) | fail "no step"))
end
