import PyProof.Rows.All
import Wide.All
import OpenK.AllK
import Wide.FinOn
import PySem.Challenge.RW_re0022_01
open PySem PySem.W PyProof.Rows
set_option Elab.async false
set_option rowWalk.seconds 0
set_option linter.unusedVariables false
namespace Mine
set_option maxRecDepth 100000 in
set_option maxHeartbeats 8000000 in
open_top hd for PySem.Challenge.rw_re0022_01
end Mine

open PySem.Calls
namespace Mine
section

/-- what stood in h and is not at one of these addresses stands in h' -/
def Kept (as : List Addr) (h h' : Heap) : Prop := ∀ b o, h.get? b = some o → b ∉ as → h'.get? b = some o
theorem Kept.nil {h h' : Heap} (k : Kept [] h h') : ∀ b o, h.get? b = some o → h'.get? b = some o := fun b o e => k b o e (by simp)
theorem Kept.refl (as : List Addr) (h : Heap) : Kept as h h := fun _ _ e _ => e
theorem Kept.trans {as : List Addr} {h h' h'' : Heap} (a : Kept as h h') (b : Kept as h' h'') : Kept as h h'' := fun x o e n => b x o (a x o e n) n

section
variable {prog : Program} {w : World} {A₀ A : Around} {s : Shared} {base h₀ : Heap} {outer : List Env} {L : Addr} {m : Str → Option Value} {env : Env} {news : List (Addr × Obj)} {K : Frag} {p : Program} {loose : List Str} {mean : ExcName → Option Value} {mg mb : Str → Option Value}
  {R : Result → Shared → Prop} {name qual : Str} {params : Arguments} {body : List Stmt} {scope : Scope} {dV kV doc pm cdv ct oc : Value} {an od : Option Addr} {osl : Array (Option Value)} {f : Addr} {args : Args} {binds : List (Str × Value)}

/-- a def of the text is entered: its ledger is the objects that it may turn; all else is kept -/
theorem def_in (B : Below A₀ base outer h₀) (F : Fr h₀ L s.heap m) (X₀ : K.In h₀) (N : News h₀ L s.heap news) (T : Top p loose mean mg mb h₀) (hA : A.frames = some (env :: outer)) (hf : env.frame = some L) (hke : env.scope.kind = .function)
    (ho : K.lookup f = some ⟨oc, od, .func (fnOf name qual params body scope dV kV doc pm an cdv ct), osl⟩) (hcd : codeIn K cdv qual = true) (hroom : A.depth < recursionLimit)
    (hbind : BindsTo s (fnOf name qual params body scope dV kV doc pm an cdv ct) args binds) (hloc : ∀ y ∈ binds, scope.names.lookup y.1 = some .local)
    (h : ∀ g L' h₁, Fr h₀ L g m → Fr g L' h₁ (fun y => binds.reverse.lookup y) → News g L' h₁ news → Below A base (env :: outer) g → K.In g → Top p loose mean mg mb g → (∀ b o, s.heap.get? b = some o → b < L') →
      wpAny (model prog w) (A.deeper (envOf qual scope L' f cdv)) (execs body (envOf qual scope L' f cdv))
        (fun fl s' => LeaveK h₀ L m g (fun r s' => Kept (news.map (·.1)) s.heap s'.heap → R r s') (match fl with | .ret v => v | _ => .none) s')
        (fun e s' => wpAny (model prog w) (A.deeper (envOf qual scope L' f cdv)) (leaving (envOf qual scope L' f cdv) e) (fun _ s'' => R (.error e) s'') (fun e' s'' => R (.error e') s'') s')
        { s with heap := h₁, toks := s.toks + binds.length })
    (hco : scope.isCoroutine = false) (hgen : scope.isGenerator = false) (hk : scope.kind = .function)
    (hcell : ∀ x ∈ scope.names, x.2 ≠ .cell) : codeAny (model prog w) A (.call (.ref f) args) R s := by
  obtain ⟨FG, BG, st, lv⟩ := groundX (R := R) B F N hA hf hke
  refine codeAny_call_def (fd := fnX name qual params body scope [] dV kV doc pm an cdv ct) (body := body) (binds := binds) hroom ((X₀.keeps F.keep) _ _ ho) rfl (T.nolimit.keeps F.keep) (codeRec_of (X₀.keeps F.keep) hcd) rfl hbind hcell hloc (fun h₁ hns hk₁ => ?_) hco hgen hk
  refine wpAny_mono (h _ s.heap.objs.size h₁ FG ⟨hns, fun b o e => hk₁ b o (of_hideAll _ e), Nat.le_of_eq (hideAll_size _ _)⟩
    (fun p hp => ⟨hk₁ _ _ (N p hp).1, Nat.ne_of_lt (Heap.lt_size (N p hp).1), hideAll_none _ (List.mem_map_of_mem hp)⟩) BG (X₀.keeps st) (T.keeps st) (fun b o e => Heap.lt_size e)) (fun fl s' hl => ?_) fun _ _ y => y
  obtain ⟨L', m', news', F', N', k⟩ := hl
  exact lv _ _ ⟨L', m', news', F', N', fun a b => k a b fun x o e n => F'.keep x o (hideAll_get _ e n)⟩

theorem def_inC (B : Below A₀ base outer h₀) (F : Fr h₀ L s.heap m) (X₀ : K.In h₀) (N : News h₀ L s.heap news) (T : Top p loose mean mg mb h₀) (hA : A.frames = some (env :: outer)) (hf : env.frame = some L) (hke : env.scope.kind = .function)
    (ho : K.lookup f = some ⟨oc, od, .func (fnOf name qual params body scope dV kV doc pm an cdv ct), osl⟩) (hcd : codeIn K cdv qual = true) (hroom : A.depth < recursionLimit)
    (hbind : BindsTo s (fnOf name qual params body scope dV kV doc pm an cdv ct) args binds) (hkind : (binds.all fun y => scope.names.lookup y.1 == some .local || scope.names.lookup y.1 == some .cell) = true)
    (hnd : ((cellsFrom 0 scope.names []).map (·.1)).Nodup)
    (h : ∀ g L' h₁ tk cells, Fr h₀ L g m → Fr g L' h₁ (bindL (envOfC qual scope L' f cdv).kindOf binds fun _ => none) → News g L' h₁ (cells ++ news) →
      CellsAre (bindC (envOfC qual scope L' f cdv).kindOf binds fun _ => none) (cellsFrom (L' + 1) scope.names []) cells → Below A base (env :: outer) g → K.In g → Top p loose mean mg mb g → (∀ p ∈ news, p.1 < L') → (∀ b o, s.heap.get? b = some o → b < L') →
      wpAny (model prog w) (A.deeper (envOfC qual scope L' f cdv)) (execs body (envOfC qual scope L' f cdv))
        (fun fl s' => LeaveK h₀ L m g (fun r s' => Kept (news.map (·.1)) s.heap s'.heap → R r s') (match fl with | .ret v => v | _ => .none) s')
        (fun e s' => wpAny (model prog w) (A.deeper (envOfC qual scope L' f cdv)) (leaving (envOfC qual scope L' f cdv) e) (fun _ s'' => R (.error e) s'') (fun e' s'' => R (.error e') s'') s')
        { s with heap := h₁, toks := tk })
    (hco : scope.isCoroutine = false) (hgen : scope.isGenerator = false) (hk : scope.kind = .function) : codeAny (model prog w) A (.call (.ref f) args) R s := by
  obtain ⟨FG, BG, st, lv⟩ := groundX (R := R) B F N hA hf hke
  refine codeAny_call_function hroom ((X₀.keeps F.keep) _ _ ho) rfl hco hgen rfl (codeRec_of (X₀.keeps F.keep) hcd) (hbind _ _ _ _ ?_)
  refine wpAny_newFunctionEnv_cells hk (kindsX hkind _) fun env' he s' x => ?_
  subst he
  refine ⟨(T.nolimit.keeps F.keep).keeps x.toInCall.keep, codeAny_func ?_⟩
  obtain ⟨h₁, tk, rfl, _⟩ := x.done
  have hk₁ := x.toInCall.keep
  obtain ⟨cells, NC, Y⟩ := Cl.news (h₀ := s.heap) (Nat.le_refl _) fun n c hm => ⟨x.cell n c (lookup_of_mem_nodup (cellsFrom_names scope.names 0 (s.heap.objs.size + 1) [] [] rfl ▸ hnd) hm), x.above n c hm⟩
  refine wpAny_mono (h _ s.heap.objs.size h₁ tk cells FG ⟨x.toInCall.ns, fun b o e => hk₁ b o (of_hideAll _ e), Nat.le_of_eq (hideAll_size _ _)⟩ (fun p hp => ?_) Y BG (X₀.keeps st) (T.keeps st) (fun p hp => Heap.lt_size (N p hp).1) (fun b o e => Heap.lt_size e)) (fun fl s' hl => ?_) fun _ _ y => y
  · rcases List.mem_append.mp hp with hp | hp
    · refine ⟨(NC p hp).1, (NC p hp).2.1, ?_⟩
      cases q : (hideAll s.heap (news.map (·.1))).get? p.1 with
      | none => rfl
      | some o => have := of_hideAll _ q; rw [(NC p hp).2.2] at this; cases this
    · exact ⟨hk₁ _ _ (N p hp).1, Nat.ne_of_lt (Heap.lt_size (N p hp).1), hideAll_none _ (List.mem_map_of_mem hp)⟩
  · obtain ⟨L', m', news', F', N', k⟩ := hl
    exact lv _ _ ⟨L', m', news', F', N', fun a b => k a b fun x o e n => F'.keep x o (hideAll_get _ e n)⟩
end

end
local macro_rules | `(tactic| cell_enter) => `(tactic| first
  | (refine' def_in ?k1 ?k2 ?k3 ?k4 ?k5 ?kA ?kF ?kK ?k6 ?k7 ?k8 ?k9 ?kB ?_ ?c2 ?c3 ?c4 ?c5; (case kA => exact rfl); (case kF => exact rfl); (case kK => assumption); (case k1 => k_asm); (case k2 => k_asm); (case k3 => k_asm); (case k4 => k_asm); (case k5 => k_asm); (case k6 => k_is); (case k7 => k_is); (case k8 => ktr_room); (case k9 => exact BindsTo.of_eq rfl); (case c5 => decide); (case kB => exact locs rfl); (case c2 => exact rfl); (case c3 => exact rfl); (case c4 => exact rfl); k_whole; intro g' L' h' FG' F' N' B' X' T' hb'; (try dsimp only); (try k_fold))
  | (refine' def_inC ?k1 ?k2 ?k3 ?k4 ?k5 ?kA ?kF ?kK ?k6 ?k7 ?k8 ?k9 ?kB ?kD ?_ ?c2 ?c3 ?c4; (case kA => exact rfl); (case kF => exact rfl); (case kK => assumption); (case k1 => k_asm); (case k2 => k_asm); (case k3 => k_asm); (case k4 => k_asm); (case k5 => k_asm); (case k6 => k_is); (case k7 => k_is); (case k8 => ktr_room); (case k9 => exact BindsTo.of_eq rfl); (case kB => exact rfl); (case kD => decide +kernel); (case c2 => exact rfl); (case c3 => exact rfl); (case c4 => exact rfl); k_whole; intro g' L' h' tk' cells' FG' F' N' Y' B' X' T' l1 hb'; (try k_lt l1); k_cells Y'; (try simp only [List.cons_append, List.nil_append] at N'); (try dsimp only); (try k_fold)))
local macro_rules | `(tactic| walk_at $s:str) => `(tactic| k_extra $s)
section

section
variable {prog : Program} {w : World} {A : Around} {E : Value → Shared → Prop} {s : Shared} {x y : Str} {t u v v' : Tok} {i e : Int} {Q : Value → Shared → Prop}
open Builtin Builtin.Str
def find4 (x y : Str) (i e : Int) : Int := match occurrences x y (fromIndex x.length i) (min (fromIndex x.length e) x.length) 1 with | k :: _ => (k : Int) | [] => -1
def rfind4 (x y : Str) (i e : Int) : Int := match lastOccurrence x y (fromIndex x.length i) (min (fromIndex x.length e) x.length) with | some k => (k : Int) | none => -1
theorem gives_find4 : Gives («str.find» ⟨[.str x t, .str y u, .int i v, .int e v'], []⟩) (.int (find4 x y i e)) := by
  show Gives (match occurrences x y (fromIndex x.length i) (min (fromIndex x.length e) x.length) 1 with | k :: _ => retInt k | [] => (do rule "str.find.not-found"; retInt (-1))) _
  unfold find4
  cases occurrences x y (fromIndex x.length i) (min (fromIndex x.length e) x.length) 1 with
  | nil => exact .rule (.of_eq rfl)
  | cons k _ => exact .of_eq rfl
theorem gives_rfind4 : Gives («str.rfind» ⟨[.str x t, .str y u, .int i v, .int e v'], []⟩) (.int (rfind4 x y i e)) := by
  show Gives (match lastOccurrence x y (fromIndex x.length i) (min (fromIndex x.length e) x.length) with | some k => retInt k | none => (do rule "str.rfind.not-found"; retInt (-1))) _
  unfold rfind4
  cases lastOccurrence x y (fromIndex x.length i) (min (fromIndex x.length e) x.length) with
  | none => exact .rule (.of_eq rfl)
  | some k => exact .of_eq rfl
theorem call_find4 (hq : Q (.int (find4 x y i e) s.toks) { s with toks := s.toks + 1 }) : wpAny (model prog w) A (call (.builtin "str.find") [.str x t, .str y u, .int i v, .int e v']) Q E s :=
  call_gives F.slot_str_find (typeIs_str _ _ _) F.entry_str_find (F.args_str_find_4 _ _ _ _) gives_find4 hq
theorem call_rfind4 (hq : Q (.int (rfind4 x y i e) s.toks) { s with toks := s.toks + 1 }) : wpAny (model prog w) A (call (.builtin "str.rfind") [.str x t, .str y u, .int i v, .int e v']) Q E s :=
  call_gives F.slot_str_rfind (typeIs_str _ _ _) F.entry_str_rfind (F.args_str_rfind_4 _ _ _ _) gives_rfind4 hq
end

/-- the ends of a call: the value that comes is the one that the claim tells -/
theorem ret_str {h₀ : Heap} {L : Addr} {m : Str → Option Value} {s : Shared} {Q : Value → Shared → Prop} {as : List Addr} {x y : Str} {t : Tok} {h' : Heap} {tk' : Nat}
    (ret : ∀ (t : Tok) (h' : Heap) (tk' : Nat), Fr h₀ L h' m → Kept as s.heap h' → Q (.str x t) { s with heap := h', toks := tk' }) (e : y = x) (F : Fr h₀ L h' m) (K : Kept as s.heap h') : Q (.str y t) { s with heap := h', toks := tk' } := by
  subst e
  exact ret t h' tk' F K
theorem ret_bool {h₀ : Heap} {L : Addr} {m : Str → Option Value} {s : Shared} {Q : Value → Shared → Prop} {as : List Addr} {x y : Bool} {h' : Heap} {tk' : Nat}
    (ret : ∀ (h' : Heap) (tk' : Nat), Fr h₀ L h' m → Kept as s.heap h' → Q (.bool x) { s with heap := h', toks := tk' }) (e : y = x) (F : Fr h₀ L h' m) (K : Kept as s.heap h') : Q (.bool y) { s with heap := h', toks := tk' } := by
  subst e
  exact ret h' tk' F K

/-- what _strip_exception_details reckons -/
def lineF (x : Str) : Int := if 0 ≤ Txt.find x (Str.ofString "\n") then Txt.find x (Str.ofString "\n") else (x.length : Int)
def endF (x : Str) : Int := if 0 ≤ find4 x (Str.ofString ":") 0 (lineF x) then find4 x (Str.ofString ":") 0 (lineF x) else lineF x
def startF (x : Str) : Int := if 0 ≤ rfind4 x (Str.ofString ".") 0 (endF x) then rfind4 x (Str.ofString ".") 0 (endF x) + 1 else 0
@[irreducible] def stripF (x : Str) : Str := Txt.slice x (some (startF x)) (some (endF x))
theorem line_is {x : Str} {r : Int} (h : 0 ≤ Txt.find x (Str.ofString "\n") ∧ r = Txt.find x (Str.ofString "\n") ∨ ¬0 ≤ Txt.find x (Str.ofString "\n") ∧ r = (x.length : Int)) : r = lineF x := by
  unfold lineF
  rcases h with ⟨a, b⟩ | ⟨a, b⟩
  · rw [if_pos a, b]
  · rw [if_neg a, b]

/-- the law's own walk: the signs since the last dot in hand -/
def bareL : List Nat → List Nat → List Nat
  | [], nm => nm
  | c :: r, nm => if c = 58 ∨ c = 10 then nm else if c = 46 then bareL r [] else bareL r (nm ++ [c])
@[irreducible] def bareF (x : Str) : Str := ⟨(bareL x.cps.toList []).toArray⟩
@[irreducible] def stopsF (x : Str) : Bool := x.cps.toList.any fun c => c == 58 || c == 10

theorem lit_nl : Str.ofString "\n" = ⟨#[10]⟩ := by decide +kernel
theorem lit_colon : Str.ofString ":" = ⟨#[58]⟩ := by decide +kernel
theorem lit_dot : Str.ofString "." = ⟨#[46]⟩ := by decide +kernel
theorem in_nl (x : Str) : (!(Builtin.Str.occurrences x (Str.ofString "\n") 0 x.length 1).isEmpty) = decide (10 ∈ x.cps.toList) := by rw [lit_nl]; exact StrLaws.found_one x 10
theorem in_colon (x : Str) : (!(Builtin.Str.occurrences x (Str.ofString ":") 0 x.length 1).isEmpty) = decide (58 ∈ x.cps.toList) := by rw [lit_colon]; exact StrLaws.found_one x 58
theorem stops_dec (x : Str) : stopsF x = (decide (58 ∈ x.cps.toList) || decide (10 ∈ x.cps.toList)) := by
  unfold stopsF
  generalize x.cps.toList = l
  induction l with
  | nil => rfl
  | cons c r ih =>
    rw [List.any_cons, ih]
    simp only [List.mem_cons]
    by_cases h1 : c = 58
    · subst h1; simp
    · by_cases h2 : c = 10
      · subst h2; simp
      · have e1 : ¬ (58 = c) := fun e => h1 e.symm
        have e2 : ¬ (10 = c) := fun e => h2 e.symm
        simp [h1, h2, e1, e2]
theorem stops_end1 {x : Str} (h : (Builtin.Str.occurrences x (Str.ofString ":") 0 x.length 1).isEmpty = true) : (!(Builtin.Str.occurrences x (Str.ofString "\n") 0 x.length 1).isEmpty) = stopsF x := by
  have h1 := in_colon x
  rw [h] at h1
  rw [in_nl, stops_dec, ← h1]; simp
theorem stops_end2 {x : Str} (h : (Builtin.Str.occurrences x (Str.ofString ":") 0 x.length 1).isEmpty = false) : (!(Builtin.Str.occurrences x (Str.ofString ":") 0 x.length 1).isEmpty) = stopsF x := by
  have h1 := in_colon x
  rw [stops_dec, ← h1, h]; simp

section
variable {w : World} {mean : ExcName → Option Value} {mg mb : Str → Option Value} {dp un : Nat} {gd : Option (List Code)} {cn : Str} {cs : Scope} {a : Addr} {ccd : Value} {cl : List (Str × Addr)} {outer : List Env} {A₀ : Around} {base h₀ : Heap} {L : Addr} {m : Str → Option Value} {s : Shared} {Q E : Value → Shared → Prop}
set_option maxRecDepth 100000 in
set_option maxHeartbeats 8000000 in
theorem strip_spec (x : Str) (t : Tok) 
    (B : Below A₀ base outer h₀) (F : Fr h₀ L s.heap m) (X : (hd.heap_39 w.params).In h₀) (T : Top topProg (looseW hd.view_39 [] ++ (recsOf hd.view_39).map (·.name) ++ (litsOf hd.view_39).map (·.1) ++ (clssOf hd.view_39 (looseW hd.view_39 [])).map (·.name)) mean mg mb h₀) (hk : cs.kind = .function)
    (hd : dp + 5 < recursionLimit) (hu : un + 50 < cLine) (hx : x.length ≤ 100000)
    (ret : ∀ (t : Tok) (h' : Heap) (tk' : Nat), Fr h₀ L h' m → Kept [] s.heap h' → Q (.str (stripF x) t) { s with heap := h', toks := tk' }) :
    wpAny (model Challenge.rw_re0022_01.row.prog w) (ktrTop dp un gd cn cs L a ccd cl outer) (call (.ref 21) [.str x t]) Q E s := by
  k_with_none
  k_with "call builtin:str.find" => refine call_find4 ?_
  k_with "call builtin:str.rfind" => refine call_rfind4 ?_
  revert X; k_fill; intro X
  have N : News h₀ L s.heap [] := fun _ h => nomatch h
  refine wpAny_call ?_
  k_dflt cell_enter
  k_steps
  all_goals (rename (_ ∨ _) => hr; have hr' := line_is hr; clear hr; subst hr'; refine ret_str ret ?_ (by assumption) (by assumption))
  all_goals (unfold stripF startF)
  all_goals (simp only [endF, *, if_true, if_false])

set_option maxRecDepth 100000 in
set_option maxHeartbeats 8000000 in
theorem stops_spec (x : Str) (t : Tok) 
    (B : Below A₀ base outer h₀) (F : Fr h₀ L s.heap m) (X : (hd.heap_39 w.params).In h₀) (T : Top topProg (looseW hd.view_39 [] ++ (recsOf hd.view_39).map (·.name) ++ (litsOf hd.view_39).map (·.1) ++ (clssOf hd.view_39 (looseW hd.view_39 [])).map (·.name)) mean mg mb h₀) (hk : cs.kind = .function)
    (hd : dp + 5 < recursionLimit) (hu : un + 50 < cLine) (hx : x.length ≤ 100000)
    (ret : ∀ (h' : Heap) (tk' : Nat), Fr h₀ L h' m → Kept [] s.heap h' → Q (.bool (stopsF x)) { s with heap := h', toks := tk' }) :
    wpAny (model Challenge.rw_re0022_01.row.prog w) (ktrTop dp un gd cn cs L a ccd cl outer) (call (.ref 101) [.str x t]) Q E s := by
  k_with_none
  k_with "call builtin:str.find" => refine call_find4 ?_
  k_with "call builtin:str.rfind" => refine call_rfind4 ?_
  revert X; k_fill; intro X
  have N : News h₀ L s.heap [] := fun _ h => nomatch h
  refine wpAny_call ?_
  k_dflt cell_enter
  k_steps
  all_goals (refine ret_bool ret ?_ (by assumption) (by assumption))
  · exact stops_end1 (by assumption)
  · exact stops_end2 (by assumption)

/-- one sign more of a bare name -/
def BareAt (x : Str) (pre : List Int) (nm : Str) : Prop := ∀ post : List Int, KStt.codes x = pre ++ post → bareL x.cps.toList [] = bareL (post.map Int.toNat) nm.cps.toList
theorem codes_nat (x : Str) : (KStt.codes x).map Int.toNat = x.cps.toList := by
  have := KStt.txt_codes x
  have h := congrArg (fun y : Str => y.cps.toList) this
  simpa [KStt.txt] using h
theorem bare_start (x : Str) : (Str.ofString "").length ≤ ([] : List Int).length ∧ BareAt x [] (Str.ofString "") := by
  refine ⟨by decide, fun post e => ?_⟩
  rw [List.nil_append] at e
  rw [← e, codes_nat]; rfl
theorem one_eq (n c : Nat) (y : Str) (hy : y = ⟨#[c]⟩) : ((⟨#[n]⟩ : Str) == y) = decide (n = c) := by
  subst hy
  by_cases h : n = c
  · subst h; simp
  · simp [h]
theorem one_colon (n : Nat) : ((⟨#[n]⟩ : Str) == Str.ofString ":") = decide (n = 58) := one_eq n 58 _ lit_colon
theorem one_nl (n : Nat) : ((⟨#[n]⟩ : Str) == Str.ofString "\n") = decide (n = 10) := one_eq n 10 _ lit_nl
theorem one_dot (n : Nat) : ((⟨#[n]⟩ : Str) == Str.ofString ".") = decide (n = 46) := one_eq n 46 _ lit_dot
theorem bare_dot {x nm : Str} {pre : List Int} {n : Nat} (I : BareAt x pre nm) (h1 : ((⟨#[n]⟩ : Str) == Str.ofString ":") = false) (h2 : ((⟨#[n]⟩ : Str) == Str.ofString "\n") = false) (h3 : ((⟨#[n]⟩ : Str) == Str.ofString ".") = true) :
    (Str.ofString "").length ≤ (pre ++ [(n : Int)]).length ∧ BareAt x (pre ++ [(n : Int)]) (Str.ofString "") := by
  rw [one_colon, decide_eq_false_iff_not] at h1
  rw [one_nl, decide_eq_false_iff_not] at h2
  rw [one_dot, decide_eq_true_eq] at h3
  refine ⟨Nat.zero_le _, fun post e => ?_⟩
  rw [I ((n : Int) :: post) (by rw [e]; simp)]
  show bareL (n :: post.map Int.toNat) _ = _
  rw [bareL, if_neg (by omega), if_pos h3]
  rfl
theorem bare_more {x nm : Str} {pre : List Int} {n : Nat} (hl : nm.length ≤ pre.length) (I : BareAt x pre nm) (h1 : ((⟨#[n]⟩ : Str) == Str.ofString ":") = false) (h2 : ((⟨#[n]⟩ : Str) == Str.ofString "\n") = false) (h3 : ((⟨#[n]⟩ : Str) == Str.ofString ".") = false) :
    (nm ++ (⟨#[n]⟩ : Str)).length ≤ (pre ++ [(n : Int)]).length ∧ BareAt x (pre ++ [(n : Int)]) (nm ++ (⟨#[n]⟩ : Str)) := by
  rw [one_colon, decide_eq_false_iff_not] at h1
  rw [one_nl, decide_eq_false_iff_not] at h2
  rw [one_dot, decide_eq_false_iff_not] at h3
  refine ⟨?_, fun post e => ?_⟩
  · rw [Str.length_append, List.length_append]
    exact Nat.add_le_add hl (Nat.le_refl 1)
  rw [I ((n : Int) :: post) (by rw [e]; simp)]
  show bareL (n :: post.map Int.toNat) _ = _
  rw [bareL, if_neg (by omega), if_neg h3, Str.cps_append]
  simp
theorem bare_stop {x nm : Str} {pre post : List Int} {n : Nat} (e : KStt.codes x = pre ++ (n : Int) :: post) (I : BareAt x pre nm) (h : n = 58 ∨ n = 10) : nm = bareF x := by
  unfold bareF
  rw [I _ e]
  show _ = (⟨(bareL (n :: post.map Int.toNat) nm.cps.toList).toArray⟩ : Str)
  rw [bareL, if_pos h]
theorem bare_stop1 {x nm : Str} {pre post : List Int} {n : Nat} (e : KStt.codes x = pre ++ (n : Int) :: post) (I : BareAt x pre nm) (h : ((⟨#[n]⟩ : Str) == Str.ofString ":") = true) : nm = bareF x :=
  bare_stop e I (.inl (by rw [one_colon, decide_eq_true_eq] at h; exact h))
theorem bare_stop2 {x nm : Str} {pre post : List Int} {n : Nat} (e : KStt.codes x = pre ++ (n : Int) :: post) (I : BareAt x pre nm) (h : ((⟨#[n]⟩ : Str) == Str.ofString "\n") = true) : nm = bareF x :=
  bare_stop e I (.inr (by rw [one_nl, decide_eq_true_eq] at h; exact h))
theorem bare_done {x nm : Str} (I : BareAt x (KStt.codes x) nm) : nm = bareF x := by
  unfold bareF
  rw [I [] (by simp)]
  rfl
set_option maxRecDepth 100000 in
set_option maxHeartbeats 8000000 in
theorem bare_spec (x : Str) (t : Tok) 
    (B : Below A₀ base outer h₀) (F : Fr h₀ L s.heap m) (X : (hd.heap_39 w.params).In h₀) (T : Top topProg (looseW hd.view_39 [] ++ (recsOf hd.view_39).map (·.name) ++ (litsOf hd.view_39).map (·.1) ++ (clssOf hd.view_39 (looseW hd.view_39 [])).map (·.name)) mean mg mb h₀) (hk : cs.kind = .function)
    (hd : dp + 5 < recursionLimit) (hu : un + 50 < cLine) (hx : x.length ≤ 100000)
    (ret : ∀ (t : Tok) (h' : Heap) (tk' : Nat), Fr h₀ L h' m → Kept [] s.heap h' → Q (.str (bareF x) t) { s with heap := h', toks := tk' }) :
    wpAny (model Challenge.rw_re0022_01.row.prog w) (ktrTop dp un gd cn cs L a ccd cl outer) (call (.ref 108) [.str x t]) Q E s := by
  revert X; k_fill; intro X
  have N : News h₀ L s.heap [] := fun _ h => nomatch h
  refine wpAny_call ?_
  k_dflt cell_enter
  k_with_none
  k_with "call builtin:str.find" => refine call_find4 ?_
  k_with "call builtin:str.rfind" => refine call_rfind4 ?_
  k_with "pyIter str" => k_state (fun pre name => name.length ≤ pre.length ∧ BareAt x pre name) "name"
  k_with "state" => first | exact bare_start _ | exact bare_dot (by assumption) (by assumption) (by assumption) (by assumption) | exact bare_more (by assumption) (by assumption) (by assumption) (by assumption) (by assumption)
  k_steps
  all_goals (refine ret_str ret ?_ (by assumption) (by assumption))
  all_goals (first | exact bare_stop1 (by assumption) (by assumption) (by assumption) | exact bare_stop2 (by assumption) (by assumption) (by assumption) | exact bare_done (by assumption))
end

end
section
/-- a word's sign at a place, and the word -/
def signG (n k : Int) : Str := Txt.item (Str.ofString ".:\n\"\\ C") (Int.fmod ((n.fdiv 4).fdiv (7 ^ k.toNat)) 7)
def wordL (n : Int) : List Str := (rangeKs 0 (n.fmod 4 - 0).toNat).map (signG n)
@[irreducible] def wordF (n : Int) : Str := Txt.join (Str.ofString "") (wordL n)
theorem ones_sum {α : Type} (f : α → Str) (hf : ∀ a, (f a).length = 1) (l : List α) : ((l.map f).map (·.length)).sum = l.length := by
  induction l with
  | nil => rfl
  | cons a r ih => simp only [List.map_cons, List.sum_cons, List.length_cons]; rw [ih, hf]; omega
theorem signG_len (n k : Int) : (signG n k).length = 1 := len_item _ _
theorem word_size (n : Int) : ((wordL n).map (·.length)).sum + (wordL n).length * (Str.ofString "").length ≤ 16777216 := by
  have h : (Str.ofString "").length = 0 := by decide
  unfold wordL
  rw [ones_sum _ (signG_len n), h, rangeKs_length]
  have := Int.fmod_lt_of_pos n (b := 4) (by omega)
  omega
section
variable {prog : Program} {w : World} {A : Around} {E : Value → Shared → Prop} {s : Shared} {h₀ : Heap} {L : Addr} {news : List (Addr × Obj)} {x : Str} {t : Tok} {Q : Value → Shared → Prop} {D : Addr} {ys : List Value} {xs : List Str} {n : Nat}
theorem join_led (N : News h₀ L s.heap news) (hm : (D, ({ cls := .type "list", data := .seq ys.toArray n } : Obj)) ∈ news) (hi : StrsAre ys xs) (hok : (xs.map (·.length)).sum + xs.length * x.length ≤ 16777216)
    (h : ∀ t' k, Q (.str (Txt.join x xs) t') { s with toks := k }) : wpAny (model prog w) A (call (.builtin "str.join") [.str x t, .ref D]) Q E s :=
  join_list ⟨_, (N _ hm).1, rfl, n, rfl⟩ (by simpa using hi) hok h
end
/-- a mark that names the int at hand to the walk's lines -/
structure MarkI (n : Int) : Prop where
section
variable {prog : Program} {w : World} {A : Around} {h₀ : Heap} {L : Addr} {m : Str → Option Value} {env : Env} {elt : Expr} {x : Str} {scope : Scope} {cl : List (Str × Addr)} {s : Shared} {S : List (Addr × Obj) → Prop} {Fin : List Value → List (Addr × Obj) → Prop} {news : List (Addr × Obj)}
theorem word_src {n : Nat} {a q : Int} (_ : MarkI q)
    (turn : ∀ k t I oI C oC D m₂ ys h tk (E' : Value → Shared → Prop), a ≤ k → k < a + (n : Int) → LCg.NsObj oC m₂ → m₂ x = some (.int k t) → Fr h₀ L h m → News h₀ L h ((I, oI) :: (C, oC) :: (D, LCg.lst ys) :: news) → LCg.Off3 I C D news → ((@Ne Nat I C) ∧ (@Ne Nat I D) ∧ (@Ne Nat C D)) →
      wpAny (model prog w) A (eval elt (compEnvC scope cl C env)) (LCg.CompEnd h₀ L m { s with heap := h, toks := tk } I oI C oC D (LCg.lst ys) S (fun y news' => KCtEl news (signG q k) y news')) E' { s with heap := h, toks := tk })
    (fin : ∀ ys, StrsAre ys ((rangeKs a n).map (signG q)) → Fin ys news) : LCg.CompRest prog w A h₀ L m env elt x scope cl s S (fun i v => ∃ t, v = .int (a + (i : Int)) t) Fin n 0 [] news :=
  kct_range (signG q) (fun k t I oI C oC D m₂ ys h tk E' a b c d e f g i _ => turn k t I oI C oC D m₂ ys h tk E' a b c d e f g i) fun ys hc _ => fin ys (CarriedAll.strsOf hc)
end
section
variable {prog : Program} {w : World} {A : Around} {E : Value → Shared → Prop} {s : Shared} {Q : Value → Shared → Prop} {a b : Int} {t u : Tok}
theorem fdiv_pow7 {k : Nat} (hk : k < 4) (h : Q (.int (a.fdiv (7 ^ k)) s.toks) { s with toks := s.toks + 1 }) : wpAny (model prog w) A (binaryOp .FloorDiv (.int a t) (.int (7 ^ k) u)) Q E s := by
  have h3 : k = 0 ∨ k = 1 ∨ k = 2 ∨ k = 3 := by omega
  refine floordiv_int ?_ h (Or.inl (PyProof.noPylong_small ?_))
  · rcases h3 with rfl | rfl | rfl | rfl <;> decide
  · rcases h3 with rfl | rfl | rfl | rfl <;> decide
end
section
variable {w : World} {mean : ExcName → Option Value} {mg mb : Str → Option Value} {dp un : Nat} {gd : Option (List Code)} {cn : Str} {cs : Scope} {a : Addr} {ccd : Value} {cl : List (Str × Addr)} {outer : List Env} {A₀ : Around} {base h₀ : Heap} {L : Addr} {m : Str → Option Value} {s : Shared} {Q E : Value → Shared → Prop}
set_option maxRecDepth 100000 in
set_option maxHeartbeats 8000000 in
theorem word_spec (x : Int) (t : Tok) 
    (B : Below A₀ base outer h₀) (F : Fr h₀ L s.heap m) (X : (hd.heap_39 w.params).In h₀) (T : Top topProg (looseW hd.view_39 [] ++ (recsOf hd.view_39).map (·.name) ++ (litsOf hd.view_39).map (·.1) ++ (clssOf hd.view_39 (looseW hd.view_39 [])).map (·.name)) mean mg mb h₀) (hk : cs.kind = .function)
    (hd : dp + 5 < recursionLimit) (hu : un + 50 < cLine)
    (ret : ∀ (t : Tok) (h' : Heap) (tk' : Nat), Fr h₀ L h' m → Kept [] s.heap h' → Q (.str (wordF x) t) { s with heap := h', toks := tk' }) :
    wpAny (model Challenge.rw_re0022_01.row.prog w) (ktrTop dp un gd cn cs L a ccd cl outer) (call (.ref 94) [.int x t]) Q E s := by
  have m4 := Int.fmod_lt_of_pos x (b := 4) (by omega)
  have m0 := Int.fmod_nonneg_of_pos x (b := 4) (by omega)
  revert X; k_fill; intro X
  have N : News h₀ L s.heap [] := fun _ h => nomatch h
  refine wpAny_call ?_
  k_dflt cell_enter
  k_with_none
  k_with "CompSrc" => (k_here; (rename MarkI _ => hMq); k_dflt (refine LCg.CompSrc.range (by rfl) (by k_asm) (by k_asm) (by assumption) (by exact small_one (by l_bnd) (by l_bnd) (by l_bnd) (by l_bnd)) (by exact rangeSize_nat _ _) (by rw [PySem.sizeLine_eq]; omega) ?_; intro g'; (refine' word_src hMq (fun k' t' I' oI' C' oC' D' m' ys' h' tk' E' hlo' hhi' hC' hx' F' N' off' ne' => ?_) (fun ys' hS' => ?_)); (all_goals (try (simp only [LCg.Off3, and_true] at off')))))
  k_with "binaryOp FloorDiv int int" => (refine fdiv_pow7 (by omega) ?_)
  k_with "subscriptTail" => ((with_reducible show wpAny _ _ (subscriptTail _ _ (Value.str _ _) (Value.int (Int.fmod _ _) _)) _ _ _); refine item_str_fmod (by decide) (by decide) (by decide) ?_; intro _)
  k_with "KCtEl" => exact kct_el rfl rfl rfl
  k_with "CompEnd" => exact LCg.CompEnd.intro (by assumption) (by assumption) _ (fun _ h9 => h9) (by simp only [LCg.Off3, and_true]; assumption) trivial (kct_el rfl rfl rfl)
  k_with "call builtin:str.join" => (with_reducible rename StrsAre _ (List.map _ _) => ktC; k_dflt (refine join_led (by k_asm) (by k_mem) ktC (word_size _) ?_); intro t8 k8)
  have hMk : MarkI x := ⟨⟩
  k_steps
  all_goals exact ret_str ret (by unfold wordF; rfl) (by assumption) (by assumption)
end

end
section
section
variable {prog : Program} {w : World} {A : Around} {E : Value → Shared → Prop} {s : Shared} {h₀ : Heap} {L : Addr} {m : Str → Option Value} {env : Env}
/-- a text is the source of a comprehension -/
def SrcS (prog : Program) (w : World) (A : Around) (h₀ : Heap) (L : Addr) (m : Str → Option Value) (env : Env) (elt : Expr) (x : Str) (scope : Scope) (cl : List (Str × Addr)) (Fin : Shared → List Value → List (Addr × Obj) → Prop) (xv : Value) (s₁ : Shared) : Prop :=
  ∃ xt t news, xv = .str xt t ∧ A.handled = none ∧ Fr h₀ L s₁.heap m ∧ News h₀ L s₁.heap news ∧ xt.length ≤ sizeLine ∧
    ∀ s₂ : Shared, (∃ h, s₂ = { s₁ with heap := h }) → LCg.CompRest prog w A h₀ L m env elt x scope cl s₂ (fun _ => True) (SignAt xt) (Fin s₂) xt.cps.size 0 [] news
theorem SrcS.intro {elt : Expr} {x : Str} {scope : Scope} {cl : List (Str × Addr)} {Fin : Shared → List Value → List (Addr × Obj) → Prop} {xt : Str} {t : Tok} {news : List (Addr × Obj)} {s₁ : Shared} (hh : A.handled = none) (F : Fr h₀ L s₁.heap m) (N : News h₀ L s₁.heap news) (hz : xt.length ≤ sizeLine)
    (h : ∀ g, LCg.CompRest prog w A h₀ L m env elt x scope cl { s₁ with heap := g } (fun _ => True) (SignAt xt) (Fin { s₁ with heap := g }) xt.cps.size 0 [] news) : SrcS prog w A h₀ L m env elt x scope cl Fin (.str xt t) s₁ :=
  ⟨xt, t, news, rfl, hh, F, N, hz, fun _ ⟨g, e⟩ => e ▸ h g⟩
theorem ListComp_S {elt iter : Expr} {x : Str} {px : Pos} {scope : Scope} {cl : List (Str × Addr)} {pos : Pos} {Q : Value → Shared → Prop} (F₀ : Fr h₀ L s.heap m)
    (hclos : closureFor scope env = pure cl) (hcell : ∀ y ∈ scope.names, y.2 ≠ .cell) (hkind : scope.kind = .function)
    (hnames : ∀ y ∈ scope.names, y.2 = .local → scope.names.lookup y.1 = some .local) (hx : scope.names.lookup x = some .local)
    (h : wpAny (model prog w) A (eval iter env) (SrcS prog w A h₀ L m env elt x scope cl (fun s₂ => LCg.FinE h₀ L m s₂ Q)) E s)
    (hs : ∀ x, foldedSetIterable iter env x = pure x := by intro _; rfl) :
    wpAny (model prog w) A (eval (.ListComp elt [⟨.Name x px, iter, [], 0⟩] scope pos) env) Q E s := by
  rw [eval_ListComp]
  refine wpAny_comprehension_free (use := none) rfl hs hclos hkind hnames (wpAny_mono h (fun xv s₁ h₁ => ?_) fun _ _ e => e)
  obtain ⟨xt, t, news, rfl, hh, F, N, hsz, R⟩ := h₁
  have one : ∀ (ty : String) (W : Walks prog w A s₁.heap.objs.size [s₁.heap.objs.size] [s₁.heap.objs.size] xt.cps.size (SignAt xt) (fun i h => h.IsStrIter s₁.heap.objs.size ty xt t i)), 
      wpAny (model prog w) A (newList []) (fun acc s₃ => wpAny (model prog w) A (newFunctionEnv scope env.globals cl [] env.qual none .none (some env)) (fun cenv s₄ =>
        codeAny (model prog w) A (.compStart (.ListComp elt [⟨.Name x px, iter, [], 0⟩] scope pos) 0 (.ref s₁.heap.objs.size) acc { cenv with scope := relabel scope env }) (compPost (model prog w) A E none Q acc cenv.locals) s₄) E s₃) E
          { s₁ with heap := s₁.heap.push { cls := .type ty, data := .fields #[.str xt t, .int 0 0] } } := by
    intro ty W
    have up : ∀ b o, s₁.heap.get? b = some o → (s₁.heap.push { cls := .type ty, data := .fields #[.str xt t, .int 0 0] }).get? b = some o := fun b o e => Heap.get?_push_of_some _ e
    refine LCg.block_U (RR := compPost (model prog w) A E none Q)
      W hsz (fun i h st => by obtain ⟨o, e, _⟩ := st; exact ⟨o, e⟩) (fun i h h' o nw st e e' _ _ _ => by obtain ⟨o', q, r⟩ := st; rw [e] at q; cases q; exact ⟨o, e', r⟩) hcell hkind hx ⟨_, Heap.get?_push_size _ rfl, rfl, rfl⟩ (fun b hb => ?_)
      (F.keeps up) (N.grown up) (Nat.ne_of_lt F.ns.lt) (next_is_new F) (fun p hp => Nat.ne_of_lt (Heap.lt_size (N p hp).1)) trivial (R _ ⟨_, rfl⟩) ?_
    · rw [List.mem_singleton.mp hb]
      show s₁.heap.objs.size < (s₁.heap.push _).objs.size
      rw [Heap.size_push]; exact Nat.lt_succ_self _
    · intro D C h tk m' ys news' F' N' o1 hn hC₀ hD₀ hCL hDL hCD offC fin
      refine ⟨m', hn, fun h'' hs'' => fin D h'' tk (F'.change hs'' hCL hC₀) (fun p hp => ?_) o1⟩
      refine ⟨hs''.extBut _ _ ?_ (N' p hp).1, (N' p hp).2⟩
      rcases List.mem_cons.mp hp with rfl | hp
      · exact Ne.symm hCD
      · exact offC p hp
  cases ha : xt.cps.all (· < 128)
  · exact wpAny_pyIter_wide ha (one _ (Walks.strWide hh _ xt t))
  · exact wpAny_pyIter_ascii ha (one _ (Walks.strAscii hh _ xt t))

theorem comp_signs {elt : Expr} {x : Str} {scope : Scope} {cl : List (Str × Addr)} {S : List (Addr × Obj) → Prop} {Fin : List Value → List (Addr × Obj) → Prop} {news : List (Addr × Obj)} {xt : Str} (g : Nat → Str)
    (turn : ∀ c t I oI C oC D m₂ ys h tk (E' : Value → Shared → Prop), LCg.NsObj oC m₂ → m₂ x = some (.str ⟨#[c]⟩ t) → Fr h₀ L h m → News h₀ L h ((I, oI) :: (C, oC) :: (D, LCg.lst ys) :: news) → LCg.Off3 I C D news → ((@Ne Nat I C) ∧ (@Ne Nat I D) ∧ (@Ne Nat C D)) →
      wpAny (model prog w) A (eval elt (compEnvC scope cl C env)) (LCg.CompEnd h₀ L m { s with heap := h, toks := tk } I oI C oC D (LCg.lst ys) S (fun y news' => KCtEl news (g c) y news')) E' { s with heap := h, toks := tk })
    (fin : ∀ ys, StrsAre ys (xt.cps.toList.map g) → Fin ys news) : LCg.CompRest prog w A h₀ L m env elt x scope cl s S (SignAt xt) Fin xt.cps.size 0 [] news := by
  have key : ∀ (j i : Nat) (ys : List Value), i + j = xt.cps.size → StrsAre ys ((xt.cps.toList.take i).map g) → LCg.CompRest prog w A h₀ L m env elt x scope cl s S (SignAt xt) Fin j i ys news := by
    intro j
    induction j with
    | zero =>
      intro i ys hi hy
      have e : i = xt.cps.toList.length := by simpa using hi
      subst e
      rw [List.take_length] at hy
      exact LCg.CompRest.zero (fin ys hy)
    | succ j ih =>
      intro i ys hi hy
      refine LCg.CompRest.succ ?_
      intro v I oI C oC D m₂ h tk E' hv hC hx F N off ne
      obtain ⟨c, u, hc, rfl⟩ := hv
      refine wpAny_mono (turn c u I oI C oC D m₂ ys h tk E' hC hx F N off ne) (fun y s₂ hq => ?_) fun _ _ e => e
      obtain ⟨h', tk', nw, e, F', N', off', hS, hn, t', hy'⟩ := hq
      rw [hn] at N' off' hS
      refine ⟨h', tk', news, e, F', N', off', hS, ?_⟩
      rw [hy']
      refine ih (i + 1) _ (by omega) ?_
      rw [List.take_add_one, show xt.cps.toList[i]? = some c by simpa using hc]
      simpa using kct_snoc hy
  exact key xt.cps.size 0 [] (by omega) (by simp only [List.take_zero, List.map_nil]; exact .nil)
end

/-- a word as it is written -/
def escG (c : Nat) : Str := if c = 34 ∨ c = 92 then Str.ofString "\\" ++ ⟨#[c]⟩ else ⟨#[c]⟩
def bkG (c : Nat) : Str := Str.ofString "\\" ++ ⟨#[c]⟩
def quotedF (x : Str) : Str := Str.ofString "\"" ++ Txt.join (Str.ofString "") (x.cps.toList.map escG) ++ Str.ofString "\""
def bareW (x : Str) (i : Int) : Str := Txt.join (Str.ofString "") (x.cps.toList.map bkG) ++ Txt.item (Str.ofString "\n\t\r ") ((i.fdiv 2).fmod 4)
@[irreducible] def writtenF (x : Str) (i : Int) : Str := if i.fmod 2 = 0 ∨ x = Str.ofString "" then quotedF x else bareW x i
theorem lit_esc : (Str.ofString "\"\\").cps.toList = [34, 92] := by decide +kernel
theorem esc_in (c : Nat) : (!(Builtin.Str.occurrences (Str.ofString "\"\\") ⟨#[c]⟩ 0 (Str.ofString "\"\\").length 1).isEmpty) = decide (c = 34 ∨ c = 92) := by
  rw [StrLaws.found_one, lit_esc]
  simp
theorem esc_yes {c : Nat} (h : (Builtin.Str.occurrences (Str.ofString "\"\\") ⟨#[c]⟩ 0 (Str.ofString "\"\\").length 1).isEmpty = false) : Str.ofString "\\" ++ ⟨#[c]⟩ = escG c := by
  have := esc_in c
  rw [h] at this
  have hc : c = 34 ∨ c = 92 := by simpa using this.symm
  rw [escG, if_pos hc]
theorem esc_no {c : Nat} (h : (Builtin.Str.occurrences (Str.ofString "\"\\") ⟨#[c]⟩ 0 (Str.ofString "\"\\").length 1).isEmpty = true) : (⟨#[c]⟩ : Str) = escG c := by
  have := esc_in c
  rw [h] at this
  have hc : ¬ (c = 34 ∨ c = 92) := by simpa using this.symm
  rw [escG, if_neg hc]
theorem len_bs (c : Nat) : (Str.ofString "\\" ++ (⟨#[c]⟩ : Str)).length = 2 := by
  rw [Str.length_append, show (Str.ofString "\\").length = 1 by decide]; rfl
theorem twos_sum {α : Type} (f : α → Str) (hf : ∀ a, (f a).length ≤ 2) (l : List α) : ((l.map f).map (·.length)).sum ≤ 2 * l.length := by
  induction l with
  | nil => exact Nat.le_refl _
  | cons a r ih => simp only [List.map_cons, List.sum_cons, List.length_cons]; have := hf a; omega
theorem esc_len (c : Nat) : (escG c).length ≤ 2 := by
  unfold escG
  split
  · rw [len_bs]; omega
  · exact Nat.le_succ 1
theorem bk_len (c : Nat) : (bkG c).length ≤ 2 := by unfold bkG; rw [len_bs]; omega
theorem twos_size {f : Nat → Str} (hf : ∀ a, (f a).length ≤ 2) {x : Str} (hx : x.length ≤ 1000) : ((x.cps.toList.map f).map (·.length)).sum + (x.cps.toList.map f).length * (Str.ofString "").length ≤ 16777216 := by
  have h1 := twos_sum f hf x.cps.toList
  have h2 : x.cps.toList.length = x.length := by simp [Str.length]
  have h0 : (Str.ofString "").length = 0 := by decide
  rw [h0, Nat.mul_zero]
  omega
theorem join_len {f : Nat → Str} (hf : ∀ a, (f a).length ≤ 2) {x : Str} (hx : x.length ≤ 1000) : (Txt.join (Str.ofString "") (x.cps.toList.map f)).length ≤ 2000 := by
  have h1 := twos_sum f hf x.cps.toList
  have h2 : x.cps.toList.length = x.length := by simp [Str.length]
  have h0 : (Str.ofString "").length = 0 := by decide
  have h3 := StrLaws.join_length_le (Str.ofString "") (x.cps.toList.map f)
  rw [h0, Nat.mul_zero] at h3
  have h4 : Txt.join (Str.ofString "") (x.cps.toList.map f) = Str.join (Str.ofString "") (x.cps.toList.map f) := by
    exact StrLaws.glued_eq_join _ _
  rw [h4]
  omega

theorem written_1 {x : Str} {i : Int} (h : i.fmod 2 = 0) : Str.ofString "\"" ++ Txt.join (Str.ofString "") (x.cps.toList.map escG) ++ Str.ofString "\"" = writtenF x i := by
  rw [writtenF, if_pos (.inl h)]; rfl
theorem written_2 {x : Str} {i : Int} (h : (x == Str.ofString "") = true) : Str.ofString "\"" ++ Txt.join (Str.ofString "") (x.cps.toList.map escG) ++ Str.ofString "\"" = writtenF x i := by
  rw [writtenF, if_pos (.inr (beq_iff_eq.mp h))]; rfl
theorem written_3 {x : Str} {i : Int} (h : i.fmod 2 ≠ 0) (h2 : (x == Str.ofString "") = false) : Txt.join (Str.ofString "") (x.cps.toList.map bkG) ++ Txt.item (Str.ofString "\n\t\r ") ((i.fdiv 2).fmod 4) = writtenF x i := by
  rw [writtenF, if_neg (fun q => q.elim h fun q => by rw [q] at h2; simp at h2)]; rfl
section
variable {w : World} {mean : ExcName → Option Value} {mg mb : Str → Option Value} {dp un : Nat} {gd : Option (List Code)} {cn : Str} {cs : Scope} {a : Addr} {ccd : Value} {cl : List (Str × Addr)} {outer : List Env} {A₀ : Around} {base h₀ : Heap} {L : Addr} {m : Str → Option Value} {s : Shared} {Q E : Value → Shared → Prop}

set_option maxRecDepth 100000 in
set_option maxHeartbeats 8000000 in
theorem written_spec (x : Str) (t : Tok) (i : Int) (t2 : Tok)
    (B : Below A₀ base outer h₀) (F : Fr h₀ L s.heap m) (X : (hd.heap_39 w.params).In h₀) (T : Top topProg (looseW hd.view_39 [] ++ (recsOf hd.view_39).map (·.name) ++ (litsOf hd.view_39).map (·.1) ++ (clssOf hd.view_39 (looseW hd.view_39 [])).map (·.name)) mean mg mb h₀) (hk : cs.kind = .function)
    (hd : dp + 5 < recursionLimit) (hu : un + 50 < cLine) (hx : x.length ≤ 1000)
    (ret : ∀ (t : Tok) (h' : Heap) (tk' : Nat), Fr h₀ L h' m → Kept [] s.heap h' → Q (.str (writtenF x i) t) { s with heap := h', toks := tk' }) :
    wpAny (model Challenge.rw_re0022_01.row.prog w) (ktrTop dp un gd cn cs L a ccd cl outer) (call (.ref 89) [.str x t, .int i t2]) Q E s := by
  have j1 := join_len esc_len hx
  have j2 := join_len bk_len hx
  revert X; k_fill; intro X
  have N : News h₀ L s.heap [] := fun _ h => nomatch h
  refine wpAny_call ?_
  k_dflt cell_enter
  k_with_none
  k_with "eval ListComp" => (k_here; k_dflt (refine ListComp_S (F₀ := by k_asm) (by with_unfolding_all rfl) (by decide) (by rfl) (by decide) (by rfl) ?_))
  k_with "SrcS" => (k_here; (with_reducible show SrcS _ _ _ _ _ _ _ (PySem.Expr.IfExp _ _ _ _) _ _ _ _ _ _); k_dflt (refine SrcS.intro (by rfl) (by k_asm) (by k_asm) (by rw [PySem.sizeLine_eq]; omega) ?_; intro g'; (refine' comp_signs escG (fun c' t' I' oI' C' oC' D' m' ys' h' tk' E' hC' hx' F' N' off' ne' => ?_) (fun ys' hS' => ?_)); (all_goals (try (simp only [LCg.Off3, and_true] at off')))))
  k_with "SrcS" => (k_here; (with_reducible show SrcS _ _ _ _ _ _ _ (PySem.Expr.BinOp _ _ _ _) _ _ _ _ _ _); k_dflt (refine SrcS.intro (by rfl) (by k_asm) (by k_asm) (by rw [PySem.sizeLine_eq]; omega) ?_; intro g'; (refine' comp_signs bkG (fun c' t' I' oI' C' oC' D' m' ys' h' tk' E' hC' hx' F' N' off' ne' => ?_) (fun ys' hS' => ?_)); (all_goals (try (simp only [LCg.Off3, and_true] at off')))))
  k_with "subscriptTail" => ((with_reducible show wpAny _ _ (subscriptTail _ _ (Value.str _ _) (Value.int (Int.fmod _ _) _)) _ _ _); refine item_str_fmod (by decide) (by decide) (by decide) ?_; intro _)
  k_with "CompEnd" => exact LCg.CompEnd.intro (by assumption) (by assumption) _ (fun _ h9 => h9) (by first | trivial | (simp only [LCg.Off3, and_true]; assumption)) trivial (kct_el (by first | exact rfl | exact (esc_yes (by assumption)).symm | exact (esc_no (by assumption)).symm) rfl rfl)
  k_with "call builtin:str.join" => (with_reducible rename StrsAre _ (List.map _ _) => ktC; k_dflt (refine join_led (by k_asm) (by k_mem) ktC (by first | exact twos_size esc_len (by assumption) | exact twos_size bk_len (by assumption)) ?_); intro t8 k8)
  k_steps
  all_goals refine ret_str ret ?_ (by assumption) (by assumption)
  · exact written_1 (by assumption)
  · exact written_2 (by assumption)
  · exact written_3 (by assumption) (by assumption)
end

end
local macro_rules | `(tactic| k_room) => `(tactic| ktr_room)
local macro_rules | `(tactic| k_units) => `(tactic| ktr_units)
section
open Builtin Builtin.ObjectAttr
set_option maxRecDepth 100000
theorem slot_fn_sa : Slot "function" "__setattr__" "object.__setattr__" :=
  .of (owner := "object") (n := "__setattr__") (by rw [typeLookup_type, builtinLookup_eq_fast]; kernel_rfl) (by decide +kernel) (by decide +kernel) (by decide +kernel)
    (by first | exact .inl (by decide +kernel) | exact .inr (by decide +kernel)) (by rw [isSubtype_type]; kernel_rfl)
theorem mro_fn : mroOf (.type "function") = pure [.type "function", .type "object"] := by kernel_rfl
theorem passes_fn (self : Value) : refuseLoop self "__setattr__" [.type "function", .type "object"] = pure () := by kernel_rfl
theorem fn_no_read : typeLookup (.type "function") (Str.ofString "read") = pure none := by rw [typeLookup_type, builtinLookup_eq_fast]; kernel_rfl
theorem fn_has_dict : typeHasDict (.type "function") = true := by kernel_rfl
theorem fn_not_alone : finalisedInACycleAlone "function" = false := by decide +kernel
theorem fn_stream (f : Addr) : ownStreamTells (.ref f) (.type "function") = pure () := by kernel_rfl
theorem fn_store (f : Addr) (t : Tok) (nm : Str) (v : Value) : storeInOwnDict (.ref f) (.type "function") (.str nm t) nm v false = (instanceDict f true >>= fun o => match o with | some d => storeInDict d (.str nm t) nm v | none => noDictFor (.ref f) (.type "function") nm false) := by kernel_rfl
theorem put_empty (nm : Str) (hs : Int) (k v : Value) : Obj.putName nm hs k v emptyDict = dictOf [⟨hs, k, v⟩] 1 := by kernel_rfl
section
variable {prog : Program} {w : World} {A : Around} {E : Value → Shared → Prop} {s : Shared} {h₀ : Heap} {L : Addr} {m : Str → Option Value} {pre post : List (Addr × Obj)} {Q : Unit → Shared → Prop} {f : Addr} {fd : FuncData} {v : Value}
theorem set_fn (F : Fr h₀ L s.heap m) (N : News h₀ L s.heap (pre ++ (f, { cls := .type "function", data := .func fd }) :: post)) (h1 : ∀ p ∈ pre, p.1 ≠ f) (h2 : ∀ p ∈ post, p.1 ≠ f)
    (h : ∀ d t h', Fr h₀ L h' m → News h₀ L h' ((d, dictOf [⟨PyData.keyHash w.params (Str.ofString "read"), .str (Str.ofString "read") t, v⟩] 1) :: (pre ++ (f, { cls := .type "function", dict := some d, data := .func fd }) :: post)) → (∀ p ∈ pre ++ (f, ({ cls := .type "function", data := .func fd } : Obj)) :: post, p.1 < d) → Q () { s with heap := h', toks := s.toks + 2 }) :
    wpAny (model prog w) A (setAttr (.ref f) (Str.ofString "read") v) Q E s := by
  have hf := (N (f, { cls := .type "function", data := .func fd }) (by simp)).1
  unfold setAttr
  refine wpAny_bind (wpAny_mkText (wpAny_bind (wpAny_callSpecial?_slot (T := "function") ⟨_, hf, rfl⟩ slot_fn_sa ?_)))
  refine wpAny_call_entry slot_fn_sa ⟨_, hf, rfl⟩ PySem.F.entry_object_sa ?_ (by unfold argsOk; kernel_rfl)
  rw [osa_eq, refuse_eq]
  refine wpAny_bind (wpAny_bind (wpAny_typeOf (T := "function") ⟨_, hf, rfl⟩ ?_))
  rw [mro_fn, pure_bind, passes_fn]
  refine wpAny_pure (wpAny_bind (wpAny_typeOf (T := "function") ⟨_, hf, rfl⟩ ?_))
  rw [fn_no_read, pure_bind]
  refine wpAny_bind (wpAny_pure ?_)
  show wpAny _ _ (storeInOwnDict (.ref f) (.type "function") _ _ v false) _ _ _
  rw [fn_store]
  unfold instanceDict
  refine wpAny_bind (wpAny_bind (wpAny_loadPart hf ?_))
  dsimp only
  rw [fn_has_dict]
  simp only [Bool.not_true, Bool.or_self, Bool.false_eq_true, if_false]
  have hlt : ∀ p ∈ pre ++ (f, ({ cls := .type "function", data := .func fd } : Obj)) :: post, p.1 < s.heap.objs.size := fun p hp => Heap.lt_size (N p hp).1
  have hfd : f < s.heap.objs.size := Heap.lt_size hf
  refine wpAny_bind (wpAny_alloc ?_)
  have hf' : (s.heap.push emptyDict).get? f = some { cls := .type "function", data := .func fd } := Heap.get?_push_of_some _ hf
  refine wpAny_bind (wpAny_update hf' ?_)
  have F1 : Fr h₀ L (s.heap.push emptyDict) m := F.push _
  have N1 : News h₀ L (s.heap.push emptyDict) (((s.heap.objs.size, emptyDict) :: pre) ++ (f, { cls := .type "function", data := .func fd }) :: post) := N.push F _
  obtain ⟨F2, N2⟩ := news_upd (f := fun o => { o with dict := some s.heap.objs.size }) (o' := { cls := .type "function", dict := some s.heap.objs.size, data := .func fd }) F1 N1
    (fun p hp => by rcases List.mem_cons.mp hp with rfl | hp
                    · exact Nat.ne_of_gt hfd
                    · exact h1 p hp) h2 rfl rfl
  have d2 : ∀ p ∈ pre ++ (f, ({ cls := .type "function", dict := some s.heap.objs.size, data := .func fd } : Obj)) :: post, p.1 ≠ s.heap.objs.size := fun p hp => by
    rcases List.mem_append.mp hp with hp | hp
    · exact Nat.ne_of_lt (hlt p (by simp [hp]))
    · rcases List.mem_cons.mp hp with rfl | hp
      · exact Nat.ne_of_lt hfd
      · exact Nat.ne_of_lt (hlt p (by simp [hp]))
  have e2 := (N2 (s.heap.objs.size, emptyDict) (by simp)).1
  show wpAny _ _ (dictMade (.type "function") f s.heap.objs.size >>= _) _ _ _
  unfold dictMade
  dsimp only
  rw [fn_not_alone]
  simp only [Bool.false_eq_true, if_false, pure_bind]
  refine wpAny_bind (wpAny_pure ?_)
  unfold storeInDict newKeyGuard
  dsimp only
  refine wpAny_pure ?_
  dsimp only
  refine wpAny_bind (wpAny_pure (wpAny_bind ?_))
  unfold nsSet
  refine wpAny_bind (wpAny_bind (wpAny_askSetting (wpAny_pure (wpAny_bind (wpAny_mkText (wpAny_bind (wpAny_loadPart e2 ?_)))))))
  dsimp only
  rw [aRefKeyMayBeTheName_at]
  simp only [List.any_toArray, List.any_nil, Bool.and_false, Bool.false_eq_true, if_false]
  refine wpAny_updatePart e2 ?_
  obtain ⟨F3, N3⟩ := news_upd (pre := []) (f := Obj.putName (Str.ofString "read") (PyData.keyHash w.params (Str.ofString "read")) (.str (Str.ofString "read") (s.toks + 1)) v) F2 N2 (by simp) d2 (put_empty _ _ _ _) rfl
  have e3 := (N3 (s.heap.objs.size, dictOf [⟨PyData.keyHash w.params (Str.ofString "read"), .str (Str.ofString "read") (s.toks + 1), v⟩] 1) (List.Mem.head _)).1
  refine wpAny_bind (wpAny_lookBehind e3 (pastItsLine_dict (by rw [List.size_toArray, List.length_singleton, sizeLine_eq]; omega)) ?_)
  exact wpAny_pure ⟨_, rfl, wpAny_pure (h _ _ _ F3 N3 hlt)⟩
end

end
section
open Builtin Builtin.ObjectAttr
set_option maxRecDepth 100000
theorem slot_fn_ga : Slot "function" "__getattribute__" "object.__getattribute__" :=
  .of (owner := "object") (n := "__getattribute__") (by rw [typeLookup_type, builtinLookup_eq_fast]; kernel_rfl) (by decide +kernel) (by decide +kernel) (by decide +kernel)
    (by first | exact .inl (by decide +kernel) | exact .inr (by decide +kernel)) (by rw [isSubtype_type]; kernel_rfl)
theorem entry_obj_ga : entryFor table "object.__getattribute__" = some Builtin.«object.__getattribute__» := entryFor_of_tree (by kernel_rfl)
theorem fn_no_ga : typeLookup (.type "function") "__getattr__" = pure none := by rw [typeLookup_type, builtinLookup_eq_fast]; kernel_rfl
theorem ga_eq (self : Value) (name : Str) (tk : Tok) : Builtin.«object.__getattribute__» ⟨[self, .str name tk], []⟩ = (typeOf self >>= fun tp => find self tp name >>= fun r => match r with
  | .value v => ret v
  | .bind g a => bindTo g a self tp
  | .missing => (do
    if tp == .type "module" then
      if ← isOpaqueModuleObj self then
        let byTheModulesOwnEntry := match (← stack).drop 1 with
          | (.builtin "module.__getattribute__" ⟨m :: _, _⟩, _) :: _ => m == self
          | _ => false
        if !byTheModulesOwnEntry then unsupported "thirdparty:object.__getattribute__:a-miss-on-an-opaque-module"
    if tp == .type "type" then
      if let some key ← opaqueClassAbove self then unsupported s!"thirdparty:{key.toString}.{name.toString}:object.__getattribute__-misses-on-an-opaque-class"
    noSuchAttribute self name)) := by kernel_rfl
section
variable {prog : Program} {w : World} {A : Around} {E : Value → Shared → Prop} {s : Shared} {f d r : Addr} {fd : FuncData} {hs : Int} {tr : Tok} {pl : Sem Bool}
theorem meth_fn {Q : Value × List Value → Shared → Prop} (hf : s.heap.get? f = some { cls := .type "function", dict := some d, data := .func fd }) (hd : s.heap.get? d = some (dictOf [⟨hs, .str (Str.ofString "read") tr, .ref r⟩] 1))
    (h : Q (.ref r, []) { s with toks := s.toks + 1 }) : wpAny (model prog w) A (getMethod (.ref f) (Str.ofString "read") pl) Q E s := by
  have hcan := PySem.F.canon_object_ga
  have hT : s.TypeIs (.ref f) "function" := ⟨_, hf, rfl⟩
  unfold getMethod
  refine wpAny_bind (wpAny_specialOf hT slot_fn_ga.lookup ?_)
  dsimp only
  rw [hcan, if_neg (by decide)]
  refine wpAny_bind (wpAny_specialOf hT fn_no_ga ?_)
  simp only [Option.isSome_none, Bool.false_eq_true, if_false]
  refine wpAny_bind (wpAny_specialOf hT fn_no_read ?_)
  dsimp only
  refine wpAny_bind ?_
  unfold getAttr getAttrBy
  refine wpAny_bind (wpAny_mkText (wpAny_holding ?_))
  have hT' : Shared.TypeIs { s with toks := s.toks + 1 } (.ref f) "function" := hT
  refine wpAny_bind (wpAny_typeOf hT' ?_)
  rw [slot_fn_ga.lookup, pure_bind]
  dsimp only [onTheHeap]
  simp only [Bool.false_and, Bool.false_eq_true, if_false]
  unfold getAttrByItsOwn hookBefore
  dsimp only [onTheHeap]
  simp only [Bool.false_eq_true, if_false, pure_bind]
  refine wpAny_bind (wpAny_attempt (wpAny_holding ?_))
  show wpAny _ _ (callGetattribute _ _ _ false) _ _ _
  unfold callGetattribute boundAndCalled
  simp only [Bool.false_and, Bool.false_eq_true, if_false]
  rw [slot_fn_ga.bind, pure_bind]
  refine wpAny_call_entry slot_fn_ga hT' entry_obj_ga ?_ (by unfold argsOk; kernel_rfl)
  show wpAny _ _ (Builtin.«object.__getattribute__» ⟨[.ref f, .str (Str.ofString "read") s.toks], []⟩) _ _ _
  rw [ga_eq]
  refine wpAny_bind (wpAny_typeOf hT' (wpAny_bind ?_))
  unfold find
  rw [fn_no_read, pure_bind]
  show wpAny _ _ (pure none >>= fun get => _) _ _ _
  rw [pure_bind]
  show wpAny _ _ (pure none >>= fun get => _) _ _ _
  rw [pure_bind]
  dsimp only
  unfold ownThenClass inOwnDict ObjectAttr.ownDict loadHead instanceDict
  refine wpAny_bind (wpAny_bind (wpAny_bind (wpAny_loadPart hf ?_)))
  dsimp only
  refine wpAny_bind (wpAny_loadPart hf ?_)
  dsimp only
  refine wpAny_pure ?_
  show wpAny _ _ (nsGet d (Str.ofString "read")) _ _ _
  unfold nsGet
  refine wpAny_bind (wpAny_loadPart hd ?_)
  rw [nsLook_of (r := some (.ref r)) (by kernel_rfl)]
  refine wpAny_pure ?_
  dsimp only
  refine wpAny_bind (wpAny_rule (wpAny_pure ?_))
  dsimp only
  refine wpAny_pure ⟨_, rfl, ?_⟩
  rw [handedOut_of rfl]
  exact wpAny_pure (wpAny_pure h)
theorem set_fnU {h₀ : Heap} {L : Addr} {m : Str → Option Value} {news : List (Addr × Obj)} {g : Obj → List (Addr × Obj)} {Q : Unit → Shared → Prop} {v : Value} (F : Fr h₀ L s.heap m) (N : News h₀ L s.heap news) (U : UpdF f { cls := .type "function", data := .func fd } news g)
    (h : ∀ d t h', Fr h₀ L h' m → News h₀ L h' ((d, dictOf [⟨PyData.keyHash w.params (Str.ofString "read"), .str (Str.ofString "read") t, v⟩] 1) :: g { cls := .type "function", dict := some d, data := .func fd }) → (∀ p ∈ news, p.1 < d) → Q () { s with heap := h', toks := s.toks + 2 }) :
    wpAny (model prog w) A (setAttr (.ref f) (Str.ofString "read") v) Q E s := by
  obtain ⟨own, rest, rfl, hg, h1, h2⟩ := U.split
  exact set_fn F N h1 h2 fun d t h' F' N' l => h d t h' F' (by rw [hg]; exact N') l
end

end
section
section
variable {prog : Program} {w : World} {A A₀ : Around} {s : Shared} {K : Frag} {L : Addr} {h₀ base : Heap} {m mg mb : Str → Option Value} {news : List (Addr × Obj)} {p : Program} {loose : List Str} {mean : ExcName → Option Value}
/-- a lambda of the ledger is entered -/
theorem lam_in {env : Env} {outer : List Env} {R : Result → Shared → Prop} {name qual : Str} {params : Arguments} {body : Expr} {scope : Scope} {cl : List (Str × Addr)} {pm ctv : Value} {c' : Addr} {f : Addr} {args : Args} {binds : List (Str × Value)}
    (B : Below A₀ base outer h₀) (F : Fr h₀ L s.heap m) (X₀ : K.In h₀) (N : News h₀ L s.heap news) (T : Top p loose mean mg mb h₀) (hA : A.frames = some (env :: outer)) (hf : env.frame = some L) (hke : env.scope.kind = .function)
    (ho : (f, kla_obj name qual params body scope cl pm c' ctv) ∈ news) (hcd : s.heap.CodeRec (.ref c') qual) (hroom : A.depth < recursionLimit)
    (hbind : bindArgs (kla_fn name qual params body scope cl pm (.ref c') ctv) args = pure binds) (hloc : ∀ y ∈ binds, scope.names.lookup y.1 = some .local)
    (h : ∀ g L' h₁, Fr h₀ L g m → Fr g L' h₁ (fun y => binds.reverse.lookup y) → News g L' h₁ news → Below A base (env :: outer) g → K.In g → Top p loose mean mg mb g → (∀ b o, s.heap.get? b = some o → b < L') →
      wpAny (model prog w) (A.deeper (envX qual scope L' f (.ref c') cl)) (eval body (envX qual scope L' f (.ref c') cl))
        (fun v s' => LeaveK h₀ L m g (fun r s' => Kept (news.map (·.1)) s.heap s'.heap → R r s') v s')
        (fun e s' => wpAny (model prog w) (A.deeper (envX qual scope L' f (.ref c') cl)) (leaving (envX qual scope L' f (.ref c') cl) e) (fun _ s'' => R (.error e) s'') (fun e' s'' => R (.error e') s'') s')
        { s with heap := h₁, toks := s.toks + binds.length })
    (hco : scope.isCoroutine = false) (hgen : scope.isGenerator = false) (hk : scope.kind = .function)
    (hcell : ∀ x ∈ scope.names, x.2 ≠ .cell) : codeAny (model prog w) A (.call (.ref f) args) R s := by
  obtain ⟨FG, BG, st, lv⟩ := groundX (R := R) B F N hA hf hke
  refine kla_callFunE hroom (N _ ho).1 rfl hco hgen rfl hcd ?_
  rw [hbind]
  refine wpAny_pure (wpAny_newFunctionEnv hcell hloc (fun h₁ hns hsb => ⟨((T.nolimit).keeps F.keep).fresh _ hsb, ?_⟩) hk)
  show codeAny _ _ (.expr body (envX qual scope s.heap.objs.size f (.ref c') cl)) _ _
  have hk₁ : ∀ b o, s.heap.get? b = some o → h₁.get? b = some o := fun b o e => hsb.extBut b o (Nat.ne_of_lt (Heap.lt_size e)) (Heap.get?_push_of_some _ e)
  refine kla_codeExpr (wpAny_mono (h _ s.heap.objs.size h₁ FG ⟨hns, fun b o e => hk₁ b o (of_hideAll _ e), Nat.le_of_eq (hideAll_size _ _)⟩
    (fun p hp => ⟨hk₁ _ _ (N p hp).1, Nat.ne_of_lt (Heap.lt_size (N p hp).1), hideAll_none _ (List.mem_map_of_mem hp)⟩) BG (X₀.keeps st) (T.keeps st) (fun b o e => Heap.lt_size e)) (fun v s' hl => ?_) fun _ _ y => y)
  obtain ⟨L', m', news', F', N', k⟩ := hl
  exact lv _ _ ⟨L', m', news', F', N', fun a b => k a b fun x o e n => F'.keep x o (hideAll_get _ e n)⟩
end

end
section
section
variable {prog : Program} {w : World} {A : Around} {E : Value → Shared → Prop} {s : Shared} {h₀ : Heap} {L : Addr} {m : Str → Option Value} {news : List (Addr × Obj)} {Q : Value → Shared → Prop}
theorem strs_signs : ∀ (ys : List Value) (cs : List Nat), ys.length = cs.length → (∀ (j : Nat) (v : Value), ys[j]? = some v → ∃ c u, cs[j]? = some c ∧ v = Value.str ⟨#[c]⟩ u) → StrsAre ys (cs.map fun n => (⟨#[n]⟩ : Str))
  | [], [], _, _ => .nil
  | [], _ :: _, h, _ => by simp at h
  | _ :: _, [], h, _ => by simp at h
  | y :: ys, c :: cs, h, f => by
    obtain ⟨c', u, e, rfl⟩ := f 0 y rfl
    have e' : c = c' := by simpa using e
    subst e'
    exact .cons _ _ (strs_signs ys cs (by simpa using h) fun j v hv => by simpa using f (j + 1) v (by simpa using hv))
theorem list_strK {x : Str} {t : Tok} (hh : A.handled = none) (F : Fr h₀ L s.heap m) (N : News h₀ L s.heap news)
    (h : ∀ D ys c h' tk, Fr h₀ L h' m → News h₀ L h' ((D, W.listOf ys.toArray c) :: news) → (∀ q ∈ news, q.1 < D) → StrsAre ys (signs x) → Q (.ref D) { s with heap := h', toks := tk }) (hsz : x.length ≤ sizeLine) :
    wpAny (model prog w) A (call (.type "list") [.str x t]) Q E s := by
  refine call_list_str hh x t (hn := hsz) fun h' tk acc' c' hk hS' hacc => ?_
  refine h _ acc'.toList c' h' tk (F.keeps hk) (news_pushed F N hk (by simpa using hS') rfl) (fun q hq => Heap.lt_size (N q hq).1) ?_
  refine strs_signs _ _ (by simpa using hacc.1) fun j v hv => ?_
  obtain ⟨c, u, hc, rfl⟩ := hacc.2 j v (by simpa using hv)
  exact ⟨c, u, by simpa using hc, rfl⟩
end

/-- the lambda that the stream bears: one sign is taken off the list of signs -/
def ReadOk (w : World) (rd lf : Addr) (core : List (Addr × Obj)) : Prop :=
  ∀ {mean : ExcName → Option Value} {mg mb : Str → Option Value} {dp un : Nat} {gd : Option (List Code)} {cn : Str} {cs : Scope} {a : Addr} {ccd : Value} {cl : List (Str × Addr)} {outer : List Env} {A₀ : Around} {base h₀ : Heap} {L : Addr} {m : Str → Option Value} {s : Shared} {Q E : Value → Shared → Prop}
    (t : Tok) (ys : List Value) (c : Nat), Below A₀ base outer h₀ → Fr h₀ L s.heap m → (hd.heap_39 w.params).In h₀ → News h₀ L s.heap ((lf, W.listOf ys.toArray c) :: core) → Top topProg (looseW hd.view_39 [] ++ (recsOf hd.view_39).map (·.name) ++ (litsOf hd.view_39).map (·.1) ++ (clssOf hd.view_39 (looseW hd.view_39 [])).map (·.name)) mean mg mb h₀ → cs.kind = .function →
    dp + 5 < recursionLimit → un + 50 < cLine → ys.length ≤ 100000 →
    (ys = [] → ∀ t' h' tk', Fr h₀ L h' m → News h₀ L h' ((lf, W.listOf ys.toArray c) :: core) → Kept (lf :: core.map (·.1)) s.heap h' → Q (.str (Str.ofString "") t') { s with heap := h', toks := tk' }) →
    (∀ x u rest, ys = .str x u :: rest → x.length ≤ 100 → ∀ t' c' h' tk', Fr h₀ L h' m → News h₀ L h' ((lf, W.listOf rest.toArray c') :: core) → Kept (lf :: core.map (·.1)) s.heap h' → Q (.str x t') { s with heap := h', toks := tk' }) →
    (∀ v rest, ys = v :: rest → ∃ x u, v = .str x u ∧ x.length ≤ 100) →
    wpAny (model Challenge.rw_re0022_01.row.prog w) (ktrTop dp un gd cn cs L a ccd cl outer) (call (.ref rd) [.int 1 t]) Q E s

/-- the lexer's objects -/
structure Lex where
  pb : Addr
  lx : Addr
  dx : Addr
  sd : Addr
  rd : Addr
  rc : Addr
  st : Addr
  lf : Addr
  ce : Addr
  k1 : Tok
  k2 : Tok
  k3 : Tok
  k4 : Tok
  tw : Tok
  tr : Tok
  fr : FuncData
  oRc : Obj
  oCe : Obj
  fd : FuncData
abbrev Lex.dict (w : World) (l : Lex) (n : Int) (tn : Tok) : Obj :=
  dictOf [⟨PyData.keyHash w.params (Str.ofString "lineno"), .str (Str.ofString "lineno") l.k1, .int n tn⟩, ⟨PyData.keyHash w.params (Str.ofString "instream"), .str (Str.ofString "instream") l.k2, .ref l.st⟩,
    ⟨PyData.keyHash w.params (Str.ofString "whitespace"), .str (Str.ofString "whitespace") l.k3, .str (Str.ofString "\n\t\r ") l.tw⟩, ⟨PyData.keyHash w.params (Str.ofString "pushback"), .str (Str.ofString "pushback") l.k4, .ref l.pb⟩] 4
abbrev Lex.led (w : World) (l : Lex) (n : Int) (tn : Tok) (ys : List Value) (c : Nat) (ps : List Value) (cp : Nat) : List (Addr × Obj) :=
  [(l.pb, W.listOf ps.toArray cp), (l.lx, instObj 66 l.dx), (l.dx, l.dict w n tn), (l.sd, dictOf [⟨PyData.keyHash w.params (Str.ofString "read"), .str (Str.ofString "read") l.tr, .ref l.rd⟩] 1), (l.rd, { cls := .type "function", data := .func l.fr }), (l.rc, l.oRc),
    (l.st, { cls := .type "function", dict := some l.sd, data := .func l.fd }), (l.lf, W.listOf ys.toArray c), (l.ce, l.oCe)]
structure Lex.Ok (w : World) (l : Lex) : Prop where
  order : @LT.lt Nat _ l.ce l.lf ∧ @LT.lt Nat _ l.lf l.st ∧ @LT.lt Nat _ l.st l.rc ∧ @LT.lt Nat _ l.rc l.rd ∧ @LT.lt Nat _ l.rd l.sd ∧ @LT.lt Nat _ l.sd l.dx ∧ @LT.lt Nat _ l.dx l.lx ∧ @LT.lt Nat _ l.lx l.pb
  reads : ReadOk w l.rd l.lf [(l.rd, { cls := .type "function", data := .func l.fr }), (l.rc, l.oRc), (l.ce, l.oCe)]
theorem led_of {h₀ h : Heap} {L : Addr} {p1 p2 p3 p4 p5 p6 p7 p8 p9 p10 p11 : Addr × Obj} (N : News h₀ L h [p1, p2, p3, p4, p5, p6, p7, p8, p9, p10, p11]) : News h₀ L h [p11, p1, p2, p3, p4, p5, p6, p7, p9, p10] := by
  intro p hp
  refine N p ?_
  simp only [List.mem_cons, List.not_mem_nil, or_false] at hp ⊢
  rcases hp with rfl | rfl | rfl | rfl | rfl | rfl | rfl | rfl | rfl | rfl <;> simp
section
variable {prog : Program} {w : World} {A : Around} {E : Value → Shared → Prop} {s : Shared} {h₀ : Heap} {L D : Addr} {m : Str → Option Value} {news news' : List (Addr × Obj)} {Q : Value → Shared → Prop} {v : Value} {ys rest : List Value} {n : Nat} {t u : Tok}
theorem pop_first (F : Fr h₀ L s.heap m) (N : News h₀ L s.heap news) (U : Upd D (W.listOf (v :: rest).toArray n) (W.listOf rest.toArray (n + 1)) news news') (hz : (v :: rest).length ≤ 1000000)
    (h : ∀ h', Fr h₀ L h' m → News h₀ L h' news' → Q v { s with heap := h' }) : wpAny (model prog w) A (call (.builtin "list.pop") [.ref D, .int 0 u]) Q E s :=
  kl_popAt (p := []) (q := rest) (y := v) (k := 0) F N (by decide) (by rw [List.size_toArray]; unfold seqIndex?; simp) (by simp [kl_cut]) U (by rw [sizeLine_eq]; show (v :: rest).length ≤ _; omega) h
theorem len_led (N : News h₀ L s.heap news) (hm : (D, W.listOf ys.toArray n) ∈ news) (hz : ys.length ≤ 1000000) (h : Q (.int (ys.length : Int) (s.toks + 1)) { s with toks := s.toks + 1 + 1 }) : wpAny (model prog w) A (call (.builtin "len") [.ref D]) Q E s :=
  len_list ⟨_, (N _ hm).1, rfl, n, rfl⟩ (by rw [List.size_toArray]; omega) (by simpa using h)
theorem min_one {b : Int} (hh : A.handled = none) (F : Fr h₀ L s.heap m) (N : News h₀ L s.heap news) (hb : 1 ≤ b) (h : ∀ h' tk, Fr h₀ L h' m → News h₀ L h' news → Q (.int 1 t) { s with heap := h', toks := tk }) :
    wpAny (model prog w) A (call (.builtin "min") [.int 1 t, .int b u]) Q E s :=
  min_two_N hh F N fun h' tk F' N' => by rw [if_neg (by omega), if_neg (by omega)]; exact h h' tk F' N'
theorem min_zero {b : Int} (hh : A.handled = none) (F : Fr h₀ L s.heap m) (N : News h₀ L s.heap news) (hb : b = 0) (h : ∀ h' tk, Fr h₀ L h' m → News h₀ L h' news → Q (.int 0 u) { s with heap := h', toks := tk }) :
    wpAny (model prog w) A (call (.builtin "min") [.int 1 t, .int b u]) Q E s :=
  min_two_N hh F N fun h' tk F' N' => by subst hb; rw [if_pos (by omega), if_pos (by omega)]; exact h h' tk F' N'
end
theorem news_tl {h₀ h : Heap} {L : Addr} {p : Addr × Obj} {l : List (Addr × Obj)} (N : News h₀ L h (p :: l)) : News h₀ L h l := fun q hq => N q (List.mem_cons_of_mem _ hq)
theorem lt_up {h : Heap} {L : Addr} (H : ∀ (b : Addr) (o : Obj), h.get? b = some o → b < L) : ∀ (b : Addr) (o : Obj), h.get? b = some o → b < L + 1 := fun b o e => Nat.lt_succ_of_lt (H b o e)
theorem join_none : Txt.join (Str.ofString "") [] = Str.ofString "" := by decide
theorem join_single (x : Str) : Txt.join (Str.ofString "") [x] = x := rfl
theorem join_small (x : Str) (hx : x.length ≤ 100) : (([x] : List Str).map (·.length)).sum + ([x] : List Str).length * (Str.ofString "").length ≤ 16777216 := by
  have h0 : (Str.ofString "").length = 0 := by decide
  rw [h0]
  simp
  omega
section
variable {w : World} {mean : ExcName → Option Value} {mg mb : Str → Option Value} {dp un : Nat} {gd : Option (List Code)} {cn : Str} {cs : Scope} {a : Addr} {ccd : Value} {cl : List (Str × Addr)} {outer : List Env} {A₀ : Around} {base h₀ : Heap} {L : Addr} {m : Str → Option Value} {s : Shared} {Q E : Value → Shared → Prop}
set_option maxRecDepth 100000 in
set_option maxHeartbeats 8000000 in
theorem lexer_spec (x : Str) (t : Tok) 
    (B : Below A₀ base outer h₀) (F : Fr h₀ L s.heap m) (X : (hd.heap_39 w.params).In h₀) (N : News h₀ L s.heap [(79, tabObj #[])]) (T : Top topProg (looseW hd.view_39 [] ++ (recsOf hd.view_39).map (·.name) ++ (litsOf hd.view_39).map (·.1) ++ (clssOf hd.view_39 (looseW hd.view_39 [])).map (·.name)) mean mg mb h₀) (hk : cs.kind = .function)
    (hd : dp + 10 < recursionLimit) (hu : un + 100 < cLine) (hx : x.length ≤ 10000) (hc : CodeHd h₀ 83 79)
    (ret : ∀ (l : Lex) (tn : Tok) (ys : List Value) (c : Nat) (pT : Array Value) (h' : Heap) (tk' : Nat), l.Ok w → StrsAre ys (signs x) → (∀ b o, s.heap.get? b = some o → b < l.ce) → Fr h₀ L h' m → News h₀ L h' ((79, tabObj pT) :: l.led w 1 tn ys c [] 0) → Kept [79] s.heap h' → Q (.ref l.lx) { s with heap := h', toks := tk' }) :
    wpAny (model Challenge.rw_re0022_01.row.prog w) (ktrTop dp un gd cn cs L a ccd cl outer) (call (.ref 84) [.str x t]) Q E s := by
  revert X; k_fill; intro X
  refine wpAny_call ?_
  k_dflt cell_enter
  k_with_none
  k_with "call type:list" => (k_here; (with_reducible show wpAny _ _ (call (Value.type "list") [Value.str _ _]) _ _ _); k_dflt (refine' list_strK ?k0 ?k1 ?k2 ?_ ?z; (case k0 => exact rfl); (case k1 => k_asm); (case k2 => k_asm); (case z => size_fits); k_whole); intro D' ys' c' h' tk' F' N' l1 hS'; (try k_lt l1); (try k_sweep))
  k_with "setAttr ref" => (k_here; (with_reducible show wpAny _ _ (setAttr (Value.ref _) (PySem.Str.ofString "read") _) _ _ _); k_dflt (refine' set_fnU ?k1 ?k2 ?k3 ?_; (case k1 => k_asm); (case k2 => k_asm); (case k3 => k_updF); k_whole); intro d' t' h' F' N' l1; (try dsimp only at N'); (try k_lt l1); (try k_sweep))
  k_with "call builtin:len" => (k_here; (with_reducible show wpAny _ _ (call (Value.builtin "len") [Value.ref _]) _ _ _); k_dflt (refine' len_led ?k1 ?k2 ?k3 ?_; (case k1 => k_asm); (case k2 => k_mem); (case k3 => (simp only [List.length_cons, List.length_nil] at *; omega)); k_whole))
  k_with "call builtin:min" => (k_here; k_dflt (first | (refine' min_one ?k0 ?k1 ?k2 ?k3 ?_; (case k0 => exact rfl); (case k1 => k_asm); (case k2 => k_asm); (case k3 => (simp only [List.length_cons, List.length_nil] at *; omega)); k_whole) | (refine' min_zero ?k0 ?k1 ?k2 ?k3 ?_; (case k0 => exact rfl); (case k1 => k_asm); (case k2 => k_asm); (case k3 => (simp only [List.length_cons, List.length_nil] at *; omega)); k_whole)); intro h' tk' F' N'; (try k_sweep))
  k_with "CompSrc" => (k_here; k_dflt (first | (refine LCg.CompSrc.range (n := 0) (by rfl) (by k_asm) (by k_asm) (by assumption) (by decide) (by rfl) (by decide) ?_; intro g'; refine LCg.CompRest.zero ?_) | (refine LCg.CompSrc.range (n := 1) (by rfl) (by k_asm) (by k_asm) (by assumption) (by decide) (by rfl) (by decide) ?_; intro g'; refine LCg.CompRest.succ ?_; intro v' I' oI' C' oC' D' m' h' tk' E' hv' hC' hx' F' N' off' ne'; (try (simp only [LCg.Off3, and_true] at off')))))
  k_with "call builtin:list.pop" => (k_here; k_dflt (refine' pop_first ?k1 ?k2 ?k3 ?k4 ?_; (case k1 => k_asm); (case k2 => k_asm); (case k3 => k_upd); (case k4 => (simp only [List.length_cons] at *; omega)); k_whole); intro h' F' N'; (try k_sweep))
  k_with "CompEnd" => (refine LCg.CompEnd.intro (by assumption) (by assumption) _ (fun _ h9 => h9) (by simp only [LCg.Off3, and_true]; omega) trivial (LCg.CompRest.zero ?_))
  k_with "call builtin:str.join" => (k_here; k_dflt (first | (refine' join_led ?k1 ?k2 (.nil) ?k4 ?_; (case k1 => k_asm); (case k2 => k_mem); (case k4 => decide)) | (refine' join_led ?k1 ?k2 (.cons _ _ .nil) ?k4 ?_; (case k1 => k_asm); (case k2 => k_mem); (case k4 => exact join_small _ (by assumption)))); intro t8 k8)
  (rename Fr h₀ L _ m => hFG)
  have hc' := CodeHd.keeps hc hFG.keep
  k_steps
  (rename News h₀ L _ _ => kN9)
  (rename Kept _ _ _ => kK9)
  refine ret ⟨_, _, _, _, _, _, _, _, _, _, _, _, _, _, _, _, _, _, _⟩ _ _ _ _ _ _ ?ok (by assumption) ?lo (by assumption) (led_of kN9) kK9
  case lo =>
    exact lt_up (by assumption)
  refine ⟨by dsimp only; omega, ?_⟩
  dsimp only
  unfold ReadOk
  (repeat (rename (News _ _ _ _) => hz; clear hz))
  intro mean₂ mg₂ mb₂ dp₂ un₂ gd₂ cn₂ cs₂ a₂ ccd₂ cl₂ outer₂ A₂ base₂ h₂ L₂ m₂ s₂ Q₂ E₂ t₂ ys₂ c₂ B₂ F₂ X₂ N₂ T₂ hk₂ hd₂ hu₂ hl₂ r0 r1 hv
  refine wpAny_call ?_
  cases ys₂ with
  | nil =>
    k_dflt (refine' lam_in ?k1 ?k2 ?k3 ?k4 ?k5 ?kA ?kF ?kK ?k6 ?k7 ?k8 ?k9 ?kB ?_ ?c2 ?c3 ?c4 ?c5; (case kA => exact rfl); (case kF => exact rfl); (case kK => assumption); (case k1 => exact B₂); (case k2 => exact F₂); (case k3 => exact X₂); (case k4 => exact N₂); (case k5 => exact T₂); (case k6 => k_mem); (case k7 => exact codeRec_news (by exact N₂) (by k_mem) (by assumption) (by assumption)); (case k8 => ktr_room); (case k9 => exact rfl); (case c5 => decide); (case kB => exact locs rfl); (case c2 => exact rfl); (case c3 => exact rfl); (case c4 => exact rfl); k_whole; intro g' L' h' FG' F' N' B' X' T' hb'; (try dsimp only); (try k_fold))
    k_steps
    rw [join_none]
    exact r0 rfl _ _ _ (by assumption) (news_tl (by assumption)) (by assumption)
  | cons v rest =>
    obtain ⟨x, u, rfl, hx9⟩ := hv v rest rfl
    k_dflt (refine' lam_in ?k1 ?k2 ?k3 ?k4 ?k5 ?kA ?kF ?kK ?k6 ?k7 ?k8 ?k9 ?kB ?_ ?c2 ?c3 ?c4 ?c5; (case kA => exact rfl); (case kF => exact rfl); (case kK => assumption); (case k1 => exact B₂); (case k2 => exact F₂); (case k3 => exact X₂); (case k4 => exact N₂); (case k5 => exact T₂); (case k6 => k_mem); (case k7 => exact codeRec_news (by exact N₂) (by k_mem) (by assumption) (by assumption)); (case k8 => ktr_room); (case k9 => exact rfl); (case c5 => decide); (case kB => exact locs rfl); (case c2 => exact rfl); (case c3 => exact rfl); (case c4 => exact rfl); k_whole; intro g' L' h' FG' F' N' B' X' T' hb'; (try dsimp only); (try k_fold))
    k_steps
    rw [join_single]
    exact r1 _ _ _ rfl hx9 _ _ _ _ (by assumption) (news_tl (by assumption)) (by assumption)
end

end
section
abbrev Lex.adr (l : Lex) : List Addr := [l.pb, l.lx, l.dx, l.sd, l.rd, l.rc, l.st, l.lf, l.ce]
abbrev ones (ks : List Nat) : List Str := ks.map fun k => (⟨#[k]⟩ : Str)
structure Off4 (lf rd rc ce : Addr) (q : Addr) : Prop where
  h : @Ne Nat q lf ∧ @Ne Nat q rd ∧ @Ne Nat q rc ∧ @Ne Nat q ce
theorem news_back4 {h₀ h h' : Heap} {L : Addr} {p1 p2 p3 p4 p7 : Addr × Obj} {lf rd rc ce : Addr} {oL oL' oR oRc oCe : Obj} (N : News h₀ L h [p1, p2, p3, p4, (rd, oR), (rc, oRc), p7, (lf, oL), (ce, oCe)])
    (o1 : Off4 lf rd rc ce p1.1) (o2 : Off4 lf rd rc ce p2.1) (o3 : Off4 lf rd rc ce p3.1) (o4 : Off4 lf rd rc ce p4.1) (o7 : Off4 lf rd rc ce p7.1)
    (N' : News h₀ L h' [(lf, oL'), (rd, oR), (rc, oRc), (ce, oCe)]) (K : Kept (lf :: ([(rd, oR), (rc, oRc), (ce, oCe)] : List (Addr × Obj)).map (·.1)) h h') : News h₀ L h' [p1, p2, p3, p4, (rd, oR), (rc, oRc), p7, (lf, oL'), (ce, oCe)] := by
  have old : ∀ q, Off4 lf rd rc ce q.1 → q ∈ [p1, p2, p3, p4, (rd, oR), (rc, oRc), p7, (lf, oL), (ce, oCe)] → h'.get? q.1 = some q.2 ∧ q.1 ≠ L ∧ h₀.get? q.1 = none := fun q o hq =>
    ⟨K _ _ (N q hq).1 (by
      obtain ⟨a, b, c, d⟩ := o.h
      simp only [List.map_cons, List.map_nil, List.mem_cons, List.not_mem_nil, or_false, not_or]
      exact ⟨a, b, c, d⟩), (N q hq).2⟩
  intro q hq
  simp only [List.mem_cons, List.not_mem_nil, or_false] at hq
  rcases hq with rfl | rfl | rfl | rfl | rfl | rfl | rfl | rfl | rfl
  · exact old _ o1 (by simp)
  · exact old _ o2 (by simp)
  · exact old _ o3 (by simp)
  · exact old _ o4 (by simp)
  · exact N' _ (by simp)
  · exact N' _ (by simp)
  · exact old _ o7 (by simp)
  · exact N' _ (by simp)
  · exact N' _ (by simp)
theorem news_sub4 {h₀ h : Heap} {L : Addr} {p1 p2 p3 p4 p5 p6 p7 p8 p9 : Addr × Obj} (N : News h₀ L h [p1, p2, p3, p4, p5, p6, p7, p8, p9]) : News h₀ L h [p8, p5, p6, p9] := by
  intro p hp
  refine N p ?_
  simp only [List.mem_cons, List.not_mem_nil, or_false] at hp ⊢
  rcases hp with rfl | rfl | rfl | rfl <;> simp
section
variable {w : World} {mean : ExcName → Option Value} {mg mb : Str → Option Value} {dp un : Nat} {gd : Option (List Code)} {cn : Str} {cs : Scope} {a : Addr} {ccd : Value} {cl : List (Str × Addr)} {outer : List Env} {A₀ : Around} {base h₀ : Heap} {L : Addr} {m : Str → Option Value} {s : Shared} {Q E : Value → Shared → Prop}

theorem read_nil {p1 p2 p3 p4 p7 : Addr × Obj} {lf rd rc ce : Addr} {oR oRc oCe : Obj} {c : Nat} {t : Tok} (hR : ReadOk w rd lf [(rd, oR), (rc, oRc), (ce, oCe)])
    (B : Below A₀ base outer h₀) (F : Fr h₀ L s.heap m) (X : (hd.heap_39 w.params).In h₀) (N : News h₀ L s.heap [p1, p2, p3, p4, (rd, oR), (rc, oRc), p7, (lf, W.listOf ([] : List Value).toArray c), (ce, oCe)]) (T : Top topProg (looseW hd.view_39 [] ++ (recsOf hd.view_39).map (·.name) ++ (litsOf hd.view_39).map (·.1) ++ (clssOf hd.view_39 (looseW hd.view_39 [])).map (·.name)) mean mg mb h₀) (hk : cs.kind = .function)
    (hd : dp + 5 < recursionLimit) (hu : un + 50 < cLine) (o1 : Off4 lf rd rc ce p1.1) (o2 : Off4 lf rd rc ce p2.1) (o3 : Off4 lf rd rc ce p3.1) (o4 : Off4 lf rd rc ce p4.1) (o7 : Off4 lf rd rc ce p7.1)
    (h : ∀ t' h' tk', Fr h₀ L h' m → News h₀ L h' [p1, p2, p3, p4, (rd, oR), (rc, oRc), p7, (lf, W.listOf ([] : List Value).toArray c), (ce, oCe)] → Q (.str (Str.ofString "") t') { s with heap := h', toks := tk' }) :
    wpAny (model Challenge.rw_re0022_01.row.prog w) (ktrTop dp un gd cn cs L a ccd cl outer) (call (.ref rd) [.int 1 t]) Q E s :=
  hR t [] c B F X (news_sub4 N) T hk hd hu (by simp) (fun _ t' h' tk' F' N' K' => h t' h' tk' F' (news_back4 N o1 o2 o3 o4 o7 N' K')) (fun _ _ _ e => nomatch e) (fun _ _ e => nomatch e)
theorem read_cons {p1 p2 p3 p4 p7 : Addr × Obj} {lf rd rc ce : Addr} {oR oRc oCe : Obj} {c : Nat} {t u : Tok} {x : Str} {rest : List Value} (hR : ReadOk w rd lf [(rd, oR), (rc, oRc), (ce, oCe)])
    (B : Below A₀ base outer h₀) (F : Fr h₀ L s.heap m) (X : (hd.heap_39 w.params).In h₀) (N : News h₀ L s.heap [p1, p2, p3, p4, (rd, oR), (rc, oRc), p7, (lf, W.listOf (Value.str x u :: rest).toArray c), (ce, oCe)]) (T : Top topProg (looseW hd.view_39 [] ++ (recsOf hd.view_39).map (·.name) ++ (litsOf hd.view_39).map (·.1) ++ (clssOf hd.view_39 (looseW hd.view_39 [])).map (·.name)) mean mg mb h₀) (hk : cs.kind = .function)
    (hd : dp + 5 < recursionLimit) (hu : un + 50 < cLine) (o1 : Off4 lf rd rc ce p1.1) (o2 : Off4 lf rd rc ce p2.1) (o3 : Off4 lf rd rc ce p3.1) (o4 : Off4 lf rd rc ce p4.1) (o7 : Off4 lf rd rc ce p7.1) (hx : x.length ≤ 100) (hl : (Value.str x u :: rest).length ≤ 10000)
    (h : ∀ t' c' h' tk', Fr h₀ L h' m → News h₀ L h' [p1, p2, p3, p4, (rd, oR), (rc, oRc), p7, (lf, W.listOf rest.toArray c'), (ce, oCe)] → Q (.str x t') { s with heap := h', toks := tk' }) :
    wpAny (model Challenge.rw_re0022_01.row.prog w) (ktrTop dp un gd cn cs L a ccd cl outer) (call (.ref rd) [.int 1 t]) Q E s :=
  hR t _ c B F X (news_sub4 N) T hk hd hu (by omega) (fun e => nomatch e) (fun x' u' rest' e _ t' c' h' tk' F' N' K' => by
    injection e with e1 e2
    injection e1 with e3 e4
    subst e3 e2
    exact h t' c' h' tk' F' (news_back4 N o1 o2 o3 o4 o7 N' K')) (fun v rest' e => by injection e with e1 e2; exact ⟨x, u, e1.symm, hx⟩)
end
section
variable {w : World} {mean : ExcName → Option Value} {mg mb : Str → Option Value} {dp un : Nat} {gd : Option (List Code)} {cn : Str} {cs : Scope} {a : Addr} {ccd : Value} {cl : List (Str × Addr)} {outer : List Env} {A₀ : Around} {base h₀ : Heap} {L : Addr} {m : Str → Option Value} {s : Shared} {Q E : Value → Shared → Prop}
set_option maxRecDepth 100000 in
set_option maxHeartbeats 8000000 in
theorem readchar_code (l : Lex) (hl : l.Ok w) (n : Int) (tn : Tok) (ys : List Value) (ks : List Nat) (c : Nat) (ps : List Value) (cp : Nat)
    (B : Below A₀ base outer h₀) (F : Fr h₀ L s.heap m) (X : (hd.heap_39 w.params).In h₀) (N : News h₀ L s.heap (l.led w n tn ys c ps cp)) (T : Top topProg (looseW hd.view_39 [] ++ (recsOf hd.view_39).map (·.name) ++ (litsOf hd.view_39).map (·.1) ++ (clssOf hd.view_39 (looseW hd.view_39 [])).map (·.name)) mean mg mb h₀) (hk : cs.kind = .function)
    (hd : dp + 10 < recursionLimit) (hu : un + 100 < cLine) (hS : StrsAre ys (ones ks)) (hx : ys.length ≤ 10000)
    (ret0 : ks = [] → ∀ t' h' tk', Fr h₀ L h' m → News h₀ L h' (l.led w n tn ys c ps cp) → Kept l.adr s.heap h' → Q (.str (Str.ofString "") t') { s with heap := h', toks := tk' })
    (ret1 : ∀ k u ks' ys', ks = k :: ks' → ys = .str ⟨#[k]⟩ u :: ys' → StrsAre ys' (ones ks') → ∀ t' tn' c' h' tk', Fr h₀ L h' m → News h₀ L h' (l.led w (if k = 10 then n + 1 else n) tn' ys' c' ps cp) → Kept l.adr s.heap h' → Q (.str ⟨#[k]⟩ t') { s with heap := h', toks := tk' }) :
    codeAny (model Challenge.rw_re0022_01.row.prog w) (ktrTop dp un gd cn cs L a ccd cl outer) (.call (.ref 49) ⟨[.ref l.lx], []⟩) (fun r s' => match r with | .ok (.ret v) => Q v s' | .ok _ => False | .error e => E e s') s := by
  revert X; k_fill; intro X
  obtain ⟨pb, lx, dx, sd, rd, rc, st, lf, ce, k1, k2, k3, k4, tw, tr, fr, oRc, oCe, fd⟩ := l
  obtain ⟨ho, hr⟩ := hl
  dsimp only [Lex.led, Lex.dict, Lex.adr] at *
  k_with_none
  k_with "getMethod ref" => (k_here; (with_reducible show wpAny _ _ (getMethod (Value.ref _) (PySem.Str.ofString "read") _) _ _ _); k_dflt (refine' meth_fn ?k1 ?k2 ?_; (case k1 => exact (News.get (by k_asm) (by k_mem))); (case k2 => exact (News.get (by k_asm) (by k_mem))); k_whole))
  k_with "callWith ref" => (k_here; k_dflt (refine' callWith_F ?k1 ?_; (case k1 => exact FnAt.of (by k_asm) (by k_mem)); k_whole))
  k_with "call ref" => (k_here; (with_reducible rename ReadOk _ _ _ _ => hRd); k_dflt (first
    | (refine' read_nil hRd ?k1 ?k2 ?k3 ?k4 ?k5 ?k6 ?k7 ?k8 ⟨?o1⟩ ⟨?o2⟩ ⟨?o3⟩ ⟨?o4⟩ ⟨?o7⟩ ?_; (case k1 => k_asm); (case k2 => k_asm); (case k3 => k_asm); (case k4 => k_asm); (case k5 => k_asm); (case k6 => first | exact rfl | assumption); (case k7 => ktr_room); (case k8 => ktr_units); (case o1 => (dsimp only; omega)); (case o2 => (dsimp only; omega)); (case o3 => (dsimp only; omega)); (case o4 => (dsimp only; omega)); (case o7 => (dsimp only; omega)); k_whole; intro t' h' tk' F' N'; (try k_sweep))
    | (refine' read_cons hRd ?k1 ?k2 ?k3 ?k4 ?k5 ?k6 ?k7 ?k8 ⟨?o1⟩ ⟨?o2⟩ ⟨?o3⟩ ⟨?o4⟩ ⟨?o7⟩ ?x1 ?x2 ?_; (case k1 => k_asm); (case k2 => k_asm); (case k3 => k_asm); (case k4 => k_asm); (case k5 => k_asm); (case k6 => first | exact rfl | assumption); (case k7 => ktr_room); (case k8 => ktr_units); (case o1 => (dsimp only; omega)); (case o2 => (dsimp only; omega)); (case o3 => (dsimp only; omega)); (case o4 => (dsimp only; omega)); (case o7 => (dsimp only; omega)); (case x1 => exact Nat.le_of_ble_eq_true rfl); (case x2 => assumption); k_whole; intro t' c' h' tk' F' N'; (try k_sweep))))
  cases ks with
  | nil =>
    cases hS
    k_dflt cell_enter
    k_steps
    all_goals exact ret0 rfl _ _ _ (by assumption) (by assumption) (by assumption)
  | cons k ks' =>
    obtain ⟨u, ys', rfl, hS'⟩ := StrsAre.cons_inv hS
    have r := ret1 k u ks' ys' rfl rfl hS'
    clear ret1 ret0
    k_dflt cell_enter
    k_steps
    · rename ((_ == Str.ofString "\n") = true) => hq
      rw [one_nl, decide_eq_true_eq] at hq
      simp only [if_pos hq] at r
      exact r _ _ _ _ _ (by assumption) (by assumption) (by assumption)
    · rename ((_ == Str.ofString "\n") = false) => hq
      rw [one_nl, decide_eq_false_iff_not] at hq
      simp only [if_neg hq] at r
      exact r _ _ _ _ _ (by assumption) (by assumption) (by assumption)
end

end
section
open Builtin
set_option maxRecDepth 100000
abbrev itObj (q : Addr) (t : Tok) : Obj := { cls := .type "callable_iterator", data := .fields #[.ref q, .str (Str.ofString "") t, .bool false] }
theorem slot_ci_next : Slot "callable_iterator" "__next__" "callable_iterator.__next__" :=
  .of (owner := "callable_iterator") (n := "__next__") (by rw [typeLookup_type, builtinLookup_eq_fast]; kernel_rfl) (by decide +kernel) (by decide +kernel) (by decide +kernel)
    (by first | exact .inl (by decide +kernel) | exact .inr (by decide +kernel)) (by rw [isSubtype_type]; kernel_rfl)
theorem entry_ci_next : entryFor table "callable_iterator.__next__" = some Builtin.«callable_iterator.__next__» := entryFor_of_tree (by kernel_rfl)
theorem args_ci_next (a : Value) : argsOk "callable_iterator.__next__" ⟨[a], []⟩ := by unfold argsOk; kernel_rfl
theorem slot_ci_iter : Slot "callable_iterator" "__iter__" "callable_iterator.__iter__" :=
  .of (owner := "callable_iterator") (n := "__iter__") (by rw [typeLookup_type, builtinLookup_eq_fast]; kernel_rfl) (by decide +kernel) (by decide +kernel) (by decide +kernel)
    (by first | exact .inl (by decide +kernel) | exact .inr (by decide +kernel)) (by rw [isSubtype_type]; kernel_rfl)
theorem kind_iter : builtinKind "iter" = none := by decide +kernel
theorem plain_iter : plainId "iter" = true := by decide +kernel
theorem entry_iter : entryFor table "iter" = some Builtin.«iter» := entryFor_of_tree (by kernel_rfl)
theorem args_iter (a b : Value) : argsOk "iter" ⟨[a, b], []⟩ := by unfold argsOk; kernel_rfl
theorem meth_call : ∃ id, typeLookup (.type "method") "__call__" = pure (some (.builtin id)) := ⟨"method.__call__", by rw [typeLookup_type, builtinLookup_eq_fast]; kernel_rfl⟩
theorem entry_ci_iter : entryFor table "callable_iterator.__iter__" = some Builtin.«dict_keyiterator.__iter__» := entryFor_alias (id' := "dict_keyiterator.__iter__") (by kernel_rfl) rfl (by decide +kernel) (by kernel_rfl)
section
variable {prog : Program} {w : World} {A : Around} {E : Value → Shared → Prop} {s : Shared} {I q f : Addr} {t : Tok} {self : Value}
theorem call_borrowed {g : Value} {pos : List Value} {Q : Value → Shared → Prop} (h : codeAny (model prog w) A (.call g ⟨pos, []⟩) (fun r s' => match r with | .ok (.ret v) => Q v s' | .ok _ => False | .error e => E e s') s) :
    wpAny (model prog w) A (callBorrowed g pos) Q E s := by
  unfold callBorrowed
  refine X.x_call (codeAny_mono h fun r s' hr => ?_) (by intro e; cases e)
  rcases r with e | fl
  · exact wpAny_throw hr
  · cases fl with
    | ret v => exact wpAny_pure hr
    | next => exact hr.elim
    | brk => exact hr.elim
    | cont => exact hr.elim
theorem borrows_meth {Q : Bool → Shared → Prop} (hq : s.heap.get? q = some (methodObj (.ref f) self)) (hf : FnAt f s.heap) (h : Q true s) : wpAny (model prog w) A (borrowsExactly (.ref q)) Q E s := by
  obtain ⟨oc, od, fd, sl, hf⟩ := hf
  unfold borrowsExactly
  dsimp only
  refine wpAny_bind (wpAny_load hq ?_)
  dsimp only
  refine wpAny_bind (wpAny_load hf (wpAny_pure h))
theorem next_item {Q : Option Value → Shared → Prop} (hI : s.heap.get? I = some (itObj q t)) (hq : s.heap.get? q = some (methodObj (.ref f) self)) (hf : FnAt f s.heap)
    (h : codeAny (model prog w) A.in1 (.call (.ref f) ⟨[self], []⟩) (fun r s' => match r with
      | .ok (.ret v) => ∃ x t', v = .str x t' ∧ x ≠ Str.ofString "" ∧ s'.heap.get? I = some (itObj q t) ∧ Q (some v) s'
      | .ok _ => False
      | .error _ => False) s) : wpAny (model prog w) A (pyNext (.ref I)) Q E s := by
  have hT : s.TypeIs (.ref I) "callable_iterator" := ⟨_, hI, rfl⟩
  unfold pyNext
  refine wpAny_bind (wpAny_attempt (wpAny_callSpecial?_slot (name := Str.ofString "__next__") hT slot_ci_next (wpAny_call_entry slot_ci_next hT entry_ci_next ?_ (args_ci_next _))))
  show wpAny _ _ (field (.ref I) 2 >>= _) _ _ s
  refine wpAny_bind (wpAny_field hI rfl (x := .bool false) rfl ?_)
  rw [if_neg (by decide)]
  show wpAny _ _ (field (.ref I) 0 >>= _) _ _ s
  refine wpAny_bind (wpAny_field hI rfl (x := .ref q) rfl ?_)
  unfold callOutOfASlot
  refine wpAny_bind (wpAny_attempt (wpAny_bind (borrows_meth hq hf ?_)))
  rw [if_pos rfl]
  refine call_borrowed (method_call hq (codeAny_mono h fun r s' hr => ?_))
  rcases r with e | fl
  · exact hr.elim
  cases fl with
  | next => exact hr.elim
  | brk => exact hr.elim
  | cont => exact hr.elim
  | ret v =>
    obtain ⟨x, t', rfl, hx, hI', hQ⟩ := hr
    dsimp only
    refine wpAny_bind (wpAny_field hI' rfl (x := .bool false) rfl ?_)
    rw [if_neg (by decide)]
    refine wpAny_bind (wpAny_field hI' rfl (x := .str (Str.ofString "") t) rfl ?_)
    refine wpAny_bind (wpAny_holding (wpAny_eqBool_str ?_))
    rw [decide_eq_false (Ne.symm hx)]
    simp only [Bool.not_false, if_true]
    exact wpAny_pure ⟨_, rfl, wpAny_pure hQ⟩
theorem next_end {Q : Option Value → Shared → Prop} (hh : A.handled = none) (hI : s.heap.get? I = some (itObj q t)) (hq : s.heap.get? q = some (methodObj (.ref f) self)) (hf : FnAt f s.heap)
    (h : codeAny (model prog w) A.in1 (.call (.ref f) ⟨[self], []⟩) (fun r s' => match r with
      | .ok (.ret v) => ∃ t', v = .str (Str.ofString "") t' ∧ s'.heap.get? I = some (itObj q t) ∧ s'.heap.get? q = some (methodObj (.ref f) self) ∧ FnAt f s'.heap ∧ ∀ h', (∀ b o, b ≠ I → s'.heap.get? b = some o → h'.get? b = some o) → Q none { s' with heap := h' }
      | .ok _ => False
      | .error _ => False) s) : wpAny (model prog w) A (pyNext (.ref I)) Q E s := by
  have hT : s.TypeIs (.ref I) "callable_iterator" := ⟨_, hI, rfl⟩
  unfold pyNext
  refine wpAny_bind (wpAny_attempt (wpAny_callSpecial?_slot (name := Str.ofString "__next__") hT slot_ci_next (wpAny_call_entry slot_ci_next hT entry_ci_next ?_ (args_ci_next _))))
  show wpAny _ _ (field (.ref I) 2 >>= _) _ _ s
  refine wpAny_bind (wpAny_field hI rfl (x := .bool false) rfl ?_)
  rw [if_neg (by decide)]
  show wpAny _ _ (field (.ref I) 0 >>= _) _ _ s
  refine wpAny_bind (wpAny_field hI rfl (x := .ref q) rfl ?_)
  unfold callOutOfASlot
  refine wpAny_bind (wpAny_attempt (wpAny_bind (borrows_meth hq hf ?_)))
  rw [if_pos rfl]
  refine call_borrowed (method_call hq (codeAny_mono h fun r s' hr => ?_))
  rcases r with e | fl
  · exact hr.elim
  cases fl with
  | next => exact hr.elim
  | brk => exact hr.elim
  | cont => exact hr.elim
  | ret v =>
    obtain ⟨t', rfl, hI', hq', hf', hQ⟩ := hr
    dsimp only
    refine wpAny_bind (wpAny_field hI' rfl (x := .bool false) rfl ?_)
    rw [if_neg (by decide)]
    refine wpAny_bind (wpAny_field hI' rfl (x := .str (Str.ofString "") t) rfl ?_)
    refine wpAny_bind (wpAny_holding (wpAny_eqBool_str ?_))
    rw [decide_eq_true rfl]
    simp only [Bool.not_true, Bool.false_eq_true, if_false]
    refine wpAny_bind (wpAny_rule (wpAny_bind ?_))
    show wpAny _ _ (field (.ref I) 0 >>= _) _ _ _
    refine wpAny_bind (wpAny_field hI' rfl (x := .ref q) rfl (wpAny_bind ?_))
    unfold slotLetsGo
    dsimp only
    refine wpAny_bind (borrows_meth hq' hf' ?_)
    rw [if_pos rfl]
    refine wpAny_pure (wpAny_bind (wpAny_setField_rec hI' (by simp) fun h1 e1 b1 => wpAny_bind (wpAny_setField_rec e1 (by simp) fun h2 e2 b2 => wpAny_setField_rec e2 (by simp) fun h3 e3 b3 => ?_)))
    show wpAny _ _ (newExc (.type "StopIteration") [] >>= _) _ _ _
    refine wpAny_bind ?_
    simp only [newExc, newTuple]
    refine wpAny_bind (wpAny_newObj_type ?_ (by size_fits))
    refine wpAny_bind (m := firstArgMember _ _) (wpAny_of_eq (a := Value.none) (by first | rfl | (simp only [firstArgMember]; rfl)) ?_)
    refine wpAny_newObj_type ?_ (by size_fits)
    simp only [raiseNew]
    refine wpAny_bind (wpAny_handled ?_)
    rw [show A.in1.handled = none from hh]
    refine wpAny_bind (wpAny_pure (wpAny_throw ?_))
    refine wpAny_bind (wpAny_isInstance (T := "StopIteration") (b := true) ⟨_, Heap.get?_push_size _ rfl, rfl⟩ isSubtype_stop ?_)
    exact wpAny_pure (hQ _ fun b o hb e => Heap.get?_push_of_some _ (Heap.get?_push_of_some _ (b3.extBut b o hb (b2.extBut b o hb (b1.extBut b o hb e)))))
theorem iter_two {h₀ : Heap} {L : Addr} {m : Str → Option Value} {news : List (Addr × Obj)} {Q : Value → Shared → Prop} (F : Fr h₀ L s.heap m) (N : News h₀ L s.heap news) (hm : (q, methodObj (.ref f) self) ∈ news)
    (h : ∀ I h', Fr h₀ L h' m → News h₀ L h' ((I, itObj q t) :: news) → (∀ p ∈ news, p.1 < I) → Q (.ref I) { s with heap := h' }) : wpAny (model prog w) A (call (.builtin "iter") [.ref q, .str (Str.ofString "") t]) Q E s := by
  obtain ⟨id, hid⟩ := meth_call
  refine call_function_entry kind_iter plain_iter entry_iter (args_iter _ _) ?_
  show wpAny _ _ (specialOf (.ref q) "__call__" >>= _) _ _ _
  refine wpAny_bind (wpAny_specialOf (T := "method") ⟨_, (N _ hm).1, rfl⟩ hid ?_)
  simp only [Option.isNone_some, Bool.false_eq_true, if_false]
  refine wpAny_bind (wpAny_rule (wpAny_bind ?_))
  unfold newFields
  refine wpAny_newObj_type ?_ (by size_fits)
  exact wpAny_pure ⟨_, rfl, h _ _ (F.push _) (N.push F _) fun p hp => Heap.lt_size (N p hp).1⟩
theorem iter_self {Q : Value → Shared → Prop} (hI : s.heap.get? I = some (itObj q t)) (h : Q (.ref I) s) : wpAny (model prog w) A (pyIter (.ref I)) Q E s := by
  have hT : s.TypeIs (.ref I) "callable_iterator" := ⟨_, hI, rfl⟩
  refine wpAny_pyIter_slot hT slot_ci_iter (wpAny_call_entry slot_ci_iter hT entry_ci_iter ?_ (by unfold argsOk; kernel_rfl))
  show wpAny _ _ (ret (.ref I)) _ _ s
  exact wpAny_pure ⟨_, rfl, "callable_iterator", _, hT, slot_ci_next.lookup, h⟩
end

end
section
theorem fn49 {w : World} {h : Heap} (X : (hd.heap_39 w.params).In h) : FnAt 49 h := ⟨_, _, _, _, X 49 _ rfl⟩
theorem ext_led {h₀ h h' : Heap} {L : Addr} {ex led led' : List (Addr × Obj)} {adr : List Addr} (N : News h₀ L h (ex ++ led)) (K : Kept adr h h') (off : ∀ p ∈ ex, p.1 ∉ adr) (N' : News h₀ L h' led') : News h₀ L h' (ex ++ led') := by
  intro p hp
  rcases List.mem_append.mp hp with hp | hp
  · have z := N p (List.mem_append_left _ hp)
    exact ⟨K _ _ z.1 (off p hp), z.2⟩
  · exact N' p hp
theorem led_right {h₀ h : Heap} {L : Addr} {ex led : List (Addr × Obj)} (N : News h₀ L h (ex ++ led)) : News h₀ L h led := fun p hp => N p (List.mem_append_right _ hp)
section
variable {w : World} {mean : ExcName → Option Value} {mg mb : Str → Option Value} {dp un : Nat} {gd : Option (List Code)} {cn : Str} {cs : Scope} {a : Addr} {ccd : Value} {cl : List (Str × Addr)} {outer : List Env} {A₀ : Around} {base h₀ : Heap} {L : Addr} {m : Str → Option Value} {s : Shared} {E : Value → Shared → Prop}
abbrev itLed (I q lx : Addr) (t : Tok) : List (Addr × Obj) := [(I, itObj q t), (q, methodObj (.ref 49) (.ref lx))]
theorem it_at {h : Heap} {led : List (Addr × Obj)} {I q lx : Addr} {t : Tok} (N : News h₀ L h (itLed I q lx t ++ led)) : h.get? I = some (itObj q t) ∧ h.get? q = some (methodObj (.ref 49) (.ref lx)) :=
  ⟨(N (I, itObj q t) (by simp)).1, (N (q, methodObj (.ref 49) (.ref lx)) (by simp)).1⟩
/-- one sign is read through the iterator -/
theorem next_sign {Q : Option Value → Shared → Prop} {l : Lex} {I q : Addr} {t u tn : Tok} {n : Int} {k : Nat} {ks : List Nat} {ys : List Value} {c cp : Nat} {ps : List Value} (hl : l.Ok w)
    (B : Below A₀ base outer h₀) (F : Fr h₀ L s.heap m) (X : (hd.heap_39 w.params).In h₀) (N : News h₀ L s.heap (itLed I q l.lx t ++ l.led w n tn (.str ⟨#[k]⟩ u :: ys) c ps cp)) (T : Top topProg (looseW hd.view_39 [] ++ (recsOf hd.view_39).map (·.name) ++ (litsOf hd.view_39).map (·.1) ++ (clssOf hd.view_39 (looseW hd.view_39 [])).map (·.name)) mean mg mb h₀) (hk : cs.kind = .function)
    (hd : dp + 10 < recursionLimit) (hu : un + 101 < cLine) (hS : StrsAre ys (ones ks)) (hx : ys.length + 1 ≤ 10000) (off : ∀ p ∈ itLed I q l.lx t, p.1 ∉ l.adr)
    (h : ∀ t' tn' c' h' tk', Fr h₀ L h' m → News h₀ L h' (itLed I q l.lx t ++ l.led w (if k = 10 then n + 1 else n) tn' ys c' ps cp) → Q (some (.str ⟨#[k]⟩ t')) { s with heap := h', toks := tk' }) :
    wpAny (model Challenge.rw_re0022_01.row.prog w) (ktrTop dp un gd cn cs L a ccd cl outer) (pyNext (.ref I)) Q E s := by
  refine next_item (q := q) (t := t) (f := 49) (self := .ref l.lx) (it_at N).1 (it_at N).2 (fn49 (X.keeps F.keep)) ?_
  refine codeAny_mono (readchar_code (dp := dp) (un := un + 1) (gd := gd) (cn := cn) (cs := cs) (a := a) (ccd := ccd) (cl := cl) (E := fun _ _ => False) (Q := fun v s' => ∃ x t', v = .str x t' ∧ x ≠ Str.ofString "" ∧ s'.heap.get? I = some (itObj q t) ∧ Q (some v) s')
    l hl n tn (.str ⟨#[k]⟩ u :: ys) (k :: ks) c ps cp B F X (led_right N) T hk hd (by omega) (.cons _ _ hS) (by simpa using hx) (fun e => nomatch e) ?_) (fun r s' hr => hr)
  intro k' u' ks' ys' e1 e2 hS' t' tn' c' h' tk' F' N' K'
  injection e1 with e3 e4
  subst e3 e4
  injection e2 with e5 e6
  subst e6
  have N2 := ext_led N K' off N'
  refine ⟨_, _, rfl, ?_, (it_at N2).1, h t' tn' c' h' tk' F' N2⟩
  intro e
  have := congrArg Str.length e
  revert this
  show ¬ (1 = _)
  decide
theorem next_none {Q : Option Value → Shared → Prop} {l : Lex} {I q : Addr} {t tn : Tok} {n : Int} {c cp : Nat} {ps : List Value} (hl : l.Ok w)
    (B : Below A₀ base outer h₀) (F : Fr h₀ L s.heap m) (X : (hd.heap_39 w.params).In h₀) (N : News h₀ L s.heap (itLed I q l.lx t ++ l.led w n tn [] c ps cp)) (T : Top topProg (looseW hd.view_39 [] ++ (recsOf hd.view_39).map (·.name) ++ (litsOf hd.view_39).map (·.1) ++ (clssOf hd.view_39 (looseW hd.view_39 [])).map (·.name)) mean mg mb h₀) (hk : cs.kind = .function)
    (hd : dp + 10 < recursionLimit) (hu : un + 101 < cLine) (off : ∀ p ∈ itLed I q l.lx t, p.1 ∉ l.adr)
    (h : ∀ h' tk', Fr h₀ L h' m → News h₀ L h' (l.led w n tn [] c ps cp) → Q none { s with heap := h', toks := tk' }) :
    wpAny (model Challenge.rw_re0022_01.row.prog w) (ktrTop dp un gd cn cs L a ccd cl outer) (pyNext (.ref I)) Q E s := by
  have hIn := N (I, itObj q t) (by simp)
  refine next_end (q := q) (t := t) (f := 49) (self := .ref l.lx) rfl (it_at N).1 (it_at N).2 (fn49 (X.keeps F.keep)) ?_
  refine codeAny_mono (readchar_code (dp := dp) (un := un + 1) (gd := gd) (cn := cn) (cs := cs) (a := a) (ccd := ccd) (cl := cl) (E := fun _ _ => False) (Q := fun v s' => ∃ t', v = .str (Str.ofString "") t' ∧ s'.heap.get? I = some (itObj q t) ∧ s'.heap.get? q = some (methodObj (.ref 49) (.ref l.lx)) ∧ FnAt 49 s'.heap ∧ ∀ h', (∀ b o, b ≠ I → s'.heap.get? b = some o → h'.get? b = some o) → Q none { s' with heap := h' })
    l hl n tn [] [] c ps cp B F X (led_right N) T hk hd (by omega) .nil (by simp) (fun _ t' h' tk' F' N' K' => ?_) (fun _ _ _ _ e => nomatch e)) (fun r s' hr => hr)
  have N2 := ext_led N K' off N'
  refine ⟨_, rfl, (it_at N2).1, (it_at N2).2, fn49 (X.keeps F'.keep), fun h'' hk'' => h h'' tk' ?_ ?_⟩
  · exact ⟨F'.ns.at' fun o e => hk'' _ o (Ne.symm hIn.2.1) e, fun b o e => hk'' b o (fun q => by rw [q, hIn.2.2] at e; cases e) (F'.keep b o e), F'.above⟩
  · intro p hp
    refine ⟨hk'' _ _ (fun q' => off (I, itObj q t) (by simp) ?_) (N' p hp).1, (N' p hp).2⟩
    have : p.1 ∈ (l.led w n tn [] c ps cp).map (·.1) := List.mem_map_of_mem hp
    rw [q'] at this
    exact this
/-- self._read_char() itself -/
theorem read_sign {Q : Value → Shared → Prop} {l : Lex} {ex : List (Addr × Obj)} {u tn : Tok} {n : Int} {k : Nat} {ks : List Nat} {ys : List Value} {c cp : Nat} {ps : List Value} (hl : l.Ok w)
    (B : Below A₀ base outer h₀) (F : Fr h₀ L s.heap m) (X : (hd.heap_39 w.params).In h₀) (N : News h₀ L s.heap (ex ++ l.led w n tn (.str ⟨#[k]⟩ u :: ys) c ps cp)) (T : Top topProg (looseW hd.view_39 [] ++ (recsOf hd.view_39).map (·.name) ++ (litsOf hd.view_39).map (·.1) ++ (clssOf hd.view_39 (looseW hd.view_39 [])).map (·.name)) mean mg mb h₀) (hk : cs.kind = .function)
    (hd : dp + 10 < recursionLimit) (hu : un + 101 < cLine) (hS : StrsAre ys (ones ks)) (hx : ys.length + 1 ≤ 10000) (off : ∀ p ∈ ex, p.1 ∉ l.adr)
    (h : ∀ t' tn' c' h' tk', Fr h₀ L h' m → News h₀ L h' (ex ++ l.led w (if k = 10 then n + 1 else n) tn' ys c' ps cp) → Q (.str ⟨#[k]⟩ t') { s with heap := h', toks := tk' }) :
    wpAny (model Challenge.rw_re0022_01.row.prog w) (ktrTop dp un gd cn cs L a ccd cl outer) (call (.ref 49) [.ref l.lx]) Q E s := by
  refine wpAny_call (readchar_code (dp := dp) (un := un) (gd := gd) (cn := cn) (cs := cs) (a := a) (ccd := ccd) (cl := cl) (Q := Q) (E := E) l hl n tn (.str ⟨#[k]⟩ u :: ys) (k :: ks) c ps cp B F X (led_right N) T hk hd (by omega) (.cons _ _ hS) (by simpa using hx) (fun e => nomatch e) ?_)
  intro k' u' ks' ys' e1 e2 hS' t' tn' c' h' tk' F' N' K'
  injection e1 with e3 e4
  subst e3 e4
  injection e2 with e5 e6
  subst e6
  exact h t' tn' c' h' tk' F' (ext_led N K' off N')
end

end
section
section
variable {prog : Program} {w : World} {A : Around} {E : Value → Shared → Prop} {s : Shared} {env : Env}
theorem for_plain {target iter : Expr} {body : List Stmt} {pos : Pos} {Q : Flow → Shared → Prop}
    (h : wpAny (model prog w) A (eval iter env) (fun x s₁ => wpAny (model prog w) A (pyIter x) (fun it s₂ =>
      codeAny (model prog w) A (.forLoop target it body [] env) (fun r s' => match r with | .ok f => Q f s' | .error _ => False) s₂) (fun _ _ => False) s₁) (fun _ _ => False) s)
    (hs : ∀ x, foldedSetIterable iter env x = pure x := by intro _; rfl) :
    wpAny (model prog w) A (exec (.For target iter body [] pos) env) Q E s :=
  wpAny_For (wpAny_mono h (fun x s₁ h₁ => wpAny_mono h₁ (fun it s₂ h₂ => codeAny_mono h₂ fun r s' hr => by
    rcases r with e | f
    · exact hr.elim
    · exact hr) fun _ _ e => e.elim) fun _ _ e => e.elim) hs
theorem loop_name {R : Result → Shared → Prop} {x : Str} {px : Pos} {it : Value} {body : List Stmt} (I : Nat → Shared → Prop)
    (turn : ∀ n s, I n s → wpAny (model prog w) A (pyNext it) (fun r s₁ => match r with
      | none => R (.ok .next) s₁
      | some v => wpAny (model prog w) A (storeName env x v) (fun _ s₂ => wpAny (model prog w) A (execs body env) (fun f s₃ => match f with
            | .next | .cont => ∃ m, m < n ∧ I m s₃
            | .brk => R (.ok .next) s₃
            | .ret v => R (.ok (.ret v)) s₃) (fun _ _ => False) s₂) (fun _ _ => False) s₁) (fun _ _ => False) s)
    (n : Nat) (h : I n s) : codeAny (model prog w) A (.forLoop (.Name x px) it body [] env) R s := by
  refine codeAny_forLoop_any I (fun n s hI => wpAny_mono (turn n s hI) (fun r s₁ hr => ?_) fun _ _ e => e.elim) n h
  cases r with
  | none => exact wpAny_execs_nil hr
  | some v => exact wpAny_pure (wpAny_assign_Name (wpAny_mono hr (fun _ s₂ h₂ => wpAny_mono h₂ (fun f s₃ h₃ => h₃) fun _ _ e => e.elim) fun _ _ e => e.elim))
end
def Ws (k : Nat) : Prop := k = 10 ∨ k = 9 ∨ k = 13 ∨ k = 32
theorem lit_ws : (Str.ofString "\n\t\r ").cps.toList = [10, 9, 13, 32] := by decide +kernel
section
variable {prog : Program} {w : World} {A : Around} {E : Value → Shared → Prop} {s : Shared} {k : Nat} {t u : Tok} {Q : Value → Shared → Prop}
theorem ws_dec (k : Nat) : (!(Builtin.Str.occurrences (Str.ofString "\n\t\r ") ⟨#[k]⟩ 0 (Str.ofString "\n\t\r ").length 1).isEmpty) = decide (k ∈ [10, 9, 13, 32]) := by
  rw [StrLaws.found_one, lit_ws]
theorem in_ws_no (hk : ¬ Ws k) (h : Q (.bool false) s) : wpAny (model prog w) A (compareOp .In (.str ⟨#[k]⟩ u) (.str (Str.ofString "\n\t\r ") t)) Q E s := by
  refine in_str ?_
  rw [ws_dec, decide_eq_false (by simpa [Ws] using hk)]
  exact h
theorem in_ws_yes (hk : Ws k) (h : Q (.bool true) s) : wpAny (model prog w) A (compareOp .In (.str ⟨#[k]⟩ u) (.str (Str.ofString "\n\t\r ") t)) Q E s := by
  refine in_str ?_
  rw [ws_dec, decide_eq_true (by simpa [Ws] using hk)]
  exact h
theorem lit_q : Str.ofString "\"" = ⟨#[34]⟩ := by decide +kernel
theorem lit_bs : Str.ofString "\\" = ⟨#[92]⟩ := by decide +kernel
theorem eq_q_no (hk : k ≠ 34) (h : Q (.bool false) s) : wpAny (model prog w) A (compareOp .Eq (.str ⟨#[k]⟩ u) (.str (Str.ofString "\"") t)) Q E s := by
  refine eq_str ?_
  rw [one_eq k 34 _ lit_q, decide_eq_false hk]
  exact h
theorem eq_b_no (hk : k ≠ 92) (h : Q (.bool false) s) : wpAny (model prog w) A (compareOp .Eq (.str ⟨#[k]⟩ u) (.str (Str.ofString "\\") t)) Q E s := by
  refine eq_str ?_
  rw [one_eq k 92 _ lit_bs, decide_eq_false hk]
  exact h
end
theorem not_ws_34 : ¬ Ws 34 := by unfold Ws; omega
theorem not_ws_92 : ¬ Ws 92 := by unfold Ws; omega
section
variable {prog : Program} {w : World} {A : Around} {E : Value → Shared → Prop} {s : Shared} {t u : Tok} {Q : Value → Shared → Prop}
theorem in_ws_bs (h : Q (.bool false) s) : wpAny (model prog w) A (compareOp .In (.str (Str.ofString "\\") u) (.str (Str.ofString "\n\t\r ") t)) Q E s := by
  rw [lit_bs]; exact in_ws_no not_ws_92 h
theorem in_ws_q (h : Q (.bool false) s) : wpAny (model prog w) A (compareOp .In (.str (Str.ofString "\"") u) (.str (Str.ofString "\n\t\r ") t)) Q E s := by
  rw [lit_q]; exact in_ws_no not_ws_34 h
end
/-- a word's signs as they are written between quotation marks; how many line feeds a text holds -/
def escL : List Nat → List Nat
  | [] => []
  | c :: r => if c = 34 ∨ c = 92 then 92 :: c :: escL r else c :: escL r
def nl : List Nat → Int
  | [] => 0
  | k :: r => (if k = 10 then 1 else 0) + nl r
theorem nl_app (a b : List Nat) : nl (a ++ b) = nl a + nl b := by
  induction a with
  | nil => simp [nl]
  | cons k r ih => simp only [List.cons_append, nl, ih]; omega
theorem nl_end (n : Int) (b e : Nat) (y : List Nat) : n + nl (b :: (y ++ [e])) = if e = 10 then (if b = 10 then n + 1 else n) + nl y + 1 else (if b = 10 then n + 1 else n) + nl y := by
  simp only [nl, nl_app]
  split <;> split <;> omega
def bkL : List Nat → List Nat
  | [] => []
  | c :: r => 92 :: c :: bkL r
/-- between two turns of an inner loop: what is read so far, what is still to come -/
def TInv (g : Heap) (L : Addr) (m₀ : Str → Option Value) (w : World) (l : Lex) (I q : Addr) (t : Tok) (cp : Nat) (s : Shared) (f : List Nat → List Nat) (e : Nat) (x rest : List Nat) (n : Int) (k : Nat) (s' : Shared) : Prop :=
  ∃ (post tok : List Nat) (tt : Tok) (h : Heap) (tk : Nat) (n₁ : Int) (tn : Tok) (ys : List Value) (c : Nat) (u : Str → Option Value), s' = { s with heap := h, toks := tk } ∧
    Fr g L h (fun y => if y = Str.ofString "ch" then u y else if y = Str.ofString "token" then some (.str ⟨tok.toArray⟩ tt) else m₀ y) ∧ News g L h (itLed I q l.lx t ++ l.led w n₁ tn ys c [] cp) ∧ StrsAre ys (ones (f post ++ e :: rest)) ∧ ys.length ≤ 10000 ∧
    tok ++ post = x ∧ tok.length ≤ 10000 ∧ n₁ + nl (f post) = n ∧ post.length = k
section
variable {prog : Program} {A : Around} {s : Shared} {env : Env} {g h : Heap} {L : Addr} {m₀ m' : Str → Option Value} {w : World} {l : Lex} {I q : Addr} {t tt tn : Tok} {cp c tk : Nat} {f : List Nat → List Nat} {e : Nat} {tok x rest : List Nat} {n n₁ : Int} {ys : List Value}
theorem fr_canon {vb : Value} (F : Fr g L h m') (hb : m' (Str.ofString "token") = some vb) (hne : ∀ y, y ≠ Str.ofString "ch" → y ≠ Str.ofString "token" → m' y = m₀ y) :
    Fr g L h (fun y => if y = Str.ofString "ch" then m' y else if y = Str.ofString "token" then some vb else m₀ y) := by
  have e : (fun y => if y = Str.ofString "ch" then m' y else if y = Str.ofString "token" then some vb else m₀ y) = m' := by
    funext y
    by_cases h1 : y = Str.ofString "ch"
    · rw [if_pos h1]
    · rw [if_neg h1]
      by_cases h2 : y = Str.ofString "token"
      · rw [if_pos h2, h2, hb]
      · rw [if_neg h2, hne y h1 h2]
  rw [e]; exact F
theorem loop_tok {R : Result → Shared → Prop} {px : Pos} {it : Value} {body : List Stmt} (F : Fr g L h m₀) (N : News g L h (itLed I q l.lx t ++ l.led w n₁ tn ys c [] cp)) (ht : m₀ (Str.ofString "token") = some (.str ⟨tok.toArray⟩ tt)) (hS : StrsAre ys (ones (f x ++ e :: rest))) (hx : ys.length ≤ 10000) (hk : tok.length ≤ 10000)
    (turn : ∀ k s', TInv g L m₀ w l I q t cp s f e (tok ++ x) rest (n₁ + nl (f x)) k s' → wpAny (model prog w) A (pyNext it) (fun r s₁ => match r with
      | none => R (.ok .next) s₁
      | some v => wpAny (model prog w) A (storeName env (Str.ofString "ch") v) (fun _ s₂ => wpAny (model prog w) A (execs body env) (fun fl s₃ => match fl with
            | .next | .cont => ∃ m, m < k ∧ TInv g L m₀ w l I q t cp s f e (tok ++ x) rest (n₁ + nl (f x)) m s₃
            | .brk => R (.ok .next) s₃
            | .ret v => R (.ok (.ret v)) s₃) (fun _ _ => False) s₂) (fun _ _ => False) s₁) (fun _ _ => False) s') :
    codeAny (model prog w) A (.forLoop (.Name (Str.ofString "ch") px) it body [] env) R { s with heap := h, toks := tk } :=
  loop_name (TInv g L m₀ w l I q t cp s f e (tok ++ x) rest (n₁ + nl (f x))) turn x.length ⟨x, tok, tt, h, tk, n₁, tn, ys, c, m₀, rfl, fr_canon F ht (fun _ _ _ => rfl), N, hS, hx, rfl, hk, rfl, rfl⟩
theorem tok_one {b : Nat} : (some (Value.str (Str.ofString "" ++ ⟨#[b]⟩) tt) : Option Value) = some (.str ⟨[b].toArray⟩ tt) := by
  congr 2
theorem TInv.step {post : List Nat} {b k : Nat} (F : Fr g L h m') (N : News g L h (itLed I q l.lx t ++ l.led w n₁ tn ys c [] cp)) (ht : m' (Str.ofString "token") = some (.str (⟨tok.toArray⟩ ++ ⟨#[b]⟩) tt)) (hne : ∀ y, y ≠ Str.ofString "ch" → y ≠ Str.ofString "token" → m' y = m₀ y)
    (hS : StrsAre ys (ones (f post ++ e :: rest))) (hx : ys.length ≤ 10000) (hk : tok.length + 1 ≤ 10000) (hxx : tok ++ b :: post = x) (hn : n₁ + nl (f post) = n) (hl : (b :: post).length = k) :
    ∃ m, m < k ∧ TInv g L m₀ w l I q t cp s f e x rest n m { s with heap := h, toks := tk } := by
  refine ⟨post.length, by rw [← hl]; simp, post, tok ++ [b], tt, h, tk, n₁, tn, ys, c, m', rfl, fr_canon F ?_ hne, N, hS, hx, by simpa using hxx, by simpa using hk, hn, rfl⟩
  rw [ht]
  congr 2
  refine Str.ext' ?_
  rw [Str.cps_append]
  simp
end
theorem off_it {w : World} {l : Lex} {I q : Addr} {t : Tok} (hl : l.Ok w) (h1 : @LT.lt Nat _ l.pb I) (h2 : @LT.lt Nat _ l.pb q) : ∀ p ∈ itLed I q l.lx t, p.1 ∉ l.adr := by
  have ho := hl.order
  intro p hp
  simp only [itLed, List.mem_cons, List.not_mem_nil, or_false] at hp
  rcases hp with rfl | rfl <;> (simp only [Lex.adr, List.mem_cons, List.not_mem_nil, or_false, not_or]; refine ⟨?_, ?_, ?_, ?_, ?_, ?_, ?_, ?_, ?_⟩ <;> (refine neN ?_; omega))
section
variable {w : World} {mean : ExcName → Option Value} {mg mb : Str → Option Value} {dp un : Nat} {gd : Option (List Code)} {cn : Str} {cs : Scope} {a : Addr} {ccd : Value} {cl : List (Str × Addr)} {outer : List Env} {A₀ : Around} {base h₀ : Heap} {L : Addr} {m : Str → Option Value} {s : Shared} {Q E : Value → Shared → Prop}
set_option maxRecDepth 100000 in
set_option maxHeartbeats 8000000 in
theorem gettok_end (l : Lex) (hl : l.Ok w) (n : Int) (tn : Tok) (c cp : Nat)
    (B : Below A₀ base outer h₀) (F : Fr h₀ L s.heap m) (X : (hd.heap_39 w.params).In h₀) (N : News h₀ L s.heap (l.led w n tn [] c [] cp)) (T : Top topProg (looseW hd.view_39 [] ++ (recsOf hd.view_39).map (·.name) ++ (litsOf hd.view_39).map (·.1) ++ (clssOf hd.view_39 (looseW hd.view_39 [])).map (·.name)) mean mg mb h₀) (hk : cs.kind = .function)
    (hd : dp + 20 < recursionLimit) (hu : un + 200 < cLine)
    (ret : ∀ t' h' tk', Fr h₀ L h' m → News h₀ L h' (l.led w n tn [] c [] cp) → Kept l.adr s.heap h' → Q (.str (Str.ofString "") t') { s with heap := h', toks := tk' }) :
    wpAny (model Challenge.rw_re0022_01.row.prog w) (ktrTop dp un gd cn cs L a ccd cl outer) (call (.ref 56) [.ref l.lx]) Q E s := by
  revert X; k_fill; intro X
  obtain ⟨pb, lx, dx, sd, rd, rc, st, lf, ce, k1, k2, k3, k4, tw, tr, fr, oRc, oCe, fd⟩ := l
  have ho := hl.order
  dsimp only [Lex.led, Lex.dict, Lex.adr] at *
  refine wpAny_call ?_
  k_with_none
  k_with "call builtin:iter" => (k_here; k_dflt (refine' iter_two ?k1 ?k2 ?k3 ?_; (case k1 => k_asm); (case k2 => k_asm); (case k3 => k_mem); k_whole); intro I' h' F' N' l1; (try k_lt l1); (try k_sweep))
  k_with "exec For Name Name cons nil" => (k_here; k_dflt (refine for_plain ?_))
  k_with "pyIter ref" => (k_here; k_dflt (refine iter_self (News.get (by k_asm) (by k_mem)) ?_))
  k_with "compareOp In str str" => first | refine in_ws_bs ?_ | refine in_ws_q ?_ | refine in_ws_no not_ws_34 ?_ | refine in_ws_no not_ws_92 ?_ | refine in_ws_yes (by assumption) ?_
  k_with "compareOp Eq str str" => first | refine eq_q_no (by assumption) ?_ | refine eq_b_no (by assumption) ?_
  k_with "call ref" => (k_here; (with_reducible show wpAny _ _ (call (Value.ref 49) _) _ _ _); (with_reducible rename Lex.Ok _ _ => hLx); k_dflt (refine' read_sign (ex := itLed _ _ _ _) hLx ?k1 ?k2 ?k3 ?k4 ?k5 ?k6 ?k7 ?k8 ?s1 ?s2 (off_it hLx ?o1 ?o2) ?_; (case k1 => k_asm); (case k2 => k_asm); (case k3 => k_asm); (case k4 => k_asm); (case k5 => k_asm); (case k6 => first | exact rfl | assumption); (case k7 => ktr_room); (case k8 => ktr_units); (case s1 => assumption); (case s2 => assumption); (case o1 => (dsimp only; omega)); (case o2 => (dsimp only; omega)); k_whole; intro t' tn' c' h' tk' F' N'; (try dsimp only [Lex.led, Lex.dict, Lex.adr, itLed, List.cons_append, List.nil_append] at N'); (try k_sweep)))
  k_with "Exists" => exact TInv.step (by assumption) (by assumption) (by exact rfl) (by intro y9 h1 h2; simp only [if_neg h1, if_neg h2]) (by assumption) (by assumption) (by assumption) (by assumption) (by assumption) (by assumption)
  k_with "pyNext ref" => (k_here; (with_reducible rename Lex.Ok _ _ => hLx); k_dflt (first
    | (refine' next_none hLx ?k1 ?k2 ?k3 ?k4 ?k5 ?k6 ?k7 ?k8 (off_it hLx ?o1 ?o2) ?_; (case k1 => k_asm); (case k2 => k_asm); (case k3 => k_asm); (case k4 => k_asm); (case k5 => k_asm); (case k6 => first | exact rfl | assumption); (case k7 => ktr_room); (case k8 => ktr_units); (case o1 => (dsimp only; omega)); (case o2 => (dsimp only; omega)); k_whole; intro h' tk' F' N'; (try dsimp only [Lex.led, Lex.dict, Lex.adr] at N'); (try k_sweep))
    | (refine' next_sign hLx ?k1 ?k2 ?k3 ?k4 ?k5 ?k6 ?k7 ?k8 ?s1 ?s2 (off_it hLx ?o1 ?o2) ?_; (case k1 => k_asm); (case k2 => k_asm); (case k3 => k_asm); (case k4 => k_asm); (case k5 => k_asm); (case k6 => first | exact rfl | assumption); (case k7 => ktr_room); (case k8 => ktr_units); (case s1 => assumption); (case s2 => assumption); (case o1 => (dsimp only; omega)); (case o2 => (dsimp only; omega)); k_whole; intro t' tn' c' h' tk' F' N'; (try dsimp only [Lex.led, Lex.dict, Lex.adr, itLed, List.cons_append, List.nil_append] at N'); (try k_sweep))))
  k_dflt cell_enter
  k_steps
  refine loop_name (fun _ s' => s' = _) ?_ 0 rfl
  intro k s' e
  subst e
  k_steps
  all_goals exact ret _ _ _ (by assumption) (by assumption) (by assumption)

set_option maxRecDepth 100000 in
set_option maxHeartbeats 8000000 in
theorem gettok_q (l : Lex) (hl : l.Ok w) (n : Int) (tn : Tok) (c cp : Nat) (u : Tok) (ys : List Value) (x rest : List Nat)
    (B : Below A₀ base outer h₀) (F : Fr h₀ L s.heap m) (X : (hd.heap_39 w.params).In h₀) (N : News h₀ L s.heap (l.led w n tn (.str ⟨#[34]⟩ u :: ys) c [] cp)) (T : Top topProg (looseW hd.view_39 [] ++ (recsOf hd.view_39).map (·.name) ++ (litsOf hd.view_39).map (·.1) ++ (clssOf hd.view_39 (looseW hd.view_39 [])).map (·.name)) mean mg mb h₀) (hk : cs.kind = .function)
    (hd : dp + 20 < recursionLimit) (hu : un + 200 < cLine) (hS : StrsAre ys (ones (escL x ++ 34 :: rest))) (hx : ys.length + 1 ≤ 10000) (hxl : x.length ≤ 1000)
    (ret : ∀ t' tn' c' ys' h' tk', StrsAre ys' (ones rest) → Fr h₀ L h' m → News h₀ L h' (l.led w (n + nl (escL x)) tn' ys' c' [] cp) → Kept l.adr s.heap h' → Q (.str ⟨x.toArray⟩ t') { s with heap := h', toks := tk' }) :
    wpAny (model Challenge.rw_re0022_01.row.prog w) (ktrTop dp un gd cn cs L a ccd cl outer) (call (.ref 56) [.ref l.lx]) Q E s := by
  revert X; k_fill; intro X
  obtain ⟨pb, lx, dx, sd, rd, rc, st, lf, ce, k1, k2, k3, k4, tw, tr, fr, oRc, oCe, fd⟩ := l
  have ho := hl.order
  dsimp only [Lex.led, Lex.dict, Lex.adr] at *
  refine wpAny_call ?_
  k_with_none
  k_with "call builtin:iter" => (k_here; k_dflt (refine' iter_two ?k1 ?k2 ?k3 ?_; (case k1 => k_asm); (case k2 => k_asm); (case k3 => k_mem); k_whole); intro I' h' F' N' l1; (try k_lt l1); (try k_sweep))
  k_with "exec For Name Name cons nil" => (k_here; k_dflt (refine for_plain ?_))
  k_with "pyIter ref" => (k_here; k_dflt (refine iter_self (News.get (by k_asm) (by k_mem)) ?_))
  k_with "compareOp In str str" => first | refine in_ws_bs ?_ | refine in_ws_q ?_ | refine in_ws_no not_ws_34 ?_ | refine in_ws_no not_ws_92 ?_ | refine in_ws_yes (by assumption) ?_
  k_with "compareOp Eq str str" => first | refine eq_q_no (by assumption) ?_ | refine eq_b_no (by assumption) ?_
  k_with "call ref" => (k_here; (with_reducible show wpAny _ _ (call (Value.ref 49) _) _ _ _); (with_reducible rename Lex.Ok _ _ => hLx); k_dflt (refine' read_sign (ex := itLed _ _ _ _) hLx ?k1 ?k2 ?k3 ?k4 ?k5 ?k6 ?k7 ?k8 ?s1 ?s2 (off_it hLx ?o1 ?o2) ?_; (case k1 => k_asm); (case k2 => k_asm); (case k3 => k_asm); (case k4 => k_asm); (case k5 => k_asm); (case k6 => first | exact rfl | assumption); (case k7 => ktr_room); (case k8 => ktr_units); (case s1 => assumption); (case s2 => assumption); (case o1 => (dsimp only; omega)); (case o2 => (dsimp only; omega)); k_whole; intro t' tn' c' h' tk' F' N'; (try dsimp only [Lex.led, Lex.dict, Lex.adr, itLed, List.cons_append, List.nil_append] at N'); (try k_sweep)))
  k_with "Exists" => exact TInv.step (by assumption) (by assumption) (by exact rfl) (by intro y9 h1 h2; simp only [if_neg h1, if_neg h2]) (by assumption) (by assumption) (by assumption) (by assumption) (by assumption) (by assumption)
  k_with "pyNext ref" => (k_here; (with_reducible rename Lex.Ok _ _ => hLx); k_dflt (first
    | (refine' next_none hLx ?k1 ?k2 ?k3 ?k4 ?k5 ?k6 ?k7 ?k8 (off_it hLx ?o1 ?o2) ?_; (case k1 => k_asm); (case k2 => k_asm); (case k3 => k_asm); (case k4 => k_asm); (case k5 => k_asm); (case k6 => first | exact rfl | assumption); (case k7 => ktr_room); (case k8 => ktr_units); (case o1 => (dsimp only; omega)); (case o2 => (dsimp only; omega)); k_whole; intro h' tk' F' N'; (try dsimp only [Lex.led, Lex.dict, Lex.adr] at N'); (try k_sweep))
    | (refine' next_sign hLx ?k1 ?k2 ?k3 ?k4 ?k5 ?k6 ?k7 ?k8 ?s1 ?s2 (off_it hLx ?o1 ?o2) ?_; (case k1 => k_asm); (case k2 => k_asm); (case k3 => k_asm); (case k4 => k_asm); (case k5 => k_asm); (case k6 => first | exact rfl | assumption); (case k7 => ktr_room); (case k8 => ktr_units); (case s1 => assumption); (case s2 => assumption); (case o1 => (dsimp only; omega)); (case o2 => (dsimp only; omega)); k_whole; intro t' tn' c' h' tk' F' N'; (try dsimp only [Lex.led, Lex.dict, Lex.adr, itLed, List.cons_append, List.nil_append] at N'); (try k_sweep))))
  k_dflt cell_enter
  k_steps
  refine loop_name (fun _ s' => s' = _) ?_ 0 rfl
  intro k s' e
  subst e
  k_steps
  refine loop_tok (l := ⟨pb, lx, dx, sd, rd, rc, st, lf, ce, k1, k2, k3, k4, tw, tr, fr, oRc, oCe, fd⟩) (tok := []) (f := escL) (e := 34) (x := x) (rest := rest) (by assumption) (by assumption) (by exact rfl) hS (by omega) (by simp) ?_
  rintro k s' ⟨post, tok, tt, h9, tk9, n9, tn9, ys9, c9, u9, rfl, F9, N9, hS9, hl9, hx9, hk9, hn9, hp9⟩
  dsimp only [Lex.led, Lex.dict, Lex.adr, itLed, List.cons_append, List.nil_append] at N9
  (try k_sweep)
  (try k_fold)
  clear hS hx
  cases post with
  | nil =>
    obtain ⟨u8, ys8, rfl, hS8⟩ := StrsAre.cons_inv (x := ⟨#[34]⟩) (xs := ones rest) hS9
    have hl8 : ys8.length + 1 ≤ 10000 := by simpa using hl9
    have hn8 : n9 = n + nl (escL x) := by simpa [escL, nl] using hn9
    have hx8 : tok = x := by simpa using hx9
    subst hn8 hx8
    k_steps
    all_goals exact ret _ _ _ _ _ _ hS8 (by assumption) (news_tl (news_tl (by assumption))) (by assumption)
  | cons b post =>
    by_cases hb : b = 34 ∨ b = 92
    · have e8 : escL (b :: post) = 92 :: b :: escL post := by rw [escL, if_pos hb]
      rw [e8] at hS9
      obtain ⟨u8, ys8, rfl, hS8⟩ := StrsAre.cons_inv (x := ⟨#[92]⟩) (xs := ones (b :: (escL post ++ 34 :: rest))) hS9
      obtain ⟨u7, ys7, rfl, hS7⟩ := StrsAre.cons_inv (x := ⟨#[b]⟩) (xs := ones (escL post ++ 34 :: rest)) hS8
      have hl8 : (Value.str ⟨#[b]⟩ u7 :: ys7).length + 1 ≤ 10000 := by simpa using hl9
      have hl7 : ys7.length + 1 ≤ 10000 := by simp at hl9; omega
      have a2 : ys7.length ≤ 10000 := by omega
      have a3 : tok.length + 1 ≤ 10000 := by have := congrArg List.length hx9; simp at this; omega
      have a4 : (if b = 10 then (if 92 = 10 then n9 + 1 else n9) + 1 else (if 92 = 10 then n9 + 1 else n9)) + nl (escL post) = n + nl (escL x) := by
        rw [e8] at hn9
        simp [nl] at hn9 ⊢
        split at hn9 <;> split <;> omega
      k_steps
    · have e8 : escL (b :: post) = b :: escL post := by rw [escL, if_neg hb]
      rw [e8] at hS9
      obtain ⟨u8, ys8, rfl, hS8⟩ := StrsAre.cons_inv (x := ⟨#[b]⟩) (xs := ones (escL post ++ 34 :: rest)) hS9
      have hl8 : ys8.length + 1 ≤ 10000 := by simpa using hl9
      have hb1 : b ≠ 34 := fun h => hb (.inl h)
      have hb2 : b ≠ 92 := fun h => hb (.inr h)
      have a2 : ys8.length ≤ 10000 := by omega
      have a3 : tok.length + 1 ≤ 10000 := by have := congrArg List.length hx9; simp at this; omega
      have a4 : (if b = 10 then n9 + 1 else n9) + nl (escL post) = n + nl (escL x) := by
        rw [e8] at hn9
        simp [nl] at hn9 ⊢
        split at hn9 <;> split <;> omega
      k_steps

set_option maxRecDepth 100000 in
set_option maxHeartbeats 8000000 in
theorem gettok_b (l : Lex) (hl : l.Ok w) (n : Int) (tn : Tok) (c cp : Nat) (u : Tok) (ys : List Value) (b0 e0 : Nat) (x rest : List Nat) (he : Ws e0)
    (B : Below A₀ base outer h₀) (F : Fr h₀ L s.heap m) (X : (hd.heap_39 w.params).In h₀) (N : News h₀ L s.heap (l.led w n tn (.str ⟨#[92]⟩ u :: ys) c [] cp)) (T : Top topProg (looseW hd.view_39 [] ++ (recsOf hd.view_39).map (·.name) ++ (litsOf hd.view_39).map (·.1) ++ (clssOf hd.view_39 (looseW hd.view_39 [])).map (·.name)) mean mg mb h₀) (hk : cs.kind = .function)
    (hd : dp + 20 < recursionLimit) (hu : un + 200 < cLine) (hS : StrsAre ys (ones (b0 :: (bkL x ++ e0 :: rest)))) (hx : ys.length + 1 ≤ 10000) (hxl : x.length ≤ 1000)
    (ret : ∀ t' tn' c' ys' h' tk', StrsAre ys' (ones rest) → Fr h₀ L h' m → News h₀ L h' (l.led w (n + nl (b0 :: (bkL x ++ [e0]))) tn' ys' c' [] cp) → Kept l.adr s.heap h' → Q (.str ⟨(b0 :: x).toArray⟩ t') { s with heap := h', toks := tk' }) :
    wpAny (model Challenge.rw_re0022_01.row.prog w) (ktrTop dp un gd cn cs L a ccd cl outer) (call (.ref 56) [.ref l.lx]) Q E s := by
  revert X; k_fill; intro X
  obtain ⟨pb, lx, dx, sd, rd, rc, st, lf, ce, k1, k2, k3, k4, tw, tr, fr, oRc, oCe, fd⟩ := l
  have ho := hl.order
  dsimp only [Lex.led, Lex.dict, Lex.adr] at *
  obtain ⟨u6, ys6, rfl, hS6⟩ := StrsAre.cons_inv (x := ⟨#[b0]⟩) (xs := ones (bkL x ++ e0 :: rest)) hS
  have hl6 : ys6.length + 1 ≤ 10000 := by simp at hx; omega
  refine wpAny_call ?_
  k_with_none
  k_with "call builtin:iter" => (k_here; k_dflt (refine' iter_two ?k1 ?k2 ?k3 ?_; (case k1 => k_asm); (case k2 => k_asm); (case k3 => k_mem); k_whole); intro I' h' F' N' l1; (try k_lt l1); (try k_sweep))
  k_with "exec For Name Name cons nil" => (k_here; k_dflt (refine for_plain ?_))
  k_with "pyIter ref" => (k_here; k_dflt (refine iter_self (News.get (by k_asm) (by k_mem)) ?_))
  k_with "compareOp In str str" => first | refine in_ws_bs ?_ | refine in_ws_q ?_ | refine in_ws_no not_ws_34 ?_ | refine in_ws_no not_ws_92 ?_ | refine in_ws_yes (by assumption) ?_
  k_with "compareOp Eq str str" => first | refine eq_q_no (by assumption) ?_ | refine eq_b_no (by assumption) ?_
  k_with "call ref" => (k_here; (with_reducible show wpAny _ _ (call (Value.ref 49) _) _ _ _); (with_reducible rename Lex.Ok _ _ => hLx); k_dflt (refine' read_sign (ex := itLed _ _ _ _) hLx ?k1 ?k2 ?k3 ?k4 ?k5 ?k6 ?k7 ?k8 ?s1 ?s2 (off_it hLx ?o1 ?o2) ?_; (case k1 => k_asm); (case k2 => k_asm); (case k3 => k_asm); (case k4 => k_asm); (case k5 => k_asm); (case k6 => first | exact rfl | assumption); (case k7 => ktr_room); (case k8 => ktr_units); (case s1 => assumption); (case s2 => assumption); (case o1 => (dsimp only; omega)); (case o2 => (dsimp only; omega)); k_whole; intro t' tn' c' h' tk' F' N'; (try dsimp only [Lex.led, Lex.dict, Lex.adr, itLed, List.cons_append, List.nil_append] at N'); (try k_sweep)))
  k_with "Exists" => exact TInv.step (by assumption) (by assumption) (by exact rfl) (by intro y9 h1 h2; simp only [if_neg h1, if_neg h2]) (by assumption) (by assumption) (by assumption) (by assumption) (by assumption) (by assumption)
  k_with "pyNext ref" => (k_here; (with_reducible rename Lex.Ok _ _ => hLx); k_dflt (first
    | (refine' next_none hLx ?k1 ?k2 ?k3 ?k4 ?k5 ?k6 ?k7 ?k8 (off_it hLx ?o1 ?o2) ?_; (case k1 => k_asm); (case k2 => k_asm); (case k3 => k_asm); (case k4 => k_asm); (case k5 => k_asm); (case k6 => first | exact rfl | assumption); (case k7 => ktr_room); (case k8 => ktr_units); (case o1 => (dsimp only; omega)); (case o2 => (dsimp only; omega)); k_whole; intro h' tk' F' N'; (try dsimp only [Lex.led, Lex.dict, Lex.adr] at N'); (try k_sweep))
    | (refine' next_sign hLx ?k1 ?k2 ?k3 ?k4 ?k5 ?k6 ?k7 ?k8 ?s1 ?s2 (off_it hLx ?o1 ?o2) ?_; (case k1 => k_asm); (case k2 => k_asm); (case k3 => k_asm); (case k4 => k_asm); (case k5 => k_asm); (case k6 => first | exact rfl | assumption); (case k7 => ktr_room); (case k8 => ktr_units); (case s1 => assumption); (case s2 => assumption); (case o1 => (dsimp only; omega)); (case o2 => (dsimp only; omega)); k_whole; intro t' tn' c' h' tk' F' N'; (try dsimp only [Lex.led, Lex.dict, Lex.adr, itLed, List.cons_append, List.nil_append] at N'); (try k_sweep))))
  k_dflt cell_enter
  k_steps
  refine loop_name (fun _ s' => s' = _) ?_ 0 rfl
  intro k s' e
  subst e
  k_steps
  refine loop_tok (l := ⟨pb, lx, dx, sd, rd, rc, st, lf, ce, k1, k2, k3, k4, tw, tr, fr, oRc, oCe, fd⟩) (tok := [b0]) (f := bkL) (e := e0) (x := x) (rest := rest) (by assumption) (by assumption) (by first | exact rfl | exact tok_one) hS6 (by omega) (by simp) ?_
  rintro k s' ⟨post, tok, tt, h9, tk9, n9, tn9, ys9, c9, u9, rfl, F9, N9, hS9, hl9, hx9, hk9, hn9, hp9⟩
  dsimp only [Lex.led, Lex.dict, Lex.adr, itLed, List.cons_append, List.nil_append] at N9
  (try k_sweep)
  (try k_fold)
  clear hS hx hS6 hl6
  cases post with
  | nil =>
    obtain ⟨u8, ys8, rfl, hS8⟩ := StrsAre.cons_inv (x := ⟨#[e0]⟩) (xs := ones rest) hS9
    have hl8 : ys8.length + 1 ≤ 10000 := by simpa using hl9
    have hn8 : n9 = (if b0 = 10 then n + 1 else n) + nl (bkL x) := by simpa [bkL, nl] using hn9
    have hx8 : tok = b0 :: x := by simpa using hx9
    subst hn8 hx8
    have r := ret
    simp only [nl_end] at r
    k_steps
    all_goals exact r _ _ _ _ _ _ hS8 (by assumption) (news_tl (news_tl (by assumption))) (by assumption)
  | cons b post =>
    obtain ⟨u8, ys8, rfl, hS8⟩ := StrsAre.cons_inv (x := ⟨#[92]⟩) (xs := ones (b :: (bkL post ++ e0 :: rest))) hS9
    obtain ⟨u7, ys7, rfl, hS7⟩ := StrsAre.cons_inv (x := ⟨#[b]⟩) (xs := ones (bkL post ++ e0 :: rest)) hS8
    have hl8 : (Value.str ⟨#[b]⟩ u7 :: ys7).length + 1 ≤ 10000 := by simpa using hl9
    have hl7 : ys7.length + 1 ≤ 10000 := by simp at hl9; omega
    have a2 : ys7.length ≤ 10000 := by omega
    have a3 : tok.length + 1 ≤ 10000 := by have := congrArg List.length hx9; simp at this; omega
    have a4 : (if b = 10 then (if 92 = 10 then n9 + 1 else n9) + 1 else (if 92 = 10 then n9 + 1 else n9)) + nl (bkL post) = (if b0 = 10 then (if 92 = 10 then n + 1 else n) + 1 else (if 92 = 10 then n + 1 else n)) + nl (bkL x) := by
      rw [show bkL (b :: post) = 92 :: b :: bkL post from rfl] at hn9
      simp [nl] at hn9 ⊢
      split at hn9 <;> split <;> omega
    k_steps
end

end
section
def IsLi (o : Obj) (l : Addr) (i : Nat) : Prop := o.cls = .type "list_iterator" ∧ o.data = .fields #[.ref l, .int i 0]
abbrev liObj (l : Addr) : Obj := { cls := .type "list_iterator", data := .fields #[.ref l, .int 0 0] }
theorem isLi0 (l : Addr) : IsLi (liObj l) l 0 := ⟨rfl, rfl⟩
abbrev riObj (x left : Int) : Obj := { cls := .type "range_iterator", data := .fields #[rawInt x, rawInt left, rawInt 1] }
section
variable {prog : Program} {w : World} {A : Around} {E : Value → Shared → Prop} {s : Shared} {h₀ : Heap} {L I l : Addr} {m : Str → Option Value} {news : List (Addr × Obj)} {oI : Obj} {i c : Nat} {vs : List Value} {v : Value}
theorem fr_ext {h h' : Heap} (F : Fr h₀ L h m) (hI : I ≠ L) (h0 : h₀.get? I = none) (x : Heap.ExtBut I h h') : Fr h₀ L h' m :=
  ⟨F.ns.at' fun o e => x _ o (Ne.symm hI) e, fun b o e => x b o (fun q => by rw [q, h0] at e; cases e) (F.keep b o e), F.above⟩
theorem news_ext {h h' : Heap} (N : News h₀ L h news) (off : ∀ p ∈ news, p.1 ≠ I) (x : Heap.ExtBut I h h') : News h₀ L h' news := fun p hp => ⟨x _ _ (off p hp) (N p hp).1, (N p hp).2⟩
theorem li_new {Q : Value → Shared → Prop} (F : Fr h₀ L s.heap m) (N : News h₀ L s.heap news) (hm : (l, W.listOf vs.toArray c) ∈ news)
    (h : ∀ I h', Fr h₀ L h' m → News h₀ L h' ((I, liObj l) :: news) → (∀ p ∈ news, p.1 < I) → Q (.ref I) { s with heap := h' }) : wpAny (model prog w) A (pyIter (.ref l)) Q E s :=
  wpAny_pyIter_list ⟨_, (N _ hm).1, rfl, c, rfl⟩ (h _ _ (F.push _) (N.push F _) fun p hp => Heap.lt_size (N p hp).1)
theorem li_item {Q : Option Value → Shared → Prop} (hI : IsLi oI l i) (F : Fr h₀ L s.heap m) (N : News h₀ L s.heap ((I, oI) :: news)) (hm : (l, W.listOf vs.toArray c) ∈ news) (off : ∀ p ∈ news, p.1 ≠ I) (hx : vs[i]? = some v)
    (h : ∀ oI' h', IsLi oI' l (i + 1) → Fr h₀ L h' m → News h₀ L h' ((I, oI') :: news) → Q (some v) { s with heap := h' }) : wpAny (model prog w) A (pyNext (.ref I)) Q E s := by
  have z := N (I, oI) (.head _)
  refine wpAny_pyNext_list_item (l := l) (i := i) (items := vs.toArray) ⟨oI, z.1, hI⟩ ⟨_, (N _ (List.mem_cons_of_mem _ hm)).1, rfl, c, rfl⟩ (by simpa using hx) fun h' hit hs => ?_
  obtain ⟨o', e', r'⟩ := hit
  refine h o' h' r' (fr_ext F z.2.1 z.2.2 hs.extBut) fun p hp => ?_
  rcases List.mem_cons.mp hp with rfl | hp
  · exact ⟨e', z.2⟩
  · exact news_ext (news_tl N) off hs.extBut p hp
theorem li_end {Q : Option Value → Shared → Prop} (hh : A.handled = none) (hI : IsLi oI l i) (F : Fr h₀ L s.heap m) (N : News h₀ L s.heap ((I, oI) :: news)) (hm : (l, W.listOf vs.toArray c) ∈ news) (off : ∀ p ∈ news, p.1 ≠ I) (hx : vs.length ≤ i)
    (h : ∀ h', Fr h₀ L h' m → News h₀ L h' news → Q none { s with heap := h' }) : wpAny (model prog w) A (pyNext (.ref I)) Q E s := by
  have z := N (I, oI) (.head _)
  exact wpAny_pyNext_list_end hh (l := l) (i := i) (items := vs.toArray) ⟨oI, z.1, hI⟩ ⟨_, (N _ (List.mem_cons_of_mem _ hm)).1, rfl, c, rfl⟩ (by simpa using hx) fun h' hs => h h' (fr_ext F z.2.1 z.2.2 hs) (news_ext (news_tl N) off hs)
theorem ri_item {x left : Int} {Q : Option Value → Shared → Prop} (F : Fr h₀ L s.heap m) (N : News h₀ L s.heap ((I, riObj x left) :: news)) (off : ∀ p ∈ news, p.1 ≠ I) (hx : 0 < left)
    (h : ∀ h' tk, Fr h₀ L h' m → News h₀ L h' ((I, riObj (x + 1) (left - 1)) :: news) → ∀ t, Q (some (.int x t)) { s with heap := h', toks := tk }) : wpAny (model prog w) A (pyNext (.ref I)) Q E s := by
  have z := N (I, riObj x left) (.head _)
  refine wpAny_pyNext_range_item (step := 1) z.1 hx fun h' hit hs => h h' _ (fr_ext F z.2.1 z.2.2 hs.extBut) (fun p hp => ?_) _
  rcases List.mem_cons.mp hp with rfl | hp
  · exact ⟨hit, z.2⟩
  · exact news_ext (news_tl N) off hs.extBut p hp
theorem ri_end {x left : Int} {Q : Option Value → Shared → Prop} (hh : A.handled = none) (F : Fr h₀ L s.heap m) (N : News h₀ L s.heap ((I, riObj x left) :: news)) (off : ∀ p ∈ news, p.1 ≠ I) (hx : left ≤ 0)
    (h : ∀ h', Fr h₀ L h' m → News h₀ L h' news → Q none { s with heap := h' }) : wpAny (model prog w) A (pyNext (.ref I)) Q E s := by
  have z := N (I, riObj x left) (.head _)
  exact wpAny_pyNext_range_end hh (step := 1) z.1 hx fun h' hs => h h' (fr_ext F z.2.1 z.2.2 hs) (news_ext (news_tl N) off hs)
theorem ri_new {r : Addr} {b : Int} {t u v : Tok} {Q : Value → Shared → Prop} (F : Fr h₀ L s.heap m) (N : News h₀ L s.heap news) (hr : IsRange s.heap r 0 b 1 t u v) (h0 : 0 ≤ b) (h1 : b ≤ 1000000)
    (h : ∀ I h', Fr h₀ L h' m → News h₀ L h' ((I, riObj 0 b) :: news) → (∀ p ∈ news, p.1 < I) → Q (.ref I) { s with heap := h' }) : wpAny (model prog w) A (pyIter (.ref r)) Q E s := by
  refine wpAny_pyIter_range hr (small_one (by omega) (by omega) (by omega) (by omega)) ?_
  have e : Builtin.Range.rangeSize 0 b 1 = b := by
    have := rangeSize_nat 0 b
    rw [this]; omega
  rw [e]
  exact h _ _ (F.push _) (N.push F _) fun p hp => Heap.lt_size (N p hp).1
end

end
section
section
variable {prog : Program} {w : World} {A : Around} {E : Value → Shared → Prop} {s : Shared} {h₀ : Heap} {L D : Addr} {m : Str → Option Value} {news news' : List (Addr × Obj)} {ys rest : List Value} {n : Nat} {v : Value}
theorem truth_led {Q : Bool → Shared → Prop} (N : News h₀ L s.heap news) (hm : (D, W.listOf (v :: rest).toArray n) ∈ news) (hz : (v :: rest).length ≤ 100000) (h : Q true { s with toks := s.toks + 1 + 1 }) : wpAny (model prog w) A (truthy (.ref D)) Q E s :=
  wpAny_truthy_list ⟨_, (N _ hm).1, rfl, n, rfl⟩ (by rw [List.size_toArray]; omega) (by simpa using h)
theorem app_led {Q : Value → Shared → Prop} (F : Fr h₀ L s.heap m) (N : News h₀ L s.heap news) (U : Upd D (W.listOf ys.toArray n) (W.listOf (ys ++ [v]).toArray (n + 1)) news news') (hz : ys.length ≤ 100000)
    (h : ∀ h', Fr h₀ L h' m → News h₀ L h' news' → Q .none { s with heap := h' }) : wpAny (model prog w) A (call (.builtin "list.append") [.ref D, v]) Q E s :=
  append_K (its := ys.toArray) (n := n) F N (by rw [List.push_toArray]; exact U) h (by rw [List.size_toArray, sizeLine_eq]; omega)
end
section
variable {w : World} {mean : ExcName → Option Value} {mg mb : Str → Option Value} {dp un : Nat} {gd : Option (List Code)} {cn : Str} {cs : Scope} {a : Addr} {ccd : Value} {cl : List (Str × Addr)} {outer : List Env} {A₀ : Around} {base h₀ : Heap} {L : Addr} {m : Str → Option Value} {s : Shared} {Q E : Value → Shared → Prop}
set_option maxRecDepth 100000 in
set_option maxHeartbeats 8000000 in
theorem gettok_p (l : Lex) (hl : l.Ok w) (n : Int) (tn : Tok) (ys : List Value) (c cp : Nat) (v : Value) (ps : List Value)
    (B : Below A₀ base outer h₀) (F : Fr h₀ L s.heap m) (X : (hd.heap_39 w.params).In h₀) (N : News h₀ L s.heap (l.led w n tn ys c (v :: ps) cp)) (T : Top topProg (looseW hd.view_39 [] ++ (recsOf hd.view_39).map (·.name) ++ (litsOf hd.view_39).map (·.1) ++ (clssOf hd.view_39 (looseW hd.view_39 [])).map (·.name)) mean mg mb h₀) (hk : cs.kind = .function)
    (hd : dp + 5 < recursionLimit) (hu : un + 50 < cLine) (hx : (v :: ps).length ≤ 100000)
    (ret : ∀ cp' h' tk', Fr h₀ L h' m → News h₀ L h' (l.led w n tn ys c ps cp') → Kept l.adr s.heap h' → Q v { s with heap := h', toks := tk' }) :
    wpAny (model Challenge.rw_re0022_01.row.prog w) (ktrTop dp un gd cn cs L a ccd cl outer) (call (.ref 56) [.ref l.lx]) Q E s := by
  revert X; k_fill; intro X
  obtain ⟨pb, lx, dx, sd, rd, rc, st, lf, ce, k1, k2, k3, k4, tw, tr, fr, oRc, oCe, fd⟩ := l
  have ho := hl.order
  dsimp only [Lex.led, Lex.dict, Lex.adr] at *
  refine wpAny_call ?_
  k_with_none
  k_with "truthy ref" => (k_here; k_dflt (refine' truth_led ?k1 ?k2 ?k3 ?_; (case k1 => k_asm); (case k2 => k_mem); (case k3 => assumption); k_whole))
  k_with "call builtin:list.pop" => (k_here; k_dflt (refine' pop_first ?k1 ?k2 ?k3 ?k4 ?_; (case k1 => k_asm); (case k2 => k_asm); (case k3 => k_upd); (case k4 => omega); k_whole); intro h' F' N'; (try k_sweep))
  k_with "call builtin:list.append" => (k_here; k_dflt (refine' app_led ?k1 ?k2 ?k3 ?k4 ?_; (case k1 => k_asm); (case k2 => k_asm); (case k3 => k_upd); (case k4 => assumption); k_whole); intro h' F' N'; (try k_sweep))
  k_dflt cell_enter
  k_steps
  all_goals exact ret _ _ _ (by assumption) (by assumption) (by assumption)
set_option maxRecDepth 100000 in
set_option maxHeartbeats 8000000 in
theorem push_spec (l : Lex) (hl : l.Ok w) (n : Int) (tn : Tok) (ys : List Value) (c cp : Nat) (v : Value) (ps : List Value)
    (B : Below A₀ base outer h₀) (F : Fr h₀ L s.heap m) (X : (hd.heap_39 w.params).In h₀) (N : News h₀ L s.heap (l.led w n tn ys c ps cp)) (T : Top topProg (looseW hd.view_39 [] ++ (recsOf hd.view_39).map (·.name) ++ (litsOf hd.view_39).map (·.1) ++ (clssOf hd.view_39 (looseW hd.view_39 [])).map (·.name)) mean mg mb h₀) (hk : cs.kind = .function)
    (hd : dp + 5 < recursionLimit) (hu : un + 50 < cLine) (hx : ps.length ≤ 100000)
    (ret : ∀ cp' h' tk', Fr h₀ L h' m → News h₀ L h' (l.led w n tn ys c (ps ++ [v]) cp') → Kept l.adr s.heap h' → Q .none { s with heap := h', toks := tk' }) :
    wpAny (model Challenge.rw_re0022_01.row.prog w) (ktrTop dp un gd cn cs L a ccd cl outer) (call (.ref 63) [.ref l.lx, v]) Q E s := by
  revert X; k_fill; intro X
  obtain ⟨pb, lx, dx, sd, rd, rc, st, lf, ce, k1, k2, k3, k4, tw, tr, fr, oRc, oCe, fd⟩ := l
  have ho := hl.order
  dsimp only [Lex.led, Lex.dict, Lex.adr] at *
  refine wpAny_call ?_
  k_with_none
  k_with "truthy ref" => (k_here; k_dflt (refine' truth_led ?k1 ?k2 ?k3 ?_; (case k1 => k_asm); (case k2 => k_mem); (case k3 => assumption); k_whole))
  k_with "call builtin:list.pop" => (k_here; k_dflt (refine' pop_first ?k1 ?k2 ?k3 ?k4 ?_; (case k1 => k_asm); (case k2 => k_asm); (case k3 => k_upd); (case k4 => omega); k_whole); intro h' F' N'; (try k_sweep))
  k_with "call builtin:list.append" => (k_here; k_dflt (refine' app_led ?k1 ?k2 ?k3 ?k4 ?_; (case k1 => k_asm); (case k2 => k_asm); (case k3 => k_upd); (case k4 => assumption); k_whole); intro h' F' N'; (try k_sweep))
  k_dflt cell_enter
  k_steps
  all_goals exact ret _ _ _ (by assumption) (by assumption) (by assumption)
end

end
section
theorem kept_same {h₀ h h' : Heap} {L D : Addr} {o : Obj} (N : News h₀ L h [(D, o)]) (N' : News h₀ L h' [(D, o)]) (K : Kept [D] h h') : Kept [] h h' := fun b ob e _ => by
  by_cases q : b = D
  · have e1 := (N (D, o) (by simp)).1
    rw [q] at e ⊢
    rw [e1] at e
    cases e
    exact (N' (D, o) (by simp)).1
  · exact K b ob e (by simpa using q)
section
variable {w : World} {mean : ExcName → Option Value} {mg mb : Str → Option Value} {dp un : Nat} {gd : Option (List Code)} {cn : Str} {cs : Scope} {a : Addr} {ccd : Value} {cl : List (Str × Addr)} {outer : List Env} {A₀ : Around} {base h₀ : Heap} {L : Addr} {m : Str → Option Value} {s : Shared} {Q E : Value → Shared → Prop}
set_option maxRecDepth 100000 in
set_option maxHeartbeats 8000000 in
theorem build_two (D : Addr) (x y : Str) (tx ty : Tok)
    (B : Below A₀ base outer h₀) (F : Fr h₀ L s.heap m) (X : (hd.heap_39 w.params).In h₀) (N : News h₀ L s.heap [(D, { cls := .type "tuple", data := .seq #[.str x tx, .str y ty] })]) (T : Top topProg (looseW hd.view_39 [] ++ (recsOf hd.view_39).map (·.name) ++ (litsOf hd.view_39).map (·.1) ++ (clssOf hd.view_39 (looseW hd.view_39 [])).map (·.name)) mean mg mb h₀) (hk : cs.kind = .function)
    (hd : dp + 5 < recursionLimit) (hu : un + 50 < cLine) (hx : x.length ≤ 100000) (hy : y.length ≤ 100000)
    (ret : ∀ t' h' tk', Fr h₀ L h' m → Kept [] s.heap h' → Q (.str (x ++ Str.ofString "." ++ y) t') { s with heap := h', toks := tk' }) :
    wpAny (model Challenge.rw_re0022_01.row.prog w) (ktrTop dp un gd cn cs L a ccd cl outer) (call (.ref 28) [.ref D]) Q E s := by
  revert X; k_fill; intro X
  have N0 := N
  refine wpAny_call ?_
  k_with_none
  k_dflt cell_enter
  k_steps
  all_goals exact ret _ _ _ (by assumption) (kept_same N0 (by assumption) (by assumption))
set_option maxRecDepth 100000 in
set_option maxHeartbeats 8000000 in
theorem build_none (D : Addr) (x y : Str) (tx ty : Tok)
    (B : Below A₀ base outer h₀) (F : Fr h₀ L s.heap m) (X : (hd.heap_39 w.params).In h₀) (N : News h₀ L s.heap [(D, { cls := .type "tuple", data := .seq #[.none, .str y ty] })]) (T : Top topProg (looseW hd.view_39 [] ++ (recsOf hd.view_39).map (·.name) ++ (litsOf hd.view_39).map (·.1) ++ (clssOf hd.view_39 (looseW hd.view_39 [])).map (·.name)) mean mg mb h₀) (hk : cs.kind = .function)
    (hd : dp + 5 < recursionLimit) (hu : un + 50 < cLine) (hx : x.length ≤ 100000) (hy : y.length ≤ 100000)
    (ret : ∀ t' h' tk', Fr h₀ L h' m → Kept [] s.heap h' → Q (.str (Str.ofString "C" ++ Str.ofString "." ++ y) t') { s with heap := h', toks := tk' }) :
    wpAny (model Challenge.rw_re0022_01.row.prog w) (ktrTop dp un gd cn cs L a ccd cl outer) (call (.ref 28) [.ref D]) Q E s := by
  revert X; k_fill; intro X
  have N0 := N
  refine wpAny_call ?_
  k_with_none
  k_dflt cell_enter
  k_steps
  all_goals exact ret _ _ _ (by assumption) (kept_same N0 (by assumption) (by assumption))
set_option maxRecDepth 100000 in
set_option maxHeartbeats 8000000 in
theorem build_one (D : Addr) (x y : Str) (tx ty : Tok)
    (B : Below A₀ base outer h₀) (F : Fr h₀ L s.heap m) (X : (hd.heap_39 w.params).In h₀) (N : News h₀ L s.heap [(D, { cls := .type "list", data := .seq #[.str x tx, .none] })]) (T : Top topProg (looseW hd.view_39 [] ++ (recsOf hd.view_39).map (·.name) ++ (litsOf hd.view_39).map (·.1) ++ (clssOf hd.view_39 (looseW hd.view_39 [])).map (·.name)) mean mg mb h₀) (hk : cs.kind = .function)
    (hd : dp + 5 < recursionLimit) (hu : un + 50 < cLine) (hx : x.length ≤ 100000) (hy : y.length ≤ 100000)
    (ret : ∀ t' h' tk', Fr h₀ L h' m → Kept [] s.heap h' → Q (.str (x) t') { s with heap := h', toks := tk' }) :
    wpAny (model Challenge.rw_re0022_01.row.prog w) (ktrTop dp un gd cn cs L a ccd cl outer) (call (.ref 28) [.ref D]) Q E s := by
  revert X; k_fill; intro X
  have N0 := N
  refine wpAny_call ?_
  k_with_none
  k_dflt cell_enter
  k_steps
  all_goals exact ret _ _ _ (by assumption) (kept_same N0 (by assumption) (by assumption))
end

end
section
theorem bareL_app (x y : List Nat) : ∀ nm, bareL (x ++ 46 :: y) nm = if (x.any fun c => c == 58 || c == 10) = true then bareL x nm else bareL y [] := by
  induction x with
  | nil => intro nm; simp [bareL]
  | cons c r ih =>
    intro nm
    rw [List.cons_append, bareL, bareL, List.any_cons]
    by_cases h : c = 58 ∨ c = 10
    · rw [if_pos h, if_pos h]
      have : (c == 58 || c == 10) = true := by rcases h with h | h <;> simp [h]
      simp [this]
    · rw [if_neg h, if_neg h]
      have : (c == 58 || c == 10) = false := by
        simp only [not_or] at h; simp [h]
      rw [this, Bool.false_or]
      by_cases h4 : c = 46
      · rw [if_pos h4, if_pos h4]; exact ih _
      · rw [if_neg h4, if_neg h4]; exact ih _
theorem bare_join (x y : Str) : bareF (x ++ Str.ofString "." ++ y) = if stopsF x = true then bareF x else bareF y := by
  have e : (x ++ Str.ofString "." ++ y).cps.toList = x.cps.toList ++ 46 :: y.cps.toList := by
    rw [lit_dot]
    show ((x.cps ++ #[46]) ++ y.cps).toList = _
    simp
  unfold bareF stopsF
  rw [e, bareL_app]
  split <;> rfl
theorem bareL_free (q : List Nat) (hq : q = [] ∨ ∃ c r, q = c :: r ∧ (c = 58 ∨ c = 10)) : ∀ (p nm : List Nat), (∀ c ∈ p, c ≠ 58 ∧ c ≠ 10 ∧ c ≠ 46) → bareL (p ++ q) nm = nm ++ p
  | [], nm, _ => by
    rcases hq with rfl | ⟨c, r, rfl, h⟩
    · simp [bareL]
    · rw [List.nil_append, bareL, if_pos h, List.append_nil]
  | c :: p, nm, h => by
    have hc := h c (List.mem_cons_self ..)
    rw [List.cons_append, bareL, if_neg (fun o => o.elim hc.1 hc.2.1), if_neg hc.2.2, bareL_free q hq p _ (fun d hd => h d (List.mem_cons_of_mem _ hd))]
    simp
open Builtin Builtin.Str in
theorem at_one (x : Str) (c i hi : Nat) (hh : hi ≤ x.length) : StrLaws.At x ⟨#[c]⟩ hi i ↔ i < hi ∧ x.cps.toList[i]? = some c := by
  have h := StrLaws.subAt_one x c i
  have e : (⟨#[c]⟩ : Str).length = 1 := rfl
  unfold StrLaws.At
  rw [e] at h ⊢
  constructor
  · rintro ⟨h1, h2⟩; exact ⟨by omega, h.mp ⟨by omega, h2⟩⟩
  · rintro ⟨h1, h2⟩; exact ⟨by omega, (h.mpr h2).2⟩
open Builtin Builtin.Str in
theorem first_one (x : Str) (c hi : Nat) (hh : hi ≤ x.length) :
    (occurrences x ⟨#[c]⟩ 0 hi 1 = [] ∧ ∀ i, i < hi → x.cps.toList[i]? ≠ some c) ∨
    ∃ k r, occurrences x ⟨#[c]⟩ 0 hi 1 = k :: r ∧ k < hi ∧ x.cps.toList[k]? = some c ∧ ∀ i, i < k → x.cps.toList[i]? ≠ some c := by
  rw [StrLaws.occ_eq]
  rcases StrLaws.occ_first x ⟨#[c]⟩ hi 1 (Nat.le_refl 1) (List.range' 0 (hi + 1 - 0)) 0 (fun _ _ => Nat.zero_le _) with ⟨h0, hn⟩ | ⟨pre, a, post, e, h0, ha, hn⟩
  · refine .inl ⟨by rw [h0], fun i hi' he => ?_⟩
    exact hn i (by rw [List.mem_range'_1]; omega) ((at_one x c i hi hh).mpr ⟨hi', he⟩)
  · have ha' := (at_one x c a hi hh).mp ha
    refine .inr ⟨a, ((forIn (List.range' 0 (hi + 1 - 0)) ((#[] : Array Nat), 0) (StrLaws.occBody x ⟨#[c]⟩ hi 1)).run.fst.toList).tail, ?_, ha'.1, ha'.2, fun k hk he => hn k (StrLaws.range'_split e k hk) ((at_one x c k hi hh).mpr ⟨by have := ha'.1; omega, he⟩)⟩
    generalize (forIn (List.range' 0 (hi + 1 - 0)) ((#[] : Array Nat), 0) (StrLaws.occBody x ⟨#[c]⟩ hi 1)).run.fst = arr at h0
    have h1 : arr.toList[0]? = some a := by simpa using h0
    cases hL : arr.toList with
    | nil => rw [hL] at h1; cases h1
    | cons b t => rw [hL] at h1; simp at h1; rw [h1]; rfl
open Builtin Builtin.Str in
theorem last_one (x : Str) (c hi : Nat) (hh : hi ≤ x.length) :
    (lastOccurrence x ⟨#[c]⟩ 0 hi = none ∧ ∀ i, i < hi → x.cps.toList[i]? ≠ some c) ∨
    ∃ k, lastOccurrence x ⟨#[c]⟩ 0 hi = some k ∧ k < hi ∧ x.cps.toList[k]? = some c ∧ ∀ i, k < i → i < hi → x.cps.toList[i]? ≠ some c := by
  rw [StrLaws.last_eq]
  have key := StrLaws.last_run x ⟨#[c]⟩ hi (List.range' 0 (hi + 1 - 0)) [] none (fun _ h => nomatch h) (fun _ h => nomatch h) (by simpa using List.pairwise_lt_range' (s := 0) (n := hi + 1 - 0))
  have mem : ∀ i, i < hi → i ∈ [] ++ List.range' 0 (hi + 1 - 0) := fun i hi' => by rw [List.nil_append, List.mem_range'_1]; omega
  cases hr : (forIn (List.range' 0 (hi + 1 - 0)) none (StrLaws.lastBody x ⟨#[c]⟩ hi)).run with
  | none => rw [hr] at key; exact .inl ⟨rfl, fun i hi' he => key i (mem i hi') ((at_one x c i hi hh).mpr ⟨hi', he⟩)⟩
  | some a => rw [hr] at key; have ha := (at_one x c a hi hh).mp key.1; exact .inr ⟨a, rfl, ha.1, ha.2, fun k hk hk' he => key.2 k (mem k hk') hk ((at_one x c k hi hh).mpr ⟨hk', he⟩)⟩
theorem from0 (n : Nat) : fromIndex n 0 = 0 := by simp [fromIndex]
theorem fromN (n k : Nat) (h : k ≤ n) : min (fromIndex n (k : Int)) n = k := by
  have : fromIndex n (k : Int) = k := by unfold fromIndex; rw [if_neg (by omega)]; omega
  rw [this]; omega
/-- where the line ends -/
theorem line_nat (x : Str) : ∃ k : Nat, lineF x = (k : Int) ∧ k ≤ x.length ∧ (∀ i, i < k → x.cps.toList[i]? ≠ some 10) ∧ (k = x.length ∨ x.cps.toList[k]? = some 10) := by
  unfold lineF Txt.find
  rw [lit_nl]
  rcases first_one x 10 x.length (Nat.le_refl _) with ⟨h0, hn⟩ | ⟨k, r, h0, hk, he, hn⟩
  · rw [h0]; exact ⟨x.length, by simp, Nat.le_refl _, hn, .inl rfl⟩
  · rw [h0]; exact ⟨k, by simp, by omega, hn, .inr he⟩
theorem end_nat (x : Str) : ∃ k : Nat, endF x = (k : Int) ∧ k ≤ x.length ∧ (∀ i, i < k → x.cps.toList[i]? ≠ some 10 ∧ x.cps.toList[i]? ≠ some 58) ∧ (k = x.length ∨ x.cps.toList[k]? = some 58 ∨ x.cps.toList[k]? = some 10) := by
  obtain ⟨n, e, hn, h1, h2⟩ := line_nat x
  unfold endF find4
  rw [e, lit_colon, from0, fromN _ _ hn]
  rcases first_one x 58 n hn with ⟨h0, hf⟩ | ⟨k, r, h0, hk, he, hf⟩
  · rw [h0]; exact ⟨n, by simp, hn, fun i hi => ⟨h1 i hi, hf i hi⟩, h2.imp id .inr⟩
  · rw [h0]; exact ⟨k, by simp, by omega, fun i hi => ⟨h1 i (by omega), hf i hi⟩, .inr (.inl he)⟩
theorem start_nat (x : Str) (e : Nat) (he : endF x = (e : Int)) (hl : e ≤ x.length) : (startF x = 0 ∧ ∀ i, i < e → x.cps.toList[i]? ≠ some 46) ∨ ∃ k : Nat, startF x = ((k + 1 : Nat) : Int) ∧ k < e ∧ x.cps.toList[k]? = some 46 ∧ ∀ i, k < i → i < e → x.cps.toList[i]? ≠ some 46 := by
  unfold startF rfind4
  rw [he, lit_dot, from0, fromN _ _ hl]
  rcases last_one x 46 e hl with ⟨h0, hf⟩ | ⟨k, h0, hk, he, hf⟩
  · rw [h0]; exact .inl ⟨by simp, hf⟩
  · rw [h0]; exact .inr ⟨k, by simp, hk, he, hf⟩
theorem mem_take_get {l : List Nat} {c s n : Nat} (h : c ∈ (l.drop s).take n) : ∃ i, s ≤ i ∧ i < s + n ∧ l[i]? = some c := by
  obtain ⟨i, hi⟩ := List.mem_iff_getElem?.mp h
  rw [List.getElem?_take] at hi
  split at hi
  · rw [List.getElem?_drop] at hi; exact ⟨s + i, by omega, by omega, hi⟩
  · cases hi
theorem strip_bare (x : Str) : stripF x = bareF x := by
  unfold stripF bareF
  obtain ⟨e, he, hl, hn, hs⟩ := end_nat x
  have hll : x.cps.toList.length = x.length := by simp [Str.length]
  have q : x.cps.toList.drop e = [] ∨ ∃ c r, x.cps.toList.drop e = c :: r ∧ (c = 58 ∨ c = 10) := by
    rcases hs with hs | hs
    · left; apply List.drop_eq_nil_of_le; omega
    · right
      rcases hs with hs | hs <;> (obtain ⟨h1, h2⟩ := List.getElem?_eq_some_iff.mp hs; refine ⟨_, _, List.drop_eq_getElem_cons h1, ?_⟩; rw [h2]; simp)
  rcases start_nat x e he hl with ⟨h0, hf⟩ | ⟨k, h0, hk, hd, hf⟩
  · rw [h0, he]
    have := StrLaws.sliceText_nat x (a := 0) (b := e) (by omega) hl
    show StrLaws.sliceText x (some ((0 : Nat) : Int)) (some (e : Int)) = _
    rw [this]
    congr 1
    rw [Nat.sub_zero, List.drop_zero]
    congr 1
    conv => rhs; rw [← List.take_append_drop e x.cps.toList]
    rw [bareL_free _ q]
    · simp
    · intro c hc
      obtain ⟨i, _, h2, h3⟩ := mem_take_get (s := 0) (by simpa using hc)
      have hi : i < e := by omega
      exact ⟨fun h => (hn i hi).2 (h ▸ h3), fun h => (hn i hi).1 (h ▸ h3), fun h => hf i hi (h ▸ h3)⟩
  · rw [h0, he]
    have := StrLaws.sliceText_nat x (a := k + 1) (b := e) (by omega) hl
    show StrLaws.sliceText x (some ((k + 1 : Nat) : Int)) (some (e : Int)) = _
    rw [this]
    congr 2
    have sp : x.cps.toList = x.cps.toList.take k ++ 46 :: ((x.cps.toList.drop (k + 1)).take (e - (k + 1)) ++ x.cps.toList.drop e) := by
      conv => lhs; rw [← List.take_append_drop k x.cps.toList]
      congr 1
      obtain ⟨h1, h2⟩ := List.getElem?_eq_some_iff.mp hd
      rw [List.drop_eq_getElem_cons h1, h2]
      congr 1
      conv => lhs; rw [← List.take_append_drop (e - (k + 1)) (x.cps.toList.drop (k + 1))]
      congr 1
      rw [List.drop_drop]
      congr 1
      omega
    conv => rhs; rw [sp]
    rw [bareL_app, if_neg, bareL_free _ q]
    · simp
    · intro c hc
      obtain ⟨i, h1, h2, h3⟩ := mem_take_get hc
      have hi : i < e := by omega
      exact ⟨fun h => (hn i hi).2 (h ▸ h3), fun h => (hn i hi).1 (h ▸ h3), fun h => hf i (by omega) hi (h ▸ h3)⟩
    · intro ha
      rw [List.any_eq_true] at ha
      obtain ⟨c, hc, hc'⟩ := ha
      obtain ⟨i, h1, h2, h3⟩ := mem_take_get (s := 0) (by simpa using hc)
      have hi : i < e := by omega
      have : c = 58 ∨ c = 10 := by simpa using hc'
      rcases this with h | h
      · exact (hn i hi).2 (h ▸ h3)
      · exact (hn i hi).1 (h ▸ h3)

end
section
/-- the plain laws that the walk of _law_joined leans on -/
theorem strip_join1 {x y z : Str} (hz : z = x ++ Str.ofString "." ++ y) (h : stopsF x = true) : stripF z = bareF x := by rw [hz, strip_bare, bare_join, if_pos h]
theorem strip_join2 {x y z : Str} (hz : z = x ++ Str.ofString "." ++ y) (h : stopsF x = false) : stripF z = bareF y := by rw [hz, strip_bare, bare_join, if_neg (by rw [h]; exact Bool.false_ne_true)]
section
variable {prog : Program} {w : World} {A : Around} {E : Value → Shared → Prop} {s : Shared} {x y : Str} {t u : Tok} {Q : Value → Shared → Prop}
theorem ne_no (e : x = y) (h : Q (.bool false) s) : wpAny (model prog w) A (compareOp .NotEq (.str x t) (.str y u)) Q E s := by
  subst e
  refine ne_str ?_
  simpa using h
end
theorem off_nil {l : Lex} : ∀ p ∈ ([] : List (Addr × Obj)), p.1 ∉ l.adr := by simp
theorem off_cons {w : World} {l : Lex} {p : Addr × Obj} {ex : List (Addr × Obj)} (hl : l.Ok w) (h : @LT.lt Nat _ p.1 l.ce ∨ @LT.lt Nat _ l.pb p.1) (r : ∀ p ∈ ex, p.1 ∉ l.adr) : ∀ q ∈ p :: ex, q.1 ∉ l.adr := by
  have ho := hl.order
  intro q hq
  rcases List.mem_cons.mp hq with rfl | hq
  · simp only [Lex.adr, List.mem_cons, List.not_mem_nil, or_false, not_or]; refine ⟨?_, ?_, ?_, ?_, ?_, ?_, ?_, ?_, ?_⟩ <;> (refine neN ?_; omega)
  · exact r q hq
section
variable {w : World} {mean : ExcName → Option Value} {mg mb : Str → Option Value} {dp un : Nat} {gd : Option (List Code)} {cn : Str} {cs : Scope} {a : Addr} {ccd : Value} {cl : List (Str × Addr)} {outer : List Env} {A₀ : Around} {base h₀ : Heap} {L : Addr} {m : Str → Option Value} {s : Shared} {Q E : Value → Shared → Prop}
variable {news : List (Addr × Obj)}
theorem strip_led (x : Str) (t : Tok) (B : Below A₀ base outer h₀) (F : Fr h₀ L s.heap m) (X : (hd.heap_39 w.params).In h₀) (N : News h₀ L s.heap news) (T : Top topProg (looseW hd.view_39 [] ++ (recsOf hd.view_39).map (·.name) ++ (litsOf hd.view_39).map (·.1) ++ (clssOf hd.view_39 (looseW hd.view_39 [])).map (·.name)) mean mg mb h₀) (hk : cs.kind = .function)
    (hd : dp + 5 < recursionLimit) (hu : un + 50 < cLine) (hx : x.length ≤ 100000)
    (h : ∀ (t : Tok) (h' : Heap) (tk' : Nat), Fr h₀ L h' m → News h₀ L h' news → Q (.str (stripF x) t) { s with heap := h', toks := tk' }) :
    wpAny (model Challenge.rw_re0022_01.row.prog w) (ktrTop dp un gd cn cs L a ccd cl outer) (call (.ref 21) [.str x t]) Q E s :=
  strip_spec x t B F X T hk hd hu hx fun t h' tk' F' K' => h t h' tk' F' (N.grown K'.nil)
theorem stops_led (x : Str) (t : Tok) (B : Below A₀ base outer h₀) (F : Fr h₀ L s.heap m) (X : (hd.heap_39 w.params).In h₀) (N : News h₀ L s.heap news) (T : Top topProg (looseW hd.view_39 [] ++ (recsOf hd.view_39).map (·.name) ++ (litsOf hd.view_39).map (·.1) ++ (clssOf hd.view_39 (looseW hd.view_39 [])).map (·.name)) mean mg mb h₀) (hk : cs.kind = .function)
    (hd : dp + 5 < recursionLimit) (hu : un + 50 < cLine) (hx : x.length ≤ 100000)
    (h : ∀ (h' : Heap) (tk' : Nat), Fr h₀ L h' m → News h₀ L h' news → Q (.bool (stopsF x)) { s with heap := h', toks := tk' }) :
    wpAny (model Challenge.rw_re0022_01.row.prog w) (ktrTop dp un gd cn cs L a ccd cl outer) (call (.ref 101) [.str x t]) Q E s :=
  stops_spec x t B F X T hk hd hu hx fun h' tk' F' K' => h h' tk' F' (N.grown K'.nil)
theorem bare_led (x : Str) (t : Tok) (B : Below A₀ base outer h₀) (F : Fr h₀ L s.heap m) (X : (hd.heap_39 w.params).In h₀) (N : News h₀ L s.heap news) (T : Top topProg (looseW hd.view_39 [] ++ (recsOf hd.view_39).map (·.name) ++ (litsOf hd.view_39).map (·.1) ++ (clssOf hd.view_39 (looseW hd.view_39 [])).map (·.name)) mean mg mb h₀) (hk : cs.kind = .function)
    (hd : dp + 5 < recursionLimit) (hu : un + 50 < cLine) (hx : x.length ≤ 100000)
    (h : ∀ (t : Tok) (h' : Heap) (tk' : Nat), Fr h₀ L h' m → News h₀ L h' news → Q (.str (bareF x) t) { s with heap := h', toks := tk' }) :
    wpAny (model Challenge.rw_re0022_01.row.prog w) (ktrTop dp un gd cn cs L a ccd cl outer) (call (.ref 108) [.str x t]) Q E s :=
  bare_spec x t B F X T hk hd hu hx fun t h' tk' F' K' => h t h' tk' F' (N.grown K'.nil)
theorem news_one {h : Heap} {p : Addr × Obj} (N : News h₀ L h news) (hm : p ∈ news) : News h₀ L h [p] := fun q hq => by rw [List.mem_singleton.mp hq]; exact N p hm
theorem build_two_led (D : Addr) (x y : Str) (tx ty : Tok) (B : Below A₀ base outer h₀) (F : Fr h₀ L s.heap m) (X : (hd.heap_39 w.params).In h₀) (N : News h₀ L s.heap news) (hm : (D, ({ cls := .type "tuple", data := .seq #[.str x tx, .str y ty] } : Obj)) ∈ news) (T : Top topProg (looseW hd.view_39 [] ++ (recsOf hd.view_39).map (·.name) ++ (litsOf hd.view_39).map (·.1) ++ (clssOf hd.view_39 (looseW hd.view_39 [])).map (·.name)) mean mg mb h₀) (hk : cs.kind = .function)
    (hd : dp + 5 < recursionLimit) (hu : un + 50 < cLine) (hx : x.length ≤ 10000) (hy : y.length ≤ 10000)
    (h : ∀ z t' h' tk', z = x ++ Str.ofString "." ++ y → z.length ≤ 100000 → Fr h₀ L h' m → News h₀ L h' news → Q (.str z t') { s with heap := h', toks := tk' }) :
    wpAny (model Challenge.rw_re0022_01.row.prog w) (ktrTop dp un gd cn cs L a ccd cl outer) (call (.ref 28) [.ref D]) Q E s :=
  build_two D x y tx ty B F X (news_one N hm) T hk hd hu (by omega) (by omega) fun t' h' tk' F' K' => h _ t' h' tk' rfl (by rw [Str.length_append, Str.length_append, show (Str.ofString ".").length = 1 by decide]; omega) F' (N.grown K'.nil)
theorem build_none_led (D : Addr) (x y : Str) (ty : Tok) (hC : (x == Str.ofString "C") = true) (B : Below A₀ base outer h₀) (F : Fr h₀ L s.heap m) (X : (hd.heap_39 w.params).In h₀) (N : News h₀ L s.heap news) (hm : (D, ({ cls := .type "tuple", data := .seq #[.none, .str y ty] } : Obj)) ∈ news) (T : Top topProg (looseW hd.view_39 [] ++ (recsOf hd.view_39).map (·.name) ++ (litsOf hd.view_39).map (·.1) ++ (clssOf hd.view_39 (looseW hd.view_39 [])).map (·.name)) mean mg mb h₀) (hk : cs.kind = .function)
    (hd : dp + 5 < recursionLimit) (hu : un + 50 < cLine) (hy : y.length ≤ 10000)
    (h : ∀ z t' h' tk', z = x ++ Str.ofString "." ++ y → z.length ≤ 100000 → Fr h₀ L h' m → News h₀ L h' news → Q (.str z t') { s with heap := h', toks := tk' }) :
    wpAny (model Challenge.rw_re0022_01.row.prog w) (ktrTop dp un gd cn cs L a ccd cl outer) (call (.ref 28) [.ref D]) Q E s :=
  build_none D Str.empty y 0 ty B F X (news_one N hm) T hk hd hu (Nat.zero_le _) (by omega) fun t' h' tk' F' K' => h _ t' h' tk' (by rw [beq_iff_eq.mp hC]) (by rw [Str.length_append, Str.length_append, show (Str.ofString ".").length = 1 by decide, show (Str.ofString "C").length = 1 by decide]; omega) F' (N.grown K'.nil)
theorem build_one_led (D : Addr) (x : Str) (tx : Tok) (B : Below A₀ base outer h₀) (F : Fr h₀ L s.heap m) (X : (hd.heap_39 w.params).In h₀) (N : News h₀ L s.heap news) (hm : (D, ({ cls := .type "list", data := .seq #[.str x tx, .none] } : Obj)) ∈ news) (T : Top topProg (looseW hd.view_39 [] ++ (recsOf hd.view_39).map (·.name) ++ (litsOf hd.view_39).map (·.1) ++ (clssOf hd.view_39 (looseW hd.view_39 [])).map (·.name)) mean mg mb h₀) (hk : cs.kind = .function)
    (hd : dp + 5 < recursionLimit) (hu : un + 50 < cLine) (hx : x.length ≤ 100000)
    (h : ∀ t' h' tk', Fr h₀ L h' m → News h₀ L h' news → Q (.str x t') { s with heap := h', toks := tk' }) :
    wpAny (model Challenge.rw_re0022_01.row.prog w) (ktrTop dp un gd cn cs L a ccd cl outer) (call (.ref 28) [.ref D]) Q E s :=
  build_one D x Str.empty tx 0 B F X (news_one N hm) T hk hd hu hx (Nat.zero_le _) fun t' h' tk' F' K' => h t' h' tk' F' (N.grown K'.nil)
theorem gettok_ex (ex : List (Addr × Obj)) {l : Lex} (hl : l.Ok w) {n : Int} {tn : Tok} {ys : List Value} {c cp : Nat} {v : Value} {ps : List Value}
    (B : Below A₀ base outer h₀) (F : Fr h₀ L s.heap m) (X : (hd.heap_39 w.params).In h₀) (N : News h₀ L s.heap (ex ++ l.led w n tn ys c (v :: ps) cp)) (T : Top topProg (looseW hd.view_39 [] ++ (recsOf hd.view_39).map (·.name) ++ (litsOf hd.view_39).map (·.1) ++ (clssOf hd.view_39 (looseW hd.view_39 [])).map (·.name)) mean mg mb h₀) (hk : cs.kind = .function)
    (hd : dp + 5 < recursionLimit) (hu : un + 50 < cLine) (hx : (v :: ps).length ≤ 100000) (off : ∀ p ∈ ex, p.1 ∉ l.adr)
    (h : ∀ cp' h' tk', Fr h₀ L h' m → News h₀ L h' (ex ++ l.led w n tn ys c ps cp') → Q v { s with heap := h', toks := tk' }) :
    wpAny (model Challenge.rw_re0022_01.row.prog w) (ktrTop dp un gd cn cs L a ccd cl outer) (call (.ref 56) [.ref l.lx]) Q E s :=
  gettok_p l hl n tn ys c cp v ps B F X (led_right N) T hk hd hu hx fun cp' h' tk' F' N' K' => h cp' h' tk' F' (ext_led N K' off N')
theorem push_ex (ex : List (Addr × Obj)) {l : Lex} (hl : l.Ok w) {n : Int} {tn : Tok} {ys : List Value} {c cp : Nat} {v : Value} {ps : List Value}
    (B : Below A₀ base outer h₀) (F : Fr h₀ L s.heap m) (X : (hd.heap_39 w.params).In h₀) (N : News h₀ L s.heap (ex ++ l.led w n tn ys c ps cp)) (T : Top topProg (looseW hd.view_39 [] ++ (recsOf hd.view_39).map (·.name) ++ (litsOf hd.view_39).map (·.1) ++ (clssOf hd.view_39 (looseW hd.view_39 [])).map (·.name)) mean mg mb h₀) (hk : cs.kind = .function)
    (hd : dp + 5 < recursionLimit) (hu : un + 50 < cLine) (hx : ps.length ≤ 100000) (off : ∀ p ∈ ex, p.1 ∉ l.adr)
    (h : ∀ cp' h' tk', Fr h₀ L h' m → News h₀ L h' (ex ++ l.led w n tn ys c (ps ++ [v]) cp') → Q .none { s with heap := h', toks := tk' }) :
    wpAny (model Challenge.rw_re0022_01.row.prog w) (ktrTop dp un gd cn cs L a ccd cl outer) (call (.ref 63) [.ref l.lx, v]) Q E s :=
  push_spec l hl n tn ys c cp v ps B F X (led_right N) T hk hd hu hx fun cp' h' tk' F' N' K' => h cp' h' tk' F' (ext_led N K' off N')
end

end
section
/-- the queue of _law_joined -/
def stepQ : List Str → List Str
  | a :: b :: r => r ++ [a ++ Str.ofString "." ++ b]
  | r => r
def runQ : Nat → List Str → List Str
  | 0, q => q
  | k + 1, q => stepQ (runQ k q)
def tot (q : List Str) : Nat := (q.map fun x => x.length + 1).sum
theorem len_dot : (Str.ofString ".").length = 1 := by decide
theorem tot_step (q : List Str) : tot (stepQ q) = tot q := by
  match q with
  | [] => rfl
  | [_] => rfl
  | a :: b :: r =>
    simp only [stepQ, tot, List.map_append, List.map_cons, List.map_nil, List.sum_append, List.sum_cons, List.sum_nil, Str.length_append, len_dot]
    omega
theorem tot_run (k : Nat) (q : List Str) : tot (runQ k q) = tot q := by
  induction k with
  | zero => rfl
  | succ k ih => rw [runQ, tot_step, ih]
theorem len_step (q : List Str) (h : 2 ≤ q.length) : (stepQ q).length + 1 = q.length := by
  match q, h with
  | a :: b :: r, _ => simp [stepQ]
theorem len_run (q : List Str) : ∀ k, k < q.length → (runQ k q).length + k = q.length
  | 0, _ => rfl
  | k + 1, h => by
    have := len_run q k (by omega)
    have h2 := len_step (runQ k q) (by omega)
    rw [runQ]; omega
theorem ne_of_nc {names : List Str} {y z : Str} (h : names.contains y = false) (hz : names.contains z = true) : y ≠ z := fun e => by rw [e, hz] at h; cases h
theorem fr_any {g h : Heap} {L : Addr} {m' m₀ : Str → Option Value} (names : List Str) (F : Fr g L h m') (hne : ∀ y, names.contains y = false → m' y = m₀ y) : Fr g L h (fun y => if names.contains y = true then m' y else m₀ y) := by
  have e : (fun y => if names.contains y = true then m' y else m₀ y) = m' := by
    funext y
    by_cases h1 : names.contains y = true
    · rw [if_pos h1]
    · rw [if_neg h1, hne y (by simpa using h1)]
  rw [e]; exact F
abbrev nmW : List Str := [Str.ofString "word"]
abbrev nmT : List Str := [Str.ofString "turn", Str.ofString "first", Str.ofString "second", Str.ofString "made"]
/-- between two turns of the first loop -/
def JI1 (g : Heap) (L : Addr) (m₀ : Str → Option Value) (w : World) (l : Lex) (I wl : Addr) (n : Int) (tn : Tok) (ys : List Value) (c cw : Nat) (s : Shared) (vs : List Value) (k : Nat) (s' : Shared) : Prop :=
  ∃ (i : Nat) (oI : Obj) (cp : Nat) (h : Heap) (tk : Nat) (u : Str → Option Value), s' = { s with heap := h, toks := tk } ∧ Fr g L h (fun y => if nmW.contains y = true then u y else m₀ y) ∧
    News g L h ((I, oI) :: (wl, W.listOf vs.toArray cw) :: l.led w n tn ys c (vs.take i) cp) ∧ IsLi oI wl i ∧ i ≤ vs.length ∧ vs.length - i = k
def JI2 (g : Heap) (L : Addr) (m₀ : Str → Option Value) (w : World) (l : Lex) (I wl : Addr) (n : Int) (tn : Tok) (ys : List Value) (c cw : Nat) (s : Shared) (vs : List Value) (xs : List Str) (M k : Nat) (s' : Shared) : Prop :=
  ∃ (i : Nat) (ps : List Value) (cp : Nat) (h : Heap) (tk : Nat) (u : Str → Option Value), s' = { s with heap := h, toks := tk } ∧ Fr g L h (fun y => if nmT.contains y = true then u y else m₀ y) ∧
    News g L h ((I, riObj (i : Int) ((M : Int) - (i : Int))) :: (wl, W.listOf vs.toArray cw) :: l.led w n tn ys c ps cp) ∧ StrsAre ps (runQ i xs) ∧ i ≤ M ∧ M - i = k
section
variable {prog : Program} {A : Around} {s : Shared} {env : Env} {g h : Heap} {L : Addr} {m₀ m' : Str → Option Value} {w : World} {l : Lex} {I wl : Addr} {n : Int} {tn : Tok} {ys vs ps : List Value} {c cw cp tk M : Nat} {xs : List Str} {oI : Obj}
theorem loop_j1 {R : Result → Shared → Prop} {px : Pos} {it : Value} {body : List Stmt} (F : Fr g L h m₀) (N : News g L h ((I, liObj wl) :: (wl, W.listOf vs.toArray cw) :: l.led w n tn ys c [] cp))
    (turn : ∀ k s', JI1 g L m₀ w l I wl n tn ys c cw s vs k s' → wpAny (model prog w) A (pyNext it) (fun r s₁ => match r with
      | none => R (.ok .next) s₁
      | some v => wpAny (model prog w) A (storeName env (Str.ofString "word") v) (fun _ s₂ => wpAny (model prog w) A (execs body env) (fun fl s₃ => match fl with
            | .next | .cont => ∃ m, m < k ∧ JI1 g L m₀ w l I wl n tn ys c cw s vs m s₃
            | .brk => R (.ok .next) s₃
            | .ret v => R (.ok (.ret v)) s₃) (fun _ _ => False) s₂) (fun _ _ => False) s₁) (fun _ _ => False) s') :
    codeAny (model prog w) A (.forLoop (.Name (Str.ofString "word") px) it body [] env) R { s with heap := h, toks := tk } :=
  loop_name (JI1 g L m₀ w l I wl n tn ys c cw s vs) turn vs.length ⟨0, liObj wl, cp, h, tk, m₀, rfl, fr_any nmW F (fun _ _ => rfl), N, isLi0 wl, Nat.zero_le _, rfl⟩
theorem JI1.step {i k : Nat} {v : Value} (F : Fr g L h m') (N : News g L h ((I, oI) :: (wl, W.listOf vs.toArray cw) :: l.led w n tn ys c (vs.take i ++ [v]) cp)) (hne : ∀ y, nmW.contains y = false → m' y = m₀ y) (hI : IsLi oI wl (i + 1)) (hv : vs[i]? = some v) (hi : i < vs.length) (hk : vs.length - i = k) :
    ∃ m, m < k ∧ JI1 g L m₀ w l I wl n tn ys c cw s vs m { s with heap := h, toks := tk } :=
  ⟨vs.length - (i + 1), by omega, i + 1, oI, cp, h, tk, m', rfl, fr_any nmW F hne, by rw [List.take_add_one, hv]; exact N, hI, by omega, rfl⟩
theorem loop_j2 {R : Result → Shared → Prop} {px : Pos} {it : Value} {body : List Stmt} (F : Fr g L h m₀) (N : News g L h ((I, riObj 0 (M : Int)) :: (wl, W.listOf vs.toArray cw) :: l.led w n tn ys c ps cp)) (hS : StrsAre ps xs)
    (turn : ∀ k s', JI2 g L m₀ w l I wl n tn ys c cw s vs xs M k s' → wpAny (model prog w) A (pyNext it) (fun r s₁ => match r with
      | none => R (.ok .next) s₁
      | some v => wpAny (model prog w) A (storeName env (Str.ofString "turn") v) (fun _ s₂ => wpAny (model prog w) A (execs body env) (fun fl s₃ => match fl with
            | .next | .cont => ∃ m, m < k ∧ JI2 g L m₀ w l I wl n tn ys c cw s vs xs M m s₃
            | .brk => R (.ok .next) s₃
            | .ret v => R (.ok (.ret v)) s₃) (fun _ _ => False) s₂) (fun _ _ => False) s₁) (fun _ _ => False) s') :
    codeAny (model prog w) A (.forLoop (.Name (Str.ofString "turn") px) it body [] env) R { s with heap := h, toks := tk } :=
  loop_name (JI2 g L m₀ w l I wl n tn ys c cw s vs xs M) turn M ⟨0, ps, cp, h, tk, m₀, rfl, fr_any nmT F (fun _ _ => rfl), by simpa using N, hS, Nat.zero_le _, rfl⟩
end

end
section
section
variable {g h : Heap} {L : Addr} {m₀ m' : Str → Option Value} {w : World} {l : Lex} {I wl : Addr} {n : Int} {tn t : Tok} {ys vs ps : List Value} {c cw cp tk M i k : Nat} {xs r : List Str} {s : Shared} {x y : Str}
theorem JI2.step {p1 p2 : Addr × Obj} {z : Str} (hz : z = x ++ Str.ofString "." ++ y) (F : Fr g L h m') (N : News g L h (p1 :: p2 :: (I, riObj ((i : Int) + 1) ((M : Int) - (i : Int) - 1)) :: (wl, W.listOf vs.toArray cw) :: l.led w n tn ys c (ps ++ [.str z t]) cp)) (hne : ∀ y, nmT.contains y = false → m' y = m₀ y)
    (hS : StrsAre ps r) (hq : runQ i xs = x :: y :: r) (hi : i < M) (hk : M - i = k) : ∃ m, m < k ∧ JI2 g L m₀ w l I wl n tn ys c cw s vs xs M m { s with heap := h, toks := tk } := by
  subst hz
  refine ⟨M - (i + 1), by omega, i + 1, ps ++ [.str (x ++ Str.ofString "." ++ y) t], cp, h, tk, m', rfl, fr_any nmT F hne, ?_, ?_, by omega, rfl⟩
  · have e1 : (((i + 1 : Nat) : Int)) = (i : Int) + 1 := by omega
    have e2 : (M : Int) - ((i : Int) + 1) = (M : Int) - (i : Int) - 1 := by omega
    rw [e1, e2]
    exact news_tl (news_tl N)
  · rw [runQ, hq]
    exact kct_snoc hS
end
section
variable {prog : Program} {w : World} {A : Around} {E : Value → Shared → Prop} {s : Shared} {x y : Str} {t u : Tok} {Q : Value → Shared → Prop}
theorem eq_false_of (e : (x == y) = false) (h : Q (.bool false) s) : wpAny (model prog w) A (compareOp .Eq (.str x t) (.str y u)) Q E s := by
  refine eq_str ?_
  rw [e]; exact h
theorem eq_true_of (e : (x == y) = true) (h : Q (.bool true) s) : wpAny (model prog w) A (compareOp .Eq (.str x t) (.str y u)) Q E s := by
  refine eq_str ?_
  rw [e]; exact h
end
section
variable {w : World} {mean : ExcName → Option Value} {mg mb : Str → Option Value} {dp un : Nat} {gd : Option (List Code)} {cn : Str} {cs : Scope} {a : Addr} {ccd : Value} {cl : List (Str × Addr)} {outer : List Env} {A₀ : Around} {base h₀ : Heap} {L : Addr} {m : Str → Option Value} {s : Shared} {Q E : Value → Shared → Prop}
set_option maxRecDepth 100000 in
set_option maxHeartbeats 8000000 in
theorem joined_spec (l : Lex) (hl : l.Ok w) (n : Int) (tn : Tok) (ys : List Value) (c cp : Nat) (wl : Addr) (vs : List Value) (cw : Nat) (xs : List Str)
    (B : Below A₀ base outer h₀) (F : Fr h₀ L s.heap m) (X : (hd.heap_39 w.params).In h₀) (N : News h₀ L s.heap ((wl, W.listOf vs.toArray cw) :: l.led w n tn ys c [] cp)) (T : Top topProg (looseW hd.view_39 [] ++ (recsOf hd.view_39).map (·.name) ++ (litsOf hd.view_39).map (·.1) ++ (clssOf hd.view_39 (looseW hd.view_39 [])).map (·.name)) mean mg mb h₀) (hk : cs.kind = .function)
    (hd : dp + 20 < recursionLimit) (hu : un + 200 < cLine) (hS : StrsAre vs xs) (hw : wl < l.ce) (h1 : 1 ≤ xs.length) (h2 : xs.length ≤ 100) (ht : tot xs ≤ 10000)
    (ret : ∀ ps cp' h' tk', StrsAre ps (runQ (xs.length - 1) xs) → Fr h₀ L h' m → News h₀ L h' ((wl, W.listOf vs.toArray cw) :: l.led w n tn ys c ps cp') → Kept (wl :: l.adr) s.heap h' → Q (.bool true) { s with heap := h', toks := tk' }) :
    wpAny (model Challenge.rw_re0022_01.row.prog w) (ktrTop dp un gd cn cs L a ccd cl outer) (call (.ref 115) [.ref l.lx, .ref wl]) Q E s := by
  revert X; k_fill; intro X
  obtain ⟨pb, lx, dx, sd, rd, rc, st, lf, ce, k1, k2, k3, k4, tw, tr, fr, oRc, oCe, fd⟩ := l
  have ho := hl.order
  have hw' : @LT.lt Nat _ wl ce := hw
  have hlen : vs.length = xs.length := hS.length
  dsimp only [Lex.led, Lex.dict, Lex.adr] at *
  refine wpAny_call ?_
  k_with_none
  k_with "Exists" => exact JI1.step (by assumption) (by assumption) (by intro y9 h9; simp only [if_neg (ne_of_nc (z := Str.ofString "word") h9 (by decide)), h9, Bool.false_eq_true, if_false]) (by assumption) (by assumption) (by assumption) (by assumption)
  k_with "Exists" => exact JI2.step (by assumption) (by assumption) (by assumption) (by intro y9 h9; simp only [if_neg (ne_of_nc (z := Str.ofString "turn") h9 (by decide)), if_neg (ne_of_nc (z := Str.ofString "first") h9 (by decide)), if_neg (ne_of_nc (z := Str.ofString "second") h9 (by decide)), if_neg (ne_of_nc (z := Str.ofString "made") h9 (by decide)), h9, Bool.false_eq_true, if_false]) (by assumption) (by assumption) (by assumption) (by assumption)
  k_with "call builtin:len" => (k_here; (with_reducible show wpAny _ _ (call (Value.builtin "len") [Value.ref _]) _ _ _); k_dflt (refine' len_led ?k1 ?k2 ?k3 ?_; (case k1 => k_asm); (case k2 => k_mem); (case k3 => omega); k_whole))
  k_with "exec For Name Name cons nil" => (k_here; k_dflt (refine for_plain ?_))
  k_with "exec For Name Call cons nil" => (k_here; k_dflt (refine for_plain ?_))
  k_with "pyIter ref" => (k_here; k_dflt (first | (refine' li_new ?k1 ?k2 ?k3 ?_; (case k1 => k_asm); (case k2 => k_asm); (case k3 => k_mem); k_whole) | (refine' ri_new ?k1 ?k2 ?k3 ?k4 ?k5 ?_; (case k1 => k_asm); (case k2 => k_asm); (case k3 => assumption); (case k4 => omega); (case k5 => omega); k_whole)); intro I' h' F' N' l1; (try k_lt l1); (try k_sweep))
  k_with "compareOp NotEq str str" => first | refine ne_no (strip_join1 (by assumption) (by assumption)) ?_ | refine ne_no (strip_join2 (by assumption) (by assumption)) ?_ | with_reducible refine ne_no rfl ?_
  k_with "compareOp Eq str str" => first | refine eq_false_of (by assumption) ?_ | refine eq_true_of (by assumption) ?_
  k_with "call ref" => (k_here; (with_reducible show wpAny _ _ (call (Value.ref 21) _) _ _ _); k_dflt (refine' strip_led _ _ ?k1 ?k2 ?k3 ?k4 ?k5 ?k6 ?k7 ?k8 ?x1 ?_; (case k1 => k_asm); (case k2 => k_asm); (case k3 => k_asm); (case k4 => k_asm); (case k5 => k_asm); (case k6 => first | exact rfl | assumption); (case k7 => ktr_room); (case k8 => ktr_units); (case x1 => assumption); k_whole); intro t' h' tk' F' N'; (try k_sweep))
  k_with "call ref" => (k_here; (with_reducible show wpAny _ _ (call (Value.ref 101) _) _ _ _); k_dflt (refine' stops_led _ _ ?k1 ?k2 ?k3 ?k4 ?k5 ?k6 ?k7 ?k8 ?x1 ?_; (case k1 => k_asm); (case k2 => k_asm); (case k3 => k_asm); (case k4 => k_asm); (case k5 => k_asm); (case k6 => first | exact rfl | assumption); (case k7 => ktr_room); (case k8 => ktr_units); (case x1 => assumption); k_whole); intro h' tk' F' N'; (try k_sweep))
  k_with "call ref" => (k_here; (with_reducible show wpAny _ _ (call (Value.ref 108) _) _ _ _); k_dflt (refine' bare_led _ _ ?k1 ?k2 ?k3 ?k4 ?k5 ?k6 ?k7 ?k8 ?x1 ?_; (case k1 => k_asm); (case k2 => k_asm); (case k3 => k_asm); (case k4 => k_asm); (case k5 => k_asm); (case k6 => first | exact rfl | assumption); (case k7 => ktr_room); (case k8 => ktr_units); (case x1 => assumption); k_whole); intro t' h' tk' F' N'; (try k_sweep))
  k_with "call ref" => (k_here; (with_reducible show wpAny _ _ (call (Value.ref 28) _) _ _ _); k_dflt (refine' build_two_led _ _ _ _ _ ?k1 ?k2 ?k3 ?k4 ?km ?k5 ?k6 ?k7 ?k8 ?x1 ?x2 ?_; (case k1 => k_asm); (case k2 => k_asm); (case k3 => k_asm); (case k4 => k_asm); (case k5 => k_asm); (case k6 => first | exact rfl | assumption); (case k7 => ktr_room); (case k8 => ktr_units); (case km => k_mem); (case x1 => assumption); (case x2 => assumption);  k_whole); intro z' t' h' tk' hz' hl' F' N'; (try k_sweep))
  k_with "call ref" => (k_here; (with_reducible show wpAny _ _ (call (Value.ref 28) _) _ _ _); k_dflt (refine' build_none_led _ _ _ _ ?hc ?k1 ?k2 ?k3 ?k4 ?km ?k5 ?k6 ?k7 ?k8 ?x1 ?_; (case hc => assumption); (case k1 => k_asm); (case k2 => k_asm); (case k3 => k_asm); (case k4 => k_asm); (case k5 => k_asm); (case k6 => first | exact rfl | assumption); (case k7 => ktr_room); (case k8 => ktr_units); (case km => k_mem); (case x1 => assumption);  k_whole); intro z' t' h' tk' hz' hl' F' N'; (try k_sweep))
  k_with "call ref" => (k_here; (with_reducible show wpAny _ _ (call (Value.ref 28) _) _ _ _); k_dflt (refine' build_one_led _ _ _ ?k1 ?k2 ?k3 ?k4 ?km ?k5 ?k6 ?k7 ?k8 ?x1 ?_; (case k1 => k_asm); (case k2 => k_asm); (case k3 => k_asm); (case k4 => k_asm); (case k5 => k_asm); (case k6 => first | exact rfl | assumption); (case k7 => ktr_room); (case k8 => ktr_units); (case km => k_mem); (case x1 => assumption);  k_whole); intro t' h' tk' F' N'; (try k_sweep))
  k_with "call ref" => (k_here; (with_reducible show wpAny _ _ (call (Value.ref 56) _) _ _ _); (with_reducible rename Lex.Ok _ _ => hLx); k_dflt (first | (refine' gettok_ex [_, _] hLx ?k1 ?k2 ?k3 ?k4 ?k5 ?k6 ?k7 ?k8 ?x1 ?o1 ?_; (case k1 => k_asm); (case k2 => k_asm); (case k3 => k_asm); (case k4 => k_asm); (case k5 => k_asm); (case k6 => first | exact rfl | assumption); (case k7 => ktr_room); (case k8 => ktr_units); (case x1 => assumption); (case o1 => (repeat' (first | exact off_nil | (refine off_cons hLx (by dsimp only; omega) ?_)))); k_whole)); intro cp' h' tk' F' N'; (try dsimp only [Lex.led, Lex.dict, Lex.adr, itLed, List.cons_append, List.nil_append] at N'); (try k_sweep))
  k_with "call ref" => (k_here; (with_reducible show wpAny _ _ (call (Value.ref 63) _) _ _ _); (with_reducible rename Lex.Ok _ _ => hLx); k_dflt (first | (refine' push_ex [_, _] hLx ?k1 ?k2 ?k3 ?k4 ?k5 ?k6 ?k7 ?k8 ?x1 ?o1 ?_; (case k1 => k_asm); (case k2 => k_asm); (case k3 => k_asm); (case k4 => k_asm); (case k5 => k_asm); (case k6 => first | exact rfl | assumption); (case k7 => ktr_room); (case k8 => ktr_units); (case x1 => assumption); (case o1 => (repeat' (first | exact off_nil | (refine off_cons hLx (by dsimp only; omega) ?_)))); k_whole) | (refine' push_ex [_, _, _, _] hLx ?k1 ?k2 ?k3 ?k4 ?k5 ?k6 ?k7 ?k8 ?x1 ?o1 ?_; (case k1 => k_asm); (case k2 => k_asm); (case k3 => k_asm); (case k4 => k_asm); (case k5 => k_asm); (case k6 => first | exact rfl | assumption); (case k7 => ktr_room); (case k8 => ktr_units); (case x1 => assumption); (case o1 => (repeat' (first | exact off_nil | (refine off_cons hLx (by dsimp only; omega) ?_)))); k_whole)); intro cp' h' tk' F' N'; (try dsimp only [Lex.led, Lex.dict, Lex.adr, itLed, List.cons_append, List.nil_append] at N'); (try k_sweep))
  k_dflt cell_enter
  k_steps
  refine loop_j1 (l := ⟨pb, lx, dx, sd, rd, rc, st, lf, ce, k1, k2, k3, k4, tw, tr, fr, oRc, oCe, fd⟩) (by assumption) (by assumption) ?_
  rintro k s' ⟨i, oI, cp9, h9, tk9, u9, rfl, F9, N9, hI9, hi9, hk9⟩
  dsimp only [Lex.led, Lex.dict, Lex.adr, itLed, List.cons_append, List.nil_append] at N9
  (try k_sweep)
  (try k_fold)
  by_cases hi : i < vs.length
  · have hv : vs[i]? = some vs[i] := by simp
    have hps : (vs.take i).length ≤ 100000 := by rw [List.length_take]; omega
    refine li_item hI9 (by assumption) (by assumption) (by k_mem) (by k_all) hv ?_
    intro oI' h' hI' F' N'
    (try k_sweep)
    k_steps
  · refine li_end (by rfl) hI9 (by assumption) (by assumption) (by k_mem) (by k_all) (by omega) ?_
    intro h' F' N'
    (try k_sweep)
    have ei : i = vs.length := by omega
    subst ei
    rw [List.take_length] at N'
    k_steps
    (rename News _ _ _ _ => N8)
    have eM : ((vs.length : Int) - 1) = ((xs.length - 1 : Nat) : Int) := by omega
    rw [eM] at N8
    refine loop_j2 (l := ⟨pb, lx, dx, sd, rd, rc, st, lf, ce, k1, k2, k3, k4, tw, tr, fr, oRc, oCe, fd⟩) (by assumption) N8 hS ?_
    rintro k s' ⟨i, ps7, cp7, h7, tk7, u7, rfl, F7, N7, hS7, hi7, hk7⟩
    dsimp only [Lex.led, Lex.dict, Lex.adr, itLed, List.cons_append, List.nil_append] at N7
    (try k_sweep)
    (try k_fold)
    by_cases hi : i < xs.length - 1
    · have hL7 := len_run xs i (by omega)
      have hT7 := tot_run i xs
      obtain ⟨x, q1, hq1⟩ : ∃ x q1, runQ i xs = x :: q1 := by
        cases hq : runQ i xs with
        | nil => rw [hq] at hL7; simp at hL7; omega
        | cons x q1 => exact ⟨x, q1, rfl⟩
      obtain ⟨y, r, hq2⟩ : ∃ y r, q1 = y :: r := by
        cases hq : q1 with
        | nil => rw [hq1, hq] at hL7; simp at hL7; omega
        | cons y r => exact ⟨y, r, rfl⟩
      subst hq2
      rw [hq1] at hS7 hL7 hT7
      obtain ⟨tx, ps6, rfl, hS6⟩ := StrsAre.cons_inv hS7
      obtain ⟨ty, ps5, rfl, hS5⟩ := StrsAre.cons_inv hS6
      have hlen5 : ps5.length = r.length := hS5.length
      have b1 : (Value.str x tx :: Value.str y ty :: ps5).length ≤ 100000 := by simp only [List.length_cons] at hL7 ⊢; omega
      have b2 : (Value.str y ty :: ps5).length ≤ 100000 := by simp only [List.length_cons] at hL7 ⊢; omega
      have b3 : ps5.length ≤ 100000 := by simp only [List.length_cons] at hL7; omega
      have tq : x.length + 1 + (y.length + 1) ≤ 10000 := by simp only [tot, List.map_cons, List.sum_cons] at hT7 ht; omega
      have c1 : x.length ≤ 100000 := by omega
      have c2 : y.length ≤ 100000 := by omega
      have c4 : x.length ≤ 10000 := by omega
      have c5 : y.length ≤ 10000 := by omega
      refine ri_item (by assumption) (by assumption) (by k_all) (by omega) ?_
      intro h' tk' F' N' t'
      (try k_sweep)
      cases hC : (x == Str.ofString "C") with
      | true => k_steps
      | false => k_steps
    · refine ri_end (by rfl) (by assumption) (by assumption) (by k_all) (by omega) ?_
      intro h' F' N'
      (try k_sweep)
      have ei : i = xs.length - 1 := by omega
      subst ei
      k_steps
      all_goals exact ret _ _ _ _ hS7 (by assumption) (by assumption) (by assumption)
end

end
section
section
variable {prog : Program} {w : World} {A : Around} {E : Value → Shared → Prop} {s : Shared} {h₀ : Heap} {L : Addr} {m : Str → Option Value} {news : List (Addr × Obj)} {Q : Value → Shared → Prop}
/-- the first k of a list; all but the first k of a list -/
theorem cut_led {value slice : Expr} {a : Addr} {vs : List Value} {n1 : Nat} {y : Int} {u : Tok} {k : Nat} (F : Fr h₀ L s.heap m) (N : News h₀ L s.heap news) (ha : (a, W.listOf vs.toArray n1) ∈ news) (hy : y = (k : Int)) (hz : vs.length ≤ sizeLine)
    (h : ∀ D h', Fr h₀ L h' m → News h₀ L h' ((D, W.listOf (vs.take k).toArray 0) :: news) → (∀ p ∈ news, p.1 < D) → Q (.ref D) { s with heap := h' })
    (hs : subscripted slice false (.ref a) (.ref s.heap.objs.size) = operate [.ref s.heap.objs.size, .ref a] (getItem (.ref a) (.ref s.heap.objs.size))) (ht : ∀ r, letTemporaryGo value (.ref a) r = pure ()) :
    wpAny (model prog w) A (subscriptTail value slice (.ref a) (.ref s.heap.objs.size)) Q E { s with heap := s.heap.push { cls := .type "slice", data := .fields #[.none, .int y u, .none] } } := by
  have la : s.heap.IsList a vs.toArray := ⟨_, (N _ ha).1, rfl, _, rfl⟩
  refine kmk_slice F N la (lo := none) (hi := some y) IsPart.none (IsPart.int _ _) (fun D h' F' N' l1 => h D h' F' ?_ l1) hs ht (by simpa using hz)
  subst hy
  have e : sliceBounds none (some (k : Int)) none vs.toArray.size = (((0 : Nat) : Int), ((min k vs.toArray.size : Nat) : Int), 1) := by
    simp only [sliceBounds, Option.getD_none, show (1 : Int) > 0 by decide, if_true, if_neg (show ¬ ((k : Int) < 0) by omega)]
    congr 1
    congr 1
    omega
  rw [kmk_pick_nat _ e] at N'
  have e2 : (vs.toArray.toList.drop 0).take (min k vs.toArray.size - 0) = vs.take k := by
    rw [List.drop_zero, Nat.sub_zero, List.size_toArray, kmk_take_min]
  rw [e2] at N'
  exact N'
theorem from_led {value slice : Expr} {a : Addr} {vs : List Value} {n1 : Nat} {y : Int} {u : Tok} {k : Nat} (F : Fr h₀ L s.heap m) (N : News h₀ L s.heap news) (ha : (a, W.listOf vs.toArray n1) ∈ news) (hy : y = (k : Int)) (hz : vs.length ≤ sizeLine)
    (h : ∀ D h', Fr h₀ L h' m → News h₀ L h' ((D, W.listOf (vs.drop k).toArray 0) :: news) → (∀ p ∈ news, p.1 < D) → Q (.ref D) { s with heap := h' })
    (hs : subscripted slice false (.ref a) (.ref s.heap.objs.size) = operate [.ref s.heap.objs.size, .ref a] (getItem (.ref a) (.ref s.heap.objs.size))) (ht : ∀ r, letTemporaryGo value (.ref a) r = pure ()) :
    wpAny (model prog w) A (subscriptTail value slice (.ref a) (.ref s.heap.objs.size)) Q E { s with heap := s.heap.push { cls := .type "slice", data := .fields #[.int y u, .none, .none] } } := by
  have la : s.heap.IsList a vs.toArray := ⟨_, (N _ ha).1, rfl, _, rfl⟩
  refine kmk_slice F N la (lo := some y) (hi := none) (IsPart.int _ _) IsPart.none (fun D h' F' N' l1 => h D h' F' ?_ l1) hs ht (by simpa using hz)
  subst hy
  have e : sliceBounds (some (k : Int)) none none vs.toArray.size = (((min k vs.toArray.size : Nat) : Int), ((vs.toArray.size : Nat) : Int), 1) := by
    simp only [sliceBounds, Option.getD_none, show (1 : Int) > 0 by decide, if_true, if_neg (show ¬ ((k : Int) < 0) by omega)]
    congr 1
    omega
  rw [kmk_pick_nat _ e] at N'
  have e2 : (vs.toArray.toList.drop (min k vs.toArray.size)).take (vs.toArray.size - min k vs.toArray.size) = vs.drop k := by
    rw [List.size_toArray, kmk_drop_min, List.take_of_length_le (by rw [List.length_drop]; omega)]
  rw [e2] at N'
  exact N'
/-- two lists of the ledger glued -/
theorem add_led {a b : Addr} {vs us : List Value} {n1 n2 : Nat} (F : Fr h₀ L s.heap m) (N : News h₀ L s.heap news) (ha : (a, W.listOf vs.toArray n1) ∈ news) (hb : (b, W.listOf us.toArray n2) ∈ news) (hz : vs.length + us.length ≤ sizeLine)
    (h : ∀ D h', Fr h₀ L h' m → News h₀ L h' ((D, W.listOf (vs ++ us).toArray 0) :: news) → (∀ p ∈ news, p.1 < D) → Q (.ref D) { s with heap := h' }) :
    wpAny (model prog w) A (binaryOp .Add (.ref a) (.ref b)) Q E s := by
  have la : s.heap.IsList a vs.toArray := ⟨_, (N _ ha).1, rfl, _, rfl⟩
  have lb : s.heap.IsList b us.toArray := ⟨_, (N _ hb).1, rfl, _, rfl⟩
  exact add_arrays (hsz := by simpa using hz) F N la lb fun h' F' N' => h _ h' F' (by simpa using N') fun p hp => Heap.lt_size (N p hp).1
theorem turn_fits (vs : List Value) (k : Nat) (h : vs.length ≤ 6) : (vs.drop k).length + (vs.take k).length ≤ sizeLine := by
  rw [List.length_drop, List.length_take, sizeLine_eq]; omega
end
def turnN : Nat → Nat | 3 => 2 | 5 => 2 | 6 => 4 | _ => 0
def turnL {α : Type} (vs : List α) : List α := vs.drop (turnN vs.length) ++ vs.take (turnN vs.length)
theorem turnL_at {α : Type} {vs : List α} {k : Nat} (h : turnN vs.length = k) : turnL vs = vs.drop k ++ vs.take k := by unfold turnL; rw [h]
section
variable {w : World} {mean : ExcName → Option Value} {mg mb : Str → Option Value} {dp un : Nat} {gd : Option (List Code)} {cn : Str} {cs : Scope} {a : Addr} {ccd : Value} {cl : List (Str × Addr)} {outer : List Env} {A₀ : Around} {base h₀ : Heap} {L : Addr} {m : Str → Option Value} {s : Shared} {Q E : Value → Shared → Prop}
set_option maxRecDepth 100000 in
set_option maxHeartbeats 8000000 in
theorem turned_lo (wl pb : Addr) (oP : Obj) (vs : List Value) (cw : Nat) (hlo : 2 ≤ vs.length) (hhi : vs.length ≤ 3)
    (B : Below A₀ base outer h₀) (F : Fr h₀ L s.heap m) (X : (hd.heap_39 w.params).In h₀) (N : News h₀ L s.heap [(wl, W.listOf vs.toArray cw), (pb, oP)]) (T : Top topProg (looseW hd.view_39 [] ++ (recsOf hd.view_39).map (·.name) ++ (litsOf hd.view_39).map (·.1) ++ (clssOf hd.view_39 (looseW hd.view_39 [])).map (·.name)) mean mg mb h₀) (hk : cs.kind = .function)
    (hd : dp + 5 < recursionLimit) (hu : un + 50 < cLine)
    (ret : ∀ D h' tk', @LT.lt Nat _ pb D → Fr h₀ L h' m → News h₀ L h' [(D, W.listOf (vs.drop (2 * (vs.length - 2)) ++ vs.take (2 * (vs.length - 2))).toArray 0), (wl, W.listOf vs.toArray cw), (pb, oP)] → Kept [wl, pb] s.heap h' → Q (.ref D) { s with heap := h', toks := tk' }) :
    wpAny (model Challenge.rw_re0022_01.row.prog w) (ktrTop dp un gd cn cs L a ccd cl outer) (call (.ref 122) [.ref wl]) Q E s := by
  revert X; k_fill; intro X
  refine wpAny_call ?_
  k_with_none
  k_with "call builtin:len" => (k_here; (with_reducible show wpAny _ _ (call (Value.builtin "len") [Value.ref _]) _ _ _); k_dflt (refine' len_led ?zq1 ?zq2 ?zq3 ?_; (case zq1 => k_asm); (case zq2 => k_mem); (case zq3 => omega); k_whole))
  k_with "exec While Compare" => (k_here; k_dflt (refine whl_start 100 ?_))
  k_with "WhlIf" => first | (refine WhlIf.yes (decide_eq_true (by omega)) ?_) | (refine WhlIf.no (decide_eq_false (by omega)) ?_)
  k_with "subscriptTail Name Slice ref ref" => (k_here; (with_reducible show wpAny _ _ (subscriptTail _ (PySem.Expr.Slice none _ none _) _ _) _ _ _); k_dflt (refine' cut_led (k := 2 * (vs.length - 2)) ?zqF ?zqN ?zql ?zqp ?zqz ?_ ?zqs ?zqt; (case zqF => k_asm); (case zqN => k_asm); (case zql => k_mem); (case zqp => omega); (case zqz => (rw [PySem.sizeLine_eq]; omega)); (case zqs => with_unfolding_all rfl); (case zqt => kmk_pure)); intro D' h' F' N' l1; (try k_lt l1); (try k_sweep))
  k_with "subscriptTail Name Slice ref ref" => (k_here; (with_reducible show wpAny _ _ (subscriptTail _ (PySem.Expr.Slice (some _) none none _) _ _) _ _ _); k_dflt (refine' from_led (k := 2 * (vs.length - 2)) ?zqF ?zqN ?zql ?zqp ?zqz ?_ ?zqs ?zqt; (case zqF => k_asm); (case zqN => k_asm); (case zql => k_mem); (case zqp => omega); (case zqz => (rw [PySem.sizeLine_eq]; omega)); (case zqs => with_unfolding_all rfl); (case zqt => kmk_pure)); intro D' h' F' N' l1; (try k_lt l1); (try k_sweep))
  k_with "binaryOp Add ref ref" => (k_here; k_dflt (refine' add_led ?zqF ?zqN ?zqa ?zqb ?zqz ?_; (case zqF => k_asm); (case zqN => k_asm); (case zqa => k_mem); (case zqb => k_mem); (case zqz => exact turn_fits _ _ (by omega))); intro D' h' F' N' l1; (try k_lt l1); (try k_sweep))
  k_dflt cell_enter
  k_steps
  refine ret _ _ _ ?_ (by assumption) (fun q hq => ‹News h₀ L _ _› q (by revert hq; simp only [List.mem_cons, List.not_mem_nil, or_false]; rintro (h | h | h) <;> simp [h])) (by assumption)
  omega
set_option maxRecDepth 100000 in
set_option maxHeartbeats 8000000 in
theorem turned_hi (wl pb : Addr) (oP : Obj) (vs : List Value) (cw : Nat) (hlo : 4 ≤ vs.length) (hhi : vs.length ≤ 6)
    (B : Below A₀ base outer h₀) (F : Fr h₀ L s.heap m) (X : (hd.heap_39 w.params).In h₀) (N : News h₀ L s.heap [(wl, W.listOf vs.toArray cw), (pb, oP)]) (T : Top topProg (looseW hd.view_39 [] ++ (recsOf hd.view_39).map (·.name) ++ (litsOf hd.view_39).map (·.1) ++ (clssOf hd.view_39 (looseW hd.view_39 [])).map (·.name)) mean mg mb h₀) (hk : cs.kind = .function)
    (hd : dp + 5 < recursionLimit) (hu : un + 50 < cLine)
    (ret : ∀ D h' tk', @LT.lt Nat _ pb D → Fr h₀ L h' m → News h₀ L h' [(D, W.listOf (vs.drop (2 * (vs.length - 4)) ++ vs.take (2 * (vs.length - 4))).toArray 0), (wl, W.listOf vs.toArray cw), (pb, oP)] → Kept [wl, pb] s.heap h' → Q (.ref D) { s with heap := h', toks := tk' }) :
    wpAny (model Challenge.rw_re0022_01.row.prog w) (ktrTop dp un gd cn cs L a ccd cl outer) (call (.ref 122) [.ref wl]) Q E s := by
  revert X; k_fill; intro X
  refine wpAny_call ?_
  k_with_none
  k_with "call builtin:len" => (k_here; (with_reducible show wpAny _ _ (call (Value.builtin "len") [Value.ref _]) _ _ _); k_dflt (refine' len_led ?zq1 ?zq2 ?zq3 ?_; (case zq1 => k_asm); (case zq2 => k_mem); (case zq3 => omega); k_whole))
  k_with "exec While Compare" => (k_here; k_dflt (refine whl_start 100 ?_))
  k_with "WhlIf" => first | (refine WhlIf.yes (decide_eq_true (by omega)) ?_) | (refine WhlIf.no (decide_eq_false (by omega)) ?_)
  k_with "subscriptTail Name Slice ref ref" => (k_here; (with_reducible show wpAny _ _ (subscriptTail _ (PySem.Expr.Slice none _ none _) _ _) _ _ _); k_dflt (refine' cut_led (k := 2 * (vs.length - 4)) ?zqF ?zqN ?zql ?zqp ?zqz ?_ ?zqs ?zqt; (case zqF => k_asm); (case zqN => k_asm); (case zql => k_mem); (case zqp => omega); (case zqz => (rw [PySem.sizeLine_eq]; omega)); (case zqs => with_unfolding_all rfl); (case zqt => kmk_pure)); intro D' h' F' N' l1; (try k_lt l1); (try k_sweep))
  k_with "subscriptTail Name Slice ref ref" => (k_here; (with_reducible show wpAny _ _ (subscriptTail _ (PySem.Expr.Slice (some _) none none _) _ _) _ _ _); k_dflt (refine' from_led (k := 2 * (vs.length - 4)) ?zqF ?zqN ?zql ?zqp ?zqz ?_ ?zqs ?zqt; (case zqF => k_asm); (case zqN => k_asm); (case zql => k_mem); (case zqp => omega); (case zqz => (rw [PySem.sizeLine_eq]; omega)); (case zqs => with_unfolding_all rfl); (case zqt => kmk_pure)); intro D' h' F' N' l1; (try k_lt l1); (try k_sweep))
  k_with "binaryOp Add ref ref" => (k_here; k_dflt (refine' add_led ?zqF ?zqN ?zqa ?zqb ?zqz ?_; (case zqF => k_asm); (case zqN => k_asm); (case zqa => k_mem); (case zqb => k_mem); (case zqz => exact turn_fits _ _ (by omega))); intro D' h' F' N' l1; (try k_lt l1); (try k_sweep))
  k_dflt cell_enter
  k_steps
  refine ret _ _ _ ?_ (by assumption) (fun q hq => ‹News h₀ L _ _› q (by revert hq; simp only [List.mem_cons, List.not_mem_nil, or_false]; rintro (h | h | h) <;> simp [h])) (by assumption)
  omega
theorem turned_spec (wl pb : Addr) (oP : Obj) (vs : List Value) (xs : List Str) (cw : Nat)
    (B : Below A₀ base outer h₀) (F : Fr h₀ L s.heap m) (X : (hd.heap_39 w.params).In h₀) (N : News h₀ L s.heap [(wl, W.listOf vs.toArray cw), (pb, oP)]) (T : Top topProg (looseW hd.view_39 [] ++ (recsOf hd.view_39).map (·.name) ++ (litsOf hd.view_39).map (·.1) ++ (clssOf hd.view_39 (looseW hd.view_39 [])).map (·.name)) mean mg mb h₀) (hk : cs.kind = .function)
    (hd : dp + 5 < recursionLimit) (hu : un + 50 < cLine) (hS : StrsAre vs xs) (h2 : 2 ≤ xs.length) (h6 : xs.length ≤ 6)
    (ret : ∀ D h' tk', @LT.lt Nat _ pb D → Fr h₀ L h' m → News h₀ L h' [(D, W.listOf (turnL vs).toArray 0), (wl, W.listOf vs.toArray cw), (pb, oP)] → Kept [wl, pb] s.heap h' → Q (.ref D) { s with heap := h', toks := tk' }) :
    wpAny (model Challenge.rw_re0022_01.row.prog w) (ktrTop dp un gd cn cs L a ccd cl outer) (call (.ref 122) [.ref wl]) Q E s := by
  have e := hS.length
  by_cases h3 : vs.length ≤ 3
  · refine turned_lo wl pb oP vs cw (by omega) h3 B F X N T hk hd hu fun D h' tk' hD F' N' K' => ret D h' tk' hD F' ?_ K'
    rw [show turnL vs = vs.drop (2 * (vs.length - 2)) ++ vs.take (2 * (vs.length - 2)) from turnL_at (by
      have : vs.length = 2 ∨ vs.length = 3 := by omega
      rcases this with h | h <;> rw [h] <;> rfl)]
    exact N'
  · refine turned_hi wl pb oP vs cw (by omega) (by omega) B F X N T hk hd hu fun D h' tk' hD F' N' K' => ret D h' tk' hD F' ?_ K'
    rw [show turnL vs = vs.drop (2 * (vs.length - 4)) ++ vs.take (2 * (vs.length - 4)) from turnL_at (by
      have : vs.length = 4 ∨ vs.length = 5 ∨ vs.length = 6 := by omega
      rcases this with h | h | h <;> rw [h] <;> rfl)]
    exact N'
end

end
section
theorem AllObj.mono {k k' : List (Addr × Obj) → Prop} (hk : ∀ its, k its → k' its) : ∀ ws : List (Addr × String), AllObj ws k → AllObj ws k'
  | [], h => hk _ h
  | w :: r, h => fun o ho => AllObj.mono (fun its => hk ((w.1, o) :: its)) r (h o ho)
theorem UnrPostW.mono {h₀ : Heap} {L : Addr} {s₁ s₂ : Shared} {its : List (Addr × Obj)} {r r' : (Str → Option Value) → List (Addr × Obj) → Prop} {Q : Flow → Shared → Prop} {f : Flow} (hr : ∀ m n, r m n → r' m n) (h : UnrPostW h₀ L s₁ its r Q f s₂) : UnrPostW h₀ L s₁ its r' Q f s₂ := by
  cases f with
  | ret v => exact h
  | brk => exact h
  | next => obtain ⟨h', tk, m', n', e, F, N, o, hh⟩ := h; exact ⟨h', tk, m', n', e, F, N, o, hr _ _ hh⟩
  | cont => obtain ⟨h', tk, m', n', e, F, N, o, hh⟩ := h; exact ⟨h', tk, m', n', e, F, N, o, hr _ _ hh⟩
section
variable {prog : Program} {w : World} {A : Around} {E : Value → Shared → Prop} {s : Shared} {env : Env} {h₀ : Heap} {target : Expr} {body : List Stmt} {Q : Flow → Shared → Prop}
theorem items_inv {ws : List (Addr × String)} {keep : List (Addr × Obj)} (J : Nat → (Str → Option Value) → List (Addr × Obj) → Prop) (P : Value → Prop)
    (step : ∀ i v m news T t h tk, P v → J i m news → IsTup h T #[.int (i : Int) t, v] → Fr h₀ env.locals h m → AllObj ws (fun its => News h₀ env.locals h (its ++ news) →
      wpAny (model prog w) A (assign target env (.ref T)) (fun _ s₂ => wpAny (model prog w) A (execs body env) (UnrPostW h₀ env.locals { s with heap := h, toks := tk } its (fun m' n' => SubL keep n' ∧ J (i + 1) m' n') Q) E s₂) E { s with heap := h, toks := tk })) :
    ∀ (vs : List Value) (i : Nat) (m : Str → Option Value) (news : List (Addr × Obj)), (∀ v ∈ vs, P v) → J i m news → (∀ m' n' h tk, J (i + vs.length) m' n' → Fr h₀ env.locals h m' → News h₀ env.locals h n' → Q .next { s with heap := h, toks := tk }) →
      ItemsRest prog w A E h₀ env target body Q s ws keep (enumItems i vs) m news
  | [], i, m, news, _, hJ, done => fun h tk F N => done m news h tk hJ F N
  | v :: r, i, m, news, hP, hJ, done => ItemsRest.pair fun T t h tk hT F => AllObj.mono (fun its hx N => wpAny_mono (hx N) (fun _ _ h1 => wpAny_mono h1 (fun _ _ h2 => UnrPostW.mono (fun m' n' hr =>
      ⟨hr.1, items_inv J P step r (i + 1) m' n' (fun u hu => hP u (List.mem_cons_of_mem _ hu)) hr.2 fun m'' n'' h'' tk'' hJ'' => done m'' n'' h'' tk'' (by rw [List.length_cons, ← Nat.add_assoc, Nat.add_right_comm]; exact hJ'')⟩) h2) fun _ _ e => e) fun _ _ e => e) ws
    (step i v m news T t h tk (hP v (List.mem_cons_self ..)) hJ hT F)
end

end
section
abbrev Sm (i : Nat) (a : Int) : Prop := 0 ≤ a ∧ a ≤ 6000 + 1000003 * (i : Int)
def SumJ (D sl : Addr) (oD : Obj) (m : Str → Option Value) (i : Nat) (m₁ : Str → Option Value) (news₁ : List (Addr × Obj)) : Prop :=
  ∃ (a0 a1 a2 a3 a4 a5 : Int) (t0 t1 t2 t3 t4 t5 : Tok) (c : Nat), news₁ = [(D, oD), (sl, W.listOf #[.int a0 t0, .int a1 t1, .int a2 t2, .int a3 t3, .int a4 t4, .int a5 t5] c)] ∧
    (Sm i a0 ∧ Sm i a1 ∧ Sm i a2 ∧ Sm i a3 ∧ Sm i a4 ∧ Sm i a5) ∧ ∃ u : Str → Option Value, m₁ = fun y => if [Str.ofString "place", Str.ofString "number"].contains y = true then u y else m y
theorem Sm.up {i : Nat} {a : Int} (h : Sm i a) : Sm (i + 1) a := ⟨h.1, by have := h.2; omega⟩
theorem ints_len {vs : List Value} {ns : List Int} (h : IntsAre vs ns) : vs.length = ns.length := by
  induction h with
  | nil => rfl
  | cons _ _ _ ih => simp [ih]
theorem Sm.cut {vs : List Value} {ns : List Int} {a : Int} (h : IntsAre vs (List.take 60 ns)) (s : Sm (0 + vs.length) a) : Sm 60 a := by
  have h1 := ints_len h
  have h2 : (List.take 60 ns).length ≤ 60 := by simp; omega
  exact ⟨s.1, by have := s.2; omega⟩
theorem Sm.add {i : Nat} {a n : Int} (h : Sm i a) : Sm (i + 1) (a + n.fmod 1000003) := by
  have h1 : 0 ≤ n.fmod 1000003 := Int.fmod_nonneg_of_pos n (by decide)
  have h2 : n.fmod 1000003 < 1000003 := Int.fmod_lt_of_pos n (by decide)
  exact ⟨by have := h.1; omega, by have := h.2; omega⟩
theorem SumJ.of {D sl : Addr} {oD : Obj} {m m' : Str → Option Value} {i : Nat} {a0 a1 a2 a3 a4 a5 : Int} {t0 t1 t2 t3 t4 t5 : Tok} {c : Nat} (hm : ∀ y, [Str.ofString "place", Str.ofString "number"].contains y = false → m' y = m y) (h : Sm i a0 ∧ Sm i a1 ∧ Sm i a2 ∧ Sm i a3 ∧ Sm i a4 ∧ Sm i a5) :
    SumJ D sl oD m i m' [(D, oD), (sl, W.listOf #[.int a0 t0, .int a1 t1, .int a2 t2, .int a3 t3, .int a4 t4, .int a5 t5] c)] :=
  ⟨a0, a1, a2, a3, a4, a5, t0, t1, t2, t3, t4, t5, c, rfl, h, m', by
    funext y
    cases hc : [Str.ofString "place", Str.ofString "number"].contains y with
    | true => simp
    | false => simp [hm y hc]⟩
theorem ints_mem {vs : List Value} {ns : List Int} (h : IntsAre vs ns) : ∀ v ∈ vs, ∃ k t, v = .int k t := by
  induction h with
  | nil => intro v hv; cases hv
  | cons n t _ ih =>
    intro v hv
    rcases List.mem_cons.mp hv with rfl | hv
    · exact ⟨_, _, rfl⟩
    · exact ih v hv
theorem six_cases (i : Nat) : (i : Int).fmod 6 = 0 ∨ (i : Int).fmod 6 = 1 ∨ (i : Int).fmod 6 = 2 ∨ (i : Int).fmod 6 = 3 ∨ (i : Int).fmod 6 = 4 ∨ (i : Int).fmod 6 = 5 := by
  rw [Int.fmod_eq_emod_of_nonneg _ (by decide)]; omega
theorem SumJ.start {D sl : Addr} {oD : Obj} {m : Str → Option Value} {t0 t1 t2 t3 t4 t5 : Tok} {c : Nat} : SumJ D sl oD m 0 m [(D, oD), (sl, W.listOf #[.int 1203 t0, .int 1526 t1, .int 4141 t2, .int 2791 t3, .int 1372 t4, .int 5566 t5] c)] :=
  SumJ.of (fun _ _ => rfl) (by decide)
section
variable {w : World} {mean : ExcName → Option Value} {mg mb : Str → Option Value} {dp un : Nat} {gd : Option (List Code)} {cn : Str} {cs : Scope} {a : Addr} {ccd : Value} {cl : List (Str × Addr)} {outer : List Env} {A₀ : Around} {base h₀ : Heap} {L : Addr} {m : Str → Option Value} {s : Shared} {Q E : Value → Shared → Prop}
set_option maxRecDepth 100000 in
set_option maxHeartbeats 8000000 in
theorem sums_spec (sc sl : Addr) (vs : List Value) (ns : List Int) (t0 t1 t2 t3 t4 t5 : Tok) (cw : Nat) (hsc : h₀.IsList sc vs.toArray) (hI : IntsAre vs ns) (hlen : ns.length ≤ 63)
    (B : Below A₀ base outer h₀) (F : Fr h₀ L s.heap m) (X : (hd.heap_39 w.params).In h₀) (N : News h₀ L s.heap [(sl, W.listOf #[.int 1203 t0, .int 1526 t1, .int 4141 t2, .int 2791 t3, .int 1372 t4, .int 5566 t5] cw)]) (T : Top topProg (looseW hd.view_39 [] ++ (recsOf hd.view_39).map (·.name) ++ (litsOf hd.view_39).map (·.1) ++ (clssOf hd.view_39 (looseW hd.view_39 [])).map (·.name)) mean mg mb h₀) (hk : cs.kind = .function)
    (hd : dp + 5 < recursionLimit) (hu : un + 50 < cLine)
    (ret : ∀ a0 a1 a2 a3 a4 a5 t0 t1 t2 t3 t4 t5 c h' tk', (Sm 60 a0 ∧ Sm 60 a1 ∧ Sm 60 a2 ∧ Sm 60 a3 ∧ Sm 60 a4 ∧ Sm 60 a5) → Fr h₀ L h' m → News h₀ L h' [(sl, W.listOf #[.int a0 t0, .int a1 t1, .int a2 t2, .int a3 t3, .int a4 t4, .int a5 t5] c)] → Kept [sl] s.heap h' → Q (.ref sl) { s with heap := h', toks := tk' }) :
    wpAny (model Challenge.rw_re0022_01.row.prog w) (ktrTop dp un gd cn cs L a ccd cl outer) (call (.ref 77) [.ref sc, .ref sl]) Q E s := by
  revert X; k_fill; intro X
  refine wpAny_call ?_
  k_with_none
  k_with "exec For Tuple Call cons nil" => (k_here; (rename Fr _ _ _ _ => lF'); (with_unfolding_all refine' For_turns lF' ?_; k_whole))
  k_dflt cell_enter
  have hsc' := hsc.at (fun o e => (‹Fr h₀ L _ m›).keep _ o e)
  k_steps
  refine ktu_enum (by rfl) (by k_asm) (by k_asm) (List.mem_cons_self ..) rfl rfl rfl ?_
  intro I' l1; (try k_lt l1)
  refine items_inv (SumJ _ sl _ _) (fun v => ∃ k t, v = .int k t) ?_ _ 0 _ _ (ints_mem (by assumption)) SumJ.start ?_
  · rintro i v m₁ news₁ T' t' h' tk' ⟨n, tn, rfl⟩ ⟨a0, a1, a2, a3, a4, a5, u0, u1, u2, u3, u4, u5, c, rfl, hb, u, rfl⟩ hT' F'
    ktu_objs
    k_steps
    rcases six_cases i with e | e | e | e | e | e
    all_goals (rw [e]; k_steps)
    all_goals refine SumJ.of (fun y hy => ?_) ?_
    all_goals first
      | (obtain ⟨h0, h1, h2, h3, h4, h5⟩ := hb; exact ⟨h0.add, h1.up, h2.up, h3.up, h4.up, h5.up⟩)
      | (obtain ⟨h0, h1, h2, h3, h4, h5⟩ := hb; exact ⟨h0.up, h1.add, h2.up, h3.up, h4.up, h5.up⟩)
      | (obtain ⟨h0, h1, h2, h3, h4, h5⟩ := hb; exact ⟨h0.up, h1.up, h2.add, h3.up, h4.up, h5.up⟩)
      | (obtain ⟨h0, h1, h2, h3, h4, h5⟩ := hb; exact ⟨h0.up, h1.up, h2.up, h3.add, h4.up, h5.up⟩)
      | (obtain ⟨h0, h1, h2, h3, h4, h5⟩ := hb; exact ⟨h0.up, h1.up, h2.up, h3.up, h4.add, h5.up⟩)
      | (obtain ⟨h0, h1, h2, h3, h4, h5⟩ := hb; exact ⟨h0.up, h1.up, h2.up, h3.up, h4.up, h5.add⟩)
      | (have n1 := ne_of_nc hy (z := Str.ofString "place") (by decide); have n2 := ne_of_nc hy (z := Str.ofString "number") (by decide); simp only [n1, n2, hy, if_false, Bool.false_eq_true])
  · rintro m' n' h' tk' ⟨a0, a1, a2, a3, a4, a5, u0, u1, u2, u3, u4, u5, c, rfl, hb, u, rfl⟩ F' N'
    have hw : ∀ {a : Int}, Sm (0 + _) a → Sm 60 a := fun h => Sm.cut (by assumption) h
    k_steps
    obtain ⟨h0, h1, h2, h3, h4, h5⟩ := hb
    exact ret _ _ _ _ _ _ u0 u1 u2 u3 u4 u5 c _ _ ⟨hw h0, hw h1, hw h2, hw h3, hw h4, hw h5⟩ (by assumption) (fun q hq => ‹News h₀ L _ _› q (by rw [List.mem_singleton.mp hq]; simp)) (by assumption)
end

end
section
theorem empty_cps : (Str.ofString "").cps = #[] := by decide +kernel
theorem lit_empty : Str.ofString "" = Str.empty := by decide +kernel
theorem join_e (l : List Str) : (Txt.join (Str.ofString "") l).cps.toList = (l.map fun y => y.cps.toList).flatten := by
  have e : Txt.join (Str.ofString "") l = Str.join (Str.ofString "") l := StrLaws.glued_eq_join _ _
  rw [e]
  clear e
  induction l with
  | nil => rfl
  | cons a r ih =>
    cases r with
    | nil => simp [Str.join]
    | cons b q =>
      rw [show Str.join (Str.ofString "") (a :: b :: q) = a ++ Str.ofString "" ++ Str.join (Str.ofString "") (b :: q) from rfl, Str.cps_append, Str.cps_append, empty_cps]
      simp only [List.map_cons, List.flatten_cons] at ih ⊢
      simp [ih]
theorem escG_codes (c : Nat) : (escG c).cps.toList = if c = 34 ∨ c = 92 then [92, c] else [c] := by
  unfold escG
  split
  · rw [Str.cps_append, lit_bs]; rfl
  · rfl
theorem bkG_codes (c : Nat) : (bkG c).cps.toList = [92, c] := by
  unfold bkG
  rw [Str.cps_append, lit_bs]; rfl
theorem esc_flat : ∀ l : List Nat, ((l.map escG).map fun y => y.cps.toList).flatten = escL l
  | [] => rfl
  | c :: r => by
    rw [List.map_cons, List.map_cons, List.flatten_cons, esc_flat r, escG_codes, escL]
    split <;> rfl
theorem bk_flat : ∀ l : List Nat, ((l.map bkG).map fun y => y.cps.toList).flatten = bkL l
  | [] => rfl
  | c :: r => by
    rw [List.map_cons, List.map_cons, List.flatten_cons, bk_flat r, bkG_codes, bkL]
    rfl
def codesW (x : Str) (i : Int) : List Nat := (writtenF x i).cps.toList
theorem ws_item (i : Int) : ∃ e, (Txt.item (Str.ofString "\n\t\r ") (i.fmod 4)).cps.toList = [e] ∧ Ws e := by
  have h0 := Int.fmod_nonneg_of_pos i (b := 4) (by omega)
  have h1 := Int.fmod_lt_of_pos i (b := 4) (by omega)
  have h : i.fmod 4 = 0 ∨ i.fmod 4 = 1 ∨ i.fmod 4 = 2 ∨ i.fmod 4 = 3 := by omega
  rcases h with h | h | h | h <;> rw [h]
  · exact ⟨10, by decide +kernel, by unfold Ws; omega⟩
  · exact ⟨9, by decide +kernel, by unfold Ws; omega⟩
  · exact ⟨13, by decide +kernel, by unfold Ws; omega⟩
  · exact ⟨32, by decide +kernel, by unfold Ws; omega⟩
theorem codes_cases (x : Str) (i : Int) : codesW x i = 34 :: (escL x.cps.toList ++ [34]) ∨ ∃ b r e, x.cps.toList = b :: r ∧ Ws e ∧ codesW x i = 92 :: b :: (bkL r ++ [e]) := by
  unfold codesW writtenF
  by_cases h : i.fmod 2 = 0 ∨ x = Str.ofString ""
  · left
    rw [if_pos h, quotedF, Str.cps_append, Str.cps_append, Array.toList_append, Array.toList_append, join_e, esc_flat, lit_q]
    rfl
  · right
    rw [if_neg h, bareW, Str.cps_append, Array.toList_append, join_e, bk_flat]
    obtain ⟨e, he, hw⟩ := ws_item (i.fdiv 2)
    rw [he]
    cases hx : x.cps.toList with
    | nil =>
      exfalso
      apply h; right
      refine Str.ext' ?_
      rw [empty_cps]
      exact Array.toList_inj.mp hx
    | cons b r => exact ⟨b, r, e, rfl, hw, rfl⟩
theorem nl_q (l : List Nat) : nl (34 :: (escL l ++ [34])) = nl (escL l) := by
  rw [nl, nl_app]
  simp [nl]
theorem nl_b (l : List Nat) : nl (92 :: l) = nl l := by simp [nl]
theorem nl_flat : ∀ l : List (List Nat), nl l.flatten = (l.map nl).sum
  | [] => rfl
  | a :: r => by rw [List.flatten_cons, nl_app, nl_flat r]; rfl
theorem count_nl (x : Str) : Txt.count x (Str.ofString "\n") = nl x.cps.toList := by
  rw [lit_nl, count_cnt]
  generalize x.cps.toList = l
  induction l with
  | nil => rfl
  | cons a r ih => rw [cnt_cons, ih, nl]
theorem word_len (n : Int) : (wordF n).length ≤ 3 := by
  unfold wordF
  have e : Txt.join (Str.ofString "") (wordL n) = Str.join (Str.ofString "") (wordL n) := StrLaws.glued_eq_join _ _
  rw [e]
  have h3 := StrLaws.join_length_le (Str.ofString "") (wordL n)
  have h0 : (Str.ofString "").length = 0 := by decide
  rw [h0, Nat.mul_zero] at h3
  unfold wordL at h3 ⊢
  rw [ones_sum _ (signG_len n), rangeKs_length] at h3
  have := Int.fmod_lt_of_pos n (b := 4) (by omega)
  omega
theorem esc_l2 : ∀ l : List Nat, (escL l).length ≤ 2 * l.length
  | [] => Nat.le_refl _
  | c :: r => by
    rw [escL]
    have := esc_l2 r
    split <;> simp only [List.length_cons] <;> omega
theorem bk_l2 : ∀ l : List Nat, (bkL l).length = 2 * l.length
  | [] => rfl
  | c :: r => by
    rw [bkL]
    have := bk_l2 r
    simp only [List.length_cons]; omega
theorem len_cps (x : Str) : x.length = x.cps.toList.length := by simp [Str.length]
theorem written_len (x : Str) (i : Int) : (writtenF x i).length ≤ 2 * x.length + 2 := by
  rw [len_cps, len_cps x]
  rcases codes_cases x i with h | ⟨b, r, e, hx, _, h⟩
  · rw [show (writtenF x i).cps.toList = _ from h]
    have := esc_l2 x.cps.toList
    simp only [List.length_cons, List.length_append, List.length_nil]; omega
  · rw [show (writtenF x i).cps.toList = _ from h, hx]
    have := bk_l2 r
    simp only [List.length_cons, List.length_append, List.length_nil]; omega

/-- what is joined at the end -/
theorem join_dot (l : List Str) : Txt.join (Str.ofString ".") l = Str.join (Str.ofString ".") l := StrLaws.glued_eq_join _ _
theorem run_turned (xs : List Str) (h2 : 2 ≤ xs.length) (h6 : xs.length ≤ 6) : runQ (xs.length - 1) xs = [Txt.join (Str.ofString ".") (turnL xs)] := by
  rw [join_dot]
  match xs, h2, h6 with
  | [a, b], _, _ => rfl
  | [a, b, c], _, _ => rfl
  | [a, b, c, d], _, _ =>
    show [(a ++ Str.ofString "." ++ b) ++ Str.ofString "." ++ (c ++ Str.ofString "." ++ d)] = [a ++ Str.ofString "." ++ (b ++ Str.ofString "." ++ (c ++ Str.ofString "." ++ d))]
    simp only [Str.append_assoc]
  | [a, b, c, d, e], _, _ =>
    show [(c ++ Str.ofString "." ++ d) ++ Str.ofString "." ++ (e ++ Str.ofString "." ++ (a ++ Str.ofString "." ++ b))] = [c ++ Str.ofString "." ++ (d ++ Str.ofString "." ++ (e ++ Str.ofString "." ++ (a ++ Str.ofString "." ++ b)))]
    simp only [Str.append_assoc]
  | [a, b, c, d, e, f], _, _ =>
    show [(e ++ Str.ofString "." ++ f) ++ Str.ofString "." ++ ((a ++ Str.ofString "." ++ b) ++ Str.ofString "." ++ (c ++ Str.ofString "." ++ d))] = [e ++ Str.ofString "." ++ (f ++ Str.ofString "." ++ (a ++ Str.ofString "." ++ (b ++ Str.ofString "." ++ (c ++ Str.ofString "." ++ d))))]
    simp only [Str.append_assoc]
def chosenL (ys : List Str) : List Str := ys.filter stopsF ++ ys.drop (ys.length - 1)
theorem chosen_cons (a b : Str) (r : List Str) : chosenL (a :: b :: r) = (if stopsF a = true then [a] else []) ++ chosenL (b :: r) := by
  unfold chosenL
  rw [List.filter_cons]
  have e : (a :: b :: r).drop ((a :: b :: r).length - 1) = (b :: r).drop ((b :: r).length - 1) := by
    simp only [List.length_cons, Nat.add_sub_cancel]
    rfl
  rw [e]
  split <;> simp
theorem bare_chosen : ∀ ys : List Str, ys ≠ [] → ∃ z r, chosenL ys = z :: r ∧ bareF (Str.join (Str.ofString ".") ys) = bareF z
  | [], h => absurd rfl h
  | [a], _ => by
    unfold chosenL
    rw [List.filter_cons]
    split
    · exact ⟨a, [a], rfl, rfl⟩
    · exact ⟨a, [], rfl, rfl⟩
  | a :: b :: r, _ => by
    obtain ⟨z, q, hz, hb⟩ := bare_chosen (b :: r) (by simp)
    rw [chosen_cons, show Str.join (Str.ofString ".") (a :: b :: r) = a ++ Str.ofString "." ++ Str.join (Str.ofString ".") (b :: r) from rfl, bare_join]
    split
    · exact ⟨a, _, rfl, rfl⟩
    · exact ⟨z, q, hz, hb⟩
theorem turn_len {α : Type} (l : List α) : (turnL l).length = l.length := by
  unfold turnL
  simp only [List.length_append, List.length_drop, List.length_take]
  omega
theorem strs_turn {vs : List Value} {xs : List Str} (h : StrsAre vs xs) : StrsAre (turnL vs) (turnL xs) := by
  unfold turnL
  rw [h.length]
  exact (h.drop' _).append' (h.take' _)

end
section
open PyProof.Rows.LCg
section
variable {prog : Program} {w : World} {A : Around} {E : Value → Shared → Prop} {s : Shared} {h₀ : Heap} {L : Addr} {m : Str → Option Value} {env : Env}
/-- a comprehension over pairs whose element keeps all objects -/
theorem pair_block {elt iter : Expr} {x y : Str} {px py tp : Pos} {kk : Nat} {scope : Scope} {cl : List (Str × Addr)} {pos : Pos} {s₂ : Shared} {hb : Heap} {I : Addr} {fp wr : List Addr} {n : Nat} {Pt : Nat → Array Value → Prop} {St : Nat → Heap → Prop} {Mid : Nat → Addr → Heap → Prop} {R : Nat → Value → Prop}
    {RR : Value → Addr → Result → Shared → Prop} (hh : A.handled = none)
    (W : WalksU prog w A I fp wr n Pt St Mid) (hsz : n ≤ sizeLine) (hst : St 0 s₂.heap) (hfp : ∀ b ∈ fp, b < s₂.heap.objs.size) (hwr : ∀ b ∈ wr, hb.get? b = none) (hk₂ : ∀ b o, hb.get? b = some o → s₂.heap.get? b = some o)
    (hcell : ∀ z ∈ scope.names, z.2 ≠ .cell) (hkind : scope.kind = .function) (hx : scope.names.lookup x = some .local) (hy : scope.names.lookup y = some .local) (hxy : ¬ x = y)
    (F : Fr h₀ L hb m)
    (turn : ∀ i vals, i < n → Pt i vals → ∃ v1 v2, vals = #[v1, v2] ∧ ∀ C oC m₂ h tk (E' : Value → Shared → Prop), NsObj oC m₂ → m₂ x = some v1 → m₂ y = some v2 → Fr h₀ L h m → News h₀ L h [(C, oC)] →
      wpAny (model prog w) A (eval elt (compEnvC scope cl C env)) (fun r s' => ∃ h' tk', s' = { s₂ with heap := h', toks := tk' } ∧ Kept [] h h' ∧ R i r) E' { s₂ with heap := h, toks := tk })
    (hRR : ∀ D C h tk m' ys, h.Ns C m' → hb.get? C = none → hb.get? D = none → C ≠ D → h.get? D = some (lst ys) → ys.length = n → (∀ (i : Nat) (v : Value), ys[i]? = some v → R i v) → (∀ b o, hb.get? b = some o → h.get? b = some o) → RR (.ref D) C (.ok .next) { s₂ with heap := h, toks := tk }) :
    wpAny (model prog w) A (newList []) (fun acc s₃ => wpAny (model prog w) A (newFunctionEnv scope env.globals cl [] env.qual none .none (some env)) (fun cenv s₄ =>
      codeAny (model prog w) A (.compStart (.ListComp elt [⟨.Tuple [.Name x px, .Name y py] kk tp, iter, [], 0⟩] scope pos) 0 (.ref I) acc { cenv with scope := relabel scope env }) (RR acc cenv.locals) s₄) E s₃) E s₂ := by
  refine wpAny_newObj_type (wpAny_newFunctionEnv hcell (by intro y hy; simp at hy) (fun h₁ hns₁ hsb₁ => ?_) hkind)
  dsimp only at hns₁ hsb₁ ⊢
  generalize hH2 : s₂.heap.push { cls := .type "list", dict := none, data := .seq ([] : List Value).toArray } = H2 at hns₁ hsb₁ ⊢
  have hC : H2.objs.size = s₂.heap.objs.size + 1 := by rw [← hH2, Heap.size_push]
  have hCD : H2.objs.size ≠ s₂.heap.objs.size := by rw [hC]; exact Nat.ne_of_gt (Nat.lt_succ_self _)
  have old : ∀ b o, s₂.heap.get? b = some o → h₁.get? b = some o := fun b o e => by
    have hl := Heap.lt_size e
    exact hsb₁.extBut b o (by rw [hC]; exact Nat.ne_of_lt (Nat.lt_succ_of_lt hl)) (Heap.get?_push_of_some _ (hH2 ▸ Heap.get?_push_of_some _ e))
  have hacc : h₁.get? s₂.heap.objs.size = some (lst []) := hsb₁.extBut _ _ (Ne.symm hCD) (Heap.get?_push_of_some _ (hH2 ▸ Heap.get?_push_size _ rfl))
  have nf : ∀ b, s₂.heap.objs.size ≤ b → b ∉ fp ∧ b ∉ wr ∧ hb.get? b = none ∧ b ≠ L ∧ h₀.get? b = none := fun b hle => by
    have h3 : hb.get? b = none := by
      cases e : hb.get? b with
      | none => rfl
      | some o => exact absurd (Heap.lt_size (hk₂ b o e)) (Nat.not_lt.mpr hle)
    refine ⟨fun hm => absurd (hfp b hm) (Nat.not_lt.mpr hle), fun hm => absurd (hfp b (W.sub b hm)) (Nat.not_lt.mpr hle), h3, fun e => ?_, ?_⟩
    · obtain ⟨o, _, _, e2, _⟩ := F.ns
      rw [← e, h3] at e2; cases e2
    · cases e : h₀.get? b with
      | none => rfl
      | some o => have := F.keep b o e; rw [h3] at this; cases this
  obtain ⟨hDf, hDw, hDb, hDL, hD₀⟩ := nf s₂.heap.objs.size (Nat.le_refl _)
  obtain ⟨hCf, hCw, hCb, hCL, hC₀⟩ := nf H2.objs.size (by rw [hC]; exact Nat.le_succ _)
  have hst₁ : St 0 h₁ := W.frame _ _ _ hst fun b _ o e => old b o e
  have frm : ∀ h : Heap, (∀ b o, hb.get? b = some o → h.get? b = some o) → Fr h₀ L h m := fun h hk => F.keeps hk
  have loop : ∀ s₃ : Shared, s₃ = { s₂ with heap := h₁, toks := s₂.toks + ([] : List (Str × Value)).length } →
      codeAny (model prog w) A (.compLoop (.ListComp elt [⟨.Tuple [.Name x px, .Name y py] kk tp, iter, [], 0⟩] scope pos) 0 (.ref I) (.ref s₂.heap.objs.size) (compEnvC scope cl H2.objs.size env))
        (RR (.ref s₂.heap.objs.size) H2.objs.size) s₃ := by
    rintro s₃ rfl
    refine LCp.codeAny_compLoop_pair
      (fun k s' => ∃ h' tk i ys m', s' = { s₂ with heap := h', toks := tk } ∧ i ≤ n ∧ k = n + 1 - i ∧ ys.length = i ∧ St i h' ∧ h'.Ns H2.objs.size m' ∧ h'.get? s₂.heap.objs.size = some (lst ys) ∧
        (∀ (i : Nat) (v : Value), ys[i]? = some v → R i v) ∧ ∀ b o, hb.get? b = some o → h'.get? b = some o) ?_ (n + 1)
      ⟨h₁, _, 0, [], _, rfl, Nat.zero_le _, rfl, rfl, hst₁, hns₁, hacc, (fun i v e => by simp at e), fun b o e => old b o (hk₂ b o e)⟩
    rintro k s' ⟨h', tk, i, ys, m', rfl, hi, rfl, hyl, hst', hn', hD', hR', hb'⟩
    by_cases hlt : i < n
    · refine W.item i _ _ _ hlt hst' fun T vals h₂ tk₂ hP hT hm hk => ?_
      refine W.go _ _ _ i T _ _ _ hm fun h₃ hst₃ hk₃ => ?_
      obtain ⟨v1, v2, rfl, tr⟩ := turn i vals hlt hP
      have up₃ : ∀ c o, c ∉ wr → h'.get? c = some o → h₃.get? c = some o := fun c o hc e => hk₃ c o hc (hk c o hc e)
      have hT₃ : h₃.IsTuple T #[v1, v2] := hT.at fun o e => hk₃ T o (W.apart i T _ hm) e
      refine PySem.W.kcp_assign (env := compEnvC scope cl H2.objs.size env) hh hT₃ (lookup_relabel_local hx) (lookup_relabel_local hy) (by simp [compEnvC, relabel, hkind]) (hn'.at' fun o e => up₃ _ o hCw e) fun h₄ tk₄ hn₄ hs₄ => ?_
      have hb₄ : ∀ b o, hb.get? b = some o → h₄.get? b = some o := fun b o e =>
        hs₄ b o (fun q => by rw [show b = H2.objs.size from q, hCb] at e; cases e) (up₃ b o (fun hm => by rw [hwr b hm] at e; cases e) (hb' b o e))
      have hst₄ : St (i + 1) h₄ := W.frame _ _ _ hst₃ fun b hm o e => hs₄ b o (fun q => hCf (by rw [← show b = H2.objs.size from q]; exact hm)) e
      have hD₄ : h₄.get? s₂.heap.objs.size = some (lst ys) := hs₄ _ _ (Ne.symm hCD) (up₃ _ _ hDw hD')
      obtain ⟨oC, heC, hoC⟩ := ns_obj hn₄
      refine wpAny_mono (tr H2.objs.size oC _ h₄ tk₄ _ hoC (by simp [hxy]) (by simp) (frm h₄ hb₄) (fun p hp => by rw [List.mem_singleton.mp hp]; exact ⟨heC, hCL, hC₀⟩)) (fun r s₅ h₅ => ?_) fun _ _ e => e
      obtain ⟨h₅, tk₅, rfl, kp, hr⟩ := h₅
      have k5 := kp.nil
      refine append_at (hsz := by show ys.toArray.size ≤ sizeLine; rw [List.size_toArray, hyl]; exact Nat.le_trans hi hsz) (k5 _ _ hD₄) fun h₆ hs₆ hD₆ => ?_
      refine ⟨n + 1 - (i + 1), by omega, h₆, tk₅, i + 1, ys ++ [r], _, rfl, hlt, rfl, by rw [List.length_append, List.length_singleton, hyl], W.frame _ _ _ hst₄ fun b hm o e => hs₆.extBut b o (fun q => hDf (by rw [← show b = s₂.heap.objs.size from q]; exact hm)) (k5 b o e),
        (hoC.ns (k5 _ _ heC)).sameBut hs₆ hCD, hD₆.trans (congrArg some (lst_snoc ys r)), fun j v e => ?_, fun b o e => hs₆.extBut b o (fun q => by rw [show b = s₂.heap.objs.size from q, hDb] at e; cases e) (k5 b o (hb₄ b o e))⟩
      by_cases hj : j < ys.length
      · rw [List.getElem?_append_left hj] at e; exact hR' j v e
      · rw [List.getElem?_append_right (by omega)] at e
        have hj0 : j - ys.length = 0 := by
          cases hq : j - ys.length with
          | zero => rfl
          | succ z => rw [hq] at e; simp at e
        rw [hj0] at e
        have : j = i := by omega
        subst this
        simp at e
        rw [← e]; exact hr
    · obtain rfl : i = n := Nat.le_antisymm hi (Nat.not_lt.mp hlt)
      refine W.done _ _ _ hst' fun h₂ tk₂ hk => ?_
      exact hRR _ _ h₂ tk₂ _ ys (hn'.at' fun o e => hk _ o hCw e) hCb hDb hCD (hk _ _ hDw hD') hyl hR' fun b o e => hk b o (fun hm => by rw [hwr b hm] at e; cases e) (hb' b o e)
  exact codeAny_compStart_list (loop _ rfl) (W.self 0 _ _ _ hst₁ (loop _ rfl))

/-- what the call of zip must bring -/
def ZipSrc (prog : Program) (w : World) (A : Around) (h₀ : Heap) (L : Addr) (m : Str → Option Value) (env : Env) (elt : Expr) (x y : Str) (scope : Scope) (cl : List (Str × Addr)) (Q : Value → Shared → Prop) (xv : Value) (s₁ : Shared) : Prop :=
  ∃ (I : Addr) (hb : Heap) (fp wr : List Addr) (n : Nat) (Pt : Nat → Array Value → Prop) (St : Nat → Heap → Prop) (Mid : Nat → Addr → Heap → Prop) (R : Nat → Value → Prop), xv = .ref I ∧ A.handled = none ∧ WalksU prog w A I fp wr n Pt St Mid ∧ n ≤ sizeLine ∧ St 0 s₁.heap ∧ (∀ b ∈ fp, b < s₁.heap.objs.size) ∧ (∀ b ∈ wr, hb.get? b = none) ∧
    (∀ b o, hb.get? b = some o → s₁.heap.get? b = some o) ∧ Fr h₀ L hb m ∧ (∀ (Q' : Value → Shared → Prop), Q' (.ref I) s₁ → wpAny (model prog w) A (pyIter (.ref I)) Q' (fun _ _ => False) s₁) ∧
    (∀ i vals, i < n → Pt i vals → ∃ v1 v2, vals = #[v1, v2] ∧ ∀ C oC m₂ h tk (E' : Value → Shared → Prop), NsObj oC m₂ → m₂ x = some v1 → m₂ y = some v2 → Fr h₀ L h m → News h₀ L h [(C, oC)] →
      wpAny (model prog w) A (eval elt (compEnvC scope cl C env)) (fun r s' => ∃ h' tk', s' = { s₁ with heap := h', toks := tk' } ∧ Kept [] h h' ∧ R i r) E' { s₁ with heap := h, toks := tk }) ∧
    ∀ D h tk ys, hb.get? D = none → h.get? D = some (lst ys) → ys.length = n → (∀ (i : Nat) (v : Value), ys[i]? = some v → R i v) → (∀ b o, hb.get? b = some o → h.get? b = some o) → Q (.ref D) { s₁ with heap := h, toks := tk }
theorem ListComp_Z {elt iter : Expr} {x y : Str} {px py tp : Pos} {kk : Nat} {scope : Scope} {cl : List (Str × Addr)} {pos : Pos} {Q : Value → Shared → Prop} 
    (hclos : closureFor scope env = pure cl) (hcell : ∀ z ∈ scope.names, z.2 ≠ .cell) (hkind : scope.kind = .function)
    (hnames : ∀ z ∈ scope.names, z.2 = .local → scope.names.lookup z.1 = some .local) (hx : scope.names.lookup x = some .local) (hy : scope.names.lookup y = some .local) (hxy : ¬ x = y)
    (h : wpAny (model prog w) A (eval iter env) (ZipSrc prog w A h₀ L m env elt x y scope cl Q) E s)
    (hs : ∀ x, foldedSetIterable iter env x = pure x := by intro _; rfl) :
    wpAny (model prog w) A (eval (.ListComp elt [⟨.Tuple [.Name x px, .Name y py] kk tp, iter, [], 0⟩] scope pos) env) Q E s := by
  rw [eval_ListComp]
  refine wpAny_comprehension_free (use := none) rfl hs hclos hkind hnames (wpAny_mono h (fun xv s₁ h₁ => ?_) fun _ _ e => e)
  obtain ⟨I, hb, fp, wr, n, Pt, St, Mid, R, rfl, hh, W, hsz, hst, hfp, hwr, hk₂, F, it, turn, fin⟩ := h₁
  refine wpAny_mono (it (fun it s₂ => it = .ref I ∧ s₂ = s₁) ⟨rfl, rfl⟩) (fun itv s₂ q => ?_) fun _ _ e => e.elim
  obtain ⟨rfl, rfl⟩ := q
  refine pair_block hh W hsz hst hfp hwr hk₂ hcell hkind hx hy hxy F turn ?_
  intro D C h tk m' ys hn hCb hDb hCD hD hyl hR hk
  refine ⟨m', hn, fun h'' hs'' => fin D h'' tk ys hDb (hs''.extBut _ _ (Ne.symm hCD) hD) hyl hR fun b o e => hs''.extBut b o (fun q => by rw [show b = C from q, hCb] at e; cases e) (hk b o e)⟩
theorem zip_src {elt : Expr} {x y : Str} {scope : Scope} {cl : List (Str × Addr)} {Q : Value → Shared → Prop} {l1 l2 : Addr} {xs ys : List Value} {n1 n2 : Nat} {news : List (Addr × Obj)} (R : Nat → Value → Prop) (hh : A.handled = none) (F : Fr h₀ L s.heap m) (N : News h₀ L s.heap news)
    (hm1 : (l1, W.listOf xs.toArray n1) ∈ news) (hm2 : (l2, W.listOf ys.toArray n2) ∈ news) (hsz : xs.length ≤ sizeLine)
    (turn : ∀ (i : Nat) (v1 v2 : Value) s₁, xs[i]? = some v1 → ys[i]? = some v2 → (∃ h, s₁ = { s with heap := h }) → ∀ C oC m₂ h tk (E' : Value → Shared → Prop), NsObj oC m₂ → m₂ x = some v1 → m₂ y = some v2 → Fr h₀ L h m → News h₀ L h [(C, oC)] →
      wpAny (model prog w) A (eval elt (compEnvC scope cl C env)) (fun r s' => ∃ h' tk', s' = { s₁ with heap := h', toks := tk' } ∧ Kept [] h h' ∧ R i r) E' { s₁ with heap := h, toks := tk })
    (fin : ∀ D h tk us, (∀ p ∈ news, p.1 ≠ D) → us.length = min xs.length ys.length → (∀ (i : Nat) (v : Value), us[i]? = some v → R i v) → Fr h₀ L h m → News h₀ L h ((D, lst us) :: news) → Q (.ref D) { s with heap := h, toks := tk }) :
    wpAny (model prog w) A (call (.type "zip") [.ref l1, .ref l2]) (ZipSrc prog w A h₀ L m env elt x y scope cl Q) E s := by
  have hax1 := N _ hm1
  have hax2 := N _ hm2
  have hl1 : s.heap.IsList l1 xs.toArray := ⟨_, hax1.1, rfl, n1, rfl⟩
  have hl2 : s.heap.IsList l2 ys.toArray := ⟨_, hax2.1, rfl, n2, rfl⟩
  have hlt1 : l1 < s.heap.objs.size := Heap.lt_size hax1.1
  have hlt2 : l2 < s.heap.objs.size := Heap.lt_size hax2.1
  refine call_zip_2 hl1 hl2 fun h' hz hTI hTO hi1 hi2 hsz' hk => ?_
  have lt : ∀ k : Nat, k < 5 → s.heap.objs.size + k < h'.objs.size := fun k hk => by rw [hsz']; exact Nat.add_lt_add_left hk _
  have nn : ∀ b, s.heap.objs.size ≤ b → s.heap.get? b = none := fun b hle => by
    cases e : s.heap.get? b with
    | none => rfl
    | some o => exact absurd (Heap.lt_size e) (Nat.not_lt.mpr hle)
  refine ⟨_, s.heap, _, _, _, _, _, _, R, rfl, hh, (WalksT.zip2 hh _ _ _ _ _ _ _ (ktu_apart s.heap.objs.size l1 l2 hlt1 hlt2) xs.toArray ys.toArray).toU, ?_, ⟨hz, hTI, ⟨_, _, hTO⟩, hi1, hi2, hl1.at fun o e => hk l1 o e, hl2.at fun o e => hk l2 o e⟩, ?_, ?_, hk, F, fun Q' q => wpAny_pyIter_zip hz q, ?_, ?_⟩
  · refine Nat.le_trans (Nat.min_le_left _ _) (by simpa using hsz)
  · intro b hb
    have hb' : b = s.heap.objs.size + 4 ∨ b = s.heap.objs.size + 2 ∨ b = s.heap.objs.size + 3 ∨ b = s.heap.objs.size ∨ b = s.heap.objs.size + 1 ∨ b = l1 ∨ b = l2 := by simpa using hb
    have l0 := lt 0 (by decide)
    have l1' := lt 1 (by decide)
    have l2' := lt 2 (by decide)
    have l3' := lt 3 (by decide)
    have l4' := lt 4 (by decide)
    rcases hb' with rfl | rfl | rfl | rfl | rfl | rfl | rfl
    · exact l4'
    · exact l2'
    · exact l3'
    · exact l0
    · exact l1'
    · exact Nat.lt_trans hlt1 l0
    · exact Nat.lt_trans hlt2 l0
  · intro b hb
    have hb' : b = s.heap.objs.size + 4 ∨ b = s.heap.objs.size + 3 ∨ b = s.heap.objs.size ∨ b = s.heap.objs.size + 1 := by simpa using hb
    rcases hb' with rfl | rfl | rfl | rfl
    · exact nn _ (Nat.le_add_right _ _)
    · exact nn _ (Nat.le_add_right _ _)
    · exact nn _ (Nat.le_refl _)
    · exact nn _ (Nat.le_add_right _ _)
  · rintro i vals _ ⟨v1, v2, h1, h2, rfl⟩
    exact ⟨v1, v2, rfl, turn i v1 v2 _ (by simpa using h1) (by simpa using h2) ⟨_, rfl⟩⟩
  · intro D h tk us hDn hD hlen hR hk'
    have hDL : D ≠ L := fun e => by
      obtain ⟨o, _, _, e2, _⟩ := F.ns
      rw [← e, hDn] at e2; cases e2
    have hD₀ : h₀.get? D = none := by
      cases e : h₀.get? D with
      | none => rfl
      | some o => have := F.keep D o e; rw [hDn] at this; cases this
    refine fin D h tk us (fun p hp e => by have := (N p hp).1; rw [e, hDn] at this; cases this) (by simpa using hlen) hR (F.keeps hk') fun p hp => ?_
    rcases List.mem_cons.mp hp with rfl | hp
    · exact ⟨hD, hDL, hD₀⟩
    · exact ⟨hk' _ _ (N p hp).1, (N p hp).2⟩
end

end
section
theorem tx_depth : ∀ xs : List Str, PyData.depthAll (xs.map PyData.str) = 0
  | [] => rfl
  | _ :: r => by simp [PyData.depthAll, PyData.depth, tx_depth r]
theorem tx_shaped {xs : List Str} (h : xs.all PyData.strOk = true) : SeqAt.shaped (.list (xs.map PyData.str)) = true := by
  rw [← canLayAll_strs'] at h
  simp [SeqAt.shaped, PyData.canLay0, PyData.depth, h, tx_depth]
theorem ok_sign (n k : Int) : PyData.strOk (signG n k) = true := by
  unfold signG
  generalize (n.fdiv 4).fdiv (7 ^ k.toNat) = j
  have h0 := Int.fmod_nonneg_of_pos j (b := 7) (by omega)
  have h1 := Int.fmod_lt_of_pos j (b := 7) (by omega)
  have h : j.fmod 7 = 0 ∨ j.fmod 7 = 1 ∨ j.fmod 7 = 2 ∨ j.fmod 7 = 3 ∨ j.fmod 7 = 4 ∨ j.fmod 7 = 5 ∨ j.fmod 7 = 6 := by omega
  rcases h with h | h | h | h | h | h | h <;> rw [h] <;> decide +kernel
theorem ok_all {x : Str} : PyData.strOk x = x.cps.toList.all (· < 0x110000) := by
  unfold PyData.strOk
  rw [Array.all_toList]
theorem ok_word (n : Int) : PyData.strOk (wordF n) = true := by
  unfold wordF wordL
  rw [ok_all, join_e]
  induction rangeKs 0 (n.fmod 4 - 0).toNat with
  | nil => rfl
  | cons k r ih =>
    rw [List.map_cons, List.map_cons, List.flatten_cons, List.all_append, ih, ← ok_all, ok_sign]
    rfl
theorem ok_words (ks : List Int) : (ks.map wordF ++ [Str.ofString ""]).all PyData.strOk = true := by
  rw [List.all_append]
  have h : (ks.map wordF).all PyData.strOk = true := by
    rw [List.all_map]
    induction ks with
    | nil => rfl
    | cons k r ih => rw [List.all_cons, ih]; simp [ok_word]
  rw [h]
  decide +kernel
theorem tx_same : ∀ xs : List Str, PySem.Spec.sameAll (xs.map PyData.str) (xs.map PyData.str) = true
  | [] => by simp [PySem.Spec.sameAll]
  | x :: r => by simp [PySem.Spec.sameAll, PySem.Spec.same, tx_same r]
section
variable {prog : Program} {w : World} {A : Around} {E : Value → Shared → Prop} {s : Shared} {h₀ : Heap} {L : Addr} {m : Str → Option Value} {news : List (Addr × Obj)} {Q : Value → Shared → Prop}
/-- two lists of the same texts are not unequal -/
theorem ne_texts {a b : Addr} {vs us : List Value} {xs : List Str} {n1 n2 : Nat} (N : News h₀ L s.heap news) (ha : (a, W.listOf vs.toArray n1) ∈ news) (hb : (b, W.listOf us.toArray n2) ∈ news) (hi : StrsAre vs xs) (hj : StrsAre us xs) (hok : xs.all PyData.strOk = true) (hu : A.units + 64 < cLine) (h : Q (.bool false) s) :
    wpAny (model prog w) A (compareOp .NotEq (.ref a) (.ref b)) Q E s := by
  have la : s.heap.IsList a vs.toArray := ⟨_, (N _ ha).1, rfl, _, rfl⟩
  have lb : s.heap.IsList b us.toArray := ⟨_, (N _ hb).1, rfl, _, rfl⟩
  refine ne_dataH_same (reads_newData la hi.carried) (reads_newData lb hj.carried) (tx_shaped hok) (tx_shaped hok) hu (SeqAt.noMix_of_shape (.list .str) rfl _ _ (list_map_has fun _ => rfl) (list_map_has fun _ => rfl)) ?_
  rw [show PySem.Spec.same (.list (xs.map PyData.str)) (.list (xs.map PyData.str)) = true by simp only [PySem.Spec.same]; exact tx_same xs]
  exact h
/-- the last of a list -/
theorem last_led {value slice : Expr} {a : Addr} {vs : List Value} {n1 : Nat} {u : Tok} (F : Fr h₀ L s.heap m) (N : News h₀ L s.heap news) (ha : (a, W.listOf vs.toArray n1) ∈ news) (h1 : 1 ≤ vs.length) (hz : vs.length ≤ sizeLine)
    (h : ∀ D h', Fr h₀ L h' m → News h₀ L h' ((D, W.listOf (vs.drop (vs.length - 1)).toArray 0) :: news) → (∀ p ∈ news, p.1 < D) → Q (.ref D) { s with heap := h' })
    (hs : subscripted slice false (.ref a) (.ref s.heap.objs.size) = operate [.ref s.heap.objs.size, .ref a] (getItem (.ref a) (.ref s.heap.objs.size))) (ht : ∀ r, letTemporaryGo value (.ref a) r = pure ()) :
    wpAny (model prog w) A (subscriptTail value slice (.ref a) (.ref s.heap.objs.size)) Q E { s with heap := s.heap.push { cls := .type "slice", data := .fields #[.int (-1) u, .none, .none] } } := by
  have la : s.heap.IsList a vs.toArray := ⟨_, (N _ ha).1, rfl, _, rfl⟩
  refine kmk_slice F N la (lo := some (-1)) (hi := none) (IsPart.int _ _) IsPart.none (fun D h' F' N' l1 => h D h' F' ?_ l1) hs ht (by simpa using hz)
  have e : sliceBounds (some (-1)) none none vs.toArray.size = (((vs.length - 1 : Nat) : Int), ((vs.length : Nat) : Int), 1) := by
    simp only [sliceBounds, Option.getD_none, show (1 : Int) > 0 by decide, if_true, List.size_toArray]
    simp
    omega
  rw [kmk_pick_nat _ e] at N'
  have e2 : (vs.toArray.toList.drop (vs.length - 1)).take (vs.length - (vs.length - 1)) = vs.drop (vs.length - 1) := by
    rw [List.take_of_length_le (by simp)]
  rw [e2] at N'
  exact N'
/-- the first item of a list -/
theorem head_led {value slice : Expr} {a : Addr} {v : Value} {vs : List Value} {n1 : Nat} {u : Tok} (N : News h₀ L s.heap news) (ha : (a, W.listOf (v :: vs).toArray n1) ∈ news) (h : Q v s)
    (hs : subscripted slice false (.ref a) (.int 0 u) = operate [.ref a, .int 0 u] (getItem (.ref a) (.int 0 u)) := by with_unfolding_all rfl) :
    wpAny (model prog w) A (subscriptTail value slice (.ref a) (.int 0 u)) Q E s := by
  have la : s.heap.IsList a (v :: vs).toArray := ⟨_, (N _ ha).1, rfl, _, rfl⟩
  exact tail_any la.typeIs slot_list_getitem.lookup (wpAny_getItem_list la (by decide) (by decide) (by simp) h) hs
end

end
section
theorem off_below {w : World} {l : Lex} {ex : List (Addr × Obj)} (hl : l.Ok w) (h : ∀ p ∈ ex, @LT.lt Nat _ p.1 l.ce) : ∀ p ∈ ex, p.1 ∉ l.adr := by
  have ho := hl.order
  intro p hp
  have hq := h p hp
  simp only [Lex.adr, List.mem_cons, List.not_mem_nil, or_false, not_or]
  refine ⟨?_, ?_, ?_, ?_, ?_, ?_, ?_, ?_, ?_⟩ <;> (refine neN ?_; omega)
theorem kept_get {h₀ h h' : Heap} {L : Addr} {news led' : List (Addr × Obj)} (N : News h₀ L h news) (N' : News h₀ L h' led') {as : List Addr} (K : Kept as h h') (hs : ∀ a ∈ as, ∃ o, (a, o) ∈ news ∧ (a, o) ∈ led') : News h₀ L h' news := by
  intro p hp
  refine ⟨?_, (N p hp).2⟩
  by_cases hm : p.1 ∈ as
  · obtain ⟨o, h1, h2⟩ := hs _ hm
    have e1 := (N _ h1).1
    have e2 := (N p hp).1
    have e3 : p.2 = o := Option.some.inj (e2.symm.trans e1)
    rw [e3]
    exact (N' _ h2).1
  · exact K _ _ (N p hp).1 hm
theorem signs_ones (x : Str) : signs x = ones x.cps.toList := rfl
section
variable {w : World} {mean : ExcName → Option Value} {mg mb : Str → Option Value} {dp un : Nat} {gd : Option (List Code)} {cn : Str} {cs : Scope} {a : Addr} {ccd : Value} {cl : List (Str × Addr)} {outer : List Env} {A₀ : Around} {base h₀ : Heap} {L : Addr} {m : Str → Option Value} {s : Shared} {Q E : Value → Shared → Prop}
variable {news : List (Addr × Obj)}
theorem sums_ex (rest : List (Addr × Obj)) {sc sl : Addr} {vs : List Value} {ns : List Int} {t0 t1 t2 t3 t4 t5 : Tok} {cw : Nat} (hsc : h₀.IsList sc vs.toArray) (hI : IntsAre vs ns) (hlen : ns.length ≤ 63)
    (B : Below A₀ base outer h₀) (F : Fr h₀ L s.heap m) (X : (hd.heap_39 w.params).In h₀) (N : News h₀ L s.heap ((sl, W.listOf #[.int 1203 t0, .int 1526 t1, .int 4141 t2, .int 2791 t3, .int 1372 t4, .int 5566 t5] cw) :: rest)) (off : ∀ p ∈ rest, p.1 ≠ sl) (T : Top topProg (looseW hd.view_39 [] ++ (recsOf hd.view_39).map (·.name) ++ (litsOf hd.view_39).map (·.1) ++ (clssOf hd.view_39 (looseW hd.view_39 [])).map (·.name)) mean mg mb h₀) (hk : cs.kind = .function)
    (hd : dp + 5 < recursionLimit) (hu : un + 50 < cLine)
    (ret : ∀ a0 a1 a2 a3 a4 a5 t0 t1 t2 t3 t4 t5 c h' tk', ((0 ≤ a0 ∧ a0 ≤ 60006180) ∧ (0 ≤ a1 ∧ a1 ≤ 60006180) ∧ (0 ≤ a2 ∧ a2 ≤ 60006180) ∧ (0 ≤ a3 ∧ a3 ≤ 60006180) ∧ (0 ≤ a4 ∧ a4 ≤ 60006180) ∧ (0 ≤ a5 ∧ a5 ≤ 60006180)) → Fr h₀ L h' m →
      News h₀ L h' ((sl, W.listOf #[.int a0 t0, .int a1 t1, .int a2 t2, .int a3 t3, .int a4 t4, .int a5 t5] c) :: rest) → Q (.ref sl) { s with heap := h', toks := tk' }) :
    wpAny (model Challenge.rw_re0022_01.row.prog w) (ktrTop dp un gd cn cs L a ccd cl outer) (call (.ref 77) [.ref sc, .ref sl]) Q E s :=
  sums_spec sc sl vs ns t0 t1 t2 t3 t4 t5 cw hsc hI hlen B F X (fun p hp => by rw [List.mem_singleton.mp hp]; exact N _ (List.mem_cons_self ..)) T hk hd hu
    fun a0 a1 a2 a3 a4 a5 t0 t1 t2 t3 t4 t5 c h' tk' hb F' N' K' => ret a0 a1 a2 a3 a4 a5 t0 t1 t2 t3 t4 t5 c h' tk' (by simp only [Sm] at hb; omega) F' fun p hp => by
      rcases List.mem_cons.mp hp with rfl | hp
      · exact N' _ (List.mem_cons_self ..)
      · have z := N p (List.mem_cons_of_mem _ hp)
        exact ⟨K' _ _ z.1 (by simpa using off p hp), z.2⟩
theorem word_led (x : Int) (t : Tok) (B : Below A₀ base outer h₀) (F : Fr h₀ L s.heap m) (X : (hd.heap_39 w.params).In h₀) (N : News h₀ L s.heap news) (T : Top topProg (looseW hd.view_39 [] ++ (recsOf hd.view_39).map (·.name) ++ (litsOf hd.view_39).map (·.1) ++ (clssOf hd.view_39 (looseW hd.view_39 [])).map (·.name)) mean mg mb h₀) (hk : cs.kind = .function)
    (hd : dp + 5 < recursionLimit) (hu : un + 50 < cLine)
    (h : ∀ (t : Tok) (h' : Heap) (tk' : Nat), Fr h₀ L h' m → News h₀ L h' news → Q (.str (wordF x) t) { s with heap := h', toks := tk' }) :
    wpAny (model Challenge.rw_re0022_01.row.prog w) (ktrTop dp un gd cn cs L a ccd cl outer) (call (.ref 94) [.int x t]) Q E s :=
  word_spec x t B F X T hk hd hu fun t h' tk' F' K' => h t h' tk' F' (N.grown K'.nil)
theorem lexer_ex (ex : List (Addr × Obj)) (x : Str) (t : Tok) (B : Below A₀ base outer h₀) (F : Fr h₀ L s.heap m) (X : (hd.heap_39 w.params).In h₀) (N : News h₀ L s.heap (ex ++ [(79, tabObj #[])])) (off : ∀ p ∈ ex, p.1 ≠ 79) (T : Top topProg (looseW hd.view_39 [] ++ (recsOf hd.view_39).map (·.name) ++ (litsOf hd.view_39).map (·.1) ++ (clssOf hd.view_39 (looseW hd.view_39 [])).map (·.name)) mean mg mb h₀) (hk : cs.kind = .function)
    (hd : dp + 10 < recursionLimit) (hu : un + 100 < cLine) (hx : x.length ≤ 10000) (hc : CodeHd h₀ 83 79)
    (ret : ∀ (l : Lex) (tn : Tok) (ys : List Value) (c : Nat) (pT : Array Value) (h' : Heap) (tk' : Nat), l.Ok w → StrsAre ys (ones x.cps.toList) → (∀ p ∈ ex ++ [(79, tabObj pT)], @LT.lt Nat _ p.1 l.ce) → Fr h₀ L h' m → News h₀ L h' ((ex ++ [(79, tabObj pT)]) ++ l.led w 1 tn ys c [] 0) → Q (.ref l.lx) { s with heap := h', toks := tk' }) :
    wpAny (model Challenge.rw_re0022_01.row.prog w) (ktrTop dp un gd cn cs L a ccd cl outer) (call (.ref 84) [.str x t]) Q E s :=
  lexer_spec x t B F X (fun p hp => N p (List.mem_append_right _ hp)) T hk hd hu hx hc fun l tn ys c pT h' tk' hl hS hlt F' N' K' => ret l tn ys c pT h' tk' hl hS
    (fun p hp => by
      rcases List.mem_append.mp hp with hp | hp
      · exact hlt _ _ (N p (List.mem_append_left _ hp)).1
      · rw [List.mem_singleton.mp hp]
        exact hlt _ _ (N (79, tabObj #[]) (List.mem_append_right _ (List.mem_cons_self ..))).1) F' fun p hp => by
      rcases List.mem_append.mp hp with hp | hp
      · rcases List.mem_append.mp hp with hp | hp
        · have z := N p (List.mem_append_left _ hp)
          exact ⟨K' _ _ z.1 (by simpa using off p hp), z.2⟩
        · rw [List.mem_singleton.mp hp]; exact N' _ (List.mem_cons_self ..)
      · exact N' p (List.mem_cons_of_mem _ hp)
/-- the next written word is read -/
theorem gettok_w (ex : List (Addr × Obj)) {l : Lex} (hl : l.Ok w) {n : Int} {tn : Tok} {ys : List Value} {c cp : Nat} (x : Str) (i : Int) (rest : List Nat)
    (B : Below A₀ base outer h₀) (F : Fr h₀ L s.heap m) (X : (hd.heap_39 w.params).In h₀) (N : News h₀ L s.heap (ex ++ l.led w n tn ys c [] cp)) (T : Top topProg (looseW hd.view_39 [] ++ (recsOf hd.view_39).map (·.name) ++ (litsOf hd.view_39).map (·.1) ++ (clssOf hd.view_39 (looseW hd.view_39 [])).map (·.name)) mean mg mb h₀) (hk : cs.kind = .function)
    (hd : dp + 20 < recursionLimit) (hu : un + 200 < cLine) (hS : StrsAre ys (ones (codesW x i ++ rest))) (hx : ys.length ≤ 10000) (hxl : x.length ≤ 1000) (off : ∀ p ∈ ex, p.1 ∉ l.adr)
    (h : ∀ t' tn' c' ys' h' tk', StrsAre ys' (ones rest) → Fr h₀ L h' m → News h₀ L h' (ex ++ l.led w (n + nl (codesW x i)) tn' ys' c' [] cp) → Q (.str x t') { s with heap := h', toks := tk' }) :
    wpAny (model Challenge.rw_re0022_01.row.prog w) (ktrTop dp un gd cn cs L a ccd cl outer) (call (.ref 56) [.ref l.lx]) Q E s := by
  rcases codes_cases x i with e | ⟨b, r, e0, hxb, hw, e⟩
  · rw [e] at hS h
    have e2 : ones (34 :: (escL x.cps.toList ++ [34]) ++ rest) = ⟨#[34]⟩ :: ones (escL x.cps.toList ++ 34 :: rest) := by simp [ones]
    rw [e2] at hS
    obtain ⟨u, ys1, rfl, hS1⟩ := StrsAre.cons_inv hS
    rw [nl_q] at h
    refine gettok_q l hl n tn c cp u ys1 x.cps.toList rest B F X (led_right N) T hk hd hu hS1 (by simpa using hx) (by rw [← len_cps]; exact hxl) fun t' tn' c' ys' h' tk' hS' F' N' K' => ?_
    exact h t' tn' c' ys' h' tk' hS' F' (ext_led N K' off N')
  · rw [e] at hS h
    have e2 : ones (92 :: b :: (bkL r ++ [e0]) ++ rest) = ⟨#[92]⟩ :: ones (b :: (bkL r ++ e0 :: rest)) := by simp [ones]
    rw [e2] at hS
    obtain ⟨u, ys1, rfl, hS1⟩ := StrsAre.cons_inv hS
    rw [nl_b] at h
    have hxe : x = ⟨(b :: r).toArray⟩ := Str.ext' (by rw [← hxb])
    refine gettok_b l hl n tn c cp u ys1 b e0 r rest hw B F X (led_right N) T hk hd hu hS1 (by simpa using hx) (by have := len_cps x; rw [hxb] at this; simp at this; omega) fun t' tn' c' ys' h' tk' hS' F' N' K' => ?_
    have := h t' tn' c' ys' h' tk' hS' F' (ext_led N K' off N')
    rw [hxe] at this
    exact this
theorem gettok_z (ex : List (Addr × Obj)) {l : Lex} (hl : l.Ok w) {n : Int} {tn : Tok} {c cp : Nat}
    (B : Below A₀ base outer h₀) (F : Fr h₀ L s.heap m) (X : (hd.heap_39 w.params).In h₀) (N : News h₀ L s.heap (ex ++ l.led w n tn [] c [] cp)) (T : Top topProg (looseW hd.view_39 [] ++ (recsOf hd.view_39).map (·.name) ++ (litsOf hd.view_39).map (·.1) ++ (clssOf hd.view_39 (looseW hd.view_39 [])).map (·.name)) mean mg mb h₀) (hk : cs.kind = .function)
    (hd : dp + 20 < recursionLimit) (hu : un + 200 < cLine) (off : ∀ p ∈ ex, p.1 ∉ l.adr)
    (h : ∀ t' h' tk', Fr h₀ L h' m → News h₀ L h' (ex ++ l.led w n tn [] c [] cp) → Q (.str (Str.ofString "") t') { s with heap := h', toks := tk' }) :
    wpAny (model Challenge.rw_re0022_01.row.prog w) (ktrTop dp un gd cn cs L a ccd cl outer) (call (.ref 56) [.ref l.lx]) Q E s :=
  gettok_end l hl n tn c cp B F X (led_right N) T hk hd hu fun t' h' tk' F' N' K' => h t' h' tk' F' (ext_led N K' off N')
theorem joined_ex (ex : List (Addr × Obj)) {l : Lex} (hl : l.Ok w) {n : Int} {tn : Tok} {ys : List Value} {c cp : Nat} {wl : Addr} {vs : List Value} {cw : Nat} {xs : List Str}
    (B : Below A₀ base outer h₀) (F : Fr h₀ L s.heap m) (X : (hd.heap_39 w.params).In h₀) (N : News h₀ L s.heap (ex ++ l.led w n tn ys c [] cp)) (hm : (wl, W.listOf vs.toArray cw) ∈ ex) (T : Top topProg (looseW hd.view_39 [] ++ (recsOf hd.view_39).map (·.name) ++ (litsOf hd.view_39).map (·.1) ++ (clssOf hd.view_39 (looseW hd.view_39 [])).map (·.name)) mean mg mb h₀) (hk : cs.kind = .function)
    (hd : dp + 20 < recursionLimit) (hu : un + 200 < cLine) (hS : StrsAre vs xs) (hw : @LT.lt Nat _ wl l.ce) (h1 : 1 ≤ xs.length) (h2 : xs.length ≤ 100) (ht : tot xs ≤ 10000) (off : ∀ p ∈ ex, p.1 ∉ l.adr)
    (h : ∀ ps cp' h' tk', StrsAre ps (runQ (xs.length - 1) xs) → Fr h₀ L h' m → News h₀ L h' (ex ++ l.led w n tn ys c ps cp') → Q (.bool true) { s with heap := h', toks := tk' }) :
    wpAny (model Challenge.rw_re0022_01.row.prog w) (ktrTop dp un gd cn cs L a ccd cl outer) (call (.ref 115) [.ref l.lx, .ref wl]) Q E s :=
  joined_spec l hl n tn ys c cp wl vs cw xs B F X (fun p hp => by
      rcases List.mem_cons.mp hp with rfl | hp
      · exact N _ (List.mem_append_left _ hm)
      · exact N p (List.mem_append_right _ hp)) T hk hd hu hS hw h1 h2 ht fun ps cp' h' tk' hP F' N' K' => h ps cp' h' tk' hP F' fun p hp => by
    rcases List.mem_append.mp hp with hp | hp
    · refine ⟨?_, (N p (List.mem_append_left _ hp)).2⟩
      by_cases hq : p.1 = wl
      · have e1 := (N _ (List.mem_append_left _ hm)).1
        have e2 := (N p (List.mem_append_left _ hp)).1
        rw [hq] at e2 ⊢
        rw [Option.some.inj (e2.symm.trans e1)]
        exact (N' _ (List.mem_cons_self ..)).1
      · exact K' _ _ (N p (List.mem_append_left _ hp)).1 (by
          intro hm'
          rcases List.mem_cons.mp hm' with e | e
          · exact hq e
          · exact off p hp e)
    · exact N' p (List.mem_cons_of_mem _ hp)
theorem turned_led {wl pb : Addr} {oP : Obj} {vs : List Value} {xs : List Str} {cw : Nat}
    (B : Below A₀ base outer h₀) (F : Fr h₀ L s.heap m) (X : (hd.heap_39 w.params).In h₀) (N : News h₀ L s.heap news) (hm : (wl, W.listOf vs.toArray cw) ∈ news) (hp : (pb, oP) ∈ news) (T : Top topProg (looseW hd.view_39 [] ++ (recsOf hd.view_39).map (·.name) ++ (litsOf hd.view_39).map (·.1) ++ (clssOf hd.view_39 (looseW hd.view_39 [])).map (·.name)) mean mg mb h₀) (hk : cs.kind = .function)
    (hd : dp + 5 < recursionLimit) (hu : un + 50 < cLine) (hS : StrsAre vs xs) (h2 : 2 ≤ xs.length) (h6 : xs.length ≤ 6)
    (h : ∀ D h' tk', @LT.lt Nat _ pb D → Fr h₀ L h' m → News h₀ L h' ((D, W.listOf (turnL vs).toArray 0) :: news) → Q (.ref D) { s with heap := h', toks := tk' }) :
    wpAny (model Challenge.rw_re0022_01.row.prog w) (ktrTop dp un gd cn cs L a ccd cl outer) (call (.ref 122) [.ref wl]) Q E s :=
  turned_spec wl pb oP vs xs cw B F X (fun p hq => by
      rcases List.mem_cons.mp hq with rfl | hq
      · exact N _ hm
      · rw [List.mem_singleton.mp hq]; exact N _ hp) T hk hd hu hS h2 h6 fun D h' tk' hlt F' N' K' => h D h' tk' hlt F' fun p hq => by
    rcases List.mem_cons.mp hq with rfl | hq
    · exact N' _ (List.mem_cons_self ..)
    · refine kept_get N N' K' (fun a ha => ?_) p hq
      simp only [List.mem_cons, List.not_mem_nil, or_false] at ha
      rcases ha with rfl | rfl
      · exact ⟨_, hm, by simp⟩
      · exact ⟨_, hp, by simp⟩
end

end
section
open PyProof.Rows.LCg
/-- a call that is shown where the walk stands -/
def HereOk (M : Model) (A : Around) (f : Addr) (args : List Value) (Q E : Value → Shared → Prop) (s : Shared) (h : Heap) : Prop := ∀ tk, wpAny M A (call (.ref f) args) Q E { s with heap := h, toks := tk }
theorem off3_map {I C D : Addr} {l1 l2 : List (Addr × Obj)} (e : l1.map (·.1) = l2.map (·.1)) (o : Off3 I C D l1) : Off3 I C D l2 := Off3.of fun p hp => by
  have hm : p.1 ∈ l1.map (·.1) := by rw [e]; exact List.mem_map_of_mem hp
  obtain ⟨q, hq, hqe⟩ := List.mem_map.mp hm
  have := o.mem q hq
  rw [hqe] at this
  exact this
theorem led_adr {w : World} {l : Lex} {n : Int} {tn : Tok} {ys : List Value} {c : Nat} {ps : List Value} {cp : Nat} : (l.led w n tn ys c ps cp).map (·.1) = l.adr := rfl
theorem off_three {w : World} {l : Lex} {n : Int} {tn : Tok} {ys : List Value} {c : Nat} {ps : List Value} {cp : Nat} {I C D : Addr} {oI oC oD : Obj} {ex : List (Addr × Obj)} (off : ∀ p ∈ ex, p.1 ∉ l.adr) (o : Off3 I C D (ex ++ l.led w n tn ys c ps cp)) : ∀ p ∈ (I, oI) :: (C, oC) :: (D, oD) :: ex, p.1 ∉ l.adr := by
  have key : ∀ a ∈ l.adr, a ≠ I ∧ a ≠ C ∧ a ≠ D := fun a ha => by
    rw [← led_adr (w := w) (n := n) (tn := tn) (ys := ys) (c := c) (ps := ps) (cp := cp)] at ha
    obtain ⟨q, hq, rfl⟩ := List.mem_map.mp ha
    exact o.mem q (List.mem_append_right _ hq)
  intro p hp
  rcases List.mem_cons.mp hp with rfl | hp
  · exact fun h => (key _ h).1 rfl
  rcases List.mem_cons.mp hp with rfl | hp
  · exact fun h => (key _ h).2.1 rfl
  rcases List.mem_cons.mp hp with rfl | hp
  · exact fun h => (key _ h).2.2 rfl
  · exact off p hp
section
variable {w : World} {mean : ExcName → Option Value} {mg mb : Str → Option Value} {dp un : Nat} {gd : Option (List Code)} {cn : Str} {cs : Scope} {a : Addr} {ccd : Value} {cl : List (Str × Addr)} {outer : List Env} {A₀ : Around} {base h₀ : Heap} {L : Addr} {m : Str → Option Value} {s : Shared}
variable {env : Env} {elt : Expr} {x : Str} {scope : Scope} {clo : List (Str × Addr)} {P : Nat → Value → Prop} {Fin : List Value → List (Addr × Obj) → Prop}
def allC (ps : List (Str × Int)) : List Nat := (ps.map fun p => codesW p.1 p.2).flatten
theorem comp_tokens (ex : List (Addr × Obj)) {l : Lex} (hl : l.Ok w) (ps : List (Str × Int)) (n0 : Int) (tn0 : Tok) (ys0 : List Value) (c0 : Nat)
    (B : Below A₀ base outer h₀) (X : (hd.heap_39 w.params).In h₀) (T : Top topProg (looseW hd.view_39 [] ++ (recsOf hd.view_39).map (·.name) ++ (litsOf hd.view_39).map (·.1) ++ (clssOf hd.view_39 (looseW hd.view_39 [])).map (·.name)) mean mg mb h₀) (hk : cs.kind = .function)
    (hd : dp + 20 < recursionLimit) (hu : un + 200 < cLine) (hS : StrsAre ys0 (ones (allC ps))) (hx : ys0.length ≤ 10000) (hps : ∀ p ∈ ps, p.1.length ≤ 1000) (off : ∀ p ∈ ex, p.1 ∉ l.adr)
    (step : ∀ I oI C oC D m₂ toks h tk n tn ys c (Q' E' : Value → Shared → Prop), NsObj oC m₂ → Fr h₀ L h m → News h₀ L h ((I, oI) :: (C, oC) :: (D, lst toks) :: (ex ++ l.led w n tn ys c [] 0)) → Off3 I C D (ex ++ l.led w n tn ys c [] 0) → ((@Ne Nat I C) ∧ (@Ne Nat I D) ∧ (@Ne Nat C D)) →
      HereOk (model Challenge.rw_re0022_01.row.prog w) (ktrTop dp un gd cn cs L a ccd cl outer) 56 [.ref l.lx] Q' E' s h → wpAny (model Challenge.rw_re0022_01.row.prog w) (ktrTop dp un gd cn cs L a ccd cl outer) (eval elt (compEnvC scope clo C env)) Q' E' { s with heap := h, toks := tk })
    (fin : ∀ toks tn c, StrsAre toks (ps.map (·.1) ++ [Str.ofString ""]) → Fin toks (ex ++ l.led w (n0 + nl (allC ps)) tn [] c [] 0)) :
    CompRest Challenge.rw_re0022_01.row.prog w (ktrTop dp un gd cn cs L a ccd cl outer) h₀ L m env elt x scope clo s (fun _ => True) P Fin (ps.length + 1) 0 [] (ex ++ l.led w n0 tn0 ys0 c0 [] 0) := by
  have key : ∀ (qs done : List (Str × Int)) (i : Nat) (toks : List Value) (n : Int) (tn : Tok) (ys : List Value) (c : Nat), ps = done ++ qs → StrsAre toks (done.map (·.1)) → StrsAre ys (ones (allC qs)) → ys.length ≤ 10000 → n + nl (allC qs) = n0 + nl (allC ps) →
      CompRest Challenge.rw_re0022_01.row.prog w (ktrTop dp un gd cn cs L a ccd cl outer) h₀ L m env elt x scope clo s (fun _ => True) P Fin (qs.length + 1) i toks (ex ++ l.led w n tn ys c [] 0) := by
    intro qs
    induction qs with
    | nil =>
      intro done i toks n tn ys c hps' hT hY hl' hn
      refine CompRest.succ ?_
      intro v I oI C oC D m₂ h tk E' _ hC _ F N o ne
      have hy0 : ys = [] := hY.nil_inv
      subst hy0
      refine step I oI C oC D m₂ toks h tk n tn [] c _ E' hC F N o ne fun tk' => ?_
      refine gettok_z ((I, oI) :: (C, oC) :: (D, lst toks) :: ex) hl B F X N T hk hd hu (off_three off o) fun t' h' tk'' F' N' => ?_
      refine ⟨h', tk'', ex ++ l.led w n tn [] c [] 0, rfl, F', N', o, trivial, ?_⟩
      refine CompRest.zero ?_
      have e0 : n = n0 + nl (allC ps) := by rw [← hn]; simp [allC, nl]
      rw [e0]
      refine fin _ tn c ?_
      rw [hps', List.append_nil]
      exact kct_snoc hT
    | cons q qs ih =>
      intro done i toks n tn ys c hps' hT hY hl' hn
      refine CompRest.succ ?_
      intro v I oI C oC D m₂ h tk E' _ hC _ F N o ne
      have e1 : allC (q :: qs) = codesW q.1 q.2 ++ allC qs := by simp [allC]
      rw [e1] at hY hn
      refine step I oI C oC D m₂ toks h tk n tn ys c _ E' hC F N o ne fun tk' => ?_
      refine gettok_w ((I, oI) :: (C, oC) :: (D, lst toks) :: ex) hl q.1 q.2 (allC qs) B F X N T hk hd hu hY hl' (hps q (by rw [hps']; simp)) (off_three off o) fun t' tn' c' ys' h' tk'' hY' F' N' => ?_
      refine ⟨h', tk'', ex ++ l.led w (n + nl (codesW q.1 q.2)) tn' ys' c' [] 0, rfl, F', N', off3_map (by simp only [List.map_append, led_adr]) o, trivial, ?_⟩
      refine ih (done ++ [q]) (i + 1) _ _ _ _ _ (by rw [hps']; simp) ?_ hY' ?_ ?_
      · rw [List.map_append]; exact kct_snoc hT
      · have h1 := hY.length
        have h2 := hY'.length
        simp only [ones, List.length_map, List.length_append] at h1 h2
        omega
      · rw [nl_app] at hn; omega
  exact key ps [] 0 [] n0 tn0 ys0 c0 rfl .nil hS hx rfl

theorem comp_words {ks : List Int} {vs : List Value} {news : List (Addr × Obj)} {S : List (Addr × Obj) → Prop} (hI : IntsAre vs ks) (hSn : S news)
    (B : Below A₀ base outer h₀) (X : (hd.heap_39 w.params).In h₀) (T : Top topProg (looseW hd.view_39 [] ++ (recsOf hd.view_39).map (·.name) ++ (litsOf hd.view_39).map (·.1) ++ (clssOf hd.view_39 (looseW hd.view_39 [])).map (·.name)) mean mg mb h₀) (hk : cs.kind = .function)
    (hd : dp + 20 < recursionLimit) (hu : un + 200 < cLine)
    (step : ∀ k t I oI C oC D m₂ us h tk (Q' E' : Value → Shared → Prop), NsObj oC m₂ → m₂ x = some (.int k t) → Fr h₀ L h m → News h₀ L h ((I, oI) :: (C, oC) :: (D, lst us) :: news) → Off3 I C D news → ((@Ne Nat I C) ∧ (@Ne Nat I D) ∧ (@Ne Nat C D)) →
      HereOk (model Challenge.rw_re0022_01.row.prog w) (ktrTop dp un gd cn cs L a ccd cl outer) 94 [.int k t] Q' E' s h → wpAny (model Challenge.rw_re0022_01.row.prog w) (ktrTop dp un gd cn cs L a ccd cl outer) (eval elt (compEnvC scope clo C env)) Q' E' { s with heap := h, toks := tk })
    (fin : ∀ us, StrsAre us (ks.map wordF) → Fin us news) :
    CompRest Challenge.rw_re0022_01.row.prog w (ktrTop dp un gd cn cs L a ccd cl outer) h₀ L m env elt x scope clo s S (fun i v => vs.toArray[i]? = some v) Fin vs.toArray.size 0 [] news := by
  have key : ∀ (us vs2 : List Value) (ks1 ks2 : List Int) (i : Nat), i + vs2.length = vs.length → vs.drop i = vs2 → IntsAre vs2 ks2 → ks = ks1 ++ ks2 → StrsAre us (ks1.map wordF) →
      CompRest Challenge.rw_re0022_01.row.prog w (ktrTop dp un gd cn cs L a ccd cl outer) h₀ L m env elt x scope clo s S (fun i v => vs.toArray[i]? = some v) Fin vs2.length i us news := by
    intro us vs2
    induction vs2 generalizing us with
    | nil =>
      intro ks1 ks2 i _ _ hI2 hks hU
      cases hI2
      refine CompRest.zero (fin us ?_)
      rw [hks, List.append_nil]; exact hU
    | cons v r ih =>
      intro ks1 ks2 i hlen hdr hI2 hks hU
      refine CompRest.succ ?_
      intro v' I oI C oC D m₂ h tk E' hv hC hx F N o ne
      cases hI2 with
      | cons k t hr =>
        have hv2 : vs[i]? = some (.int k t) := by
          have := congrArg (fun z => z[0]?) hdr
          simpa using this
        have e : v' = .int k t := by
          have h3 : vs[i]? = some v' := by simpa using hv
          rw [h3] at hv2; exact Option.some.inj hv2
        subst e
        refine step k t I oI C oC D m₂ us h tk _ E' hC hx F N o ne fun tk' => ?_
        refine word_led k t B F X N T hk (by omega) (by omega) fun t' h' tk'' F' N' => ?_
        refine ⟨h', tk'', news, rfl, F', N', o, hSn, ?_⟩
        refine ih _ (ks1 ++ [k]) _ (i + 1) (by simp only [List.length_cons] at hlen; omega) ?_ hr (by rw [hks]; simp) ?_
        · rw [← List.drop_drop, hdr]; rfl
        · rw [List.map_append]; exact kct_snoc hU
  have := key [] vs [] ks 0 (by omega) rfl hI rfl .nil
  simpa using this
theorem comp_filter {ct : Expr} {xs : List Str} {vs : List Value} {news : List (Addr × Obj)} {S : List (Addr × Obj) → Prop} (hI : StrsAre vs xs) (hSn : S news) (hxs : ∀ y ∈ xs, y.length ≤ 100000)
    (B : Below A₀ base outer h₀) (X : (hd.heap_39 w.params).In h₀) (T : Top topProg (looseW hd.view_39 [] ++ (recsOf hd.view_39).map (·.name) ++ (litsOf hd.view_39).map (·.1) ++ (clssOf hd.view_39 (looseW hd.view_39 [])).map (·.name)) mean mg mb h₀) (hk : cs.kind = .function)
    (hd : dp + 20 < recursionLimit) (hu : un + 200 < cLine)
    (step : ∀ k t I oI C oC D m₂ us h tk (Q' : Bool → Shared → Prop) (E' : Value → Shared → Prop), NsObj oC m₂ → m₂ x = some (.str k t) → Fr h₀ L h m → News h₀ L h ((I, oI) :: (C, oC) :: (D, lst us) :: news) → Off3 I C D news → ((@Ne Nat I C) ∧ (@Ne Nat I D) ∧ (@Ne Nat C D)) →
      HereOk (model Challenge.rw_re0022_01.row.prog w) (ktrTop dp un gd cn cs L a ccd cl outer) 101 [.str k t] (fun v s' => ∃ b, v = .bool b ∧ Q' b s') E' s h → wpAny (model Challenge.rw_re0022_01.row.prog w) (ktrTop dp un gd cn cs L a ccd cl outer) (isTrue ct (compEnvC scope clo C env) (eval ct (compEnvC scope clo C env))) Q' E' { s with heap := h, toks := tk })
    (own : ∀ k t C oC m₂ h tk (Q' E' : Value → Shared → Prop), NsObj oC m₂ → m₂ x = some (.str k t) → News h₀ L h [(C, oC)] → Q' (.str k t) { s with heap := h, toks := tk } → wpAny (model Challenge.rw_re0022_01.row.prog w) (ktrTop dp un gd cn cs L a ccd cl outer) (eval elt (compEnvC scope clo C env)) Q' E' { s with heap := h, toks := tk })
    (fin : ∀ us, StrsAre us (xs.filter stopsF) → Fin us news) :
    LCt.CompRestT Challenge.rw_re0022_01.row.prog w (ktrTop dp un gd cn cs L a ccd cl outer) h₀ L m env ct elt x scope clo s S (fun i v => vs.toArray[i]? = some v) Fin vs.toArray.size 0 [] news := by
  have key : ∀ (us vs2 : List Value) (ks1 ks2 : List Str) (i : Nat), i + vs2.length = vs.length → vs.drop i = vs2 → StrsAre vs2 ks2 → xs = ks1 ++ ks2 → StrsAre us (ks1.filter stopsF) →
      LCt.CompRestT Challenge.rw_re0022_01.row.prog w (ktrTop dp un gd cn cs L a ccd cl outer) h₀ L m env ct elt x scope clo s S (fun i v => vs.toArray[i]? = some v) Fin vs2.length i us news := by
    intro us vs2
    induction vs2 generalizing us with
    | nil =>
      intro ks1 ks2 i _ _ hI2 hks hU
      cases hI2
      refine LCt.CompRestT.zero (fin us ?_)
      rw [hks, List.append_nil]; exact hU
    | cons v r ih =>
      intro ks1 ks2 i hlen hdr hI2 hks hU
      refine LCt.CompRestT.succ ?_
      intro v' I oI C oC D m₂ h tk E' hv hC hx F N o ne
      cases hI2 with
      | @cons k t _ kr hr =>
        have hv2 : vs[i]? = some (.str k t) := by
          have := congrArg (fun z => z[0]?) hdr
          simpa using this
        have e : v' = .str k t := by
          have h3 : vs[i]? = some v' := by simpa using hv
          rw [h3] at hv2; exact Option.some.inj hv2
        subst e
        have hdr' : vs.drop (i + 1) = r := by rw [← List.drop_drop, hdr]; rfl
        have hlen' : i + 1 + r.length = vs.length := by simp only [List.length_cons] at hlen; omega
        have hks' : xs = (ks1 ++ [k]) ++ kr := by rw [hks]; simp
        refine step k t I oI C oC D m₂ us h tk _ E' hC hx F N o ne fun tk' => ?_
        refine stops_led k t B F X N T hk (by omega) (by omega) (hxs k (by rw [hks]; simp)) fun h' tk'' F' N' => ?_
        refine ⟨_, rfl, ?_⟩
        cases hs : stopsF k with
        | true =>
          rw [if_pos rfl]
          refine own k t C oC m₂ h' tk'' _ E' hC hx (fun p hp => by rw [List.mem_singleton.mp hp]; exact N' _ (by simp)) ?_
          refine ⟨h', tk'', news, rfl, F', N', o, hSn, ?_⟩
          refine ih _ (ks1 ++ [k]) _ (i + 1) hlen' hdr' hr hks' ?_
          rw [List.filter_append, show [k].filter stopsF = [k] by simp [hs]]; exact kct_snoc hU
        | false =>
          rw [if_neg Bool.false_ne_true]
          refine ⟨h', tk'', news, rfl, F', N', o, hSn, ?_⟩
          refine ih _ (ks1 ++ [k]) _ (i + 1) hlen' hdr' hr hks' ?_
          rw [List.filter_append, show [k].filter stopsF = [] by simp [hs], List.append_nil]; exact hU
  have := key [] vs [] xs 0 (by omega) rfl hI rfl .nil
  simpa using this
end

end
section
open PyProof.Rows.LCg
/-- a call whose second argument is an int just made -/
def HereOkI (M : Model) (A : Around) (f : Addr) (v : Value) (k : Int) (Q E : Value → Shared → Prop) (s : Shared) (h : Heap) : Prop := ∀ tk t, wpAny M A (call (.ref f) [v, .int k t]) Q E { s with heap := h, toks := tk }
theorem strs_at : ∀ {us : List Value} {zs : List Str}, us.length = zs.length → (∀ (i : Nat) (v : Value), us[i]? = some v → ∃ z t, zs[i]? = some z ∧ v = .str z t) → StrsAre us zs
  | [], [], _, _ => .nil
  | [], _ :: _, h, _ => by simp at h
  | _ :: _, [], h, _ => by simp at h
  | u :: us, z :: zs, h, f => by
    obtain ⟨z', t, e, rfl⟩ := f 0 u rfl
    have e' : z = z' := by simpa using e
    subst e'
    exact .cons _ _ (strs_at (by simpa using h) fun i v hv => by simpa using f (i + 1) v (by simpa using hv))
theorem ints_get {vs : List Value} {ns : List Int} (h : IntsAre vs ns) : ∀ {i : Nat} {v : Value}, vs[i]? = some v → ∃ k t, ns[i]? = some k ∧ v = .int k t := by
  induction h with
  | nil => intro i v e; simp at e
  | cons n t _ ih =>
    intro i v e
    cases i with
    | zero => exact ⟨n, t, rfl, by simpa using e.symm⟩
    | succ i => exact ih (by simpa using e)
def psF (ks : List Int) : List (Str × Int) := ks.map fun a => (wordF a, a.fdiv 1372)
theorem psF_fst (ks : List Int) : (psF ks).map (·.1) = ks.map wordF := by simp [psF]
theorem psF_len (ks : List Int) : (psF ks).length = ks.length := by simp [psF]
theorem psF_small {ks : List Int} : ∀ p ∈ psF ks, p.1.length ≤ 1000 := by
  intro p hp
  obtain ⟨a, _, rfl⟩ := List.mem_map.mp hp
  exact Nat.le_trans (word_len a) (by decide)
def textL (ks : List Int) : List Str := (psF ks).map fun p => writtenF p.1 p.2
def textF (ks : List Int) : Str := Txt.join (Str.ofString "") (textL ks)
theorem text_codes (ks : List Int) : (textF ks).cps.toList = allC (psF ks) := by
  unfold textF allC textL
  rw [join_e, List.map_map]
  rfl
theorem text_sum (ks : List Int) : ((textL ks).map (·.length)).sum ≤ 8 * ks.length := by
  unfold textL psF
  rw [List.map_map]
  induction ks with
  | nil => exact Nat.le_refl _
  | cons k r ih =>
    have h1 := written_len (wordF k) (k.fdiv 1372)
    have h2 := word_len k
    simp only [List.map_cons, List.sum_cons, List.length_cons, Function.comp] at ih ⊢
    omega
theorem text_fits {ks : List Int} (h : ks.length ≤ 6) : ((textL ks).map (·.length)).sum + (textL ks).length * (Str.ofString "").length ≤ 16777216 := by
  have h0 : (Str.ofString "").length = 0 := by decide
  have := text_sum ks
  rw [h0, Nat.mul_zero]
  omega
theorem text_len {ks : List Int} (h : ks.length ≤ 6) : (textF ks).length ≤ 48 := by
  unfold textF
  rw [show Txt.join (Str.ofString "") (textL ks) = Str.join (Str.ofString "") (textL ks) from StrLaws.glued_eq_join _ _]
  have h3 := StrLaws.join_length_le (Str.ofString "") (textL ks)
  have h0 : (Str.ofString "").length = 0 := by decide
  have := text_sum ks
  rw [h0, Nat.mul_zero] at h3
  omega
section
variable {w : World} {mean : ExcName → Option Value} {mg mb : Str → Option Value} {dp un : Nat} {gd : Option (List Code)} {cn : Str} {cs : Scope} {a : Addr} {ccd : Value} {cl : List (Str × Addr)} {outer : List Env} {A₀ : Around} {base h₀ : Heap} {L : Addr} {m : Str → Option Value} {s : Shared}
variable {env : Env} {elt : Expr} {x y : Str} {scope : Scope} {clo : List (Str × Addr)} {Q E : Value → Shared → Prop}
theorem written_src {l1 l2 : Addr} {vs ys : List Value} {n1 n2 cnt : Nat} {ks as : List Int} {news : List (Addr × Obj)} (hV : StrsAre vs (ks.map wordF)) (hY : IntsAre ys as) (hks : ks = as.take cnt) (hsm : ks.length ≤ 6)
    (B : Below A₀ base outer h₀) (F : Fr h₀ L s.heap m) (X : (hd.heap_39 w.params).In h₀) (N : News h₀ L s.heap news) (hm1 : (l1, W.listOf vs.toArray n1) ∈ news) (hm2 : (l2, W.listOf ys.toArray n2) ∈ news) (T : Top topProg (looseW hd.view_39 [] ++ (recsOf hd.view_39).map (·.name) ++ (litsOf hd.view_39).map (·.1) ++ (clssOf hd.view_39 (looseW hd.view_39 [])).map (·.name)) mean mg mb h₀) (hk : cs.kind = .function)
    (hd : dp + 20 < recursionLimit) (hu : un + 200 < cLine)
    (step : ∀ k t j u C oC m₂ h tk (Q' E' : Value → Shared → Prop), 0 ≤ j → NsObj oC m₂ → m₂ x = some (.str k t) → m₂ y = some (.int j u) → Fr h₀ L h m → News h₀ L h [(C, oC)] →
      HereOkI (model Challenge.rw_re0022_01.row.prog w) (ktrTop dp un gd cn cs L a ccd cl outer) 89 (.str k t) (j.fdiv 1372) Q' E' s h → wpAny (model Challenge.rw_re0022_01.row.prog w) (ktrTop dp un gd cn cs L a ccd cl outer) (eval elt (compEnvC scope clo C env)) Q' E' { s with heap := h, toks := tk })
    (hpos : ∀ k ∈ as, 0 ≤ k)
    (fin : ∀ D h tk us, (∀ p ∈ news, p.1 ≠ D) → StrsAre us (textL ks) → Fr h₀ L h m → News h₀ L h ((D, lst us) :: news) → Q (.ref D) { s with heap := h, toks := tk }) :
    wpAny (model Challenge.rw_re0022_01.row.prog w) (ktrTop dp un gd cn cs L a ccd cl outer) (call (.type "zip") [.ref l1, .ref l2]) (ZipSrc Challenge.rw_re0022_01.row.prog w (ktrTop dp un gd cn cs L a ccd cl outer) h₀ L m env elt x y scope clo Q) E s := by
  have hlv := hV.length
  have hly := ints_len hY
  rw [List.length_map] at hlv
  have hkl : ks.length ≤ as.length := by rw [hks, List.length_take]; omega
  refine zip_src (fun i r => ∃ k t, ks[i]? = some k ∧ r = .str (writtenF (wordF k) (k.fdiv 1372)) t) rfl F N hm1 hm2 (by rw [hlv, sizeLine_eq]; omega) ?_ ?_
  · rintro i v1 v2 s₁ h1 h2 ⟨g, rfl⟩ C oC m₂ h tk E' hC hx hy F' N'
    obtain ⟨z, t, rfl, hz⟩ := hV.item i v1 h1
    obtain ⟨j, u, hj, rfl⟩ := ints_get hY h2
    have hz' : ∃ k, ks[i]? = some k ∧ wordF k = z := by
      rw [List.getElem?_map] at hz
      cases hq : ks[i]? with
      | none => rw [hq] at hz; cases hz
      | some k => rw [hq] at hz; exact ⟨k, rfl, by simpa using hz⟩
    obtain ⟨k, hk', rfl⟩ := hz'
    have ekj : k = j := by
      rw [hks, List.getElem?_take] at hk'
      split at hk'
      · rw [hj] at hk'; exact (Option.some.inj hk').symm
      · cases hk'
    subst ekj
    refine step _ t k u C oC m₂ h tk _ E' (hpos k (List.mem_of_getElem? hj)) hC hx hy F' N' fun tk' t2 => ?_
    refine written_spec (wordF k) t (k.fdiv 1372) t2 B F' X T hk (by omega) (by omega) (Nat.le_trans (word_len k) (by decide)) fun t' h' tk'' F'' K' => ?_
    exact ⟨h', tk'', rfl, K', k, t', hk', rfl⟩
  · intro D h tk us hD hlen hR F' N'
    refine fin D h tk us hD (strs_at ?_ fun i v hv => ?_) F' N'
    · rw [hlen, hlv, hly]; simp only [textL, List.length_map, psF_len]; omega
    · obtain ⟨k, t, h1, rfl⟩ := hR i v hv
      refine ⟨_, t, ?_, rfl⟩
      simp only [textL, psF, List.map_map, List.getElem?_map, h1]
      rfl
end

end
section
open PyProof.Rows.LCg
section
variable {prog : Program} {w : World} {A : Around} {E : Value → Shared → Prop} {s : Shared} {Q : Value → Shared → Prop} {h₀ : Heap} {L : Addr} {m : Str → Option Value} {news : List (Addr × Obj)} {env : Env}
/-- the number of the words -/
theorem add_count {a : Int} {t u : Tok} (h : ∀ cnt : Nat, 2 ≤ cnt → cnt ≤ 6 → Q (.int (cnt : Int) s.toks) { s with toks := s.toks + 1 }) :
    wpAny (model prog w) A (binaryOp .Add (.int 2 t) (.int (a.fmod 5) u)) Q E s := by
  have h0 := Int.fmod_nonneg_of_pos a (b := 5) (by omega)
  have h1 := Int.fmod_lt_of_pos a (b := 5) (by omega)
  have e : (2 + a.fmod 5 : Int) = ((2 + a.fmod 5).toNat : Int) := by omega
  refine add_int ?_
  rw [e]
  exact h _ (by omega) (by omega)
theorem ListComp_ZF {elt iter : Expr} {x y : Str} {px py tp : Pos} {kk : Nat} {scope : Scope} {cl : List (Str × Addr)} {pos : Pos} {Q : Value → Shared → Prop} (_F₀ : Fr h₀ L s.heap m)
    (hclos : closureFor scope env = pure cl) (hcell : ∀ z ∈ scope.names, z.2 ≠ .cell) (hkind : scope.kind = .function)
    (hnames : ∀ z ∈ scope.names, z.2 = .local → scope.names.lookup z.1 = some .local) (hx : scope.names.lookup x = some .local) (hy : scope.names.lookup y = some .local) (hxy : ¬ x = y)
    (h : wpAny (model prog w) A (eval iter env) (ZipSrc prog w A h₀ L m env elt x y scope cl Q) E s)
    (hs : ∀ x, foldedSetIterable iter env x = pure x := by intro _; rfl) :
    wpAny (model prog w) A (eval (.ListComp elt [⟨.Tuple [.Name x px, .Name y py] kk tp, iter, [], 0⟩] scope pos) env) Q E s := ListComp_Z hclos hcell hkind hnames hx hy hxy h hs
theorem join_text {D : Addr} {us : List Value} {ks : List Int} {n : Nat} {t : Tok} (N : News h₀ L s.heap news) (hm : (D, W.listOf us.toArray n) ∈ news) (hi : StrsAre us (textL ks)) (hk : ks.length ≤ 6)
    (h : ∀ tx t' k, tx = textF ks → tx.length ≤ 10000 → Q (.str tx t') { s with toks := k }) : wpAny (model prog w) A (call (.builtin "str.join") [.str (Str.ofString "") t, .ref D]) Q E s :=
  join_led N hm hi (text_fits hk) fun t' k => h _ t' k rfl (Nat.le_trans (text_len hk) (by decide))
theorem tot_words (ks : List Int) : tot (ks.map wordF) ≤ 4 * ks.length := by
  unfold tot
  induction ks with
  | nil => exact Nat.le_refl _
  | cons k r ih =>
    have := word_len k
    simp only [List.map_cons, List.sum_cons, List.length_cons] at ih ⊢
    omega
theorem turn_mem {α : Type} {l : List α} {a : α} (h : a ∈ turnL l) : a ∈ l := by
  unfold turnL at h
  rcases List.mem_append.mp h with h | h
  · exact List.mem_of_mem_drop h
  · exact List.mem_of_mem_take h
theorem turned_small {ks : List Int} : ∀ y ∈ turnL (ks.map wordF), y.length ≤ 100000 := fun y hy => by
  obtain ⟨k, _, rfl⟩ := List.mem_map.mp (turn_mem hy)
  exact Nat.le_trans (word_len k) (by decide)
theorem sum_mem {l : List Nat} {b : Nat} (h : ∀ a ∈ l, a ≤ b) : l.sum ≤ b * l.length := by
  induction l with
  | nil => exact Nat.le_refl _
  | cons a r ih =>
    have h1 := h a (List.mem_cons_self ..)
    have h2 := ih fun c hc => h c (List.mem_cons_of_mem _ hc)
    simp only [List.sum_cons, List.length_cons, Nat.mul_add, Nat.mul_one]
    omega
theorem turned_sum {ks : List Int} (hk : ks.length ≤ 6) : ((turnL (ks.map wordF)).map (·.length)).sum + (turnL (ks.map wordF)).length * (Str.ofString ".").length ≤ 24 := by
  have h1 : ((turnL (ks.map wordF)).map (·.length)).sum ≤ 3 * ((turnL (ks.map wordF)).map (·.length)).length := sum_mem fun a ha => by
    obtain ⟨y, hy, rfl⟩ := List.mem_map.mp ha
    obtain ⟨k, _, rfl⟩ := List.mem_map.mp (turn_mem hy)
    exact word_len k
  rw [List.length_map, turn_len, List.length_map] at h1
  rw [len_dot, turn_len, List.length_map]
  omega
theorem join_turned {D : Addr} {us : List Value} {ks : List Int} {n : Nat} {t : Tok} {z : Str} (N : News h₀ L s.heap news) (hm : (D, W.listOf us.toArray n) ∈ news) (hi : StrsAre us (turnL (ks.map wordF))) (hk : ks.length ≤ 6) (hz : z = Txt.join (Str.ofString ".") (turnL (ks.map wordF)))
    (h : ∀ t' k, Q (.str z t') { s with toks := k }) : wpAny (model prog w) A (call (.builtin "str.join") [.str (Str.ofString ".") t, .ref D]) Q E s :=
  join_led N hm hi (Nat.le_trans (turned_sum hk) (by decide)) fun t' k => by rw [← hz]; exact h t' k
theorem whole_len {ks : List Int} (hk : ks.length ≤ 6) : (Txt.join (Str.ofString ".") (turnL (ks.map wordF))).length ≤ 100 := by
  rw [join_dot]
  exact Nat.le_trans (Nat.le_trans (StrLaws.join_length_le _ _) (turned_sum hk)) (by decide)
theorem ne_line {n : Int} {t u : Tok} {ks : List Int} {tx : Str} (htx : tx = textF ks) (hn : n = 1 + nl (allC (psF ks))) (h : Q (.bool false) s) : wpAny (model prog w) A (compareOp .NotEq (.int n t) (.int (1 + Txt.count tx (Str.ofString "\n")) u)) Q E s := by
  refine ne_int ?_
  rw [hn, htx, count_nl, text_codes]
  simpa using h
theorem eq_same {x y : Str} {t u : Tok} (e : x = y) (h : Q (.bool true) s) : wpAny (model prog w) A (compareOp .Eq (.str x t) (.str y u)) Q E s := by
  refine eq_str ?_
  subst e
  simpa using h
theorem head_chosen {value slice : Expr} {a : Addr} {us : List Value} {ys : List Str} {z : Str} {n1 : Nat} {u : Tok} (N : News h₀ L s.heap news) (ha : (a, W.listOf us.toArray n1) ∈ news) (hS : StrsAre us (chosenL ys)) (hz : z = Txt.join (Str.ofString ".") ys) (hne : ys ≠ []) (hsm : ∀ y ∈ ys, y.length ≤ 100000)
    (h : ∀ y t, bareF z = bareF y → y.length ≤ 100000 → Q (.str y t) s)
    (hs : subscripted slice false (.ref a) (.int 0 u) = operate [.ref a, .int 0 u] (getItem (.ref a) (.int 0 u)) := by with_unfolding_all rfl) :
    wpAny (model prog w) A (subscriptTail value slice (.ref a) (.int 0 u)) Q E s := by
  obtain ⟨y, r, hc, hb⟩ := bare_chosen ys hne
  have hy : y ∈ chosenL ys := by rw [hc]; exact List.mem_cons_self ..
  rw [hc] at hS
  obtain ⟨t, us', rfl, _⟩ := StrsAre.cons_inv hS
  refine head_led N ha (h y t (by rw [hz, join_dot]; exact hb) (hsm y ?_)) hs
  unfold chosenL at hy
  rcases List.mem_append.mp hy with hy | hy
  · exact (List.mem_filter.mp hy).1
  · exact List.mem_of_mem_drop hy
theorem strip_eq {x y : Str} (h : bareF x = bareF y) : stripF x = bareF y := by rw [strip_bare, h]
theorem range_cnt {ks : List Int} {cnt : Nat} (h : ks.length = cnt) : Builtin.Range.rangeSize 0 ((cnt : Int) + 1) 1 = (((psF ks).length + 1 : Nat) : Int) := by
  rw [psF_len, h, show ((cnt : Int) + 1) = ((cnt + 1 : Nat) : Int) by omega]
  have := rangeSize_nat 0 ((cnt + 1 : Nat) : Int)
  rw [this]; omega
theorem range_small {cnt : Nat} (h : cnt ≤ 6) : Builtin.Range.small 0 ((cnt : Int) + 1) 1 = true := small_one (by omega) (by omega) (by omega) (by omega)
theorem six_pos {a0 a1 a2 a3 a4 a5 : Int} (h : (0 ≤ a0 ∧ a0 ≤ 60006180) ∧ (0 ≤ a1 ∧ a1 ≤ 60006180) ∧ (0 ≤ a2 ∧ a2 ≤ 60006180) ∧ (0 ≤ a3 ∧ a3 ≤ 60006180) ∧ (0 ≤ a4 ∧ a4 ≤ 60006180) ∧ 0 ≤ a5 ∧ a5 ≤ 60006180) : ∀ k ∈ [a0, a1, a2, a3, a4, a5], 0 ≤ k := by
  intro k hk
  simp only [List.mem_cons, List.not_mem_nil, or_false] at hk
  rcases hk with rfl | rfl | rfl | rfl | rfl | rfl <;> omega
theorem tokens_are {us : List Value} {ks : List Int} (h : StrsAre us ((psF ks).map (·.1) ++ [Str.ofString ""])) : StrsAre us (ks.map wordF ++ [Str.ofString ""]) := by rw [psF_fst] at h; exact h
end
section
variable {w : World} {mean : ExcName → Option Value} {mg mb : Str → Option Value} {dp un : Nat} {gd : Option (List Code)} {cn : Str} {cs : Scope} {a : Addr} {ccd : Value} {cl : List (Str × Addr)} {outer : List Env} {A₀ : Around} {base h₀ : Heap} {L : Addr} {m : Str → Option Value} {s : Shared}
variable {env : Env} {elt : Expr} {x : Str} {scope : Scope} {clo : List (Str × Addr)} {Fin : List Value → List (Addr × Obj) → Prop} {Q E : Value → Shared → Prop}
theorem comp_words6 {a0 a1 a2 a3 a4 a5 : Int} {t0 t1 t2 t3 t4 t5 : Tok} {cnt : Nat} {news : List (Addr × Obj)} {S : List (Addr × Obj) → Prop} (h6 : cnt ≤ 6) (hSn : S news)
    (B : Below A₀ base outer h₀) (X : (hd.heap_39 w.params).In h₀) (T : Top topProg (looseW hd.view_39 [] ++ (recsOf hd.view_39).map (·.name) ++ (litsOf hd.view_39).map (·.1) ++ (clssOf hd.view_39 (looseW hd.view_39 [])).map (·.name)) mean mg mb h₀) (hk : cs.kind = .function)
    (hd : dp + 20 < recursionLimit) (hu : un + 200 < cLine)
    (step : ∀ k t I oI C oC D m₂ us h tk (Q' E' : Value → Shared → Prop), NsObj oC m₂ → m₂ x = some (.int k t) → Fr h₀ L h m → News h₀ L h ((I, oI) :: (C, oC) :: (D, lst us) :: news) → Off3 I C D news → ((@Ne Nat I C) ∧ (@Ne Nat I D) ∧ (@Ne Nat C D)) →
      HereOk (model Challenge.rw_re0022_01.row.prog w) (ktrTop dp un gd cn cs L a ccd cl outer) 94 [.int k t] Q' E' s h → wpAny (model Challenge.rw_re0022_01.row.prog w) (ktrTop dp un gd cn cs L a ccd cl outer) (eval elt (compEnvC scope clo C env)) Q' E' { s with heap := h, toks := tk })
    (fin : ∀ us ks, ks = List.take cnt [a0, a1, a2, a3, a4, a5] → ks.length = cnt → StrsAre us (ks.map wordF) → Fin us news) :
    CompRest Challenge.rw_re0022_01.row.prog w (ktrTop dp un gd cn cs L a ccd cl outer) h₀ L m env elt x scope clo s S (fun i v => (List.take cnt [Value.int a0 t0, Value.int a1 t1, Value.int a2 t2, Value.int a3 t3, Value.int a4 t4, Value.int a5 t5]).toArray[i]? = some v) Fin (List.take cnt [Value.int a0 t0, Value.int a1 t1, Value.int a2 t2, Value.int a3 t3, Value.int a4 t4, Value.int a5 t5]).toArray.size 0 [] news :=
  comp_words (IntsAre.take (.cons _ _ (.cons _ _ (.cons _ _ (.cons _ _ (.cons _ _ (.cons _ _ .nil)))))) _) hSn B X T hk hd hu step fun us hU => fin us _ rfl (by rw [List.length_take]; simp only [List.length_cons, List.length_nil]; omega) hU
theorem lexer_tx (ex : List (Addr × Obj)) {tx : Str} {ks : List Int} (t : Tok) (htx : tx = textF ks) (htl : tx.length ≤ 10000) (B : Below A₀ base outer h₀) (F : Fr h₀ L s.heap m) (X : (hd.heap_39 w.params).In h₀) (N : News h₀ L s.heap (ex ++ [(79, tabObj #[])])) (off : ∀ p ∈ ex, p.1 ≠ 79) (T : Top topProg (looseW hd.view_39 [] ++ (recsOf hd.view_39).map (·.name) ++ (litsOf hd.view_39).map (·.1) ++ (clssOf hd.view_39 (looseW hd.view_39 [])).map (·.name)) mean mg mb h₀) (hk : cs.kind = .function)
    (hd : dp + 10 < recursionLimit) (hu : un + 100 < cLine) (hc : CodeHd h₀ 83 79)
    (ret : ∀ (l : Lex) (tn : Tok) (ys : List Value) (c : Nat) (pT : Array Value) (h' : Heap) (tk' : Nat), l.Ok w → StrsAre ys (ones (allC (psF ks))) → ys.length ≤ 10000 → (∀ p ∈ ex ++ [(79, tabObj pT)], @LT.lt Nat _ p.1 l.ce) → Fr h₀ L h' m → News h₀ L h' ((ex ++ [(79, tabObj pT)]) ++ l.led w 1 tn ys c [] 0) → Q (.ref l.lx) { s with heap := h', toks := tk' }) :
    wpAny (model Challenge.rw_re0022_01.row.prog w) (ktrTop dp un gd cn cs L a ccd cl outer) (call (.ref 84) [.str tx t]) Q E s :=
  lexer_ex ex tx t B F X N off T hk hd hu htl hc fun l tn ys c pT h' tk' hl hS hlt F' N' => ret l tn ys c pT h' tk' hl (by rw [htx, text_codes] at hS; exact hS) (by
    have := hS.length
    rw [this]
    simp only [ones, List.length_map]
    rw [← len_cps]; exact htl) hlt F' N'
theorem joined_z (ex : List (Addr × Obj)) {l : Lex} (hl : l.Ok w) {n : Int} {tn : Tok} {ys : List Value} {c cp : Nat} {wl : Addr} {vs : List Value} {cw : Nat} {ks : List Int}
    (B : Below A₀ base outer h₀) (F : Fr h₀ L s.heap m) (X : (hd.heap_39 w.params).In h₀) (N : News h₀ L s.heap (ex ++ l.led w n tn ys c [] cp)) (hm : (wl, W.listOf vs.toArray cw) ∈ ex) (T : Top topProg (looseW hd.view_39 [] ++ (recsOf hd.view_39).map (·.name) ++ (litsOf hd.view_39).map (·.1) ++ (clssOf hd.view_39 (looseW hd.view_39 [])).map (·.name)) mean mg mb h₀) (hk : cs.kind = .function)
    (hd : dp + 20 < recursionLimit) (hu : un + 200 < cLine) (hS : StrsAre vs (ks.map wordF)) (hw : @LT.lt Nat _ wl l.ce) (h1 : 2 ≤ ks.length) (h2 : ks.length ≤ 6) (off : ∀ p ∈ ex, p.1 ∉ l.adr)
    (h : ∀ z t cp' h' tk', z = Txt.join (Str.ofString ".") (turnL (ks.map wordF)) → z.length ≤ 100000 → Fr h₀ L h' m → News h₀ L h' (ex ++ l.led w n tn ys c [.str z t] cp') → Q (.bool true) { s with heap := h', toks := tk' }) :
    wpAny (model Challenge.rw_re0022_01.row.prog w) (ktrTop dp un gd cn cs L a ccd cl outer) (call (.ref 115) [.ref l.lx, .ref wl]) Q E s :=
  joined_ex ex hl B F X N hm T hk hd hu hS hw (by rw [List.length_map]; omega) (by rw [List.length_map]; omega) (by have := tot_words ks; omega) off fun ps cp' h' tk' hP F' N' => by
    rw [run_turned _ (by rw [List.length_map]; omega) (by rw [List.length_map]; omega)] at hP
    obtain ⟨t, r, rfl, hr⟩ := StrsAre.cons_inv hP
    cases hr
    exact h _ t cp' h' tk' rfl (Nat.le_trans (whole_len h2) (by decide)) F' N'
end

end
section
open PyProof.Rows.LCg
section
variable {prog : Program} {w : World} {A : Around} {E : Value → Shared → Prop} {s : Shared} {Q : Value → Shared → Prop} {h₀ : Heap} {L : Addr} {m : Str → Option Value} {news : List (Addr × Obj)} {env : Env}
theorem add_words {a b : Addr} {vs : List Value} {ks : List Int} {n1 n2 : Nat} {t : Tok} (F : Fr h₀ L s.heap m) (N : News h₀ L s.heap news) (ha : (a, W.listOf vs.toArray n1) ∈ news) (hb : (b, W.listOf #[.str (Str.ofString "") t] n2) ∈ news) (hS : StrsAre vs (ks.map wordF)) (hk : ks.length ≤ 6)
    (h : ∀ D us h', StrsAre us (ks.map wordF ++ [Str.ofString ""]) → Fr h₀ L h' m → News h₀ L h' ((D, W.listOf us.toArray 0) :: news) → (∀ p ∈ news, p.1 < D) → Q (.ref D) { s with heap := h' }) :
    wpAny (model prog w) A (binaryOp .Add (.ref a) (.ref b)) Q E s :=
  add_led (us := [.str (Str.ofString "") t]) F N ha hb (by have := hS.length; rw [List.length_map] at this; rw [sizeLine_eq, this]; simp only [List.length_cons, List.length_nil]; omega) fun D h' F' N' l1 => h D _ h' (kct_snoc hS) F' N' l1
theorem add_chosen {a b : Addr} {us vs : List Value} {ks : List Int} {n1 n2 : Nat} (F : Fr h₀ L s.heap m) (N : News h₀ L s.heap news) (ha : (a, W.listOf us.toArray n1) ∈ news) (hb : (b, W.listOf (vs.drop (vs.length - 1)).toArray n2) ∈ news) (hS : StrsAre us ((turnL (ks.map wordF)).filter stopsF)) (hV : StrsAre vs (turnL (ks.map wordF))) (hk : ks.length ≤ 6)
    (h : ∀ D us h', StrsAre us (chosenL (turnL (ks.map wordF))) → Fr h₀ L h' m → News h₀ L h' ((D, W.listOf us.toArray 0) :: news) → (∀ p ∈ news, p.1 < D) → Q (.ref D) { s with heap := h' }) :
    wpAny (model prog w) A (binaryOp .Add (.ref a) (.ref b)) Q E s :=
  add_led F N ha hb (by
    have h1 := hS.length
    have h2 := hV.length
    have h3 := List.length_filter_le stopsF (turnL (ks.map wordF))
    rw [turn_len, List.length_map] at h2 h3
    rw [sizeLine_eq, List.length_drop]
    omega) fun D h' F' N' l1 => h D _ h' (by unfold chosenL; rw [← hV.length]; exact hS.append' (hV.drop' _)) F' N' l1
theorem news_sub {h : Heap} {l1 : List (Addr × Obj)} (N : News h₀ L h news) (hs : ∀ p ∈ l1, p ∈ news) : News h₀ L h l1 := fun p hp => N p (hs p hp)
theorem turned_ne {ks : List Int} (h : 2 ≤ ks.length) : turnL (ks.map wordF) ≠ [] := fun e => by
  have := congrArg List.length e
  rw [turn_len, List.length_map, List.length_nil] at this
  omega
theorem turned_last {value slice : Expr} {a : Addr} {vs : List Value} {ks : List Int} {n1 : Nat} {u : Tok} (F : Fr h₀ L s.heap m) (N : News h₀ L s.heap news) (ha : (a, W.listOf vs.toArray n1) ∈ news) (hV : StrsAre vs (turnL (ks.map wordF))) (h2 : 2 ≤ ks.length) (h6 : ks.length ≤ 6)
    (h : ∀ D h', Fr h₀ L h' m → News h₀ L h' ((D, W.listOf (vs.drop (vs.length - 1)).toArray 0) :: news) → (∀ p ∈ news, p.1 < D) → Q (.ref D) { s with heap := h' })
    (hs : subscripted slice false (.ref a) (.ref s.heap.objs.size) = operate [.ref s.heap.objs.size, .ref a] (getItem (.ref a) (.ref s.heap.objs.size))) (ht : ∀ r, letTemporaryGo value (.ref a) r = pure ()) :
    wpAny (model prog w) A (subscriptTail value slice (.ref a) (.ref s.heap.objs.size)) Q E { s with heap := s.heap.push { cls := .type "slice", data := .fields #[.int (-1) u, .none, .none] } } :=
  have e : vs.length = ks.length := by have := hV.length; rw [turn_len, List.length_map] at this; exact this
  last_led F N ha (by omega) (by rw [sizeLine_eq]; omega) h hs ht
theorem chosen_head {value slice : Expr} {a : Addr} {us : List Value} {ks : List Int} {z : Str} {n1 : Nat} {u : Tok} (N : News h₀ L s.heap news) (ha : (a, W.listOf us.toArray n1) ∈ news) (hS : StrsAre us (chosenL (turnL (ks.map wordF)))) (hz : z = Txt.join (Str.ofString ".") (turnL (ks.map wordF))) (h2 : 2 ≤ ks.length)
    (h : ∀ y t, bareF z = bareF y → y.length ≤ 100000 → Q (.str y t) s)
    (hs : subscripted slice false (.ref a) (.int 0 u) = operate [.ref a, .int 0 u] (getItem (.ref a) (.int 0 u)) := by with_unfolding_all rfl) :
    wpAny (model prog w) A (subscriptTail value slice (.ref a) (.int 0 u)) Q E s :=
  head_chosen N ha hS hz (turned_ne h2) turned_small h hs
end
section
variable {w : World} {mean : ExcName → Option Value} {mg mb : Str → Option Value} {dp un : Nat} {gd : Option (List Code)} {cn : Str} {cs : Scope} {a : Addr} {ccd : Value} {cl : List (Str × Addr)} {outer : List Env} {A₀ : Around} {base h₀ : Heap} {L : Addr} {m : Str → Option Value} {s : Shared}
variable {Q E : Value → Shared → Prop} {news : List (Addr × Obj)}
theorem turned_ex (ex : List (Addr × Obj)) {l : Lex} (_hl : l.Ok w) {wl : Addr} {vs : List Value} {ks : List Int} {n : Int} {tn : Tok} {ys : List Value} {c cp cw : Nat} {ps : List Value}
    (B : Below A₀ base outer h₀) (F : Fr h₀ L s.heap m) (X : (hd.heap_39 w.params).In h₀) (N : News h₀ L s.heap (ex ++ l.led w n tn ys c ps cp)) (hm : (wl, W.listOf vs.toArray cw) ∈ ex) (T : Top topProg (looseW hd.view_39 [] ++ (recsOf hd.view_39).map (·.name) ++ (litsOf hd.view_39).map (·.1) ++ (clssOf hd.view_39 (looseW hd.view_39 [])).map (·.name)) mean mg mb h₀) (hk : cs.kind = .function)
    (hd : dp + 5 < recursionLimit) (hu : un + 50 < cLine) (hS : StrsAre vs (ks.map wordF)) (h2 : 2 ≤ ks.length) (h6 : ks.length ≤ 6)
    (h : ∀ D us h' tk', @LT.lt Nat _ l.pb D → StrsAre us (turnL (ks.map wordF)) → Fr h₀ L h' m → News h₀ L h' ((D, W.listOf us.toArray 0) :: (ex ++ l.led w n tn ys c ps cp)) → Q (.ref D) { s with heap := h', toks := tk' }) :
    wpAny (model Challenge.rw_re0022_01.row.prog w) (ktrTop dp un gd cn cs L a ccd cl outer) (call (.ref 122) [.ref wl]) Q E s :=
  turned_led (pb := l.pb) (oP := W.listOf ps.toArray cp) B F X N (List.mem_append_left _ hm) (List.mem_append_right _ (List.mem_cons_self ..)) T hk hd hu hS (by rw [List.length_map]; exact h2) (by rw [List.length_map]; exact h6)
    fun D h' tk' hlt F' N' => h D _ h' tk' hlt (strs_turn hS) F' N'
theorem gettok_s (pT : Array Value) {l : Lex} (hl : l.Ok w) {n : Int} {tn : Tok} {c cp : Nat}
    (B : Below A₀ base outer h₀) (F : Fr h₀ L s.heap m) (X : (hd.heap_39 w.params).In h₀) (N : News h₀ L s.heap news) (hs : ∀ p ∈ [(79, tabObj pT)] ++ l.led w n tn [] c [] cp, p ∈ news) (h79 : @LT.lt Nat _ 79 l.ce) (T : Top topProg (looseW hd.view_39 [] ++ (recsOf hd.view_39).map (·.name) ++ (litsOf hd.view_39).map (·.1) ++ (clssOf hd.view_39 (looseW hd.view_39 [])).map (·.name)) mean mg mb h₀) (hk : cs.kind = .function)
    (hd : dp + 20 < recursionLimit) (hu : un + 200 < cLine)
    (h : ∀ t' h' tk', Fr h₀ L h' m → News h₀ L h' [(79, tabObj pT)] → Q (.str (Str.ofString "") t') { s with heap := h', toks := tk' }) :
    wpAny (model Challenge.rw_re0022_01.row.prog w) (ktrTop dp un gd cn cs L a ccd cl outer) (call (.ref 56) [.ref l.lx]) Q E s :=
  gettok_z [(79, tabObj pT)] hl B F X (news_sub N hs) T hk hd hu (off_below hl fun p hp => by rw [List.mem_singleton.mp hp]; exact h79) fun t' h' tk' F' N' => h t' h' tk' F' fun p hp => N' p (List.mem_append_left _ hp)
end
theorem news_pick {h₀ h : Heap} {L : Addr} {p1 p2 p3 p4 p5 p6 : Addr × Obj} (N : News h₀ L h [p1, p2, p3, p4, p5, p6]) : News h₀ L h [p2, p5, p6] := fun p hp => N p (by
  simp only [List.mem_cons, List.not_mem_nil, or_false] at hp ⊢
  rcases hp with rfl | rfl | rfl <;> simp)
theorem turned_size {us : List Value} {ks : List Int} (h : StrsAre us (turnL (ks.map wordF))) (hk : ks.length ≤ 6) : us.toArray.size ≤ sizeLine := by
  have := h.length
  rw [turn_len, List.length_map] at this
  rw [sizeLine_eq, List.size_toArray]
  omega

end
end Mine
namespace Mine
local macro_rules | `(tactic| k_room) => `(tactic| ktr_room)
local macro_rules | `(tactic| k_units) => `(tactic| ktr_units)
local macro_rules | `(tactic| walk_at $s:str) => `(tactic| k_extra $s)
set_option maxRecDepth 100000 in
set_option maxHeartbeats 8000000 in
theorem law_holds : PySem.Challenge.rw_re0022_01.Holds := hd (by
  k_with_none
  k_with "call ref" => (k_here; (with_reducible show wpAny _ _ (call (Value.ref 77) _) _ _ _); k_dflt (refine' sums_ex _ ?zqh1 ?zqh2 ?zqh3 ?zqk1 ?zqk2 ?zqk3 ?zqk4 ?zqoff ?zqk5 ?zqk6 ?zqk7 ?zqk8 ?_; (case zqh1 => assumption); (case zqh2 => assumption); (case zqh3 => omega); (case zqk1 => k_asm); (case zqk2 => k_asm); (case zqk3 => k_asm); (case zqk4 => k_asm); (case zqoff => k_all); (case zqk5 => k_asm); (case zqk6 => first | exact rfl | assumption); (case zqk7 => ktr_room); (case zqk8 => ktr_units); k_whole); intro a0' a1' a2' a3' a4' a5' t0' t1' t2' t3' t4' t5' c' h' tk' hb' F' N'; (try k_sweep))
  k_with "binaryOp Add int int" => ((with_reducible show wpAny _ _ (binaryOp _ (Value.int 2 _) (Value.int (Int.fmod _ 5) _)) _ _ _); refine add_count ?_; intro cnt' hc2' hc6')
  k_with "exec Assign cons ListComp" => (k_here; k_dflt (refine LCg.Assign_ListComp_U (F₀ := by k_asm) (by rfl) (by with_unfolding_all rfl) (by rfl) (by decide) (by rfl) (by decide) (by rfl) (by rfl) (by rfl) ?_))
  k_with "eval ListComp" => (k_here; (with_reducible show wpAny _ _ (eval (PySem.Expr.ListComp _ [⟨PySem.Expr.Tuple _ _ _, _, [], _⟩] _ _) _) _ _ _); k_dflt (refine ListComp_ZF (by k_asm) (by rfl) (by decide) (by rfl) (by decide) (by rfl) (by rfl) (by decide) ?_))
  k_with "eval ListComp" => (k_here; (with_reducible show wpAny _ _ (eval (PySem.Expr.ListComp _ [⟨PySem.Expr.Name _ _, _, [_], _⟩] _ _) _) _ _ _); k_dflt (refine LCt.ListComp_T (F₀ := by k_asm) (by with_unfolding_all rfl) (by decide) (by rfl) (by decide) (by rfl) ?_))
  k_with "eval ListComp" => (k_here; (with_reducible show wpAny _ _ (eval (PySem.Expr.ListComp _ [⟨PySem.Expr.Name _ _, _, [], _⟩] _ _) _) _ _ _); k_dflt (refine LCg.ListComp_U (F₀ := by k_asm) (by with_unfolding_all rfl) (by decide) (by rfl) (by decide) (by rfl) ?_))
  k_with "subscriptTail Name Slice ref ref" => (k_here; (with_reducible show wpAny _ _ (subscriptTail _ (PySem.Expr.Slice none _ none _) _ _) _ _ _); k_dflt (refine' cut_led ?zqF ?zqN ?zql ?zqp ?zqz ?_ ?zqs ?zqt; (case zqF => k_asm); (case zqN => k_asm); (case zql => k_mem); (case zqp => exact rfl); (case zqz => (rw [PySem.sizeLine_eq]; exact Nat.le_of_ble_eq_true rfl)); (case zqs => with_unfolding_all rfl); (case zqt => kmk_pure)); intro D' h' F' N' l1; (try k_lt l1); (try k_sweep))
  k_with "subscriptTail Name Slice ref ref" => (k_here; (with_reducible show wpAny _ _ (subscriptTail _ (PySem.Expr.Slice (some _) none none _) _ _) _ _ _); k_dflt (refine' turned_last ?zqF ?zqN ?zql ?zqv ?zqh2 ?zqh6 ?_ ?zqs ?zqt; (case zqF => k_asm); (case zqN => k_asm); (case zqv => with_reducible assumption); (case zql => k_mem); (case zqh2 => omega); (case zqh6 => omega); (case zqs => with_unfolding_all rfl); (case zqt => kmk_pure)); intro D' h' F' N' l1; (try k_lt l1); (try k_sweep))
  k_with "CompSrc" => (k_here; k_dflt (refine LCg.CompSrc.ledger (by rfl) (by k_asm) (by k_asm) (by k_mem) (by rw [PySem.sizeLine_eq, List.size_toArray, List.length_take]; omega) ?_; intro g'; (refine' comp_words6 ?zqc ?zqS ?zqB ?zqX ?zqT ?zqk ?zqd ?zqu (fun k' t' I' oI' C' oC' D' m' us' h' tk' Q' E' hC' hx' F' N' off' ne' hH' => ?_) (fun us' ks' hks' hkl' hW' => ?_)); (case zqc => assumption); (case zqS => lcg_src); (case zqB => k_asm); (case zqX => k_asm); (case zqT => k_asm); (case zqk => exact rfl); (case zqd => ktr_room); (case zqu => ktr_units); (all_goals (try (simp only [LCg.Off3, and_true] at off')))))
  k_with "CompSrc" => (k_here; (with_reducible rename Lex.Ok _ _ => hLx); k_dflt (refine LCg.CompSrc.range (by rfl) (by k_asm) (by k_asm) (by assumption) (range_small (by assumption)) (range_cnt (by assumption)) (by rw [PySem.sizeLine_eq, psF_len]; omega) ?_; intro g'; (refine' comp_tokens [_, _, _] hLx _ _ _ _ _ ?zqB ?zqX ?zqT ?zqk ?zqd ?zqu ?zqS ?zqx ?zqp ?zqoff (fun I' oI' C' oC' D' m' us' h' tk' n' tn' ys' c' Q' E' hC' F' N' off' ne' hH' => ?_) (fun us' tn' c' hS' => ?_)); (case zqS => assumption); (case zqB => k_asm); (case zqX => k_asm); (case zqT => k_asm); (case zqk => exact rfl); (case zqd => ktr_room); (case zqu => ktr_units); (case zqx => assumption); (case zqp => exact psF_small); (case zqoff => (repeat' (first | exact off_nil | (refine off_cons hLx (by dsimp only; omega) ?_)))); (all_goals (try (dsimp only [Lex.led, Lex.dict, Lex.adr, List.cons_append, List.nil_append] at N' off'; simp only [LCg.Off3, and_true] at off'))); (all_goals (try (have hT' := tokens_are hS'; clear hS')))))
  k_with "CompSrcT" => (k_here; k_dflt (refine LCt.CompSrcT.ledger (by rfl) (by k_asm) (by k_asm) (by k_mem) ?zqsz ?_; (case zqsz => exact turned_size (by with_reducible assumption) (by omega)); intro g'; (refine' comp_filter ?zqhI ?zqS turned_small ?zqB ?zqX ?zqT ?zqk ?zqd ?zqu (fun k' t' I' oI' C' oC' D' m' us' h' tk' Q' E' hC' hx' F' N' off' ne' hH' => ?_) (fun k' t' C' oC' m' h' tk' Q' E' hC' hx' N' hQ' => LCgL.ld_own N' (List.mem_cons_self ..) hC' hx' hQ') (fun us' hF' => ?_)); (case zqhI => with_reducible assumption); (case zqS => lcg_src); (case zqB => k_asm); (case zqX => k_asm); (case zqT => k_asm); (case zqk => exact rfl); (case zqd => ktr_room); (case zqu => ktr_units); (all_goals (try (simp only [LCg.Off3, and_true] at off')))))
  k_with "call type:zip" => (k_here; k_dflt (refine' written_src ?zqhV (.cons _ _ (.cons _ _ (.cons _ _ (.cons _ _ (.cons _ _ (.cons _ _ .nil)))))) ?zqhks ?zqhsm ?zqB ?zqF ?zqX ?zqN ?zqm1 ?zqm2 ?zqT ?zqk ?zqd ?zqu (fun k' t' j' u' C' oC' m' h' tk' Q' E' hj' hC' hx' hy' F' N' hH' => ?_) ?zqpos (fun D' h' tk' us' hne' hS' F' N' => ?_); (case zqhks => assumption); (case zqhV => assumption); (case zqhsm => omega); (case zqB => k_asm); (case zqF => k_asm); (case zqX => k_asm); (case zqN => k_asm); (case zqT => k_asm); (case zqk => first | exact rfl | assumption); (case zqd => ktr_room); (case zqu => ktr_units); (case zqm1 => k_mem); (case zqm2 => k_mem); (case zqpos => exact six_pos (by assumption))))
  k_with "call builtin:str.join" => (k_here; (with_reducible show wpAny _ _ (call (Value.builtin _) [Value.str (PySem.Str.ofString "") _, Value.ref _]) _ _ _); k_dflt (refine' join_text ?zqN ?zqm ?zqi ?zqk ?_; (case zqi => with_reducible assumption); (case zqN => k_asm); (case zqm => k_mem); (case zqk => omega); (intro tx' t8 k8 htx' htl'; (rename News _ _ _ _ => hN9); have hN8 := news_pick hN9; clear hN9)))
  k_with "call builtin:str.join" => (k_here; (with_reducible show wpAny _ _ (call (Value.builtin _) [Value.str (PySem.Str.ofString ".") _, Value.ref _]) _ _ _); k_dflt (refine' join_turned ?zqN ?zqm ?zqi ?zqk ?zqz ?_; (case zqi => with_reducible assumption); (case zqN => k_asm); (case zqm => k_mem); (case zqk => omega); (case zqz => assumption); (intro t8 k8)))
  k_with "call ref" => (k_here; (with_reducible show wpAny _ _ (call (Value.ref 84) _) _ _ _); k_dflt (refine' lexer_tx [_, _] _ ?zqh1 ?zqh2 ?zqB ?zqF ?zqX ?zqN ?zqoff ?zqT ?zqk ?zqd ?zqu ?zqhc ?_; (case zqN => k_asm); (case zqh1 => assumption); (case zqh2 => assumption); (case zqB => k_asm); (case zqF => k_asm); (case zqX => k_asm); (case zqT => k_asm); (case zqoff => k_all); (case zqk => first | exact rfl | assumption); (case zqd => ktr_room); (case zqu => ktr_units); (case zqhc => assumption); k_whole); intro l' tn' ys' c' pT' h' tk' hLx' hS' hyl' hlt' F' N'; obtain ⟨pb', lx', dx', sd', rd', rc', st', lf', ce', k1', k2', k3', k4', tw', tr', fr', oRc', oCe', fd'⟩ := l'; have ho' := hLx'.order; dsimp only [Lex.led, Lex.dict, Lex.adr, List.cons_append, List.nil_append] at N' hlt' ho'; simp only [List.forall_mem_cons, List.not_mem_nil, false_imp_iff, implies_true, and_true] at hlt'; (try dsimp only); (try k_sweep))
  k_with "call ref" => (k_here; (with_reducible show wpAny _ _ (call (Value.ref 115) _) _ _ _); (with_reducible rename Lex.Ok _ _ => hLx); k_dflt (refine' joined_z [_, _, _] hLx ?zqB ?zqF ?zqX ?zqN ?zqm ?zqT ?zqk ?zqd ?zqu ?zqS ?zqw ?zqh1 ?zqh2 ?zqoff ?_; (case zqB => k_asm); (case zqF => k_asm); (case zqX => k_asm); (case zqN => k_asm); (case zqT => k_asm); (case zqk => first | exact rfl | assumption); (case zqd => ktr_room); (case zqu => ktr_units); (case zqS => assumption); (case zqm => k_mem); (case zqw => (dsimp only; omega)); (case zqh1 => omega); (case zqh2 => omega); (case zqoff => (repeat' (first | exact off_nil | (refine off_cons hLx (by dsimp only; omega) ?_)))); k_whole); intro z' t' cp' h' tk' hz' hzl' F' N'; (try dsimp only [Lex.led, Lex.dict, Lex.adr, List.cons_append, List.nil_append] at N'); (try k_sweep))
  k_with "call ref" => (k_here; (with_reducible show wpAny _ _ (call (Value.ref 122) _) _ _ _); (with_reducible rename Lex.Ok _ _ => hLx); k_dflt (refine' turned_ex [_, _, _] hLx ?zqB ?zqF ?zqX ?zqN ?zqm ?zqT ?zqk ?zqd ?zqu ?zqS ?zqh1 ?zqh2 ?_; (case zqB => k_asm); (case zqF => k_asm); (case zqX => k_asm); (case zqN => k_asm); (case zqT => k_asm); (case zqk => first | exact rfl | assumption); (case zqd => ktr_room); (case zqu => ktr_units); (case zqS => assumption); (case zqm => k_mem); (case zqh1 => omega); (case zqh2 => omega); k_whole); intro D' us' h' tk' hD' hV' F' N'; (try dsimp only [Lex.led, Lex.dict, Lex.adr, List.cons_append, List.nil_append] at N'); (try dsimp only at hD'); (try k_sweep))
  k_with "call ref" => (k_here; (with_reducible show wpAny _ _ (call (Value.ref 56) _) _ _ _); (with_reducible rename Lex.Ok _ _ => hLx); k_dflt (refine' gettok_ex [_, _, _, _] hLx ?zqB ?zqF ?zqX ?zqN ?zqT ?zqk ?zqd ?zqu ?zqx1 ?zqoff ?_; (case zqB => k_asm); (case zqF => k_asm); (case zqX => k_asm); (case zqN => k_asm); (case zqT => k_asm); (case zqk => first | exact rfl | assumption); (case zqd => ktr_room); (case zqu => ktr_units); (case zqx1 => exact Nat.le_of_ble_eq_true rfl); (case zqoff => (repeat' (first | exact off_nil | (refine off_cons hLx (by dsimp only; omega) ?_)))); k_whole); intro cp' h' tk' F' N'; (try dsimp only [Lex.led, Lex.dict, Lex.adr, List.cons_append, List.nil_append] at N'); (try k_sweep))
  k_with "call ref" => (k_here; (with_reducible show wpAny _ _ (call (Value.ref 56) _) _ _ _); (with_reducible rename bareF _ = bareF _ => hFl); (with_reducible rename Lex.Ok _ _ => hLx); k_dflt (refine' gettok_s _ hLx ?zqB ?zqF ?zqX ?zqN ?zqs ?zqh7 ?zqT ?zqk ?zqd ?zqu ?_; (case zqB => k_asm); (case zqF => k_asm); (case zqX => k_asm); (case zqN => k_asm); (case zqT => k_asm); (case zqk => first | exact rfl | assumption); (case zqd => ktr_room); (case zqu => ktr_units); (case zqs => (dsimp only [Lex.led, Lex.dict, Lex.adr, List.cons_append, List.nil_append]; lcg_sub)); (case zqh7 => (dsimp only; omega)); k_whole); intro t' h' tk' F' N')
  k_with "call ref" => (k_here; (with_reducible show wpAny _ _ (call (Value.ref 21) _) _ _ _); k_dflt (refine' strip_led _ _ ?zqB ?zqF ?zqX ?zqN ?zqT ?zqk ?zqd ?zqu ?zqx1 ?_; (case zqB => k_asm); (case zqF => k_asm); (case zqX => k_asm); (case zqN => k_asm); (case zqT => k_asm); (case zqk => first | exact rfl | assumption); (case zqd => ktr_room); (case zqu => ktr_units); (case zqx1 => assumption); k_whole); intro t' h' tk' F' N'; (try k_sweep))
  k_with "call ref" => (k_here; (with_reducible show wpAny _ _ (call (Value.ref 108) _) _ _ _); k_dflt (refine' bare_led _ _ ?zqB ?zqF ?zqX ?zqN ?zqT ?zqk ?zqd ?zqu ?zqx1 ?_; (case zqB => k_asm); (case zqF => k_asm); (case zqX => k_asm); (case zqN => k_asm); (case zqT => k_asm); (case zqk => first | exact rfl | assumption); (case zqd => ktr_room); (case zqu => ktr_units); (case zqx1 => assumption); k_whole); intro t' h' tk' F' N'; (try k_sweep))
  k_with "binaryOp Add ref ref" => (k_here; k_dflt (first | (refine' add_chosen ?zqF ?zqN ?zqa ?zqb ?zqS ?zqV ?zqk ?_; (case zqS => with_reducible assumption); (case zqV => with_reducible assumption); (case zqF => k_asm); (case zqN => k_asm); (case zqa => k_mem); (case zqb => k_mem); (case zqk => omega)) | (refine' add_words ?zqF ?zqN ?zqa ?zqb ?zqS ?zqk ?_; (case zqS => with_reducible assumption); (case zqF => k_asm); (case zqN => k_asm); (case zqa => k_mem); (case zqb => k_mem); (case zqk => omega))); intro D' us' h' hA' F' N' l1; (try k_lt l1); (try k_sweep))
  k_with "compareOp NotEq ref ref" => (k_here; k_dflt (refine' ne_texts ?zqN ?zqa ?zqb ?zqi ?zqj (ok_words _) ?zqu ?_; (case zqN => k_asm); (case zqa => k_mem); (case zqb => k_mem); (case zqi => with_reducible assumption); (case zqj => with_reducible assumption); (case zqu => ke_room); (rename News _ _ _ _ => hN9); have hN8 := news_tl (news_tl (news_tl hN9)); clear hN9; dsimp only [Lex.led, Lex.dict] at hN8))
  k_with "call builtin:str.count" => (k_here; refine SC.count ?_)
  k_with "compareOp NotEq int int" => (k_here; k_dflt (refine ne_line (by assumption) (by exact rfl) ?_))
  k_with "compareOp Eq str str" => (first | refine eq_same rfl ?_ | refine eq_same (strip_eq (by assumption)) ?_)
  k_with "subscriptTail Name Constant ref int" => (k_here; k_dflt (refine' chosen_head ?zqN ?zqa ?zqS ?zqz ?zqk ?_; (case zqS => with_reducible assumption); (case zqN => k_asm); (case zqa => k_mem); (case zqz => assumption); (case zqk => omega)); intro y' t' hy' hyl')
  k_with "call ref" => (k_here; (with_reducible rename HereOk _ _ _ _ _ _ _ _ => hHere); k_dflt (exact hHere _))
  k_with "call ref" => (k_here; (with_reducible rename HereOkI _ _ _ _ _ _ _ _ _ => hHere); k_dflt (exact hHere _ _))
  k_with "call ref" => (k_here; (with_reducible show wpAny _ _ (call (Value.ref 101) _) _ _ _); (with_reducible rename HereOk _ _ _ _ _ _ _ _ => hHere); k_dflt (refine wpAny_mono (hHere _) ?_ (fun _ _ e => e)); intro v' s9' hq'; obtain ⟨b', e', hq''⟩ := hq'; subst e'; exact wpAny_truthy_bool hq'')
  w_strict (k_go0; (all_goals try k_fold); k_steps))
end Mine

theorem PySem.Challenge.cw_re0022_01_holds : PySem.Challenge.rw_re0022_01.Holds :=
  Mine.law_holds
