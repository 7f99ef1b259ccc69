import PyProof.Rows.All
import Wide.All
import OpenK.AllK
import Wide.FinOn
import KE.KIntText
import PySem.Builtin.Sre.Common
import KE.KLcPair
import KE.IntTextLaws
import PySem.Challenge.RW_oy0022_01
set_option Elab.async false
set_option maxRecDepth 100000
set_option maxHeartbeats 0
set_option linter.all false
section -- Hd
open PySem PySem.W PyProof.Rows
namespace Mine
open_top hd for PySem.Challenge.rw_oy0022_01.row
end Mine

end
section -- B0
theorem Mine.offB0 : True ∧ True := by
  w_top off
  first | (walk1; all_goals trivial) | exact ⟨trivial, trivial⟩
namespace Mine
open PySem PySem.W PyProof.Rows PySem.Spec PySem.Calls

theorem runs_toks {M : Model} {Γ : PySem.Ctx} {p : Pos} {t : Sem Fin} {fs : List Frame} {s : Shared} {e : End} {s' : Shared} (h : Runs M Γ p t fs s e s') : s.toks ≤ s'.toks := by
  induction h with
  | done | raise | yield => exact Nat.le_refl _
  | again _ _ ih | rule _ ih | «at» _ ih | load _ _ ih | loadIfAlive _ ih | point _ ih | ask _ ih | handled _ ih | genState _ _ ih | stack _ ih | thread _ ih => exact ih
  | update _ _ ih | alloc _ ih | choose _ _ ih | os _ ih | newGen _ ih => exact ih
  | fresh _ ih => exact Nat.le_trans (Nat.le_succ _) ih
  | call _ _ ih1 ih2 => exact Nat.le_trans ih1 ih2
  | callSusp _ ih => exact ih
  | resumeFresh _ _ _ _ ih1 ih2 => exact Nat.le_trans (show _ ≤ _ from ih1) ih2
  | resumeSuspended _ _ _ _ ih1 ih2 => exact Nat.le_trans (show _ ≤ _ from ih1) ih2
  | resumeJustStarted _ _ _ ih => exact ih
  | resumeThrowFresh _ _ ih => exact ih
  | resumeRunning _ _ ih => exact ih
  | resumeFinished _ _ ih => exact ih
  | segRet _ _ ih1 ih2 => exact Nat.le_trans ih1 ih2
  | segGen _ _ ih1 ih2 => exact Nat.le_trans ih1 ih2
  | segSuspOut _ _ ih => exact ih
  | segSuspGen _ _ _ _ ih1 ih2 => exact Nat.le_trans ih1 ih2
theorem wakes_toks {M : Model} {Γ : PySem.Ctx} {p : Pos} {g : Nat} {r : Resume} {s : Shared} {res : GenResult} {s' : Shared} (h : Wakes M Γ p g r s res s') : s.toks ≤ s'.toks := by
  unfold Wakes at h
  split at h
  · exact h.elim
  · split at h
    · obtain ⟨e₁, s₁, h1, _, _, rfl⟩ := h; have h2 := runs_toks h1; exact h2
    · obtain ⟨_, rfl⟩ := h; exact Nat.le_refl _
    · obtain ⟨_, rfl⟩ := h; exact Nat.le_refl _
  · obtain ⟨e₁, s₁, h1, _, _, rfl⟩ := h; have h2 := runs_toks h1; exact h2
  · obtain ⟨_, rfl⟩ := h; exact Nat.le_refl _
  · obtain ⟨_, rfl⟩ := h; exact Nat.le_refl _
theorem wp_toks {α : Type} {M : Model} {Γ : PySem.Ctx} {Q : α → Pos → Shared → Prop} {E : Value → Pos → Shared → Prop} (k : Nat) : ∀ (t : Sem α) (p : Pos) (s : Shared), k ≤ s.toks →
    Sem.wp M Γ t (fun a p s' => k ≤ s'.toks → Q a p s') (fun e p s' => k ≤ s'.toks → E e p s') p s → Sem.wp M Γ t Q E p s := by
  intro t
  induction t with
  | pure x => exact fun _ _ h k => k h
  | raise v => exact fun _ _ h k => k h
  | unsupported | finish | yield | fork | await | register => exact fun _ _ _ => id
  | rule _ k ih | «at» _ k ih | alloc _ k ih | loadIfAlive _ k ih | point _ k ih | ask k ih | os _ _ k ih | handled _ k ih | newGen _ k ih | stack k ih | thread k ih => exact fun _ _ h => ih _ _ _ h
  | fresh k ih => exact fun _ _ h => ih _ _ _ (Nat.le_succ_of_le h)
  | load a _ k ih | genState a k ih => exact fun _ _ h ⟨o, ho, q⟩ => ⟨o, ho, ih _ _ _ h q⟩
  | update a _ f k ih | choose _ _ k ih => exact fun _ _ h ⟨ha, q⟩ => ⟨ha, ih _ _ _ h q⟩
  | call c hh g l k ih => exact fun _ _ h ⟨r, s', hr, q⟩ => ⟨r, s', hr, ih _ _ _ (Nat.le_trans h (runs_toks hr)) q⟩
  | resume g r l k ih => exact fun _ _ h ⟨res, s', hw, q⟩ => ⟨res, s', hw, ih _ _ _ (Nat.le_trans h (wakes_toks hw)) q⟩

section
variable {α : Type} {M : Model} {A : Around} {s : Shared} {E : Value → Shared → Prop} {Q : α → Shared → Prop}
/-- what is shown of a run's end may lean on the tokens' growth -/
theorem withToks {t : Sem α} (k : Nat) (hk : k ≤ s.toks) (h : wpAny M A t (fun a s' => k ≤ s'.toks → Q a s') (fun e s' => k ≤ s'.toks → E e s') s) : wpAny M A t Q E s :=
  fun Γ p hΓ => wp_toks k t p s hk (h Γ p hΓ)
end

/-- all that stood stands -/
abbrev Kp (h h' : Heap) : Prop := ∀ b o, h.get? b = some o → h'.get? b = some o

section
variable {prog : Program} {w : World} {A : Around} {s : Shared} {K : Frag} {p : Program} {loose : List Str} {mean : ExcName → Option Value} {mg mb : Str → Option Value}

/-- a def of the text is entered from any state: its base is the heap that stands -/
theorem enterP {R : Result → Shared → Prop} {name qual : Str} {params : Arguments} {body : List Stmt} {scope : Scope} {dV kV doc pm cdv ct oc : Value} {an od : Option Addr} {osl : Array (Option Value)} {f : Addr} {args : Args} (binds : List (Str × Value))
    (X : K.In s.heap) (T : Top p loose mean mg mb s.heap)
    (ho : K.lookup f = some ⟨oc, od, .func (fnOf name qual params body scope dV kV doc pm an cdv ct), osl⟩) (hcd : codeIn K cdv qual = true) (hroom : A.depth < recursionLimit)
    (hbind : BindsTo s (fnOf name qual params body scope dV kV doc pm an cdv ct) args binds) (hloc : ∀ y ∈ binds, scope.names.lookup y.1 = some .local)
    (h : ∀ L h₁, Fr s.heap L h₁ (fun y => binds.reverse.lookup y) → News s.heap L h₁ [] →
      wpAny (model prog w) (A.deeper (envOf qual scope L f cdv)) (execs body (envOf qual scope L f cdv))
        (fun fl s' => R (.ok (.ret (match fl with | .ret v => v | _ => .none))) s')
        (fun e s' => wpAny (model prog w) (A.deeper (envOf qual scope L f cdv)) (leaving (envOf qual scope L f cdv) e) (fun _ s'' => R (.error e) s'') (fun e' s'' => R (.error e') s'') s')
        { s with heap := h₁, toks := s.toks + binds.length })
    (hco : scope.isCoroutine = false) (hgen : scope.isGenerator = false) (hk : scope.kind = .function)
    (hcell : ∀ x ∈ scope.names, x.2 ≠ .cell) : codeAny (model prog w) A (.call (.ref f) args) R s := by
  refine codeAny_call_function hroom (X _ _ ho) rfl hco hgen rfl (codeRec_of X hcd) ?_
  refine hbind _ _ _ _ ?_
  refine wpAny_newFunctionEnv hcell hloc (fun h₁ hns hsb => ⟨T.nolimit.fresh _ hsb, ?_⟩) hk
  show codeAny _ _ (.func body (envOf qual scope s.heap.objs.size f cdv)) _ _
  exact codeAny_func (h s.heap.objs.size h₁ ⟨hns, fun b o e => hsb.extBut b o (Nat.ne_of_lt (Heap.lt_size e)) (Heap.get?_push_of_some _ e), Nat.le_refl _⟩ News.nil)
theorem enterPC {R : Result → Shared → Prop} {name qual : Str} {params : Arguments} {body : List Stmt} {scope : Scope} {dV kV doc pm cdv ct oc : Value} {an od : Option Addr} {osl : Array (Option Value)} {f : Addr} {args : Args} (binds : List (Str × Value))
    (X : K.In s.heap) (T : Top p loose mean mg mb s.heap)
    (ho : K.lookup f = some ⟨oc, od, .func (fnOf name qual params body scope dV kV doc pm an cdv ct), osl⟩) (hcd : codeIn K cdv qual = true) (hroom : A.depth < recursionLimit)
    (hbind : BindsTo s (fnOf name qual params body scope dV kV doc pm an cdv ct) args binds) (hkind : (binds.all fun y => scope.names.lookup y.1 == some .local || scope.names.lookup y.1 == some .cell) = true)
    (hnd : ((cellsFrom 0 scope.names []).map (·.1)).Nodup)
    (h : ∀ L h₁ tk cells, Fr s.heap L h₁ (bindL (envOfC qual scope L f cdv).kindOf binds fun _ => none) → News s.heap L h₁ cells →
      CellsAre (bindC (envOfC qual scope L f cdv).kindOf binds fun _ => none) (cellsFrom (L + 1) scope.names []) cells → s.toks ≤ tk →
      wpAny (model prog w) (A.deeper (envOfC qual scope L f cdv)) (execs body (envOfC qual scope L f cdv))
        (fun fl s' => R (.ok (.ret (match fl with | .ret v => v | _ => .none))) s')
        (fun e s' => wpAny (model prog w) (A.deeper (envOfC qual scope L f cdv)) (leaving (envOfC qual scope L f cdv) e) (fun _ s'' => R (.error e) s'') (fun e' s'' => R (.error e') s'') s')
        { s with heap := h₁, toks := tk })
    (hco : scope.isCoroutine = false) (hgen : scope.isGenerator = false) (hk : scope.kind = .function) : codeAny (model prog w) A (.call (.ref f) args) R s := by
  refine codeAny_call_function hroom (X _ _ ho) rfl hco hgen rfl (codeRec_of X hcd) (hbind _ _ _ _ ?_)
  refine withToks s.toks (Nat.le_refl _) ?_
  refine wpAny_newFunctionEnv_cells hk (kindsX hkind _) fun env' he s' x => ?_
  intro htk
  subst he
  refine ⟨T.nolimit.keeps x.toInCall.keep, codeAny_func ?_⟩
  obtain ⟨h₁, tk, rfl, _⟩ := x.done
  have hk₁ := x.toInCall.keep
  obtain ⟨cells, NC, Y⟩ := Cl.news (h₀ := s.heap) (Nat.le_refl _) fun n c hm => ⟨x.cell n c (lookup_of_mem_nodup (cellsFrom_names scope.names 0 (s.heap.objs.size + 1) [] [] rfl ▸ hnd) hm), x.above n c hm⟩
  exact h s.heap.objs.size h₁ tk cells ⟨x.toInCall.ns, fun b o e => hk₁ b o e, Nat.le_refl _⟩ (fun p hp => NC p hp) Y htk
end
end Mine
namespace Mine
open PySem PySem.W PyProof.Rows PySem.Spec PySem.Calls
/-- a goal that the walk leaves to the hand -/
def Halt (P : Prop) : Prop := P
theorem halt {P : Prop} (h : Halt P) : P := h
theorem Halt.go {P : Prop} (h : P) : Halt P := h
section
variable {M : Model} {A : Around} {E : Value → Shared → Prop} {s : Shared} {Q : Value → Shared → Prop} {scope : Scope} {cl : List (Str × Addr)} {C c : Addr} {env : Env} {m : Str → Option Value} {x : Str} {pos : Pos} {v : Value} {o : Obj}
theorem cn_local (hn : s.heap.Ns C m) (hv : m x = some v) (h : Q v s) (hk : (compEnvC scope cl C env).scope.kind = .function := by rfl) (hl : (compEnvC scope cl C env).kindOf x = some .local := by rfl) (hd : (x == ("__debug__" : Str)) = false := by decide) :
    wpAny M A (eval (.Name x pos) (compEnvC scope cl C env)) Q E s := wpAny_Name (wpAny_loadName_local hk hl hn hv h) hd
theorem cn_cell (ho : s.heap.get? c = some o) (hd' : o.data = .cell (some v)) (h : Q v s) (hc : cl.lookup x = some c := by rfl) (hk : (compEnvC scope cl C env).scope.kind = .function := by rfl) (hl : (compEnvC scope cl C env).kindOf x = some .cell := by rfl) (hd : (x == ("__debug__" : Str)) = false := by decide) :
    wpAny M A (eval (.Name x pos) (compEnvC scope cl C env)) Q E s := wpAny_Name (wpAny_loadName_cell hk hl hc ⟨o, ho, hd'⟩ h) hd
end
end Mine

end
section -- P0
theorem Mine.offP0 : True ∧ True := by
  w_top off
  first | (walk1; all_goals trivial) | exact ⟨trivial, trivial⟩
namespace Mine
open PySem

/-- a text's signs -/
abbrev cp (x : Str) : List Nat := x.cps.toList
theorem cp_len (x : Str) : (cp x).length = x.length := rfl
theorem cp_app (x y : Str) : cp (x ++ y) = cp x ++ cp y := by show (x.cps ++ y.cps).toList = _; simp
theorem cp_inj {x y : Str} (h : cp x = cp y) : x = y := Str.ext' (Array.ext' h)

/-- the pieces between the signs c -/
def spl (c : Nat) : List Nat → List (List Nat)
  | [] => [[]]
  | a :: l => if a = c then [] :: spl c l else match spl c l with
    | p :: r => (a :: p) :: r
    | [] => [[a]]
theorem spl_ne (c : Nat) (l : List Nat) : ∃ p r, spl c l = p :: r := by
  cases l with
  | nil => exact ⟨_, _, rfl⟩
  | cons a l =>
    unfold spl
    split
    · exact ⟨_, _, rfl⟩
    · split <;> exact ⟨_, _, rfl⟩
theorem spl_hit (c : Nat) (l : List Nat) : spl c (c :: l) = [] :: spl c l := by rw [spl, if_pos rfl]
theorem spl_miss {c a : Nat} (h : a ≠ c) {l p : List Nat} {r : List (List Nat)} (e : spl c l = p :: r) : spl c (a :: l) = (a :: p) :: r := by rw [spl, if_neg h, e]
theorem spl_free {c : Nat} : ∀ {l : List Nat}, c ∉ l → spl c l = [l]
  | [], _ => rfl
  | a :: l, h => by
    have h1 : a ≠ c := fun q => h (q ▸ .head _)
    exact spl_miss h1 (spl_free fun q => h (.tail _ q))
theorem spl_app {c : Nat} : ∀ {l : List Nat} (m : List Nat), c ∉ l → spl c (l ++ c :: m) = l :: spl c m
  | [], m, _ => spl_hit c m
  | a :: l, m, h => by
    have h1 : a ≠ c := fun q => h (q ▸ .head _)
    exact spl_miss h1 (spl_app m fun q => h (.tail _ q))
/-- pieces with the sign laid between -/
def ical (z : List Nat) : List (List Nat) → List Nat
  | [] => []
  | [p] => p
  | p :: q :: r => p ++ z ++ ical z (q :: r)
theorem ical_cons (z p : List Nat) {r : List (List Nat)} (h : r ≠ []) : ical z (p :: r) = p ++ z ++ ical z r := by
  cases r with
  | nil => exact absurd rfl h
  | cons q r => rfl
theorem spl_unique {c : Nat} : ∀ {parts : List (List Nat)}, parts ≠ [] → (∀ p ∈ parts, c ∉ p) → spl c (ical [c] parts) = parts
  | [], h, _ => absurd rfl h
  | [p], _, h => spl_free (h p (.head _))
  | p :: q :: r, _, h => by
    show spl c (p ++ [c] ++ ical [c] (q :: r)) = _
    rw [List.append_assoc]
    show spl c (p ++ c :: ical [c] (q :: r)) = _
    rw [spl_app _ (h p (.head _)), spl_unique (by simp) fun x hx => h x (.tail _ hx)]
theorem cp_join (z : Str) : ∀ parts : List Str, cp (Str.join z parts) = ical (cp z) (parts.map cp)
  | [] => rfl
  | [p] => rfl
  | p :: q :: r => by
    show cp (p ++ z ++ Str.join z (q :: r)) = _
    rw [cp_app, cp_app, cp_join z (q :: r)]; rfl
theorem split_ne (x y : Str) : Txt.split x y ≠ [] := by
  unfold Txt.split
  split
  · simp
  · split
    · simp
    · rw [StrLaws.partsBetween_eq]
      obtain ⟨p, r, e⟩ := StrLaws.partsFrom_ne x y.length 0 (Builtin.Str.occurrences x y 0 x.length (x.length + 1))
      rw [e]; simp
theorem cp_split (x : Str) (c : Nat) : (Txt.split x ⟨#[c]⟩).map cp = spl c (cp x) := by
  have h1 : ical [c] ((Txt.split x ⟨#[c]⟩).map cp) = cp x := by
    have := congrArg cp (StrLaws.join_split x ⟨#[c]⟩)
    rwa [cp_join] at this
  rw [← h1]
  refine (spl_unique (by simp [split_ne]) fun p hp => ?_).symm
  obtain ⟨q, hq, rfl⟩ := List.mem_map.mp hp
  exact StrLaws.split_free x c q hq
theorem ical_spl (c : Nat) (z : List Nat) : ∀ l : List Nat, ical z (spl c l) = l.flatMap fun a => if a = c then z else [a]
  | [] => rfl
  | a :: l => by
    obtain ⟨p, r, e⟩ := spl_ne c l
    have ih := ical_spl c z l
    by_cases h : a = c
    · subst h
      rw [spl_hit, ical_cons _ _ (by rw [e]; simp), ih]
      simp
    · rw [spl_miss h e, List.flatMap_cons, if_neg h, ← ih, e]
      cases r with
      | nil => rfl
      | cons q r => rfl
theorem cp_replace (x z : Str) (c : Nat) : cp (Txt.replace x ⟨#[c]⟩ z) = (cp x).flatMap fun a => if a = c then cp z else [a] := by
  rw [StrLaws.replace_one, cp_join, cp_split, ical_spl]
theorem cp_joined (z : Str) (parts : List Str) : cp (Txt.join z parts) = ical (cp z) (parts.map cp) := by
  unfold Txt.join; rw [StrLaws.glued_eq_join, cp_join]
theorem flatMap_len (f : Nat → List Nat) (k : Nat) (h : ∀ a, (f a).length ≤ k) : ∀ l : List Nat, (l.flatMap f).length ≤ k * l.length
  | [] => Nat.zero_le _
  | a :: l => by
    rw [List.flatMap_cons, List.length_append, List.length_cons, Nat.mul_succ]
    have := h a
    have := flatMap_len f k h l
    omega
theorem replace_len (x z : Str) (c k : Nat) (hz : z.length ≤ k) (hk : 1 ≤ k) : (Txt.replace x ⟨#[c]⟩ z).length ≤ k * x.length := by
  rw [← cp_len, cp_replace]
  refine flatMap_len _ k (fun a => ?_) _
  split
  · exact hz
  · exact hk
/-- signs told apart by letters -/
theorem s39 : Str.ofString "'" = ⟨#[39]⟩ := by decide +kernel
theorem s34 : Str.ofString "\"" = ⟨#[34]⟩ := by decide +kernel
theorem s39b : Str.ofString "'\"'\"'" = ⟨#[39, 34, 39, 34, 39]⟩ := by decide +kernel
theorem s34b : Str.ofString "\"\"" = ⟨#[34, 34]⟩ := by decide +kernel
end Mine
namespace Mine
open PySem
/-- a layer: the mark about the text, each of its marks written so -/
def lay (k : Nat) (z l : List Nat) : List Nat := k :: (l.flatMap fun a => if a = k then z else [a]) ++ [k]
def laidL (d : Int) (l : List Nat) : List Nat := if d = 0 then l else if d = 1 then lay 39 [39, 34, 39, 34, 39] l else lay 34 [34, 34] l
def laidF (d : Int) (x : Str) : Str := ⟨(laidL d (cp x)).toArray⟩
theorem cp_laidF (d : Int) (x : Str) : cp (laidF d x) = laidL d (cp x) := by simp [laidF]
theorem ical_nil : ∀ parts : List (List Nat), ical [] parts = parts.flatten
  | [] => rfl
  | [p] => by simp [ical]
  | p :: q :: r => by
    show p ++ [] ++ ical [] (q :: r) = _
    rw [ical_nil (q :: r)]; simp
theorem sum_len (g : Nat → Str) (k : Nat) (h : ∀ a, (g a).length ≤ k) : ∀ l : List Nat, ((l.map g).map (·.length)).sum ≤ k * l.length
  | [] => Nat.zero_le _
  | a :: l => by
    have := h a
    have := sum_len g k h l
    simp only [List.map_cons, List.sum_cons, List.length_cons, Nat.mul_succ]
    omega
/-- the layer that the law's own hand lays -/
theorem lay_signs (k : Nat) (z x : Str) : cp ((⟨#[k]⟩ : Str) ++ Txt.join (Str.ofString "") ((cp x).map fun c => if c = k then z else ⟨#[c]⟩) ++ (⟨#[k]⟩ : Str)) = lay k (cp z) (cp x) := by
  have e : cp (Str.ofString "") = [] := by decide
  rw [cp_app, cp_app, cp_joined, e, ical_nil]
  unfold lay
  have e2 : (((cp x).map fun c => if c = k then z else (⟨#[c]⟩ : Str)).map cp) = (cp x).map fun a => if a = k then cp z else [a] := by
    rw [List.map_map]
    apply List.map_congr_left
    intro a _
    show cp (if a = k then z else ⟨#[a]⟩) = _
    split <;> rfl
  rw [e2, List.flatMap_def]
  rfl
theorem lay_len (k : Nat) (z l : List Nat) (n : Nat) (hz : z.length ≤ n) (hn : 1 ≤ n) : (lay k z l).length ≤ n * l.length + 2 := by
  unfold lay
  have := flatMap_len (fun a => if a = k then z else [a]) n (fun a => by split <;> first | exact hz | exact hn) l
  simp only [List.length_append, List.length_cons, List.length_nil]
  omega
theorem eq_one (c k : Nat) : ((⟨#[c]⟩ : Str) == ⟨#[k]⟩) = decide (c = k) := by
  by_cases h : c = k
  · subst h; simp
  · rw [decide_eq_false h]
    simp [h]
end Mine
namespace Mine
open PySem
theorem join_signs_len (k : Nat) (z x : Str) (hz : z.length ≤ 5) : (Txt.join (Str.ofString "") ((cp x).map fun c => if c = k then z else ⟨#[c]⟩)).length ≤ 5 * x.length + 2 := by
  have e2 := congrArg List.length (lay_signs k z x)
  have e3 := lay_len k (cp z) (cp x) 5 hz (by decide)
  rw [cp_app, cp_app, List.length_append, List.length_append] at e2
  have e4 : (cp (Txt.join (Str.ofString "") ((cp x).map fun c => if c = k then z else ⟨#[c]⟩))).length = (Txt.join (Str.ofString "") ((cp x).map fun c => if c = k then z else ⟨#[c]⟩)).length := rfl
  have e5 : (cp x).length = x.length := rfl
  omega
theorem laid_1 (x : Str) : Str.ofString "'" ++ Txt.join (Str.ofString "") ((cp x).map fun c => if c = 39 then Str.ofString "'\"'\"'" else ⟨#[c]⟩) ++ Str.ofString "'" = laidF 1 x := by
  rw [s39]
  apply cp_inj
  rw [lay_signs, cp_laidF]; rfl
theorem laid_2 (x : Str) : Str.ofString "\"" ++ Txt.join (Str.ofString "") ((cp x).map fun c => if c = 34 then Str.ofString "\"\"" else ⟨#[c]⟩) ++ Str.ofString "\"" = laidF 2 x := by
  rw [s34]
  apply cp_inj
  rw [lay_signs, cp_laidF]; rfl
theorem laid_0 (x : Str) : x = laidF 0 x := by
  apply cp_inj
  rw [cp_laidF]; rfl
end Mine

end
section -- C1
theorem Mine.offC1 : True ∧ True := by
  w_top off
  first | (walk1; all_goals trivial) | exact ⟨trivial, trivial⟩
namespace Mine
open PySem PySem.W PyProof.Rows PySem.Spec PySem.Calls

theorem strsAre_paired {α : Type} {R : α → Value → Prop} {g : α → Str} (hg : ∀ a v, R a v → ∃ u, v = .str (g a) u) : ∀ {l : List α} {vs : List Value}, Paired R l vs → StrsAre vs (l.map g)
  | _, _, .nil => .nil
  | _, _, .cons h r => by
    obtain ⟨u, rfl⟩ := hg _ _ h
    exact .cons _ _ (strsAre_paired hg r)

/-- the sign of a value -/
def signOf : Value → Nat
  | .str ⟨⟨[c]⟩⟩ _ => c
  | _ => 0
theorem signs_of {y : Str} {vs : List Value} (hlen : vs.length = y.cps.size) (hP : ∀ (j : Nat) (v : Value), vs[j]? = some v → SignAt y j v) : vs.map signOf = cp y := by
  apply List.ext_getElem?
  intro j
  rw [List.getElem?_map]
  cases hv : vs[j]? with
  | none =>
    have : vs.length ≤ j := by simpa using hv
    rw [hlen] at this
    exact (List.getElem?_eq_none (by simpa using this)).symm
  | some v =>
    obtain ⟨c, u, hc, rfl⟩ := hP j v hv
    show some c = _
    simpa using hc.symm

section
variable {prog : Program} {w : World} {A : Around} {E : Value → Shared → Prop} {env : Env}

theorem lc_text {s : Shared} {elt iter : Expr} {x : Str} {px : Pos} {ifs : List Expr} {scope : Scope} {cl : List (Str × Addr)} {pos : Pos} {Q : Value → Shared → Prop} (pz : Nat → Bool) (g : Nat → Str) (hh : A.handled = none)
    (hclos : closureFor scope env = pure cl) (hcell : ∀ y ∈ scope.names, y.2 ≠ .cell) (hkind : scope.kind = .function)
    (hnames : ∀ y ∈ scope.names, y.2 = .local → scope.names.lookup y.1 = some .local) (hx : scope.names.lookup x = some .local)
    (h : wpAny (model prog w) A (eval iter env) (fun xv s₁ => ∃ y t, xv = .str y t ∧ y.length ≤ sizeLine ∧
      (∀ C c u s₃ m₃ (E' : Value → Shared → Prop), s₁.heap.objs.size < C → c ∈ cp y → s₃.heap.Ns C m₃ → m₃ x = some (.str ⟨#[c]⟩ u) → Kp s₁.heap s₃.heap → s₁.toks ≤ s₃.toks →
        wpAny (model prog w) A (forIn ifs true fun c r => if r = true then do let ok ← isTrue c (compEnvC scope cl C env) (eval c (compEnvC scope cl C env)); pure (ForInStep.yield ok) else pure (ForInStep.yield r))
          (fun ok s₄ => ok = pz c ∧ Keeps s₃ s₄) E' s₃) ∧
      (∀ C c u s₃ m₃ (E' : Value → Shared → Prop), s₁.heap.objs.size < C → c ∈ cp y → pz c = true → s₃.heap.Ns C m₃ → m₃ x = some (.str ⟨#[c]⟩ u) → Kp s₁.heap s₃.heap → s₁.toks ≤ s₃.toks →
        wpAny (model prog w) A (eval elt (compEnvC scope cl C env)) (fun r s₄ => (∃ u', r = .str (g c) u') ∧ Keeps s₃ s₄) E' s₃) ∧
      (∀ D ys n h' tk, s₁.heap.get? D = none → h'.get? D = some (listOf ys n) → StrsAre ys.toList (((cp y).filter pz).map g) → Kp s₁.heap h' → Q (.ref D) { s₁ with heap := h', toks := tk })) E s)
    (hs : ∀ x, foldedSetIterable iter env x = pure x := by intro _; rfl) :
    wpAny (model prog w) A (eval (.ListComp elt [⟨.Name x px, iter, ifs, 0⟩] scope pos) env) Q E s := by
  refine wpAny_ListComp_free (fun v => pz (signOf v)) (fun v r => ∃ u', r = .str (g (signOf v)) u') hclos hcell hkind hnames hx (wpAny_mono h (fun xv s₁ h₁ => ?_) fun _ _ e => e) hs
  obtain ⟨y, t, rfl, hsz, h1, h2, h3⟩ := h₁
  refine wpAny_pyIter_str fun o St W hst => ?_
  have up : ∀ (h' : Heap), (∀ b o', b ∉ [s₁.heap.objs.size] → (s₁.heap.push o).get? b = some o' → h'.get? b = some o') → Kp s₁.heap h' :=
    fun h' hk b o' e => hk b o' (old_not_new e) (Heap.get?_push_of_some _ e)
  have hin : ∀ {i v}, SignAt y i v → ∃ c u, v = .str ⟨#[c]⟩ u ∧ c ∈ cp y := by
    rintro i v ⟨c, u, hc, rfl⟩
    exact ⟨c, u, rfl, by simpa using Array.mem_of_getElem? hc⟩
  refine ⟨s₁.heap.objs.size, [s₁.heap.objs.size], [s₁.heap.objs.size], y.cps.size, SignAt y, St, rfl, W A hh, hsz, hst, ?_, ⟨?_, ?_⟩, ?_⟩
  · intro b hb
    show b < (s₁.heap.push o).objs.size
    rw [Heap.size_push, List.mem_singleton.mp hb]
    exact Nat.lt_succ_self _
  · intro C i v s₃ m₃ E' hC hP hn hm hk htk
    obtain ⟨c, u, rfl, hc⟩ := hin hP
    exact h1 C c u s₃ m₃ E' (by rw [Heap.size_push] at hC; omega) hc hn hm (up _ hk) htk
  · intro C i v s₃ m₃ E' hC hP hp hn hm hk htk
    obtain ⟨c, u, rfl, hc⟩ := hin hP
    exact h2 C c u s₃ m₃ E' (by rw [Heap.size_push] at hC; omega) hc hp hn hm (up _ hk) htk
  · intro D h' tk ys vs hD hl ⟨n, hpl⟩ hlen hP hF hk
    refine h3 D ys n h' tk ?_ hpl ?_ (up _ hk)
    · cases e : s₁.heap.get? D with
      | none => rfl
      | some o' => rw [Heap.get?_push_of_some _ e] at hD; cases hD
    · have e := strsAre_paired (g := fun v => g (signOf v)) (fun a v hv => hv) hF
      rw [← signs_of hlen hP, List.filter_map, List.map_map]
      exact e
end
end Mine

end
section -- R1
theorem Mine.offR1 : True ∧ True := by
  w_top off
  first | (walk1; all_goals trivial) | exact ⟨trivial, trivial⟩
namespace Mine
open PySem PySem.W PyProof.Rows PySem.Spec PySem.Calls
theorem strsAre_get : ∀ {vs : List Value} {L : List Str}, StrsAre vs L → ∀ {i : Nat} {d : Str}, i < L.length → ∃ t, vs[i]? = some (.str (L.getD i d) t)
  | _, _, .nil, i, d, h => absurd h (Nat.not_lt_zero _)
  | _, _, .cons y t r, 0, d, _ => ⟨t, rfl⟩
  | _, _, .cons y t r, i + 1, d, h => by
    obtain ⟨t', e⟩ := strsAre_get r (d := d) (Nat.lt_of_succ_lt_succ h)
    exact ⟨t', by simpa using e⟩
theorem intsAre_get : ∀ {vs : List Value} {L : List Int}, IntsAre vs L → ∀ {i : Nat} {d : Int}, i < L.length → ∃ t, vs[i]? = some (.int (L.getD i d) t)
  | _, _, .nil, i, d, h => absurd h (Nat.not_lt_zero _)
  | _, _, .cons y t r, 0, d, _ => ⟨t, rfl⟩
  | _, _, .cons y t r, i + 1, d, h => by
    obtain ⟨t', e⟩ := intsAre_get r (d := d) (Nat.lt_of_succ_lt_succ h)
    exact ⟨t', by simpa using e⟩
theorem strsAre_length : ∀ {vs : List Value} {L : List Str}, StrsAre vs L → vs.length = L.length
  | _, _, .nil => rfl
  | _, _, .cons _ _ r => congrArg (· + 1) (strsAre_length r)
section
variable {prog : Program} {w : World} {A : Around} {E : Value → Shared → Prop} {s : Shared} {Q : Value → Shared → Prop} {value slice : Expr} {l : Addr} {items : List Value} {k : Int} {u : Tok}
theorem getD_len {L : List Str} {B i : Nat} (h : ∀ x ∈ L, x.length ≤ B) : (L.getD i (Str.ofString "")).length ≤ B := by
  rw [List.getD_eq_getElem?_getD]
  cases e : L[i]? with
  | none => exact Nat.le_trans (by decide : (Str.ofString "").length ≤ 0) (Nat.zero_le _)
  | some x => exact h x (List.mem_of_getElem? e)
theorem sub_strs {L : List Str} (B : Nat) (hl : s.heap.IsList l items.toArray) (hS : StrsAre items L) (h0 : 0 ≤ k) (h1 : k < (L.length : Int)) (hz : L.length ≤ 16777216) (hB : ∀ x ∈ L, x.length ≤ B)
    (h : ∀ v t, v = L.getD k.toNat (Str.ofString "") → v.length ≤ B → Q (.str v t) s)
    (hs : subscripted slice false (.ref l) (.int k u) = operate [.ref l, .int k u] (getItem (.ref l) (.int k u)) := by with_unfolding_all rfl) :
    wpAny (model prog w) A (subscriptTail value slice (.ref l) (.int k u)) Q E s := by
  obtain ⟨t, e⟩ := strsAre_get hS (i := k.toNat) (d := Str.ofString "") (by omega)
  exact tail_any hl.typeIs slot_list_getitem.lookup (wpAny_getItem_list hl h0 (by omega) (by simpa using e) (h _ t rfl (getD_len hB))) hs
theorem sub_ints {L : List Int} (hl : s.heap.IsList l items.toArray) (hS : IntsAre items L) (h0 : 0 ≤ k) (h1 : k < (L.length : Int)) (hz : L.length ≤ 16777216) (h : ∀ t, Q (.int (L.getD k.toNat 0) t) s)
    (hs : subscripted slice false (.ref l) (.int k u) = operate [.ref l, .int k u] (getItem (.ref l) (.int k u)) := by with_unfolding_all rfl) :
    wpAny (model prog w) A (subscriptTail value slice (.ref l) (.int k u)) Q E s := by
  obtain ⟨t, e⟩ := intsAre_get hS (i := k.toNat) (d := 0) (by omega)
  exact tail_any hl.typeIs slot_list_getitem.lookup (wpAny_getItem_list hl h0 (by omega) (by simpa using e) (h t)) hs
theorem addS {x y : Str} {t u : Tok} {a b : Nat} (hx : x.length ≤ a) (hy : y.length ≤ b) (hz : Nat.ble (a + b) 16777216 = true)
    (h : ∀ v t' k, v = x ++ y → v.length ≤ a + b → Q (.str v t') ⟨s.heap, s.gens, s.drawn, k, s.os⟩) :
    wpAny (model prog w) A (binaryOp .Add (.str x t) (.str y u)) Q E s :=
  have hab : x.length + y.length ≤ a + b := Nat.add_le_add hx hy
  SBL.add (hsz := by rw [sizeLine_eq]; exact Nat.le_trans hab (Nat.le_of_ble_eq_true hz)) fun t' k _ => h _ t' k rfl (by rw [Str.length_append]; exact hab)
theorem itemS {x : Str} {t u : Tok} (h0 : 0 ≤ k) (h1 : k < (x.length : Int)) (hx : x.length ≤ 16777216) (h : ∀ v t' tk, v = Txt.item x k → v.length ≤ 1 → Q (.str v t') ⟨s.heap, s.gens, s.drawn, tk, s.os⟩)
    (hs : subscripted slice false (.str x t) (.int k u) = operate [.str x t, .int k u] (getItem (.str x t) (.int k u)) := by with_unfolding_all rfl)
    (ht : ∀ r, letTemporaryGo value (.str x t) r = pure () := by intro _; with_unfolding_all rfl) :
    wpAny (model prog w) A (subscriptTail value slice (.str x t) (.int k u)) Q E s :=
  item_str (fitsSsize_of (N := 9223372036854775808) (by omega) (by omega) (Int.le_refl _)) (by omega) h1 (fun e => h _ _ _ rfl (by omega)) hs ht
theorem strI {n : Int} {t : Tok} (hlo : -10000000 < n) (hhi : n < 10000000) (h : ∀ v t' tk, v = Str.ofString (toString n) → v.length ≤ 8 → Q (.str v t') ⟨s.heap, s.gens, s.drawn, tk, s.os⟩) :
    wpAny (model prog w) A (call (.type "str") [.int n t]) Q E s := by
  refine str_of_int_fit (N := 10000000) (by split <;> omega) (by decide) fun _ => h _ _ _ rfl ?_
  rw [PySem.ofString_length]
  exact int_text_length_le10 (k := 7) (by decide) (by omega)
theorem cp_mul (x : Str) (n : Int) : cp (Txt.mul x n) = (List.replicate n.toNat (cp x)).flatten := by
  have fold : ∀ (m : Nat) (a : Array Nat), ((List.replicate m x.cps).foldl (· ++ ·) a).toList = a.toList ++ (List.replicate m (cp x)).flatten := by
    intro m
    induction m with
    | zero => intro a; simp
    | succ m ih => intro a; rw [List.replicate_succ, List.foldl_cons, ih, List.replicate_succ, List.flatten_cons, ← List.append_assoc]; simp
  unfold Txt.mul
  split
  · rename_i h
    have : n.toNat = 0 := by omega
    rw [this]; rfl
  · split
    · rename_i h1 h2
      rcases (Bool.or_eq_true _ _).mp h2 with q | q
      · have : n = 1 := by simpa using q
        subst this
        simp
      · have hx : cp x = [] := List.length_eq_zero_iff.mp (by rw [cp_len]; simpa using q)
        rw [hx]
        simp
    · exact (fold _ #[]).trans (by simp)
theorem mulS {x : Str} {t u : Tok} {n : Int} (hx : x.length ≤ 1) (h0 : 0 ≤ n) (hn : n ≤ 8) (h : ∀ v t' k, v = Txt.mul x n → v.length ≤ 8 → Q (.str v t') ⟨s.heap, s.gens, s.drawn, k, s.os⟩) :
    wpAny (model prog w) A (binaryOp .Mult (.str x t) (.int n u)) Q E s := by
  refine SB.mul (mulOk_of 1 8 hx (by omega) (by omega) (by decide) (by decide)) fun t' k => h _ t' k rfl ?_
  rw [← cp_len, cp_mul, List.length_flatten]
  simp only [List.map_replicate, List.sum_replicate_nat]
  rw [cp_len]
  have h1 : n.toNat ≤ 8 := by omega
  calc n.toNat * x.length ≤ 8 * 1 := Nat.mul_le_mul h1 hx
    _ = 8 := rfl
end
theorem fm_lo (a : Int) {b : Int} (h : 0 < b) : 0 ≤ a.fmod b := Int.fmod_nonneg_of_pos a h
theorem fm_hi (a : Int) {b : Int} (h : 0 < b) : a.fmod b < b := Int.fmod_lt_of_pos a h
end Mine
namespace Mine
open PySem PySem.W PyProof.Rows PySem.Spec PySem.Calls
section
variable {prog : Program} {w : World} {A : Around} {E : Value → Shared → Prop} {hp : Heap} {gs : Array GenState} {dr : Drawn} {tk : Nat} {os : OsState} {Q : Value → Shared → Prop} {value slice : Expr} {k : Int}
def Small (n : Nat) : Prop := Nat.ble n 16777216 = true
theorem addE {x y : Str} {t u : Tok} {a b : Nat} (hx : x.length ≤ a) (hy : y.length ≤ b) (hz : Small (a + b))
    (h : ∀ v t' k, v = x ++ y → v.length ≤ a + b → Q (.str v t') ⟨hp, gs, dr, k, os⟩) :
    wpAny (model prog w) A (binaryOp .Add (.str x t) (.str y u)) Q E ⟨hp, gs, dr, tk, os⟩ := addS hx hy hz h
theorem itemE {x : Str} {t u : Tok} (h0 : 0 ≤ k) (h1 : k < (x.length : Int)) (hx : x.length ≤ 16777216) (h : ∀ v t' tk, v = Txt.item x k → v.length ≤ 1 → Q (.str v t') ⟨hp, gs, dr, tk, os⟩)
    (hs : subscripted slice false (.str x t) (.int k u) = operate [.str x t, .int k u] (getItem (.str x t) (.int k u)) := by with_unfolding_all rfl)
    (ht : ∀ r, letTemporaryGo value (.str x t) r = pure () := by intro _; with_unfolding_all rfl) :
    wpAny (model prog w) A (subscriptTail value slice (.str x t) (.int k u)) Q E ⟨hp, gs, dr, tk, os⟩ := itemS h0 h1 hx h hs ht
theorem strE {n : Int} {t : Tok} (hlo : -10000000 < n) (hhi : n < 10000000) (h : ∀ v t' tk, v = Str.ofString (toString n) → v.length ≤ 8 → Q (.str v t') ⟨hp, gs, dr, tk, os⟩) :
    wpAny (model prog w) A (call (.type "str") [.int n t]) Q E ⟨hp, gs, dr, tk, os⟩ := strI hlo hhi h
theorem mulE {x : Str} {t u : Tok} {n : Int} (hx : x.length ≤ 1) (h0 : 0 ≤ n) (hn : n ≤ 8) (h : ∀ v t' k, v = Txt.mul x n → v.length ≤ 8 → Q (.str v t') ⟨hp, gs, dr, k, os⟩) :
    wpAny (model prog w) A (binaryOp .Mult (.str x t) (.int n u)) Q E ⟨hp, gs, dr, tk, os⟩ := mulS hx h0 hn h
end
section
variable {M : Model} {A : Around} {E : Value → Shared → Prop} {s : Shared} {name : Str} {scope : Scope} {L a : Addr} {cd : Value} {h₀ : Heap} {m : Str → Option Value} {news : List (Addr × Obj)}
end
end Mine

end
section -- L1
theorem Mine.offL1 : True ∧ True := by
  w_top off
  first | (walk1; all_goals trivial) | exact ⟨trivial, trivial⟩
namespace Mine
open PySem PySem.W PyProof.Rows PySem.Spec PySem.Calls
section
variable {prog : Program} {w : World} {A : Around} {E : Value → Shared → Prop} {s : Shared} {env : Env} {h₀ : Heap} {x : Str} {body : List Stmt} {Q : Flow → Shared → Prop}

theorem it_walk {I : Addr} {fp wr : List Addr} {n : Nat} {P : Nat → Value → Prop} {St : Nat → Heap → Prop} {m₀ : Str → Option Value} {news : List (Addr × Obj)} (J : Nat → (Str → Option Value) → Prop)
    (W : Walks prog w A I fp wr n P St) (hLf : env.locals ∉ fp) (hwr : ∀ b ∈ wr, h₀.get? b = none) (hnw : ∀ p ∈ news, p.1 ∉ wr) (hst : St 0 s.heap) (F : Fr h₀ env.locals s.heap m₀) (N : News h₀ env.locals s.heap news) (hj : J 0 m₀)
    (turn : ∀ i v m₁ h tk own, i < n → P i v → J i m₁ → Fr h₀ env.locals h (fun y => if y = x then some v else m₁ y) → News h₀ env.locals h (own ++ news) →
      wpAny (model prog w) A (execs body env) (InvPost h₀ env.locals (J (i + 1)) (own ++ news) { s with heap := h, toks := tk } Q) E { s with heap := h, toks := tk })
    (done : ∀ m₁ h tk, J n m₁ → Fr h₀ env.locals h m₁ → News h₀ env.locals h news → Q .next { s with heap := h, toks := tk }) :
    LoopAtV prog w A h₀ env x body Q E (.ref I) s := by
  let J' : Nat → (Str → Option Value) → List (Addr × Obj) → Prop := fun i m₁ news₁ => news₁ = news ∧ J i m₁
  refine ⟨I, fp, wr, n, P, St, m₀, news, J', rfl, W, hLf, hwr, hnw, hst, F, N, ⟨rfl, hj⟩, ?_, ?_⟩
  · rintro i v m₁ news₁ s₁ own ⟨hh', tk', rfl⟩ hin hP ⟨rfl, hJ⟩ hoff _ _ _ _ F₁ N₁
    refine wpAny_mono (turn i v m₁ hh' tk' own hin hP hJ F₁ N₁) (fun f s₂ p => ?_) fun _ _ e => e
    have fin : InvEnd h₀ env.locals (J (i + 1)) (own ++ news₁) { s with heap := hh', toks := tk' } s₂ → LoopStepU h₀ env.locals wr own (J' (i + 1)) { s with heap := hh', toks := tk' } .next s₂ := by
      rintro ⟨h', tk, m', news', e, F', N', hn, hm⟩
      exact ⟨rfl, h', tk, m', news₁, e, F', fun p hp => N' p (hn p hp), hoff, rfl, hm⟩
    cases f with
    | ret v => exact .ret p
    | brk => exact .brk p
    | next => exact .next (fin p)
    | cont => exact .cont (fin p)
  · rintro h' tk m' news' F' N' _ ⟨rfl, hJ⟩
    exact done m' h' tk hJ F' N'

/-- a loop over a list of values -/
theorem it_list {l : Addr} {vs : List Value} {m₀ : Str → Option Value} {news : List (Addr × Obj)} (J : Nat → (Str → Option Value) → Prop)
    (hh : A.handled = none) (hl : s.heap.IsList l vs.toArray) (hlL : l ≠ env.locals) (F : Fr h₀ env.locals s.heap m₀) (N : News h₀ env.locals s.heap news) (hj : J 0 m₀)
    (turn : ∀ i v m₁ h tk own, i < vs.length → vs[i]? = some v → J i m₁ → Fr h₀ env.locals h (fun y => if y = x then some v else m₁ y) → News h₀ env.locals h (own ++ news) →
      wpAny (model prog w) A (execs body env) (InvPost h₀ env.locals (J (i + 1)) (own ++ news) { s with heap := h, toks := tk } Q) E { s with heap := h, toks := tk })
    (done : ∀ m₁ h tk, J vs.length m₁ → Fr h₀ env.locals h m₁ → News h₀ env.locals h news → Q .next { s with heap := h, toks := tk }) :
    wpAny (model prog w) A (pyIter (.ref l)) (fun it s₂ => LoopAtV prog w A h₀ env x body Q E it s₂) E s := by
  obtain ⟨ol, hol, _⟩ := id hl
  have hne : l ≠ s.heap.objs.size := Nat.ne_of_lt (Heap.lt_size hol)
  refine wpAny_pyIter_list hl ?_
  have W := Walks.list (prog := prog) (w := w) hh s.heap.objs.size l hne vs.toArray
  rw [List.size_toArray] at W
  refine it_walk J W ?_ ?_ ?_ ⟨⟨_, Heap.get?_push_size _ rfl, rfl, rfl⟩, hl.at fun o e => Heap.get?_push_of_some _ e⟩ (F.push _) (fun p hp => ⟨Heap.get?_push_of_some _ (N p hp).1, (N p hp).2⟩) hj ?_ ?_
  · intro hm
    rcases List.mem_cons.mp hm with e | hm
    · exact absurd F.ns.lt (e ▸ Nat.lt_irrefl _)
    · exact hlL (List.mem_singleton.mp hm).symm
  · intro b hb
    rw [List.mem_singleton.mp hb]
    exact next_is_new F
  · intro p hp hI
    exact absurd (Heap.lt_size (N p hp).1) ((List.mem_singleton.mp hI) ▸ Nat.lt_irrefl _)
  · intro i v m₁ h tk own hi hP hJ F' N'
    exact turn i v m₁ h tk own hi (by simpa using hP) hJ F' N'
  · exact fun m₁ h tk hJ F' N' => done m₁ h tk hJ F' N'

theorem it_strs {l : Addr} {vs : List Value} {L : List Str} {m₀ : Str → Option Value} {news : List (Addr × Obj)} (J : Nat → (Str → Option Value) → Prop)
    (hh : A.handled = none) (hl : s.heap.IsList l vs.toArray) (hS : StrsAre vs L) (hlL : l ≠ env.locals) (F : Fr h₀ env.locals s.heap m₀) (N : News h₀ env.locals s.heap news) (hj : J 0 m₀)
    (turn : ∀ i y t m₁ h tk own, L[i]? = some y → J i m₁ → Fr h₀ env.locals h (fun z => if z = x then some (.str y t) else m₁ z) → News h₀ env.locals h (own ++ news) →
      wpAny (model prog w) A (execs body env) (InvPost h₀ env.locals (J (i + 1)) (own ++ news) { s with heap := h, toks := tk } Q) E { s with heap := h, toks := tk })
    (done : ∀ m₁ h tk, J L.length m₁ → Fr h₀ env.locals h m₁ → News h₀ env.locals h news → Q .next { s with heap := h, toks := tk }) :
    wpAny (model prog w) A (pyIter (.ref l)) (fun it s₂ => LoopAtV prog w A h₀ env x body Q E it s₂) E s := by
  refine it_list J hh hl hlL F N hj ?_ ?_
  · intro i v m₁ h tk own hi hv hJ F' N'
    rw [strsAre_length hS] at hi
    obtain ⟨t, e⟩ := strsAre_get hS (d := Str.ofString "") hi
    rw [hv] at e
    cases e
    refine turn i _ t m₁ h tk own ?_ hJ F' N'
    rw [List.getD_eq_getElem?_getD, List.getElem?_eq_getElem hi]; rfl
  · rw [strsAre_length hS]; exact done

theorem it_signs {y : Str} {t : Tok} {m₀ : Str → Option Value} {news : List (Addr × Obj)} (J : Nat → (Str → Option Value) → Prop)
    (hh : A.handled = none) (F : Fr h₀ env.locals s.heap m₀) (N : News h₀ env.locals s.heap news) (hj : J 0 m₀)
    (turn : ∀ i c u m₁ h tk own, (cp y)[i]? = some c → J i m₁ → Fr h₀ env.locals h (fun z => if z = x then some (.str ⟨#[c]⟩ u) else m₁ z) → News h₀ env.locals h (own ++ news) →
      wpAny (model prog w) A (execs body env) (InvPost h₀ env.locals (J (i + 1)) (own ++ news) { s with heap := h, toks := tk } Q) E { s with heap := h, toks := tk })
    (done : ∀ m₁ h tk, J (cp y).length m₁ → Fr h₀ env.locals h m₁ → News h₀ env.locals h news → Q .next { s with heap := h, toks := tk }) :
    wpAny (model prog w) A (pyIter (.str y t)) (fun it s₂ => LoopAtV prog w A h₀ env x body Q E it s₂) E s := by
  refine wpAny_pyIter_str fun o St W hst => ?_
  refine it_walk J (W A hh) ?_ ?_ ?_ hst (F.push _) (fun p hp => ⟨Heap.get?_push_of_some _ (N p hp).1, (N p hp).2⟩) hj ?_ ?_
  · intro hm
    exact absurd F.ns.lt ((List.mem_singleton.mp hm) ▸ Nat.lt_irrefl _)
  · intro b hb
    rw [List.mem_singleton.mp hb]
    exact next_is_new F
  · intro p hp hI
    exact absurd (Heap.lt_size (N p hp).1) ((List.mem_singleton.mp hI) ▸ Nat.lt_irrefl _)
  · rintro i v m₁ h tk own hi ⟨c, u, hc, rfl⟩ hJ F' N'
    exact turn i c u m₁ h tk own (by simpa using hc) hJ F' N'
  · intro m₁ h tk hJ F' N'
    exact done m₁ h tk hJ F' N'

/-- a list comprehension over a list of texts, stored under a name -/
theorem la_strs {s : Shared} {elt iter : Expr} {y₀ : Str} {px py spos : Pos} {ifs : List Expr} {scope : Scope} {cl : List (Str × Addr)} {pos : Pos} (pz : Str → Bool) (g : Str → Str) (hh : A.handled = none)
    (hsw : swapsWith (.ListComp elt [⟨.Name x px, iter, ifs, 0⟩] scope pos) (some (.Name y₀ py)) spos.line env = pure true) (hclos : closureFor scope env = pure cl) (hcell : ∀ y ∈ scope.names, y.2 ≠ .cell) (hkind : scope.kind = .function)
    (hnames : ∀ y ∈ scope.names, y.2 = .local → scope.names.lookup y.1 = some .local) (hx : scope.names.lookup x = some .local)
    (hy : env.kindOf y₀ = some .local) (hp : (env.scope.kind == .class || (env.scope.kind == .module && env.locals != env.globals)) = false)
    (h : wpAny (model prog w) A (eval iter env) (fun xv s₁ => ∃ l vs L m news, xv = .ref l ∧ Fr h₀ env.locals s₁.heap m ∧ News h₀ env.locals s₁.heap news ∧ s₁.heap.IsList l (Array.mk vs) ∧ StrsAre vs L ∧ L.length ≤ sizeLine ∧
      (∀ C y u s₃ m₃ (E' : Value → Shared → Prop), s₁.heap.objs.size < C → y ∈ L → s₃.heap.Ns C m₃ → m₃ x = some (.str y u) → Kp s₁.heap s₃.heap → s₁.toks ≤ s₃.toks →
        wpAny (model prog w) A (forIn ifs true fun c r => if r = true then do let ok ← isTrue c (compEnvC scope cl C env) (eval c (compEnvC scope cl C env)); pure (ForInStep.yield ok) else pure (ForInStep.yield r))
          (fun ok s₄ => ok = pz y ∧ Keeps s₃ s₄) E' s₃) ∧
      (∀ C y u s₃ m₃ (E' : Value → Shared → Prop), s₁.heap.objs.size < C → y ∈ L → pz y = true → s₃.heap.Ns C m₃ → m₃ x = some (.str y u) → Kp s₁.heap s₃.heap → s₁.toks ≤ s₃.toks →
        wpAny (model prog w) A (eval elt (compEnvC scope cl C env)) (fun r s₄ => (∃ u', r = .str (g y) u') ∧ Keeps s₃ s₄) E' s₃) ∧
      (∀ D ys n h' tk, s₁.heap.get? D = none → h'.get? D = some (listOf ys n) → StrsAre ys.toList ((L.filter pz).map g) → Fr h₀ env.locals h' (fun z => if z = y₀ then some (.ref D) else m z) → News h₀ env.locals h' ((D, listOf ys n) :: news) → Q .next { s₁ with heap := h', toks := tk })) E s)
    (hs : ∀ x, foldedSetIterable iter env x = pure x := by intro _; rfl) :
    wpAny (model prog w) A (exec (.Assign [.Name y₀ py] (.ListComp elt [⟨.Name x px, iter, ifs, 0⟩] scope pos) spos) env) Q E s := by
  let tx : Value → Str := fun v => match v with | .str y _ => y | _ => Str.ofString ""
  refine wpAny_Assign_ListComp_free (fun v => pz (tx v)) (fun v r => ∃ u', r = .str (g (tx v)) u') hsw hclos hcell hkind hnames hx hy hp (wpAny_mono h (fun xv s₁ h₁ => ?_) fun _ _ e => e) hs
  obtain ⟨l, vs, L, m, news, rfl, F, N, hl, hS, hsz, h1, h2, h3⟩ := h₁
  obtain ⟨ol, hol, _⟩ := id hl
  have hne : l ≠ s₁.heap.objs.size := Nat.ne_of_lt (Heap.lt_size hol)
  have hln := strsAre_length hS
  refine wpAny_pyIter_list hl ?_
  have W := Walks.list (prog := prog) (w := w) hh s₁.heap.objs.size l hne (Array.mk vs)
  have up : ∀ (o : Obj) (h' : Heap), (∀ b o', b ∉ [s₁.heap.objs.size] → (s₁.heap.push o).get? b = some o' → h'.get? b = some o') → Kp s₁.heap h' :=
    fun o h' hk b o' e => hk b o' (old_not_new e) (Heap.get?_push_of_some _ e)
  have hin : ∀ {i : Nat} {v : Value}, (Array.mk vs)[i]? = some v → ∃ y u, v = .str y u ∧ L[i]? = some y := by
    intro i v hv
    have hv' : vs[i]? = some v := by simpa using hv
    have hi : i < L.length := by rw [← hln]; exact (List.getElem?_eq_some_iff.mp hv').1
    obtain ⟨t, e⟩ := strsAre_get hS (d := Str.ofString "") hi
    rw [hv'] at e
    cases e
    exact ⟨_, _, rfl, by rw [List.getD_eq_getElem?_getD, List.getElem?_eq_getElem hi]; rfl⟩
  refine ⟨s₁.heap.objs.size, _, _, _, _, _, m, rfl, W, by simpa [hln] using hsz, ⟨⟨_, Heap.get?_push_size _ rfl, rfl, rfl⟩, hl.at fun o e => Heap.get?_push_of_some _ e⟩, ?_, ?_, (F.push _).ns, ⟨?_, ?_⟩, ?_⟩
  · intro b hb
    show b < (s₁.heap.push _).objs.size
    rw [Heap.size_push]
    rcases List.mem_cons.mp hb with e | hb
    · rw [e]; exact Nat.lt_succ_self _
    · rw [List.mem_singleton.mp hb]; exact Nat.lt_succ_of_lt (Heap.lt_size hol)
  · intro hm
    exact absurd F.ns.lt ((List.mem_singleton.mp hm) ▸ Nat.lt_irrefl _)
  · intro C i v s₃ m₃ E' hC hP hn hm hk htk
    obtain ⟨y, u, rfl, hc⟩ := hin hP
    exact h1 C y u s₃ m₃ E' (by rw [Heap.size_push] at hC; omega) (List.mem_of_getElem? hc) hn hm (up _ _ hk) htk
  · intro C i v s₃ m₃ E' hC hP hp hn hm hk htk
    obtain ⟨y, u, rfl, hc⟩ := hin hP
    exact h2 C y u s₃ m₃ E' (by rw [Heap.size_push] at hC; omega) (List.mem_of_getElem? hc) hp hn hm (up _ _ hk) htk
  · intro D h' tk ys us hD hl' ⟨n, hpl⟩ hlen hP hF hns hk
    have hD' : s₁.heap.get? D = none := by
      cases e : s₁.heap.get? D with
      | none => rfl
      | some o' => rw [Heap.get?_push_of_some _ e] at hD; cases hD
    have hk' : ∀ b o, b ≠ env.locals → s₁.heap.get? b = some o → h'.get? b = some o := fun b o hb e => hk b o hb (old_not_new e) (Heap.get?_push_of_some _ e)
    have hDL : D ≠ env.locals := by
      rintro rfl
      obtain ⟨o, _, _, ho, _⟩ := F.ns
      rw [hD'] at ho; cases ho
    refine h3 D ys n h' tk hD' hpl ?_ ⟨hns, fun b o e => hk' b o (Nat.ne_of_lt (Nat.lt_of_lt_of_le (Heap.lt_size e) F.above)) (F.keep b o e), F.above⟩ ?_
    · have e := strsAre_paired (g := fun v => g (tx v)) (fun a v hv => hv) hF
      have hL : us.map tx = L := by
        apply List.ext_getElem?
        intro j
        rw [List.getElem?_map]
        cases hv : us[j]? with
        | none =>
          have : us.length ≤ j := by simpa using hv
          have h9 : us.length = vs.length := by simpa using hlen
          exact (List.getElem?_eq_none (by omega)).symm
        | some v =>
          obtain ⟨y, u, rfl, hc⟩ := hin (hP j v hv)
          exact hc.symm
      rw [← hL, List.filter_map, List.map_map]
      exact e
    · intro q hq
      rcases List.mem_cons.mp hq with rfl | hq
      · refine ⟨hpl, hDL, ?_⟩
        cases e : h₀.get? D with
        | none => rfl
        | some o => rw [F.keep _ _ e] at hD'; cases hD'
      · exact ⟨hk' _ _ (N q hq).2.1 (N q hq).1, (N q hq).2⟩
end
end Mine
namespace Mine
open PySem PySem.W PyProof.Rows PySem.Spec PySem.Calls PySem.SeqAt
theorem put_eq {m : Str → Option Value} {k : Str} {v : Value} (h : m k = some v) : m = fun z => if z = k then some v else m z := by
  funext z
  by_cases e : z = k
  · rw [if_pos e, e, h]
  · rw [if_neg e]
theorem readsAll_of_strs {h : Heap} : ∀ {vs : List Value} {ns : List Str}, StrsAre vs ns → ReadsAll h vs (ns.map PyData.str) []
  | _, _, .nil => .nil
  | _, _, .cons k t r => by
    have := ReadsAll.cons (Reads.str (h := h) k t) (readsAll_of_strs (h := h) r)
    simpa using this
theorem reads_of_strs {h : Heap} {a : Addr} {vs : List Value} {ns : List Str} (hl : h.IsList a vs.toArray) (hi : StrsAre vs ns) : Reads h (.ref a) (.list (ns.map PyData.str)) [a] := by
  obtain ⟨o, ho, hc, n, hd⟩ := hl
  exact Reads.list ho hc hd (by simpa using readsAll_of_strs hi)
theorem canLayAll0_strs : ∀ ns : List Str, (∀ y ∈ ns, PyData.strOk y = true) → PyData.canLayAll0 (ns.map PyData.str) = true
  | [], _ => by simp [PyData.canLayAll0]
  | n :: r, h => by
    have h1 := canLayAll0_strs r fun y hy => h y (List.mem_cons_of_mem _ hy)
    have h2 := h n List.mem_cons_self
    simp [PyData.canLayAll0, PyData.canLay0, h1, h2]
theorem strOk_of {x : Str} (h : ∀ c ∈ cp x, c < 1114112) : PyData.strOk x = true := by
  unfold PyData.strOk
  rw [Array.all_eq_true']
  intro c hc
  exact decide_eq_true (h c (by simpa using hc))
theorem depthAll_strs : ∀ ns : List Str, PyData.depthAll (ns.map PyData.str) ≤ 1
  | [] => by simp [PyData.depthAll]
  | n :: r => by
    have := depthAll_strs r
    simp only [List.map_cons, PyData.depthAll, PyData.depth]
    omega
theorem shaped_strs (ns : List Str) (hok : ∀ y ∈ ns, PyData.strOk y = true) : shaped (.list (ns.map PyData.str)) = true := by
  have h1 := depthAll_strs ns
  have h2 : PyData.depth (.list (ns.map PyData.str)) ≤ 64 := by simp only [PyData.depth]; omega
  show (PyData.canLay0 (.list (ns.map PyData.str)) && decide (PyData.depth (.list (ns.map PyData.str)) ≤ 64)) = true
  rw [Bool.and_eq_true]
  exact ⟨by simp only [PyData.canLay0]; exact canLayAll0_strs ns hok, decide_eq_true h2⟩
theorem ne_strs_nil {prog : Program} {w : World} {A : Around} {E : Value → Shared → Prop} {s : Shared} {a b : Addr} {vs : List Value} {ns : List Str} {Q : Value → Shared → Prop} (hl : s.heap.IsList a vs.toArray) (hi : StrsAre vs ns) (hl' : s.heap.IsList b #[]) (hok : ∀ y ∈ ns, PyData.strOk y = true) (hu : A.units + 64 < cLine)
    (h : Q (.bool (!decide (ns = []))) s) : wpAny (model prog w) A (compareOp .NotEq (.ref a) (.ref b)) Q E s := by
  refine ne_dataH (reads_of_strs hl hi) (reads_of_strs (vs := []) (ns := []) hl' .nil) (shaped_strs ns hok) (by decide) hu ?_
  have e : PyData.eqv (.list (ns.map PyData.str)) (.list (([] : List Str).map PyData.str)) = decide (ns = []) := by
    cases ns <;> simp [PyData.eqv, PyData.eqvAll]
  rw [e]
  exact h
theorem news_fresh {h₀ hp h2 : Heap} {L D : Addr} {m : Str → Option Value} {o : Obj} {news : List (Addr × Obj)} (F : Fr h₀ L hp m) (hD : hp.get? D = none) (ho : h2.get? D = some o) (N : News h₀ L h2 news) : News h₀ L h2 ((D, o) :: news) := by
  intro q hq
  rcases List.mem_cons.mp hq with rfl | hq
  · refine ⟨ho, ?_, ?_⟩
    · rintro rfl
      obtain ⟨o, _, _, ho, _⟩ := F.ns
      rw [hD] at ho; cases ho
    · cases e : h₀.get? D with
      | none => rfl
      | some o => rw [F.keep _ _ e] at hD; cases hD
  · exact N q hq
end Mine

end
section -- W0
theorem Mine.offW0 : True ∧ True := by
  w_top off
  first | (walk1; all_goals trivial) | exact ⟨trivial, trivial⟩
namespace Mine
open PySem PySem.W PyProof.Rows PySem.Spec PySem.Calls
open Sem (wp)
/-- the claim's caller is on the stack -/
def Claimed (Γ : PySem.Ctx) : Prop := (Γ.code.isCaller || Γ.below.any fun (q : Code × Pos) => q.1.isCaller) = true
def ClaimedBelow (Γ : PySem.Ctx) : Prop := (Γ.below.any fun (q : Code × Pos) => q.1.isCaller) = true
theorem ClaimedBelow.up {Γ : PySem.Ctx} (h : ClaimedBelow Γ) : Claimed Γ := by unfold Claimed; unfold ClaimedBelow at h; rw [h, Bool.or_true]
/-- as wpAny, where the claim's caller is known to be on the stack -/
def wpC {α : Type} (M : Model) (A : Around) (t : Sem α) (Q : α → Shared → Prop) (E : Value → Shared → Prop) (s : Shared) : Prop :=
  ∀ Γ p, Γ.In A → Claimed Γ → wp M Γ t (fun a _ s' => Q a s') (fun e _ s' => E e s') p s
def codeC (M : Model) (A : Around) (c : Code) (R : Result → Shared → Prop) (s : Shared) : Prop :=
  ∀ Γ p, Γ.code = c → Γ.Below A → ClaimedBelow Γ → wpCode M Γ R p s

section
variable {α β : Type} {M : Model} {A : Around} {E : Value → Shared → Prop} {s : Shared}
theorem ofAny {t : Sem α} {Q : α → Shared → Prop} (h : wpAny M A t Q E s) : wpC M A t Q E s := fun Γ p hΓ _ => h Γ p hΓ
theorem codeOfAny {c : Code} {R : Result → Shared → Prop} (h : codeAny M A c R s) : codeC M A c R s := fun Γ p hc hΓ _ => h Γ p hc hΓ
theorem wpC_pure {a : α} {Q : α → Shared → Prop} (h : Q a s) : wpC M A (pure a) Q E s := fun _ _ _ _ => h
theorem wpC_mono {t : Sem α} {Q Q' : α → Shared → Prop} {E' : Value → Shared → Prop} (h : wpC M A t Q E s)
    (hQ : ∀ a s, Q a s → Q' a s) (hE : ∀ e s, E e s → E' e s) : wpC M A t Q' E' s :=
  fun Γ p hΓ hC => Sem.wp_mono M Γ t (fun a _ s => hQ a s) (fun e _ s => hE e s) p s (h Γ p hΓ hC)
theorem wpC_bind {m : Sem α} {f : α → Sem β} {Q : β → Shared → Prop} (h : wpC M A m (fun a s' => wpC M A (f a) Q E s') E s) :
    wpC M A (m >>= f) Q E s := fun Γ p hΓ hC => by
  rw [Sem.wp_bind']
  exact Sem.wp_mono M Γ m (fun a p' s' h' => h' Γ p' hΓ hC) (fun _ _ _ h' => h') p s (h Γ p hΓ hC)
theorem wpC_onRaise {m : Sem α} {k : Value → Sem Unit} {Q : α → Shared → Prop}
    (h : wpC M A m Q (fun e s' => wpC M A (k e) (fun _ s'' => E e s'') E s') s) : wpC M A (m.onRaise k) Q E s := fun Γ p hΓ hC => by
  rw [Sem.wp_onRaise]
  exact Sem.wp_mono M Γ m (fun _ _ _ h' => h') (fun e p' s' h' => h' Γ p' hΓ hC) p s (h Γ p hΓ hC)
theorem wpC_attempt {m : Sem α} {Q : Except Value α → Shared → Prop} (h : wpC M A m (fun a => Q (.ok a)) (fun e => Q (.error e)) s) :
    wpC M A m.attempt Q E s := fun Γ p hΓ hC => by rw [Sem.wp_attempt]; exact h Γ p hΓ hC
theorem wpC_holding {vs : List Value} {m : Sem α} {Q : α → Shared → Prop} (h : wpC M A m Q E s) : wpC M A (holding vs m) Q E s :=
  fun Γ p hΓ hC => by rw [Sem.wp_holding]; exact h Γ p hΓ hC
theorem wpC_standAt {pos : Pos} {Q : Unit → Shared → Prop} (h : Q () s) : wpC M A (standAt pos) Q E s := fun _ _ _ _ => h
theorem claimed_enter {Γ : PySem.Ctx} {c : Code} {h : Option Value} {p : Pos} (hC : Claimed Γ) : ClaimedBelow (Γ.enter c h p) := by
  show (((Γ.code, p) :: Γ.below).any fun (q : Code × Pos) => q.1.isCaller) = true
  rw [List.any_cons]; exact hC
theorem wpC_run {c : Code} {h : Option Value} {Q : Flow → Shared → Prop}
    (hc : codeC M (A.mark h) c (fun r s' => match r with | .ok f => Q f s' | .error e => E e s') s) (hnb : h ≠ some byPass := by intro x; cases x) :
    wpC M A (run c h) Q E s :=
  fun Γ p hΓ hC => by rw [Sem.wp_run]; exact hc _ p rfl (hΓ.enter c h p hnb) (claimed_enter hC)
theorem wpC_runValue {c : Code} {Q : Value → Shared → Prop}
    (hc : codeC M A c (fun r s' => match r with | .ok (.ret v) => Q v s' | .ok _ => False | .error e => E e s') s) :
    wpC M A (runValue c) Q E s := fun Γ p hΓ hC => by rw [Sem.wp_runValue]; exact hc _ p rfl (hΓ.enter c none p (by intro x; cases x)) (claimed_enter hC)
theorem wpC_call {f : Value} {pos : List Value} {kw : List (Str × Value)} {Q : Value → Shared → Prop}
    (hc : codeC M A (.call f ⟨pos, kw⟩) (fun r s' => match r with | .ok (.ret v) => Q v s' | .ok _ => False | .error e => E e s') s) :
    wpC M A (call f pos kw) Q E s := wpC_runValue hc
theorem codeC_of_tree {c : Code} {R : Result → Shared → Prop}
    (h : wpC M (A.under c) (M.den c) (fun fin s' => match fin with | .done f => R (.ok f) s' | .again c' => c'.quiet = true ∧ codeC M A c' R s')
      (fun e s' => R (.error e) s') s) : codeC M A c R s := fun Γ p hc hΓ hC => by
  rw [wpCode_iff_wp, hc]
  refine Sem.wp_mono M Γ _ (fun fin p' s' h' => ?_) (fun _ _ _ h' => h') p s (h Γ p (hc ▸ hΓ.in) hC.up)
  cases fin with
  | done f => exact h'
  | again c' => exact ⟨h'.1, h'.2 (Γ.goto c') p' rfl (hΓ.goto c') hC⟩
theorem codeC_loop' {c : Code} {R : Result → Shared → Prop} (hq : c.quiet = true) (I : Nat → Shared → Prop)
    (turn : ∀ n s, I n s → wpC M (A.under c) (M.den c)
      (fun fin s' => match fin with
        | .done f => R (.ok f) s'
        | .again c' => (c' = c ∧ ∃ m, m < n ∧ I m s') ∨ (c'.quiet = true ∧ codeC M A c' R s')) (fun e s' => R (.error e) s') s)
    (n : Nat) (h : I n s) : codeC M A c R s := by
  induction n using Nat.strongRecOn generalizing s with
  | ind n ih =>
    refine codeC_of_tree (wpC_mono (turn n s h) (fun fin s' hf => ?_) fun _ _ h' => h')
    cases fin with
    | done f => exact hf
    | again c' =>
      rcases hf with ⟨rfl, m, hm, hI⟩ | hf
      · exact ⟨hq, ih m hm hI⟩
      · exact hf
theorem wpC_runOwn {env : Env} {c : Code} {h : Option Value} {Q : Flow → Shared → Prop}
    (hc : codeC M (A.mark h) c (fun r s' => match r with | .ok f => Q f s' | .error e => cameBackBy M A env E e s') s) (hnb : h ≠ some byPass := by intro x; cases x) :
    wpC M A (runOwn c env h) Q E s := by
  unfold runOwn
  refine wpC_onRaise (wpC_mono (wpC_run hc hnb) (fun _ _ h' => h') fun e s' h' => ofAny ?_)
  exact h'
theorem wpC_execs_cons {env : Env} {st : Stmt} {rest : List Stmt} {Q : Flow → Shared → Prop}
    (h : wpC M A (exec st env) (fun f s' => match f with | .next => wpC M A (execs rest env) Q E s' | f => Q f s') E s) :
    wpC M A (execs (st :: rest) env) Q E s := fun Γ p hΓ hC => by
  rw [execs_cons, Sem.wp_bind']
  refine Sem.wp_mono M Γ _ (fun f p' s' h' => ?_) (fun _ _ _ h' => h') _ _ (h Γ p hΓ hC)
  cases f <;> first | exact h' Γ p' hΓ hC | exact h'
/-- the stack's answer -/
theorem wpC_stack {Q : List (Code × Pos) → Shared → Prop}
    (h : ∀ st : List (Code × Pos), (st.any fun (q : Code × Pos) => q.1.isCaller) = true → (∀ l, A.frames = some l → envsOf st = l) → Q st s) : wpC M A stack Q E s := fun Γ p hΓ hC => by
  show Q ((Γ.code, p) :: Γ.below) s
  exact h _ (by rw [List.any_cons]; exact hC) (fun l hl => by rw [envsOf_cons]; exact hΓ.2.2.1 l hl)
end
/-- where the claim's caller is on the stack, a refusal leaves no mark -/
theorem no_mark {M : Model} {A : Around} {E : Value → Shared → Prop} {s : Shared} {own : List String} {e : Value} {Q : Unit → Shared → Prop} (h : Q () s) : wpC M A (markTheRefusal own e) Q E s := by
  unfold markTheRefusal
  refine wpC_bind (wpC_stack fun st hst _ => ?_)
  have hp : pythonCodeMadeTheCall own (st.map (·.1)) = false := by
    have key : ∀ b c d : Bool, b = true → ((!b && c) && d) = false := by intro b c d hb; subst hb; rfl
    exact key _ _ _ (by rw [List.any_map]; exact hst)
  rw [hp]
  exact wpC_pure h
end Mine

end
section -- W1
theorem Mine.offW1 : True ∧ True := by
  w_top off
  first | (walk1; all_goals trivial) | exact ⟨trivial, trivial⟩
namespace Mine
open PySem PySem.W PyProof.Rows PySem.Spec PySem.Calls PySem.NumText
section
variable {prog : Program} {w : World} {A : Around} {E : Value → Shared → Prop} {s : Shared}
/-- what the refusal runs, behind the reading -/
theorem refuse_tail {x : PySem.Str} {u : Tok} {Q : Value → Shared → Prop} (hl : x.length ≤ 640) (hh : A.handled = none) (hxc : ∀ c ∈ cp x, c < 16 ^ 8)
    (h : ∀ h' tk e, Heap.NewExc s.heap h' e "ValueError" → E (.ref e) { s with heap := h', toks := tk }) :
    wpC (model prog w) A (do
      rule "int.__new__.invalid-literal"
      let shown ← pyRepr (Value.str x u)
      let m ← mkStr (Str.ofString (toString "invalid literal for int() with base " ++ toString 10 ++ toString ": ") ++ { cps := shown.cps.extract 0 200 })
      let refusal ← newExc (Value.type "ValueError") [m]
      markTheRefusal ["int.__new__"] refusal
      raiseNew refusal : Sem Value) Q E s := by
  have hz : (reprText x).length ≤ sizeLine := Nat.le_trans (StrLaws.reprText_len x hxc) (Nat.le_trans (Nat.add_le_add_right (Nat.mul_le_mul_left 10 hl) 2) (by decide))
  refine wpC_bind (ofAny (wpAny_rule ?_))
  refine wpC_bind (ofAny (wpAny_pyRepr_str ?_ hz))
  refine wpC_bind (ofAny (wpAny_mkStr ?_ ?_))
  · refine wpC_bind (ofAny (wpAny_newExc_plain plainExc_ValueError ?_))
    intro h' e hx
    refine wpC_bind (no_mark ?_)
    refine ofAny (wpAny_raiseNew_none hh ?_)
    exact h h' _ e hx.newExc
  · rw [Str.length_append]
    have h1 : (⟨(reprText x).cps.extract 0 200⟩ : Str).length ≤ 200 := by
      show ((reprText x).cps.extract 0 200).size ≤ 200
      rw [Array.size_extract]; omega
    exact Nat.le_trans (Nat.add_le_add_left h1 _) (by decide +kernel)
theorem refuse_text {x : PySem.Str} {u : Tok} {Q : Value → Shared → Prop} (hl : x.length ≤ 640) (hn : PySem.intText? x = none) (hh : A.handled = none) (hxc : ∀ c ∈ cp x, c < 16 ^ 8)
    (h : ∀ h' tk e, Heap.NewExc s.heap h' e "ValueError" → E (.ref e) { s with heap := h', toks := tk }) :
    wpC (model prog w) A ((int_private% "intFromText") (.str x u) (numTextOf x) 10) Q E s := by
  have hs : (numSeenOf x).length ≤ 640 := Nat.le_trans (seen_length x) hl
  have hr := read0 x hs
  rw [hn] at hr
  have hdec : (List.takeWhile (fun x => x != 0) (numTextOf x)).length.decLe 640 = isTrue hs := by
    cases Nat.decLe (List.takeWhile (fun x => x != 0) (numTextOf x)).length 640 with
    | isTrue _ => rfl
    | isFalse h => exact absurd hs h
  conv => arg 3; whnf
  rw [hdec]
  rcases hr with ⟨n, e, _⟩ | ⟨_, hi | ⟨i, hi, hne⟩⟩
  · cases e
  · conv => arg 3; whnf
    rw [show List.takeWhile (fun x => x != 0) (numTextOf x) = numSeenOf x from rfl, hi]
    exact refuse_tail hl hh hxc h
  · conv => arg 3; whnf
    rw [show List.takeWhile (fun x => x != 0) (numTextOf x) = numSeenOf x from rfl, hi]
    dsimp only
    rw [if_neg hne]
    exact refuse_tail hl hh hxc h
end
end Mine

end
section -- W2
theorem Mine.offW2 : True ∧ True := by
  w_top off
  first | (walk1; all_goals trivial) | exact ⟨trivial, trivial⟩
namespace Mine
open PySem PySem.W PyProof.Rows PySem.Spec PySem.Calls PySem.NumText
section
variable {prog : Program} {w : World} {A : Around} {E : Value → Shared → Prop} {s : Shared}
theorem refuse_new {x : PySem.Str} {u : Tok} {Q : Fin → Shared → Prop} (hl : x.length ≤ 640) (hn : PySem.intText? x = none) (hh : A.handled = none) (hxc : ∀ c ∈ cp x, c < 16 ^ 8)
    (h : ∀ h' tk e, Heap.NewExc s.heap h' e "ValueError" → E (.ref e) { s with heap := h', toks := tk }) : wpC (model prog w) A (Builtin.«int.__new__» ⟨[.type "int", .str x u], []⟩) Q E s := by
  have f1 := F.conv_sub_int
  have f2 := F.madeHere_int
  unfold Builtin.«int.__new__»
  dsimp only
  refine wpC_bind (ofAny ?_)
  repeat wp_step
  refine wpC_bind (ofAny ?_)
  repeat wp_step
  refine wpC_bind (ofAny ?_)
  repeat (first | assumption | wp_step)
  have g1 : (Value.type "int" == Value.type "int") = true := by decide
  simp only [g1, List.isEmpty_nil, List.length_cons, List.length_nil, Bool.and_true, Bool.true_and]
  rw [if_neg (show ¬ decide (0 + 1 > 2) = true by exact (by decide : ¬ decide (0 + 1 > 2) = true))]
  rw [if_neg (by omega)]
  simp only [List.forIn_nil, pure_bind, List.head?_cons, List.head?_nil, if_true]
  refine wpC_bind (α := Value) ?_
  clear f1 f2 g1
  exact refuse_text hl hn hh hxc h
end
end Mine

end
section -- W3
theorem Mine.offW3 : True ∧ True := by
  w_top off
  first | (walk1; all_goals trivial) | exact ⟨trivial, trivial⟩
namespace Mine
open PySem PySem.W PyProof.Rows PySem.Spec PySem.Calls PySem.NumText
section
variable {prog : Program} {w : World} {A : Around} {E : Value → Shared → Prop} {s : Shared} {R : Result → Shared → Prop}
theorem codeC_builtin {id : String} {args : Args} {b : Builtin} (hb : entryFor table id = some b)
    (h : wpC (model prog w) (A.under (.builtin id args)) (b args)
      (fun fin s' => match fin with | .done f => R (.ok f) s' | .again c' => c'.quiet = true ∧ codeC (model prog w) A c' R s') (fun e s' => R (.error e) s') s) :
    codeC (model prog w) A (.builtin id args) R s := by
  refine codeC_of_tree ?_
  show wpC _ _ (match entryFor table id with | some b => b args | none => unsupported ((withoutEnding? id "#data").getD id)) _ _ s
  rw [hb]; exact h
theorem codeC_call_builtin {id : String} {args : Args} {b : Builtin} (hq : plainId id = true) (hb : entryFor table id = some b) (hk : checkBuiltinCall id args = pure ())
    (h : wpC (model prog w) A.in1 (b args)
      (fun fin s' => match fin with | .done f => R (.ok f) s' | .again c' => c'.quiet = true ∧ codeC (model prog w) A c' R s') (fun e s' => R (.error e) s') s) :
    codeC (model prog w) A (.call (.builtin id) args) R s := by
  refine codeC_of_tree ?_
  show wpC _ A.in1 (do checkBuiltinCall id args; again (.builtin id args)) _ _ s
  refine wpC_bind (ofAny (wpAny_of_eq hk ?_))
  refine wpC_pure (And.intro (plainId_quiet hq args) (codeC_builtin hb ?_))
  rw [Around.under_plainId hq args]
  exact h
theorem call_refuse {x : PySem.Str} {u : Tok} {Q : Value → Shared → Prop} (hl : x.length ≤ 640) (hn : PySem.intText? x = none) (hh : A.handled = none) (hxc : ∀ c ∈ cp x, c < 16 ^ 8)
    (h : ∀ h' tk e, Heap.NewExc s.heap h' e "ValueError" → E (.ref e) { s with heap := h', toks := tk }) : wpC (model prog w) A (call (.type "int") [.str x u]) Q E s := by
  have ft := F.called_int
  obtain ⟨c, tl, hmro⟩ := ft.mro
  have hmade := ft.made
  have hsub := ft.sub
  refine wpC_call (codeC_of_tree ?_)
  show wpC _ _ (callAny (.type "int") _) _ _ _
  refine wpC_pure ⟨Code.quiet_builtin _ (by decide +kernel), codeC_builtin F.entry_type_call ?_⟩
  rw [Around.under_plain (weight_type_call_type "int" _ []) (units_type_call_type "int" _ [])]
  have h1 := ft.notType
  have h2 := ft.canCreate
  have hct := F.typeCall_int_1 (.str x u)
  unfold Builtin.«type.__call__»
  dsimp only
  simp only [h1, h2, Bool.false_and, Bool.false_eq_true, if_false]
  refine wpC_bind (ofAny (wpAny_of_eq hct ?_))
  refine wpC_bind (ofAny (wpAny_of_eq hmro ?_))
  simp only [List.isEmpty_cons, Bool.false_eq_true, if_false]
  refine wpC_bind (ofAny (wpAny_of_eq hmade ?_))
  dsimp only
  refine wpC_bind (wpC_pure ?_)
  refine wpC_bind (wpC_holding (wpC_call ?_))
  refine codeC_call_builtin ft.plain F.entry_int_new (F.newCall_int_1 _) ?_
  refine refuse_new hl hn hh hxc ?_
  exact h
end
end Mine

end
section -- W4
theorem Mine.offW4 : True ∧ True := by
  w_top off
  first | (walk1; all_goals trivial) | exact ⟨trivial, trivial⟩
namespace Mine
open PySem PySem.W PyProof.Rows PySem.Spec PySem.Calls
section
variable {prog : Program} {w : World} {A : Around} {E : Value → Shared → Prop} {s : Shared} {R : Result → Shared → Prop}
theorem codeC_func {body : List Stmt} {env : Env}
    (h : wpC (model prog w) (A.deeper env) (execs body env) (fun f s' => R (.ok (.ret (match f with | .ret v => v | _ => .none))) s')
      (fun e s' => wpAny (model prog w) (A.deeper env) (leaving env e) (fun _ s'' => R (.error e) s'') (fun e' s'' => R (.error e') s'') s') s) :
    codeC (model prog w) A (.func body env) R s := by
  refine codeC_of_tree ?_
  show wpC _ (A.deeper env) (do point; match ← (execs body env).onRaise (leaving env) with | .ret v => ret v | _ => ret .none) _ _ s
  refine wpC_bind (ofAny (wpAny_point (wpC_bind (wpC_onRaise (wpC_mono h (fun f s' h' => ?_) fun _ _ h' => ofAny h')))))
  cases f <;> exact wpC_pure h'
theorem codeC_call_function {a : Addr} {args : Args} {o : Obj} {fd : FuncData} {body : List Stmt} (hroom : A.depth < recursionLimit)
    (ho : s.heap.get? a = some o)
    (hd' : o.data = .func fd) (hco : fd.scope.isCoroutine = false) (hgen : fd.scope.isGenerator = false) (hbody : fd.body = .stmts body) (hcd : s.heap.CodeRec fd.code fd.qualname)
    (h : wpAny (model prog w) A.in1 (bindArgs fd args) (fun binds s₁ =>
      wpAny (model prog w) A.in1 (newFunctionEnv fd.scope fd.globals fd.closure binds (fd.qualname ++ ".<locals>.") (some a) fd.code none fd.builtins)
        (fun env s₂ => s₂.heap.NoLimit ∧ codeC (model prog w) A (.func body env) R s₂) (fun e s' => R (.error e) s') s₁) (fun e s' => R (.error e) s') s) :
    codeC (model prog w) A (.call (.ref a) args) R s := by
  refine codeC_of_tree ?_
  show wpC _ A.in1 (callAny (.ref a) args) _ _ s
  simp only [callAny]
  refine wpC_bind (ofAny (wpAny_load ho ?_))
  obtain ⟨c, oc, vs, tq, hc, hoc, hdc, hq⟩ := hcd
  simp only [hd', callFunction, hco, hgen, hbody, hc]
  rw [hc] at h
  refine wpC_bind (m := field (.ref c) 1) (ofAny (wpAny_field hoc hdc hq (wpC_bind (wpC_pure ?_))))
  exact wpC_bind (ofAny (wpAny_mono h (fun binds s₁ h₁ => wpC_bind (ofAny (wpAny_mono h₁ (fun env s₂ h₂ => wpC_bind (ofAny (wpAny_enterFrame h₂.1 hroom
    (wpC_pure (And.intro rfl h₂.2))))) fun _ _ h' => h'))) fun _ _ h' => h'))
end
section
variable {prog : Program} {w : World} {A : Around} {s : Shared} {K : Frag} {p : Program} {loose : List Str} {mean : ExcName → Option Value} {mg mb : Str → Option Value}
/-- enterP, where the claim's caller is on the stack -/
theorem enterPC2 {R : Result → Shared → Prop} {name qual : Str} {params : Arguments} {body : List Stmt} {scope : Scope} {dV kV doc pm cdv ct oc : Value} {an od : Option Addr} {osl : Array (Option Value)} {f : Addr} {args : Args} (binds : List (Str × Value))
    (X : K.In s.heap) (T : Top p loose mean mg mb s.heap)
    (ho : K.lookup f = some ⟨oc, od, .func (fnOf name qual params body scope dV kV doc pm an cdv ct), osl⟩) (hcd : codeIn K cdv qual = true) (hroom : A.depth < recursionLimit)
    (hbind : BindsTo s (fnOf name qual params body scope dV kV doc pm an cdv ct) args binds) (hloc : ∀ y ∈ binds, scope.names.lookup y.1 = some .local)
    (h : ∀ L h₁, Fr s.heap L h₁ (fun y => binds.reverse.lookup y) → News s.heap L h₁ [] →
      wpC (model prog w) (A.deeper (envOf qual scope L f cdv)) (execs body (envOf qual scope L f cdv))
        (fun fl s' => R (.ok (.ret (match fl with | .ret v => v | _ => .none))) s')
        (fun e s' => wpAny (model prog w) (A.deeper (envOf qual scope L f cdv)) (leaving (envOf qual scope L f cdv) e) (fun _ s'' => R (.error e) s'') (fun e' s'' => R (.error e') s'') s')
        { s with heap := h₁, toks := s.toks + binds.length })
    (hco : scope.isCoroutine = false) (hgen : scope.isGenerator = false) (hk : scope.kind = .function)
    (hcell : ∀ x ∈ scope.names, x.2 ≠ .cell) : codeC (model prog w) A (.call (.ref f) args) R s := by
  refine codeC_call_function hroom (X _ _ ho) rfl hco hgen rfl (codeRec_of X hcd) ?_
  refine hbind _ _ _ _ ?_
  refine wpAny_newFunctionEnv hcell hloc (fun h₁ hns hsb => ⟨T.nolimit.fresh _ hsb, ?_⟩) hk
  show codeC _ _ (.func body (envOf qual scope s.heap.objs.size f cdv)) _ _
  exact codeC_func (h s.heap.objs.size h₁ ⟨hns, fun b o e => hsb.extBut b o (Nat.ne_of_lt (Heap.lt_size e)) (Heap.get?_push_of_some _ e), Nat.le_refl _⟩ News.nil)
end
end Mine

end
section -- W5
theorem Mine.offW5 : True ∧ True := by
  w_top off
  first | (walk1; all_goals trivial) | exact ⟨trivial, trivial⟩
namespace Mine
open PySem PySem.W PyProof.Rows PySem.Spec PySem.Calls
section
variable {M : Model} {A : Around} {E : Value → Shared → Prop} {s : Shared} {env : Env}
theorem wpC_Assign_Name {x : Str} {pos' pos : Pos} {value : Expr} {Q : Flow → Shared → Prop}
    (h : wpC M A (eval value env) (fun v s₁ => wpAny M A (storeName env x v) (fun _ s' => Q .next s') E s₁) E s)
    (hs : swapsWith value (some (.Name x pos')) pos.line env = pure false := by rfl) :
    wpC M A (exec (.Assign [.Name x pos'] value pos) env) Q E s := fun Γ p hΓ hC => by
  simp only [exec_Assign_Name env x pos' value pos hs, Sem.wp_bind', Sem.wp_cmd_standAt, Sem.wp_bindName, Sem.wp_pure']
  exact Sem.wp_mono M Γ _ (fun v _ s₁ h₁ => h₁ Γ _ hΓ) (fun _ _ _ h' => h') _ _ (h Γ _ hΓ hC)
theorem wpC_Call_name {x : Str} {np pos : Pos} {es : List Expr} {Q : Value → Shared → Prop}
    (h : wpAny M A (eval (.Name x np) env) (fun f s₁ => wpC M A (callWith pos f [] (backTo pos (starEach es env)) (backToKw pos (keywordEach [] env))) Q E s₁) E s) :
    wpC M A (eval (.Call (.Name x np) es [] pos) env) Q E s := by
  show wpC M A (do callWith pos (← eval (.Name x np) env) [] (backTo pos (starEach es env)) (backToKw pos (keywordEach [] env))) Q E s
  exact wpC_bind (ofAny h)
theorem wpC_callWith_type {pos : Pos} {T : String} {first : List Value} {args : List (Bool × Sem Value)} {Q : Value → Shared → Prop}
    (hplain : args.any (·.1) = false)
    (h : wpAny M A (evalArgs (.type T) true args []) (fun a s₁ => wpC M A (call (.type T) (first ++ a.pos) a.kw) Q E s₁) E s) :
    wpC M A (callWith pos (.type T) first args []) Q E s := by
  unfold callWith
  refine wpC_bind (wpC_holding (ofAny (wpAny_mono h (fun a s₁ h₁ => wpC_bind (wpC_standAt ?_)) fun _ _ x => x)))
  simp only [hplain, List.any_nil, Bool.or_false]
  refine wpC_bind (wpC_pure ?_)
  exact wpC_bind (wpC_mono h₁ (fun r s₂ hr => wpC_bind (wpC_holding (ofAny (wpAny_point (wpC_pure hr))))) fun _ _ x => x)
end
end Mine

end
section -- W6
theorem Mine.offW6 : True ∧ True := by
  w_top off
  first | (walk1; all_goals trivial) | exact ⟨trivial, trivial⟩
namespace Mine
open PySem PySem.W PyProof.Rows PySem.Spec PySem.Calls
section
variable {M : Model} {A : Around} {E : Value → Shared → Prop} {s : Shared} {env : Env}
/-- the left side of the test lies on the path -/
theorem wpC_isTrue_Compare1 {l r whole : Expr} {op : CmpOp} {pos : Pos} {wh : Sem Value} {Q : Bool → Shared → Prop}
    (h : wpC M A (eval l env) (fun a s₁ => wpAny M A (eval r env) (fun b s₂ => wpAny M A (compareOp op a b)
      (fun c s₃ => wpAny M A (truthy c) Q E s₃) E s₂) E s₁) E s)
    (hm : behindInMarks op r = false := by with_unfolding_all rfl) : wpC M A (isTrue (.Compare l [op] [r] pos) env wh) Q E s := fun Γ p hΓ hC => by
  simp only [isTrue_Compare1, markedBehindIn_of_false hm, Sem.wp_bind', Sem.wp_holding, Sem.wp_cmd_standAt, Sem.wp_operate]
  exact Sem.wp_mono M Γ _ (fun a p₁ s₁ h₁ => Sem.wp_mono M Γ _ (fun b _ s₂ h₂ => Sem.wp_mono M Γ _ (fun c p₃ s₃ h₃ => h₃ Γ p₃ hΓ)
    (fun _ _ _ h' => h') _ _ (h₂ Γ _ hΓ)) (fun _ _ _ h' => h') _ _ (h₁ Γ p₁ hΓ)) (fun _ _ _ h' => h') _ _ (h Γ p hΓ hC)
theorem wpC_If {test : Expr} {body orelse : List Stmt} {pos : Pos} {Q : Flow → Shared → Prop}
    (h : wpC M A (isTrue test env (eval test env))
      (fun b s₂ => if b then wpC M A (execs body env) Q E s₂ else wpC M A (execs orelse env) Q E s₂) E s) :
    wpC M A (exec (.If test body orelse pos) env) Q E s := fun Γ p hΓ hC => by
  simp only [exec_If, Sem.wp_bind', Sem.wp_cmd_standAt]
  refine Sem.wp_mono M Γ _ (fun b p₂ s₂ h₂ => ?_) (fun _ _ _ h' => h') _ _ (h Γ _ hΓ hC)
  cases b <;> exact h₂ Γ p₂ hΓ hC
theorem wpC_tryStmt_except {body orelse : Sem Flow} {h₀ : ExceptHandler} {hs : List ExceptHandler} {Q : Flow → Shared → Prop}
    (h : wpC M A body (fun f s₁ => match f with | .next => wpAny M A orelse Q E s₁ | f => Q f s₁)
      (fun e s₁ => wpAny M A (noteFrame e env) (fun _ s₂ => wpAny M A (setFlight e none) (fun _ s₃ => wpAny M A (handleBy e env (h₀ :: hs)) Q E s₃) E s₂) E s₁) s) :
    wpC M A (tryStmt false body (h₀ :: hs) orelse [] env) Q E s := by
  unfold tryStmt
  simp only [List.isEmpty_nil, if_true, List.isEmpty_cons, Bool.false_and, Bool.false_eq_true, if_false]
  refine wpC_bind (wpC_attempt (wpC_mono h (fun f s₁ h₁ => ?_) fun e s₁ h₁ => ?_))
  · cases f <;> first | exact ofAny h₁ | exact wpC_pure h₁
  · exact ofAny (wpAny_bind (wpAny_mono h₁ (fun _ _ h₂ => wpAny_bind h₂) fun _ _ x => x))
theorem wpC_keep {α : Type} {vs : List Value} {m : Sem α} {Q : α → Shared → Prop} (h : wpC M A m Q E s) : wpC M A (m.keep vs) Q E s :=
  fun Γ p hΓ hC => by rw [Sem.wp_keep]; exact h Γ p hΓ hC
theorem wpC_callWith_function {pos : Pos} {a : Addr} {o : Obj} {fd : FuncData} {first : List Value} {args : List (Bool × Sem Value)} {Q : Value → Shared → Prop}
    (h : wpAny M A (evalArgs (.ref a) true args []) (fun x s₁ => (s₁.heap.get? a = some o ∧ o.data = .func fd) ∧ wpC M A (call (.ref a) (first ++ x.pos) x.kw) Q E s₁) E s) (hs : args.any (·.1) = false) :
    wpC M A (callWith pos (.ref a) first args []) Q E s := by
  unfold callWith
  refine wpC_bind (wpC_holding (ofAny (wpAny_mono h (fun x s₁ h₁ => wpC_bind (wpC_standAt ?_)) fun _ _ x => x)))
  have tail : ∀ {t : Sem Value}, wpC M A t Q E s₁ → wpC M A (t >>= fun r => holding [r] point >>= fun _ => pure r) Q E s₁ :=
    fun ht => wpC_bind (wpC_mono ht (fun r s₂ hr => wpC_bind (wpC_holding (ofAny (wpAny_point (wpC_pure hr))))) fun _ _ x => x)
  simp only [hs, List.any_nil, Bool.or_false]
  refine wpC_bind (m := keeperOf (.ref a)) ?_
  unfold keeperOf
  refine wpC_bind (ofAny (wpAny_load h₁.1.1 ?_))
  rw [h₁.1.2]
  refine wpC_pure ?_
  all_goals (try unfold callMarked)
  repeat' (first | exact tail h₁.2 | exact tail (wpC_keep h₁.2) | split)
end
section
variable {prog : Program} {w : World} {A : Around} {E : Value → Shared → Prop} {s : Shared} {env : Env}
theorem wpC_Try_except {body orelse : List Stmt} {h₀ : ExceptHandler} {hs : List ExceptHandler} {pos : Pos} {Q : Flow → Shared → Prop}
    (h : wpC (model prog w) A (execs body env) (fun f s₁ => match f with | .next => wpAny (model prog w) A (execs orelse env) Q E s₁ | f => Q f s₁)
      (fun e s₁ => wpAny (model prog w) A (noteFrame e env) (fun _ s₂ => wpAny (model prog w) A (setFlight e none) (fun _ s₃ => wpAny (model prog w) A (handleBy e env (h₀ :: hs)) Q E s₃) E s₂) E s₁) s) :
    wpC (model prog w) A (exec (.Try body (h₀ :: hs) orelse [] pos) env) Q E s := by
  rw [arm_exec_Try]
  exact wpC_bind (wpC_standAt (wpC_tryStmt_except h))
theorem wpC_noted {α : Type} {m : Sem α} {Q : α → Shared → Prop} (h : wpC (model prog w) A m Q (notedBy (model prog w) A env E) s) : wpC (model prog w) A (m.onRaise fun x => do noteFrame x env; theTreesLotGoes x) Q E s :=
  wpC_onRaise (wpC_mono h (fun _ _ q => q) fun _ _ hx => ofAny (wpAny_bind (wpAny_mono hx (fun _ _ e => wpAny_theTreesLotGoes e) fun _ _ e => e)))
theorem codeC_forLoop {R : Result → Shared → Prop} {target : Expr} {it : Value} {body : List Stmt} (I : Nat → Shared → Prop)
    (turn : ∀ n s, I n s → wpAny (model prog w) A (pyNext it) (fun r s₁ => match r with
      | none => R (.ok .next) s₁
      | some v => wpAny (model prog w) A (assign target env v) (fun _ s₂ => wpC (model prog w) A (execs body env) (fun f s₃ => match f with
          | .next | .cont => ∃ m, m < n ∧ I m s₃
          | .brk => R (.ok .next) s₃
          | .ret v => R (.ok (.ret v)) s₃) (notedBy (model prog w) A env fun e s' => R (.error e) s') s₂) (notedBy (model prog w) A env fun e s' => R (.error e) s') s₁) (notedBy (model prog w) A env fun e s' => R (.error e) s') s)
    (n : Nat) (h : I n s) (ht : ∀ v, letOwnedTupleGo target it v = pure () := by intro _; rfl) : codeC (model prog w) A (.forLoop target it body [] env) R s := by
  refine codeC_loop' rfl I (fun n s hI => ?_) n h
  show wpC _ _ ((forTurn target it body [] env).onRaise (fun x => do noteFrame x env; theTreesLotGoes x)) _ _ s
  refine wpC_noted ?_
  simp only [forTurn]
  refine wpC_bind (wpC_standAt (wpC_bind (ofAny (wpAny_onRaise (wpAny_mono (turn n s hI) (fun r s₁ h₁ => ?_) fun _ _ h' => wpAny_standAt h')))))
  cases r with
  | none => exact wpC_pure (.inr ⟨rfl, codeOfAny (codeAny_block (wpAny_execs_nil h₁))⟩)
  | some v =>
    refine wpC_bind (ofAny (wpAny_of_eq (ht v) ?_))
    refine wpC_bind (ofAny (wpAny_mono h₁ (fun _ s₂ h₂ => wpC_bind (wpC_mono h₂ (fun f s₃ h₃ => ?_) fun _ _ h' => h')) fun _ _ h' => h'))
    cases f with
    | next => exact wpC_pure (.inl ⟨rfl, h₃⟩)
    | cont => exact wpC_pure (.inl ⟨rfl, h₃⟩)
    | brk => exact wpC_pure h₃
    | ret v => exact wpC_pure h₃
theorem wpC_For {target iter : Expr} {body : List Stmt} {pos : Pos} {Q : Flow → Shared → Prop}
    (h : wpAny (model prog w) A (eval iter env) (fun x s₁ => wpAny (model prog w) A (pyIter x) (fun it s₂ =>
      codeC (model prog w) A (.forLoop target it body [] env) (fun r s' => match r with | .ok f => Q f s' | .error e => cameBackBy (model prog w) A env E e s') s₂) E s₁) E s)
    (hs : ∀ x, foldedSetIterable iter env x = pure x := by intro _; rfl) :
    wpC (model prog w) A (exec (.For target iter body [] pos) env) Q E s := by
  rw [exec_For]
  exact wpC_bind (wpC_standAt (wpC_bind (ofAny (wpAny_mono h (fun x s₁ h₁ => wpC_bind (ofAny (wpAny_of_eq (hs x) (wpC_bind (wpC_standAt (wpC_bind (wpC_holding
    (ofAny (wpAny_mono h₁ (fun it s₂ h₂ => wpC_runOwn h₂) fun _ _ h' => h'))))))))) fun _ _ h' => h'))))
end
end Mine

end
section -- W7
theorem Mine.offW7 : True ∧ True := by
  w_top off
  first | (walk1; all_goals trivial) | exact ⟨trivial, trivial⟩
namespace Mine
open PySem PySem.W PyProof.Rows PySem.Spec PySem.Calls
open Sem (wp)
theorem caller_claimed : Claimed (⟨.builtin "claim.caller" {}, none, none, [], none⟩ : PySem.Ctx) := by
  show ((Code.builtin "claim.caller" {}).isCaller || _) = true
  rfl
theorem ends_claimed {prog : Program} {w : World} {t : Sem Fin} {s : Shared} {R : Result → Shared → Prop} (hreg : s.asleep)
    (h : wpC (model prog w) callerA t (fun fin s' => ∃ f, fin = .done f ∧ (R (.ok f) s' ∧ leftWithCleanup s'.gens = false)) (fun e s' => R (.error e) s' ∧ leftWithCleanup s'.gens = false) s) :
    ∃ n r s' s'', runN (denote table) prog w n s ⟨t, .builtin "claim.caller" {}, default, []⟩ = .halted (outcomeOf r) s' ∧
      schedN (denote table) prog w n (.single s ⟨t, .builtin "claim.caller" {}, default, []⟩) = .halted (outcomeOf r) s' ∧ s'.forget = s''.forget ∧ R r s'' := by
  have hw : wp (model prog w) ⟨.builtin "claim.caller" {}, none, none, [], none⟩ t (Sem.finPost (model prog w) ⟨.builtin "claim.caller" {}, none, none, [], none⟩ (fun r s' => R r s' ∧ leftWithCleanup s'.gens = false)) (fun e _ s' => R (.error e) s' ∧ leftWithCleanup s'.gens = false) default s := by
    refine Sem.wp_mono _ _ t (fun fin p' s' h' => ?_) (fun _ _ _ h' => h') default s (h _ default caller_in caller_claimed)
    obtain ⟨f, rfl, hf⟩ := h'
    exact hf
  obtain ⟨n, r, s₁, s₂, hs, hn, hfo, hR⟩ := wp_halts_full (M := model prog w) (R := R) hreg hw
  exact ⟨n, r, s₂, s₁, hn, hs, hfo, hR⟩
end Mine
namespace Mine
open PySem PySem.W PyProof.Rows PySem.Spec PySem.Calls
theorem callFrom_claimed {c : ClaimW} {tree : List Value → Sem Fin} {w : World} {s : Shared} {free : Addr → Prop} {gens : Prop} {kept : Heap → Prop} (hz : s.asleep) (hgens : s.gens = #[])
    (hspec : ∀ args, c.pre args = true → WData.layableAll args = true →
      ∀ ord : List DictEntry → List DictEntry, (∀ l, (ord l).Perm l) →
      ∃ vs s₁, layAllW c.records (classAt s.heap) w.params ord args s = some (vs, s₁) ∧
        wpC (model c.prog w) callerA (tree vs) (fun fin s' => ∃ f, fin = .done f ∧ (c.Ends s args vs s₁ (.ok f) s' ∧ s'.os = s.os ∧ AllBare s'.gens ∧ kept s'.heap))
          (fun e s' => c.Ends s args vs s₁ (.error e) s' ∧ s'.os = s.os ∧ AllBare s'.gens ∧ kept s'.heap) s₁) :
    c.CallFrom (fun vs => ⟨tree vs, .builtin "claim.caller" {}, default, []⟩) w free gens kept s := by
  intro args hpre hlay ord hord
  obtain ⟨vs, s₁, hlaid, hcode⟩ := hspec args hpre hlay ord hord
  have hal := layAllW_rest _ _ _ hlaid
  obtain ⟨k, r, s', s'', hrun, hsched, hfo, hcase, hos, hkp⟩ := ends_claimed (prog := c.prog) (w := w) (t := tree vs) (s := s₁)
    (R := fun r s' => c.Ends s args vs s₁ r s' ∧ s'.os = s.os ∧ kept s'.heap) (Shared.asleep_of_life hal.2.2.2 hz)
    (wpC_mono hcode (fun _ _ ⟨f, e, h1, h2, h3, h4⟩ => ⟨f, e, ⟨h1, h2, h4⟩, leftWithCleanup_false_of_bare h3⟩) fun _ _ ⟨h1, h2, h3, h4⟩ => ⟨⟨h1, h2, h4⟩, leftWithCleanup_false_of_bare h3⟩)
  obtain ⟨eh, _, _, eo, _⟩ := Shared.forget_eq hfo
  have hcase := hcase.congr eh
  have hkp : kept s'.heap := by first | exact eh ▸ hkp | (rw [eh] at hkp; exact hkp) | (rw [← eh] at hkp; exact hkp)
  rw [← eo] at hos
  have hlife : s'.heap.life = s.heap.life := (runN_life _ _ _ hrun).trans hal.2.2.2
  refine ⟨vs, s₁, hlaid, k, _, s', hsched, ?_, (fun _ i x hx => by rw [hgens] at hx; simp at hx), hkp, by rw [hlife], Shared.rest_eq hos⟩
  rcases hcase with ⟨v, rfl, d1, d2, d3, d4, d5⟩ | ⟨e, ob, cls, rfl, d1, d2, d3, d4, d5⟩
  · exact .inl ⟨v, rfl, d1, d2, d3, fun b o y _ => d4 b o y, d5⟩
  · exact .inr ⟨e, ob, cls, rfl, d1, d2, d3, d4, fun b o y _ => d5 b o y⟩
end Mine

end
section -- HD
theorem Mine.offHD : True ∧ True := by
  w_top off
  first | (walk1; all_goals trivial) | exact ⟨trivial, trivial⟩
namespace Mine
open PySem PySem.W PyProof.Rows PySem.Spec PySem.Calls
/-- a row's walk, asked only where the claim's caller is on the stack -/
def WalkC (q : Program) (loose : List Str) (XP : (Str → Option Value) → Heap → Prop) (YP : World → Heap → Prop) (r : RowW) : Prop :=
  ∀ (w : World) (s₀ s₁ : Shared) (mg mb : Str → Option Value), Ground q loose r.records XP w s₀ mg mb s₁.heap → YP w s₁.heap → ∀ a : Addr, mg r.name = some (.ref a) → s₁.gens = #[] →
    ∀ (args : List WData) (vals : List Value) (as : List Addr), r.claim.pre args = true → WData.layableAll args = true → ReadsAllW r.records (classAt s₀.heap) s₁.heap vals args as → WellAll w.params s₁.heap vals args → (∀ a ∈ as, (a == sysModules) = false) →
      wpC (model r.prog w) callerA (call (.ref a) vals) (fun v s' => GoodWG r.claim (classAt s₀.heap) (ExcName.means s₀.heap) args s₁ (.ok (.ret v)) s')
        (fun e s' => GoodWG r.claim (classAt s₀.heap) (ExcName.means s₀.heap) args s₁ (.error e) s') s₁
section
variable {r : OpenRow} {q : Program} {loose : List Str} {Xt : Shared → Bool} {XP : (Str → Option Value) → Heap → Prop} {α : Type} {Yf : Shared → α} {Ya : World → α} {YP : World → Heap → Prop} {d : DefRec} {kwd : List (Str × Expr)} {N : Nat}
/-- one call, laid and made, ends well: with claim.caller on the stack -/
theorem call_ends (hXk : ∀ mg h h', XP mg h → (∀ b o, h.get? b = some o → h'.get? b = some o) → XP mg h') (hYk : ∀ w h h', YP w h → (∀ b o, h.get? b = some o → h'.get? b = some o) → YP w h')
    (hdef : defOf q r.name = some (d, kwd)) (hwr : (!r.writes || r.records.isEmpty) = true) (k5 : (frees r.toRowW && r.within.isEmpty) = true) (walk : WalkC q loose XP YP r.toRowW) {w : World} {s₀ s : Shared} {kps : List Str}
    (hT : TopRan r.prog w s₀ s) (hg : s.heap.isNs mainGlobals = true) (G : Ground q loose r.toRowW.records XP w s (s.heap.nsMap mainGlobals) (s.heap.nsMap builtinsNs) s.heap) (hY : YP w s.heap) (hz : s.asleep) (hgens : s.gens = #[]) {free : Addr → Prop} {gens : Prop} :
    r.toRowW.claim.CallFrom (fun vs => ⟨(do match ← nsGet mainNs r.name with
      | some f => do ret (← PySem.call f vs)
      | none => unsupported "claim.caller:no-such-global"), .builtin "claim.caller" {}, default, []⟩) w free gens
      (fun h => r.writes = true → namesKept r.prog kps s.heap h ∧ ∀ x ∈ r.toRowW.records, ∀ a, classAt s.heap x.1 = some a → recordClass h a x.1 (x.2.map (·.1)) = true) s := by
  obtain ⟨k5, k6⟩ := Bool.and_eq_true_iff.mp k5
  obtain ⟨hsame, hu, ha, hap, hm⟩ := frees_parts k5
  have hwi : r.toRowW.claim.within = [] := List.isEmpty_iff.mp k6
  refine callFrom_claimed hz hgens fun args hpre hlay ord hord => ?_
  obtain ⟨⟨vs, s₁⟩, hlaid⟩ := Option.isSome_iff_exists.mp (layAllW_isSome (P := w.params) (ord := ord) G.has args r.toRowW.args s (pre_splitW hpre).1)
  have up := layAllW_keeps _ _ _ hlaid
  have hal := layAllW_rest _ _ _ hlaid
  obtain ⟨as, hrd, hin, hold⟩ := reads_layAllW hord _ _ _ hlaid hlay s₁.heap (fun _ _ e => e)
  have L : Laid r.toRowW.records w s s₁ args vs as := ⟨⟨ord, hord, hlaid⟩, hrd, hin, hold, up, hal.1.trans hgens, hal.2.2.1⟩
  have G₁ := G.keeps hXk up
  obtain ⟨a, o, pm, cd, doc, dV, kV, h1, _⟩ := G₁.fn hdef
  have h1' : s.heap.nsMap mainGlobals r.name = some (.ref a) := h1
  have hgo := walk w s s₁ _ _ G₁ (hYk _ _ _ hY up) a h1 L.gens args vs as hpre hlay L.reads L.well (L.low G.low)
  have ends : ∀ {res : Result} {s' : Shared}, GoodWG r.toRowW.claim (classAt s.heap) (ExcName.means s.heap) args s₁ res s' → r.toRowW.claim.Ends s args vs s₁ res s' ∧ s'.os = s.os ∧ AllBare s'.gens ∧
      (r.writes = true → namesKept r.prog kps s.heap s'.heap ∧ ∀ x ∈ r.toRowW.records, ∀ a, classAt s.heap x.1 = some a → recordClass s'.heap a x.1 (x.2.map (·.1)) = true) := fun g => by
    have z := g.laid (c := r.toRowW.claim) hsame hwi (ident_freeW hu ha hap) L
    exact ⟨z.1, z.2.1, z.2.2, fun q => ⟨namesKept_of hT hg kps up g.2.1.old, noTable hwr q⟩⟩
  refine ⟨vs, s₁, hlaid, ?_⟩
  refine wpC_bind (m := nsGet mainNs r.name) (ofAny (wpAny_nsGet G₁.T.g ?_))
  rw [h1']
  show wpC _ _ (do ret (← PySem.call (.ref a) vs)) _ _ _
  exact wpC_bind (wpC_mono hgo (fun v s' g => wpC_pure ⟨_, rfl, ends g⟩) fun e s' g => ends g)
theorem holdsC (left : LeftO r.prog q loose Xt Yf Ya N) (hY : ∀ w s, Yf s = Ya w → YP w s.heap) (hYk : ∀ w h h', YP w h → (∀ b o, h.get? b = some o → h'.get? b = some o) → YP w h')
    (hX : ∀ s, Xt s = true → XP (s.heap.nsMap mainGlobals) s.heap) (hXk : ∀ mg h h', XP mg h → (∀ b o, h.get? b = some o → h'.get? b = some o) → XP mg h')
    (hdef : defOf q r.name = some (d, kwd)) (hp : r.prog.theDef r.name = some (d.params, d.body, d.scope)) (hk : kwWritten? d.params.kwonlyargs d.params.kw_defaults = some kwd) (hRf : ∀ s, Xt s = true → RecFacts r.toRowW.records s.heap) (hwr : (!r.writes || r.records.isEmpty) = true)
    (k1 : r.wellSaid = true) (ok : (chainsOk q && opensWell r.prog && (frees r.toRowW && r.within.isEmpty)) = true) (hb : r.prog.bare) (hw : r.toRowW.promised) (walk : WalkC q loose XP YP r.toRowW) : r.Holds := by
  obtain ⟨ok, k5⟩ := Bool.and_eq_true_iff.mp ok
  obtain ⟨hch, o1⟩ := Bool.and_eq_true_iff.mp ok
  have hm : r.toRowW.makers = [] := (frees_parts (Bool.and_eq_true_iff.mp k5).1).2.2.2.2
  refine ⟨k1, hw, ⟨hb, o1, by show r.toRowW.makers.map _ = []; rw [hm]; rfl⟩, hw.witness, fun w => ?_⟩
  have hleft := left.behind (XP := fun mg h => XP mg h ∧ RecFacts r.toRowW.records h) (fun s hs => ⟨hX s hs, hRf s hs⟩) hch w
  refine ⟨hleft.1, fun s' hs' => ?_⟩
  obtain ⟨s₀, hf, hg0, s, hT, hz, hgens, hg, G0, y⟩ := hleft.2 s' hs'
  have G1 : Ground q loose [] XP w s (s.heap.nsMap mainGlobals) (s.heap.nsMap builtinsNs) s.heap := { G0 with X := G0.X.1 }
  have hgens : s.gens = #[] := Array.eq_empty_of_size_eq_zero (beq_iff_eq.mp hgens)
  refine ⟨s₀, hf, hg0, s, hT, fun n hn => ?_, G0.X.2.1, G0.X.2.2.1, call_ends hXk hYk hdef hwr k5 walk hT hg (G0.X.2.ground G1) (hY w s y) hz hgens⟩
  obtain rfl : n = r.name := by split at hn <;> simp_all
  exact pinned_of_view hg G1 hdef hp hk
end
end Mine

end
section -- W8
theorem Mine.offW8 : True ∧ True := by
  w_top off
  first | (walk1; all_goals trivial) | exact ⟨trivial, trivial⟩
namespace Mine
open PySem PySem.W PyProof.Rows PySem.Spec PySem.Calls
section
variable {M : Model} {A : Around} {E : Value → Shared → Prop} {s : Shared} {env : Env}
theorem wpC_callWith_typeP {pos : Pos} {T : String} {e : Expr} {rest : List Expr} {Q : Value → Shared → Prop}
    (h : wpAny M A (spliced (backTo pos (starEach (e :: rest) env))) (fun vs s₁ => wpC M A (call (.type T) vs []) Q E s₁) E s)
    (he : starEach (e :: rest) env = (false, eval e env) :: starEach rest env := by rfl) (hplain : (backTo pos (starEach rest env)).any (·.1) = false := by rfl) :
    wpC M A (callWith pos (.type T) [] (backTo pos (starEach (e :: rest) env)) (backToKw pos (keywordEach [] env))) Q E s := by
  rw [he] at h ⊢
  refine wpC_callWith_type (by show (false || (backTo pos (starEach rest env)).any (·.1)) = false; rw [hplain]; rfl) (evalArgs_plain ?_)
  exact h
theorem wpC_callWith_functionP {pos : Pos} {a : Addr} {o : Obj} {fd : FuncData} {e : Expr} {rest : List Expr} {Q : Value → Shared → Prop}
    (h : wpAny M A (spliced (backTo pos (starEach (e :: rest) env))) (fun vs s₁ => (s₁.heap.get? a = some o ∧ o.data = .func fd) ∧ wpC M A (call (.ref a) vs []) Q E s₁) E s)
    (he : starEach (e :: rest) env = (false, eval e env) :: starEach rest env := by rfl) (hplain : (backTo pos (starEach rest env)).any (·.1) = false := by rfl) :
    wpC M A (callWith pos (.ref a) [] (backTo pos (starEach (e :: rest) env)) (backToKw pos (keywordEach [] env))) Q E s := by
  rw [he] at h ⊢
  refine wpC_callWith_function (o := o) (fd := fd) (evalArgs_plain ?_) (by show (false || (backTo pos (starEach rest env)).any (·.1)) = false; rw [hplain]; rfl)
  exact h
end
end Mine

end
section -- P2
theorem Mine.offP2 : True ∧ True := by
  w_top off
  first | (walk1; all_goals trivial) | exact ⟨trivial, trivial⟩
namespace Mine
open PySem
def digs (l : List Nat) : Bool := l.all fun c => decide (48 ≤ c) && decide (c ≤ 57)
def runOk (l : List Nat) : Bool := !l.isEmpty && digs l
def dig (a : Int) (c : Nat) : Int := a * 10 + c - 48
def numOf (runs : List (List Nat)) : Int := runs.foldl (fun a l => l.foldl dig a) 0
def coreL (b : List Nat) : List Nat := if b.head? = some 43 ∨ b.head? = some 45 then b.tail else b
def bodyNum (b : List Nat) : Option Int :=
  if (spl 95 (coreL b)).all runOk = true then some (if b.head? = some 45 then - numOf (spl 95 (coreL b)) else numOf (spl 95 (coreL b))) else none
def numL (l : List Nat) : Option Int :=
  match (spl 32 l).filter (fun p => !p.isEmpty) with
  | [b] => bodyNum b
  | _ => none
def NumIs : Option Int → Value → Prop
  | none, v => v = .none
  | some n, v => ∃ t, v = .int n t
theorem spl_len (c : Nat) (l : List Nat) : (spl c l).length ≤ l.length + 1 := by
  induction l with
  | nil => exact Nat.le_refl _
  | cons a l ih =>
    obtain ⟨p, r, e⟩ := spl_ne c l
    by_cases h : a = c
    · subst h; rw [spl_hit]; simpa using ih
    · rw [spl_miss h e]; rw [e] at ih; simp at ih ⊢; omega
theorem s32 : Str.ofString " " = ⟨#[32]⟩ := by decide +kernel
theorem s95 : Str.ofString "_" = ⟨#[95]⟩ := by decide +kernel
theorem s45 : Str.ofString "-" = ⟨#[45]⟩ := by decide +kernel
theorem split_len (x : Str) (c : Nat) : (Txt.split x ⟨#[c]⟩).length ≤ x.length + 1 := by
  rw [← List.length_map (f := cp), cp_split, ← cp_len]; exact spl_len c _
theorem eq_nil (y : Str) : (y == Str.ofString "") = (cp y).isEmpty := by
  cases h : (cp y).isEmpty with
  | true =>
    have : y = Str.ofString "" := cp_inj (by rw [List.isEmpty_iff.mp h]; rfl)
    rw [this]; decide
  | false =>
    cases e : y == Str.ofString "" with
    | false => rfl
    | true =>
      have : y = Str.ofString "" := by simpa using e
      rw [this] at h; exact absurd h (by decide)
theorem bodies_map (x : Str) : ((Txt.split x (Str.ofString " ")).filter (fun y => !(y == Str.ofString ""))).map cp = (spl 32 (cp x)).filter (fun p => !p.isEmpty) := by
  rw [s32, ← cp_split, List.filter_map]
  congr 1
  apply List.filter_congr
  intro y _
  show _ = !(cp y).isEmpty
  rw [eq_nil]
theorem numL_one {x b : Str} (h : (Txt.split x (Str.ofString " ")).filter (fun y => !(y == Str.ofString "")) = [b]) : numL (cp x) = bodyNum (cp b) := by
  have := bodies_map x
  rw [h] at this
  unfold numL
  rw [← this]; rfl
theorem numL_not {x : Str} (h : ((Txt.split x (Str.ofString " ")).filter (fun y => !(y == Str.ofString ""))).length ≠ 1) : numL (cp x) = none := by
  have := bodies_map x
  rw [← List.length_map (f := cp), this] at h
  unfold numL
  split
  · rename_i b e; rw [e] at h; exact absurd rfl h
  · rfl
theorem filter_len_le (x : Str) : ((Txt.split x (Str.ofString " ")).filter (fun y => !(y == Str.ofString ""))).length ≤ x.length + 1 := by
  rw [s32]; exact Nat.le_trans (List.length_filter_le _ _) (split_len x 32)
theorem one_ne {x b : Str} (h : (Txt.split x (Str.ofString " ")).filter (fun y => !(y == Str.ofString "")) = [b]) : 0 < b.length := by
  have : b ∈ (Txt.split x (Str.ofString " ")).filter (fun y => !(y == Str.ofString "")) := by rw [h]; exact List.mem_singleton.mpr rfl
  have h2 := (List.mem_filter.mp this).2
  rw [eq_nil] at h2
  rw [← cp_len]
  cases e : cp b with
  | nil => rw [e] at h2; simp at h2
  | cons _ _ => simp
end Mine

end
section -- P3
theorem Mine.offP3 : True ∧ True := by
  w_top off
  first | (walk1; all_goals trivial) | exact ⟨trivial, trivial⟩
namespace Mine
open PySem PyProof.Rows PySem.Builtin PySem.Builtin.Str
theorem slice_text (x : Str) (l u : Option Int) : Txt.slice x l u = StrLaws.sliceText x l u := rfl
theorem cp_mk (l : List Nat) : cp ⟨l.toArray⟩ = l := rfl
theorem cp_slice {x : Str} {i j : Int} (h0 : 0 ≤ i) (h1 : i ≤ j) (h2 : j ≤ x.length) : cp (Txt.slice x (some i) (some j)) = ((cp x).drop i.toNat).take (j - i).toNat := by
  rw [slice_text, StrLaws.sliceText_plain ⟨h0, h1, by rw [← cp_len] at h2; exact h2⟩]
theorem cp_slice_from {x : Str} {i : Int} (h0 : 0 ≤ i) (h1 : i ≤ x.length) : cp (Txt.slice x (some i) none) = (cp x).drop i.toNat := by
  rw [slice_text, StrLaws.sliceText_from ⟨h0, by rw [← cp_len] at h1; exact h1⟩, cp_mk]
  apply List.take_of_length_le
  rw [List.length_drop]
  show (cp x).length - i.toNat ≤ (((cp x).length : Int) - i).toNat
  omega
theorem cp_slice_to {x : Str} {j : Int} (h0 : 0 ≤ j) : cp (Txt.slice x none (some j)) = (cp x).take j.toNat := by
  by_cases h1 : j ≤ x.length
  · rw [slice_text, StrLaws.sliceText_to ⟨h0, by rw [← cp_len] at h1; exact h1⟩, cp_mk]; simp
  · have e : Txt.slice x none (some j) = Txt.slice x none (some (x.length : Int)) := by
      have : strSliceIndices none (some j) 1 x.length = strSliceIndices none (some (x.length : Int)) 1 x.length := by
        have a : ¬ (j < 0) := by omega
        have b : ¬ ((x.length : Int) < 0) := by omega
        have c : min j (x.length : Int) = x.length := by omega
        simp [strSliceIndices, a, b, c]
      unfold Txt.slice; rw [this]
    rw [e, slice_text, StrLaws.sliceText_to ⟨by omega, by rw [← cp_len]; exact Int.le_refl _⟩, cp_mk]
    rw [List.take_of_length_le (by simp [Str.length]), List.take_of_length_le (by rw [cp_len]; omega)]; simp
theorem item_nat {x : Str} {i : Int} {c : Nat} (h0 : 0 ≤ i) (h : (cp x)[i.toNat]? = some c) : Txt.item x i = ⟨#[c]⟩ := by
  have : Txt.charAt x i = some c := StrLaws.at_nonneg h0 (by simpa using h)
  unfold Txt.item; rw [this]; rfl
theorem item_last {x : Str} {c : Nat} {l : List Nat} (h : cp x = l ++ [c]) : Txt.item x (-1) = ⟨#[c]⟩ := by
  have hl : x.length = l.length + 1 := by rw [← cp_len, h]; simp
  have : Txt.charAt x (-1) = some c := StrLaws.at_neg (by decide) (by omega) (by
    have e : (-1 + (x.length : Int)).toNat = l.length := by omega
    rw [e]
    have h' : (cp x)[l.length]? = some c := by rw [h]; simp
    simpa using h')
  unfold Txt.item; rw [this]; rfl
theorem cons_of {x : Str} (h : 0 < x.length) : ∃ c r, cp x = c :: r := by
  cases e : cp x with
  | nil => rw [← cp_len, e] at h; exact absurd h (Nat.lt_irrefl _)
  | cons c r => exact ⟨c, r, rfl⟩
theorem item_zero {x : Str} {c : Nat} {r : List Nat} (h : cp x = c :: r) : Txt.item x 0 = ⟨#[c]⟩ := item_nat (Int.le_refl 0) (by rw [h]; rfl)
theorem pm_list : cp (Str.ofString "+-") = [43, 45] := by decide +kernel
theorem dg_list : cp (Str.ofString "0123456789") = [48, 49, 50, 51, 52, 53, 54, 55, 56, 57] := by decide +kernel
theorem core_no {v : Str} (h0 : 0 < v.length) (h : (Builtin.Str.occurrences (Str.ofString "+-") (Txt.item v 0) 0 (Str.ofString "+-").length 1).isEmpty = true) : (Txt.split v (Str.ofString "_")).map cp = spl 95 (coreL (cp v)) := by
  obtain ⟨c, r, e⟩ := cons_of h0
  rw [item_zero e, empty_one] at h
  have h' : c ∉ cp (Str.ofString "+-") := by simpa using h
  rw [pm_list] at h'
  rw [s95, cp_split, coreL, if_neg]
  rw [e]; simp at h' ⊢; exact h'
theorem core_yes {v : Str} (h0 : 0 < v.length) (h : (Builtin.Str.occurrences (Str.ofString "+-") (Txt.item v 0) 0 (Str.ofString "+-").length 1).isEmpty = false) : (Txt.split (Txt.slice v (some 1) none) (Str.ofString "_")).map cp = spl 95 (coreL (cp v)) := by
  obtain ⟨c, r, e⟩ := cons_of h0
  rw [item_zero e, empty_one] at h
  have h' : c ∈ cp (Str.ofString "+-") := by simpa using h
  rw [pm_list] at h'
  rw [s95, cp_split, cp_slice_from (by decide) (by omega), coreL, if_pos]
  · rw [e]; rfl
  · rw [e]; simp at h' ⊢; exact h'
theorem in_digs (c : Nat) : (Builtin.Str.occurrences (Str.ofString "0123456789") ⟨#[c]⟩ 0 (Str.ofString "0123456789").length 1).isEmpty = !(decide (48 ≤ c) && decide (c ≤ 57)) := by
  rw [empty_one]
  congr 1
  show decide (c ∈ cp (Str.ofString "0123456789")) = _
  rw [dg_list, Bool.eq_iff_iff]
  simp
  omega
theorem filter_digs (l : List Nat) : (l.filter fun c => !(decide (48 ≤ c) && decide (c ≤ 57))) = [] ↔ digs l = true := by
  rw [List.filter_eq_nil_iff]
  unfold digs
  rw [List.all_eq_true]
  constructor
  · intro h c hc
    have := h c hc
    simpa using this
  · intro h c hc
    have := h c hc
    simpa using this
theorem dig_lt {a : Int} {c : Nat} {k : Nat} (h0 : 0 ≤ a) (h : a < 10 ^ k) (h1 : 48 ≤ c) (h2 : c ≤ 57) : 0 ≤ dig a c ∧ dig a c < 10 ^ (k + 1) := by
  unfold dig
  rw [Int.pow_succ]
  omega
theorem numOf_snoc (l : List (List Nat)) (r : List Nat) : numOf (l ++ [r]) = r.foldl dig (numOf l) := by
  unfold numOf; rw [List.foldl_append]; rfl
theorem mem_spl {c : Nat} : ∀ {l p : List Nat}, p ∈ spl c l → ∀ a ∈ p, a ∈ l
  | [], p, h, a, ha => by
    have : p = [] := by simpa [spl] using h
    rw [this] at ha; cases ha
  | b :: l, p, h, a, ha => by
    obtain ⟨q, r, e⟩ := spl_ne c l
    by_cases hb : b = c
    · subst hb
      rw [spl_hit] at h
      rcases List.mem_cons.mp h with rfl | h
      · cases ha
      · exact List.mem_cons_of_mem _ (mem_spl h a ha)
    · rw [spl_miss hb e] at h
      rcases List.mem_cons.mp h with rfl | h
      · rcases List.mem_cons.mp ha with rfl | ha
        · exact List.mem_cons_self
        · exact List.mem_cons_of_mem _ (mem_spl (p := q) (by rw [e]; exact List.mem_cons_self) a ha)
      · exact List.mem_cons_of_mem _ (mem_spl (p := p) (by rw [e]; exact List.mem_cons_of_mem _ h) a ha)
theorem mem_core {b : List Nat} {a : Nat} (h : a ∈ coreL b) : a ∈ b := by
  unfold coreL at h
  split at h
  · exact List.mem_of_mem_tail h
  · exact h
theorem mem_run {x v y : Str} {R : List Str} (hB : (Txt.split x (Str.ofString " ")).filter (fun y => !(y == Str.ofString "")) = [v]) (hR : R.map cp = spl 95 (coreL (cp v))) (hy : y ∈ R) {a : Nat} (ha : a ∈ cp y) : a ∈ cp x := by
  have h1 : cp y ∈ spl 95 (coreL (cp v)) := hR ▸ List.mem_map_of_mem hy
  have h2 := mem_core (mem_spl h1 a ha)
  have h3 : v ∈ Txt.split x (Str.ofString " ") := (List.mem_filter.mp (hB ▸ List.mem_singleton.mpr rfl : v ∈ _)).1
  have h4 : cp v ∈ spl 32 (cp x) := by rw [← cp_split, ← s32]; exact List.mem_map_of_mem h3
  exact mem_spl h4 a h2
theorem bodyNum_none {v y : Str} {R : List Str} {i : Nat} (hR : R.map cp = spl 95 (coreL (cp v))) (hy : R[i]? = some y) (hbad : runOk (cp y) = false) : bodyNum (cp v) = none := by
  unfold bodyNum
  rw [← hR, if_neg]
  rw [List.all_eq_true]
  intro h
  have := h (cp y) (List.mem_map_of_mem (List.mem_of_getElem? hy))
  rw [hbad] at this; cases this
theorem bodyNum_some {v : Str} {R : List Str} (hR : R.map cp = spl 95 (coreL (cp v))) (hok : (R.map cp).all runOk = true) : bodyNum (cp v) = some (if (cp v).head? = some 45 then - numOf (R.map cp) else numOf (R.map cp)) := by
  unfold bodyNum
  rw [← hR, if_pos hok]
end Mine

end
section -- P5
theorem Mine.offP5 : True ∧ True := by
  w_top off
  first | (walk1; all_goals trivial) | exact ⟨trivial, trivial⟩
namespace Mine
open PySem PyProof.Rows PySem.Builtin PySem.Builtin.Str
/-- what a reply comes to -/
inductive Out
  | reply
  | proto
  | value
  | told (n : Int)
def brk (l : List Nat) : Option (List Nat) := match l.dropWhile (· != 40) with
  | [] => none
  | _ :: r => if r.contains 41 then some (r.takeWhile (· != 41)) else none
def intL (l : List Nat) : Option Int := PySem.intText? ⟨l.toArray⟩
def numO : Option Int → Out
  | some n => .told n
  | none => .value
def inO (ins : List Nat) : Out :=
  if ins = [] ∨ ins.head? ≠ ins.getLast? then .proto else
  if (spl (ins.headD 0) ins).length ≠ 5 then .proto else numO (intL ((spl (ins.headD 0) ins).getD 3 []))
def parseO (l : List Nat) : Out :=
  if l.take 3 ≠ [50, 50, 57] then .reply else match brk l with
    | none => .proto
    | some ins => inO ins
theorem dropW {c : Nat} : ∀ {pre : List Nat} (r : List Nat), c ∉ pre → (pre ++ r).dropWhile (· != c) = r.dropWhile (· != c)
  | [], _, _ => rfl
  | a :: pre, r, h => by
    have h1 : a ≠ c := fun e => h (e ▸ List.mem_cons_self)
    rw [List.cons_append, List.dropWhile_cons, if_pos (bne_iff_ne.mpr h1)]
    exact dropW r fun m => h (List.mem_cons_of_mem _ m)
theorem takeW {c : Nat} : ∀ {pre : List Nat} (r : List Nat), c ∉ pre → (pre ++ c :: r).takeWhile (· != c) = pre
  | [], _, _ => by simp
  | a :: pre, r, h => by
    have h1 : a ≠ c := fun e => h (e ▸ List.mem_cons_self)
    rw [List.cons_append, List.takeWhile_cons, if_pos (bne_iff_ne.mpr h1), takeW r fun m => h (List.mem_cons_of_mem _ m)]
theorem dropW_all {c : Nat} {l : List Nat} (h : c ∉ l) : l.dropWhile (· != c) = [] := by
  have := dropW [] h
  simpa using this
theorem brk_none1 {l : List Nat} (h : 40 ∉ l) : brk l = none := by unfold brk; rw [dropW_all h]
theorem brk_none2 {pre r : List Nat} (h : 40 ∉ pre) (h2 : 41 ∉ r) : brk (pre ++ 40 :: r) = none := by
  unfold brk; rw [dropW _ h]
  simp [h2]
theorem brk_some {pre ins q : List Nat} (h : 40 ∉ pre) (h2 : 41 ∉ ins) : brk (pre ++ 40 :: (ins ++ 41 :: q)) = some ins := by
  unfold brk; rw [dropW _ h]
  rw [List.dropWhile_cons, if_neg (by decide)]
  dsimp only
  rw [if_pos (by simp), takeW q h2]
/-- the first place of a sign -/
theorem split_at_first {c : Nat} : ∀ {l : List Nat}, c ∈ l → ∃ pre r, l = pre ++ c :: r ∧ c ∉ pre
  | [], h => nomatch h
  | a :: l, h => by
    by_cases e : a = c
    · exact ⟨[], l, by rw [e]; rfl, List.not_mem_nil⟩
    · obtain ⟨pre, r, e2, h2⟩ := split_at_first (l := l) ((List.mem_cons.mp h).resolve_left (Ne.symm e))
      exact ⟨a :: pre, r, by rw [e2]; rfl, fun m => (List.mem_cons.mp m).elim (Ne.symm e) h2⟩
theorem find_first (x : Str) (c : Nat) : (Txt.find x ⟨#[c]⟩ = -1 ∧ c ∉ cp x) ∨ ∃ pre r, cp x = pre ++ c :: r ∧ c ∉ pre ∧ Txt.find x ⟨#[c]⟩ = (pre.length : Int) := by
  unfold Txt.find
  rcases StrLaws.occ_head x ⟨#[c]⟩ 1 (Nat.le_refl 1) with ⟨h0, hn⟩ | ⟨k, t, h0, hk, hn⟩
  · rw [h0]
    refine .inl ⟨rfl, fun hm => ?_⟩
    obtain ⟨i, hi⟩ := List.getElem?_of_mem hm
    exact hn i ((StrLaws.subAt_one x c i).mpr hi)
  · rw [h0]
    have hm := (StrLaws.subAt_one x c k).mp hk
    have hlt : k < (cp x).length := (List.getElem?_eq_some_iff.mp hm).1
    have he := (List.getElem?_eq_some_iff.mp hm).2
    refine .inr ⟨(cp x).take k, (cp x).drop (k + 1), ?_, fun hq => ?_, ?_⟩
    · rw [← he, ← List.drop_eq_getElem_cons hlt, List.take_append_drop]
    · obtain ⟨i, hi⟩ := List.getElem?_of_mem hq
      have hik : i < k := by
        have := (List.getElem?_eq_some_iff.mp hi).1
        rw [List.length_take] at this; omega
      rw [List.getElem?_take, if_pos hik] at hi
      exact hn i hik ((StrLaws.subAt_one x c i).mpr hi)
    · rw [List.length_take]; show (k : Int) = _; congr 1; omega
theorem find3_first {x : Str} {pre r : List Nat} {a : Nat} (c : Nat) (e : cp x = pre ++ a :: r) :
    (Txt.find3 x ⟨#[c]⟩ ((pre.length : Int) + 1) = -1 ∧ c ∉ r) ∨ ∃ ins q, r = ins ++ c :: q ∧ c ∉ ins ∧ Txt.find3 x ⟨#[c]⟩ ((pre.length : Int) + 1) = ((pre.length + 1 + ins.length : Nat) : Int) := by
  have hx : x.length = pre.length + 1 + r.length := by rw [← cp_len, e]; simp; omega
  have hf : fromIndex x.length ((pre.length : Int) + 1) = pre.length + 1 := by
    unfold fromIndex
    split <;> omega
  have at' : ∀ v, pre.length + 1 ≤ v → (cp x)[v]? = r[v - (pre.length + 1)]? := by
    intro v hv
    rw [e, List.getElem?_append_right (by omega)]
    have : v - pre.length = (v - (pre.length + 1)) + 1 := by omega
    rw [this, List.getElem?_cons_succ]
  rcases StrLaws.find3_spec x c ((pre.length : Int) + 1) with ⟨h0, hn⟩ | ⟨k, h0, hk1, hk2, hk3, hn⟩
  · refine .inl ⟨h0, fun hm => ?_⟩
    obtain ⟨i, hi⟩ := List.getElem?_of_mem hm
    have hil := (List.getElem?_eq_some_iff.mp hi).1
    refine hn (pre.length + 1 + i) (by omega) (by omega) (StrLaws.getD_of_getElem? ?_)
    show (cp x)[_]? = _
    rw [at' _ (by omega)]
    simpa using hi
  · rw [hf] at hk1 hn
    have hrk := at' k hk1
    have hck : (cp x)[k]? = some c := StrLaws.getElem?_of_getD hk2 hk3
    rw [hck] at hrk
    obtain ⟨hlt, he⟩ := List.getElem?_eq_some_iff.mp hrk.symm
    refine .inr ⟨r.take (k - (pre.length + 1)), r.drop (k - (pre.length + 1) + 1), ?_, fun hq => ?_, ?_⟩
    · rw [← he, ← List.drop_eq_getElem_cons hlt, List.take_append_drop]
    · obtain ⟨i, hi⟩ := List.getElem?_of_mem hq
      have hik : i < k - (pre.length + 1) := by
        have := (List.getElem?_eq_some_iff.mp hi).1
        rw [List.length_take] at this; omega
      rw [List.getElem?_take, if_pos hik] at hi
      refine hn (pre.length + 1 + i) (by omega) (by omega) (StrLaws.getD_of_getElem? ?_)
      show (cp x)[_]? = _
      rw [at' _ (by omega)]
      simpa using hi
    · rw [h0, List.length_take]; congr 1; omega
theorem s40 : Str.ofString "(" = ⟨#[40]⟩ := by decide +kernel
theorem s41 : Str.ofString ")" = ⟨#[41]⟩ := by decide +kernel
theorem s229 : cp (Str.ofString "229") = [50, 50, 57] := by decide +kernel
theorem head_229 (x : Str) : (Txt.slice x none (some 3) != Str.ofString "229") = decide ((cp x).take 3 ≠ [50, 50, 57]) := by
  rw [Bool.eq_iff_iff, bne_iff_ne, decide_eq_true_iff, ← s229]
  have e : cp (Txt.slice x none (some 3)) = (cp x).take 3 := cp_slice_to (by decide)
  rw [← e]
  exact not_congr ⟨fun h => by rw [h], cp_inj⟩
theorem parseO_reply {l : List Nat} (h : l.take 3 ≠ [50, 50, 57]) : parseO l = .reply := by unfold parseO; rw [if_pos h]
theorem parseO_none {l : List Nat} (h : l.take 3 = [50, 50, 57]) (hb : brk l = none) : parseO l = .proto := by unfold parseO; rw [if_neg (fun q => q h), hb]
theorem parseO_some {l ins : List Nat} (h : l.take 3 = [50, 50, 57]) (hb : brk l = some ins) : parseO l = inO ins := by unfold parseO; rw [if_neg (fun q => q h), hb]
theorem item_cp {x : Str} {i : Int} {c : Nat} (h0 : 0 ≤ i) (h : (cp x)[i.toNat]? = some c) : Txt.item x i = ⟨#[c]⟩ := item_nat h0 h
theorem item_first {x : Str} {pre tl q : List Nat} {m : Nat} (e : cp x = pre ++ 40 :: ((m :: tl) ++ 41 :: q)) : Txt.item x ((pre.length : Int) + 1) = ⟨#[m]⟩ := by
  refine item_cp (by omega) ?_
  rw [e, show ((pre.length : Int) + 1).toNat = pre.length + 1 by omega, List.getElem?_append_right (by omega)]
  simp
theorem ends_eq {x : Str} {pre ins q : List Nat} (e : cp x = pre ++ 40 :: (ins ++ 41 :: q)) :
    (Txt.item x ((pre.length : Int) + 1) != Txt.item x (((pre.length + 1 + ins.length : Nat) : Int) - 1)) = decide (ins = [] ∨ ins.head? ≠ ins.getLast?) := by
  cases ins with
  | nil =>
    have h1 : Txt.item x ((pre.length : Int) + 1) = ⟨#[41]⟩ := by
      refine item_cp (by omega) ?_
      rw [e, show ((pre.length : Int) + 1).toNat = pre.length + 1 by omega, List.getElem?_append_right (by omega)]
      simp
    have h2 : Txt.item x (((pre.length + 1 + 0 : Nat) : Int) - 1) = ⟨#[40]⟩ := by
      refine item_cp (by omega) ?_
      rw [e, show (((pre.length + 1 + 0 : Nat) : Int) - 1).toNat = pre.length by omega, List.getElem?_append_right (by omega)]
      simp
    rw [h1, List.length_nil, h2]
    simp
  | cons m tl =>
    rw [item_first e]
    obtain ⟨l, z, hz⟩ : ∃ l z, m :: tl = l ++ [z] := ⟨(m :: tl).dropLast, (m :: tl).getLast (by simp), (List.dropLast_concat_getLast (by simp)).symm⟩
    have hl : (m :: tl).length = l.length + 1 := by rw [hz]; simp
    have h2 : Txt.item x (((pre.length + 1 + (m :: tl).length : Nat) : Int) - 1) = ⟨#[z]⟩ := by
      refine item_cp (by omega) ?_
      rw [e, hl, show (((pre.length + 1 + (l.length + 1) : Nat) : Int) - 1).toNat = pre.length + 1 + l.length by omega, List.getElem?_append_right (by omega), show pre.length + 1 + l.length - pre.length = l.length + 1 by omega, List.getElem?_cons_succ, List.getElem?_append_left (by rw [hl]; omega), hz]
      simp
    rw [h2]
    have h3 : (m :: tl).getLast? = some z := by rw [hz]; simp
    rw [h3, List.head?_cons]
    by_cases hm : m = z
    · subst hm; simp
    · rw [bne_iff_ne.mpr (by simpa using hm)]; simp [hm]
theorem inO_proto {ins : List Nat} (h : ins = [] ∨ ins.head? ≠ ins.getLast?) : inO ins = .proto := by unfold inO; rw [if_pos h]
theorem inO_len {m : Nat} {tl : List Nat} (h : ¬ (m :: tl = [] ∨ (m :: tl).head? ≠ (m :: tl).getLast?)) (h5 : (spl m (m :: tl)).length ≠ 5) : inO (m :: tl) = .proto := by
  unfold inO; rw [if_neg h, List.headD_cons, if_pos h5]
theorem inO_num {m : Nat} {tl : List Nat} (h : ¬ (m :: tl = [] ∨ (m :: tl).head? ≠ (m :: tl).getLast?)) (h5 : (spl m (m :: tl)).length = 5) : inO (m :: tl) = numO (intL ((spl m (m :: tl)).getD 3 [])) := by
  unfold inO; rw [if_neg h, List.headD_cons, if_neg (fun q => q h5)]
theorem cp_ins {x : Str} {pre ins q : List Nat} (e : cp x = pre ++ 40 :: (ins ++ 41 :: q)) : cp (Txt.slice x (some ((pre.length : Int) + 1)) (some ((pre.length + 1 + ins.length : Nat) : Int))) = ins := by
  have hl : x.length = pre.length + 1 + (ins.length + 1 + q.length) := by rw [← cp_len, e]; simp; omega
  rw [cp_slice (by omega) (by omega) (by omega), e, show ((pre.length : Int) + 1).toNat = (pre ++ [40]).length by simp,
    show pre ++ 40 :: (ins ++ 41 :: q) = (pre ++ [40]) ++ (ins ++ 41 :: q) by simp, List.drop_left]
  rw [show (((pre.length + 1 + ins.length : Nat) : Int) - ((pre.length : Int) + 1)).toNat = ins.length by omega, List.take_left]
theorem part3 {z : Str} {m : Nat} {l : List Nat} (e : cp z = l) : (Txt.split z ⟨#[m]⟩).length = (spl m l).length ∧ cp ((Txt.split z ⟨#[m]⟩).getD 3 (Str.ofString "")) = (spl m l).getD 3 [] := by
  have h := cp_split z m
  rw [e] at h
  constructor
  · rw [← h, List.length_map]
  · rw [← h, List.getD_eq_getElem?_getD, List.getD_eq_getElem?_getD, List.getElem?_map]
    cases (Txt.split z ⟨#[m]⟩)[3]? with
    | none => rfl
    | some y => rfl
theorem str_cp (x : Str) : (⟨(cp x).toArray⟩ : Str) = x := cp_inj (by simp)
end Mine

end
section -- Q6
theorem Mine.offQ6 : True ∧ True := by
  w_top off
  first | (walk1; all_goals trivial) | exact ⟨trivial, trivial⟩
namespace Mine
open PySem PySem.W PyProof.Rows PySem.Spec PySem.Calls

section
variable {w : World} {A : Around} {s : Shared} {E : Value → Shared → Prop} {Q : Value → Shared → Prop} {p : Program} {loose : List Str} {mean : ExcName → Option Value} {mg mb : Str → Option Value}

local macro_rules | `(tactic| walk_at "subscriptTail Name BinOp str int") => `(tactic| refine halt ?_)
local macro_rules | `(tactic| walk_at "call builtin:len") => `(tactic| refine halt ?_)
local macro_rules | `(tactic| walk_at "call type:int") => `(tactic| refine halt ?_)
local macro_rules | `(tactic| walk_at "c_next") => `(tactic| (refine wpC_execs_cons (ofAny ?_); k_steps))
/-- what parse229 leaves behind, by its outcome -/
def ParsePost (B : Heap) (outer : List Env) (x host : Str) (t th : Tok) (Q E : Value → Shared → Prop) (s : Shared) : Out → Prop
  | .reply => ∀ e tp h' tk', RaisedK B outer e (.ref 54) tp [.str x t] [] h' → s.heap.UpToSlots h' → E (.ref e) { s with heap := h', toks := tk' }
  | .proto => ∀ e tp h' tk', RaisedK B outer e (.ref 66) tp [.str x t] [] h' → s.heap.UpToSlots h' → E (.ref e) { s with heap := h', toks := tk' }
  | .value => ∀ e h' tk', RaisedN B outer e (.type "ValueError") [] h' → s.heap.UpToSlots h' → E (.ref e) { s with heap := h', toks := tk' }
  | .told n => ∀ D u h' tk', Kp s.heap h' → h'.IsTuple D #[.str host th, .int n u] → s.heap.get? D = none → Q (.ref D) { s with heap := h', toks := tk' }
theorem bareK {base : Heap} {l : List Env} {e t : Addr} {cls : Value} {vs : List Value} {news : List (Addr × Obj)} {h : Heap} (R : RaisedK base l e cls t vs news h) : RaisedK base l e cls t vs [] h := by
  obtain ⟨⟨B, hB, hl, hfl, hnew⟩, htup⟩ := R
  exact ⟨⟨B, hB, (fun _ hq => nomatch hq), hfl, hnew⟩, htup⟩
theorem bareN {base : Heap} {l : List Env} {e : Addr} {cls : Value} {news : List (Addr × Obj)} {h : Heap} (R : RaisedN base l e cls news h) : RaisedN base l e cls [] h := by
  obtain ⟨B, a0, hB, hl, hfl⟩ := R
  exact ⟨B, a0, hB, (fun _ hq => nomatch hq), hfl⟩
theorem c_parse {x host : Str} {t th : Tok} {pt : Addr} {pv : Value} {B : Heap} {outer : List Env} (X : (Mine.hd.heap_1 w.params).In s.heap) (T : Top p loose mean mg mb s.heap) (hl : x.length ≤ 600) (hch : ∀ c ∈ cp x, c < 1114112)
    (hP : s.heap.IsTuple pt #[.str host th, pv]) (KB : Below A B outer s.heap)
    (hA : A.handled = none) (hd : A.depth + 1 < recursionLimit) (hu : A.units + 100 < cLine)
    (h : ParsePost B outer x host t th Q E s (parseO (cp x))) : wpC (model Challenge.rw_oy0022_01.row.prog w) A (call (.ref 75) [.str x t, .ref pt]) Q E s := by
  obtain ⟨hnd, dp, fr, gd, un⟩ := A
  obtain rfl : hnd = none := hA
  dsimp only at hd hu
  revert X; k_fill; intro X
  refine wpC_call ?_
  k_dflt (refine' enterPC2 [(Str.ofString "resp", .str x t), (Str.ofString "peer", .ref pt)] X T ?k6 ?k7 ?k8 ?k9 ?kB ?_ ?c2 ?c3 ?c4 ?c5; (case k6 => k_is); (case k7 => k_is); (case k8 => (dsimp only; omega)); (case k9 => exact BindsTo.of_eq rfl); (case kB => exact locs rfl); (case c2 => exact rfl); (case c3 => exact rfl); (case c4 => exact rfl); (case c5 => decide))
  intro L h₁ F N
  (try dsimp only)
  (try k_fold)
  walk_at "c_next"
  · rename _ = true => q1
    rw [head_229, decide_eq_true_iff] at q1
    rw [parseO_reply q1] at h
    exact h _ _ _ _ (by assumption) (by assumption)
  rename _ = false => q1
  rw [head_229, decide_eq_false_iff_not, Decidable.not_not] at q1
  walk_at "c_next"
  walk_at "c_next"
  · rename _ < _ => q2
    rw [s40] at q2
    rcases find_first x 40 with ⟨_, hn⟩ | ⟨pre, r, _, _, e3⟩
    · rw [parseO_none q1 (brk_none1 hn)] at h
      exact h _ _ _ _ (by assumption) (by assumption)
    · rw [e3] at q2; omega
  rename ¬ _ < _ => q2
  obtain ⟨pre, r, ex, hpre, hf⟩ := (by
    rw [s40] at q2
    rcases find_first x 40 with ⟨e, _⟩ | h9
    · rw [e] at q2; exact absurd (by decide) q2
    · exact h9 : ∃ pre r, cp x = pre ++ 40 :: r ∧ 40 ∉ pre ∧ Txt.find x ⟨#[40]⟩ = (pre.length : Int))
  walk_at "c_next"
  walk_at "c_next"
  · rename Txt.find3 _ _ _ < _ => q3
    rw [s40, s41, hf] at q3
    rcases find3_first 41 ex with ⟨_, hn⟩ | ⟨ins, q, _, _, e3⟩
    · rw [ex] at h q1
      rw [parseO_none q1 (brk_none2 hpre hn)] at h
      exact h _ _ _ _ (by assumption) (by assumption)
    · rw [e3] at q3; omega
  rename ¬ Txt.find3 _ _ _ < _ => q3
  obtain ⟨ins, q, er, hins, hf3⟩ := (by
    rw [s40, s41, hf] at q3
    rcases find3_first 41 ex with ⟨e, _⟩ | h9
    · rw [e] at q3; exact absurd (by decide) q3
    · exact h9 : ∃ ins q, r = ins ++ 41 :: q ∧ 41 ∉ ins ∧ Txt.find3 x ⟨#[41]⟩ ((pre.length : Int) + 1) = ((pre.length + 1 + ins.length : Nat) : Int))
  subst er
  have hpo : parseO (cp x) = inO ins := by rw [ex] at q1 ⊢; exact parseO_some q1 (brk_some hpre hins)
  rw [hpo] at h
  have hxl : x.length = pre.length + 1 + (ins.length + 1 + q.length) := by rw [← cp_len, ex]; simp; omega
  have hl1 : Txt.find x (Str.ofString "(") = (pre.length : Int) := by rw [s40]; exact hf
  have hr1 : Txt.find3 x (Str.ofString ")") (Txt.find x (Str.ofString "(") + 1) = ((pre.length + 1 + ins.length : Nat) : Int) := by rw [hl1, s41]; exact hf3
  have hx9 : x.length ≤ 16777216 := Nat.le_trans hl (by decide)
  walk_at "c_next"
  refine Halt.go ?_
  refine itemE (by omega) (by omega) hx9 ?_
  intro v1 t1 k1 hv1 hw1
  k_steps
  refine Halt.go ?_
  refine itemE (by omega) (by omega) hx9 ?_
  intro v2 t2 k2 hv2 hw2
  k_steps
  · rename (_ != _) = true => q4
    rw [hv1, hv2, hr1, hl1, ends_eq ex, decide_eq_true_iff] at q4
    rw [inO_proto q4] at h
    exact h _ _ _ _ (by assumption) (by assumption)
  rename (_ != _) = false => q4
  rw [hv1, hv2, hr1, hl1, ends_eq ex, decide_eq_false_iff_not] at q4
  obtain ⟨m, tl, rfl⟩ : ∃ m tl, ins = m :: tl := by
    cases ins with
    | nil => exact absurd (.inl rfl) q4
    | cons m tl => exact ⟨m, tl, rfl⟩
  have hm1 : Txt.item x (Txt.find x (Str.ofString "(") + 1) = ⟨#[m]⟩ := by rw [hl1]; exact item_first ex
  have hci : cp (Txt.slice x (some (Txt.find x (Str.ofString "(") + 1)) (some (Txt.find3 x (Str.ofString ")") (Txt.find x (Str.ofString "(") + 1)))) = m :: tl := by rw [hl1, hr1] at *; exact cp_ins ex
  dsimp only
  walk_at "c_next"
  refine Halt.go ?_
  refine itemE (by omega) (by rw [hl1, hxl]; simp only [List.length_cons]; omega) hx9 ?_
  intro v3 t3 k3 hv3 hw3
  rw [hm1] at hv3
  have hz : (v3.length == 0) = false := by rw [hv3]; rfl
  generalize Txt.slice x (some (Txt.find x (Str.ofString "(") + 1)) (some (Txt.find3 x (Str.ofString ")") (Txt.find x (Str.ofString "(") + 1))) = zz at *
  dsimp only
  k_steps
  dsimp only at *
  rename StrsAre _ _ => hSr
  rename List.map _ _ = Txt.split _ _ => hsr
  rename ∀ a : Str, a ∈ List.map _ _ → _ => hle
  rw [hsr] at hSr hle
  rename Heap.IsList _ _ _ => hLr
  rename Fr _ _ _ _ => F9
  rename News _ _ _ _ => N9
  have hLr : Heap.IsList _ _ _ := N9.isList (by k_mem)
  obtain ⟨hp5, hp3⟩ := part3 (m := m) hci
  rw [hv3] at hSr hle
  have hsl := strsAre_length hSr
  have hspl : (spl m (m :: tl)).length ≤ 602 := by
    have := spl_len m (m :: tl)
    simp only [List.length_cons] at this hxl ⊢
    omega
  walk_at "c_next"
  refine Halt.go ?_
  refine len_list hLr (by rw [List.size_toArray, hsl, hp5]; omega) ?_
  k_steps
  · rename ((List.toArray _).size : Int) ≠ 5 => q5
    rw [List.size_toArray, hsl, hp5] at q5
    rw [inO_len q4 (by omega)] at h
    exact h _ _ _ _ (bareK (by assumption)) (by assumption)
  rename ((List.toArray _).size : Int) = 5 => q5
  rw [List.size_toArray, hsl, hp5] at q5
  have q5 : (spl m (m :: tl)).length = 5 := by omega
  rw [inO_num q4 q5] at h
  dsimp only
  walk_at "c_next"
  dsimp only
  refine wpC_execs_cons ?_
  refine wpC_Assign_Name ?_
  refine wpC_Call_name ?_
  k_steps
  refine wpC_callWith_typeP ?_
  k_steps
  have h3 : (Int.toNat 3 : Nat) = 3 := rfl
  rw [h3]
  generalize hy : (Txt.split zz (⟨#[m]⟩ : PySem.Str)).getD 3 Str.empty = y at *
  have hcy : cp y = (spl m (m :: tl)).getD 3 [] := by rw [← hp3, ← hy]; rfl
  have hmem : (spl m (m :: tl)).getD 3 [] ∈ spl m (m :: tl) := by
    rw [List.getD_eq_getElem?_getD, List.getElem?_eq_getElem (by omega), Option.getD_some]
    exact List.getElem_mem _
  have hyin : ∀ c ∈ cp y, c ∈ cp x := by
    intro c hc
    rw [hcy] at hc
    have := mem_spl hmem c hc
    rw [ex]; exact List.mem_append_right _ (List.mem_cons_of_mem _ (List.mem_append_left _ this))
  have hyl : y.length ≤ 640 := by
    have hm2 : y ∈ Txt.split zz (⟨#[m]⟩ : PySem.Str) := by
      rw [← hy, List.getD_eq_getElem?_getD, List.getElem?_eq_getElem (by rw [hp5]; omega), Option.getD_some]
      exact List.getElem_mem _
    have := hle y hm2
    omega
  rw [← hcy] at h
  have hint : intL (cp y) = PySem.intText? y := by unfold intL; rw [str_cp]
  rw [hint] at h
  cases hn : PySem.intText? y with
  | none =>
    rw [hn] at h
    refine call_refuse hyl hn rfl (fun c hc => Nat.lt_of_lt_of_le (hch c (hyin c hc)) (by decide)) ?_
    intro h' tk' e hx
    k_steps
    exact h _ _ _ (bareN (by assumption)) (by assumption)
  | some n =>
    rw [hn] at h
    refine ofAny (KIN.call_text hn hyl ?_)
    k_steps
    refine wpC_execs_cons ?_
    refine ofAny ?_
    k_steps
    rename Fr _ _ _ _ => F8
    rename News _ _ _ _ => N8
    have h0 := N8 _ List.mem_cons_self
    exact h _ _ _ _ F8.keep ⟨_, h0.1, rfl, _, rfl⟩ h0.2.2
end
end Mine

end
section -- W9
theorem Mine.offW9 : True ∧ True := by
  w_top off
  first | (walk1; all_goals trivial) | exact ⟨trivial, trivial⟩
namespace Mine
open PySem PySem.W PyProof.Rows PySem.Spec PySem.Calls
/-- the heap without the tables T -/
abbrev gh (T : List Addr) (h : Heap) : Heap := hideAll h T
theorem gh_sub {T : List Addr} {h : Heap} : ∀ b o, (gh T h).get? b = some o → h.get? b = some o := fun _ _ e => of_hideAll _ e
theorem gh_get {T : List Addr} {h : Heap} {b : Addr} {o : Obj} (e : h.get? b = some o) (n : b ∉ T) : (gh T h).get? b = some o := hideAll_get _ e n
theorem gh_none {T : List Addr} {h : Heap} {b : Addr} (e : h.get? b = none) : (gh T h).get? b = none := by
  cases q : (gh T h).get? b with
  | none => rfl
  | some o => rw [gh_sub _ _ q] at e; cases e
theorem gh_size {T : List Addr} {h : Heap} : (gh T h).objs.size = h.objs.size := hideAll_size _ _
section
variable {prog : Program} {w : World} {A : Around} {E : Value → Shared → Prop} {s : Shared}
theorem call_iter {v : Value} {Q : Value → Shared → Prop} (h : wpAny (model prog w) A.in1 (pyIter v) Q E s) : wpAny (model prog w) A (call (.builtin "iter") [v]) Q E s := by
  refine call_function_entry (by decide +kernel) (by decide +kernel) kdk_entry_iter (kdk_args_iter _) ?_
  unfold Builtin.«iter»
  refine wpAny_bind (m := someArgs "iter" 1 2 _) (wpAny_of_eq (a := [v]) (by first | rfl | kernel_rfl!) ?_)
  show wpAny _ _ (pyIter v >>= _) _ _ _
  exact wpAny_bind (wpAny_mono h (fun x s' hq => wpAny_pure ⟨_, rfl, hq⟩) fun _ _ e => e)
end
/-- how a call of the law's goes wrong -/
inductive Bad
  | reply (x : Str)
  | proto (x : Str)
  | value
def Bad.At (B G : Heap) (outer : List Env) (e : Addr) (h : Heap) : Bad → Prop
  | .reply x => ∃ t u, RaisedS B G outer e (.ref 54) t [.str x u] [] h
  | .proto x => ∃ t u, RaisedS B G outer e (.ref 66) t [.str x u] [] h
  | .value => RaisedSN B G outer e (.type "ValueError") [] h
theorem mem_frames {L b : Addr} {env : Env} {outer : List Env} (hf : env.frame = some L) (hm : b ∈ (env :: outer).filterMap (·.frame)) : b = L ∨ b ∈ outer.filterMap (·.frame) := by
  obtain ⟨e, he, hb⟩ := List.mem_filterMap.mp hm
  rcases List.mem_cons.mp he with rfl | he
  · rw [hf] at hb; exact .inl (Option.some.inj hb).symm
  · exact .inr (List.mem_filterMap.mpr ⟨e, he, hb⟩)
section
variable {M : Model} {A : Around} {E : Value → Shared → Prop} {s' : Shared} {B g G : Heap} {outer : List Env} {L e : Addr} {m : Str → Option Value} {env : Env} {Q : Unit → Shared → Prop}
theorem leave_bad {b : Bad} (K : Below A B outer g) (F : Fr g L G m) (hf : env.frame = some L) (R : b.At B G (env :: outer) e s'.heap) (hsm : G.UpToSlots s'.heap)
    (hQ : ∀ h', b.At B g outer e h' → g.UpToSlots h' → s'.heap.UpToSlots h' → Q () { s' with heap := h' }) : wpAny M (A.deeper env) (leaving env (.ref e)) Q E s' := by
  have sg : ∀ {Bh : Heap}, (∀ b o, G.get? b = some o → b ∉ (env :: outer).filterMap (·.frame) → Bh.get? b = some o) → ∀ b o, g.get? b = some o → b ∉ outer.filterMap (·.frame) → Bh.get? b = some o :=
    fun hBG b o q nm => hBG b o (F.keep b o q) fun hm => by
      rcases mem_frames hf hm with z | z
      · rw [z, kts_self F] at q; cases q
      · exact nm z
  cases b with
  | reply x =>
    obtain ⟨t, u, ⟨Bh, hB, hBG, hl, hfl, hnew⟩, htup⟩ := R
    exact wpAny_leaves_onW (Around.frames_deeper K.stack) hf hfl fun h' x1 x2 => hQ h' ⟨t, u, ⟨Bh, hB, sg hBG, (fun _ hq => nomatch hq), x1, hnew⟩, htup.of_slots x2⟩ ((Heap.UpToSlots.of_keeps F.keep).trans (hsm.trans x2)) x2
  | proto x =>
    obtain ⟨t, u, ⟨Bh, hB, hBG, hl, hfl, hnew⟩, htup⟩ := R
    exact wpAny_leaves_onW (Around.frames_deeper K.stack) hf hfl fun h' x1 x2 => hQ h' ⟨t, u, ⟨Bh, hB, sg hBG, (fun _ hq => nomatch hq), x1, hnew⟩, htup.of_slots x2⟩ ((Heap.UpToSlots.of_keeps F.keep).trans (hsm.trans x2)) x2
  | value =>
    obtain ⟨Bh, a0, hB, hBG, hl, hfl⟩ := R
    exact wpAny_leaves_onW (Around.frames_deeper K.stack) hf hfl fun h' x1 x2 => hQ h' ⟨Bh, a0, hB, sg hBG, (fun _ hq => nomatch hq), x1⟩ ((Heap.UpToSlots.of_keeps F.keep).trans (hsm.trans x2)) x2
end
/-- from the kit's raise to mine: the base is the ground without the frames -/
theorem bad_of_K {B G h : Heap} {outer : List Env} {e t : Addr} {cls : Value} {vs : List Value} (hB : B.StaysIn (hideAll G (outer.filterMap (·.frame)))) (R : RaisedK (hideAll G (outer.filterMap (·.frame))) outer e cls t vs [] h) : RaisedS B G outer e cls t vs [] h := by
  obtain ⟨⟨Bh, h1, _, h3, h4⟩, h5⟩ := R
  exact ⟨⟨Bh, fun b o q => h1 b o (hB b o q), fun b o q nm => h1 b o (hideAll_get _ q nm), (fun _ hq => nomatch hq), h3, h4⟩, h5⟩
theorem bad_of_N {B G h : Heap} {outer : List Env} {e : Addr} {cls : Value} (hB : B.StaysIn (hideAll G (outer.filterMap (·.frame)))) (R : RaisedN (hideAll G (outer.filterMap (·.frame))) outer e cls [] h) : RaisedSN B G outer e cls [] h := by
  obtain ⟨Bh, a0, h1, _, h3⟩ := R
  exact ⟨Bh, a0, fun b o q => h1 b o (hB b o q), fun b o q nm => h1 b o (hideAll_get _ q nm), (fun _ hq => nomatch hq), h3⟩
theorem below_hide {A : Around} {B G : Heap} {outer : List Env} (K : Below A B outer G) : Below A (hideAll G (outer.filterMap (·.frame))) outer G ∧ B.StaysIn (hideAll G (outer.filterMap (·.frame))) := by
  refine ⟨⟨K.stack, fun b o e => of_hideAll _ e, funFrames_hide K.frames fun env he a ha => List.mem_filterMap.mpr ⟨env, he, ha⟩⟩, fun b o e => ?_⟩
  refine hideAll_get _ (K.stays b o e) fun hm => ?_
  rw [(K.frames.mem hm).1] at e; cases e
section
variable {prog : Program} {w : World} {A : Around} {E : Value → Shared → Prop} {s : Shared} {env : Env}
theorem wpC_forW {x : Str} {px pos : Pos} {iter : Expr} {body : List Stmt} {Q : Flow → Shared → Prop} (hE : PassesOwn (model prog w) A env E)
    (h : wpAny (model prog w) A (eval iter env) (fun xv s₁ => wpAny (model prog w) A (pyIter xv) (fun it s₂ => ∃ (n : Nat) (J : Nat → Shared → Prop), J 0 s₂ ∧ (∀ v, letOwnedTupleGo (.Name x px) it v = pure ()) ∧
      (∀ i s, i < n → J i s → wpAny (model prog w) A (pyNext it) (fun r s₁ => ∃ v, r = some v ∧ wpAny (model prog w) A (storeName env x v) (fun _ s₂ => wpC (model prog w) A (execs body env) (fun f s₃ => match f with
        | .next | .cont => J (i + 1) s₃
        | .brk => Q .next s₃
        | .ret v => Q (.ret v) s₃) E s₂) E s₁) E s) ∧
      (∀ s, J n s → wpAny (model prog w) A (pyNext it) (fun r s₁ => r = none ∧ Q .next s₁) E s)) E s₁) E s)
    (hs : ∀ x, foldedSetIterable iter env x = pure x := by intro _; rfl) : wpC (model prog w) A (exec (.For (.Name x px) iter body [] pos) env) Q E s := by
  refine wpC_For (wpAny_mono h (fun xv s₁ h₁ => wpAny_mono h₁ (fun it s₂ h₂ => ?_) fun _ _ e => e) fun _ _ e => e) hs
  obtain ⟨n, J, h0, hlet, hstep, hdone⟩ := h₂
  refine codeC_forLoop (fun k s => ∃ i, i ≤ n ∧ k = n - i ∧ J i s) ?_ n ⟨0, Nat.zero_le _, rfl, h0⟩ hlet
  rintro k s ⟨i, hi, rfl, hJ⟩
  by_cases hlt : i < n
  · refine wpAny_mono (hstep i s hlt hJ) (fun r s₁ h₁ => ?_) hE
    obtain ⟨v, rfl, h₁⟩ := h₁
    refine wpAny_mono (wpAny_assign_Name (pos := px) h₁) (fun _ s₂ h₂ => wpC_mono h₂ (fun f s₃ h₃ => ?_) hE) hE
    cases f with
    | next => exact ⟨n - (i + 1), by omega, i + 1, hlt, rfl, h₃⟩
    | cont => exact ⟨n - (i + 1), by omega, i + 1, hlt, rfl, h₃⟩
    | brk => exact h₃
    | ret v => exact h₃
  · obtain rfl : i = n := by omega
    refine wpAny_mono (hdone s hJ) (fun r s₁ h₁ => ?_) hE
    obtain ⟨rfl, h₁⟩ := h₁
    exact h₁
end
end Mine

end
section -- J1
theorem Mine.offJ1 : True ∧ True := by
  w_top off
  first | (walk1; all_goals trivial) | exact ⟨trivial, trivial⟩
namespace Mine
open PySem PySem.W PyProof.Rows PySem.Spec PySem.Calls

/-- the code's table, as far as the code at one place is concerned -/
def TabG (h : Heap) (P : Addr) (pos : Pos) : Prop := ∃ ps, h.get? P = some (tabObj ps) ∧ TriplesOk ps.toList ∧ (codeAmong pos ps.toList = none ∨ ∃ c', codeAmong pos ps.toList = some (.ref c'))
theorem TabG.at {h h' : Heap} {P : Addr} {pos : Pos} (x : TabG h P pos) (k : ∀ o, h.get? P = some o → h'.get? P = some o) : TabG h' P pos :=
  let ⟨ps, e, r⟩ := x; ⟨ps, k _ e, r⟩
section
variable {prog : Program} {w : World} {A : Around} {E : Value → Shared → Prop} {s : Shared}
theorem genexprCode_tab {env : Env} {c P : Addr} {pos : Pos} {q : Str} {scope : Scope} {Q : Value → Shared → Prop} (hc : env.code = .ref c) (C : CodeHd s.heap c P) (hT : TabG s.heap P pos)
    (h : ∀ cv h' tk, Heap.ExtBut P s.heap h' → s.heap.objs.size ≤ h'.objs.size → TabG h' P pos → Q cv { s with heap := h', toks := tk }) : wpAny (model prog w) A (genexprCode env pos q scope) Q E s := by
  obtain ⟨ps, hP, ht, hcase⟩ := hT
  rcases hcase with hn | ⟨c', hf⟩
  · refine wpAny_genexprCodeX hc (C.code hP ht) (C.tab hP) hn fun c' h' tk hx hge hlt _ _ htb _ => ?_
    refine h _ h' tk hx (Nat.le_trans hge (Nat.le_of_lt hlt)) ⟨_, htb.2, ?_, .inr ⟨c', ?_⟩⟩
    · rw [Array.toList_append]; exact TriplesOk_snoc _ _ _ _ ht
    · rw [Array.toList_append]; exact codeAmong_snoc _ ht hn
  · exact wpAny_genexprCode_hit hc (C.code hP ht) hf (h _ s.heap s.toks (fun _ _ _ e => e) (Nat.le_refl _) ⟨ps, hP, ht, .inr ⟨c', hf⟩⟩)

theorem gen_list {env : Env} {elt iter : Expr} {x : Str} {px : Pos} {ifs : List Expr} {scope : Scope} {cl : List (Str × Addr)} {pos : Pos} {Q : Value → Shared → Prop} {c P bm : Addr} {mg : Str → Option Value} {ob : Obj} (pz : Nat → Bool) (F : Nat → Value → Prop)
    (hcode : env.code = .ref c) (hh : A.handled = none) (hco : scope.isCoroutine = false) (hclos : closureFor scope env = pure cl) (hcell : ∀ y ∈ scope.names, y.2 ≠ .cell) (h0 : scope.names.lookup (".0" : Str) = some NameKind.local)
    (hx : scope.names.lookup x = some .local) (hkind : scope.kind = .function) (hroom : A.depth < recursionLimit)
    (h : wpAny (model prog w) A (eval iter env) (fun xv s₁ => ∃ l items, xv = .ref l ∧ s₁.heap.IsList l items ∧ AllBare s₁.gens ∧ s₁.heap.NoLimit ∧ BMod s₁.heap env.globals mg bm ob ∧ CodeHd s₁.heap c P ∧ TabG s₁.heap P pos ∧ P ≠ cStatics ∧
        (∀ (cv : Value) (C : Addr) (A' : Around) E' i v (t : Shared) m₂, A'.handled = none → A'.depth ≤ A.depth + 1 → A'.units ≤ A.units + 8 → items[i]? = some v → s₁.heap.objs.size ≤ C → t.heap.Ns C m₂ → m₂ x = some v →
          (∀ b o, b ≠ P → s₁.heap.get? b = some o → t.heap.get? b = some o) →
          wpAny (model prog w) A' (forIn ifs true fun c r => if r = true then do let ok ← isTrue c (genEnv scope cl C cv builtinsNs env) (eval c (genEnv scope cl C cv builtinsNs env)); pure (ForInStep.yield ok) else pure (ForInStep.yield r))
            (fun ok s₃ => ok = pz i ∧ Keeps t s₃) E' t) ∧
        (∀ (cv : Value) (C : Addr) (A' : Around) E' i v (t : Shared) m₂, A'.handled = none → A'.depth ≤ A.depth + 1 → A'.units ≤ A.units + 8 → items[i]? = some v → pz i = true → s₁.heap.objs.size ≤ C → t.heap.Ns C m₂ → m₂ x = some v →
          (∀ b o, b ≠ P → s₁.heap.get? b = some o → t.heap.get? b = some o) →
          wpAny (model prog w) A' (eval elt (genEnv scope cl C cv builtinsNs env)) (fun y s₃ => F i y ∧ Keeps t s₃) E' t) ∧
        (∀ (a : Addr) (s₅ : Shared), AllBare s₅.gens → s₅.os = s₁.os → (∀ b o, b ≠ P → s₁.heap.get? b = some o → s₅.heap.get? b = some o) → TabG s₅.heap P pos →
          Gen prog w A (s₁.heap.objs.size - 1) a (passing pz items.size 0).length (fun j y => ∃ i, (passing pz items.size 0)[j]? = some i ∧ F i y) s₅ → Q (.ref a) s₅)) E s)
    (hs : ∀ x, genFold iter env x = pure x) :
    wpAny (model prog w) A (eval (.GeneratorExp elt [⟨.Name x px, iter, ifs, 0⟩] scope pos) env) Q E s := by
  refine wpAny_GeneratorExp_walksQD hh hco hclos hcell h0 hx hkind hroom (wpAny_mono h (fun xv s₁ h₁' => ?_) fun _ _ e => e) hs
  obtain ⟨l, items, rfl, hl, G₁, hlim₁, M₁, C₁, T₁, hPs, hq1, hq2, hQ⟩ := h₁'
  have hlt : l < s₁.heap.objs.size := by obtain ⟨_, e, _⟩ := hl; exact Heap.lt_size e
  have hPlt : P < s₁.heap.objs.size := by obtain ⟨_, e, _⟩ := T₁; exact Heap.lt_size e
  have hlP : l ≠ P := fun e => by
    obtain ⟨o, ho, hc, _⟩ := hl
    obtain ⟨ps, e2, _⟩ := T₁
    rw [e, e2] at ho; cases ho; exact absurd hc (by simp)
  have up : ∀ o : Obj, ∀ b o', s₁.heap.get? b = some o' → (s₁.heap.push o).get? b = some o' := fun o b o' e => Heap.get?_push_of_some _ e
  refine wpAny_pyIter_list hl ⟨hlim₁.push _, genexprCode_tab hcode (C₁.keeps (up _)) (T₁.at fun o e => up _ _ _ e) fun cv h₃ tk₃ hx₃ hsz T₃ => ?_⟩
  dsimp only at hx₃ hsz
  have hsz' : s₁.heap.objs.size + 1 ≤ h₃.objs.size := by rw [Heap.size_push] at hsz; exact hsz
  have hbP : bm ≠ P := fun e => by
    obtain ⟨ps, e2, _⟩ := T₁
    have := M₁.obj; rw [e, e2] at this; cases this; exact absurd M₁.cls (by simp)
  have hgP : env.globals ≠ P := fun e => by
    obtain ⟨ps, e2, _⟩ := T₁
    obtain ⟨o, es, ep, ho, hd, _⟩ := M₁.ns
    rw [e, e2] at ho; cases ho; cases hd
  have hk₃ : ∀ b o, b ≠ P → s₁.heap.get? b = some o → h₃.get? b = some o := fun b o hb e => hx₃ b o hb (up _ _ _ e)
  refine wpAny_builtinsFor ((M₁.ns.push _).extBut hx₃ hgP) M₁.name M₁.ne (hk₃ _ _ hbP M₁.obj) M₁.cls M₁.dict M₁.data ?_
  have hst : h₃.get? s₁.heap.objs.size = some _ := hx₃ _ _ (Nat.ne_of_gt hPlt) (Heap.get?_push_size _ rfl)
  refine ⟨s₁.heap.objs.size, [s₁.heap.objs.size, l], [s₁.heap.objs.size], items.size, _, _, pz, F, rfl, (fun A' hA => Walks.list hA _ _ (Nat.ne_of_lt hlt) items), ⟨⟨_, hst, rfl, rfl⟩, (hl.push _).extBut hx₃ hlP⟩, ?_, (hlim₁.push _).extBut hx₃ (Ne.symm hPs), ?_, ?_, ?_⟩
  · intro b hb
    show b < h₃.objs.size
    rcases List.mem_cons.mp hb with e | hb
    · rw [e]; exact hsz'
    · rcases List.mem_cons.mp hb with e | hb
      · rw [e]; exact Nat.lt_trans hlt hsz'
      · cases hb
  · intro hm
    obtain ⟨_, hns, _⟩ := hlim₁
    have := hns.lt
    rw [List.mem_singleton.mp hm] at this
    exact absurd this (Nat.lt_irrefl _)
  · intro href hhref
    have key : ∀ (t : Shared), (∀ b ∈ List.range h₃.objs.size, b ∉ [s₁.heap.objs.size] → ∀ o, href.get? b = some o → t.heap.get? b = some o) → ∀ b o, b ≠ P → s₁.heap.get? b = some o → t.heap.get? b = some o := by
      intro t hkp b o hb e
      refine hkp b (List.mem_range.mpr (Heap.lt_size (hk₃ b o hb e))) (fun hm => ?_) o (hhref b o (hk₃ b o hb e))
      rw [List.mem_singleton.mp hm] at e
      exact absurd (Heap.lt_size e) (Nat.lt_irrefl _)
    exact ⟨fun A' E' i v t m₂ hA hD hU hP hn hm hkp => hq1 cv _ A' E' i v t m₂ hA hD hU hP (Nat.le_trans (Nat.le_succ _) hsz') hn hm (key t hkp),
      fun A' E' i v t m₂ hA hD hU hP hp hn hm hkp => hq2 cv _ A' E' i v t m₂ hA hD hU hP hp (Nat.le_trans (Nat.le_succ _) hsz') hn hm (key t hkp)⟩
  · intro a h₅ tk gs hgb hag hsz₅ hk₅ W hat
    refine hQ a _ (G₁.push hgb) rfl (fun b o hb e => hk₅ b o (hk₃ b o hb e)) (T₃.at fun o e => hk₅ _ _ e) ⟨_, _, _, _, W, hat, (fun i s' st => st.1.typeIs), List.mem_cons_self, ?_, ?_⟩
    · intro b hb
      show b < h₅.objs.size
      dsimp only at hag
      rw [hsz₅]
      rcases List.mem_cons.mp hb with rfl | hb
      · exact Nat.lt_succ_self _
      · rcases List.mem_cons.mp hb with rfl | hb
        · exact Nat.lt_succ_of_lt hag
        · exact Nat.lt_succ_of_lt (Nat.lt_trans (List.mem_range.mp hb) hag)
    · intro b hb
      dsimp only at hb
      have hpos : 0 < s₁.heap.objs.size := Nat.lt_of_le_of_lt (Nat.zero_le _) hlt
      have hpr : s₁.heap.objs.size - 1 < s₁.heap.objs.size := Nat.sub_lt hpos Nat.one_pos
      rcases List.mem_cons.mp hb with e | hb
      · rw [e]; exact Nat.lt_trans hpr hsz'
      · rw [List.mem_singleton.mp hb]; exact hpr
end
end Mine

end
section -- R9
theorem Mine.offR9 : True ∧ True := by
  w_top off
  first | (walk1; all_goals trivial) | exact ⟨trivial, trivial⟩
namespace Mine
open PySem PySem.W PyProof.Rows PySem.Spec PySem.Calls
def FSpec (prog : Program) (w : World) (f : Addr) (n : Nat) (Val : Nat → Value → Heap → Prop) (P : Nat → Value → Prop) (T : List Addr) (Inv : Heap → Prop) (pb : Bad → Prop) (g B : Heap) (D U : Nat) : Prop :=
  ∀ (i : Nat) (v e : Value) (s : Shared) (A : Around) (Q : Value → Shared → Prop) (E : Value → Shared → Prop) (outer : List Env), i < n → Val i v s.heap → P i e → (∀ b o, g.get? b = some o → s.heap.get? b = some o) → Below A B outer (gh T s.heap) → Inv s.heap → AllBare s.gens →
    A.handled = none → A.depth ≤ D → A.units ≤ U →
    (∀ v' s', Val (i + 1) v' s'.heap → s'.os = s.os → AllBare s'.gens → (∀ b o, (gh T s.heap).get? b = some o → s'.heap.get? b = some o) → Inv s'.heap → s.heap.objs.size ≤ s'.heap.objs.size → Q v' s') →
    (∀ b e s', pb b → b.At B (gh T s.heap) outer e s'.heap → (gh T s.heap).UpToSlots s'.heap → s'.os = s.os → AllBare s'.gens → E (.ref e) s') → wpC (model prog w) A (call (.ref f) [v, e]) Q E s
/-- what iter(sequence) gives -/
def ISpec (prog : Program) (w : World) (sv : Value) (n : Nat) (P : Nat → Value → Prop) (g : Heap) : Prop :=
  ∀ (A : Around) (s : Shared) (Q : Value → Shared → Prop) (E : Value → Shared → Prop), A.handled = none → (∀ b o, g.get? b = some o → s.heap.get? b = some o) →
    (∀ (I : Addr) (fp wr : List Addr) (St : Nat → Heap → Prop) (h' : Heap) (tk : Nat), (∀ A' : Around, A'.handled = none → Walks prog w A' I fp wr n P St) → St 0 h' → (∀ b o, s.heap.get? b = some o → h'.get? b = some o) → s.heap.objs.size ≤ h'.objs.size →
      (∀ b ∈ fp, b ∈ wr ∨ ∃ o, g.get? b = some o) → (∀ b ∈ wr, s.heap.get? b = none) → (∀ i h b o, St i h → b ∈ wr → h.get? b = some o → ∀ vs k, o.data ≠ .seq vs k) → (∀ x px v, letOwnedTupleGo (.Name x px) (.ref I) v = pure ()) → Q (.ref I) { s with heap := h', toks := tk }) → wpAny (model prog w) A (pyIter sv) Q E s
section
variable {M : Model} {A : Around} {E : Value → Shared → Prop} {s : Shared} {g : Heap} {L : Addr} {m : Str → Option Value} {env : Env}
theorem st_same {x : Str} {v : Value} {Q : Unit → Shared → Prop} (F : Fr g env.locals s.heap m) (hx : env.kindOf x = some .local) (hp : (env.scope.kind == .class || (env.scope.kind == .module && env.locals != env.globals)) = false)
    (h : ∀ h', Fr g env.locals h' (fun y => if y = x then some v else m y) → Heap.SameBut env.locals s.heap h' → Q () { s with heap := h', toks := s.toks + 1 }) : wpAny M A (storeName env x v) Q E s :=
  wpAny_storeName_local hx F.ns (fun h₂ hn₂ hs₂ => h h₂ (F.set hn₂ hs₂) hs₂) hp
end
section
variable {w : World} {A : Around} {s : Shared} {E : Value → Shared → Prop} {Q : Value → Shared → Prop} {p : Program} {loose : List Str} {mean : ExcName → Option Value} {mg mb : Str → Option Value}
local macro_rules | `(tactic| walk_at "call builtin:iter") => `(tactic| refine halt ?_)
local macro_rules | `(tactic| walk_at "storeName") => `(tactic| refine halt ?_)
local macro_rules | `(tactic| walk_at "pyIter ref") => `(tactic| refine halt ?_)
local macro_rules | `(tactic| walk_at "compareOp Is") => `(tactic| refine halt ?_)
theorem c_reduce {f : Addr} {fo : Obj} {fd : FuncData} {sv v0 : Value} {n : Nat} {Val : Nat → Value → Heap → Prop} {P : Nat → Value → Prop} {T : List Addr} {Inv : Heap → Prop} {pb : Bad → Prop} {B : Heap} {outer : List Env}
    (X : (Mine.hd.heap_1 w.params).In (gh T s.heap)) (Tp : Top p loose mean mg mb (gh T s.heap)) (hf : (gh T s.heap).get? f = some fo) (hfd : fo.data = .func fd)
    (hInv : Inv s.heap) (hInvT : ∀ h, Inv h → ∀ b ∈ T, ∃ ps, h.get? b = some (tabObj ps)) (hInvK : ∀ h h', Inv h → (∀ b ∈ T, ∀ o, h.get? b = some o → h'.get? b = some o) → Inv h')
    (hValK : ∀ i v h h', Val i v h → (∀ b o vs k, o.data = .seq vs k → h.get? b = some o → h'.get? b = some o) → Val i v h')
    (hIs : ∀ (A : Around) (s' : Shared) (Q : Value → Shared → Prop) (E : Value → Shared → Prop), (∀ b o, (gh T s.heap).get? b = some o → s'.heap.get? b = some o) → Q (.bool false) s' → wpAny (model Challenge.rw_oy0022_01.row.prog w) A (compareOp .Is v0 (.ref 76)) Q E s')
    (h0 : Val 0 v0 s.heap) (hI : ISpec Challenge.rw_oy0022_01.row.prog w sv n P (gh T s.heap)) (hF : FSpec Challenge.rw_oy0022_01.row.prog w f n Val P T Inv pb (gh T s.heap) B (A.depth + 1) (A.units + 10))
    (KB : Below A B outer (gh T s.heap)) (hG : AllBare s.gens) (hA : A.handled = none) (hd : A.depth + 1 < recursionLimit) (hu : A.units + 100 < cLine)
    (h : ∀ v s', Val n v s'.heap → s'.os = s.os → AllBare s'.gens → (∀ b o, (gh T s.heap).get? b = some o → s'.heap.get? b = some o) → Inv s'.heap → s.heap.objs.size ≤ s'.heap.objs.size → Q v s')
    (hE : ∀ b e s', pb b → b.At B (gh T s.heap) outer e s'.heap → (gh T s.heap).UpToSlots s'.heap → s'.os = s.os → AllBare s'.gens → E (.ref e) s') :
    wpC (model Challenge.rw_oy0022_01.row.prog w) A (call (.ref 84) [.ref f, sv, v0]) Q E s := by
  obtain ⟨hnd, dp, fr, gd, un⟩ := A
  obtain rfl : hnd = none := hA
  dsimp only at hd hu hF
  have X0 := X.keeps (gh_sub (T := T))
  have T0 := Tp.keeps (gh_sub (T := T))
  revert X; k_fill; intro X
  refine wpC_call ?_
  k_dflt (refine' enterPC2 [(Str.ofString "function", .ref f), (Str.ofString "sequence", sv), (Str.ofString "initial", v0)] X0 T0 ?k6 ?k7 ?k8 ?k9 ?kB ?_ ?c2 ?c3 ?c4 ?c5; (case k6 => k_is); (case k7 => k_is); (case k8 => (dsimp only; omega)); (case k9 => exact binds_K X0 rfl (by k_is) rfl rfl rfl); (case kB => exact locs rfl); (case c2 => exact rfl); (case c3 => exact rfl); (case c4 => exact rfl); (case c5 => decide))
  intro L h₁ F0 N0
  (try dsimp only)
  (try k_fold)
  have F : Fr (gh T s.heap) L h₁ _ := ⟨F0.ns, fun b o e => F0.keep _ _ (gh_sub _ _ e), Nat.le_trans (Nat.le_of_eq gh_size) F0.above⟩
  have N : News (gh T s.heap) L h₁ [] := News.nil
  have hkeep1 : ∀ b o, s.heap.get? b = some o → h₁.get? b = some o := F0.keep
  have hsz1 : s.heap.objs.size ≤ h₁.objs.size := Nat.le_of_lt (Nat.lt_of_le_of_lt F0.above F0.ns.lt)
  clear F0 N0
  refine wpC_execs_cons (ofAny ?_)
  k_steps
  refine Halt.go ?_
  refine call_iter (hI _ _ _ _ rfl F.keep fun I fp wr St h2 tk2 hW hSt hk2 hsz2 hfp hwr hseq hlet => ?_)
  have F2 := F.keeps hk2
  have N2 : News (gh T s.heap) L h2 [] := News.nil
  have hk12 : ∀ b o, s.heap.get? b = some o → h2.get? b = some o := fun b o e => hk2 _ _ (hkeep1 _ _ e)
  have hsz12 : s.heap.objs.size ≤ h2.objs.size := Nat.le_trans hsz1 hsz2
  have hLfp : L ∉ fp := fun hm => by
    rcases hfp L hm with hm | ⟨o, e⟩
    · have := hwr L hm
      obtain ⟨o, es, ep, ho, _⟩ := F.ns
      rw [ho] at this; cases this
    · exact absurd (Nat.lt_of_lt_of_le (Heap.lt_size e) F.above) (Nat.lt_irrefl _)
  have hTfp : ∀ b ∈ T, b ∉ fp := fun b hb hm => by
    rcases hfp b hm with hm | ⟨o, e⟩
    · have := hwr b hm
      obtain ⟨ps, e⟩ := hInvT _ hInv b hb
      rw [hkeep1 _ _ e] at this; cases this
    · rw [hideAll_none _ hb] at e; cases e
  have hTL : L ∉ T := fun hm => by
    obtain ⟨ps, e⟩ := hInvT _ hInv L hm
    exact absurd (Nat.lt_of_lt_of_le (Heap.lt_size e) (Nat.le_trans (Nat.le_of_eq gh_size.symm) F.above)) (Nat.lt_irrefl _)
  clear F N
  k_steps
  refine Halt.go ?_
  refine st_same F2 rfl rfl fun h3 F3 hs3 => ?_
  replace F3 : Fr (gh T s.heap) L h3 _ := F3
  replace hs3 : Heap.SameBut L h2 h3 := hs3
  refine wpC_execs_cons (ofAny ?_)
  k_steps
  refine Halt.go (hIs _ _ _ _ F3.keep ?_)
  k_steps
  refine Halt.go ?_
  refine st_same F3 rfl rfl fun h4 F4 hs4 => ?_
  replace F4 : Fr (gh T s.heap) L h4 _ := F4
  replace hs4 : Heap.SameBut L h3 h4 := hs4
  have k24 : ∀ b o, b ≠ L → h2.get? b = some o → h4.get? b = some o := fun b o hb e => (hs4.2 b hb).trans ((hs3.2 b hb).trans e)
  k_steps
  show wpC _ _ _ _ _ _
  have keepNe : ∀ b o, b ≠ L → s.heap.get? b = some o → h4.get? b = some o := fun b o hb e => k24 b o hb (hk12 _ _ e)
  have neL : ∀ b o, s.heap.get? b = some o → b ≠ L := fun b o e q => by
    rw [q] at e
    exact absurd (Nat.lt_of_lt_of_le (Heap.lt_size e) (Nat.le_trans (Nat.le_of_eq gh_size.symm) F2.above)) (Nat.lt_irrefl _)
  have keepS : ∀ b o, s.heap.get? b = some o → h4.get? b = some o := fun b o e => keepNe b o (neL b o e) e
  have hInv4 : Inv h4 := hInvK _ _ hInv fun b _ o e => keepS b o e
  have hVal4 : Val 0 v0 h4 := hValK _ _ _ _ h0 fun b o _ _ _ e => keepS _ _ e
  have hSt4 : St 0 h4 := (hW { depth := 0 } rfl).frame _ _ _ hSt fun b hb o e => k24 b o (fun q => hLfp (q ▸ hb)) e
  have hsz4 : s.heap.objs.size ≤ h4.objs.size := by rw [hs4.1, hs3.1]; exact hsz12
  clear hSt h0 hInv F2 F3 hs3 hs4 k24 keepNe
  refine wpC_execs_cons ?_
  refine wpC_forW (by passes_own) ?_
  k_steps
  refine Halt.go ?_
  have hwf : ∀ b ∈ wr, b ∈ fp := (hW { depth := 0 } rfl).sub
  have hgwr : ∀ b o, (gh T s.heap).get? b = some o → b ∉ wr := fun b o e hm => by
    have := hwr b hm
    rw [hkeep1 _ _ (gh_sub _ _ e)] at this; cases this
  refine (hW _ rfl).self 0 _ _ _ hSt4 ⟨n, fun i s1 => ∃ v m, Fr (gh T s.heap) L s1.heap m ∧ m (Str.ofString "value") = some v ∧ m (Str.ofString "function") = some (.ref f) ∧ Val i v s1.heap ∧ St i s1.heap ∧ Inv s1.heap ∧ AllBare s1.gens ∧ s1.os = s.os ∧ s.heap.objs.size ≤ s1.heap.objs.size,
    ⟨v0, _, F4, rfl, rfl, hVal4, hSt4, hInv4, hG, rfl, hsz4⟩, fun v => hlet _ _ v, ?_, ?_⟩
  · rintro i s1 hi ⟨v, m, F5, hmv, hmf, hVal5, hSt5, hInv5, hG5, hos5, hsz5⟩
    refine (hW _ rfl).item i s1 _ _ hi hSt5 fun e h6 tk6 hP hSt6 hk6 => ⟨e, rfl, ?_⟩
    have F6 : Fr (gh T s.heap) L h6 m := ⟨F5.ns.at fun o q => hk6 _ _ (fun hm => hLfp (hwf _ hm)) q, fun b o q => hk6 _ _ (hgwr b o q) (F5.keep _ _ q), F5.above⟩
    refine st_same F6 rfl rfl fun h7 F7 hs7 => ?_
    replace F7 : Fr (gh T s.heap) L h7 _ := F7
    replace hs7 : Heap.SameBut L h6 h7 := hs7
    have hInv7 : Inv h7 := hInvK _ _ hInv5 fun b hb o q => (hs7.2 b fun z => hTL (z ▸ hb)).trans (hk6 _ _ (fun hm => hTfp b hb (hwf _ hm)) q)
    have hLseq : ∀ {h m} (_ : Fr (gh T s.heap) L h m) o vs k, o.data = .seq vs k → h.get? L = some o → False := fun F o vs k hd q => by
      obtain ⟨o', es, ep, ho, hd', _⟩ := F.ns
      rw [q] at ho; cases ho; rw [hd] at hd'; cases hd'
    have hVal7 : Val i v h7 := hValK _ _ _ _ hVal5 fun b o vs k hd q => by
      have q6 : h6.get? b = some o := hk6 _ _ (fun hm => hseq _ _ _ _ hSt5 hm q vs k hd) q
      exact (hs7.2 b fun z => hLseq F6 o vs k hd (z ▸ q6)).trans q6
    have hSt7 : St (i + 1) h7 := (hW { depth := 0 } rfl).frame _ _ _ hSt6 fun b hb o q => (hs7.2 b fun z => hLfp (z ▸ hb)).trans q
    have hsz7 : s.heap.objs.size ≤ h7.objs.size := Nat.le_trans (Nat.le_of_eq gh_size.symm) (Nat.le_trans F7.above (Nat.le_of_lt F7.ns.lt))
    rw [put_eq hmv, put_eq hmf] at F7
    refine wpC_execs_cons (wpC_Assign_Name (wpC_Call_name ?_))
    k_steps
    refine wpC_callWith_functionP (o := fo) (fd := fd) ?_
    k_steps
    have hTh7 : ∀ b ∈ T, ∃ ps, h7.get? b = some (tabObj ps) := hInvT _ hInv7
    have Fg : Fr (gh T s.heap) L (gh T h7) _ := ⟨F7.ns.at fun o q => gh_get q hTL, fun b o q => gh_get (F7.keep _ _ q) (fun hm => by rw [hideAll_none _ hm] at q; cases q), F7.above⟩
    refine hF i v e _ _ _ _ _ hi hVal7 hP F7.keep (pushX KB Fg rfl rfl) hInv7 hG5 rfl (by dsimp only [Around.deeper]; omega) (by dsimp only [Around.deeper]; omega) ?_ ?_
    · intro v' s8 hVal8 hos8 hG8 hk8 hInv8 hsz8
      have F8 : Fr (gh T s.heap) L s8.heap _ := ⟨Fg.ns.at fun o q => hk8 _ _ q, fun b o q => hk8 _ _ (Fg.keep _ _ q), F7.above⟩
      have hSt8 : St (i + 1) s8.heap := (hW { depth := 0 } rfl).frame _ _ _ hSt7 fun b hb o q => hk8 _ _ (gh_get q fun hm => hTfp b hm hb)
      refine st_same F8 rfl rfl fun h9 F9 hs9 => ?_
      replace F9 : Fr (gh T s.heap) L h9 _ := F9
      replace hs9 : Heap.SameBut L s8.heap h9 := hs9
      show wpC _ _ (execs [] _) _ _ _
      refine ofAny (wpAny_execs_nil ?_)
      refine ⟨v', _, F9, rfl, rfl, ?_, ?_, ?_, hG8, hos8.trans hos5, ?_⟩
      · exact hValK _ _ _ _ hVal8 fun b o vs k hd q => (hs9.2 b fun z => hLseq F8 o vs k hd (z ▸ q)).trans q
      · exact (hW { depth := 0 } rfl).frame _ _ _ hSt8 fun b hb o q => (hs9.2 b fun z => hLfp (z ▸ hb)).trans q
      · exact hInvK _ _ hInv8 fun b hb o q => (hs9.2 b fun z => hTL (z ▸ hb)).trans q
      · exact Nat.le_trans (Nat.le_of_eq gh_size.symm) (Nat.le_trans F9.above (Nat.le_of_lt F9.ns.lt))
    · intro b e' s8 hpb hbad hup hos8 hG8
      refine leave_bad KB Fg rfl hbad hup fun h' hb' hu' _ => ?_
      exact hE b e' _ hpb hb' hu' (hos8.trans hos5) hG8
  · rintro s1 ⟨v, m, F5, hmv, hmf, hVal5, hSt5, hInv5, hG5, hos5, hsz5⟩
    refine (hW _ rfl).done s1 _ _ hSt5 fun h6 tk6 hk6 => ⟨rfl, ?_⟩
    have F6 : Fr (gh T s.heap) L h6 m := ⟨F5.ns.at fun o q => hk6 _ _ (fun hm => hLfp (hwf _ hm)) q, fun b o q => hk6 _ _ (hgwr b o q) (F5.keep _ _ q), F5.above⟩
    have hInv6 : Inv h6 := hInvK _ _ hInv5 fun b hb o q => hk6 _ _ (fun hm => hTfp b hb (hwf _ hm)) q
    have hVal6 : Val n v h6 := hValK _ _ _ _ hVal5 fun b o vs k hd q => hk6 _ _ (fun hm => hseq _ _ _ _ hSt5 hm q vs k hd) q
    rw [put_eq hmv] at F6
    show wpC _ _ (execs _ _) _ _ _
    refine wpC_execs_cons (ofAny ?_)
    k_steps
    exact h v _ hVal6 hos5 hG5 F6.keep hInv6 (Nat.le_trans (Nat.le_of_eq gh_size.symm) (Nat.le_trans F6.above (Nat.le_of_lt F6.ns.lt)))
end
end Mine

end
section -- S1
theorem Mine.offS1 : True ∧ True := by
  w_top off
  first | (walk1; all_goals trivial) | exact ⟨trivial, trivial⟩
namespace Mine
open PySem

def shCode : Array Nat := #[14, 17, 4, 1, 1, 21, 9, 0, 604043296, 1, 0, 0, 0, 0, 0, 8, 4, 0, 13, 14, 21, 9, 0, 604043296, 1, 0, 0, 0, 0, 0, 8, 4, 0, 1]

/-- the sign is one that the pattern finds -/
def odd (c : Nat) : Bool := !(((decide (c < 256)) && (shCode.getD (6 + (1 + c / 32)) 0).testBit (c % 32)) || Sre.isWord c)

theorem word4 (c : Nat) : Sre.category 4 c = .ok (Sre.isWord c) := by
  show (Except.ok (Sre.isWord c)).map (· != (4 % 2 == 1)) = _
  show Except.ok (Sre.isWord c != (4 % 2 == 1)) = _
  cases Sre.isWord c <;> rfl

theorem inSet_5 (c : Nat) (n : Nat) (seen : Sre.Seen) : ∃ seen', Sre.inSet shCode c (n + 4) 5 true seen = .ok (odd c, seen') := by
  have e1 : ∀ n b sn, Sre.inSet shCode c (n + 1) 5 b sn = Sre.inSet shCode c n 6 (!b) (sn.add 21) := fun _ _ _ => rfl
  have e2 : ∀ n b sn, Sre.inSet shCode c (n + 1) 6 b sn = if c < 256 && (shCode.getD (6 + (1 + c / 32)) 0).testBit (c % 32) then .ok (b, sn.add 9) else Sre.inSet shCode c n 15 b (sn.add 9) := fun _ _ _ => rfl
  have e3 : ∀ n b (sn : Sre.Seen), Sre.inSet shCode c (n + 1) 15 b sn = (do if ← Sre.category 4 c then pure (b, (sn.add 8).add (55 + 4)) else Sre.inSet shCode c n 17 b ((sn.add 8).add (55 + 4))) := fun _ _ _ => rfl
  have e4 : ∀ n b sn, Sre.inSet shCode c (n + 1) 17 b sn = .ok (!b, sn.add 0) := fun _ _ _ => rfl
  rw [e1, e2]
  unfold odd
  by_cases h : ((decide (c < 256)) && (shCode.getD (6 + (1 + c / 32)) 0).testBit (c % 32)) = true
  · rw [if_pos h, h]; exact ⟨_, rfl⟩
  · rw [if_neg h, e3, word4, (Bool.not_eq_true _).mp h]
    cases Sre.isWord c
    · show ∃ s', Sre.inSet shCode c (n + 1) 17 _ _ = _; rw [e4]; exact ⟨_, rfl⟩
    · exact ⟨_, rfl⟩
theorem inSet_20 (c : Nat) (n : Nat) (seen : Sre.Seen) : ∃ seen', Sre.inSet shCode c (n + 4) 20 true seen = .ok (odd c, seen') := by
  have e1 : ∀ n b sn, Sre.inSet shCode c (n + 1) 20 b sn = Sre.inSet shCode c n 21 (!b) (sn.add 21) := fun _ _ _ => rfl
  have e2 : ∀ n b sn, Sre.inSet shCode c (n + 1) 21 b sn = if c < 256 && (shCode.getD (21 + (1 + c / 32)) 0).testBit (c % 32) then .ok (b, sn.add 9) else Sre.inSet shCode c n 30 b (sn.add 9) := fun _ _ _ => rfl
  have e3 : ∀ n b (sn : Sre.Seen), Sre.inSet shCode c (n + 1) 30 b sn = (do if ← Sre.category 4 c then pure (b, (sn.add 8).add (55 + 4)) else Sre.inSet shCode c n 32 b ((sn.add 8).add (55 + 4))) := fun _ _ _ => rfl
  have e4 : ∀ n b sn, Sre.inSet shCode c (n + 1) 32 b sn = .ok (!b, sn.add 0) := fun _ _ _ => rfl
  have ew : ((decide (c < 256)) && (shCode.getD (21 + (1 + c / 32)) 0).testBit (c % 32)) = ((decide (c < 256)) && (shCode.getD (6 + (1 + c / 32)) 0).testBit (c % 32)) := by
    by_cases h : c < 256
    · have hw : ∀ k, k < 8 → shCode.getD (21 + (1 + k)) 0 = shCode.getD (6 + (1 + k)) 0 := by decide
      rw [hw (c / 32) (by omega)]
    · simp [h]
  rw [e1, e2, ew]
  unfold odd
  by_cases h : ((decide (c < 256)) && (shCode.getD (6 + (1 + c / 32)) 0).testBit (c % 32)) = true
  · rw [if_pos h, h]; exact ⟨_, rfl⟩
  · rw [if_neg h, e3, word4, (Bool.not_eq_true _).mp h]
    cases Sre.isWord c
    · show ∃ s', Sre.inSet shCode c (n + 1) 32 _ _ = _; rw [e4]; exact ⟨_, rfl⟩
    · exact ⟨_, rfl⟩

/-- the first sign that the pattern finds is reached -/
theorem admitted_found (m : Sre.M) (hc : m.code = shCode) : ∀ (fuel s : Nat) (seen : Sre.Seen), (∃ k, s ≤ k ∧ k < m.lim ∧ odd (m.text.getD k 0) = true) → m.lim < fuel + s →
    ∃ k seen', m.admitted fuel s seen = .ok (some k, seen') ∧ k < m.lim ∧ odd (m.text.getD k 0) = true := by
  intro fuel
  induction fuel with
  | zero => rintro s seen ⟨k, h1, h2, _⟩ h; omega
  | succ n ih =>
    rintro s seen ⟨k, h1, h2, h3⟩ h
    unfold Sre.M.admitted
    rw [if_neg (by omega), hc]
    obtain ⟨sn, e⟩ := inSet_5 (m.text.getD s 0) 30 seen
    have hz : shCode.size = 30 + 4 := rfl
    rw [hz, e]
    cases ho : odd (m.text.getD s 0) with
    | true => exact ⟨s, sn, rfl, by omega, ho⟩
    | false =>
      have hne : s ≠ k := fun q => by rw [q, h3] at ho; cases ho
      exact ih (s + 1) sn ⟨k, by omega, h2, h3⟩ (by omega)

abbrev shStart (text : Array Nat) : Sre.M := { code := shCode, text, lim := text.size, start := 0, lastStart := text.size, pc := 18, pos := 0, handed := 0, marks := #[], seen := ({} : Sre.Seen).add 14 }
abbrev shAt (text : Array Nat) (k : Nat) (seen : Sre.Seen) : Sre.M :=
  { code := shCode, text, lim := text.size, start := k, lastStart := text.size, pc := 18, pos := k, handed := k, marks := #[], seen, frames := [{ wait := .nextStart, pc := 18, pos := k, outermost := true }], weight := 1 }
theorem search_start (text : Array Nat) (h : ∃ k, k < text.size ∧ odd (text.getD k 0) = true) :
    ∃ k seen, Sre.forSearch shCode text 0 0 text.size false = shAt text k seen ∧ k < text.size ∧ odd (text.getD k 0) = true := by
  obtain ⟨k, hk, ho⟩ := h
  have e : Sre.forSearch shCode text 0 0 text.size false = if (0 > text.size || text.size - 0 < 1) = true then (Sre.M.say { shStart text with lastStart := 0 } false) else (shStart text).attemptFrom 0 true := rfl
  rw [e, if_neg (by rw [Bool.or_eq_true, decide_eq_true_eq, decide_eq_true_eq]; omega)]
  obtain ⟨k', sn, e', hk', ho'⟩ := admitted_found (shStart text) rfl (text.size + 1 - 0) 0 (shStart text).seen ⟨k, Nat.zero_le _, hk, ho⟩ (by show text.size < _; omega)
  refine ⟨k', sn, ?_, hk', ho'⟩
  have e2 : (shStart text).attemptFrom 0 true = match (shStart text).admitted (text.size + 1 - 0) 0 (shStart text).seen with
    | .ok (some s, seen) => { shStart text with mustAdvance := false, seen }.attemptAt s true
    | .ok (none, seen) => { shStart text with seen }.say false
    | .error why => (shStart text).stick why := rfl
  rw [e2, e']
  rfl
theorem search_run (text : Array Nat) (h : ∃ k, k < text.size ∧ odd (text.getD k 0) = true) :
    ((Sre.forSearch shCode text 0 0 text.size false).runFor 4).outcome = some .matched := by
  obtain ⟨k, seen, e, hk, ho⟩ := search_start text h
  rw [e]
  obtain ⟨sn, e20⟩ := inSet_20 (text.getD k 0) 30 ((seen.add 13))
  have s1 : (shAt text k seen).step = { shAt text k sn with pc := 33, pos := k + 1 } := by
    have e1 : (shAt text k seen).step = if k ≥ text.size then (({ shAt text k seen with seen := seen.add 13 } : Sre.M).say false) else
        match Sre.inSet shCode (text.getD k 0) shCode.size 20 true (seen.add 13) with
        | .error why => ({ shAt text k seen with seen := seen.add 13 } : Sre.M).stick why
        | .ok (false, sn) => ({ shAt text k seen with seen := sn } : Sre.M).say false
        | .ok (true, sn) => ({ shAt text k seen with seen := sn, pc := 33, pos := k + 1 } : Sre.M) := rfl
    rw [e1, if_neg (by omega)]
    have hz : shCode.size = 30 + 4 := rfl
    rw [hz, e20, ho]
  have s2 : ({ shAt text k sn with pc := 33, pos := k + 1 } : Sre.M).step = { shAt text k (sn.add 1) with pc := 33, pos := k + 1, handed := k + 1, answer := some true } := rfl
  have e4 : (shAt text k seen).runFor 4 = (({ shAt text k (sn.add 1) with pc := 33, pos := k + 1, handed := k + 1, answer := some true } : Sre.M).runFor 2) := by
    show (shAt text k seen).step.runFor 3 = _
    rw [s1]
    show ({ shAt text k sn with pc := 33, pos := k + 1 } : Sre.M).step.runFor 2 = _
    rw [s2]
  rw [e4]
  rfl
end Mine

end
section -- Q1
theorem Mine.offQ1 : True ∧ True := by
  w_top off
  first | (walk1; all_goals trivial) | exact ⟨trivial, trivial⟩
namespace Mine
open PySem PySem.W PyProof.Rows PySem.Spec PySem.Calls

theorem entry_search : entryFor table "re.Pattern.search" = some Builtin.«re.Pattern.search» := entryFor_of_fast (by kernel_rfl)
theorem pk_check (w : World) (x : Str) (t : Tok) : peek (Mine.hd.heap_1 w.params) ⟨Challenge.rw_oy0022_01.row.prog, w.params⟩ (checkBoundCall "re.Pattern.search" ⟨[.ref 89, .str x t], []⟩) = some () := by kernel_rfl
theorem pk_target (w : World) (x : Str) (t : Tok) : peek (Mine.hd.heap_1 w.params) ⟨Challenge.rw_oy0022_01.row.prog, w.params⟩ (Builtin.Re.reTarget "re.Pattern.search" "search" ⟨[.ref 89, .str x t], []⟩) =
    some ⟨.ref 89, .str x t, shCode, x.cps, 0, 0, min (0 : Int).toNat x.cps.size, min (2 ^ 63 - 1 : Int).toNat x.cps.size⟩ := by kernel_rfl
theorem pk_97 (w : World) : (Mine.hd.heap_1 w.params).lookup 97 = some { cls := .type "builtin_function_or_method", data := .fields #[.builtin "re.Pattern.search", .ref 89] } := by kernel_rfl

section
variable {M : Model} {w : World} {A : Around} {s : Shared} {E : Value → Shared → Prop}
theorem rules_go {α : Type} {f : Nat → Bool} {g : Nat → String} {k : Sem α} {Q : α → Shared → Prop} (h : wpAny M A k Q E s) : ∀ l : List Nat,
    wpAny M A (do
      for i in l do
        if f i then rule (g i)
      k) Q E s := by
  intro l
  refine wpAny_bind ?_
  induction l with
  | nil => exact wpAny_pure h
  | cons i l ih =>
    rw [List.forIn_cons]
    refine wpAny_bind ?_
    by_cases hf : f i = true
    · rw [if_pos hf]; exact wpAny_bind (wpAny_rule (wpAny_pure ih))
    · rw [if_neg hf]; exact wpAny_pure ih
theorem drive_on {m : Sre.M} {n : Nat} {Q : Sre.M → Shared → Prop} (ho : (m.runFor 4).outcome.isSome = true) (h : Q (m.runFor 4) s) : wpAny M A (Builtin.Re.reDrive (n + 1) m) Q E s := by
  show wpAny M A (if (m.runFor 4).outcome.isSome then pure (m.runFor 4) else do rule "sre.turn"; Builtin.Re.reDrive n (m.runFor 4)) Q E s
  rw [if_pos ho]; exact wpAny_pure h
theorem runToEnd {m : Sre.M} {Q : Option Sre.M → Shared → Prop} (ho : (m.runFor 4).outcome = some .matched) (h : Q (some (m.runFor 4)) s) : wpAny M A (Builtin.Re.reRunToEnd m) Q E s := by
  have e : (2 ^ 64 : Nat) = 18446744073709551615 + 1 := by decide
  unfold Builtin.Re.reRunToEnd
  rw [e]
  refine wpAny_bind (drive_on (by rw [ho]; rfl) ?_)
  refine rules_go ?_ _
  rw [ho]
  exact wpAny_pure h
theorem newMatch0 {m : Sre.M} {pat str : Value} {pos lim : Nat} {Q : Value → Shared → Prop} (h : ∀ a h', Kp s.heap h' → Q (.ref a) { s with heap := h' }) : wpAny M A (Builtin.Re.reNewMatch pat str 0 pos lim m) Q E s := by
  show wpAny M A (do newFields "re.Match" [str, pat, rawInt pos, rawInt lim, rawInt m.lastindex, ← newTuple [rawInt m.start, rawInt m.handed]]) Q E s
  refine wpAny_bind (wpAny_newObj_type ?_ (by size_fits))
  refine wpAny_newObj_type ?_ (by size_fits)
  exact h _ _ fun b o e => Heap.get?_push_of_some _ (Heap.get?_push_of_some _ e)
end

section
variable {w : World} {A : Around} {s : Shared} {E : Value → Shared → Prop} {Q : Value → Shared → Prop}
theorem call_unsafe {x : Str} {t : Tok} (X : (Mine.hd.heap_1 w.params).In s.heap) (hx : ∃ k, k < x.cps.size ∧ odd (x.cps.getD k 0) = true) (hl : x.cps.size ≤ 2 ^ 60)
    (h : ∀ a h', Kp s.heap h' → Q (.ref a) { s with heap := h' }) : wpAny (model Challenge.rw_oy0022_01.row.prog w) A (call (.ref 97) [.str x t]) Q E s := by
  refine wpAny_call (codeAny_of_tree ?_)
  show wpAny _ _ (callAny (.ref 97) ⟨[.str x t], []⟩) _ _ s
  simp only [callAny]
  refine wpAny_bind (wpAny_load (X _ _ (pk_97 w)) ?_)
  show wpAny _ _ (do checkBoundCall "re.Pattern.search" ⟨[.ref 89, .str x t], []⟩; let r ← again (.builtin "re.Pattern.search" ⟨[.ref 89, .str x t], []⟩); pure r) _ _ s
  refine wpAny_bind ((Looks.of_peek X (pk_check w x t)).here ?_)
  refine wpAny_bind (wpAny_pure (wpAny_pure ⟨plainId_quiet (by decide +kernel) _, ?_⟩))
  refine codeAny_builtin entry_search ?_
  unfold Builtin.«re.Pattern.search»
  refine wpAny_bind ((Looks.of_peek X (pk_target w x t)).here ?_)
  have e1 : min (0 : Int).toNat x.cps.size = 0 := by simp
  have e2 : min (2 ^ 63 - 1 : Int).toNat x.cps.size = x.cps.size := by
    have : (2 ^ 63 - 1 : Int).toNat = 9223372036854775807 := by decide
    rw [this]; omega
  rw [e1, e2]
  unfold Builtin.Re.reAnswer
  refine wpAny_bind (runToEnd (search_run _ hx) ?_)
  dsimp only
  refine wpAny_bind ?_
  exact newMatch0 fun a h' k => wpAny_pure (h a h' k)
end
end Mine

end
section -- Q2
theorem Mine.offQ2 : True ∧ True := by
  w_top off
  first | (walk1; all_goals trivial) | exact ⟨trivial, trivial⟩
namespace Mine
open PySem PySem.W PyProof.Rows PySem.Spec PySem.Calls

theorem pk_keep97 (w : World) : peek (Mine.hd.heap_1 w.params) ⟨Challenge.rw_oy0022_01.row.prog, w.params⟩ (keeperOf (.ref 97)) = some .machine := by kernel_rfl

section
variable {w : World} {A : Around} {s : Shared} {E : Value → Shared → Prop} {Q : Value → Shared → Prop} {p : Program} {loose : List Str} {mean : ExcName → Option Value} {mg mb : Str → Option Value}
theorem callWith_97 {env : Env} {pos : Pos} {e : Expr} {rest : List Expr} (h : wpAny (model Challenge.rw_oy0022_01.row.prog w) A (spliced (backTo pos (starEach (e :: rest) env))) (fun vs s₁ => (Mine.hd.heap_1 w.params).In s₁.heap ∧ wpAny (model Challenge.rw_oy0022_01.row.prog w) A (call (.ref 97) ([] ++ vs)) Q E s₁) E s)
    (he : starEach (e :: rest) env = (false, eval e env) :: starEach rest env := by rfl) (hplain : (backTo pos (starEach rest env)).any (·.1) = false := by rfl) :
    wpAny (model Challenge.rw_oy0022_01.row.prog w) A (callWith pos (.ref 97) [] (backTo pos (starEach (e :: rest) env)) []) Q E s := by
  rw [he] at h ⊢
  exact callWith_of (P := fun h => (Mine.hd.heap_1 w.params).In h) (by show ((false || (backTo pos (starEach rest env)).any (·.1)) || false) = false; rw [hplain]; rfl) (fun h X => ⟨.machine, .inr (.inl rfl), Looks.of_peek X (pk_keep97 w)⟩) (evalArgs_plain h)

def quoteF (x : Str) : Str := Str.ofString "'" ++ Txt.replace x (Str.ofString "'") (Str.ofString "'\"'\"'") ++ Str.ofString "'"

local macro_rules | `(tactic| walk_at "callWith ref") => `(tactic| ((with_reducible show wpAny _ _ (callWith _ (Value.ref 97) _ _ []) _ _ _); k_dflt (refine' callWith_97 ?_)))
local macro_rules | `(tactic| walk_at "call ref") => `(tactic| ((with_reducible show wpAny _ _ (call (Value.ref 97) _) _ _ _); k_dflt (refine' call_unsafe ?k1 ?k2 ?k3 ?_; (case k1 => k_in); (case k2 => assumption); (case k3 => assumption)); intro a' h' k'; (rename Fr _ _ _ _ => F'); (rename News _ _ _ _ => N'); have F'' := F'.keeps k'; have N'' := N'.keepsAll k'; clear F' N'))

theorem c_quote {x : Str} {t : Tok} (X : (Mine.hd.heap_1 w.params).In s.heap) (T : Top p loose mean mg mb s.heap) (hx : ∃ k, k < x.cps.size ∧ odd (x.cps.getD k 0) = true) (hl : x.length ≤ 100000)
    (hd : A.depth + 1 < recursionLimit) (hu : A.units + 8 < cLine)
    (h : ∀ t' h' tk', Kp s.heap h' → Q (.str (quoteF x) t') { s with heap := h', toks := tk' }) : wpAny (model Challenge.rw_oy0022_01.row.prog w) A (call (.ref 104) [.str x t]) Q E s := by
  have hl2 : x.cps.size ≤ 2 ^ 60 := Nat.le_trans hl (by decide)
  have hne : x.length ≠ 0 := by obtain ⟨k, hk, _⟩ := hx; show x.cps.size ≠ 0; omega
  have hrep : (Txt.replace x (Str.ofString "'") (Str.ofString "'\"'\"'")).length ≤ 5 * x.length := by rw [s39, s39b]; exact replace_len _ _ _ 5 (by decide) (by decide)
  revert X; k_fill; intro X
  refine wpAny_call ?_
  k_dflt (refine' enterP [(Str.ofString "s", .str x t)] X T ?k6 ?k7 ?k8 ?k9 ?kB ?_ ?c2 ?c3 ?c4 ?c5; (case k6 => k_is); (case k7 => k_is); (case k8 => omega); (case k9 => exact BindsTo.of_eq rfl); (case kB => exact locs rfl); (case c2 => exact rfl); (case c3 => exact rfl); (case c4 => exact rfl); (case c5 => decide))
  intro L h₁ F N
  (try dsimp only)
  (try k_fold)
  k_steps
  all_goals first | (exfalso; omega) | exact h _ _ _ (Fr.keep (by assumption))
end
end Mine

end
section -- Q8
theorem Mine.offQ8 : True ∧ True := by
  w_top off
  first | (walk1; all_goals trivial) | exact ⟨trivial, trivial⟩
namespace Mine
open PySem PySem.W PyProof.Rows PySem.Spec PySem.Calls
/-- what stands in g stands in h -/
abbrev Sub (g h : Heap) : Prop := ∀ b o, g.get? b = some o → h.get? b = some o
def posJ : Pos := { line := 43, col := 20, endLine := 43, endCol := 57 }
section
variable {w : World} {A : Around} {s : Shared} {E : Value → Shared → Prop} {Q : Value → Shared → Prop} {p : Program} {loose : List Str} {mean : ExcName → Option Value} {mg mb : Str → Option Value}
local macro_rules | `(tactic| walk_at "eval GeneratorExp") => `(tactic| refine halt ?_)
local macro_rules | `(tactic| walk_at "call builtin:str.join") => `(tactic| refine halt ?_)
local macro_rules | `(tactic| walk_at "call ref") => `(tactic| refine halt ?_)
theorem c_join {x : Str} {t : Tok} {l : Addr} {g : Heap} (hg : Sub g s.heap) (hsz : g.objs.size ≤ s.heap.objs.size) (X : (Mine.hd.heap_1 w.params).In g) (T : Top p loose mean mg mb g) (hC : CodeHd g 95 91) (h94 : g.get? 91 = none)
    (hT : TabG s.heap 91 posJ) (hG : AllBare s.gens) (hL : s.heap.IsList l #[.str x t]) (hx : ∃ k, k < x.cps.size ∧ odd (x.cps.getD k 0) = true) (hl : x.length ≤ 100000)
    (hA : A.handled = none) (hd : A.depth + 3 < recursionLimit) (hu : A.units + 100 < cLine)
    (h : ∀ t' s', s'.os = s.os → AllBare s'.gens → Sub g s'.heap → TabG s'.heap 91 posJ → s.heap.objs.size ≤ s'.heap.objs.size → Q (.str (quoteF x) t') s') : wpAny (model Challenge.rw_oy0022_01.row.prog w) A (call (.ref 96) [.ref l]) Q E s := by
  obtain ⟨hnd, dp, fr, gd, un⟩ := A
  obtain rfl : hnd = none := hA
  dsimp only at hd hu
  have X0 := X.keeps hg
  have T0 := T.keeps hg
  revert X; k_fill; intro X
  refine wpAny_call ?_
  k_dflt (refine' enterP [(Str.ofString "split_command", .ref l)] X0 T0 ?k6 ?k7 ?k8 ?k9 ?kB ?_ ?c2 ?c3 ?c4 ?c5; (case k6 => k_is); (case k7 => k_is); (case k8 => (dsimp only; omega)); (case k9 => exact BindsTo.of_eq rfl); (case kB => exact locs rfl); (case c2 => exact rfl); (case c3 => exact rfl); (case c4 => exact rfl); (case c5 => decide))
  intro L h₁ F N
  (try dsimp only)
  (try k_fold)
  k_steps
  refine Halt.go ?_
  dsimp only
  have ho104 := F
  obtain ⟨bm, ob, b1, b2, b3, b4, b5, b6⟩ := T.bmain
  refine gen_list (P := 91) (bm := bm) (mg := mg) (ob := ob) (fun _ => true) (fun _ v => ∃ u, v = .str (quoteF x) u) rfl rfl rfl rfl (by decide) rfl rfl rfl (by dsimp only [Around.deeper]; omega) ?_ (by intro _; rfl)
  walk1
  have hFg : Sub g h₁ := fun b o e => F.keep _ _ (hg _ _ e)
  refine ⟨_, _, rfl, hL.at fun o e => F.keep _ _ e, hG, (T.keeps hFg).nolimit, ⟨(T.keeps hFg).g, b1, b2, hFg _ _ b3, b4, b5, b6⟩, hC.keeps hFg, hT.at fun o e => F.keep _ _ e, by decide, ?_, ?_, ?_⟩
  · intro cv C A' E' i v t₁ m₂ hA' hD' hU' hi hC' hn hm hk
    exact wpAny_pure ⟨rfl, _, _, rfl, fun _ _ e => e⟩
  · intro cv C A' E' i v t₁ m₂ hA' hD' hU' hi _ hC' hn hm hk
    have hgt : Sub g t₁.heap := fun b o e => hk b o (fun q => by rw [q, h94] at e; cases e) (hFg _ _ e)
    obtain rfl : v = .str x t := by
      cases i with
      | zero => simpa using hi.symm
      | succ i => simp at hi
    have Xt := X.keeps hgt
    have Tt := T.keeps hgt
    dsimp only [Around.deeper] at hD' hU'
    refine wpAny_bind (m := eval (.Name _ _) _) (Name_function_global rfl rfl (loadGlobal_global (mg := mg) Tt.g (mg_of X T.g (v := .ref 104) (by kernel_rfl)) ?_) (by decide))
    refine callWith_F (q := 104) ⟨_, _, _, _, Xt _ _ (by k_is)⟩ ?_
    walk1
    refine wpAny_Name (wpAny_loadName_local rfl rfl hn hm ?_) (by decide)
    walk1
    refine ⟨⟨_, _, _, _, Xt _ _ (by k_is)⟩, ?_⟩
    refine c_quote Xt Tt hx hl (by omega) (by omega) ?_
    intro t' h' tk' hkp
    exact ⟨⟨_, rfl⟩, h', tk', rfl, hkp⟩
  · intro a s₅ hG5 hos5 hk5 hT5 hGen
    k_steps
    refine Halt.go ?_
    have F5 : Fr g L s₅.heap _ := ⟨F.ns.at fun o e => hk5 _ _ (fun q => by
      obtain ⟨ps, e2, _⟩ := hT
      have := F.above
      have h9 := Heap.lt_size e2
      rw [q] at this
      exact absurd (Nat.lt_of_lt_of_le h9 this) (Nat.lt_irrefl _)) e, fun b o e => hk5 _ _ (fun q => by rw [q, h94] at e; cases e) (hFg _ _ e), Nat.le_trans hsz F.above⟩
    have hpl : (passing (fun _ => true) (#[Value.str x t] : Array Value).size 0) = [0] := rfl
    rw [hpl] at hGen
    refine join_rowsK F5 hG5 hGen ?_ (fun _ => quoteF x) (fun j v hv => ?_) ?_ ?_ ?_
    · have := F.ns.lt
      exact Nat.le_sub_one_of_lt this
    · obtain ⟨i, _, hv⟩ := hv; exact hv
    · have hrep : (Txt.replace x (Str.ofString "'") (Str.ofString "'\"'\"'")).length ≤ 5 * x.length := by rw [s39, s39b]; exact replace_len _ _ _ 5 (by decide) (by decide)
      have hql : (quoteF x).length ≤ 5 * x.length + 2 := by
        unfold quoteF
        rw [Str.length_append, Str.length_append]
        have e1 : (Str.ofString "'").length = 1 := by decide
        omega
      refine joinOk_of ?_
      have e1 : (Str.ofString " ").length = 1 := by decide
      have e2 : List.map (fun _ : Nat => quoteF x) (List.range [0].length) = [quoteF x] := rfl
      rw [e2]
      simp only [List.map_cons, List.map_nil, List.sum_cons, List.sum_nil, List.length_cons, List.length_nil]
      omega
    · intro s' t' F' G' hos' hk'
      have hkk : ∀ b o, s.heap.get? b = some o → b < h₁.objs.size := fun b o e => Heap.lt_size (F.keep _ _ e)
      have e9 : Txt.join (Str.ofString " ") (List.map (fun _ => quoteF x) (List.range [0].length)) = quoteF x := rfl
      rw [e9]
      refine h _ _ (hos'.trans hos5) G' F'.keep (hT5.at fun o e => hk' _ _ ?_ e) ?_
      · obtain ⟨ps, e2, _⟩ := hT
        exact Nat.le_sub_one_of_lt (hkk _ _ e2)
      · exact Nat.le_of_lt (Nat.lt_of_le_of_lt F.above F'.ns.lt)
    · decide
end
end Mine

end
section -- Q3
theorem Mine.offQ3 : True ∧ True := by
  w_top off
  first | (walk1; all_goals trivial) | exact ⟨trivial, trivial⟩
namespace Mine
open PySem PySem.W PyProof.Rows PySem.Spec PySem.Calls

section
variable {w : World} {A : Around} {s : Shared} {E : Value → Shared → Prop} {Q : Value → Shared → Prop} {p : Program} {loose : List Str} {mean : ExcName → Option Value} {mg mb : Str → Option Value}

local macro_rules | `(tactic| walk_at "eval ListComp") => `(tactic| refine halt ?_)

theorem c_laid {x : Str} {t u : Tok} {d : Int} (X : (Mine.hd.heap_1 w.params).In s.heap) (T : Top p loose mean mg mb s.heap) (hl : x.length ≤ 100000) (hd0 : 0 ≤ d) (hd2 : d ≤ 2)
    (hA : A.handled = none) (hd : A.depth + 1 < recursionLimit) (hu : A.units + 8 < cLine)
    (h : ∀ t' h' tk', Kp s.heap h' → Q (.str (laidF d x) t') { s with heap := h', toks := tk' }) : wpAny (model Challenge.rw_oy0022_01.row.prog w) A (call (.ref 123) [.str x t, .int d u]) Q E s := by
  obtain ⟨hnd, dp, fr, gd, un⟩ := A
  obtain rfl : hnd = none := hA
  dsimp only at hd hu
  revert X; k_fill; intro X
  refine wpAny_call ?_
  k_dflt (refine' enterPC [(Str.ofString "text", .str x t), (Str.ofString "deed", .int d u)] X T ?k6 ?k7 ?k8 ?k9 ?kB ?kD ?_ ?c2 ?c3 ?c4; (case k6 => k_is); (case k7 => k_is); (case k8 => (dsimp only; omega)); (case k9 => exact BindsTo.of_eq rfl); (case kB => exact rfl); (case kD => decide +kernel); (case c2 => exact rfl); (case c3 => exact rfl); (case c4 => exact rfl))
  intro L h₁ tk cells F N Y htk
  k_cells Y
  (try dsimp only)
  (try k_fold)
  k_steps
  · obtain rfl : d = 0 := by assumption
    show Q (.str x t) _
    rw [laid_0 x]
    exact h _ _ _ (Fr.keep (by assumption))
  · refine Halt.go ?_
    obtain rfl : d = 1 := by omega
    (rename News _ _ _ _ => N9)
    (rename Fr _ _ _ _ => F9)
    have c1 := (N9 (L + 1, _) (by k_mem)).1
    have c2 := (N9 (L + 1 + 1, _) (by k_mem)).1
    refine lc_text (fun _ => true) (fun c => if c = 39 then Str.ofString "'\"'\"'" else ⟨#[c]⟩) rfl rfl (by decide) rfl (by decide) rfl ?_
    walk1
    refine ⟨x, t, rfl, Nat.le_trans hl (by decide), ?_, ?_, ?_⟩
    · intro C c u s₃ m₃ E' hC hc hn hm hk htk
      exact wpAny_pure ⟨rfl, _, _, rfl, fun _ _ e => e⟩
    · intro C c u s₃ m₃ E' hC hc _ hn hm hk htk
      walk1
      walk1
      refine cn_local hn hm ?_
      refine cn_cell (hk _ _ c1) (by assumption) ?_
      walk1
      walk1
      rw [s39, eq_one]
      by_cases h9 : c = 39
      · rw [if_pos (decide_eq_true h9)]
        exact cn_cell (hk _ _ c2) (by assumption) ⟨⟨_, by rw [if_pos h9]⟩, _, _, rfl, fun _ _ e => e⟩
      · rw [if_neg (by simpa using h9)]
        exact cn_local hn hm ⟨⟨_, by rw [if_neg h9]⟩, _, _, rfl, fun _ _ e => e⟩
    · intro D ys n h' tk' hD hl' hys hk
      dsimp only at hk hD
      have F8 := F9.keeps hk
      have N8 := N9.keepsAll hk
      clear F9 N9 c1 c2
      have hj := sum_len (fun c => if c = 39 then Str.ofString "'\"'\"'" else ⟨#[c]⟩) 5 (fun a => by split <;> first | decide | exact Nat.le_of_ble_eq_true rfl) (cp x)
      rw [List.filter_eq_self.mpr (fun _ _ => rfl)] at hys
      have hlj := join_signs_len 39 (Str.ofString "'\"'\"'") x (by decide)
      walk1
      refine join_listW (ys := (cp x).map fun c => if c = 39 then Str.ofString "'\"'\"'" else ⟨#[c]⟩) ⟨_, hl', rfl, _, rfl⟩ hys (by decide) (by rw [List.length_map]; rw [cp_len] at hj ⊢; omega) ?_
      intro t9 k9
      k_steps
      rw [laid_1]
      exact h _ _ _ F8.keep
  · refine Halt.go ?_
    obtain rfl : d = 2 := by omega
    (rename News _ _ _ _ => N9)
    (rename Fr _ _ _ _ => F9)
    have c1 := (N9 (L + 1, _) (by k_mem)).1
    have c2 := (N9 (L + 1 + 1, _) (by k_mem)).1
    refine lc_text (fun _ => true) (fun c => if c = 34 then Str.ofString "\"\"" else ⟨#[c]⟩) rfl rfl (by decide) rfl (by decide) rfl ?_
    walk1
    refine ⟨x, t, rfl, Nat.le_trans hl (by decide), ?_, ?_, ?_⟩
    · intro C c u s₃ m₃ E' hC hc hn hm hk htk
      exact wpAny_pure ⟨rfl, _, _, rfl, fun _ _ e => e⟩
    · intro C c u s₃ m₃ E' hC hc _ hn hm hk htk
      walk1
      walk1
      refine cn_local hn hm ?_
      refine cn_cell (hk _ _ c1) (by assumption) ?_
      walk1
      walk1
      rw [s34, eq_one]
      by_cases h9 : c = 34
      · rw [if_pos (decide_eq_true h9)]
        exact cn_cell (hk _ _ c2) (by assumption) ⟨⟨_, by rw [if_pos h9]⟩, _, _, rfl, fun _ _ e => e⟩
      · rw [if_neg (by simpa using h9)]
        exact cn_local hn hm ⟨⟨_, by rw [if_neg h9]⟩, _, _, rfl, fun _ _ e => e⟩
    · intro D ys n h' tk' hD hl' hys hk
      dsimp only at hk hD
      have F8 := F9.keeps hk
      have N8 := N9.keepsAll hk
      clear F9 N9 c1 c2
      have hj := sum_len (fun c => if c = 34 then Str.ofString "\"\"" else ⟨#[c]⟩) 5 (fun a => by split <;> first | decide | exact Nat.le_of_ble_eq_true rfl) (cp x)
      rw [List.filter_eq_self.mpr (fun _ _ => rfl)] at hys
      have hlj := join_signs_len 34 (Str.ofString "\"\"") x (by decide)
      walk1
      refine join_listW (ys := (cp x).map fun c => if c = 34 then Str.ofString "\"\"" else ⟨#[c]⟩) ⟨_, hl', rfl, _, rfl⟩ hys (by decide) (by rw [List.length_map]; rw [cp_len] at hj ⊢; omega) ?_
      intro t9 k9
      k_steps
      rw [laid_2]
      exact h _ _ _ F8.keep
end
end Mine

end
section -- D1
theorem Mine.offD1 : True ∧ True := by
  w_top off
  first | (walk1; all_goals trivial) | exact ⟨trivial, trivial⟩
namespace Mine
open PySem PySem.W PyProof.Rows PySem.Spec PySem.Calls
/-- an outcome, written as the law writes it -/
def OutAt (h : Heap) (x host : Str) (v : Value) : Out → Prop
  | .reply => ∃ D t u, v = .ref D ∧ h.IsTuple D #[.str (Str.ofString "reply") t, .str x u]
  | .proto => ∃ D t u, v = .ref D ∧ h.IsTuple D #[.str (Str.ofString "proto") t, .str x u]
  | .value => ∃ D t u, v = .ref D ∧ h.IsTuple D #[.str (Str.ofString "value") t, .str (Str.ofString "") u]
  | .told n => ∃ D t D2 u t3 t4, v = .ref D ∧ h.IsTuple D #[.str (Str.ofString "told") t, .ref D2, .str (Str.ofString (toString n)) u] ∧ h.IsTuple D2 #[.str host t3, .int n t4]
def dueStep (p : Int × Int) (d : Int) : Int × Int := (if d = 1 then 3 * p.1 else p.1, if d = 0 then p.2 else if d = 1 then p.2 + 2 * p.1 else 2 * p.2)
def dueN (ins : List Nat) (ds : List Int) : Int :=
  if ins.headD 0 = 39 then (ds.foldl dueStep ((ins.count 39 : Int), (ins.count 34 : Int))).1
  else if ins.headD 0 = 34 then (ds.foldl dueStep ((ins.count 39 : Int), (ins.count 34 : Int))).2 else (ins.count (ins.headD 0) : Int)
def dueIn (ins : List Nat) (ds : List Int) : Out :=
  if dueN ins ds ≠ 4 then .proto else numO (if ins.count (ins.headD 0) = 4 then numL ((spl (ins.headD 0) ins).getD 3 []) else none)
def behindL (rest : List Nat) : List Nat := ical [40] (spl 40 rest).tail
def dueO (head rest : List Nat) (ds : List Int) : Out :=
  if head.take 3 ≠ [50, 50, 57] then .reply else
  if 41 ∉ behindL rest ∨ (spl 41 (behindL rest)).headD [] = [] ∨ ((spl 41 (behindL rest)).headD []).head? ≠ ((spl 41 (behindL rest)).headD []).getLast? then .proto
  else dueIn ((spl 41 (behindL rest)).headD []) ds
theorem strs_drop : ∀ {vs : List Value} {L : List Str}, StrsAre vs L → ∀ k, StrsAre (vs.drop k) (L.drop k)
  | _, _, h, 0 => by simpa using h
  | _, _, .nil, k + 1 => .nil
  | _, _, .cons _ _ r, k + 1 => by simpa using strs_drop r k
theorem strs_take : ∀ {vs : List Value} {L : List Str}, StrsAre vs L → ∀ k, StrsAre (vs.take k) (L.take k)
  | _, _, _, 0 => by simpa using StrsAre.nil
  | _, _, .nil, k + 1 => .nil
  | _, _, .cons _ _ r, k + 1 => by simpa using StrsAre.cons _ _ (strs_take r k)
theorem pick_from1 {vs : List Value} {L : List Str} (h : StrsAre vs L) : StrsAre (slicePick vs.toArray (some 1) none none).toList (L.drop 1) := by
  have e := slicePick_from' vs.toArray 1
  have e1 : ((1 : Nat) : Int) = 1 := rfl
  rw [e1] at e
  rw [e]
  simpa using strs_drop h 1
theorem sum_le {B : Nat} : ∀ {l : List Str}, (∀ x ∈ l, x.length ≤ B) → (l.map (·.length)).sum ≤ B * l.length
  | [], _ => Nat.zero_le _
  | a :: l, h => by
    have h1 := h a List.mem_cons_self
    have h2 := sum_le (l := l) fun x hx => h x (List.mem_cons_of_mem _ hx)
    simp only [List.map_cons, List.sum_cons, List.length_cons, Nat.mul_succ]
    omega
theorem ical_self (c : Nat) (l : List Nat) : ical [c] (spl c l) = l := by
  rw [ical_spl]
  induction l with
  | nil => rfl
  | cons a l ih =>
    rw [List.flatMap_cons, ih]
    by_cases h : a = c
    · subst h; simp
    · simp [h]
theorem ical_tail_len (z : List Nat) : ∀ ps : List (List Nat), (ical z ps.tail).length ≤ (ical z ps).length
  | [] => Nat.le_refl _
  | [p] => by simp [ical]
  | p :: q :: r => by
    show (ical z (q :: r)).length ≤ (p ++ z ++ ical z (q :: r)).length
    simp only [List.length_append]; omega
theorem behind_len (l : List Nat) : (behindL l).length ≤ l.length := by
  unfold behindL
  have h := ical_tail_len [40] (spl 40 l)
  rw [ical_self] at h; exact h
theorem cp_behind (x : Str) : cp (Txt.join (Str.ofString "(") ((Txt.split x (Str.ofString "(")).drop 1)) = behindL (cp x) := by
  rw [s40, cp_joined, List.map_drop, cp_split, List.drop_one]; rfl
theorem ical_mem {z : List Nat} {a : Nat} : ∀ {ps : List (List Nat)}, a ∈ ical z ps → a ∈ z ∨ ∃ p ∈ ps, a ∈ p
  | [], h => nomatch h
  | [p], h => .inr ⟨p, List.mem_cons_self, h⟩
  | p :: q :: r, h => by
    have h' : a ∈ p ++ z ++ ical z (q :: r) := h
    rcases List.mem_append.mp h' with h' | h'
    · rcases List.mem_append.mp h' with h' | h'
      · exact .inr ⟨p, List.mem_cons_self, h'⟩
      · exact .inl h'
    · rcases ical_mem (ps := q :: r) h' with h' | ⟨y, hy, hay⟩
      · exact .inl h'
      · exact .inr ⟨y, List.mem_cons_of_mem _ hy, hay⟩
theorem behind_mem {l : List Nat} {a : Nat} (h : a ∈ behindL l) : a = 40 ∨ a ∈ l := by
  unfold behindL at h
  rcases ical_mem h with h | ⟨p, hp, ha⟩
  · exact .inl (List.mem_singleton.mp h)
  · exact .inr (mem_spl (List.mem_of_mem_tail hp) a ha)
theorem headD_getD {α : Type} (l : List α) (d : α) : l.getD 0 d = l.headD d := by cases l <;> rfl
theorem cp_head {x : Str} {l : List Nat} (c : Nat) (e : cp x = l) : cp ((Txt.split x ⟨#[c]⟩).getD 0 (Str.ofString "")) = (spl c l).headD [] := by
  have h := cp_split x c
  rw [e] at h
  rw [← h, headD_getD]
  cases Txt.split x ⟨#[c]⟩ <;> rfl
theorem due_inside {bh y : Str} {ps : List Str} (h1 : ps = Txt.split bh (Str.ofString ")")) (h2 : ps[Int.toNat 0]? = some y) : cp y = (spl 41 (cp bh)).headD [] := by
  rw [← cp_head 41 (x := bh) rfl, ← s41, ← h1, List.getD_eq_getElem?_getD]
  rw [show Int.toNat 0 = 0 from rfl] at h2
  rw [h2]; rfl
theorem dueO_reply {hd rest : List Nat} {ds : List Int} (h : hd.take 3 ≠ [50, 50, 57]) : dueO hd rest ds = .reply := by unfold dueO; rw [if_pos h]
theorem dueO_proto {hd rest ins : List Nat} {ds : List Int} (h : hd.take 3 = [50, 50, 57]) (e : ins = (spl 41 (behindL rest)).headD []) (h2 : 41 ∉ behindL rest ∨ ins = [] ∨ ins.head? ≠ ins.getLast?) : dueO hd rest ds = .proto := by
  subst e
  unfold dueO; rw [if_neg (fun q => q h), if_pos h2]
theorem dueO_in {hd rest ins : List Nat} {ds : List Int} (h : hd.take 3 = [50, 50, 57]) (e : ins = (spl 41 (behindL rest)).headD []) (h2 : ¬ (41 ∉ behindL rest ∨ ins = [] ∨ ins.head? ≠ ins.getLast?)) : dueO hd rest ds = dueIn ins ds := by
  subst e
  unfold dueO; rw [if_neg (fun q => q h), if_neg h2]
theorem occ41 (bh : Str) : (Builtin.Str.occurrences bh (Str.ofString ")") 0 bh.length 1).isEmpty = !decide (41 ∈ cp bh) := by rw [s41, empty_one]
theorem ends_eq2 {y : Str} (h : (y == Str.ofString "") = false) : (Txt.item y 0 != Txt.item y (-1)) = decide ((cp y).head? ≠ (cp y).getLast?) := by
  rw [eq_nil] at h
  have hne : cp y ≠ [] := fun e => by rw [e] at h; cases h
  obtain ⟨l, z, hz⟩ : ∃ l z, cp y = l ++ [z] := ⟨(cp y).dropLast, (cp y).getLast hne, (List.dropLast_concat_getLast hne).symm⟩
  obtain ⟨m, tl, hm⟩ : ∃ m tl, cp y = m :: tl := by
    cases e : cp y with
    | nil => exact absurd e hne
    | cons m tl => exact ⟨m, tl, rfl⟩
  rw [item_zero hm, item_last hz]
  have e1 : (cp y).head? = some m := by rw [hm]; rfl
  have e2 : (cp y).getLast? = some z := by rw [hz]; simp
  rw [e1, e2]
  by_cases h : m = z
  · subst h; simp
  · rw [bne_iff_ne.mpr (by simpa using h)]; simp [h]
theorem count_spl (c : Nat) : ∀ l : List Nat, (spl c l).length = l.count c + 1
  | [] => rfl
  | a :: l => by
    obtain ⟨p, r, e⟩ := spl_ne c l
    have ih := count_spl c l
    by_cases h : a = c
    · subst h; rw [spl_hit, List.length_cons, ih, List.count_cons_self]
    · rw [spl_miss h e, List.length_cons, List.count_cons_of_ne h]
      rw [e] at ih; simpa using ih
theorem cond_of {y : Str} {B : List Nat} (q2 : (!decide (41 ∈ B)) = false) (q3 : (cp y).isEmpty = false) (q4 : (cp y).head? = (cp y).getLast?) : ¬ (41 ∉ B ∨ cp y = [] ∨ (cp y).head? ≠ (cp y).getLast?) := by
  rintro (q | q | q)
  · simp at q2; exact q q2
  · rw [q] at q3; cases q3
  · exact q q4
theorem cnt_count (c : Nat) : ∀ l : List Nat, PySem.Spec.countIn (.str ⟨#[c]⟩) (l.map fun n => PyData.str ⟨#[n]⟩) = (l.count c : Int)
  | [] => rfl
  | n :: r => by
    have h := PyProof.Rows.cnt_cons c n r
    unfold PyProof.Rows.cnt at h
    rw [h, cnt_count c r, List.count_cons]
    by_cases e : n = c
    · subst e; simp; omega
    · simp [e]
theorem txt_count (y : Str) (c : Nat) : Txt.count y ⟨#[c]⟩ = ((cp y).count c : Int) := by
  rw [PyProof.Rows.count_is, cnt_count]
def sd0 (ins : List Nat) : Int × Int := ((ins.count 39 : Int), (ins.count 34 : Int))
def sdAt (ins : List Nat) (ds : List Int) (i : Nat) : Int × Int := (ds.take i).foldl dueStep (sd0 ins)
theorem sdAt_succ {ins : List Nat} {ds : List Int} {i : Nat} {d : Int} (h : ds[i]? = some d) : sdAt ins ds (i + 1) = dueStep (sdAt ins ds i) d := by
  unfold sdAt
  rw [List.take_add_one, h, Option.toList_some, List.foldl_append]; rfl
theorem dueStep_0 (p : Int × Int) : dueStep p 0 = p := rfl
theorem dueStep_1 (p : Int × Int) : dueStep p 1 = (3 * p.1, p.2 + 2 * p.1) := rfl
theorem dueStep_2 (p : Int × Int) : dueStep p 2 = (p.1, 2 * p.2) := rfl
theorem ints_get {vs : List Value} {ds : List Int} (hI : IntsAre vs ds) {i : Nat} {v : Value} (hv : vs[i]? = some v) : ∃ d t, v = .int d t ∧ ds[i]? = some d := by
  have hi : i < ds.length := by rw [← hI.length]; exact (List.getElem?_eq_some_iff.mp hv).1
  obtain ⟨t, e⟩ := intsAre_get hI (d := 0) hi
  rw [hv] at e; cases e
  exact ⟨_, t, rfl, by rw [List.getD_eq_getElem?_getD, List.getElem?_eq_getElem hi]; rfl⟩
theorem run_bound : ∀ {l : List Nat} {a : Int} {k : Nat}, digs l = true → 0 ≤ a → a < 10 ^ k → 0 ≤ l.foldl dig a ∧ l.foldl dig a < 10 ^ (k + l.length)
  | [], a, k, _, h0, h => ⟨h0, h⟩
  | c :: l, a, k, hd, h0, h => by
    have hc : (decide (48 ≤ c) && decide (c ≤ 57)) = true ∧ digs l = true := by
      unfold digs at hd ⊢; rw [List.all_cons, Bool.and_eq_true] at hd; exact hd
    have hc1 := hc.1
    rw [Bool.and_eq_true, decide_eq_true_iff, decide_eq_true_iff] at hc1
    have hd1 := dig_lt (c := c) (k := k) h0 h hc1.1 hc1.2
    have ih := run_bound (l := l) hc.2 hd1.1 hd1.2
    rw [List.foldl_cons, List.length_cons, show k + (l.length + 1) = k + 1 + l.length by omega]
    exact ih
theorem runs_bound : ∀ {rs : List (List Nat)} {a : Int} {k : Nat}, rs.all runOk = true → 0 ≤ a → a < 10 ^ k → 0 ≤ rs.foldl (fun a l => l.foldl dig a) a ∧ rs.foldl (fun a l => l.foldl dig a) a < 10 ^ (k + (rs.map List.length).sum)
  | [], a, k, _, h0, h => ⟨h0, h⟩
  | r :: rs, a, k, hd, h0, h => by
    rw [List.all_cons, Bool.and_eq_true] at hd
    have hr : digs r = true := by have := hd.1; unfold runOk at this; rw [Bool.and_eq_true] at this; exact this.2
    have h1 := run_bound (k := k) hr h0 h
    have ih := runs_bound (rs := rs) hd.2 h1.1 h1.2
    rw [List.foldl_cons, List.map_cons, List.sum_cons, show k + (r.length + (rs.map List.length).sum) = k + r.length + (rs.map List.length).sum by omega]
    exact ih
theorem spl_total (c : Nat) : ∀ l : List Nat, ((spl c l).map List.length).sum ≤ l.length
  | [] => Nat.le_refl _
  | a :: l => by
    obtain ⟨p, r, e⟩ := spl_ne c l
    have ih := spl_total c l
    by_cases h : a = c
    · subst h; rw [spl_hit, List.map_cons, List.sum_cons, List.length_cons, List.length_nil]; omega
    · rw [spl_miss h e, List.map_cons, List.sum_cons, List.length_cons, List.length_cons]
      rw [e, List.map_cons, List.sum_cons] at ih; omega
theorem core_len (b : List Nat) : (coreL b).length ≤ b.length := by
  unfold coreL; split
  · rw [List.length_tail]; omega
  · exact Nat.le_refl _
theorem pow_mono10 {a b : Nat} (h : a ≤ b) : (10 : Int) ^ a ≤ 10 ^ b := by
  have h1 : (10 : Nat) ^ a ≤ 10 ^ b := Nat.pow_le_pow_right (by decide) h
  have h2 : ((10 ^ a : Nat) : Int) ≤ ((10 ^ b : Nat) : Int) := Int.ofNat_le.mpr h1
  rw [Int.natCast_pow, Int.natCast_pow] at h2
  exact h2
theorem body_bound {b : List Nat} {n : Int} {k : Nat} (h : bodyNum b = some n) (hk : b.length ≤ k) : - 10 ^ k < n ∧ n < 10 ^ k := by
  unfold bodyNum at h
  split at h
  · rename_i hall
    have hb := runs_bound (a := 0) (k := 0) hall (Int.le_refl 0) (by decide)
    have hle : (10 : Int) ^ (0 + ((spl 95 (coreL b)).map List.length).sum) ≤ 10 ^ k := pow_mono10 (by have := spl_total 95 (coreL b); have := core_len b; omega)
    have hn : numOf (spl 95 (coreL b)) = (spl 95 (coreL b)).foldl (fun a l => l.foldl dig a) 0 := rfl
    rw [← hn] at hb
    obtain ⟨hb1, hb2⟩ := hb
    injection h with h
    have hlt := Int.lt_of_lt_of_le hb2 hle
    generalize (10 : Int) ^ k = K at *
    split at h <;> omega
  · cases h
theorem len_sum {b : List Nat} : ∀ {r : List (List Nat)}, b ∈ r → b.length ≤ (r.map List.length).sum
  | a :: r, hb => by
    rw [List.map_cons, List.sum_cons]
    rcases List.mem_cons.mp hb with rfl | hb
    · omega
    · have := len_sum hb; omega
theorem num_bound {l : List Nat} {n : Int} {k : Nat} (h : numL l = some n) (hk : l.length ≤ k) : - 10 ^ k < n ∧ n < 10 ^ k := by
  unfold numL at h
  split at h
  · rename_i b e
    refine body_bound h (Nat.le_trans ?_ hk)
    have hb : b ∈ spl 32 l := (List.mem_filter.mp (by rw [e]; exact List.mem_cons_self : b ∈ _)).1
    have := spl_total 32 l
    have h2 := len_sum hb
    omega
  · cases h
theorem dn1 {y : Str} {mk : Nat} {tl : List Nat} {ds : List Int} {sg db : Int} (hcy : cp y = mk :: tl) (hall : (sg, db) = List.foldl dueStep (sd0 (cp y)) ds) (h1 : ((⟨#[mk]⟩ : Str) == Str.ofString "'") = true) : dueN (cp y) ds = sg := by
  rw [s39, eq_one, decide_eq_true_iff] at h1
  unfold dueN
  have : (cp y).headD 0 = mk := by rw [hcy]; rfl
  rw [this, if_pos h1]
  exact (congrArg Prod.fst hall).symm
theorem dn2 {y : Str} {mk : Nat} {tl : List Nat} {ds : List Int} {sg db : Int} (hcy : cp y = mk :: tl) (hall : (sg, db) = List.foldl dueStep (sd0 (cp y)) ds) (h1 : ((⟨#[mk]⟩ : Str) == Str.ofString "'") = false) (h2 : ((⟨#[mk]⟩ : Str) == Str.ofString "\"") = true) : dueN (cp y) ds = db := by
  rw [s39, eq_one, decide_eq_false_iff_not] at h1
  rw [s34, eq_one, decide_eq_true_iff] at h2
  unfold dueN
  have : (cp y).headD 0 = mk := by rw [hcy]; rfl
  rw [this, if_neg h1, if_pos h2]
  exact (congrArg Prod.snd hall).symm
theorem dn3 {y : Str} {mk : Nat} {tl : List Nat} (ds : List Int) (hcy : cp y = mk :: tl) (h1 : ((⟨#[mk]⟩ : Str) == Str.ofString "'") = false) (h2 : ((⟨#[mk]⟩ : Str) == Str.ofString "\"") = false) : dueN (cp y) ds = Txt.count y ⟨#[mk]⟩ := by
  rw [s39, eq_one, decide_eq_false_iff_not] at h1
  rw [s34, eq_one, decide_eq_false_iff_not] at h2
  unfold dueN
  have : (cp y).headD 0 = mk := by rw [hcy]; rfl
  rw [this, if_neg h1, if_neg h2, txt_count]
theorem due_proto {l : List Nat} {ds : List Int} (h : dueN l ds ≠ 4) : dueIn l ds = .proto := by unfold dueIn; rw [if_pos h]
theorem due_value {y : Str} {mk : Nat} {tl : List Nat} {ds : List Int} (hcy : cp y = mk :: tl) (h : dueN (cp y) ds = 4) (h2 : Txt.count y ⟨#[mk]⟩ ≠ 4) : dueIn (cp y) ds = .value := by
  have hm : (cp y).headD 0 = mk := by rw [hcy]; rfl
  unfold dueIn; rw [if_neg (fun q => q h), hm, if_neg (by rw [txt_count] at h2; omega)]; rfl
theorem due_num {y : Str} {mk : Nat} {tl : List Nat} {ds : List Int} (hcy : cp y = mk :: tl) (h : dueN (cp y) ds = 4) (h2 : Txt.count y ⟨#[mk]⟩ = 4) : dueIn (cp y) ds = numO (numL ((spl mk (cp y)).getD 3 [])) := by
  have hm : (cp y).headD 0 = mk := by rw [hcy]; rfl
  unfold dueIn; rw [if_neg (fun q => q h), hm, if_pos (by rw [txt_count] at h2; omega)]
end Mine

end
section -- Q9
theorem Mine.offQ9 : True ∧ True := by
  w_top off
  first | (walk1; all_goals trivial) | exact ⟨trivial, trivial⟩
namespace Mine
open PySem PySem.W PyProof.Rows PySem.Spec PySem.Calls
theorem quote_laid (x : Str) : quoteF x = laidF 1 x := by
  apply cp_inj
  unfold quoteF
  rw [cp_laidF, s39, s39b, cp_app, cp_app, cp_replace]
  rfl
theorem dress_laid (x : Str) : Str.ofString "\"" ++ Txt.join (Str.ofString "\"\"") (Txt.split x (Str.ofString "\"")) ++ Str.ofString "\"" = laidF 2 x := by
  apply cp_inj
  rw [cp_laidF, s34, s34b, cp_app, cp_app, cp_joined, cp_split, ical_spl]
  rfl
theorem laid_zero {Q : Value → Shared → Prop} {x : Str} {t : Tok} {s : Shared} (h : Q (.str (laidF 0 x) t) s) : Q (.str x t) s := by rw [← laid_0 x] at h; exact h
theorem split_sum (x : Str) (c : Nat) : ((Txt.split x ⟨#[c]⟩).map (·.length)).sum ≤ x.length := by
  have h := spl_total c (cp x)
  rw [← cp_split, List.map_map] at h
  exact h
theorem dress_len (x : Str) : (Txt.join (Str.ofString "\"\"") (Txt.split x (Str.ofString "\""))).length ≤ 2 * x.length := by
  rw [← cp_len, s34, s34b, cp_joined, cp_split, ical_spl]
  exact flatMap_len _ 2 (fun a => by split <;> simp [cp]) _
section
variable {w : World} {A : Around} {s : Shared} {E : Value → Shared → Prop} {Q : Value → Shared → Prop} {p : Program} {loose : List Str} {mean : ExcName → Option Value} {mg mb : Str → Option Value}
local macro_rules | `(tactic| walk_at "call builtin:str.join") => `(tactic| refine halt ?_)
local macro_rules | `(tactic| walk_at "call ref") => `(tactic| refine halt ?_)
theorem c_hand {x : Str} {t tt td : Tok} {turn d : Int} {g : Heap} (hg : Sub g s.heap) (hsz : g.objs.size ≤ s.heap.objs.size) (X : (Mine.hd.heap_1 w.params).In g) (T : Top p loose mean mg mb g) (hC : CodeHd g 95 91) (h94 : g.get? 91 = none)
    (hT : TabG s.heap 91 posJ) (hG : AllBare s.gens) (hd0 : 0 ≤ d) (hd2 : d ≤ 2) (hx : ∃ k, k < x.cps.size ∧ odd (x.cps.getD k 0) = true) (hl : x.length ≤ 10000)
    (hA : A.handled = none) (hd : A.depth + 4 < recursionLimit) (hu : A.units + 110 < cLine)
    (h : ∀ t' s', s'.os = s.os → AllBare s'.gens → Sub g s'.heap → TabG s'.heap 91 posJ → s.heap.objs.size ≤ s'.heap.objs.size → Q (.str (laidF d x) t') s') : wpAny (model Challenge.rw_oy0022_01.row.prog w) A (call (.ref 118) [.str x t, .int turn tt, .int d td]) Q E s := by
  obtain ⟨hnd, dp, fr, gd, un⟩ := A
  obtain rfl : hnd = none := hA
  dsimp only at hd hu
  have X0 := X.keeps hg
  have T0 := T.keeps hg
  revert X; k_fill; intro X
  refine wpAny_call ?_
  k_dflt (refine' enterP [(Str.ofString "text", .str x t), (Str.ofString "turn", .int turn tt), (Str.ofString "deed", .int d td)] X0 T0 ?k6 ?k7 ?k8 ?k9 ?kB ?_ ?c2 ?c3 ?c4 ?c5; (case k6 => k_is); (case k7 => k_is); (case k8 => (dsimp only; omega)); (case k9 => exact BindsTo.of_eq rfl); (case kB => exact locs rfl); (case c2 => exact rfl); (case c3 => exact rfl); (case c4 => exact rfl); (case c5 => decide))
  intro L h₁ F N
  (try dsimp only)
  (try k_fold)
  have Kg : ∀ h', Sub s.heap h' → Sub g h' := fun h' k b o e => k _ _ (hg _ _ e)
  have Ks : ∀ {h' m}, Fr s.heap L h' m → s.heap.objs.size ≤ h'.objs.size := fun F' => Nat.le_of_lt (Nat.lt_of_le_of_lt F'.above F'.ns.lt)
  k_steps
  · obtain rfl : d = 0 := by assumption
    show Q (.str x t) _
    rename Fr _ _ _ _ => F8
    refine laid_zero ?_
    exact h t _ rfl hG (Kg _ F8.keep) (hT.at fun o e => F8.keep _ _ e) (Ks F8)
  · refine Halt.go ?_
    obtain rfl : d = 2 := by assumption
    dsimp only at *
    rename StrsAre _ _ => hSr
    rename List.map _ _ = Txt.split _ _ => hsr
    rename ∀ a : Str, a ∈ List.map _ _ → _ => hle
    rename Fr _ _ _ _ => F8
    rename News _ _ _ _ => N8
    rw [hsr] at hSr hle
    have hsc : (Txt.split x (Str.ofString "\"")).length ≤ x.length + 1 := by rw [s34]; exact Mine.split_len x 34
    have hjl := dress_len x
    refine join_listW (ys := Txt.split x (Str.ofString "\"")) (by assumption) hSr (by decide) ?_ ?_
    · have := split_sum x 34
      rw [← s34] at this
      omega
    intro t9 k9
    k_steps
    rw [dress_laid]
    exact h _ _ rfl hG (Kg _ F8.keep) (hT.at fun o e => F8.keep _ _ e) (Ks F8)
  · refine Halt.go ?_
    obtain rfl : d = 1 := by omega
    rename Fr _ _ _ _ => F8
    rename News _ _ _ _ => N8
    refine c_join (Kg _ F8.keep) (Nat.le_trans hsz (Ks F8)) X T hC h94 (hT.at fun o e => F8.keep _ _ e) hG (N8.isList (by k_mem)) hx (Nat.le_trans hl (by decide)) rfl (by dsimp only [Around.deeper]; omega) (by dsimp only [Around.deeper]; omega) ?_
    intro t' s' hos hG' hs' hT' hz'
    rw [quote_laid]
    exact h _ _ hos hG' hs' hT' (Nat.le_trans (Ks F8) hz')
  · refine Halt.go ?_
    obtain rfl : d = 1 := by omega
    rename Fr _ _ _ _ => F8
    refine c_quote (X0.keeps F8.keep) (T0.keeps F8.keep) hx (Nat.le_trans hl (by decide)) (by dsimp only [Around.deeper]; omega) (by dsimp only [Around.deeper]; omega) ?_
    intro t' h' tk' hkp
    rw [quote_laid]
    have F7 := F8.keeps hkp
    exact h _ _ rfl hG (Kg _ F7.keep) (hT.at fun o e => F7.keep _ _ e) (Ks F7)
end
end Mine

end
section -- W10
theorem Mine.offW10 : True ∧ True := by
  w_top off
  first | (walk1; all_goals trivial) | exact ⟨trivial, trivial⟩
namespace Mine
open PySem PySem.W PyProof.Rows PySem.Spec PySem.Calls
section
variable {prog : Program} {w : World} {A : Around} {R : Result → Shared → Prop} {s : Shared}
theorem codeC_expr {e : Expr} {env : Env}
    (h : wpC (model prog w) (A.deeper env) (eval e env) (fun v s' => R (.ok (.ret v)) s')
      (fun e' s' => wpAny (model prog w) (A.deeper env) (leaving env e') (fun _ s'' => R (.error e') s'') (fun e'' s'' => R (.error e'') s'') s') s) :
    codeC (model prog w) A (.expr e env) R s := by
  refine codeC_of_tree ?_
  show wpC _ (A.deeper env) (do point; ret (← (eval e env).onRaise (leaving env))) _ _ s
  exact wpC_bind (ofAny (wpAny_point (wpC_bind (wpC_onRaise (wpC_mono h (fun v s' h' => wpC_pure h') fun _ _ h' => ofAny h')))))
theorem enterL {name qual : Str} {params : Arguments} {body : Expr} {scope : Scope} {cl : List (Str × Addr)} {pm cdv ct : Value} {f : Addr} {fo : Obj} {args : Args} {binds : List (Str × Value)} (hlim : s.heap.NoLimit)
    (ho : s.heap.get? f = some fo) (hd : fo.data = .func (kla_fn name qual params body scope cl pm cdv ct)) (hcd : s.heap.CodeRec cdv qual) (hroom : A.depth < recursionLimit)
    (hbind : bindArgs (kla_fn name qual params body scope cl pm cdv ct) args = pure binds) (hloc : ∀ y ∈ binds, scope.names.lookup y.1 = some .local)
    (h : ∀ L h₁, Fr s.heap L h₁ (fun y => binds.reverse.lookup y) →
      wpC (model prog w) (A.deeper (envX qual scope L f cdv cl)) (eval body (envX qual scope L f cdv cl)) (fun v s' => R (.ok (.ret v)) s')
        (fun e s' => wpAny (model prog w) (A.deeper (envX qual scope L f cdv cl)) (leaving (envX qual scope L f cdv cl) e) (fun _ s'' => R (.error e) s'') (fun e' s'' => R (.error e') s'') s')
        { s with heap := h₁, toks := s.toks + binds.length })
    (hco : scope.isCoroutine = false) (hgen : scope.isGenerator = false) (hk : scope.kind = .function)
    (hcell : ∀ x ∈ scope.names, x.2 ≠ .cell) : codeC (model prog w) A (.call (.ref f) args) R s := by
  refine codeC_of_tree ?_
  show wpC _ A.in1 (callAny (.ref f) args) _ _ s
  simp only [callAny]
  refine wpC_bind (ofAny (wpAny_load ho ?_))
  obtain ⟨c, oc, vs, tq, hc, hoc, hdc, hq⟩ := hcd
  simp only [hd, callFunction, hco, hgen, hc]
  rw [hc] at hbind h
  refine wpC_bind (m := field (.ref c) 1) (ofAny (wpAny_field hoc hdc hq (wpC_bind (wpC_pure ?_))))
  rw [hbind]
  refine wpC_bind (wpC_pure ?_)
  refine wpC_bind (ofAny (wpAny_newFunctionEnv hcell hloc (fun h₁ hns hsb => ?_) hk))
  have hk₁ : ∀ b o, s.heap.get? b = some o → h₁.get? b = some o := fun b o e => hsb.extBut b o (Nat.ne_of_lt (Heap.lt_size e)) (Heap.get?_push_of_some _ e)
  refine wpC_bind (ofAny (wpAny_enterFrame (hlim.fresh _ hsb) hroom (wpC_pure (And.intro rfl ?_))))
  show codeC _ _ (.expr body (envX qual scope s.heap.objs.size f (.ref c) cl)) _ _
  exact codeC_expr (h _ h₁ ⟨hns, hk₁, Nat.le_refl _⟩)
end
section
variable {M : Model} {A : Around} {E : Value → Shared → Prop} {s : Shared} {cn : Str} {cs : Scope} {L a c : Addr} {ccd : Value} {cl : List (Str × Addr)} {x : Str} {pos : Pos} {v : Value} {Q : Value → Shared → Prop} {g : Heap} {m mg : Str → Option Value}
theorem nm_free (hv : s.heap.IsCell c (some v)) (h : Q v s) (hc : cl.lookup x = some c)
    (hk : cs.kind = .function := by rfl) (hx : (envX cn cs L a ccd cl).kindOf x = some .free := by rfl) (hb : (x == ("__debug__" : Str)) = false := by decide) (hn : (x == ("__classdict__" : Str)) = false := by decide) :
    wpAny M A (eval (.Name x pos) (envX cn cs L a ccd cl)) Q E s := wpAny_Name (wpAny_loadName_free hk hx hc hv h hn) hb
theorem nm_local (F : Fr g L s.heap m) (hv : m x = some v) (h : Q v s)
    (hk : cs.kind = .function := by rfl) (hx : (envX cn cs L a ccd cl).kindOf x = some .local := by rfl) (hb : (x == ("__debug__" : Str)) = false := by decide) :
    wpAny M A (eval (.Name x pos) (envX cn cs L a ccd cl)) Q E s := wpAny_Name (wpAny_loadName_local hk hx F.ns hv h) hb
theorem nm_global (hg : s.heap.Ns mainGlobals mg) (hv : mg x = some v) (h : Q v s)
    (hk : cs.kind = .function := by rfl) (hx : (envX cn cs L a ccd cl).kindOf x = some .globalImplicit := by rfl) (hb : (x == ("__debug__" : Str)) = false := by decide) :
    wpAny M A (eval (.Name x pos) (envX cn cs L a ccd cl)) Q E s := Name_function_global (env := envX cn cs L a ccd cl) hk hx (loadGlobal_global hg hv h) hb
end
section
variable {M : Model} {A : Around} {E : Value → Shared → Prop} {s : Shared} {env : Env}
theorem wpC_callWith_fn {pos : Pos} {a : Addr} {first : List Value} {args : List (Bool × Sem Value)} {Q : Value → Shared → Prop}
    (h : wpAny M A (evalArgs (.ref a) true args []) (fun x s₁ => FnAt a s₁.heap ∧ wpC M A (call (.ref a) (first ++ x.pos) x.kw) Q E s₁) E s) (hs : args.any (·.1) = false) :
    wpC M A (callWith pos (.ref a) first args []) Q E s := by
  unfold callWith
  refine wpC_bind (wpC_holding (ofAny (wpAny_mono h (fun x s₁ h₁ => wpC_bind (wpC_standAt ?_)) fun _ _ x => x)))
  obtain ⟨⟨oc, od, fd, sl, ho⟩, h₁⟩ := h₁
  have tail : ∀ {t : Sem Value}, wpC M A t Q E s₁ → wpC M A (t >>= fun r => holding [r] point >>= fun _ => pure r) Q E s₁ :=
    fun ht => wpC_bind (wpC_mono ht (fun r s₂ hr => wpC_bind (wpC_holding (ofAny (wpAny_point (wpC_pure hr))))) fun _ _ x => x)
  simp only [hs, List.any_nil, Bool.or_false]
  refine wpC_bind (m := keeperOf (.ref a)) ?_
  unfold keeperOf
  refine wpC_bind (ofAny (wpAny_load ho ?_))
  refine wpC_pure ?_
  all_goals (try unfold callMarked)
  repeat' (first | exact tail h₁ | exact tail (wpC_keep h₁) | split)
theorem wpC_callWith_fnP {pos : Pos} {a : Addr} {e : Expr} {rest : List Expr} {Q : Value → Shared → Prop}
    (h : wpAny M A (spliced (backTo pos (starEach (e :: rest) env))) (fun vs s₁ => FnAt a s₁.heap ∧ wpC M A (call (.ref a) vs []) Q E s₁) E s)
    (he : starEach (e :: rest) env = (false, eval e env) :: starEach rest env := by rfl) (hplain : (backTo pos (starEach rest env)).any (·.1) = false := by rfl) :
    wpC M A (callWith pos (.ref a) [] (backTo pos (starEach (e :: rest) env)) (backToKw pos (keywordEach [] env))) Q E s := by
  rw [he] at h ⊢
  refine wpC_callWith_fn (evalArgs_plain ?_) (by show (false || (backTo pos (starEach rest env)).any (·.1)) = false; rw [hplain]; rfl)
  exact h
theorem wpC_callWith_fn0 {pos : Pos} {a : Addr} {Q : Value → Shared → Prop} (h : FnAt a s.heap ∧ wpC M A (call (.ref a) [] []) Q E s) :
    wpC M A (callWith pos (.ref a) [] (backTo pos (starEach [] env)) (backToKw pos (keywordEach [] env))) Q E s := by
  refine wpC_callWith_fn ?_ (by rfl)
  exact evalArgs_nil3 h
end
end Mine

end
section -- LD
theorem Mine.offLD : True ∧ True := by
  w_top off
  first | (walk1; all_goals trivial) | exact ⟨trivial, trivial⟩
namespace Mine
open PySem PySem.W PyProof.Rows PySem.Spec PySem.Calls
theorem ISpec_range {w : World} {r : Addr} {g : Heap} {t u v : Tok} (hr : IsRange g r 0 3 1 t u v) : ISpec Challenge.rw_oy0022_01.row.prog w (.ref r) 3 (fun i v => ∃ t, v = .int (i : Int) t) g := by
  intro A s Q E hA hg hQ
  refine wpAny_pyIter_range (hg _ _ hr) (by decide +kernel) ?_
  have hrs : Builtin.Range.rangeSize 0 3 1 = 3 := by decide +kernel
  refine hQ _ [s.heap.objs.size] [s.heap.objs.size] (fun i h => IsRangeIter h s.heap.objs.size (0 + (i : Nat) * 1) (((3 : Nat) : Int) - (i : Nat)) 1) _ s.toks (fun A' hA' => ?_) ?_ (fun b o e => Heap.get?_push_of_some _ e) (by rw [Heap.size_push]; exact Nat.le_succ _) (fun b hb => .inl hb) ?_ ?_ ?_
  · have W := Walks.range (prog := Challenge.rw_oy0022_01.row.prog) (w := w) hA' s.heap.objs.size 0 1 3
    exact { sub := W.sub, frame := W.frame, self := W.self, done := W.done, item := fun i s Q E hi st hq => W.item i s Q E hi st fun v h' tk hP => hq v h' tk (by obtain ⟨t, e⟩ := hP; exact ⟨t, by rw [e]; congr 1; omega⟩) }
  · rw [hrs]
    exact Heap.get?_push_size _ rfl
  · intro b hb
    rw [List.mem_singleton.mp hb]
    exact Heap.get?_none_of_le (Nat.le_refl _)
  · intro i h b o hSt hb ho vs k hd
    rw [List.mem_singleton.mp hb] at ho
    rw [hSt] at ho; cases ho; cases hd
  · intro x px v; rfl
theorem ISpec_strs {w : World} {l : Addr} {g : Heap} {vs : List Value} {xs : List Str} (hl : g.IsList l vs.toArray) (hS : StrsAre vs xs) : ISpec Challenge.rw_oy0022_01.row.prog w (.ref l) xs.length (fun i v => ∃ t, v = .str (xs.getD i (Str.ofString "")) t) g := by
  intro A s Q E hA hg hQ
  have hl' : s.heap.IsList l vs.toArray := hl.at fun o e => hg _ _ e
  have hlt : l < s.heap.objs.size := by obtain ⟨_, e, _⟩ := hl'; exact Heap.lt_size e
  have hln := strsAre_length hS
  refine wpAny_pyIter_list hl' ?_
  refine hQ _ [s.heap.objs.size, l] [s.heap.objs.size] (fun i h => h.IsListIter s.heap.objs.size l i ∧ h.IsList l vs.toArray) _ s.toks (fun A' hA' => ?_) ?_ (fun b o e => Heap.get?_push_of_some _ e) (by rw [Heap.size_push]; exact Nat.le_succ _) ?_ ?_ ?_ ?_
  · have W := Walks.list (prog := Challenge.rw_oy0022_01.row.prog) (w := w) hA' s.heap.objs.size l (Nat.ne_of_lt hlt) vs.toArray
    have hz : vs.toArray.size = xs.length := by simpa using hln
    rw [hz] at W
    exact { sub := W.sub, frame := W.frame, self := W.self, done := W.done, item := fun i s Q E hi st hq => W.item i s Q E hi st fun v h' tk hP => hq v h' tk (by
      obtain ⟨t, e⟩ := strsAre_get hS (i := i) (d := Str.ofString "") hi
      have hP' : vs[i]? = some v := by simpa using hP
      rw [hP'] at e; cases e
      exact ⟨t, rfl⟩) }
  · exact ⟨⟨_, Heap.get?_push_size _ rfl, rfl, rfl⟩, hl'.at fun o e => Heap.get?_push_of_some _ e⟩
  · intro b hb
    rcases List.mem_cons.mp hb with e | hb
    · exact .inl (List.mem_singleton.mpr e)
    · obtain ⟨o, e, _⟩ := hl
      exact .inr ⟨o, by rw [List.mem_singleton.mp hb]; exact e⟩
  · intro b hb
    rw [List.mem_singleton.mp hb]
    exact Heap.get?_none_of_le (Nat.le_refl _)
  · intro i h b o hSt hb ho vs k hd
    obtain ⟨o', ho', _, hd'⟩ := hSt.1
    rw [List.mem_singleton.mp hb, ho'] at ho; cases ho
    rw [hd'] at hd; cases hd
  · intro x px v; rfl
/-- how parse229 fails on a text, if it does -/
def badO (x : Str) : Option Bad := match parseO (cp x) with
  | .reply => some (.reply x)
  | .proto => some (.proto x)
  | .value => some .value
  | .told _ => none
section
variable {w : World} {A : Around} {s : Shared} {E : Value → Shared → Prop} {Q : Value → Shared → Prop} {p : Program} {loose : List Str} {mean : ExcName → Option Value} {mg mb : Str → Option Value}
theorem call_parse {x host : Str} {t th : Tok} {pt : Addr} {pv : Value} {B : Heap} {outer : List Env} (X : (Mine.hd.heap_1 w.params).In s.heap) (T : Top p loose mean mg mb s.heap) (hl : x.length ≤ 600) (hch : ∀ c ∈ cp x, c < 1114112)
    (hP : s.heap.IsTuple pt #[.str host th, pv]) (KB : Below A B outer s.heap) (hA : A.handled = none) (hd : A.depth + 1 < recursionLimit) (hu : A.units + 100 < cLine)
    (hQ : ∀ n D u h' tk', parseO (cp x) = .told n → Kp s.heap h' → h'.IsTuple D #[.str host th, .int n u] → Q (.ref D) { s with heap := h', toks := tk' })
    (hE : ∀ b e h' tk', badO x = some b → b.At B s.heap outer e h' → s.heap.UpToSlots h' → E (.ref e) { s with heap := h', toks := tk' }) :
    wpC (model Challenge.rw_oy0022_01.row.prog w) A (call (.ref 75) [.str x t, .ref pt]) Q E s := by
  obtain ⟨KB', hB'⟩ := below_hide KB
  refine c_parse X T hl hch hP KB' hA hd hu ?_
  unfold badO at hE
  cases ho : parseO (cp x) with
  | reply =>
    intro e tp h' tk' hR hU
    exact hE (.reply x) _ _ _ (by rw [ho]) ⟨_, _, bad_of_K hB' hR⟩ hU
  | proto =>
    intro e tp h' tk' hR hU
    exact hE (.proto x) _ _ _ (by rw [ho]) ⟨_, _, bad_of_K hB' hR⟩ hU
  | value =>
    intro e h' tk' hR hU
    exact hE .value _ _ _ (by rw [ho]) (bad_of_N hB' hR) hU
  | told n =>
    intro D u h' tk' hk ht _
    exact hQ n D u h' tk' ho hk ht
end
/-- the number that stands after i replies told -/
def numAt (xs : List Str) : Nat → Int
  | 0 => 21
  | i + 1 => match parseO (cp (xs.getD i (Str.ofString ""))) with
    | .told n => n
    | _ => 0
theorem numAt_told {xs : List Str} {i : Nat} {n : Int} (h : parseO (cp (xs.getD i (Str.ofString ""))) = .told n) : numAt xs (i + 1) = n := by
  show (match parseO (cp (xs.getD i (Str.ofString ""))) with | .told n => n | _ => 0) = n
  rw [h]
def ValD (xs : List Str) (host : Str) (i : Nat) (v : Value) (h : Heap) : Prop :=
  (∀ j, j < i → badO (xs.getD j (Str.ofString "")) = none) ∧ ∃ D t u, v = .ref D ∧ h.IsTuple D #[.str host t, .int (numAt xs i) u]
/-- the first reply that is refused -/
def firstBad : List Str → Option Bad
  | [] => none
  | x :: r => match badO x with
    | some b => some b
    | none => firstBad r
theorem firstBad_at : ∀ {xs : List Str} {i : Nat} {b : Bad}, i < xs.length → (∀ j, j < i → badO (xs.getD j (Str.ofString "")) = none) → badO (xs.getD i (Str.ofString "")) = some b → firstBad xs = some b
  | x :: r, 0, b, _, _, hb => by
    unfold firstBad
    have hb' : badO x = some b := hb
    rw [hb']
  | x :: r, i + 1, b, hi, h, hb => by
    unfold firstBad
    have h0 : badO x = none := h 0 (Nat.succ_pos _)
    rw [h0]
    exact firstBad_at (Nat.lt_of_succ_lt_succ hi) (fun j hj => by simpa using h (j + 1) (Nat.succ_lt_succ hj)) (by simpa using hb)
theorem firstBad_none : ∀ {xs : List Str}, (∀ j, j < xs.length → badO (xs.getD j (Str.ofString "")) = none) → firstBad xs = none
  | [], _ => rfl
  | x :: r, h => by
    unfold firstBad
    have h0 : badO x = none := h 0 (Nat.succ_pos _)
    rw [h0]
    exact firstBad_none fun j hj => by simpa using h (j + 1) (Nat.succ_lt_succ hj)
def lamDScope : Scope := { kind := .function, names := [(Str.ofString "so_far", .local), (Str.ofString "reply", .local), (Str.ofString "parse229", .globalImplicit)], isGenerator := false, isCoroutine := false, more := [] }
def lamDBody (p1 p2 p3 p4 : Pos) : Expr := .Call (.Name (Str.ofString "parse229") p1) [.Name (Str.ofString "reply") p2, .Name (Str.ofString "so_far") p3] [] p4
def lamDPar (q1 q2 : Pos) : Arguments := { posonlyargs := [], args := [{ arg := Str.ofString "so_far", annotation := none, pos := q1 }, { arg := Str.ofString "reply", annotation := none, pos := q2 }], vararg := none, kwonlyargs := [], kw_defaults := [], kwarg := none, defaults := [] }
section
variable {w : World} {p : Program} {loose : List Str} {mean : ExcName → Option Value} {mg mb : Str → Option Value}
theorem lamD_spec {p1 p2 p3 p4 q1 q2 : Pos} {g B : Heap} {D U : Nat} {f : Addr} {fo : Obj} {name qual host : Str} {pm cdv ct : Value} {xs : List Str}
    (X : (Mine.hd.heap_1 w.params).In g) (T : Top p loose mean mg mb g)
    (ho : g.get? f = some fo) (hd : fo.data = .func (kla_fn name qual (lamDPar q1 q2) (lamDBody p1 p2 p3 p4) lamDScope [] pm cdv ct)) (hcd : g.CodeRec cdv qual)
    (hx : ∀ x ∈ xs, x.length ≤ 600 ∧ ∀ c ∈ cp x, c < 1114112)
    (hD : D + 6 < recursionLimit) (hU : U + 120 < cLine) :
    FSpec Challenge.rw_oy0022_01.row.prog w f xs.length (ValD xs host) (fun i v => ∃ t, v = .str (xs.getD i (Str.ofString "")) t) [] (fun _ => True) (fun b => firstBad xs = some b) g B D U := by
  rintro i v e s A Q E outer hi ⟨htold, pt, tt, tu, rfl, hpt⟩ ⟨t2, rfl⟩ hgs KB hInv hG hA hdp hun hQ hE
  obtain ⟨hnd, dp, fr, gd, un⟩ := A
  obtain rfl : hnd = none := hA
  dsimp only at hdp hun
  replace KB : Below _ B outer s.heap := KB
  have hQ' : ∀ v' s', ValD xs host (i + 1) v' s'.heap → s'.os = s.os → AllBare s'.gens → Kp s.heap s'.heap → s.heap.objs.size ≤ s'.heap.objs.size → Q v' s' := fun v' s' a b c d z => hQ v' s' a b c d trivial z
  have hE' : ∀ b e s', firstBad xs = some b → b.At B s.heap outer e s'.heap → s.heap.UpToSlots s'.heap → s'.os = s.os → AllBare s'.gens → E (.ref e) s' := hE
  revert X; k_fill; intro X
  refine wpC_call ?_
  refine enterL (T.keeps hgs).nolimit (hgs _ _ ho) hd (hcd.keeps hgs) (by dsimp only; omega) (binds := [(Str.ofString "so_far", .ref pt), (Str.ofString "reply", .str (xs.getD i (Str.ofString "")) t2)]) (by rfl) (locs rfl) ?_ rfl rfl rfl (by decide)
  intro L h₁ F
  have hk1 : ∀ b o, g.get? b = some o → h₁.get? b = some o := fun b o e => F.keep _ _ (hgs _ _ e)
  have X1 := X.keeps hk1
  have T1 := T.keeps hk1
  have hm : xs.getD i (Str.ofString "") ∈ xs := by rw [List.getD_eq_getElem?_getD, List.getElem?_eq_getElem hi]; exact List.getElem_mem _
  refine wpC_Call_name ?_
  refine nm_global T1.g (mg_of X T.g (v := .ref 75) (by kernel_rfl)) ?_
  refine wpC_callWith_fnP ?_
  walk1
  refine nm_local F rfl ?_
  walk1
  refine nm_local F rfl ?_
  walk1
  refine ⟨⟨_, _, _, _, X1 _ _ (by k_is)⟩, ?_⟩
  refine call_parse X1 T1 (hx _ hm).1 (hx _ hm).2 (let ⟨o, a, r⟩ := hpt; ⟨o, F.keep _ _ a, r⟩) (pushX KB F rfl rfl) rfl (by dsimp only [Around.deeper]; omega) (by dsimp only [Around.deeper]; omega) ?_ ?_
  · intro n D2 u h' tk' hp hk ht
    refine hQ' _ _ ⟨fun j hj => ?_, D2, tt, u, rfl, ?_⟩ rfl hG (fun b o e => hk _ _ (F.keep _ _ e)) ?_
    · by_cases hji : j = i
      · subst hji; unfold badO; rw [hp]
      · exact htold j (by omega)
    · show h'.IsTuple D2 #[.str host tt, .int (numAt xs (i + 1)) u]
      rw [numAt_told hp]; exact ht
    · obtain ⟨oL, _, _, hoL, _⟩ := F.ns
      exact Nat.le_of_lt (Nat.lt_of_le_of_lt F.above (Heap.lt_size (hk _ _ hoL)))
  · intro b e h' tk' hb hbad hup
    refine leave_bad KB F rfl hbad hup fun h2 hb2 hu2 _ => ?_
    exact hE' b e _ (firstBad_at hi htold hb) hb2 hu2 rfl hG
end
end Mine

end
section -- ML
theorem Mine.offML : True ∧ True := by
  w_top off
  first | (walk1; all_goals trivial) | exact ⟨trivial, trivial⟩
namespace Mine
open PySem PySem.W PyProof.Rows PySem.Spec PySem.Calls
theorem among_some {pos : Pos} {c : Value} (r : List Value) : ∀ {l : List Value}, TriplesOk l → codeAmong pos l = some c → codeAmong pos (l ++ r) = some c := by
  intro l h e
  fun_induction TriplesOk l with
  | case1 => simp [codeAmong] at e
  | case2 a t b u x rest ih =>
    simp only [List.cons_append, codeAmong] at e ⊢
    split at e
    · rename_i hc; rw [if_pos hc]; exact e
    · rename_i hc; rw [if_neg hc]; exact ih h e
  | case3 => exact h.elim
theorem among_none {pos pos' : Pos} {c : Value} (hne : ¬ (pos'.line = pos.line ∧ pos'.col = pos.col)) : ∀ {l : List Value}, TriplesOk l → codeAmong pos l = none → codeAmong pos (l ++ [rawInt pos'.line, rawInt pos'.col, c]) = none := by
  intro l h e
  fun_induction TriplesOk l with
  | case1 =>
    simp only [List.nil_append, codeAmong, rawInt]
    rw [if_neg]
    intro q
    simp only [Bool.and_eq_true, beq_iff_eq] at q
    exact hne ⟨by omega, by omega⟩
  | case2 a t b u x rest ih =>
    simp only [List.cons_append, codeAmong] at e ⊢
    split at e
    · cases e
    · rename_i hc; rw [if_neg hc]; exact ih h e
  | case3 => exact h.elim
abbrev TabE := Pos × Str × (Addr → Heap → Prop)
/-- a code's table, as far as these places are concerned -/
def TabOk (h : Heap) (P : Addr) (al : List TabE) : Prop := ∃ ps, h.get? P = some (tabObj ps) ∧ TriplesOk ps.toList ∧ ∀ q ∈ al, codeAmong q.1 ps.toList = none ∨ ∃ c', codeAmong q.1 ps.toList = some (.ref c') ∧ c' ≠ P ∧ h.CodeRec (.ref c') q.2.1 ∧ q.2.2 c' h
theorem codeRec_at {h h' : Heap} {c : Addr} {q : Str} (x : h.CodeRec (.ref c) q) (k : ∀ o, h.get? c = some o → h'.get? c = some o) : h'.CodeRec (.ref c) q := Heap.CodeRec.at x k
theorem TabOk.ext {h h' : Heap} {P : Addr} {al : List TabE} (x : TabOk h P al) (hP : ∀ o, h.get? P = some o → h'.get? P = some o) (hk : ∀ b o, b ≠ P → (∃ vs, o.data = .fields vs) → h.get? b = some o → h'.get? b = some o) (hX : ∀ q ∈ al, ∀ c, q.2.2 c h → q.2.2 c h') : TabOk h' P al := by
  obtain ⟨ps, e, ht, hq⟩ := x
  refine ⟨ps, hP _ e, ht, fun q hm => ?_⟩
  rcases hq q hm with h0 | ⟨c', h1, h2, h3, h4⟩
  · exact .inl h0
  · obtain ⟨c9, oc, vs, t, e9, hoc, hd, hv⟩ := h3
    cases e9
    exact .inr ⟨c', h1, h2, ⟨c', oc, vs, t, rfl, hk _ _ h2 ⟨vs, hd⟩ hoc, hd, hv⟩, hX q hm _ h4⟩
section
variable {M : Model} {A : Around} {E : Value → Shared → Prop} {s : Shared} {env : Env} {c P : Addr} {al : List TabE} {pos : Pos} {qual : Str} {X : Addr → Heap → Prop}
theorem functionCode_tab {firstLine : Nat} {name : Str} {params : Arguments} {scope : Scope} {body : FuncBody} {Q : Value → Shared → Prop} (hc : env.code = .ref c) (C : CodeHd s.heap c P) (hT : TabOk s.heap P al) (hm : (pos, qual, X) ∈ al)
    (hd : ∀ q ∈ al, (q.1.line = pos.line ∧ q.1.col = pos.col) → q = (pos, qual, X)) (hXk : ∀ q ∈ al, ∀ c h h', (∃ ps, h.get? P = some (tabObj ps) ∧ TriplesOk ps.toList) → q.2.2 c h → Heap.ExtBut P h h' → q.2.2 c h')
    (hXn : ∀ c' P' h', s.heap.objs.size ≤ P' → h'.IsCode c' P' #[] → h'.TableAt c' P' #[] → X c' h')
    (h : ∀ c' h' tk, Heap.ExtBut P s.heap h' → s.heap.objs.size ≤ h'.objs.size → h'.CodeRec (.ref c') qual → X c' h' → TabOk h' P al → Q (.ref c') { s with heap := h', toks := tk }) :
    wpAny M A (functionCode env pos firstLine name qual params scope body) Q E s := by
  obtain ⟨ps, hP, ht, hq⟩ := id hT
  rcases hq _ hm with hn | ⟨c', hf, hcP, hcr, hX⟩
  · refine wpAny_functionCodeX hc (C.code hP ht) (C.tab hP) hn fun c' h' tk hx hge hlt _ hrec htb hnew => ?_
    have hPlt := Heap.lt_size hP
    have hcP : c' ≠ P := Nat.ne_of_gt (Nat.lt_of_lt_of_le hPlt hge)
    obtain ⟨P', hP', hic, hta⟩ := hnew
    have hX' := hXn c' P' h' hP' hic hta
    refine h c' h' tk hx (Nat.le_trans hge (Nat.le_of_lt hlt)) hrec hX' ⟨_, htb.2, ?_, fun q hqm => ?_⟩
    · rw [Array.toList_append]; exact TriplesOk_snoc _ _ _ _ ht
    · rw [Array.toList_append]
      by_cases hpp : q.1.line = pos.line ∧ q.1.col = pos.col
      · have := hd q hqm hpp
        subst this
        exact .inr ⟨c', codeAmong_snoc _ ht hn, hcP, hrec, hX'⟩
      · rcases hq q hqm with h0 | ⟨c9, g1, g2, g3, g4⟩
        · exact .inl (among_none (fun z => hpp ⟨z.1.symm, z.2.symm⟩) ht h0)
        · exact .inr ⟨c9, among_some _ ht g1, g2, codeRec_at g3 fun o e => hx _ _ g2 e, hXk q hqm _ _ _ ⟨ps, hP, ht⟩ g4 hx⟩
  · exact wpAny_functionCode_hit hc (C.code hP ht) hf (h c' s.heap s.toks (fun _ _ _ e => e) (Nat.le_refl _) hcr hX hT)
theorem make_lam {p : Program} {loose : List Str} {mean : ExcName → Option Value} {mg mb : Str → Option Value} {params : Arguments} {body : Expr} {scope : Scope} {clos : List (Str × Addr)} {Q : Value → Shared → Prop} (T : Top p loose mean mg mb s.heap)
    (hdef : defaultsOf params env = ([], [])) (hcl : closureFor scope env = pure clos) (hge0 : env.globals = mainGlobals) (hc : env.code = .ref c) (C : CodeHd s.heap c P) (hT : TabOk s.heap P al) (hq : qual = env.qual ++ "<lambda>") (hm : (pos, qual, X) ∈ al)
    (hd : ∀ q ∈ al, (q.1.line = pos.line ∧ q.1.col = pos.col) → q = (pos, qual, X)) (hXk : ∀ q ∈ al, ∀ c h h', (∃ ps, h.get? P = some (tabObj ps) ∧ TriplesOk ps.toList) → q.2.2 c h → Heap.ExtBut P h h' → q.2.2 c h')
    (hXn : ∀ c' P' h', s.heap.objs.size ≤ P' → h'.IsCode c' P' #[] → h'.TableAt c' P' #[] → X c' h')
    (h : ∀ f c' pm ctv h' tk, Heap.ExtBut P s.heap h' → s.heap.objs.size ≤ f → s.heap.objs.size ≤ h'.objs.size → h'.get? f = some (kla_obj "<lambda>" qual params body scope clos pm c' ctv) → h'.CodeRec (.ref c') qual → X c' h' → TabOk h' P al → Q (.ref f) { s with heap := h', toks := tk }) :
    wpAny M A (eval (.Lambda params body scope pos) env) Q E s := by
  refine kla_eval hdef ?_
  subst hq
  rw [makeFunction_eq]
  simp only [List.zip_nil_right, List.filterMap_nil, List.isEmpty_nil, if_true, pure_bind]
  obtain ⟨bm, ob, b1, b2, b3, b4, b5, b6⟩ := T.bmain
  obtain ⟨ps, hP, htr, _⟩ := id hT
  have hgP : mainGlobals ≠ P := fun q => by
    obtain ⟨o, es, ep, e, hd, _⟩ := T.g
    rw [q, hP] at e; cases e; cases hd
  have hbP : bm ≠ P := fun q => by rw [q, hP] at b3; cases b3; cases b4
  have hPlt := Heap.lt_size hP
  unfold makeTail
  rw [hcl, hge0]
  refine wpAny_bind (wpAny_pure ?_)
  have hxb : ∀ {h' : Heap}, Heap.ExtBut P s.heap h' → h'.get? bm = some ob := fun hx => hx _ _ hbP b3
  cases clos with
  | nil =>
    simp only [List.isEmpty_nil, if_true]
    refine wpAny_bind (wpAny_pure ?_)
    refine wpAny_bind (functionCode_tab hc C hT hm hd hXk hXn fun c' h' tk hx hsz hrec hX htab => ?_)
    have hg' := T.g.extBut hx hgP
    refine wpAny_bind (wpAny_builtinsFor hg' b1 b2 (hxb hx) b4 b5 b6 ?_)
    refine wpAny_bind (wpAny_nsGet hg' ?_)
    have up : ∀ (o : Obj) b o', h'.get? b = some o' → (h'.push o).get? b = some o' := fun o b o' e => Heap.get?_push_of_some _ e
    exact wpAny_bind (wpAny_pure (wpAny_newObj_type (h h'.objs.size c' _ .none _ tk (fun b o hb e => up _ _ _ (hx b o hb e)) hsz (by rw [Heap.size_push]; exact Nat.le_succ_of_le hsz) (Heap.get?_push_size _ rfl) (hrec.push _)
      (hXk _ hm c' h' _ (let ⟨p9, a9, b9, _⟩ := htab; ⟨p9, a9, b9⟩) hX fun b o _ e => up _ _ _ e) (htab.ext (fun o e => up _ _ _ e) (fun b o _ _ e => up _ _ _ e) fun q hqm c9 hx9 => hXk q hqm c9 h' _ (let ⟨p9, a9, b9, _⟩ := htab; ⟨p9, a9, b9⟩) hx9 fun b o _ e => up _ _ _ e)) (by size_fits)))
  | cons q r =>
    simp only [List.isEmpty_cons, Bool.false_eq_true, if_false]
    refine wpAny_bind (wpAny_newTextTuple ?_)
    have up0 : ∀ (o : Obj) b o', s.heap.get? b = some o' → (s.heap.push o).get? b = some o' := fun o b o' e => Heap.get?_push_of_some _ e
    refine wpAny_bind (functionCode_tab hc (C.keeps (up0 _)) (hT.ext (fun o e => up0 _ _ _ e) (fun b o _ _ e => up0 _ _ _ e) fun q hqm c9 hx9 => hXk q hqm c9 _ _ ⟨ps, hP, htr⟩ hx9 fun b o _ e => up0 _ _ _ e) hm hd hXk
      (fun c' P' h' hP' => hXn c' P' h' (Nat.le_trans (by rw [Heap.size_push]; exact Nat.le_succ _) hP')) fun c' h' tk hx0 hsz0 hrec hX htab => ?_)
    have hx : Heap.ExtBut P s.heap h' := fun b o hb e => hx0 b o hb (up0 _ _ _ e)
    have hsz : s.heap.objs.size ≤ h'.objs.size := Nat.le_trans (by rw [Heap.size_push]; exact Nat.le_succ _) hsz0
    have hg' := T.g.extBut hx hgP
    refine wpAny_bind (wpAny_builtinsFor hg' b1 b2 (hxb hx) b4 b5 b6 ?_)
    refine wpAny_bind (wpAny_nsGet hg' ?_)
    have up : ∀ (o : Obj) b o', h'.get? b = some o' → (h'.push o).get? b = some o' := fun o b o' e => Heap.get?_push_of_some _ e
    exact wpAny_bind (wpAny_pure (wpAny_newObj_type (h h'.objs.size c' _ _ _ tk (fun b o hb e => up _ _ _ (hx b o hb e)) hsz (by rw [Heap.size_push]; exact Nat.le_succ_of_le hsz) (Heap.get?_push_size _ rfl) (hrec.push _)
      (hXk _ hm c' h' _ (let ⟨p9, a9, b9, _⟩ := htab; ⟨p9, a9, b9⟩) hX fun b o _ e => up _ _ _ e) (htab.ext (fun o e => up _ _ _ e) (fun b o _ _ e => up _ _ _ e) fun q hqm c9 hx9 => hXk q hqm c9 h' _ (let ⟨p9, a9, b9, _⟩ := htab; ⟨p9, a9, b9⟩) hx9 fun b o _ e => up _ _ _ e)) (by size_fits)))
end
end Mine

end
section -- LB
theorem Mine.offLB : True ∧ True := by
  w_top off
  first | (walk1; all_goals trivial) | exact ⟨trivial, trivial⟩
namespace Mine
open PySem PySem.W PyProof.Rows PySem.Spec PySem.Calls
section
variable {M : Model} {A : Around} {E : Value → Shared → Prop} {s' : Shared} {B g G : Heap} {outer : List Env} {L e : Addr} {m : Str → Option Value} {env : Env} {Q : Unit → Shared → Prop}
end
def Bad.AtN (B G : Heap) (outer : List Env) (e : Addr) (news : List (Addr × Obj)) (h : Heap) : Bad → Prop
  | .reply x => ∃ t u, RaisedS B G outer e (.ref 54) t [.str x u] news h
  | .proto x => ∃ t u, RaisedS B G outer e (.ref 66) t [.str x u] news h
  | .value => RaisedSN B G outer e (.type "ValueError") news h
section
variable {M : Model} {A : Around} {E : Value → Shared → Prop} {s' : Shared} {B g G : Heap} {outer : List Env} {L e : Addr} {m : Str → Option Value} {env : Env} {Q : Unit → Shared → Prop} {news : List (Addr × Obj)}
/-- as leave_bad, with what was made meanwhile -/
theorem leave_badN {b : Bad} (K : Below A B outer g) (F : Fr g L G m) (hf : env.frame = some L) (R : b.At B G (env :: outer) e s'.heap) (hsm : G.UpToSlots s'.heap)
    (hn : ∀ q ∈ news, G.get? q.1 = some q.2 ∧ q.1 ∉ (env :: outer).filterMap (·.frame) ∧ g.get? q.1 = none)
    (hQ : ∀ h', b.AtN B g outer e news h' → g.UpToSlots h' → Q () { s' with heap := h' }) : wpAny M (A.deeper env) (leaving env (.ref e)) Q E s' := by
  have sg : ∀ {Bh : Heap}, (∀ b o, G.get? b = some o → b ∉ (env :: outer).filterMap (·.frame) → Bh.get? b = some o) → ∀ b o, g.get? b = some o → b ∉ outer.filterMap (·.frame) → Bh.get? b = some o :=
    fun hBG b o q nm => hBG b o (F.keep b o q) fun hm => by
      rcases mem_frames hf hm with z | z
      · rw [z, kts_self F] at q; cases q
      · exact nm z
  have nn : ∀ {Bh : Heap}, (∀ b o, G.get? b = some o → b ∉ (env :: outer).filterMap (·.frame) → Bh.get? b = some o) → ∀ q ∈ news, Bh.get? q.1 = some q.2 ∧ g.get? q.1 = none ∧ B.get? q.1 = none :=
    fun hBG q hq => ⟨hBG _ _ (hn q hq).1 (hn q hq).2.1, (hn q hq).2.2, kts_none K.stays (hn q hq).2.2⟩
  cases b with
  | reply x =>
    obtain ⟨t, u, ⟨Bh, hB, hBG, hl, hfl, hnew⟩, htup⟩ := R
    exact wpAny_leaves_onW (Around.frames_deeper K.stack) hf hfl fun h' x1 x2 => hQ h' ⟨t, u, ⟨Bh, hB, sg hBG, nn hBG, x1, hnew⟩, htup.of_slots x2⟩ ((Heap.UpToSlots.of_keeps F.keep).trans (hsm.trans x2))
  | proto x =>
    obtain ⟨t, u, ⟨Bh, hB, hBG, hl, hfl, hnew⟩, htup⟩ := R
    exact wpAny_leaves_onW (Around.frames_deeper K.stack) hf hfl fun h' x1 x2 => hQ h' ⟨t, u, ⟨Bh, hB, sg hBG, nn hBG, x1, hnew⟩, htup.of_slots x2⟩ ((Heap.UpToSlots.of_keeps F.keep).trans (hsm.trans x2))
  | value =>
    obtain ⟨Bh, a0, hB, hBG, hl, hfl⟩ := R
    exact wpAny_leaves_onW (Around.frames_deeper K.stack) hf hfl fun h' x1 x2 => hQ h' ⟨Bh, a0, hB, sg hBG, nn hBG, x1⟩ ((Heap.UpToSlots.of_keeps F.keep).trans (hsm.trans x2))
end
/-- what a call of the asked comes to -/
def AskSpec (prog : Program) (w : World) (f : Addr) (T : List Addr) (Inv : Heap → Prop) (ok : Value → Heap → Prop) (bd : Option Bad) (g B : Heap) (D U : Nat) : Prop :=
  ∀ (s : Shared) (A : Around) (Q : Value → Shared → Prop) (E : Value → Shared → Prop) (outer : List Env), (∀ b o, g.get? b = some o → s.heap.get? b = some o) → Below A B outer (gh T s.heap) → Inv s.heap → AllBare s.gens →
    A.handled = none → A.depth ≤ D → A.units ≤ U →
    (∀ v s', bd = none → ok v s'.heap → s'.os = s.os → AllBare s'.gens → (∀ b o, (gh T s.heap).get? b = some o → s'.heap.get? b = some o) → Inv s'.heap → s.heap.objs.size ≤ s'.heap.objs.size → Q v s') →
    (∀ b e s' news, bd = some b → b.AtN B (gh T s.heap) outer e news s'.heap → (gh T s.heap).UpToSlots s'.heap → (∀ h', (∀ q ∈ news, h'.get? q.1 = some q.2) → (∀ a o, (gh T s.heap).get? a = some o → a ∉ outer.filterMap (·.frame) → h'.get? a = some o) → Inv h') → s'.os = s.os → AllBare s'.gens → E (.ref e) s') → wpC (model prog w) A (call (.ref f) []) Q E s
def lamBScope : Scope := { kind := .function, names := [(Str.ofString "peer", .free), (Str.ofString "reply", .free), (Str.ofString "parse229", .globalImplicit)], isGenerator := false, isCoroutine := false, more := [] }
def lamBBody (p1 p2 p3 p4 : Pos) : Expr := .Call (.Name (Str.ofString "parse229") p1) [.Name (Str.ofString "reply") p2, .Name (Str.ofString "peer") p3] [] p4
def lam0Par : Arguments := { posonlyargs := [], args := [], vararg := none, kwonlyargs := [], kw_defaults := [], kwarg := none, defaults := [] }
def okTold (host : Str) (n : Int) (v : Value) (h : Heap) : Prop := ∃ D t u, v = .ref D ∧ h.IsTuple D #[.str host t, .int n u]
section
variable {w : World} {p : Program} {loose : List Str} {mean : ExcName → Option Value} {mg mb : Str → Option Value}
theorem lamB_spec {p1 p2 p3 p4 : Pos} {g B : Heap} {D U : Nat} {f pc rc pt : Addr} {fo : Obj} {name qual host x : Str} {th tx : Tok} {pv pm cdv ct : Value}
    (X : (Mine.hd.heap_1 w.params).In g) (T : Top p loose mean mg mb g)
    (ho : g.get? f = some fo) (hd : fo.data = .func (kla_fn name qual lam0Par (lamBBody p1 p2 p3 p4) lamBScope [(Str.ofString "reply", rc), (Str.ofString "peer", pc)] pm cdv ct)) (hcd : g.CodeRec cdv qual)
    (hpc : g.IsCell pc (some (.ref pt))) (hrc : g.IsCell rc (some (.str x tx))) (hpt : g.IsTuple pt #[.str host th, pv])
    (hx : x.length ≤ 600 ∧ ∀ c ∈ cp x, c < 1114112) (hD : D + 4 < recursionLimit) (hU : U + 110 < cLine) :
    AskSpec Challenge.rw_oy0022_01.row.prog w f [] (fun _ => True) (fun v h => ∃ n, parseO (cp x) = .told n ∧ okTold host n v h) (badO x) g B D U := by
  rintro s A Q E outer hgs KB hInv hG hA hdp hun hQ hE
  obtain ⟨hnd, dp, fr, gd, un⟩ := A
  obtain rfl : hnd = none := hA
  dsimp only at hdp hun
  replace KB : Below _ B outer s.heap := KB
  revert X; k_fill; intro X
  refine wpC_call ?_
  refine enterL (T.keeps hgs).nolimit (hgs _ _ ho) hd (hcd.keeps hgs) (by dsimp only; omega) (binds := []) (by rfl) (locs rfl) ?_ rfl rfl rfl (by decide)
  intro L h₁ F
  have hk1 : ∀ b o, g.get? b = some o → h₁.get? b = some o := fun b o e => F.keep _ _ (hgs _ _ e)
  have X1 := X.keeps hk1
  have T1 := T.keeps hk1
  refine wpC_Call_name ?_
  refine nm_global T1.g (mg_of X T.g (v := .ref 75) (by kernel_rfl)) ?_
  refine wpC_callWith_fnP ?_
  walk1
  refine nm_free (hrc.keeps hk1) ?_ rfl
  walk1
  refine nm_free (hpc.keeps hk1) ?_ rfl
  walk1
  refine ⟨⟨_, _, _, _, X1 _ _ (by k_is)⟩, ?_⟩
  refine call_parse X1 T1 hx.1 hx.2 (let ⟨o, a, r⟩ := hpt; ⟨o, hk1 _ _ a, r⟩) (pushX KB F rfl rfl) rfl (by dsimp only [Around.deeper]; omega) (by dsimp only [Around.deeper]; omega) ?_ ?_
  · intro n D2 u h' tk' hp hk ht
    refine hQ _ _ (by unfold badO; rw [hp]) ⟨n, hp, D2, th, u, rfl, ht⟩ rfl hG (fun b o e => hk _ _ (F.keep _ _ e)) trivial ?_
    obtain ⟨oL, _, _, hoL, _⟩ := F.ns
    exact Nat.le_of_lt (Nat.lt_of_le_of_lt F.above (Heap.lt_size (hk _ _ hoL)))
  · intro b e h' tk' hb hbad hup
    refine leave_badN (news := []) KB F rfl hbad hup (fun _ hq => nomatch hq) fun h2 hb2 hu2 => ?_
    exact hE b e _ [] hb hb2 hu2 (fun _ _ _ => trivial) rfl hG
end
end Mine

end
section -- LC
theorem Mine.offLC : True ∧ True := by
  w_top off
  first | (walk1; all_goals trivial) | exact ⟨trivial, trivial⟩
namespace Mine
open PySem PySem.W PyProof.Rows PySem.Spec PySem.Calls
def lamCScope : Scope := { kind := .function, names := [(Str.ofString "count", .free), (Str.ofString "peer", .free), (Str.ofString "replies", .free), (Str.ofString "reduce", .globalImplicit)], isGenerator := false, isCoroutine := false, more := [] }
def lamCBody (p1 p2 p3 p4 p5 p6 p7 pD a1 a2 a3 a4 q1 q2 : Pos) : Expr :=
  .Call (.Name (Str.ofString "reduce") p1) [.Lambda (lamDPar q1 q2) (lamDBody a1 a2 a3 a4) lamDScope pD, .Subscript (.Name (Str.ofString "replies") p2) (.Slice none (some (.Name (Str.ofString "count") p3)) none p4) p5, .Name (Str.ofString "peer") p6] [] p7
def tabD (pD : Pos) (qual : Str) : List TabE := [(pD, qual ++ ".<locals>." ++ "<lambda>", fun _ _ => True)]
theorem pick_upto {vs : List Value} {L : List Str} (h : StrsAre vs L) (k : Nat) : StrsAre (slicePick vs.toArray none (some (k : Int)) none).toList (L.take k) := by
  rw [slicePick_upto' vs.toArray k]
  simpa using strs_take h k
section
variable {prog : Program} {w : World} {A : Around} {E : Value → Shared → Prop} {s : Shared}
theorem is_tup_other {x y : Addr} {ox oy : Obj} {Q : Value → Shared → Prop} (hxy : x ≠ y) (hx : s.heap.get? x = some ox) (hy : s.heap.get? y = some oy) (hnt : oy.cls ≠ .type "tuple") (h : Q (.bool false) s) :
    wpAny (model prog w) A (compareOp .Is (.ref x) (.ref y)) Q E s := by
  show wpAny _ A (do return .bool (← isSame (.ref x) (.ref y))) Q E s
  refine wpAny_bind ?_
  show wpAny _ A (if (x == y) = true then pure true else _) _ E s
  rw [if_neg (by simpa using hxy)]
  refine wpAny_bind (wpAny_load hx (wpAny_bind (wpAny_load hy ?_)))
  split
  · rename_i _ h1 _ _; exact absurd h1 hnt
  · exact wpAny_pure (wpAny_pure h)
theorem slice_keep {value slice : Expr} {l : Addr} {items : Array Value} {vl vu : Value} {lo hi : Option Int} {Q : Value → Shared → Prop} (hl : s.heap.IsList l items) (pl : IsPart vl lo) (pu : IsPart vu hi)
    (h : ∀ D h', (∀ b o, s.heap.get? b = some o → h'.get? b = some o) → h'.get? D = some { cls := .type "list", data := .seq (slicePick items lo hi none) } → s.heap.get? D = none → s.heap.objs.size ≤ h'.objs.size → Q (.ref D) { s with heap := h' })
    (hsz : items.size ≤ sizeLine)
    (hs : subscripted slice false (.ref l) (.ref s.heap.objs.size) = operate [.ref s.heap.objs.size, .ref l] (getItem (.ref l) (.ref s.heap.objs.size)) := by with_unfolding_all rfl)
    (ht : ∀ r, letTemporaryGo value (.ref l) r = pure () := by intro _; with_unfolding_all rfl) :
    wpAny (model prog w) A (subscriptTail value slice (.ref l) (.ref s.heap.objs.size)) Q E { s with heap := s.heap.push { cls := .type "slice", data := .fields #[vl, vu, .none] } } := by
  refine subscriptTail_ops (Heap.IsList.typeIs (s := { s with heap := s.heap.push { cls := .type "slice", data := .fields #[vl, vu, .none] } }) (hl.push _)) list_getitem_lookup
    (wpAny_getItem_list_slice (hl.push _) (Heap.IsSliceOf.new ..) pl pu .none (by simp) ?_ hsz) hs ht
  refine h _ _ (fun b o e => Heap.get?_push_of_some _ (Heap.get?_push_of_some _ e)) (Heap.get?_push_size _ rfl) ?_ ?_
  · refine Heap.get?_none_of_le ?_
    show s.heap.objs.size ≤ (s.heap.push _).objs.size
    rw [Heap.size_push]; exact Nat.le_succ _
  · rw [Heap.size_push, Heap.size_push]; omega
end
section
variable {w : World} {p : Program} {loose : List Str} {mean : ExcName → Option Value} {mg mb : Str → Option Value}
local macro_rules | `(tactic| walk_at "eval Lambda") => `(tactic| refine halt ?_)
theorem lamC_spec {p1 p2 p3 p4 p5 p6 p7 pD a1 a2 a3 a4 q1 q2 : Pos} {g B : Heap} {D U : Nat} {f cc pc rc pt rl c' P' : Addr} {fo : Obj} {name qual host : Str} {th tk0 : Tok} {pm ct : Value} {vs : List Value} {xs : List Str} {k : Nat}
    (X : (Mine.hd.heap_1 w.params).In g) (T : Top p loose mean mg mb g) (hC : CodeHd g c' P')
    (ho : g.get? f = some fo) (hd : fo.data = .func (kla_fn name qual lam0Par (lamCBody p1 p2 p3 p4 p5 p6 p7 pD a1 a2 a3 a4 q1 q2) lamCScope [(Str.ofString "replies", rc), (Str.ofString "peer", pc), (Str.ofString "count", cc)] pm (.ref c') ct)) (hcd : g.CodeRec (.ref c') qual)
    (hcc : g.IsCell cc (some (.int (k : Int) tk0))) (hpc : g.IsCell pc (some (.ref pt))) (hrc : g.IsCell rc (some (.ref rl))) (hpt : ∃ t u, g.IsTuple pt #[.str host t, .int 21 u]) (hrl : g.IsList rl vs.toArray) (hS : StrsAre vs xs) (hxl : xs.length ≤ 3) (hk3 : k ≤ 3)
    (hx : ∀ x ∈ xs, x.length ≤ 600 ∧ ∀ c ∈ cp x, c < 1114112) (hpt76 : pt ≠ 76) (hgP : g.get? P' = none) (hD : D + 12 < recursionLimit) (hU : U + 250 < cLine) :
    AskSpec Challenge.rw_oy0022_01.row.prog w f [P'] (fun h => TabOk h P' (tabD pD qual)) (okTold host (numAt (xs.take k) (xs.take k).length)) (firstBad (xs.take k)) g B D U := by
  rintro s A Q E outer hgs KB hInv hG hA hdp hun hQ hE
  obtain ⟨hnd, dp, fr, gd, un⟩ := A
  obtain rfl : hnd = none := hA
  dsimp only at hdp hun
  revert X; k_fill; intro X
  refine wpC_call ?_
  refine enterL (T.keeps hgs).nolimit (hgs _ _ ho) hd (hcd.keeps hgs) (by dsimp only; omega) (binds := []) (by rfl) (locs rfl) ?_ rfl rfl rfl (by decide)
  intro L h₁ F
  have hk1 : ∀ b o, g.get? b = some o → h₁.get? b = some o := fun b o e => F.keep _ _ (hgs _ _ e)
  have X1 := X.keeps hk1
  have T1 := T.keeps hk1
  have hP's : ∃ ps, s.heap.get? P' = some (tabObj ps) := let ⟨ps, e, _⟩ := hInv; ⟨ps, e⟩
  have hLP : L ≠ P' := fun q => by
    obtain ⟨ps, e⟩ := hP's
    exact absurd (Nat.lt_of_lt_of_le (Heap.lt_size e) F.above) (q ▸ Nat.lt_irrefl _)
  have htab1 : TabOk h₁ P' (tabD pD qual) := hInv.ext (fun o e => F.keep _ _ e) (fun b o _ _ e => F.keep _ _ e) (fun q hq c hc => by
    obtain rfl := List.mem_singleton.mp hq; trivial)
  refine wpC_Call_name ?_
  refine nm_global T1.g (mg_of X T.g (v := .ref 84) (by kernel_rfl)) ?_
  refine wpC_callWith_fnP ?_
  walk1
  refine make_lam (al := tabD pD qual) (qual := qual ++ ".<locals>." ++ "<lambda>") (X := fun _ _ => True) T1 (by rfl) (clos := []) (by rfl) rfl rfl (hC.keeps hk1) htab1 rfl (List.mem_singleton.mpr rfl) (fun q hq _ => List.mem_singleton.mp hq) (fun q hq c h h' _ _ _ => by obtain rfl := List.mem_singleton.mp hq; trivial) (fun _ _ _ _ _ _ => trivial) ?_
  intro f2 c2 pm2 ctv2 h2 tk2 hxb hf2 hsz2 ho2 hcr2 _ htab2
  dsimp only at hxb hf2 hsz2
  have hk2 : ∀ b o, b ≠ P' → s.heap.get? b = some o → h2.get? b = some o := fun b o hb e => hxb _ _ hb (F.keep _ _ e)
  have hgs2 : ∀ b o, g.get? b = some o → h2.get? b = some o := fun b o e => hk2 _ _ (fun q => by rw [q, hgP] at e; cases e) (hgs _ _ e)
  have hgg : ∀ b o, g.get? b = some o → (gh [P'] s.heap).get? b = some o := fun b o e => gh_get (hgs _ _ e) (fun hm => by rw [List.mem_singleton.mp hm, hgP] at e; cases e)
  have F2 : Fr (gh [P'] s.heap) L h2 _ := ⟨F.ns.at fun o e => hxb _ _ hLP e, fun b o e => hk2 _ _ (fun q => by rw [q, hideAll_none _ (List.mem_singleton.mpr rfl)] at e; cases e) (gh_sub _ _ e), Nat.le_trans (Nat.le_of_eq gh_size) F.above⟩
  have N2 : News (gh [P'] s.heap) L h2 [] := News.nil
  have hRL : (gh [P'] s.heap).IsList rl vs.toArray := hrl.at fun o e => hgg _ _ e
  clear F
  have hkk : ∀ b o, b ≠ P' → h₁.get? b = some o → h2.get? b = some o := fun b o hb e => hxb _ _ hb e
  walk1
  walk1
  refine nm_free (hrc.keeps hgs2) ?_ rfl
  walk1
  walk1
  walk1
  refine nm_free (hcc.keeps hgs2) ?_ rfl
  walk1
  have hvz : vs.length ≤ 3 := by rw [strsAre_length hS]; exact hxl
  refine slice_keep (hrl.at fun o e => hgs2 _ _ e) (by constructor) (by constructor) ?_ (by simp only [List.size_toArray]; exact Nat.le_trans hvz (by rw [sizeLine_eq]; decide))
  intro D h3 hk3' hD3 hDn hsz3
  have F3 := F2.keeps hk3'
  walk1
  refine nm_free (hpc.keeps fun b o e => hk3' _ _ (hgs2 _ _ e)) ?_ rfl
  walk1
  dsimp only at hk3' hDn hsz3
  have hgs3 : ∀ b o, g.get? b = some o → h3.get? b = some o := fun b o e => hk3' _ _ (hgs2 _ _ e)
  have X3 := X.keeps hgs3
  have T3 := T.keeps hgs3
  refine ⟨⟨_, _, _, _, X3 _ _ (by k_is)⟩, ?_⟩
  have hS3 : StrsAre (slicePick vs.toArray none (some (k : Int)) none).toList (xs.take k) := pick_upto hS k
  have hx3 : ∀ x ∈ xs.take k, x.length ≤ 600 ∧ ∀ c ∈ cp x, c < 1114112 := fun x hxm => hx x (List.mem_of_mem_take hxm)
  have KB3 := pushX KB F3 (env := envX qual lamCScope L f (.ref c') [(Str.ofString "replies", rc), (Str.ofString "peer", pc), (Str.ofString "count", cc)]) rfl rfl
  obtain ⟨pt1, pu1, hpt1⟩ := hpt
  have htab3 : TabOk h3 P' (tabD pD qual) := htab2.ext (fun o e => hk3' _ _ e) (fun b o _ _ e => hk3' _ _ e) (fun q hq c hc => by
    obtain rfl := List.mem_singleton.mp hq; trivial)
  have hs3 : ∀ b o, (gh [P'] s.heap).get? b = some o → h3.get? b = some o := F3.keep
  refine c_reduce (T := []) (fo := _) (fd := _) (n := (xs.take k).length) (Val := ValD (xs.take k) host) (P := fun i v => ∃ t, v = .str ((xs.take k).getD i (Str.ofString "")) t) (Inv := fun _ => True) (pb := fun b => firstBad (xs.take k) = some b) (B := B) (outer := _) X3 T3 (hk3' _ _ ho2) rfl trivial
    (fun _ _ b hb => nomatch hb) (fun _ _ _ _ => trivial) ?_ ?_ ?_ (ISpec_strs (vs := (slicePick vs.toArray none (some (k : Int)) none).toList) (by rw [Array.toArray_toList]; exact ⟨_, hD3, rfl, _, rfl⟩) hS3) (lamD_spec X3 T3 (hk3' _ _ ho2) rfl (hcr2.keeps fun b o e => hk3' _ _ e) hx3 (by dsimp only [Around.deeper]; omega) (by dsimp only [Around.deeper]; omega)) KB3 hG rfl (by dsimp only [Around.deeper]; omega) (by dsimp only [Around.deeper]; omega) ?_ ?_
  · rintro i v h h' ⟨a, D9, t9, u9, rfl, o9, b9, c9, n9, d9⟩ hk9
    exact ⟨a, D9, t9, u9, rfl, o9, hk9 _ _ _ _ d9 b9, c9, n9, d9⟩
  · intro A' s' Q' E' hk9 hq9
    obtain ⟨o9, b9, c9, n9, d9⟩ := hpt1
    have h76 : s'.heap.get? 76 = some _ := hk9 _ _ (X3 76 _ (by k_is))
    exact is_tup_other hpt76 (hk9 _ _ (hgs3 _ _ b9)) h76 (by intro q; exact absurd (Value.type.inj q) (by decide)) hq9
  · exact ⟨fun j hj => absurd hj (Nat.not_lt_zero _), pt, pt1, pu1, rfl, (let ⟨o, a, r⟩ := hpt1; ⟨o, hgs3 _ _ a, r⟩)⟩
  · intro v s' hv hos hG' hk9 _ hz
    obtain ⟨a, D9, t9, u9, rfl, hD9⟩ := hv
    refine hQ _ _ (firstBad_none a) ⟨D9, t9, u9, rfl, hD9⟩ hos hG' (fun b o e => hk9 _ _ (hs3 _ _ e)) (htab3.ext (fun o e => hk9 _ _ e) (fun b o _ _ e => hk9 _ _ e) (fun q hq c hc => by
      obtain rfl := List.mem_singleton.mp hq; trivial)) ?_
    exact Nat.le_trans (Nat.le_of_eq gh_size.symm) (Nat.le_trans F3.above (Nat.le_trans (Nat.le_of_lt F3.ns.lt) hz))
  · intro b e s' hb hbad hup hos hG'
    obtain ⟨ps3, hP3, htr3, hal3⟩ := id htab3
    obtain ⟨c9, oc9, vs9, t9, e9, hoc9, hd9, hv9⟩ := hcr2
    cases e9
    have hoc3 := hk3' _ _ hoc9
    have nf : ∀ a o, (∃ vs, o.data = .fields vs) → h3.get? a = some o → a ∉ (envX qual lamCScope L f (.ref c') [(Str.ofString "replies", rc), (Str.ofString "peer", pc), (Str.ofString "count", cc)] :: outer).filterMap (·.frame) := by
      rintro a o ⟨ws, hd9⟩ e9 hm
      obtain ⟨_, o', ho', hnd⟩ := KB3.frames.mem hm
      rw [e9] at ho'; cases ho'
      exact hnd _ hd9
    rcases hal3 _ (List.mem_singleton.mpr rfl) with hno | ⟨cD, hf9, hne9, ⟨c8, oc8, vs8, t8, e8, hoc8, hd8, hv8⟩, _⟩
    · refine leave_badN (news := [(P', tabObj ps3)]) KB F3 rfl hbad hup (fun q hq => ?_) fun h9 hb9 hu9 => ?_
      · obtain rfl := List.mem_singleton.mp hq
        exact ⟨hP3, nf _ _ ⟨_, rfl⟩ hP3, hideAll_none _ (List.mem_singleton.mpr rfl)⟩
      · refine hE _ _ _ _ hb hb9 hu9 (fun h' hn' _ => ⟨ps3, hn' _ (List.mem_singleton.mpr rfl), htr3, fun q hq => ?_⟩) hos hG'
        obtain rfl := List.mem_singleton.mp hq
        exact .inl hno
    · cases e8
      cases hold : (gh [P'] s.heap).get? cD with
      | none =>
        refine leave_badN (news := [(P', tabObj ps3), (cD, oc8)]) KB F3 rfl hbad hup (fun q hq => ?_) fun h9 hb9 hu9 => ?_
        · rcases List.mem_cons.mp hq with rfl | hq
          · exact ⟨hP3, nf _ _ ⟨_, rfl⟩ hP3, hideAll_none _ (List.mem_singleton.mpr rfl)⟩
          · obtain rfl := List.mem_singleton.mp hq
            exact ⟨hoc8, nf _ _ ⟨_, hd8⟩ hoc8, hold⟩
        · refine hE _ _ _ _ hb hb9 hu9 (fun h' hn' _ => ⟨ps3, hn' _ List.mem_cons_self, htr3, fun q hq => ?_⟩) hos hG'
          obtain rfl := List.mem_singleton.mp hq
          exact .inr ⟨cD, hf9, hne9, ⟨cD, oc8, vs8, t8, rfl, hn' _ (List.mem_cons_of_mem _ (List.mem_singleton.mpr rfl)), hd8, hv8⟩, trivial⟩
      | some oo =>
        have hoo := hs3 _ _ hold
        rw [hoc8] at hoo; cases hoo
        refine leave_badN (news := [(P', tabObj ps3)]) KB F3 rfl hbad hup (fun q hq => ?_) fun h9 hb9 hu9 => ?_
        · obtain rfl := List.mem_singleton.mp hq
          exact ⟨hP3, nf _ _ ⟨_, rfl⟩ hP3, hideAll_none _ (List.mem_singleton.mpr rfl)⟩
        · refine hE _ _ _ _ hb hb9 hu9 (fun h' hn' hk' => ⟨ps3, hn' _ List.mem_cons_self, htr3, fun q hq => ?_⟩) hos hG'
          obtain rfl := List.mem_singleton.mp hq
          refine .inr ⟨cD, hf9, hne9, ⟨cD, oc8, vs8, t8, rfl, hk' _ _ hold fun hm => ?_, hd8, hv8⟩, trivial⟩
          exact nf _ _ ⟨_, hd8⟩ hoc8 (by
            obtain ⟨en, hen, hfe⟩ := List.mem_filterMap.mp hm
            exact List.mem_filterMap.mpr ⟨en, List.mem_cons_of_mem _ hen, hfe⟩)
end
end Mine

end
section -- XS
theorem Mine.offXS : True ∧ True := by
  w_top off
  first | (walk1; all_goals trivial) | exact ⟨trivial, trivial⟩
namespace Mine
open PySem PySem.W PyProof.Rows PySem.Spec PySem.Calls
theorem bs_kind : builtinKind "BaseException.__str__" = some .slot := by kernel_rfl
theorem bs_split : splitId "BaseException.__str__" = some ("BaseException", "__str__") := by kernel_rfl
theorem bs_bind (self : Value) : bindSpecial (.builtin "BaseException.__str__") self = pure (.builtin "BaseException.__str__", [self]) := by
  have h1 : withoutEnding? "BaseException.__str__" "#opaque" = none := by kernel_rfl
  have h2 : withoutEnding? "BaseException.__str__" "#data" = none := by kernel_rfl
  simp only [bindSpecial, typeOf, builtinType, h1, h2, bs_kind]; rfl
theorem pk_str54 (w : World) (S : Setting) : peek (Mine.hd.heap_1 w.params) S (typeLookup (.ref 54) "__str__") = some (some (.builtin "BaseException.__str__")) := by kernel_rfl
theorem pk_str66 (w : World) (S : Setting) : peek (Mine.hd.heap_1 w.params) S (typeLookup (.ref 66) "__str__") = some (some (.builtin "BaseException.__str__")) := by kernel_rfl
theorem pk_sub54 (w : World) (S : Setting) : peek (Mine.hd.heap_1 w.params) S (isSubtype (.ref 54) (.type "BaseException")) = some true := by kernel_rfl
theorem pk_sub66 (w : World) (S : Setting) : peek (Mine.hd.heap_1 w.params) S (isSubtype (.ref 66) (.type "BaseException")) = some true := by kernel_rfl
def ExcOf (h : Heap) (e c t0 : Addr) : Prop := ∃ o vs, h.get? e = some o ∧ o.cls = .ref c ∧ o.data = .fields vs ∧ vs[0]? = some (.ref t0)
section
variable {prog : Program} {w : World} {A : Around} {E : Value → Shared → Prop} {s : Shared} {K : Frag} {c e t0 : Addr} {x : Str} {tx : Tok}
theorem bs_args {M : Model} {Q : Value × List Value → Shared → Prop} (he : ExcOf s.heap e c t0) (ht : s.heap.TupAt t0 [.str x tx]) (hq : Q (.ref t0, [.str x tx]) s) : wpAny M A (Builtin.BaseException.bexcArgs (.ref e)) Q E s := by
  obtain ⟨o, vs, ho, _, hd, h0⟩ := he
  obtain ⟨ot, k, hto, _, htd⟩ := ht
  unfold Builtin.BaseException.bexcArgs
  refine wpAny_bind (wpAny_field ho hd h0 (wpAny_bind (wpAny_seqItems hto htd ?_)))
  exact wpAny_pure hq
theorem bs_entry {Q : Fin → Shared → Prop} (he : ExcOf s.heap e c t0) (ht : s.heap.TupAt t0 [.str x tx]) (hq : Q (.done (.ret (.str x tx))) s) : wpAny (model prog w) A (Builtin.«BaseException.__str__» ⟨[.ref e], []⟩) Q E s := by
  unfold Builtin.«BaseException.__str__»
  repeat (first | with_reducible refine bs_args he ht ?_ | wp_step)
  exact hq
theorem exc_type {M : Model} (he : ExcOf s.heap e c t0) {Q : Value → Shared → Prop} (h : Q (.ref c) s) : wpAny M A (typeOf (.ref e)) Q E s := by
  obtain ⟨o, vs, ho, hc, _⟩ := he
  have : Looks M s.heap (typeOf (.ref e)) o.cls := (Looks.ld (part := none) ho).andThen .now
  rw [hc] at this
  exact this.here h
theorem call_bs {Q : Value → Shared → Prop} (X : K.In s.heap) (hsub : ∀ S, peek K S (isSubtype (.ref c) (.type "BaseException")) = some true) (he : ExcOf s.heap e c t0) (ht : s.heap.TupAt t0 [.str x tx]) (hq : Q (.str x tx) s) :
    wpAny (model prog w) A (call (.builtin "BaseException.__str__") [.ref e]) Q E s := by
  refine wpAny_call (codeAny_call_builtin_at (plainId_quiet (by decide +kernel) _) PySem.F.entry_bexc_str ?_)
  simp only [checkBuiltinCall, bs_kind, bs_split]
  refine wpAny_bind ?_
  unfold isInstance
  refine wpAny_bind (exc_type he ?_)
  refine (Looks.of_peek X (hsub _)).here ?_
  simp only [Bool.not_true, Bool.false_eq_true, if_false]
  have ha := PySem.F.args_bexc_str (.ref e)
  have fin : wpAny (model prog w) (A.under (.builtin "BaseException.__str__" ⟨[.ref e], []⟩)) (Builtin.«BaseException.__str__» ⟨[.ref e], []⟩)
      (fun fin s' => match fin with | .done f => (match (Except.ok f : Result) with | .ok (.ret v) => Q v s' | .ok _ => False | .error e => E e s') | .again c' => c'.quiet = true ∧ codeAny (model prog w) A c' (fun r s' => match r with | .ok (.ret v) => Q v s' | .ok _ => False | .error e => E e s') s')
      (fun e s' => E e s') s := bs_entry he ht hq
  cases hsig : Manifest.signature? "BaseException.__str__" with
  | none => exact wpAny_pure fin
  | some sig =>
    simp only [argsOk, hsig] at ha
    have h2 : Bind.checkArgs "BaseException.__str__" sig ⟨[.ref e], []⟩ = pure () := ha
    show wpAny _ _ (Bind.checkArgs "BaseException.__str__" sig ⟨[.ref e], []⟩) _ _ s
    rw [h2]; exact wpAny_pure fin
theorem strOf_own {Q : Value → Shared → Prop} (X : K.In s.heap) (hstr : ∀ S, peek K S (typeLookup (.ref c) "__str__") = some (some (.builtin "BaseException.__str__"))) (hsub : ∀ S, peek K S (isSubtype (.ref c) (.type "BaseException")) = some true) (he : ExcOf s.heap e c t0)
    (ht : s.heap.TupAt t0 [.str x tx]) (hu : A.units < cLine) (hq : Q (.str x tx) s) : wpAny (model prog w) A (Builtin.Str.strOf (.ref e)) Q E s := by
  unfold Builtin.Str.strOf
  have cs : ∀ (Q' : Option Value → Shared → Prop), Q' (some (.str x tx)) s → wpAny (model prog w) A (callSpecial? (.ref e) "__str__") Q' E s := by
    intro Q' hq'
    simp only [callSpecial?, specialOf]
    refine wpAny_bind (wpAny_bind (exc_type he ((Looks.of_peek X (hstr _)).here ?_)))
    simp only [bs_bind]
    refine wpAny_holding (wpAny_bind (wpAny_pure (wpAny_bind ?_)))
    exact wpAny_mono (call_bs X hsub he ht (Q := fun v s' => Q' (some v) s') hq') (fun v s' h' => wpAny_pure h') fun _ _ h' => h'
  repeat (first | with_reducible refine wpAny_cRoomFor hu ?_ | with_reducible refine cs _ ?_ | wp_step)
  exact hq
end
section
variable {w : World} {A : Around} {E : Value → Shared → Prop} {s : Shared} {c e t0 : Addr} {x : Str} {tx : Tok} {prog : Program} {K : Frag}
theorem str_own {Q : Value → Shared → Prop} (X : K.In s.heap) (hstr : ∀ S, peek K S (typeLookup (.ref c) "__str__") = some (some (.builtin "BaseException.__str__"))) (hsub : ∀ S, peek K S (isSubtype (.ref c) (.type "BaseException")) = some true) (he : ExcOf s.heap e c t0)
    (ht : s.heap.TupAt t0 [.str x tx]) (hu : A.units + 2 < cLine) (h : Q (.str x tx) s) : wpAny (model prog w) A (call (.type "str") [.ref e]) Q E s :=
  callType_new PySem.F.called_str (by decide) (PySem.F.typeCall_str_1 _) (PySem.F.newCall_str_1 _) (fun obj => PySem.F.args_object_init_2 obj _) PySem.F.entry_str_new
    (meets_str_new (S := fun A' R s' => A'.units + 1 < cLine ∧ K.In s'.heap ∧ ExcOf s'.heap e c t0 ∧ s'.heap.TupAt t0 [.str x tx] ∧ R (.ok (.ret (.str x tx))) s')
      fun _ _ A' _ _ hq => strOf_own (A := A'.in1) hq.2.1 hstr hsub hq.2.2.1 hq.2.2.2.1 hq.1 hq.2.2.2.2)
    ⟨(show A.units + 1 + 1 < cLine from hu), X, he, ht, typeIs_str _ _ _, h⟩
end
end Mine

end
section -- OC
theorem Mine.offOC : True ∧ True := by
  w_top off
  first | (walk1; all_goals trivial) | exact ⟨trivial, trivial⟩
namespace Mine
open PySem PySem.W PyProof.Rows PySem.Spec PySem.Calls
section
variable {prog : Program} {w : World} {A : Around} {s : Shared} {K : Frag} {p : Program} {loose : List Str} {mean : ExcName → Option Value} {mg mb : Str → Option Value}
/-- enterPC2, and nothing is made but the frame -/
theorem enterPC3 {R : Result → Shared → Prop} {name qual : Str} {params : Arguments} {body : List Stmt} {scope : Scope} {dV kV doc pm cdv ct oc : Value} {an od : Option Addr} {osl : Array (Option Value)} {f : Addr} {args : Args} (binds : List (Str × Value))
    (X : K.In s.heap) (T : Top p loose mean mg mb s.heap)
    (ho : K.lookup f = some ⟨oc, od, .func (fnOf name qual params body scope dV kV doc pm an cdv ct), osl⟩) (hcd : codeIn K cdv qual = true) (hroom : A.depth < recursionLimit)
    (hbind : BindsTo s (fnOf name qual params body scope dV kV doc pm an cdv ct) args binds) (hloc : ∀ y ∈ binds, scope.names.lookup y.1 = some .local)
    (h : ∀ L h₁, Fr s.heap L h₁ (fun y => binds.reverse.lookup y) → News s.heap L h₁ [] → (∀ b o, h₁.get? b = some o → b ≠ L → s.heap.get? b = some o) →
      wpC (model prog w) (A.deeper (envOf qual scope L f cdv)) (execs body (envOf qual scope L f cdv))
        (fun fl s' => R (.ok (.ret (match fl with | .ret v => v | _ => .none))) s')
        (fun e s' => wpAny (model prog w) (A.deeper (envOf qual scope L f cdv)) (leaving (envOf qual scope L f cdv) e) (fun _ s'' => R (.error e) s'') (fun e' s'' => R (.error e') s'') s')
        { s with heap := h₁, toks := s.toks + binds.length })
    (hco : scope.isCoroutine = false) (hgen : scope.isGenerator = false) (hk : scope.kind = .function)
    (hcell : ∀ x ∈ scope.names, x.2 ≠ .cell) : codeC (model prog w) A (.call (.ref f) args) R s := by
  refine codeC_call_function hroom (X _ _ ho) rfl hco hgen rfl (codeRec_of X hcd) ?_
  refine hbind _ _ _ _ ?_
  refine wpAny_newFunctionEnv hcell hloc (fun h₁ hns hsb => ⟨T.nolimit.fresh _ hsb, ?_⟩) hk
  show codeC _ _ (.func body (envOf qual scope s.heap.objs.size f cdv)) _ _
  refine codeC_func (h s.heap.objs.size h₁ ⟨hns, fun b o e => hsb.extBut b o (Nat.ne_of_lt (Heap.lt_size e)) (Heap.get?_push_of_some _ e), Nat.le_refl _⟩ News.nil fun b o e hb => ?_)
  rw [hsb.2 b hb] at e
  rcases Heap.get?_push_cases e with ⟨e, _⟩ | e
  · exact absurd e hb
  · exact e
end
def outOf : Option Bad → Int → Out
  | some (.reply _), _ => .reply
  | some (.proto _), _ => .proto
  | some .value, _ => .value
  | none, n => .told n
def badText : Option Bad → Str
  | some (.reply x) => x
  | some (.proto x) => x
  | _ => Str.ofString ""
def ocScope : Scope := { kind := .function, names := [(Str.ofString "ask", .local), (Str.ofString "told", .local), (Str.ofString "refusal", .local), (Str.ofString "error_reply", .globalImplicit), (Str.ofString "str", .globalImplicit), (Str.ofString "error_proto", .globalImplicit), (Str.ofString "ValueError", .globalImplicit)], isGenerator := false, isCoroutine := false, more := [] }
theorem sub_tup1 {prog : Program} {w : World} {A : Around} {E : Value → Shared → Prop} {s : Shared} {D : Addr} {a b : Value} {value slice : Expr} {u : Tok} {Q : Value → Shared → Prop} (ht : s.heap.IsTuple D #[a, b]) (h : Q b s)
    (hs : subscripted slice false (.ref D) (.int 1 u) = operate [.ref D, .int 1 u] (getItem (.ref D) (.int 1 u)) := by with_unfolding_all rfl) :
    wpAny (model prog w) A (subscriptTail value slice (.ref D) (.int 1 u)) Q E s :=
  tail_any (IsTup.typeIs ht) slot_tuple_getitem.lookup (PyProof.Rows.getItem_tuple ht (by decide) (by decide) (j := 1) rfl rfl h) hs
section
local macro_rules | `(tactic| walk_at "subscriptTail Name Constant ref int") => `(tactic| refine halt ?_)
local macro_rules | `(tactic| walk_at "call type:str") => `(tactic| refine halt ?_)
variable {w : World} {A : Around} {s : Shared} {E : Value → Shared → Prop} {Q : Value → Shared → Prop} {p : Program} {loose : List Str} {mean : ExcName → Option Value} {mg mb : Str → Option Value}
theorem c_outcome {f : Addr} {T : List Addr} {Inv : Heap → Prop} {ok : Value → Heap → Prop} {okN : Int → Prop} {bd : Option Bad} {g B : Heap} {D U : Nat} {host : Str} {outer : List Env}
    (X : (Mine.hd.heap_1 w.params).In (gh T s.heap)) (Tp : Top p loose mean mg mb (gh T s.heap)) (XB : (Mine.hd.heap_1 w.params).In B) (TB : Top p loose mean mg mb B)
    (hgs : ∀ b o, g.get? b = some o → s.heap.get? b = some o) (hf : FnAt f s.heap) (KB : Below A B outer (gh T s.heap)) (hD : KtsDicts (outer.filterMap (·.frame)) (gh T s.heap)) (hask : AskSpec Challenge.rw_oy0022_01.row.prog w f T Inv ok bd g B D U)
    (hInv : Inv s.heap) (hInvK : ∀ h h', (∀ b o, h.get? b = some o → (∀ es n, o.data ≠ .dict es n) → h'.get? b = some o) → Inv h → Inv h')
    (hok : ∀ v h, ok v h → ∃ n, okN n ∧ okTold host n v h) (hokN : ∀ n, okN n → -(10 ^ 500 : Int) < n ∧ n < 10 ^ 500) (hT : ∀ b ∈ T, b < s.heap.objs.size)
    (hG : AllBare s.gens) (hA : A.handled = none) (hdp : A.depth + 1 ≤ D) (hun : A.units + 10 ≤ U) (hDl : D + 10 < recursionLimit) (hUl : U + 100 < cLine)
    (h : ∀ v s' g' n, OutAt s'.heap (badText bd) host v (outOf bd n) → (bd = none → okN n) → s'.os = s.os → AllBare s'.gens → KtsTurn (outer.filterMap (·.frame)) (gh T s.heap) g' → (∀ b o, g'.get? b = some o → s'.heap.get? b = some o) → Inv s'.heap → s.heap.objs.size ≤ s'.heap.objs.size → Q v s') :
    wpC (model Challenge.rw_oy0022_01.row.prog w) A (call (.ref 142) [.ref f]) Q E s := by
  obtain ⟨hnd, dp, fr, gd, un⟩ := A
  obtain rfl : hnd = none := hA
  dsimp only at hdp hun
  have X0 := X.keeps gh_sub
  revert X; k_fill; intro X
  refine wpC_call ?_
  k_dflt (refine' enterPC3 [(Str.ofString "ask", .ref f)] X0 (Tp.keeps gh_sub) ?k6 ?k7 ?k8 ?k9 ?kB ?_ ?c2 ?c3 ?c4 ?c5; (case k6 => k_is); (case k7 => k_is); (case k8 => (dsimp only; omega)); (case k9 => exact BindsTo.of_eq rfl); (case kB => exact locs rfl); (case c2 => exact rfl); (case c3 => exact rfl); (case c4 => exact rfl); (case c5 => decide))
  intro L h₁ F₀ N₀ hback
  (try dsimp only)
  (try k_fold)
  have F : Fr (gh T s.heap) L h₁ _ := ⟨F₀.ns, fun b o e => F₀.keep _ _ (gh_sub _ _ e), Nat.le_trans (Nat.le_of_eq gh_size) F₀.above⟩
  have N : News (gh T s.heap) L h₁ [] := News.nil
  refine wpC_execs_cons (wpC_Try_except ?_)
  refine wpC_execs_cons (wpC_Assign_Name ?_)
  refine wpC_Call_name ?_
  walk1
  have hk1 : ∀ b o, s.heap.get? b = some o → h₁.get? b = some o := F₀.keep
  refine wpC_callWith_fn0 ⟨(let ⟨a, b, c, d, e⟩ := hf; ⟨a, b, c, d, hk1 _ _ e⟩), ?_⟩
  have hLT : L ∉ T := fun hm => absurd (Nat.lt_of_lt_of_le (hT _ hm) F₀.above) (Nat.lt_irrefl _)
  have F1 : Fr (gh T s.heap) L (gh T h₁) _ := ⟨F.ns.at fun o e => gh_get e hLT, fun b o e => gh_get (F.keep _ _ e) (fun hm => by rw [hideAll_none _ hm] at e; cases e), Nat.le_trans (Nat.le_of_eq gh_size) F₀.above⟩
  have KB1 := pushX KB F1 (env := envOf (Str.ofString "_law_outcome") ocScope L 142 (.ref 141)) rfl rfl
  refine hask _ _ _ _ _ (fun b o e => hk1 _ _ (hgs _ _ e)) KB1 (hInvK _ _ (fun b o e _ => hk1 b o e) hInv) hG rfl (by dsimp only [Around.deeper]; omega) (by dsimp only [Around.deeper]; omega) ?_ ?_
  · intro v s' hbd hv hos hGs hk hInv' hz
    obtain ⟨n, hn, D2, t2, u2, rfl, ht2⟩ := hok _ _ hv
    have hF2k : ∀ b o, (gh T s.heap).get? b = some o → s'.heap.get? b = some o := fun b o e => hk _ _ (F1.keep _ _ e)
    have F2 : Fr (gh T s.heap) L s'.heap _ := ⟨F1.ns.at fun o e => hk _ _ e, hF2k, F1.above⟩
    obtain ⟨hp2, gs2, dr2, tk2, os2⟩ := s'
    dsimp only at *
    refine st_same F2 rfl rfl fun h3 F3 S3 => ?_
    have N3 : News (gh T s.heap) L h3 [] := News.nil
    obtain ⟨oL, es, ep, hoL, hdL, _⟩ := F2.ns
    have hDL : D2 ≠ L := fun q => by
      obtain ⟨o, ho, _, k, hd⟩ := ht2
      rw [q, hoL] at ho; cases ho
      rw [hdL] at hd; cases hd
    have ht3 : h3.IsTuple D2 _ := ht2.at fun o e => (S3.2 _ hDL).trans e
    have hinv3 : Inv h3 := hInvK _ _ (fun b o e hd => (S3.2 _ (fun q => by subst q; rw [hoL] at e; cases e; exact hd _ _ hdL)).trans e) hInv'
    dsimp only
    refine ofAny ?_
    k_steps
    refine wpC_execs_cons (ofAny ?_)
    k_steps
    refine Halt.go ?_
    refine sub_tup1 (ht3.at fun o e => by assumption) ?_
    k_steps
    refine Halt.go ?_
    have hnb := hokN n hn
    refine PySem.P.str_of_int (shown_abs (N := 10 ^ 500) (by split <;> omega) (by decide +kernel)) ?_
    walk1
    refine wpAny_newTuple ?_
    refine h _ _ (gh T s.heap) n ?_ (fun _ => hn) hos hGs KtsTurn.refl (fun b o e => Heap.get?_push_of_some _ (F3.keep _ _ e)) (hInvK _ _ (fun b o e _ => Heap.get?_push_of_some _ e) hinv3) ?_
    · rw [hbd]
      exact ⟨_, _, _, _, _, _, rfl, ⟨_, Heap.get?_push_size _ rfl, rfl, _, rfl⟩, ht3.at fun o e => Heap.get?_push_of_some _ e⟩
    · obtain ⟨oL3, _, _, hoL3, _⟩ := F3.ns
      refine Nat.le_trans (Nat.le_of_eq gh_size.symm) (Nat.le_trans F3.above (Nat.le_trans (Nat.le_of_lt (Heap.lt_size hoL3)) ?_))
      exact Nat.le_trans (Nat.le_succ _) (Nat.le_of_eq (Heap.size_push ..).symm)
  · intro b e s' news hbd hat hup hinv hos hGs
    have hfin : ∀ (g' h' : Heap) (m : Str → Option Value) , KtsTurn (outer.filterMap (·.frame)) (gh T s.heap) g' → Fr g' L h' m → News g' L h' news → Inv h' := fun g' h' m T' F' N' => by
      refine hinv h' (fun q hq => (N' q hq).1) fun a o e hm => ?_
      have ha : a ≠ L := fun q => hm (List.mem_filterMap.mpr ⟨_, List.mem_cons_self, by subst q; rfl⟩)
      refine F'.keep _ _ (T'.other _ _ ?_ fun hq => hm (by
        obtain ⟨en, hen, hfe⟩ := List.mem_filterMap.mp hq
        exact List.mem_filterMap.mpr ⟨en, List.mem_cons_of_mem _ hen, hfe⟩))
      exact gh_get (hback _ _ (gh_sub _ _ e) ha) fun hT => by rw [hideAll_none _ hT] at e; cases e
    cases b with
    | reply x =>
      obtain ⟨t, u, R⟩ := hat
      refine kts_lookS (name := Str.ofString "_law_outcome") (scope := ocScope) (L := L) (a := 142) (cd := .ref 141) R F1 KB hup hD fun h4 R4 hup4 => ?_
      refine hit_SB R4 F1 KB hup4 XB TB hD KtsTurn.refl (test_name (c := .ref 54) (.inl (by kernel_rfl)) (by kernel_rfl) rfl rfl (by decide)) ?_
      intro h5 g5 news5 tk5 T5 F5 N5 hgot Nn5 KB5 X5 Tp5 D5
      k_steps
      refine Halt.go ?_
      obtain ⟨oe, ot, ws, nt, he1, ht1, hc1, hd1, h01, htc, htd⟩ := hgot
      refine str_own (c := 54) (t0 := t) (x := x) (tx := u) (X5.keeps F5.keep) (fun S => pk_str54 w S) (fun S => pk_sub54 w S) ⟨oe, ws, (N5 _ he1).1, hc1, hd1, h01⟩ ⟨ot, nt, (N5 _ ht1).1, htc, htd⟩ (by dsimp only [Around.deeper, Around.mark]; omega) ?_
      k_steps
      obtain rfl := hbd
      rename Fr g5 _ _ _ => F9
      rename News g5 _ _ _ => N9
      have N9' : News g5 L _ news := fun q hq => N9 q (List.mem_cons_of_mem _ hq)
      exact h _ _ g5 0 ⟨_, _, _, rfl, N9.isTup (by k_mem)⟩ (fun q => nomatch q) hos hGs T5 F9.keep (hfin _ _ _ T5 F9 N9') (by
        have z1 := T5.size.trans gh_size
        obtain ⟨oL, _, _, hoL, _⟩ := F9.ns
        exact Nat.le_trans (Nat.le_of_eq z1.symm) (Nat.le_trans F9.above (Nat.le_of_lt (Heap.lt_size hoL))))
    | proto x =>
      obtain ⟨t, u, R⟩ := hat
      refine kts_lookS (name := Str.ofString "_law_outcome") (scope := ocScope) (L := L) (a := 142) (cd := .ref 141) R F1 KB hup hD fun h4 R4 hup4 => ?_
      refine pass_S R4 F1 KB hup4 XB TB hD (test_name (c := .ref 54) (.inl (by kernel_rfl)) (by kernel_rfl) rfl rfl (by decide)) fun h4 R4 hup4 => ?_
      refine hit_SB R4 F1 KB hup4 XB TB hD KtsTurn.refl (test_name (c := .ref 66) (.inl (by kernel_rfl)) (by kernel_rfl) rfl rfl (by decide)) ?_
      intro h5 g5 news5 tk5 T5 F5 N5 hgot Nn5 KB5 X5 Tp5 D5
      k_steps
      refine Halt.go ?_
      obtain ⟨oe, ot, ws, nt, he1, ht1, hc1, hd1, h01, htc, htd⟩ := hgot
      refine str_own (c := 66) (t0 := t) (x := x) (tx := u) (X5.keeps F5.keep) (fun S => pk_str66 w S) (fun S => pk_sub66 w S) ⟨oe, ws, (N5 _ he1).1, hc1, hd1, h01⟩ ⟨ot, nt, (N5 _ ht1).1, htc, htd⟩ (by dsimp only [Around.deeper, Around.mark]; omega) ?_
      k_steps
      obtain rfl := hbd
      rename Fr g5 _ _ _ => F9
      rename News g5 _ _ _ => N9
      have N9' : News g5 L _ news := fun q hq => N9 q (List.mem_cons_of_mem _ hq)
      exact h _ _ g5 0 ⟨_, _, _, rfl, N9.isTup (by k_mem)⟩ (fun q => nomatch q) hos hGs T5 F9.keep (hfin _ _ _ T5 F9 N9') (by
        have z1 := T5.size.trans gh_size
        obtain ⟨oL, _, _, hoL, _⟩ := F9.ns
        exact Nat.le_trans (Nat.le_of_eq z1.symm) (Nat.le_trans F9.above (Nat.le_of_lt (Heap.lt_size hoL))))
    | value =>
      have R := hat
      refine kts_lookSN (name := Str.ofString "_law_outcome") (scope := ocScope) (L := L) (a := 142) (cd := .ref 141) R F1 KB hup hD fun h4 R4 hup4 => ?_
      refine pass_SN R4 F1 KB hup4 XB TB hD (test_name (c := .ref 54) (.inl (by kernel_rfl)) (by kernel_rfl) rfl rfl (by decide)) fun h4 R4 hup4 => ?_
      refine pass_SN R4 F1 KB hup4 XB TB hD (test_name (c := .ref 66) (.inl (by kernel_rfl)) (by kernel_rfl) rfl rfl (by decide)) fun h4 R4 hup4 => ?_
      refine hit_SN0 R4 F1 KB hup4 XB TB hD KtsTurn.refl (test_name (c := .type "ValueError") (.inr ⟨by kernel_rfl, by kernel_rfl, by decide⟩) (by kernel_rfl) rfl rfl (by decide)) ?_
      intro h5 g5 T5 F5 Nn5 KB5 X5 Tp5 D5
      k_steps
      obtain rfl := hbd
      rename Fr g5 _ _ _ => F9
      rename News g5 _ _ _ => N9
      have N9' : News g5 L _ news := fun q hq => N9 q (List.mem_cons_of_mem _ hq)
      exact h _ _ g5 0 ⟨_, _, _, rfl, N9.isTup (by k_mem)⟩ (fun q => nomatch q) hos hGs T5 F9.keep (hfin _ _ _ T5 F9 N9') (by
        have z1 := T5.size.trans gh_size
        obtain ⟨oL, _, _, hoL, _⟩ := F9.ns
        exact Nat.le_trans (Nat.le_of_eq z1.symm) (Nat.le_trans F9.above (Nat.le_of_lt (Heap.lt_size hoL))))
end
end Mine

end
section -- LW0
theorem Mine.offLW0 : True ∧ True := by
  w_top off
  first | (walk1; all_goals trivial) | exact ⟨trivial, trivial⟩
namespace Mine
open PySem PySem.W PyProof.Rows PySem.Spec PySem.Calls
section
variable {prog : Program} {w : World} {A : Around} {s : Shared} {K : Frag} {p : Program} {loose : List Str} {mean : ExcName → Option Value} {mg mb : Str → Option Value}
/-- a def with cells is entered, where the claim's caller is on the stack -/
theorem enterCC {R : Result → Shared → Prop} {name qual : Str} {params : Arguments} {body : List Stmt} {scope : Scope} {dV kV doc pm cdv ct oc : Value} {an od : Option Addr} {osl : Array (Option Value)} {f : Addr} {args : Args} (binds : List (Str × Value))
    (X : K.In s.heap) (T : Top p loose mean mg mb s.heap)
    (ho : K.lookup f = some ⟨oc, od, .func (fnOf name qual params body scope dV kV doc pm an cdv ct), osl⟩) (hcd : codeIn K cdv qual = true) (hroom : A.depth < recursionLimit)
    (hbind : BindsTo s (fnOf name qual params body scope dV kV doc pm an cdv ct) args binds) (hkind : (binds.all fun y => scope.names.lookup y.1 == some .local || scope.names.lookup y.1 == some .cell) = true)
    (h : ∀ L h₁ tk, Fr s.heap L h₁ (bindL (envOfC qual scope L f cdv).kindOf binds fun _ => none) → Cl L (cellsFrom (L + 1) scope.names []) h₁ (bindC (envOfC qual scope L f cdv).kindOf binds fun _ => none) →
      wpC (model prog w) (A.deeper (envOfC qual scope L f cdv)) (execs body (envOfC qual scope L f cdv))
        (fun fl s' => R (.ok (.ret (match fl with | .ret v => v | _ => .none))) s')
        (fun e s' => wpAny (model prog w) (A.deeper (envOfC qual scope L f cdv)) (leaving (envOfC qual scope L f cdv) e) (fun _ s'' => R (.error e) s'') (fun e' s'' => R (.error e') s'') s')
        { s with heap := h₁, toks := tk })
    (hco : scope.isCoroutine = false) (hgen : scope.isGenerator = false) (hk : scope.kind = .function) : codeC (model prog w) A (.call (.ref f) args) R s := by
  refine codeC_call_function hroom (X _ _ ho) rfl hco hgen rfl (codeRec_of X hcd) (hbind _ _ _ _ ?_)
  refine wpAny_newFunctionEnv_cells hk (kindsX hkind _) fun env' he s' x => ?_
  subst he
  refine ⟨T.nolimit.keeps x.toInCall.keep, codeC_func ?_⟩
  obtain ⟨h₁, tk, rfl, _⟩ := x.done
  have hk₁ := x.toInCall.keep
  exact h s.heap.objs.size h₁ tk ⟨x.toInCall.ns, fun b o e => hk₁ b o e, Nat.le_refl _⟩ ⟨x.cell, x.apart, x.above⟩
end
section
variable {M : Model} {A : Around} {E : Value → Shared → Prop} {s : Shared} {env : Env} {g : Heap} {L : Addr} {m cm mg mb : Str → Option Value} {x : Str} {v : Value} {pos : Pos} {cs : List (Str × Addr)} {c : Addr}
theorem q_local {Q : Value → Shared → Prop} (F : Fr g env.locals s.heap m) (hv : m x = some v) (h : Q v s)
    (hk : env.scope.kind = .function := by rfl) (hl : env.kindOf x = some .local := by rfl) (hd : (x == ("__debug__" : Str)) = false := by decide) :
    wpAny M A (eval (.Name x pos) env) Q E s := wpAny_Name (wpAny_loadName_local hk hl F.ns hv h) hd
theorem q_cell {Q : Value → Shared → Prop} (C : Cl L cs s.heap cm) (hc : cs.lookup x = some c) (hv : cm x = some v) (h : Q v s) (he : env.cells.lookup x = some c := by rfl)
    (hk : env.scope.kind = .function := by rfl) (hl : env.kindOf x = some .cell := by rfl) (hd : (x == ("__debug__" : Str)) = false := by decide) :
    wpAny M A (eval (.Name x pos) env) Q E s := wpAny_Name (wpAny_loadName_cell hk hl he (hv ▸ C.cell x c hc) h) hd
theorem q_global {Q : Value → Shared → Prop} (hg : s.heap.Ns env.globals mg) (hv : mg x = some v) (h : Q v s)
    (hk : env.scope.kind = .function := by rfl) (hx : env.kindOf x = some .globalImplicit := by rfl) (hd : (x == ("__debug__" : Str)) = false := by decide) :
    wpAny M A (eval (.Name x pos) env) Q E s := Name_function_global hk hx (loadGlobal_global hg hv h) hd
theorem q_builtin {Q : Value → Shared → Prop} (hg : s.heap.Ns env.globals mg) (hm : mg x = none) (hb : s.heap.Ns env.builtins mb) (hv : mb x = some v) (h : Q v s)
    (hk : env.scope.kind = .function := by rfl) (hx : env.kindOf x = some .globalImplicit := by rfl) (hd : (x == ("__debug__" : Str)) = false := by decide) :
    wpAny M A (eval (.Name x pos) env) Q E s := Name_function_global hk hx (loadGlobal_builtin hg hm hb hv h) hd
theorem q_stC {Q : Unit → Shared → Prop} (F : Fr g L s.heap m) (C : Cl L cs s.heap cm) (hc : cs.lookup x = some c)
    (h : ∀ h', Fr g L h' m → Cl L cs h' (fun y => if y = x then some v else cm y) → Heap.SameBut c s.heap h' → s.heap.IsCell c (cm x) → Q () { s with heap := h' }) (he : env.cells.lookup x = some c := by rfl)
    (hk : env.scope.kind = .function := by rfl) (hl : env.kindOf x = some .cell := by rfl) :
    wpAny M A (storeName env x v) Q E s := by
  have hLc : L < c := C.above x c (mem_of_lookup hc)
  refine wpAny_storeName_cell hk hl he (C.cell x c hc) fun h' hv hs => h h' ⟨F.ns.sameBut hs (Nat.ne_of_lt hLc), fun b o e => (hs.2 b (Nat.ne_of_lt (Nat.lt_trans (Nat.lt_of_lt_of_le (Heap.lt_size e) F.above) hLc))).trans (F.keep b o e), F.above⟩
    ⟨fun n c' e => ?_, C.apart, C.above⟩ hs (C.cell x c hc)
  by_cases hn : n = x
  · subst hn; rw [hc] at e; cases e; simpa using hv
  · have hcc : c' ≠ c := fun q => hn (name_of_addr C.apart (mem_of_lookup e) (q ▸ mem_of_lookup hc))
    simpa [hn] using (C.cell n c' e).sameBut hs hcc
end
section
variable {M : Model} {A : Around} {E : Value → Shared → Prop} {s : Shared} {env : Env} {g : Heap} {K : Frag} {p : Program} {loose : List Str} {mean : ExcName → Option Value} {mg mb : Str → Option Value} {x : Str} {v : Value} {pos : Pos}
theorem q_glob {Q : Value → Shared → Prop} (k : ∀ b o, g.get? b = some o → s.heap.get? b = some o) (X : K.In g) (T : Top p loose mean mg mb g) (e : nsIn K mainGlobals x = some (some v)) (h : Q v s) (hg : env.globals = mainGlobals := by rfl)
    (hk : env.scope.kind = .function := by rfl) (hx : env.kindOf x = some .globalImplicit := by rfl) (hd : (x == ("__debug__" : Str)) = false := by decide) : wpAny M A (eval (.Name x pos) env) Q E s :=
  q_global (hg ▸ T.g.keeps k) (mg_of X T.g e) h hk hx hd
theorem q_blt {Q : Value → Shared → Prop} (k : ∀ b o, g.get? b = some o → s.heap.get? b = some o) (X : K.In g) (T : Top p loose mean mg mb g) (e : nsIn K mainGlobals x = some none) (hv : bootBuiltins x = some v) (hn : x ≠ "__name__") (h : Q v s) (hg : env.globals = mainGlobals := by rfl) (hb : env.builtins = builtinsNs := by rfl)
    (hk : env.scope.kind = .function := by rfl) (hx : env.kindOf x = some .globalImplicit := by rfl) (hd : (x == ("__debug__" : Str)) = false := by decide) : wpAny M A (eval (.Name x pos) env) Q E s :=
  q_builtin (hg ▸ T.g.keeps k) (mg_none_of X T.g e) (hb ▸ T.b.keeps k) ((T.builtins x hn).trans hv) h hk hx hd
end
section
variable {M : Model} {A : Around} {E : Value → Shared → Prop} {s : Shared} {env : Env}
theorem wpC_BinOp {l r : Expr} {op : Operator} {pos : Pos} {Q : Value → Shared → Prop}
    (h : wpAny M A (eval l env) (fun a s₁ => wpC M A (eval r env) (fun b s₂ => wpAny M A (binaryOp op a b) Q E s₂) E s₁) E s) : wpC M A (eval (.BinOp l op r pos) env) Q E s := fun Γ p hΓ hC => by
  simp only [eval_BinOp, Sem.wp_bind', Sem.wp_holding, Sem.wp_cmd_standAt, Sem.wp_operate]
  exact Sem.wp_mono M Γ _ (fun a p₁ s₁ h₁ => Sem.wp_mono M Γ _ (fun b p₂ s₂ h₂ => h₂ Γ _ hΓ) (fun _ _ _ h' => h') _ _ (h₁ Γ p₁ hΓ hC))
    (fun _ _ _ h' => h') _ _ (h Γ p hΓ)
end
theorem fr_up {g h h' : Heap} {L : Addr} {m : Str → Option Value} (F : Fr g L h m) (k : ∀ b o, h.get? b = some o → h'.get? b = some o) : Fr g L h' m := ⟨F.ns.at fun o e => k _ _ e, fun b o e => k _ _ (F.keep _ _ e), F.above⟩
end Mine

end
section -- LE
theorem Mine.offLE : True ∧ True := by
  w_top off
  first | (walk1; all_goals trivial) | exact ⟨trivial, trivial⟩
namespace Mine
open PySem PySem.W PyProof.Rows PySem.Spec PySem.Calls
section
variable {prog : Program} {w : World} {A : Around} {E : Value → Shared → Prop} {s : Shared} {env : Env}
/-- a list comprehension over enumerate of a list -/
theorem lc_enum {elt iter : Expr} {x x₂ : Str} {px px₂ tp : Pos} {tk : Nat} {scope : Scope} {cl : List (Str × Addr)} {pos : Pos} {Q : Value → Shared → Prop} (V : Value → Prop) (hh : A.handled = none)
    (hclos : closureFor scope env = pure cl) (hcell : ∀ y ∈ scope.names, y.2 ≠ .cell) (hkind : scope.kind = .function)
    (hnames : ∀ y ∈ scope.names, y.2 = .local → scope.names.lookup y.1 = some .local) (hx : scope.names.lookup x = some .local) (hx₂ : scope.names.lookup x₂ = some .local) (hxx : x ≠ x₂)
    (h : wpAny (model prog w) A (eval iter env) (fun xv s₁ => ∃ (e it l : Addr) (items : Array Value), xv = .ref e ∧ e ≠ it ∧ l ≠ e ∧ l ≠ it ∧ items.size ≤ sizeLine ∧ IsEnum s₁.heap e it 0 .none ∧ s₁.heap.IsListIter it l 0 ∧ s₁.heap.IsList l items ∧
      (∀ C (i : Nat) v s₃ m₃ (E' : Value → Shared → Prop), s₁.heap.objs.size < C → items[i]? = some v → s₃.heap.Ns C m₃ → (∃ t, m₃ x = some (.int (i : Int) t)) → m₃ x₂ = some v → (∀ b o, b ∉ [e, it] → s₁.heap.get? b = some o → s₃.heap.get? b = some o) →
        wpAny (model prog w) A (eval elt (compEnvC scope cl C env)) (fun y s₄ => V y ∧ Keeps s₃ s₄) E' s₃) ∧
      (∀ D h' tk ys, s₁.heap.get? D = none → h'.PlainList D ys → ys.size = items.size → (∀ y ∈ ys.toList, V y) → (∀ b o, b ∉ [e, it] → s₁.heap.get? b = some o → h'.get? b = some o) → s₁.heap.objs.size ≤ h'.objs.size → Q (.ref D) { s₁ with heap := h', toks := tk })) E s)
    (hs : ∀ x, foldedSetIterable iter env x = pure x := by intro _; rfl) :
    wpAny (model prog w) A (eval (.ListComp elt [⟨.Tuple [.Name x px, .Name x₂ px₂] tk tp, iter, [], 0⟩] scope pos) env) Q E s := by
  rw [eval_ListComp]
  refine wpAny_comprehension_free (use := none) rfl hs hclos hkind hnames (wpAny_mono h (fun xv s₁ h₁ => ?_) fun _ _ e => e)
  obtain ⟨e, it, l, items, rfl, hei, hle, hli, hsz, hE0, hI0, hL0, helt, hfin⟩ := h₁
  refine wpAny_pyIter_enum hE0 ?_
  have W := WalksT.enumerate (prog := prog) (w := w) hh e it l hei hle hli items
  refine wpAny_newObj_type (wpAny_newFunctionEnv hcell (by intro y hy; simp at hy) (fun h₁ hns₁ hsb₁ => ?_) hkind)
  dsimp only at hns₁ hsb₁ ⊢
  generalize hH2 : s₁.heap.push { cls := .type "list", dict := none, data := .seq ([] : List Value).toArray } = H2 at hns₁ hsb₁ ⊢
  have hC : H2.objs.size = s₁.heap.objs.size + 1 := by rw [← hH2, Heap.size_push]
  have hDC : s₁.heap.objs.size ≠ H2.objs.size := by rw [hC]; exact Nat.ne_of_lt (Nat.lt_succ_self _)
  have below : ∀ b, b < s₁.heap.objs.size → b ≠ H2.objs.size ∧ b ≠ s₁.heap.objs.size := fun b hb => ⟨by rw [hC]; exact Nat.ne_of_lt (Nat.lt_succ_of_lt hb), Nat.ne_of_lt hb⟩
  have old : ∀ b o, s₁.heap.get? b = some o → h₁.get? b = some o := fun b o e => hsb₁.extBut b o (below b (Heap.lt_size e)).1 (Heap.get?_push_of_some _ (hH2 ▸ Heap.get?_push_of_some _ e))
  have hacc : h₁.PlainList s₁.heap.objs.size #[] := ⟨_, hsb₁.extBut _ _ hDC (Heap.get?_push_of_some _ (hH2 ▸ Heap.get?_push_size _ rfl))⟩
  have hfp : ∀ b ∈ [e, it, l], b < s₁.heap.objs.size := by
    intro b hb
    obtain ⟨_, hi, _⟩ := hI0
    obtain ⟨_, hl, _⟩ := hL0
    rcases List.mem_cons.mp hb with rfl | hb
    · exact Heap.lt_size hE0
    rcases List.mem_cons.mp hb with rfl | hb
    · exact Heap.lt_size hi
    · rw [List.mem_singleton.mp hb]; exact Heap.lt_size hl
  have hst₁ := W.frame 0 s₁.heap h₁ ⟨⟨_, hE0⟩, hI0, hL0⟩ fun b _ o e => old b o e
  have hCf : ∀ b ∈ [e, it, l], b ≠ H2.objs.size := fun b hb => (below b (hfp b hb)).1
  have hDf : ∀ b ∈ [e, it, l], b ≠ s₁.heap.objs.size := fun b hb => (below b (hfp b hb)).2
  have hwf : ∀ b ∈ [e, it], b ∈ [e, it, l] := W.sub
  have loop : ∀ s₃ : Shared, s₃ = { s₁ with heap := h₁, toks := s₁.toks + ([] : List (Str × Value)).length } →
      codeAny (model prog w) A (.compLoop (.ListComp elt [⟨.Tuple [.Name x px, .Name x₂ px₂] tk tp, iter, [], 0⟩] scope pos) 0 (.ref e) (.ref s₁.heap.objs.size) (compEnvC scope cl H2.objs.size env))
        (compPost (model prog w) A E none Q (.ref s₁.heap.objs.size) H2.objs.size) s₃ := by
    rintro s₃ rfl
    refine LCp.codeAny_compLoop_pair
      (fun k s' => ∃ (h' : Heap) (tk : Nat) (i : Nat) (ys : Array Value) (m' : Str → Option Value), s' = { s₁ with heap := h', toks := tk } ∧ i ≤ items.size ∧ k = items.size + 1 - i ∧ ys.size = i ∧ (∀ y ∈ ys.toList, V y) ∧
        ((∃ old, IsEnum h' e it i old) ∧ h'.IsListIter it l i ∧ h'.IsList l items) ∧ h'.PlainList s₁.heap.objs.size ys ∧ h'.Ns H2.objs.size m' ∧ (∀ b o, b ∉ [e, it] → s₁.heap.get? b = some o → h'.get? b = some o) ∧ H2.objs.size < h'.objs.size) ?_ (items.size + 1)
      ⟨h₁, _, 0, #[], _, rfl, Nat.zero_le _, rfl, rfl, (fun _ hm => nomatch hm), hst₁, hacc, hns₁, fun b o _ e => old b o e, hns₁.lt⟩
    rintro k s' ⟨h', tk, i, ys, m', rfl, hi, rfl, hyl, hV, hst', hacc', hn', hk, hz⟩
    by_cases hlt : i < items.size
    · refine W.item i _ _ _ hlt hst' fun T vals h₂ tk₂ hPt hTs hT hM hk₂ => ?_
      obtain ⟨ti, v, hv, rfl⟩ := hPt
      have hTw : T ∉ [e, it] := W.apart _ _ _ hM
      refine W.go _ _ _ _ _ _ _ _ hM fun h₃ hst₃ hk₃ => ?_
      have hT₃ : h₃.IsTuple T _ := hT.at fun o e => hk₃ _ _ hTw e
      refine assign_Tuple_tuple hh hT₃ rfl rfl fun h₅ he => ?_
      have hk5 : ∀ b o, b ∉ [e, it] → h'.get? b = some o → h₅.get? b = some o := fun b o hb e => by
        have e3 := hk₃ _ _ hb (hk₂ _ _ hb e)
        exact he b o (Nat.ne_of_lt (Heap.lt_size e3)) e3
      have hk35 : ∀ b o, h₃.get? b = some o → h₅.get? b = some o := fun b o e => he b o (Nat.ne_of_lt (Heap.lt_size e)) e
      have hCw : H2.objs.size ∉ [e, it] := fun hm => hCf _ (hwf _ hm) rfl
      have hDw : s₁.heap.objs.size ∉ [e, it] := fun hm => hDf _ (hwf _ hm) rfl
      refine assignInOrder_cons (wpAny_assign_Name (wpAny_storeName_local (lookup_relabel_local hx) (hn'.at' fun o e => hk5 _ o hCw e) (fun h₆ hn₆ hs₆ => ?_) (by simp [compEnvC, relabel, hkind])))
      refine assignInOrder_cons (wpAny_assign_Name (wpAny_storeName_local (lookup_relabel_local hx₂) hn₆ (fun h₇ hn₇ hs₇ => ?_) (by simp [compEnvC, relabel, hkind])))
      refine assignInOrder_nil ?_
      have k57 : ∀ b o, b ≠ H2.objs.size → h₅.get? b = some o → h₇.get? b = some o := fun b o hb e => hs₇.extBut b o hb (hs₆.extBut b o hb e)
      have hst₇ := W.frame (i + 1) h₃ h₇ hst₃ fun b hb o e => k57 b o (hCf b hb) (hk35 _ _ e)
      refine wpAny_mono (helt H2.objs.size i v _ _ _ (by rw [hC]; exact Nat.lt_succ_self _) hv hn₇ ⟨ti, by simp [hxx]⟩ (by simp) fun b o hb e => k57 b o (below b (Heap.lt_size e)).1 (hk5 b o hb (hk b o hb e))) (fun y s₄ h₄ => ?_) fun _ _ e => e
      obtain ⟨hVy, h₄, tk₄, rfl, hk₄⟩ := h₄
      have hacc₄ : h₄.PlainList s₁.heap.objs.size ys := hacc'.at fun o e => hk₄ _ _ (k57 _ _ hDC (hk5 _ _ hDw e))
      refine wpAny_list_append_plain (hsz := by rw [hyl]; exact Nat.le_trans hi hsz) hacc₄ fun h₈ hl₈ hs₈ => ?_
      refine ⟨items.size + 1 - (i + 1), by omega, h₈, tk₄, i + 1, ys.push y, _, rfl, hlt, rfl, by rw [Array.size_push, hyl], ?_, ?_, hl₈, (hn₇.keeps hk₄).sameBut hs₈ (Ne.symm hDC), ?_, ?_⟩
      · intro z hz
        rw [Array.toList_push] at hz
        rcases List.mem_append.mp hz with hz | hz
        · exact hV z hz
        · rw [List.mem_singleton.mp hz]; exact hVy
      · exact W.frame (i + 1) h₇ h₈ hst₇ fun b hb o e => hs₈.extBut b o (hDf b hb) (hk₄ _ _ e)
      · intro b o hb e
        exact hs₈.extBut b o (below b (Heap.lt_size e)).2 (hk₄ _ _ (k57 b o (below b (Heap.lt_size e)).1 (hk5 b o hb (hk b o hb e))))
      · exact ((hn₇.keeps hk₄).sameBut hs₈ (Ne.symm hDC)).lt
    · obtain rfl : i = items.size := Nat.le_antisymm hi (Nat.not_lt.mp hlt)
      refine W.done _ _ _ hst' fun h₂ tk₂ hk₂ => ?_
      have hCw : H2.objs.size ∉ [e, it] := fun hm => hCf _ (hwf _ hm) rfl
      have hDw : s₁.heap.objs.size ∉ [e, it] := fun hm => hDf _ (hwf _ hm) rfl
      have hn₂ : h₂.Ns H2.objs.size m' := hn'.at' fun o e => hk₂ _ o hCw e
      refine ⟨m', hn₂, fun h'' hs'' => hfin s₁.heap.objs.size h'' tk₂ ys (Heap.get?_none_of_le (Nat.le_refl _)) ((hacc'.at fun o e => hk₂ _ _ hDw e).extBut hs''.extBut hDC) hyl hV (fun b o hb e => hs''.extBut b o (below b (Heap.lt_size e)).1 (hk₂ _ _ hb (hk b o hb e))) ?_⟩
      rw [hs''.1]
      have := hn₂.lt
      rw [hC] at this
      exact Nat.le_of_lt (Nat.lt_of_succ_lt this)
  exact codeAny_compStart_list (loop _ rfl) (W.self 0 _ _ _ hst₁ (loop _ rfl))
end
end Mine

end
section -- LS
theorem Mine.offLS : True ∧ True := by
  w_top off
  first | (walk1; all_goals trivial) | exact ⟨trivial, trivial⟩
namespace Mine
open PySem PySem.W PyProof.Rows PySem.Spec PySem.Calls
def lawCs (L : Addr) : List (Str × Addr) := [(Str.ofString "reply", L + 8), (Str.ofString "replies", L + 7), (Str.ofString "peer", L + 6), (Str.ofString "deeds", L + 5), (Str.ofString "count", L + 4), (Str.ofString "cells", L + 3), (Str.ofString "place", L + 2), (Str.ofString "numbers", L + 1)]
def posA : Pos := { line := 127, col := 30, endLine := 127, endCol := 83 }
def posB : Pos := { line := 132, col := 24, endLine := 132, endCol := 53 }
def posC : Pos := { line := 138, col := 24, endLine := 138, endCol := 108 }
def posD : Pos := { line := 138, col := 39, endLine := 138, endCol := 84 }
def qualL : Str := Str.ofString "law" ++ ".<locals>." ++ "<lambda>"
/-- the code of the asked reduce has a table of its own -/
def tabX (g : Heap) (c' : Addr) (h : Heap) : Prop := ∃ P', CodeHd h c' P' ∧ TabOk h P' (tabD posD qualL) ∧ P' ≠ 91 ∧ P' ≠ 144 ∧ g.get? P' = none
def lawAl (g : Heap) : List TabE := [(posA, qualL, fun _ _ => True), (posB, qualL, fun _ _ => True), (posC, qualL, tabX g)]
/-- the texts and what is due of them -/
inductive DuesAre (h : Heap) (host : Str) : List Str → List Value → Prop
  | nil : DuesAre h host [] []
  | cons {x : Str} {v : Value} {xs : List Str} {vs : List Value} : OutAt h x host v (parseO (cp x)) → DuesAre h host xs vs → DuesAre h host (x :: xs) (v :: vs)
theorem DuesAre.length {h : Heap} {host : Str} {xs : List Str} {vs : List Value} (x : DuesAre h host xs vs) : vs.length = xs.length := by
  induction x with
  | nil => rfl
  | cons _ _ ih => simp [ih]
theorem DuesAre.snoc {h : Heap} {host : Str} {xs : List Str} {vs : List Value} {x : Str} {v : Value} (y : DuesAre h host xs vs) (z : OutAt h x host v (parseO (cp x))) : DuesAre h host (xs ++ [x]) (vs ++ [v]) := by
  induction y with
  | nil => exact .cons z .nil
  | cons a _ ih => exact .cons a ih
theorem OutAt.move {h h' : Heap} {x host : Str} {v : Value} {o : Out} (y : OutAt h x host v o) (k : ∀ b o, h.get? b = some o → (∃ vs n, o.data = .seq vs n) → h'.get? b = some o) : OutAt h' x host v o := by
  have tup : ∀ {D : Addr} {its : Array Value}, h.IsTuple D its → h'.IsTuple D its := fun {D its} q => by
    obtain ⟨o, e, c, n, d⟩ := q
    exact ⟨o, k _ _ e ⟨_, _, d⟩, c, n, d⟩
  cases o with
  | reply => obtain ⟨D, t, u, e, q⟩ := y; exact ⟨D, t, u, e, tup q⟩
  | proto => obtain ⟨D, t, u, e, q⟩ := y; exact ⟨D, t, u, e, tup q⟩
  | value => obtain ⟨D, t, u, e, q⟩ := y; exact ⟨D, t, u, e, tup q⟩
  | told n => obtain ⟨D, t, D2, u, t3, t4, e, q, q2⟩ := y; exact ⟨D, t, D2, u, t3, t4, e, tup q, tup q2⟩
theorem DuesAre.move {h h' : Heap} {host : Str} {xs : List Str} {vs : List Value} (x : DuesAre h host xs vs) (k : ∀ b o, h.get? b = some o → (∃ vs n, o.data = .seq vs n) → h'.get? b = some o) : DuesAre h' host xs vs := by
  induction x with
  | nil => exact .nil
  | cons a _ ih => exact .cons (a.move k) ih
/-- a tuple, a list, or a record -/
def NotFr (o : Obj) : Prop := (∃ vs n, o.data = .seq vs n) ∨ (∃ vs, o.data = .fields vs)
/-- a code, a record of it, or a table -/
def Rec (o : Obj) : Prop := o.cls = .none ∨ o.cls = .type "code" ∨ ∃ vs q t, o.data = .fields vs ∧ vs[1]? = some (.str q t)
theorem same_cell {c : Addr} {h h' : Heap} {v : Option Value} (S : Heap.SameBut c h h') (hc : h.IsCell c v) : ∀ b o, h.get? b = some o → NotFr o → h'.get? b = some o := fun b o e hn => (S.2 b (fun q => by
  obtain ⟨o', e', d'⟩ := hc
  rw [q, e'] at e; cases e
  rcases hn with ⟨_, _, d⟩ | ⟨_, d⟩ <;> rw [d'] at d <;> cases d)).trans e
theorem same_loc {c : Addr} {h h' : Heap} {m : Str → Option Value} (S : Heap.SameBut c h h') (hc : h.Ns c m) : ∀ b o, h.get? b = some o → NotFr o → h'.get? b = some o := fun b o e hn => (S.2 b (fun q => by
  obtain ⟨o', _, _, e', d', _⟩ := hc
  rw [q, e'] at e; cases e
  rcases hn with ⟨_, _, d⟩ | ⟨_, d⟩ <;> rw [d'] at d <;> cases d)).trans e
/-- where the law stands -/
structure LW (g : Heap) (L cl pt rl dl : Addr) (host : Str) (xs ys : List Str) (h : Heap) (m cm : Str → Option Value) : Prop where
  F : Fr g L h m
  C : Cl L (lawCs L) h cm
  cc : cm (Str.ofString "cells") = some (.ref cl)
  cells : ∃ vc nc, h.IsList cl (List.toArray vc) ∧ IntsAre vc nc ∧ nc.length = 12
  pc : cm (Str.ofString "peer") = some (.ref pt)
  peer : ∃ t u, h.IsTuple pt #[.str host t, .int 21 u]
  pnew : g.get? pt = none
  rc : cm (Str.ofString "replies") = some (.ref rl)
  reps : ∃ vs, h.PlainList rl (List.toArray vs) ∧ StrsAre vs xs
  dc : m (Str.ofString "dues") = some (.ref dl)
  dues : ∃ ds, h.PlainList dl (List.toArray ds) ∧ DuesAre h host ys ds
  apart : rl ≠ dl ∧ cl ≠ rl ∧ cl ≠ dl ∧ g.get? rl = none ∧ g.get? dl = none
  txt : ∀ x ∈ xs, x.length ≤ 600 ∧ ∀ c ∈ cp x, c < 1114112
  t94 : TabG h 91 posJ
  t144 : TabOk h 144 (lawAl g)
section
variable {g h h' : Heap} {L cl pt rl dl : Addr} {host : Str} {xs ys : List Str} {m cm m' cm' : Str → Option Value}
theorem LW.move (W : LW g L cl pt rl dl host xs ys h m cm) (F : Fr g L h' m') (C : Cl L (lawCs L) h' cm') (hm : m' (Str.ofString "dues") = m (Str.ofString "dues")) (h1 : cm' (Str.ofString "cells") = cm (Str.ofString "cells"))
    (h2 : cm' (Str.ofString "peer") = cm (Str.ofString "peer")) (h3 : cm' (Str.ofString "replies") = cm (Str.ofString "replies"))
    (k : ∀ b o, h.get? b = some o → (∃ vs n, o.data = .seq vs n) → h'.get? b = some o) (t94 : TabG h' 91 posJ) (t144 : TabOk h' 144 (lawAl g)) : LW g L cl pt rl dl host xs ys h' m' cm' where
  F := F
  C := C
  cc := h1.trans W.cc
  cells := let ⟨vc, nc, ⟨o, e, c, n, d⟩, r⟩ := W.cells; ⟨vc, nc, ⟨o, k _ _ e ⟨_, _, d⟩, c, n, d⟩, r⟩
  pc := h2.trans W.pc
  peer := let ⟨t, u, o, e, c, n, d⟩ := W.peer; ⟨t, u, o, k _ _ e ⟨_, _, d⟩, c, n, d⟩
  pnew := W.pnew
  rc := h3.trans W.rc
  reps := let ⟨vs, ⟨n, e⟩, r⟩ := W.reps; ⟨vs, ⟨n, k _ _ e ⟨_, _, rfl⟩⟩, r⟩
  dc := hm.trans W.dc
  dues := let ⟨ds, ⟨n, e⟩, r⟩ := W.dues; ⟨ds, ⟨n, k _ _ e ⟨_, _, rfl⟩⟩, r.move k⟩
  apart := W.apart
  txt := W.txt
  t94 := t94
  t144 := t144
theorem LW.lt (W : LW g L cl pt rl dl host xs ys h m cm) : rl < h.objs.size ∧ dl < h.objs.size :=
  ⟨let ⟨_, ⟨_, e⟩, _⟩ := W.reps; Heap.lt_size e, let ⟨_, ⟨_, e⟩, _⟩ := W.dues; Heap.lt_size e⟩
theorem LW.off (W : LW g L cl pt rl dl host xs ys h m cm) : h.objs.size ≠ 91 ∧ h.objs.size ≠ 144 :=
  ⟨fun q => let ⟨_, e, _⟩ := W.t94; absurd (Heap.lt_size e) (q ▸ Nat.lt_irrefl _), fun q => let ⟨_, e, _⟩ := W.t144; absurd (Heap.lt_size e) (q ▸ Nat.lt_irrefl _)⟩
theorem LW.new (W : LW g L cl pt rl dl host xs ys h m cm) : g.get? h.objs.size = none := by
  cases q : g.get? h.objs.size with
  | none => rfl
  | some o => exact absurd (Heap.lt_size (W.F.keep _ _ q)) (Nat.lt_irrefl _)
theorem codeHd_move {c P : Addr} (x : CodeHd h c P) (k : ∀ b o, h.get? b = some o → (∃ vs, o.data = .fields vs) → o.cls = .type "code" → h'.get? b = some o) : CodeHd h' c P :=
  let ⟨o, vs, file, tf, flags, tg, inF, text, tt, e, r1, r2, r⟩ := x; ⟨o, vs, file, tf, flags, tg, inF, text, tt, k _ _ e ⟨_, r2⟩ r1, r1, r2, r⟩
theorem tab_ne {P c : Addr} {ps : Array Value} {q : Str} (hP : h.get? P = some (tabObj ps)) (ht : TriplesOk ps.toList) (hc : h.CodeRec (.ref c) q) : c ≠ P := by
  rintro rfl
  obtain ⟨c9, oc, vs, t, e9, hoc, hd, hv⟩ := hc
  cases e9
  rw [hP] at hoc; cases hoc; cases hd
  rw [← Array.getElem?_toList] at hv
  generalize ps.toList = l at *
  unfold TriplesOk at ht
  split at ht
  · cases hv
  · cases hv
  · exact ht
/-- the tables stand, if the records stand -/
theorem law_tab (t94 : TabG h 91 posJ) (x : TabOk h 144 (lawAl g)) (k : ∀ b o, h.get? b = some o → (∃ vs, o.data = .fields vs) → Rec o → b ≠ 91 → h'.get? b = some o) : TabOk h' 144 (lawAl g) := by
  obtain ⟨p9, hP9, ht9, _⟩ := t94
  have up : ∀ {P : Addr} {al : List TabE}, P ≠ 91 → TabOk h P al → (∀ q ∈ al, ∀ c, q.2.2 c h → q.2.2 c h') → TabOk h' P al := by
    rintro P al hne ⟨ps, e, ht, hq⟩ hX
    refine ⟨ps, k _ _ e ⟨_, rfl⟩ (.inl rfl) hne, ht, fun q hm => ?_⟩
    rcases hq q hm with h0 | ⟨c', h1, h2, h3, h4⟩
    · exact .inl h0
    · have hc94 : c' ≠ 91 := tab_ne hP9 ht9 h3
      obtain ⟨c9, oc, vs, t, e9, hoc, hd, hv⟩ := h3
      cases e9
      exact .inr ⟨c', h1, h2, ⟨c', oc, vs, t, rfl, k _ _ hoc ⟨vs, hd⟩ (.inr (.inr ⟨vs, _, _, hd, hv⟩)) hc94, hd, hv⟩, hX q hm _ h4⟩
  refine up (by decide) x fun q hq c hc => ?_
  rcases List.mem_cons.mp hq with rfl | hq
  · trivial
  rcases List.mem_cons.mp hq with rfl | hq
  · trivial
  obtain rfl := List.mem_singleton.mp hq
  obtain ⟨P', hC, hT, n94, n144, hg⟩ := hc
  refine ⟨P', codeHd_move hC fun b o e hf hcl => k _ _ e hf (.inr (.inl hcl)) (fun q => ?_), up n94 hT fun q hq c _ => ?_, n94, n144, hg⟩
  · rw [q, hP9] at e; cases e; cases hcl
  · obtain rfl := List.mem_singleton.mp hq; trivial
/-- all stands: so does the law -/
theorem LW.keeps (W : LW g L cl pt rl dl host xs ys h m cm) (k : ∀ b o, h.get? b = some o → h'.get? b = some o) : LW g L cl pt rl dl host xs ys h' m cm :=
  W.move (fr_up W.F k) (W.C.keeps k) rfl rfl rfl rfl (fun b o e _ => k b o e) (W.t94.at fun o e => k _ _ e) (law_tab W.t94 W.t144 fun b o e _ _ _ => k b o e)
theorem LW.push (W : LW g L cl pt rl dl host xs ys h m cm) (o : Obj) : LW g L cl pt rl dl host xs ys (h.push o) m cm := W.keeps fun _ _ e => Heap.get?_push_of_some _ e
/-- a cell is stored -/
theorem LW.cellSt {c : Addr} {v : Option Value} (W : LW g L cl pt rl dl host xs ys h m cm) (S : Heap.SameBut c h h') (hc : h.IsCell c v) (F : Fr g L h' m') (C : Cl L (lawCs L) h' cm') (hm : m' (Str.ofString "dues") = m (Str.ofString "dues")) (h1 : cm' (Str.ofString "cells") = cm (Str.ofString "cells"))
    (h2 : cm' (Str.ofString "peer") = cm (Str.ofString "peer")) (h3 : cm' (Str.ofString "replies") = cm (Str.ofString "replies")) : LW g L cl pt rl dl host xs ys h' m' cm' :=
  W.move F C hm h1 h2 h3 (fun b o e n => same_cell S hc b o e (.inl n)) (W.t94.at fun o e => by
    obtain ⟨ps, e9, _⟩ := W.t94
    rw [e9] at e; cases e
    exact same_cell S hc _ _ e9 (.inr ⟨_, rfl⟩)) (law_tab W.t94 W.t144 fun b o e n _ _ => same_cell S hc b o e (.inr n))
/-- a name is stored -/
theorem LW.locSt (W : LW g L cl pt rl dl host xs ys h m cm) (S : Heap.SameBut L h h') (F : Fr g L h' m') (hm : m' (Str.ofString "dues") = m (Str.ofString "dues")) : LW g L cl pt rl dl host xs ys h' m' cm :=
  W.move F (W.C.sameBut S (Nat.le_refl _)) hm rfl rfl rfl (fun b o e n => same_loc S W.F.ns b o e (.inl n)) (W.t94.at fun o e => by
    obtain ⟨ps, e9, _⟩ := W.t94
    rw [e9] at e; cases e
    exact same_loc S W.F.ns _ _ e9 (.inr ⟨_, rfl⟩)) (law_tab W.t94 W.t144 fun b o e n _ _ => same_loc S W.F.ns b o e (.inr n))
/-- an iterator is moved -/
theorem LW.itSt {c : Addr} {oi : Obj} (W : LW g L cl pt rl dl host xs ys h m cm) (S : Heap.SameBut c h h') (hc : h.get? c = some oi) (hn : ¬ Rec oi) (hs : ∀ vs n, oi.data ≠ .seq vs n) (hd : ∀ es n, oi.data ≠ .dict es n) (hl : ∀ v, oi.data ≠ .cell v) (hg : g.get? c = none) : LW g L cl pt rl dl host xs ys h' m cm := by
  have hLc : c ≠ L := fun q => by
    obtain ⟨o, es, ep, e, d, _⟩ := W.F.ns
    rw [← q, hc] at e; cases e
    exact hd _ _ d
  refine W.move ⟨W.F.ns.sameBut S (Ne.symm hLc), fun b o e => (S.2 b (fun q => ?_)).trans (W.F.keep b o e), W.F.above⟩ ⟨fun n a e => ?_, W.C.apart, W.C.above⟩ rfl rfl rfl rfl (fun b o e hq => (S.2 b (fun q => ?_)).trans e)
    (W.t94.at fun o e => ?_) (law_tab W.t94 W.t144 fun b o e hf hr _ => (S.2 b (fun q => ?_)).trans e)
  · rw [q, hg] at e; cases e
  · refine (W.C.cell n a e).sameBut S fun q => ?_
    obtain ⟨o, e2, d⟩ := W.C.cell n a e
    rw [q, hc] at e2; cases e2
    exact hl _ d
  · rw [q, hc] at e; cases e
    obtain ⟨_, _, d⟩ := hq
    exact hs _ _ d
  · obtain ⟨ps, e9, _⟩ := W.t94
    refine (S.2 _ (fun q => ?_)).trans e
    rw [q, hc] at e9; cases e9
    exact hn (.inl rfl)
  · rw [q, hc] at e; cases e
    exact hn hr
/-- a list of the law's is changed: all else stands -/
theorem LW.lst {c : Addr} {vs0 : Array Value} (W : LW g L cl pt rl dl host xs ys h m cm) (S : Heap.SameBut c h h') (hc : h.PlainList c vs0) (hg : g.get? c = none) :
    Fr g L h' m ∧ Cl L (lawCs L) h' cm ∧ TabG h' 91 posJ ∧ TabOk h' 144 (lawAl g) ∧ (∀ b o, h.get? b = some o → b ≠ c → h'.get? b = some o) ∧ (∀ b its, h.IsTuple b its → h'.IsTuple b its) := by
  obtain ⟨n0, e0⟩ := hc
  have k : ∀ b o, h.get? b = some o → b ≠ c → h'.get? b = some o := fun b o e hb => (S.2 b hb).trans e
  refine ⟨⟨W.F.ns.sameBut S (fun q => ?_), fun b o e => k b o (W.F.keep b o e) (fun q => ?_), W.F.above⟩, ⟨fun n a e => (W.C.cell n a e).sameBut S (fun q => ?_), W.C.apart, W.C.above⟩, W.t94.at fun o e => k _ _ e (fun q => ?_), law_tab W.t94 W.t144 fun b o e hf hr _ => k b o e (fun q => ?_), k, ?_⟩
  · obtain ⟨o, es, ep, e, d, _⟩ := W.F.ns
    rw [q, e0] at e; cases e; cases d
  · rw [q, hg] at e; cases e
  · obtain ⟨o, e2, d⟩ := W.C.cell n a e
    rw [q, e0] at e2; cases e2; cases d
  · obtain ⟨ps, e9, _⟩ := W.t94
    rw [q, e0] at e9; cases e9
  · rw [q, e0] at e; cases e
    obtain ⟨_, d⟩ := hf
    cases d
  · rintro b its ⟨o, e, cl, n, d⟩
    refine ⟨o, k b o e (fun q => ?_), cl, n, d⟩
    rw [q, e0] at e; cases e; exact absurd (Value.type.inj cl) (by decide)
theorem DuesAre.tups {h h' : Heap} {host : Str} {xs : List Str} {vs : List Value} (x : DuesAre h host xs vs) (k : ∀ b its, h.IsTuple b its → h'.IsTuple b its) : DuesAre h' host xs vs := by
  induction x with
  | nil => exact .nil
  | @cons x v xs vs a _ ih =>
    refine .cons ?_ ih
    generalize parseO (cp x) = o at a ⊢
    cases o with
    | reply => obtain ⟨D, t, u, e, q⟩ := a; exact ⟨D, t, u, e, k _ _ q⟩
    | proto => obtain ⟨D, t, u, e, q⟩ := a; exact ⟨D, t, u, e, k _ _ q⟩
    | value => obtain ⟨D, t, u, e, q⟩ := a; exact ⟨D, t, u, e, k _ _ q⟩
    | told n => obtain ⟨D, t, D2, u, t3, t4, e, q, q2⟩ := a; exact ⟨D, t, D2, u, t3, t4, e, k _ _ q, k _ _ q2⟩
theorem LW.repSt {xs' : List Str} {vs' : List Value} (W : LW g L cl pt rl dl host xs ys h m cm) (S : Heap.SameBut rl h h') (hr : h'.PlainList rl (List.toArray vs')) (hs : StrsAre vs' xs') (ht : ∀ x ∈ xs', x.length ≤ 600 ∧ ∀ c ∈ cp x, c < 1114112) : LW g L cl pt rl dl host xs' ys h' m cm := by
  obtain ⟨v0, h0, _⟩ := W.reps
  obtain ⟨F, C, t94, t144, k, kt⟩ := W.lst S h0 W.apart.2.2.2.1
  exact { F := F, C := C, cc := W.cc, cells := (let ⟨vc, nc, ⟨o, e, r⟩, r2⟩ := W.cells; ⟨vc, nc, ⟨o, k _ _ e W.apart.2.1, r⟩, r2⟩), pc := W.pc, peer := (let ⟨t, u, q⟩ := W.peer; ⟨t, u, kt _ _ q⟩), pnew := W.pnew,
          rc := W.rc, reps := ⟨vs', hr, hs⟩, dc := W.dc, dues := (let ⟨ds, ⟨n, e⟩, r⟩ := W.dues; ⟨ds, ⟨n, k _ _ e (Ne.symm W.apart.1)⟩, r.tups kt⟩), apart := W.apart, txt := ht, t94 := t94, t144 := t144 }
theorem LW.dueSt {ys' : List Str} {vs' : List Value} (W : LW g L cl pt rl dl host xs ys h m cm) (S : Heap.SameBut dl h h') (hr : h'.PlainList dl (List.toArray vs')) (hs : DuesAre h host ys' vs') : LW g L cl pt rl dl host xs ys' h' m cm := by
  obtain ⟨v0, h0, _⟩ := W.dues
  obtain ⟨F, C, t94, t144, k, kt⟩ := W.lst S h0 W.apart.2.2.2.2
  exact { F := F, C := C, cc := W.cc, cells := (let ⟨vc, nc, ⟨o, e, r⟩, r2⟩ := W.cells; ⟨vc, nc, ⟨o, k _ _ e W.apart.2.2.1, r⟩, r2⟩), pc := W.pc, peer := (let ⟨t, u, q⟩ := W.peer; ⟨t, u, kt _ _ q⟩), pnew := W.pnew,
          rc := W.rc, reps := (let ⟨ds, ⟨n, e⟩, r⟩ := W.reps; ⟨ds, ⟨n, k _ _ e W.apart.1⟩, r⟩), dc := W.dc, dues := ⟨vs', hr, hs.tups kt⟩, apart := W.apart, txt := W.txt, t94 := t94, t144 := t144 }
end
end Mine

end
section -- LR
theorem Mine.offLR : True ∧ True := by
  w_top off
  first | (walk1; all_goals trivial) | exact ⟨trivial, trivial⟩
namespace Mine
open PySem PySem.W PyProof.Rows PySem.Spec PySem.Calls
theorem deeds_of {F : Value → Value → Prop} (hF : ∀ v r, F v r → ∃ d t, r = .int d t ∧ 0 ≤ d ∧ d ≤ 2) : ∀ {l vs : List Value}, Paired F l vs → ∃ ds, IntsAre vs ds ∧ ds.length = l.length ∧ ∀ d ∈ ds, 0 ≤ d ∧ d ≤ 2
  | _, _, .nil => ⟨[], .nil, rfl, fun _ h => nomatch h⟩
  | _, _, .cons h r => by
    obtain ⟨d, t, rfl, h0, h2⟩ := hF _ _ h
    obtain ⟨ds, a, b, c⟩ := deeds_of hF r
    exact ⟨d :: ds, .cons d t a, by simp [b], fun x hx => by
      rcases List.mem_cons.mp hx with rfl | hx
      · exact ⟨h0, h2⟩
      · exact c x hx⟩
section
variable {prog : Program} {w : World} {A : Around} {E : Value → Shared → Prop} {env : Env}
/-- a list comprehension over range(3), of numbers from 0 to 2 -/
theorem lc_range3 {s : Shared} {elt iter : Expr} {x : Str} {px : Pos} {scope : Scope} {cl : List (Str × Addr)} {pos : Pos} {Q : Value → Shared → Prop} (hh : A.handled = none)
    (hclos : closureFor scope env = pure cl) (hcell : ∀ y ∈ scope.names, y.2 ≠ .cell) (hkind : scope.kind = .function)
    (hnames : ∀ y ∈ scope.names, y.2 = .local → scope.names.lookup y.1 = some .local) (hx : scope.names.lookup x = some .local)
    (h : wpAny (model prog w) A (eval iter env) (fun xv s₁ => ∃ r t u v, xv = .ref r ∧ IsRange s₁.heap r 0 3 1 t u v ∧
      (∀ C (i : Nat) t s₃ m₃ (E' : Value → Shared → Prop), i < 3 → s₁.heap.objs.size < C → s₃.heap.Ns C m₃ → m₃ x = some (.int (i : Int) t) → Kp s₁.heap s₃.heap →
        wpAny (model prog w) A (eval elt (compEnvC scope cl C env)) (fun r s₄ => (∃ d t, r = .int d t ∧ 0 ≤ d ∧ d ≤ 2) ∧ Keeps s₃ s₄) E' s₃) ∧
      (∀ D h' tk vs ds, s₁.heap.get? D = none → h'.PlainList D (List.toArray vs) → IntsAre vs ds → ds.length = 3 → (∀ d ∈ ds, 0 ≤ d ∧ d ≤ 2) → Kp s₁.heap h' → Q (.ref D) { s₁ with heap := h', toks := tk })) E s)
    (hs : ∀ x, foldedSetIterable iter env x = pure x := by intro _; rfl) :
    wpAny (model prog w) A (eval (.ListComp elt [⟨.Name x px, iter, [], 0⟩] scope pos) env) Q E s := by
  refine wpAny_ListComp_free (fun _ => true) (fun _ r => ∃ d t, r = .int d t ∧ 0 ≤ d ∧ d ≤ 2) hclos hcell hkind hnames hx (wpAny_mono h (fun xv s₁ h₁ => ?_) fun _ _ e => e) hs
  obtain ⟨r, t, u, v, rfl, hr, h2, h3⟩ := h₁
  have hrs : Builtin.Range.rangeSize 0 3 1 = 3 := by decide +kernel
  refine wpAny_pyIter_range hr (by decide +kernel) ?_
  have W0 := Walks.range (prog := prog) (w := w) hh s₁.heap.objs.size 0 1 3
  have W : Walks prog w A s₁.heap.objs.size [s₁.heap.objs.size] [s₁.heap.objs.size] 3 (fun i v => i < 3 ∧ ∃ t, v = .int (i : Int) t) (fun i h => IsRangeIter h s₁.heap.objs.size (0 + (i : Nat) * 1) (((3 : Nat) : Int) - (i : Nat)) 1) :=
    { sub := W0.sub, frame := W0.frame, self := W0.self, done := W0.done, item := fun i s Q E hi st hq => W0.item i s Q E hi st fun v h' tk hP => hq v h' tk ⟨hi, by obtain ⟨t, e⟩ := hP; exact ⟨t, by rw [e]; congr 1; omega⟩⟩ }
  have up : ∀ (o : Obj) (h' : Heap), (∀ b o', b ∉ [s₁.heap.objs.size] → (s₁.heap.push o).get? b = some o' → h'.get? b = some o') → Kp s₁.heap h' :=
    fun o h' hk b o' e => hk b o' (old_not_new e) (Heap.get?_push_of_some _ e)
  refine ⟨s₁.heap.objs.size, [s₁.heap.objs.size], [s₁.heap.objs.size], 3, _, _, rfl, W, by rw [sizeLine_eq]; decide, ?_, ?_, ⟨?_, ?_⟩, ?_⟩
  · rw [hrs]; exact Heap.get?_push_size _ rfl
  · intro b hb
    rw [List.mem_singleton.mp hb]
    show s₁.heap.objs.size < (s₁.heap.push _).objs.size
    rw [Heap.size_push]; exact Nat.lt_succ_self _
  · intro C i v s₃ m₃ E' hC hP hn hm hk htk
    exact wpAny_pure ⟨rfl, _, _, rfl, fun _ _ e => e⟩
  · intro C i v s₃ m₃ E' hC hP _ hn hm hk htk
    obtain ⟨hi, t9, rfl⟩ := hP
    exact h2 C i t9 s₃ m₃ E' hi (by rw [Heap.size_push] at hC; exact Nat.lt_of_lt_of_le (Nat.lt_succ_self _) hC) hn hm (up _ _ hk)
  · intro D h' tk ys vs hD hl hpl hlen hP hF hk
    obtain ⟨ds, a, b, c⟩ := deeds_of (fun _ _ q => q) hF
    refine h3 D h' tk ys.toList ds ?_ (by rw [Array.toArray_toList]; exact hpl) a (by rw [b, List.filter_eq_self.mpr (fun _ _ => rfl), hlen]) c (up _ _ hk)
    cases e : s₁.heap.get? D with
    | none => rfl
    | some o' => rw [Heap.get?_push_of_some _ e] at hD; cases hD
end
end Mine

end
section -- LL
theorem Mine.offLL : True ∧ True := by
  w_top off
  first | (walk1; all_goals trivial) | exact ⟨trivial, trivial⟩
namespace Mine
open PySem PySem.W PyProof.Rows PySem.Spec PySem.Calls
theorem cl_move {L : Addr} {cs : List (Str × Addr)} {h h' : Heap} {cm : Str → Option Value} (X : Cl L cs h cm) (k : ∀ c v, h.IsCell c v → h'.IsCell c v) : Cl L cs h' cm := ⟨fun n c e => k _ _ (X.cell n c e), X.apart, X.above⟩
theorem lawAl_keep {g : Heap} : ∀ q ∈ lawAl g, ∀ c h h', (∃ ps, h.get? 144 = some (tabObj ps) ∧ TriplesOk ps.toList) → q.2.2 c h → Heap.ExtBut 144 h h' → q.2.2 c h' := by
  intro q hq c h h' ⟨ps, hP, ht⟩ hc hx
  rcases List.mem_cons.mp hq with rfl | hq
  · trivial
  rcases List.mem_cons.mp hq with rfl | hq
  · trivial
  obtain rfl := List.mem_singleton.mp hq
  obtain ⟨P', hC, hT, n94, n144, hg⟩ := hc
  refine ⟨P', codeHd_move hC fun b o e hf hcl => hx b o (fun q => ?_) e, ?_, n94, n144, hg⟩
  · rw [q, hP] at e; cases e; cases hcl
  · obtain ⟨p2, e2, t2, q2⟩ := hT
    refine ⟨p2, hx _ _ n144 e2, t2, fun q hm => ?_⟩
    rcases q2 q hm with h0 | ⟨c', h1, h2, h3, h4⟩
    · exact .inl h0
    · have hc' := tab_ne hP ht h3
      refine .inr ⟨c', h1, h2, codeRec_at h3 fun o e => hx _ _ hc' e, ?_⟩
      obtain rfl := List.mem_singleton.mp hm
      trivial
theorem lawAl_pos {g : Heap} {q0 : TabE} (h0 : q0 ∈ lawAl g) : ∀ q ∈ lawAl g, (q.1.line = q0.1.line ∧ q.1.col = q0.1.col) → q = q0 := by
  intro q hq h
  have h3 : ∀ {a : TabE}, a ∈ lawAl g → a = (posA, qualL, fun _ _ => True) ∨ a = (posB, qualL, fun _ _ => True) ∨ a = (posC, qualL, tabX g) := fun ha => by
    rcases List.mem_cons.mp ha with rfl | ha
    · exact .inl rfl
    rcases List.mem_cons.mp ha with rfl | ha
    · exact .inr (.inl rfl)
    exact .inr (.inr (List.mem_singleton.mp ha))
  rcases h3 h0 with rfl | rfl | rfl <;> rcases h3 hq with rfl | rfl | rfl <;> first | rfl | exact absurd (show (_ : Nat) = _ from h.1) (by show ¬ ((127 : Nat) = 132); decide) | exact absurd (show (127 : Nat) = 138 from h.1) (by decide) | exact absurd (show (132 : Nat) = 138 from h.1) (by decide) | exact absurd (show (138 : Nat) = 127 from h.1) (by decide) | exact absurd (show (138 : Nat) = 132 from h.1) (by decide) | exact absurd (show (132 : Nat) = 127 from h.1) (by decide)
section
variable {g h h' : Heap} {L cl pt rl dl : Addr} {host : Str} {xs ys : List Str} {m cm m' cm' : Str → Option Value}
/-- a lambda is made -/
theorem LW.lam (W : LW g L cl pt rl dl host xs ys h m cm) (hx : Heap.ExtBut 144 h h') (ht : TabOk h' 144 (lawAl g)) (hg : g.get? 144 = none) : LW g L cl pt rl dl host xs ys h' m cm := by
  obtain ⟨ps, hP, _⟩ := id W.t144
  refine W.move ⟨W.F.ns.extBut hx (fun q => ?_), fun b o e => hx b o (fun q => ?_) (W.F.keep b o e), W.F.above⟩ (cl_move W.C fun c v hc => ?_) rfl rfl rfl rfl (fun b o e n => hx b o (fun q => ?_) e) (W.t94.at fun o e => hx _ _ (by decide) e) ht
  · obtain ⟨o, es, ep, e, d, _⟩ := W.F.ns
    rw [q, hP] at e; cases e; cases d
  · rw [q, hg] at e; cases e
  · obtain ⟨o, e, d⟩ := hc
    refine ⟨o, hx _ _ (fun q => ?_) e, d⟩
    rw [q, hP] at e; cases e; cases d
  · obtain ⟨_, _, d⟩ := n
    rw [q, hP] at e; cases e; cases d
end
section
variable {M : Model} {A : Around} {E : Value → Shared → Prop} {s : Shared} {env : Env} {g : Heap} {L cl pt rl dl : Addr} {host : Str} {xs ys : List Str} {m cm : Str → Option Value}
theorem law_lam {p : Program} {loose : List Str} {mean : ExcName → Option Value} {mg mb : Str → Option Value} {params : Arguments} {body : Expr} {scope : Scope} {clos : List (Str × Addr)} {Q : Value → Shared → Prop} {pos : Pos} {X : Addr → Heap → Prop} (T : Top p loose mean mg mb s.heap)
    (W : LW g L cl pt rl dl host xs ys s.heap m cm) (C : CodeHd s.heap 146 144) (hg : g.get? 144 = none) (hm : (pos, qualL, X) ∈ lawAl g) (hX : X = (fun _ _ => True) ∨ X = tabX g)
    (hdef : defaultsOf params env = ([], [])) (hcl : closureFor scope env = pure clos) (hge0 : env.globals = mainGlobals) (hc : env.code = .ref 146) (hq : qualL = env.qual ++ "<lambda>")
    (h : ∀ f c' pm ctv h' tk, Heap.ExtBut 144 s.heap h' → LW g L cl pt rl dl host xs ys h' m cm → s.heap.objs.size ≤ f → s.heap.objs.size ≤ h'.objs.size → h'.get? f = some (kla_obj "<lambda>" qualL params body scope clos pm c' ctv) → h'.CodeRec (.ref c') qualL → X c' h' → Q (.ref f) { s with heap := h', toks := tk }) :
    wpAny M A (eval (.Lambda params body scope pos) env) Q E s := by
  refine make_lam (al := lawAl g) (qual := qualL) (X := X) T hdef hcl hge0 hc C W.t144 hq hm (lawAl_pos hm) lawAl_keep ?_ ?_
  · intro c' P' h' hP' hic hta
    rcases hX with rfl | rfl
    · trivial
    · have l94 : 91 < s.heap.objs.size := let ⟨_, e, _⟩ := W.t94; Heap.lt_size e
      have l144 : 144 < s.heap.objs.size := let ⟨_, e, _⟩ := W.t144; Heap.lt_size e
      refine ⟨P', CodeHd.of hic hta, ⟨#[], hta.2, trivial, fun q hq => .inl rfl⟩, Nat.ne_of_gt (Nat.lt_of_lt_of_le l94 hP'), Nat.ne_of_gt (Nat.lt_of_lt_of_le l144 hP'), ?_⟩
      cases q : g.get? P' with
      | none => rfl
      | some o => exact absurd (Nat.lt_of_lt_of_le (Heap.lt_size (W.F.keep _ _ q)) hP') (Nat.lt_irrefl _)
  · intro f c' pm ctv h' tk hx hf hz ho hr hX' ht
    exact h f c' pm ctv h' tk hx (W.lam hx ht hg) hf hz ho hr hX'
end
section
variable {prog : Program} {w : World} {A : Around} {E : Value → Shared → Prop} {s : Shared}
theorem mk_range {n : Int} {t : Tok} {Q : Value → Shared → Prop} (h : ∀ r h' tk t1 t2 t3, IsRange h' r 0 n 1 t1 t2 t3 → Kp s.heap h' → s.heap.get? r = none → s.heap.objs.size ≤ h'.objs.size → Q (.ref r) { s with heap := h', toks := tk }) :
    wpAny (model prog w) A (call (.type "range") [.int n t]) Q E s :=
  call_range_1 (h _ _ _ _ _ _ (Heap.get?_push_size _ rfl) (fun _ _ e => Heap.get?_push_of_some _ e) (Heap.get?_none_of_le (Nat.le_refl _)) (by rw [Heap.size_push]; exact Nat.le_succ _))
end
section
variable {M : Model} {A : Around} {E : Value → Shared → Prop} {s : Shared}
theorem is_str_ref {x : Str} {t : Tok} {a : Addr} {Q : Value → Shared → Prop} (h : Q (.bool false) s) : wpAny M A (compareOp .Is (.str x t) (.ref a)) Q E s := by
  show wpAny _ A (do return .bool (← isSame (.str x t) (.ref a))) Q E s
  exact wpAny_bind (wpAny_of_eq (show isSame (.str x t) (.ref a) = pure false from rfl) (wpAny_pure h))
end
end Mine

end
section -- LO
theorem Mine.offLO : True ∧ True := by
  w_top off
  first | (walk1; all_goals trivial) | exact ⟨trivial, trivial⟩
namespace Mine
open PySem PySem.W PyProof.Rows PySem.Spec PySem.Calls
theorem strs_snoc {vs : List Value} {xs : List Str} {x : Str} {t : Tok} (h : StrsAre vs xs) : StrsAre (vs ++ [.str x t]) (xs ++ [x]) := by
  induction h with
  | nil => exact .cons _ _ .nil
  | cons y t _ ih => exact .cons _ _ ih
/-- the numbers that are told are no longer than a text -/
def NumOk (x : Str) : Prop := ∀ n, parseO (cp x) = .told n → -(10 ^ 100 : Int) < n ∧ n < 10 ^ 100
theorem numOk_of {x : Str} {hd rest : List Nat} {ds : List Int} (h : parseO (cp x) = dueO hd rest ds) (hl : rest.length ≤ 38) : NumOk x := by
  intro n hn
  rw [h] at hn
  have key : ∀ {l : List Nat} {o : Option Int}, (o = none ∨ ∃ l', o = numL l' ∧ l'.length ≤ 38) → numO o = .told n → -(10 ^ 100 : Int) < n ∧ n < 10 ^ 100 := by
    intro l o ho e
    rcases ho with rfl | ⟨l', rfl, hl'⟩
    · cases e
    · cases q : numL l' with
      | none => rw [q] at e; cases e
      | some k =>
        rw [q] at e
        have : k = n := by injection e
        subst this
        have := num_bound q hl'
        have h1 : (10 : Int) ^ 38 ≤ 10 ^ 100 := by decide +kernel
        omega
  unfold dueO at hn
  split at hn
  · cases hn
  · split at hn
    · cases hn
    · unfold dueIn at hn
      split at hn
      · cases hn
      · refine key (l := []) ?_ hn
        split
        · refine .inr ⟨_, rfl, ?_⟩
          have hin : ((spl 41 (behindL rest)).headD []).length ≤ (behindL rest).length := by
            rw [← headD_getD, List.getD_eq_getElem?_getD]
            cases q : (spl 41 (behindL rest))[0]? with
            | none => exact Nat.zero_le _
            | some p =>
              have h1 := spl_total 41 (behindL rest)
              have h2 := len_sum (List.mem_of_getElem? q)
              show p.length ≤ _
              omega
          generalize (spl 41 (behindL rest)).headD [] = ins at *
          have hp : ((spl (ins.headD 0) ins).getD 3 []).length ≤ ins.length := by
            rw [List.getD_eq_getElem?_getD]
            cases q : (spl (ins.headD 0) ins)[3]? with
            | none => exact Nat.zero_le _
            | some p =>
              have h1 := spl_total (ins.headD 0) ins
              have h2 := len_sum (List.mem_of_getElem? q)
              show p.length ≤ _
              omega
          have := behind_len rest
          omega
        · exact .inl rfl
theorem outAt_bad {h : Heap} {x host : Str} {v : Value} {n : Int} (a : OutAt h (badText (badO x)) host v (outOf (badO x) n)) (b : badO x = none → parseO (cp x) = .told n) : OutAt h x host v (parseO (cp x)) := by
  unfold badO at a b
  cases q : parseO (cp x) with
  | reply => rw [q] at a; exact a
  | proto => rw [q] at a; exact a
  | value => rw [q] at a; exact a
  | told k =>
    rw [q] at a b
    have := b rfl
    injection this with this
    subst this
    exact a
section
variable {prog : Program} {w : World} {A : Around} {E : Value → Shared → Prop} {s : Shared} {Q : Value → Shared → Prop}
theorem eq_strs {x : Str} {t u : Tok} {A' : Around} : SeqAt.EqAt A' s (.str x t) (.str x u) true := by
  have := SeqAt.EqAt.str_str (A := A') (s := s) x t x u
  rwa [beq_self_eq_true] at this
theorem eq_pairs {D D' : Addr} {x : Str} {n : Int} {t u t' u' : Tok} {A' : Around} (h : s.heap.IsTuple D #[.str x t, .int n u]) (h' : s.heap.IsTuple D' #[.str x t', .int n u']) (hu : A'.units < cLine) : SeqAt.EqAt A' s (.ref D) (.ref D') true := by
  by_cases hD : D = D'
  · subst hD; exact SeqAt.EqAt.same _
  · refine SeqAt.EqAt.of_refs hD ?_
    refine (SeqAt.RcAt.tuples (e := fun _ => true) h h' hu fun j h1 h2 => ?_ : SeqAt.RcAt A' s (.ref D) (.ref D') _)
    match j, h1, h2 with
    | 0, _, _ => exact eq_strs
    | 1, _, _ =>
      have := SeqAt.EqAt.int_int (A := A'.in1) (s := s) n u n u'
      rwa [beq_self_eq_true] at this
/-- two tellings of one outcome are the same -/
theorem ne_out {x host : Str} {v v' : Value} {o : Out} (a : OutAt s.heap x host v o) (b : OutAt s.heap x host v' o) (hu : A.units + 10 < cLine) (h : Q (.bool false) s) : wpAny (model prog w) A (compareOp .NotEq v v') Q E s := by
  have two : ∀ {D D' : Addr} {k k' x y : Str} {t u t' u' : Tok}, k = k' → x = y → s.heap.IsTuple D #[.str k t, .str x u] → s.heap.IsTuple D' #[.str k' t', .str y u'] → SeqAt.RcNeAt A s (.ref D) (.ref D') false := by
    intro D D' k k' x y t u t' u' e1 e2 h1 h2
    subst e1 e2
    refine (SeqAt.RcNeAt.tuples (e := fun _ => true) h1 h2 (by omega) fun j h1 h2 => ?_ : SeqAt.RcNeAt A s (.ref D) (.ref D') _)
    match j, h1, h2 with
    | 0, _, _ => exact eq_strs
    | 1, _, _ => exact eq_strs
  cases o with
  | reply =>
    obtain ⟨D, t, u, rfl, q⟩ := a
    obtain ⟨D', t', u', rfl, q'⟩ := b
    exact EqBoolInt.of_rcne (two rfl rfl q q') h
  | proto =>
    obtain ⟨D, t, u, rfl, q⟩ := a
    obtain ⟨D', t', u', rfl, q'⟩ := b
    exact EqBoolInt.of_rcne (two rfl rfl q q') h
  | value =>
    obtain ⟨D, t, u, rfl, q⟩ := a
    obtain ⟨D', t', u', rfl, q'⟩ := b
    exact EqBoolInt.of_rcne (two rfl rfl q q') h
  | told n =>
    obtain ⟨D, t, D2, u, t3, t4, rfl, q, q2⟩ := a
    obtain ⟨D', t', D2', u', t3', t4', rfl, q', q2'⟩ := b
    refine EqBoolInt.of_rcne (SeqAt.RcNeAt.tuples (e := fun _ => true) q q' (by omega) fun j h1 h2 => ?_ : SeqAt.RcNeAt A s (.ref D) (.ref D') _) h
    match j, h1, h2 with
    | 0, _, _ => exact eq_strs
    | 1, _, _ => exact eq_pairs q2 q2' (by show A.units + _ < _; omega)
    | 2, _, _ => exact eq_strs
theorem sub_last {l : Addr} {vs : List Value} {v : Value} {value slice : Expr} {u : Tok} (hl : s.heap.IsList l (List.toArray (vs ++ [v]))) (h : Q v s)
    (hs : subscripted slice false (.ref l) (.int (-1) u) = operate [.ref l, .int (-1) u] (getItem (.ref l) (.int (-1) u)) := by with_unfolding_all rfl) :
    wpAny (model prog w) A (subscriptTail value slice (.ref l) (.int (-1) u)) Q E s :=
  tail_any hl.typeIs slot_list_getitem.lookup (wpAny_getItem_list_neg hl (by decide) (by simp; omega) (by decide) (by simp only [List.size_toArray, List.length_append, List.length_singleton]; rw [show (-1 + ((vs.length + 1 : Nat) : Int)).toNat = vs.length by omega]; simp) h) hs
theorem sub_tup0 {D : Addr} {a b : Value} {value slice : Expr} {u : Tok} (ht : s.heap.IsTuple D #[a, b]) (h : Q a s)
    (hs : subscripted slice false (.ref D) (.int 0 u) = operate [.ref D, .int 0 u] (getItem (.ref D) (.int 0 u)) := by with_unfolding_all rfl) :
    wpAny (model prog w) A (subscriptTail value slice (.ref D) (.int 0 u)) Q E s :=
  tail_any (IsTup.typeIs ht) slot_tuple_getitem.lookup (PyProof.Rows.getItem_tuple ht (by decide) (by decide) (j := 0) rfl rfl h) hs
end
section
variable {g h h' g' : Heap} {L cl pt rl dl : Addr} {host : Str} {xs ys : List Str} {m cm m' cm' : Str → Option Value}
/-- a call is caught: the frame's slots alone are changed -/
theorem LW.turn {T : List Addr} (W : LW g L cl pt rl dl host xs ys h m cm) (K : KtsTurn [L] (gh T h) g') (k : ∀ b o, g'.get? b = some o → h'.get? b = some o) (hT : ∀ b ∈ T, g.get? b = none ∧ b ≠ 91 ∧ ∃ ps, h.get? b = some (tabObj ps)) (t144 : TabOk h' 144 (lawAl g)) :
    LW g L cl pt rl dl host xs ys h' m cm := by
  have kk : ∀ b o, h.get? b = some o → b ≠ L → b ∉ T → h'.get? b = some o := fun b o e h1 h2 => k _ _ (K.other b o (gh_get e h2) fun q => h1 (List.mem_singleton.mp q))
  have tabno : ∀ b o, h.get? b = some o → (∀ ps, o ≠ tabObj ps) → b ∉ T := fun b o e q hm => by
    obtain ⟨_, _, ps, e2⟩ := hT b hm
    rw [e2] at e; cases e; exact q ps rfl
  have hLT : L ∉ T := fun hm => by
    obtain ⟨_, _, ps, e2⟩ := hT L hm
    obtain ⟨o, es, ep, e, d, _⟩ := W.F.ns
    rw [e2] at e; cases e; cases d
  obtain ⟨oL, es, ep, eL, dL, rL⟩ := id W.F.ns
  have notL : ∀ b o, h.get? b = some o → (∀ es n, o.data ≠ .dict es n) → b ≠ L := fun b o e q hb => by
    rw [hb, eL] at e; cases e; exact q _ _ dL
  refine W.move ⟨?_, fun b o e => kk b o (W.F.keep b o e) (fun q => ?_) (fun hm => ?_), W.F.above⟩ (cl_move W.C fun c v hc => ?_) rfl rfl rfl rfl (fun b o e n => ?_) (W.t94.at fun o e => ?_) t144
  · obtain ⟨sl, e⟩ := K.frame L oL (gh_get eL hLT) (List.mem_singleton.mpr rfl)
    exact ⟨_, es, ep, k _ _ e, dL, rL⟩
  · rw [q] at e; exact absurd (Nat.lt_of_lt_of_le (Heap.lt_size e) W.F.above) (Nat.lt_irrefl _)
  · rw [(hT b hm).1] at e; cases e
  · obtain ⟨o, e, d⟩ := hc
    exact ⟨o, kk _ _ e (notL _ _ e fun _ _ q => by rw [d] at q; cases q) (tabno _ _ e fun ps q => by rw [q] at d; cases d), d⟩
  · obtain ⟨vs, n, d⟩ := n
    exact kk _ _ e (notL _ _ e fun _ _ q => by rw [d] at q; cases q) (tabno _ _ e fun ps q => by rw [q] at d; cases d)
  · obtain ⟨ps, e9, _⟩ := W.t94
    rw [e9] at e; cases e
    exact kk _ _ e9 (notL _ _ e9 fun _ _ q => by cases q) fun hm => (hT 91 hm).2.1 rfl
theorem LW.turn0 (W : LW g L cl pt rl dl host xs ys h m cm) (K : KtsTurn [L] (gh [] h) g') (k : ∀ b o, g'.get? b = some o → h'.get? b = some o) : LW g L cl pt rl dl host xs ys h' m cm := by
  refine W.turn K k (fun _ q => nomatch q) (law_tab W.t94 W.t144 fun b o e hf hr _ => k _ _ (K.other b o (gh_get e (fun q => nomatch q)) fun q => ?_))
  obtain ⟨oL, es, ep, eL, dL, rL⟩ := id W.F.ns
  rw [List.mem_singleton.mp q, eL] at e; cases e
  obtain ⟨_, d⟩ := hf
  rw [dL] at d; cases d
end
end Mine

end
section -- PN
theorem Mine.offPN : True ∧ True := by
  w_top off
  first | (walk1; all_goals trivial) | exact ⟨trivial, trivial⟩
namespace Mine
open PySem PySem.NumText
/-- what digits? reads, told by the runs between the underlines -/
theorem digits_spl : ∀ (cs p : List Nat) (r : List (List Nat)) (acc : Array Nat) (fl : Bool), spl 95 cs = p :: r →
    ((cs.foldlM (step 10) (acc, fl)).bind fun q => if q.2 then some q.1 else none) =
      if (digs p && (fl || !p.isEmpty) && r.all runOk) = true then some (acc ++ ((p :: r).flatten.map (· - 48)).toArray) else none := by
  intro cs
  induction cs with
  | nil =>
    intro p r acc fl h
    rw [show spl 95 [] = [[]] from rfl] at h
    obtain ⟨rfl, rfl⟩ := List.cons.inj h
    show (if fl = true then some acc else none) = _
    cases fl <;> simp [digs]
  | cons c cs ih =>
    intro p r acc fl h
    obtain ⟨p', r', e⟩ := spl_ne 95 cs
    rw [List.foldlM_cons]
    by_cases hc : c = 95
    · subst hc
      rw [spl_hit] at h
      obtain ⟨rfl, h2⟩ := List.cons.inj h
      subst h2
      rw [e]
      cases fl with
      | false => simp [NumText.step]
      | true =>
        show ((cs.foldlM (step 10) (acc, false)).bind _) = _
        rw [ih p' r' acc false e]
        have e1 : runOk p' = (digs p' && !p'.isEmpty) := by unfold runOk; rw [Bool.and_comm]
        simp only [List.all_cons, e1, Bool.false_or, List.isEmpty_nil, Bool.not_true, Bool.or_false, List.flatten_cons, List.nil_append]
        have e2 : digs [] = true := rfl
        rw [e2]
        simp
    · rw [spl_miss hc e] at h
      obtain ⟨rfl, rfl⟩ := List.cons.inj h
      by_cases hd : 48 ≤ c ∧ c ≤ 57
      · rw [step_digit hd]
        show ((cs.foldlM (step 10) (acc.push (c - 48), true)).bind _) = _
        rw [ih p' r' _ true e]
        have e1 : digs (c :: p') = digs p' := by simp [digs, hd.1, hd.2]
        rw [e1]
        simp
      · have hs : step 10 (acc, fl) c = none := by
          unfold NumText.step
          rw [if_neg (by simpa using hc)]
          unfold digit?
          rw [if_neg (by simpa using fun a => by omega)]
          by_cases h1 : 97 ≤ c ∧ c ≤ 122
          · rw [if_pos (by simpa using h1)]
            exact if_neg (by omega)
          · rw [if_neg (by simpa using fun a => by omega)]
            by_cases h2 : 65 ≤ c ∧ c ≤ 90
            · rw [if_pos (by simpa using h2)]
              exact if_neg (by omega)
            · rw [if_neg (by simpa using fun a => by omega)]
        rw [hs]
        have e1 : digs (c :: p') = false := by
          simp only [digs, List.all_cons]
          rw [show (decide (48 ≤ c) && decide (c ≤ 57)) = false by simpa using fun a => by omega]
          rfl
        rw [e1]
        simp
theorem digits_runs (cs : List Nat) : digits? 10 cs = if (spl 95 cs).all runOk = true then some ((spl 95 cs).flatten.map (· - 48)).toArray else none := by
  obtain ⟨p, r, e⟩ := spl_ne 95 cs
  unfold digits?
  rw [digits_spl cs p r #[] false e, e]
  have e1 : runOk p = (digs p && !p.isEmpty) := by unfold runOk; rw [Bool.and_comm]
  simp only [List.all_cons, e1, Bool.false_or]
  simp
theorem dig_fold : ∀ (l : List Nat) (a : Nat), digs l = true → l.foldl dig (a : Int) = ((l.foldl (fun acc c => acc * 10 + (c - 48)) a : Nat) : Int)
  | [], _, _ => rfl
  | c :: l, a, h => by
    have h' : (48 ≤ c ∧ c ≤ 57) ∧ digs l = true := by simpa [digs] using h
    rw [List.foldl_cons, List.foldl_cons, ← dig_fold l _ h'.2]
    congr 1
    unfold dig
    omega
theorem runs_fold : ∀ (rs : List (List Nat)) (a : Nat), rs.all runOk = true → rs.foldl (fun a l => l.foldl dig a) (a : Int) = ((rs.flatten.foldl (fun acc c => acc * 10 + (c - 48)) a : Nat) : Int)
  | [], _, _ => rfl
  | l :: rs, a, h => by
    have h' : runOk l = true ∧ rs.all runOk = true := by simpa using h
    have hl : digs l = true := by
      have := h'.1; unfold runOk at this; simp only [Bool.and_eq_true] at this; exact this.2
    rw [List.foldl_cons, dig_fold l a hl, runs_fold rs _ h'.2, List.flatten_cons, List.foldl_append]
theorem worth_runs {n : Bool} {rs : List (List Nat)} (h : rs.all runOk = true) : worth n (rs.flatten.map (· - 48)).toArray = if n = true then - numOf rs else numOf rs := by
  unfold worth numOf
  have e : (rs.flatten.map (· - 48)).toArray.foldl (fun acc d => acc * 10 + d) 0 = rs.flatten.foldl (fun acc c => acc * 10 + (c - 48)) 0 := by
    rw [← Array.foldl_toList]
    show (rs.flatten.map (· - 48)).foldl _ 0 = _
    rw [List.foldl_map]
  have e2 := runs_fold rs 0 h
  rw [e]
  rw [show ((0 : Nat) : Int) = 0 from rfl] at e2
  rw [e2]
theorem spl_flat_len (c : Nat) : ∀ l : List Nat, (spl c l).flatten.length ≤ l.length
  | [] => Nat.le_refl _
  | a :: l => by
    obtain ⟨p, r, e⟩ := spl_ne c l
    have ih := spl_flat_len c l
    by_cases h : a = c
    · subst h; rw [spl_hit]; simp only [List.flatten_cons, List.nil_append, List.length_cons]; omega
    · rw [spl_miss h e]; rw [e] at ih; simp only [List.flatten_cons, List.length_append, List.length_cons] at ih ⊢; omega
def rstrip (l : List Nat) : List Nat := (l.reverse.dropWhile blank).reverse
theorem dropW_blank {l r : List Nat} (h : ∀ c ∈ l, c = 32) : (l ++ r).dropWhile blank = r.dropWhile blank := by
  induction l with
  | nil => rfl
  | cons a l ih =>
    have ha := h a List.mem_cons_self
    subst ha
    rw [List.cons_append, List.dropWhile_cons, if_pos (by decide), ih fun c hc => h c (List.mem_cons_of_mem _ hc)]
theorem blank_no {c : Nat} (h : 32 ≤ c) (hn : c ≠ 32) : blank c = false := blank_of (by omega)
theorem rstrip_free {u r : List Nat} (hr : ∀ c ∈ r, c = 32) (hu : ∀ c ∈ u, 32 ≤ c ∧ c ≠ 32) : rstrip (u ++ r) = u := by
  unfold rstrip
  rw [List.reverse_append, dropW_blank fun c hc => hr c (List.mem_reverse.mp hc)]
  have : u.reverse.dropWhile blank = u.reverse := by
    cases e : u.reverse with
    | nil => rfl
    | cons a l =>
      have ha := hu a (List.mem_reverse.mp (e ▸ List.mem_cons_self))
      rw [List.dropWhile_cons, if_neg (by rw [blank_no ha.1 ha.2]; decide)]
  rw [this, List.reverse_reverse]
theorem rstrip_keep {u v : List Nat} {c : Nat} (hc : blank c = false) : ∃ v', rstrip (u ++ c :: v) = u ++ c :: v' := by
  unfold rstrip
  rw [List.reverse_append, List.reverse_cons, List.append_assoc]
  have : ∀ (w z : List Nat), ∃ w', (w ++ ([c] ++ z)).dropWhile blank = w' ++ ([c] ++ z) := by
    intro w z
    induction w with
    | nil => exact ⟨[], by rw [List.nil_append, List.singleton_append, List.dropWhile_cons, if_neg (by rw [hc]; decide)]⟩
    | cons a w ih =>
      by_cases ha : blank a = true
      · obtain ⟨w', e⟩ := ih
        exact ⟨w', by rw [List.cons_append, List.dropWhile_cons, if_pos ha, e]⟩
      · exact ⟨a :: w, by rw [List.cons_append, List.dropWhile_cons, if_neg ha]⟩
  obtain ⟨w', e⟩ := this v.reverse u.reverse
  exact ⟨w'.reverse, by rw [e]; simp⟩
theorem mem_spl_back {k c : Nat} (h : c ≠ k) : ∀ {l : List Nat}, c ∈ l → ∃ p ∈ spl k l, c ∈ p
  | a :: l, hm => by
    obtain ⟨p, r, e⟩ := spl_ne k l
    by_cases ha : a = k
    · subst ha
      rw [spl_hit]
      rcases List.mem_cons.mp hm with q | q
      · exact absurd q h
      · obtain ⟨p', h1, h2⟩ := mem_spl_back h q
        exact ⟨p', List.mem_cons_of_mem _ h1, h2⟩
    · rw [spl_miss ha e]
      rcases List.mem_cons.mp hm with q | q
      · subst q; exact ⟨_, List.mem_cons_self, List.mem_cons_self⟩
      · obtain ⟨p', h1, h2⟩ := mem_spl_back h q
        rw [e] at h1
        rcases List.mem_cons.mp h1 with rfl | h1
        · exact ⟨_, List.mem_cons_self, List.mem_cons_of_mem _ h2⟩
        · exact ⟨p', List.mem_cons_of_mem _ h1, h2⟩
theorem runs_mem {l : List Nat} {c : Nat} (hc : c ∈ l) (h95 : c ≠ 95) (hd : ¬ (48 ≤ c ∧ c ≤ 57)) : (spl 95 l).all runOk = false := by
  obtain ⟨p, hp, hcp⟩ := mem_spl_back h95 hc
  cases q : (spl 95 l).all runOk with
  | false => rfl
  | true =>
    have h1 := List.all_eq_true.mp q p hp
    unfold runOk digs at h1
    simp only [Bool.and_eq_true, List.all_eq_true, decide_eq_true_eq] at h1
    exact absurd (h1.2 c hcp) hd
theorem sign_core (b : List Nat) (r : List Nat) (hne : b ≠ []) : sign (b ++ r) = (decide (b.head? = some 45), coreL b ++ r) := by
  cases b with
  | nil => exact absurd rfl hne
  | cons a b =>
    by_cases h1 : a = 45
    · subst h1; rfl
    · by_cases h2 : a = 43
      · subst h2; rfl
      · show sign (a :: (b ++ r)) = _
        rw [sign_of h1 h2]
        unfold coreL
        rw [if_neg (by simpa using ⟨h2, h1⟩)]
        simp [h1]
theorem coreL_free {b : List Nat} (h : ∀ c ∈ b, 32 ≤ c ∧ c ≠ 32) : ∀ c ∈ coreL b, 32 ≤ c ∧ c ≠ 32 := fun c hc => h c (mem_core hc)
/-- the plain reader's bodies -/
theorem bods_free {b r : List Nat} (hb : 32 ∉ b) (hne : b ≠ []) (hr : r = [] ∨ ∃ v, r = 32 :: v) : (spl 32 (b ++ r)).filter (fun p => !p.isEmpty) = b :: (spl 32 r).filter (fun p => !p.isEmpty) := by
  have e1 : b.isEmpty = false := by cases b with
    | nil => exact absurd rfl hne
    | cons => rfl
  rcases hr with rfl | ⟨v, rfl⟩
  · rw [List.append_nil, spl_free hb, show spl 32 [] = [[]] from rfl]
    simp [e1]
  · rw [spl_app v hb, spl_hit]
    simp [e1]
theorem bods_blank {l : List Nat} (h : ∀ c ∈ l, c = 32) : (spl 32 l).filter (fun p => !p.isEmpty) = [] := by
  induction l with
  | nil => rfl
  | cons a l ih =>
    have ha := h a List.mem_cons_self
    subst ha
    rw [spl_hit, List.filter_cons_of_neg (by simp), ih fun c hc => h c (List.mem_cons_of_mem _ hc)]
theorem bods_lead {l r : List Nat} (h : ∀ c ∈ l, c = 32) : (spl 32 (l ++ r)).filter (fun p => !p.isEmpty) = (spl 32 r).filter (fun p => !p.isEmpty) := by
  induction l with
  | nil => rfl
  | cons a l ih =>
    have ha := h a List.mem_cons_self
    subst ha
    rw [List.cons_append, spl_hit, List.filter_cons_of_neg (by simp), ih fun c hc => h c (List.mem_cons_of_mem _ hc)]
theorem bods_some {l : List Nat} {c : Nat} (hc : c ∈ l) (h : c ≠ 32) : (spl 32 l).filter (fun p => !p.isEmpty) ≠ [] := by
  obtain ⟨p, hp, hcp⟩ := mem_spl_back h hc
  intro q
  have : p ∈ (spl 32 l).filter (fun p => !p.isEmpty) := List.mem_filter.mpr ⟨hp, by
    cases p with
    | nil => cases hcp
    | cons => rfl⟩
  rw [q] at this; cases this
theorem cut_body : ∀ l : List Nat, ∃ b r, l = b ++ r ∧ 32 ∉ b ∧ (r = [] ∨ ∃ v, r = 32 :: v)
  | [] => ⟨[], [], rfl, by simp, .inl rfl⟩
  | a :: l => by
    by_cases h : a = 32
    · subst h; exact ⟨[], 32 :: l, rfl, by simp, .inr ⟨l, rfl⟩⟩
    · obtain ⟨b, r, e, h1, h2⟩ := cut_body l
      exact ⟨a :: b, r, by rw [e]; rfl, by simpa using ⟨fun q => h q.symm, h1⟩, h2⟩
theorem cut_lead : ∀ l : List Nat, ∃ u v, l = u ++ v ∧ (∀ c ∈ u, c = 32) ∧ v.head? ≠ some 32
  | [] => ⟨[], [], rfl, (fun _ h => nomatch h), by simp⟩
  | a :: l => by
    by_cases h : a = 32
    · obtain ⟨u, v, e, h1, h2⟩ := cut_lead l
      exact ⟨a :: u, v, by rw [e]; rfl, fun c hc => by
        rcases List.mem_cons.mp hc with rfl | hc
        · exact h
        · exact h1 c hc, h2⟩
    · exact ⟨[], a :: l, rfl, (fun _ q => nomatch q), by simpa using h⟩
def intA (l : List Nat) : Option Int := match digits? 10 (core l) with
  | some ds => if ds.size ≤ 4300 then some (worth (sign (l.dropWhile blank)).1 ds) else none
  | none => none
theorem intA_runs {l cs : List Nat} {n : Bool} (hs : sign (l.dropWhile blank) = (n, cs)) (hl : l.length ≤ 4300) : intA l = if (spl 95 (rstrip cs)).all runOk = true then some (if n = true then - numOf (spl 95 (rstrip cs)) else numOf (spl 95 (rstrip cs))) else none := by
  have hc : core l = rstrip cs := by unfold core; rw [hs]; rfl
  have hcl := core_length l
  unfold intA
  rw [hc, digits_runs, hs]
  rw [hc] at hcl
  by_cases h : (spl 95 (rstrip cs)).all runOk = true
  · rw [if_pos h, if_pos h]
    have hz : ((spl 95 (rstrip cs)).flatten.map (· - 48)).toArray.size ≤ 4300 := by
      have := spl_flat_len 95 (rstrip cs)
      simp only [List.size_toArray, List.length_map]; omega
    show (if _ ≤ 4300 then some (worth n _) else none) = _
    rw [if_pos hz, worth_runs h]
  · rw [if_neg h, if_neg h]
theorem intA_num {l : List Nat} (hl : l.length ≤ 4300) (ha : ∀ c ∈ l, 32 ≤ c) : intA l = numL l := by
  obtain ⟨u, v, rfl, hu, hv⟩ := cut_lead l
  have ha2 : ∀ c ∈ v, 32 ≤ c := fun c hc => ha c (List.mem_append_right _ hc)
  unfold numL
  rw [bods_lead hu]
  have hd : (u ++ v).dropWhile blank = v := by
    rw [dropW_blank hu]
    cases v with
    | nil => rfl
    | cons a v =>
      have h1 := ha2 a List.mem_cons_self
      rw [List.dropWhile_cons, if_neg (by rw [blank_no h1 (by simpa using hv)]; decide)]
  obtain ⟨b, r, rfl, hb, hr⟩ := cut_body v
  cases b with
  | nil =>
    rcases hr with rfl | ⟨r, rfl⟩
    · rw [intA_runs (cs := []) (n := false) (by rw [hd]; rfl) hl]
      rfl
    · simp at hv
  | cons a b =>
    have hbf : ∀ c ∈ a :: b, 32 ≤ c ∧ c ≠ 32 := fun c hc => ⟨ha2 c (List.mem_append_left _ hc), fun q => hb (q ▸ hc)⟩
    rw [bods_free hb (by simp) hr]
    rw [intA_runs (cs := coreL (a :: b) ++ r) (n := decide ((a :: b).head? = some 45)) (by rw [hd]; exact sign_core _ _ (by simp)) hl]
    by_cases hall : ∀ c ∈ r, c = 32
    · rw [rstrip_free hall (coreL_free hbf), bods_blank hall]
      show _ = bodyNum (a :: b)
      unfold bodyNum
      simp only [decide_eq_true_eq]
    · obtain ⟨c, hc⟩ : ∃ c, c ∈ r ∧ c ≠ 32 := by
        refine Classical.byContradiction fun q => hall fun c hc => Classical.byContradiction fun q2 => q ⟨c, hc, q2⟩
      have hne := bods_some hc.1 hc.2
      have h32 : 32 ∈ rstrip (coreL (a :: b) ++ r) := by
        rcases hr with rfl | ⟨v, rfl⟩
        · cases hc.1
        · have hcv : c ∈ v := by
            rcases List.mem_cons.mp hc.1 with q | q
            · exact absurd q hc.2
            · exact q
          obtain ⟨v1, v2, rfl⟩ := List.append_of_mem hcv
          have hcb := blank_no (ha2 c (List.mem_append_right _ hc.1)) hc.2
          obtain ⟨v', e⟩ := rstrip_keep (u := coreL (a :: b) ++ 32 :: v1) (v := v2) hcb
          have e2 : coreL (a :: b) ++ 32 :: (v1 ++ c :: v2) = (coreL (a :: b) ++ 32 :: v1) ++ c :: v2 := by simp
          rw [e2, e]
          simp
      rw [if_neg (by rw [runs_mem h32 (by decide) (by decide)]; decide)]
      cases q : (spl 32 r).filter (fun p => !p.isEmpty) with
      | nil => exact absurd q hne
      | cons => rfl
/-- no number in a text with a sign that no number bears -/
theorem numL_none {l : List Nat} {c : Nat} (hc : c ∈ l) (h : c ≠ 32 ∧ c ≠ 43 ∧ c ≠ 45 ∧ c ≠ 95 ∧ ¬ (48 ≤ c ∧ c ≤ 57)) : numL l = none := by
  unfold numL
  split
  · rename_i b hb
    have hcb : c ∈ b := by
      obtain ⟨p, hp, hcp⟩ := mem_spl_back h.1 hc
      have : p ∈ (spl 32 l).filter (fun p => !p.isEmpty) := List.mem_filter.mpr ⟨hp, by
        cases p with
        | nil => cases hcp
        | cons => rfl⟩
      rw [hb] at this
      rw [List.mem_singleton.mp this] at hcp
      exact hcp
    have hcc : c ∈ coreL b := by
      unfold coreL
      split
      · cases b with
        | nil => cases hcb
        | cons a b =>
          rename_i q
          rcases List.mem_cons.mp hcb with e | e
          · subst e
            rcases q with q | q
            · exact absurd (Option.some.inj q) h.2.1
            · exact absurd (Option.some.inj q) h.2.2.1
          · exact e
      · exact hcb
    unfold bodyNum
    rw [if_neg (by rw [runs_mem hcc h.2.2.2.1 h.2.2.2.2]; decide)]
  · rfl
/-- the signs of the law's texts -/
def Sign (c : Nat) : Prop := (32 ≤ c ∧ c < 127) ∨ c = 233
theorem numText_233 : ∀ {l : List Nat}, (∀ c ∈ l, Sign c) → 233 ∈ l → ∃ u, Unicode.numberText l = u ++ [63] ∧ ∀ c ∈ u, 32 ≤ c
  | a :: l, h, hm => by
    rcases h a List.mem_cons_self with ha | ha
    · have hm' : 233 ∈ l := by
        rcases List.mem_cons.mp hm with q | q
        · omega
        · exact q
      obtain ⟨u, e, hu⟩ := numText_233 (fun c hc => h c (List.mem_cons_of_mem _ hc)) hm'
      refine ⟨a :: u, ?_, fun c hc => ?_⟩
      · rw [Unicode.numberText, if_pos ha.2, e]; rfl
      · rcases List.mem_cons.mp hc with rfl | hc
        · exact ha.1
        · exact hu c hc
    · subst ha
      refine ⟨[], ?_, fun _ q => nomatch q⟩
      rw [Unicode.numberText, if_neg (by decide), if_neg (by decide +kernel)]
      rw [show Unicode.decimalValue? 233 = none by decide +kernel]
      rfl
theorem intL_num {l : List Nat} (hl : l.length ≤ 4300) (h : ∀ c ∈ l, Sign c) : intL l = numL l := by
  have seen : ∀ {m : List Nat}, (∀ c ∈ m, 32 ≤ c) → m.takeWhile (· != 0) = m := fun hm => takeWhile_all fun c hc => by
    have := hm c hc
    exact bne_iff_ne.mpr (by omega)
  by_cases h9 : 233 ∈ l
  · rw [numL_none h9 (by decide)]
    unfold intL
    obtain ⟨u, e, hu⟩ := numText_233 h h9
    have e1 : numTextOf ⟨l.toArray⟩ = u ++ [63] := by
      show (if _ then _ else Unicode.numberText l) = _
      rw [if_neg, e]
      rw [← Array.all_toList, List.all_eq_true]
      intro q
      have := q 233 h9
      simp at this
    have hall : ∀ c ∈ u ++ [63], 32 ≤ c := fun c hc => by
      rcases List.mem_append.mp hc with hc | hc
      · exact hu c hc
      · rw [List.mem_singleton.mp hc]; decide
    have e2 : numSeenOf ⟨l.toArray⟩ = u ++ [63] := by
      show (numTextOf ⟨l.toArray⟩).takeWhile _ = _
      rw [e1, seen hall]
    have e3 : digits? 10 (core (u ++ [63])) = none := by
      obtain ⟨c0, r0, e0⟩ : ∃ u', ∃ n, sign ((u ++ [63]).dropWhile blank) = (n, u' ++ [63]) := by
        have : ∃ u1, (u ++ [63]).dropWhile blank = u1 ++ [63] := by
          clear e e1 e2 hall hu
          induction u with
          | nil => exact ⟨[], rfl⟩
          | cons a u ih =>
            by_cases ha : blank a = true
            · obtain ⟨u1, e⟩ := ih
              exact ⟨u1, by rw [List.cons_append, List.dropWhile_cons, if_pos ha, e]⟩
            · exact ⟨a :: u, by rw [List.cons_append, List.dropWhile_cons, if_neg ha]⟩
        obtain ⟨u1, e⟩ := this
        rw [e]
        cases u1 with
        | nil => exact ⟨[], false, rfl⟩
        | cons a u1 =>
          rw [sign_core _ _ (by simp)]
          exact ⟨_, _, rfl⟩
      unfold core
      rw [e0]
      show digits? 10 (rstrip (c0 ++ [63])) = none
      obtain ⟨v', e4⟩ := rstrip_keep (u := c0) (v := []) (c := 63) (by decide)
      rw [e4, digits_runs, if_neg]
      rw [runs_mem (c := 63) (by simp) (by decide) (by decide)]; decide
    unfold PySem.intText?
    rw [e1, e2, if_pos (beq_self_eq_true _), e3]
  · have ha : ∀ c ∈ l, 32 ≤ c ∧ c < 127 := fun c hc => by
      rcases h c hc with q | q
      · exact q
      · exact absurd (q ▸ hc) h9
    rw [← intA_num hl fun c hc => (ha c hc).1]
    have e1 : numTextOf ⟨l.toArray⟩ = l := by
      refine if_pos ?_
      rw [← Array.all_toList, List.all_eq_true]
      intro c hc
      have := ha c hc
      exact decide_eq_true (by omega)
    have e2 : numSeenOf ⟨l.toArray⟩ = l := by
      show (numTextOf ⟨l.toArray⟩).takeWhile _ = _
      rw [e1, seen fun c hc => (ha c hc).1]
    unfold intL PySem.intText? intA
    rw [e1, e2, if_pos (beq_self_eq_true _)]
    rfl
end Mine

end
section -- PL
theorem Mine.offPL : True ∧ True := by
  w_top off
  first | (walk1; all_goals trivial) | exact ⟨trivial, trivial⟩
namespace Mine
open PySem
/-- a layer, sign by sign -/
def eL (d : Int) (c : Nat) : List Nat := if d = 0 then [c] else if d = 1 then (if c = 39 then [39, 34, 39, 34, 39] else [c]) else (if c = 34 then [34, 34] else [c])
def e3 (d0 d1 d2 : Int) (c : Nat) : List Nat := ((eL d0 c).flatMap (eL d1)).flatMap (eL d2)
theorem flatMap_one (l : List Nat) : l.flatMap (fun c => [c]) = l := by
  induction l with
  | nil => rfl
  | cons a l ih => rw [List.flatMap_cons, ih]; rfl
theorem eL_sub {d : Int} {c : Nat} (h : c = 34 ∨ c = 39) : ∀ x ∈ eL d c, x = 34 ∨ x = 39 := by
  unfold eL
  intro x hx
  split at hx
  · rw [List.mem_singleton.mp hx]; exact h
  · split at hx <;> split at hx
    all_goals simp at hx
    all_goals omega
theorem flat_sub {d : Int} {l : List Nat} (h : ∀ c ∈ l, c = 34 ∨ c = 39) : ∀ x ∈ l.flatMap (eL d), x = 34 ∨ x = 39 := fun x hx => by
  obtain ⟨c, hc, hx⟩ := List.mem_flatMap.mp hx
  exact eL_sub (h c hc) x hx
theorem laid_one {d : Int} (l : List Nat) : ∃ q, (∀ c ∈ q, c = 34 ∨ c = 39) ∧ laidL d l = q ++ l.flatMap (eL d) ++ q := by
  by_cases h0 : d = 0
  · subst h0
    refine ⟨[], (fun _ q => nomatch q), ?_⟩
    show l = [] ++ l.flatMap (fun c => [c]) ++ []
    rw [flatMap_one]; simp
  · by_cases h1 : d = 1
    · subst h1
      exact ⟨[39], (fun c hc => .inr (List.mem_singleton.mp hc)), rfl⟩
    · refine ⟨[34], (fun c hc => .inl (List.mem_singleton.mp hc)), ?_⟩
      have e1 : eL d = fun c => if c = 34 then [34, 34] else [c] := by funext c; unfold eL; rw [if_neg h0, if_neg h1]
      unfold laidL
      rw [if_neg h0, if_neg h1, e1]
      rfl
theorem laid_three {d0 d1 d2 : Int} (l : List Nat) : ∃ u v, (∀ c ∈ u, c = 34 ∨ c = 39) ∧ (∀ c ∈ v, c = 34 ∨ c = 39) ∧ laidL d2 (laidL d1 (laidL d0 l)) = u ++ l.flatMap (e3 d0 d1 d2) ++ v := by
  obtain ⟨q0, h0, e0⟩ := laid_one (d := d0) l
  obtain ⟨q1, h1, e1⟩ := laid_one (d := d1) (laidL d0 l)
  obtain ⟨q2, h2, e2⟩ := laid_one (d := d2) (laidL d1 (laidL d0 l))
  refine ⟨q2 ++ (q1 ++ q0.flatMap (eL d1)).flatMap (eL d2), (q0.flatMap (eL d1) ++ q1).flatMap (eL d2) ++ q2, ?_, ?_, ?_⟩
  · intro c hc
    rcases List.mem_append.mp hc with hc | hc
    · exact h2 c hc
    · refine flat_sub (fun c hc => ?_) c hc
      rcases List.mem_append.mp hc with hc | hc
      · exact h1 c hc
      · exact flat_sub h0 c hc
  · intro c hc
    rcases List.mem_append.mp hc with hc | hc
    · refine flat_sub (fun c hc => ?_) c hc
      rcases List.mem_append.mp hc with hc | hc
      · exact flat_sub h0 c hc
      · exact h1 c hc
    · exact h2 c hc
  · rw [e2, e1, e0]
    have e4 : l.flatMap (e3 d0 d1 d2) = ((l.flatMap (eL d0)).flatMap (eL d1)).flatMap (eL d2) := by
      show l.flatMap (fun c => ((eL d0 c).flatMap (eL d1)).flatMap (eL d2)) = _
      simp only [List.flatMap_assoc]
    rw [e4]
    simp only [List.flatMap_append, List.append_assoc]
/-- what is known of the three layers together -/
structure Enc (e : Nat → List Nat) : Prop where
  other : ∀ c, c ≠ 34 → c ≠ 39 → e c = [c]
  a : e 34 = List.replicate (e 34).length 34
  K : (e 34).length = 1 ∨ (e 34).length = 2 ∨ (e 34).length = 4 ∨ (e 34).length = 8
  b0 : (e 39).head? = some 39
  b1 : (e 39).getLast? = some 39
  b : ∀ c ∈ e 39, c = 34 ∨ c = 39
  J : (e 39).count 39 = 1 ∨ (e 39).count 39 = 3 ∨ (e 39).count 39 = 9 ∨ (e 39).count 39 = 27
  J1 : (e 39).count 39 = 1 → e 39 = [39]
  M : (e 34).length = 1 → e 39 = [39] ∨ e 39 = [39, 34, 39, 34, 39] ∨ 8 ≤ (e 39).count 34
theorem enc_all : ∀ d0 ∈ [(0 : Int), 1, 2], ∀ d1 ∈ [(0 : Int), 1, 2], ∀ d2 ∈ [(0 : Int), 1, 2],
    (e3 d0 d1 d2 34 = List.replicate (e3 d0 d1 d2 34).length 34 ∧ ((e3 d0 d1 d2 34).length = 1 ∨ (e3 d0 d1 d2 34).length = 2 ∨ (e3 d0 d1 d2 34).length = 4 ∨ (e3 d0 d1 d2 34).length = 8)) ∧
    ((e3 d0 d1 d2 39).head? = some 39 ∧ (e3 d0 d1 d2 39).getLast? = some 39) ∧
    (((e3 d0 d1 d2 39).count 39 = 1 ∨ (e3 d0 d1 d2 39).count 39 = 3 ∨ (e3 d0 d1 d2 39).count 39 = 9 ∨ (e3 d0 d1 d2 39).count 39 = 27) ∧ ((e3 d0 d1 d2 39).count 39 = 1 → e3 d0 d1 d2 39 = [39]) ∧
      ((e3 d0 d1 d2 34).length = 1 → e3 d0 d1 d2 39 = [39] ∨ e3 d0 d1 d2 39 = [39, 34, 39, 34, 39] ∨ 8 ≤ (e3 d0 d1 d2 39).count 34)) := by decide +kernel
theorem mem012 {d : Int} (h : 0 ≤ d ∧ d ≤ 2) : d ∈ [(0 : Int), 1, 2] := by
  have g : d = 0 ∨ d = 1 ∨ d = 2 := by omega
  rcases g with rfl | rfl | rfl <;> decide
theorem enc3 {d0 d1 d2 : Int} (h0 : 0 ≤ d0 ∧ d0 ≤ 2) (h1 : 0 ≤ d1 ∧ d1 ≤ 2) (h2 : 0 ≤ d2 ∧ d2 ≤ 2) : Enc (e3 d0 d1 d2) := by
  obtain ⟨⟨a, k⟩, ⟨b0, b1⟩, j, j1, m⟩ := enc_all d0 (mem012 h0) d1 (mem012 h1) d2 (mem012 h2)
  refine ⟨fun c q1 q2 => ?_, a, k, b0, b1, flat_sub (flat_sub (eL_sub (.inr rfl))), j, j1, m⟩
  have e1 : ∀ d, eL d c = [c] := fun d => by unfold eL; rw [if_neg q1, if_neg q2]; split <;> first | rfl | (split <;> rfl)
  unfold e3
  rw [e1 d0, List.flatMap_cons, e1 d1]
  simp [e1 d2]
theorem step_counts {d : Int} (h : 0 ≤ d ∧ d ≤ 2) (l : List Nat) : (((l.flatMap (eL d)).count 39 : Int), ((l.flatMap (eL d)).count 34 : Int)) = dueStep ((l.count 39 : Int), (l.count 34 : Int)) d := by
  have g : d = 0 ∨ d = 1 ∨ d = 2 := by omega
  rcases g with rfl | rfl | rfl
  · show (((l.flatMap fun c => [c]).count 39 : Int), ((l.flatMap fun c => [c]).count 34 : Int)) = _
    rw [flatMap_one]; simp [dueStep]
  · have e1 : (l.flatMap (eL 1)).count 39 = 3 * l.count 39 ∧ (l.flatMap (eL 1)).count 34 = l.count 34 + 2 * l.count 39 := by
      induction l with
      | nil => exact ⟨rfl, rfl⟩
      | cons a l ih =>
        rw [List.flatMap_cons, List.count_append, List.count_append, ih.1, ih.2]
        by_cases ha : a = 39
        · subst ha
          have q1 : (eL 1 39).count 39 = 3 := by decide
          have q2 : (eL 1 39).count 34 = 2 := by decide
          rw [q1, q2, List.count_cons_self, List.count_cons_of_ne (by decide)]; omega
        · have q : eL 1 a = [a] := by unfold eL; rw [if_neg (by decide), if_pos rfl, if_neg ha]
          rw [q]
          by_cases h2 : a = 34
          · subst h2; simp [List.count_cons]; omega
          · simp [List.count_cons, ha, h2]
    rw [e1.1, e1.2]; simp [dueStep]
  · have e1 : (l.flatMap (eL 2)).count 39 = l.count 39 ∧ (l.flatMap (eL 2)).count 34 = 2 * l.count 34 := by
      induction l with
      | nil => exact ⟨rfl, rfl⟩
      | cons a l ih =>
        rw [List.flatMap_cons, List.count_append, List.count_append, ih.1, ih.2]
        by_cases ha : a = 34
        · subst ha
          have q1 : (eL 2 34).count 39 = 0 := by decide
          have q2 : (eL 2 34).count 34 = 2 := by decide
          rw [q1, q2, List.count_cons_self, List.count_cons_of_ne (by decide)]; omega
        · have q : eL 2 a = [a] := by unfold eL; rw [if_neg (by decide), if_neg (by decide), if_neg ha]
          rw [q]
          by_cases h2 : a = 39
          · subst h2; simp [List.count_cons]; omega
          · simp [List.count_cons, ha, h2]
    rw [e1.1, e1.2]; simp [dueStep]
theorem fold_counts {d0 d1 d2 : Int} (h0 : 0 ≤ d0 ∧ d0 ≤ 2) (h1 : 0 ≤ d1 ∧ d1 ≤ 2) (h2 : 0 ≤ d2 ∧ d2 ≤ 2) (l : List Nat) :
    [d0, d1, d2].foldl dueStep ((l.count 39 : Int), (l.count 34 : Int)) = (((l.flatMap (e3 d0 d1 d2)).count 39 : Int), ((l.flatMap (e3 d0 d1 d2)).count 34 : Int)) := by
  have e4 : l.flatMap (e3 d0 d1 d2) = ((l.flatMap (eL d0)).flatMap (eL d1)).flatMap (eL d2) := by
    show l.flatMap (fun c => ((eL d0 c).flatMap (eL d1)).flatMap (eL d2)) = _
    simp only [List.flatMap_assoc]
  rw [e4, step_counts h2, step_counts h1, step_counts h0]
  rfl
section
variable {e : Nat → List Nat}
theorem Enc.cons (E : Enc e) (c : Nat) : ∃ r, e c = c :: r := by
  by_cases h4 : c = 34
  · subst h4
    have := E.a
    rcases E.K with k | k | k | k <;> rw [k] at this <;> exact ⟨_, this⟩
  · by_cases h9 : c = 39
    · subst h9
      have := E.b0
      cases q : e 39 with
      | nil => rw [q] at this; cases this
      | cons a r => rw [q] at this; exact ⟨r, by rw [show a = 39 from Option.some.inj this]⟩
    · exact ⟨[], E.other c h4 h9⟩
theorem Enc.last (E : Enc e) (c : Nat) : (e c).getLast? = some c := by
  by_cases h4 : c = 34
  · subst h4
    have := E.a
    rcases E.K with k | k | k | k <;> rw [k] at this <;> rw [this] <;> rfl
  · by_cases h9 : c = 39
    · subst h9; exact E.b1
    · rw [E.other c h4 h9]; rfl
theorem Enc.sub (E : Enc e) {c x : Nat} (hx : x ∈ e c) : x = c ∨ x = 34 ∨ x = 39 := by
  by_cases h4 : c = 34
  · subst h4
    rw [E.a] at hx
    exact .inl (List.eq_of_mem_replicate hx)
  · by_cases h9 : c = 39
    · subst h9; exact .inr (E.b x hx)
    · rw [E.other c h4 h9] at hx; exact .inl (List.mem_singleton.mp hx)
theorem Enc.headD (E : Enc e) (l : List Nat) : (l.flatMap e).head? = l.head? := by
  cases l with
  | nil => rfl
  | cons a l =>
    obtain ⟨r, q⟩ := E.cons a
    rw [List.flatMap_cons, q]; rfl
theorem Enc.lastD (E : Enc e) (l : List Nat) : (l.flatMap e).getLast? = l.getLast? := by
  by_cases h : l = []
  · subst h; rfl
  · rw [← List.dropLast_concat_getLast h, List.flatMap_append, List.getLast?_append]
    simp [E.last]
theorem Enc.nil (E : Enc e) {l : List Nat} (h : l.flatMap e = []) : l = [] := by
  cases l with
  | nil => rfl
  | cons a l =>
    obtain ⟨r, q⟩ := E.cons a
    rw [List.flatMap_cons, q] at h; cases h
theorem Enc.mem (E : Enc e) {l : List Nat} {c : Nat} (h : c ∈ l) : c ∈ l.flatMap e := by
  obtain ⟨r, q⟩ := E.cons c
  exact List.mem_flatMap.mpr ⟨c, h, q ▸ List.mem_cons_self⟩
theorem Enc.memBack (E : Enc e) {l : List Nat} {c : Nat} (h : c ∈ l.flatMap e) (h4 : c ≠ 34) (h9 : c ≠ 39) : c ∈ l := by
  obtain ⟨a, ha, hc⟩ := List.mem_flatMap.mp h
  rcases E.sub hc with q | q | q
  · exact q ▸ ha
  · exact absurd q h4
  · exact absurd q h9
theorem Enc.id (E : Enc e) : ∀ {l : List Nat}, 34 ∉ l → 39 ∉ l → l.flatMap e = l
  | [], _, _ => rfl
  | a :: l, h4, h9 => by
    rw [List.flatMap_cons, E.id (fun q => h4 (List.mem_cons_of_mem _ q)) (fun q => h9 (List.mem_cons_of_mem _ q)), E.other a (fun q => h4 (q ▸ List.mem_cons_self)) (fun q => h9 (q ▸ List.mem_cons_self))]
    rfl
theorem Enc.count39 (E : Enc e) (l : List Nat) : (l.flatMap e).count 39 = (e 39).count 39 * l.count 39 := by
  induction l with
  | nil => simp
  | cons a l ih =>
    rw [List.flatMap_cons, List.count_append, ih]
    by_cases h9 : a = 39
    · subst h9; rw [List.count_cons_self, Nat.mul_succ]; omega
    · have z : (e a).count 39 = 0 := by
        refine List.count_eq_zero_of_not_mem fun q => ?_
        by_cases h4 : a = 34
        · subst h4
          rw [E.a] at q
          exact absurd (List.eq_of_mem_replicate q) (by decide)
        · rw [E.other a h4 h9] at q; exact h9 (List.mem_singleton.mp q).symm
      rw [z]
      simp [List.count_cons, h9]
theorem Enc.count34 (E : Enc e) (l : List Nat) : (l.flatMap e).count 34 = (e 34).length * l.count 34 + (e 39).count 34 * l.count 39 := by
  induction l with
  | nil => simp
  | cons a l ih =>
    rw [List.flatMap_cons, List.count_append, ih]
    by_cases h4 : a = 34
    · subst h4
      rw [List.count_cons_self, List.count_cons_of_ne (by decide), Nat.mul_succ]
      have : (e 34).count 34 = (e 34).length := by
        conv => lhs; rw [E.a]
        rw [List.count_replicate_self]
      omega
    · by_cases h9 : a = 39
      · subst h9
        rw [List.count_cons_self, List.count_cons_of_ne (by decide), Nat.mul_succ]; omega
      · rw [E.other a h4 h9]
        simp [List.count_cons, h4, h9]
theorem Enc.countO (E : Enc e) {m : Nat} (h4 : m ≠ 34) (h9 : m ≠ 39) (l : List Nat) : (l.flatMap e).count m = l.count m := by
  induction l with
  | nil => rfl
  | cons a l ih =>
    rw [List.flatMap_cons, List.count_append, ih]
    by_cases ha : a = m
    · subst ha
      rw [E.other a h4 h9]; simp [List.count_cons]; omega
    · have z : (e a).count m = 0 := by
        refine List.count_eq_zero_of_not_mem fun q => ?_
        rcases E.sub q with q | q | q
        · exact ha q.symm
        · exact h4 q
        · exact h9 q
      rw [z]
      simp [List.count_cons, ha]
end
theorem spl_pre {m : Nat} {l p : List Nat} {r : List (List Nat)} (h : spl m l = p :: r) : ∀ {u : List Nat}, m ∉ u → spl m (u ++ l) = (u ++ p) :: r
  | [], _ => h
  | a :: u, hu => spl_miss (fun (q : a = m) => hu (q ▸ List.mem_cons_self)) (spl_pre h fun q => hu (List.mem_cons_of_mem _ q))
theorem spl_flat {e : Nat → List Nat} {m : Nat} (hm : e m = [m]) : ∀ {l : List Nat}, (∀ c ∈ l, c ≠ m → m ∉ e c) → spl m (l.flatMap e) = (spl m l).map (·.flatMap e)
  | [], _ => rfl
  | a :: l, h => by
    have ih := spl_flat hm (l := l) fun c hc => h c (List.mem_cons_of_mem _ hc)
    obtain ⟨p, r, q⟩ := spl_ne m l
    rw [List.flatMap_cons]
    by_cases ha : a = m
    · subst ha
      rw [hm, spl_hit]
      show spl a (a :: l.flatMap e) = _
      rw [spl_hit, ih]; rfl
    · rw [spl_miss ha q]
      rw [q] at ih
      rw [spl_pre ih (h a List.mem_cons_self ha)]; rfl
theorem numL_nil : numL [] = none := by decide +kernel
theorem part_sub {c : Nat} {l : List Nat} (i : Nat) : ∀ a ∈ (spl c l).getD i [], a ∈ l := by
  intro a ha
  rw [List.getD_eq_getElem?_getD] at ha
  cases q : (spl c l)[i]? with
  | none => rw [q] at ha; cases ha
  | some p => rw [q] at ha; exact mem_spl (List.mem_of_getElem? q) a ha
theorem part_len {c : Nat} {l : List Nat} (i : Nat) : ((spl c l).getD i []).length ≤ l.length := by
  rw [List.getD_eq_getElem?_getD]
  cases q : (spl c l)[i]? with
  | none => exact Nat.zero_le _
  | some p =>
    have h1 := spl_flat_len c l
    have h2 : p.length ≤ (spl c l).flatten.length := by
      obtain ⟨u, v, e⟩ := List.append_of_mem (List.mem_of_getElem? q)
      rw [e]; simp only [List.flatten_append, List.flatten_cons, List.length_append]; omega
    exact Nat.le_trans h2 h1
theorem one_of_count {c : Nat} {l : List Nat} (h : l.count c = 1) : ∃ u v, l = u ++ c :: v ∧ c ∉ u ∧ c ∉ v := by
  have hm : c ∈ l := List.count_pos_iff.mp (by omega)
  obtain ⟨u, v, e, hu⟩ := split_at_first hm
  refine ⟨u, v, e, hu, fun q => ?_⟩
  have := List.count_pos_iff.mpr q
  rw [e, List.count_append, List.count_cons_self] at h
  omega
/-- the same parts -/
theorem in_same {e : Nat → List Nat} (E : Enc e) {m : Nat} {ins : List Nat} (hl : (ins.flatMap e).length ≤ 4300) (hs : ∀ c ∈ ins, Sign c) (hm : e m = [m]) (hf : ∀ c ∈ ins, c ≠ m → m ∉ e c) (h4 : ins.count m = 4) :
    intL ((spl m (ins.flatMap e)).getD 3 []) = numL ((spl m ins).getD 3 []) := by
  have hs' : ∀ c ∈ ins.flatMap e, Sign c := fun c hc => by
    obtain ⟨a, ha, hc⟩ := List.mem_flatMap.mp hc
    rcases E.sub hc with q | q | q
    · exact q ▸ hs a ha
    · exact .inl (by omega)
    · exact .inl (by omega)
  rw [intL_num (Nat.le_trans (part_len 3) hl) fun c hc => hs' c (part_sub 3 c hc)]
  rw [spl_flat hm hf]
  have hz : (spl m ins).length = 5 := by rw [count_spl, h4]
  obtain ⟨p, hp⟩ : ∃ p, (spl m ins)[3]? = some p := ⟨_, List.getElem?_eq_getElem (by omega)⟩
  rw [List.getD_eq_getElem?_getD, List.getD_eq_getElem?_getD, List.getElem?_map, hp]
  show numL (p.flatMap e) = numL p
  by_cases h34 : 34 ∈ p
  · rw [numL_none h34 (by decide), numL_none (E.mem h34) (by decide)]
  · by_cases h39 : 39 ∈ p
    · rw [numL_none h39 (by decide), numL_none (E.mem h39) (by decide)]
    · rw [E.id h34 h39]
theorem plain_in {e : Nat → List Nat} (E : Enc e) {ds : List Int} (hds : ∀ l : List Nat, ds.foldl dueStep ((l.count 39 : Int), (l.count 34 : Int)) = (((l.flatMap e).count 39 : Int), ((l.flatMap e).count 34 : Int)))
    {ins : List Nat} (hl : (ins.flatMap e).length ≤ 4300) (hs : ∀ c ∈ ins, Sign c) (hne : ins ≠ []) (hends : ins.head? = ins.getLast?) : inO (ins.flatMap e) = dueIn ins ds := by
  obtain ⟨m, tl, rfl⟩ : ∃ m tl, ins = m :: tl := by
    cases ins with
    | nil => exact absurd rfl hne
    | cons m tl => exact ⟨m, tl, rfl⟩
  generalize hins : m :: tl = ins at *
  have hh : ins.headD 0 = m := by rw [← hins]; rfl
  have hh' : (ins.flatMap e).headD 0 = m := by
    have := E.headD ins
    rw [← hins] at this ⊢
    rw [List.headD_eq_head?_getD, this]; rfl
  have hN : dueN ins ds = ((ins.flatMap e).count m : Int) := by
    unfold dueN
    rw [hh, hds]
    split
    · rename_i q; rw [q]
    · split
      · rename_i q; rw [q]
      · rename_i q1 q2; rw [E.countO q2 q1]
  have hc : ¬ (ins.flatMap e = [] ∨ (ins.flatMap e).head? ≠ (ins.flatMap e).getLast?) := by
    rintro (q | q)
    · exact hne (E.nil q)
    · rw [E.headD, E.lastD] at q; exact q hends
  unfold inO dueIn
  rw [if_neg hc, hh', hN, count_spl, hh]
  by_cases h4 : (ins.flatMap e).count m = 4
  · rw [if_neg (by omega), if_neg (by omega)]
    have hhead : ins.head? = some m := by rw [← hins]; rfl
    have hlast : ins.getLast? = some m := hends ▸ hhead
    by_cases h34 : m = 34
    · subst h34
      have hk := E.count34 ins
      rw [h4] at hk
      have hpos : 1 ≤ ins.count 34 := by rw [← hins, List.count_cons_self]; omega
      -- one sign alone, or the mark at both ends
      have hform : ins = [34] ∨ ∃ X, ins = 34 :: X ++ [34] := by
        cases tl with
        | nil => exact .inl hins.symm
        | cons b tl =>
          right
          refine ⟨(b :: tl).dropLast, ?_⟩
          have e1 := List.dropLast_concat_getLast (l := b :: tl) (by simp)
          have e2 : (b :: tl).getLast (by simp) = 34 := by
            rw [← hins, List.getLast?_cons_cons, List.getLast?_eq_some_getLast (by simp)] at hlast
            exact Option.some.inj hlast
          rw [e2] at e1
          rw [← hins, List.cons_append, e1]
      have same : e 34 = [34] → (∀ c ∈ ins, c ≠ 34 → 34 ∉ e c) → ins.count 34 = 4 → numO (intL ((spl 34 (ins.flatMap e)).getD 3 [])) = numO (if ins.count 34 = 4 then numL ((spl 34 ins).getD 3 []) else none) := fun a b c => by
        rw [in_same E hl hs a b c, if_pos c]
      have nil3 : ins.count 34 ≠ 4 → numL ((spl 34 (ins.flatMap e)).getD 3 []) = none → numO (intL ((spl 34 (ins.flatMap e)).getD 3 [])) = numO (if ins.count 34 = 4 then numL ((spl 34 ins).getD 3 []) else none) := fun a b => by
        have hs' : ∀ c ∈ ins.flatMap e, Sign c := fun c hc => by
          obtain ⟨a, ha, hc⟩ := List.mem_flatMap.mp hc
          rcases E.sub hc with q | q | q
          · exact q ▸ hs a ha
          · exact .inl (by omega)
          · exact .inl (by omega)
        rw [if_neg a, intL_num (Nat.le_trans (part_len 3) hl) fun c hc => hs' c (part_sub 3 c hc), b]
      have no39 : ins.count 39 = 0 → ∀ c ∈ ins, c ≠ 34 → 34 ∉ e c := fun z c hc hne q => by
        have : c ≠ 39 := fun q => by
          have := List.count_pos_iff.mpr (q ▸ hc : 39 ∈ ins); omega
        rw [E.other c hne this] at q
        exact hne (List.mem_singleton.mp q).symm
      rcases E.K with k | k | k | k
      · have ea : e 34 = [34] := by have := E.a; rw [k] at this; exact this
        rw [k] at hk
        rcases E.M k with b | b | b
        · refine same ea (fun c hc hne q => ?_) ?_
          · by_cases h9 : c = 39
            · subst h9; rw [b] at q; exact absurd (List.mem_singleton.mp q) (by decide)
            · rw [E.other c hne h9] at q; exact hne (List.mem_singleton.mp q).symm
          · rw [b] at hk
            have : ([39] : List Nat).count 34 = 0 := by decide
            rw [this] at hk; omega
        · rw [b] at hk
          have : ([39, 34, 39, 34, 39] : List Nat).count 34 = 2 := by decide
          rw [this] at hk
          by_cases z : ins.count 39 = 0
          · exact same ea (no39 z) (by omega)
          · -- one apostrophe, and the mark at both ends alone
            have c2 : ins.count 34 = 2 ∧ ins.count 39 = 1 := by
              rcases hform with q | ⟨X, q⟩
              · rw [q] at z; exact absurd (by decide) z
              · have : 2 ≤ ins.count 34 := by rw [q, List.count_append]; simp [List.count_cons]
                omega
            obtain ⟨X, q⟩ : ∃ X, ins = 34 :: X ++ [34] := by
              rcases hform with q | q
              · rw [q] at z; exact absurd (by decide) z
              · exact q
            have x34 : X.count 34 = 0 := by
              have := c2.1; rw [q] at this; simp [List.count_append, List.count_cons] at this
              exact List.count_eq_zero.mpr (by first | exact this | exact List.count_eq_zero.mp this)
            have x39 : X.count 39 = 1 := by
              have := c2.2; rw [q] at this; simpa [List.count_append, List.count_cons] using this
            obtain ⟨u, v, eX, hu, hv⟩ := one_of_count x39
            have x34' : 34 ∉ X := List.count_eq_zero.mp x34
            have u34 : 34 ∉ u := fun q => x34' (eX ▸ List.mem_append_left _ q)
            have v34 : 34 ∉ v := fun q => x34' (eX ▸ List.mem_append_right _ (List.mem_cons_of_mem _ q))
            have ef : ins.flatMap e = [] ++ 34 :: ((u ++ [39]) ++ 34 :: ([39] ++ 34 :: ((39 :: v) ++ 34 :: []))) := by
              rw [q, eX]
              simp [List.flatMap_append, List.flatMap_cons, ea, b, E.id u34 hu, E.id v34 hv]
            refine nil3 (by omega) ?_
            rw [ef, spl_app _ (by simp), spl_app _ (by simpa using u34), spl_app _ (by decide), spl_app _ (by simpa using v34)]
            exact numL_none (c := 39) List.mem_cons_self (by decide)
        · by_cases z : ins.count 39 = 0
          · rw [z] at hk
            exact same ea (no39 z) (by omega)
          · have : (e 39).count 34 ≤ (e 39).count 34 * ins.count 39 := Nat.le_mul_of_pos_right _ (by omega)
            omega
      · have ea : e 34 = [34, 34] := by have := E.a; rw [k] at this; exact this
        rw [k] at hk
        rcases hform with q | ⟨X, q⟩
        · rw [q] at hk
          have e1 : ([34] : List Nat).count 34 = 1 := by decide
          have e2 : ([34] : List Nat).count 39 = 0 := by decide
          rw [e1, e2] at hk; omega
        · have hc2 : ins.count 34 = 2 + X.count 34 := by rw [q]; simp [List.count_append, List.count_cons]; omega
          have ef : ins.flatMap e = [] ++ 34 :: ([] ++ 34 :: (X.flatMap e ++ 34 :: ([] ++ 34 :: []))) := by
            rw [q]; simp [List.flatMap_append, List.flatMap_cons, ea]
          have hX : 34 ∉ X.flatMap e := by
            have := h4
            rw [ef] at this
            simp [List.count_append, List.count_cons] at this
            first | exact this | exact List.count_eq_zero.mp this
          refine nil3 (by omega) ?_
          rw [ef, spl_app _ (by simp), spl_app _ (by simp), spl_app _ hX, spl_app _ (by simp)]
          exact numL_nil
      · have ea : e 34 = [34, 34, 34, 34] := by have := E.a; rw [k] at this; exact this
        rw [k] at hk
        have c1 : ins.count 34 = 1 := by omega
        rcases hform with q | ⟨X, q⟩
        · refine nil3 (by omega) ?_
          rw [q]
          have ef : [34].flatMap e = [34, 34, 34, 34] := by simp [ea]
          rw [ef]
          decide +kernel
        · rw [q] at c1; simp [List.count_append, List.count_cons] at c1
      · rw [k] at hk; omega
    · by_cases h39 : m = 39
      · subst h39
        have hk := E.count39 ins
        rw [h4] at hk
        have hJ : (e 39).count 39 = 1 := by
          rcases E.J with j | j | j | j <;> rw [j] at hk <;> omega
        rw [hJ] at hk
        have h4' : ins.count 39 = 4 := by omega
        rw [in_same E hl hs (E.J1 hJ) (fun c hc hne q => ?_) h4', if_pos h4']
        rcases E.sub q with q' | q' | q'
        · exact hne q'.symm
        · cases q'
        · by_cases h4 : c = 34
          · subst h4
            rw [E.a] at q
            exact absurd (List.eq_of_mem_replicate q) (by decide)
          · rw [E.other c h4 hne] at q; exact hne (List.mem_singleton.mp q).symm
      · have h4' : ins.count m = 4 := by rw [← E.countO h34 h39, h4]
        rw [in_same E hl hs (E.other m h34 h39) (fun c hc hne q => ?_) h4', if_pos h4']
        rcases E.sub q with q' | q' | q'
        · exact hne q'.symm
        · exact h34 q'
        · exact h39 q'
  · rw [if_pos (by omega), if_pos (by omega)]
/-- parse229 reads of the dressed reply what the plain hand reckons of the bare one -/
theorem plain_due {hd rest : List Nat} {d0 d1 d2 : Int} (h0 : 0 ≤ d0 ∧ d0 ≤ 2) (h1 : 0 ≤ d1 ∧ d1 ≤ 2) (h2 : 0 ≤ d2 ∧ d2 ≤ 2) (h3 : 3 ≤ hd.length) (h40 : 40 ∉ hd) (hs : ∀ c ∈ rest, Sign c)
    (hl : (laidL d2 (laidL d1 (laidL d0 rest))).length ≤ 4300) : parseO (hd ++ laidL d2 (laidL d1 (laidL d0 rest))) = dueO hd rest [d0, d1, d2] := by
  have E := enc3 h0 h1 h2
  have hds := fold_counts h0 h1 h2
  obtain ⟨u, v, hu, hv, elaid⟩ := laid_three (d0 := d0) (d1 := d1) (d2 := d2) rest
  rw [elaid] at hl ⊢
  clear elaid
  generalize e3 d0 d1 d2 = e at *
  have ht : (hd ++ (u ++ rest.flatMap e ++ v)).take 3 = hd.take 3 := List.take_append_of_le_length h3
  have hpre : 40 ∉ hd ++ u := fun q => by
    rcases List.mem_append.mp q with q | q
    · exact h40 q
    · rcases hu _ q with q | q <;> cases q
  have hv41 : 41 ∉ v := fun q => by rcases hv _ q with q | q <;> cases q
  by_cases hh : hd.take 3 = [50, 50, 57]
  · have hcond : (hd ++ (u ++ rest.flatMap e ++ v)).take 3 = [50, 50, 57] := ht.trans hh
    by_cases hb : 40 ∈ rest
    · obtain ⟨r1, r2, er, hr1⟩ := split_at_first hb
      have hbeh : behindL rest = r2 := by
        unfold behindL
        rw [er, spl_app r2 hr1, List.tail_cons, ical_self]
      have ex : hd ++ (u ++ rest.flatMap e ++ v) = (hd ++ u ++ r1.flatMap e) ++ 40 :: (r2.flatMap e ++ v) := by
        rw [er, List.flatMap_append, List.flatMap_cons, E.other 40 (by decide) (by decide)]
        simp
      have hpre2 : 40 ∉ hd ++ u ++ r1.flatMap e := fun q => by
        rcases List.mem_append.mp q with q | q
        · exact hpre q
        · exact hr1 (E.memBack q (by decide) (by decide))
      by_cases hc : 41 ∈ r2
      · obtain ⟨i, q, er2, hi⟩ := split_at_first hc
        have hin : (spl 41 (behindL rest)).headD [] = i := by rw [hbeh, er2, spl_app q hi]; rfl
        have ex2 : r2.flatMap e ++ v = i.flatMap e ++ 41 :: (q.flatMap e ++ v) := by
          rw [er2, List.flatMap_append, List.flatMap_cons, E.other 41 (by decide) (by decide)]
          simp
        have hbrk := brk_some (q := q.flatMap e ++ v) hpre2 (fun q => hi (E.memBack q (by decide) (by decide)))
        rw [ex, ex2]
        rw [ex, ex2] at hcond
        rw [parseO_some hcond hbrk]
        have hisub : ∀ c ∈ i, c ∈ rest := fun c hc => by rw [er, er2]; simp [hc]
        by_cases hp : i = [] ∨ i.head? ≠ i.getLast?
        · rw [dueO_proto hh hin.symm (.inr hp)]
          refine inO_proto ?_
          rcases hp with hp | hp
          · subst hp; exact .inl rfl
          · exact .inr (by rw [E.headD, E.lastD]; exact hp)
        · rw [dueO_in hh hin.symm (by rw [hbeh]; rintro (q | q); exact q hc; exact hp q)]
          refine plain_in E hds (Nat.le_trans ?_ hl) (fun c hc => hs c (hisub c hc)) (fun q => hp (.inl q)) (Classical.byContradiction fun q => hp (.inr q))
          rw [er, er2]
          simp only [List.flatMap_append, List.flatMap_cons, List.length_append]
          omega
      · rw [dueO_proto hh rfl (.inl (by rw [hbeh]; exact hc))]
        rw [ex] at hcond ⊢
        refine parseO_none hcond (brk_none2 hpre2 fun q => ?_)
        rcases List.mem_append.mp q with q | q
        · exact hc (E.memBack q (by decide) (by decide))
        · exact hv41 q
    · have hbeh : behindL rest = [] := by unfold behindL; rw [spl_free hb]; rfl
      rw [dueO_proto hh rfl (.inl (by rw [hbeh]; simp))]
      refine parseO_none hcond (brk_none1 fun q => ?_)
      rcases List.mem_append.mp q with q | q
      · exact h40 q
      · rcases List.mem_append.mp q with q | q
        · rcases List.mem_append.mp q with q | q
          · exact hpre (List.mem_append_right _ q)
          · exact hb (E.memBack q (by decide) (by decide))
        · rcases hv _ q with q | q <;> cases q
  · rw [dueO_reply hh, parseO_reply (by rw [ht]; exact hh)]
end Mine

end
section -- P1
theorem Mine.offP1 : True ∧ True := by
  w_top off
  first | (walk1; all_goals trivial) | exact ⟨trivial, trivial⟩
namespace Mine
open PySem
def fieldsS : List Str := [Str.ofString "", Str.ofString "a", Str.ofString "'", Str.ofString "\"", Str.ofString "b c", Str.ofString "1"]
def markS (one : Int) : Str := Txt.item (Str.ofString "|'\"1( é+") (one.fmod 8)
def frontS (one : Int) : Str := markS one ++ fieldsS.getD ((one.fdiv 8).fmod 6).toNat (Str.ofString "")
def numS (two : Int) : Str := Str.ofString (toString ((two.fdiv 8).fmod 65536))
def portS (two : Int) : Str := [numS two, Str.ofString "-" ++ numS two, Str.ofString "+" ++ numS two, Str.ofString " " ++ numS two ++ Str.ofString " ", Str.ofString "0" ++ numS two, numS two ++ Str.ofString "_5", numS two ++ Str.ofString "'", Str.ofString ""].getD (two.fmod 8).toNat (Str.ofString "")
def insideS (one two three : Int) : Str :=
  if ([3, 4].any fun x => x == three.fmod 8) = true then Txt.mul (markS one) (three.fmod 8 - 3)
  else if three.fmod 8 = 7 then frontS one ++ Str.ofString "'" ++ portS two ++ markS one
  else frontS one ++ markS one ++ fieldsS.getD ((one.fdiv 48).fmod 6).toNat (Str.ofString "") ++ markS one ++ portS two ++ Txt.mul (markS one) ([1, 1, 1, 0, 0, 0, 2].getD (three.fmod 8).toNat 0)
def openS (three : Int) : Str := if (three.fdiv 8).fmod 8 = 7 then Str.ofString "" else Str.ofString "("
def closeS (three : Int) : Str := if (three.fdiv 8).fmod 8 = 6 then Str.ofString "" else Str.ofString ")"
/-- all that stands behind a reply's head -/
def restS (one two three : Int) : Str :=
  [Str.ofString "it's ", Str.ofString ""].getD ((three.fdiv 64).fmod 2).toNat (Str.ofString "") ++ openS three ++ insideS one two three ++ closeS three ++ [Str.ofString "", Str.ofString " (|||7|)"].getD ((three.fdiv 128).fmod 2).toNat (Str.ofString "")
theorem q_of {Q : Value → Shared → Prop} {x y : Str} {t : Tok} {s : Shared} (h : Q (.str y t) s) (e : x = y) : Q (.str x t) s := e ▸ h
theorem inside_a {one two three : Int} (h : ([3, 4].any fun x => x == three.fmod 8) = true) : Txt.mul (markS one) (three.fmod 8 - 3) = insideS one two three := by unfold insideS; rw [if_pos h]
theorem inside_b {one two three : Int} (h : ([3, 4].any fun x => x == three.fmod 8) = false) (h7 : three.fmod 8 = 7) : frontS one ++ Str.ofString "'" ++ portS two ++ markS one = insideS one two three := by
  unfold insideS; rw [if_neg (by rw [h]; exact Bool.false_ne_true), if_pos h7]
theorem inside_c {one two three : Int} (h : ([3, 4].any fun x => x == three.fmod 8) = false) (h7 : three.fmod 8 ≠ 7) :
    frontS one ++ markS one ++ fieldsS.getD ((one.fdiv 48).fmod 6).toNat (Str.ofString "") ++ markS one ++ portS two ++ Txt.mul (markS one) ([1, 1, 1, 0, 0, 0, 2].getD (three.fmod 8).toNat 0) = insideS one two three := by
  unfold insideS; rw [if_neg (by rw [h]; exact Bool.false_ne_true), if_neg h7]
end Mine
namespace Mine
theorem tri_bd : ∀ n : Nat, 0 ≤ ([1, 1, 1, 0, 0, 0, 2] : List Int).getD n 0 ∧ ([1, 1, 1, 0, 0, 0, 2] : List Int).getD n 0 ≤ 8
  | 0 | 1 | 2 | 3 | 4 | 5 | 6 => by decide
  | n + 7 => by simp
theorem any34 {k : Int} (h : ([3, 4].any fun x => x == k) = true) : k = 3 ∨ k = 4 := by
  simp at h; omega
end Mine

end
section -- LA
theorem Mine.offLA : True ∧ True := by
  w_top off
  first | (walk1; all_goals trivial) | exact ⟨trivial, trivial⟩
namespace Mine
open PySem PySem.W PyProof.Rows PySem.Spec PySem.Calls
/-- the layers that stand after i turns -/
def layN (ds : List Int) (rest : Str) (i : Nat) : Str := (ds.take i).foldl (fun x d => laidF d x) rest
theorem layN_succ {ds : List Int} {rest : Str} {i : Nat} {d : Int} (h : ds[i]? = some d) : layN ds rest (i + 1) = laidF d (layN ds rest i) := by
  unfold layN
  rw [List.take_add_one, h, Option.toList_some, List.foldl_append]; rfl
def lamAScope : Scope := { kind := .function, names := [(Str.ofString "text", .local), (Str.ofString "turn", .local), (Str.ofString "deeds", .free), (Str.ofString "_law_hand", .globalImplicit)], isGenerator := false, isCoroutine := false, more := [] }
def lamABody (p1 p2 p3 p4 p5 p6 p7 : Pos) : Expr := .Call (.Name (Str.ofString "_law_hand") p1) [.Name (Str.ofString "text") p2, .Name (Str.ofString "turn") p3, .Subscript (.Name (Str.ofString "deeds") p4) (.Name (Str.ofString "turn") p5) p6] [] p7
def lamAPar (q1 q2 : Pos) : Arguments := { posonlyargs := [], args := [{ arg := Str.ofString "text", annotation := none, pos := q1 }, { arg := Str.ofString "turn", annotation := none, pos := q2 }], vararg := none, kwonlyargs := [], kw_defaults := [], kwarg := none, defaults := [] }
section
variable {w : World} {p : Program} {loose : List Str} {mean : ExcName → Option Value} {mg mb : Str → Option Value}
theorem lamA_spec {p1 p2 p3 p4 p5 p6 p7 q1 q2 : Pos} {g B : Heap} {D U : Nat} {f cc dl : Addr} {fo : Obj} {name qual : Str} {pm cdv ct : Value} {vs : List Value} {ds : List Int} {rest : Str}
    (X : (Mine.hd.heap_1 w.params).In g) (T : Top p loose mean mg mb g) (hC : CodeHd g 95 91) (h94 : g.get? 91 = none)
    (ho : g.get? f = some fo) (hd : fo.data = .func (kla_fn name qual (lamAPar q1 q2) (lamABody p1 p2 p3 p4 p5 p6 p7) lamAScope [(Str.ofString "deeds", cc)] pm cdv ct)) (hcd : g.CodeRec cdv qual)
    (hcell : g.IsCell cc (some (.ref dl))) (hDl : g.IsList dl vs.toArray) (hI : IntsAre vs ds) (h3 : ds.length = 3) (hds : ∀ d ∈ ds, 0 ≤ d ∧ d ≤ 2)
    (hx : ∀ i, i < 3 → (∃ k, k < (layN ds rest i).cps.size ∧ odd ((layN ds rest i).cps.getD k 0) = true) ∧ (layN ds rest i).length ≤ 10000)
    (hD : D + 6 < recursionLimit) (hU : U + 120 < cLine) :
    FSpec Challenge.rw_oy0022_01.row.prog w f 3 (fun i v _ => ∃ t, v = .str (layN ds rest i) t) (fun i v => ∃ t, v = .int (i : Int) t) [91] (fun h => TabG h 91 posJ) (fun _ => False) g B D U := by
  rintro i v e s A Q E outer hi ⟨t, rfl⟩ ⟨t2, rfl⟩ hgs KB hInv hG hA hdp hun hQ hE
  obtain ⟨hnd, dp, fr, gd, un⟩ := A
  obtain rfl : hnd = none := hA
  dsimp only at hdp hun
  revert X; k_fill; intro X
  refine wpC_call ?_
  refine enterL (T.keeps hgs).nolimit (hgs _ _ ho) hd (hcd.keeps hgs) (by dsimp only; omega) (binds := [(Str.ofString "text", .str (layN ds rest i) t), (Str.ofString "turn", .int (i : Int) t2)]) (by rfl) (locs rfl) ?_ rfl rfl rfl (by decide)
  intro L h₁ F
  have hk1 : ∀ b o, g.get? b = some o → h₁.get? b = some o := fun b o e => F.keep _ _ (hgs _ _ e)
  have X1 := X.keeps hk1
  have T1 := T.keeps hk1
  refine wpC_Call_name ?_
  refine nm_global T1.g (mg_of X T.g (v := .ref 118) (by kernel_rfl)) ?_
  refine ofAny ?_
  refine callWith_F (q := 118) ⟨_, _, _, _, X1 _ _ (by k_is)⟩ ?_
  walk1
  refine nm_local F rfl ?_
  walk1
  refine nm_local F rfl ?_
  walk1
  walk1
  refine nm_free (hcell.keeps hk1) ?_ rfl
  refine nm_local F rfl ?_
  have hil : (Int.toNat (i : Int)) = i := Int.toNat_natCast i
  refine sub_ints (L := ds) (hDl.at fun o e => hk1 _ _ e) hI (Int.natCast_nonneg _) (by rw [h3]; omega) (by rw [h3]; decide) (fun t3 => ?_)
  rw [hil]
  walk1
  refine ⟨⟨_, _, _, _, X1 _ _ (by k_is)⟩, ?_⟩
  have hgg : ∀ b o, g.get? b = some o → (gh [91] s.heap).get? b = some o := fun b o e => gh_get (hgs _ _ e) (fun hm => by rw [List.mem_singleton.mp hm, h94] at e; cases e)
  have hdi : ds[i]? = some (ds.getD i 0) := by rw [List.getD_eq_getElem?_getD, List.getElem?_eq_getElem (by omega)]; rfl
  have hr := hds _ (List.mem_of_getElem? hdi)
  obtain ⟨hx1, hx2⟩ := hx i hi
  refine c_hand (g := gh [91] s.heap) (fun b o e => F.keep _ _ (gh_sub _ _ e)) (by rw [gh_size]; exact Nat.le_of_lt (Nat.lt_of_le_of_lt F.above F.ns.lt)) (X.keeps hgg) (T.keeps hgg) (hC.keeps hgg) (hideAll_none _ (List.mem_singleton.mpr rfl))
    (hInv.at fun o e => F.keep _ _ e) hG hr.1 hr.2 hx1 hx2 rfl (by dsimp only [Around.deeper]; omega) (by dsimp only [Around.deeper]; omega) ?_
  intro t' s' hos hG' hs' hT' hz'
  refine hQ _ _ ⟨t', ?_⟩ hos hG' hs' hT' (Nat.le_trans (Nat.le_of_lt (Nat.lt_of_le_of_lt F.above F.ns.lt)) hz')
  rw [layN_succ hdi]
end
end Mine

end
section -- PR
theorem Mine.offPR : True ∧ True := by
  w_top off
  first | (walk1; all_goals trivial) | exact ⟨trivial, trivial⟩
namespace Mine
open PySem PyProof.Rows
def signB (c : Nat) : Bool := (decide (32 ≤ c) && decide (c < 127)) || c == 233
theorem sign_of_B {c : Nat} (h : signB c = true) : Sign c := by
  unfold signB at h
  simp at h
  unfold Sign
  omega
def chk (x : Str) (a b c : Nat) : Bool := decide (x.length ≤ a) && decide ((cp x).count 39 ≤ b) && decide ((cp x).count 34 ≤ c) && (cp x).all signB
/-- a piece of a text: its length, its apostrophes, its quotation marks -/
structure Pc (x : Str) (a b c : Nat) : Prop where
  len : x.length ≤ a
  s : (cp x).count 39 ≤ b
  d : (cp x).count 34 ≤ c
  sg : ∀ k ∈ cp x, Sign k
theorem Pc.of {x : Str} {a b c : Nat} (h : chk x a b c = true) : Pc x a b c := by
  unfold chk at h
  simp only [Bool.and_eq_true, decide_eq_true_eq, List.all_eq_true] at h
  exact ⟨h.1.1.1, h.1.1.2, h.1.2, fun k hk => sign_of_B (h.2 k hk)⟩
theorem Pc.app {x y : Str} {a b c a' b' c' : Nat} (h : Pc x a b c) (h' : Pc y a' b' c') : Pc (x ++ y) (a + a') (b + b') (c + c') := by
  refine ⟨?_, ?_, ?_, ?_⟩
  · rw [← cp_len, cp_app, List.length_append, cp_len, cp_len]; exact Nat.add_le_add h.len h'.len
  · rw [cp_app, List.count_append]; exact Nat.add_le_add h.s h'.s
  · rw [cp_app, List.count_append]; exact Nat.add_le_add h.d h'.d
  · intro k hk
    rw [cp_app] at hk
    rcases List.mem_append.mp hk with hk | hk
    · exact h.sg k hk
    · exact h'.sg k hk
theorem Pc.le {x : Str} {a b c a' b' c' : Nat} (h : Pc x a b c) (ha : a ≤ a') (hb : b ≤ b') (hc : c ≤ c') : Pc x a' b' c' := ⟨Nat.le_trans h.len ha, Nat.le_trans h.s hb, Nat.le_trans h.d hc, h.sg⟩
theorem Pc.nil {a b c : Nat} : Pc (Str.ofString "") a b c := (Pc.of (a := 0) (b := 0) (c := 0) (by decide +kernel)).le (Nat.zero_le _) (Nat.zero_le _) (Nat.zero_le _)
theorem Pc.getD {a b c : Nat} {l : List Str} (h : ∀ x ∈ l, Pc x a b c) (i : Nat) : Pc (l.getD i (Str.ofString "")) a b c := by
  rw [List.getD_eq_getElem?_getD]
  cases q : l[i]? with
  | none => exact Pc.nil
  | some x => exact h x (List.mem_of_getElem? q)
theorem mod8 (one : Int) : one.fmod 8 = 0 ∨ one.fmod 8 = 1 ∨ one.fmod 8 = 2 ∨ one.fmod 8 = 3 ∨ one.fmod 8 = 4 ∨ one.fmod 8 = 5 ∨ one.fmod 8 = 6 ∨ one.fmod 8 = 7 := by
  have h1 := Int.fmod_nonneg_of_pos one (show (0 : Int) < 8 by decide)
  have h2 := Int.fmod_lt_of_pos one (show (0 : Int) < 8 by decide)
  omega
theorem pc_mark (one : Int) : Pc (markS one) 1 1 1 := by
  unfold markS
  rcases mod8 one with e | e | e | e | e | e | e | e <;> rw [e] <;> exact Pc.of (by decide +kernel)
theorem pc_mul (one : Int) {k : Int} (hk : k = 0 ∨ k = 1 ∨ k = 2) : Pc (Txt.mul (markS one) k) 2 2 2 := by
  unfold markS
  rcases mod8 one with e | e | e | e | e | e | e | e <;> rw [e] <;> rcases hk with rfl | rfl | rfl <;> exact Pc.of (by decide +kernel)
theorem pc_field (i : Nat) : Pc (fieldsS.getD i (Str.ofString "")) 3 1 1 := by
  refine Pc.getD (fun x hx => ?_) i
  simp only [fieldsS, List.mem_cons, List.not_mem_nil, or_false] at hx
  rcases hx with rfl | rfl | rfl | rfl | rfl | rfl <;> exact Pc.of (by decide +kernel)
theorem pc_front (one : Int) : Pc (frontS one) 4 2 2 := (pc_mark one).app (pc_field _)
theorem pc_num (two : Int) : Pc (numS two) 10 0 0 := by
  have h1 := Int.fmod_nonneg_of_pos (two.fdiv 8) (show (0 : Int) < 65536 by decide)
  have h2 := Int.fmod_lt_of_pos (two.fdiv 8) (show (0 : Int) < 65536 by decide)
  unfold numS
  generalize (two.fdiv 8).fmod 65536 = n at *
  have hl : (PySem.Str.ofString (toString n)).length ≤ 10 := PySem.W.KT.len_num h1 (show n < 10 ^ 10 by omega)
  obtain ⟨m, rfl⟩ := Int.eq_ofNat_of_zero_le h1
  have hd : ∀ c ∈ cp (PySem.Str.ofString (toString ((m : Nat) : Int))), 48 ≤ c ∧ c ≤ 57 := by
    intro c hc
    replace hc : c ∈ (PySem.Str.ofString (toString ((m : Nat) : Int))).cps.toList := hc
    rw [PySem.W.KIN.signs_num] at hc
    obtain ⟨ch, hch, e⟩ := List.mem_map.mp hc
    have r := PyProof.Rows.digit_range (Nat.isDigit_of_mem_toDigits (by decide) (by decide) hch)
    rw [← e]
    exact r
  refine ⟨hl, ?_, ?_, fun c hc => .inl ?_⟩
  · rw [List.count_eq_zero_of_not_mem fun q => ?_]
    · exact Nat.le_refl _
    · have := hd _ q; omega
  · rw [List.count_eq_zero_of_not_mem fun q => ?_]
    · exact Nat.le_refl _
    · have := hd _ q; omega
  · have := hd _ hc; omega
theorem pc_port (two : Int) : Pc (portS two) 12 1 0 := by
  have n := pc_num two
  refine Pc.getD (fun x hx => ?_) _
  have lit : ∀ {a b c : Nat} (z : String), chk (Str.ofString z) a b c = true → Pc (Str.ofString z) a b c := fun _ h => Pc.of h
  simp only [List.mem_cons, List.not_mem_nil, or_false] at hx
  rcases hx with rfl | rfl | rfl | rfl | rfl | rfl | rfl | rfl
  · exact n.le (by decide) (by decide) (by decide)
  · exact ((lit (a := 1) (b := 0) (c := 0) "-" (by decide +kernel)).app n).le (by decide) (by decide) (by decide)
  · exact ((lit (a := 1) (b := 0) (c := 0) "+" (by decide +kernel)).app n).le (by decide) (by decide) (by decide)
  · exact (((lit (a := 1) (b := 0) (c := 0) " " (by decide +kernel)).app n).app (lit (a := 1) (b := 0) (c := 0) " " (by decide +kernel))).le (by decide) (by decide) (by decide)
  · exact ((lit (a := 1) (b := 0) (c := 0) "0" (by decide +kernel)).app n).le (by decide) (by decide) (by decide)
  · exact (n.app (lit (a := 2) (b := 0) (c := 0) "_5" (by decide +kernel))).le (by decide) (by decide) (by decide)
  · exact (n.app (lit (a := 1) (b := 1) (c := 0) "'" (by decide +kernel))).le (by decide) (by decide) (by decide)
  · exact Pc.nil
theorem pc_inside (one two three : Int) : Pc (insideS one two three) 23 8 7 := by
  unfold insideS
  split
  · rename_i h
    have := any34 h
    exact (pc_mul one (k := three.fmod 8 - 3) (by omega)).le (by decide) (by decide) (by decide)
  · split
    · exact ((((pc_front one).app (Pc.of (a := 1) (b := 1) (c := 0) (by decide +kernel))).app (pc_port two)).app (pc_mark one)).le (by decide) (by decide) (by decide)
    · refine ((((((pc_front one).app (pc_mark one)).app (pc_field _)).app (pc_mark one)).app (pc_port two)).app (pc_mul one ?_)).le (by decide) (by decide) (by decide)
      rcases mod8 three with e | e | e | e | e | e | e | e <;> rw [e] <;> decide +kernel
theorem pc_rest (one two three : Int) : Pc (restS one two three) 38 9 7 := by
  have h1 : ∀ i, Pc ([Str.ofString "it's ", Str.ofString ""].getD i (Str.ofString "")) 5 1 0 := fun i => by
    refine Pc.getD (fun x hx => ?_) i
    simp only [List.mem_cons, List.not_mem_nil, or_false] at hx
    rcases hx with rfl | rfl
    · exact Pc.of (by decide +kernel)
    · exact Pc.nil
  have h2 : ∀ i, Pc ([Str.ofString "", Str.ofString " (|||7|)"].getD i (Str.ofString "")) 8 0 0 := fun i => by
    refine Pc.getD (fun x hx => ?_) i
    simp only [List.mem_cons, List.not_mem_nil, or_false] at hx
    rcases hx with rfl | rfl
    · exact Pc.nil
    · exact Pc.of (by decide +kernel)
  have h3 : Pc (openS three) 1 0 0 := by
    unfold openS; split
    · exact Pc.nil
    · exact Pc.of (by decide +kernel)
  have h4 : Pc (closeS three) 1 0 0 := by
    unfold closeS; split
    · exact Pc.nil
    · exact Pc.of (by decide +kernel)
  unfold restS
  exact (((((h1 _).app h3).app (pc_inside one two three)).app h4).app (h2 _)).le (by decide) (by decide) (by decide)
theorem rest_brk (one two three : Int) : 40 ∈ cp (restS one two three) ∨ 41 ∈ cp (restS one two three) := by
  unfold restS
  simp only [cp_app]
  by_cases h : (three.fdiv 8).fmod 8 = 7
  · right
    have e : closeS three = Str.ofString ")" := by unfold closeS; rw [if_neg (by omega)]
    rw [e]
    have : 41 ∈ cp (Str.ofString ")") := by decide +kernel
    simp [this]
  · left
    have e : openS three = Str.ofString "(" := by unfold openS; rw [if_neg h]
    rw [e]
    have : 40 ∈ cp (Str.ofString "(") := by decide +kernel
    simp [this]
theorem laid_mem {d : Int} {l : List Nat} {c : Nat} (h : c ∈ l) (h9 : c ≠ 39) (h4 : c ≠ 34) : c ∈ laidL d l := by
  obtain ⟨q, _, e⟩ := laid_one (d := d) l
  rw [e]
  have : c ∈ l.flatMap (eL d) := List.mem_flatMap.mpr ⟨c, h, by unfold eL; rw [if_neg h9, if_neg h4]; split <;> first | exact List.mem_cons_self | (split <;> exact List.mem_cons_self)⟩
  simp [this]
/-- a layer's length and marks -/
theorem len_one (l : List Nat) : (l.flatMap (eL 1)).length = l.length + 4 * l.count 39 := by
  induction l with
  | nil => rfl
  | cons a l ih =>
    rw [List.flatMap_cons, List.length_append, ih]
    by_cases h : a = 39
    · subst h
      have : (eL 1 39).length = 5 := by decide
      rw [this, List.count_cons_self, List.length_cons]; omega
    · have : eL 1 a = [a] := by unfold eL; rw [if_neg (by decide), if_pos rfl, if_neg h]
      rw [this, List.count_cons_of_ne h]; simp; omega
theorem len_two (l : List Nat) : (l.flatMap (eL 2)).length = l.length + l.count 34 := by
  induction l with
  | nil => rfl
  | cons a l ih =>
    rw [List.flatMap_cons, List.length_append, ih]
    by_cases h : a = 34
    · subst h
      have : (eL 2 34).length = 2 := by decide
      rw [this, List.count_cons_self, List.length_cons]; omega
    · have : eL 2 a = [a] := by unfold eL; rw [if_neg (by decide), if_neg (by decide), if_neg h]
      rw [this, List.count_cons_of_ne h]; simp; omega
theorem laid_stats {d : Int} (hd : 0 ≤ d ∧ d ≤ 2) (l : List Nat) :
    ((laidL d l).length = l.length ∧ (laidL d l).count 39 = l.count 39 ∧ (laidL d l).count 34 = l.count 34) ∨
    ((laidL d l).length = l.length + 4 * l.count 39 + 2 ∧ (laidL d l).count 39 = 3 * l.count 39 + 2 ∧ (laidL d l).count 34 = l.count 34 + 2 * l.count 39) ∨
    ((laidL d l).length = l.length + l.count 34 + 2 ∧ (laidL d l).count 39 = l.count 39 ∧ (laidL d l).count 34 = 2 * l.count 34 + 2) := by
  have g : d = 0 ∨ d = 1 ∨ d = 2 := by omega
  have hc := step_counts hd l
  rcases g with rfl | rfl | rfl
  · exact .inl ⟨rfl, rfl, rfl⟩
  · have e : laidL 1 l = 39 :: l.flatMap (eL 1) ++ [39] := rfl
    have c9 : ((l.flatMap (eL 1)).count 39 : Int) = 3 * (l.count 39 : Int) := congrArg Prod.fst hc
    have c4 : ((l.flatMap (eL 1)).count 34 : Int) = (l.count 34 : Int) + 2 * (l.count 39 : Int) := congrArg Prod.snd hc
    refine .inr (.inl ⟨?_, ?_, ?_⟩)
    · rw [e]; simp only [List.cons_append, List.length_cons, List.length_append, List.length_nil, len_one]
    · rw [e]; simp only [List.cons_append, List.count_cons_self, List.count_append]; simp; omega
    · rw [e]; simp [List.count_cons]; omega
  · have e : laidL 2 l = 34 :: l.flatMap (eL 2) ++ [34] := rfl
    have c9 : ((l.flatMap (eL 2)).count 39 : Int) = (l.count 39 : Int) := congrArg Prod.fst hc
    have c4 : ((l.flatMap (eL 2)).count 34 : Int) = 2 * (l.count 34 : Int) := congrArg Prod.snd hc
    refine .inr (.inr ⟨?_, ?_, ?_⟩)
    · rw [e]; simp only [List.cons_append, List.length_cons, List.length_append, List.length_nil, len_two]
    · rw [e]; simp [List.count_cons]; omega
    · rw [e]; simp only [List.cons_append, List.count_cons_self, List.count_append]; simp; omega
theorem laid_bound {d : Int} (hd : 0 ≤ d ∧ d ≤ 2) {l : List Nat} {n S D : Nat} (hl : l.length ≤ n) (h9 : l.count 39 ≤ S) (h4 : l.count 34 ≤ D) (q1 : D ≤ 4 * S) (q2 : D + 2 ≤ 2 * S) :
    (laidL d l).length ≤ n + 4 * S + 2 ∧ (laidL d l).count 39 ≤ 3 * S + 2 ∧ (laidL d l).count 34 ≤ D + 2 * S := by
  rcases laid_stats hd l with a | a | a <;> omega
theorem laid3_len {d0 d1 d2 : Int} (h0 : 0 ≤ d0 ∧ d0 ≤ 2) (h1 : 0 ≤ d1 ∧ d1 ≤ 2) (h2 : 0 ≤ d2 ∧ d2 ≤ 2) {l : List Nat} (hl : l.length ≤ 38) (h9 : l.count 39 ≤ 9) (h4 : l.count 34 ≤ 7) :
    (laidL d0 l).length ≤ 590 ∧ (laidL d1 (laidL d0 l)).length ≤ 590 ∧ (laidL d2 (laidL d1 (laidL d0 l))).length ≤ 590 := by
  have a := laid_bound h0 hl h9 h4 (by decide) (by decide)
  have b := laid_bound h1 a.1 a.2.1 a.2.2 (by decide) (by decide)
  have c := laid_bound h2 b.1 b.2.1 b.2.2 (by decide) (by decide)
  exact ⟨Nat.le_trans a.1 (by decide), Nat.le_trans b.1 (by decide), Nat.le_trans c.1 (by decide)⟩
theorem laid_sign {d : Int} {l : List Nat} (h : ∀ c ∈ l, Sign c) : ∀ c ∈ laidL d l, Sign c := by
  obtain ⟨q, hq, e⟩ := laid_one (d := d) l
  have hq' : ∀ c ∈ q, Sign c := fun c hc => by
    rcases hq c hc with q | q
    · exact .inl (by omega)
    · exact .inl (by omega)
  rw [e]
  intro c hc
  rcases List.mem_append.mp hc with hc | hc
  · rcases List.mem_append.mp hc with hc | hc
    · exact hq' c hc
    · obtain ⟨a, ha, hc⟩ := List.mem_flatMap.mp hc
      by_cases h3 : a = 34 ∨ a = 39
      · rcases eL_sub h3 c hc with q | q
        · exact .inl (by omega)
        · exact .inl (by omega)
      · have : eL d a = [a] := by
          unfold eL
          rw [if_neg fun q => h3 (.inr q), if_neg fun q => h3 (.inl q)]
          split
          · rfl
          · split <;> rfl
        rw [this] at hc
        exact List.mem_singleton.mp hc ▸ h a ha
  · exact hq' c hc
theorem three_of {ds : List Int} (h3 : ds.length = 3) : ∃ d0 d1 d2, ds = [d0, d1, d2] := by
  match ds, h3 with
  | [d0, d1, d2], _ => exact ⟨d0, d1, d2, rfl⟩
theorem odd_at {x : Str} {c : Nat} (h : c ∈ cp x) (ho : odd c = true) : ∃ k, k < x.cps.size ∧ odd (x.cps.getD k 0) = true := by
  obtain ⟨k, hk, e⟩ := List.getElem_of_mem h
  have hk' : k < x.cps.size := by simpa using hk
  refine ⟨k, hk', ?_⟩
  have e2 : x.cps.getD k 0 = c := by
    rw [Array.getD_eq_getD_getElem?, Array.getElem?_eq_getElem hk']
    simpa using e
  rw [e2]; exact ho
theorem lay_ok {one two three : Int} {ds : List Int} (h3 : ds.length = 3) (hds : ∀ d ∈ ds, 0 ≤ d ∧ d ≤ 2) : ∀ i, i < 3 → (∃ k, k < (layN ds (restS one two three) i).cps.size ∧ odd ((layN ds (restS one two three) i).cps.getD k 0) = true) ∧ (layN ds (restS one two three) i).length ≤ 10000 := by
  obtain ⟨d0, d1, d2, rfl⟩ := three_of h3
  have R := pc_rest one two three
  have L := laid3_len (hds d0 (by simp)) (hds d1 (by simp)) (hds d2 (by simp)) R.len R.s R.d
  have go : ∀ {x : Str}, (∀ c, c ≠ 39 → c ≠ 34 → c ∈ cp (restS one two three) → c ∈ cp x) → ∃ k, k < x.cps.size ∧ odd (x.cps.getD k 0) = true := fun h => by
    rcases rest_brk one two three with q | q
    · exact odd_at (h 40 (by decide) (by decide) q) (by decide +kernel)
    · exact odd_at (h 41 (by decide) (by decide) q) (by decide +kernel)
  intro i hi
  rcases i with _ | _ | _ | i
  · refine ⟨go fun c _ _ h => h, Nat.le_trans R.len (by decide)⟩
  · refine ⟨go fun c h9 h4 h => ?_, ?_⟩
    · show c ∈ cp (laidF d0 _)
      rw [cp_laidF]; exact laid_mem h h9 h4
    · show (laidF d0 _).length ≤ _
      rw [← cp_len, cp_laidF]; exact Nat.le_trans L.1 (by decide)
  · refine ⟨go fun c h9 h4 h => ?_, ?_⟩
    · show c ∈ cp (laidF d1 (laidF d0 _))
      rw [cp_laidF, cp_laidF]; exact laid_mem (laid_mem h h9 h4) h9 h4
    · show (laidF d1 (laidF d0 _)).length ≤ _
      rw [← cp_len, cp_laidF, cp_laidF]; exact Nat.le_trans L.2.1 (by decide)
  · omega
theorem lay_len590 {one two three : Int} {ds : List Int} (h3 : ds.length = 3) (hds : ∀ d ∈ ds, 0 ≤ d ∧ d ≤ 2) : (layN ds (restS one two three) 3).length ≤ 590 := by
  obtain ⟨d0, d1, d2, rfl⟩ := three_of h3
  have R := pc_rest one two three
  have L := laid3_len (hds d0 (by simp)) (hds d1 (by simp)) (hds d2 (by simp)) R.len R.s R.d
  show (laidF d2 (laidF d1 (laidF d0 _))).length ≤ _
  rw [← cp_len, cp_laidF, cp_laidF, cp_laidF]; exact L.2.2
theorem heads_ok {head : Str} (h : head ∈ [Str.ofString "229 ", Str.ofString "229-", Str.ofString "229", Str.ofString "227 "]) : 3 ≤ (cp head).length ∧ 40 ∉ cp head ∧ ∀ c ∈ cp head, Sign c := by
  have k : ∀ x ∈ [Str.ofString "229 ", Str.ofString "229-", Str.ofString "229", Str.ofString "227 "], (decide (3 ≤ (cp x).length) && !(cp x).contains 40 && (cp x).all signB) = true := by decide +kernel
  have := k head h
  simp only [Bool.and_eq_true, decide_eq_true_eq, List.all_eq_true, Bool.not_eq_true', List.contains_eq_mem, decide_eq_false_iff_not] at this
  exact ⟨this.1.1, this.1.2, fun c hc => sign_of_B (this.2 c hc)⟩
/-- a reply of the law's -/
theorem reply_ok {one two three : Int} {ds : List Int} (h3 : ds.length = 3) (hds : ∀ d ∈ ds, 0 ≤ d ∧ d ≤ 2) {head : Str} (hh : head ∈ [Str.ofString "229 ", Str.ofString "229-", Str.ofString "229", Str.ofString "227 "]) :
    parseO (cp (head ++ layN ds (restS one two three) 3)) = dueO (cp head) (cp (restS one two three)) ds ∧ ∀ c ∈ cp (head ++ layN ds (restS one two three) 3), c < 1114112 := by
  obtain ⟨d0, d1, d2, rfl⟩ := three_of h3
  have R := pc_rest one two three
  have L := laid3_len (hds d0 (by simp)) (hds d1 (by simp)) (hds d2 (by simp)) R.len R.s R.d
  obtain ⟨a, b, c⟩ := heads_ok hh
  have e : cp (head ++ layN [d0, d1, d2] (restS one two three) 3) = cp head ++ laidL d2 (laidL d1 (laidL d0 (cp (restS one two three)))) := by
    rw [cp_app]
    show _ ++ cp (laidF d2 (laidF d1 (laidF d0 _))) = _
    rw [cp_laidF, cp_laidF, cp_laidF]
  rw [e]
  refine ⟨plain_due (hds d0 (by simp)) (hds d1 (by simp)) (hds d2 (by simp)) a b R.sg (Nat.le_trans L.2.2 (by decide)), fun k hk => ?_⟩
  have : Sign k := by
    rcases List.mem_append.mp hk with hk | hk
    · exact c k hk
    · exact laid_sign (laid_sign (laid_sign R.sg)) k hk
  unfold Sign at this; omega
end Mine

end
section -- Q5
theorem Mine.offQ5 : True ∧ True := by
  w_top off
  first | (walk1; all_goals trivial) | exact ⟨trivial, trivial⟩
namespace Mine
open PySem PySem.W PyProof.Rows PySem.Spec PySem.Calls

section
variable {w : World} {A : Around} {s : Shared} {E : Value → Shared → Prop} {Q : Value → Shared → Prop} {p : Program} {loose : List Str} {mean : ExcName → Option Value} {mg mb : Str → Option Value}

local macro_rules | `(tactic| walk_at "eval ListComp") => `(tactic| refine halt ?_)
local macro_rules | `(tactic| walk_at "exec Assign cons ListComp") => `(tactic| refine halt ?_)
local macro_rules | `(tactic| walk_at "Exists") => `(tactic| refine halt ?_)
local macro_rules | `(tactic| walk_at "call builtin:len") => `(tactic| refine halt ?_)
local macro_rules | `(tactic| walk_at "subscriptTail Name Constant ref int") => `(tactic| refine halt ?_)
local macro_rules | `(tactic| walk_at "compareOp NotEq ref ref") => `(tactic| refine halt ?_)
local macro_rules | `(tactic| walk_at "exec For") => `(tactic| refine halt ?_)
local macro_rules | `(tactic| walk_at "pyIter ref") => `(tactic| refine halt ?_)
local macro_rules | `(tactic| walk_at "pyIter str") => `(tactic| refine halt ?_)

theorem c_number {x : Str} {t : Tok} (X : (Mine.hd.heap_1 w.params).In s.heap) (T : Top p loose mean mg mb s.heap) (hl : x.length ≤ 1000) (hch : ∀ c ∈ cp x, c < 1114112)
    (hA : A.handled = none) (hd : A.depth + 1 < recursionLimit) (hu : A.units + 100 < cLine)
    (h : ∀ v h' tk', NumIs (numL (cp x)) v → Kp s.heap h' → Q v { s with heap := h', toks := tk' }) : wpAny (model Challenge.rw_oy0022_01.row.prog w) A (call (.ref 128) [.str x t]) Q E s := by
  obtain ⟨hnd, dp, fr, gd, un⟩ := A
  obtain rfl : hnd = none := hA
  dsimp only at hd hu
  revert X; k_fill; intro X
  refine wpAny_call ?_
  k_dflt (refine' enterP [(Str.ofString "text", .str x t)] X T ?k6 ?k7 ?k8 ?k9 ?kB ?_ ?c2 ?c3 ?c4 ?c5; (case k6 => k_is); (case k7 => k_is); (case k8 => (dsimp only; omega)); (case k9 => exact BindsTo.of_eq rfl); (case kB => exact locs rfl); (case c2 => exact rfl); (case c3 => exact rfl); (case c4 => exact rfl); (case c5 => decide))
  intro L h₁ F N
  (try dsimp only)
  (try k_fold)
  k_steps
  · refine Halt.go ?_
    refine la_strs (h₀ := s.heap) (fun y => !(y == Str.ofString "")) (fun y => y) rfl rfl rfl (by decide) rfl (by decide) rfl rfl rfl ?_
    k_steps
    refine Halt.go ?_
    dsimp only at *
    rename List.map _ _ = Txt.split _ _ => hsp
    rename StrsAre _ _ => hS
    rename Heap.IsList _ _ _ => hL
    rename Fr _ _ _ _ => F9
    rename News _ _ _ _ => N9
    rw [hsp] at hS
    have hsl : (Txt.split x (Str.ofString " ")).length ≤ sizeLine := by rw [s32]; exact Nat.le_trans (split_len x 32) (Nat.le_trans (Nat.succ_le_succ hl) (by decide))
    refine ⟨_, _, _, _, _, rfl, F9, N9, hL, hS, hsl, ?_, ?_, ?_⟩
    · intro C y u s₃ m₃ E' hC hy hn hm hk htk
      k_steps
      exact ⟨_, _, rfl, fun _ _ e => e⟩
    · intro C y u s₃ m₃ E' hC hy hp hn hm hk htk
      exact cn_local hn hm ⟨⟨_, rfl⟩, _, _, rfl, fun _ _ e => e⟩
    · intro D ys n h' tk' hD hl' hys F8 N8
      clear F9 N9 hS hL hsl
      obtain ⟨vs⟩ := ys
      have hLD : h'.IsList D vs.toArray := ⟨_, hl', rfl, _, rfl⟩
      rw [List.map_id'] at hys
      k_steps
      have hvl := strsAre_length hys
      dsimp only at hvl
      have hsz : vs.length ≤ 1001 := by rw [hvl]; exact Nat.le_trans (filter_len_le x) (Nat.succ_le_succ hl)
      refine len_list hLD (by rw [List.size_toArray]; omega) ?_
      generalize hB : List.filter (fun y => !(y == Str.ofString "")) (Txt.split x (Str.ofString " ")) = B at *
      k_steps
      · show Q Value.none _
        refine h _ _ _ ?_ F8.keep
        rw [numL_not (by rw [hB, ← hvl]; intro e; (rename ((List.toArray _).size : Int) ≠ 1 => h1); exact h1 (by rw [List.size_toArray, e]; rfl))]
        rfl
      · refine Halt.go ?_
        (rename ((List.toArray _).size : Int) = 1 => h1)
        rw [List.size_toArray] at h1
        obtain ⟨b, rfl⟩ : ∃ b, B = [b] := by
          match B, hvl with
          | [b], _ => exact ⟨b, rfl⟩
          | [], e => rw [List.length_nil] at e; omega
          | _ :: _ :: _, e => rw [List.length_cons, List.length_cons] at e; omega
        have hb0 : 0 < b.length := one_ne hB
        have hbl : b.length ≤ 1000 := by
          have hm : b ∈ Txt.split x (Str.ofString " ") := (List.mem_filter.mp (hB ▸ List.mem_singleton.mpr rfl : b ∈ _)).1
          rw [← hsp] at hm
          (rename ∀ a : Str, a ∈ List.map _ _ → _ => hle)
          exact Nat.le_trans (hle b hm) hl
        refine sub_strs 1000 hLD hys (by decide) (Int.zero_lt_one) (Nat.le_of_ble_eq_true rfl) (by simpa using hbl) ?_
        intro v t9 hv9 _
        obtain rfl : v = b := hv9
        k_steps
        all_goals
          refine Halt.go ?_
          dsimp only at *
          (rename Heap.IsList _ _ _ => hLr)
          (rename Fr _ _ _ _ => F9)
          (rename News _ _ _ _ => N9)
          (rename List.map _ _ = Txt.split _ (Str.ofString "_") => hsr)
          (rename StrsAre (strValues _) _ => hSr)
          (rename (Builtin.Str.occurrences _ _ _ _ _).isEmpty = _ => hoc)
          rw [hsr] at hSr
          have hR := (by first | exact core_no hb0 hoc | exact core_yes hb0 hoc : _ = spl 95 (coreL (cp v)))
          generalize Txt.split _ (Str.ofString "_") = R at hSr hsr hR
          refine it_strs (h₀ := s.heap) (env := envOf (Str.ofString "_law_number") _ L 128 (Value.ref 127)) (fun i m => (((R.take i).map cp).all runOk = true) ∧ (∃ t, m (Str.ofString "number") = some (.int (numOf ((R.take i).map cp)) t)) ∧ m (Str.ofString "body") = some (.str v t9)) rfl hLr hSr ?_ F9 N9 ⟨rfl, ⟨_, rfl⟩, rfl⟩ ?_ ?_
          · intro e
            have h8 := (N9 _ (List.mem_cons_self)).2.1
            exact h8 e
          · rintro i y ty m₁ hp tk own hy ⟨hok, ⟨tn, hn⟩, hb⟩ F7 N7
            have hyl : y.length ≤ 1000 := by
              (rename ∀ a : Str, a ∈ List.map _ _ → a.length ≤ (_ : Str).length => hle)
              rw [hsr] at hle
              have := hle y (List.mem_of_getElem? hy)
              first | exact Nat.le_trans this hbl | exact Nat.le_trans this (Nat.le_trans (by assumption) hbl)
            k_steps
            · (rename (_ == _) = true => he)
              refine h _ _ _ ?_ F7.keep
              rw [numL_one hB, bodyNum_none hR hy (by rw [eq_nil] at he; unfold runOk; rw [he]; rfl)]
              rfl
            · refine Halt.go ?_
              refine lc_text (fun c => !(decide (48 ≤ c) && decide (c ≤ 57))) (fun c => ⟨#[c]⟩) rfl rfl (by decide) rfl (by decide) rfl ?_
              walk1
              refine ⟨y, ty, rfl, Nat.le_trans hyl (by decide), ?_, ?_, ?_⟩
              · intro C c u s₃ m₃ E' hC hc hn hm hk htk
                k_steps
                · rw [in_digs]; simp
                · exact ⟨_, _, rfl, fun _ _ e => e⟩
              · intro C c u s₃ m₃ E' hC hc _ hn hm hk htk
                exact cn_local hn hm ⟨⟨_, rfl⟩, _, _, rfl, fun _ _ e => e⟩
              · intro D2 ys2 n2 h2 tk2 hD2 hl2 hys2 hk2
                have F6 := F7.keeps hk2
                obtain ⟨vs2⟩ := ys2
                have N6 := news_fresh F7 hD2 hl2 (N7.keepsAll hk2)
                clear F7 N7
                dsimp only at hys2
                have F5 : Fr s.heap L h2 _ := F6
                have N5 : News s.heap L h2 _ := N6
                rw [put_eq hb, put_eq hn] at F5
                clear F6 N6
                k_steps
                refine Halt.go ?_
                (rename Fr _ _ _ _ => F4)
                (rename News _ _ _ _ => N4)
                dsimp only at *
                refine ne_strs_nil (vs := vs2) ?_ hys2 ?_ ?_ ?_ ?_
                · exact ⟨_, N4.get (by k_mem), rfl, _, rfl⟩
                · exact ⟨_, N4.get (by k_mem), rfl, _, rfl⟩
                · intro z hz
                  obtain ⟨c, hc, rfl⟩ := List.mem_map.mp hz
                  refine strOk_of fun a ha => ?_
                  obtain rfl : a = c := by simpa [cp] using ha
                  exact hch _ (mem_run hB hR (List.mem_of_getElem? hy) (List.mem_filter.mp hc).1)
                · units_room
                k_steps
                · refine Halt.go ?_
                  refine For_invV s.heap rfl rfl ?_ (by intro _; rfl) (by with_unfolding_all passes_own)
                  k_steps
                  refine Halt.go ?_
                  (try dsimp only at *)
                  (rename List.map _ _ = [] => hnil)
                  have hdg : digs (cp y) = true := (filter_digs _).mp (List.map_eq_nil_iff.mp hnil)
                  have hrok : runOk (cp y) = true := by
                    (rename (_ == _) = false => he)
                    rw [eq_nil] at he
                    unfold runOk; rw [he, hdg]; rfl
                  refine it_signs (h₀ := s.heap) (env := envOf (Str.ofString "_law_number") _ L 128 (Value.ref 127)) (fun j m => (∃ t, m (Str.ofString "number") = some (.int (((cp y).take j).foldl dig (numOf ((R.take i).map cp))) t)) ∧ m (Str.ofString "body") = some (.str v t9)) rfl F4 N4 ⟨⟨_, rfl⟩, rfl⟩ ?_ ?_
                  · rintro j c tc m₂ hp3 tk3 own3 hc ⟨⟨tn3, hn3⟩, hb3⟩ F3 N3
                    rw [put_eq hb3, put_eq hn3] at F3
                    k_steps
                    (rename Fr _ _ _ _ => F2)
                    (rename News _ _ _ _ => N2)
                    have hst : ((cp y).take (j + 1)).foldl dig (numOf ((R.take i).map cp)) = ((cp y).take j).foldl dig (numOf ((R.take i).map cp)) * 10 + (c : Int) - 48 := by
                      rw [List.take_add_one, hc, Option.toList_some, List.foldl_append]
                      rfl
                    rw [← hst] at F2
                    exact InvEnd.intro F2 N2 (fun _ hp => hp) ⟨⟨_, rfl⟩, rfl⟩
                  · rintro m₂ hp3 tk3 ⟨⟨tn3, hn3⟩, hb3⟩ F3 N3
                    k_steps
                    refine InvEnd.intro F3 N3 (fun _ hp => List.mem_cons_of_mem _ (List.mem_cons_of_mem _ hp)) ⟨?_, ⟨tn3, ?_⟩, hb3⟩
                    · rw [List.take_add_one, hy, Option.toList_some, List.map_append, List.all_append, hok]
                      simpa using hrok
                    · rw [hn3, List.take_length, List.take_add_one, hy, Option.toList_some, List.map_append]
                      rw [show List.map cp [y] = [cp y] from rfl, numOf_snoc]
                · (rename _ ≠ [] => hne)
                  refine h _ _ _ ?_ F4.keep
                  rw [numL_one hB, bodyNum_none hR hy ?_]
                  · rfl
                  · cases hq : runOk (cp y) with
                    | false => rfl
                    | true => exact absurd (List.map_eq_nil_iff.mpr ((filter_digs _).mpr (by unfold runOk at hq; exact (Bool.and_eq_true _ _ ▸ hq).2))) hne
          · rintro m₁ hp tk ⟨hok, ⟨tn, hn⟩, hb⟩ F7 N7
            rw [List.take_length] at hok hn
            obtain ⟨c0, r0, e0⟩ := cons_of hb0
            have hbn := bodyNum_some hR hok
            rw [put_eq hb, put_eq hn] at F7
            k_steps
            · (rename (Txt.item _ _ == _) = _ => he)
              rw [item_zero e0, s45, eq_one] at he
              refine h _ _ _ ?_ F7.keep
              rw [numL_one hB, hbn, e0, if_pos (by rw [of_decide_eq_true he]; rfl)]
              exact ⟨_, rfl⟩
            · (rename (Txt.item _ _ == _) = _ => he)
              rw [item_zero e0, s45, eq_one] at he
              refine h _ _ _ ?_ F7.keep
              rw [numL_one hB, hbn, e0, if_neg (by have := of_decide_eq_false he; simpa using this)]
              exact ⟨_, rfl⟩
end
end Mine

end
section -- Q7
theorem Mine.offQ7 : True ∧ True := by
  w_top off
  first | (walk1; all_goals trivial) | exact ⟨trivial, trivial⟩
namespace Mine
open PySem PySem.W PyProof.Rows PySem.Spec PySem.Calls

/-- a number by one way or the other: the ways meet -/
theorem ite_meet {M : Model} {A : Around} {E : Value → Shared → Prop} {s : Shared} {c : Bool} {t1 t2 : Sem Value} {Q : Value → Shared → Prop} (n : Int) (hQ : ∀ t tk, Q (.int n t) { s with toks := tk })
    (h1 : c = true → ∀ Q' : Value → Shared → Prop, (∀ t tk, Q' (.int n t) { s with toks := tk }) → wpAny M A t1 Q' E s)
    (h2 : c = false → ∀ Q' : Value → Shared → Prop, (∀ t tk, Q' (.int n t) { s with toks := tk }) → wpAny M A t2 Q' E s) : if c = true then wpAny M A t1 Q E s else wpAny M A t2 Q E s := by
  cases c with
  | true => exact h1 rfl Q hQ
  | false => exact h2 rfl Q hQ
section
variable {w : World} {A : Around} {s : Shared} {E : Value → Shared → Prop} {Q : Value → Shared → Prop} {p : Program} {loose : List Str} {mean : ExcName → Option Value} {mg mb : Str → Option Value}
local macro_rules | `(tactic| walk_at "subscriptTail Name Constant ref int") => `(tactic| refine halt ?_)
local macro_rules | `(tactic| walk_at "exec For") => `(tactic| refine halt ?_)
local macro_rules | `(tactic| walk_at "call builtin:str.join") => `(tactic| refine halt ?_)
local macro_rules | `(tactic| walk_at "pyIter ref") => `(tactic| refine halt ?_)
local macro_rules | `(tactic| walk_at "subscriptTail Call Attribute cons nil Constant ref int") => `(tactic| ((with_reducible show wpAny _ _ (subscriptTail _ _ (Value.ref _) (Value.int 3 _)) _ _ _); refine halt ?_))
local macro_rules | `(tactic| walk_at "call type:str") => `(tactic| refine halt ?_)
local macro_rules | `(tactic| walk_at "call ref") => `(tactic| refine halt ?_)
local macro_rules | `(tactic| walk_at "ite") => `(tactic| ((with_reducible show if _ then wpAny _ _ (eval (PySem.Expr.Name _ _) _) _ _ _ else wpAny _ _ (eval (PySem.Expr.IfExp _ _ _ _) _) _ _ _); refine halt ?_))
theorem c_due {hd' rest reply host : Str} {t1 t2 t3 t4 : Tok} {dl : Addr} {vs : List Value} {ds : List Int} (X : (Mine.hd.heap_1 w.params).In s.heap) (T : Top p loose mean mg mb s.heap)
    (hlh : hd'.length ≤ 1000) (hlr : reply.length ≤ 1000) (hlo : host.length ≤ 100) (hl : rest.length ≤ 200) (hch : ∀ c ∈ cp rest, c < 1114112) (hDl : s.heap.IsList dl vs.toArray) (hI : IntsAre vs ds) (h3 : ds.length = 3) (hds : ∀ d ∈ ds, 0 ≤ d ∧ d ≤ 2)
    (hA : A.handled = none) (hd : A.depth + 2 < recursionLimit) (hu : A.units + 120 < cLine)
    (h : ∀ v h' tk', Kp s.heap h' → OutAt h' reply host v (dueO (cp hd') (cp rest) ds) → Q v { s with heap := h', toks := tk' }) :
    wpAny (model Challenge.rw_oy0022_01.row.prog w) A (call (.ref 135) [.str hd' t1, .str rest t2, .ref dl, .str reply t3, .str host t4]) Q E s := by
  obtain ⟨hnd, dp, fr, gd, un⟩ := A
  obtain rfl : hnd = none := hA
  dsimp only at hd hu
  revert X; k_fill; intro X
  refine wpAny_call ?_
  k_dflt (refine' enterP [(Str.ofString "head", .str hd' t1), (Str.ofString "rest", .str rest t2), (Str.ofString "deeds", .ref dl), (Str.ofString "reply", .str reply t3), (Str.ofString "host", .str host t4)] X T ?k6 ?k7 ?k8 ?k9 ?kB ?_ ?c2 ?c3 ?c4 ?c5; (case k6 => k_is); (case k7 => k_is); (case k8 => (dsimp only; omega)); (case k9 => exact BindsTo.of_eq rfl); (case kB => exact locs rfl); (case c2 => exact rfl); (case c3 => exact rfl); (case c4 => exact rfl); (case c5 => decide))
  intro L h₁ F N
  (try dsimp only)
  (try k_fold)
  k_steps
  · rename (_ != _) = true => q1
    rw [head_229, decide_eq_true_iff] at q1
    rename News _ _ _ _ => N8
    rename Fr _ _ _ _ => F8
    refine h _ _ _ F8.keep ?_
    unfold dueO
    rw [if_pos q1]
    exact ⟨_, _, _, rfl, N8.isTup (by k_mem)⟩
  refine Halt.go ?_
  rename (_ != _) = false => q1
  rw [head_229, decide_eq_false_iff_not, Decidable.not_not] at q1
  dsimp only at *
  rename StrsAre _ _ => hSr
  rename List.map _ _ = Txt.split _ _ => hsr
  rename ∀ a : Str, a ∈ List.map _ _ → _ => hle
  rw [hsr] at hSr hle
  rename News _ _ _ [_, _] => N8
  have hsl := strsAre_length hSr
  have hsc : (Txt.split rest (Str.ofString "(")).length ≤ 201 := by rw [s40]; have := split_len rest 40; omega
  have hdm : ∀ y ∈ (Txt.split rest (Str.ofString "(")).drop 1, y.length ≤ 200 := fun y hy => Nat.le_trans (hle y (List.mem_of_mem_drop hy)) hl
  have hdl : ((Txt.split rest (Str.ofString "(")).drop 1).length ≤ 201 := by rw [List.length_drop]; omega
  refine join_listW (N8.isList (by k_mem)) (pick_from1 hSr) (by decide) (by have := sum_le hdm; omega) ?_
  intro t9 k9
  have hcb := cp_behind rest
  have hbl : (Txt.join (Str.ofString "(") ((Txt.split rest (Str.ofString "(")).drop 1)).length ≤ 200 := by rw [← cp_len, hcb]; have := behind_len (cp rest); rw [cp_len] at this; omega
  clear hle hdm hdl hsc
  generalize Txt.join (Str.ofString "(") ((Txt.split rest (Str.ofString "(")).drop 1) = bh at *
  k_steps
  all_goals dsimp only at *
  all_goals (rename _ = Txt.split bh _ => hb1; rename (_ : List Str)[Int.toNat 0]? = some _ => hb2; have hin := due_inside hb1 hb2; rw [hcb] at hin)
  · rename (Builtin.Str.occurrences _ _ _ _ _).isEmpty = true => q2
    rename News _ _ _ _ => N8
    rename Fr _ _ _ _ => F8
    refine h _ _ _ F8.keep ?_
    rw [occ41, hcb] at q2
    rw [dueO_proto q1 hin (.inl (by simpa using q2))]
    exact ⟨_, _, _, rfl, N8.isTup (by k_mem)⟩
  · rename (_ == _) = true => q2
    rename News _ _ _ _ => N8
    rename Fr _ _ _ _ => F8
    refine h _ _ _ F8.keep ?_
    rw [eq_nil] at q2
    rw [dueO_proto q1 hin (.inr (.inl (by simpa using q2)))]
    exact ⟨_, _, _, rfl, N8.isTup (by k_mem)⟩
  · rename (_ == _) = false => q2
    rename (_ != _) = true => q3
    rename News _ _ _ _ => N8
    rename Fr _ _ _ _ => F8
    refine h _ _ _ F8.keep ?_
    rw [ends_eq2 q2, decide_eq_true_iff] at q3
    rw [dueO_proto q1 hin (.inr (.inr q3))]
    exact ⟨_, _, _, rfl, N8.isTup (by k_mem)⟩
  rename (Builtin.Str.occurrences _ _ _ _ _).isEmpty = false => q2
  rename (_ == _) = false => q3
  rename (_ != _) = false => q4
  rw [ends_eq2 q3, decide_eq_false_iff_not, Decidable.not_not] at q4
  rw [eq_nil] at q3
  rw [occ41, hcb] at q2
  have hcond := cond_of q2 q3 q4
  rw [dueO_in q1 hin hcond] at h
  rename News _ _ _ _ => N8
  rename Fr _ _ _ _ => F8
  rename_i y ty _ _ hy1 _ _ _ _ _ _ _ _
  refine Halt.go ?_
  refine For_invV s.heap rfl rfl ?_ (by intro _; rfl) (by with_unfolding_all passes_own)
  k_steps
  refine Halt.go ?_
  have hyl : y.length ≤ 200 := Nat.le_trans ((by assumption : ∀ a : Str, a ∈ _ → a.length ≤ bh.length) y (List.mem_of_getElem? hb2)) hbl
  have hs0 : Txt.count y (Str.ofString "'") = (sd0 (cp y)).1 := by rw [s39, txt_count]; rfl
  have hd0 : Txt.count y (Str.ofString "\"") = (sd0 (cp y)).2 := by rw [s34, txt_count]; rfl
  have hb0 : 0 ≤ (sd0 (cp y)).1 ∧ (sd0 (cp y)).1 ≤ 200 ∧ 0 ≤ (sd0 (cp y)).2 ∧ (sd0 (cp y)).2 ≤ 200 := by
    have e1 := List.count_le_length (a := 39) (l := cp y)
    have e2 := List.count_le_length (a := 34) (l := cp y)
    rw [cp_len] at e1 e2
    exact ⟨Int.natCast_nonneg _, Int.ofNat_le.mpr (Nat.le_trans e1 hyl), Int.natCast_nonneg _, Int.ofNat_le.mpr (Nat.le_trans e2 hyl)⟩
  rw [hs0, hd0] at F8
  have hdlL : dl ≠ L := fun e => by
    obtain ⟨o, ho, _⟩ := hDl
    exact absurd (Nat.lt_of_lt_of_le (Heap.lt_size ho) F8.above) (e ▸ Nat.lt_irrefl _)
  clear hb1 hb2 hs0 hd0
  refine it_list (h₀ := s.heap) (env := envOf (Str.ofString "_law_due") _ L 135 (Value.ref 134)) (fun i m => (0 ≤ (sdAt (cp y) ds i).1 ∧ (sdAt (cp y) ds i).1 ≤ 200 * 3 ^ i ∧ 0 ≤ (sdAt (cp y) ds i).2 ∧ (sdAt (cp y) ds i).2 ≤ 200 * 3 ^ i) ∧
    (∃ t, m (Str.ofString "single") = some (.int (sdAt (cp y) ds i).1 t)) ∧ (∃ t, m (Str.ofString "double") = some (.int (sdAt (cp y) ds i).2 t)) ∧
    m (Str.ofString "inside") = some (.str y ty) ∧ (∃ t, m (Str.ofString "mark") = some (.str (Txt.item y 0) t)) ∧ m (Str.ofString "reply") = some (.str reply t3) ∧ m (Str.ofString "host") = some (.str host t4))
    rfl (hDl.at fun o e => F8.keep _ _ e) hdlL F8 N8 ⟨?_, ⟨_, rfl⟩, ⟨_, rfl⟩, rfl, ⟨_, rfl⟩, rfl, rfl⟩ ?_ ?_
  · simpa [sdAt] using hb0
  · rintro i v m₁ hp tk own hi hv ⟨hbd, ⟨ts, hs⟩, ⟨td, hd'⟩, hj1, ⟨tm, hj2⟩, hj3, hj4⟩ F7 N7
    obtain ⟨d, t', rfl, hdi⟩ := ints_get hI hv
    have hr := hds d (List.mem_of_getElem? hdi)
    have hsu := sdAt_succ (ins := cp y) hdi
    have hi3 : i < 3 := by have := hI.length; omega
    rw [put_eq hj4, put_eq hj3, put_eq hj2, put_eq hj1, put_eq hs, put_eq hd'] at F7
    generalize hsd : sdAt (cp y) ds i = sd at *
    obtain ⟨sg, db⟩ := sd
    dsimp only at hbd F7
    have h3i : (3 : Int) ^ i = 1 ∨ (3 : Int) ^ i = 3 ∨ (3 : Int) ^ i = 9 := by
      have : i = 0 ∨ i = 1 ∨ i = 2 := by omega
      rcases this with rfl | rfl | rfl <;> decide
    have hbd' : 0 ≤ sg ∧ sg ≤ 1800 ∧ 0 ≤ db ∧ db ≤ 1800 := by omega
    have hpw : (3 : Int) ^ (i + 1) = 3 ^ i * 3 := Int.pow_succ ..
    obtain ⟨w1, w2, w3, w4⟩ := hbd'
    have hcase : d = 0 ∨ d = 1 ∨ d = 2 := by omega
    rcases hcase with rfl | rfl | rfl
    · rw [dueStep_0] at hsu
      k_steps
      refine InvEnd.intro (by assumption) (by assumption) (fun _ hp => List.mem_cons_of_mem _ (List.mem_cons_of_mem _ hp)) ⟨?_, ?_, ?_, rfl, ⟨_, rfl⟩, rfl, rfl⟩
      · rw [hsu]; dsimp only; omega
      · rw [hsu]; exact ⟨_, rfl⟩
      · rw [hsu]; exact ⟨_, rfl⟩
    · rw [dueStep_1] at hsu
      k_steps
      refine InvEnd.intro (by assumption) (by assumption) (fun _ hp => List.mem_cons_of_mem _ (List.mem_cons_of_mem _ hp)) ⟨?_, ?_, ?_, rfl, ⟨_, rfl⟩, rfl, rfl⟩
      · rw [hsu]; dsimp only; omega
      · rw [hsu]; exact ⟨_, rfl⟩
      · rw [hsu]; exact ⟨_, rfl⟩
    · rw [dueStep_2] at hsu
      k_steps
      refine InvEnd.intro (by assumption) (by assumption) (fun _ hp => List.mem_cons_of_mem _ (List.mem_cons_of_mem _ hp)) ⟨?_, ?_, ?_, rfl, ⟨_, rfl⟩, rfl, rfl⟩
      · rw [hsu]; dsimp only; omega
      · rw [hsu]; exact ⟨_, rfl⟩
      · rw [hsu]; exact ⟨_, rfl⟩
  · rintro m₁ hp tk ⟨hbd, ⟨ts, hs⟩, ⟨td, hd'⟩, hj1, ⟨tm, hj2⟩, hj3, hj4⟩ F7 N7
    rw [hI.length, h3] at hbd hs hd'
    have hall : sdAt (cp y) ds 3 = ds.foldl dueStep (sd0 (cp y)) := by unfold sdAt; rw [List.take_of_length_le (by omega)]
    rw [put_eq hj4, put_eq hj3, put_eq hj2, put_eq hj1, put_eq hs, put_eq hd'] at F7
    generalize hsd : sdAt (cp y) ds 3 = sd at *
    obtain ⟨sg, db⟩ := sd
    dsimp only at hbd F7
    obtain ⟨w1, w2, w3, w4⟩ := hbd
    obtain ⟨mk, tl, hcy⟩ := cons_of hy1
    have hmk : Txt.item y 0 = ⟨#[mk]⟩ := item_zero hcy
    rw [hmk] at F7
    k_steps
    refine Halt.go ?_
    refine ite_meet (dueN (cp y) ds) ?_ (fun hc Q' hq => ?_) (fun hc Q' hq => ?_)
    rotate_left
    · k_steps
      rw [dn1 hcy hall hc] at hq
      exact hq _ _
    · k_steps
      · rw [dn2 hcy hall hc (by assumption)] at hq
        exact hq _ _
      · rw [dn3 ds hcy hc (by assumption)] at hq
        exact hq _ _
    intro tn kn
    k_steps
    all_goals first
      | (rename Fr _ _ _ _ => F9
         rename News _ _ _ _ => N9
         rw [due_proto (by assumption)] at h
         exact h _ _ _ F9.keep ⟨_, _, _, rfl, N9.isTup (by k_mem)⟩)
      | (rename Fr _ _ _ _ => F9
         rename News _ _ _ _ => N9
         rw [due_value hcy (by assumption) (by assumption)] at h
         exact h _ _ _ F9.keep ⟨_, _, _, rfl, N9.isTup (by k_mem)⟩)
      | skip
    all_goals
      refine Halt.go ?_
      dsimp only at *
      rename List.map _ _ = Txt.split y _ => hb1
      rename StrsAre _ (List.map _ _) => hb2
      rename ∀ a : Str, a ∈ List.map _ _ → a.length ≤ y.length => hb3
      rw [hb1] at hb2 hb3
      have hcnt : Txt.count y ⟨#[mk]⟩ = 4 := by assumption
      rw [due_num hcy (by assumption) hcnt] at h
      obtain ⟨hp5, hp3⟩ := part3 (m := mk) (rfl : cp y = cp y)
      have hlen5 : (Txt.split y ⟨#[mk]⟩).length = 5 := by rw [hp5, count_spl]; rw [txt_count] at hcnt; omega
      refine sub_strs 200 (by assumption) hb2 (by decide) (by rw [hlen5]; decide) (by rw [hlen5]; decide) (fun x hx => Nat.le_trans (hb3 x hx) hyl) ?_
      intro v t8 hv lv
      rw [← hp3, show (3 : Nat) = Int.toNat 3 from rfl, ← hv] at h
      k_steps
      refine Halt.go ?_
      rename Fr _ _ _ _ => F9
      rename News _ _ _ _ => N9
      have hvc : ∀ c ∈ cp v, c < 1114112 := by
        intro c hc
        rw [hv, show (Int.toNat 3 : Nat) = 3 from rfl, hp3] at hc
        have h31 : (spl mk (cp y)).getD 3 [] ∈ spl mk (cp y) := by
          rw [List.getD_eq_getElem?_getD, List.getElem?_eq_getElem (by rw [← hp5]; omega), Option.getD_some]
          exact List.getElem_mem _
        have h32 := mem_spl h31 c hc
        rw [hin] at h32
        have h33 : (spl 41 (behindL (cp rest))).headD [] ∈ spl 41 (behindL (cp rest)) := by
          obtain ⟨p9, r9, e9⟩ := spl_ne 41 (behindL (cp rest))
          rw [e9]; exact List.mem_cons_self
        rcases behind_mem (mem_spl h33 c h32) with e | e
        · omega
        · exact hch c e
      refine c_number (X.keeps F9.keep) (T.keeps F9.keep) (Nat.le_trans lv (by decide)) hvc rfl (by dsimp only [Around.deeper]; omega) (by dsimp only [Around.deeper]; omega) ?_
      intro v' h' tk' hnum hkp
      have F6 := F9.keeps hkp
      have N6 := N9.keepsAll hkp
      clear F9 N9
      (try dsimp only at F6 N6)
      cases hnl : numL (cp v) with
      | none =>
        rw [hnl] at hnum h
        obtain rfl : v' = Value.none := hnum
        k_steps
        rename Fr _ _ _ _ => F5
        rename News _ _ _ _ => N5
        exact h _ _ _ F5.keep ⟨_, _, _, rfl, N5.isTup (by k_mem)⟩
      | some n =>
        rw [hnl] at hnum h
        obtain ⟨t7, rfl⟩ := hnum
        have hnb := num_bound (k := 200) hnl lv
        k_steps
        refine Halt.go ?_
        refine PySem.P.str_of_int (shown_abs (N := 10 ^ 200) (by split <;> omega) (by decide +kernel)) ?_
        k_steps
        rename Fr _ _ _ _ => F5
        rename News _ _ _ _ => N5
        exact h _ _ _ F5.keep ⟨_, _, _, _, _, _, rfl, N5.isTup (by k_mem), N5.isTup (by k_mem)⟩
end
end Mine

end
section -- LT
theorem Mine.offLT : True ∧ True := by
  w_top off
  first | (walk1; all_goals trivial) | exact ⟨trivial, trivial⟩
namespace Mine
open PySem PySem.W PyProof.Rows PySem.Spec PySem.Calls
/-- between two turns of the first loop -/
def J1 (g : Heap) (L cl pt rl dl : Addr) (host : Str) (It il : Addr) (os0 : OsState) (i : Nat) (s : Shared) : Prop :=
  ∃ m cm xs, LW g L cl pt rl dl host xs xs s.heap m cm ∧ xs.length = i ∧ s.heap.IsListIter It il i ∧ (∃ t0 t4 t8, s.heap.IsList il #[.int 0 t0, .int 4 t4, .int 8 t8]) ∧ AllBare s.gens ∧ s.os = os0 ∧ ∀ x ∈ xs, NumOk x
section
variable {w : World} {A : Around} {s : Shared} {E : Value → Shared → Prop} {p : Program} {loose : List Str} {mean : ExcName → Option Value} {mg mb : Str → Option Value}
local macro_rules | `(tactic| walk_at "nm_glob") => `(tactic| (refine Halt.go ?_; refine q_glob (Fr.keep (by assumption)) (by assumption) (by assumption) (by k_is) ?_))
local macro_rules | `(tactic| walk_at "subscriptTail Name Constant ref int") => `(tactic| refine halt ?_)
local macro_rules | `(tactic| walk_at "subscriptTail Name UnaryOp ref int") => `(tactic| refine halt ?_)
local macro_rules | `(tactic| walk_at "callWith ref") => `(tactic| refine halt ?_)
local macro_rules | `(tactic| walk_at "call ref") => `(tactic| refine halt ?_)
local macro_rules | `(tactic| walk_at "FnAt") => `(tactic| refine halt ?_)
local macro_rules | `(tactic| walk_at "getMethod ref") => `(tactic| refine halt ?_)
local macro_rules | `(tactic| walk_at "call builtin:list.append") => `(tactic| refine halt ?_)
local macro_rules | `(tactic| walk_at "eval Name") => `(tactic| refine halt ?_)
local macro_rules | `(tactic| walk_at "compareOp NotEq") => `(tactic| refine halt ?_)
theorem law_tail1 {G : Heap} {L cl pt rl dl D8 It il : Addr} {host head rest reply : Str} {thd tr trp t0 t4 t8 : Tok} {xs : List Str} {vds : List Value} {ds : List Int} {m cm : Str → Option Value} {i : Nat} {os0 : OsState} {env : Env} {mr : List (Str × Const)} {Qf : Flow → Shared → Prop}
    {n1 n2 n3 n4 n5 n6 n7 n8 n9 k1 k2 k3 : Nat} {p1 p3 p5 p6 p7 p8 p9 r1 r3 r4 r5 r6 r7 r8 r9 u1 u2 u3 u4 u5 u6 u7 u8 u9 v1 v2 v4 v5 : Pos}
    (henv : env = envOfC (Str.ofString "law") { kind := .function, names := [(Str.ofString "script", .local), (Str.ofString "numbers", .cell), (Str.ofString "place", .cell), (Str.ofString "cells", .cell), (Str.ofString "dues", .local), (Str.ofString "rest", .local), (Str.ofString "head", .local), (Str.ofString "due", .local), (Str.ofString "told", .local), (Str.ofString "count", .cell), (Str.ofString "deeds", .cell), (Str.ofString "peer", .cell), (Str.ofString "replies", .cell), (Str.ofString "reply", .cell), (Str.ofString "enumerate", .globalImplicit), (Str.ofString "_law_rest", .globalImplicit), (Str.ofString "range", .globalImplicit), (Str.ofString "reduce", .globalImplicit), (Str.ofString "_law_laid", .globalImplicit), (Str.ofString "_law_due", .globalImplicit), (Str.ofString "_law_outcome", .globalImplicit), (Str.ofString "str", .globalImplicit)], isGenerator := false, isCoroutine := false, more := mr } L 147 (.ref 146))
    (X : (Mine.hd.heap_1 w.params).In G) (Tp : Top p loose mean mg mb G) (hA : A.handled = none) (hdp : A.depth ≤ 600) (hun : A.units ≤ 10) (KB : Below A G [] G) (hC146 : CodeHd G 146 144) (hg94 : G.get? 91 = none) (hg144 : G.get? 144 = none)
    (W : LW G L cl pt rl dl host xs xs s.heap m cm) (hIt : s.heap.IsListIter It il (i + 1)) (hIl : s.heap.IsList il #[.int 0 t0, .int 4 t4, .int 8 t8]) (hit2 : It ≠ 91 ∧ It ≠ 144) (hilr : rl < il ∧ dl < il)
    (hD : s.heap.PlainList D8 vds.toArray) (hDrl1 : D8 ≠ rl) (hDrl2 : D8 ≠ dl)
    (hm1 : m (Str.ofString "head") = some (.str head thd)) (hm2 : m (Str.ofString "rest") = some (.str rest tr)) (hc1 : cm (Str.ofString "reply") = some (.str reply trp)) (hc2 : cm (Str.ofString "deeds") = some (.ref D8))
    (hds : IntsAre vds ds) (h3 : ds.length = 3) (hr : ∀ d ∈ ds, 0 ≤ d ∧ d ≤ 2)
    (hpl : parseO (cp reply) = dueO (cp head) (cp rest) ds) (hlen : reply.length ≤ 600) (hch : ∀ c ∈ cp reply, c < 1114112) (hhl : head.length ≤ 4) (hrl : rest.length ≤ 38) (hrc : ∀ c ∈ cp rest, c < 1114112) (hho : host.length ≤ 7)
    (hnum : ∀ x ∈ xs, NumOk x) (hG : AllBare s.gens) (hos : s.os = os0) (hxl : xs.length = i) (hi : i < 3)
    (h : ∀ s', J1 G L cl pt rl dl host It il os0 (i + 1) s' → Qf .next s') :
    wpC (model Challenge.rw_oy0022_01.row.prog w) (A.deeper env)
      (execs [.Expr (.Call (.Attribute (.Name (Str.ofString "replies") p1) (Str.ofString "append") ⟨n1, n2, 130, n3⟩) [.Name (Str.ofString "reply") p3] [] ⟨130, n4, n5, n6⟩) p5,
        .Expr (.Call (.Attribute (.Name (Str.ofString "dues") r1) (Str.ofString "append") ⟨n7, n8, 131, n9⟩) [.Call (.Name (Str.ofString "_law_due") r3) [.Name (Str.ofString "head") r4, .Name (Str.ofString "rest") r5, .Name (Str.ofString "deeds") r6, .Name (Str.ofString "reply") r7, .Subscript (.Name (Str.ofString "peer") r8) (.Constant (.int 0) 0 r9) v1] [] v2] [] ⟨131, k1, k2, k3⟩) v4,
        .If (.Compare (.Call (.Name (Str.ofString "_law_outcome") u1) [.Lambda lam0Par (lamBBody u2 u3 u4 u5) lamBScope posB] [] u6) [.NotEq] [.Subscript (.Name (Str.ofString "dues") u7) (.UnaryOp .USub (.Constant (.int 1) 0 u8) u9) p6] p7)
          [.Return (some (.Constant (.bool false) 0 p8)) p9] [] v5] env) Qf E s := by
  subst henv
  obtain ⟨hnd, dp, fr, gd, un⟩ := A
  obtain rfl : hnd = none := hA
  dsimp only at hdp hun
  obtain ⟨h1, gs, dr, tk, os⟩ := s
  dsimp only at W hIt hIl hD hG hos
  have hcL : cLine = 9900 := rfl
  have hrL : recursionLimit = 1000 := rfl
  have h60 : ∀ (xs : Array Value), xs.size ≤ 63 → xs.size ≤ sizeLine := fun xs h => Nat.le_trans h (by rw [sizeLine_eq]; decide)
  revert X; k_fill; intro X
  obtain ⟨vrs, hrs, hsr⟩ := W.reps
  have hvl := strsAre_length hsr
  have F1 := W.F
  refine wpC_execs_cons (ofAny ?_)
  k_steps
  refine Halt.go ?_
  refine q_cell W.C rfl W.rc ?_
  k_steps
  refine Halt.go ?_
  obtain ⟨nr, er⟩ := id hrs
  refine getMethod_list_append er rfl rfl ?_
  k_steps
  refine Halt.go ?_
  refine q_cell W.C rfl hc1 ?_
  k_steps
  refine Halt.go ?_
  refine wpAny_list_append_plain hrs ?_ (h60 _ (by simp; omega))
  intro h2 hrs2 S2
  dsimp only at S2 ⊢
  rw [List.push_toArray] at hrs2
  obtain ⟨_, _, _, _, k2, _⟩ := W.lst S2 hrs W.apart.2.2.2.1
  have htx : ∀ x ∈ xs ++ [reply], x.length ≤ 600 ∧ ∀ c ∈ cp x, c < 1114112 := fun x hx => by
    rcases List.mem_append.mp hx with hx | hx
    · exact W.txt x hx
    · rw [List.mem_singleton.mp hx]; exact ⟨hlen, hch⟩
  have W2 := W.repSt S2 hrs2 (strs_snoc hsr) htx
  have hItr : It ≠ rl := fun q => by
    obtain ⟨o, e, c, d⟩ := hIt
    rw [q, er] at e; cases e; exact absurd (Value.type.inj c) (by decide)
  have hIt2 : h2.IsListIter It il (i + 1) := hIt.at fun o e => k2 _ _ e hItr
  have hIl2 : h2.IsList il #[.int 0 t0, .int 4 t4, .int 8 t8] := hIl.at fun o e => k2 _ _ e (Nat.ne_of_gt hilr.1)
  have hD2 : h2.PlainList D8 vds.toArray := hD.at fun o e => k2 _ _ e hDrl1
  clear W hIt hIl hD S2 k2 hrs er hrs2 F1
  obtain ⟨vdu, hdu, hdd⟩ := W2.dues
  have hdl := hdd.length
  have F2 := W2.F
  have X2 := X.keeps W2.F.keep
  have T2 := Tp.keeps W2.F.keep
  have hDl2 : h2.IsList D8 vds.toArray := hD2.isList
  obtain ⟨tp, up, hpt⟩ := W2.peer
  refine wpC_execs_cons (ofAny ?_)
  k_steps
  refine Halt.go ?_
  refine q_local W2.F W2.dc ?_
  k_steps
  refine Halt.go ?_
  obtain ⟨nd, ed⟩ := id hdu
  refine getMethod_list_append ed rfl rfl ?_
  k_steps
  walk_at "nm_glob"
  k_steps
  refine Halt.go ?_
  refine callWith_F ⟨_, _, _, _, X2 _ _ (by k_is)⟩ ?_
  k_steps
  refine Halt.go ?_
  refine q_local W2.F hm1 ?_
  k_steps
  refine Halt.go ?_
  refine q_local W2.F hm2 ?_
  k_steps
  refine Halt.go ?_
  refine q_cell W2.C rfl hc2 ?_
  k_steps
  refine Halt.go ?_
  refine q_cell W2.C rfl hc1 ?_
  k_steps
  refine Halt.go ?_
  refine q_cell W2.C rfl W2.pc ?_
  k_steps
  refine Halt.go ?_
  refine sub_tup0 hpt ?_
  k_steps
  · exact Halt.go ⟨_, _, _, _, X2 _ _ (by k_is)⟩
  refine Halt.go ?_
  refine c_due X2 T2 (Nat.le_trans hhl (by decide)) (Nat.le_trans hlen (by decide)) (Nat.le_trans hho (by decide)) (Nat.le_trans hrl (by decide)) hrc hDl2 hds h3 hr rfl (by dsimp only [Around.deeper]; rw [hrL]; omega) (by dsimp only [Around.deeper]; rw [hcL]; omega) ?_
  intro vdue h3' tk3 hk3 hout
  rw [← hpl] at hout
  dsimp only at hk3
  have W3 := W2.keeps hk3
  have hIt3 : h3'.IsListIter It il (i + 1) := hIt2.at fun o e => hk3 _ _ e
  have hIl3 : h3'.IsList il #[.int 0 t0, .int 4 t4, .int 8 t8] := hIl2.at fun o e => hk3 _ _ e
  have hdu3 : h3'.PlainList dl vdu.toArray := hdu.at fun o e => hk3 _ _ e
  have hdd3 := hdd.move (h' := h3') fun b o e _ => hk3 _ _ e
  have ed3 := hk3 _ _ ed
  clear W2 hIt2 hIl2 hD2 hDl2 hdu hdd F2 X2 T2 hpt hk3 ed
  have F3 := W3.F
  k_steps
  refine Halt.go ?_
  refine wpAny_list_append_plain hdu3 ?_ (h60 _ (by simp; omega))
  intro h4 hdu4 S4
  dsimp only at S4 ⊢
  rw [List.push_toArray] at hdu4
  obtain ⟨_, _, _, _, k4, kt4⟩ := W3.lst S4 hdu3 W3.apart.2.2.2.2
  have W4 := W3.dueSt S4 hdu4 (hdd3.snoc hout)
  have hItd : It ≠ dl := fun q => by
    obtain ⟨o, e, c, d⟩ := hIt3
    rw [q, ed3] at e; cases e; exact absurd (Value.type.inj c) (by decide)
  have hIt4 : h4.IsListIter It il (i + 1) := hIt3.at fun o e => k4 _ _ e hItd
  have hIl4 : h4.IsList il #[.int 0 t0, .int 4 t4, .int 8 t8] := hIl3.at fun o e => k4 _ _ e (Nat.ne_of_gt hilr.2)
  have hdue4 : OutAt h4 reply host vdue (parseO (cp reply)) := by
    have := (DuesAre.cons hout .nil).tups kt4
    cases this with
    | cons a _ => exact a
  clear W3 hIt3 hIl3 S4 k4 hdu3 ed3 F3 kt4 hdd3 hout
  have F4 := W4.F
  have C4 := W4.C
  k_steps
  refine wpC_execs_cons (wpC_If (wpC_isTrue_Compare1 (whole := .Name (Str.ofString "x") posB) ?_))
  refine wpC_Call_name ?_
  refine q_glob W4.F.keep X Tp (v := .ref 142) (by kernel_rfl) ?_
  refine wpC_callWith_fnP ?_
  walk1
  refine law_lam (pos := posB) (Tp.keeps W4.F.keep) W4 (hC146.keeps W4.F.keep) hg144 (List.mem_cons_of_mem _ List.mem_cons_self) (.inl rfl) (by rfl) (clos := [(Str.ofString "reply", L + 8), (Str.ofString "peer", L + 6)]) (by rfl) rfl rfl rfl ?_
  intro f c' pm ctv h5 tk5 hx5 W5 hf5 hz5 ho5 hr5 _
  dsimp only at hx5 hf5 hz5
  have hIt5 : h5.IsListIter It il (i + 1) := hIt4.at fun o e => hx5 _ _ hit2.2 e
  obtain ⟨ps144, hP144, _⟩ := id W4.t144
  have hseq : ∀ b o, h4.get? b = some o → (∃ vs n, o.data = .seq vs n) → h5.get? b = some o := fun b o e q => hx5 _ _ (fun q2 => by
    rw [q2, hP144] at e; cases e
    obtain ⟨_, _, d⟩ := q
    cases d) e
  have hIl5 : h5.IsList il #[.int 0 t0, .int 4 t4, .int 8 t8] := by
    obtain ⟨o, e, c, n, d⟩ := hIl4
    exact ⟨o, hseq _ _ e ⟨_, _, d⟩, c, n, d⟩
  have hdue5 := hdue4.move hseq
  have hdu5 : h5.PlainList dl (vdu ++ [vdue]).toArray := by
    obtain ⟨n, e⟩ := hdu4
    exact ⟨n, hseq _ _ e ⟨_, _, rfl⟩⟩
  clear W4 hIt4 hIl4 hdue4 hdu4 hx5 F4 C4 hseq hP144
  have F5 := W5.F
  k_steps
  · exact Halt.go ⟨_, _, _, _, X.keeps W5.F.keep _ _ (by k_is)⟩
  obtain ⟨tp5, up5, hpt5⟩ := W5.peer
  have hTD : KtsDicts [L] h5 := fun b hb => by
    obtain ⟨o, es, ep, e, d, _⟩ := W5.F.ns
    exact ⟨o, es, ep, List.mem_singleton.mp hb ▸ e, d⟩
  refine c_outcome (T := []) (Inv := fun _ => True) (ok := fun v h => ∃ n, parseO (cp reply) = .told n ∧ okTold host n v h) (okN := fun n => parseO (cp reply) = .told n) (bd := badO reply) (g := h5) (B := G) (D := 700) (U := 40) (host := host)
    (X.keeps W5.F.keep) (Tp.keeps W5.F.keep) X Tp (fun b o e => e) ⟨_, _, _, _, ho5⟩ (pushX KB W5.F rfl rfl) hTD
    (lamB_spec (X.keeps W5.F.keep) (Tp.keeps W5.F.keep) ho5 rfl hr5 (W5.pc ▸ W5.C.cell (Str.ofString "peer") (L + 6) rfl) (hc1 ▸ W5.C.cell (Str.ofString "reply") (L + 8) rfl) hpt5 ⟨hlen, hch⟩ (by decide) (by decide))
    trivial (fun _ _ _ _ => trivial) (fun v hh q => q) (fun n q => ?_) (fun _ q => nomatch q) hG rfl (by dsimp only [Around.deeper]; omega) (by dsimp only [Around.deeper]; omega) (by decide) (by decide) ?_
  · have := numOk_of hpl hrl n q
    have h1 : (10 : Int) ^ 100 ≤ 10 ^ 500 := by decide +kernel
    omega
  rintro v ⟨h6, gs6, dr6, tk6, os6⟩ g' n hO hn hos6 hG6 hT6 hk6 _ _
  dsimp only at hO hos6 hG6 hk6
  have hov := outAt_bad hO hn
  have W6 := W5.turn0 hT6 hk6
  have kk : ∀ b o, h5.get? b = some o → (∀ es n, o.data ≠ .dict es n) → h6.get? b = some o := fun b o e q => hk6 _ _ (hT6.other b o e fun hb => by
    obtain ⟨oL, es, ep, eL, dL, _⟩ := W5.F.ns
    rw [List.mem_singleton.mp hb, eL] at e; cases e; exact q _ _ dL)
  have hIt6 : h6.IsListIter It il (i + 1) := by
    obtain ⟨o, e, c, d⟩ := hIt5
    exact ⟨o, kk _ _ e (fun _ _ q => by rw [d] at q; cases q), c, d⟩
  have hIl6 : h6.IsList il #[.int 0 t0, .int 4 t4, .int 8 t8] := by
    obtain ⟨o, e, c, n, d⟩ := hIl5
    exact ⟨o, kk _ _ e (fun _ _ q => by rw [d] at q; cases q), c, n, d⟩
  have hdue6 := hdue5.move (h' := h6) fun b o e ⟨_, _, d⟩ => kk _ _ e (fun _ _ q => by rw [d] at q; cases q)
  have hdu6 : h6.PlainList dl (vdu ++ [vdue]).toArray := by
    obtain ⟨n, e⟩ := hdu5
    exact ⟨n, kk _ _ e (fun _ _ q => by cases q)⟩
  clear W5 hIt5 hIl5 hdue5 hdu5 hT6 hk6 kk hO hn hTD hpt5 ho5 hr5 F5
  have F6 := W6.F
  have W7 : J1 G L cl pt rl dl host It il os0 (i + 1) { heap := h6, gens := gs6, drawn := dr6, toks := tk6, os := os6 } := ⟨m, cm, xs ++ [reply], W6, by simp [hxl], hIt6, ⟨_, _, _, hIl6⟩, hG6, hos6.trans hos, fun x hx => by
    rcases List.mem_append.mp hx with hx | hx
    · exact hnum x hx
    · rw [List.mem_singleton.mp hx]; exact numOk_of hpl hrl⟩
  k_steps
  refine Halt.go ?_
  refine q_local W6.F W6.dc ?_
  k_steps
  refine Halt.go ?_
  refine sub_last hdu6.isList ?_
  refine ne_out hov hdue6 (by dsimp only [Around.deeper]; rw [hcL]; omega) ?_
  refine wpAny_truthy_bool ?_
  rw [if_neg Bool.false_ne_true]
  refine ofAny (wpAny_execs_nil ?_)
  refine ofAny (wpAny_execs_nil ?_)
  exact h _ W7
end
end Mine

end
section -- LV
theorem Mine.offLV : True ∧ True := by
  w_top off
  first | (walk1; all_goals trivial) | exact ⟨trivial, trivial⟩
namespace Mine
open PySem PySem.W PyProof.Rows PySem.Spec PySem.Calls
/-- what is due of a run of replies: the text that is held, and the outcome -/
def stepO (p : Str × Out) (x : Str) : Str × Out := match p.2 with
  | .told _ => (x, parseO (cp x))
  | _ => p
def foldO (xs : List Str) : Str × Out := xs.foldl stepO (Str.ofString "", .told 21)
def isTold : Out → Bool
  | .told _ => true
  | _ => false
theorem fold_bad : ∀ (l : List Str) (p : Str × Out), isTold p.2 = false → l.foldl stepO p = p
  | [], _, _ => rfl
  | x :: l, (y, o), h => by
    have : stepO (y, o) x = (y, o) := by
      cases o with
      | told n => cases h
      | reply => rfl
      | proto => rfl
      | value => rfl
    rw [List.foldl_cons, this]
    exact fold_bad l _ h
theorem numAt_cons (x : Str) : ∀ {r : List Str}, r ≠ [] → numAt (x :: r) (r.length + 1) = numAt r r.length
  | y :: r, _ => by
    show (match parseO (cp ((x :: y :: r).getD (r.length + 1) (Str.ofString ""))) with | .told n => n | _ => 0) = (match parseO (cp ((y :: r).getD r.length (Str.ofString ""))) with | .told n => n | _ => 0)
    rfl
theorem fold_spec : ∀ (l : List Str) (x0 : Str) (n0 : Int), (firstBad l = none → (l.foldl stepO (x0, .told n0)).2 = .told (if l = [] then n0 else numAt l l.length)) ∧
    (∀ b, firstBad l = some b → (l.foldl stepO (x0, .told n0)).2 = outOf (some b) 0 ∧ ((l.foldl stepO (x0, .told n0)).1 = badText (some b) ∨ outOf (some b) 0 = .value))
  | [], x0, n0 => ⟨fun _ => rfl, fun b h => nomatch h⟩
  | x :: r, x0, n0 => by
    have e0 : (x :: r).foldl stepO (x0, .told n0) = r.foldl stepO (x, parseO (cp x)) := rfl
    rw [e0]
    have eb : firstBad (x :: r) = match badO x with | some b => some b | none => firstBad r := rfl
    rw [eb]
    cases q : parseO (cp x) with
    | told n =>
      have hb : badO x = none := by unfold badO; rw [q]
      rw [hb]
      obtain ⟨h1, h2⟩ := fold_spec r x n
      refine ⟨fun h => ?_, h2⟩
      rw [h1 h]
      refine congrArg Out.told ?_
      rw [if_neg (show ¬ x :: r = [] from fun z => nomatch z)]
      by_cases hr : r = []
      · subst hr
        rw [if_pos rfl]
        exact (numAt_told (xs := [x]) (i := 0) q).symm
      · rw [if_neg hr]
        exact (numAt_cons x hr).symm
    | reply =>
      have hb : badO x = some (.reply x) := by unfold badO; rw [q]
      rw [hb, fold_bad r _ rfl]
      refine ⟨(fun h => nomatch h), fun b h => ?_⟩
      injection h with h; subst h
      exact ⟨rfl, .inl rfl⟩
    | proto =>
      have hb : badO x = some (.proto x) := by unfold badO; rw [q]
      rw [hb, fold_bad r _ rfl]
      refine ⟨(fun h => nomatch h), fun b h => ?_⟩
      injection h with h; subst h
      exact ⟨rfl, .inl rfl⟩
    | value =>
      have hb : badO x = some .value := by unfold badO; rw [q]
      rw [hb, fold_bad r _ rfl]
      refine ⟨(fun h => nomatch h), fun b h => ?_⟩
      injection h with h; subst h
      exact ⟨rfl, .inr rfl⟩
theorem outAt_fold {h : Heap} {l : List Str} {host : Str} {v : Value} {n : Int} (a : OutAt h (badText (firstBad l)) host v (outOf (firstBad l) n)) (b : firstBad l = none → n = numAt l l.length) : OutAt h (foldO l).1 host v (foldO l).2 := by
  obtain ⟨h1, h2⟩ := fold_spec l (Str.ofString "") 21
  unfold foldO
  cases q : firstBad l with
  | none =>
    rw [q] at a
    rw [h1 q]
    have e := b q
    have : (if l = [] then (21 : Int) else numAt l l.length) = n := by
      split
      · rename_i hl; subst hl; exact e.symm
      · exact e.symm
    rw [this]
    exact a
  | some bd =>
    rw [q] at a
    obtain ⟨e1, e2⟩ := h2 bd q
    rw [e1]
    cases bd with
    | reply x =>
      rcases e2 with e2 | e2
      · rw [e2]; exact a
      · cases e2
    | proto x =>
      rcases e2 with e2 | e2
      · rw [e2]; exact a
      · cases e2
    | value => exact a
theorem foldO_snoc (l : List Str) (x : Str) : foldO (l ++ [x]) = stepO (foldO l) x := by
  unfold foldO
  rw [List.foldl_append]; rfl
theorem DuesAre.take {h : Heap} {host : Str} {xs : List Str} {vs : List Value} (y : DuesAre h host xs vs) : ∀ k, DuesAre h host (xs.take k) (vs.take k) := by
  induction y with
  | nil => intro k; simpa using DuesAre.nil
  | cons a _ ih =>
    intro k
    cases k with
    | zero => exact .nil
    | succ k => exact .cons a (ih k)
theorem DuesAre.get {h : Heap} {host : Str} {xs : List Str} {vs : List Value} (y : DuesAre h host xs vs) : ∀ {i : Nat}, i < xs.length → ∃ v x, vs[i]? = some v ∧ xs[i]? = some x ∧ OutAt h x host v (parseO (cp x)) := by
  induction y with
  | nil => intro i hi; cases hi
  | @cons x v _ _ a _ ih =>
    intro i hi
    cases i with
    | zero => exact ⟨v, x, rfl, rfl, a⟩
    | succ i => simpa using ih (Nat.lt_of_succ_lt_succ hi)
theorem numAt_bound {l : List Str} (h : ∀ x ∈ l, NumOk x) : ∀ i, -(10 ^ 100 : Int) < numAt l i ∧ numAt l i < 10 ^ 100
  | 0 => by show -(10 ^ 100 : Int) < 21 ∧ (21 : Int) < 10 ^ 100; decide +kernel
  | i + 1 => by
    have key : NumOk (l.getD i (Str.ofString "")) := by
      rw [List.getD_eq_getElem?_getD]
      cases q : l[i]? with
      | none =>
        intro n hn
        have : parseO (cp (Str.ofString "")) = .reply := parseO_reply (by decide +kernel)
        have hn' : parseO (cp (Str.ofString "")) = .told n := hn
        rw [this] at hn'; cases hn'
      | some x => exact h x (List.mem_of_getElem? q)
    show -(10 ^ 100 : Int) < (match parseO (cp (l.getD i (Str.ofString ""))) with | .told n => n | _ => 0) ∧ (match parseO (cp (l.getD i (Str.ofString ""))) with | .told n => n | _ => 0) < 10 ^ 100
    cases q : parseO (cp (l.getD i (Str.ofString ""))) with
    | told n => exact key n q
    | reply => show -(10 ^ 100 : Int) < 0 ∧ (0 : Int) < 10 ^ 100; decide +kernel
    | proto => show -(10 ^ 100 : Int) < 0 ∧ (0 : Int) < 10 ^ 100; decide +kernel
    | value => show -(10 ^ 100 : Int) < 0 ∧ (0 : Int) < 10 ^ 100; decide +kernel
theorem slice_upto (vs : List Value) (k : Nat) : slicePick vs.toArray none (some (k : Int)) none = (vs.take k).toArray := by
  rw [slicePick_upto' vs.toArray k]
/-- an outcome's tuple, its first place, and whether it told -/
theorem OutAt.parts {h : Heap} {x host : Str} {v : Value} {o : Out} (a : OutAt h x host v o) : ∃ D key t its, v = .ref D ∧ h.IsTuple D its ∧ its[0]? = some (.str key t) ∧ seqIndex? 0 its.size = some 0 ∧ ((key == Str.ofString "told") = isTold o) := by
  cases o with
  | reply => obtain ⟨D, t, u, e, q⟩ := a; exact ⟨D, _, t, _, e, q, rfl, rfl, by decide +kernel⟩
  | proto => obtain ⟨D, t, u, e, q⟩ := a; exact ⟨D, _, t, _, e, q, rfl, rfl, by decide +kernel⟩
  | value => obtain ⟨D, t, u, e, q⟩ := a; exact ⟨D, _, t, _, e, q, rfl, rfl, by decide +kernel⟩
  | told n => obtain ⟨D, t, D2, u, t3, t4, e, q, q2⟩ := a; exact ⟨D, _, t, _, e, q, rfl, rfl, beq_self_eq_true _⟩
section
variable {prog : Program} {w : World} {A : Around} {E : Value → Shared → Prop} {s : Shared} {Q : Value → Shared → Prop}
theorem sub_its0 {D : Addr} {its : Array Value} {a : Value} {value slice : Expr} {u : Tok} (ht : s.heap.IsTuple D its) (hj : seqIndex? 0 its.size = some 0) (hx : its[0]? = some a) (h : Q a s)
    (hs : subscripted slice false (.ref D) (.int 0 u) = operate [.ref D, .int 0 u] (getItem (.ref D) (.int 0 u)) := by with_unfolding_all rfl) :
    wpAny (model prog w) A (subscriptTail value slice (.ref D) (.int 0 u)) Q E s :=
  tail_any (IsTup.typeIs ht) slot_tuple_getitem.lookup (PyProof.Rows.getItem_tuple ht (by decide) (by decide) (j := 0) hj hx h) hs
theorem mk_tuple {vs : List Value} (hz : vs.length ≤ 60) (h : ∀ D h', Kp s.heap h' → h'.IsTuple D vs.toArray → Q (.ref D) { s with heap := h' }) : wpAny (model prog w) A (newTuple vs) Q E s :=
  wpAny_newTuple (h _ _ (fun b o e => Heap.get?_push_of_some _ e) ⟨_, Heap.get?_push_size _ rfl, rfl, _, rfl⟩) (Nat.le_trans hz (by rw [sizeLine_eq]; decide))
theorem sub_tup1' {D : Addr} {a b : Value} {value slice : Expr} {u : Tok} (ht : s.heap.IsTuple D #[a, b]) (h : Q b s)
    (hs : subscripted slice false (.ref D) (.int 1 u) = operate [.ref D, .int 1 u] (getItem (.ref D) (.int 1 u)) := by with_unfolding_all rfl) :
    wpAny (model prog w) A (subscriptTail value slice (.ref D) (.int 1 u)) Q E s := sub_tup1 ht h hs
end
section
variable {g h h' : Heap} {L cl pt rl dl : Addr} {host : Str} {xs ys : List Str} {m cm m' cm' : Str → Option Value}
/-- an iterator is moved, or let go -/
theorem LW.itExt {c : Addr} {oi : Obj} (W : LW g L cl pt rl dl host xs ys h m cm) (S : Heap.ExtBut c h h') (hc : h.get? c = some oi) (hn : ¬ Rec oi) (hs : ∀ vs n, oi.data ≠ .seq vs n) (hd : ∀ es n, oi.data ≠ .dict es n) (hl : ∀ v, oi.data ≠ .cell v) (hg : g.get? c = none) : LW g L cl pt rl dl host xs ys h' m cm := by
  have hLc : L ≠ c := fun q => by
    obtain ⟨o, es, ep, e, d, _⟩ := W.F.ns
    rw [q, hc] at e; cases e
    exact hd _ _ d
  refine W.move ⟨W.F.ns.extBut S hLc, fun b o e => S b o (fun q => ?_) (W.F.keep b o e), W.F.above⟩ (cl_move W.C fun c' v hc' => ?_) rfl rfl rfl rfl (fun b o e hq => S b o (fun q => ?_) e)
    (W.t94.at fun o e => ?_) (law_tab W.t94 W.t144 fun b o e hf hr _ => S b o (fun q => ?_) e)
  · rw [q, hg] at e; cases e
  · obtain ⟨o, e2, d⟩ := hc'
    refine ⟨o, S _ _ (fun q => ?_) e2, d⟩
    rw [q, hc] at e2; cases e2
    exact hl _ d
  · rw [q, hc] at e; cases e
    obtain ⟨_, _, d⟩ := hq
    exact hs _ _ d
  · obtain ⟨ps, e9, _⟩ := W.t94
    refine S _ _ (fun q => ?_) e
    rw [q, hc] at e9; cases e9
    exact hn (.inl rfl)
  · rw [q, hc] at e; cases e
    exact hn hr
theorem TabOk.in_keep {P : Addr} {pD : Pos} {qual : Str} (k : ∀ b o, h.get? b = some o → (∀ es n, o.data ≠ .dict es n) → h'.get? b = some o) (x : TabOk h P (tabD pD qual)) : TabOk h' P (tabD pD qual) := by
  obtain ⟨ps, e, _⟩ := id x
  refine x.ext (fun o e2 => ?_) (fun b o _ ⟨vs, d⟩ e => k b o e (fun _ _ q => by rw [d] at q; cases q)) (fun q hq c hc => by
    obtain rfl := List.mem_singleton.mp hq; trivial)
  rw [e] at e2; cases e2
  exact k _ _ e (fun _ _ q => by cases q)
/-- the tables stand, where one more is told apart -/
theorem law_tab2 {P' : Addr} (t94 : TabG h 91 posJ) (x : TabOk h 144 (lawAl g)) (hP : TabOk h P' (tabD posD qualL)) (hP' : TabOk h' P' (tabD posD qualL)) (n144 : P' ≠ 144)
    (k : ∀ b o, h.get? b = some o → (∃ vs, o.data = .fields vs) → Rec o → b ≠ 91 → b ≠ P' → h'.get? b = some o) : TabOk h' 144 (lawAl g) := by
  obtain ⟨p9, hP9, ht9, _⟩ := t94
  obtain ⟨p7, hP7, ht7, _⟩ := hP
  have up : ∀ {P : Addr} {al : List TabE}, P ≠ 91 → P ≠ P' → TabOk h P al → (∀ q ∈ al, ∀ c, q.2.2 c h → q.2.2 c h') → TabOk h' P al := by
    rintro P al hne hne' ⟨ps, e, ht, hq⟩ hX
    refine ⟨ps, k _ _ e ⟨_, rfl⟩ (.inl rfl) hne hne', ht, fun q hm => ?_⟩
    rcases hq q hm with h0 | ⟨c', h1, h2, h3, h4⟩
    · exact .inl h0
    · have hc94 : c' ≠ 91 := tab_ne hP9 ht9 h3
      have hcP : c' ≠ P' := tab_ne hP7 ht7 h3
      obtain ⟨c9, oc, vs, t, e9, hoc, hd, hv⟩ := h3
      cases e9
      exact .inr ⟨c', h1, h2, ⟨c', oc, vs, t, rfl, k _ _ hoc ⟨vs, hd⟩ (.inr (.inr ⟨vs, _, _, hd, hv⟩)) hc94 hcP, hd, hv⟩, hX q hm _ h4⟩
  refine up (by decide) (Ne.symm n144) x fun q hq c hc => ?_
  rcases List.mem_cons.mp hq with rfl | hq
  · trivial
  rcases List.mem_cons.mp hq with rfl | hq
  · trivial
  obtain rfl := List.mem_singleton.mp hq
  obtain ⟨P2, hC, hT, n94, n144', hg⟩ := hc
  refine ⟨P2, codeHd_move hC fun b o e hf hcl => k _ _ e hf (.inr (.inl hcl)) (fun q => ?_) (fun q => ?_), ?_, n94, n144', hg⟩
  · rw [q, hP9] at e; cases e; cases hcl
  · rw [q, hP7] at e; cases e; cases hcl
  · by_cases h2 : P2 = P'
    · rw [h2]; exact hP'
    · refine up n94 h2 hT fun q hq c _ => ?_
      obtain rfl := List.mem_singleton.mp hq; trivial
end
end Mine

end
section -- LU
theorem Mine.offLU : True ∧ True := by
  w_top off
  first | (walk1; all_goals trivial) | exact ⟨trivial, trivial⟩
namespace Mine
open PySem PySem.W PyProof.Rows PySem.Spec PySem.Calls
/-- between two turns of the last loop -/
def J2 (g : Heap) (L cl pt rl dl : Addr) (host : Str) (xs : List Str) (It : Addr) (os0 : OsState) (i : Nat) (s : Shared) : Prop :=
  ∃ m cm, LW g L cl pt rl dl host xs xs s.heap m cm ∧ IsRangeIter s.heap It (i : Int) (4 - (i : Int)) 1 ∧ AllBare s.gens ∧ s.os = os0
/-- between two turns of the loop within -/
def J3 (g : Heap) (L cl pt rl dl : Addr) (host : Str) (xs : List Str) (It I2 D : Addr) (k : Nat) (tk0 : Tok) (dk : List Value) (os0 : OsState) (j : Nat) (s : Shared) : Prop :=
  ∃ m cm v, LW g L cl pt rl dl host xs xs s.heap m cm ∧ IsRangeIter s.heap It ((k : Int) + 1) (4 - ((k : Int) + 1)) 1 ∧ AllBare s.gens ∧ s.os = os0 ∧ cm (Str.ofString "count") = some (.int (k : Int) tk0) ∧
    m (Str.ofString "due") = some v ∧ OutAt s.heap (foldO (xs.take j)).1 host v (foldO (xs.take j)).2 ∧ s.heap.IsListIter I2 D j ∧ s.heap.IsList D dk.toArray ∧ DuesAre s.heap host (xs.take k) dk
section
variable {w : World} {A : Around} {s : Shared} {E : Value → Shared → Prop} {p : Program} {loose : List Str} {mean : ExcName → Option Value} {mg mb : Str → Option Value}
local macro_rules | `(tactic| walk_at "nm_glob") => `(tactic| (refine Halt.go ?_; refine q_glob (Fr.keep (by assumption)) (by assumption) (by assumption) (by k_is) ?_))
local macro_rules | `(tactic| walk_at "nm_blt") => `(tactic| (refine Halt.go ?_; refine q_blt (Fr.keep (by assumption)) (by assumption) (by assumption) (by kernel_rfl) (by boot_by_name) (by decide) ?_))
local macro_rules | `(tactic| walk_at "subscriptTail Name Constant ref int") => `(tactic| refine halt ?_)
local macro_rules | `(tactic| walk_at "subscriptTail Name Slice ref ref") => `(tactic| refine halt ?_)
local macro_rules | `(tactic| walk_at "callWith ref") => `(tactic| refine halt ?_)
local macro_rules | `(tactic| walk_at "call ref") => `(tactic| refine halt ?_)
local macro_rules | `(tactic| walk_at "call type:range") => `(tactic| refine halt ?_)
local macro_rules | `(tactic| walk_at "call type:str") => `(tactic| refine halt ?_)
local macro_rules | `(tactic| walk_at "FnAt") => `(tactic| refine halt ?_)
local macro_rules | `(tactic| walk_at "newTuple") => `(tactic| refine halt ?_)
local macro_rules | `(tactic| walk_at "storeName") => `(tactic| refine halt ?_)
local macro_rules | `(tactic| walk_at "eval Name") => `(tactic| refine halt ?_)
theorem law_loop2 {G : Heap} {L cl pt rl dl : Addr} {host : Str} {xs : List Str} {m cm : Str → Option Value} {os0 : OsState} {env : Env} {mr : List (Str × Const)} {Qf : Flow → Shared → Prop}
    {p1 p2 p3 p4 p5 p6 p7 p8 p9 r1 r2 r3 r4 r5 r6 r7 r8 r9 u1 u2 u3 u4 u5 u6 u7 u8 u9 v1 v2 v3 v4 v5 v6 v7 v8 v9 x1 x2 x3 x4 x5 x6 x7 x8 x9 y1 y2 y3 y4 y5 z1 z2 z3 : Pos}
    (henv : env = envOfC (Str.ofString "law") { kind := .function, names := [(Str.ofString "script", .local), (Str.ofString "numbers", .cell), (Str.ofString "place", .cell), (Str.ofString "cells", .cell), (Str.ofString "dues", .local), (Str.ofString "rest", .local), (Str.ofString "head", .local), (Str.ofString "due", .local), (Str.ofString "told", .local), (Str.ofString "count", .cell), (Str.ofString "deeds", .cell), (Str.ofString "peer", .cell), (Str.ofString "replies", .cell), (Str.ofString "reply", .cell), (Str.ofString "enumerate", .globalImplicit), (Str.ofString "_law_rest", .globalImplicit), (Str.ofString "range", .globalImplicit), (Str.ofString "reduce", .globalImplicit), (Str.ofString "_law_laid", .globalImplicit), (Str.ofString "_law_due", .globalImplicit), (Str.ofString "_law_outcome", .globalImplicit), (Str.ofString "str", .globalImplicit)], isGenerator := false, isCoroutine := false, more := mr } L 147 (.ref 146))
    (X : (Mine.hd.heap_1 w.params).In G) (Tp : Top p loose mean mg mb G) (hA : A.handled = none) (hdp : A.depth ≤ 600) (hun : A.units ≤ 10) (KB : Below A G [] G) (hC146 : CodeHd G 146 144) (hg94 : G.get? 91 = none) (hg144 : G.get? 144 = none)
    (W : LW G L cl pt rl dl host xs xs s.heap m cm) (h3 : xs.length = 3) (hho : host.length ≤ 7) (hnum : ∀ x ∈ xs, NumOk x) (hG : AllBare s.gens) (hos : s.os = os0) (hE : PassesOwn (model Challenge.rw_oy0022_01.row.prog w) (A.deeper env) env E)
    (h : ∀ s' m cm, LW G L cl pt rl dl host xs xs s'.heap m cm → AllBare s'.gens → s'.os = os0 → Qf (.ret (.bool true)) s') :
    wpC (model Challenge.rw_oy0022_01.row.prog w) (A.deeper env)
      (execs [.For (.Name (Str.ofString "count") p1) (.Call (.Name (Str.ofString "range") p2) [.Constant (.int 4) 0 p3] [] p4)
        [.Assign [.Name (Str.ofString "due") p5] (.Tuple [.Constant (.str (Str.ofString "told")) 0 p6, .Name (Str.ofString "peer") p7, .Call (.Name (Str.ofString "str") p8) [.Subscript (.Name (Str.ofString "peer") p9) (.Constant (.int 1) 0 r1) r2] [] r3] 0 r4) r5,
          .For (.Name (Str.ofString "told") r6) (.Subscript (.Name (Str.ofString "dues") r7) (.Slice none (some (.Name (Str.ofString "count") r8)) none r9) u1)
            [.Assign [.Name (Str.ofString "due") u2] (.IfExp (.Compare (.Subscript (.Name (Str.ofString "due") u3) (.Constant (.int 0) 0 u4) u5) [.Eq] [.Constant (.str (Str.ofString "told")) 0 u6] u7) (.Name (Str.ofString "told") u8) (.Name (Str.ofString "due") u9) v1) v2] [] v3,
          .If (.Compare (.Call (.Name (Str.ofString "_law_outcome") v4) [.Lambda lam0Par (lamCBody v5 v6 v7 v8 v9 x1 x2 posD x3 x4 x5 x6 x7 x8) lamCScope posC] [] x9) [.NotEq] [.Name (Str.ofString "due") y1] y2)
            [.Return (some (.Constant (.bool false) 0 y3)) y4] [] y5] [] z1,
        .Return (some (.Constant (.bool true) 0 z2)) z3] env) Qf E s := by
  subst henv
  obtain ⟨hnd, dp, fr, gd, un⟩ := A
  obtain rfl : hnd = none := hA
  dsimp only at hdp hun
  obtain ⟨h1, gs, dr, tk, os⟩ := s
  dsimp only at W hG hos
  have hcL : cLine = 9900 := rfl
  have hrL : recursionLimit = 1000 := rfl
  have h60 : ∀ (xs : Array Value), xs.size ≤ 63 → xs.size ≤ sizeLine := fun xs h => Nat.le_trans h (by rw [sizeLine_eq]; decide)
  revert X; k_fill; intro X
  have F1 := W.F
  refine wpC_execs_cons (wpC_forW hE ?_)
  k_steps
  walk_at "nm_blt"
  k_steps
  refine Halt.go ?_
  refine mk_range ?_
  intro r12 h12 tk12 q1 q2 q3 hr12 hk12 hn12 hz12
  dsimp only at hk12 hn12 hz12
  have W2 := W.keeps hk12
  clear W F1
  refine wpAny_pyIter_range hr12 (by decide +kernel) ?_
  have hIt := Heap.get?_push_size h12 (o := { cls := .type "range_iterator", data := .fields #[rawInt 0, rawInt (Builtin.Range.rangeSize 0 4 1), rawInt 1] }) rfl
  have W3 := W2.push { cls := .type "range_iterator", data := .fields #[rawInt 0, rawInt (Builtin.Range.rangeSize 0 4 1), rawInt 1] }
  have hgIt := W2.new
  have hit2 : h12.objs.size ≠ 91 ∧ h12.objs.size ≠ 144 := W2.off
  clear W2 hk12 hn12 hz12 hr12
  dsimp only at hIt W3 ⊢
  generalize h12.push { cls := .type "range_iterator", data := .fields #[rawInt 0, rawInt (Builtin.Range.rangeSize 0 4 1), rawInt 1] } = h13 at *
  generalize h12.objs.size = It at *
  refine ⟨4, J2 G L cl pt rl dl host xs It os0, ⟨_, _, W3, hIt, hG, hos⟩, fun v => rfl, ?_, ?_⟩
  · rintro i ⟨hp1, gs1, dr1, tk1, os1⟩ hi ⟨m1, cm1, W, hIt, hG1, hos1⟩
    clear W3
    dsimp only at W hIt hG1 hos1
    refine wpAny_pyNext_range_item hIt (by omega) ?_
    intro h2 hIt2 S2
    dsimp only at S2
    refine ⟨_, rfl, ?_⟩
    have W2 : LW G L cl pt rl dl host xs xs h2 m1 cm1 := by
      refine W.itExt S2.extBut hIt ?_ (fun _ _ q => by cases q) (fun _ _ q => by cases q) (fun _ q => by cases q) hgIt
      rintro (q | q | ⟨vs9, q9, t9, q, q2⟩)
      · cases q
      · exact absurd (Value.type.inj q) (by decide)
      · cases q; cases q2
    clear W hIt S2
    refine q_stC W2.F W2.C (c := L + 4) rfl ?_
    intro h3' F3 C3 S3 hc3
    dsimp only at S3 hc3
    have W3 : LW G L cl pt rl dl host xs xs h3' m1 _ := W2.cellSt S3 hc3 F3 C3 rfl rfl rfl rfl
    have hIt3 : IsRangeIter h3' It ((i : Int) + 1) (4 - ((i : Int) + 1)) 1 := by
      have e := same_cell S3 hc3 _ _ hIt2 (.inr ⟨_, rfl⟩)
      rw [show (4 : Int) - (i : Int) - 1 = 4 - ((i : Int) + 1) by omega] at e
      exact e
    clear W2 hIt2 S3 hc3 F3 C3
    have F3 := W3.F
    obtain ⟨tp, up, hpt⟩ := W3.peer
    refine wpC_execs_cons (ofAny ?_)
    k_steps
    refine Halt.go ?_
    refine q_cell W3.C rfl W3.pc ?_
    k_steps
    walk_at "nm_blt"
    k_steps
    refine Halt.go ?_
    refine q_cell W3.C rfl W3.pc ?_
    k_steps
    refine Halt.go ?_
    refine sub_tup1' hpt ?_
    k_steps
    refine Halt.go ?_
    refine PySem.P.str_of_int (shown_abs (N := 10 ^ 500) (by decide) (by decide +kernel)) ?_
    k_steps
    refine Halt.go ?_
    refine mk_tuple (show (3 : Nat) ≤ 60 by decide) ?_
    intro Dd h4 hk4 htup
    dsimp only at hk4
    have W4 := W3.keeps hk4
    have hIt4 : IsRangeIter h4 It ((i : Int) + 1) (4 - ((i : Int) + 1)) 1 := hk4 _ _ hIt3
    have hpt4 := hpt.at fun o e => hk4 _ _ e
    clear W3 hIt3 F3 hpt hk4
    k_steps
    refine Halt.go ?_
    refine st_same W4.F rfl rfl fun h5 F5 S5 => ?_
    replace F5 : Fr _ L h5 _ := F5
    replace S5 : Heap.SameBut L h4 h5 := S5
    have W5 : LW G L cl pt rl dl host xs xs h5 _ _ := W4.locSt S5 F5 rfl
    have hIt5 : IsRangeIter h5 It ((i : Int) + 1) (4 - ((i : Int) + 1)) 1 := same_loc S5 W4.F.ns _ _ hIt4 (.inr ⟨_, rfl⟩)
    have hout5 : OutAt h5 (foldO (xs.take 0)).1 host (.ref Dd) (foldO (xs.take 0)).2 := by
      obtain ⟨o, e, c, n, d⟩ := htup
      obtain ⟨o', e', c', n', d'⟩ := hpt4
      exact ⟨_, _, _, _, _, _, rfl, ⟨o, same_loc S5 W4.F.ns _ _ e (.inl ⟨_, _, d⟩), c, n, d⟩, ⟨o', same_loc S5 W4.F.ns _ _ e' (.inl ⟨_, _, d'⟩), c', n', d'⟩⟩
    clear W4 hIt4 S5 htup hpt4 F5
    have F5 := W5.F
    obtain ⟨vdu, hdu, hdd⟩ := W5.dues
    have hdl := hdd.length
    refine wpC_execs_cons (wpC_forW hE ?_)
    k_steps
    refine Halt.go ?_
    refine q_local W5.F W5.dc ?_
    k_steps
    refine Halt.go ?_
    refine q_cell W5.C rfl rfl ?_
    k_steps
    refine Halt.go ?_
    refine slice_keep hdu.isList (by constructor) (by constructor) ?_ (h60 _ (by simp; omega))
    intro D h6 hk6 hD6 hDn6 hz6
    dsimp only at hk6 hDn6 hz6
    rw [slice_upto] at hD6
    have W6 := W5.keeps hk6
    have hIt6 : IsRangeIter h6 It ((i : Int) + 1) (4 - ((i : Int) + 1)) 1 := hk6 _ _ hIt5
    have hout6 := hout5.move (h' := h6) fun b o e _ => hk6 _ _ e
    have hdk6 := (hdd.take i).move (h' := h6) fun b o e _ => hk6 _ _ e
    have hDl6 : h6.IsList D (vdu.take i).toArray := ⟨_, hD6, rfl, _, rfl⟩
    have hgD : G.get? D = none := by
      cases q : G.get? D with
      | none => rfl
      | some o => rw [W5.F.keep _ _ q] at hDn6; cases hDn6
    clear W5 hIt5 hout5 hdd hdu hk6 hDn6 hz6 F5 hD6
    generalize hdk : vdu.take i = dk at *
    have hdkl : dk.length = i := by rw [← hdk, List.length_take]; omega
    clear hdk hdl
    refine wpAny_pyIter_list hDl6 ?_
    have hI2 := Heap.get?_push_size h6 (o := { cls := .type "list_iterator", data := .fields #[.ref D, .int 0 0] }) rfl
    have kp : ∀ b o, h6.get? b = some o → (h6.push { cls := .type "list_iterator", data := .fields #[.ref D, .int 0 0] }).get? b = some o := fun b o e => Heap.get?_push_of_some _ e
    have hgI2 := W6.new
    have hDI : D ≠ h6.objs.size := Nat.ne_of_lt (by obtain ⟨_, e, _⟩ := hDl6; exact Heap.lt_size e)
    have hII : It ≠ h6.objs.size := Nat.ne_of_lt (Heap.lt_size hIt6)
    dsimp only at hI2 ⊢
    generalize h6.push { cls := .type "list_iterator", data := .fields #[.ref D, .int 0 0] } = h7 at *
    generalize h6.objs.size = I2 at *
    have W7 := W6.keeps kp
    have J0 : ∀ tkk, J3 G L cl pt rl dl host xs It I2 D i tk1 dk os0 0 { heap := h7, gens := gs1, drawn := dr1, toks := tkk, os := os1 } := fun tkk => ⟨_, _, _, W7, kp _ _ hIt6, hG1, hos1, rfl, rfl, hout6.move fun b o e _ => kp _ _ e, ⟨_, hI2, rfl, rfl⟩, hDl6.at fun o e => kp _ _ e, hdk6.move fun b o e _ => kp _ _ e⟩
    clear W6 W7 hIt6 hout6 hDl6 hdk6 hI2 kp
    refine ⟨i, _, J0 _, fun v => rfl, ?_, ?_⟩
    · rintro j ⟨hp2, gs2, dr2, tk2, os2⟩ hj ⟨m2, cm2, v2, W, hIt, hG2, hos2, hcount, hdue, hout, hI2, hDl, hdk⟩
      dsimp only at W hIt hG2 hos2 hout hI2 hDl hdk
      obtain ⟨vj, xj, hvj, hxj, hoj⟩ := hdk.get (i := j) (by rw [List.length_take]; omega)
      refine wpAny_pyNext_list_item hI2 hDl (show dk.toArray[j]? = some vj by simpa using hvj) ?_
      intro h2 hI2' S2
      dsimp only at S2
      refine ⟨_, rfl, ?_⟩
      have kseq : ∀ b o, hp2.get? b = some o → (∃ vs n, o.data = .seq vs n) → h2.get? b = some o := fun b o e ⟨_, _, d⟩ => (S2.2 b (fun q => by
        obtain ⟨oi, ei, _, di⟩ := hI2
        rw [q, ei] at e; cases e; rw [di] at d; cases d)).trans e
      have W2 : LW G L cl pt rl dl host xs xs h2 m2 cm2 := by
        obtain ⟨oi, ei, ci, di⟩ := hI2
        refine W.itExt S2.extBut ei ?_ (fun _ _ q => by rw [di] at q; cases q) (fun _ _ q => by rw [di] at q; cases q) (fun _ q => by rw [di] at q; cases q) hgI2
        rintro (q | q | ⟨vs9, q9, t9, q, q2⟩)
        · rw [ci] at q; cases q
        · rw [ci] at q; exact absurd (Value.type.inj q) (by decide)
        · rw [di] at q; cases q; cases q2
      have hIt2 : IsRangeIter h2 It ((i : Int) + 1) (4 - ((i : Int) + 1)) 1 := (S2.2 It hII).trans hIt
      have hout2 := hout.move kseq
      have hoj2 := hoj.move kseq
      have hdk2 := hdk.move kseq
      have hDl2 : h2.IsList D dk.toArray := hDl.extBut S2.extBut hDI
      clear W hIt hI2 hout hoj hdk hDl S2 kseq
      refine st_same W2.F rfl rfl fun h3 F3 S3 => ?_
      replace F3 : Fr _ L h3 _ := F3
      replace S3 : Heap.SameBut L h2 h3 := S3
      have kfr := same_loc S3 W2.F.ns
      have W3 : LW G L cl pt rl dl host xs xs h3 _ _ := W2.locSt S3 F3 rfl
      have hIt3 : IsRangeIter h3 It ((i : Int) + 1) (4 - ((i : Int) + 1)) 1 := kfr _ _ hIt2 (.inr ⟨_, rfl⟩)
      have hout3 := hout2.move (h' := h3) fun b o e q => kfr _ _ e (.inl q)
      have hoj3 := hoj2.move (h' := h3) fun b o e q => kfr _ _ e (.inl q)
      have hdk3 := hdk2.move (h' := h3) fun b o e q => kfr _ _ e (.inl q)
      have hDl3 : h3.IsList D dk.toArray := by
        obtain ⟨o, e, c, n, d⟩ := hDl2
        exact ⟨o, kfr _ _ e (.inl ⟨_, _, d⟩), c, n, d⟩
      have hI3 : h3.IsListIter I2 D (j + 1) := by
        obtain ⟨o, e, c, d⟩ := hI2'
        exact ⟨o, kfr _ _ e (.inr ⟨_, d⟩), c, d⟩
      have hdue3 : (if Str.ofString "due" = Str.ofString "told" then some vj else m2 (Str.ofString "due")) = some v2 := by rw [if_neg (by decide)]; exact hdue
      clear W2 hIt2 hout2 hoj2 hdk2 hDl2 hI2' S3 kfr F3
      have hstep : xs.take (j + 1) = xs.take j ++ [xj] := by
        have : xs[j]? = some xj := by rw [List.getElem?_take_of_lt hj] at hxj; exact hxj
        rw [List.take_add_one, this]; rfl
      obtain ⟨Dv, key, tkey, itsv, rfl, htv, hx0, hj0, hkey⟩ := hout3.parts
      have F3 := W3.F
      refine wpC_execs_cons (ofAny ?_)
      k_steps
      refine Halt.go ?_
      refine q_local W3.F hdue3 ?_
      k_steps
      refine Halt.go ?_
      refine sub_its0 htv hj0 hx0 ?_
      have fin : ∀ (v' : Value) (h4 : Heap) (tk4 : Nat), OutAt h3 (stepO (foldO (xs.take j)) xj).1 host v' (stepO (foldO (xs.take j)) xj).2 → Fr G L h4 (fun y => if y = Str.ofString "due" then some v' else if y = Str.ofString "told" then some vj else m2 y) → Heap.SameBut L h3 h4 →
          J3 G L cl pt rl dl host xs It I2 D i tk1 dk os0 (j + 1) { heap := h4, gens := gs2, drawn := dr2, toks := tk4, os := os2 } := fun v' h4 tk4 ho F4 S4 => by
        have kfr := same_loc S4 W3.F.ns
        refine ⟨_, _, v', W3.locSt S4 F4 rfl, kfr _ _ hIt3 (.inr ⟨_, rfl⟩), hG2, hos2, hcount, rfl, ?_, ?_, ?_, hdk3.move fun b o e q => kfr _ _ e (.inl q)⟩
        · rw [hstep, foldO_snoc]
          exact ho.move fun b o e q => kfr _ _ e (.inl q)
        · obtain ⟨o, e, c, d⟩ := hI3
          exact ⟨o, kfr _ _ e (.inr ⟨_, d⟩), c, d⟩
        · obtain ⟨o, e, c, n, d⟩ := hDl3
          exact ⟨o, kfr _ _ e (.inl ⟨_, _, d⟩), c, n, d⟩
      k_steps
      · rename (key == Str.ofString "told") = true => hq
        rw [hkey] at hq
        refine Halt.go ?_
        refine q_local W3.F (v := vj) rfl ?_
        k_steps
        refine Halt.go ?_
        refine st_same W3.F rfl rfl fun h4 F4 S4 => ?_
        have hfin := fun tk4 => fin vj h4 tk4 (by
          cases ho : foldO (xs.take j) with
          | mk y o =>
            rw [ho] at hq
            cases o with
            | told n => exact hoj3
            | reply => cases hq
            | proto => cases hq
            | value => cases hq) F4 S4
        dsimp only
        refine ofAny (wpAny_execs_nil ?_)
        exact hfin _
      · rename (key == Str.ofString "told") = false => hq
        rw [hkey] at hq
        refine Halt.go ?_
        refine q_local W3.F hdue3 ?_
        k_steps
        refine Halt.go ?_
        refine st_same W3.F rfl rfl fun h4 F4 S4 => ?_
        have hfin := fun tk4 => fin _ h4 tk4 (by
          cases ho : foldO (xs.take j) with
          | mk y o =>
            rw [ho] at hq hout3
            cases o with
            | told n => cases hq
            | reply => exact hout3
            | proto => exact hout3
            | value => exact hout3) F4 S4
        dsimp only
        refine ofAny (wpAny_execs_nil ?_)
        exact hfin _
    · rintro ⟨hp2, gs2, dr2, tk2, os2⟩ ⟨m2, cm2, v2, W, hIt, hG2, hos2, hcount, hdue, hout, hI2, hDl, hdk⟩
      dsimp only at W hIt hG2 hos2 hout hI2 hDl hdk
      refine wpAny_pyNext_list_end rfl hI2 hDl (by simp; omega) ?_
      intro h2 S2
      dsimp only at S2
      refine ⟨rfl, ?_⟩
      have W2 : LW G L cl pt rl dl host xs xs h2 m2 cm2 := by
        obtain ⟨oi, ei, ci, di⟩ := hI2
        refine W.itExt S2 ei ?_ (fun _ _ q => by rw [di] at q; cases q) (fun _ _ q => by rw [di] at q; cases q) (fun _ q => by rw [di] at q; cases q) hgI2
        rintro (q | q | ⟨vs9, q9, t9, q, q2⟩)
        · rw [ci] at q; cases q
        · rw [ci] at q; exact absurd (Value.type.inj q) (by decide)
        · rw [di] at q; cases q; cases q2
      have hIt2 : IsRangeIter h2 It ((i : Int) + 1) (4 - ((i : Int) + 1)) 1 := S2 _ _ hII hIt
      have hout2 := hout.move (h' := h2) fun b o e ⟨_, _, d⟩ => S2 b o (fun q => by
        obtain ⟨oi, ei, _, di⟩ := hI2
        rw [q, ei] at e; cases e; rw [di] at d; cases d) e
      clear W hIt hout hI2 hDl hdk S2
      have F2 := W2.F
      have C2 := W2.C
      dsimp only
      refine wpC_execs_cons (wpC_If (wpC_isTrue_Compare1 (whole := .Name (Str.ofString "x") posB) ?_))
      refine wpC_Call_name ?_
      refine q_glob W2.F.keep X Tp (v := .ref 142) (by kernel_rfl) ?_
      refine wpC_callWith_fnP ?_
      walk1
      refine law_lam (pos := posC) (Tp.keeps W2.F.keep) W2 (hC146.keeps W2.F.keep) hg144 (List.mem_cons_of_mem _ (List.mem_cons_of_mem _ List.mem_cons_self)) (.inr rfl) (by rfl) (clos := [(Str.ofString "replies", L + 7), (Str.ofString "peer", L + 6), (Str.ofString "count", L + 4)]) (by rfl) rfl rfl rfl ?_
      intro f c' pm ctv h5 tk5 hx5 W5 hf5 hz5 ho5 hr5 hX5
      dsimp only at hx5 hf5 hz5
      obtain ⟨P', hC', hT', n94, n144, hgP⟩ := hX5
      obtain ⟨p7, hP7, ht7, _⟩ := id hT'
      have kg : ∀ b o, h5.get? b = some o → b ≠ P' → (gh [P'] h5).get? b = some o := fun b o e hb => gh_get e fun hm => hb (List.mem_singleton.mp hm)
      have notP : ∀ b o, h5.get? b = some o → (∀ ps, o ≠ tabObj ps) → b ≠ P' := fun b o e q hb => by
        rw [hb, hP7] at e; cases e; exact q _ rfl
      have Gk : ∀ b o, G.get? b = some o → (gh [P'] h5).get? b = some o := fun b o e => kg _ _ (W5.F.keep _ _ e) fun q => by rw [q, hgP] at e; cases e
      obtain ⟨oL, esL, epL, eL, dL, rL⟩ := id W5.F.ns
      have hLP : L ≠ P' := notP _ _ eL fun ps q => by rw [q] at dL; cases dL
      have Fg : Fr G L (gh [P'] h5) _ := ⟨W5.F.ns.at fun o e => kg _ _ e hLP, Gk, W5.F.above⟩
      have kseq : ∀ b o, h5.get? b = some o → (∃ vs n, o.data = .seq vs n) → (gh [P'] h5).get? b = some o := fun b o e ⟨_, _, d⟩ => kg _ _ e (notP _ _ e fun ps q => by rw [q] at d; cases d)
      have kcell : ∀ c v, h5.IsCell c v → (gh [P'] h5).IsCell c v := fun c v ⟨o, e, d⟩ => ⟨o, kg _ _ e (notP _ _ e fun ps q => by rw [q] at d; cases d), d⟩
      have hx2 : ∀ b o, h2.get? b = some o → (∀ ps, o ≠ tabObj ps) → h5.get? b = some o := fun b o e q => hx5 _ _ (fun hb => by
        obtain ⟨ps, eP, _⟩ := W2.t144
        rw [hb, eP] at e; cases e; exact q _ rfl) e
      have hIt5 : IsRangeIter h5 It ((i : Int) + 1) (4 - ((i : Int) + 1)) 1 := hx2 _ _ hIt2 fun ps q => by cases q
      have hout5 := hout2.move (h' := h5) fun b o e ⟨_, _, d⟩ => hx2 _ _ e fun ps q => by rw [q] at d; cases d
      obtain ⟨vrs, hrs, hsr⟩ := W5.reps
      obtain ⟨tp5, up5, hpt5⟩ := W5.peer
      have hcP : c' ≠ P' := tab_ne hP7 ht7 hr5
      clear W2 hIt2 hout2 hx2 F2 C2
      have F5 := W5.F
      k_steps
      · exact Halt.go ⟨_, _, _, _, X.keeps W5.F.keep _ _ (by k_is)⟩
      have hTD : KtsDicts [L] (gh [P'] h5) := fun b hb => ⟨oL, esL, epL, by rw [List.mem_singleton.mp hb]; exact kg _ _ eL hLP, dL⟩
      refine c_outcome (T := [P']) (Inv := fun hh => TabOk hh P' (tabD posD qualL)) (ok := okTold host (numAt (xs.take i) (xs.take i).length)) (okN := fun n => n = numAt (xs.take i) (xs.take i).length) (bd := firstBad (xs.take i)) (g := gh [P'] h5) (B := G) (D := 700) (U := 40) (host := host)
        (X.keeps Gk) (Tp.keeps Gk) X Tp gh_sub ⟨_, _, _, _, ho5⟩ (pushX KB Fg rfl rfl) hTD
        (lamC_spec (th := tp5) (tk0 := tk1) (k := i) (vs := vrs) (X.keeps Gk) (Tp.keeps Gk) (codeHd_move hC' fun b o e _ hcl => kg _ _ e (notP _ _ e fun ps q => by rw [q] at hcl; cases hcl)) (kg _ _ ho5 (notP _ _ ho5 fun ps q => by cases q)) rfl (codeRec_at hr5 fun o e => kg _ _ e hcP)
          (kcell _ _ (hcount ▸ W5.C.cell (Str.ofString "count") (L + 4) rfl)) (kcell _ _ (W5.pc ▸ W5.C.cell (Str.ofString "peer") (L + 6) rfl)) (kcell _ _ (W5.rc ▸ W5.C.cell (Str.ofString "replies") (L + 7) rfl))
          (let ⟨o, e, c, n, d⟩ := hpt5; ⟨tp5, up5, o, kseq _ _ e ⟨_, _, d⟩, c, n, d⟩) (let ⟨n, e⟩ := hrs; ⟨_, kseq _ _ e ⟨_, _, rfl⟩, rfl, n, rfl⟩) hsr (by omega) (by omega) W5.txt (fun q => by
            have e := X 76 _ (by k_is)
            rw [← q, W5.pnew] at e; cases e) (hideAll_none _ (List.mem_singleton.mpr rfl)) (by decide) (by decide))
        hT' (fun _ _ k x => TabOk.in_keep k x) (fun v hh q => ⟨_, rfl, q⟩) (fun n q => ?_) (fun b hb => by rw [List.mem_singleton.mp hb]; exact Heap.lt_size hP7) hG2 rfl (by dsimp only [Around.deeper]; omega) (by dsimp only [Around.deeper]; omega) (by decide) (by decide) ?_
      · have := numAt_bound (l := xs.take i) (fun x hx => hnum x (List.mem_of_mem_take hx)) (xs.take i).length
        have h1 : (10 : Int) ^ 100 ≤ 10 ^ 500 := by decide +kernel
        omega
      rintro v ⟨h6, gs6, dr6, tk6, os6⟩ g' n hO hn hos6 hG6 hT6 hk6 hInv6 _
      dsimp only at hO hos6 hG6 hk6 hInv6
      have hov := outAt_fold hO hn
      have notL : ∀ b o, h5.get? b = some o → (∀ es n, o.data ≠ .dict es n) → b ∉ [L] := fun b o e q hb => by
        rw [List.mem_singleton.mp hb, eL] at e; cases e; exact q _ _ dL
      have W6 := W5.turn hT6 hk6 (fun b hb => by rw [List.mem_singleton.mp hb]; exact ⟨hgP, n94, _, hP7⟩) (law_tab2 W5.t94 W5.t144 hT' hInv6 n144 fun b o e ⟨_, d⟩ _ _ hb => hk6 _ _ (hT6.other b o (kg _ _ e hb) (notL _ _ e fun _ _ q => by rw [d] at q; cases q)))
      have hIt6 : IsRangeIter h6 It ((i : Int) + 1) (4 - ((i : Int) + 1)) 1 := hk6 _ _ (hT6.other _ _ (kg _ _ hIt5 (notP _ _ hIt5 fun ps q => by cases q)) (notL _ _ hIt5 fun _ _ q => by cases q))
      have hout6 := hout5.move (h' := h6) fun b o e q => hk6 _ _ (hT6.other _ _ (kseq _ _ e q) (notL _ _ e fun _ _ q2 => by obtain ⟨_, _, d⟩ := q; rw [d] at q2; cases q2))
      clear W5 hIt5 hout5 hT6 hk6 kg kseq kcell notP notL hTD Fg Gk F5 hC' hT' hInv6 hO hn ho5 hr5 hrs hpt5 hx5
      have F6 := W6.F
      k_steps
      refine Halt.go ?_
      refine q_local W6.F hdue ?_
      refine ne_out hov hout6 (by dsimp only [Around.deeper]; rw [hcL]; omega) ?_
      refine wpAny_truthy_bool ?_
      rw [if_neg Bool.false_ne_true]
      refine ofAny (wpAny_execs_nil ?_)
      refine ofAny (wpAny_execs_nil ?_)
      refine ⟨m2, cm2, W6, ?_, hG6, hos6.trans hos2⟩
      have e1 : ((i + 1 : Nat) : Int) = (i : Int) + 1 := by omega
      rw [e1]
      exact hIt6
  · rintro ⟨hp1, gs1, dr1, tk1, os1⟩ ⟨m1, cm1, W, hIt, hG1, hos1⟩
    dsimp only at W hIt hG1 hos1
    refine wpAny_pyNext_range_end rfl hIt (by decide) ?_
    intro h2 S2
    refine ⟨rfl, ?_⟩
    have W2 : LW G L cl pt rl dl host xs xs h2 m1 cm1 := by
      refine W.itExt S2 hIt ?_ (fun _ _ q => by cases q) (fun _ _ q => by cases q) (fun _ q => by cases q) hgIt
      rintro (q | q | ⟨vs9, q9, t9, q, q2⟩)
      · cases q
      · exact absurd (Value.type.inj q) (by decide)
      · cases q; cases q2
    dsimp only
    have F2 := W2.F
    refine wpC_execs_cons (ofAny ?_)
    k_steps
    exact h _ _ _ W2 hG1 hos1
end
end Mine

end
section -- Q4
theorem Mine.offQ4 : True ∧ True := by
  w_top off
  first | (walk1; all_goals trivial) | exact ⟨trivial, trivial⟩
namespace Mine
open PySem PySem.W PyProof.Rows PySem.Spec PySem.Calls

theorem gen_int {Q : Value → Shared → Prop} {n : Int} {t : Tok} {s : Shared} (h : ∀ v u, v = n → Q (.int v u) s) : Q (.int n t) s := h n t rfl
/-- one text or the other: the ways meet -/
theorem ite_strs {M : Model} {A : Around} {E : Value → Shared → Prop} {hp : Heap} {gs : Array GenState} {dr : Drawn} {tk : Nat} {os : OsState} {Q : Value → Shared → Prop} {env : Env} {c : Bool} {a b : Str} {k1 k2 : Nat} {p1 p2 : Pos} (ha : a.length ≤ 1) (hb : b.length ≤ 1)
    (h : ∀ v t' k, v = (if c = true then a else b) → v.length ≤ 1 → Q (.str v t') ⟨hp, gs, dr, k, os⟩) :
    if c = true then wpAny M A (eval (.Constant (.str a) k1 p1) env) Q E ⟨hp, gs, dr, tk, os⟩ else wpAny M A (eval (.Constant (.str b) k2 p2) env) Q E ⟨hp, gs, dr, tk, os⟩ := by
  cases c with
  | true => exact Constant_str (h _ _ _ rfl ha)
  | false => exact Constant_str (h _ _ _ rfl hb)
theorem rest_is {one two three : Int} {x : Str} (hx : x = insideS one two three) :
    [Str.ofString "it's ", Str.ofString ""].getD ((three.fdiv 64).fmod 2).toNat (Str.ofString "") ++ (if ((three.fdiv 8).fmod 8 == 7) = true then Str.ofString "" else Str.ofString "(") ++ x ++ (if ((three.fdiv 8).fmod 8 == 6) = true then Str.ofString "" else Str.ofString ")") ++ [Str.ofString "", Str.ofString " (|||7|)"].getD ((three.fdiv 128).fmod 2).toNat (Str.ofString "") = restS one two three := by
  subst hx
  unfold restS openS closeS
  simp only [beq_iff_eq]
section
variable {w : World} {A : Around} {s : Shared} {E : Value → Shared → Prop} {Q : Value → Shared → Prop} {p : Program} {loose : List Str} {mean : ExcName → Option Value} {mg mb : Str → Option Value}

local macro_rules | `(tactic| walk_at "subscriptTail Name BinOp ref int") => `(tactic| ((with_reducible show wpAny _ _ (subscriptTail _ _ (Value.ref _) (Value.int (Int.fmod _ _) _)) _ _ _); (refine' sub_strs 12 ?l ?S ?a ?b ?z ?B ?_; (case l => k_dflt is_list); (case S => k_dflt (repeat constructor)); (case a => k_dflt (exact fm_lo _ (by decide))); (case b => k_dflt (exact Int.lt_of_lt_of_le (fm_hi _ (by decide)) (by first | decide | simp))); (case z => k_dflt (first | decide | simp)); (case B => k_dflt (first | decide | (simp only [List.forall_mem_cons]; refine ⟨?_, ?_, ?_, ?_, ?_, ?_, ?_, ?_, fun _ h => nomatch h⟩ <;> first | decide | exact Nat.le_trans (by with_reducible assumption) (Nat.le_of_ble_eq_true rfl))))); intro v' t' hv' lv'))
local macro_rules | `(tactic| walk_at "subscriptTail") => `(tactic| ((with_reducible show wpAny _ _ (subscriptTail _ _ (Value.ref _) (Value.int (Int.fmod _ _) _)) _ _ _); (refine' sub_strs 12 ?l ?S ?a ?b ?z ?B ?_; (case l => k_dflt is_list); (case S => k_dflt (repeat constructor)); (case a => k_dflt (exact fm_lo _ (by decide))); (case b => k_dflt (exact Int.lt_of_lt_of_le (fm_hi _ (by decide)) (by first | decide | simp))); (case z => k_dflt (first | decide | simp)); (case B => k_dflt (first | decide | (simp only [List.forall_mem_cons]; refine ⟨?_, ?_, ?_, ?_, ?_, ?_, ?_, ?_, fun _ h => nomatch h⟩ <;> first | decide | exact Nat.le_trans (by with_reducible assumption) (Nat.le_of_ble_eq_true rfl))))); intro v' t' hv' lv'))
local macro_rules | `(tactic| walk_at "subscriptTail") => `(tactic| ((with_reducible show wpAny _ _ (subscriptTail _ _ (Value.ref _) (Value.int (Int.fmod _ _) _)) _ _ _); (refine' sub_ints (L := [1, 1, 1, 0, 0, 0, 2]) ?l ?S ?a ?b ?z ?_; (case l => k_dflt is_list); (case S => k_dflt (repeat constructor)); (case a => k_dflt (exact fm_lo _ (by decide))); (case b => k_dflt ((have q9 := fm_hi three (b := 8) (by decide); show three.fmod 8 < 7; omega))); (case z => k_dflt (decide))); intro t'; refine gen_int ?_; intro v' hv'))
local macro_rules | `(tactic| walk_at "subscriptTail") => `(tactic| ((with_reducible show wpAny _ _ (subscriptTail _ _ (Value.str _ _) (Value.int (Int.fmod _ _) _)) _ _ _); (refine' itemE ?a ?b ?z ?_; (case a => k_dflt (exact fm_lo _ (by decide))); (case b => k_dflt (exact Int.lt_of_lt_of_le (fm_hi _ (by decide)) (by decide))); (case z => k_dflt (decide))); intro v' t' k' hv' lv'))
local macro_rules | `(tactic| walk_at "binaryOp Add str str") => `(tactic| (refine' addE ?x ?y ?z ?_; (case x => first | with_reducible assumption | exact Nat.le_refl _); (case y => first | with_reducible assumption | exact Nat.le_refl _); (case z => k_dflt ((unfold Small; decide +kernel))); intro v' t' k' hv' lv'))
local macro_rules | `(tactic| walk_at "call type:str") => `(tactic| ((with_reducible show wpAny _ _ (call _ [Value.int (Int.fmod _ _) _]) _ _ _); (refine' strE ?a ?b ?_; (case a => k_dflt (exact Int.lt_of_lt_of_le (by decide) (fm_lo _ (by decide)))); (case b => k_dflt (exact Int.lt_of_lt_of_le (fm_hi _ (by decide)) (by decide)))); intro v' t' k' hv' lv'))
local macro_rules | `(tactic| walk_at "binaryOp Mult str int") => `(tactic| refine halt ?_)
local macro_rules | `(tactic| walk_at "ite") => `(tactic| (refine' ite_strs ?a ?b ?_; (case a => k_dflt (decide +kernel)); (case b => k_dflt (decide +kernel)); intro v' t' k' hv' lv'))
theorem c_rest {one two three : Int} {t1 t2 t3 : Tok} (X : (Mine.hd.heap_1 w.params).In s.heap) (T : Top p loose mean mg mb s.heap)
    (hA : A.handled = none) (hd : A.depth + 1 < recursionLimit) (hu : A.units + 8 < cLine)
    (h : ∀ t' h' tk', Kp s.heap h' → Q (.str (restS one two three) t') { s with heap := h', toks := tk' }) : wpAny (model Challenge.rw_oy0022_01.row.prog w) A (call (.ref 111) [.int one t1, .int two t2, .int three t3]) Q E s := by

  obtain ⟨hnd, dp, fr, gd, un⟩ := A
  obtain rfl : hnd = none := hA
  dsimp only at hd hu
  revert X; k_fill; intro X
  refine wpAny_call ?_
  k_dflt (refine' enterP [(Str.ofString "one", .int one t1), (Str.ofString "two", .int two t2), (Str.ofString "three", .int three t3)] X T ?k6 ?k7 ?k8 ?k9 ?kB ?_ ?c2 ?c3 ?c4 ?c5; (case k6 => k_is); (case k7 => k_is); (case k8 => (dsimp only; omega)); (case k9 => exact BindsTo.of_eq rfl); (case kB => exact locs rfl); (case c2 => exact rfl); (case c3 => exact rfl); (case c4 => exact rfl); (case c5 => decide))
  intro L h₁ F N
  (try dsimp only)
  (try k_fold)
  k_steps
  · refine Halt.go ?_
    have h34 := any34 (by assumption)
    refine mulE (by assumption) (by omega) (by omega) ?_
    intro v' t' k' hv' lv'
    k_steps
    all_goals (subst_vars; exact q_of (h _ _ _ (Fr.keep (by assumption))) (rest_is (inside_a (by assumption))))
  · (subst_vars; exact q_of (h _ _ _ (Fr.keep (by assumption))) (rest_is (inside_b (by assumption) (by assumption))))
  · refine Halt.go ?_
    refine mulE (by assumption) (tri_bd _).1 (tri_bd _).2 ?_
    intro v' t' k' hv' lv'
    k_steps
    all_goals (subst_vars; exact q_of (h _ _ _ (Fr.keep (by assumption))) (rest_is (inside_c (by assumption) (by assumption))))
end
end Mine

end
section -- LW1
theorem Mine.offLW1 : True ∧ True := by
  w_top off
  first | (walk1; all_goals trivial) | exact ⟨trivial, trivial⟩
namespace Mine
open PySem PySem.W PyProof.Rows PySem.Spec PySem.Calls
section
variable {prog : Program} {w : World} {A : Around} {E : Value → Shared → Prop} {s : Shared}
theorem sum_keep {l : Addr} {vs : List Value} {ns : List Int} {Q : Value → Shared → Prop} (hh : A.handled = none) (hl : s.heap.IsList l vs.toArray) (hi : IntsAre vs ns)
    (h : ∀ h' tk t', Kp s.heap h' → Q (.int ns.sum t') { s with heap := h', toks := tk }) : wpAny (model prog w) A (call (.builtin "sum") [.ref l]) Q E s := by
  obtain ⟨xs, hx⟩ := hi.allInts.items
  have hl' : s.heap.IsList l (intItems xs) := hx ▸ hl
  refine sum_intListG hh hl' fun h' tk t' hk => ?_
  have e1 : ns = xs.toList.map (·.1) := by
    rw [← nums_intItems, ← hx]
    exact (show numsOf vs.toArray.toList = ns from hi.numsOf).symm
  have e2 : preSum (PySem.numAt xs) xs.size = ns.sum := by
    rw [preSum_eq, List.take_of_length_le (by simp), e1]
  rw [e2]
  exact h h' tk t' hk
theorem slice_keep3 {value slice : Expr} {l : Addr} {items : Array Value} {vl vu vs : Value} {lo hi st : Option Int} {Q : Value → Shared → Prop} (hl : s.heap.IsList l items) (pl : IsPart vl lo) (pu : IsPart vu hi) (ps : IsPart vs st) (h0 : st ≠ some 0)
    (h : ∀ D h', Kp s.heap h' → h'.get? D = some { cls := .type "list", data := .seq (slicePick items lo hi st) } → s.heap.get? D = none → s.heap.objs.size ≤ h'.objs.size → Q (.ref D) { s with heap := h' })
    (hsz : items.size ≤ sizeLine)
    (hs : subscripted slice false (.ref l) (.ref s.heap.objs.size) = operate [.ref l, .ref s.heap.objs.size] (getItem (.ref l) (.ref s.heap.objs.size)) := by with_unfolding_all rfl)
    (ht : ∀ r, letTemporaryGo value (.ref l) r = pure () := by intro _; with_unfolding_all rfl) :
    wpAny (model prog w) A (subscriptTail value slice (.ref l) (.ref s.heap.objs.size)) Q E { s with heap := s.heap.push { cls := .type "slice", data := .fields #[vl, vu, vs] } } := by
  refine subscriptTail_ops (Heap.IsList.typeIs (s := { s with heap := s.heap.push { cls := .type "slice", data := .fields #[vl, vu, vs] } }) (hl.push _)) list_getitem_lookup
    (wpAny_getItem_list_slice (hl.push _) (Heap.IsSliceOf.new ..) pl pu ps h0 ?_ hsz) hs ht
  refine h _ _ (fun b o e => Heap.get?_push_of_some _ (Heap.get?_push_of_some _ e)) (Heap.get?_push_size _ rfl) ?_ ?_
  · refine Heap.get?_none_of_le ?_
    show s.heap.objs.size ≤ (s.heap.push _).objs.size
    rw [Heap.size_push]; exact Nat.le_succ _
  · rw [Heap.size_push, Heap.size_push]; omega
end
theorem mk_ints {prog : Program} {w : World} {A : Around} {E : Value → Shared → Prop} {s : Shared} {vs : List Value} {Q : Value → Shared → Prop} (n : Nat) (hz : vs.length = n) (hn : n ≤ 60) (hv : ∀ v ∈ vs, ∃ n t, v = Value.int n t)
    (h : ∀ (its : List Value) (tk : Nat), its.length = n → (∀ v ∈ its, ∃ n t, v = Value.int n t) → Q (.ref s.heap.objs.size) { s with heap := s.heap.push { cls := .type "list", data := .seq its.toArray }, toks := tk }) : wpAny (model prog w) A (newList vs) Q E s :=
  wpAny_newList (h vs s.toks hz hv) (Nat.le_trans (Nat.le_trans (Nat.le_of_eq hz) hn) (by rw [sizeLine_eq]; decide))
theorem ints_all : ∀ {l : List Value}, (∀ y ∈ l, ∃ n t, y = Value.int n t) → ∃ ns, IntsAre l ns
  | [], _ => ⟨[], .nil⟩
  | y :: r, h => by
    obtain ⟨n, t, rfl⟩ := h y List.mem_cons_self
    obtain ⟨ns, hr⟩ := ints_all fun z hz => h z (List.mem_cons_of_mem _ hz)
    exact ⟨n :: ns, .cons n t hr⟩
section
variable {w : World} {A : Around} {s : Shared} {E : Value → Shared → Prop} {Q : Value → Shared → Prop} {p : Program} {loose : List Str} {mean : ExcName → Option Value} {mg mb : Str → Option Value}
local macro_rules | `(tactic| walk_at "eval ListComp") => `(tactic| refine halt ?_)
local macro_rules | `(tactic| walk_at "call type:enumerate") => `(tactic| refine halt ?_)
local macro_rules | `(tactic| walk_at "call builtin:sum") => `(tactic| refine halt ?_)
local macro_rules | `(tactic| walk_at "subscriptTail Name Slice ref ref") => `(tactic| refine halt ?_)
local macro_rules | `(tactic| walk_at "nm_blt") => `(tactic| (refine Halt.go ?_; refine q_blt (Fr.keep (by assumption)) (by assumption) (by assumption) (by kernel_rfl) (by boot_by_name) (by decide) ?_))
local macro_rules | `(tactic| walk_at "nm_glob") => `(tactic| (refine Halt.go ?_; refine q_glob (Fr.keep (by assumption)) (by assumption) (by assumption) (by k_is) ?_))
local macro_rules | `(tactic| walk_at "nm_cell") => `(tactic| (refine Halt.go ?_; refine q_cell (by assumption) (by rfl) (by rfl) ?_))
local macro_rules | `(tactic| walk_at "nm_loc") => `(tactic| (refine Halt.go ?_; refine q_local (by assumption) (by rfl) ?_))
local macro_rules | `(tactic| walk_at "subscriptTail Name Constant ref int") => `(tactic| refine halt ?_)
local macro_rules | `(tactic| walk_at "subscriptTail List BinOp ref int") => `(tactic| refine halt ?_)
local macro_rules | `(tactic| walk_at "callWith ref") => `(tactic| refine halt ?_)
local macro_rules | `(tactic| walk_at "call ref") => `(tactic| refine halt ?_)
local macro_rules | `(tactic| walk_at "FnAt") => `(tactic| refine halt ?_)
local macro_rules | `(tactic| walk_at "subscriptTail Name Name ref int") => `(tactic| refine halt ?_)
local macro_rules | `(tactic| walk_at "subscriptTail Name BinOp ref int") => `(tactic| refine halt ?_)
local macro_rules | `(tactic| walk_at "call type:range") => `(tactic| refine halt ?_)
local macro_rules | `(tactic| walk_at "Exists") => `(tactic| refine halt ?_)
local macro_rules | `(tactic| walk_at "newTuple") => `(tactic| refine halt ?_)
local macro_rules | `(tactic| walk_at "newList") => `(tactic| refine halt ?_)
local macro_rules | `(tactic| walk_at "storeName") => `(tactic| refine halt ?_)
local macro_rules | `(tactic| walk_at "eval Name") => `(tactic| refine halt ?_)
theorem c_law {sl : Addr} {vs : List Value} {ns : List Int} {B : Heap} (X : (Mine.hd.heap_1 w.params).In (gh [91, 144] s.heap)) (Tp : Top p loose mean mg mb (gh [91, 144] s.heap))
    (hA : A.handled = none) (hdp : A.depth ≤ 600) (hun : A.units ≤ 10) (hsl : s.heap.IsList sl vs.toArray) (hI : IntsAre vs ns) (hlen : ns.length ≤ 63) (h94 : s.heap.get? 91 = some (tabObj #[])) (h144 : s.heap.get? 144 = some (tabObj #[])) (KB : Below A (gh [91, 144] s.heap) [] (gh [91, 144] s.heap)) (hC146 : CodeHd (gh [91, 144] s.heap) 146 144) (hC95 : CodeHd (gh [91, 144] s.heap) 95 91) (hG : AllBare s.gens)
    (h : ∀ s', (∀ b o, (gh [91, 144] s.heap).get? b = some o → s'.heap.get? b = some o) → GrownAt 91 s'.heap → GrownAt 144 s'.heap → s'.os = s.os → AllBare s'.gens → Q (.bool true) s') :
    wpC (model Challenge.rw_oy0022_01.row.prog w) A (call (.ref 147) [.ref sl]) Q E s := by
  obtain ⟨hnd, dp, fr, gd, un⟩ := A
  obtain rfl : hnd = none := hA
  dsimp only at hdp hun
  have X0 := X.keeps gh_sub
  revert X; k_fill; intro X
  refine wpC_call ?_
  k_dflt (refine' enterCC [(Str.ofString "script", .ref sl)] X0 (Tp.keeps gh_sub) ?k6 ?k7 ?k8 ?k9 ?kB ?_ ?c2 ?c3 ?c4; (case k6 => k_is); (case k7 => k_is); (case k8 => (dsimp only; rw [show recursionLimit = 1000 from rfl]; omega)); (case k9 => exact BindsTo.of_eq rfl); (case kB => exact rfl); (case c2 => exact rfl); (case c3 => exact rfl); (case c4 => exact rfl))
  intro L h₁ tk F₀ C₀
  (try dsimp only)
  (try k_fold)
  obtain ⟨m, hm, F₀⟩ : ∃ m, m (Str.ofString "script") = some (.ref sl) ∧ Fr s.heap L h₁ m := ⟨_, rfl, F₀⟩
  obtain ⟨cm, C⟩ : ∃ cm, Cl L (lawCs L) h₁ cm := ⟨_, C₀⟩
  clear C₀
  have F : Fr s.heap L h₁ _ := F₀
  have T0 := Tp.keeps gh_sub
  have hcL : cLine = 9900 := rfl
  have hrL : recursionLimit = 1000 := rfl
  have h60 : ∀ (xs : Array Value), xs.size ≤ 63 → xs.size ≤ sizeLine := fun xs h => Nat.le_trans h (by rw [sizeLine_eq]; decide)
  refine wpC_execs_cons (ofAny ?_)
  k_steps
  refine Halt.go ?_
  refine q_local F hm ?_
  k_steps
  refine slice_keep (hsl.at fun o e => F₀.keep _ _ e) (by constructor) (by constructor) ?_ (h60 _ (by simp only [List.size_toArray]; rw [hI.length]; exact hlen))
  intro D1 h1 hk1 hD1 hn1 hz1
  k_steps
  refine Halt.go ?_
  refine q_stC (fr_up F hk1) (C.keeps hk1) (c := L + 1) rfl ?_
  intro h2 F2 C2 S2 hc2
  dsimp only at hk1 hn1 hz1 S2
  dsimp only
  have hnum : h2.IsList D1 (slicePick vs.toArray none (some 60) none) := ⟨_, (S2.2 _ (fun q => by
    obtain ⟨o, ho, hd⟩ := (C.keeps hk1).cell (Str.ofString "numbers") (L + 1) rfl
    rw [q, ho] at hD1; cases hD1; cases hd)).trans hD1, rfl, _, rfl⟩
  clear hD1 hn1 hz1 S2 hc2
  obtain ⟨n60, v60, hI60, hl60, hnum⟩ : ∃ n60 v60, IntsAre v60 n60 ∧ v60.length ≤ 63 ∧ h2.IsList D1 v60.toArray :=
    ⟨_, _, IntsAre.pick hI none (some 60) none, by rw [show (some (60 : Int)) = some ((60 : Nat) : Int) from rfl, slicePick_upto' vs.toArray 60]; simp; omega, by rw [Array.toArray_toList]; exact hnum⟩
  refine wpC_execs_cons (wpC_Assign_Name (ofAny ?_))
  refine lc_enum (fun v => ∃ n t, v = .int n t) rfl rfl (by decide) rfl (by decide) rfl rfl (by decide) ?_
  k_steps
  walk_at "nm_blt"
  k_steps
  refine Halt.go ?_
  refine mk_ints 12 rfl (by decide) (by repeat (first | exact fun _ hm => absurd hm List.not_mem_nil | refine List.forall_mem_cons.mpr ⟨⟨_, _, rfl⟩, ?_⟩)) ?_
  intro its tk12 hlen12 hall
  k_steps
  refine Halt.go ?_
  refine call_enumerate_1 (Heap.get?_push_size _ rfl) ?_
  intro h3 hE3 hI3 hz3 hk3
  k_steps
  refine Halt.go ?_
  dsimp only at hE3 hI3 hz3 hk3
  have hl3 := hk3 _ _ (Heap.get?_push_size h2 (o := { cls := .type "list", data := .seq its.toArray }) rfl)
  have hk23 : ∀ b o, h2.get? b = some o → h3.get? b = some o := fun b o e => hk3 _ _ (Heap.get?_push_of_some _ e)
  have hz2 : (h2.push { cls := .type "list", data := .seq its.toArray }).objs.size = h2.objs.size + 1 := Heap.size_push ..
  rw [hz2] at hE3 hI3 hz3
  clear hk3 hz2
  refine ⟨h2.objs.size + 1 + 1, h2.objs.size + 1, h2.objs.size, its.toArray, by dsimp only; rw [Heap.size_push], Nat.succ_ne_self _, Nat.ne_of_lt (Nat.lt_succ_of_lt (Nat.lt_succ_self _)), Nat.ne_of_lt (Nat.lt_succ_self _), h60 _ (by simp [hlen12]), hE3, hI3, ⟨_, hl3, rfl, _, rfl⟩, ?_, ?_⟩
  · intro C9 i v s3 m3 E' hC9 hv hn3 hm3 hm4 hk9
    have hk29 : ∀ b o, h2.get? b = some o → s3.heap.get? b = some o := fun b o e => hk9 b o (fun hm => by
      have hlt := Heap.lt_size e
      rcases List.mem_cons.mp hm with rfl | hm
      · exact absurd (Nat.lt_trans (Nat.lt_succ_self _) (Nat.lt_trans (Nat.lt_succ_self _) hlt)) (Nat.lt_irrefl _)
      · rw [List.mem_singleton.mp hm] at hlt
        exact absurd (Nat.lt_trans (Nat.lt_succ_self _) hlt) (Nat.lt_irrefl _)) (hk23 b o e)
    clear hk9 hE3 hI3 hz3 hl3 hk23
    obtain ⟨ti, hm3⟩ := hm3
    obtain ⟨n0, t0, rfl⟩ := hall v (by have := Array.mem_of_getElem? hv; simpa using this)
    k_steps
    refine Halt.go ?_
    refine cn_local hn3 hm4 ?_
    k_steps
    refine Halt.go ?_
    refine q_blt (fun b o e => hk29 _ _ (F2.keep _ _ e)) X0 T0 (by kernel_rfl) (by boot_by_name) (by decide) ?_
    k_steps
    refine Halt.go ?_
    obtain ⟨oc, hoc, hdc⟩ := C2.cell (Str.ofString "numbers") (L + 1) rfl
    refine cn_cell (hk29 _ _ hoc) hdc ?_
    k_steps
    refine Halt.go ?_
    refine cn_local hn3 hm3 ?_
    k_steps
    refine Halt.go ?_
    refine slice_keep3 (hnum.at fun o e => hk29 _ _ e) (by constructor) (by constructor) (by constructor) (by decide) ?_ (h60 _ (by simpa using hl60))
    intro D5 h5 hk5 hD5 hn5 hz5
    k_steps
    refine Halt.go ?_
    refine sum_keep rfl ⟨_, hD5, rfl, _, by rw [Array.toArray_toList]⟩ (IntsAre.pick hI60 (some (i : Int)) none (some 12)) ?_
    intro h6 tk6 t6 hk6
    k_steps
    all_goals first | exact Halt.go ⟨_, _, rfl⟩ | exact Halt.go ⟨_, _, rfl, fun b o e => hk6 _ _ (hk5 _ _ e)⟩
  · intro D4 h4 tk4 ys hD4 hpl hys hint hk4 hz4
    dsimp only at hD4 hk4 hz4
    have hk24 : ∀ b o, h2.get? b = some o → h4.get? b = some o := fun b o e => hk4 b o (fun hm => by
      have hlt := Heap.lt_size e
      rcases List.mem_cons.mp hm with rfl | hm
      · exact absurd (Nat.lt_trans (Nat.lt_succ_self _) (Nat.lt_trans (Nat.lt_succ_self _) hlt)) (Nat.lt_irrefl _)
      · rw [List.mem_singleton.mp hm] at hlt
        exact absurd (Nat.lt_trans (Nat.lt_succ_self _) hlt) (Nat.lt_irrefl _)) (hk23 b o e)
    clear hk4 hE3 hI3 hl3 hD4
    obtain ⟨vc, nc, hvc, hlc, hIc⟩ : ∃ vc nc, h4.IsList D4 (List.toArray vc) ∧ nc.length = 12 ∧ IntsAre vc nc := by
      obtain ⟨nc, hnc⟩ := ints_all hint
      exact ⟨ys.toList, nc, by rw [Array.toArray_toList]; exact hpl.isList, by rw [← hnc.length]; simpa [hlen12] using hys, hnc⟩
    clear hpl hys hint hall hlen12
    refine q_stC (fr_up F2 hk24) (C2.keeps hk24) (c := L + 3) rfl ?_
    intro h5 F5 C5 S5 hc5
    dsimp only at S5 hc5
    have hvc5 : h5.IsList D4 vc.toArray := hvc.at fun o e => (S5.2 _ (fun q => by
      obtain ⟨o', e', hd⟩ := hc5
      obtain ⟨o'', e'', _, k, hd'⟩ := hvc
      rw [q, e'] at e''; cases e''
      rw [hd] at hd'; cases hd')).trans e
    refine wpC_execs_cons (ofAny ?_)
    k_steps
    refine Halt.go ?_
    refine wpAny_newList ?_
    k_steps
    have C5' := C5.keeps (h' := h5.push { cls := .type "list", data := .seq [Value.str (Str.ofString "a host") tk4, Value.str (Str.ofString "Another") (tk4 + 1), Value.str (Str.ofString "") (tk4 + 1 + 1), Value.str (Str.ofString "::1") (tk4 + 1 + 1 + 1)].toArray }) fun b o e => Heap.get?_push_of_some _ e
    walk_at "nm_cell"
    k_steps
    refine Halt.go ?_
    refine sub_ints (hvc5.push _) hIc (by decide) (by rw [hlc]; decide) (by rw [hlc]; decide) ?_
    intro t6
    k_steps
    refine Halt.go ?_
    refine sub_strs (L := [Str.ofString "a host", Str.ofString "Another", Str.ofString "", Str.ofString "::1"]) 7 (items := [Value.str (Str.ofString "a host") tk4, Value.str (Str.ofString "Another") (tk4 + 1), Value.str (Str.ofString "") (tk4 + 1 + 1), Value.str (Str.ofString "::1") (tk4 + 1 + 1 + 1)]) ⟨_, Heap.get?_push_size _ rfl, rfl, _, rfl⟩ (.cons _ _ (.cons _ _ (.cons _ _ (.cons _ _ .nil)))) ?_ ?_ (by decide) (by decide) ?_
    · exact Int.fmod_nonneg_of_pos _ (by decide)
    · exact Int.fmod_lt_of_pos _ (by decide)
    intro host th hhost hhl
    k_steps
    refine Halt.go ?_
    refine wpAny_newTuple ?_
    k_steps
    refine Halt.go ?_
    refine q_stC (fr_up F5 fun b o e => Heap.get?_push_of_some _ (Heap.get?_push_of_some _ e)) (C5.keeps fun b o e => Heap.get?_push_of_some _ (Heap.get?_push_of_some _ e)) (c := L + 6) rfl ?_
    intro h7 F7 C7 S7 hc7
    dsimp only at S7 hc7
    refine wpC_execs_cons (ofAny ?_)
    k_steps
    refine Halt.go ?_
    refine wpAny_newList ?_
    k_steps
    refine Halt.go ?_
    refine q_stC (fr_up F7 fun b o e => Heap.get?_push_of_some _ e) (C7.keeps fun b o e => Heap.get?_push_of_some _ e) (c := L + 7) rfl ?_
    intro h8 F8 C8 S8 hc8
    refine wpC_execs_cons (ofAny ?_)
    k_steps
    refine Halt.go ?_
    refine wpAny_newList ?_
    k_steps
    refine Halt.go ?_
    refine st_same (fr_up F8 fun b o e => Heap.get?_push_of_some _ e) rfl rfl fun h9 F9 S9 => ?_
    dsimp only at S8 S9 hc8
    have k78 := same_cell S8 hc8
    have k89 := same_loc S9 (fr_up F8 fun b o e => Heap.get?_push_of_some _ e).ns
    have k67 := same_cell S7 hc7
    replace F9 : Fr s.heap L h9 _ := F9
    replace S9 : Heap.SameBut L _ h9 := S9
    have nfS : ∀ {cls : Value} {its : Array Value} {n : Nat}, NotFr { cls := cls, data := .seq its n } := fun {_ _ _} => .inl ⟨_, _, rfl⟩
    have kk : ∀ b o, h5.get? b = some o → NotFr o → h9.get? b = some o := fun b o e n => k89 _ _ (Heap.get?_push_of_some _ (k78 _ _ (Heap.get?_push_of_some _ (k67 _ _ (Heap.get?_push_of_some _ (Heap.get?_push_of_some _ e)) n)) n)) n
    have hcl9 : h9.IsList D4 vc.toArray := by
      obtain ⟨o, e, c, n, d⟩ := hvc5
      exact ⟨o, kk _ _ e (.inl ⟨_, _, d⟩), c, n, d⟩
    have hpt7 := k67 _ _ (Heap.get?_push_size _ rfl) nfS
    have hpt9 := k89 _ _ (Heap.get?_push_of_some _ (k78 _ _ (Heap.get?_push_of_some _ hpt7) nfS)) nfS
    have hrl8 := k78 _ _ (Heap.get?_push_size _ rfl) nfS
    have hrl9 := k89 _ _ (Heap.get?_push_of_some _ hrl8) nfS
    have hdl9 := k89 _ _ (Heap.get?_push_size _ rfl) nfS
    have hcl7 : D4 < h7.objs.size := by
      obtain ⟨o, e, c, n, d⟩ := hvc5
      exact Heap.lt_size (k67 _ _ (Heap.get?_push_of_some _ (Heap.get?_push_of_some _ e)) (.inl ⟨_, _, d⟩))
    have hr8 : h7.objs.size < h8.objs.size := Heap.lt_size hrl8
    have gn : ∀ {hh : Heap} {mm : Str → Option Value}, Fr s.heap L hh mm → ∀ b, hh.objs.size ≤ b → (gh [91, 144] s.heap).get? b = none := fun F b hb => gh_none (by
      cases q : s.heap.get? b with
      | none => rfl
      | some o => exact absurd (Nat.lt_of_lt_of_le (Heap.lt_size (F.keep _ _ q)) hb) (Nat.lt_irrefl _))
    have W9 : LW (gh [91, 144] s.heap) L D4 (h5.push { cls := .type "list", data := .seq [Value.str (Str.ofString "a host") tk4, Value.str (Str.ofString "Another") (tk4 + 1), Value.str (Str.ofString "") (tk4 + 1 + 1), Value.str (Str.ofString "::1") (tk4 + 1 + 1 + 1)].toArray }).objs.size h7.objs.size h8.objs.size host [] [] h9 _ _ :=
      { F := ⟨F9.ns, fun b o e => F9.keep _ _ (gh_sub _ _ e), Nat.le_trans (Nat.le_of_eq gh_size) F9.above⟩
        C := (C8.keeps fun b o e => Heap.get?_push_of_some _ e).sameBut S9 (Nat.le_refl _)
        cc := rfl
        cells := ⟨vc, nc, hcl9, hIc, hlc⟩
        pc := rfl
        peer := ⟨_, _, _, hpt9, rfl, _, rfl⟩
        pnew := gn (fr_up F5 (h' := h5.push _) fun b o e => Heap.get?_push_of_some _ e) _ (Nat.le_refl _)
        rc := rfl
        reps := ⟨[], ⟨_, hrl9⟩, .nil⟩
        dc := rfl
        dues := ⟨[], ⟨_, hdl9⟩, .nil⟩
        apart := ⟨Nat.ne_of_lt hr8, Nat.ne_of_lt hcl7, Nat.ne_of_lt (Nat.lt_trans hcl7 hr8), gn F7 _ (Nat.le_refl _), gn F8 _ (Nat.le_refl _)⟩
        txt := fun _ hx => nomatch hx
        t94 := ⟨#[], F9.keep _ _ h94, trivial, .inl rfl⟩
        t144 := ⟨#[], F9.keep _ _ h144, trivial, fun q hq => .inl rfl⟩ }
    clear kk hcl9 hpt7 hpt9 hrl8 hrl9 hdl9 hcl7 hr8 gn k78 k89 k67 S8 S9 hc8 S7 hc7 F9 F8 F7 C8 C7 hvc5 F5 C5 C5' hnum F2 C2
    generalize (h5.push { cls := .type "list", data := .seq [Value.str (Str.ofString "a host") tk4, Value.str (Str.ofString "Another") (tk4 + 1), Value.str (Str.ofString "") (tk4 + 1 + 1), Value.str (Str.ofString "::1") (tk4 + 1 + 1 + 1)].toArray }).objs.size = pt at *
    generalize h7.objs.size = rl at *
    generalize h8.objs.size = dl at *
    dsimp only
    refine wpC_execs_cons (wpC_forW (by with_unfolding_all passes_own) ?_)
    k_steps
    refine Halt.go ?_
    refine wpAny_newList ?_
    dsimp only at W9 ⊢
    have nl9 : (h9.push { cls := .type "list", data := .seq [Value.int 0 (tk4 + 1 + 1 + 1 + 1 + 1 + 1 + 1 + 1 + 1 + 1 + 1), Value.int 4 (tk4 + 1 + 1 + 1 + 1 + 1 + 1 + 1 + 1 + 1 + 1 + 1 + 1), Value.int 8 (tk4 + 1 + 1 + 1 + 1 + 1 + 1 + 1 + 1 + 1 + 1 + 1 + 1 + 1)].toArray }).get? h9.objs.size = some _ := Heap.get?_push_size h9 rfl
    have W10 := W9.push { cls := .type "list", data := .seq [Value.int 0 (tk4 + 1 + 1 + 1 + 1 + 1 + 1 + 1 + 1 + 1 + 1 + 1), Value.int 4 (tk4 + 1 + 1 + 1 + 1 + 1 + 1 + 1 + 1 + 1 + 1 + 1 + 1), Value.int 8 (tk4 + 1 + 1 + 1 + 1 + 1 + 1 + 1 + 1 + 1 + 1 + 1 + 1 + 1)].toArray }
    have hilr : rl < h9.objs.size ∧ dl < h9.objs.size := W9.lt
    generalize h9.push { cls := .type "list", data := .seq [Value.int 0 (tk4 + 1 + 1 + 1 + 1 + 1 + 1 + 1 + 1 + 1 + 1 + 1), Value.int 4 (tk4 + 1 + 1 + 1 + 1 + 1 + 1 + 1 + 1 + 1 + 1 + 1 + 1), Value.int 8 (tk4 + 1 + 1 + 1 + 1 + 1 + 1 + 1 + 1 + 1 + 1 + 1 + 1 + 1)].toArray } = h10 at *
    generalize h9.objs.size = il at *
    clear W9
    refine wpAny_pyIter_list ⟨_, nl9, rfl, _, rfl⟩ ?_
    have hit := Heap.get?_push_size h10 (o := { cls := .type "list_iterator", data := .fields #[.ref il, .int 0 0] }) rfl
    have W11 := W10.push { cls := .type "list_iterator", data := .fields #[.ref il, .int 0 0] }
    have nl11 := Heap.get?_push_of_some { cls := .type "list_iterator", data := .fields #[.ref il, .int 0 0] } nl9
    have hgIt := W10.new
    have hit2 : h10.objs.size ≠ 91 ∧ h10.objs.size ≠ 144 := W10.off
    have hitil : il ≠ h10.objs.size := Nat.ne_of_lt (Heap.lt_size nl9)
    generalize h10.push { cls := .type "list_iterator", data := .fields #[.ref il, .int 0 0] } = h11 at *
    generalize h10.objs.size = It at *
    clear W10 nl9
    refine ⟨3, J1 (gh [91, 144] s.heap) L D4 pt rl dl host It il s.os,
      ⟨_, _, [], W11, rfl, ⟨_, hit, rfl, rfl⟩, ⟨_, _, _, _, nl11, rfl, _, rfl⟩, hG, rfl, fun _ q => nomatch q⟩, fun v => rfl, ?_, ?_⟩
    · rintro i s1 hi ⟨m1, cm1, xs, W, hxl, hIt, ⟨t0, t4, t8, hIl⟩, hG1, hos1, hnum⟩
      obtain ⟨hp1, gs1, dr1, tk1, os1⟩ := s1
      dsimp only at W hIt hIl hG1 hos1
      obtain ⟨p, tp, hpx, hp0, hp8⟩ : ∃ (p : Int) (tp : Tok), (#[Value.int 0 t0, Value.int 4 t4, Value.int 8 t8] : Array Value)[i]? = some (.int p tp) ∧ 0 ≤ p ∧ p ≤ 8 := by
        rcases i with _ | _ | _ | i
        · exact ⟨_, _, rfl, by decide, by decide⟩
        · exact ⟨_, _, rfl, by decide, by decide⟩
        · exact ⟨_, _, rfl, by decide, by decide⟩
        · omega
      refine wpAny_pyNext_list_item hIt hIl hpx ?_
      intro h2 hIt2 S2
      dsimp only at S2
      refine ⟨_, rfl, ?_⟩
      have W2 : LW (gh [91, 144] s.heap) L D4 pt rl dl host xs xs h2 m1 cm1 := by
        obtain ⟨oi, ei, ci, di⟩ := hIt
        refine W.itSt S2 ei ?_ (fun _ _ q => by rw [di] at q; cases q) (fun _ _ q => by rw [di] at q; cases q) (fun _ q => by rw [di] at q; cases q) hgIt
        rintro (q | q | ⟨vs9, q9, t9, q, q2⟩)
        · rw [ci] at q; cases q
        · rw [ci] at q; exact absurd (Value.type.inj q) (by decide)
        · rw [di] at q; cases q; cases q2
      have hIl2 := hIl.extBut S2.extBut hitil
      clear W hIt S2
      refine q_stC W2.F W2.C (c := L + 2) rfl ?_
      intro h3 F3 C3 S3 hc3
      dsimp only at S3 hc3
      have W3 : LW (gh [91, 144] s.heap) L D4 pt rl dl host xs xs h3 m1 _ := W2.cellSt S3 hc3 F3 C3 rfl rfl rfl rfl
      have hIt3 : h3.IsListIter It il (i + 1) := by
        obtain ⟨oi, ei, ci, di⟩ := hIt2
        exact ⟨oi, same_cell S3 hc3 _ _ ei (.inr ⟨_, di⟩), ci, di⟩
      have hIl3 : h3.IsList il #[.int 0 t0, .int 4 t4, .int 8 t8] := by
        obtain ⟨oi, ei, ci, ni, di⟩ := hIl2
        exact ⟨oi, same_cell S3 hc3 _ _ ei (.inl ⟨_, _, di⟩), ci, ni, di⟩
      clear W2 hIt2 hIl2 S3 hc3
      obtain ⟨vcs, ncs, hcl, hIc, hlc⟩ := W3.cells
      refine wpC_execs_cons (ofAny ?_)
      k_steps
      have X3 := X.keeps W3.F.keep
      have T3 := Tp.keeps W3.F.keep
      walk_at "nm_glob"
      k_steps
      refine Halt.go ?_
      refine callWith_F ⟨_, _, _, _, X3 _ _ (by k_is)⟩ ?_
      k_steps
      refine Halt.go ?_
      refine q_cell C3 rfl W3.cc ?_
      k_steps
      walk_at "nm_cell"
      k_steps
      refine Halt.go ?_
      refine sub_ints hcl hIc hp0 (by rw [hlc]; omega) (by rw [hlc]; decide) ?_
      intro ta
      k_steps
      refine Halt.go ?_
      refine q_cell C3 rfl W3.cc ?_
      k_steps
      walk_at "nm_cell"
      k_steps
      refine Halt.go ?_
      refine sub_ints hcl hIc (by omega) (by rw [hlc]; omega) (by rw [hlc]; decide) ?_
      intro tb
      k_steps
      refine Halt.go ?_
      refine q_cell C3 rfl W3.cc ?_
      k_steps
      walk_at "nm_cell"
      k_steps
      refine Halt.go ?_
      refine sub_ints hcl hIc (by omega) (by rw [hlc]; omega) (by rw [hlc]; decide) ?_
      intro tc
      k_steps
      · exact Halt.go ⟨_, _, _, _, X3 _ _ (by k_is)⟩
      refine Halt.go ?_
      refine c_rest X3 T3 rfl (by dsimp only [Around.deeper]; rw [show recursionLimit = 1000 from rfl]; omega) (by dsimp only [Around.deeper]; rw [hcL]; omega) ?_
      intro tr h4 tk4' hk4
      generalize hone : ncs.getD p.toNat 0 = one
      generalize htwo : ncs.getD (p + 1).toNat 0 = two
      generalize hthree : ncs.getD (p + 2).toNat 0 = three
      clear hone htwo hthree
      dsimp only at hk4
      have W4 := W3.keeps hk4
      have hIt4 : h4.IsListIter It il (i + 1) := hIt3.at fun o e => hk4 _ _ e
      have hIl4 : h4.IsList il #[.int 0 t0, .int 4 t4, .int 8 t8] := hIl3.at fun o e => hk4 _ _ e
      clear W3 hIt3 hIl3 hk4 hcl hIc hlc X3 T3 F3 C3
      k_steps
      refine Halt.go ?_
      refine st_same W4.F rfl rfl fun h5 F5 S5 => ?_
      replace F5 : Fr _ L h5 _ := F5
      replace S5 : Heap.SameBut L h4 h5 := S5
      have W5 : LW (gh [91, 144] s.heap) L D4 pt rl dl host xs xs h5 _ _ := W4.locSt S5 F5 rfl
      have hIt5 : h5.IsListIter It il (i + 1) := by
        obtain ⟨oi, ei, ci, di⟩ := hIt4
        exact ⟨oi, same_loc S5 W4.F.ns _ _ ei (.inr ⟨_, di⟩), ci, di⟩
      have hIl5 : h5.IsList il #[.int 0 t0, .int 4 t4, .int 8 t8] := by
        obtain ⟨oi, ei, ci, ni, di⟩ := hIl4
        exact ⟨oi, same_loc S5 W4.F.ns _ _ ei (.inl ⟨_, _, di⟩), ci, ni, di⟩
      clear W4 hIt4 hIl4 S5 F5
      obtain ⟨vcs, ncs, hcl, hIc, hlc⟩ := W5.cells
      refine wpC_execs_cons (ofAny ?_)
      k_steps
      refine Halt.go ?_
      refine wpAny_newList ?_
      have nl6 := Heap.get?_push_size h5 (o := { cls := .type "list", data := .seq [Value.str (Str.ofString "229 ") (tk4' + 1), Value.str (Str.ofString "229-") (tk4' + 1 + 1), Value.str (Str.ofString "229") (tk4' + 1 + 1 + 1), Value.str (Str.ofString "227 ") (tk4' + 1 + 1 + 1 + 1)].toArray }) rfl
      have k56 : ∀ b o, h5.get? b = some o → (h5.push { cls := .type "list", data := .seq [Value.str (Str.ofString "229 ") (tk4' + 1), Value.str (Str.ofString "229-") (tk4' + 1 + 1), Value.str (Str.ofString "229") (tk4' + 1 + 1 + 1), Value.str (Str.ofString "227 ") (tk4' + 1 + 1 + 1 + 1)].toArray }).get? b = some o := fun b o e => Heap.get?_push_of_some _ e
      dsimp only
      generalize h5.objs.size = hl6 at *
      generalize h5.push { cls := .type "list", data := .seq [Value.str (Str.ofString "229 ") (tk4' + 1), Value.str (Str.ofString "229-") (tk4' + 1 + 1), Value.str (Str.ofString "229") (tk4' + 1 + 1 + 1), Value.str (Str.ofString "227 ") (tk4' + 1 + 1 + 1 + 1)].toArray } = h6 at *
      have W6 := W5.keeps k56
      have hIt6 : h6.IsListIter It il (i + 1) := hIt5.at fun o e => k56 _ _ e
      have hIl6 : h6.IsList il #[.int 0 t0, .int 4 t4, .int 8 t8] := hIl5.at fun o e => k56 _ _ e
      replace hcl : h6.IsList D4 vcs.toArray := hcl.at fun o e => k56 _ _ e
      clear W5 hIt5 hIl5 k56
      have C6 := W6.C
      k_steps
      refine Halt.go ?_
      refine q_cell C6 rfl W6.cc ?_
      k_steps
      walk_at "nm_cell"
      k_steps
      refine Halt.go ?_
      refine sub_ints hcl hIc (by omega) (by rw [hlc]; omega) (by rw [hlc]; decide) ?_
      intro td
      k_steps
      refine Halt.go ?_
      refine sub_strs (L := [Str.ofString "229 ", Str.ofString "229-", Str.ofString "229", Str.ofString "227 "]) 4 (items := [Value.str (Str.ofString "229 ") (tk4' + 1), Value.str (Str.ofString "229-") (tk4' + 1 + 1), Value.str (Str.ofString "229") (tk4' + 1 + 1 + 1), Value.str (Str.ofString "227 ") (tk4' + 1 + 1 + 1 + 1)]) ⟨_, nl6, rfl, _, rfl⟩ (.cons _ _ (.cons _ _ (.cons _ _ (.cons _ _ .nil)))) (Int.fmod_nonneg_of_pos _ (by decide)) (Int.fmod_lt_of_pos _ (by decide)) (by decide) (by decide) ?_
      intro head thd hhead hheadl
      have hhd : head ∈ [Str.ofString "229 ", Str.ofString "229-", Str.ofString "229", Str.ofString "227 "] := by
        have e1 : (((ncs.getD (p + 2).toNat 0).fdiv 256).fmod 4).toNat < 4 := by
          have := Int.fmod_lt_of_pos ((ncs.getD (p + 2).toNat 0).fdiv 256) (show (0 : Int) < 4 by decide)
          have := Int.fmod_nonneg_of_pos ((ncs.getD (p + 2).toNat 0).fdiv 256) (show (0 : Int) < 4 by decide)
          omega
        rw [hhead, List.getD_eq_getElem?_getD, List.getElem?_eq_getElem e1]
        exact List.getElem_mem _
      clear hhead nl6
      k_steps
      refine Halt.go ?_
      refine st_same W6.F rfl rfl fun h7 F7 S7 => ?_
      replace F7 : Fr _ L h7 _ := F7
      replace S7 : Heap.SameBut L h6 h7 := S7
      have W7 : LW (gh [91, 144] s.heap) L D4 pt rl dl host xs xs h7 _ _ := W6.locSt S7 F7 rfl
      have hIt7 : h7.IsListIter It il (i + 1) := by
        obtain ⟨oi, ei, ci, di⟩ := hIt6
        exact ⟨oi, same_loc S7 W6.F.ns _ _ ei (.inr ⟨_, di⟩), ci, di⟩
      have hIl7 : h7.IsList il #[.int 0 t0, .int 4 t4, .int 8 t8] := by
        obtain ⟨oi, ei, ci, ni, di⟩ := hIl6
        exact ⟨oi, same_loc S7 W6.F.ns _ _ ei (.inl ⟨_, _, di⟩), ci, ni, di⟩
      clear W6 hIt6 hIl6 S7 F7 hcl C6
      obtain ⟨vcs, ncs, hcl, hIc, hlc⟩ := W7.cells
      refine wpC_execs_cons (wpC_Assign_Name (ofAny ?_))
      refine lc_range3 rfl rfl (by decide) rfl (by decide) rfl ?_
      have F7 := W7.F
      obtain ⟨oc, hoc, hdc⟩ := W7.C.cell (Str.ofString "cells") (L + 3) rfl
      rw [W7.cc] at hdc
      obtain ⟨op, hop, hdp'⟩ := W7.C.cell (Str.ofString "place") (L + 2) rfl
      replace hdp' : op.data = .cell (some (.int p tp)) := hdp'
      k_steps
      walk_at "nm_blt"
      k_steps
      refine Halt.go ?_
      refine call_range_1 ?_
      k_steps
      refine Halt.go ?_
      have k78 : ∀ (o9 : Obj) b o, h7.get? b = some o → (h7.push o9).get? b = some o := fun _ b o e => Heap.get?_push_of_some _ e
      refine ⟨_, _, _, _, rfl, Heap.get?_push_size _ rfl, ?_, ?_⟩
      · intro C9 j t9 s9 m9 E' hj hC9 hn9 hm9 hk9
        dsimp only at hk9
        have hk79 : ∀ b o, h7.get? b = some o → s9.heap.get? b = some o := fun b o e => hk9 _ _ (k78 _ _ _ e)
        have hj3 : j = 0 ∨ j = 1 ∨ j = 2 := by omega
        have hgo : ∀ (x : Int) (t : Tok), ∃ d t', Value.int (x.fmod 3) t = Value.int d t' ∧ 0 ≤ d ∧ d ≤ 2 := fun x t => ⟨x.fmod 3, t, rfl, Int.fmod_nonneg_of_pos x (by decide), by
          have := Int.fmod_lt_of_pos x (show (0 : Int) < 3 by decide)
          omega⟩
        rcases hj3 with rfl | rfl | rfl
        all_goals
          k_steps
          refine Halt.go ?_
          refine cn_cell (hk79 _ _ hoc) hdc ?_
          k_steps
          refine Halt.go ?_
          refine cn_cell (hk79 _ _ hop) hdp' ?_
          k_steps
          refine Halt.go ?_
          refine sub_ints (hcl.at fun o e => hk79 _ _ e) hIc (by omega) (by rw [hlc]; omega) (by rw [hlc]; decide) ?_
          intro te
          k_steps
          refine Halt.go ?_
          refine cn_local hn9 hm9 ?_
          k_steps
          all_goals first | exact Halt.go (hgo _ _) | exact Halt.go ⟨_, _, rfl, fun _ _ e => e⟩
      · intro D8 h8 tk8 vds ds hD8 hpl8 hds8 hl8 hr8 hk8
        dsimp only at hk8 hD8
        have hk78 : ∀ b o, h7.get? b = some o → h8.get? b = some o := fun b o e => hk8 _ _ (k78 _ _ _ e)
        have hD87 : h7.get? D8 = none := by
          cases q : h7.get? D8 with
          | none => rfl
          | some o => rw [k78 _ _ _ q] at hD8; cases hD8
        have W8 := W7.keeps hk78
        have hIt8 : h8.IsListIter It il (i + 1) := hIt7.at fun o e => hk78 _ _ e
        have hIl8 : h8.IsList il #[.int 0 t0, .int 4 t4, .int 8 t8] := hIl7.at fun o e => hk78 _ _ e
        have hDrl1 : D8 ≠ rl := fun q => by
          obtain ⟨_, ⟨_, e⟩, _⟩ := W7.reps
          rw [← q, hD87] at e; cases e
        have hDrl2 : D8 ≠ dl := fun q => by
          obtain ⟨_, ⟨_, e⟩, _⟩ := W7.dues
          rw [← q, hD87] at e; cases e
        clear W7 hIt7 hIl7 hk78 hk8 hD8 hD87 k78 hoc hdc hop hdp' oc op F7 hcl hIc hlc
        k_steps
        refine Halt.go ?_
        refine q_stC W8.F W8.C (c := L + 5) rfl ?_
        intro h9' F9 C9 S9 hc9
        dsimp only at S9 hc9
        have W9 : LW (gh [91, 144] s.heap) L D4 pt rl dl host xs xs h9' _ _ := W8.cellSt S9 hc9 F9 C9 rfl rfl rfl rfl
        have hIt9 : h9'.IsListIter It il (i + 1) := by
          obtain ⟨oi, ei, ci, di⟩ := hIt8
          exact ⟨oi, same_cell S9 hc9 _ _ ei (.inr ⟨_, di⟩), ci, di⟩
        have hIl9 : h9'.IsList il #[.int 0 t0, .int 4 t4, .int 8 t8] := by
          obtain ⟨oi, ei, ci, ni, di⟩ := hIl8
          exact ⟨oi, same_cell S9 hc9 _ _ ei (.inl ⟨_, _, di⟩), ci, ni, di⟩
        have hpl9 : h9'.PlainList D8 vds.toArray := by
          obtain ⟨n9, e9⟩ := hpl8
          exact ⟨n9, same_cell S9 hc9 _ _ e9 nfS⟩
        clear W8 hIt8 hIl8 hpl8 S9 hc9
        have hg144 : (gh [91, 144] s.heap).get? 144 = none := hideAll_none _ (by decide)
        have hg94 : (gh [91, 144] s.heap).get? 91 = none := hideAll_none _ (by decide)
        refine wpC_execs_cons (wpC_Assign_Name (wpC_BinOp ?_))
        k_steps
        refine Halt.go ?_
        refine q_local W9.F rfl ?_
        refine wpC_Call_name ?_
        refine q_glob W9.F.keep X Tp (v := .ref 84) (by kernel_rfl) ?_
        refine wpC_callWith_fnP ?_
        walk1
        refine law_lam (pos := posA) (Tp.keeps W9.F.keep) W9 (hC146.keeps W9.F.keep) hg144 List.mem_cons_self (.inl rfl) (by rfl) (clos := [(Str.ofString "deeds", L + 5)]) (by rfl) rfl rfl rfl ?_
        intro fA cA pmA ctA h11 tkA hxA W11 hfA hzA hoA hrA _
        dsimp only at hxA hfA hzA
        have hIt11 : h11.IsListIter It il (i + 1) := hIt9.at fun o e => hxA _ _ hit2.2 e
        have hIl11 : h11.IsList il #[.int 0 t0, .int 4 t4, .int 8 t8] := by
          obtain ⟨o, e, c, n, d⟩ := hIl9
          exact ⟨o, hxA _ _ (fun q => by
            obtain ⟨_, e8, _⟩ := W9.t144
            rw [q, e8] at e; cases e; cases d) e, c, n, d⟩
        have F11 := W11.F
        k_steps
        walk_at "nm_blt"
        k_steps
        refine Halt.go ?_
        refine mk_range ?_
        intro r12 h12 tk12 u1 u2 u3 hr12 hk12 hn12 hz12
        dsimp only at hk12 hn12 hz12
        have W12 := W11.keeps hk12
        have hIt12 : h12.IsListIter It il (i + 1) := hIt11.at fun o e => hk12 _ _ e
        have hIl12 : h12.IsList il #[.int 0 t0, .int 4 t4, .int 8 t8] := hIl11.at fun o e => hk12 _ _ e
        k_steps
        refine Halt.go ?_
        refine q_local W12.F rfl ?_
        k_steps
        · exact Halt.go ⟨_, _, _, _, X.keeps W12.F.keep _ _ (by k_is)⟩
        have l94 : ∀ {hh : Heap} {mm cc : Str → Option Value} {ys : List Str}, LW (gh [91, 144] s.heap) L D4 pt rl dl host ys ys hh mm cc → 91 < hh.objs.size := fun W => let ⟨_, e, _⟩ := W.t94; Heap.lt_size e
        have hfA94 : fA ≠ 91 := Nat.ne_of_gt (Nat.lt_of_lt_of_le (l94 W9) hfA)
        have hr94 : r12 ≠ 91 := fun q => by
          obtain ⟨_, e, _⟩ := W11.t94
          rw [q, e] at hn12; cases hn12
        have hL94 : L ≠ 91 := fun q => by
          obtain ⟨_, e, _⟩ := W12.t94
          obtain ⟨o, _, _, e2, d2, _⟩ := W12.F.ns
          rw [q, e] at e2; cases e2; cases d2
        have hc94 : ∀ {c : Addr} {v : Option Value}, h12.IsCell c v → c ≠ 91 := fun ⟨o, e2, d2⟩ q => by
          obtain ⟨_, e, _⟩ := W12.t94
          rw [q, e] at e2; cases e2; cases d2
        have k1 : ∀ b o, b ≠ 91 → h12.get? b = some o → (gh [91] h12).get? b = some o := fun b o hb e => gh_get e fun hm => hb (List.mem_singleton.mp hm)
        have kg : ∀ b o, (gh [91, 144] s.heap).get? b = some o → (gh [91] h12).get? b = some o := fun b o e => k1 _ _ (fun q => by rw [q, hg94] at e; cases e) (W12.F.keep _ _ e)
        have Fg : Fr (gh [91, 144] s.heap) L (gh [91] h12) _ := ⟨W12.F.ns.at fun o e => k1 _ _ hL94 e, kg, W12.F.above⟩
        have hfo := k1 _ _ hfA94 (hk12 _ _ hoA)
        have hD12 : h12.PlainList D8 vds.toArray := by
          obtain ⟨n9, e9⟩ := hpl9
          exact ⟨n9, hk12 _ _ (hxA _ _ (fun q => by
            obtain ⟨_, e, _⟩ := W9.t144
            rw [q, e] at e9; cases e9) e9)⟩
        have hcd : h12.IsCell (L + 5) (some (.ref D8)) := W12.C.cell (Str.ofString "deeds") (L + 5) rfl
        refine c_reduce (T := [91]) (n := 3) (Val := fun i v _ => ∃ t, v = .str (layN ds (restS one two three) i) t) (P := fun i v => ∃ t, v = .int (i : Int) t) (Inv := fun h => TabG h 91 posJ) (pb := fun _ => False) (B := gh [91, 144] s.heap) (X.keeps kg) (Tp.keeps kg) hfo rfl W12.t94
          (fun h hT b hb => ?_) (fun h h' hT hk => hT.at fun o e => hk 91 (List.mem_singleton.mpr rfl) o e) (fun _ _ _ _ hv _ => hv) ?_ ⟨_, rfl⟩ (ISpec_range (k1 _ _ hr94 hr12))
          (lamA_spec (X.keeps kg) (Tp.keeps kg) (hC95.keeps kg) (hideAll_none _ (List.mem_singleton.mpr rfl)) hfo rfl (hrA.at (c := cA) fun o e => ?_) (let ⟨o, e, d⟩ := hcd; ⟨o, k1 _ _ (hc94 ⟨o, e, d⟩) e, d⟩) (let ⟨n, e⟩ := hD12; ⟨_, k1 _ _ ?_ e, rfl, n, rfl⟩) hds8 hl8 hr8 (lay_ok hl8 hr8) (by dsimp only [Around.deeper]; rw [hrL]; omega) (by dsimp only [Around.deeper]; rw [hcL]; omega))
          (pushX KB Fg rfl rfl) hG1 rfl (by dsimp only [Around.deeper]; rw [hrL]; omega) (by dsimp only [Around.deeper]; rw [hcL]; omega) ?_ ?_
        · obtain rfl := List.mem_singleton.mp hb
          obtain ⟨ps, e, _⟩ := hT
          exact ⟨ps, e⟩
        · intro A' s' Q' E' _ hq9
          exact is_str_ref hq9
        · obtain ⟨ps, e9, ht9, _⟩ := W11.t94
          exact k1 _ _ (tab_ne e9 ht9 hrA) (hk12 _ _ e)
        · intro q
          obtain ⟨_, e9, _⟩ := W12.t94
          rw [q, e9] at e; cases e
        · rintro v ⟨h13, gs13, dr13, tk13, os13⟩ ⟨tv, rfl⟩ hos13 hG13 hk13 hT13 hz13
          dsimp only at hos13 hG13 hk13 hT13 hz13
          have k2 : ∀ b o, b ≠ 91 → h12.get? b = some o → h13.get? b = some o := fun b o hb e => hk13 _ _ (k1 _ _ hb e)
          have W13 : LW (gh [91, 144] s.heap) L D4 pt rl dl host xs xs h13 _ _ := W12.move ⟨W12.F.ns.at fun o e => k2 _ _ hL94 e, fun b o e => hk13 _ _ (kg _ _ e), W12.F.above⟩ (cl_move W12.C fun c v hc => let ⟨o, e, d⟩ := hc; ⟨o, k2 _ _ (hc94 hc) e, d⟩) rfl rfl rfl rfl
            (fun b o e n => k2 _ _ (fun q => by
              obtain ⟨_, _, d⟩ := n
              obtain ⟨_, e9, _⟩ := W12.t94
              rw [q, e9] at e; cases e; cases d) e) hT13 (law_tab W12.t94 W12.t144 fun b o e _ _ hb => k2 _ _ hb e)
          have hIt13 : h13.IsListIter It il (i + 1) := hIt12.at fun o e => k2 _ _ hit2.1 e
          have hIl13 : h13.IsList il #[.int 0 t0, .int 4 t4, .int 8 t8] := by
            obtain ⟨o, e, c, n, d⟩ := hIl12
            exact ⟨o, k2 _ _ (fun q => by
              obtain ⟨_, e8, _⟩ := W12.t94
              rw [q, e8] at e; cases e; cases d) e, c, n, d⟩
          have hD13 : h13.PlainList D8 vds.toArray := by
            obtain ⟨n9, e9⟩ := hD12
            exact ⟨n9, k2 _ _ (fun q => by
              obtain ⟨_, e8, _⟩ := W12.t94
              rw [q, e8] at e9; cases e9) e9⟩
          clear W12 W11 W9 hIl12 hIl11 hIl9 hIt12 hIt11 hIt9 hD12 hpl9 hxA hoA hrA hfo hcd Fg kg k1 k2 hk13 hk12 hr12 hn12 hz12 hfA94 hr94 hc94 hfA hzA hT13 F11
          refine addS (a := 4) (b := 590) hheadl (lay_len590 hl8 hr8) (by decide) ?_
          intro reply trp tkr hreply hreplyl
          k_steps
          refine Halt.go ?_
          refine q_stC W13.F W13.C (c := L + 8) rfl ?_
          intro h14 F14 C14 S14 hc14
          dsimp only at S14 hc14
          have W14 : LW (gh [91, 144] s.heap) L D4 pt rl dl host xs xs h14 _ _ := W13.cellSt S14 hc14 F14 C14 rfl rfl rfl rfl
          have hIt14 : h14.IsListIter It il (i + 1) := by
            obtain ⟨oi, ei, ci, di⟩ := hIt13
            exact ⟨oi, same_cell S14 hc14 _ _ ei (.inr ⟨_, di⟩), ci, di⟩
          have hIl14 : h14.IsList il #[.int 0 t0, .int 4 t4, .int 8 t8] := by
            obtain ⟨oi, ei, ci, ni, di⟩ := hIl13
            exact ⟨oi, same_cell S14 hc14 _ _ ei (.inl ⟨_, _, di⟩), ci, ni, di⟩
          have hD14 : h14.PlainList D8 vds.toArray := by
            obtain ⟨n9, e9⟩ := hD13
            exact ⟨n9, same_cell S14 hc14 _ _ e9 nfS⟩
          clear W13 hIl13 hIt13 hD13 S14 hc14
          have F14 := W14.F
          have C14 := W14.C
          have X14 := X.keeps W14.F.keep
          have T14 := Tp.keeps W14.F.keep
          have hDl14 : h14.IsList D8 vds.toArray := hD14.isList
          refine wpC_execs_cons (ofAny ?_)
          k_steps
          walk_at "nm_cell"
          k_steps
          walk_at "nm_loc"
          k_steps
          walk_at "nm_glob"
          k_steps
          refine Halt.go ?_
          refine callWith_F ⟨_, _, _, _, X14 _ _ (by k_is)⟩ ?_
          k_steps
          walk_at "nm_glob"
          k_steps
          refine Halt.go ?_
          refine callWith_F ⟨_, _, _, _, X14 _ _ (by k_is)⟩ ?_
          k_steps
          walk_at "nm_glob"
          k_steps
          refine Halt.go ?_
          refine callWith_F ⟨_, _, _, _, X14 _ _ (by k_is)⟩ ?_
          k_steps
          walk_at "nm_loc"
          k_steps
          walk_at "nm_cell"
          k_steps
          refine Halt.go ?_
          obtain ⟨d0, d1, d2, rfl⟩ : ∃ d0 d1 d2, ds = [d0, d1, d2] := by
            match ds, hl8 with
            | [d0, d1, d2], _ => exact ⟨d0, d1, d2, rfl⟩
          have hlay := lay_ok (one := one) (two := two) (three := three) hl8 hr8
          have hd0 := hr8 d0 (by simp)
          have hd1 := hr8 d1 (by simp)
          have hd2 := hr8 d2 (by simp)
          refine sub_ints hDl14 hds8 (by decide) (by rw [hl8]; decide) (by rw [hl8]; decide) ?_
          intro tg
          k_steps
          · exact Halt.go ⟨_, _, _, _, X14 _ _ (by k_is)⟩
          refine Halt.go ?_
          refine c_laid X14 T14 (Nat.le_trans (hlay 0 (by decide)).2 (by decide)) hd0.1 hd0.2 rfl (by dsimp only [Around.deeper]; rw [hrL]; omega) (by dsimp only [Around.deeper]; rw [hcL]; omega) ?_
          intro t15 h15 tk15 hk15
          dsimp only at hk15
          have W15 := W14.keeps hk15
          have hIt15 : h15.IsListIter It il (i + 1) := hIt14.at fun o e => hk15 _ _ e
          have hIl15 : h15.IsList il #[.int 0 t0, .int 4 t4, .int 8 t8] := hIl14.at fun o e => hk15 _ _ e
          have hD15 : h15.PlainList D8 vds.toArray := hD14.at fun o e => hk15 _ _ e
          clear W14 hIl14 hIt14 hD14 hDl14 F14 C14 X14 T14
          have F15 := W15.F
          have C15 := W15.C
          k_steps
          walk_at "nm_cell"
          k_steps
          refine Halt.go ?_
          refine sub_ints hD15.isList hds8 (by decide) (by rw [hl8]; decide) (by rw [hl8]; decide) ?_
          intro tg2
          k_steps
          · exact Halt.go ⟨_, _, _, _, X.keeps W15.F.keep _ _ (by k_is)⟩
          refine Halt.go ?_
          refine c_laid (X.keeps W15.F.keep) (Tp.keeps W15.F.keep) (Nat.le_trans (hlay 1 (by decide)).2 (by decide)) hd1.1 hd1.2 rfl (by dsimp only [Around.deeper]; rw [hrL]; omega) (by dsimp only [Around.deeper]; rw [hcL]; omega) ?_
          intro t16 h16 tk16 hk16
          dsimp only at hk16
          have W16 := W15.keeps hk16
          have hIt16 : h16.IsListIter It il (i + 1) := hIt15.at fun o e => hk16 _ _ e
          have hIl16 : h16.IsList il #[.int 0 t0, .int 4 t4, .int 8 t8] := hIl15.at fun o e => hk16 _ _ e
          have hD16 : h16.PlainList D8 vds.toArray := hD15.at fun o e => hk16 _ _ e
          clear W15 hIl15 hIt15 hD15 F15 C15 hk15
          have F16 := W16.F
          have C16 := W16.C
          k_steps
          walk_at "nm_cell"
          k_steps
          refine Halt.go ?_
          refine sub_ints hD16.isList hds8 (by decide) (by rw [hl8]; decide) (by rw [hl8]; decide) ?_
          intro tg3
          k_steps
          · exact Halt.go ⟨_, _, _, _, X.keeps W16.F.keep _ _ (by k_is)⟩
          refine Halt.go ?_
          refine c_laid (X.keeps W16.F.keep) (Tp.keeps W16.F.keep) (Nat.le_trans (hlay 2 (by decide)).2 (by decide)) hd2.1 hd2.2 rfl (by dsimp only [Around.deeper]; rw [hrL]; omega) (by dsimp only [Around.deeper]; rw [hcL]; omega) ?_
          intro t17 h17 tk17 hk17
          dsimp only at hk17
          have W17 := W16.keeps hk17
          have hIt17 : h17.IsListIter It il (i + 1) := hIt16.at fun o e => hk17 _ _ e
          have hIl17 : h17.IsList il #[.int 0 t0, .int 4 t4, .int 8 t8] := hIl16.at fun o e => hk17 _ _ e
          have hD17 : h17.PlainList D8 vds.toArray := hD16.at fun o e => hk17 _ _ e
          clear W16 hIl16 hIt16 hD16 F16 C16 hk16
          have F17 := W17.F
          have C17 := W17.C
          k_steps
          refine addS (a := 4) (b := 590) hheadl (lay_len590 (one := one) (two := two) (three := three) hl8 hr8) (by decide) ?_
          intro again tag tkg hagain _
          k_steps
          · rename (_ != _) = true => q
            have hsame : reply = again := hreply.trans (show _ = again from hagain.symm)
            rw [hsame] at q
            simp at q
          have hrp := reply_ok (one := one) (two := two) (three := three) hl8 hr8 hhd
          have R38 := pc_rest one two three
          rw [← hreply] at hrp
          dsimp only
          refine law_tail1 rfl X Tp rfl hdp hun KB hC146 hg94 hg144 W17 hIt17 hIl17 hit2 hilr hD17 hDrl1 hDrl2 rfl rfl rfl rfl hds8 hl8 hr8 hrp.1 (Nat.le_trans hreplyl (by decide)) hrp.2 hheadl R38.len (fun c hc => by have := R38.sg c hc; unfold Sign at this; omega) hhl hnum hG13 (hos13.trans hos1) hxl hi ?_
          intro s' hJ
          exact hJ
        · rintro b e s' hb
          exact hb.elim
    · rintro ⟨hp1, gs1, dr1, tk1, os1⟩ ⟨m1, cm1, xs, W, hxl, hIt, ⟨t0, t4, t8, hIl⟩, hG1, hos1, hnum⟩
      dsimp only at W hIt hIl hG1 hos1
      refine wpAny_pyNext_list_end rfl hIt hIl rfl ?_
      intro h2 S2
      dsimp only at S2
      refine ⟨rfl, ?_⟩
      have W2 : LW (gh [91, 144] s.heap) L D4 pt rl dl host xs xs h2 m1 cm1 := by
        obtain ⟨oi, ei, ci, di⟩ := hIt
        refine W.itExt S2 ei ?_ (fun _ _ q => by rw [di] at q; cases q) (fun _ _ q => by rw [di] at q; cases q) (fun _ q => by rw [di] at q; cases q) hgIt
        rintro (q | q | ⟨vs9, q9, t9, q, q2⟩)
        · rw [ci] at q; cases q
        · rw [ci] at q; exact absurd (Value.type.inj q) (by decide)
        · rw [di] at q; cases q; cases q2
      dsimp only
      refine law_loop2 (s := { heap := h2, gens := gs1, drawn := dr1, toks := tk1, os := os1 }) (os0 := s.os) rfl X Tp rfl hdp hun KB hC146 (hideAll_none _ (by decide)) (hideAll_none _ (by decide)) W2 hxl hhl hnum hG1 hos1 ?hE ?_
      case hE => with_unfolding_all passes_own
      intro s' m' cm' W' hG' hos'
      refine h s' W'.F.keep ?_ ?_ hos' hG'
      · obtain ⟨ps, e, _⟩ := W'.t94; exact ⟨ps, e⟩
      · obtain ⟨ps, e, _⟩ := W'.t144; exact ⟨ps, e⟩
end
end Mine

end
section -- HE
theorem Mine.offHE : True ∧ True := by
  w_top off
  first | (walk1; all_goals trivial) | exact ⟨trivial, trivial⟩
namespace Mine
open PySem PySem.W PyProof.Rows PySem.Spec PySem.Calls
theorem said1 : Challenge.rw_oy0022_01.wellSaid = true := by
  unfold OpenLaw.wellSaid
  repeat' (first | with_reducible exact hd._proof_1 | with_reducible refine look_both ?_ ?_)
  all_goals decide +kernel
theorem hd2 (walk : WalkC hd.view_1 [Str.ofString "_initial_missing", Str.ofString "reduce", Str.ofString "_twin_re_1", Str.ofString "_find_unsafe"] (XL hd.view_1 []) (fun w h => (hd.heap_1 w.params).In h ∧ ∀ P ∈ [144], h.get? P = some (tabObj #[])) Challenge.rw_oy0022_01.row.toRowW) : Challenge.rw_oy0022_01.Holds := by
  exact holds_law said1 fun said => holdsC hd._proof_4 (Hook.of _) (Hook.keeps _) (fun s e => xl_of s (Bool.and_eq_true_iff.mp e).1) XL.keeps rfl rfl rfl (fun s e => recFacts_of (Bool.and_eq_true_iff.mp e).2) rfl said hd._proof_2 ⟨rfl, rfl, rfl, rfl, rfl, by decide +kernel⟩ ⟨_, hd._proof_5, hd._proof_6⟩ walk
theorem law_holds : Challenge.rw_oy0022_01.Holds := by
  refine hd2 ?_
  k_fill
  intro w s₀ s₁ mg mb G Y a hmg hg args vals as hpre hlay hrd hwl hlo
  obtain ⟨X, hT144⟩ := Y
  have T := G.T
  have hC146 : CodeHd s₁.heap 146 144 := codeHd_of_K X (by kernel_rfl)
  have hC95 : CodeHd s₁.heap 95 91 := codeHd_of_K X (by kernel_rfl)
  have h144 := hT144 144 (List.mem_singleton.mpr rfl)
  have h91 : s₁.heap.get? 91 = some (tabObj #[]) := by
    have hj : (recsOf hd.view_1).any (fun d => d.name == Str.ofString "join") = true := by decide +kernel
    obtain ⟨d, hd', hn⟩ := List.any_eq_true.mp hj
    have hn' : d.name = Str.ofString "join" := eq_of_beq hn
    obtain ⟨a, o, fd, c, P, q1, q2, q3, q4, q5, q6⟩ := T.tab d hd'
    rw [hn', mg_of X T.g (v := .ref 96) (by kernel_rfl)] at q1
    cases q1
    rw [X 96 _ (by k_is)] at q2
    cases q2
    cases q3
    have q4' : Value.ref 95 = .ref c := q4
    cases q4'
    obtain ⟨⟨o2, vs2, e2, _, d2, v2⟩, eP⟩ := q6
    obtain ⟨o3, vs3, _, _, _, _, _, _, _, e3, _, d3, v3, _⟩ := hC95
    rw [e2] at e3; cases e3
    rw [d2] at d3; cases d3
    rw [v2] at v3; cases v3
    exact eP
  have ha : a = 147 := by
    have := hmg.symm.trans (mg_of X T.g (v := .ref 147) (by kernel_rfl))
    cases this; rfl
  subst ha
  have hTabs : TabsAt [(95, 91), (146, 144)] s₁.heap := fun q hq => by
    rcases List.mem_cons.mp hq with rfl | hq
    · exact ⟨hC95, h91⟩
    · rw [List.mem_singleton.mp hq]; exact ⟨hC146, h144⟩
  wrow_args hpre hlay hrd hwl hlo
  rename Heap.IsList _ _ _ => hL
  rename IntsAre _ _ => hI
  rename ¬ _ < _ => hlen
  have Tg := ghost_top hTabs T
  have Xg := ghost_K hTabs X (by kernel_rfl)
  have hG : AllBare s₁.gens := .of_eq hg
  refine c_law (B := s₁.heap) Xg Tg rfl (by decide) (by decide) hL hI (by omega) h91 h144 (below_caller _) (codeHd_of_K Xg (by kernel_rfl)) (codeHd_of_K Xg (by kernel_rfl)) hG ?_
  intro s' hk g91 g144 hos hGs
  have keep : ∀ b o, b ∉ [91, 144] → s₁.heap.get? b = some o → s'.heap.get? b = some o := fun b o hb e => hk b o (hideAll_get _ e hb)
  have grown : ∀ b o, b ∈ [91, 144] → s₁.heap.get? b = some o → isCodeTable s₁.heap b ∧ o = tabObj #[] ∧ ∃ ps, s'.heap.get? b = some (tabObj ps) := fun b o hb e => by
    rcases List.mem_cons.mp hb with rfl | hb
    · rw [h91] at e; cases e
      exact ⟨(hC95.tab h91).isCodeTable, rfl, g91⟩
    · obtain rfl := List.mem_singleton.mp hb
      rw [h144] at e; cases e
      exact ⟨(hC146.tab h144).isCodeTable, rfl, g144⟩
  refine ⟨.inl ⟨.bool true, .bool true, [], rfl, ?_, .bool true, ?_, unshared_nil⟩, ⟨fun b o e => ?_, fun b o e => ?_⟩, hos, hGs⟩
  · exact fun cls => rfl
  · wrow_post
  · by_cases hb : b ∈ [91, 144]
    · obtain ⟨ht, rfl, ps, hP⟩ := grown b o hb e
      exact .inr (.inl ⟨ht, rfl, #[], ps, rfl, by rw [Array.empty_append]; exact hP⟩)
    · exact .inl (keep b o hb e)
  · by_cases hb : b ∈ [91, 144]
    · obtain ⟨_, _, ps, hP⟩ := grown b o hb e
      exact ⟨_, hP⟩
    · exact ⟨o, keep b o hb e⟩
end Mine

end
open PySem PySem.W PyProof.Rows
theorem PySem.Challenge.cw_oy0022_01_holds : PySem.Challenge.rw_oy0022_01.Holds :=
  Mine.law_holds

