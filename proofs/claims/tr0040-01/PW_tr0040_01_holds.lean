import PyProof.Rows.All
import Wide.All
import OpenK.AllK
import Wide.FinOn
import Lean
import PySem.Challenge.RW_tr0040_01
open PySem PySem.W PyProof.Rows PySem.Calls
set_option Elab.async false
set_option maxRecDepth 100000
set_option maxHeartbeats 8000000
set_option rowWalk.seconds 0
set_option compiler.extract_closed false
namespace Mine
-- part Hd
/-- the text without the names of its modules -/
noncomputable def view : Program := { PySem.Challenge.rw_tr0040_01.row.toRowW.prog with main := { PySem.Challenge.rw_tr0040_01.row.toRowW.prog.main with body := PySem.Challenge.rw_tr0040_01.row.toRowW.prog.main.body.filter fun st => match st with | .Assign .. => false | _ => true } }
local macro_rules | `(tactic| o_head $H) => `(tactic| (refine holds_open (q := Mine.view) (loose := []) (Xt := fun s => xlAt Mine.view [] s && recOk (RowW.records (PySem.Challenge.rw_tr0040_01.row.toRowW)) s) (XP := XL Mine.view []) (Yf := Hook.obs $H) (Ya := Hook.val $H) (YP := Hook.says $H) (N := 1982) ?hl (Hook.of $H) (Hook.keeps $H) (fun s e => xl_of s (Bool.and_eq_true_iff.mp e).1) XL.keeps (by rfl) (by rfl) (by rfl) (fun s e => recFacts_of (Bool.and_eq_true_iff.mp e).2) (by rfl) (by first | assumption | decide +kernel) (by decide +kernel) ⟨rfl, rfl, rfl, rfl, rfl, by decide +kernel⟩ ?hw ?hc; (case hl => intro w; kernel_rfl)))
open_top hd for PySem.Challenge.rw_tr0040_01

-- part M0
section
theorem fill0 (w : World) (h : Heap) : (hd.heap_39 w.params).In h → PySem.Challenge.rw_tr0040_01.row.prog = PySem.Challenge.rw_tr0040_01.row.prog := by
  k_fill
  intro _
  rfl

theorem enterF {prog : Program} {w : World} {A : Around} {s : Shared} {h₀ : Heap} {L : Addr} {m : Str → Option Value} {news : List (Addr × Obj)}
  {R : Result → Shared → Prop} {name qual : Str} {params : Arguments} {body : List Stmt} {scope : Scope} {cl : List (Str × Addr)} {dV kV doc pm cdv ct : Value} {an od : Option Addr} {oc : Value} {osl : Array (Option Value)} {K : Frag} {f : Addr} {args : Args} {binds : List (Str × Value)}
    (F : Fr h₀ L s.heap m) (N : News h₀ L s.heap news) (X : K.In h₀) (hlim : h₀.NoLimit)
    (ho : K.lookup f = some ⟨oc, od, .func (fnX name qual params body scope cl dV kV doc pm an cdv ct), osl⟩) (hcd : codeIn K cdv qual = true) (hroom : A.depth < recursionLimit)
    (hbind : BindsTo s (fnX name qual params body scope cl dV kV doc pm an cdv ct) args binds) (hloc : ∀ y ∈ binds, scope.names.lookup y.1 = some .local)
    (h : ∀ g L' h₁ tk, binds.length ≤ tk → Fr h₀ L g m → Fr g L' h₁ (fun y => binds.reverse.lookup y) → News g L' h₁ news → h₀.StaysIn g → (∀ p ∈ news, p.1 < L') →
      wpAny (model prog w) (A.deeper (envX qual scope L' f cdv cl)) (execs body (envX qual scope L' f cdv cl))
        (fun fl s' => LeaveK h₀ L m g R (match fl with | .ret v => v | _ => .none) s')
        (fun _ _ => False)
        { s with heap := h₁, toks := tk })
    (hcell : ∀ x ∈ scope.names, x.2 ≠ .cell) (hco : scope.isCoroutine = false := by rfl) (hgen : scope.isGenerator = false := by rfl) (hk : scope.kind = .function := by rfl) : codeAny (model prog w) A (.call (.ref f) args) R s := by
  have nm : ∀ b o, h₀.get? b = some o → b ∉ news.map (·.1) := fun b o e q => by
    obtain ⟨p, hp, rfl⟩ := List.mem_map.mp q
    rw [(N p hp).2.2] at e; cases e
  have st : h₀.StaysIn (hideAll s.heap (news.map (·.1))) := fun b o e => hideAll_get _ (F.keep b o e) (nm b o e)
  obtain ⟨oL, es, ep, hL, hLd, hLk, hLf⟩ := F.ns
  have nL : L ∉ news.map (·.1) := fun q => by
    obtain ⟨p, hp, e⟩ := List.mem_map.mp q
    exact (N p hp).2.1 e
  have hLg := hideAll_get (news.map (·.1)) hL nL
  refine codeAny_call_def (fd := fnX name qual params body scope cl dV kV doc pm an cdv ct) (body := body) (binds := binds) hroom (F.keep _ _ (X _ _ ho)) rfl (hlim.keeps F.keep) (codeRec_of (X.keeps F.keep) hcd) rfl hbind hcell hloc (fun h₁ hns hk₁ => ?_) hco hgen hk
  refine wpAny_mono (h _ s.heap.objs.size h₁ _ (Nat.le_add_left _ _) ⟨⟨oL, es, ep, hLg, hLd, hLk, hLf⟩, st, F.above⟩ ⟨hns, fun b o e => hk₁ b o (of_hideAll _ e), Nat.le_of_eq (hideAll_size _ _)⟩
    (fun p hp => ⟨hk₁ _ _ (N p hp).1, Nat.ne_of_lt (Heap.lt_size (N p hp).1), hideAll_none _ (List.mem_map_of_mem hp)⟩) st (fun p hp => Heap.lt_size (N p hp).1)) (fun fl s' hl => ?_) fun _ _ y => y.elim
  obtain ⟨L', m', news', F', N', k⟩ := hl
  refine k ⟨⟨oL, es, ep, F'.keep L oL hLg, hLd, hLk, hLf⟩, fun b o e => F'.keep b o (st b o e), F.above⟩ fun p hp => ⟨(N' p hp).1, fun q => ?_, ?_⟩
  · have := (N' p hp).2.2; rw [q, hLg] at this; cases this
  · cases q : h₀.get? p.1 with
    | none => rfl
    | some o => have := (N' p hp).2.2; rw [st _ _ q] at this; cases this

/-- the names that the top leaves free -/
noncomputable def LO : List Str := looseW view [] ++ List.map (fun x => x.name) (recsOf view) ++
        List.map (fun x => x.fst) (litsOf view) ++
      List.map (fun x => x.name) (clssOf view (looseW view []))
/-- what a base knows of the top -/
structure GD (w : World) (mean : ExcName → Option Value) (mg mb : Str → Option Value) (h : Heap) : Prop where
  X : (hd.heap_39 w.params).In h
  T : Top topProg LO mean mg mb h
theorem GD.keeps {w : World} {mean : ExcName → Option Value} {mg mb : Str → Option Value} {h h' : Heap} (G : GD w mean mg mb h) (k : h.StaysIn h') : GD w mean mg mb h' := ⟨G.X.keeps k, G.T.keeps k⟩
/-- room for n more calls -/
structure AOk (A : Around) (n : Nat) : Prop where
  hh : A.handled = none
  hd : A.depth + 2 * n < recursionLimit
  hu : A.units + 20 * n < cLine
theorem AOk.deeper {A : Around} {n : Nat} (a : AOk A (n + 1)) (env : Env) : AOk (A.deeper env) n := ⟨a.hh, by have := a.hd; simp only [depth_deeper]; omega, by have := a.hu; simp only [units_deeper]; omega⟩
theorem AOk.le {A : Around} {n k : Nat} (a : AOk A n) (h : k ≤ n) : AOk A k := ⟨a.hh, by have := a.hd; omega, by have := a.hu; omega⟩
/-- what a call hands back: the ledger with a tail more -/
abbrev Back (h₀ : Heap) (L : Addr) (m : Str → Option Value) (news : List (Addr × Obj)) (s : Shared) (P : List (Addr × Obj) → Value → Prop) (Q : Value → Shared → Prop) : Prop :=
  ∀ (v : Value) (tl : List (Addr × Obj)) (h' : Heap) (tk : Nat), Fr h₀ L h' m → News h₀ L h' (tl ++ news) → P (tl ++ news) v → Q v { s with heap := h', toks := tk }
theorem try_quiet {M : Model} {A : Around} {s : Shared} {body orelse : List Stmt} {hs : List ExceptHandler} {pos : Pos} {env : Env} {Q : Flow → Shared → Prop} {E : Value → Shared → Prop}
    (h : wpAny M A (execs body env) (fun f s' => match f with | .next => wpAny M A (execs orelse env) Q E s' | f => Q f s') (fun _ _ => False) s) :
    wpAny M A (exec (.Try body hs orelse [] pos) env) Q E s := by
  show wpAny M A (standAt pos >>= fun _ => tryStmt false (execs body env) hs (execs orelse env) [] env) Q E s
  refine wpAny_bind (wpAny_standAt ?_)
  simp only [tryStmt]
  refine wpAny_bind (wpAny_attempt (wpAny_mono h (fun f s' hf => ?_) fun _ _ x => x.elim))
  cases f with
  | next => exact hf
  | brk => exact wpAny_pure hf
  | cont => exact wpAny_pure hf
  | ret v => exact wpAny_pure hf
end

local macro_rules | `(tactic| walk_at "mine step") => `(tactic| first | walk1 | (dsimp only; walk1))
local macro_rules | `(tactic| walk_at "mine steps") => `(tactic| repeat' (walk_at "mine step"))
local macro_rules | `(tactic| walk_at "exec Try") => `(tactic| refine try_quiet ?_)
local macro_rules | `(tactic| walk_at "mine sides") => `(tactic| ((case k1 => k_is); (case k3 => k_is); (case k5 => exact BindsTo.of_eq rfl); (case k6 => exact locs rfl); (case k7 => decide); (case k8 => rfl); (case k9 => rfl); (case k10 => rfl)))
local macro_rules | `(tactic| walk_at "mine sidesC") => `(tactic| ((case k1 => k_is); (case k3 => k_is); (case k5 => exact BindsTo.of_eq rfl); (case k6 => rfl); (case k11 => decide); (case k7 => rfl); (case k8 => rfl); (case k9 => rfl)))
-- part L0
section
/-- a text by its signs -/
def S (l : List Nat) : Str := ⟨l.toArray⟩
theorem S_length (l : List Nat) : (S l).length = l.length := by simp [S, Str.length]
theorem S_inj {a b : List Nat} (h : S a = S b) : a = b := by
  have : a.toArray = b.toArray := congrArg Str.cps h
  simpa using this
theorem S_of (x : Str) : x = S x.cps.toList := by
  cases x with
  | mk c => simp [S]
/-- a table of spellings -/
abbrev Tab := List (Nat × List Nat)
def spl (tab : Tab) (a : Nat) : List Nat := (tab.lookup a).getD [a]
/-- a text spelled sign by sign -/
def sp (tab : Tab) (l : List Nat) : List Nat := l.flatMap (spl tab)
def rp (c : Nat) (r l : List Nat) : List Nat := l.flatMap fun a => if a = c then r else [a]
theorem rp_append (c : Nat) (r a b : List Nat) : rp c r (a ++ b) = rp c r a ++ rp c r b := by simp [rp]
theorem rp_free (c : Nat) (r : List Nat) : ∀ l : List Nat, c ∉ l → rp c r l = l
  | [], _ => rfl
  | k :: t, h => by
    have h1 : ¬ k = c := fun e => h (e ▸ List.mem_cons_self ..)
    have h2 : c ∉ t := fun m => h (List.mem_cons_of_mem _ m)
    have ih := rp_free c r t h2
    unfold rp at ih ⊢
    rw [List.flatMap_cons, if_neg h1, ih]; rfl
theorem rp_one (c : Nat) (r : List Nat) : rp c r [c] = r := by simp [rp]
theorem lookup_snoc (tab : Tab) (c : Nat) (r : List Nat) (a : Nat) : (tab ++ [(c, r)]).lookup a = (tab.lookup a).or (if a = c then some r else none) := by
  induction tab with
  | nil =>
    by_cases h : a = c
    · simp [List.lookup, h]
    · have : (a == c) = false := by simpa using h
      simp [List.lookup, this, h]
  | cons p t ih =>
    obtain ⟨b, s⟩ := p
    by_cases h : a = b
    · subst h; simp [List.lookup]
    · have : (a == b) = false := by simpa using h
      simp [List.lookup, this, ih]
theorem rp_sp (tab : Tab) (c : Nat) (r : List Nat) (hk : tab.lookup c = none) (hv : ∀ p ∈ tab, c ∉ p.2) (l : List Nat) : rp c r (sp tab l) = sp (tab ++ [(c, r)]) l := by
  induction l with
  | nil => rfl
  | cons a t ih =>
    have e1 : sp tab (a :: t) = spl tab a ++ sp tab t := by simp [sp]
    have e2 : sp (tab ++ [(c, r)]) (a :: t) = spl (tab ++ [(c, r)]) a ++ sp (tab ++ [(c, r)]) t := by simp [sp]
    rw [e1, e2, rp_append, ih]
    congr 1
    unfold spl
    rw [lookup_snoc]
    cases h : tab.lookup a with
    | some s =>
      have hm : (a, s) ∈ tab := by
        clear e1 e2 ih hk hv
        induction tab with
        | nil => cases h
        | cons p u ih2 =>
          obtain ⟨b, q⟩ := p
          rw [List.lookup_cons] at h
          by_cases hb : a = b
          · subst hb; simp at h; subst h; exact .head _
          · have : (a == b) = false := by simpa using hb
            rw [this] at h
            exact .tail _ (ih2 h)
      simp only [Option.getD_some, Option.some_or]
      exact rp_free c r s (hv _ hm)
    | none =>
      simp only [Option.getD_none, Option.none_or]
      by_cases hc : a = c
      · subst hc; simp [rp]
      · simp [rp, hc]
theorem sp_nil (l : List Nat) : sp [] l = l := by
  induction l with
  | nil => rfl
  | cons a t ih => simp only [sp, List.flatMap_cons] at ih ⊢; rw [ih]; rfl
theorem spl_length {tab : Tab} {k : Nat} (hk : 1 ≤ k) (h : ∀ p ∈ tab, p.2.length ≤ k) (a : Nat) : (spl tab a).length ≤ k := by
  unfold spl
  cases e : tab.lookup a with
  | none => simpa using hk
  | some s =>
    have hm : (a, s) ∈ tab := by
      induction tab with
      | nil => cases e
      | cons p u ih2 =>
        obtain ⟨b, q⟩ := p
        rw [List.lookup_cons] at e
        by_cases hb : a = b
        · subst hb; simp at e; subst e; exact .head _
        · have : (a == b) = false := by simpa using hb
          rw [this] at e
          exact .tail _ (ih2 (fun p hp => h p (.tail _ hp)) e)
    exact h _ hm
theorem sp_length {tab : Tab} {k : Nat} (hk : 1 ≤ k) (h : ∀ p ∈ tab, p.2.length ≤ k) (l : List Nat) : (sp tab l).length ≤ k * l.length := by
  induction l with
  | nil => simp [sp]
  | cons a t ih =>
    have e1 : sp tab (a :: t) = spl tab a ++ sp tab t := by simp [sp]
    rw [e1, List.length_append, List.length_cons, Nat.mul_succ]
    have := spl_length hk h a
    omega
/-- the five escapes' tables -/
def T0 : Tab := [(38, [38, 97, 109, 112, 59]), (60, [38, 108, 116, 59]), (62, [38, 103, 116, 59])]
def T1 : Tab := [(38, [38, 97, 109, 112, 59]), (60, [38, 108, 116, 59]), (62, [38, 103, 116, 59]), (13, [38, 35, 120, 68, 59])]
def T2 : Tab := [(38, [38, 97, 109, 112, 59]), (60, [38, 108, 116, 59]), (62, [38, 103, 116, 59]), (34, [38, 113, 117, 111, 116, 59]), (13, [38, 35, 49, 51, 59]), (10, [38, 35, 49, 48, 59]), (9, [38, 35, 48, 57, 59])]
def T3 : Tab := [(38, [38, 97, 109, 112, 59]), (62, [38, 103, 116, 59]), (34, [38, 113, 117, 111, 116, 59])]
/-- the last escape's own order: as it replaces -/
def T4r : Tab := [(38, [38, 97, 109, 112, 59]), (60, [38, 108, 116, 59]), (34, [38, 113, 117, 111, 116, 59]), (9, [38, 35, 120, 57, 59]), (10, [38, 35, 120, 65, 59]), (13, [38, 35, 120, 68, 59])]
/-- .. as the law's table has it -/
def T4 : Tab := [(38, [38, 97, 109, 112, 59]), (60, [38, 108, 116, 59]), (34, [38, 113, 117, 111, 116, 59]), (13, [38, 35, 120, 68, 59]), (10, [38, 35, 120, 65, 59]), (9, [38, 35, 120, 57, 59])]
theorem spl_T4 (a : Nat) : spl T4r a = spl T4 a := by
  unfold spl T4r T4
  simp only [List.lookup]
  by_cases h1 : a = 38
  · subst h1; rfl
  by_cases h2 : a = 60
  · subst h2; rfl
  by_cases h3 : a = 34
  · subst h3; rfl
  by_cases h4 : a = 9
  · subst h4; rfl
  by_cases h5 : a = 10
  · subst h5; rfl
  by_cases h6 : a = 13
  · subst h6; rfl
  have e1 : (a == 38) = false := by simpa using h1
  have e2 : (a == 60) = false := by simpa using h2
  have e3 : (a == 34) = false := by simpa using h3
  have e4 : (a == 9) = false := by simpa using h4
  have e5 : (a == 10) = false := by simpa using h5
  have e6 : (a == 13) = false := by simpa using h6
  simp only [e1, e2, e3, e4, e5, e6]
theorem sp_T4 (l : List Nat) : sp T4r l = sp T4 l := by
  unfold sp
  congr 1
  funext a
  exact spl_T4 a
/-- a unit: escaped or not, its sign (none: the backslash at the end) -/
abbrev U := Bool × List Nat
def splS (tab : Tab) : List Nat → List Nat
  | [c] => spl tab c
  | s => s
def wrU (tab : Tab) (u : U) : List Nat := (if u.1 then [92] else []) ++ splS tab u.2
def written (us : List U) (tab : Tab) : List Nat := us.flatMap (wrU tab)
theorem written_append (a b : List U) (tab : Tab) : written (a ++ b) tab = written a tab ++ written b tab := by simp [written]
theorem written_take_succ (us : List U) (tab : Tab) (i : Nat) (u : U) (h : us[i]? = some u) : written (us.take (i + 1)) tab = written (us.take i) tab ++ wrU tab u := by
  rw [List.take_add_one, h, written_append]
  simp [written]
/-- units as they are made: one sign or none -/
def Uok (u : U) : Prop := u.2.length ≤ 1
theorem wrU_length {tab : Tab} (h : ∀ p ∈ tab, p.2.length ≤ 14) {u : U} (hu : Uok u) : (wrU tab u).length ≤ 15 := by
  obtain ⟨e, s⟩ := u
  unfold wrU
  have h1 : (if e = true then [92] else ([] : List Nat)).length ≤ 1 := by cases e <;> simp
  have h2 : (splS tab s).length ≤ 14 := by
    match s, hu with
    | [], _ => simp [splS]
    | [c], _ => exact spl_length (by omega) h c
  rw [List.length_append]
  simp only at h1 ⊢
  omega
theorem written_length {tab : Tab} (h : ∀ p ∈ tab, p.2.length ≤ 14) : ∀ {us : List U}, (∀ u ∈ us, Uok u) → (written us tab).length ≤ 15 * us.length
  | [], _ => by simp [written]
  | u :: r, hu => by
    have ih := written_length h (us := r) fun x hx => hu x (.tail _ hx)
    have h1 := wrU_length h (hu u (.head _))
    have e : written (u :: r) tab = wrU tab u ++ written r tab := by simp [written]
    rw [e, List.length_append, List.length_cons]
    omega
/-- is the place behind an odd run of backslashes -/
def escAt (l : List Nat) : Nat → Bool
  | 0 => false
  | i + 1 => (l.getD i 0 == 92) && !escAt l i
/-- the units of the first i places -/
def upTo (l : List Nat) : Nat → List U
  | 0 => []
  | i + 1 => upTo l i ++ (if l.getD i 0 ≠ 92 ∨ escAt l i = true then [(escAt l i, [l.getD i 0])] else if i + 1 = l.length then [(true, [])] else [])
def unitsOf (l : List Nat) : List U := upTo l l.length
theorem upTo_ok (l : List Nat) : ∀ i, ∀ u ∈ upTo l i, Uok u
  | 0, _, h => nomatch h
  | i + 1, u, h => by
    unfold upTo at h
    rcases List.mem_append.mp h with h | h
    · exact upTo_ok l i u h
    · split at h
      · rw [List.mem_singleton.mp h]; simp [Uok]
      · split at h
        · rw [List.mem_singleton.mp h]; simp [Uok]
        · cases h
theorem upTo_length (l : List Nat) : ∀ i, (upTo l i).length ≤ i
  | 0 => by simp [upTo]
  | i + 1 => by
    have ih := upTo_length l i
    unfold upTo
    rw [List.length_append]
    split
    · simp; omega
    · split
      · simp; omega
      · simp; omega
theorem esc_run (l : List Nat) (i : Nat) : ∀ n, n ≤ i → (∀ j, j < n → l.getD (i - j - 1) 0 = 92) → escAt l i = (decide (n % 2 = 1) ^^ escAt l (i - n))
  | 0, _, _ => by simp
  | n + 1, hn, h => by
    have ih := esc_run l i n (by omega) fun j hj => h j (by omega)
    have e : i - n = (i - (n + 1)) + 1 := by omega
    have h1 := h n (by omega)
    rw [show i - n - 1 = i - (n + 1) by omega] at h1
    rw [ih, e]
    show (decide (n % 2 = 1) ^^ ((l.getD (i - (n + 1)) 0 == 92) && !escAt l (i - (n + 1)))) = _
    rw [h1]
    have hp : decide ((n + 1) % 2 = 1) = !decide (n % 2 = 1) := by
      by_cases hq : n % 2 = 1
      · have : ¬ ((n + 1) % 2 = 1) := by omega
        simp [hq, this]
      · have : (n + 1) % 2 = 1 := by omega
        simp [hq, this]
    rw [hp]
    cases decide (n % 2 = 1) <;> cases escAt l (i - (n + 1)) <;> rfl
theorem esc_of (l : List Nat) (i : Nat) (k : Int) (a1 : 0 ≤ k) (a2 : k ≤ max 0 (0 + (i : Int) * 1))
    (a3 : ∀ j : Int, 0 ≤ j → j < k → (if j < 0 + (i : Int) * 1 then (if [l.getD (0 + (i : Int) * 1 - j - 1).toNat 0] = [92] then true else false) else false) = true)
    (a4 : (if k < 0 + (i : Int) * 1 then (if [l.getD (0 + (i : Int) * 1 - k - 1).toNat 0] = [92] then true else false) else false) = false) : escAt l i = (k.fmod 2 == 1) := by
  have hk : k = (k.toNat : Int) := by omega
  have hle : k.toNat ≤ i := by omega
  have h3 : ∀ j, j < k.toNat → l.getD (i - j - 1) 0 = 92 := fun j hj => by
    have := a3 j (by omega) (by omega)
    split at this
    · split at this
      · rename_i h
        have e : (0 + (i : Int) * 1 - (j : Int) - 1).toNat = i - j - 1 := by omega
        rw [e] at h
        injection h
      · cases this
    · cases this
  rw [esc_run l i k.toNat hle h3]
  have h4 : escAt l (i - k.toNat) = false := by
    by_cases hi : k.toNat = i
    · rw [hi, Nat.sub_self]; rfl
    · have hlt : k < 0 + (i : Int) * 1 := by omega
      rw [if_pos hlt] at a4
      have e : (0 + (i : Int) * 1 - k - 1).toNat = i - k.toNat - 1 := by omega
      rw [e] at a4
      have hne : ¬ (l.getD (i - k.toNat - 1) 0 = 92) := fun q => by rw [q] at a4; simp at a4
      have e2 : i - k.toNat = (i - k.toNat - 1) + 1 := by omega
      rw [e2]
      show ((l.getD (i - k.toNat - 1) 0 == 92) && _) = false
      have : (l.getD (i - k.toNat - 1) 0 == 92) = false := by simpa using hne
      rw [this]; rfl
  rw [h4, Bool.xor_false]
  have e : k.fmod 2 = ((k.toNat % 2 : Nat) : Int) := by
    rw [Int.fmod_eq_emod_of_nonneg _ (by omega)]; omega
  rw [e, Bool.eq_iff_iff]
  simp only [decide_eq_true_eq, beq_iff_eq]
  omega
end

-- part L1
section
/-- inside of marks: the word and how many signs it takes -/
def inQ : List Nat → List Nat × Nat
  | [] => ([], 0)
  | 34 :: _ => ([], 1)
  | [92] => ([], 1)
  | 92 :: d :: r => (d :: (inQ r).1, (inQ r).2 + 2)
  | c :: r => (c :: (inQ r).1, (inQ r).2 + 1)
def white (c : Nat) : Bool := c == 10 || c == 9 || c == 13 || c == 32
/-- inside of a bare word -/
def inW : List Nat → List Nat × Nat
  | [] => ([], 0)
  | [92] => ([], 1)
  | 92 :: d :: r => (d :: (inW r).1, (inW r).2 + 2)
  | c :: r => if white c then ([], 1) else (c :: (inW r).1, (inW r).2 + 1)
/-- the next word of the lexer, and how many signs it takes -/
def tok : List Nat → List Nat × Nat
  | [] => ([], 0)
  | [92] => ([], 1)
  | 92 :: d :: r => (d :: (inW r).1, (inW r).2 + 2)
  | 34 :: r => ((inQ r).1, (inQ r).2 + 1)
  | c :: r => if white c then ((tok r).1, (tok r).2 + 1) else (c :: (inW r).1, (inW r).2 + 1)
theorem inQ_other {c : Nat} (h : c ≠ 34) (h' : c ≠ 92) (r : List Nat) : inQ (c :: r) = (c :: (inQ r).1, (inQ r).2 + 1) := by
  rw [inQ]
  · exact h
  · rintro rfl; exact absurd rfl h'
  · rintro _ _ rfl; exact absurd rfl h'
theorem inW_other {c : Nat} (h' : c ≠ 92) (r : List Nat) : inW (c :: r) = if white c then ([], 1) else (c :: (inW r).1, (inW r).2 + 1) := by
  rw [inW]
  · rintro rfl; exact absurd rfl h'
  · rintro _ _ rfl; exact absurd rfl h'
theorem tok_other {c : Nat} (h : c ≠ 34) (h' : c ≠ 92) (r : List Nat) : tok (c :: r) = if white c then ((tok r).1, (tok r).2 + 1) else (c :: (inW r).1, (inW r).2 + 1) := by
  rw [tok]
  · rintro rfl; exact absurd rfl h'
  · rintro _ _ rfl; exact absurd rfl h'
  · exact h
theorem esc_step {f : List Nat → List Nat × Nat} (h0 : f [] = ([], 0)) (h1 : f [92] = ([], 1)) (h2 : ∀ d r, f (92 :: d :: r) = (d :: (f r).1, (f r).2 + 2)) {l acc rw : List Nat} {j rp : Nat} (hlt : j < l.length) (hc : l[j] = 92)
    (e1 : acc ++ (f (l.drop j)).1 = rw) (e2 : j + (f (l.drop j)).2 = rp) :
    (acc ++ (l.drop (j + 1)).take 1) ++ (f (l.drop (min l.length (j + 1 + 1)))).1 = rw ∧ min l.length (j + 1 + 1) + (f (l.drop (min l.length (j + 1 + 1)))).2 = rp := by
  have ed : l.drop j = 92 :: l.drop (j + 1) := by rw [List.drop_eq_getElem_cons hlt, hc]
  by_cases h : j + 1 < l.length
  · have ed2 : l.drop (j + 1) = l[j + 1] :: l.drop (j + 2) := List.drop_eq_getElem_cons h
    have e5 : (l.drop (j + 1)).take 1 = [l[j + 1]] := by rw [ed2]; rfl
    rw [show min l.length (j + 1 + 1) = j + 2 by omega, e5]
    rw [ed, ed2, h2] at e1 e2
    refine ⟨by simpa using e1, by dsimp only at e2; omega⟩
  · have e3 : l.drop (j + 1) = [] := List.drop_eq_nil_of_le (by omega)
    have e4 : l.drop (min l.length (j + 1 + 1)) = [] := List.drop_eq_nil_of_le (by omega)
    rw [e3, e4, h0]
    rw [ed, e3, h1] at e1 e2
    refine ⟨by simpa using e1, by dsimp only at e2 ⊢; omega⟩
theorem tok_esc {l rw : List Nat} {j rp : Nat} (hlt : j < l.length) (hc : l[j] = 92)
    (e1 : [] ++ (tok (l.drop j)).1 = rw) (e2 : j + (tok (l.drop j)).2 = rp) :
    ([] ++ (l.drop (j + 1)).take 1) ++ (inW (l.drop (min l.length (j + 1 + 1)))).1 = rw ∧ min l.length (j + 1 + 1) + (inW (l.drop (min l.length (j + 1 + 1)))).2 = rp := by
  have ed : l.drop j = 92 :: l.drop (j + 1) := by rw [List.drop_eq_getElem_cons hlt, hc]
  by_cases h : j + 1 < l.length
  · have ed2 : l.drop (j + 1) = l[j + 1] :: l.drop (j + 2) := List.drop_eq_getElem_cons h
    have e5 : (l.drop (j + 1)).take 1 = [l[j + 1]] := by rw [ed2]; rfl
    rw [show min l.length (j + 1 + 1) = j + 2 by omega, e5]
    rw [ed, ed2, tok] at e1 e2
    refine ⟨by simpa using e1, by dsimp only at e2; omega⟩
  · have e3 : l.drop (j + 1) = [] := List.drop_eq_nil_of_le (by omega)
    have e4 : l.drop (min l.length (j + 1 + 1)) = [] := List.drop_eq_nil_of_le (by omega)
    rw [e3, e4, inW]
    rw [ed, e3, tok] at e1 e2
    refine ⟨by simpa using e1, by dsimp only at e2 ⊢; omega⟩
theorem inQ_mark {l : List Nat} {j rp : Nat} {acc rw : List Nat} (hlt : j < l.length) (hc : l[j] = 34) (e1 : acc ++ (inQ (l.drop j)).1 = rw) (e2 : j + (inQ (l.drop j)).2 = rp) : acc = rw ∧ j + 1 = rp := by
  rw [List.drop_eq_getElem_cons hlt, hc, inQ] at e1 e2
  exact ⟨by simpa using e1, e2⟩
theorem inW_white {l : List Nat} {j rp : Nat} {acc rw : List Nat} (hlt : j < l.length) (hc : white l[j] = true) (e1 : acc ++ (inW (l.drop j)).1 = rw) (e2 : j + (inW (l.drop j)).2 = rp) : acc = rw ∧ j + 1 = rp := by
  have h92 : l[j] ≠ 92 := fun q => by rw [q] at hc; cases hc
  rw [List.drop_eq_getElem_cons hlt, inW_other h92, if_pos hc] at e1 e2
  exact ⟨by simpa using e1, e2⟩
theorem inQ_step {l : List Nat} {j rp : Nat} {acc rw : List Nat} (hlt : j < l.length) (hc : l[j] ≠ 34) (hc' : l[j] ≠ 92) (e1 : acc ++ (inQ (l.drop j)).1 = rw) (e2 : j + (inQ (l.drop j)).2 = rp) :
    (acc ++ [l[j]]) ++ (inQ (l.drop (j + 1))).1 = rw ∧ j + 1 + (inQ (l.drop (j + 1))).2 = rp := by
  rw [List.drop_eq_getElem_cons hlt, inQ_other hc hc'] at e1 e2
  exact ⟨by simpa using e1, by dsimp only at e2; omega⟩
theorem inW_step {l : List Nat} {j rp : Nat} {acc rw : List Nat} (hlt : j < l.length) (hc : white l[j] = false) (hc' : l[j] ≠ 92) (e1 : acc ++ (inW (l.drop j)).1 = rw) (e2 : j + (inW (l.drop j)).2 = rp) :
    (acc ++ [l[j]]) ++ (inW (l.drop (j + 1))).1 = rw ∧ j + 1 + (inW (l.drop (j + 1))).2 = rp := by
  rw [List.drop_eq_getElem_cons hlt, inW_other hc', if_neg (by rw [hc]; decide)] at e1 e2
  exact ⟨by simpa using e1, by dsimp only at e2; omega⟩
theorem tok_mark {l : List Nat} {j rp : Nat} {rw : List Nat} (hlt : j < l.length) (hc : l[j] = 34) (e1 : [] ++ (tok (l.drop j)).1 = rw) (e2 : j + (tok (l.drop j)).2 = rp) : [] ++ (inQ (l.drop (j + 1))).1 = rw ∧ j + 1 + (inQ (l.drop (j + 1))).2 = rp := by
  rw [List.drop_eq_getElem_cons hlt, hc, tok] at e1 e2
  exact ⟨e1, by dsimp only at e2; omega⟩
theorem tok_white {l : List Nat} {j rp : Nat} {rw : List Nat} (hlt : j < l.length) (hc : white l[j] = true) (e1 : [] ++ (tok (l.drop j)).1 = rw) (e2 : j + (tok (l.drop j)).2 = rp) : [] ++ (tok (l.drop (j + 1))).1 = rw ∧ j + 1 + (tok (l.drop (j + 1))).2 = rp := by
  have h92 : l[j] ≠ 92 := fun q => by rw [q] at hc; cases hc
  have h34 : l[j] ≠ 34 := fun q => by rw [q] at hc; cases hc
  rw [List.drop_eq_getElem_cons hlt, tok_other h34 h92, if_pos hc] at e1 e2
  exact ⟨e1, by dsimp only at e2; omega⟩
theorem tok_step {l : List Nat} {j rp : Nat} {rw : List Nat} (hlt : j < l.length) (h34 : l[j] ≠ 34) (hc : white l[j] = false) (hc' : l[j] ≠ 92) (e1 : [] ++ (tok (l.drop j)).1 = rw) (e2 : j + (tok (l.drop j)).2 = rp) :
    ([] ++ [l[j]]) ++ (inW (l.drop (j + 1))).1 = rw ∧ j + 1 + (inW (l.drop (j + 1))).2 = rp := by
  rw [List.drop_eq_getElem_cons hlt, tok_other h34 hc', if_neg (by rw [hc]; decide)] at e1 e2
  exact ⟨by simpa using e1, by dsimp only at e2; omega⟩
theorem f_end {f : List Nat → List Nat × Nat} (h0 : f [] = ([], 0)) {l acc rw : List Nat} {rp : Nat} (e1 : acc ++ (f (l.drop l.length)).1 = rw) (e2 : l.length + (f (l.drop l.length)).2 = rp) : acc = rw ∧ l.length = rp := by
  rw [List.drop_length, h0] at e1 e2
  exact ⟨by simpa using e1, e2⟩
end

-- part L2
section
theorem inQ_le : ∀ r : List Nat, (inQ r).2 ≤ r.length := by
  intro r
  induction r using inQ.induct with
  | case1 => simp [inQ]
  | case2 => simp [inQ]
  | case3 => simp [inQ]
  | case4 d r ih => simp only [inQ, List.length_cons]; omega
  | case5 c r h1 h2 h3 ih => rw [inQ] <;> first | assumption | (simp only [List.length_cons]; omega)
theorem inW_le : ∀ r : List Nat, (inW r).2 ≤ r.length := by
  intro r
  induction r using inW.induct with
  | case1 => simp [inW]
  | case2 => simp [inW]
  | case3 d r ih => simp only [inW, List.length_cons]; omega
  | case4 c r h1 h2 hw => rw [inW] <;> first | assumption | (rw [if_pos hw]; simp)
  | case5 c r h1 h2 hw ih => rw [inW] <;> first | assumption | (rw [if_neg hw]; simp only [List.length_cons]; omega)
theorem tok_le : ∀ r : List Nat, (tok r).2 ≤ r.length := by
  intro r
  induction r using tok.induct with
  | case1 => simp [tok]
  | case2 => simp [tok]
  | case3 d r => have := inW_le r; simp only [tok, List.length_cons]; omega
  | case4 r => have := inQ_le r; simp only [tok, List.length_cons]; omega
  | case5 c r h1 h2 h3 hw ih => rw [tok] <;> first | assumption | (rw [if_pos hw]; simp only [List.length_cons]; omega)
  | case6 c r h1 h2 h3 hw => have := inW_le r; rw [tok] <;> first | assumption | (rw [if_neg hw]; simp only [List.length_cons]; omega)
def nl (l : List Nat) : Nat := l.count 10
/-- what is told of one word: the word, the place behind it, the row -/
abbrev Told := List Nat × Nat × Nat
def tellAt (l : List Nat) (p : Nat) : Told := ((tok (l.drop p)).1, p + (tok (l.drop p)).2, 1 + nl (l.take (p + (tok (l.drop p)).2)))
/-- i turns of the reading loop: the place, and what is told -/
def rd (l : List Nat) : Nat → Nat × List Told
  | 0 => (0, [])
  | i + 1 => if (rd l i).1 < l.length then ((tellAt l (rd l i).1).2.1, (rd l i).2 ++ [tellAt l (rd l i).1]) else rd l i
def readAll (l : List Nat) : List Told := (rd l l.length).2 ++ [tellAt l (rd l l.length).1]
theorem tellAt_le (l : List Nat) {p : Nat} (hp : p ≤ l.length) : (tellAt l p).2.1 ≤ l.length := by
  have := tok_le (l.drop p)
  rw [List.length_drop] at this
  show p + (tok (l.drop p)).2 ≤ l.length
  omega
theorem rd_le (l : List Nat) : ∀ i, (rd l i).1 ≤ l.length
  | 0 => Nat.zero_le _
  | i + 1 => by
    rw [rd]; split
    · exact tellAt_le l (rd_le l i)
    · exact rd_le l i
theorem rd_length (l : List Nat) : ∀ i, (rd l i).2.length ≤ i
  | 0 => Nat.le_refl _
  | i + 1 => by
    have := rd_length l i
    rw [rd]; split
    · simp only [List.length_append, List.length_singleton]; omega
    · omega
end

-- part L3
section
/-- the places of the bare marks among the first i units -/
def marksTo (us : List U) : Nat → List Nat
  | 0 => []
  | i + 1 => marksTo us i ++ (if us[i]? = some (false, [34]) then [i] else [])
def markS (us : List U) : List Nat := marksTo us us.length
def aheadOf (ms : List Nat) (k : Nat) : Nat := (ms.filter fun m => decide (m < k)).length
def shownAt (ms : List Nat) (k : Nat) : Bool := if aheadOf ms k % 2 = 0 then (decide (k ∉ ms) || decide (aheadOf ms k + 1 = ms.length)) else decide (aheadOf ms k = ms.length)
def leftTo (us : List U) (ms : List Nat) : Nat → List U
  | 0 => []
  | i + 1 => leftTo us ms i ++ (if shownAt ms i = true then (us[i]?).toList else [])
def leftOf (us : List U) : List U := leftTo us (markS us) us.length
theorem marksTo_length (us : List U) : ∀ i, (marksTo us i).length ≤ i
  | 0 => Nat.le_refl _
  | i + 1 => by
    have := marksTo_length us i
    unfold marksTo
    rw [List.length_append]
    split <;> simp <;> omega
theorem aheadOf_le (ms : List Nat) (k : Nat) : aheadOf ms k ≤ ms.length := List.length_filter_le _ _
theorem leftTo_length (us : List U) (ms : List Nat) : ∀ i, (leftTo us ms i).length ≤ i
  | 0 => Nat.le_refl _
  | i + 1 => by
    have := leftTo_length us ms i
    unfold leftTo
    rw [List.length_append]
    split
    · cases us[i]? <;> simp <;> omega
    · simp; omega
theorem fmod2 (n : Nat) : ((n : Nat) : Int).fmod 2 = ((n % 2 : Nat) : Int) := by
  rw [Int.fmod_eq_emod_of_nonneg _ (by omega)]; omega
theorem shown1 {ms : List Nat} {k n : Nat} (hn : n = aheadOf ms k) (h : ((n : Nat) : Int).fmod 2 = 0) (h2 : k ∉ ms) : shownAt ms k = true := by
  rw [fmod2] at h
  unfold shownAt; rw [if_pos (by omega)]; simp [h2]
theorem shown2 {ms : List Nat} {k n N : Nat} (hn : n = aheadOf ms k) (hN : N = ms.length) (h : ((n : Nat) : Int).fmod 2 = 0) (h2 : (n : Int) = (N : Int) - 1) : shownAt ms k = true := by
  rw [fmod2] at h
  have : aheadOf ms k + 1 = ms.length := by omega
  unfold shownAt; rw [if_pos (by omega)]; simp [this]
theorem shown3 {ms : List Nat} {k n N : Nat} (hn : n = aheadOf ms k) (hN : N = ms.length) (h : ((n : Nat) : Int).fmod 2 = 0) (h2 : ¬ k ∉ ms) (h3 : ¬ (n : Int) = (N : Int) - 1) : ¬ shownAt ms k = true := by
  rw [fmod2] at h
  have : ¬ aheadOf ms k + 1 = ms.length := by omega
  unfold shownAt; rw [if_pos (by omega)]; simp only [Decidable.not_not] at h2; simp [h2, this]
theorem shown4 {ms : List Nat} {k n N : Nat} (hn : n = aheadOf ms k) (hN : N = ms.length) (h : ¬ ((n : Nat) : Int).fmod 2 = 0) (h3 : (n : Int) = (N : Int)) : shownAt ms k = true := by
  rw [fmod2] at h
  have : aheadOf ms k = ms.length := by omega
  unfold shownAt; rw [if_neg (by omega)]; simp [this]
theorem shown5 {ms : List Nat} {k n N : Nat} (hn : n = aheadOf ms k) (hN : N = ms.length) (h : ¬ ((n : Nat) : Int).fmod 2 = 0) (h3 : ¬ (n : Int) = (N : Int)) : ¬ shownAt ms k = true := by
  rw [fmod2] at h
  have : ¬ aheadOf ms k = ms.length := by omega
  unfold shownAt; rw [if_neg (by omega)]; simp [this]
theorem left_in {us : List U} {ms : List Nat} {i : Nat} {u : U} (h : shownAt ms i = true) (hu : us[i]? = some u) : leftTo us ms (i + 1) = leftTo us ms i ++ [u] := by
  show leftTo us ms i ++ _ = _
  rw [if_pos h, hu]; rfl
theorem left_out {us : List U} {ms : List Nat} {i : Nat} (h : ¬ shownAt ms i = true) : leftTo us ms (i + 1) = leftTo us ms i := by
  show leftTo us ms i ++ _ = _
  rw [if_neg h, List.append_nil]
end

-- part L4
section
abbrev Ent := List Nat × Nat
def inTab (tab : Tab) : List Nat → Bool
  | [c] => (tab.lookup c).isSome
  | _ => false
def plainU (tab : Tab) (u : U) : Bool := !u.1 && !inTab tab u.2
def whiteU (tab : Tab) (u : U) : Bool := plainU tab u && decide (u.2 ∈ [[32], [10], [13], [9]])
def markU (tab : Tab) (u : U) : Bool := plainU tab u && decide (u.2 = [34])
/-- a bare word from here on: its signs, and the place behind it -/
def bareE (tab : Tab) (size : Nat) : List U → Nat → Ent
  | [], _ => ([], size)
  | u :: r, k => if whiteU tab u then ([], k + 1) else (splS tab u.2 ++ (bareE tab size r (k + 1)).1, (bareE tab size r (k + 1)).2)
def quotE (tab : Tab) (size : Nat) : List U → Nat → Ent
  | [], _ => ([], size)
  | u :: r, k => if markU tab u then ([], k + 1) else (splS tab u.2 ++ (quotE tab size r (k + 1)).1, (quotE tab size r (k + 1)).2)
def firstE (tab : Tab) (size : Nat) : List U → Nat → Ent
  | [], _ => ([], size)
  | u :: r, k => if whiteU tab u then firstE tab size r (k + 1) else if markU tab u then quotE tab size r (k + 1) else bareE tab size (u :: r) k
theorem bareE_gt (tab : Tab) (size : Nat) : ∀ (r : List U) (k : Nat), k + r.length = size → k ≤ (bareE tab size r k).2 ∧ (bareE tab size r k).2 ≤ size ∧ (r ≠ [] → k < (bareE tab size r k).2)
  | [], k, h => by simp only [List.length_nil] at h; simp [bareE]; omega
  | u :: r, k, h => by
    have := bareE_gt tab size r (k + 1) (by simp only [List.length_cons] at h; omega)
    simp only [List.length_cons] at h
    rw [bareE]; split
    · simp; omega
    · simp; omega
theorem quotE_gt (tab : Tab) (size : Nat) : ∀ (r : List U) (k : Nat), k + r.length = size → k ≤ (quotE tab size r k).2 ∧ (quotE tab size r k).2 ≤ size ∧ (r ≠ [] → k < (quotE tab size r k).2)
  | [], k, h => by simp only [List.length_nil] at h; simp [quotE]; omega
  | u :: r, k, h => by
    have := quotE_gt tab size r (k + 1) (by simp only [List.length_cons] at h; omega)
    simp only [List.length_cons] at h
    rw [quotE]; split
    · simp; omega
    · simp; omega
theorem firstE_gt (tab : Tab) (size : Nat) : ∀ (r : List U) (k : Nat), k + r.length = size → k ≤ (firstE tab size r k).2 ∧ (firstE tab size r k).2 ≤ size ∧ (r ≠ [] → k < (firstE tab size r k).2)
  | [], k, h => by simp only [List.length_nil] at h; simp [firstE]; omega
  | u :: r, k, h => by
    have h1 := firstE_gt tab size r (k + 1) (by simp only [List.length_cons] at h; omega)
    have h2 := quotE_gt tab size r (k + 1) (by simp only [List.length_cons] at h; omega)
    have h3 := bareE_gt tab size (u :: r) k h
    rw [firstE]; split
    · exact ⟨by omega, h1.2.1, fun _ => by omega⟩
    · split
      · exact ⟨by omega, h2.2.1, fun _ => by omega⟩
      · exact h3
/-- a table of entries, told from place k on -/
def entAt (f : List U → Nat → Ent) (us : List U) (k j : Nat) : Ent := if k ≤ j then f (us.drop j) j else ([], us.length)
def entL (f : List U → Nat → Ent) (us : List U) (k : Nat) : List Ent := (List.range (us.length + 1)).map (entAt f us k)
theorem entL_length (f : List U → Nat → Ent) (us : List U) (k : Nat) : (entL f us k).length = us.length + 1 := by simp [entL]
theorem entL_get (f : List U → Nat → Ent) (us : List U) (k j : Nat) (h : j ≤ us.length) : (entL f us k)[j]? = some (entAt f us k j) := by
  unfold entL; rw [List.getElem?_map, List.getElem?_range (by omega)]; rfl
theorem entL_top (f : List U → Nat → Ent) (us : List U) (hf : f [] us.length = ([], us.length)) : entL f us us.length = List.replicate (us.length + 1) ([], us.length) := by
  apply List.ext_getElem?
  intro j
  by_cases h : j ≤ us.length
  · rw [entL_get _ _ _ _ h, List.getElem?_replicate, if_pos (by omega)]
    unfold entAt
    split
    · have : j = us.length := by omega
      subst this
      rw [List.drop_length, hf]
    · rfl
  · rw [List.getElem?_eq_none (by rw [entL_length]; omega), List.getElem?_eq_none (by simp; omega)]
theorem entL_set (f : List U → Nat → Ent) (us : List U) (k : Nat) (hk : k < us.length) {e : Ent} (he : e = f (us.drop k) k) : (entL f us (k + 1)).set k e = entL f us k := by
  apply List.ext_getElem?
  intro j
  by_cases h : j ≤ us.length
  · rw [List.getElem?_set, entL_get _ _ _ _ h, entL_get _ _ _ _ h, entL_length]
    by_cases hj : k = j
    · subst hj
      rw [if_pos rfl, if_pos (by omega), he]; unfold entAt; rw [if_pos (Nat.le_refl _)]
    · rw [if_neg hj]; unfold entAt
      by_cases h2 : k + 1 ≤ j
      · rw [if_pos h2, if_pos (by omega)]
      · rw [if_neg h2, if_neg (by omega)]
  · rw [List.getElem?_eq_none (by rw [List.length_set, entL_length]; omega), List.getElem?_eq_none (by rw [entL_length]; omega)]
/-- the words from place k on, with what is told of each -/
def wordsFrom (tab : Tab) (us : List U) : Nat → Nat → List Told
  | 0, _ => []
  | n + 1, k => if k < us.length then
      ((firstE tab us.length (us.drop k) k).1, (written (us.take (firstE tab us.length (us.drop k) k).2) tab).length, 1 + nl (written (us.take (firstE tab us.length (us.drop k) k).2) tab)) :: wordsFrom tab us n (firstE tab us.length (us.drop k) k).2
    else []
def wordsOf (us : List U) (tab : Tab) : List Told := wordsFrom tab us us.length 0 ++ [([], (written us tab).length, 1 + nl (written us tab))]
theorem wordsFrom_length (tab : Tab) (us : List U) : ∀ n k, (wordsFrom tab us n k).length ≤ n
  | 0, _ => Nat.le_refl _
  | n + 1, k => by
    have := fun k => wordsFrom_length tab us n k
    rw [wordsFrom]; split
    · simp only [List.length_cons]; exact Nat.succ_le_succ (this _)
    · simp
theorem bareE_len {tab : Tab} {size c : Nat} : ∀ (r : List U) (k : Nat), (∀ u ∈ r, (splS tab u.2).length ≤ c) → (bareE tab size r k).1.length ≤ c * r.length
  | [], _, _ => by simp [bareE]
  | u :: r, k, h => by
    have h1 := bareE_len (size := size) r (k + 1) (fun x hx => h x (.tail _ hx))
    have h2 := h u (.head _)
    rw [bareE, List.length_cons, Nat.mul_succ]; split
    · simp
    · simp only [List.length_append]; omega
theorem quotE_len {tab : Tab} {size c : Nat} : ∀ (r : List U) (k : Nat), (∀ u ∈ r, (splS tab u.2).length ≤ c) → (quotE tab size r k).1.length ≤ c * r.length
  | [], _, _ => by simp [quotE]
  | u :: r, k, h => by
    have h1 := quotE_len (size := size) r (k + 1) (fun x hx => h x (.tail _ hx))
    have h2 := h u (.head _)
    rw [quotE, List.length_cons, Nat.mul_succ]; split
    · simp
    · simp only [List.length_append]; omega
theorem entAt_self (f : List U → Nat → Ent) (us : List U) (k : Nat) : entAt f us k k = f (us.drop k) k := by unfold entAt; rw [if_pos (Nat.le_refl _)]
theorem firstE_at {tab : Tab} {us : List U} {k : Nat} (hk : k < us.length) : k < (firstE tab us.length (us.drop k) k).2 ∧ (firstE tab us.length (us.drop k) k).2 ≤ us.length := by
  have := firstE_gt tab us.length (us.drop k) k (by rw [List.length_drop]; omega)
  refine ⟨this.2.2 ?_, this.2.1⟩
  intro e
  have := congrArg List.length e
  rw [List.length_drop] at this
  simp at this
  omega
end

-- part L5
section
/-- a table whose spellings are plain signs -/
structure TabOk (tab : Tab) : Prop where
  bs : tab.lookup 92 = none
  pl : ∀ c s, tab.lookup c = some s → s ≠ [] ∧ ∀ x ∈ s, x ≠ 92 ∧ x ≠ 34 ∧ white x = false
/-- units in a row: the unit with no sign stands last -/
def Proper : List U → Prop
  | [] => True
  | (true, []) :: r => r = []
  | (true, [_]) :: r => Proper r
  | (false, [c]) :: r => c ≠ 92 ∧ Proper r
  | _ :: _ => False
theorem written_cons (u : U) (r : List U) (tab : Tab) : written (u :: r) tab = wrU tab u ++ written r tab := by simp [written]
theorem inW_plain : ∀ (s rest : List Nat), (∀ x ∈ s, x ≠ 92 ∧ x ≠ 34 ∧ white x = false) → inW (s ++ rest) = (s ++ (inW rest).1, s.length + (inW rest).2)
  | [], rest, _ => by simp
  | a :: s, rest, h => by
    have ih := inW_plain s rest fun x hx => h x (.tail _ hx)
    have ha := h a (.head _)
    rw [List.cons_append, inW_other ha.1, if_neg (by rw [ha.2.2]; decide), ih]
    simp; omega
theorem inQ_plain : ∀ (s rest : List Nat), (∀ x ∈ s, x ≠ 92 ∧ x ≠ 34 ∧ white x = false) → inQ (s ++ rest) = (s ++ (inQ rest).1, s.length + (inQ rest).2)
  | [], rest, _ => by simp
  | a :: s, rest, h => by
    have ih := inQ_plain s rest fun x hx => h x (.tail _ hx)
    have ha := h a (.head _)
    rw [List.cons_append, inQ_other ha.2.1 ha.1, ih]
    simp; omega
theorem spl_cases (tab : Tab) (ok : TabOk tab) (c : Nat) : (inTab tab [c] = false ∧ spl tab c = [c]) ∨ (inTab tab [c] = true ∧ spl tab c ≠ [] ∧ ∀ x ∈ spl tab c, x ≠ 92 ∧ x ≠ 34 ∧ white x = false) := by
  have e : inTab tab [c] = (tab.lookup c).isSome := rfl
  rw [e]
  unfold spl
  cases h : tab.lookup c with
  | none => exact .inl ⟨rfl, rfl⟩
  | some s => exact .inr ⟨rfl, ok.pl c s h⟩
/-- behind a backslash: the first sign is taken as it is -/
theorem esc_run2 (f : List Nat → List Nat × Nat) (h2 : ∀ d r, f (92 :: d :: r) = (d :: (f r).1, (f r).2 + 2)) (hp : ∀ (s rest : List Nat), (∀ x ∈ s, x ≠ 92 ∧ x ≠ 34 ∧ white x = false) → f (s ++ rest) = (s ++ (f rest).1, s.length + (f rest).2))
    (tab : Tab) (ok : TabOk tab) (c : Nat) (rest : List Nat) : f (92 :: (spl tab c ++ rest)) = (spl tab c ++ (f rest).1, (spl tab c).length + 1 + (f rest).2) := by
  rcases spl_cases tab ok c with ⟨_, e⟩ | ⟨_, hn, hs⟩
  · rw [e]; show f (92 :: c :: rest) = _
    rw [h2]; simp; omega
  · generalize spl tab c = s at hn hs
    cases s with
    | nil => exact absurd rfl hn
    | cons d s =>
      show f (92 :: d :: (s ++ rest)) = _
      rw [h2, hp s rest fun x hx => hs x (.tail _ hx)]
      simp; omega
theorem take_sub {u : U} {r : List U} {e k : Nat} (h : k < e) : (u :: r).take (e - k) = u :: r.take (e - (k + 1)) := by
  obtain ⟨d, rfl⟩ : ∃ d, e = k + 1 + d := ⟨e - (k + 1), by omega⟩
  rw [show k + 1 + d - k = d + 1 by omega, show k + 1 + d - (k + 1) = d by omega]; rfl
theorem inW_written {tab : Tab} (ok : TabOk tab) (size : Nat) : ∀ (r : List U) (k : Nat), Proper r → k + r.length = size →
    inW (written r tab) = ((bareE tab size r k).1, (written (r.take ((bareE tab size r k).2 - k)) tab).length)
  | [], k, _, h => by simp at h; subst h; simp [written, inW, bareE]
  | (true, []) :: r, k, hp, h => by
    have hr : r = [] := hp
    subst hr
    have hk : size = k + 1 := by simp at h; omega
    have hw : whiteU tab (true, []) = false := by simp [whiteU, plainU]
    subst hk
    simp [written, wrU, splS, inW, bareE, hw, show k + 1 - k = 1 by omega]
  | (true, [c]) :: r, k, hp, h => by
    have hp' : Proper r := hp
    have h' : k + 1 + r.length = size := by simp at h; omega
    have ih := inW_written ok size r (k + 1) hp' h'
    have hg := bareE_gt tab size r (k + 1) h'
    have hw : whiteU tab (true, [c]) = false := by simp [whiteU, plainU]
    have e1 : written ((true, [c]) :: r) tab = 92 :: (spl tab c ++ written r tab) := by simp [written_cons, wrU, splS]
    rw [e1, esc_run2 inW (fun d r => by rw [inW]) inW_plain tab ok c, ih, bareE, if_neg (by rw [hw]; decide)]
    simp only [splS]
    rw [take_sub (by omega), written_cons, List.length_append]
    simp only [wrU, splS, List.length_append, if_true, List.length_cons, List.length_nil]
    congr 1; omega
  | (false, [c]) :: r, k, hp, h => by
    have hc : c ≠ 92 := hp.1
    have hp' : Proper r := hp.2
    have h' : k + 1 + r.length = size := by simp at h; omega
    have ih := inW_written ok size r (k + 1) hp' h'
    have hg := bareE_gt tab size r (k + 1) h'
    have e1 : written ((false, [c]) :: r) tab = spl tab c ++ written r tab := by simp [written_cons, wrU, splS]
    rcases spl_cases tab ok c with ⟨hi, e⟩ | ⟨hi, hn, hs⟩
    · by_cases hwc : white c = true
      · have hw : whiteU tab (false, [c]) = true := by
          simp only [white, Bool.or_eq_true, beq_iff_eq] at hwc
          simp only [whiteU, plainU, hi, Bool.not_false, Bool.and_self, Bool.true_and, decide_eq_true_eq]
          rcases hwc with ((rfl | rfl) | rfl) | rfl <;> simp
        rw [e1, e, List.singleton_append, inW_other hc, if_pos hwc, bareE, if_pos hw, show k + 1 - k = 1 by omega]
        simp [written, wrU, splS, e]
      · have hw : whiteU tab (false, [c]) = false := by
          simp only [white, Bool.or_eq_true, beq_iff_eq] at hwc
          have : ¬ ([c] ∈ [[32], [10], [13], [9]]) := by
            simp; omega
          simp only [whiteU, this, decide_false, Bool.and_false]
        rw [e1, e, List.singleton_append, inW_other hc, if_neg hwc, ih, bareE, if_neg (by rw [hw]; decide), take_sub (by omega), written_cons, List.length_append]
        simp [wrU, splS, e]; omega
    · have hw : whiteU tab (false, [c]) = false := by simp [whiteU, plainU, hi]
      rw [e1, inW_plain _ _ hs, ih, bareE, if_neg (by rw [hw]; decide), take_sub (by omega), written_cons, List.length_append]
      simp [wrU, splS]
  | (false, []) :: _, _, hp, _ => hp.elim
  | (true, _ :: _ :: _) :: _, _, hp, _ => hp.elim
  | (false, _ :: _ :: _) :: _, _, hp, _ => hp.elim
theorem inQ_written {tab : Tab} (ok : TabOk tab) (size : Nat) : ∀ (r : List U) (k : Nat), Proper r → k + r.length = size →
    inQ (written r tab) = ((quotE tab size r k).1, (written (r.take ((quotE tab size r k).2 - k)) tab).length)
  | [], k, _, h => by simp at h; subst h; simp [written, inQ, quotE]
  | (true, []) :: r, k, hp, h => by
    have hr : r = [] := hp
    subst hr
    have hk : size = k + 1 := by simp at h; omega
    have hw : markU tab (true, []) = false := by simp [markU, plainU]
    subst hk
    simp [written, wrU, splS, inQ, quotE, hw, show k + 1 - k = 1 by omega]
  | (true, [c]) :: r, k, hp, h => by
    have hp' : Proper r := hp
    have h' : k + 1 + r.length = size := by simp at h; omega
    have ih := inQ_written ok size r (k + 1) hp' h'
    have hg := quotE_gt tab size r (k + 1) h'
    have hw : markU tab (true, [c]) = false := by simp [markU, plainU]
    have e1 : written ((true, [c]) :: r) tab = 92 :: (spl tab c ++ written r tab) := by simp [written_cons, wrU, splS]
    rw [e1, esc_run2 inQ (fun d r => by rw [inQ]) inQ_plain tab ok c, ih, quotE, if_neg (by rw [hw]; decide)]
    simp only [splS]
    rw [take_sub (by omega), written_cons, List.length_append]
    simp only [wrU, splS, List.length_append, if_true, List.length_cons, List.length_nil]
    congr 1; omega
  | (false, [c]) :: r, k, hp, h => by
    have hc : c ≠ 92 := hp.1
    have hp' : Proper r := hp.2
    have h' : k + 1 + r.length = size := by simp at h; omega
    have ih := inQ_written ok size r (k + 1) hp' h'
    have hg := quotE_gt tab size r (k + 1) h'
    have e1 : written ((false, [c]) :: r) tab = spl tab c ++ written r tab := by simp [written_cons, wrU, splS]
    rcases spl_cases tab ok c with ⟨hi, e⟩ | ⟨hi, hn, hs⟩
    · by_cases hwc : c = 34
      · subst hwc
        have hw : markU tab (false, [34]) = true := by simp [markU, plainU, hi]
        rw [e1, e, List.singleton_append, inQ, quotE, if_pos hw, show k + 1 - k = 1 by omega]
        simp [written, wrU, splS, e]
      · have hw : markU tab (false, [c]) = false := by simp [markU, hwc]
        rw [e1, e, List.singleton_append, inQ_other hwc hc, ih, quotE, if_neg (by rw [hw]; decide), take_sub (by omega), written_cons, List.length_append]
        simp [wrU, splS, e]; omega
    · have hw : markU tab (false, [c]) = false := by simp [markU, plainU, hi]
      rw [e1, inQ_plain _ _ hs, ih, quotE, if_neg (by rw [hw]; decide), take_sub (by omega), written_cons, List.length_append]
      simp [wrU, splS]
  | (false, []) :: _, _, hp, _ => hp.elim
  | (true, _ :: _ :: _) :: _, _, hp, _ => hp.elim
  | (false, _ :: _ :: _) :: _, _, hp, _ => hp.elim
theorem tok_plain (a : Nat) (s rest : List Nat) (h : ∀ x ∈ a :: s, x ≠ 92 ∧ x ≠ 34 ∧ white x = false) : tok ((a :: s) ++ rest) = inW ((a :: s) ++ rest) := by
  have ha := h a (.head _)
  rw [List.cons_append, tok_other ha.2.1 ha.1, if_neg (by rw [ha.2.2]; decide), inW_other ha.1, if_neg (by rw [ha.2.2]; decide)]
theorem tok_written {tab : Tab} (ok : TabOk tab) (size : Nat) : ∀ (r : List U) (k : Nat), Proper r → k + r.length = size →
    tok (written r tab) = ((firstE tab size r k).1, (written (r.take ((firstE tab size r k).2 - k)) tab).length)
  | [], k, _, h => by simp at h; subst h; simp [written, tok, firstE]
  | (true, []) :: r, k, hp, h => by
    have hr : r = [] := hp
    subst hr
    have hk : size = k + 1 := by simp at h; omega
    have hw : whiteU tab (true, []) = false := by simp [whiteU, plainU]
    have hm : markU tab (true, []) = false := by simp [markU, plainU]
    subst hk
    simp [written, wrU, splS, tok, firstE, bareE, hw, hm, show k + 1 - k = 1 by omega]
  | (true, [c]) :: r, k, hp, h => by
    have hw : whiteU tab (true, [c]) = false := by simp [whiteU, plainU]
    have hm : markU tab (true, [c]) = false := by simp [markU, plainU]
    have e1 : written ((true, [c]) :: r) tab = 92 :: (spl tab c ++ written r tab) := by simp [written_cons, wrU, splS]
    have e2 : tok (92 :: (spl tab c ++ written r tab)) = inW (92 :: (spl tab c ++ written r tab)) := by
      cases spl tab c ++ written r tab with
      | nil => rw [tok, inW]
      | cons d t => rw [tok, inW]
    have hW := inW_written ok size ((true, [c]) :: r) k hp h
    rw [e1] at hW
    rw [firstE, if_neg (by rw [hw]; decide), if_neg (by rw [hm]; decide), e1, e2, hW]
  | (false, [c]) :: r, k, hp, h => by
    have hc : c ≠ 92 := hp.1
    have hp' : Proper r := hp.2
    have h' : k + 1 + r.length = size := by simp at h; omega
    have ih := tok_written ok size r (k + 1) hp' h'
    have hQ := inQ_written ok size r (k + 1) hp' h'
    have hW := inW_written ok size ((false, [c]) :: r) k hp h
    have hg := firstE_gt tab size r (k + 1) h'
    have hg2 := quotE_gt tab size r (k + 1) h'
    have e1 : written ((false, [c]) :: r) tab = spl tab c ++ written r tab := by simp [written_cons, wrU, splS]
    rcases spl_cases tab ok c with ⟨hi, e⟩ | ⟨hi, hn, hs⟩
    · by_cases hwc : white c = true
      · have hw : whiteU tab (false, [c]) = true := by
          simp only [white, Bool.or_eq_true, beq_iff_eq] at hwc
          simp only [whiteU, plainU, hi, Bool.not_false, Bool.and_self, Bool.true_and, decide_eq_true_eq]
          rcases hwc with ((rfl | rfl) | rfl) | rfl <;> simp
        have h34 : c ≠ 34 := by rintro rfl; cases hwc
        rw [e1, e, List.singleton_append, tok_other h34 hc, if_pos hwc, firstE, if_pos hw, ih, take_sub (by omega), written_cons, List.length_append]
        simp [wrU, splS, e]; omega
      · have hw : whiteU tab (false, [c]) = false := by
          simp only [white, Bool.or_eq_true, beq_iff_eq] at hwc
          have : ¬ ([c] ∈ [[32], [10], [13], [9]]) := by
            simp; omega
          simp only [whiteU, this, decide_false, Bool.and_false]
        by_cases h34 : c = 34
        · subst h34
          have hm : markU tab (false, [34]) = true := by simp [markU, plainU, hi]
          rw [e1, e, List.singleton_append, tok, firstE, if_neg (by rw [hw]; decide), if_pos hm, hQ, take_sub (by omega), written_cons, List.length_append]
          simp [wrU, splS, e]; omega
        · have hm : markU tab (false, [c]) = false := by simp [markU, h34]
          rw [e1, e, List.singleton_append, inW_other hc, if_neg hwc] at hW
          rw [e1, e, List.singleton_append, tok_other h34 hc, if_neg hwc, firstE, if_neg (by rw [hw]; decide), if_neg (by rw [hm]; decide), hW]
    · have hw : whiteU tab (false, [c]) = false := by simp [whiteU, plainU, hi]
      have hm : markU tab (false, [c]) = false := by simp [markU, plainU, hi]
      rw [firstE, if_neg (by rw [hw]; decide), if_neg (by rw [hm]; decide), ← hW, e1]
      generalize spl tab c = s at hn hs
      cases s with
      | nil => exact absurd rfl hn
      | cons a s => exact tok_plain a s _ hs
  | (false, []) :: _, _, hp, _ => hp.elim
  | (true, _ :: _ :: _) :: _, _, hp, _ => hp.elim
  | (false, _ :: _ :: _) :: _, _, hp, _ => hp.elim
end

-- part L6
section
theorem Proper.drop : ∀ (us : List U) (k : Nat), Proper us → Proper (us.drop k)
  | [], k, _ => by simp [Proper]
  | u :: r, 0, h => h
  | u :: r, k + 1, h => by
    show Proper (r.drop k)
    refine Proper.drop r k ?_
    match u, h with
    | (true, []), h => have h' : r = [] := h; subst h'; trivial
    | (true, [_]), h => exact h
    | (false, [_]), h => exact h.2
    | (false, []), h => exact h.elim
    | (true, _ :: _ :: _), h => exact h.elim
    | (false, _ :: _ :: _), h => exact h.elim
theorem wrU_pos {tab : Tab} (ok : TabOk tab) {u : U} {r : List U} (h : Proper (u :: r)) : 1 ≤ (wrU tab u).length := by
  match u, h with
  | (true, []), _ => simp [wrU, splS]
  | (true, [c]), _ => simp [wrU, splS]
  | (false, [c]), _ =>
    rcases spl_cases tab ok c with ⟨_, e⟩ | ⟨_, hn, _⟩
    · simp [wrU, splS, e]
    · simp only [wrU, splS]
      generalize spl tab c = s at hn
      cases s with
      | nil => exact absurd rfl hn
      | cons a s => simp
  | (false, []), h => exact h.elim
  | (true, _ :: _ :: _), h => exact h.elim
  | (false, _ :: _ :: _), h => exact h.elim
theorem written_ge {tab : Tab} (ok : TabOk tab) : ∀ (us : List U), Proper us → us.length ≤ (written us tab).length
  | [], _ => by simp [written]
  | u :: r, h => by
    have h1 := wrU_pos ok h
    have h2 := written_ge ok r (Proper.drop (u :: r) 1 h)
    rw [written_cons, List.length_append, List.length_cons]; omega
theorem written_split (us : List U) (tab : Tab) (k : Nat) : written us tab = written (us.take k) tab ++ written (us.drop k) tab := by
  rw [← written_append, List.take_append_drop]
/-- one telling of the reading loop, at the place where unit k begins -/
theorem tell_written {tab : Tab} (ok : TabOk tab) (us : List U) (hp : Proper us) (k : Nat) (hk : k ≤ us.length) :
    tellAt (written us tab) (written (us.take k) tab).length = ((firstE tab us.length (us.drop k) k).1, (written (us.take (firstE tab us.length (us.drop k) k).2) tab).length, 1 + nl (written (us.take (firstE tab us.length (us.drop k) k).2) tab)) := by
  have hg := firstE_gt tab us.length (us.drop k) k (by rw [List.length_drop]; omega)
  have ht := tok_written ok us.length (us.drop k) k (Proper.drop us k hp) (by rw [List.length_drop]; omega)
  have hd : (written us tab).drop (written (us.take k) tab).length = written (us.drop k) tab := by
    rw [written_split us tab k, List.drop_left]
  generalize firstE tab us.length (us.drop k) k = e at *
  obtain ⟨ew, k2⟩ := e
  dsimp only at *
  have h2 : (written (us.take k) tab).length + (written ((us.drop k).take (k2 - k)) tab).length = (written (us.take k2) tab).length := by
    rw [← List.length_append, ← written_append]
    congr 2
    rw [show k2 = k + (k2 - k) by omega, List.take_add, show k + (k2 - k) - k = k2 - k by omega]
  unfold tellAt
  rw [hd, ht]
  dsimp only
  rw [h2]
  congr 3
  rw [written_split us tab k2, List.take_left]
theorem written_take_lt {tab : Tab} (ok : TabOk tab) (us : List U) (hp : Proper us) (k : Nat) (hk : k ≤ us.length) : (written (us.take k) tab).length < (written us tab).length ↔ k < us.length := by
  have e := congrArg List.length (written_split us tab k)
  rw [List.length_append] at e
  have h2 := written_ge ok _ (Proper.drop us k hp)
  rw [List.length_drop] at h2
  constructor
  · intro h
    by_cases hk2 : k < us.length
    · exact hk2
    · have : k = us.length := by omega
      subst this
      rw [List.take_length] at h; omega
  · intro h; omega
theorem wordsFrom_fuel (tab : Tab) (us : List U) : ∀ (n m k : Nat), us.length - k ≤ n → us.length - k ≤ m → wordsFrom tab us n k = wordsFrom tab us m k
  | 0, 0, _, _, _ => rfl
  | 0, m + 1, k, h, _ => by rw [wordsFrom, wordsFrom, if_neg (by omega)]
  | n + 1, 0, k, _, h => by rw [wordsFrom, wordsFrom, if_neg (by omega)]
  | n + 1, m + 1, k, h1, h2 => by
    rw [wordsFrom, wordsFrom]
    by_cases hk : k < us.length
    · obtain ⟨g1, g2⟩ := firstE_at (tab := tab) hk
      rw [if_pos hk, if_pos hk, wordsFrom_fuel tab us n m _ (by omega) (by omega)]
    · rw [if_neg hk, if_neg hk]
theorem words_step {tab : Tab} (us : List U) {k : Nat} (hk : k < us.length) : wordsFrom tab us us.length k =
    ((firstE tab us.length (us.drop k) k).1, (written (us.take (firstE tab us.length (us.drop k) k).2) tab).length, 1 + nl (written (us.take (firstE tab us.length (us.drop k) k).2) tab)) :: wordsFrom tab us us.length (firstE tab us.length (us.drop k) k).2 := by
  obtain ⟨g1, g2⟩ := firstE_at (tab := tab) hk
  rw [wordsFrom_fuel tab us us.length (us.length - 1 + 1) k (by omega) (by omega), wordsFrom, if_pos hk, wordsFrom_fuel tab us (us.length - 1) us.length _ (by omega) (by omega)]
theorem words_stop {tab : Tab} (us : List U) : ∀ n, wordsFrom tab us n us.length = []
  | 0 => rfl
  | n + 1 => by rw [wordsFrom, if_neg (by omega)]
theorem rd_written {tab : Tab} (ok : TabOk tab) (us : List U) (hp : Proper us) : ∀ i, ∃ k, k ≤ us.length ∧ (rd (written us tab) i).1 = (written (us.take k) tab).length ∧ (i ≤ k ∨ k = us.length) ∧
    (rd (written us tab) i).2 ++ wordsFrom tab us us.length k = wordsFrom tab us us.length 0
  | 0 => ⟨0, Nat.zero_le _, by simp [rd, written], .inl (Nat.le_refl _), by simp [rd]⟩
  | i + 1 => by
    obtain ⟨k, hk, h1, h2, h3⟩ := rd_written ok us hp i
    rw [rd, h1]
    by_cases hlt : k < us.length
    · rw [if_pos ((written_take_lt ok us hp k hk).mpr hlt), tell_written ok us hp k hk]
      obtain ⟨g1, g2⟩ := firstE_at (tab := tab) hlt
      refine ⟨(firstE tab us.length (us.drop k) k).2, g2, rfl, ?_, ?_⟩
      · rcases h2 with h2 | h2
        · exact .inl (by omega)
        · omega
      · rw [words_step us hlt] at h3
        rw [List.append_assoc, ← h3]
        rfl
    · have hkl : k = us.length := by omega
      rw [if_neg (fun h => hlt ((written_take_lt ok us hp k hk).mp h))]
      exact ⟨k, hk, h1, .inr hkl, h3⟩
theorem read_words {tab : Tab} (ok : TabOk tab) (us : List U) (hp : Proper us) : readAll (written us tab) = wordsOf us tab := by
  have hge := written_ge ok us hp
  obtain ⟨k, hk, h1, h2, h3⟩ := rd_written ok us hp (written us tab).length
  have hkl : k = us.length := by rcases h2 with h2 | h2 <;> omega
  subst hkl
  rw [words_stop, List.append_nil] at h3
  unfold readAll wordsOf
  rw [h3, h1, tell_written ok us hp us.length (Nat.le_refl _), List.drop_length]
  congr 2
  simp [firstE]
theorem tabOk_ok : TabOk T0 ∧ TabOk T1 ∧ TabOk T2 ∧ TabOk T3 ∧ TabOk T4 := by
  have key : ∀ tab : Tab, tab.lookup 92 = none → (∀ p ∈ tab, p.2 ≠ [] ∧ ∀ x ∈ p.2, x ≠ 92 ∧ x ≠ 34 ∧ white x = false) → TabOk tab := fun tab h1 h2 => ⟨h1, fun c s hs => by
    have hm : (c, s) ∈ tab := by
      clear h1 h2
      induction tab with
      | nil => cases hs
      | cons p u ih2 =>
        obtain ⟨b, q⟩ := p
        rw [List.lookup_cons] at hs
        by_cases hb : c = b
        · subst hb; simp at hs; subst hs; exact .head _
        · have : (c == b) = false := by simpa using hb
          rw [this] at hs
          exact .tail _ (ih2 hs)
    exact h2 _ hm⟩
  exact ⟨key _ (by decide) (by decide), key _ (by decide) (by decide), key _ (by decide) (by decide), key _ (by decide) (by decide), key _ (by decide) (by decide)⟩
end

-- part L7
section
theorem sp_append (tab : Tab) (a b : List Nat) : sp tab (a ++ b) = sp tab a ++ sp tab b := by simp [sp]
theorem sp_one (tab : Tab) (c : Nat) : sp tab [c] = spl tab c := by simp [sp]
theorem take_snoc {l : List Nat} {i : Nat} (h : i < l.length) : l.take (i + 1) = l.take i ++ [l.getD i 0] := by
  rw [List.take_add_one, List.getElem?_eq_getElem h]
  simp [List.getD, List.getElem?_eq_getElem h]
theorem upTo_written (tab : Tab) (hb : tab.lookup 92 = none) (l : List Nat) : ∀ i, i ≤ l.length → written (upTo l i) tab ++ (if escAt l i = true ∧ i < l.length then [92] else []) = sp tab (l.take i)
  | 0, _ => by simp [upTo, written, sp, escAt]
  | i + 1, h => by
    have ih := upTo_written tab hb l i (by omega)
    have h92 : spl tab 92 = [92] := by unfold spl; rw [hb]; rfl
    rw [take_snoc (by omega), sp_append, sp_one, ← ih, upTo]
    generalize hc : l.getD i 0 = c
    have he : escAt l (i + 1) = ((c == 92) && !escAt l i) := by rw [← hc]; rfl
    by_cases h1 : c ≠ 92 ∨ escAt l i = true
    · rw [if_pos h1, written_append]
      have he2 : escAt l (i + 1) = false := by
        rw [he]
        rcases h1 with h1 | h1
        · have : (c == 92) = false := by simpa using h1
          rw [this]; rfl
        · rw [h1]; simp
      rw [he2]
      have hi : i < l.length := by omega
      cases hx : escAt l i <;> simp [written, wrU, splS, hi]
    · rw [if_neg h1]
      have h2 : c = 92 := Decidable.byContradiction fun q => h1 (.inl q)
      have h3 : escAt l i = false := by
        cases hx : escAt l i with
        | false => rfl
        | true => exact absurd (.inr hx) h1
      have he2 : escAt l (i + 1) = true := by rw [he, h2, h3]; rfl
      rw [he2, h3, h2, h92]
      by_cases hl : i + 1 = l.length
      · rw [if_pos hl]
        have : ¬ (i + 1 < l.length) := by omega
        simp [written, wrU, splS, this]
      · rw [if_neg hl]
        have : i + 1 < l.length := by omega
        simp [this]
theorem units_written (tab : Tab) (hb : tab.lookup 92 = none) (l : List Nat) : written (unitsOf l) tab = sp tab l := by
  have := upTo_written tab hb l l.length (Nat.le_refl _)
  rw [if_neg (fun h => Nat.lt_irrefl _ h.2), List.append_nil, List.take_length] at this
  exact this
/-- a unit with a sign -/
def Full : U → Prop
  | (true, [_]) => True
  | (false, [c]) => c ≠ 92
  | _ => False
theorem full_proper : ∀ (a b : List U), (∀ u ∈ a, Full u) → Proper b → Proper (a ++ b)
  | [], _, _, h => h
  | u :: r, b, hf, h => by
    have ih := full_proper r b (fun x hx => hf x (.tail _ hx)) h
    have hu := hf u (.head _)
    match u, hu with
    | (true, [c]), _ => exact ih
    | (false, [c]), hc => exact ⟨hc, ih⟩
    | (true, []), hu => exact hu.elim
    | (false, []), hu => exact hu.elim
    | (true, _ :: _ :: _), hu => exact hu.elim
    | (false, _ :: _ :: _), hu => exact hu.elim
theorem upTo_full (l : List Nat) : ∀ i, i < l.length ∨ i = 0 → ∀ u ∈ upTo l i, Full u
  | 0, _, _, h => nomatch h
  | i + 1, hi, u, h => by
    have hi' : i + 1 < l.length := by omega
    unfold upTo at h
    rcases List.mem_append.mp h with h | h
    · exact upTo_full l i (.inl (by omega)) u h
    · split at h
      · rename_i h1
        rw [List.mem_singleton.mp h]
        cases hx : escAt l i with
        | true => trivial
        | false =>
          rw [hx] at h1
          rcases h1 with h1 | h1
          · exact h1
          · cases h1
      · rw [if_neg (by omega)] at h
        cases h
theorem units_proper (l : List Nat) : Proper (unitsOf l) := by
  unfold unitsOf
  cases hl : l.length with
  | zero => simp [upTo, Proper]
  | succ n =>
    unfold upTo
    refine full_proper _ _ (upTo_full l n (.inl (by omega))) ?_
    split
    · rename_i h1
      cases hx : escAt l n with
      | true => trivial
      | false =>
        rw [hx] at h1
        rcases h1 with h1 | h1
        · exact ⟨h1, trivial⟩
        · cases h1
    · split
      · rfl
      · trivial
theorem proper_get : ∀ (us : List U) (j : Nat) (u : U), Proper us → us[j]? = some u → (j + 1 < us.length → Full u) ∧ (Full u ∨ u = (true, []))
  | [], _, _, _, h => by simp at h
  | v :: r, j, u, hp, h => by
    match v, hp with
    | (true, []), hp =>
      have hr : r = [] := hp
      subst hr
      cases j with
      | zero =>
        have : (true, []) = u := by simpa using h
        exact ⟨fun q => by simp at q, .inr this.symm⟩
      | succ j => simp at h
    | (true, [c]), hp =>
      cases j with
      | zero =>
        have : (true, [c]) = u := by simpa using h
        subst this
        exact ⟨fun _ => trivial, .inl trivial⟩
      | succ j =>
        have := proper_get r j u hp (by simpa using h)
        exact ⟨fun q => this.1 (by simpa using q), this.2⟩
    | (false, [c]), hp =>
      cases j with
      | zero =>
        have : (false, [c]) = u := by simpa using h
        subst this
        exact ⟨fun _ => hp.1, .inl hp.1⟩
      | succ j =>
        have := proper_get r j u hp.2 (by simpa using h)
        exact ⟨fun q => this.1 (by simpa using q), this.2⟩
    | (false, []), hp => exact hp.elim
    | (true, _ :: _ :: _), hp => exact hp.elim
    | (false, _ :: _ :: _), hp => exact hp.elim
theorem leftTo_full (us : List U) (ms : List Nat) (hp : Proper us) : ∀ i, i < us.length ∨ i = 0 → ∀ u ∈ leftTo us ms i, Full u
  | 0, _, _, h => nomatch h
  | i + 1, hi, u, h => by
    unfold leftTo at h
    rcases List.mem_append.mp h with h | h
    · exact leftTo_full us ms hp i (.inl (by omega)) u h
    · split at h
      · have hu : us[i]? = some u := by
          cases e : us[i]? with
          | none => rw [e] at h; cases h
          | some x => rw [e] at h; simp at h; rw [h]
        exact (proper_get us i u hp hu).1 (by omega)
      · cases h
theorem left_proper (us : List U) (hp : Proper us) : Proper (leftOf us) := by
  unfold leftOf
  generalize markS us = ms
  cases hl : us.length with
  | zero => simp [leftTo, Proper]
  | succ n =>
    unfold leftTo
    refine full_proper _ _ (leftTo_full us ms hp n (.inl (by omega))) ?_
    split
    · cases e : us[n]? with
      | none => trivial
      | some u =>
        rcases (proper_get us n u hp e).2 with h | rfl
        · exact full_proper [u] [] (fun x hx => by rw [List.mem_singleton.mp hx]; exact h) trivial
        · rfl
    · trivial
/-- units once made are units of what they write -/
theorem sp_written (tab : Tab) (hb : tab.lookup 92 = none) : ∀ us : List U, (∀ u ∈ us, Uok u) → sp tab (written us []) = written us tab
  | [], _ => rfl
  | (e, s) :: r, h => by
    have ih := sp_written tab hb r fun x hx => h x (.tail _ hx)
    have hs := h _ (.head _)
    rw [written_cons, written_cons, sp_append, ih]
    congr 1
    have h92 : sp tab [92] = [92] := by rw [sp_one]; unfold spl; rw [hb]; rfl
    simp only [wrU, sp_append]
    congr 1
    · cases e
      · rfl
      · exact h92
    · match s, hs with
      | [], _ => rfl
      | [c], _ =>
        show sp tab (splS [] [c]) = spl tab c
        have : splS [] [c] = [c] := rfl
        rw [this, sp_one]
theorem left_ok {us : List U} (h : ∀ u ∈ us, Uok u) (ms : List Nat) : ∀ i, ∀ u ∈ leftTo us ms i, Uok u
  | 0, _, hu => nomatch hu
  | i + 1, u, hu => by
    unfold leftTo at hu
    rcases List.mem_append.mp hu with hu | hu
    · exact left_ok h ms i u hu
    · split at hu
      · refine h u ?_
        cases e : us[i]? with
        | none => rw [e] at hu; cases hu
        | some x =>
          rw [e] at hu; simp at hu; rw [hu]; exact List.mem_of_getElem? e
      · cases hu
end

-- part L8
section
/-- what the escape-aware iterator gives: the place and the sign, with its backslash -/
def itemsG : Bool → Nat → List Nat → List (Nat × List Nat)
  | e, p, [] => if e then [(p - 1, [92])] else []
  | true, p, c :: r => (p, [92, c]) :: itemsG false (p + 1) r
  | false, p, c :: r => if c = 92 then itemsG true (p + 1) r else (p, [c]) :: itemsG false (p + 1) r
/-- the stripping's state: the start, the open mark's place, the pieces -/
abbrev St := Nat × Option Nat × List (List Nat)
def stStep (l : List Nat) (st : St) (it : Nat × List Nat) : St :=
  if it.2 = [34] then
    match st.2.1 with
    | none => (st.1, some it.1, st.2.2)
    | some o => (it.1 + 1, none, if st.1 ≠ o then st.2.2 ++ [(l.drop st.1).take (o - st.1)] else st.2.2)
  else st
def stripE (l : List Nat) : St := (itemsG false 0 l).foldl (stStep l) (0, none, [])
def stripS (l : List Nat) : List Nat := if 34 ∉ l then l else (if (stripE l).1 < l.length then (stripE l).2.2 ++ [l.drop (stripE l).1] else (stripE l).2.2).flatten
theorem step_other (l : List Nat) (st : St) (p : Nat) (s : List Nat) (h : s ≠ [34]) : stStep l st (p, s) = st := by
  unfold stStep; rw [if_neg h]
theorem items_plain (W : List Nat) : ∀ (s rest : List Nat) (p : Nat) (st : St), (∀ x ∈ s, x ≠ 92 ∧ x ≠ 34) → (itemsG false p (s ++ rest)).foldl (stStep W) st = (itemsG false (p + s.length) rest).foldl (stStep W) st
  | [], rest, p, st, _ => by simp
  | c :: s, rest, p, st, h => by
    have hc := h c (.head _)
    have ih := items_plain W s rest (p + 1) st fun x hx => h x (.tail _ hx)
    rw [List.cons_append, itemsG, if_neg hc.1, List.foldl_cons, step_other _ _ _ _ (by simpa using hc.2), ih, List.length_cons]
    congr 2; omega
def unitFold (tab : Tab) (W : List Nat) : List U → Nat → St → St
  | [], _, st => st
  | u :: r, p, st => unitFold tab W r (p + (wrU tab u).length) (if u = (false, [34]) then stStep W st (p, [34]) else st)
theorem items_units {tab : Tab} (ok : TabOk tab) (h34 : tab.lookup 34 = none) (W : List Nat) : ∀ (r : List U) (p : Nat) (st : St), Proper r → (itemsG false p (written r tab)).foldl (stStep W) st = unitFold tab W r p st
  | [], p, st, _ => by simp [written, itemsG, unitFold]
  | (true, []) :: r, p, st, hp => by
    have hr : r = [] := hp
    subst hr
    have e : written [(true, [])] tab = [92] := by simp [written, wrU, splS]
    rw [e, itemsG, if_pos rfl, itemsG]
    simp [unitFold, step_other]
  | (true, [c]) :: r, p, st, hp => by
    have hp' : Proper r := hp
    have e1 : written ((true, [c]) :: r) tab = 92 :: (spl tab c ++ written r tab) := by simp [written_cons, wrU, splS]
    rw [e1, itemsG, if_pos rfl, unitFold, if_neg (by simp)]
    have hl : (wrU tab (true, [c])).length = (spl tab c).length + 1 := by simp [wrU, splS]
    rw [hl]
    have key : ∃ d s, spl tab c = d :: s ∧ ∀ x ∈ s, x ≠ 92 ∧ x ≠ 34 := by
      rcases spl_cases tab ok c with ⟨_, e⟩ | ⟨_, hn, hs⟩
      · exact ⟨c, [], e, fun _ h => nomatch h⟩
      · cases hq : spl tab c with
        | nil => exact absurd hq hn
        | cons d s => exact ⟨d, s, rfl, fun x hx => by
            have := hs x (by rw [hq]; exact .tail _ hx)
            exact ⟨this.1, this.2.1⟩⟩
    obtain ⟨d, s, e, hs⟩ := key
    rw [e, List.cons_append, itemsG, List.foldl_cons, step_other _ _ _ _ (by simp), items_plain W s _ _ _ hs, items_units ok h34 W r _ _ hp', List.length_cons]
    congr 1; omega
  | (false, [c]) :: r, p, st, hp => by
    have hc : c ≠ 92 := hp.1
    have hp' : Proper r := hp.2
    have e1 : written ((false, [c]) :: r) tab = spl tab c ++ written r tab := by simp [written_cons, wrU, splS]
    have hl : (wrU tab (false, [c])).length = (spl tab c).length := by simp [wrU, splS]
    rw [e1, unitFold, hl]
    by_cases hm : c = 34
    · subst hm
      have e : spl tab 34 = [34] := by unfold spl; rw [h34]; rfl
      rw [if_pos rfl, e, List.singleton_append, itemsG, if_neg (by decide), List.foldl_cons, items_units ok h34 W r _ _ hp']
      rfl
    · rw [if_neg (by simpa using hm)]
      have hs : ∀ x ∈ spl tab c, x ≠ 92 ∧ x ≠ 34 := by
        rcases spl_cases tab ok c with ⟨_, e⟩ | ⟨_, hn, hs⟩
        · rw [e]; intro x hx
          rw [List.mem_singleton.mp hx]; exact ⟨hc, hm⟩
        · exact fun x hx => ⟨(hs x hx).1, (hs x hx).2.1⟩
      rw [items_plain W _ _ _ _ hs, items_units ok h34 W r _ _ hp']
  | (false, []) :: _, _, _, hp => hp.elim
  | (true, _ :: _ :: _) :: _, _, _, hp => hp.elim
  | (false, _ :: _ :: _) :: _, _, _, hp => hp.elim
def Lw (us : List U) (tab : Tab) (k : Nat) : Nat := (written (us.take k) tab).length
def stK (us : List U) (tab : Tab) (W : List Nat) : Nat → St
  | 0 => (0, none, [])
  | k + 1 => if us[k]? = some (false, [34]) then stStep W (stK us tab W k) (Lw us tab k, [34]) else stK us tab W k
theorem Lw_succ {us : List U} {tab : Tab} {k : Nat} {u : U} (h : us[k]? = some u) : Lw us tab (k + 1) = Lw us tab k + (wrU tab u).length := by
  unfold Lw; rw [written_take_succ us tab k u h, List.length_append]
theorem fold_K (us : List U) (tab : Tab) (W : List Nat) : ∀ (n k : Nat), k + n = us.length → unitFold tab W (us.drop k) (Lw us tab k) (stK us tab W k) = stK us tab W us.length
  | 0, k, h => by
    have : k = us.length := by omega
    subst this
    rw [List.drop_length, unitFold]
  | n + 1, k, h => by
    have hk : k < us.length := by omega
    have hu := List.getElem?_eq_getElem hk
    rw [List.drop_eq_getElem_cons hk, unitFold, ← fold_K us tab W n (k + 1) (by omega), ← Lw_succ hu]
    congr 1
    show _ = (if us[k]? = some (false, [34]) then stStep W (stK us tab W k) (Lw us tab k, [34]) else stK us tab W k)
    rw [hu]
    by_cases e : us[k] = (false, [34])
    · rw [if_pos e, if_pos (by rw [e])]
    · rw [if_neg e, if_neg (fun q => e (Option.some.inj q))]
theorem marks_lt (us : List U) : ∀ n, ∀ m ∈ marksTo us n, m < n
  | 0, _, h => nomatch h
  | n + 1, m, h => by
    unfold marksTo at h
    rcases List.mem_append.mp h with h | h
    · have := marks_lt us n m h; omega
    · split at h
      · rw [List.mem_singleton.mp h]; omega
      · cases h
theorem marks_filter (us : List U) : ∀ n k, k ≤ n → (marksTo us n).filter (fun m => decide (m < k)) = marksTo us k
  | 0, k, h => by
    have : k = 0 := by omega
    subst this; rfl
  | n + 1, k, h => by
    by_cases hk : k = n + 1
    · subst hk
      exact List.filter_eq_self.mpr fun m hm => decide_eq_true (marks_lt us _ m hm)
    · have ih := marks_filter us n k (by omega)
      unfold marksTo
      rw [List.filter_append, ih]
      have : ∀ x : List Nat, (∀ m ∈ x, m = n) → x.filter (fun m => decide (m < k)) = [] := fun x hx => List.filter_eq_nil_iff.mpr fun m hm => by rw [hx m hm]; simp; omega
      rw [this _ (by split <;> simp)]
      cases k with
      | zero => simp [marksTo]
      | succ k => simp [marksTo]
theorem ahead_eq (us : List U) {k : Nat} (h : k ≤ us.length) : aheadOf (markS us) k = (marksTo us k).length := by
  unfold aheadOf markS; rw [marks_filter us _ _ h]
theorem marks_mem (us : List U) : ∀ n k, k ∈ marksTo us n ↔ k < n ∧ us[k]? = some (false, [34])
  | 0, k => by simp [marksTo]
  | n + 1, k => by
    unfold marksTo
    rw [List.mem_append, marks_mem us n k]
    constructor
    · rintro (h | h)
      · exact ⟨by omega, h.2⟩
      · split at h
        · rename_i hm
          rw [List.mem_singleton.mp h]; exact ⟨by omega, hm⟩
        · cases h
    · rintro ⟨h1, h2⟩
      by_cases hk : k = n
      · subst hk; right; rw [if_pos h2]; exact List.mem_singleton.mpr rfl
      · left; exact ⟨by omega, h2⟩
theorem piece (us : List U) (tab : Tab) {a k k' : Nat} (h1 : a ≤ Lw us tab k) (h2 : k ≤ k') :
    ((written us tab).drop a).take (Lw us tab k' - a) = ((written us tab).drop a).take (Lw us tab k - a) ++ written ((us.drop k).take (k' - k)) tab := by
  have e1 : us.take k' = us.take k ++ (us.drop k).take (k' - k) := by
    rw [show k' = k + (k' - k) by omega, List.take_add, show k + (k' - k) - k = k' - k by omega]
  have e2 : ∀ j, ((written us tab).drop a).take (Lw us tab j - a) = (written (us.take j) tab).drop a := fun j => by
    rw [written_split us tab j]
    unfold Lw
    rw [← List.drop_take]
    congr 1
    by_cases hj : a ≤ (written (us.take j) tab).length
    · exact List.take_left
    · exact List.take_left
  rw [e2, e2, e1, written_append, List.drop_append_of_le_length h1]
theorem Lw_len (us : List U) (tab : Tab) : Lw us tab us.length = (written us tab).length := by unfold Lw; rw [List.take_length]
def StInv (us : List U) (tab : Tab) (W : List Nat) (k : Nat) (st : St) : Prop :=
  st.1 ≤ Lw us tab k ∧ if aheadOf (markS us) k % 2 = 0 then st.2.1 = none ∧ st.2.2.flatten ++ (W.drop st.1).take (Lw us tab k - st.1) = written (leftTo us (markS us) k) tab
  else ∃ o, o < k ∧ st.2.1 = some (Lw us tab o) ∧ st.1 ≤ Lw us tab o ∧ st.2.2.flatten ++ (W.drop st.1).take (Lw us tab o - st.1) = written (leftTo us (markS us) o) tab ∧
    leftTo us (markS us) k = leftTo us (markS us) o ++ (if aheadOf (markS us) k = (markS us).length then (us.drop o).take (k - o) else [])
theorem take_snoc2 {us : List U} {o k : Nat} {u : U} (h : o ≤ k) (hu : us[k]? = some u) : (us.drop o).take (k + 1 - o) = (us.drop o).take (k - o) ++ [u] := by
  rw [show k + 1 - o = k - o + 1 by omega, List.take_add_one, List.getElem?_drop, show o + (k - o) = k by omega, hu]; rfl
theorem st_inv (us : List U) (tab : Tab) (h34 : tab.lookup 34 = none) : ∀ k, k ≤ us.length → StInv us tab (written us tab) k (stK us tab (written us tab) k)
  | 0, _ => by
    unfold StInv
    rw [ahead_eq us (Nat.zero_le _)]
    simp [marksTo, stK, Lw, leftTo, written]
  | k + 1, hk => by
    have ih := st_inv us tab h34 k (by omega)
    have hk1 : k < us.length := by omega
    obtain ⟨u, hu⟩ : ∃ u, us[k]? = some u := ⟨_, List.getElem?_eq_getElem hk1⟩
    have hL := Lw_succ (tab := tab) hu
    have ha := ahead_eq us (k := k) (by omega)
    have ha1 := ahead_eq us (k := k + 1) hk
    have hmem := marks_mem us us.length k
    have hle1 := aheadOf_le (markS us) (k + 1)
    generalize hW : written us tab = W at *
    have hst : stK us tab W (k + 1) = if us[k]? = some (false, [34]) then stStep W (stK us tab W k) (Lw us tab k, [34]) else stK us tab W k := rfl
    generalize stK us tab W k = st at *
    unfold StInv at ih ⊢
    rw [hst]
    by_cases hm : us[k]? = some (false, [34])
    · have ha2 : aheadOf (markS us) (k + 1) = aheadOf (markS us) k + 1 := by
        rw [ha1, ha, show marksTo us (k + 1) = marksTo us k ++ (if us[k]? = some (false, [34]) then [k] else []) from rfl, if_pos hm]; simp
      have hin : k ∈ markS us := hmem.mpr ⟨hk1, hm⟩
      have hw1 : (wrU tab u).length = 1 := by
        rw [hm] at hu
        have := Option.some.inj hu
        subst this
        simp [wrU, splS, spl, h34]
      rw [if_pos hm, ha2]
      by_cases he : aheadOf (markS us) k % 2 = 0
      · rw [if_pos he] at ih
        obtain ⟨i1, i2, i3⟩ := ih
        rw [if_neg (by omega)]
        have hs : stStep W st (Lw us tab k, [34]) = (st.1, some (Lw us tab k), st.2.2) := by
          unfold stStep; rw [if_pos rfl, i2]
        rw [hs]
        refine ⟨by simp only; omega, k, Nat.lt_succ_self _, rfl, i1, i3, ?_⟩
        show leftTo us (markS us) k ++ _ = _
        congr 1
        have hsh : shownAt (markS us) k = decide (aheadOf (markS us) k + 1 = (markS us).length) := by
          unfold shownAt; rw [if_pos he]; simp [hin]
        rw [hsh]
        by_cases hl : aheadOf (markS us) k + 1 = (markS us).length
        · rw [if_pos hl, if_pos (decide_eq_true hl), hu, take_snoc2 (Nat.le_refl _) hu]; simp
        · rw [if_neg hl, if_neg (by simpa using hl)]
      · rw [if_neg he] at ih
        obtain ⟨i0, o, i1, i2, i3, i4, i5⟩ := ih
        rw [if_pos (by omega)]
        have hs : stStep W st (Lw us tab k, [34]) = (Lw us tab k + 1, none, if st.1 ≠ Lw us tab o then st.2.2 ++ [(W.drop st.1).take (Lw us tab o - st.1)] else st.2.2) := by
          unfold stStep; rw [if_pos rfl, i2]
        rw [hs]
        refine ⟨by simp only; omega, rfl, ?_⟩
        dsimp only
        rw [hL, hw1, Nat.sub_self, List.take_zero, List.append_nil]
        have hne : ¬ aheadOf (markS us) k = (markS us).length := by omega
        rw [if_neg hne, List.append_nil] at i5
        have hl2 : leftTo us (markS us) (k + 1) = leftTo us (markS us) k := by
          refine left_out ?_
          unfold shownAt; rw [if_neg he]; simpa using hne
        rw [hl2, i5, ← i4]
        split
        · simp
        · rename_i hq
          have : st.1 = Lw us tab o := Decidable.not_not.mp hq
          rw [this]; simp
    · have ha2 : aheadOf (markS us) (k + 1) = aheadOf (markS us) k := by
        rw [ha1, ha, show marksTo us (k + 1) = marksTo us k ++ (if us[k]? = some (false, [34]) then [k] else []) from rfl, if_neg hm]; simp
      have hin : k ∉ markS us := fun h => hm (hmem.mp h).2
      rw [if_neg hm, ha2]
      by_cases he : aheadOf (markS us) k % 2 = 0
      · rw [if_pos he] at ih ⊢
        obtain ⟨i1, i2, i3⟩ := ih
        refine ⟨by omega, i2, ?_⟩
        have hsh : shownAt (markS us) k = true := by
          unfold shownAt; rw [if_pos he]; simp [hin]
        rw [left_in hsh hu, written_append, ← i3, List.append_assoc, ← hW, piece us tab i1 (Nat.le_succ k), take_snoc2 (Nat.le_refl k) hu]
        simp
      · rw [if_neg he] at ih ⊢
        obtain ⟨i0, o, i1, i2, i3, i4, i5⟩ := ih
        refine ⟨by omega, o, by omega, i2, i3, i4, ?_⟩
        have hsh : shownAt (markS us) k = decide (aheadOf (markS us) k = (markS us).length) := by
          unfold shownAt; rw [if_neg he]
        by_cases hl : aheadOf (markS us) k = (markS us).length
        · rw [if_pos hl] at i5 ⊢
          rw [left_in (by rw [hsh]; exact decide_eq_true hl) hu, i5, List.append_assoc, take_snoc2 (by omega) hu]
        · rw [if_neg hl] at i5 ⊢
          rw [left_out (by rw [hsh]; simpa using hl), i5]
theorem mem_written (us : List U) (tab : Tab) (h34 : tab.lookup 34 = none) {k : Nat} (h : us[k]? = some (false, [34])) : 34 ∈ written us tab := by
  have hm := List.mem_of_getElem? h
  unfold written
  rw [List.mem_flatMap]
  exact ⟨_, hm, by simp [wrU, splS, spl, h34]⟩
/-- no marks: all is left -/
theorem left_all (us : List U) (h : ∀ k : Nat, us[k]? ≠ some (false, [34])) : leftOf us = us := by
  have hms : markS us = [] := by
    cases hq : markS us with
    | nil => rfl
    | cons m r =>
      have : m ∈ marksTo us us.length := by show m ∈ markS us; rw [hq]; exact .head _
      exact absurd ((marks_mem us _ m).mp this).2 (h m)
  unfold leftOf
  rw [hms]
  have : ∀ i, i ≤ us.length → leftTo us [] i = us.take i := by
    intro i
    induction i with
    | zero => intro _; simp [leftTo]
    | succ i ih =>
      intro hi
      obtain ⟨u, hu⟩ : ∃ u, us[i]? = some u := ⟨_, List.getElem?_eq_getElem (by omega)⟩
      rw [left_in (by simp [shownAt, aheadOf]) hu, ih (by omega), List.take_add_one, hu]; rfl
  rw [this _ (Nat.le_refl _), List.take_length]
/-- what is stripped of a writing, where the marks stay marks -/
theorem strip_left {tab : Tab} (ok : TabOk tab) (h34 : tab.lookup 34 = none) (us : List U) (hp : Proper us) : stripS (written us tab) = written (leftOf us) tab := by
  unfold stripS
  by_cases hn : 34 ∉ written us tab
  · rw [if_pos hn, left_all us fun k hk => hn (mem_written us tab h34 hk)]
  · rw [if_neg hn]
    have hE : stripE (written us tab) = stK us tab (written us tab) us.length := by
      unfold stripE
      rw [items_units ok h34 _ us 0 _ hp]
      have := fold_K us tab (written us tab) us.length 0 (by omega)
      rw [List.drop_zero] at this
      exact this
    rw [hE]
    have hi := st_inv us tab h34 us.length (Nat.le_refl _)
    have hLl := Lw_len us tab
    generalize stK us tab (written us tab) us.length = st at *
    obtain ⟨i0, hi⟩ := hi
    have ha : aheadOf (markS us) us.length = (markS us).length := by rw [ahead_eq us (Nat.le_refl _)]; rfl
    have hout : (if st.1 < (written us tab).length then st.2.2 ++ [(written us tab).drop st.1] else st.2.2).flatten = st.2.2.flatten ++ (written us tab).drop st.1 := by
      split
      · simp
      · rw [List.drop_eq_nil_of_le (by omega), List.append_nil]
    rw [hout]
    split at hi
    · obtain ⟨i2, i3⟩ := hi
      rw [hLl, List.take_of_length_le (by rw [List.length_drop]; omega)] at i3
      exact i3
    · obtain ⟨o, i1, i2, i3, i4, i5⟩ := hi
      try rw [if_pos ha] at i5
      unfold leftOf
      rw [i5, written_append, ← i4, List.append_assoc]
      congr 1
      have := piece us tab (a := st.1) i3 (Nat.le_of_lt i1)
      rw [hLl, List.take_of_length_le (by rw [List.length_drop]; omega)] at this
      exact this
/-- .. and where they are spelled -/
theorem strip_none {tab : Tab} (ok : TabOk tab) (h34 : tab.lookup 34 ≠ none) (us : List U) (hp : Proper us) : stripS (written us tab) = written us tab := by
  unfold stripS
  rw [if_pos]
  intro h
  unfold written at h
  rw [List.mem_flatMap] at h
  obtain ⟨u, hu, hx⟩ := h
  obtain ⟨j, hj⟩ := List.getElem?_of_mem hu
  have hs : ∀ c, 34 ∉ spl tab c := fun c hq => by
    rcases spl_cases tab ok c with ⟨hi, e⟩ | ⟨hi, hn, hs⟩
    · rw [e] at hq
      have : 34 = c := by simpa using hq
      subst this
      exact h34 (by simpa [inTab] using hi)
    · exact (hs 34 hq).2.1 rfl
  rcases (proper_get us j u hp hj).2 with hf | rfl
  · match u, hf with
    | (true, [c]), _ =>
      simp only [wrU, splS, if_true, List.mem_append, List.mem_singleton] at hx
      rcases hx with hx | hx
      · cases hx
      · exact hs c hx
    | (false, [c]), _ => exact hs c (by simpa [wrU, splS] using hx)
    | (true, []), hf => exact hf.elim
    | (false, []), hf => exact hf.elim
    | (true, _ :: _ :: _), hf => exact hf.elim
    | (false, _ :: _ :: _), hf => exact hf.elim
  · simp [wrU, splS] at hx
end

-- part M1
section
/-- an iterator of one object of its own -/
structure Itr (w : World) (A : Around) (I : Addr) (n : Nat) (item : Nat → Value → Prop) (St : Nat → Obj → Prop) (need : List (Addr × Obj)) : Prop where
  item : ∀ (i : Nat) (o : Obj) (s : Shared) (Q : Option Value → Shared → Prop) (E : Value → Shared → Prop), i < n → s.heap.get? I = some o → St i o → (∀ p ∈ need, s.heap.get? p.1 = some p.2) →
    (∀ v o' h' tk', item i v → h'.get? I = some o' → St (i + 1) o' → (∀ b ob, b ≠ I → s.heap.get? b = some ob → h'.get? b = some ob) → Q (some v) { s with heap := h', toks := tk' }) →
    wpAny (model PySem.Challenge.rw_tr0040_01.row.prog w) A (pyNext (.ref I)) Q E s
  done : ∀ (o : Obj) (s : Shared) (Q : Option Value → Shared → Prop) (E : Value → Shared → Prop), s.heap.get? I = some o → St n o → (∀ p ∈ need, s.heap.get? p.1 = some p.2) →
    (∀ h' tk', (∀ b ob, b ≠ I → s.heap.get? b = some ob → h'.get? b = some ob) → Q none { s with heap := h', toks := tk' }) →
    wpAny (model PySem.Challenge.rw_tr0040_01.row.prog w) A (pyNext (.ref I)) Q E s
  lets : ∀ (i : Nat) (o : Obj) (t : Expr) (v : Value) (s : Shared) (Q : Unit → Shared → Prop) (E : Value → Shared → Prop), s.heap.get? I = some o → St i o → Q () s →
    wpAny (model PySem.Challenge.rw_tr0040_01.row.prog w) A (letOwnedTupleGo t (.ref I) v) Q E s

theorem lets_plain {M : Model} {A : Around} {I : Addr} {o : Obj} {t : Expr} {v : Value} {s : Shared} {Q : Unit → Shared → Prop} {E : Value → Shared → Prop} {T : String} (ho : s.heap.get? I = some o) (hc : o.cls = .type T)
    (hT : (["enumerate", "zip", "dict_itemiterator", "dict_reverseitemiterator", "odict_iterator", "itertools.zip_longest", "itertools.pairwise"].contains T) = false) (h : Q () s) : wpAny M A (letOwnedTupleGo t (.ref I) v) Q E s := by
  obtain ⟨c, d, da, sl⟩ := o
  dsimp only at hc
  subst hc
  have main : wpAny M A (do
      let (.ref r, .ref a) := (Value.ref I, v) | return
      let o ← load r
      match o.cls, o.data with
      | .type n, .fields vs =>
        if ["enumerate", "zip", "dict_itemiterator", "dict_reverseitemiterator", "odict_iterator", "itertools.zip_longest", "itertools.pairwise"].contains n && vs[0]? == some (rawInt a) then
          rule "for.unpacks-the-owned-tuple"
          updateField r 0 .none
      | _, _ => pure ()) Q E s := by
    cases v with
    | ref a =>
      refine wpAny_bind (wpAny_load ho ?_)
      dsimp only
      cases da with
      | fields vs => simp only [hT, Bool.false_and, Bool.false_eq_true, if_false]; exact wpAny_pure h
      | _ => exact wpAny_pure h
    | _ => exact wpAny_pure h
  cases t with
  | Tuple es k p => exact main
  | List es p => exact main
  | _ => exact wpAny_pure h

theorem Itr.list {w : World} {A : Around} (hh : A.handled = none) (I l : Addr) (vs : List Value) (nn : Nat) (_hne : l ≠ I) :
    Itr w A I vs.length (fun i v => vs[i]? = some v) (fun i o => o.cls = .type "list_iterator" ∧ o.data = .fields #[.ref l, .int i 0]) [(l, listOf vs.toArray nn)] where
  item := fun i o s Q E hi ho hst hn hQ => by
    have hl : s.heap.IsList l vs.toArray := ⟨_, hn _ (List.mem_singleton.mpr rfl), rfl, nn, rfl⟩
    refine wpAny_pyNext_list_item ⟨o, ho, hst⟩ hl (x := vs[i]) (by simp [hi]) fun h' hit' hs' => ?_
    obtain ⟨o', ho', h1⟩ := hit'
    exact hQ _ o' h' s.toks (by simp [hi]) ho' h1 fun b ob hb e => hs'.extBut b ob hb e
  done := fun o s Q E ho hst hn hQ => by
    have hl : s.heap.IsList l vs.toArray := ⟨_, hn _ (List.mem_singleton.mpr rfl), rfl, nn, rfl⟩
    exact wpAny_pyNext_list_end hh ⟨o, ho, hst⟩ hl (by simp) fun h' he' => hQ h' s.toks fun b ob hb e => he' b ob hb e
  lets := fun i o t v s Q E ho hst hQ => lets_plain ho hst.1 (by decide) hQ

theorem Itr.range {w : World} {A : Around} (hh : A.handled = none) (I : Addr) (a c : Int) (n : Nat) :
    Itr w A I n (fun i v => ∃ t, v = .int (a + i * c) t) (fun i o => o = { cls := .type "range_iterator", dict := none, data := .fields #[rawInt (a + (i : Nat) * c), rawInt ((n : Int) - (i : Nat)), rawInt c], slots := #[] }) [] where
  item := fun i o s Q E hi ho hst hn hQ => by
    subst hst
    refine wpAny_pyNext_range_item ho (by omega) fun h' hit' hs' => ?_
    refine hQ _ _ h' _ ⟨_, rfl⟩ hit' ?_ fun b ob hb e => hs'.extBut b ob hb e
    have e1 : a + ((i + 1 : Nat) : Int) * c = a + (i : Int) * c + c := by push_cast; rw [Int.add_mul, Int.one_mul, Int.add_assoc]
    have e2 : (n : Int) - ((i + 1 : Nat) : Int) = (n : Int) - (i : Int) - 1 := by push_cast; omega
    rw [e1, e2]
  done := fun o s Q E ho hst hn hQ => by
    subst hst
    exact wpAny_pyNext_range_end hh ho (by omega) fun h' he' => hQ h' s.toks fun b ob hb e => he' b ob hb e
  lets := fun i o t v s Q E ho hst hQ => by subst hst; exact lets_plain ho rfl (by decide) hQ

/-- a turn's end: the state -/
inductive TEnd (h₀ : Heap) (L : Addr) (I : Addr) (oI : Obj) (gs : Array GenState) (dr : Drawn) (os : OsState) (J : (Str → Option Value) → List (Addr × Obj) → Prop) (s : Shared) : Prop
  | mk (h' : Heap) (tk' : Nat) (m' : Str → Option Value) (nx : List (Addr × Obj)) (e : s = ⟨h', gs, dr, tk', os⟩) (F : Fr h₀ L h' m') (N : News h₀ L h' ((I, oI) :: nx)) (off : ∀ p ∈ nx, p.1 ≠ I) (j : J m' nx) : TEnd h₀ L I oI gs dr os J s
/-- a turn's end -/
def TurnEnd (h₀ : Heap) (L : Addr) (I : Addr) (oI : Obj) (gs : Array GenState) (dr : Drawn) (os : OsState) (J : (Str → Option Value) → List (Addr × Obj) → Prop) (Q : Flow → Shared → Prop) (f : Flow) (s : Shared) : Prop :=
  match f with
  | .next | .cont => TEnd h₀ L I oI gs dr os J s
  | .brk => Q .next s
  | .ret v => Q (.ret v) s

/-- a loop's state by its turn -/
inductive ForI (h₀ : Heap) (L I : Addr) (n : Nat) (gs : Array GenState) (dr : Drawn) (os : OsState) (St : Nat → Obj → Prop) (J : Nat → (Str → Option Value) → List (Addr × Obj) → Prop) (k : Nat) (s : Shared) : Prop
  | mk (i : Nat) (h : Heap) (t : Nat) (m₁ : Str → Option Value) (nx₁ : List (Addr × Obj)) (oI : Obj) (ek : k = n - i) (hi : i ≤ n) (es : s = ⟨h, gs, dr, t, os⟩) (F : Fr h₀ L h m₁) (N : News h₀ L h ((I, oI) :: nx₁)) (off : ∀ p ∈ nx₁, p.1 ≠ I) (st : St i oI) (j : J i m₁ nx₁) : ForI h₀ L I n gs dr os St J k s
theorem for_it {w : World} {A : Around} {env : Env} {target : Expr} {body : List Stmt} {I : Addr} {n : Nat} {item : Nat → Value → Prop} {St : Nat → Obj → Prop} {need : List (Addr × Obj)} {R : Result → Shared → Prop}
    {h₀ hp : Heap} {gs : Array GenState} {dr : Drawn} {os : OsState} {tk : Nat} {m : Str → Option Value} {nx : List (Addr × Obj)} {o₀ : Obj}
    (W : Itr w A I n item St need) (J : Nat → (Str → Option Value) → List (Addr × Obj) → Prop) (Q : Flow → Shared → Prop)
    (F : Fr h₀ env.locals hp m) (N : News h₀ env.locals hp ((I, o₀) :: nx)) (hoff : ∀ p ∈ nx, p.1 ≠ I) (hst : St 0 o₀) (hj : J 0 m nx) (hneed : ∀ i m nx, J i m nx → ∀ p ∈ need, p ∈ nx)
    (hRn : ∀ s, Q .next s → R (.ok .next) s) (hRr : ∀ v s, Q (.ret v) s → R (.ok (.ret v)) s)
    (turn : ∀ i v m₁ nx₁ oI h t, i < n → item i v → J i m₁ nx₁ → (∀ p ∈ nx₁, p.1 ≠ I) → Fr h₀ env.locals h m₁ → News h₀ env.locals h ((I, oI) :: nx₁) →
      wpAny (model PySem.Challenge.rw_tr0040_01.row.prog w) A (assign target env v) (fun _ s₂ => wpAny (model PySem.Challenge.rw_tr0040_01.row.prog w) A (execs body env) (TurnEnd h₀ env.locals I oI gs dr os (J (i + 1)) Q) (fun _ _ => False) s₂) (fun _ _ => False) ⟨h, gs, dr, t, os⟩)
    (done : ∀ m₁ nx₁ h t, J n m₁ nx₁ → Fr h₀ env.locals h m₁ → News h₀ env.locals h nx₁ → Q .next ⟨h, gs, dr, t, os⟩) :
    codeAny (model PySem.Challenge.rw_tr0040_01.row.prog w) A (.forLoop target (.ref I) body [] env) R ⟨hp, gs, dr, tk, os⟩ := by
  refine codeAny_forLoop_any (ForI h₀ env.locals I n gs dr os St J) ?_ n
    ⟨0, hp, tk, m, nx, o₀, by omega, by omega, rfl, F, N, hoff, hst, hj⟩
  rintro k s ⟨i, h, t, m₁, nx₁, oI, rfl, hi, rfl, F₁, N₁, hoff₁, hst₁, hj₁⟩
  have hIo : h.get? I = some oI := (N₁ _ (.head _)).1
  have hneed₁ : ∀ p ∈ need, h.get? p.1 = some p.2 := fun p hp => (N₁ p (.tail _ (hneed _ _ _ hj₁ p hp))).1
  have hIL : I ≠ env.locals := (N₁ _ (.head _)).2.1
  have hI0 : h₀.get? I = none := (N₁ _ (.head _)).2.2
  have keepF : ∀ h', (∀ b ob, b ≠ I → h.get? b = some ob → h'.get? b = some ob) → Fr h₀ env.locals h' m₁ := fun h' hk => by
    obtain ⟨oL, es, ep, hL, r⟩ := F₁.ns
    exact ⟨⟨oL, es, ep, hk _ _ (Ne.symm hIL) hL, r⟩, fun b o e => hk b o (fun q => by rw [q, hI0] at e; cases e) (F₁.keep b o e), F₁.above⟩
  have keepN : ∀ h', (∀ b ob, b ≠ I → h.get? b = some ob → h'.get? b = some ob) → News h₀ env.locals h' nx₁ := fun h' hk p hp => ⟨hk _ _ (hoff₁ p hp) (N₁ p (.tail _ hp)).1, (N₁ p (.tail _ hp)).2⟩
  by_cases hlt : i < n
  · refine W.item i oI _ _ _ hlt hIo hst₁ hneed₁ fun v o' h' tk' hv ho' hst' hk => ?_
    dsimp only
    have hl' := W.lets (i + 1) o' target v ⟨h', gs, dr, tk', os⟩ (fun _ s => s = ⟨h', gs, dr, tk', os⟩) (fun _ _ => False) ho' hst' rfl
    refine wpAny_mono hl' (fun _ s' e => ?_) fun _ _ x => x.elim
    subst e
    have N' : News h₀ env.locals h' ((I, o') :: nx₁) := fun p hp => by
      rcases List.mem_cons.mp hp with rfl | hp
      · exact ⟨ho', hIL, hI0⟩
      · exact keepN h' hk p hp
    refine wpAny_mono (turn i v m₁ nx₁ o' h' tk' hlt hv hj₁ hoff₁ (keepF h' hk) N') (fun _ s₂ h₂ => ?_) fun _ _ x => x.elim
    refine wpAny_mono h₂ (fun f s₃ h₃ => ?_) fun _ _ x => x.elim
    cases f with
    | ret v => exact hRr _ _ h₃
    | brk => exact hRn _ h₃
    | next =>
      obtain ⟨h'', tk'', m', nx', rfl, F'', N'', hoff'', hj''⟩ := h₃
      exact ⟨n - (i + 1), by omega, i + 1, h'', tk'', m', nx', o', rfl, by omega, rfl, F'', N'', hoff'', hst', hj''⟩
    | cont =>
      obtain ⟨h'', tk'', m', nx', rfl, F'', N'', hoff'', hj''⟩ := h₃
      exact ⟨n - (i + 1), by omega, i + 1, h'', tk'', m', nx', o', rfl, by omega, rfl, F'', N'', hoff'', hst', hj''⟩
  · have hin : i = n := by omega
    subst hin
    refine W.done oI _ _ _ hIo hst₁ hneed₁ fun h' tk' hk => ?_
    exact wpAny_execs_nil (hRn _ (done m₁ nx₁ h' tk' hj₁ (keepF h' hk) (keepN h' hk)))
def ForR (Q : Flow → Shared → Prop) (r : Result) (s : Shared) : Prop := match r with
  | .ok f => Q f s
  | .error _ => False
theorem for_any {M : Model} {A : Around} {env : Env} {s : Shared} {target iter : Expr} {body : List Stmt} {pos : Pos} {Q : Flow → Shared → Prop} {E : Value → Shared → Prop}
    (h : wpAny M A (eval iter env) (fun xv s₁ => wpAny M A (pyIter xv) (fun it s₂ => codeAny M A (.forLoop target it body [] env) (ForR Q) s₂) (fun _ _ => False) s₁) (fun _ _ => False) s)
    (hs : ∀ x, foldedSetIterable iter env x = pure x := by intro _; rfl) :
    wpAny M A (exec (.For target iter body [] pos) env) Q E s :=
  wpAny_For (wpAny_mono h (fun _ _ h₁ => wpAny_mono h₁ (fun _ _ h₂ => codeAny_mono h₂ fun r s' hr => by
    cases r with
    | ok f => exact hr
    | error e => exact hr.elim) fun _ _ x => x.elim) fun _ _ x => x.elim) hs

section
variable {w : World} {A : Around} {env : Env} {target : Expr} {body : List Stmt} {h₀ hp : Heap} {gs : Array GenState} {dr : Drawn} {os : OsState} {tk : Nat} {m : Str → Option Value} {led : List (Addr × Obj)} {Q : Flow → Shared → Prop} {E : Value → Shared → Prop}

theorem it_list {l : Addr} {vs : List Value} {nn : Nat} (hh : A.handled = none) (F : Fr h₀ env.locals hp m) (N : News h₀ env.locals hp led) (hl : (l, listOf vs.toArray nn) ∈ led)
    (J : Nat → (Str → Option Value) → List (Addr × Obj) → Prop) (hj : J 0 m led) (hneed : ∀ i m nx, J i m nx → (l, listOf vs.toArray nn) ∈ nx)
    (turn : ∀ i v m₁ nx₁ I oI h t, vs[i]? = some v → J i m₁ nx₁ → (∀ p ∈ nx₁, p.1 ≠ I) → Fr h₀ env.locals h m₁ → News h₀ env.locals h ((I, oI) :: nx₁) →
      wpAny (model PySem.Challenge.rw_tr0040_01.row.prog w) A (assign target env v) (fun _ s₂ => wpAny (model PySem.Challenge.rw_tr0040_01.row.prog w) A (execs body env) (TurnEnd h₀ env.locals I oI gs dr os (J (i + 1)) Q) (fun _ _ => False) s₂) (fun _ _ => False) ⟨h, gs, dr, t, os⟩)
    (done : ∀ m₁ nx₁ h t, J vs.length m₁ nx₁ → Fr h₀ env.locals h m₁ → News h₀ env.locals h nx₁ → Q .next ⟨h, gs, dr, t, os⟩) :
    wpAny (model PySem.Challenge.rw_tr0040_01.row.prog w) A (pyIter (.ref l)) (fun it s₂ => codeAny (model PySem.Challenge.rw_tr0040_01.row.prog w) A (.forLoop target it body [] env) (ForR Q) s₂) E ⟨hp, gs, dr, tk, os⟩ := by
  have ho : hp.get? l = some (listOf vs.toArray nn) := (N _ hl).1
  have hlt : l < hp.objs.size := Heap.lt_size ho
  refine wpAny_pyIter_list (s := ⟨hp, gs, dr, tk, os⟩) ⟨_, ho, rfl, nn, rfl⟩ ?_
  refine for_it (Itr.list hh hp.objs.size l vs nn (Nat.ne_of_lt hlt)) J Q (F.push _) (N.push F _) (fun p hp' => Nat.ne_of_lt (Heap.lt_size (N p hp').1)) ⟨rfl, rfl⟩ hj ?_ (fun _ x => x) (fun _ _ x => x) ?_ done
  · intro i m nx hJ p hp'
    rw [List.mem_singleton.mp hp']
    exact hneed i m nx hJ
  · intro i v m₁ nx₁ oI h t _ hv hJ ho' F' N'
    exact turn i v m₁ nx₁ _ oI h t hv hJ ho' F' N'

theorem it_range {r : Addr} {a b c : Int} {t₀ u₀ v₀ : Tok} {n : Nat} (hh : A.handled = none) (F : Fr h₀ env.locals hp m) (N : News h₀ env.locals hp led) (hr : IsRange hp r a b c t₀ u₀ v₀)
    (hsmall : Builtin.Range.small a b c = true) (hsz : Builtin.Range.rangeSize a b c = (n : Int))
    (J : Nat → (Str → Option Value) → List (Addr × Obj) → Prop) (hj : J 0 m led)
    (turn : ∀ i tv m₁ nx₁ I oI h t, i < n → J i m₁ nx₁ → (∀ p ∈ nx₁, p.1 ≠ I) → Fr h₀ env.locals h m₁ → News h₀ env.locals h ((I, oI) :: nx₁) →
      wpAny (model PySem.Challenge.rw_tr0040_01.row.prog w) A (assign target env (.int (a + i * c) tv)) (fun _ s₂ => wpAny (model PySem.Challenge.rw_tr0040_01.row.prog w) A (execs body env) (TurnEnd h₀ env.locals I oI gs dr os (J (i + 1)) Q) (fun _ _ => False) s₂) (fun _ _ => False) ⟨h, gs, dr, t, os⟩)
    (done : ∀ m₁ nx₁ h t, J n m₁ nx₁ → Fr h₀ env.locals h m₁ → News h₀ env.locals h nx₁ → Q .next ⟨h, gs, dr, t, os⟩) :
    wpAny (model PySem.Challenge.rw_tr0040_01.row.prog w) A (pyIter (.ref r)) (fun it s₂ => codeAny (model PySem.Challenge.rw_tr0040_01.row.prog w) A (.forLoop target it body [] env) (ForR Q) s₂) E ⟨hp, gs, dr, tk, os⟩ := by
  refine wpAny_pyIter_range (s := ⟨hp, gs, dr, tk, os⟩) hr hsmall ?_
  refine for_it (Itr.range hh hp.objs.size a c n) J Q (F.push _) (N.push F _) (fun p hp' => Nat.ne_of_lt (Heap.lt_size (N p hp').1)) ?_ hj ?_ (fun _ x => x) (fun _ _ x => x) ?_ done
  · rw [hsz]; simp
  · intro _ _ _ _ p hp'; cases hp'
  · rintro i v m₁ nx₁ oI h t hi ⟨tv, rfl⟩ hJ ho' F' N'
    exact turn i tv m₁ nx₁ _ oI h t hi hJ ho' F' N'
end
inductive WEnd (h₀ : Heap) (L : Addr) (gs : Array GenState) (dr : Drawn) (os : OsState) (J : (Str → Option Value) → List (Addr × Obj) → Prop) (s : Shared) : Prop
  | mk (h' : Heap) (tk' : Nat) (m' : Str → Option Value) (nx : List (Addr × Obj)) (e : s = ⟨h', gs, dr, tk', os⟩) (F : Fr h₀ L h' m') (N : News h₀ L h' nx) (j : J m' nx) : WEnd h₀ L gs dr os J s
/-- a while's turn: its end -/
def WhileEnd (h₀ : Heap) (L : Addr) (gs : Array GenState) (dr : Drawn) (os : OsState) (J : (Str → Option Value) → List (Addr × Obj) → Prop) (Q : Flow → Shared → Prop) (f : Flow) (s : Shared) : Prop :=
  match f with
  | .next | .cont => WEnd h₀ L gs dr os J s
  | .brk => Q .next s
  | .ret v => Q (.ret v) s
theorem while_any {w : World} {A : Around} {env : Env} {test : Expr} {body : List Stmt} {pos : Pos} {h₀ hp : Heap} {gs : Array GenState} {dr : Drawn} {os : OsState} {tk : Nat} {m : Str → Option Value} {led : List (Addr × Obj)} {Q : Flow → Shared → Prop} {E : Value → Shared → Prop}
    (J : Nat → (Str → Option Value) → List (Addr × Obj) → Prop) (n : Nat) (F : Fr h₀ env.locals hp m) (N : News h₀ env.locals hp led) (hj : J n m led)
    (turn : ∀ n m₁ nx₁ h t, J n m₁ nx₁ → Fr h₀ env.locals h m₁ → News h₀ env.locals h nx₁ →
      wpAny (model PySem.Challenge.rw_tr0040_01.row.prog w) A (isTrue test env (eval test env)) (fun b s₂ => if b = true then wpAny (model PySem.Challenge.rw_tr0040_01.row.prog w) A (execs body env) (WhileEnd h₀ env.locals gs dr os (fun m' nx' => ∃ k, k < n ∧ J k m' nx') Q) (fun _ _ => False) s₂ else Q .next s₂) (fun _ _ => False) ⟨h, gs, dr, t, os⟩) :
    wpAny (model PySem.Challenge.rw_tr0040_01.row.prog w) A (exec (.While test body [] pos) env) Q E ⟨hp, gs, dr, tk, os⟩ := by
  have hc : codeAny (model PySem.Challenge.rw_tr0040_01.row.prog w) A (.whileLoop test body [] env) (ForR Q) ⟨hp, gs, dr, tk, os⟩ := by
    refine codeAny_whileLoop (fun k s => WEnd h₀ env.locals gs dr os (J k) s) ?_ n ⟨hp, tk, m, led, rfl, F, N, hj⟩
    rintro k s ⟨h, t, m₁, nx₁, rfl, F₁, N₁, hj₁⟩
    refine wpAny_mono (turn k m₁ nx₁ h t hj₁ F₁ N₁) (fun b s₂ h₂ => ?_) fun _ _ x => x.elim
    cases b with
    | true =>
      simp only [if_true] at h₂ ⊢
      refine wpAny_mono h₂ (fun f s₃ h₃ => ?_) fun _ _ x => x.elim
      cases f with
      | ret v => exact h₃
      | brk => exact h₃
      | next =>
        obtain ⟨h', tk', m', nx', rfl, F', N', j, hlt, hj'⟩ := h₃
        exact ⟨j, hlt, h', tk', m', nx', rfl, F', N', hj'⟩
      | cont =>
        obtain ⟨h', tk', m', nx', rfl, F', N', j, hlt, hj'⟩ := h₃
        exact ⟨j, hlt, h', tk', m', nx', rfl, F', N', hj'⟩
    | false =>
      simp only [Bool.false_eq_true, if_false] at h₂ ⊢
      exact wpAny_execs_nil h₂
  exact wpAny_While (codeAny_mono hc fun r s' hr => by
    cases r with
    | ok f => exact hr
    | error e => exact hr.elim)
end

-- part MFor
section
inductive TEndG (h₀ : Heap) (L : Addr) (I : Addr) (oI : Obj) (PG : Array GenState → Prop) (dr : Drawn) (os : OsState) (J : (Str → Option Value) → List (Addr × Obj) → Prop) (s : Shared) : Prop
  | mk (h' : Heap) (gs' : Array GenState) (tk' : Nat) (m' : Str → Option Value) (nx : List (Addr × Obj)) (e : s = ⟨h', gs', dr, tk', os⟩) (pg : PG gs') (F : Fr h₀ L h' m') (N : News h₀ L h' ((I, oI) :: nx)) (off : ∀ p ∈ nx, p.1 ≠ I) (j : J m' nx) : TEndG h₀ L I oI PG dr os J s
/-- a turn's end, where generators may have been made -/
def TurnEndG (h₀ : Heap) (L : Addr) (I : Addr) (oI : Obj) (PG : Array GenState → Prop) (dr : Drawn) (os : OsState) (J : (Str → Option Value) → List (Addr × Obj) → Prop) (Q : Flow → Shared → Prop) (f : Flow) (s : Shared) : Prop :=
  match f with
  | .next | .cont => TEndG h₀ L I oI PG dr os J s
  | .brk => Q .next s
  | .ret v => Q (.ret v) s
inductive ForIG (h₀ : Heap) (L I : Addr) (n : Nat) (PG : Array GenState → Prop) (dr : Drawn) (os : OsState) (St : Nat → Obj → Prop) (J : Nat → (Str → Option Value) → List (Addr × Obj) → Prop) (k : Nat) (s : Shared) : Prop
  | mk (i : Nat) (h : Heap) (gs : Array GenState) (t : Nat) (m₁ : Str → Option Value) (nx₁ : List (Addr × Obj)) (oI : Obj) (ek : k = n - i) (hi : i ≤ n) (es : s = ⟨h, gs, dr, t, os⟩) (pg : PG gs) (F : Fr h₀ L h m₁) (N : News h₀ L h ((I, oI) :: nx₁)) (off : ∀ p ∈ nx₁, p.1 ≠ I) (st : St i oI) (j : J i m₁ nx₁) : ForIG h₀ L I n PG dr os St J k s
theorem for_itG {w : World} {A : Around} {env : Env} {target : Expr} {body : List Stmt} {I : Addr} {n : Nat} {item : Nat → Value → Prop} {Sx : Nat → Obj → Prop} {need : List (Addr × Obj)} {R : Result → Shared → Prop}
    {h₀ hp : Heap} {gs : Array GenState} {PG : Array GenState → Prop} {dr : Drawn} {os : OsState} {tk : Nat} {m : Str → Option Value} {nx : List (Addr × Obj)} {o₀ : Obj}
    (W : Itr w A I n item Sx need) (J : Nat → (Str → Option Value) → List (Addr × Obj) → Prop) (Q : Flow → Shared → Prop)
    (F : Fr h₀ env.locals hp m) (N : News h₀ env.locals hp ((I, o₀) :: nx)) (hoff : ∀ p ∈ nx, p.1 ≠ I) (hst : Sx 0 o₀) (hg : PG gs) (hj : J 0 m nx) (hneed : ∀ i m nx, J i m nx → ∀ p ∈ need, p ∈ nx)
    (hRn : ∀ s, Q .next s → R (.ok .next) s) (hRr : ∀ v s, Q (.ret v) s → R (.ok (.ret v)) s)
    (turn : ∀ i v m₁ nx₁ oI h gs t, i < n → item i v → Sx (i + 1) oI → PG gs → J i m₁ nx₁ → (∀ p ∈ nx₁, p.1 ≠ I) → Fr h₀ env.locals h m₁ → News h₀ env.locals h ((I, oI) :: nx₁) →
      wpAny (model PySem.Challenge.rw_tr0040_01.row.prog w) A (assign target env v) (fun _ s₂ => wpAny (model PySem.Challenge.rw_tr0040_01.row.prog w) A (execs body env) (TurnEndG h₀ env.locals I oI PG dr os (J (i + 1)) Q) (fun _ _ => False) s₂) (fun _ _ => False) ⟨h, gs, dr, t, os⟩)
    (done : ∀ m₁ nx₁ h gs t, PG gs → J n m₁ nx₁ → Fr h₀ env.locals h m₁ → News h₀ env.locals h nx₁ → Q .next ⟨h, gs, dr, t, os⟩) :
    codeAny (model PySem.Challenge.rw_tr0040_01.row.prog w) A (.forLoop target (.ref I) body [] env) R ⟨hp, gs, dr, tk, os⟩ := by
  refine codeAny_forLoop_any (ForIG h₀ env.locals I n PG dr os Sx J) ?_ n
    ⟨0, hp, gs, tk, m, nx, o₀, by omega, by omega, rfl, hg, F, N, hoff, hst, hj⟩
  rintro k s ⟨i, h, gs, t, m₁, nx₁, oI, rfl, hi, rfl, hg₁, F₁, N₁, hoff₁, hst₁, hj₁⟩
  have hIo : h.get? I = some oI := (N₁ _ (.head _)).1
  have hneed₁ : ∀ p ∈ need, h.get? p.1 = some p.2 := fun p hp => (N₁ p (.tail _ (hneed _ _ _ hj₁ p hp))).1
  have hIL : I ≠ env.locals := (N₁ _ (.head _)).2.1
  have hI0 : h₀.get? I = none := (N₁ _ (.head _)).2.2
  have keepF : ∀ h', (∀ b ob, b ≠ I → h.get? b = some ob → h'.get? b = some ob) → Fr h₀ env.locals h' m₁ := fun h' hk => by
    obtain ⟨oL, es, ep, hL, r⟩ := F₁.ns
    exact ⟨⟨oL, es, ep, hk _ _ (Ne.symm hIL) hL, r⟩, fun b o e => hk b o (fun q => by rw [q, hI0] at e; cases e) (F₁.keep b o e), F₁.above⟩
  have keepN : ∀ h', (∀ b ob, b ≠ I → h.get? b = some ob → h'.get? b = some ob) → News h₀ env.locals h' nx₁ := fun h' hk p hp => ⟨hk _ _ (hoff₁ p hp) (N₁ p (.tail _ hp)).1, (N₁ p (.tail _ hp)).2⟩
  by_cases hlt : i < n
  · refine W.item i oI _ _ _ hlt hIo hst₁ hneed₁ fun v o' h' tk' hv ho' hst' hk => ?_
    dsimp only
    have hl' := W.lets (i + 1) o' target v ⟨h', gs, dr, tk', os⟩ (fun _ s => s = ⟨h', gs, dr, tk', os⟩) (fun _ _ => False) ho' hst' rfl
    refine wpAny_mono hl' (fun _ s' e => ?_) fun _ _ x => x.elim
    subst e
    have N' : News h₀ env.locals h' ((I, o') :: nx₁) := fun p hp => by
      rcases List.mem_cons.mp hp with rfl | hp
      · exact ⟨ho', hIL, hI0⟩
      · exact keepN h' hk p hp
    refine wpAny_mono (turn i v m₁ nx₁ o' h' gs tk' hlt hv hst' hg₁ hj₁ hoff₁ (keepF h' hk) N') (fun _ s₂ h₂ => ?_) fun _ _ x => x.elim
    refine wpAny_mono h₂ (fun f s₃ h₃ => ?_) fun _ _ x => x.elim
    cases f with
    | ret v => exact hRr _ _ h₃
    | brk => exact hRn _ h₃
    | next =>
      obtain ⟨h'', gs'', tk'', m', nx', rfl, hg'', F'', N'', hoff'', hj''⟩ := h₃
      exact ⟨n - (i + 1), by omega, i + 1, h'', gs'', tk'', m', nx', o', rfl, by omega, rfl, hg'', F'', N'', hoff'', hst', hj''⟩
    | cont =>
      obtain ⟨h'', gs'', tk'', m', nx', rfl, hg'', F'', N'', hoff'', hj''⟩ := h₃
      exact ⟨n - (i + 1), by omega, i + 1, h'', gs'', tk'', m', nx', o', rfl, by omega, rfl, hg'', F'', N'', hoff'', hst', hj''⟩
  · have hin : i = n := by omega
    subst hin
    refine W.done oI _ _ _ hIo hst₁ hneed₁ fun h' tk' hk => ?_
    exact wpAny_execs_nil (hRn _ (done m₁ nx₁ h' gs tk' hg₁ hj₁ (keepF h' hk) (keepN h' hk)))
/-- no code object: its second field is no text -/
def NoStr (o : Obj) : Prop := ∀ vs, o.data = .fields vs → ∀ (q : Str) (t : Tok), vs[1]? ≠ some (.str q t)
theorem it_rangeG {w : World} {A : Around} {env : Env} {target : Expr} {body : List Stmt} {h₀ hp : Heap} {gs : Array GenState} (PG : Array GenState → Prop) {dr : Drawn} {os : OsState} {tk : Nat} {m : Str → Option Value} {led : List (Addr × Obj)} {Q : Flow → Shared → Prop} {E : Value → Shared → Prop}
    {r : Addr} {a b c : Int} {t₀ u₀ v₀ : Tok} {n : Nat} (hh : A.handled = none) (F : Fr h₀ env.locals hp m) (N : News h₀ env.locals hp led) (hr : IsRange hp r a b c t₀ u₀ v₀)
    (hsmall : Builtin.Range.small a b c = true) (hsz : Builtin.Range.rangeSize a b c = (n : Int)) (hg : PG gs)
    (J : Nat → (Str → Option Value) → List (Addr × Obj) → Prop) (hj : J 0 m led)
    (turn : ∀ i tv m₁ nx₁ I oI h gs t, i < n → NoStr oI → PG gs → J i m₁ nx₁ → (∀ p ∈ nx₁, p.1 ≠ I) → Fr h₀ env.locals h m₁ → News h₀ env.locals h ((I, oI) :: nx₁) →
      wpAny (model PySem.Challenge.rw_tr0040_01.row.prog w) A (assign target env (.int (a + i * c) tv)) (fun _ s₂ => wpAny (model PySem.Challenge.rw_tr0040_01.row.prog w) A (execs body env) (TurnEndG h₀ env.locals I oI PG dr os (J (i + 1)) Q) (fun _ _ => False) s₂) (fun _ _ => False) ⟨h, gs, dr, t, os⟩)
    (done : ∀ m₁ nx₁ h gs t, PG gs → J n m₁ nx₁ → Fr h₀ env.locals h m₁ → News h₀ env.locals h nx₁ → Q .next ⟨h, gs, dr, t, os⟩) :
    wpAny (model PySem.Challenge.rw_tr0040_01.row.prog w) A (pyIter (.ref r)) (fun it s₂ => codeAny (model PySem.Challenge.rw_tr0040_01.row.prog w) A (.forLoop target it body [] env) (ForR Q) s₂) E ⟨hp, gs, dr, tk, os⟩ := by
  refine wpAny_pyIter_range (s := ⟨hp, gs, dr, tk, os⟩) hr hsmall ?_
  refine for_itG (Itr.range hh hp.objs.size a c n) J Q (F.push _) (N.push F _) (fun p hp' => Nat.ne_of_lt (Heap.lt_size (N p hp').1)) ?_ hg hj ?_ (fun _ x => x) (fun _ _ x => x) ?_ done
  · rw [hsz]; simp
  · intro _ _ _ _ p hp'; cases hp'
  · rintro i v m₁ nx₁ oI h gs t hi ⟨tv, rfl⟩ hso hg hJ ho' F' N'
    refine turn i tv m₁ nx₁ _ oI h gs t hi ?_ hg hJ ho' F' N'
    intro vs hvs q t'
    subst hso
    cases hvs
    simp [rawInt]
end

-- part MSeg
section
section
variable {M : Model} {A : Around} {R : GenEnd} {Y : Protocol} {n : Nat} {s₀ : Shared} {c : Code} {fs : List Frame} {s : Shared} {env : Env}
  {K : Flow → Sem Fin} {H : Value → Sem Fin} {gd : Bool → Bool} {lv : List Value → List Value}
/-- a statement without a yield -/
theorem seg_plain {st : Stmt} (h : wpAny M (A.over c fs) (exec st env) (fun f s' => Seg M A R Y n s₀ c (K f) fs s') (fun x s' => Seg M A R Y n s₀ c (H x) fs s') s) : Seg M A R Y n s₀ c ((exec st env).wrap K H gd lv) fs s := seg_wrap h
theorem seg_If {test : Expr} {body orelse : List Stmt} {pos : Pos}
    (h : wpAny M (A.over c fs) (isTrue test env (eval test env)) (fun b s' => if b = true then Seg M A R Y n s₀ c ((execs body env).wrap K H gd lv) fs s' else Seg M A R Y n s₀ c ((execs orelse env).wrap K H gd lv) fs s') (fun x s' => Seg M A R Y n s₀ c (H x) fs s') s) :
    Seg M A R Y n s₀ c ((exec (.If test body orelse pos) env).wrap K H gd lv) fs s := by
  rw [exec_If]
  show Seg M A R Y n s₀ c (.at pos fun _ => ((isTrue test env (eval test env) >>= fun b => if b = true then execs body env else execs orelse env)).wrap K H gd lv) fs s
  refine seg_at ?_
  rw [Sem.bind_eq_wrap', Sem.wrap_wrap]
  refine seg_wrap (wpAny_mono h (fun b s' hb => ?_) fun _ _ x => x)
  cases b with
  | true => simpa using hb
  | false => simpa using hb
theorem seg_For {target iter : Expr} {body orelse : List Stmt} {pos : Pos}
    (h : wpAny M (A.over c fs) (eval iter env) (fun xv s₁ => wpAny M (A.over c fs) (pyIter xv) (fun it s₂ => ∀ p, Seg M A R Y n s₀ (.forLoop target it body orelse env) (M.den (.forLoop target it body orelse env))
      (.ret (fun r => ((match r with | .ok f => (.pure f : Sem Flow) | .error e => .raise e).onRaise fun (x : Value) => do
        if (← field x 1) == Value.none then unsupported "frame.own-activation:exception-without-traceback"
        setFlight x env.frame).wrap K H gd lv) none (gd false) (lv []) c p [] :: fs) s₂) (fun x s' => Seg M A R Y n s₀ c (H x) fs s') s₁) (fun x s' => Seg M A R Y n s₀ c (H x) fs s') s)
    (hs : ∀ x, foldedSetIterable iter env x = pure x := by intro _; rfl) :
    Seg M A R Y n s₀ c ((exec (.For target iter body orelse pos) env).wrap K H gd lv) fs s := by
  rw [exec_For]
  show Seg M A R Y n s₀ c (.at pos fun _ => ((eval iter env >>= fun v => foldedSetIterable iter env v >>= fun x => (standAt iter.pos >>= fun _ => holding [x] (pyIter x) >>= fun it => runOwn (.forLoop target it body orelse env) env))).wrap K H gd lv) fs s
  refine seg_at ?_
  rw [Sem.bind_eq_wrap', Sem.wrap_wrap]
  refine seg_wrap (wpAny_mono h (fun v s₁ h₁ => ?_) fun _ _ x => x)
  rw [hs]
  show Seg M A R Y n s₀ c (.at iter.pos fun _ => (holding [v] (pyIter v) >>= fun it => runOwn (.forLoop target it body orelse env) env).wrap K H gd lv) fs s₁
  refine seg_at ?_
  rw [Sem.bind_eq_wrap', Sem.wrap_wrap]
  refine seg_wrap (wpAny_holding (wpAny_mono h₁ (fun it s₂ h₂ => ?_) fun _ _ x => x))
  exact seg_call h₂
end
section
variable {prog : Program} {w : World} {A : Around} {R : GenEnd} {Y : Protocol} {n : Nat} {s₀ : Shared} {fs : List Frame} {s : Shared} {env : Env}
theorem seg_forLoop {target : Expr} {it : Value} {body orelse : List Stmt}
    (h : wpAny (model prog w) (A.over (.forLoop target it body orelse env) fs) (pyNext it) (fun r s₁ => match r with
        | none => Seg (model prog w) A R Y n s₀ (.block orelse env) ((model prog w).den (.block orelse env)) fs s₁
        | some v => wpAny (model prog w) (A.over (.forLoop target it body orelse env) fs) (letOwnedTupleGo target it v) (fun _ s₁' => wpAny (model prog w) (A.over (.forLoop target it body orelse env) fs) (assign target env v) (fun _ s₂ =>
          Seg (model prog w) A R Y n s₀ (.forLoop target it body orelse env) ((execs body env).wrap (fun f => match f with
            | .next | .cont => .pure (.again (.forLoop target it body orelse env))
            | .brk => .pure (.done .next)
            | .ret v => .pure (.done (.ret v))) (fun e => (do noteFrame e env; theTreesLotGoes e : Sem Unit).wrap (fun _ => .raise e) .raise id id) id id) fs s₂) (fun _ _ => False) s₁') (fun _ _ => False) s₁)
      (fun _ _ => False) s) :
    Seg (model prog w) A R Y n s₀ (.forLoop target it body orelse env) ((model prog w).den (.forLoop target it body orelse env)) fs s := by
  show Seg _ A R Y n s₀ _ ((forTurn target it body orelse env).onRaise (fun x => do noteFrame x env; theTreesLotGoes x)) fs s
  unfold forTurn
  rw [Sem.onRaise_eq_wrap]
  show Seg _ A R Y n s₀ _ (.at target.pos fun _ => (((pyNext it).onRaise (fun _ => standAt { target.pos with line := 0 })) >>= fun r => match r with
      | none => again (.block orelse env)
      | some v => (letOwnedTupleGo target it v >>= fun _ => (assign target env v >>= fun _ => (execs body env >>= fun f => match f with
        | .next | .cont => again (.forLoop target it body orelse env)
        | .brk => pure (.done .next)
        | .ret v => pure (.done (.ret v)))))).wrap .pure _ id id) fs s
  refine seg_at ?_
  rw [Sem.bind_eq_wrap', Sem.wrap_wrap]
  refine seg_wrap (wpAny_onRaise (wpAny_mono h (fun r s₁ h₁ => ?_) fun _ _ x => x.elim))
  cases r with
  | none => exact seg_again rfl h₁
  | some v =>
    show Seg _ A R Y n s₀ _ (Sem.wrap _ _ _ _ (letOwnedTupleGo target it v >>= _)) fs s₁
    rw [Sem.bind_eq_wrap', Sem.wrap_wrap]
    refine seg_wrap (wpAny_mono h₁ (fun _ s₂ h₂ => ?_) fun _ _ x => x.elim)
    show Seg _ A R Y n s₀ _ (Sem.wrap _ _ _ _ (assign target env v >>= _)) fs s₂
    rw [Sem.bind_eq_wrap', Sem.wrap_wrap]
    refine seg_wrap (wpAny_mono h₂ (fun _ s₃ h₃ => ?_) fun _ _ x => x.elim)
    show Seg _ A R Y n s₀ _ (Sem.wrap _ _ _ _ (execs body env >>= _)) fs s₃
    rw [Sem.bind_eq_wrap', Sem.wrap_wrap]
    rw [Sem.wrap_congr (execs body env) _ _ (K' := fun f => match f with
            | .next | .cont => .pure (.again (.forLoop target it body orelse env))
            | .brk => .pure (.done .next)
            | .ret v => .pure (.done (.ret v))) (H' := (fun e => (do noteFrame e env; theTreesLotGoes e : Sem Unit).wrap (fun _ => .raise e) .raise id id))
        (fun f => by cases f <;> rfl)
        (fun e => by first | exact Sem.bind_eq_wrap _ _ | (show (do noteFrame e env; theTreesLotGoes e : Sem Unit).bind (fun _ => .raise e) = _; rw [Sem.bind_eq_wrap]))]
    exact h₃
end
section
variable {prog : Program} {w : World} {A : Around} {R : GenEnd} {Y : Protocol} {n : Nat} {s₀ : Shared} {c₁ : Code} {fs : List Frame} {s : Shared} {env : Env} {K : Flow → Sem Fin} {H : Value → Sem Fin} {gd : Bool → Bool} {lv : List Value → List Value} {env' : Env}
/-- the loop is over: its frame is left -/
theorem seg_block_nil {hh : Option Value} {g : Bool} {l : List Value} {p₁ : Pos} {kp : List Value} {k : Result → Sem Fin} (h : Seg (model prog w) A R Y n s₀ c₁ (k (.ok .next)) fs s) :
    Seg (model prog w) A R Y n s₀ (.block [] env) ((model prog w).den (.block [] env)) (.ret k hh g l c₁ p₁ kp :: fs) s := by
  show Seg (model prog w) A R Y n s₀ (.block [] env) (leafOf (.ok .next)) (.ret k hh g l c₁ p₁ kp :: fs) s
  exact seg_leaf (.ok .next) h
end
end

-- part MEsc
section
/-- one row of the escapes: «if C in x: x = x.replace(C, R)» -/
theorem if_repl {w : World} {A : Around} {hp0 : Heap} {gs : Array GenState} {dr : Drawn} {os : OsState} {tk : Nat} {h₀ : Heap} {m : Str → Option Value} {news : List (Addr × Obj)} {E : Value → Shared → Prop}
    {name : Str} {scope : Scope} {L a : Addr} {cd : Value} {cl : List (Str × Addr)} {x c r : Str} {k1 k2 k3 : Nat} {p1 p2 p3 p4 p5 p6 p7 p8 p9 p10 p11 : Pos} {t : Str} {u : Tok} {pl : Sem Bool} {Q : Flow → Shared → Prop}
    (F : Fr h₀ L hp0 m) (N : News h₀ L hp0 news) (hm : m x = some (.str t u)) (hp : 0 < tk) (hx : t.length ≤ 100000) (hr : r.length ≤ 14) (hcr : (c == r) = false)
    (h : ∀ h' tk' u', 0 < tk' → Fr h₀ L h' (fun y => if y = x then some (.str (Txt.replace t c r) u') else m y) → News h₀ L h' news → Q .next ⟨h', gs, dr, tk', os⟩)
    (hrep : (Builtin.Str.occurrences t c 0 t.length 1).isEmpty = true → Txt.replace t c r = t)
    (hk : scope.kind = .function) (hl : (envX name scope L a cd cl).kindOf x = some .local) (hd : (x == ("__debug__" : Str)) = false)
    (he : eval (.Call (.Attribute (.Name x p5) "replace" p6) [.Constant (.str c) k2 p7, .Constant (.str r) k3 p8] [] p9) (envX name scope L a cd cl) = (do
      let ov ← eval (.Name x p5) (envX name scope L a cd cl)
      standAt p6.atName
      let (f, first) ← holding [ov] (getMethod ov "replace" pl)
      callWith p9 f first (backTo p9 (starEach [.Constant (.str c) k2 p7, .Constant (.str r) k3 p8] (envX name scope L a cd cl))) [])) :
    wpAny (model PySem.Challenge.rw_tr0040_01.row.prog w) A
      (exec (.If (.Compare (.Constant (.str c) k1 p1) [.In] [.Name x p2] p3) [.Assign [.Name x p4] (.Call (.Attribute (.Name x p5) "replace" p6) [.Constant (.str c) k2 p7, .Constant (.str r) k3 p8] [] p9) p10] [] p11)
        (envX name scope L a cd cl)) Q E ⟨hp0, gs, dr, tk, os⟩ := by
  refine wpAny_If (wpAny_isTrue_Compare1 (Constant_str (nameX_L (cs := scope) F hm (in_str (wpAny_truthy_bool ?_)) hk hl hd)) rfl)
  dsimp only
  cases ho : (Builtin.Str.occurrences t c 0 t.length 1).isEmpty with
  | true =>
    simp only [Bool.not_true, Bool.false_eq_true, if_false]
    refine wpAny_execs_nil ?_
    refine h _ _ u (by omega) ?_ N
    have e : (fun y => if y = x then some (Value.str (Txt.replace t c r) u) else m y) = m := by
      funext y
      split
      · rename_i hy; rw [hy, hm, hrep ho]
      · rfl
    rw [e]
    exact F
  | false =>
    simp only [Bool.not_false, if_true]
    refine wpAny_execs_cons (wpAny_Assign_Name (MethodCall_ (pl := pl) (nameX_L (cs := scope) F hm (GM.replace ?_) hk hl hd) he) rfl)
    refine callWith_builtin rfl (evalArgs_plain (spliced_cons (Constant_str (k := k2) (pos := p7) (spliced_cons (Constant_str (k := k3) (pos := p8) (spliced_nil ?_))))))
    dsimp only [List.cons_append, List.nil_append]
    refine wpAny_with_toks (n := tk) (by show tk ≤ tk + 1 + 1 + 1; omega) ?_
    refine SC.replaceW (by show tk + 1 ≠ 0; omega) (by show tk + 1 + 1 ≠ 0; omega) (by show tk + 1 ≠ tk + 1 + 1; omega) hcr (by omega) hr (fun t' k => ?_)
    intro hk1
    refine storeX_L (cs := scope) (E := E) F N (fun h' F' N' => ?_) hk hl
    exact wpAny_execs_nil (h _ _ _ (by show 0 < k + 1; omega) F' N')
theorem rp_join (c : Nat) (r : List Nat) : ∀ parts : List Str, (∀ p ∈ parts, c ∉ p.cps.toList) → rp c r (Str.join ⟨#[c]⟩ parts).cps.toList = (Str.join (S r) parts).cps.toList
  | [], _ => rfl
  | [p], h => rp_free c r _ (h p (List.mem_singleton.mpr rfl))
  | p :: q :: t, h => by
    have ih := rp_join c r (q :: t) fun a ha => h a (List.mem_cons_of_mem _ ha)
    show rp c r (p ++ ⟨#[c]⟩ ++ Str.join ⟨#[c]⟩ (q :: t)).cps.toList = (p ++ S r ++ Str.join (S r) (q :: t)).cps.toList
    simp only [Str.cps_append, Array.toList_append]
    rw [rp_append, rp_append, ih, rp_free c r _ (h p (List.mem_cons_self ..))]
    show p.cps.toList ++ rp c r [c] ++ _ = _
    rw [rp_one]; rfl
theorem replace_S (l r : List Nat) (c : Nat) : Txt.replace (S l) (S [c]) (S r) = S (rp c r l) := by
  have h : (Txt.replace (S l) ⟨#[c]⟩ (S r)).cps.toList = rp c r l := by
    rw [StrLaws.replace_one, ← rp_join c r _ (StrLaws.split_free (S l) c), StrLaws.join_split]
    simp [S]
  exact StrLaws.mk_of_toList h
theorem in_S (l : List Nat) (c : Nat) : (!(Builtin.Str.occurrences (S l) (S [c]) 0 (S l).length 1).isEmpty) = decide (c ∈ l) := by
  rw [show S [c] = ⟨#[c]⟩ from rfl, StrLaws.found_one (S l) c]
  exact decide_eq_decide.mpr (by simp [S])

theorem if_repl2 {w : World} {A : Around} {hp0 : Heap} {gs : Array GenState} {dr : Drawn} {os : OsState} {tk : Nat} {h₀ : Heap} {m : Str → Option Value} {news : List (Addr × Obj)} {E : Value → Shared → Prop}
    {name : Str} {scope : Scope} {L a : Addr} {cd : Value} {cl : List (Str × Addr)} {x c r : Str} {k1 k2 k3 : Nat} {p1 p2 p3 p4 p5 p6 p7 p8 p9 p10 p11 : Pos} {tab : Tab} {l : List Nat} {u : Tok} {pl : Sem Bool} {Q : Flow → Shared → Prop}
    (cN : Nat) (rN : List Nat) (F : Fr h₀ L hp0 m) (N : News h₀ L hp0 news) (hm : m x = some (.str (S (sp tab l)) u)) (hp : 0 < tk) (hx : l.length ≤ 1000) (hc : c = S [cN]) (hr : r = S rN)
    (hfit : (tab.all fun p => decide (p.2.length ≤ 14)) = true ∧ rN.length ≤ 14 ∧ rN ≠ [cN] ∧ tab.lookup cN = none ∧ (tab.all fun p => !p.2.contains cN) = true)
    (h : ∀ h' tk' u', 0 < tk' → Fr h₀ L h' (fun y => if y = x then some (.str (S (sp (tab ++ [(cN, rN)]) l)) u') else m y) → News h₀ L h' news → Q .next ⟨h', gs, dr, tk', os⟩)
    (hk : scope.kind = .function) (hl : (envX name scope L a cd cl).kindOf x = some .local) (hd : (x == ("__debug__" : Str)) = false)
    (he : eval (.Call (.Attribute (.Name x p5) "replace" p6) [.Constant (.str c) k2 p7, .Constant (.str r) k3 p8] [] p9) (envX name scope L a cd cl) = (do
      let ov ← eval (.Name x p5) (envX name scope L a cd cl)
      standAt p6.atName
      let (f, first) ← holding [ov] (getMethod ov "replace" pl)
      callWith p9 f first (backTo p9 (starEach [.Constant (.str c) k2 p7, .Constant (.str r) k3 p8] (envX name scope L a cd cl))) [])) :
    wpAny (model PySem.Challenge.rw_tr0040_01.row.prog w) A
      (exec (.If (.Compare (.Constant (.str c) k1 p1) [.In] [.Name x p2] p3) [.Assign [.Name x p4] (.Call (.Attribute (.Name x p5) "replace" p6) [.Constant (.str c) k2 p7, .Constant (.str r) k3 p8] [] p9) p10] [] p11)
        (envX name scope L a cd cl)) Q E ⟨hp0, gs, dr, tk, os⟩ := by
  obtain ⟨f1, f2, f3, f4, f5⟩ := hfit
  have f1' : ∀ p ∈ tab, p.2.length ≤ 14 := fun p hp => of_decide_eq_true (List.all_eq_true.mp f1 p hp)
  have f5' : ∀ p ∈ tab, cN ∉ p.2 := fun p hp hm' => by
    have := List.all_eq_true.mp f5 p hp
    simp [hm'] at this
  have e : Txt.replace (S (sp tab l)) c r = S (sp (tab ++ [(cN, rN)]) l) := by
    rw [hc, hr, replace_S, rp_sp tab cN rN f4 f5']
  have hlen : (S (sp tab l)).length ≤ 100000 := by
    rw [S_length]
    have := sp_length (k := 14) (by omega) f1' l
    omega
  refine if_repl F N hm hp hlen (by rw [hr, S_length]; exact f2) ?_ (fun h' tk' u' h1 h2 h3 => h h' tk' u' h1 (by rw [e] at h2; exact h2) h3) ?_ hk hl hd he
  · rw [hc, hr]
    apply Bool.eq_false_iff.mpr
    intro hq
    exact f3 (S_inj (eq_of_beq hq)).symm
  · intro ho
    rw [hc] at ho
    have := in_S (sp tab l) cN
    rw [ho] at this
    have hni : cN ∉ sp tab l := by simpa using this
    rw [hc, hr, replace_S, rp_free _ _ _ hni]
end

-- part MEsc2
section
theorem esc_91 {w : World} {A : Around} {s : Shared} {h₀ : Heap} {L : Addr} {m : Str → Option Value} {news : List (Addr × Obj)} {mean : ExcName → Option Value} {mg mb : Str → Option Value} {Q E : Value → Shared → Prop}
   (F : Fr h₀ L s.heap m) (N : News h₀ L s.heap news) (G : GD w mean mg mb h₀) (a : AOk A 1) (l : List Nat) (t : Tok) (hx : l.length ≤ 1000)
   (ret : ∀ t' h' tk', Fr h₀ L h' m → News h₀ L h' news → Q (.str (S (sp T0 l)) t') { s with heap := h', toks := tk' })
   : wpAny (model PySem.Challenge.rw_tr0040_01.row.prog w) A (call (.ref 91) [.str (S l) t]) Q E s := by
  obtain ⟨X, T⟩ := G
  refine wpAny_call ?_
  rw [← sp_nil l]
  refine' enterF (cl := []) (binds := [(Str.ofString "text", .str (S (sp [] l)) t)]) F N X T.nolimit ?k1 ?k3 ?k4 ?k5 ?k6 ?_ ?k7 ?k8 ?k9 ?k10
  case k1 => k_is
  case k3 => k_is
  case k4 => exact Nat.lt_of_le_of_lt (Nat.le_add_right _ _) a.hd
  case k5 => exact BindsTo.of_eq rfl
  case k6 => exact locs rfl
  case k7 => decide
  case k8 => rfl
  case k9 => rfl
  case k10 => rfl
  intro g L' h1 tk htk FG F1 N1 st hlt
  have hp1 : 0 < tk := htk
  refine wpAny_execs_cons (try_quiet (wpAny_execs_cons ?_))
  refine if_repl2 38 [38, 97, 109, 112, 59] F1 N1 rfl (by omega) hx (by decide) (by decide) (by decide) (fun h2 tk2 u2 hp2 F2 N2 => ?_) rfl rfl rfl rfl
  refine wpAny_execs_cons ?_
  refine if_repl2 60 [38, 108, 116, 59] F2 N2 rfl (by omega) hx (by decide) (by decide) (by decide) (fun h3 tk3 u3 hp3 F3 N3 => ?_) rfl rfl rfl rfl
  refine wpAny_execs_cons ?_
  refine if_repl2 62 [38, 103, 116, 59] F3 N3 rfl (by omega) hx (by decide) (by decide) (by decide) (fun h4 tk4 u4 hp4 F4 N4 => ?_) rfl rfl rfl rfl
  refine wpAny_execs_cons (wpAny_Return_some (nameX_L F4 rfl ?_))
  exact leaveK_ F4 N4 (fun kF kN => ret _ _ _ kF kN)
theorem esc_112 {w : World} {A : Around} {s : Shared} {h₀ : Heap} {L : Addr} {m : Str → Option Value} {news : List (Addr × Obj)} {mean : ExcName → Option Value} {mg mb : Str → Option Value} {Q E : Value → Shared → Prop}
   (F : Fr h₀ L s.heap m) (N : News h₀ L s.heap news) (G : GD w mean mg mb h₀) (a : AOk A 1) (l : List Nat) (t : Tok) (hx : l.length ≤ 1000)
   (ret : ∀ t' h' tk', Fr h₀ L h' m → News h₀ L h' news → Q (.str (S (sp T1 l)) t') { s with heap := h', toks := tk' })
   : wpAny (model PySem.Challenge.rw_tr0040_01.row.prog w) A (call (.ref 112) [.str (S l) t]) Q E s := by
  obtain ⟨X, T⟩ := G
  refine wpAny_call ?_
  rw [← sp_nil l]
  refine' enterF (cl := []) (binds := [(Str.ofString "text", .str (S (sp [] l)) t)]) F N X T.nolimit ?k1 ?k3 ?k4 ?k5 ?k6 ?_ ?k7 ?k8 ?k9 ?k10
  case k1 => k_is
  case k3 => k_is
  case k4 => exact Nat.lt_of_le_of_lt (Nat.le_add_right _ _) a.hd
  case k5 => exact BindsTo.of_eq rfl
  case k6 => exact locs rfl
  case k7 => decide
  case k8 => rfl
  case k9 => rfl
  case k10 => rfl
  intro g L' h1 tk htk FG F1 N1 st hlt
  have hp1 : 0 < tk := htk
  refine wpAny_execs_cons (try_quiet (wpAny_execs_cons ?_))
  refine if_repl2 38 [38, 97, 109, 112, 59] F1 N1 rfl (by omega) hx (by decide) (by decide) (by decide) (fun h2 tk2 u2 hp2 F2 N2 => ?_) rfl rfl rfl rfl
  refine wpAny_execs_cons ?_
  refine if_repl2 60 [38, 108, 116, 59] F2 N2 rfl (by omega) hx (by decide) (by decide) (by decide) (fun h3 tk3 u3 hp3 F3 N3 => ?_) rfl rfl rfl rfl
  refine wpAny_execs_cons ?_
  refine if_repl2 62 [38, 103, 116, 59] F3 N3 rfl (by omega) hx (by decide) (by decide) (by decide) (fun h4 tk4 u4 hp4 F4 N4 => ?_) rfl rfl rfl rfl
  refine wpAny_execs_cons ?_
  refine if_repl2 13 [38, 35, 120, 68, 59] F4 N4 rfl (by omega) hx (by decide) (by decide) (by decide) (fun h5 tk5 u5 hp5 F5 N5 => ?_) rfl rfl rfl rfl
  refine wpAny_execs_cons (wpAny_Return_some (nameX_L F5 rfl ?_))
  exact leaveK_ F5 N5 (fun kF kN => ret _ _ _ kF kN)
theorem esc_98 {w : World} {A : Around} {s : Shared} {h₀ : Heap} {L : Addr} {m : Str → Option Value} {news : List (Addr × Obj)} {mean : ExcName → Option Value} {mg mb : Str → Option Value} {Q E : Value → Shared → Prop}
   (F : Fr h₀ L s.heap m) (N : News h₀ L s.heap news) (G : GD w mean mg mb h₀) (a : AOk A 1) (l : List Nat) (t : Tok) (hx : l.length ≤ 1000)
   (ret : ∀ t' h' tk', Fr h₀ L h' m → News h₀ L h' news → Q (.str (S (sp T2 l)) t') { s with heap := h', toks := tk' })
   : wpAny (model PySem.Challenge.rw_tr0040_01.row.prog w) A (call (.ref 98) [.str (S l) t]) Q E s := by
  obtain ⟨X, T⟩ := G
  refine wpAny_call ?_
  rw [← sp_nil l]
  refine' enterF (cl := []) (binds := [(Str.ofString "text", .str (S (sp [] l)) t)]) F N X T.nolimit ?k1 ?k3 ?k4 ?k5 ?k6 ?_ ?k7 ?k8 ?k9 ?k10
  case k1 => k_is
  case k3 => k_is
  case k4 => exact Nat.lt_of_le_of_lt (Nat.le_add_right _ _) a.hd
  case k5 => exact BindsTo.of_eq rfl
  case k6 => exact locs rfl
  case k7 => decide
  case k8 => rfl
  case k9 => rfl
  case k10 => rfl
  intro g L' h1 tk htk FG F1 N1 st hlt
  have hp1 : 0 < tk := htk
  refine wpAny_execs_cons (try_quiet (wpAny_execs_cons ?_))
  refine if_repl2 38 [38, 97, 109, 112, 59] F1 N1 rfl (by omega) hx (by decide) (by decide) (by decide) (fun h2 tk2 u2 hp2 F2 N2 => ?_) rfl rfl rfl rfl
  refine wpAny_execs_cons ?_
  refine if_repl2 60 [38, 108, 116, 59] F2 N2 rfl (by omega) hx (by decide) (by decide) (by decide) (fun h3 tk3 u3 hp3 F3 N3 => ?_) rfl rfl rfl rfl
  refine wpAny_execs_cons ?_
  refine if_repl2 62 [38, 103, 116, 59] F3 N3 rfl (by omega) hx (by decide) (by decide) (by decide) (fun h4 tk4 u4 hp4 F4 N4 => ?_) rfl rfl rfl rfl
  refine wpAny_execs_cons ?_
  refine if_repl2 34 [38, 113, 117, 111, 116, 59] F4 N4 rfl (by omega) hx (by decide) (by decide) (by decide) (fun h5 tk5 u5 hp5 F5 N5 => ?_) rfl rfl rfl rfl
  refine wpAny_execs_cons ?_
  refine if_repl2 13 [38, 35, 49, 51, 59] F5 N5 rfl (by omega) hx (by decide) (by decide) (by decide) (fun h6 tk6 u6 hp6 F6 N6 => ?_) rfl rfl rfl rfl
  refine wpAny_execs_cons ?_
  refine if_repl2 10 [38, 35, 49, 48, 59] F6 N6 rfl (by omega) hx (by decide) (by decide) (by decide) (fun h7 tk7 u7 hp7 F7 N7 => ?_) rfl rfl rfl rfl
  refine wpAny_execs_cons ?_
  refine if_repl2 9 [38, 35, 48, 57, 59] F7 N7 rfl (by omega) hx (by decide) (by decide) (by decide) (fun h8 tk8 u8 hp8 F8 N8 => ?_) rfl rfl rfl rfl
  refine wpAny_execs_cons (wpAny_Return_some (nameX_L F8 rfl ?_))
  exact leaveK_ F8 N8 (fun kF kN => ret _ _ _ kF kN)
theorem esc_105 {w : World} {A : Around} {s : Shared} {h₀ : Heap} {L : Addr} {m : Str → Option Value} {news : List (Addr × Obj)} {mean : ExcName → Option Value} {mg mb : Str → Option Value} {Q E : Value → Shared → Prop}
   (F : Fr h₀ L s.heap m) (N : News h₀ L s.heap news) (G : GD w mean mg mb h₀) (a : AOk A 1) (l : List Nat) (t : Tok) (hx : l.length ≤ 1000)
   (ret : ∀ t' h' tk', Fr h₀ L h' m → News h₀ L h' news → Q (.str (S (sp T3 l)) t') { s with heap := h', toks := tk' })
   : wpAny (model PySem.Challenge.rw_tr0040_01.row.prog w) A (call (.ref 105) [.str (S l) t]) Q E s := by
  obtain ⟨X, T⟩ := G
  refine wpAny_call ?_
  rw [← sp_nil l]
  refine' enterF (cl := []) (binds := [(Str.ofString "text", .str (S (sp [] l)) t)]) F N X T.nolimit ?k1 ?k3 ?k4 ?k5 ?k6 ?_ ?k7 ?k8 ?k9 ?k10
  case k1 => k_is
  case k3 => k_is
  case k4 => exact Nat.lt_of_le_of_lt (Nat.le_add_right _ _) a.hd
  case k5 => exact BindsTo.of_eq rfl
  case k6 => exact locs rfl
  case k7 => decide
  case k8 => rfl
  case k9 => rfl
  case k10 => rfl
  intro g L' h1 tk htk FG F1 N1 st hlt
  have hp1 : 0 < tk := htk
  refine wpAny_execs_cons (try_quiet (wpAny_execs_cons ?_))
  refine if_repl2 38 [38, 97, 109, 112, 59] F1 N1 rfl (by omega) hx (by decide) (by decide) (by decide) (fun h2 tk2 u2 hp2 F2 N2 => ?_) rfl rfl rfl rfl
  refine wpAny_execs_cons ?_
  refine if_repl2 62 [38, 103, 116, 59] F2 N2 rfl (by omega) hx (by decide) (by decide) (by decide) (fun h3 tk3 u3 hp3 F3 N3 => ?_) rfl rfl rfl rfl
  refine wpAny_execs_cons ?_
  refine if_repl2 34 [38, 113, 117, 111, 116, 59] F3 N3 rfl (by omega) hx (by decide) (by decide) (by decide) (fun h4 tk4 u4 hp4 F4 N4 => ?_) rfl rfl rfl rfl
  refine wpAny_execs_cons (wpAny_Return_some (nameX_L F4 rfl ?_))
  exact leaveK_ F4 N4 (fun kF kN => ret _ _ _ kF kN)
theorem esc_119 {w : World} {A : Around} {s : Shared} {h₀ : Heap} {L : Addr} {m : Str → Option Value} {news : List (Addr × Obj)} {mean : ExcName → Option Value} {mg mb : Str → Option Value} {Q E : Value → Shared → Prop}
   (F : Fr h₀ L s.heap m) (N : News h₀ L s.heap news) (G : GD w mean mg mb h₀) (a : AOk A 1) (l : List Nat) (t : Tok) (hx : l.length ≤ 1000)
   (ret : ∀ t' h' tk', Fr h₀ L h' m → News h₀ L h' news → Q (.str (S (sp T4r l)) t') { s with heap := h', toks := tk' })
   : wpAny (model PySem.Challenge.rw_tr0040_01.row.prog w) A (call (.ref 119) [.str (S l) t]) Q E s := by
  obtain ⟨X, T⟩ := G
  refine wpAny_call ?_
  rw [← sp_nil l]
  refine' enterF (cl := []) (binds := [(Str.ofString "text", .str (S (sp [] l)) t)]) F N X T.nolimit ?k1 ?k3 ?k4 ?k5 ?k6 ?_ ?k7 ?k8 ?k9 ?k10
  case k1 => k_is
  case k3 => k_is
  case k4 => exact Nat.lt_of_le_of_lt (Nat.le_add_right _ _) a.hd
  case k5 => exact BindsTo.of_eq rfl
  case k6 => exact locs rfl
  case k7 => decide
  case k8 => rfl
  case k9 => rfl
  case k10 => rfl
  intro g L' h1 tk htk FG F1 N1 st hlt
  have hp1 : 0 < tk := htk
  refine wpAny_execs_cons (try_quiet (wpAny_execs_cons ?_))
  refine if_repl2 38 [38, 97, 109, 112, 59] F1 N1 rfl (by omega) hx (by decide) (by decide) (by decide) (fun h2 tk2 u2 hp2 F2 N2 => ?_) rfl rfl rfl rfl
  refine wpAny_execs_cons ?_
  refine if_repl2 60 [38, 108, 116, 59] F2 N2 rfl (by omega) hx (by decide) (by decide) (by decide) (fun h3 tk3 u3 hp3 F3 N3 => ?_) rfl rfl rfl rfl
  refine wpAny_execs_cons ?_
  refine if_repl2 34 [38, 113, 117, 111, 116, 59] F3 N3 rfl (by omega) hx (by decide) (by decide) (by decide) (fun h4 tk4 u4 hp4 F4 N4 => ?_) rfl rfl rfl rfl
  refine wpAny_execs_cons ?_
  refine if_repl2 9 [38, 35, 120, 57, 59] F4 N4 rfl (by omega) hx (by decide) (by decide) (by decide) (fun h5 tk5 u5 hp5 F5 N5 => ?_) rfl rfl rfl rfl
  refine wpAny_execs_cons ?_
  refine if_repl2 10 [38, 35, 120, 65, 59] F5 N5 rfl (by omega) hx (by decide) (by decide) (by decide) (fun h6 tk6 u6 hp6 F6 N6 => ?_) rfl rfl rfl rfl
  refine wpAny_execs_cons ?_
  refine if_repl2 13 [38, 35, 120, 68, 59] F6 N6 rfl (by omega) hx (by decide) (by decide) (by decide) (fun h7 tk7 u7 hp7 F7 N7 => ?_) rfl rfl rfl rfl
  refine wpAny_execs_cons (wpAny_Return_some (nameX_L F7 rfl ?_))
  exact leaveK_ F7 N7 (fun kF kN => ret _ _ _ kF kN)
end

-- part MSpell
section
def tabOf : Nat → Tab
  | 0 => T0
  | 1 => T1
  | 2 => T2
  | 3 => T3
  | _ => T4
def tabD (t : Tab) : List (PyData × PyData) := t.map fun p => (.str (S [p.1]), .str (S p.2))
/-- a made dict that holds a table -/
structure SpO (w : World) (d : Addr) (o : Obj) (t : Tab) : Prop where
  lo : (d == sysModules) = false
  is : ∃ kvs, o.IsDictOf (PySem.strKind PySem.Challenge.rw_tr0040_01.row.prog w) kvs ∧ PyProof.V.FlatPairs PyData.str kvs (tabD t)
theorem flat_of {kvs : List (Str × Value)} {D D' : List (PyData × PyData)} (h : PyProof.V.FlatPairs PyData.str kvs D) (e : D = D') : PyProof.V.FlatPairs PyData.str kvs D' := e ▸ h
theorem spell_n {w : World} {A : Around} {s : Shared} {h₀ : Heap} {L : Addr} {m : Str → Option Value} {news : List (Addr × Obj)} {mean : ExcName → Option Value} {mg mb : Str → Option Value} {Q E : Value → Shared → Prop}
   (F : Fr h₀ L s.heap m) (N : News h₀ L s.heap news) (G : GD w mean mg mb h₀) (a : AOk A 1) (i : Nat) (hi : i < 5) (t : Tok)
   (ret : ∀ d o h' tk', SpO w d o (tabOf i) → Fr h₀ L h' m → News h₀ L h' ((d, o) :: news) → Q (.ref d) { s with heap := h', toks := tk' })
   : wpAny (model PySem.Challenge.rw_tr0040_01.row.prog w) A (call (.ref 145) [.int (i : Int) t]) Q E s := by
  obtain ⟨X, T⟩ := G
  refine wpAny_call ?_
  refine' enterF (cl := []) (binds := [(Str.ofString "number", .int (i : Int) t)]) F N X T.nolimit ?k1 ?k3 ?k4 ?k5 ?k6 ?_ ?k7 ?k8 ?k9 ?k10
  case k4 => exact Nat.lt_of_le_of_lt (Nat.le_add_right _ _) a.hd
  walk_at "mine sides"
  intro g L' h₁ tk htk FG F' N' st hlt
  have X' := X.keeps st
  have T' := T.keeps st
  clear X T F N FG st
  generalize hn : (i : Int) = n at *
  walk_at "mine steps"
  all_goals (try dsimp only)
  all_goals (rename PyProof.V.FlatPairs _ _ _ => hf; rename Fr g _ _ _ => F9)
  · obtain rfl : i = 0 := by omega
    exact leaveK_ F9 (by assumption) (fun kF kN => ret _ _ _ _ ⟨by assumption, _, by assumption, flat_of hf (by kernel_rfl)⟩ kF kN)
  · obtain rfl : i = 1 := by omega
    exact leaveK_ F9 (by assumption) (fun kF kN => ret _ _ _ _ ⟨by assumption, _, by assumption, flat_of hf (by kernel_rfl)⟩ kF kN)
  · obtain rfl : i = 2 := by omega
    exact leaveK_ F9 (by assumption) (fun kF kN => ret _ _ _ _ ⟨by assumption, _, by assumption, flat_of hf (by kernel_rfl)⟩ kF kN)
  · obtain rfl : i = 3 := by omega
    exact leaveK_ F9 (by assumption) (fun kF kN => ret _ _ _ _ ⟨by assumption, _, by assumption, flat_of hf (by kernel_rfl)⟩ kF kN)
  · obtain rfl : i = 4 := by omega
    exact leaveK_ F9 (by assumption) (fun kF kN => ret _ _ _ _ ⟨by assumption, _, by assumption, flat_of hf (by kernel_rfl)⟩ kF kN)
end

-- part MWrite
section
theorem write_n {w : World} {A : Around} {s : Shared} {h₀ : Heap} {L : Addr} {m : Str → Option Value} {news : List (Addr × Obj)} {mean : ExcName → Option Value} {mg mb : Str → Option Value} {Q E : Value → Shared → Prop}
   (F : Fr h₀ L s.heap m) (N : News h₀ L s.heap news) (G : GD w mean mg mb h₀) (a : AOk A 2) (i : Nat) (hi : i < 5) (t : Tok) (l : List Nat) (u : Tok) (hx : l.length ≤ 1000)
   (ret : ∀ t' h' tk', Fr h₀ L h' m → News h₀ L h' news → Q (.str (S (sp (tabOf i) l)) t') { s with heap := h', toks := tk' })
   : wpAny (model PySem.Challenge.rw_tr0040_01.row.prog w) A (call (.ref 152) [.int (i : Int) t, .str (S l) u]) Q E s := by
  obtain ⟨X, T⟩ := G
  refine wpAny_call ?_
  refine' enterF (cl := []) (binds := [(Str.ofString "number", .int (i : Int) t), (Str.ofString "text", .str (S l) u)]) F N X T.nolimit ?k1 ?k3 ?k4 ?k5 ?k6 ?_ ?k7 ?k8 ?k9 ?k10
  case k4 => exact Nat.lt_of_le_of_lt (Nat.le_add_right _ _) a.hd
  walk_at "mine sides"
  intro g L' h₁ tk htk FG F' N' st hlt
  have X' := X.keeps st
  have T' := T.keeps st
  clear X T F N FG st
  generalize hn : (i : Int) = n at *
  walk_at "mine steps"
  · obtain rfl : i = 0 := by omega
    refine esc_91 (by assumption) (by assumption) ⟨X', T'⟩ (a.deeper _) l u hx (fun t' h' tk' F9 N9 => ?_)
    exact leaveK_ F9 N9 (fun kF kN => ret _ _ _ kF kN)
  · obtain rfl : i = 1 := by omega
    refine esc_112 (by assumption) (by assumption) ⟨X', T'⟩ (a.deeper _) l u hx (fun t' h' tk' F9 N9 => ?_)
    exact leaveK_ F9 N9 (fun kF kN => ret _ _ _ kF kN)
  · obtain rfl : i = 2 := by omega
    refine esc_98 (by assumption) (by assumption) ⟨X', T'⟩ (a.deeper _) l u hx (fun t' h' tk' F9 N9 => ?_)
    exact leaveK_ F9 N9 (fun kF kN => ret _ _ _ kF kN)
  · obtain rfl : i = 3 := by omega
    refine esc_105 (by assumption) (by assumption) ⟨X', T'⟩ (a.deeper _) l u hx (fun t' h' tk' F9 N9 => ?_)
    exact leaveK_ F9 N9 (fun kF kN => ret _ _ _ kF kN)
  · obtain rfl : i = 4 := by omega
    refine esc_119 (by assumption) (by assumption) ⟨X', T'⟩ (a.deeper _) l u hx (fun t' h' tk' F9 N9 => ?_)
    rw [sp_T4]
    exact leaveK_ F9 N9 (fun kF kN => ret _ _ _ kF kN)
end

-- part M2
section
/-- names of a frame, as far as they are asked -/
def Has (m : Str → Option Value) (ps : List (Str × Value)) : Prop := ∀ p ∈ ps, m p.1 = some p.2
def mp : List (Str × Value) → (Str → Option Value) → Str → Option Value
  | [], u => u
  | (x, v) :: r, u => fun y => if y = x then some v else mp r u y
theorem mp_of : ∀ {ps : List (Str × Value)} {m : Str → Option Value}, Has m ps → m = mp ps m
  | [], _, _ => rfl
  | (x, v) :: r, m, h => by
    have ih := mp_of (ps := r) (m := m) fun p hp => h p (.tail _ hp)
    funext y
    unfold mp
    by_cases e : y = x
    · rw [if_pos e, e]; exact h _ (.head _)
    · rw [if_neg e, ← ih]
theorem Has.nil {m : Str → Option Value} : Has m [] := fun _ h => nomatch h
theorem Has.cons {m : Str → Option Value} {x : Str} {v : Value} {r : List (Str × Value)} (h : m x = some v) (hr : Has m r) : Has m ((x, v) :: r) := fun p hp => by
  rcases List.mem_cons.mp hp with rfl | hp
  · exact h
  · exact hr p hp
theorem frHas {h₀ h : Heap} {L : Addr} {m : Str → Option Value} {ps : List (Str × Value)} (F : Fr h₀ L h m) (k : Has m ps) : Fr h₀ L h (mp ps m) := mp_of k ▸ F
theorem newsSub {h₀ h : Heap} {L : Addr} {l l' : List (Addr × Obj)} (N : News h₀ L h l) (hs : ∀ p ∈ l', p ∈ l) : News h₀ L h l' := fun p hp => N p (hs p hp)
theorem newsCons {h₀ h : Heap} {L : Addr} {l : List (Addr × Obj)} {q : Addr × Obj} (N : News h₀ L h l) (hq : q ∈ l) : News h₀ L h (q :: l) := fun p hp => by
  rcases List.mem_cons.mp hp with rfl | hp
  · exact N _ hq
  · exact N p hp
abbrev tupO (vs : List Value) (n : Nat) : Obj := { cls := .type "tuple", data := .seq vs.toArray n }
/-- a value is a unit's pair -/
def UIn (news : List (Addr × Obj)) (v : Value) (u : U) : Prop := ∃ a n t, v = .ref a ∧ (a, tupO [.bool u.1, .str (S u.2) t] n) ∈ news
def AllIn {α : Type} (P : Value → α → Prop) : List Value → List α → Prop
  | [], [] => True
  | v :: vs, u :: us => P v u ∧ AllIn P vs us
  | _, _ => False
theorem AllIn.length {α : Type} {P : Value → α → Prop} : ∀ {vs : List Value} {us : List α}, AllIn P vs us → vs.length = us.length
  | [], [], _ => rfl
  | _ :: _, _ :: _, h => by rw [List.length_cons, List.length_cons, AllIn.length h.2]
  | [], _ :: _, h => h.elim
  | _ :: _, [], h => h.elim
theorem AllIn.mono {α : Type} {P P' : Value → α → Prop} (hp : ∀ v u, P v u → P' v u) : ∀ {vs : List Value} {us : List α}, AllIn P vs us → AllIn P' vs us
  | [], [], _ => trivial
  | _ :: _, _ :: _, h => ⟨hp _ _ h.1, AllIn.mono hp h.2⟩
  | [], _ :: _, h => h.elim
  | _ :: _, [], h => h.elim
theorem AllIn.append {α : Type} {P : Value → α → Prop} : ∀ {vs ws : List Value} {us xs : List α}, AllIn P vs us → AllIn P ws xs → AllIn P (vs ++ ws) (us ++ xs)
  | [], _, [], _, _, k => k
  | _ :: _, _, _ :: _, _, h, k => ⟨h.1, AllIn.append h.2 k⟩
  | [], _, _ :: _, _, h, _ => h.elim
  | _ :: _, _, [], _, h, _ => h.elim
theorem AllIn.get {α : Type} {P : Value → α → Prop} : ∀ {vs : List Value} {us : List α} {i : Nat} {v : Value}, AllIn P vs us → vs[i]? = some v → ∃ u, us[i]? = some u ∧ P v u
  | _ :: _, _ :: _, 0, _, h, e => by
    have e' := Option.some.inj e
    subst e'
    exact ⟨_, rfl, h.1⟩
  | _ :: _, _ :: _, i + 1, _, h, e => AllIn.get (i := i) h.2 e
  | [], [], _, _, _, e => by simp at e
  | [], _ :: _, _, _, h, _ => h.elim
  | _ :: _, [], _, _, h, _ => h.elim
theorem AllIn.at {α : Type} {P : Value → α → Prop} {vs : List Value} {us : List α} {i : Nat} {u : α} (h : AllIn P vs us) (e : us[i]? = some u) : ∃ v, vs[i]? = some v ∧ P v u := by
  have hl := h.length
  have hi : i < vs.length := by rw [hl]; exact (List.getElem?_eq_some_iff.mp e).1
  obtain ⟨u', e', p⟩ := h.get (List.getElem?_eq_getElem hi)
  rw [e] at e'
  cases e'
  exact ⟨_, List.getElem?_eq_getElem hi, p⟩
theorem AllIn.take {α : Type} {P : Value → α → Prop} : ∀ {vs : List Value} {us : List α} (k : Nat), AllIn P vs us → AllIn P (vs.take k) (us.take k)
  | [], [], k, _ => by simp [AllIn]
  | _ :: _, _ :: _, 0, _ => trivial
  | _ :: _, _ :: _, k + 1, h => ⟨h.1, AllIn.take k h.2⟩
  | [], _ :: _, _, h => h.elim
  | _ :: _, [], _, h => h.elim
theorem UIn.mono {l l' : List (Addr × Obj)} (hs : ∀ p ∈ l, p ∈ l') {v : Value} {u : U} (h : UIn l v u) : UIn l' v u := by
  obtain ⟨a, n, t, e, hm⟩ := h
  exact ⟨a, n, t, e, hs _ hm⟩
/-- to give the ledger's first | second | third address a name -/
theorem nameHead {h₀ h : Heap} {L a : Addr} {o : Obj} {r : List (Addr × Obj)} {P : Prop} (_N : News h₀ L h ((a, o) :: r)) (k : ∀ lu, lu = a → P) : P := k a rfl
theorem nameSnd {h₀ h : Heap} {L a : Addr} {o : Obj} {q : Addr × Obj} {r : List (Addr × Obj)} {P : Prop} (_N : News h₀ L h (q :: (a, o) :: r)) (k : ∀ lu, lu = a → P) : P := k a rfl
theorem nameThd {h₀ h : Heap} {L a : Addr} {o : Obj} {q q' : Addr × Obj} {r : List (Addr × Obj)} {P : Prop} (_N : News h₀ L h (q :: q' :: (a, o) :: r)) (k : ∀ lu, lu = a → P) : P := k a rfl
theorem offTup {h₀ h : Heap} {L D : Addr} {o : Obj} {led tl : List (Addr × Obj)} (N : News h₀ L h led) (hd : (D, o) ∈ led) (ho : o.cls = .type "list" ∨ o.cls = .type "dict") (htl : ∀ p ∈ tl, p.2.cls = .type "tuple") (hs : ∀ p ∈ tl, p ∈ led) : ∀ p ∈ tl, p.1 ≠ D := fun p hp e => by
  have h1 := (N p (hs p hp)).1
  have h2 := (N _ hd).1
  rw [e] at h1
  dsimp only at h2
  rw [h1] at h2
  have h3 := Option.some.inj h2
  have h4 := htl p hp
  rw [h3] at h4
  rcases ho with ho | ho <;> rw [ho] at h4 <;> exact absurd h4 (by decide)
theorem offApp {tl news : List (Addr × Obj)} {D : Addr} (h1 : ∀ p ∈ tl, p.1 ≠ D) (h2 : ∀ p ∈ news, p.1 ≠ D) : ∀ p ∈ tl ++ news, p.1 ≠ D := fun p hp => (List.mem_append.mp hp).elim (h1 p) (h2 p)
end

-- part M3
section
section
variable {M : Model} {prog : Program} {w : World} {A : Around} {s : Shared} {env : Env} {k : Nat} {pos : Pos} {Q : Value → Shared → Prop} {E : Value → Shared → Prop}
theorem constE (h : ∀ t k', Q (.str (S []) t) { s with toks := k' }) : wpAny M A (eval (.Constant (.str (Str.ofString "")) k pos) env) Q E s := Constant_str (by rw [show Str.ofString "" = S [] by decide]; exact h _ _)
theorem constBs (h : ∀ t k', Q (.str (S [92]) t) { s with toks := k' }) : wpAny M A (eval (.Constant (.str (Str.ofString "\\")) k pos) env) Q E s := Constant_str (by rw [show Str.ofString "\\" = S [92] by decide]; exact h _ _)
theorem constQ (h : ∀ t k', Q (.str (S [34]) t) { s with toks := k' }) : wpAny M A (eval (.Constant (.str (Str.ofString "\"")) k pos) env) Q E s := Constant_str (by rw [show Str.ofString "\"" = S [34] by decide]; exact h _ _)
theorem constNl (h : ∀ t k', Q (.str (S [10]) t) { s with toks := k' }) : wpAny M A (eval (.Constant (.str (Str.ofString "\n")) k pos) env) Q E s := Constant_str (by rw [show Str.ofString "\n" = S [10] by decide]; exact h _ _)
theorem constSp (h : ∀ t k', Q (.str (S [32]) t) { s with toks := k' }) : wpAny M A (eval (.Constant (.str (Str.ofString " ")) k pos) env) Q E s := Constant_str (by rw [show Str.ofString " " = S [32] by decide]; exact h _ _)
theorem constCr (h : ∀ t k', Q (.str (S [13]) t) { s with toks := k' }) : wpAny M A (eval (.Constant (.str (Str.ofString "\r")) k pos) env) Q E s := Constant_str (by rw [show Str.ofString "\r" = S [13] by decide]; exact h _ _)
theorem constTab (h : ∀ t k', Q (.str (S [9]) t) { s with toks := k' }) : wpAny M A (eval (.Constant (.str (Str.ofString "\t")) k pos) env) Q E s := Constant_str (by rw [show Str.ofString "\t" = S [9] by decide]; exact h _ _)
theorem constWs (h : ∀ t k', Q (.str (S [10, 9, 13, 32]) t) { s with toks := k' }) : wpAny M A (eval (.Constant (.str (Str.ofString "\n\t\r ")) k pos) env) Q E s := Constant_str (by rw [show Str.ofString "\n\t\r " = S [10, 9, 13, 32] by decide]; exact h _ _)
end
theorem S_append (a b : List Nat) : S a ++ S b = S (a ++ b) := by
  apply StrLaws.mk_of_toList
  simp [S, Str.cps_append]
section
variable {prog : Program} {w : World} {A : Around} {s : Shared} {Q : Value → Shared → Prop} {E : Value → Shared → Prop}
theorem add_S {a b : List Nat} {t u : Tok} (hsz : a.length + b.length ≤ 16777216) (h : ∀ t' k, Q (.str (S (a ++ b)) t') { s with toks := k }) : wpAny (model prog w) A (binaryOp .Add (.str (S a) t) (.str (S b) u)) Q E s :=
  PyProof.Rows.add_str (fun t' k => by rw [S_append]; exact h t' k) (by rw [S_length, S_length, sizeLine_eq]; exact hsz)
theorem iadd_S {a b : List Nat} {t u : Tok} (hsz : a.length + b.length ≤ 16777216) (h : ∀ t' k, Q (.str (S (a ++ b)) t') { s with toks := k }) : wpAny (model prog w) A (inplaceOp .Add (.str (S a) t) (.str (S b) u)) Q E s :=
  SBL.iadd (fun t' k _ => by rw [S_append]; exact h t' k) (by rw [S_length, S_length, sizeLine_eq]; exact hsz)
theorem len_S {a : List Nat} {t : Tok} (hsz : a.length ≤ 16777216) (h : ∀ t' k, Q (.int (a.length : Int) t') { s with toks := k }) : wpAny (model prog w) A (call (.builtin "len") [.str (S a) t]) Q E s :=
  SBL.len (by rw [S_length]; omega) (by rw [S_length]; exact h _ _)
theorem eq_S {a b : List Nat} {t u : Tok} (h : Q (.bool (decide (a = b))) s) : wpAny (model prog w) A (compareOp .Eq (.str (S a) t) (.str (S b) u)) Q E s :=
  P.eq_str (by
    have : ((S a).cps.toList == (S b).cps.toList) = decide (a = b) := by
      rw [Bool.eq_iff_iff]; simp [S]
    rw [this]; exact h)
theorem ne_S {a b : List Nat} {t u : Tok} (h : Q (.bool (decide (a ≠ b))) s) : wpAny (model prog w) A (compareOp .NotEq (.str (S a) t) (.str (S b) u)) Q E s :=
  P.ne_str (by
    have : ((S a).cps.toList != (S b).cps.toList) = decide (a ≠ b) := by
      rw [Bool.eq_iff_iff]; simp [S]
    rw [this]; exact h)
theorem tab_get (tab : Tab) (x : List Nat) : (PySem.Spec.lookup (.str (S x)) (tabD tab)).getD (.str (S x)) = .str (S (splS tab x)) := by
  have step : ∀ (tab : Tab), PySem.Spec.lookup (.str (S x)) (tabD tab) = (match x with | [c] => (tab.lookup c).map fun r => .str (S r) | _ => none) := by
    intro tab
    induction tab with
    | nil =>
      match x with
      | [] => rfl
      | [c] => rfl
      | a :: b :: r => rfl
    | cons p t ih =>
      obtain ⟨k, r⟩ := p
      show (if PySem.Spec.same (.str (S [k])) (.str (S x)) = true then some (.str (S r)) else PySem.Spec.lookup (.str (S x)) (tabD t)) = _
      rw [PyProof.V.same_str, ih]
      match x with
      | [] =>
        have : ¬ (S [k] = S []) := fun e => by have := S_inj e; cases this
        simp [this]
      | [c] =>
        by_cases hk : c = k
        · subst hk; simp [List.lookup]
        · have h1 : ¬ (S [k] = S [c]) := fun e => hk (by have := S_inj e; injection this with a; exact a.symm)
          have h2 : (c == k) = false := by simpa using hk
          simp [h1, List.lookup, h2]
      | a :: b :: rr =>
        have : ¬ (S [k] = S (a :: b :: rr)) := fun e => by have := S_inj e; cases this
        simp [this]
  rw [step]
  match x with
  | [] => rfl
  | [c] =>
    show ((tab.lookup c).map fun r => PyData.str (S r)).getD (.str (S [c])) = .str (S (spl tab c))
    unfold spl
    cases tab.lookup c <;> rfl
  | a :: b :: r => rfl
theorem flat_str {v : Value} {x : Str} (h : PyProof.V.Flat v (.str x)) : ∃ t, v = .str x t := by
  have := h {}
  cases this
  exact ⟨_, rfl⟩
theorem get_S {h₀ : Heap} {L : Addr} {led : List (Addr × Obj)} {d : Addr} {o : Obj} {tab : Tab} {x : List Nat} {t u : Tok} (N : News h₀ L s.heap led) (hd : (d, o) ∈ led) (hsp : SpO w d o tab)
    (h : ∀ t' k, Q (.str (S (splS tab x)) t') { s with toks := k }) : wpAny (model PySem.Challenge.rw_tr0040_01.row.prog w) A (call (.builtin "dict.get") [.ref d, .str (S x) t, .str (S x) u]) Q E s := by
  obtain ⟨lo, kvs, is, fl⟩ := hsp
  refine call_get2_strTab (D := tabD tab) (dd := .str (S x)) (TabAt.ofNews N hd lo is fl) (fun _ => .str _ _) (fun v hv => ?_)
  rw [tab_get] at hv
  obtain ⟨t', rfl⟩ := flat_str hv
  exact h _ _
theorem method_get {h₀ : Heap} {L : Addr} {led : List (Addr × Obj)} {d : Addr} {o : Obj} {tab : Tab} {pl : Sem Bool} {Q : Value × List Value → Shared → Prop} (N : News h₀ L s.heap led) (hd : (d, o) ∈ led) (hsp : SpO w d o tab)
    (h : Q (.builtin "dict.get", [.ref d]) s) : wpAny (model PySem.Challenge.rw_tr0040_01.row.prog w) A (getMethod (.ref d) "get" pl) Q E s := by
  obtain ⟨lo, kvs, is, fl⟩ := hsp
  exact getMethod_tab (D := tabD tab) (enc := PyData.str) (knd := PySem.strKind PySem.Challenge.rw_tr0040_01.row.prog w) PySem.F.slot_dict_get PySem.F.type_dict_get (TabAt.ofNews N hd lo is fl) h
end
section
variable {prog : Program} {w : World} {A : Around} {s : Shared} {E : Value → Shared → Prop}
theorem item_is (l : List Nat) (i : Int) (h0 : 0 ≤ i) (h1 : i < l.length) : Txt.item (S l) i = S [l.getD i.toNat 0] := by
  have hn : i.toNat < l.length := by omega
  have hc : (S l).cps[i.toNat]? = some (l[i.toNat]'hn) := by simp [S, hn]
  have := StrLaws.at_nonneg h0 hc
  unfold Txt.item Txt.charAt
  rw [this]
  simp [S, hn]
theorem item_S {value slice : Expr} {l : List Nat} {i : Int} {t u : Tok} {Q : Value → Shared → Prop} (h0 : 0 ≤ i) (h1 : i < l.length) (h2 : l.length ≤ 16777216) (h : ∀ t' k, Q (.str (S [l.getD i.toNat 0]) t') { s with toks := k })
    (hs : subscripted slice false (.str (S l) t) (.int i u) = operate [.str (S l) t, .int i u] (getItem (.str (S l) t) (.int i u)) := by with_unfolding_all rfl)
    (ht : ∀ r, letTemporaryGo value (.str (S l) t) r = pure () := by intro _; with_unfolding_all rfl) :
    wpAny (model prog w) A (subscriptTail value slice (.str (S l) t) (.int i u)) Q E s :=
  item_str (fitsSsize_of (N := 9223372036854775808) (by omega) (by omega) (Int.le_refl _)) (by rw [S_length]; omega) (by rw [S_length]; exact h1)
    (fun _ => by rw [item_is l i h0 h1]; exact h _ _) hs ht
end

theorem ne_tail {news : List (Addr × Obj)} {b d : Nat} (h : ∀ p ∈ news, @LT.lt Nat _ p.1 b) (e : b ≤ d) : ∀ p ∈ news, p.1 ≠ d := fun p hp => Nat.ne_of_lt (Nat.lt_of_lt_of_le (h p hp) e)
theorem sub_nil {l : List (Addr × Obj)} : ∀ p ∈ ([] : List (Addr × Obj)), p ∈ l := fun _ h => nomatch h
theorem sub_cons {x : Addr × Obj} {xs l : List (Addr × Obj)} (h : x ∈ l) (t : ∀ p ∈ xs, p ∈ l) : ∀ p ∈ x :: xs, p ∈ l := List.forall_mem_cons.mpr ⟨h, t⟩
theorem sub_self {l : List (Addr × Obj)} : ∀ p ∈ l, p ∈ l := fun _ h => h
theorem sub_drop {x : Addr × Obj} {xs l : List (Addr × Obj)} (h : ∀ p ∈ xs, p ∈ l) : ∀ p ∈ xs, p ∈ x :: l := fun p hp => .tail _ (h p hp)
theorem sub_app {xs ys l : List (Addr × Obj)} (h : ∀ p ∈ xs, p ∈ l) (k : ∀ p ∈ ys, p ∈ l) : ∀ p ∈ xs ++ ys, p ∈ l := fun p hp => (List.mem_append.mp hp).elim (h p) (k p)
theorem sub_left {xs l k : List (Addr × Obj)} (h : ∀ p ∈ xs, p ∈ l) : ∀ p ∈ xs, p ∈ l ++ k := fun p hp => List.mem_append_left _ (h p hp)
theorem sub_right {xs l k : List (Addr × Obj)} (h : ∀ p ∈ xs, p ∈ k) : ∀ p ∈ xs, p ∈ l ++ k := fun p hp => List.mem_append_right _ (h p hp)
theorem allN {news : List (Addr × Obj)} {d : Addr} (h : ∀ p ∈ news, p.1 < d) : ∀ p ∈ news, @LT.lt Nat _ p.1 d := h
end

local macro_rules | `(tactic| walk_at "mine om") => `(tactic| first | with_reducible assumption | omega)
local macro_rules | `(tactic| walk_at "exec For Name Call cons nil") => `(tactic| with_unfolding_all refine for_any ?_)
local macro_rules | `(tactic| walk_at "exec For Name Name cons nil") => `(tactic| with_unfolding_all refine for_any ?_)
local macro_rules | `(tactic| walk_at "exec For Name IfExp cons nil") => `(tactic| with_unfolding_all refine for_any ?_)
local macro_rules | `(tactic| walk_at "exec For Tuple Name cons nil") => `(tactic| with_unfolding_all refine for_any ?_)
local macro_rules | `(tactic| walk_at "mine has") => `(tactic| (repeat (first | exact Has.nil | refine Has.cons (by rfl) ?_)))
local macro_rules | `(tactic| walk_at "eval Constant str") => `(tactic| ((with_reducible first | refine constE ?_ | refine constBs ?_ | refine constQ ?_ | refine constNl ?_ | refine constSp ?_ | refine constCr ?_ | refine constTab ?_ | refine constWs ?_); intro _ _; try dsimp only))
local macro_rules | `(tactic| walk_at "binaryOp Add str str") => `(tactic| ((with_reducible refine' add_S ?hS ?_); (case hS => first | walk_at "mine om" | (simp only [List.length_append, List.length_cons, List.length_nil, List.length_singleton]; omega)); intro _ _; try dsimp only))
local macro_rules | `(tactic| walk_at "inplaceOp Add str str") => `(tactic| ((with_reducible refine' iadd_S ?hS ?_); (case hS => first | walk_at "mine om" | (simp only [List.length_append, List.length_cons, List.length_nil, List.length_singleton]; omega)); intro _ _; try dsimp only))
local macro_rules | `(tactic| walk_at "call builtin:len cons nil") => `(tactic| ((with_reducible refine' len_S ?hS ?_); (case hS => first | walk_at "mine om" | (simp only [List.length_append, List.length_cons, List.length_nil, List.length_singleton]; omega)); intro _ _; try dsimp only))
local macro_rules | `(tactic| walk_at "compareOp Eq str str") => `(tactic| with_reducible refine eq_S ?_)
local macro_rules | `(tactic| walk_at "compareOp NotEq str str") => `(tactic| with_reducible refine ne_S ?_)
local macro_rules | `(tactic| walk_at "call builtin:dict.get") => `(tactic| (k_dflt (refine get_S (by k_asm) (by k_mem) (by with_reducible assumption) ?_); intro _ _; try dsimp only))
local macro_rules | `(tactic| walk_at "getMethod ref") => `(tactic| k_dflt (refine method_get (by k_asm) (by k_mem) (by with_reducible assumption) ?_))
local macro_rules | `(tactic| walk_at "exec While") => `(tactic| fail "a while: by hand")
local macro_rules | `(tactic| walk_at "subscriptTail Name BinOp str int") => `(tactic| ((refine' item_S ?h0 ?h1 ?h2 ?_); (case h0 => walk_at "mine om"); (case h1 => walk_at "mine om"); (case h2 => walk_at "mine om"); intro _ _; try dsimp only))
local macro_rules | `(tactic| walk_at "subscriptTail Name Name str int") => `(tactic| ((refine' item_S ?h0 ?h1 ?h2 ?_); (case h0 => walk_at "mine om"); (case h1 => walk_at "mine om"); (case h2 => walk_at "mine om"); intro _ _; try dsimp only))
local macro_rules | `(tactic| k_all) => `(tactic| first | assumption | exact ne_tail (by assumption) (by (try dsimp only); omega))
local macro_rules | `(tactic| k_ne) => `(tactic| first | assumption | exact Ne.symm (by assumption))
local macro_rules | `(tactic| walk_at "mine size") => `(tactic| first | assumption | (simp only [List.size_toArray, sizeLine_eq, List.length_append, List.length_cons, List.length_nil]; omega))
local macro_rules | `(tactic| walk_at "call builtin:list.append") => `(tactic| ((with_reducible show wpAny _ _ (call (Value.builtin _) [Value.ref _, _]) _ _ _); k_dflt (refine' append_K ?k1 ?k2 ?k3 ?_ ?z; (case k1 => k_asm); (case k2 => k_asm); (case k3 => k_upd); (case z => walk_at "mine size")); intro h' F' N'))
local macro_rules | `(tactic| walk_at "mine memr") => `(tactic| first | with_reducible exact List.Mem.head _ | (refine' List.Mem.tail _ ?_; walk_at "mine memr") | (refine' List.mem_append_right _ ?_; walk_at "mine memr") | (refine' List.mem_append_left _ ?_; walk_at "mine memr") | with_reducible assumption)
local macro_rules | `(tactic| walk_at "mine memd") => `(tactic| first | exact List.Mem.head _ | (refine' List.Mem.tail _ ?_; walk_at "mine memd") | (refine' List.mem_append_right _ ?_; walk_at "mine memd") | (refine' List.mem_append_left _ ?_; walk_at "mine memd") | with_reducible assumption)
local macro_rules | `(tactic| walk_at "mine mem") => `(tactic| first | walk_at "mine memr" | walk_at "mine memd")
local macro_rules | `(tactic| walk_at "mine subtail") => `(tactic| first | with_reducible exact sub_self | with_reducible assumption | ((with_reducible refine sub_drop ?_); walk_at "mine subtail") | ((with_reducible refine sub_left ?_); walk_at "mine subtail") | ((with_reducible refine sub_right ?_); walk_at "mine subtail"))
local macro_rules | `(tactic| walk_at "mine sub") => `(tactic| ((repeat' (with_reducible first | exact sub_self | exact sub_nil | assumption | refine' sub_cons ?_ ?_ | refine' sub_app ?_ ?_)) <;> first | walk_at "mine mem" | walk_at "mine subtail"))
local macro_rules | `(tactic| walk_at "mine subr") => `(tactic| ((repeat' (with_reducible first | exact sub_self | exact sub_nil | assumption | refine' sub_cons ?_ ?_ | refine' sub_app ?_ ?_)) <;> first | walk_at "mine memr" | walk_at "mine subtail"))
-- part MWritten
section
theorem written_call {w : World} {A : Around} {s : Shared} {h₀ : Heap} {L : Addr} {m : Str → Option Value} {news : List (Addr × Obj)} {mean : ExcName → Option Value} {mg mb : Str → Option Value} {Q E : Value → Shared → Prop}
   {lu d : Addr} {vs : List Value} {nu : Nat} {us : List U} {o : Obj} {tab : Tab}
   (F : Fr h₀ L s.heap m) (N : News h₀ L s.heap news) (G : GD w mean mg mb h₀) (a : AOk A 1) (hlu : (lu, listOf vs.toArray nu) ∈ news) (hus : AllIn (UIn news) vs us) (hd : (d, o) ∈ news) (hsp : SpO w d o tab)
   (hn : us.length ≤ 100) (hok : ∀ u ∈ us, Uok u) (htab : ∀ p ∈ tab, p.2.length ≤ 14)
   (ret : ∀ t' h' tk', Fr h₀ L h' m → News h₀ L h' news → Q (.str (S (written us tab)) t') { s with heap := h', toks := tk' })
   : wpAny (model PySem.Challenge.rw_tr0040_01.row.prog w) A (call (.ref 159) [.ref lu, .ref d]) Q E s := by
  obtain ⟨X, T⟩ := G
  obtain ⟨ah, dp, fr, gd, un⟩ := A
  obtain ⟨rfl⟩ : ah = none := a.hh
  have aD := a.hd; have aU := a.hu
  dsimp only at aD aU
  refine wpAny_call ?_
  refine' enterF (cl := []) (binds := [(Str.ofString "units", .ref lu), (Str.ofString "spell", .ref d)]) F N X T.nolimit ?k1 ?k3 ?k4 ?k5 ?k6 ?_ ?k7 ?k8 ?k9 ?k10
  case k4 => exact Nat.lt_of_le_of_lt (Nat.le_add_right _ _) a.hd
  walk_at "mine sides"
  intro g L' h₁ tk htk FG F' N' st hlt
  have X' := X.keeps st
  have T' := T.keeps st
  clear X T F N FG st
  have N1 : News g L' h₁ ((lu, listOf vs.toArray nu) :: (d, o) :: news) := newsCons (newsCons N' hd) (.tail _ hlu)
  clear N'
  walk_at "mine steps"
  rename Fr g L' _ _ => F2
  rename News g L' _ _ => N2
  refine it_list rfl F2 N2 (.head _) (fun i m nx => nx = (lu, listOf vs.toArray nu) :: (d, o) :: news ∧ ∃ t, Has m [(Str.ofString "units", .ref lu), (Str.ofString "spell", .ref d), (Str.ofString "text", .str (S (written (us.take i) tab)) t)]) ?_ ?_ ?_ ?_
  · exact ⟨rfl, _, by walk_at "mine has"⟩
  · rintro _ _ _ ⟨rfl, _⟩
    exact .head _
  · rintro i v m₁ nx₁ I oI h t hv ⟨rfl, t₁, hm⟩ hoff F3 N3
    obtain ⟨u, hu, ta, tn, tt, rfl, htm⟩ := hus.get hv
    have F4 := frHas F3 hm
    dsimp only [mp] at F4
    have N4 : News g L' h ((ta, tupO [.bool u.1, .str (S u.2) tt] tn) :: (I, oI) :: (lu, listOf vs.toArray nu) :: (d, o) :: news) := newsCons N3 (.tail _ (.tail _ (.tail _ htm)))
    have hlen1 : (written (us.take i) tab).length ≤ 1500 := by
      have h1 := written_length htab (us := us.take i) (fun x hx => hok x (List.mem_of_mem_take hx))
      have h2 : (us.take i).length ≤ 100 := Nat.le_trans (List.length_take_le' _ _) hn
      omega
    have hlen2 := wrU_length htab (hok u (List.mem_of_getElem? hu))
    have hlen3 : (splS tab u.2).length ≤ 15 := by
      unfold wrU at hlen2; rw [List.length_append] at hlen2; omega
    have hnext := written_take_succ us tab i u hu
    obtain ⟨ue, us'⟩ := u
    dsimp only at hlen3
    clear F3 N3 F2 N2
    cases ue
    · have e : written (us.take (i + 1)) tab = (written (us.take i) tab ++ []) ++ splS tab us' := by rw [hnext]; simp [wrU]
      walk_at "mine steps"
      rename Fr g _ _ _ => F9
      rename News g _ _ _ => N9
      refine ⟨_, _, _, _, rfl, F9, newsSub N9 (fun _ hp => .tail _ hp), hoff, rfl, ?_⟩
      rw [e]
      exact ⟨_, by walk_at "mine has"⟩
    · have e : written (us.take (i + 1)) tab = (written (us.take i) tab ++ [92]) ++ splS tab us' := by rw [hnext]; simp [wrU]
      walk_at "mine steps"
      rename Fr g _ _ _ => F9
      rename News g _ _ _ => N9
      refine ⟨_, _, _, _, rfl, F9, newsSub N9 (fun _ hp => .tail _ hp), hoff, rfl, ?_⟩
      rw [e]
      exact ⟨_, by walk_at "mine has"⟩
  · rintro m₁ nx₁ h t ⟨rfl, t₁, hm⟩ F3 N3
    have F4 := frHas F3 hm
    dsimp only [mp] at F4
    clear F3 F2 N2
    walk_at "mine steps"
    dsimp only
    rw [hus.length, List.take_length]
    exact leaveK_ F4 N3 (fun kF kN => ret _ _ _ kF (newsSub kN fun _ hp => .tail _ (.tail _ hp)))
end

-- part MUnits
section
inductive UnitsJ (l : List Nat) (lu : Addr) (news : List (Addr × Obj)) (t : Tok) (i : Nat) (m : Str → Option Value) (nx : List (Addr × Obj)) : Prop
  | mk (vs : List Value) (nu : Nat) (tl : List (Addr × Obj)) (e : nx = (lu, listOf vs.toArray nu) :: (tl ++ news)) (a : AllIn (UIn tl) vs (upTo l i)) (ht : ∀ p ∈ tl, p.2.cls = .type "tuple") (hm : Has m [(Str.ofString "text", .str (S l) t), (Str.ofString "units", .ref lu)]) : UnitsJ l lu news t i m nx
theorem units_end {g h' : Heap} {L' I D lu : Addr} {oI : Obj} {gs : Array GenState} {dr : Drawn} {os : OsState} {tk nu i : Nat} {m' : Str → Option Value} {vs : List Value} {tl news : List (Addr × Obj)} {l : List Nat} {t tt : Tok} {b : Bool} {sgn : List Nat} {Q : Flow → Shared → Prop}
    (F : Fr g L' h' m') (N : News g L' h' ((D, tupO [.bool b, .str (S sgn) tt] 0) :: (I, oI) :: (lu, listOf (vs.toArray.push (.ref D)) (nu + 1)) :: (tl ++ news)))
    (hoff : ∀ p ∈ (lu, listOf vs.toArray nu) :: (tl ++ news), p.1 ≠ I) (hD : @LT.lt Nat _ I D) (hus : AllIn (UIn tl) vs (upTo l i)) (htl : ∀ p ∈ tl, p.2.cls = .type "tuple")
    (hm : Has m' [(Str.ofString "text", .str (S l) t), (Str.ofString "units", .ref lu)]) (e : upTo l (i + 1) = upTo l i ++ [(b, sgn)]) :
    TurnEnd g L' I oI gs dr os (UnitsJ l lu news t (i + 1)) Q .next ⟨h', gs, dr, tk, os⟩ := by
  refine ⟨h', tk, m', (lu, listOf (vs ++ [Value.ref D]).toArray (nu + 1)) :: (((D, tupO [.bool b, .str (S sgn) tt] 0) :: tl) ++ news), rfl, F, newsSub N ?_, ?_, vs ++ [Value.ref D], nu + 1, (D, tupO [.bool b, .str (S sgn) tt] 0) :: tl, rfl, ?_, ?_, hm⟩
  · intro p hp
    rcases List.mem_cons.mp hp with rfl | hp
    · exact .tail _ (.head _)
    rcases List.mem_cons.mp hp with rfl | hp
    · refine .tail _ (.tail _ ?_)
      simp
      exact .head _
    rcases List.mem_cons.mp hp with rfl | hp
    · exact .head _
    · exact .tail _ (.tail _ (.tail _ hp))
  · intro p hp
    rcases List.mem_cons.mp hp with rfl | hp
    · exact hoff (lu, listOf vs.toArray nu) (.head _)
    rcases List.mem_cons.mp hp with rfl | hp
    · exact Ne.symm (Nat.ne_of_lt hD)
    · exact hoff p (.tail _ hp)
  · rw [e]
    refine AllIn.append (AllIn.mono (fun v u hu => hu.mono fun p hp => .tail _ hp) hus) ⟨⟨D, 0, tt, rfl, .head _⟩, trivial⟩
  · intro p hp
    rcases List.mem_cons.mp hp with rfl | hp
    · rfl
    · exact htl p hp
theorem units_call {w : World} {A : Around} {s : Shared} {h₀ : Heap} {L : Addr} {m : Str → Option Value} {news : List (Addr × Obj)} {mean : ExcName → Option Value} {mg mb : Str → Option Value} {Q E : Value → Shared → Prop}
   {l : List Nat} {t : Tok}
   (F : Fr h₀ L s.heap m) (N : News h₀ L s.heap news) (G : GD w mean mg mb h₀) (a : AOk A 1) (hl : l.length ≤ 1000)
   (ret : ∀ lu vs nu tl h' tk', Fr h₀ L h' m → News h₀ L h' ((lu, listOf vs.toArray nu) :: (tl ++ news)) → AllIn (UIn tl) vs (unitsOf l) → (∀ p ∈ tl, p.2.cls = .type "tuple") → Q (.ref lu) { s with heap := h', toks := tk' })
   : wpAny (model PySem.Challenge.rw_tr0040_01.row.prog w) A (call (.ref 133) [.str (S l) t]) Q E s := by
  obtain ⟨X, T⟩ := G
  obtain ⟨ah, dp, fr, gd, un⟩ := A
  obtain ⟨rfl⟩ : ah = none := a.hh
  have aD := a.hd; have aU := a.hu
  dsimp only at aD aU
  refine wpAny_call ?_
  refine' enterF (cl := []) (binds := [(Str.ofString "text", .str (S l) t)]) F N X T.nolimit ?k1 ?k3 ?k4 ?k5 ?k6 ?_ ?k7 ?k8 ?k9 ?k10
  case k4 => exact Nat.lt_of_le_of_lt (Nat.le_add_right _ _) a.hd
  walk_at "mine sides"
  intro g L' h₁ tk htk FG F' N' st hlt
  have X' := X.keeps st
  have T' := T.keeps st
  clear X T F N FG st
  walk_at "mine steps"
  rename Fr g L' _ _ => F2
  rename News g L' _ _ => N2
  rename IsRange _ _ _ _ _ _ _ _ => R2
  rename_i lu _ _ _ _ _ _ _ _ _ _ _ _ _
  rename (∀ p ∈ news, p.1 < lu) => hlul
  have hlun : ∀ p ∈ news, p.1 ≠ lu := fun p hp => Nat.ne_of_lt (hlul p hp)
  refine it_range (n := l.length) rfl F2 N2 R2 ?_ ?_ (UnitsJ l lu news t) ?_ ?_ ?_
  · exact small_one (by omega) (by omega) (by omega) (by omega)
  · rw [rangeSize_one]; split <;> omega
  · exact ⟨[], 0, [], rfl, trivial, (fun _ hp => nomatch hp), by walk_at "mine has"⟩
  · rintro i tv m₁ nx₁ I oI h t' hi ⟨vs, nu, tl, rfl, hus, htl, hm⟩ hoff F3 N3
    have F4 := frHas F3 hm
    dsimp only [mp] at F4
    have hot : ∀ p ∈ tl ++ news, p.1 ≠ lu := offApp (offTup N3 (.tail _ (.head _)) (.inl rfl) htl (fun p hp => .tail _ (.tail _ (List.mem_append_left _ hp)))) hlun
    have hIl : lu ≠ I := hoff _ (.head _)
    have hvs : vs.length ≤ 1000 := by
      have h1 := upTo_length l i
      have h2 := hus.length
      omega
    clear F3 F2 N2 R2
    walk_at "mine steps"
    all_goals (try dsimp only)
    all_goals (rename Fr g _ _ _ => F9; rename News g _ _ _ => N9; (have he := esc_of l i _ (by assumption) (by assumption) (by assumption) (by assumption)))
    all_goals (have hi2 : (0 + (i : Int) * 1).toNat = i := by omega)
    all_goals (simp only [hi2] at *)
    · rename [l.getD i 0] ≠ [92] => hne
      rename (I < _ ∧ _) => l9
      exact units_end F9 N9 hoff l9.1 hus htl (by walk_at "mine has") (by show upTo l i ++ _ = _; rw [if_pos (.inl fun q => hne (by rw [q])), he])
    · rename (_ : Int).fmod 2 = 1 => hodd
      rename (I < _ ∧ _) => l9
      exact units_end F9 N9 hoff l9.1 hus htl (by walk_at "mine has") (by show upTo l i ++ _ = _; rw [if_pos (.inr (by rw [he, hodd]; rfl)), he])
    · rename (_ : Int).fmod 2 ≠ 1 => hev
      rename ¬ ([l.getD i 0] ≠ [92]) => heq
      rename (I < _ ∧ _) => l9
      have h92 : l.getD i 0 = 92 := by
        have := Decidable.not_not.mp heq
        injection this
      have hesc : escAt l i = false := by rw [he]; simpa using hev
      exact units_end F9 N9 hoff l9.1 hus htl (by walk_at "mine has") (by show upTo l i ++ _ = _; rw [if_neg (by rw [h92, hesc]; simp), if_pos (by omega)])
    · rename (_ : Int).fmod 2 ≠ 1 => hev
      rename ¬ ([l.getD i 0] ≠ [92]) => heq
      have h92 : l.getD i 0 = 92 := by
        have := Decidable.not_not.mp heq
        injection this
      have hesc : escAt l i = false := by rw [he]; simpa using hev
      have e : upTo l (i + 1) = upTo l i := by show upTo l i ++ _ = _; rw [if_neg (by rw [h92, hesc]; simp), if_neg (by omega), List.append_nil]
      refine ⟨_, _, _, _, rfl, F9, N9, hoff, vs, nu, tl, rfl, by rw [e]; exact hus, htl, by walk_at "mine has"⟩
  · rintro m₁ nx₁ h t' ⟨vs, nu, tl, rfl, hus, htl, hm⟩ F3 N3
    have F4 := frHas F3 hm
    dsimp only [mp] at F4
    clear F2 N2
    walk_at "mine steps"
    dsimp only
    exact leaveK_ F4 N3 (fun kF kN => ret _ _ _ _ _ _ kF kN hus htl)
end

-- part MSl
section
theorem slice_core (l : List Nat) (a b : Nat) (ha : a ≤ l.length) (hb : b ≤ l.length) {lo hi : Option Int} (e : Builtin.Str.strSliceIndices lo hi 1 l.length = sliceRange (a : Int) (b : Int) 1) : Txt.slice (S l) lo hi = S ((l.drop a).take (b - a)) := by
  have e2 : (sliceRange (a : Int) (b : Int) 1).filterMap (fun i => l[i]?) = (l.drop a).take (b - a) := by
    rw [sliceRange_one]
    have := pick_run l.toArray a (b - a)
    simpa using this
  unfold Txt.slice
  rw [S_length, e]
  split
  · rename_i h
    simp only [beq_self_eq_true, Bool.true_and, beq_iff_eq] at h
    have : (sliceRange (a : Int) (b : Int) 1).length = b - a := by rw [sliceRange_one]; simp
    rw [this] at h
    have ha0 : a = 0 := by omega
    have hb0 : b = l.length := by omega
    subst ha0 hb0
    simp
  · show Str.mk _ = Str.mk _
    congr 1
    have : (fun i : Nat => (S l).cps[i]?) = fun i : Nat => l[i]? := by funext i; simp [S]
    rw [this, e2]
theorem slice_ss (l : List Nat) (a b : Nat) (ha : a ≤ l.length) (hb : b ≤ l.length) : Txt.slice (S l) (some (a : Int)) (some (b : Int)) = S ((l.drop a).take (b - a)) := by
  refine slice_core l a b ha hb ?_
  unfold Builtin.Str.strSliceIndices
  simp only [show (1 : Int) > 0 by decide, if_true]
  congr 1 <;> split <;> omega
theorem slice_ns (l : List Nat) (b : Nat) (hb : b ≤ l.length) : Txt.slice (S l) none (some (b : Int)) = S (l.take b) := by
  have := slice_core l 0 b (Nat.zero_le _) hb (lo := none) (hi := some (b : Int)) (by
    unfold Builtin.Str.strSliceIndices
    simp only [show (1 : Int) > 0 by decide, if_true]
    congr 1; split <;> omega)
  simpa using this
theorem slice_sn (l : List Nat) (a : Nat) (ha : a ≤ l.length) : Txt.slice (S l) (some (a : Int)) none = S (l.drop a) := by
  have := slice_core l a l.length ha (Nat.le_refl _) (lo := some (a : Int)) (hi := none) (by
    unfold Builtin.Str.strSliceIndices
    simp only [show (1 : Int) > 0 by decide, if_true]
    congr 1; split <;> omega)
  rw [this]
  congr 1
  exact List.take_of_length_le (by simp)
theorem slice_one (l : List Nat) (p : Nat) (hp : p ≤ l.length) : Txt.slice (S l) (some (p : Int)) (some ((p : Int) + 1)) = S ((l.drop p).take 1) := by
  have := slice_core l p (min l.length (p + 1)) hp (Nat.min_le_left _ _) (lo := some (p : Int)) (hi := some ((p : Int) + 1)) (by
    unfold Builtin.Str.strSliceIndices
    simp only [show (1 : Int) > 0 by decide, if_true]
    congr 1 <;> split <;> omega)
  rw [this]
  congr 1
  by_cases h : p < l.length
  · rw [show min l.length (p + 1) - p = 1 by omega]
  · rw [List.drop_eq_nil_of_le (by omega)]; simp
end

-- part M4
section
theorem ground {h h₀ : Heap} {L : Addr} {m : Str → Option Value} {news : List (Addr × Obj)} {R : Result → Shared → Prop} (F : Fr h₀ L h m) (N : News h₀ L h news) :
    Fr h₀ L (hideAll h (news.map (·.1))) m ∧ h₀.StaysIn (hideAll h (news.map (·.1))) ∧ ∀ v s', LeaveK h₀ L m (hideAll h (news.map (·.1))) R v s' → R (.ok (.ret v)) s' := by
  have nm : ∀ b o, h₀.get? b = some o → b ∉ news.map (·.1) := fun b o e q => by
    obtain ⟨p, hp, rfl⟩ := List.mem_map.mp q
    rw [(N p hp).2.2] at e; cases e
  have st : h₀.StaysIn (hideAll h (news.map (·.1))) := fun b o e => hideAll_get _ (F.keep b o e) (nm b o e)
  obtain ⟨oL, es, ep, hL, hLd, hLk, hLf⟩ := F.ns
  have nL : L ∉ news.map (·.1) := fun q => by
    obtain ⟨p, hp, e⟩ := List.mem_map.mp q
    exact (N p hp).2.1 e
  have hLg := hideAll_get (news.map (·.1)) hL nL
  refine ⟨⟨⟨oL, es, ep, hLg, hLd, hLk, hLf⟩, st, F.above⟩, st, fun v s' hl => ?_⟩
  obtain ⟨L', m', news', F', N', k⟩ := hl
  refine k ⟨⟨oL, es, ep, F'.keep L oL hLg, hLd, hLk, hLf⟩, fun b o e => F'.keep b o (st b o e), F.above⟩ fun p hp => ⟨(N' p hp).1, fun q => ?_, ?_⟩
  · have := (N' p hp).2.2; rw [q, hLg] at this; cases this
  · cases q : h₀.get? p.1 with
    | none => rfl
    | some o => have := (N' p hp).2.2; rw [st _ _ q] at this; cases this

theorem enterC {prog : Program} {w : World} {A : Around} {s : Shared} {h₀ : Heap} {L : Addr} {m : Str → Option Value} {news : List (Addr × Obj)}
  {R : Result → Shared → Prop} {name qual : Str} {params : Arguments} {body : List Stmt} {scope : Scope} {dV kV doc pm cdv ct : Value} {an od : Option Addr} {oc : Value} {osl : Array (Option Value)} {K : Frag} {f : Addr} {args : Args} {binds : List (Str × Value)}
    (F : Fr h₀ L s.heap m) (N : News h₀ L s.heap news) (X : K.In h₀) (hlim : h₀.NoLimit)
    (ho : K.lookup f = some ⟨oc, od, .func (fnX name qual params body scope [] dV kV doc pm an cdv ct), osl⟩) (hcd : codeIn K cdv qual = true) (hroom : A.depth < recursionLimit)
    (hbind : BindsTo s (fnX name qual params body scope [] dV kV doc pm an cdv ct) args binds)
    (hkind : (binds.all fun y => scope.names.lookup y.1 == some .local || scope.names.lookup y.1 == some .cell) = true)
    (hnd : ((cellsFrom 0 scope.names []).map (·.1)).Nodup)
    (h : ∀ g L' h₁ tk cells, Fr h₀ L g m → Fr g L' h₁ (bindL (envOfC qual scope L' f cdv).kindOf binds fun _ => none) → News g L' h₁ (cells ++ news) →
      CellsAre (bindC (envOfC qual scope L' f cdv).kindOf binds fun _ => none) (cellsFrom (L' + 1) scope.names []) cells → h₀.StaysIn g → (∀ p ∈ news, p.1 < L') →
      wpAny (model prog w) (A.deeper (envOfC qual scope L' f cdv)) (execs body (envOfC qual scope L' f cdv))
        (fun fl s' => LeaveK h₀ L m g R (match fl with | .ret v => v | _ => .none) s')
        (fun _ _ => False)
        { s with heap := h₁, toks := tk })
    (hco : scope.isCoroutine = false := by rfl) (hgen : scope.isGenerator = false := by rfl) (hk : scope.kind = .function := by rfl) : codeAny (model prog w) A (.call (.ref f) args) R s := by
  obtain ⟨FG, st, lv⟩ := ground (R := R) F N
  refine codeAny_call_function hroom (F.keep _ _ (X _ _ ho)) rfl hco hgen rfl (codeRec_of (X.keeps F.keep) hcd) (hbind _ _ _ _ ?_)
  refine wpAny_newFunctionEnv_cells hk (kindsX hkind _) fun env' he s' x => ?_
  subst he
  refine ⟨(hlim.keeps F.keep).keeps x.toInCall.keep, codeAny_func ?_⟩
  obtain ⟨h₁, tk, rfl, _⟩ := x.done
  have hk₁ := x.toInCall.keep
  obtain ⟨cells, NC, Y⟩ := Cl.news (h₀ := s.heap) (Nat.le_refl _) fun n c hm => ⟨x.cell n c (lookup_of_mem_nodup (cellsFrom_names scope.names 0 (s.heap.objs.size + 1) [] [] rfl ▸ hnd) hm), x.above n c hm⟩
  refine wpAny_mono (h _ s.heap.objs.size h₁ tk cells FG ⟨x.toInCall.ns, fun b o e => hk₁ b o (of_hideAll _ e), Nat.le_of_eq (hideAll_size _ _)⟩ (fun p hp => ?_) Y st (fun p hp => Heap.lt_size (N p hp).1)) (fun fl s' hl => lv _ _ hl) fun _ _ y => y.elim
  rcases List.mem_append.mp hp with hp | hp
  · refine ⟨(NC p hp).1, (NC p hp).2.1, ?_⟩
    cases q : (hideAll s.heap (news.map (·.1))).get? p.1 with
    | none => rfl
    | some o => have := of_hideAll _ q; rw [(NC p hp).2.2] at this; cases this
  · exact ⟨hk₁ _ _ (N p hp).1, Nat.ne_of_lt (Heap.lt_size (N p hp).1), hideAll_none _ (List.mem_map_of_mem hp)⟩

/-- a function object in the ledger (a def made in a body): no cells of its own -/
theorem enterN {prog : Program} {w : World} {A : Around} {s : Shared} {h₀ : Heap} {L : Addr} {m : Str → Option Value} {news : List (Addr × Obj)}
  {R : Result → Shared → Prop} {name qual : Str} {params : Arguments} {body : List Stmt} {scope : Scope} {cl : List (Str × Addr)} {dV kV doc pm cdv ct : Value} {an : Option Addr} {K : Frag} {f : Addr} {fo : Obj} {args : Args} {binds : List (Str × Value)}
    (F : Fr h₀ L s.heap m) (N : News h₀ L s.heap news) (X : K.In h₀) (hlim : h₀.NoLimit)
    (ho : (f, fo) ∈ news) (hd : fo.data = .func (fnX name qual params body scope cl dV kV doc pm an cdv ct)) (hcd : s.heap.CodeRec cdv qual) (hroom : A.depth < recursionLimit)
    (hbind : BindsTo s (fnX name qual params body scope cl dV kV doc pm an cdv ct) args binds) (hloc : ∀ y ∈ binds, scope.names.lookup y.1 = some .local)
    (h : ∀ g L' h₁ tk, binds.length ≤ tk → Fr h₀ L g m → Fr g L' h₁ (fun y => binds.reverse.lookup y) → News g L' h₁ news → h₀.StaysIn g → (∀ p ∈ news, p.1 < L') →
      wpAny (model prog w) (A.deeper (envX qual scope L' f cdv cl)) (execs body (envX qual scope L' f cdv cl))
        (fun fl s' => LeaveK h₀ L m g R (match fl with | .ret v => v | _ => .none) s')
        (fun _ _ => False)
        { s with heap := h₁, toks := tk })
    (hcell : ∀ x ∈ scope.names, x.2 ≠ .cell) (hco : scope.isCoroutine = false := by rfl) (hgen : scope.isGenerator = false := by rfl) (hk : scope.kind = .function := by rfl) : codeAny (model prog w) A (.call (.ref f) args) R s := by
  obtain ⟨FG, st, lv⟩ := ground (R := R) F N
  refine codeAny_call_def (fd := fnX name qual params body scope cl dV kV doc pm an cdv ct) (body := body) (binds := binds) hroom (N.get ho) hd (hlim.keeps F.keep) hcd rfl hbind hcell hloc (fun h₁ hns hk₁ => ?_) hco hgen hk
  exact wpAny_mono (h _ s.heap.objs.size h₁ _ (Nat.le_add_left _ _) FG ⟨hns, fun b o e => hk₁ b o (of_hideAll _ e), Nat.le_of_eq (hideAll_size _ _)⟩
    (fun p hp => ⟨hk₁ _ _ (N p hp).1, Nat.ne_of_lt (Heap.lt_size (N p hp).1), hideAll_none _ (List.mem_map_of_mem hp)⟩) st (fun p hp => Heap.lt_size (N p hp).1)) (fun fl s' hl => lv _ _ hl) fun _ _ y => y.elim
end

-- part M5
section
/-- a code object in the ledger -/
def IsCd (news : List (Addr × Obj)) (c : Addr) (q : Str) : Prop := ∃ oc vs t, (c, oc) ∈ news ∧ oc.data = .fields vs ∧ vs[1]? = some (.str q t)
theorem IsCd.mono {news news' : List (Addr × Obj)} {c : Addr} {q : Str} (x : IsCd news c q) (h : ∀ p ∈ news, p ∈ news') : IsCd news' c q := let ⟨oc, vs, t, hm, r⟩ := x; ⟨oc, vs, t, h _ hm, r⟩
theorem IsCd.strip {a b : List (Addr × Obj)} {x : Addr × Obj} {c : Addr} {q : Str} (h : IsCd (a ++ x :: b) c q) (hx : ∀ vs, x.2.data ≠ .fields vs) : IsCd (a ++ b) c q := by
  obtain ⟨oc, vs, t, hm, hd, hv⟩ := h
  refine ⟨oc, vs, t, ?_, hd, hv⟩
  rcases List.mem_append.mp hm with hm | hm
  · exact List.mem_append_left _ hm
  rcases List.mem_cons.mp hm with rfl | hm
  · exact absurd hd (hx vs)
  · exact List.mem_append_right _ hm
theorem IsCd.code {h₀ h : Heap} {L : Addr} {news : List (Addr × Obj)} {c : Addr} {q : Str} (x : IsCd news c q) (N : News h₀ L h news) : h.CodeRec (.ref c) q := let ⟨_, _, _, hm, hd, hv⟩ := x; codeRec_news N hm hd hv

section
variable {M : Model} {A : Around} {E : Value → Shared → Prop} {s : Shared} {h₀ : Heap} {L a c P : Addr} {m mg mb : Str → Option Value} {cn : Str} {cs : Scope} {ccd : Value} {cl : List (Str × Addr)} {rest : List (Addr × Obj)}
  {p : Program} {loose : List Str} {mean : ExcName → Option Value} {name qual : Str} {params : Arguments} {scope : Scope} {ps : Array Value} {pos : Pos} {firstLine : Nat} {clos : List (Str × Addr)}
theorem nest_any {body : List Stmt} {Q : Value → Shared → Prop} (F : Fr h₀ L s.heap m) (N : News h₀ L s.heap ((P, tabObj ps) :: rest)) (T : Top p loose mean mg mb h₀) (C : CodeHd h₀ c P) (hcd : ccd = .ref c) (hP : ∀ q ∈ rest, q.1 ≠ P) (ht : TriplesOk ps.toList)
    (hcase : codeAmong pos ps.toList = none ∨ ∃ c', codeAmong pos ps.toList = some (.ref c') ∧ IsCd rest c' qual)
    (hcl : closureFor scope (envX cn cs L a ccd cl) = pure clos)
    (h : ∀ f fo c' ctv doc h' tk tl ps', fo = fnMade name qual params body scope clos doc ((mg "__name__").getD .none) c' ctv → Fr h₀ L h' m → News h₀ L h' ((f, fo) :: (P, tabObj ps') :: (tl ++ rest)) → IsCd (tl ++ rest) c' qual →
      ((codeAmong pos ps.toList = none ∧ ps' = ps ++ #[rawInt pos.line, rawInt pos.col, .ref c']) ∨ (codeAmong pos ps.toList = some (.ref c') ∧ ps' = ps)) → (∀ q ∈ tl ++ rest, @LT.lt Nat _ q.1 f) → @LT.lt Nat _ P f → (∀ q ∈ tl, @LT.lt Nat _ P q.1 ∧ ∀ p ∈ rest, @LT.lt Nat _ p.1 q.1) → Q (.ref f) { s with heap := h', toks := tk }) :
    wpAny M A (makeFunction name qual params (.stmts body) scope (envX cn cs L a ccd cl) [] [] [] pos firstLine) Q E s := by
  rcases hcase with hn | ⟨c', hs, hc⟩
  · refine nest_K F N T C hcd (g := fun o => (P, o) :: rest) (UpdF.head hP) ht hn hcl ?_
    intro f c' oc vs t ctv doc h' tk F' N' hd hv hlt hcf
    have hPc : @LT.lt Nat _ P c' := hlt (P, tabObj ps) (.head _)
    refine h f _ c' ctv doc h' tk [(c', oc)] _ rfl F' ?_ ⟨oc, vs, t, .head _, hd, hv⟩ (.inl ⟨hn, rfl⟩) ?_ (Nat.lt_trans hPc hcf) ?_
    · intro q hq
      refine N' q ?_
      rcases List.mem_cons.mp hq with rfl | hq
      · exact .head _
      rcases List.mem_cons.mp hq with rfl | hq
      · exact .tail _ (.tail _ (.head _))
      rcases List.mem_cons.mp hq with rfl | hq
      · exact .tail _ (.head _)
      · exact .tail _ (.tail _ (.tail _ hq))
    · intro q hq
      rcases List.mem_cons.mp hq with rfl | hq
      · exact hcf
      · exact Nat.lt_trans (hlt q (.tail _ hq)) hcf
    · intro q hq
      rw [List.mem_singleton.mp hq]
      exact ⟨hPc, fun p hp => hlt p (.tail _ hp)⟩
  · refine nestHit_K F N T C hcd (.head _) ht hs hcl ?_
    intro f ctv doc h' tk F' N' hlt
    exact h f _ c' ctv doc h' tk [] ps rfl F' N' hc (.inr ⟨hs, rfl⟩) (fun q hq => hlt q (.tail _ hq)) (hlt (P, tabObj ps) (.head _)) (fun _ hq => nomatch hq)

theorem lam_any {body : Expr} {Q : Value → Shared → Prop} (F : Fr h₀ L s.heap m) (N : News h₀ L s.heap ((P, tabObj ps) :: rest)) (T : Top p loose mean mg mb h₀) (C : CodeHd h₀ c P) (hcd : ccd = .ref c) (hP : ∀ q ∈ rest, q.1 ≠ P) (ht : TriplesOk ps.toList)
    (hcase : codeAmong pos ps.toList = none ∨ ∃ c', codeAmong pos ps.toList = some (.ref c') ∧ IsCd rest c' qual)
    (hcl : closureFor scope (envX cn cs L a ccd cl) = pure clos)
    (h : ∀ f fd c' h' tk tl ps', Fr h₀ L h' m → News h₀ L h' ((f, (⟨.type "function", none, .func fd, #[]⟩ : Obj)) :: (P, tabObj ps') :: (tl ++ rest)) → IsCd (tl ++ rest) c' qual →
      ((codeAmong pos ps.toList = none ∧ ps' = ps ++ #[rawInt pos.line, rawInt pos.col, .ref c']) ∨ (codeAmong pos ps.toList = some (.ref c') ∧ ps' = ps)) → (∀ q ∈ tl ++ rest, @LT.lt Nat _ q.1 f) → @LT.lt Nat _ P f → (∀ q ∈ tl, @LT.lt Nat _ P q.1 ∧ ∀ p ∈ rest, @LT.lt Nat _ p.1 q.1) → Q (.ref f) { s with heap := h', toks := tk }) :
    wpAny M A (makeFunction name qual params (.expr body) scope (envX cn cs L a ccd cl) [] [] [] pos firstLine) Q E s := by
  rcases hcase with hn | ⟨c', hs, hc⟩
  · refine kla_nest F N T C hcd (g := fun o => (P, o) :: rest) (UpdF.head hP) ht hn hcl ?_
    intro f c' oc vs t ctv h' tk F' N' hd hv hlt hcf
    have hPc : @LT.lt Nat _ P c' := hlt (P, tabObj ps) (.head _)
    refine h f (kla_fn name qual params body scope clos ((mg "__name__").getD .none) (.ref c') ctv) c' h' tk [(c', oc)] _ F' ?_ ⟨oc, vs, t, .head _, hd, hv⟩ (.inl ⟨hn, rfl⟩) ?_ (Nat.lt_trans hPc hcf) ?_
    · intro q hq
      refine N' q ?_
      rcases List.mem_cons.mp hq with rfl | hq
      · exact .head _
      rcases List.mem_cons.mp hq with rfl | hq
      · exact .tail _ (.tail _ (.head _))
      rcases List.mem_cons.mp hq with rfl | hq
      · exact .tail _ (.head _)
      · exact .tail _ (.tail _ (.tail _ hq))
    · intro q hq
      rcases List.mem_cons.mp hq with rfl | hq
      · exact hcf
      · exact Nat.lt_trans (hlt q (.tail _ hq)) hcf
    · intro q hq
      rw [List.mem_singleton.mp hq]
      exact ⟨hPc, fun p hp => hlt p (.tail _ hp)⟩
  · refine kla_hit F N T C hcd (.head _) ht hs hcl ?_
    intro f ctv h' tk F' N' hlt
    exact h f (kla_fn name qual params body scope clos ((mg "__name__").getD .none) (.ref c') ctv) c' h' tk [] ps F' N' hc (.inr ⟨hs, rfl⟩) (fun q hq => hlt q (.tail _ hq)) (hlt (P, tabObj ps) (.head _)) (fun _ hq => nomatch hq)
end
end

-- part M6
section
theorem store_function : StoreFacts "function" [.type "function", .type "object"] "object.__setattr__" "object" where
  mro := by kernel_rfl
  slot := .of (owner := "object") (n := "__setattr__") (by rw [typeLookup_type, builtinLookup_eq_fast]; kernel_rfl) (by decide +kernel) (by decide +kernel) (by decide +kernel)
    (by first | exact .inl (by decide +kernel) | exact .inr (by decide +kernel)) (by rw [isSubtype_type]; kernel_rfl)
  entry := PySem.F.entry_object_sa
  kind := by decide +kernel
  split := by decide +kernel
  hasOwner := by decide +kernel
  args := fun a b c => by unfold argsOk; kernel_rfl
  passes := fun self => by kernel_rfl
theorem fn_look_read : typeLookup (.type "function") (Str.ofString "read") = pure none := by rw [typeLookup_type, builtinLookup_eq_fast]; kernel_rfl
theorem fn_look_ga : typeLookup (.type "function") (Str.ofString "__getattribute__") = pure (some (.builtin "object.__getattribute__")) := by rw [typeLookup_type, builtinLookup_eq_fast]; kernel_rfl
theorem fn_look_gt : typeLookup (.type "function") (Str.ofString "__getattr__") = pure none := by rw [typeLookup_type, builtinLookup_eq_fast]; kernel_rfl
def NsOb (o : Obj) (mA : Str → Option Value) : Prop := ∃ es ep, o.data = .dict es ep ∧ StrKeys es ∧ ∀ name, nsFind es name = mA name

theorem fn_store {prog : Program} {w : World} {A : Around} {E : Value → Shared → Prop} {s : Shared} {h₀ : Heap} {L f : Addr} {m : Str → Option Value} {news : List (Addr × Obj)} {g : Obj → List (Addr × Obj)} {fd : FuncData} {v : Value} {name : Str} {Q : Unit → Shared → Prop}
    (F : Fr h₀ L s.heap m) (N : News h₀ L s.heap news) (U : UpdF f ⟨.type "function", none, .func fd, #[]⟩ news g) (hna : typeLookup (.type "function") name = pure none)
    (h : ∀ dx od h' tk, Fr h₀ L h' m → News h₀ L h' ((dx, od) :: g ⟨.type "function", some dx, .func fd, #[]⟩) → NsOb od (fun y => if y = name then some v else none) → (∀ q ∈ news, @LT.lt Nat _ q.1 dx) → Q () { s with heap := h', toks := tk }) :
    wpAny (model prog w) A (setAttr (.ref f) name v) Q E s := by
  obtain ⟨own, rest, rfl, hg, h1, h2⟩ := U.split
  have hm := N (f, _) (List.mem_append_right _ (.head _))
  obtain ⟨hp, gs, d, tk, os⟩ := s
  dsimp only at hm N F
  have hx := hm.1
  unfold setAttr
  refine wpAny_bind (wpAny_mkText (wpAny_bind ?_))
  refine wpAny_callSpecial?_slot (name := Str.ofString "__setattr__") (T := "function") ⟨_, hx, rfl⟩ store_function.slot ?_
  refine wpAny_call_entry store_function.slot ⟨_, hx, rfl⟩ store_function.entry ?_ (store_function.args _ _ _)
  have hT : ∀ tk', (⟨hp, gs, d, tk', os⟩ : Shared).TypeIs (.ref f) "function" := fun _ => ⟨_, hx, rfl⟩
  have hfs : f ≠ hp.objs.size := Nat.ne_of_lt (Heap.lt_size hx)
  have hx₁ : (hp.push { cls := .type "dict", data := .dict #[] }).get? f = some ⟨.type "function", none, .func fd, #[]⟩ := Heap.get?_push_of_some _ hx
  have hu : ((hp.push { cls := .type "dict", data := .dict #[] }).update f fun o => { cls := o.cls, dict := some hp.objs.size, data := o.data, slots := o.slots }).get? f = some ⟨.type "function", some hp.objs.size, .func fd, #[]⟩ := Heap.get?_update_self _ hx₁ rfl
  have hgd : ((hp.push { cls := .type "dict", data := .dict #[] }).update f fun o => { cls := o.cls, dict := some hp.objs.size, data := o.data, slots := o.slots }).get? hp.objs.size
      = some { cls := .type "dict", data := .dict #[] } :=
    (Heap.get?_update_ne _ _ _ _ hfs.symm).trans (Heap.get?_push_at rfl rfl)
  have hnd : ((hp.push { cls := .type "dict", data := .dict #[] }).update f fun o => { cls := o.cls, dict := some hp.objs.size, data := o.data, slots := o.slots }).Ns hp.objs.size (fun _ => none) :=
    ⟨_, #[], _, hgd, rfl, fun e he => absurd he (by simp), fun _ => rfl⟩
  rw [osa_eq, refuse_eq]
  refine wpAny_bind (wpAny_bind (wpAny_typeOf (hT _) (wpAny_bind ?_)))
  rw [store_function.mro]
  refine wpAny_pure ?_
  rw [store_function.passes]
  refine wpAny_pure (wpAny_bind (wpAny_typeOf (hT _) (wpAny_bind ?_)))
  rw [hna]
  refine wpAny_pure (wpAny_bind (wpAny_pure ?_))
  show wpAny _ _ (Builtin.ObjectAttr.storeInOwnDict _ _ _ _ _ _) _ _ _
  refine wpAny_bind (wpAny_pure (wpAny_bind ?_))
  show wpAny _ _ (instanceDict f true) _ _ ⟨hp, gs, d, tk + 1, os⟩
  unfold instanceDict
  refine wpAny_bind (wpAny_loadPart_at hx ?_)
  dsimp only
  refine wpAny_bind (wpAny_alloc' ?_)
  refine wpAny_bind (wpAny_update' hx₁ ?_)
  refine wpAny_pure ?_
  show wpAny _ _ (Builtin.ObjectAttr.storeInDict hp.objs.size _ name v) _ _ _
  unfold Builtin.ObjectAttr.storeInDict Builtin.ObjectAttr.newKeyGuard
  refine wpAny_bind (wpAny_pure (wpAny_bind (wpAny_nsSet1 (Heap.Ns1.of_empty hnd) fun h' hn' hs => ?_)))
  obtain ⟨oD, esD, epD, hoD, hdD, hcD⟩ := hn'.count (Within.cons name v Within.nil)
  refine wpAny_bind (wpAny_lookBehind hoD (by rw [hdD]; exact pastItsLine_dict (Nat.le_trans hcD (by rw [List.length_cons, List.length_nil, sizeLine_eq]; omega))) ?_)
  have hf' : h'.get? f = some ⟨.type "function", some hp.objs.size, .func fd, #[]⟩ := (hs.2 f hfs).trans hu
  obtain ⟨oN, esN, epN, hoN, hdN, hkN, huN, hfN⟩ := hn'
  have keep : ∀ b o, b ≠ f → hp.get? b = some o → h'.get? b = some o := fun b o hb e =>
    (hs.2 b (Nat.ne_of_lt (Heap.lt_size e))).trans ((Heap.get?_update_ne _ _ _ _ hb).trans (Heap.get?_push_of_some _ e))
  have hLs : L < hp.objs.size := F.ns.lt
  refine wpAny_pure ⟨_, rfl, wpAny_pure ?_⟩
  refine h hp.objs.size oN h' _ ⟨F.ns.extBut (b := f) (fun b o hb e => keep b o hb e) hm.2.1.symm, fun b o e => keep b o (fun q => ?_) (F.keep b o e), F.above⟩ ?_ ⟨esN, epN, hdN, hkN, fun y => by rw [hfN y]⟩ (fun q hq => Heap.lt_size (N q hq).1)
  · rw [q, hm.2.2] at e; cases e
  · intro q hq
    rw [hg] at hq
    rcases List.mem_cons.mp hq with rfl | hq
    · exact ⟨hoN, Nat.ne_of_gt hLs, Heap.get?_none_of_le (Nat.le_trans F.above (Nat.le_of_lt hLs))⟩
    rcases List.mem_append.mp hq with hq | hq
    · have n := N q (List.mem_append_left _ hq)
      exact ⟨keep _ _ (h1 q hq) n.1, n.2⟩
    rcases List.mem_cons.mp hq with rfl | hq
    · exact ⟨hf', hm.2⟩
    · have n := N q (List.mem_append_right _ (.tail _ hq))
      exact ⟨keep _ _ (h2 q hq) n.1, n.2⟩
theorem slot_fn_ga : Slot "function" "__getattribute__" "object.__getattribute__" :=
  .of (owner := "object") (n := "__getattribute__") (by rw [typeLookup_type, builtinLookup_eq_fast]; kernel_rfl) (by decide +kernel) (by decide +kernel) (by decide +kernel)
    (by first | exact .inl (by decide +kernel) | exact .inr (by decide +kernel)) (by rw [isSubtype_type]; kernel_rfl)
theorem entry_fn_ga : entryFor table "object.__getattribute__" = some Builtin.«object.__getattribute__» := entryFor_of_tree (by kernel_rfl)
theorem args_fn_ga (a b : Value) : argsOk "object.__getattribute__" ⟨[a, b], []⟩ := by unfold argsOk; kernel_rfl

theorem fn_method {prog : Program} {w : World} {A : Around} {E : Value → Shared → Prop} {s : Shared} {h₀ : Heap} {L f dx : Addr} {news : List (Addr × Obj)} {fd : FuncData} {od : Obj} {v : Value} {mA : Str → Option Value} {pl : Sem Bool} {Q : Value × List Value → Shared → Prop}
    (N : News h₀ L s.heap news) (hf : (f, (⟨.type "function", some dx, .func fd, #[]⟩ : Obj)) ∈ news) (hd : (dx, od) ∈ news) (ho : NsOb od mA) (hv : mA (Str.ofString "read") = some v) (hh : handedIn v = true)
    (h : Q (v, []) { s with toks := s.toks + 1 }) :
    wpAny (model prog w) A (getMethod (.ref f) (Str.ofString "read") pl) Q E s := by
  obtain ⟨hp, gs, d, tk, os⟩ := s
  have hx := (N _ hf).1
  have hdx := (N _ hd).1
  dsimp only at hx hdx
  obtain ⟨es, ep, e1, e2, e3⟩ := ho
  have hns : hp.Ns dx mA := ⟨_, es, ep, hdx, e1, e2, e3⟩
  have hT : ∀ tk', (⟨hp, gs, d, tk', os⟩ : Shared).TypeIs (.ref f) "function" := fun _ => ⟨_, hx, rfl⟩
  have hcan := PySem.F.canon_object_ga
  unfold getMethod
  refine wpAny_bind (wpAny_specialOf (hT _) slot_fn_ga.lookup ?_)
  dsimp only
  rw [hcan, if_neg (by decide)]
  refine wpAny_bind (wpAny_specialOf (hT _) fn_look_gt ?_)
  refine wpAny_bind (wpAny_specialOf (hT _) fn_look_read ?_)
  unfold getAttr getAttrBy
  refine wpAny_bind (wpAny_bind (wpAny_mkText (wpAny_holding (wpAny_bind (wpAny_typeOf (hT _) (wpAny_bind (wpAny_of_eq fn_look_ga ?_)))))))
  show wpAny _ _ (getAttrByItsOwn (.ref f) (.str (Str.ofString "read") _) (.type "function") (.builtin "object.__getattribute__") true false) _ _ _
  unfold getAttrByItsOwn hookBefore callGetattribute boundAndCalled
  refine wpAny_bind (wpAny_of_eq (show (if onTheHeap (.type "function") then typeLookup (.type "function") "__getattr__" else pure none) = pure none from rfl) ?_)
  refine wpAny_bind (wpAny_attempt (wpAny_holding ?_))
  show wpAny _ _ (bindSpecial (.builtin "object.__getattribute__") (.ref f) >>= _) _ _ _
  refine wpAny_bind (wpAny_of_eq (slot_fn_ga.bind _) ?_)
  refine wpAny_call_entry slot_fn_ga (hT _) entry_fn_ga ?_ (args_fn_ga _ _)
  unfold Builtin.«object.__getattribute__»
  refine wpAny_bind (wpAny_of_eq (a := (.ref f, [.str (Str.ofString "read") tk])) (by first | rfl | kernel_rfl) ?_)
  refine wpAny_bind (wpAny_pure (wpAny_bind (wpAny_typeOf (hT _) (wpAny_bind ?_))))
  unfold Builtin.ObjectAttr.find
  refine wpAny_bind (wpAny_of_eq fn_look_read (wpAny_bind (wpAny_pure (wpAny_bind (wpAny_pure ?_)))))
  show wpAny _ _ (Builtin.ObjectAttr.ownThenClass (.ref f) _ none none) _ _ _
  refine wpAny_bind ?_
  show wpAny _ _ (Builtin.ObjectAttr.ownDict f >>= _) _ _ _
  refine wpAny_bind (wpAny_bind (wpAny_loadPart_at hx ?_))
  show wpAny _ _ (instanceDict f false) _ _ _
  refine wpAny_bind (wpAny_loadPart_at hx ?_)
  refine wpAny_pure ?_
  show wpAny _ _ (nsGet dx _) _ _ _
  refine wpAny_nsGet hns ?_
  rw [hv]
  refine wpAny_bind (wpAny_rule (wpAny_pure ?_))
  refine wpAny_pure ⟨_, rfl, ?_⟩
  dsimp only
  rw [handedOut_of hh]
  exact wpAny_pure (wpAny_pure h)
end

-- part M7
section
theorem slot_ci_next : Slot "callable_iterator" "__next__" "callable_iterator.__next__" :=
  .of (owner := "callable_iterator") (n := "__next__") (by rw [typeLookup_type, builtinLookup_eq_fast]; kernel_rfl) (by decide +kernel) (by decide +kernel) (by decide +kernel)
    (by first | exact .inl (by decide +kernel) | exact .inr (by decide +kernel)) (by rw [isSubtype_type]; kernel_rfl)
theorem slot_ci_iter : Slot "callable_iterator" "__iter__" "callable_iterator.__iter__" :=
  .of (owner := "callable_iterator") (n := "__iter__") (by rw [typeLookup_type, builtinLookup_eq_fast]; kernel_rfl) (by decide +kernel) (by decide +kernel) (by decide +kernel)
    (by first | exact .inl (by decide +kernel) | exact .inr (by decide +kernel)) (by rw [isSubtype_type]; kernel_rfl)
theorem entry_ci_next : entryFor table "callable_iterator.__next__" = some Builtin.«callable_iterator.__next__» := entryFor_of_fast (by kernel_rfl)
theorem entry_ci_iter : entryFor table "callable_iterator.__iter__" = some Builtin.«dict_keyiterator.__iter__» :=
  entryFor_alias (id' := "dict_keyiterator.__iter__") (by kernel_rfl) rfl (by decide +kernel) (by kernel_rfl)
theorem args_ci_next (a : Value) : argsOk "callable_iterator.__next__" ⟨[a], []⟩ := by unfold argsOk; kernel_rfl
theorem args_ci_iter (a : Value) : argsOk "callable_iterator.__iter__" ⟨[a], []⟩ := by unfold argsOk; kernel_rfl
theorem kind_iter : builtinKind "iter" = none := by decide +kernel
theorem plain_iter : plainId "iter" = true := by decide +kernel
theorem entry_iter : entryFor table "iter" = some Builtin.«iter» := entryFor_of_tree (by kernel_rfl)
theorem args_iter (a b : Value) : argsOk "iter" ⟨[a, b], []⟩ := by unfold argsOk; kernel_rfl
theorem meth_look_call : typeLookup (.type "method") (Str.ofString "__call__") = pure (some (.builtin "method.__call__")) := by rw [typeLookup_type, builtinLookup_eq_fast]; kernel_rfl

abbrev ciObj (f sent : Value) (b : Bool) : Obj := { cls := .type "callable_iterator", dict := none, data := .fields #[f, sent, .bool b], slots := #[] }

section
variable {prog : Program} {w : World} {A : Around} {E : Value → Shared → Prop} {s : Shared} {h₀ : Heap} {L : Addr} {m : Str → Option Value} {news : List (Addr × Obj)} {mo f x it : Addr} {sent : Value}

theorem iter_call {Q : Value → Shared → Prop} (F : Fr h₀ L s.heap m) (N : News h₀ L s.heap news) (hm : (mo, methodObj (.ref f) (.ref x)) ∈ news)
    (h : ∀ it h', Fr h₀ L h' m → News h₀ L h' ((it, ciObj (.ref mo) sent false) :: news) → (∀ p ∈ news, @LT.lt Nat _ p.1 it) → Q (.ref it) { s with heap := h' }) :
    wpAny (model prog w) A (call (.builtin "iter") [.ref mo, sent]) Q E s := by
  refine call_function_entry kind_iter plain_iter entry_iter (args_iter _ _) ?_
  unfold Builtin.«iter»
  refine wpAny_bind (wpAny_of_eq (a := [.ref mo, sent]) (by first | rfl | kernel_rfl) ?_)
  dsimp only
  refine wpAny_bind (wpAny_specialOf (T := "method") ⟨_, (N _ hm).1, rfl⟩ meth_look_call ?_)
  refine wpAny_bind (wpAny_rule (wpAny_bind ?_))
  simp only [newFields]
  refine wpAny_newObj_type ?_ (by size_fits)
  refine wpAny_pure ⟨_, rfl, ?_⟩
  exact h _ _ (F.push _) (N.push F _) fun p hp => Heap.lt_size (N p hp).1
end
section
variable {prog : Program} {w : World} {A : Around} {E : Value → Shared → Prop} {s : Shared} {h₀ : Heap} {L : Addr} {m : Str → Option Value} {news : List (Addr × Obj)} {mo f x it : Addr} {sent : Value}
theorem wpAny_callBorrowed {M : Model} {f : Value} {pos : List Value} {Q : Value → Shared → Prop}
    (hc : codeAny M A (.call f ⟨pos, []⟩) (fun r s' => match r with | .ok (.ret v) => Q v s' | .ok _ => False | .error e => E e s') s) :
    wpAny M A (callBorrowed f pos) Q E s := fun Γ p hΓ => by
  have z := hc _ p rfl (hΓ.enter (.call f ⟨pos, []⟩) none p (by intro x; cases x))
  unfold callBorrowed
  rw [Sem.wp_call]
  exact cast (by congr 1; funext r s'; cases r with | error e => rfl | ok f => cases f <;> rfl) z
theorem borrows {M : Model} {fo : Obj} {fd : FuncData} {Q : Bool → Shared → Prop} (hm : s.heap.get? mo = some (methodObj (.ref f) (.ref x))) (hf : s.heap.get? f = some fo) (hd : fo.data = .func fd) (h : Q true s) :
    wpAny M A (borrowsExactly (.ref mo)) Q E s := by
  unfold borrowsExactly
  refine wpAny_bind (wpAny_load hm ?_)
  show wpAny M A ((load f) >>= _) Q E s
  refine wpAny_bind (wpAny_load hf ?_)
  rw [hd]
  exact wpAny_pure h
theorem ci_next {Q : Option Value → Shared → Prop} {ts : Tok} {fo : Obj} {fd : FuncData} (hh : A.handled = none) (F : Fr h₀ L s.heap m) (N : News h₀ L s.heap news) (hi : (it, ciObj (.ref mo) (.str (S []) ts) false) ∈ news) (hm : (mo, methodObj (.ref f) (.ref x)) ∈ news)
    (hf : h₀.get? f = some fo) (hd : fo.data = .func fd)
    (h : codeAny (model prog w) A.in1 (.call (.ref f) ⟨[.ref x], []⟩) (fun r s₁ => ∃ c t m₁ news₁ g, r = .ok (.ret (.str (S c) t)) ∧ Fr h₀ L s₁.heap m₁ ∧ News h₀ L s₁.heap news₁ ∧ (mo, methodObj (.ref f) (.ref x)) ∈ news₁ ∧ UpdF it (ciObj (.ref mo) (.str (S []) ts) false) news₁ g ∧
      (c ≠ [] → Q (some (.str (S c) t)) s₁) ∧ (c = [] → ∀ h', Fr h₀ L h' m₁ → News h₀ L h' (g (ciObj .none .none true)) → Q none { s₁ with heap := h' })) s) :
    wpAny (model prog w) A (pyNext (.ref it)) Q E s := by
  have hit := (N _ hi).1
  have hT : s.TypeIs (.ref it) "callable_iterator" := ⟨_, hit, rfl⟩
  unfold pyNext
  refine wpAny_bind (wpAny_attempt (wpAny_callSpecial?_slot (name := Str.ofString "__next__") hT slot_ci_next (wpAny_call_entry slot_ci_next hT entry_ci_next ?_ (args_ci_next _))))
  show wpAny _ _ (field (.ref it) 2 >>= _) _ _ _
  refine wpAny_bind (wpAny_field hit rfl (x := .bool false) rfl ?_)
  show wpAny _ _ (if (Value.bool false == Value.bool true) = true then _ else _) _ _ _
  rw [if_neg (by decide)]
  refine wpAny_bind (wpAny_field hit rfl (x := .ref mo) rfl (wpAny_bind (wpAny_attempt ?_)))
  unfold callOutOfASlot
  refine wpAny_bind (borrows (N _ hm).1 (F.keep _ _ hf) hd ?_)
  rw [if_pos rfl]
  refine wpAny_callBorrowed (method_call (N _ hm).1 ?_)
  refine codeAny_mono h fun r s₁ hr => ?_
  obtain ⟨c, t, m₁, news₁, g, rfl, F₁, N₁, hm₁, U, hq, hz⟩ := hr
  obtain ⟨own, rest, rfl, hg, h1, h2⟩ := U.split
  have hm1 := N₁ (it, _) (List.mem_append_right _ (.head _))
  have hit₁ := hm1.1
  dsimp only
  refine wpAny_bind (wpAny_field hit₁ rfl (x := .bool false) rfl ?_)
  show wpAny _ _ (if (Value.bool false == Value.bool true) = true then _ else _) _ _ _
  rw [if_neg (by decide)]
  refine wpAny_bind (wpAny_field hit₁ rfl (x := .str (S []) ts) rfl (wpAny_bind (wpAny_holding (wpAny_eqBool_str ?_))))
  by_cases hc : c = []
  · have e : decide (S [] = S c) = true := by rw [hc]; simp
    rw [e]
    refine wpAny_bind (wpAny_rule (wpAny_bind ?_))
    show wpAny _ _ (field (.ref it) 0 >>= _) _ _ _
    refine wpAny_bind (wpAny_field hit₁ rfl (x := .ref mo) rfl (wpAny_bind ?_))
    unfold slotLetsGo
    refine wpAny_bind (borrows (N₁ _ hm₁).1 (F₁.keep _ _ hf) hd ?_)
    rw [if_pos rfl]
    refine wpAny_pure ?_
    refine wpAny_bind (wpAny_setField_rec (k := 0) (x := .none) hit₁ (by simp) fun hA ha sa => ?_)
    refine wpAny_bind (wpAny_setField_rec (k := 1) (x := .none) ha (by simp) fun hB hb sb => ?_)
    refine wpAny_setField_rec (k := 2) (x := .bool true) hb (by simp) fun hC hc' sc => ?_
    show wpAny _ _ (newExc (.type "StopIteration") [] >>= _) _ _ _
    refine wpAny_bind ?_
    simp only [newExc, newTuple]
    refine wpAny_bind (wpAny_newObj_type ?_ (by size_fits))
    refine wpAny_bind (m := firstArgMember _ _) (wpAny_of_eq (a := Value.none) (by first | rfl | (simp only [firstArgMember]; rfl)) ?_)
    refine wpAny_newObj_type ?_ (by size_fits)
    simp only [raiseNew]
    refine wpAny_bind (wpAny_handled ?_)
    first | rw [show A.in1.handled = none from hh] | rw [hh]
    refine wpAny_bind (wpAny_pure (wpAny_throw ?_))
    refine wpAny_bind (wpAny_isInstance (T := "StopIteration") (b := true) ⟨_, Heap.get?_push_size _ rfl, rfl⟩ isSubtype_stop ?_)
    refine wpAny_pure ?_
    have keep : ∀ b o, b ≠ it → s₁.heap.get? b = some o → hC.get? b = some o := fun b o hb e => (sc.2 b hb).trans ((sb.2 b hb).trans ((sa.2 b hb).trans e))
    refine hz hc _ ⟨((F₁.ns.extBut (b := it) (fun b o hb e => keep b o hb e) hm1.2.1.symm).push _).push _, fun b o e => Heap.get?_push_of_some _ (Heap.get?_push_of_some _ (keep b o (fun q => ?_) (F₁.keep b o e))), F₁.above⟩ ?_
    · rw [q, hm1.2.2] at e; cases e
    · intro q hq
      rw [hg] at hq
      refine ⟨Heap.get?_push_of_some _ (Heap.get?_push_of_some _ ?_), ?_⟩
      · rcases List.mem_append.mp hq with hq | hq
        · exact keep _ _ (h1 q hq) (N₁ q (List.mem_append_left _ hq)).1
        rcases List.mem_cons.mp hq with rfl | hq
        · exact hc'
        · exact keep _ _ (h2 q hq) (N₁ q (List.mem_append_right _ (.tail _ hq))).1
      · rcases List.mem_append.mp hq with hq | hq
        · exact (N₁ q (List.mem_append_left _ hq)).2
        rcases List.mem_cons.mp hq with rfl | hq
        · exact hm1.2
        · exact (N₁ q (List.mem_append_right _ (.tail _ hq))).2
  · have e : decide (S [] = S c) = false := by rw [decide_eq_false_iff_not]; exact fun q => hc (S_inj q).symm
    rw [e]
    refine wpAny_pure ⟨_, rfl, ?_⟩
    exact wpAny_pure (hq hc)
end
section
variable {prog : Program} {w : World} {A : Around} {E : Value → Shared → Prop} {s : Shared} {h₀ : Heap} {L : Addr} {m : Str → Option Value} {news : List (Addr × Obj)} {it : Addr}
/-- the iterator once ended -/
theorem ci_ended {Q : Option Value → Shared → Prop} (hh : A.handled = none) (F : Fr h₀ L s.heap m) (N : News h₀ L s.heap news) (hi : (it, ciObj .none .none true) ∈ news)
    (h : ∀ h', Fr h₀ L h' m → News h₀ L h' news → Q none { s with heap := h' }) : wpAny (model prog w) A (pyNext (.ref it)) Q E s := by
  have hit := (N _ hi).1
  have hT : s.TypeIs (.ref it) "callable_iterator" := ⟨_, hit, rfl⟩
  unfold pyNext
  refine wpAny_bind (wpAny_attempt (wpAny_callSpecial?_slot (name := Str.ofString "__next__") hT slot_ci_next (wpAny_call_entry slot_ci_next hT entry_ci_next ?_ (args_ci_next _))))
  show wpAny _ _ (field (.ref it) 2 >>= _) _ _ _
  refine wpAny_bind (wpAny_field hit rfl (x := .bool true) rfl ?_)
  show wpAny _ _ (if (Value.bool true == Value.bool true) = true then _ else _) _ _ _
  rw [if_pos (by decide)]
  refine wpAny_bind (wpAny_rule ?_)
  refine wpAny_bind ?_
  show wpAny _ _ (newExc (.type "StopIteration") [] >>= _) _ _ _
  refine wpAny_bind ?_
  simp only [newExc, newTuple]
  refine wpAny_bind (wpAny_newObj_type ?_ (by size_fits))
  refine wpAny_bind (m := firstArgMember _ _) (wpAny_of_eq (a := Value.none) (by first | rfl | (simp only [firstArgMember]; rfl)) ?_)
  refine wpAny_newObj_type ?_ (by size_fits)
  simp only [raiseNew]
  refine wpAny_bind (wpAny_handled ?_)
  first | rw [show A.in1.handled = none from hh] | rw [hh]
  refine wpAny_bind (wpAny_pure (wpAny_throw ?_))
  refine wpAny_bind (wpAny_isInstance (T := "StopIteration") (b := true) ⟨_, Heap.get?_push_size _ rfl, rfl⟩ isSubtype_stop ?_)
  refine wpAny_pure (h _ ((F.push _).push _) fun p hp => ⟨Heap.get?_push_of_some _ (Heap.get?_push_of_some _ (N p hp).1), (N p hp).2⟩)

theorem ci_iter {Q : Value → Shared → Prop} {f sent : Value} {b : Bool} (N : News h₀ L s.heap news) (hi : (it, ciObj f sent b) ∈ news) (h : Q (.ref it) s) : wpAny (model prog w) A (pyIter (.ref it)) Q E s := by
  have hT : s.TypeIs (.ref it) "callable_iterator" := ⟨_, (N _ hi).1, rfl⟩
  refine wpAny_pyIter_slot hT slot_ci_iter (wpAny_call_entry slot_ci_iter hT entry_ci_iter ?_ (args_ci_iter _))
  show wpAny _ _ (ret (.ref it)) _ _ s
  exact wpAny_pure ⟨_, rfl, "callable_iterator", _, hT, slot_ci_next.lookup, h⟩
end
end

-- part MLex
section
/-- what `read(1)` (the def made in _law_read) does -/
def ReadOk (w : World) (l : List Nat) (lp fr : Addr) (W : List (Addr × Obj)) : Prop :=
  ∀ {A : Around} {s : Shared} {h₀ : Heap} {L : Addr} {m : Str → Option Value} {mean : ExcName → Option Value} {mg mb : Str → Option Value} {R : Result → Shared → Prop} {p : Nat} {tp t1 : Tok} {np : Nat} {V : List (Addr × Obj)},
    Fr h₀ L s.heap m → News h₀ L s.heap ((lp, listOf #[.int (p : Int) tp] np) :: V) → (∀ q ∈ W, q ∈ V) → (∀ q ∈ V, q.1 ≠ lp) → GD w mean mg mb h₀ → AOk A 1 → p ≤ l.length →
    (∀ t' h' tk' tp' np', Fr h₀ L h' m → News h₀ L h' ((lp, listOf #[.int ((min l.length (p + 1) : Nat) : Int) tp'] np') :: V) → R (.ok (.ret (.str (S ((l.drop p).take 1)) t'))) { s with heap := h', toks := tk' }) →
    codeAny (model PySem.Challenge.rw_tr0040_01.row.prog w) A (.call (.ref fr) ⟨[.int 1 t1], []⟩) R s

structure Toks where
  a : Tok
  b : Tok
  c : Tok
  d : Tok
  e : Tok
/-- the dict of the lexer object -/
noncomputable abbrev lexD (w : World) (T : Toks) (fl pb : Addr) (k : Int) (tk : Tok) : Obj :=
  dictOf [{ hash := PyData.keyHash w.params (Str.ofString "lineno"), key := Value.str (Str.ofString "lineno") T.a, val := Value.int k tk },
    { hash := PyData.keyHash w.params (Str.ofString "instream"), key := Value.str (Str.ofString "instream") T.b, val := Value.ref fl },
    { hash := PyData.keyHash w.params (Str.ofString "whitespace"), key := Value.str (Str.ofString "whitespace") T.c, val := Value.str (S [10, 9, 13, 32]) T.d },
    { hash := PyData.keyHash w.params (Str.ofString "pushback"), key := Value.str (Str.ofString "pushback") T.e, val := Value.ref pb }] 4

/-- what stands still while the lexer runs -/
structure LexW (w : World) (l : List Nat) (lp dx x fl pb dl fr : Addr) (fd fdr : FuncData) (od : Obj) (W : List (Addr × Obj)) : Prop where
  npd : lp ≠ dx
  hx : (x, instObj 73 dx) ∈ W
  hpb : (pb, listOf #[] 0) ∈ W
  hfl : (fl, (⟨.type "function", some dl, .func fd, #[]⟩ : Obj)) ∈ W
  hdl : (dl, od) ∈ W
  hfr : (fr, (⟨.type "function", none, .func fdr, #[]⟩ : Obj)) ∈ W
  hod : NsOb od (fun y => if y = Str.ofString "read" then some (.ref fr) else none)
  RO : ReadOk w l lp fr W

theorem readchar_code {w : World} {A : Around} {s : Shared} {h₀ : Heap} {L : Addr} {m : Str → Option Value} {mean : ExcName → Option Value} {mg mb : Str → Option Value} {R : Result → Shared → Prop}
   {l : List Nat} {lp dx x fl pb dl fr : Addr} {fd fdr : FuncData} {od : Obj} {W V : List (Addr × Obj)} {p np : Nat} {tp tkk : Tok} {T : Toks} {k : Nat}
   (F : Fr h₀ L s.heap m) (N : News h₀ L s.heap ((lp, listOf #[.int (p : Int) tp] np) :: (dx, lexD w T fl pb k tkk) :: V)) (G : GD w mean mg mb h₀) (a : AOk A 2) (LW : LexW w l lp dx x fl pb dl fr fd fdr od W)
   (hWV : ∀ q ∈ W, q ∈ V) (hlp : ∀ q ∈ V, q.1 ≠ lp) (hdx : ∀ q ∈ V, q.1 ≠ dx) (hp : p ≤ l.length) (hl : l.length ≤ 1000) (hk : k ≤ p + 1)
   (ret : ∀ t' h' tk' tp' np' tkk, Fr h₀ L h' m → News h₀ L h' ((lp, listOf #[.int ((min l.length (p + 1) : Nat) : Int) tp'] np') :: (dx, lexD w T fl pb ((if (l.drop p).take 1 = [10] then k + 1 else k : Nat) : Int) tkk) :: V) → R (.ok (.ret (.str (S ((l.drop p).take 1)) t'))) { s with heap := h', toks := tk' })
   : codeAny (model PySem.Challenge.rw_tr0040_01.row.prog w) A (.call (.ref 56) ⟨[.ref x], []⟩) R s := by
  obtain ⟨X, T0⟩ := G
  obtain ⟨ah, dp, fr', gd, un⟩ := A
  obtain ⟨rfl⟩ : ah = none := a.hh
  have aD := a.hd; have aU := a.hu
  dsimp only at aD aU
  refine' enterF (cl := []) (binds := [(Str.ofString "self", .ref x)]) F N X T0.nolimit ?k1 ?k3 ?k4 ?k5 ?k6 ?_ ?k7 ?k8 ?k9 ?k10
  case k4 => exact Nat.lt_of_le_of_lt (Nat.le_add_right _ _) a.hd
  walk_at "mine sides"
  intro g L' h₁ tk htk FG F' N' st hlt
  have X' := X.keeps st
  have T' := T0.keeps st
  clear X T0 F N FG st
  have N1 : News g L' h₁ ((x, instObj 73 dx) :: (dx, lexD w T fl pb k tkk) :: (lp, listOf #[.int (p : Int) tp] np) :: V) := newsCons (newsSub N' (by walk_at "mine sub")) (.tail _ (.tail _ (hWV _ LW.hx)))
  clear N'
  iterate 6 (walk_at "mine step")
  rename News g L' _ _ => N2
  rename Fr g L' _ _ => F2
  refine fn_method N2 (.tail _ (.tail _ (.tail _ (hWV _ LW.hfl)))) (.tail _ (.tail _ (.tail _ (hWV _ LW.hdl)))) LW.hod (by rfl) rfl ?_
  dsimp only
  refine callWith_F (FnAt.of N2 (.tail _ (.tail _ (.tail _ (hWV _ LW.hfr))))) ?_
  iterate 3 (walk_at "mine step")
  refine ⟨FnAt.of N2 (.tail _ (.tail _ (.tail _ (hWV _ LW.hfr)))), ?_⟩
  refine wpAny_call ?_
  have N3 : News g L' h₁ ((lp, listOf #[.int (p : Int) tp] np) :: (dx, lexD w T fl pb k tkk) :: V) := newsSub N2 (by walk_at "mine sub")
  refine LW.RO F2 N3 (fun q hq => .tail _ (hWV q hq)) (List.forall_mem_cons.mpr ⟨Ne.symm LW.npd, hlp⟩) ⟨X', T'⟩ (a.deeper _) hp ?_
  intro t1 h' tk' tp' np' F4 N4
  clear F2 N2 N3
  have N5 : News g L' h' ((x, instObj 73 dx) :: (dx, lexD w T fl pb k tkk) :: (lp, listOf #[.int ((min l.length (p + 1) : Nat) : Int) tp'] np') :: V) := newsCons (newsSub N4 (by walk_at "mine sub")) (.tail _ (.tail _ (hWV _ LW.hx)))
  clear N4
  have hxd : x ≠ dx := hdx _ (hWV _ LW.hx)
  have npd := LW.npd
  walk_at "mine steps"
  all_goals dsimp only
  all_goals rename Fr g L' _ _ => F7
  all_goals rename News g L' _ _ => N7
  · rename List.take 1 (List.drop p l) = [10] => hc
    obtain ⟨tk9, N8⟩ : ∃ tk9, News g L' _ ((lp, listOf #[.int ((min l.length (p + 1) : Nat) : Int) tp'] np') :: (dx, lexD w T fl pb ((k : Int) + 1) tk9) :: V) := by
      refine' ⟨_, newsSub N7 ?hh⟩
      case hh => walk_at "mine sub"
    refine leaveK_ F7 N8 (fun kF kN => ?_)
    refine ret _ _ _ tp' np' tk9 kF ?_
    rw [if_pos hc]
    exact kN
  · rename ¬ (List.take 1 (List.drop p l) = [10]) => hc
    refine leaveK_ F7 (newsSub (l' := (lp, listOf #[.int ((min l.length (p + 1) : Nat) : Int) tp'] np') :: (dx, lexD w T fl pb k tkk) :: V) N7 (by walk_at "mine sub")) (fun kF kN => ?_)
    refine ret _ _ _ tp' np' tkk kF ?_
    rw [if_neg hc]
    exact kN
end

-- part MCi
section
/-- rows ended -/

theorem nl_take_succ {l : List Nat} {p : Nat} (hp : p < l.length) : nl (l.take (p + 1)) = if (l.drop p).take 1 = [10] then nl (l.take p) + 1 else nl (l.take p) := by
  unfold nl
  rw [List.take_succ_eq_append_getElem hp, List.count_append]
  have e : (l.drop p).take 1 = [l[p]] := by rw [List.drop_eq_getElem_cons hp]; rfl
  rw [e]
  by_cases h : l[p] = 10
  · simp [h]
  · have : ([l[p]] = [10]) = False := by simp [h]
    simp only [this, if_false]
    simp [List.count_cons, h]
theorem take1 {l : List Nat} {p : Nat} (hp : p < l.length) : (l.drop p).take 1 = [l[p]] := by rw [List.drop_eq_getElem_cons hp]; rfl

abbrev ciO (mo : Addr) (ts : Tok) (b : Bool) : Obj := if b then ciObj .none .none true else ciObj (.ref mo) (.str (S []) ts) false
/-- the ledger while the lexer stands at p -/
inductive LexL (w : World) (l : List Nat) (lp dx fl pb : Addr) (T : Toks) (h₀ : Heap) (L : Addr) (V : List (Addr × Obj)) (p : Nat) (h : Heap) : Prop
  | mk (tp : Tok) (np : Nat) (tkk : Tok) (N : News h₀ L h ((lp, listOf #[.int (p : Int) tp] np) :: (dx, lexD w T fl pb ((1 + nl (l.take p) : Nat) : Int) tkk) :: V)) : LexL w l lp dx fl pb T h₀ L V p h

theorem readchar_at {w : World} {A : Around} {s : Shared} {h₀ : Heap} {L : Addr} {m : Str → Option Value} {mean : ExcName → Option Value} {mg mb : Str → Option Value} {R : Result → Shared → Prop}
   {l : List Nat} {lp dx x fl pb dl fr : Addr} {fd fdr : FuncData} {od : Obj} {W V : List (Addr × Obj)} {p : Nat} {T : Toks}
   (F : Fr h₀ L s.heap m) (N : LexL w l lp dx fl pb T h₀ L V p s.heap) (G : GD w mean mg mb h₀) (a : AOk A 2) (LW : LexW w l lp dx x fl pb dl fr fd fdr od W)
   (hWV : ∀ q ∈ W, q ∈ V) (hlp : ∀ q ∈ V, q.1 ≠ lp) (hdx : ∀ q ∈ V, q.1 ≠ dx) (hp : p ≤ l.length) (hl : l.length ≤ 1000)
   (ret : ∀ t' h' tk', Fr h₀ L h' m → LexL w l lp dx fl pb T h₀ L V (min l.length (p + 1)) h' → R (.ok (.ret (.str (S ((l.drop p).take 1)) t'))) { s with heap := h', toks := tk' })
   : codeAny (model PySem.Challenge.rw_tr0040_01.row.prog w) A (.call (.ref 56) ⟨[.ref x], []⟩) R s := by
  obtain ⟨tp, np, tkk, N⟩ := N
  refine readchar_code F N G a LW hWV hlp hdx hp hl (by have : nl (l.take p) ≤ (l.take p).length := List.count_le_length; have : (l.take p).length ≤ p := List.length_take_le _ _; omega) ?_
  intro t' h' tk' tp' np' tkk' F' N'
  refine ret t' h' tk' F' ⟨tp', np', tkk', ?_⟩
  have e : (1 + nl (l.take (min l.length (p + 1)))) = (if (l.drop p).take 1 = [10] then (1 + nl (l.take p)) + 1 else 1 + nl (l.take p)) := by
    by_cases hlt : p < l.length
    · rw [show min l.length (p + 1) = p + 1 by omega, nl_take_succ hlt]
      split <;> omega
    · have e1 : l.drop p = [] := List.drop_eq_nil_of_le (by omega)
      rw [e1, show min l.length (p + 1) = p by omega]
      rfl
  rw [e]
  exact N'
theorem AOk.in1 {A : Around} {n : Nat} (a : AOk A (n + 1)) : AOk A.in1 n := ⟨a.hh, by have := a.hd; show A.depth + 2 * n < _; omega, by have := a.hu; show A.units + 1 + 20 * n < _; omega⟩

theorem fn_at {K : Frag} {h : Heap} (X : K.In h) {f : Addr} {oc : Value} {od : Option Addr} {name qual : Str} {params : Arguments} {body : List Stmt} {scope : Scope} {cl : List (Str × Addr)} {dV kV doc pm cdv ct : Value} {an : Option Addr} {osl : Array (Option Value)}
    (ho : K.lookup f = some ⟨oc, od, .func (fnX name qual params body scope cl dV kV doc pm an cdv ct), osl⟩) : ∃ fo fdx, h.get? f = some fo ∧ fo.data = .func fdx := ⟨_, _, X _ _ ho, rfl⟩

inductive CEnd (w : World) (l : List Nat) (lp dx fl pb : Addr) (T : Toks) (h₀ : Heap) (L : Addr) (V : List (Addr × Obj)) (it mo : Addr) (ts : Tok) (gs : Array GenState) (dr : Drawn) (os : OsState) (J : Nat → (Str → Option Value) → Prop) (p : Nat) (s : Shared) : Prop
  | mk (h' : Heap) (tk' : Nat) (m' : Str → Option Value) (p' : Nat) (b : Bool) (e : s = ⟨h', gs, dr, tk', os⟩) (lt : p < p') (le : p' ≤ l.length) (hb : b = true → p' = l.length) (F : Fr h₀ L h' m') (N : LexL w l lp dx fl pb T h₀ L ((it, ciO mo ts b) :: V) p' h') (j : J p' m') : CEnd w l lp dx fl pb T h₀ L V it mo ts gs dr os J p s
inductive CiI (w : World) (l : List Nat) (lp dx fl pb : Addr) (T : Toks) (h₀ : Heap) (L : Addr) (V : List (Addr × Obj)) (it mo : Addr) (ts : Tok) (gs : Array GenState) (dr : Drawn) (os : OsState) (J : Nat → (Str → Option Value) → Prop) (k : Nat) (s : Shared) : Prop
  | mk (p : Nat) (b : Bool) (h : Heap) (t : Nat) (m₁ : Str → Option Value) (ek : k = l.length - p) (le : p ≤ l.length) (hb : b = true → p = l.length) (e : s = ⟨h, gs, dr, t, os⟩) (F : Fr h₀ L h m₁) (N : LexL w l lp dx fl pb T h₀ L ((it, ciO mo ts b) :: V) p h) (j : J p m₁) : CiI w l lp dx fl pb T h₀ L V it mo ts gs dr os J k s
/-- a turn's end in a loop over the characters -/
def CiEnd (w : World) (l : List Nat) (lp dx fl pb : Addr) (T : Toks) (h₀ : Heap) (L : Addr) (V : List (Addr × Obj)) (it mo : Addr) (ts : Tok) (gs : Array GenState) (dr : Drawn) (os : OsState) (J : Nat → (Str → Option Value) → Prop) (Q : Flow → Shared → Prop) (p : Nat) (f : Flow) (s : Shared) : Prop :=
  match f with
  | .next | .cont => CEnd w l lp dx fl pb T h₀ L V it mo ts gs dr os J p s
  | .brk => Q .next s
  | .ret v => Q (.ret v) s

theorem ci_loop {w : World} {A : Around} {env : Env} {tg : Str} {tpos : Pos} {body : List Stmt} {h₀ hp : Heap} {gs : Array GenState} {dr : Drawn} {os : OsState} {tk : Nat} {m : Str → Option Value} {mean : ExcName → Option Value} {mg mb : Str → Option Value} {Q : Flow → Shared → Prop}
    {l : List Nat} {lp dx x fl pb dl fr it mo : Addr} {fd fdr : FuncData} {od : Obj} {W V : List (Addr × Obj)} {p₀ : Nat} {b₀ : Bool} {T : Toks} {ts : Tok}
    (hh : A.handled = none) (F : Fr h₀ env.locals hp m) (N : LexL w l lp dx fl pb T h₀ env.locals ((it, ciO mo ts b₀) :: V) p₀ hp) (G : GD w mean mg mb h₀) (a : AOk A 3) (LW : LexW w l lp dx x fl pb dl fr fd fdr od W)
    (hWV : ∀ q ∈ W, q ∈ V) (hm : (mo, methodObj (.ref 56) (.ref x)) ∈ V) (hlp : ∀ q ∈ V, q.1 ≠ lp) (hdx : ∀ q ∈ V, q.1 ≠ dx) (hit : ∀ q ∈ V, q.1 ≠ it) (hil : it ≠ lp) (hid : it ≠ dx) (hp₀ : p₀ ≤ l.length) (hb₀ : b₀ = true → p₀ = l.length) (hl : l.length ≤ 1000)
    (J : Nat → (Str → Option Value) → Prop) (hj : J p₀ m)
    (turn : ∀ p (hlt : p < l.length) m₁ h t tv, J p m₁ → Fr h₀ env.locals h m₁ → LexL w l lp dx fl pb T h₀ env.locals ((it, ciO mo ts false) :: V) (p + 1) h →
      wpAny (model PySem.Challenge.rw_tr0040_01.row.prog w) A (assign (.Name tg tpos) env (.str (S [l[p]]) tv)) (fun _ s₂ => wpAny (model PySem.Challenge.rw_tr0040_01.row.prog w) A (execs body env) (CiEnd w l lp dx fl pb T h₀ env.locals V it mo ts gs dr os J Q p) (fun _ _ => False) s₂) (fun _ _ => False) ⟨h, gs, dr, t, os⟩)
    (done : ∀ m₁ h t, J l.length m₁ → Fr h₀ env.locals h m₁ → LexL w l lp dx fl pb T h₀ env.locals ((it, ciO mo ts true) :: V) l.length h → Q .next ⟨h, gs, dr, t, os⟩) :
    codeAny (model PySem.Challenge.rw_tr0040_01.row.prog w) A (.forLoop (.Name tg tpos) (.ref it) body [] env) (ForR Q) ⟨hp, gs, dr, tk, os⟩ := by
  obtain ⟨fo, fdx, hf, hfd⟩ : ∃ fo fdx, h₀.get? 56 = some fo ∧ fo.data = .func fdx := by
    obtain ⟨X, _⟩ := G
    refine' fn_at X ?h1
    case h1 => k_is
  refine codeAny_forLoop_any (CiI w l lp dx fl pb T h₀ env.locals V it mo ts gs dr os J) ?_ (l.length - p₀)
    ⟨p₀, b₀, hp, tk, m, rfl, hp₀, hb₀, rfl, F, N, hj⟩
  rintro k s ⟨p, b, h, t, m₁, rfl, hp, hb, rfl, F₁, N₁, hj₁⟩
  cases b with
  | true =>
    obtain rfl := hb rfl
    obtain ⟨tp, np, tkk, N₁⟩ := N₁
    refine ci_ended hh F₁ N₁ (it := it) (.tail _ (.tail _ (.head _))) ?_
    intro h' F' N'
    exact wpAny_execs_nil (done m₁ h' t hj₁ F' ⟨tp, np, tkk, N'⟩)
  | false =>
    have hW' : ∀ q ∈ W, q ∈ (it, ciO mo ts false) :: V := fun q hq => .tail _ (hWV q hq)
    have hlp' : ∀ q ∈ (it, ciO mo ts false) :: V, q.1 ≠ lp := List.forall_mem_cons.mpr ⟨hil, hlp⟩
    have hdx' : ∀ q ∈ (it, ciO mo ts false) :: V, q.1 ≠ dx := List.forall_mem_cons.mpr ⟨hid, hdx⟩
    obtain ⟨tp, np, tkk, N₁'⟩ := id N₁
    refine ci_next (it := it) (mo := mo) (f := 56) (x := x) (ts := ts) hh F₁ N₁' (.tail _ (.tail _ (.head _))) (.tail _ (.tail _ (.tail _ hm))) hf hfd ?_
    refine readchar_at F₁ N₁ G a.in1 LW hW' hlp' hdx' hp hl ?_
    intro t' h' tk' F' N'
    obtain ⟨tp', np', tkk', N''⟩ := id N'
    refine ⟨_, t', m₁, _, _, rfl, F', N'', .tail _ (.tail _ (.tail _ hm)), .tail (Ne.symm hil) (.tail (Ne.symm hid) (.head hit)), fun hc => ?_, fun hc h'' F'' N3 => ?_⟩
    · have hlt : p < l.length := by
        apply Nat.lt_of_not_le
        intro q
        exact hc (by rw [List.drop_eq_nil_of_le q]; rfl)
      dsimp only
      rw [take1 hlt]
      have hl' := lets_plain (M := model PySem.Challenge.rw_tr0040_01.row.prog w) (A := A) (I := it) (t := .Name tg tpos) (v := .str (S [l[p]]) t') (s := ⟨h', gs, dr, tk', os⟩) (Q := fun _ s => s = ⟨h', gs, dr, tk', os⟩) (E := fun _ _ => False) (T := "callable_iterator") (N'' (it, ciO mo ts false) (.tail _ (.tail _ (.head _)))).1 rfl (by decide) rfl
      refine wpAny_mono hl' (fun _ s' e => ?_) fun _ _ x => x.elim
      subst e
      have eq1 : min l.length (p + 1) = p + 1 := by omega
      rw [eq1] at N'
      refine wpAny_mono (turn p hlt m₁ h' tk' t' hj₁ F' N') (fun _ s₂ h₂ => ?_) fun _ _ x => x.elim
      refine wpAny_mono h₂ (fun f s₃ h₃ => ?_) fun _ _ x => x.elim
      cases f with
      | ret v => exact h₃
      | brk => exact h₃
      | next =>
        obtain ⟨h3, tk3, m3, p3, b3, rfl, hp3, hp4, hb3, F3, N3, j3⟩ := h₃
        exact ⟨l.length - p3, by omega, p3, b3, h3, tk3, m3, rfl, hp4, hb3, rfl, F3, N3, j3⟩
      | cont =>
        obtain ⟨h3, tk3, m3, p3, b3, rfl, hp3, hp4, hb3, F3, N3, j3⟩ := h₃
        exact ⟨l.length - p3, by omega, p3, b3, h3, tk3, m3, rfl, hp4, hb3, rfl, F3, N3, j3⟩
    · have hge : l.length ≤ p := by
        apply Nat.le_of_not_lt
        intro q
        rw [take1 q] at hc
        cases hc
      obtain rfl : p = l.length := Nat.le_antisymm hp hge
      have eq1 : min l.length (l.length + 1) = l.length := by omega
      rw [eq1] at N3
      exact wpAny_execs_nil (done m₁ h'' tk' hj₁ F'' ⟨_, _, _, N3⟩)
end

-- part MTok
section
theorem occ_white (c : Nat) : (Builtin.Str.occurrences (S [10, 9, 13, 32]) (S [c]) 0 (S [10, 9, 13, 32]).length 1).isEmpty = !white c := by
  have h := in_S [10, 9, 13, 32] c
  have e : decide (c ∈ [10, 9, 13, 32]) = white c := by
    rw [Bool.eq_iff_iff]; simp [white]; omega
  rw [e] at h
  rw [← h, Bool.not_not]

theorem lt_min2 {j n : Nat} (h : j < n) : j < min n (j + 1 + 1) := Nat.lt_min.mpr ⟨h, Nat.lt_succ_of_lt (Nat.lt_succ_self j)⟩
theorem app_min {a b : List Nat} {j n : Nat} (h : a.length ≤ j) (k : b.length ≤ 1) (hj : j < n) : (a ++ b).length ≤ min n (j + 1 + 1) := by rw [List.length_append]; omega
theorem app_one {a : List Nat} {c j : Nat} (h : a.length ≤ j) : (a ++ [c]).length ≤ j + 1 := by rw [List.length_append, List.length_singleton]; omega
theorem add_small {a b j n : Nat} (h : a ≤ j) (hj : j < n) (hl : n ≤ 1000) (k : b ≤ 1) : a + b ≤ 16777216 := by omega
inductive TokJ (l : List Nat) (x it : Addr) (rw : List Nat) (rp i : Nat) (m : Str → Option Value) : Prop
  | mk (acc : List Nat) (t : Tok) (e1 : acc ++ (tok (l.drop i)).1 = rw) (e2 : i + (tok (l.drop i)).2 = rp) (he : i < l.length → acc = []) (hl : acc.length ≤ i) (hm : Has m [(Str.ofString "self", .ref x), (Str.ofString "token", .str (S acc) t), (Str.ofString "fiter", .ref it)]) : TokJ l x it rw rp i m
inductive QJ (l : List Nat) (x it : Addr) (rw : List Nat) (rp i : Nat) (m : Str → Option Value) : Prop
  | mk (acc : List Nat) (t : Tok) (e1 : acc ++ (inQ (l.drop i)).1 = rw) (e2 : i + (inQ (l.drop i)).2 = rp) (hl : acc.length ≤ i) (hm : Has m [(Str.ofString "self", .ref x), (Str.ofString "token", .str (S acc) t), (Str.ofString "fiter", .ref it)]) : QJ l x it rw rp i m
inductive WJ (l : List Nat) (x it : Addr) (rw : List Nat) (rp i : Nat) (m : Str → Option Value) : Prop
  | mk (acc : List Nat) (t : Tok) (e1 : acc ++ (inW (l.drop i)).1 = rw) (e2 : i + (inW (l.drop i)).2 = rp) (hl : acc.length ≤ i) (hm : Has m [(Str.ofString "self", .ref x), (Str.ofString "token", .str (S acc) t), (Str.ofString "fiter", .ref it)]) : WJ l x it rw rp i m
theorem get_token_code {w : World} {A : Around} {s : Shared} {h₀ : Heap} {L : Addr} {m : Str → Option Value} {mean : ExcName → Option Value} {mg mb : Str → Option Value} {R : Result → Shared → Prop}
   {l : List Nat} {lp dx x fl pb dl fr : Addr} {fd fdr : FuncData} {od : Obj} {W V : List (Addr × Obj)} {p : Nat} {T : Toks}
   (F : Fr h₀ L s.heap m) (N : LexL w l lp dx fl pb T h₀ L V p s.heap) (G : GD w mean mg mb h₀) (a : AOk A 5) (LW : LexW w l lp dx x fl pb dl fr fd fdr od W)
   (hWV : ∀ q ∈ W, q ∈ V) (hlp : ∀ q ∈ V, q.1 ≠ lp) (hdx : ∀ q ∈ V, q.1 ≠ dx) (hp : p ≤ l.length) (hl : l.length ≤ 1000)
   (ret : ∀ t' h' tk', Fr h₀ L h' m → LexL w l lp dx fl pb T h₀ L V (p + (tok (l.drop p)).2) h' → R (.ok (.ret (.str (S (tok (l.drop p)).1) t'))) { s with heap := h', toks := tk' })
   : codeAny (model PySem.Challenge.rw_tr0040_01.row.prog w) A (.call (.ref 63) ⟨[.ref x], []⟩) R s := by
  obtain ⟨tp, np, tkk, N⟩ := N
  obtain ⟨X, T0⟩ := G
  obtain ⟨ah, dp, fr', gd, un⟩ := A
  obtain ⟨rfl⟩ : ah = none := a.hh
  have aD := a.hd; have aU := a.hu
  dsimp only at aD aU
  refine' enterF (cl := []) (binds := [(Str.ofString "self", .ref x)]) F N X T0.nolimit ?k1 ?k3 ?k4 ?k5 ?k6 ?_ ?k7 ?k8 ?k9 ?k10
  case k4 => exact Nat.lt_of_le_of_lt (Nat.le_add_right _ _) a.hd
  walk_at "mine sides"
  intro g L' h₁ tk htk FG F' N' st hlt
  have X' := X.keeps st
  have T' := T0.keeps st
  clear X T0 F N FG st
  have N1 : News g L' h₁ ((x, instObj 73 dx) :: (dx, lexD w T fl pb ((1 + nl (l.take p) : Nat) : Int) tkk) :: (pb, listOf #[] 0) :: (lp, listOf #[.int (p : Int) tp] np) :: V) := newsCons (newsSub (newsCons N' (.tail _ (.tail _ (hWV _ LW.hpb)))) (by walk_at "mine sub")) (.tail _ (.tail _ (.tail _ (hWV _ LW.hx))))
  clear N'
  walk_at "mine steps"
  rename Fr g L' _ _ => F2
  rename News g L' _ _ => N2
  rename_i mo _ _ _ _
  refine iter_call F2 N2 (.head _) ?_
  intro it h' F3 N3 hlt3
  clear F2 N2
  walk_at "mine steps"
  rename Fr g L' _ _ => F4
  rename News g L' _ _ => N4
  refine ci_iter N4 (.head _) ?_
  clear htk
  simp only [List.forall_mem_cons] at hlt3 hlt
  obtain ⟨l3a, l3b, l3c, l3d, l3e, l3f⟩ := hlt3
  obtain ⟨l2a, l2b, l2c⟩ := hlt
  have hmo : ∀ q ∈ (mo, methodObj (.ref 56) (.ref x)) :: V, q.1 ≠ lp := List.forall_mem_cons.mpr ⟨neN (by omega), hlp⟩
  have hmd : ∀ q ∈ (mo, methodObj (.ref 56) (.ref x)) :: V, q.1 ≠ dx := List.forall_mem_cons.mpr ⟨neN (by omega), hdx⟩
  have hmi : ∀ q ∈ (mo, methodObj (.ref 56) (.ref x)) :: V, q.1 ≠ it := List.forall_mem_cons.mpr ⟨neN (by omega), fun q hq => Nat.ne_of_lt (l3f q hq)⟩
  have N5 : LexL w l lp dx fl pb T g L' ((it, ciO mo _ false) :: (mo, methodObj (.ref 56) (.ref x)) :: V) p _ := ⟨tp, np, tkk, newsSub N4 (by walk_at "mine sub")⟩
  clear N4
  generalize hrw : (tok (l.drop p)).1 = rw at ret
  generalize hrp : p + (tok (l.drop p)).2 = rp at ret
  refine ci_loop rfl F4 N5 ⟨X', T'⟩ ((a.deeper _).le (by decide)) LW (fun q hq => .tail _ (hWV q hq)) (.head _) hmo hmd hmi (neN (by omega)) (neN (by omega)) hp (fun q => by cases q) hl
    (TokJ l x it rw rp) ?_ ?_ ?_
  · exact ⟨[], _, hrw, hrp, fun _ => rfl, Nat.zero_le _, by walk_at "mine has"⟩
  · rintro i hlt m₁ h t tv ⟨acc, ta, e1, e2, e3, e4, hm⟩ F6 N6
    obtain rfl := e3 hlt
    have F7 := frHas F6 hm
    dsimp only [mp] at F7
    obtain ⟨tp6, np6, tk6, N6⟩ := N6
    have N7 := newsCons N6 (.tail _ (.tail _ (.tail _ (.tail _ (hWV _ LW.hx)))))
    clear F6
    walk_at "mine steps"
    · rename [l[i]] = [34] => hc
      have hc : l[i] = 34 := by injection hc
      have es := tok_mark hlt hc e1 e2
      rename Fr g _ _ _ => F8
      rename News g _ _ _ => N8
      refine ci_iter N8 (by walk_at "mine mem") ?_
      refine ci_loop rfl F8 (b₀ := false) (p₀ := i + 1) ⟨tp6, np6, tk6, newsSub N8 (by walk_at "mine sub")⟩ ⟨X', T'⟩ ((a.deeper _).le (by decide)) LW (fun q hq => .tail _ (hWV q hq)) (.head _) hmo hmd hmi (neN (by omega)) (neN (by omega)) (Nat.succ_le_of_lt hlt) (fun q => by cases q) hl
        (QJ l x it rw rp) ?_ ?_ ?_
      · exact ⟨[], _, (es).1, (es).2, by exact Nat.zero_le _, by walk_at "mine has"⟩
      · rintro j hj m₉ h t tv ⟨acc, ta, e1, e2, e4, hm⟩ F6 N6
        clear F8 N8
        have F7 := frHas F6 hm
        dsimp only [mp] at F7
        obtain ⟨tp6, np6, tk6, N6⟩ := N6
        have N7 := newsCons N6 (.tail _ (.tail _ (.tail _ (.tail _ (hWV _ LW.hx)))))
        clear F6
        have hS0 := add_small (b := [l[j]].length) e4 hj hl (Nat.le_refl 1)
        walk_at "mine steps"
        · rename [l[j]] = [34] => hc
          have hc : l[j] = 34 := by injection hc
          obtain ⟨q1, q2⟩ := inQ_mark hj hc e1 e2
          subst q1 q2
          rename Fr g _ _ _ => F8
          rename News g _ _ _ => N8
          dsimp only
          try show LeaveK _ _ _ _ _ _ _
          refine leaveK_ F8 (newsSub (l' := (lp, listOf #[.int ((j + 1 : Nat) : Int) tp6] np6) :: (dx, lexD w T fl pb ((1 + nl (l.take (j + 1)) : Nat) : Int) tk6) :: V) N8 (by walk_at "mine sub")) (fun kF kN => ?_)
          exact ret _ _ _ kF ⟨tp6, np6, tk6, kN⟩
        · rename [l[j]] = [92] => hc
          have hc : l[j] = 92 := by injection hc
          have es := esc_step (f := inQ) (by rfl) (by rfl) (fun _ _ => by rw [inQ]) hj hc e1 e2
          rename Fr g _ _ _ => F8
          rename News g _ _ _ => N8
          refine wpAny_call (readchar_at (p := j + 1) (V := (it, ciO mo _ false) :: (mo, methodObj (.ref 56) (.ref x)) :: V) F8 ⟨tp6, np6, tk6, newsSub N8 (by walk_at "mine sub")⟩ ⟨X', T'⟩ ((a.deeper _).le (by decide)) LW (fun q hq => .tail _ (.tail _ (hWV q hq))) (List.forall_mem_cons.mpr ⟨neN (by omega), hmo⟩) (List.forall_mem_cons.mpr ⟨neN (by omega), hmd⟩) hj hl ?_)
          intro t9 h9 tk9 F9 N9
          have ltk : ((l.drop (j + 1)).take 1).length ≤ 1 := by rw [List.length_take]; exact Nat.min_le_left _ _
          have hS1 := add_small e4 hj hl ltk
          clear F8 N8
          obtain ⟨tp6, np6, tk6, N6⟩ := N9
          walk_at "mine steps"
          rename Fr g _ _ _ => F8
          rename News g _ _ _ => N8
          exact ⟨_, _, _, min l.length (j + 1 + 1), false, rfl, lt_min2 hj, Nat.min_le_left _ _, (fun q => by cases q), F8, ⟨tp6, np6, tk6, newsSub N8 (by walk_at "mine sub")⟩, _, _, es.1, es.2, app_min e4 ltk hj, by walk_at "mine has"⟩
        · rename ¬ ([l[j]] = [92]) => hc2
          rename ¬ ([l[j]] = [34]) => hc1
          have es := inQ_step hj (fun q => hc1 (by rw [q])) (fun q => hc2 (by rw [q])) e1 e2
          rename Fr g _ _ _ => F8
          rename News g _ _ _ => N8
          exact ⟨_, _, _, j + 1, false, rfl, Nat.lt_succ_self _, Nat.succ_le_of_lt hj, (fun q => by cases q), F8, ⟨tp6, np6, tk6, newsSub N8 (by walk_at "mine sub")⟩, _, _, es.1, es.2, app_one e4, by walk_at "mine has"⟩
      · rintro m₉ h t ⟨acc, ta, e1, e2, e4, hm⟩ F6 N6
        obtain ⟨q1, q2⟩ := f_end (f := inQ) (by rfl) e1 e2
        clear N8 F8 N7
        walk_at "mine steps"
        exact ⟨_, _, m₉, l.length, true, rfl, hlt, Nat.le_refl _, fun _ => rfl, F6, N6, acc, ta, by rw [List.drop_length, tok, List.append_nil]; exact q1, by rw [List.drop_length]; exact q2, fun q => absurd q (Nat.lt_irrefl _), e4, hm⟩
    · rename [l[i]] = [92] => hc
      have hc : l[i] = 92 := by injection hc
      have es := tok_esc hlt hc e1 e2
      rename Fr g _ _ _ => F8
      rename News g _ _ _ => N8
      refine wpAny_call (readchar_at (p := i + 1) (V := (it, ciO mo _ false) :: (mo, methodObj (.ref 56) (.ref x)) :: V) F8 ⟨tp6, np6, tk6, newsSub N8 (by walk_at "mine sub")⟩ ⟨X', T'⟩ ((a.deeper _).le (by decide)) LW (fun q hq => .tail _ (.tail _ (hWV q hq))) (List.forall_mem_cons.mpr ⟨neN (by omega), hmo⟩) (List.forall_mem_cons.mpr ⟨neN (by omega), hmd⟩) hlt hl ?_)
      intro t9 h9 tk9 F9 N9
      have ltk : ((l.drop (i + 1)).take 1).length ≤ 1 := by rw [List.length_take]; exact Nat.min_le_left _ _
      have hS1 := add_small (a := ([] : List Nat).length) (Nat.zero_le _) hlt hl ltk
      clear F8 N8
      obtain ⟨tp6, np6, tk6, N6⟩ := N9
      walk_at "mine steps"
      rename Fr g _ _ _ => F8
      rename News g _ _ _ => N8
      refine ci_iter N8 (by walk_at "mine mem") ?_
      refine ci_loop rfl F8 (b₀ := false) (p₀ := min l.length (i + 1 + 1)) ⟨tp6, np6, tk6, newsSub N8 (by walk_at "mine sub")⟩ ⟨X', T'⟩ ((a.deeper _).le (by decide)) LW (fun q hq => .tail _ (hWV q hq)) (.head _) hmo hmd hmi (neN (by omega)) (neN (by omega)) (Nat.min_le_left _ _) (fun q => by cases q) hl
        (WJ l x it rw rp) ?_ ?_ ?_
      · exact ⟨[] ++ (l.drop (i + 1)).take 1, _, (es).1, (es).2, app_min (a := []) (Nat.zero_le _) ltk hlt, by walk_at "mine has"⟩
      · rintro j hj m₉ h t tv ⟨acc, ta, e1, e2, e4, hm⟩ F6 N6
        clear F8 N8
        have F7 := frHas F6 hm
        dsimp only [mp] at F7
        obtain ⟨tp6, np6, tk6, N6⟩ := N6
        have N7 := newsCons N6 (.tail _ (.tail _ (.tail _ (.tail _ (hWV _ LW.hx)))))
        clear F6
        have hS0 := add_small (b := [l[j]].length) e4 hj hl (Nat.le_refl 1)
        walk_at "mine steps"
        · rename [l[j]] = [92] => hc
          have hc : l[j] = 92 := by injection hc
          have es := esc_step (f := inW) (by rfl) (by rfl) (fun _ _ => by rw [inW]) hj hc e1 e2
          rename Fr g _ _ _ => F8
          rename News g _ _ _ => N8
          refine wpAny_call (readchar_at (p := j + 1) (V := (it, ciO mo _ false) :: (mo, methodObj (.ref 56) (.ref x)) :: V) F8 ⟨tp6, np6, tk6, newsSub N8 (by walk_at "mine sub")⟩ ⟨X', T'⟩ ((a.deeper _).le (by decide)) LW (fun q hq => .tail _ (.tail _ (hWV q hq))) (List.forall_mem_cons.mpr ⟨neN (by omega), hmo⟩) (List.forall_mem_cons.mpr ⟨neN (by omega), hmd⟩) hj hl ?_)
          intro t9 h9 tk9 F9 N9
          have ltk : ((l.drop (j + 1)).take 1).length ≤ 1 := by rw [List.length_take]; exact Nat.min_le_left _ _
          have hS1 := add_small e4 hj hl ltk
          clear F8 N8
          obtain ⟨tp6, np6, tk6, N6⟩ := N9
          walk_at "mine steps"
          rename Fr g _ _ _ => F8
          rename News g _ _ _ => N8
          exact ⟨_, _, _, min l.length (j + 1 + 1), false, rfl, lt_min2 hj, Nat.min_le_left _ _, (fun q => by cases q), F8, ⟨tp6, np6, tk6, newsSub N8 (by walk_at "mine sub")⟩, _, _, es.1, es.2, app_min e4 ltk hj, by walk_at "mine has"⟩
        · rename ¬ ([l[j]] = [92]) => hc2
          rename List.isEmpty _ = true => hw
          rw [occ_white] at hw
          have es := inW_step hj (by simpa using hw) (fun q => hc2 (by rw [q])) e1 e2
          rename Fr g _ _ _ => F8
          rename News g _ _ _ => N8
          exact ⟨_, _, _, j + 1, false, rfl, Nat.lt_succ_self _, Nat.succ_le_of_lt hj, (fun q => by cases q), F8, ⟨tp6, np6, tk6, newsSub N8 (by walk_at "mine sub")⟩, _, _, es.1, es.2, app_one e4, by walk_at "mine has"⟩
        · rename List.isEmpty _ = false => hw
          rw [occ_white] at hw
          obtain ⟨q1, q2⟩ := inW_white hj (by simpa using hw) e1 e2
          subst q1 q2
          rename Fr g _ _ _ => F8
          rename News g _ _ _ => N8
          dsimp only
          try show LeaveK _ _ _ _ _ _ _
          refine leaveK_ F8 (newsSub (l' := (lp, listOf #[.int ((j + 1 : Nat) : Int) tp6] np6) :: (dx, lexD w T fl pb ((1 + nl (l.take (j + 1)) : Nat) : Int) tk6) :: V) N8 (by walk_at "mine sub")) (fun kF kN => ?_)
          exact ret _ _ _ kF ⟨tp6, np6, tk6, kN⟩
      · rintro m₉ h t ⟨acc, ta, e1, e2, e4, hm⟩ F6 N6
        obtain ⟨q1, q2⟩ := f_end (f := inW) (by rfl) e1 e2
        clear N8 F8 N7
        walk_at "mine steps"
        exact ⟨_, _, m₉, l.length, true, rfl, hlt, Nat.le_refl _, fun _ => rfl, F6, N6, acc, ta, by rw [List.drop_length, tok, List.append_nil]; exact q1, by rw [List.drop_length]; exact q2, fun q => absurd q (Nat.lt_irrefl _), e4, hm⟩
    · rename ¬ ([l[i]] = [92]) => hc2
      rename ¬ ([l[i]] = [34]) => hc1
      rename List.isEmpty _ = true => hw
      rw [occ_white] at hw
      have es := tok_step hlt (fun q => hc1 (by rw [q])) (by simpa using hw) (fun q => hc2 (by rw [q])) e1 e2
      rename Fr g _ _ _ => F8
      rename News g _ _ _ => N8
      refine ci_iter N8 (by walk_at "mine mem") ?_
      refine ci_loop rfl F8 (b₀ := false) (p₀ := i + 1) ⟨tp6, np6, tk6, newsSub N8 (by walk_at "mine sub")⟩ ⟨X', T'⟩ ((a.deeper _).le (by decide)) LW (fun q hq => .tail _ (hWV q hq)) (.head _) hmo hmd hmi (neN (by omega)) (neN (by omega)) (Nat.succ_le_of_lt hlt) (fun q => by cases q) hl
        (WJ l x it rw rp) ?_ ?_ ?_
      · exact ⟨[] ++ [l[i]], _, (es).1, (es).2, app_one (a := []) (Nat.zero_le _), by walk_at "mine has"⟩
      · rintro j hj m₉ h t tv ⟨acc, ta, e1, e2, e4, hm⟩ F6 N6
        clear F8 N8
        have F7 := frHas F6 hm
        dsimp only [mp] at F7
        obtain ⟨tp6, np6, tk6, N6⟩ := N6
        have N7 := newsCons N6 (.tail _ (.tail _ (.tail _ (.tail _ (hWV _ LW.hx)))))
        clear F6
        have hS0 := add_small (b := [l[j]].length) e4 hj hl (Nat.le_refl 1)
        walk_at "mine steps"
        · rename [l[j]] = [92] => hc
          have hc : l[j] = 92 := by injection hc
          have es := esc_step (f := inW) (by rfl) (by rfl) (fun _ _ => by rw [inW]) hj hc e1 e2
          rename Fr g _ _ _ => F8
          rename News g _ _ _ => N8
          refine wpAny_call (readchar_at (p := j + 1) (V := (it, ciO mo _ false) :: (mo, methodObj (.ref 56) (.ref x)) :: V) F8 ⟨tp6, np6, tk6, newsSub N8 (by walk_at "mine sub")⟩ ⟨X', T'⟩ ((a.deeper _).le (by decide)) LW (fun q hq => .tail _ (.tail _ (hWV q hq))) (List.forall_mem_cons.mpr ⟨neN (by omega), hmo⟩) (List.forall_mem_cons.mpr ⟨neN (by omega), hmd⟩) hj hl ?_)
          intro t9 h9 tk9 F9 N9
          have ltk : ((l.drop (j + 1)).take 1).length ≤ 1 := by rw [List.length_take]; exact Nat.min_le_left _ _
          have hS1 := add_small e4 hj hl ltk
          clear F8 N8
          obtain ⟨tp6, np6, tk6, N6⟩ := N9
          walk_at "mine steps"
          rename Fr g _ _ _ => F8
          rename News g _ _ _ => N8
          exact ⟨_, _, _, min l.length (j + 1 + 1), false, rfl, lt_min2 hj, Nat.min_le_left _ _, (fun q => by cases q), F8, ⟨tp6, np6, tk6, newsSub N8 (by walk_at "mine sub")⟩, _, _, es.1, es.2, app_min e4 ltk hj, by walk_at "mine has"⟩
        · rename ¬ ([l[j]] = [92]) => hc2
          rename List.isEmpty _ = true => hw
          rw [occ_white] at hw
          have es := inW_step hj (by simpa using hw) (fun q => hc2 (by rw [q])) e1 e2
          rename Fr g _ _ _ => F8
          rename News g _ _ _ => N8
          exact ⟨_, _, _, j + 1, false, rfl, Nat.lt_succ_self _, Nat.succ_le_of_lt hj, (fun q => by cases q), F8, ⟨tp6, np6, tk6, newsSub N8 (by walk_at "mine sub")⟩, _, _, es.1, es.2, app_one e4, by walk_at "mine has"⟩
        · rename List.isEmpty _ = false => hw
          rw [occ_white] at hw
          obtain ⟨q1, q2⟩ := inW_white hj (by simpa using hw) e1 e2
          subst q1 q2
          rename Fr g _ _ _ => F8
          rename News g _ _ _ => N8
          dsimp only
          try show LeaveK _ _ _ _ _ _ _
          refine leaveK_ F8 (newsSub (l' := (lp, listOf #[.int ((j + 1 : Nat) : Int) tp6] np6) :: (dx, lexD w T fl pb ((1 + nl (l.take (j + 1)) : Nat) : Int) tk6) :: V) N8 (by walk_at "mine sub")) (fun kF kN => ?_)
          exact ret _ _ _ kF ⟨tp6, np6, tk6, kN⟩
      · rintro m₉ h t ⟨acc, ta, e1, e2, e4, hm⟩ F6 N6
        obtain ⟨q1, q2⟩ := f_end (f := inW) (by rfl) e1 e2
        clear N8 F8 N7
        walk_at "mine steps"
        exact ⟨_, _, m₉, l.length, true, rfl, hlt, Nat.le_refl _, fun _ => rfl, F6, N6, acc, ta, by rw [List.drop_length, tok, List.append_nil]; exact q1, by rw [List.drop_length]; exact q2, fun q => absurd q (Nat.lt_irrefl _), e4, hm⟩
    · rename List.isEmpty _ = false => hw
      rw [occ_white] at hw
      have es := tok_white hlt (by simpa using hw) e1 e2
      rename Fr g _ _ _ => F8
      rename News g _ _ _ => N8
      dsimp only
      exact ⟨_, _, _, i + 1, false, rfl, Nat.lt_succ_self _, Nat.succ_le_of_lt hlt, (fun q => by cases q), F8, ⟨tp6, np6, tk6, newsSub N8 (by walk_at "mine sub")⟩, _, _, es.1, es.2, fun _ => rfl, Nat.zero_le _, by walk_at "mine has"⟩
  · rintro m₁ h t ⟨acc, ta, e1, e2, e3, e4, hm⟩ F6 N6
    have F7 := frHas F6 hm
    dsimp only [mp] at F7
    obtain ⟨tp6, np6, tk6, N6⟩ := N6
    obtain ⟨q1, q2⟩ := f_end (f := tok) (by rfl) e1 e2
    clear F6
    walk_at "mine steps"
    rename Fr g _ _ _ => F8
    rename News g _ _ _ => N8

    dsimp only
    refine leaveK_ F8 (newsSub (l' := (lp, listOf #[.int ((l.length : Nat) : Int) tp6] np6) :: (dx, lexD w T fl pb ((1 + nl (l.take l.length) : Nat) : Int) tk6) :: V) N8 (by walk_at "mine sub")) (fun kF kN => ?_)
    subst q1 q2
    exact ret _ _ _ kF ⟨tp6, np6, tk6, kN⟩
end

-- part MEq
section
/-- a value is a told triple -/
def TIn (news : List (Addr × Obj)) (v : Value) (u : Told) : Prop := ∃ a n t1 t2 t3, v = .ref a ∧ (a, tupO [.str (S u.1) t1, .int (u.2.1 : Int) t2, .int (u.2.2 : Int) t3] n) ∈ news
theorem TIn.mono {l l' : List (Addr × Obj)} (hs : ∀ p ∈ l, p ∈ l') {v : Value} {u : Told} (h : TIn l v u) : TIn l' v u := by
  obtain ⟨a, n, t1, t2, t3, e, hm⟩ := h
  exact ⟨a, n, t1, t2, t3, e, hs _ hm⟩
section
open PySem.SeqAt
variable {A : Around} {s : Shared} {h₀ : Heap} {L : Addr} {led : List (Addr × Obj)}
theorem eqAt_S (a b : List Nat) (t u : Tok) : EqAt A s (.str (S a) t) (.str (S b) u) (decide (a = b)) := by
  have h := EqAt.str_str (A := A) (s := s) (S a) t (S b) u
  have e : (S a == S b) = decide (a = b) := by
    rw [Bool.eq_iff_iff]; simp only [beq_iff_eq, decide_eq_true_eq]
    exact ⟨fun h => S_inj h, fun h => h ▸ rfl⟩
  rw [e] at h; exact h
theorem eqAt_B (a b : Bool) : EqAt A s (.bool a) (.bool b) (decide (a = b)) := by
  have h := EqAt.bool_bool (A := A) (s := s) a b
  have e : (a == b) = decide (a = b) := by cases a <;> cases b <;> rfl
  rw [e] at h; exact h
theorem eqAt_N (a b : Nat) (t u : Tok) : EqAt A s (.int (a : Int) t) (.int (b : Int) u) (decide (a = b)) := by
  have h := EqAt.int_int (A := A) (s := s) (a : Int) t (b : Int) u
  have e : ((a : Int) == (b : Int)) = decide (a = b) := by rw [Bool.eq_iff_iff, beq_iff_eq, decide_eq_true_eq]; exact Int.ofNat_inj
  rw [e] at h; exact h
theorem news_same {h : Heap} {a : Addr} {o o' : Obj} (N : News h₀ L h led) (h1 : (a, o) ∈ led) (h2 : (a, o') ∈ led) : o = o' := by
  have e1 := (N _ h1).1
  have e2 := (N _ h2).1
  rw [e1] at e2
  exact Option.some.inj e2
theorem tup2 {x y : Value} {x' y' : Value} {n n' : Nat} (e : tupO [x, y] n = tupO [x', y'] n') : x = x' ∧ y = y' := by
  have := congrArg Obj.data e
  injection this with h1 h2
  have h3 := congrArg Array.toList h1
  simp at h3
  exact h3
theorem tup3 {x y z : Value} {x' y' z' : Value} {n n' : Nat} (e : tupO [x, y, z] n = tupO [x', y', z'] n') : x = x' ∧ y = y' ∧ z = z' := by
  have := congrArg Obj.data e
  injection this with h1 h2
  have h3 := congrArg Array.toList h1
  simp at h3
  exact h3
theorem eqCast {a b : Value} {x y : Bool} (h : EqAt A s a b x) (e : x = y) : EqAt A s a b y := e ▸ h
theorem rcAt_U (N : News h₀ L s.heap led) (hu : A.units < cLine) {a a' : Addr} {b b' : Bool} {x x' : List Nat} {t t' : Tok} {n n' : Nat} (hm : (a, tupO [.bool b, .str (S x) t] n) ∈ led) (hm' : (a', tupO [.bool b', .str (S x') t'] n') ∈ led) : RcAt A s (.ref a) (.ref a') (decide ((b, x) = (b', x'))) := by
  have hh := RcAt.tuples (A := A) (s := s) (e := fun j => if j = 0 then decide (b = b') else decide (x = x')) ⟨_, (N _ hm).1, rfl, n, rfl⟩ ⟨_, (N _ hm').1, rfl, n', rfl⟩ hu (fun j h1 h2 => by
    have h1 : j < 2 := h1
    match j, h1 with
    | 0, _ => exact eqAt_B b b'
    | 1, _ => exact eqAt_S x x' t t')
  have e2 : ((List.range (min 2 2)).all (fun j => if j = 0 then decide (b = b') else decide (x = x')) && 2 == 2) = decide ((b, x) = (b', x')) := by
    rw [Bool.eq_iff_iff]; simp [List.range, List.range.loop, Prod.ext_iff]
  rw [← e2]
  exact hh
theorem eqAt_U (N : News h₀ L s.heap led) (hu : A.units < cLine) {v v' : Value} {u u' : U} (h : UIn led v u) (h' : UIn led v' u') : EqAt A s v v' (decide (u = u')) := by
  obtain ⟨a, n, t, rfl, hm⟩ := h
  obtain ⟨a', n', t', rfl, hm'⟩ := h'
  obtain ⟨b, x⟩ := u
  obtain ⟨b', x'⟩ := u'
  dsimp only at hm hm'
  by_cases e : a = a'
  · subst e
    have := tup2 (news_same N hm hm')
    obtain ⟨h1, h2⟩ := this
    injection h1 with h1
    injection h2 with h2 h3
    have h2 := S_inj h2
    subst h1 h2
    exact eqCast (EqAt.same (.ref a)) (by simp)
  · refine EqAt.of_refs e ?_
    exact rcAt_U N hu hm hm'
theorem eqAt_T (N : News h₀ L s.heap led) (hu : A.units < cLine) {v v' : Value} {u u' : Told} (h : TIn led v u) (h' : TIn led v' u') : EqAt A s v v' (decide (u = u')) := by
  obtain ⟨a, n, t1, t2, t3, rfl, hm⟩ := h
  obtain ⟨a', n', t1', t2', t3', rfl, hm'⟩ := h'
  obtain ⟨x, p, q⟩ := u
  obtain ⟨x', p', q'⟩ := u'
  dsimp only at hm hm'
  by_cases e : a = a'
  · subst e
    obtain ⟨h1, h2, h3⟩ := tup3 (news_same N hm hm')
    injection h1 with h1
    injection h2 with h2
    injection h3 with h3
    have h1 := S_inj h1
    have h2 := Int.ofNat.inj h2
    have h3 := Int.ofNat.inj h3
    subst h1 h2 h3
    exact eqCast (EqAt.same (.ref a)) (by simp)
  · refine EqAt.of_refs e ?_
    have hh := RcAt.tuples (A := A) (s := s) (e := fun j => if j = 0 then decide (x = x') else if j = 1 then decide (p = p') else decide (q = q')) ⟨_, (N _ hm).1, rfl, n, rfl⟩ ⟨_, (N _ hm').1, rfl, n', rfl⟩ hu (fun j h1 h2 => by
      have h1 : j < 3 := h1
      match j, h1 with
      | 0, _ => exact eqAt_S x x' _ _
      | 1, _ => exact eqAt_N p p' _ _
      | 2, _ => exact eqAt_N q q' _ _)
    have e2 : ((List.range (min 3 3)).all (fun j => if j = 0 then decide (x = x') else if j = 1 then decide (p = p') else decide (q = q')) && 3 == 3) = decide ((x, p, q) = (x', p', q')) := by
      rw [Bool.eq_iff_iff]; simp [List.range, List.range.loop, Prod.ext_iff]
    rw [← e2]
    exact hh
theorem all_eq {α : Type} [DecidableEq α] : ∀ (us us' : List α), us.length = us'.length → ((List.range us.length).all fun j => decide (us[j]? = us'[j]?)) = decide (us = us') := fun us us' hl => by
  rw [Bool.eq_iff_iff]
  simp only [List.all_eq_true, List.mem_range, decide_eq_true_eq]
  constructor
  · intro h
    apply List.ext_getElem?
    intro i
    by_cases hi : i < us.length
    · exact h i hi
    · rw [List.getElem?_eq_none (by omega), List.getElem?_eq_none (by omega)]
  · rintro rfl _ _; rfl
variable {prog : Program} {w : World} {E : Value → Shared → Prop} {Q : Value → Shared → Prop}
theorem ne_L {α : Type} [DecidableEq α] {P P' : Value → α → Prop} {l l' : Addr} {vs vs' : List Value} {n n' : Nat} {us us' : List α} (N : News h₀ L s.heap led) (hu : A.units < cLine) (hl : (l, listOf vs.toArray n) ∈ led) (hl' : (l', listOf vs'.toArray n') ∈ led)
    (hv : AllIn P vs us) (hv' : AllIn P' vs' us') (he : ∀ v v' u u', P v u → P' v' u' → EqAt A.in1 s v v' (decide (u = u'))) (h : Q (.bool (decide (us ≠ us'))) s) : wpAny (model prog w) A (compareOp .NotEq (.ref l) (.ref l')) Q E s := by
  have hL : s.heap.IsList l vs.toArray := ⟨_, (N _ hl).1, rfl, n, rfl⟩
  have hL' : s.heap.IsList l' vs'.toArray := ⟨_, (N _ hl').1, rfl, n', rfl⟩
  have k1 := hv.length
  have k2 := hv'.length
  by_cases hs : us.length = us'.length
  · refine RcNeAt.lists (e := fun j => decide (us[j]? = us'[j]?)) hL hL' (by simp only [List.size_toArray]; omega) hu (fun j h1 h2 => ?_) prog w E Q ?_
    · have h1' : j < vs.length := by simpa using h1
      have h2' : j < vs'.length := by simpa using h2
      obtain ⟨u, hu1, p1⟩ := hv.get (List.getElem?_eq_getElem h1')
      obtain ⟨u', hu2, p2⟩ := hv'.get (List.getElem?_eq_getElem h2')
      have := he _ _ _ _ p1 p2
      simp only [List.getElem_toArray]
      refine eqCast this ?_
      rw [hu1, hu2]; simp
    · have : (!(List.range vs.toArray.size).all fun j => decide (us[j]? = us'[j]?)) = decide (us ≠ us') := by
        rw [List.size_toArray, k1, all_eq us us' hs]; simp
      rw [this]; exact h
  · refine RcNeAt.lists_lengths hL hL' (by simp only [List.size_toArray, bne_iff_ne]; omega) hu prog w E Q ?_
    have : decide (us ≠ us') = true := by
      rw [decide_eq_true_eq]; rintro rfl; exact hs rfl
    rw [this] at h; exact h
theorem eq_U {a a' : Addr} {b b' : Bool} {x x' : List Nat} {t t' : Tok} {n n' : Nat} (N : News h₀ L s.heap led) (hu : A.units < cLine) (hm : (a, tupO [.bool b, .str (S x) t] n) ∈ led) (hm' : (a', tupO [.bool b', .str (S x') t'] n') ∈ led)
    (h : Q (.bool (decide ((b, x) = (b', x')))) s) : wpAny (model prog w) A (compareOp .Eq (.ref a) (.ref a')) Q E s := rcAt_U N hu hm hm' prog w E Q h
end
end

-- part L9
section
theorem items_bound : ∀ (r : List Nat) (e : Bool) (p : Nat), ∀ it ∈ itemsG e p r, it.2 = [34] → it.1 < p + r.length
  | [], e, p, it, h, h2 => by
    unfold itemsG at h
    cases e with
    | true => rw [if_pos rfl, List.mem_singleton] at h; subst h; simp at h2
    | false => simp at h
  | c :: r, true, p, it, h, h2 => by
    rw [itemsG] at h
    rcases List.mem_cons.mp h with rfl | h
    · simp at h2
    · have := items_bound r false (p + 1) it h h2
      rw [List.length_cons]; omega
  | c :: r, false, p, it, h, h2 => by
    rw [itemsG] at h
    split at h
    · have := items_bound r true (p + 1) it h h2
      rw [List.length_cons]; omega
    · rcases List.mem_cons.mp h with rfl | h
      · rw [List.length_cons]; show p < _; omega
      · have := items_bound r false (p + 1) it h h2
        rw [List.length_cons]; omega
theorem items_len : ∀ (r : List Nat) (e : Bool) (p : Nat), (itemsG e p r).length ≤ r.length + 1
  | [], e, p => by unfold itemsG; cases e <;> simp
  | c :: r, true, p => by
    rw [itemsG, List.length_cons, List.length_cons]
    have := items_len r false (p + 1); omega
  | c :: r, false, p => by
    rw [itemsG]
    split
    · have := items_len r true (p + 1); rw [List.length_cons]; omega
    · rw [List.length_cons, List.length_cons]
      have := items_len r false (p + 1); omega
/-- the stripping's state after k items keeps within the text -/
structure StOk (l : List Nat) (k : Nat) (st : St) : Prop where
  a : st.1 ≤ l.length
  o : ∀ o, st.2.1 = some o → o ≤ l.length
  n : st.2.2.length ≤ k
  x : ∀ x ∈ st.2.2, x.length ≤ l.length
theorem StOk.zero (l : List Nat) : StOk l 0 (0, none, []) := ⟨Nat.zero_le _, (fun _ h => nomatch h), Nat.le_refl _, (fun _ h => nomatch h)⟩
theorem StOk.step {l : List Nat} {k : Nat} {st : St} {it : Nat × List Nat} (h : StOk l k st) (hit : it.2 = [34] → it.1 < l.length) : StOk l (k + 1) (stStep l st it) := by
  obtain ⟨a, o, n, x⟩ := h
  obtain ⟨s1, s2, s3⟩ := st
  unfold stStep
  split
  · rename_i h34
    have hp := hit h34
    cases s2 with
    | none => exact ⟨a, fun o' e => by cases e; omega, Nat.le_succ_of_le n, x⟩
    | some q =>
      refine ⟨?_, ?_, ?_, ?_⟩
      · show it.1 + 1 ≤ l.length; omega
      · intro o' e; cases e
      · dsimp only at n ⊢
        split
        · rw [List.length_append, List.length_singleton]; omega
        · omega
      · dsimp only at x ⊢
        split
        · intro y hy
          rcases List.mem_append.mp hy with hy | hy
          · exact x y hy
          · rw [List.mem_singleton.mp hy, List.length_take, List.length_drop]; omega
        · exact x
  · exact ⟨a, o, Nat.le_succ_of_le n, x⟩
theorem fold_take {l : List Nat} {its : List (Nat × List Nat)} {i : Nat} {it : Nat × List Nat} {s : St} (h : its[i]? = some it) : (its.take (i + 1)).foldl (stStep l) s = stStep l ((its.take i).foldl (stStep l) s) it := by
  rw [List.take_add_one, h, Option.toList_some, List.foldl_append]
  rfl
theorem sum_len : ∀ (ys : List (List Nat)) (b : Nat), (∀ y ∈ ys, y.length ≤ b) → (ys.map List.length).sum ≤ ys.length * b
  | [], _, _ => by simp
  | y :: ys, b, h => by
    have h1 := h y (.head _)
    have h2 := sum_len ys b fun z hz => h z (.tail _ hz)
    rw [List.map_cons, List.sum_cons, List.length_cons, Nat.succ_mul]; omega
end

-- part MGen
section
/-- the heap's addresses below C -/
def below (h : Heap) (C : Addr) : Heap := ⟨h.objs.extract 0 C, h.life⟩
theorem below_get {h : Heap} {C b : Nat} (hb : b < C) : (below h C).get? b = h.get? b := by
  unfold below Heap.get?
  have e : (h.objs.extract 0 C)[b]? = h.objs[b]? := by
    rw [Array.getElem?_extract]
    split
    · congr 1; omega
    · rename_i hn
      rw [Array.getElem?_eq_none (by omega)]
  simp only [e]
theorem below_none {h : Heap} {C b : Nat} (hb : C ≤ b) : (below h C).get? b = none := by
  unfold below Heap.get?
  have e : (h.objs.extract 0 C)[b]? = none := by
    rw [Array.getElem?_eq_none]
    simp only [Array.size_extract]; omega
  simp only [e]
theorem below_size (h : Heap) (C : Nat) : (below h C).objs.size ≤ C := by
  unfold below
  simp only [Array.size_extract]; omega
theorem below_in {h : Heap} {C b : Nat} {o : Obj} (e : (below h C).get? b = some o) : h.get? b = some o ∧ b < C := by
  by_cases hb : b < C
  · rw [below_get hb] at e; exact ⟨e, hb⟩
  · rw [below_none (by omega)] at e; cases e
/-- what a turn of the iterator keeps: all below its frame, and the iterator's own object -/
def Kept (C : Nat) (h h' : Heap) : Prop := (∀ b o, @LT.lt Nat _ b C → h.get? b = some o → h'.get? b = some o) ∧ ∀ o, h.get? (C + 1) = some o → h'.get? (C + 1) = some o
theorem Kept.refl (C : Nat) (h : Heap) : Kept C h h := ⟨fun _ _ _ e => e, fun _ e => e⟩
def Since (C : Nat) (s₀ s : Shared) : Prop := ∃ h' tk, s = { s₀ with heap := h', toks := tk } ∧ Kept C s₀.heap h'
def gEnd (C : Nat) : GenEnd := fun n s₀ r s₁ => r = .ok (.ret .none) ∧ (n = 0 ∧ Since C s₀ s₁)
def gProto (h₀ : Heap) (C : Nat) (items : List (Nat × List Nat)) : Protocol := fun m s₀ v s kap =>
  ∃ (T : Addr) (t₁ t₂ : Tok) (p : Nat) (sg : List Nat) (own : List (Addr × Obj)), v = .ref T ∧ items[items.length - 1 - m]? = some (p, sg) ∧ s.heap.get? T = some (tupO [.int (p : Int) t₁, .str (S sg) t₂] 0) ∧
    (∀ b o, @LT.lt Nat _ b C → s₀.heap.get? b = some o → T ≠ b) ∧ (∀ q ∈ own, s.heap.get? q.1 = some q.2 ∧ (@LE.le Nat _ C q.1)) ∧ Since C s₀ s ∧
    ∀ s'' : Shared, (∀ q ∈ own, s''.heap.get? q.1 = some q.2) → h₀.StaysIn s''.heap → kap (.send .none) s''
/-- the iterator's state after j signs -/
structure GSt (w : World) (A : Around) (h₀ : Heap) (C : Nat) (items : List (Nat × List Nat)) (j : Nat) (gs : GenState) (own : List (Addr × Obj)) : Prop where
  off : ∀ q ∈ own, @LE.le Nat _ C q.1
  go : ∀ s'' : Shared, (∀ q ∈ own, s''.heap.get? q.1 = some q.2) → h₀.StaysIn s''.heap →
    gs.Goes (model PySem.Challenge.rw_tr0040_01.row.prog w) A.in1 (gEnd C) (gProto h₀ C items) (items.length - j) (.send .none) s''
section
variable {w : World} {A : Around} {s : Shared} {h₀ : Heap} {C a : Nat} {g j : Nat} {gs : GenState} {items : List (Nat × List Nat)} {own : List (Addr × Obj)} {Q : Option Value → Shared → Prop} {E : Value → Shared → Prop}
theorem gen_item (hh : A.handled = none) (hl : s.heap.NoLimit) (hroom : A.depth < recursionLimit) (hg : s.heap.IsGen a g) (hgs : s.gens[g]? = some gs) (G : GSt w A h₀ C items j gs own)
    (ho : ∀ q ∈ own, s.heap.get? q.1 = some q.2) (hk : h₀.StaysIn s.heap) (hj : j < items.length)
    (h : ∀ T t₁ t₂ p sg gs' own' h' gens' tk, items[j]? = some (p, sg) → h'.get? T = some (tupO [.int (p : Int) t₁, .str (S sg) t₂] 0) → (∀ b o, @LT.lt Nat _ b C → s.heap.get? b = some o → T ≠ b) →
      (∀ q ∈ own', h'.get? q.1 = some q.2) → GSt w A h₀ C items (j + 1) gs' own' → Kept C s.heap h' → gens'[g]? = some gs' → GenOnly g s.gens gens' → Q (some (.ref T)) { s with heap := h', gens := gens', toks := tk }) :
    wpAny (model PySem.Challenge.rw_tr0040_01.row.prog w) A (pyNext (.ref a)) Q E s := by
  obtain ⟨m, hlen⟩ : ∃ m, items.length = j + (m + 1) := ⟨items.length - (j + 1), by omega⟩
  have hm : items.length - j = m + 1 := by rw [hlen]; exact Nat.add_sub_cancel_left _ _
  have hgo := G.go (s.setGen g .running) ho hk
  rw [hm] at hgo
  refine wpAny_pyNext_gen (P := fun n s₀ s₁ => n = 0 ∧ Since C s₀ s₁) hh hl hroom hg hgs hgo (fun v s₁ gs' hv => ?_) (fun s₁ hp h' hk => ?_)
  · obtain ⟨T, t₁, t₂, p, sg, own', rfl, hi, hT, hTn, ho', ⟨h₁, tk₁, rfl, hk₁⟩, hkap⟩ := hv
    have hidx : items.length - 1 - (m + 1 - 1) = j := by rw [hlen]; exact Nat.add_sub_cancel _ _
    rw [hidx] at hi
    refine h T t₁ t₂ p sg gs' own' h₁ _ tk₁ hi hT hTn (fun q hq => (ho' q hq).1) ⟨fun q hq => (ho' q hq).2, fun s'' hs hk'' => ?_⟩ hk₁ (setGen_self (gs := .running) (setGen_self hgs)) ((GenOnly.setGen s g .running).trans (GenOnly.setGen _ g gs'))
    have e : items.length - (j + 1) = m := by rw [hlen, Nat.add_comm m 1, ← Nat.add_assoc]; exact Nat.add_sub_cancel_left _ _
    rw [e]
    exact hkap s'' hs hk''
  · exact absurd hp.1 (Nat.succ_ne_zero m)
theorem gen_done (hh : A.handled = none) (hl : s.heap.NoLimit) (hroom : A.depth < recursionLimit) (hg : s.heap.IsGen a g) (hgs : s.gens[g]? = some gs) (G : GSt w A h₀ C items items.length gs own)
    (ho : ∀ q ∈ own, s.heap.get? q.1 = some q.2) (hk : h₀.StaysIn s.heap) (hC : @LE.le Nat _ h₀.objs.size C)
    (h : ∀ h' gens' tk, Kept C s.heap h' → gens'[g]? = some .finished → GenOnly g s.gens gens' → Q none { s with heap := h', gens := gens', toks := tk }) :
    wpAny (model PySem.Challenge.rw_tr0040_01.row.prog w) A (pyNext (.ref a)) Q E s := by
  have hgo := G.go (s.setGen g .running) ho hk
  rw [Nat.sub_self] at hgo
  refine wpAny_pyNext_gen (P := fun n s₀ s₁ => n = 0 ∧ Since C s₀ s₁) hh hl hroom hg hgs hgo (fun v s₁ gs' hv => ?_) (fun s₁ hp h' hk => ?_)
  · obtain ⟨T, t₁, t₂, p, sg, own', rfl, hi, hT, hTn, ho', hs, hkap⟩ := hv
    obtain ⟨h₁, tk₁, e₁, hk₁⟩ := hs
    refine False.elim (hkap s₁ (fun q hq => (ho' q hq).1) (fun b o e => ?_))
    subst e₁
    exact hk₁.1 b o (Nat.lt_of_lt_of_le (Heap.lt_size e) hC) (hk b o e)
  · obtain ⟨_, h₁, tk₁, rfl, hk₁⟩ := hp
    exact h h' _ tk₁ ⟨fun b o hb e => hk _ _ (hk₁.1 b o hb e), fun o e => hk _ _ (hk₁.2 o e)⟩ (setGen_self (gs := .running) (setGen_self hgs)) ((GenOnly.setGen s g .running).trans (GenOnly.setGen _ g .finished))
end
inductive TEndP (h₀ : Heap) (L : Addr) (ow : List (Addr × Obj)) (gs : Array GenState) (dr : Drawn) (os : OsState) (J : (Str → Option Value) → List (Addr × Obj) → Prop) (s : Shared) : Prop
  | mk (h' : Heap) (tk' : Nat) (m' : Str → Option Value) (nx : List (Addr × Obj)) (e : s = ⟨h', gs, dr, tk', os⟩) (F : Fr h₀ L h' m') (N : News h₀ L h' (ow ++ nx)) (j : J m' nx) : TEndP h₀ L ow gs dr os J s
/-- a turn's end over the iterator -/
def TurnEndP (h₀ : Heap) (L : Addr) (ow : List (Addr × Obj)) (gs : Array GenState) (dr : Drawn) (os : OsState) (J : (Str → Option Value) → List (Addr × Obj) → Prop) (f : Flow) (s : Shared) : Prop :=
  match f with
  | .next | .cont => TEndP h₀ L ow gs dr os J s
  | _ => False
def GenObjOf (oa : Obj) (g : Nat) : Prop := oa.cls = .type "generator" ∧ (∃ nm qn, oa.data = .fields #[.int g 0, nm, qn]) ∧ oa.slots = #[]
inductive ForIP (w : World) (A : Around) (h₀ : Heap) (L : Addr) (C g : Nat) (oa : Obj) (items : List (Nat × List Nat)) (gs : Array GenState) (dr : Drawn) (os : OsState) (J : Nat → (Str → Option Value) → List (Addr × Obj) → Prop) (k : Nat) (s : Shared) : Prop
  | mk (i : Nat) (h : Heap) (gs' : Array GenState) (t : Nat) (m₁ : Str → Option Value) (nx₁ own₁ : List (Addr × Obj)) (gst₁ : GenState) (ek : k = items.length - i) (hi : i ≤ items.length) (es : s = ⟨h, gs', dr, t, os⟩) (hg : gs'[g]? = some gst₁) (go : GenOnly g gs gs') (G : GSt w A h₀ C items i gst₁ own₁) (F : Fr h₀ L h m₁) (N : News h₀ L h (((C + 1, oa) :: own₁) ++ nx₁)) (j : J i m₁ nx₁) : ForIP w A h₀ L C g oa items gs dr os J k s
theorem for_gen {w : World} {A : Around} {env : Env} {target : Expr} {body : List Stmt} {h₀ hp : Heap} {gs : Array GenState} {dr : Drawn} {os : OsState} {tk : Nat} {m : Str → Option Value} {nx own : List (Addr × Obj)} {C g : Nat} {oa : Obj} {items : List (Nat × List Nat)} {gst : GenState}
    (hh : A.handled = none) (hroom : A.depth < recursionLimit) (hlim : h₀.NoLimit) (J : Nat → (Str → Option Value) → List (Addr × Obj) → Prop) (Q : Flow → Shared → Prop)
    (F : Fr h₀ env.locals hp m) (N : News h₀ env.locals hp (((C + 1, oa) :: own) ++ nx)) (hLC : @LT.lt Nat _ env.locals C) (hoa : GenObjOf oa g) (hgs : gs[g]? = some gst) (G : GSt w A h₀ C items 0 gst own)
    (hnx : ∀ i m nx, J i m nx → ∀ p ∈ nx, @LT.lt Nat _ p.1 C) (hj : J 0 m nx)
    (turn : ∀ i T t₁ t₂ (p : Nat) sg m₁ nx₁ ow h gs' t, items[i]? = some (p, sg) → J i m₁ nx₁ → (∀ q ∈ nx₁, q.1 ≠ T) → (∀ q ∈ ow, @LE.le Nat _ C q.1) → Fr h₀ env.locals h m₁ → News h₀ env.locals h ((T, tupO [.int (p : Int) t₁, .str (S sg) t₂] 0) :: (ow ++ nx₁)) →
      wpAny (model PySem.Challenge.rw_tr0040_01.row.prog w) A (assign target env (.ref T)) (fun _ s₂ => wpAny (model PySem.Challenge.rw_tr0040_01.row.prog w) A (execs body env) (TurnEndP h₀ env.locals ow gs' dr os (J (i + 1))) (fun _ _ => False) s₂) (fun _ _ => False) ⟨h, gs', dr, t, os⟩)
    (done : ∀ m₁ nx₁ h gs' t, J items.length m₁ nx₁ → gs'[g]? = some .finished → GenOnly g gs gs' → Fr h₀ env.locals h m₁ → News h₀ env.locals h nx₁ → Q .next ⟨h, gs', dr, t, os⟩) :
    codeAny (model PySem.Challenge.rw_tr0040_01.row.prog w) A (.forLoop target (.ref (C + 1)) body [] env) (ForR Q) ⟨hp, gs, dr, tk, os⟩ := by
  have hC : @LE.le Nat _ h₀.objs.size C := Nat.le_of_lt (Nat.lt_of_le_of_lt F.above hLC)
  refine codeAny_forLoop_any (ForIP w A h₀ env.locals C g oa items gs dr os J) ?_ items.length
    ⟨0, hp, gs, tk, m, nx, own, gst, by omega, by omega, rfl, hgs, ⟨rfl, fun _ _ => rfl⟩, G, F, N, hj⟩
  rintro k s ⟨i, h, gs', t, m₁, nx₁, own₁, gst₁, rfl, hi, rfl, hgs₁, hgo₁, G₁, F₁, N₁, hj₁⟩
  have hao : h.get? (C + 1) = some oa := (N₁ _ (.head _)).1
  have ha0 : h₀.get? (C + 1) = none := (N₁ _ (.head _)).2.2
  have hIs : Heap.IsGen h (C + 1) g := by
    obtain ⟨nm, qn, hd⟩ := hoa.2.1
    exact ⟨oa, nm, qn, hao, hoa.1, hd, hoa.2.2⟩
  have hown : ∀ q ∈ own₁, h.get? q.1 = some q.2 := fun q hq => (N₁ q (List.mem_append_left _ (.tail _ hq))).1
  have keepF : ∀ h', Kept C h h' → Fr h₀ env.locals h' m₁ := fun h' hk => by
    obtain ⟨oL, es, ep, hL, r⟩ := F₁.ns
    exact ⟨⟨oL, es, ep, hk.1 _ _ hLC hL, r⟩, fun b o e => hk.1 b o (Nat.lt_of_lt_of_le (Heap.lt_size e) hC) (F₁.keep b o e), F₁.above⟩
  have keepN : ∀ h', Kept C h h' → News h₀ env.locals h' nx₁ := fun h' hk p hp => ⟨hk.1 _ _ (hnx _ _ _ hj₁ p hp) (N₁ p (List.mem_append_right _ hp)).1, (N₁ p (List.mem_append_right _ hp)).2⟩
  have lim : Heap.NoLimit h := hlim.keeps F₁.keep
  by_cases hlt : i < items.length
  · refine gen_item (s := ⟨h, gs', dr, t, os⟩) hh lim hroom hIs hgs₁ G₁ hown F₁.keep hlt fun T t₁ t₂ p sg gs2 own2 h' gens' tk' hp' hT hTn hown2 G2 hk hg2 hgo2 => ?_
    dsimp only
    have hao' : h'.get? (C + 1) = some oa := hk.2 _ hao
    refine lets_plain (s := ⟨h', gens', dr, tk', os⟩) hao' hoa.1 (by decide) ?_
    have hT0 : h₀.get? T = none := by
      cases q : h₀.get? T with
      | none => rfl
      | some o => exact absurd rfl (hTn T o (Nat.lt_of_lt_of_le (Heap.lt_size q) hC) (F₁.keep _ _ q))
    have hLh : ∃ oL, h.get? env.locals = some oL := let ⟨oL, _, _, hL, _⟩ := F₁.ns; ⟨oL, hL⟩
    obtain ⟨oL, hLh⟩ := hLh
    have N' : News h₀ env.locals h' ((T, tupO [.int (p : Int) t₁, .str (S sg) t₂] 0) :: (((C + 1, oa) :: own2) ++ nx₁)) := fun q hq => by
      rcases List.mem_cons.mp hq with rfl | hq
      · exact ⟨hT, hTn _ _ hLC hLh, hT0⟩
      · rcases List.mem_append.mp hq with hq | hq
        · rcases List.mem_cons.mp hq with rfl | hq
          · exact ⟨hao', (N₁ _ (.head _)).2⟩
          · refine ⟨hown2 q hq, fun e => ?_, ?_⟩
            · have := G2.off q hq
              rw [e] at this
              omega
            · cases e : h₀.get? q.1 with
              | none => rfl
              | some o => have h1 := Heap.lt_size e; have h2 := G2.off q hq; exact absurd h1 (Nat.not_lt.mpr (Nat.le_trans hC h2))
        · exact keepN h' hk q hq
    refine wpAny_mono (turn i T t₁ t₂ p sg m₁ nx₁ ((C + 1, oa) :: own2) h' gens' tk' hp' hj₁ (fun q hq e => hTn q.1 q.2 (hnx _ _ _ hj₁ q hq) (N₁ q (List.mem_append_right _ hq)).1 e.symm) (fun q hq => by
      rcases List.mem_cons.mp hq with rfl | hq
      · exact Nat.le_succ C
      · exact G2.off q hq) (keepF h' hk) N') (fun _ s₂ h₂ => ?_) fun _ _ x => x.elim
    refine wpAny_mono h₂ (fun f s₃ h₃ => ?_) fun _ _ x => x.elim
    cases f with
    | ret v => exact h₃.elim
    | brk => exact h₃.elim
    | next =>
      obtain ⟨h'', tk'', m', nx', rfl, F'', N'', hj''⟩ := h₃
      exact ⟨items.length - (i + 1), by omega, i + 1, h'', gens', tk'', m', nx', own2, gs2, rfl, by omega, rfl, hg2, hgo₁.trans hgo2, G2, F'', N'', hj''⟩
    | cont =>
      obtain ⟨h'', tk'', m', nx', rfl, F'', N'', hj''⟩ := h₃
      exact ⟨items.length - (i + 1), by omega, i + 1, h'', gens', tk'', m', nx', own2, gs2, rfl, by omega, rfl, hg2, hgo₁.trans hgo2, G2, F'', N'', hj''⟩
  · have hin : i = items.length := by omega
    subst hin
    refine gen_done (s := ⟨h, gs', dr, t, os⟩) hh lim hroom hIs hgs₁ G₁ hown F₁.keep hC fun h' gens' tk' hk hg2 hgo2 => ?_
    exact wpAny_execs_nil (done m₁ nx₁ h' gens' tk' hj₁ hg2 (hgo₁.trans hgo2) (keepF h' hk) (keepN h' hk))
end

-- part MGen2
section
/-- the state at the iterator's waking: its own object, and the base below its frame -/
def GB (C : Nat) (oa : Obj) (h₀ : Heap) (s₀ : Shared) : Prop := s₀.heap.get? (C + 1) = some oa ∧ h₀.StaysIn (below s₀.heap C)
theorem strDraws {w : World} {h : Heap} {it : Addr} {x : Str} {t : Tok} (hs : h.IsStrIter it (strIterType x) x t 0) :
    ∃ St : Nat → Heap → Prop, (∀ A' : Around, A'.handled = none → Draws PySem.Challenge.rw_tr0040_01.row.prog w A' it [it] x.cps.size (fun i v => ∃ c u, x.cps[i]? = some c ∧ v = .str ⟨#[c]⟩ u) St) ∧ St 0 h := by
  cases ha : x.cps.all (· < 128)
  · exact ⟨_, fun A' hA => Draws.strWide hA it x t, by simpa [strIterType, ha] using hs⟩
  · exact ⟨_, fun A' hA => Draws.strAscii hA it x t, by simpa [strIterType, ha] using hs⟩
theorem kept_of {C : Nat} {s₀ : Shared} {h' : Heap} {m : Str → Option Value} {oa : Obj} (ha : s₀.heap.get? (C + 1) = some oa) (F : Fr (below s₀.heap C) C h' m) (h1 : h'.get? (C + 1) = some oa) : Kept C s₀.heap h' :=
  ⟨fun b o hb e => F.keep b o (by rw [below_get hb]; exact e), fun o e => by rw [ha] at e; cases e; exact h1⟩
theorem enum_S {prog : Program} {w : World} {A : Around} {s : Shared} {h₀ : Heap} {L : Addr} {m : Str → Option Value} {led : List (Addr × Obj)} {Q E : Value → Shared → Prop} {l : List Nat} {t : Tok} (F : Fr h₀ L s.heap m) (N : News h₀ L s.heap led)
    (h : ∀ I h' oi, Fr h₀ L h' m → News h₀ L h' ((I, oi) :: led) → h'.IsStrIter I (strIterType (S l)) (S l) t 0 → IsEnum h' (I + 1) I 0 .none → (∀ p ∈ led, @LT.lt Nat _ p.1 I) → @LT.lt Nat _ L I → Q (.ref (I + 1)) { s with heap := h' }) :
    wpAny (model prog w) A (call (.type "enumerate") [.str (S l) t]) Q E s := by
  refine call_enumerate_str fun h' he hs hz hk => ?_
  have hL : L < s.heap.objs.size := let ⟨_, _, _, hL, _⟩ := F.ns; Heap.lt_size hL
  have hs2 := hs
  obtain ⟨oi, hoi, _⟩ := hs2
  refine h s.heap.objs.size h' oi ?_ ?_ hs he (fun p hp => Heap.lt_size (N p hp).1) hL
  · obtain ⟨oL, es, ep, hL, r⟩ := F.ns
    exact ⟨⟨oL, es, ep, hk _ _ hL, r⟩, fun b o e => hk _ _ (F.keep b o e), F.above⟩
  · intro p hp
    rcases List.mem_cons.mp hp with rfl | hp
    · refine ⟨hoi, Nat.ne_of_gt hL, ?_⟩
      cases q : h₀.get? s.heap.objs.size with
      | none => rfl
      | some o => exact absurd (Heap.lt_size (F.keep _ _ q)) (Nat.lt_irrefl _)
    · exact ⟨hk _ _ (N p hp).1, (N p hp).2⟩
section
variable {w : World} {A : Around} {R : GenEnd} {Y : Protocol} {h₀ : Heap} {C : Nat} {oa : Obj} {l : List Nat} {t : Tok} {env : Env} {es : List Expr} {ek : Nat} {ep : Pos} {body : List Stmt} {fs : List Frame} {St : Nat → Heap → Prop} {I : Nat}
theorem seg_enum (hI : C + 1 < I) (hh : (A.over (.forLoop (.Tuple es ek ep) (.ref (I + 1)) body [] env) fs).handled = none)
    (D : ∀ A' : Around, A'.handled = none → Draws PySem.Challenge.rw_tr0040_01.row.prog w A' (I) [I] (S l).cps.size (fun i v => ∃ c u, (S l).cps[i]? = some c ∧ v = .str ⟨#[c]⟩ u) St)
    (J : Nat → Nat → (Str → Option Value) → Prop)
    (turn : ∀ i c n s₀ m oe oi T t₁ t₂ h tk, l[i]? = some c → J i n m → GB C oa h₀ s₀ → Fr (below s₀.heap C) C h m → News (below s₀.heap C) C h [(T, tupO [.int (i : Int) t₁, .str (S [c]) t₂] 0), (I + 1, oe), (I, oi), (C + 1, oa)] →
      (∀ n' s₀' h' tk' m', J (i + 1) n' m' → GB C oa h₀ s₀' → Fr (below s₀'.heap C) C h' m' → News (below s₀'.heap C) C h' [(I + 1, oe), (I, oi), (C + 1, oa)] →
        Seg (model PySem.Challenge.rw_tr0040_01.row.prog w) A R Y n' s₀' (.forLoop (.Tuple es ek ep) (.ref (I + 1)) body [] env) ((model PySem.Challenge.rw_tr0040_01.row.prog w).den (.forLoop (.Tuple es ek ep) (.ref (I + 1)) body [] env)) fs { s₀' with heap := h', toks := tk' }) →
      wpAny (model PySem.Challenge.rw_tr0040_01.row.prog w) (A.over (.forLoop (.Tuple es ek ep) (.ref (I + 1)) body [] env) fs) (assign (.Tuple es ek ep) env (.ref T)) (fun _ s₂ =>
          Seg (model PySem.Challenge.rw_tr0040_01.row.prog w) A R Y n s₀ (.forLoop (.Tuple es ek ep) (.ref (I + 1)) body [] env) ((execs body env).wrap (fun f => match f with
            | .next | .cont => .pure (.again (.forLoop (.Tuple es ek ep) (.ref (I + 1)) body [] env))
            | .brk => .pure (.done .next)
            | .ret v => .pure (.done (.ret v))) (fun e => (do noteFrame e env; theTreesLotGoes e : Sem Unit).wrap (fun _ => .raise e) .raise id id) id id) fs s₂) (fun _ _ => False) { s₀ with heap := h, toks := tk })
    (done : ∀ n s₀ h m tk, J l.length n m → GB C oa h₀ s₀ → Fr (below s₀.heap C) C h m → News (below s₀.heap C) C h [(C + 1, oa)] →
        Seg (model PySem.Challenge.rw_tr0040_01.row.prog w) A R Y n s₀ (.block [] env) ((model PySem.Challenge.rw_tr0040_01.row.prog w).den (.block [] env)) fs { s₀ with heap := h, toks := tk }) :
    ∀ k i, l.length - i = k → i ≤ l.length → ∀ n s₀ h m old oi tk, J i n m → GB C oa h₀ s₀ → Fr (below s₀.heap C) C h m → IsEnum h (I + 1) (I) (i : Int) old → News (below s₀.heap C) C h [(I, oi), (C + 1, oa)] → St i h →
      Seg (model PySem.Challenge.rw_tr0040_01.row.prog w) A R Y n s₀ (.forLoop (.Tuple es ek ep) (.ref (I + 1)) body [] env) ((model PySem.Challenge.rw_tr0040_01.row.prog w).den (.forLoop (.Tuple es ek ep) (.ref (I + 1)) body [] env)) fs { s₀ with heap := h, toks := tk } := by
  have hsz : (S l).cps.size = l.length := by simp [S]
  have D1 := D (A.over (.forLoop (.Tuple es ek ep) (.ref (I + 1)) body [] env) fs).in1 hh
  have hne : (I + 1 : Nat) ≠ I := by omega
  have hef : (I + 1 : Nat) ∉ [I] := by simp
  have n2 : ∀ b : Nat, b < C → b ≠ I := fun b hb => by omega
  have n3 : ∀ b : Nat, b < C → b ≠ I + 1 := fun b hb => by omega
  have c1 : C ≠ I := by omega
  have c3 : C + 1 ≠ I := by omega
  have c4 : C + 1 ≠ I + 1 := by omega
  have c2 : C ≠ I + 1 := by omega
  intro k
  induction k with
  | zero =>
    intro i hk hi n s₀ h m old oi tk hj gb F he N hst
    have hin : i = l.length := by omega
    subst hin
    refine seg_forLoop (wpAny_pyNext_enum_endD (s := { s₀ with heap := h, toks := tk }) D1 he (by rw [hsz]; exact hst) fun h' hx => ?_)
    refine done n s₀ h' m tk hj gb ⟨?_, fun b o e => hx b o ?_ (F.keep b o e), F.above⟩ fun p hp => ?_
    · obtain ⟨oL, es, ep, hL, r⟩ := F.ns
      exact ⟨oL, es, ep, hx _ _ c1 hL, r⟩
    · exact n2 b (below_in e).2
    · rw [List.mem_singleton.mp hp]
      exact ⟨hx _ _ c3 (N _ (.tail _ (.head _))).1, (N _ (.tail _ (.head _))).2⟩
  | succ k ih =>
    intro i hk hi n s₀ h m old oi tk hj gb F he N hst
    have hlt : i < l.length := by omega
    refine seg_forLoop (wpAny_pyNext_enum_itemD (s := { s₀ with heap := h, toks := tk }) D1 he hst (by rw [hsz]; exact hlt) hne hef fun x h' tk' hP ho hst' hT hz hk' => ?_)
    obtain ⟨c, u, hc, rfl⟩ := hP
    have hc' : l[i]? = some c := by simpa [S] using hc
    dsimp only at hT hz hk' ⊢
    refine wpAny_letOwnedTupleGo_enum (s := { s₀ with heap := h', toks := tk' + 1 }) ho fun h2 he2 hs2 => ?_
    have hsE : I + 1 < h.objs.size := Heap.lt_size he
    have hk2 : ∀ b o, b ≠ I + 1 → b ≠ I → h.get? b = some o → h2.get? b = some o := fun b o h1 h3 e => (hs2.2 b h1).trans (hk' b o h1 h3 e)
    have hst2 : St (i + 1) h2 := (D1.frame _ _ _ hst' fun b hb o e => by
      have : (I : Nat) ≠ I + 1 := by omega
      rw [List.mem_singleton.mp hb] at e ⊢
      exact (hs2.2 _ this).trans e)
    obtain ⟨oi2, hoi2⟩ := D1.live _ _ hst2
    have hT2 : h2.get? h.objs.size = some (tupO [.int (i : Int) tk', .str (S [c]) u] 0) := (hs2.2 _ (by show h.objs.size ≠ I + 1; omega)).trans hT
    have F2 : Fr (below s₀.heap C) C h2 m := by
      refine ⟨?_, fun b o e => hk2 b o ?_ ?_ (F.keep b o e), F.above⟩
      · obtain ⟨oL, es, ep, hL, r⟩ := F.ns
        exact ⟨oL, es, ep, hk2 _ _ c2 c1 hL, r⟩
      · exact n3 b (below_in e).2
      · exact n2 b (below_in e).2
    have hEn : ∀ b, C ≤ b → (below s₀.heap C).get? b = none := fun b hb => below_none hb
    have N2 : News (below s₀.heap C) C h2 [(h.objs.size, tupO [.int (i : Int) tk', .str (S [c]) u] 0), (I + 1, _), (I, oi2), (C + 1, oa)] := fun p hp => by
      rcases List.mem_cons.mp hp with rfl | hp
      · exact ⟨hT2, by show h.objs.size ≠ C; omega, hEn _ (by show C ≤ h.objs.size; omega)⟩
      · rcases List.mem_cons.mp hp with rfl | hp
        · exact ⟨he2, Ne.symm c2, hEn _ (by show C ≤ I + 1; omega)⟩
        · rcases List.mem_cons.mp hp with rfl | hp
          · exact ⟨hoi2, Ne.symm c1, hEn _ (by show C ≤ I; omega)⟩
          · rw [List.mem_singleton.mp hp]
            exact ⟨hk2 _ _ c4 c3 (N _ (.tail _ (.head _))).1, (N _ (.tail _ (.head _))).2⟩
    refine turn i c n s₀ m _ oi2 h.objs.size tk' u h2 (tk' + 1) hc' hj gb F2 N2 fun n' s₀' h3 tk3 m3 hj3 gb3 F3 N3 => ?_
    refine ih (i + 1) (by omega) (by omega) n' s₀' h3 m3 _ oi2 tk3 hj3 gb3 F3 (N3 _ (.head _)).1 (fun p hp => N3 p (.tail _ hp)) (D1.frame _ _ _ hst2 fun b hb o e => ?_)
    rw [List.mem_singleton.mp hb] at e ⊢
    rw [hoi2] at e
    cases e
    exact (N3 _ (.tail _ (.head _))).1
end
end

-- part MGen3
section
/-- an object is a frame of names -/
def FrO (o : Obj) (m : Str → Option Value) : Prop := ∃ es ep, o.data = .dict es ep ∧ StrKeys es ∧ ∀ name, nsFind es name = m name
theorem genF {prog : Program} {w : World} {A : Around} {s : Shared} {h₀ : Heap} {L : Addr} {m : Str → Option Value} {news : List (Addr × Obj)}
  {R : Result → Shared → Prop} {name qual : Str} {params : Arguments} {body : List Stmt} {scope : Scope} {cl : List (Str × Addr)} {dV kV doc pm cdv ct : Value} {an od : Option Addr} {oc : Value} {osl : Array (Option Value)} {K : Frag} {f : Addr} {args : Args} {binds : List (Str × Value)}
    (F : Fr h₀ L s.heap m) (N : News h₀ L s.heap news) (X : K.In h₀) (hlim : h₀.NoLimit)
    (ho : K.lookup f = some ⟨oc, od, .func (fnX name qual params body scope cl dV kV doc pm an cdv ct), osl⟩) (hcd : codeIn K cdv qual = true) (hroom : A.depth < recursionLimit)
    (hbind : bindArgs (fnX name qual params body scope cl dV kV doc pm an cdv ct) args = pure binds) (hloc : ∀ y ∈ binds, scope.names.lookup y.1 = some .local)
    (hgen : scope.isGenerator = true)
    (h : ∀ C h' tk oC oa, Fr h₀ L h' m → News h₀ L h' ((C + 1, oa) :: (C, oC) :: news) → FrO oC (fun y => binds.reverse.lookup y) → GenObjOf oa s.gens.size → (∀ p ∈ news, @LT.lt Nat _ p.1 C) → @LT.lt Nat _ L C →
      R (.ok (.ret (.ref (C + 1)))) { s with gens := s.gens.push (.fresh (.func body (envX qual scope C f cdv cl))), heap := h', toks := tk })
    (hcell : ∀ x ∈ scope.names, x.2 ≠ .cell) (hco : scope.isCoroutine = false := by rfl) (hk : scope.kind = .function := by rfl) : codeAny (model prog w) A (.call (.ref f) args) R s := by
  refine codeAny_call_generator (fd := fnX name qual params body scope cl dV kV doc pm an cdv ct) (body := body) hroom (F.keep _ _ (X _ _ ho)) rfl hco hgen rfl (codeRec_of (X.keeps F.keep) hcd) ?_
  rw [hbind]
  refine wpAny_pure (wpAny_newFunctionEnv hcell hloc (fun h1 hns hsb => ⟨(hlim.keeps F.keep).fresh _ hsb, ?_⟩) hk)
  have hs1 : h1.objs.size = s.heap.objs.size + 1 := by rw [hsb.1, Heap.size_push]
  have hk1 : ∀ b o, s.heap.get? b = some o → h1.get? b = some o := fun b o e => hsb.extBut b o (Nat.ne_of_lt (Heap.lt_size e)) (Heap.get?_push_of_some _ e)
  obtain ⟨oC, es, ep, hoC, hCr⟩ := hns
  have hcg : ∀ b, s.heap.objs.size ≤ b → h₀.get? b = none := fun b hb => by
    cases q : h₀.get? b with
    | none => rfl
    | some o => exact absurd (Heap.lt_size (F.keep _ _ q)) (Nat.not_lt.mpr hb)
  have hLlt : L < s.heap.objs.size := let ⟨_, _, _, hL, _⟩ := F.ns; Heap.lt_size hL
  dsimp only
  rw [hs1]
  generalize hoa : ({ cls := .type "generator", data := .fields #[.int s.gens.size 0, .str name _, .str qual _] } : Obj) = oa
  have hfr : oa.isFreed = false := by rw [← hoa]; rfl
  have hga : GenObjOf oa s.gens.size := by rw [← hoa]; exact ⟨rfl, ⟨_, _, rfl⟩, rfl⟩
  have hk2 : ∀ b o, s.heap.get? b = some o → (h1.push oa).get? b = some o := fun b o e => Heap.get?_push_of_some _ (hk1 b o e)
  refine h s.heap.objs.size (h1.push oa) _ oC oa ?_ ?_ ⟨es, ep, hCr⟩ hga (fun p hp => Heap.lt_size (N p hp).1) hLlt
  · obtain ⟨oL, es', ep', hL, r⟩ := F.ns
    exact ⟨⟨oL, es', ep', hk2 _ _ hL, r⟩, fun b o e => hk2 b o (F.keep b o e), F.above⟩
  · intro p hp
    rcases List.mem_cons.mp hp with rfl | hp
    · refine ⟨?_, Nat.ne_of_gt (Nat.lt_succ_of_lt hLlt), hcg _ (Nat.le_succ _)⟩
      have := Heap.get?_push_size h1 hfr
      rw [hs1] at this
      exact this
    · rcases List.mem_cons.mp hp with rfl | hp
      · exact ⟨Heap.get?_push_of_some _ hoC, Nat.ne_of_gt hLlt, hcg _ (Nat.le_refl _)⟩
      · exact ⟨hk2 _ _ (N p hp).1, (N p hp).2⟩
theorem idx_at {α : Type} {items pre rest : List α} {x : α} {k : Nat} (h : items = pre ++ x :: rest) (hk : k = rest.length) : items[items.length - 1 - k]? = some x := by
  subst h hk
  have : (pre ++ x :: rest).length - 1 - rest.length = pre.length := by simp only [List.length_append, List.length_cons]; omega
  rw [this, List.getElem?_append_right (Nat.le_refl _), Nat.sub_self]
  rfl
theorem wakes {h₀ h : Heap} {C : Nat} {oa oC : Obj} {m : Str → Option Value} (hoC : FrO oC m) (h1 : h.get? C = some oC) (hst : h₀.StaysIn h) (hC : @LE.le Nat _ h₀.objs.size C) : Fr (below h C) C h m ∧ h₀.StaysIn (below h C) := by
  obtain ⟨es, ep, hd, r⟩ := hoC
  exact ⟨⟨⟨oC, es, ep, h1, hd, r⟩, fun b o e => (below_in e).1, below_size h C⟩, fun b o e => by rw [below_get (Nat.lt_of_lt_of_le (Heap.lt_size e) hC)]; exact hst b o e⟩
theorem yield_ok {h₀ h : Heap} {C k p : Nat} {oa : Obj} {items : List (Nat × List Nat)} {s₀ : Shared} {tk : Nat} {m : Str → Option Value} {T : Addr} {t₁ t₂ : Tok} {sg : List Nat} {led ow : List (Addr × Obj)} {kap : Resume → Shared → Prop}
    (F : Fr (below s₀.heap C) C h m) (N : News (below s₀.heap C) C h led) (gb : GB C oa h₀ s₀) (hT : (T, tupO [.int (p : Int) t₁, .str (S sg) t₂] 0) ∈ led) (hsub : ∀ q ∈ ow, q ∈ led) (ha : (C + 1, oa) ∈ led) (hge : ∀ q ∈ ow, @LE.le Nat _ C q.1) (hC : @LE.le Nat _ h₀.objs.size C)
    (hidx : items[items.length - 1 - k]? = some (p, sg))
    (hkap : ∀ hp gs dr tk os, GB C oa h₀ ⟨hp, gs, dr, tk, os⟩ → Fr (below hp C) C hp m → News (below hp C) C hp (ow ++ [(C + 1, oa)]) → kap (.send .none) ⟨hp, gs, dr, tk, os⟩) :
    gProto h₀ C items k s₀ (.ref T) { s₀ with heap := h, toks := tk } kap := by
  obtain ⟨oC, es, ep, hoC, hd, r⟩ := F.ns
  refine ⟨T, t₁, t₂, p, sg, (C, oC) :: (C + 1, oa) :: ow, rfl, hidx, (N _ hT).1, fun b o hb e => ?_, fun q hq => ?_, ⟨h, tk, rfl, kept_of gb.1 F (N _ ha).1⟩, ?_⟩
  · intro q
    have h1 := (N _ hT).2.2
    dsimp only at h1
    rw [q, below_get hb, e] at h1
    cases h1
  · rcases List.mem_cons.mp hq with rfl | hq
    · exact ⟨hoC, Nat.le_refl C⟩
    · rcases List.mem_cons.mp hq with rfl | hq
      · exact ⟨(N _ ha).1, Nat.le_succ C⟩
      · exact ⟨(N _ (hsub q hq)).1, hge q hq⟩
  · rintro ⟨hp, gs, dr, tk, os⟩ hs hst
    obtain ⟨F2, st2⟩ := wakes (oa := oa) ⟨es, ep, hd, r⟩ (hs _ (.head _)) hst hC
    refine hkap hp gs dr tk os ⟨hs _ (.tail _ (.head _)), st2⟩ F2 fun q hq => ?_
    rcases List.mem_append.mp hq with hq | hq
    · exact ⟨hs q (.tail _ (.tail _ hq)), (N q (hsub q hq)).2.1, below_none (hge q hq)⟩
    · rw [List.mem_singleton.mp hq]
      exact ⟨hs _ (.tail _ (.head _)), Nat.succ_ne_self C, below_none (Nat.le_succ C)⟩
end

-- part MGen4
section
theorem around_w {M : Model} {B : Around} {α : Type} {x : Sem α} {Q : α → Shared → Prop} {E : Value → Shared → Prop} {s : Shared} (h : B.handled = none) (k : ∀ dp fr gd un, wpAny M { handled := none, depth := dp, frames := fr, guards := gd, units := un } x Q E s) : wpAny M B x Q E s := by
  obtain ⟨ah, dp, fr, gd, un⟩ := B
  cases h
  exact k dp fr gd un
/-- the iterator's frame after i signs, n items to come -/
inductive IterJ (l : List Nat) (i n : Nat) (m : Str → Option Value) : Prop
  | mk (e : Bool) (q1 q2 : Tok) (pre : List (Nat × List Nat)) (hn : n = (itemsG e i (l.drop i)).length) (hit : itemsG false 0 l = pre ++ itemsG e i (l.drop i)) (hm : Has m [(Str.ofString "addr", .str (S l) q1), (Str.ofString "pos", .int ((i - 1 : Nat) : Int) q2), (Str.ofString "escape", .bool e)]) : IterJ l i n m
local macro_rules | `(tactic| walk_at "call type:enumerate") => `(tactic| (refine enum_S (by k_asm) (by k_asm) ?_; intro I hI oi FI NI hsi hei hlI hLI))
local macro_rules | `(tactic| walk_at "mine around") => `(tactic| (refine around_w (by assumption) ?_; intro dp fr gd un))
theorem esciter_call {w : World} {A : Around} {s : Shared} {h₀ : Heap} {L : Addr} {m : Str → Option Value} {news : List (Addr × Obj)} {mean : ExcName → Option Value} {mg mb : Str → Option Value} {Q E : Value → Shared → Prop}
   {l : List Nat} {t : Tok}
   (F : Fr h₀ L s.heap m) (N : News h₀ L s.heap news) (G : GD w mean mg mb h₀) (hroom : A.depth < recursionLimit) (hl : l.length ≤ 1000)
   (ret : ∀ C h' tk oC oa gst, Fr h₀ L h' m → News h₀ L h' ((C + 1, oa) :: (C, oC) :: news) → GenObjOf oa s.gens.size → (∀ p ∈ news, @LT.lt Nat _ p.1 C) → @LT.lt Nat _ L C →
     (∀ A' : Around, A'.handled = none → GSt w A' h₀ C (itemsG false 0 l) 0 gst [(C + 1, oa), (C, oC)]) → Q (.ref (C + 1)) { s with gens := s.gens.push gst, heap := h', toks := tk })
   : wpAny (model PySem.Challenge.rw_tr0040_01.row.prog w) A (call (.ref 28) [.str (S l) t]) Q E s := by
  obtain ⟨X, T⟩ := G
  refine wpAny_call ?_
  refine' genF (cl := []) (binds := [(Str.ofString "addr", .str (S l) t)]) F N X T.nolimit ?k1 ?k3 hroom ?k5 ?k6 ?kg ?_ ?k7 ?k8 ?k9
  case k1 => k_is
  case k3 => k_is
  case k5 => rfl
  case k6 => exact locs rfl
  case kg => rfl
  case k7 => decide
  case k8 => rfl
  case k9 => rfl
  intro C h' tk oC oa F' N' hoC hoa hnews hLC
  refine ret C h' tk oC oa _ F' N' hoa hnews hLC (fun A' hA' => ⟨?_, ?_⟩)
  · intro q hq
    rcases List.mem_cons.mp hq with rfl | hq
    · exact Nat.le_succ C
    · rw [List.mem_singleton.mp hq]; exact Nat.le_refl C
  · rintro ⟨hp, gs, dr, tk2, os⟩ hown hstay
    dsimp only at hown hstay
    have hC : @LE.le Nat _ h₀.objs.size C := Nat.le_of_lt (Nat.lt_of_le_of_lt F.above hLC)
    have gst : h₀.StaysIn (below hp C) := fun b o e => by rw [below_get (Nat.lt_of_lt_of_le (Heap.lt_size e) hC)]; exact hstay b o e
    have hoa2 : hp.get? (C + 1) = some oa := hown _ (.head _)
    have hoC2 : hp.get? C = some oC := hown _ (.tail _ (.head _))
    have X' := X.keeps gst
    have T' := T.keeps gst
    have FG : Fr (below hp C) C hp (fun y => [(Str.ofString "addr", Value.str (S l) t)].reverse.lookup y) := by
      obtain ⟨es, ep, hd, r⟩ := hoC
      exact ⟨⟨oC, es, ep, hoC2, hd, r⟩, fun b o e => (below_in e).1, below_size hp C⟩
    have NG : News (below hp C) C hp [(C + 1, oa)] := fun p hp' => by
      rw [List.mem_singleton.mp hp']
      exact ⟨hoa2, Nat.succ_ne_self C, below_none (Nat.le_succ C)⟩
    clear F' N' F N
    refine ⟨rfl, seg_func ?_⟩
    refine seg_execs_cons (seg_plain ?_)
    walk_at "mine around"
    walk_at "mine steps"
    dsimp only
    refine seg_execs_cons (seg_plain ?_)
    walk_at "mine around"
    walk_at "mine steps"
    dsimp only
    refine seg_execs_cons (seg_For ?_)
    walk_at "mine around"
    walk_at "mine steps"
    rename Fr _ _ _ _ => FI
    rename News _ _ _ _ => NI
    rename IsEnum _ _ _ _ _ => hei
    rename Heap.IsStrIter _ _ _ _ _ _ => hsi
    rename ∀ p ∈ [(C + 1, oa)], _ => hlI
    rename_i I _ _ _
    obtain ⟨St, D, st0⟩ := strDraws (w := w) hsi
    refine wpAny_pyIter_enum hei ?_
    intro pp
    dsimp only
    refine seg_enum (I := I) (h₀ := h₀) (oa := oa) (C := C) (hlI _ (.head _)) ?hh D (IterJ l) ?turn ?done _ 0 rfl (Nat.zero_le _) _ _ _ _ _ _ _ ?hj ?gb FI hei NI st0
    case hh => exact hA'
    case gb => exact ⟨hoa2, gst⟩
    case hj => exact ⟨false, _, _, [], rfl, rfl, (by walk_at "mine has")⟩
    case done =>
      intro n s₀ h m tk hj gb F N
      obtain ⟨e, q1, q2, pre, hn, hit, hm⟩ := hj
      rw [List.drop_length] at hn hit
      have F1 := frHas F hm
      clear F hm
      dsimp only [mp] at F1
      obtain ⟨hp, gs, dr, tk0, os⟩ := s₀
      have X' := X.keeps gb.2
      have T' := T.keeps gb.2
      cases e with
      | true =>
        rw [itemsG, if_pos rfl] at hn hit
        subst hn
        refine seg_block_nil ?_
        dsimp only
        refine seg_execs_cons (seg_If ?_)
        walk_at "mine around"
        walk_at "mine steps"
        refine seg_execs_cons (seg_Expr_Yield (n := 0) rfl rfl rfl ?_)
        walk_at "mine around"
        walk_at "mine steps"
        rename_i kap hkap
        rename Fr _ _ _ _ => F2
        rename News _ _ _ _ => N2
        refine yield_ok (ow := []) F2 N2 gb (.head _) (fun q hq => nomatch hq) (.tail _ (.head _)) (fun q hq => nomatch hq) hC (idx_at hit rfl) fun hp2 gs2 dr2 tk2 os2 gb2 F2 N2 => ?_
        refine hkap .none _ ?_
        exact seg_end (.ok (.ret .none)) ⟨rfl, rfl, _, _, rfl, Kept.refl _ _⟩
      | false =>
        rw [itemsG, if_neg (by decide)] at hn hit
        subst hn
        refine seg_block_nil ?_
        dsimp only
        refine seg_execs_cons (seg_If ?_)
        walk_at "mine around"
        walk_at "mine steps"
        refine seg_end (.ok (.ret .none)) ⟨rfl, rfl, _, _, rfl, kept_of gb.1 F1 (N _ (.head _)).1⟩
    case turn =>
      intro i c n s₀ m oe oi Ta t₁ t₂ h tk hc hj gb F N again
      obtain ⟨e, q1, q2, pre, hn, hit, hm⟩ := hj
      obtain ⟨hlt, hci⟩ := List.getElem?_eq_some_iff.mp hc
      rw [List.drop_eq_getElem_cons hlt, hci] at hn hit
      have F1 := frHas F hm
      clear F hm
      dsimp only [mp] at F1
      obtain ⟨hp, gs, dr, tk0, os⟩ := s₀
      have X' := X.keeps gb.2
      have T' := T.keeps gb.2
      have hCI : C + 1 < I := hlI _ (.head _)
      have hsub2 : ∀ {a b : Addr × Obj}, ∀ q ∈ [((I + 1, oe) : Addr × Obj), (I, oi)], q ∈ [a, b, ((I + 1, oe) : Addr × Obj), (I, oi), (C + 1, oa)] := fun q hq => by
        rcases List.mem_cons.mp hq with rfl | hq
        · exact .tail _ (.tail _ (.head _))
        · rw [List.mem_singleton.mp hq]; exact .tail _ (.tail _ (.tail _ (.head _)))
      have hge2 : ∀ q ∈ [((I + 1, oe) : Addr × Obj), (I, oi)], @LE.le Nat _ C q.1 := fun q hq => by
        rcases List.mem_cons.mp hq with rfl | hq
        · exact Nat.le_of_lt (Nat.lt_of_lt_of_le (Nat.lt_trans (Nat.lt_succ_self C) hCI) (Nat.le_succ I))
        · rw [List.mem_singleton.mp hq]; exact Nat.le_of_lt (Nat.lt_trans (Nat.lt_succ_self C) hCI)
      walk_at "mine around"
      walk_at "mine steps"
      dsimp only
      cases e with
      | true =>
        rw [itemsG] at hn hit
        subst hn
        refine seg_execs_cons (seg_If ?_)
        walk_at "mine around"
        walk_at "mine steps"
        rw [List.length_cons]
        refine seg_execs_cons (seg_Expr_Yield rfl rfl rfl ?_)
        walk_at "mine around"
        walk_at "mine steps"
        rename_i kap hkap
        rename Fr _ _ _ _ => F2
        rename News _ _ _ _ => N2
        refine yield_ok (ow := [(I + 1, oe), (I, oi)]) F2 N2 gb (.head _) hsub2 (.tail _ (.tail _ (.tail _ (.tail _ (.head _))))) hge2 hC (idx_at hit rfl) fun hp2 gs2 dr2 tk2 os2 gb2 F2 N2 => ?_
        refine hkap .none _ ?_
        dsimp only
        refine seg_execs_cons (seg_plain ?_)
        have X' := X.keeps gb2.2
        have T' := T.keeps gb2.2
        walk_at "mine around"
        walk_at "mine steps"
        rename Fr _ _ _ _ => F3
        rename News _ _ _ _ => N3
        refine seg_again rfl (again _ ⟨hp2, gs2, dr2, tk2, os2⟩ _ _ _ ⟨false, _, _, pre ++ [(i, [92, c])], rfl, (by rw [hit]; simp), (by walk_at "mine has")⟩ gb2 F3 N3)
      | false =>
        refine seg_execs_cons (seg_If ?_)
        walk_at "mine around"
        walk_at "mine steps"
        refine seg_execs_cons (seg_If ?_)
        walk_at "mine around"
        walk_at "mine steps"
        · rename_i hce
          have hc92 : c = 92 := by simpa using hce
          rw [itemsG, if_pos hc92] at hn hit
          refine seg_execs_cons (seg_plain ?_)
          walk_at "mine around"
          walk_at "mine steps"
          rename Fr _ _ _ _ => F3
          rename News _ _ _ _ => N3
          refine seg_again rfl (again _ ⟨hp, gs, dr, tk0, os⟩ _ _ _ ⟨true, _, _, pre, hn, hit, (by walk_at "mine has")⟩ gb F3 (newsSub N3 fun q hq => .tail _ hq))
        · rename_i hce
          have hc92 : c ≠ 92 := by simpa using hce
          rw [itemsG, if_neg hc92] at hn hit
          subst hn
          rw [List.length_cons]
          refine seg_execs_cons (seg_Expr_Yield rfl rfl rfl ?_)
          walk_at "mine around"
          walk_at "mine steps"
          rename_i kap hkap
          rename Fr _ _ _ _ => F2
          rename News _ _ _ _ => N2
          refine yield_ok (ow := [(I + 1, oe), (I, oi)]) F2 N2 gb (.head _) hsub2 (.tail _ (.tail _ (.tail _ (.tail _ (.head _))))) hge2 hC (idx_at hit rfl) fun hp2 gs2 dr2 tk2 os2 gb2 F2 N2 => ?_
          refine hkap .none _ ?_
          refine seg_again rfl (again _ ⟨hp2, gs2, dr2, tk2, os2⟩ _ _ _ ⟨false, _, _, pre ++ [(i, [c])], rfl, (by rw [hit]; simp), (by walk_at "mine has")⟩ gb2 F2 N2)
end

-- part MComp
section
section
open PyProof.Rows.LCg PyProof.Rows.LCt
/-- a comprehension's turns by an invariant -/
theorem restT_run {prog : Program} {w : World} {A : Around} {h₀ : Heap} {L : Addr} {m : Str → Option Value} {env : Env} {ct elt : Expr} {x : Str} {scope : Scope} {cl : List (Str × Addr)} {s : Shared} {S : List (Addr × Obj) → Prop} {P : Nat → Value → Prop}
    {Fin : List Value → List (Addr × Obj) → Prop} {n : Nat} (J : Nat → List Value → List (Addr × Obj) → Prop)
    (turn : ∀ i ys news v I oI C oC D m₂ h tk (E' : Value → Shared → Prop), i < n → J i ys news → P i v → NsObj oC m₂ → m₂ x = some v → Fr h₀ L h m → News h₀ L h ((I, oI) :: (C, oC) :: (D, lst ys) :: news) → Off3 I C D news → ((@Ne Nat I C) ∧ (@Ne Nat I D) ∧ (@Ne Nat C D)) →
      wpAny (model prog w) A (isTrue ct (compEnvC scope cl C env) (eval ct (compEnvC scope cl C env))) (fun ok s' => if ok = true then
        wpAny (model prog w) A (eval elt (compEnvC scope cl C env)) (CompEnd h₀ L m { s with heap := h, toks := tk } I oI C oC D (lst ys) S (fun y news' => J (i + 1) (ys ++ [y]) news')) E' s'
        else CompEnd h₀ L m { s with heap := h, toks := tk } I oI C oC D (lst ys) S (fun _ news' => J (i + 1) ys news') Value.none s') E' { s with heap := h, toks := tk })
    (fin : ∀ ys news, J n ys news → Fin ys news) : ∀ k i ys news, i + k = n → J i ys news → CompRestT prog w A h₀ L m env ct elt x scope cl s S P Fin k i ys news := by
  intro k
  induction k with
  | zero => rintro i ys news rfl hj; exact fin _ _ hj
  | succ k ih =>
    intro i ys news hi hj
    refine CompRestT.succ fun v I oI C oC D m₂ h tk E' hp hC hx F N off ne => ?_
    refine wpAny_mono (turn i ys news v I oI C oC D m₂ h tk E' (by omega) hj hp hC hx F N off ne) (fun ok s' h1 => ?_) fun _ _ e => e
    cases ok with
    | true =>
      simp only [if_true] at h1 ⊢
      refine wpAny_mono h1 (fun y s₂ h2 => ?_) fun _ _ e => e
      obtain ⟨h', tk', news', e, F', N', o', hS, r⟩ := h2
      exact ⟨h', tk', news', e, F', N', o', hS, ih _ _ _ (by omega) r⟩
    | false =>
      simp only [Bool.false_eq_true, if_false] at h1 ⊢
      obtain ⟨h', tk', news', e, F', N', o', hS, r⟩ := h1
      exact ⟨h', tk', news', e, F', N', o', hS, ih _ _ _ (by omega) r⟩
end
/-- a value is a number -/
def NIn (v : Value) (n : Nat) : Prop := ∃ t, v = .int (n : Int) t
section
variable {w : World} {A : Around} {s : Shared} {h₀ : Heap} {L : Addr} {led : List (Addr × Obj)} {E : Value → Shared → Prop}
theorem len_L {l : Addr} {vs : List Value} {n : Nat} {Q : Value → Shared → Prop} (N : News h₀ L s.heap led) (hl : (l, listOf vs.toArray n) ∈ led) (hsz : vs.length ≤ 16777216)
    (h : ∀ t' k, Q (.int (vs.length : Int) t') { s with toks := k }) : wpAny (model PySem.Challenge.rw_tr0040_01.row.prog w) A (call (.builtin "len") [.ref l]) Q E s :=
  PyProof.Rows.len_list (items := vs.toArray) ⟨_, (N _ hl).1, rfl, n, rfl⟩ (by rw [List.size_toArray]; omega) (by rw [List.size_toArray]; exact h _ _)
theorem item_L {value slice : Expr} {l : Addr} {vs : List Value} {n : Nat} {i : Int} {u : Tok} {x : Value} {Q : Value → Shared → Prop} (N : News h₀ L s.heap led) (hl : (l, listOf vs.toArray n) ∈ led) (hx : vs[i.toNat]? = some x) (h0 : 0 ≤ i) (h1 : i ≤ 16777216)
    (h : Q x s)
    (hs : subscripted slice false (.ref l) (.int i u) = operate [.ref l, .int i u] (getItem (.ref l) (.int i u)) := by with_unfolding_all rfl) (hg : ∀ r, letTemporaryGo value (.ref l) r = pure () := by intro _; with_unfolding_all rfl) :
    wpAny (model PySem.Challenge.rw_tr0040_01.row.prog w) A (subscriptTail value slice (.ref l) (.int i u)) Q E s :=
  PyProof.Rows.item_list (items := vs.toArray) ⟨_, (N _ hl).1, rfl, n, rfl⟩ h0 (by omega) (by simpa using hx) h hs hg
end
theorem cellNe {h₀ h : Heap} {L a c : Addr} {led : List (Addr × Obj)} {vs : List Value} {n : Nat} {o : Obj} {x : Option Value} (N : News h₀ L h led) (h1 : (a, listOf vs.toArray n) ∈ led) (h2 : (c, o) ∈ led) (ho : o.data = .cell x) : a ≠ c := fun e => by
  subst e
  have e := news_same N h1 h2
  rw [← e] at ho
  cases ho
theorem AllIn.any {α : Type} {P : Value → α → Prop} {e : Value → Bool} {f : α → Bool} (he : ∀ v u, P v u → e v = f u) : ∀ {vs : List Value} {us : List α}, AllIn P vs us → vs.any e = us.any f
  | [], [], _ => rfl
  | _ :: _, _ :: _, h => by rw [List.any_cons, List.any_cons, he _ _ h.1, AllIn.any he h.2]
  | [], _ :: _, h => h.elim
  | _ :: _, [], h => h.elim
theorem AllIn.mem {α : Type} {P : Value → α → Prop} : ∀ {vs : List Value} {us : List α} {v : Value}, AllIn P vs us → v ∈ vs → ∃ u, u ∈ us ∧ P v u
  | _ :: _, _ :: _, _, h, hm => by
    rcases List.mem_cons.mp hm with rfl | hm
    · exact ⟨_, .head _, h.1⟩
    · obtain ⟨u, hu, p⟩ := AllIn.mem h.2 hm
      exact ⟨u, .tail _ hu, p⟩
  | [], [], _, _, hm => nomatch hm
  | [], _ :: _, _, h, _ => h.elim
  | _ :: _, [], _, h, _ => h.elim
theorem notIn_N {prog : Program} {w : World} {A : Around} {s : Shared} {h₀ : Heap} {L l : Addr} {led : List (Addr × Obj)} {E Q : Value → Shared → Prop} {vs : List Value} {n i : Nat} {ns : List Nat} {t : Tok} (N : News h₀ L s.heap led) (hl : (l, listOf vs.toArray n) ∈ led) (hv : AllIn NIn vs ns)
    (h : Q (.bool (decide (i ∉ ns))) s) : wpAny (model prog w) A (compareOp .NotIn (.int (i : Int) t) (.ref l)) Q E s := by
  have e : (!(vs.toArray.any fun y => match y with | .int k _ => k == (i : Int) | _ => false)) = decide (i ∉ ns) := by
    rw [List.any_toArray, AllIn.any (f := fun u => u == i) _ hv]
    · rw [Bool.eq_iff_iff]; simp
      exact ⟨fun h hm => h _ hm rfl, fun h x hx e => h (e ▸ hx)⟩
    · rintro v u ⟨t, rfl⟩
      rw [Bool.eq_iff_iff]; simp only [beq_iff_eq]; exact Int.ofNat_inj
  refine PySem.SeqAt.notIn_listAt (fun y => match y with | .int k _ => k == (i : Int) | _ => false) ⟨_, (N _ hl).1, rfl, n, rfl⟩ (fun y hy => ?_) (by rw [e]; exact h)
  obtain ⟨u, _, t', rfl⟩ := hv.mem (by simpa using hy)
  exact PySem.SeqAt.EqAt.int_int _ _ _ _
theorem off1 {D : Addr} : ∀ {l : List (Addr × Obj)}, PyProof.Rows.LCg.Off1 D l → ∀ p ∈ l, p.1 ≠ D
  | [], _, _, h => nomatch h
  | _ :: _, x, p, h => by
    rcases List.mem_cons.mp h with rfl | h
    · exact x.1
    · exact off1 x.2 p h
theorem srcIn {h₀ : Heap} {l : Addr} {vs : List Value} {n : Nat} {led : List (Addr × Obj)} (hm : (l, listOf vs.toArray n) ∈ led) : PyProof.Rows.LCg.SrcAt h₀ l vs.toArray led := Or.inr ⟨_, hm, rfl, n, rfl⟩
theorem cat_L {w : World} {A : Around} {s : Shared} {h₀ : Heap} {L : Addr} {m : Str → Option Value} {led : List (Addr × Obj)} {E Q : Value → Shared → Prop} {l b : Addr} {vs : List Value} {v : Value} {n k : Nat} (F : Fr h₀ L s.heap m) (N : News h₀ L s.heap led) (hl : (l, listOf vs.toArray n) ∈ led) (hb : (b, listOf #[v] k) ∈ led) (hsz : vs.length ≤ 10000)
    (h : ∀ D h', Fr h₀ L h' m → News h₀ L h' ((D, listOf (vs ++ [v]).toArray 0) :: led) → AllLt D led → Q (.ref D) { s with heap := h' }) :
    wpAny (model PySem.Challenge.rw_tr0040_01.row.prog w) A (binaryOp .Add (.ref l) (.ref b)) Q E s :=
  add_lists (vs := vs) (ws := [v]) F N ⟨_, (N _ hl).1, rfl, n, rfl⟩ ⟨_, (N _ hb).1, rfl, k, rfl⟩ (fun h' F' N' => h _ h' F' N' (allLt_of fun p hp => Heap.lt_size (N p hp).1)) (by rw [sizeLine_eq]; simp only [List.length_singleton]; omega)
end

local macro_rules | `(tactic| walk_at "call builtin:len cons nil") => `(tactic| ((try dsimp only); (with_reducible show wpAny _ _ (call (Value.builtin _) [Value.ref _]) _ _ _); k_dflt (refine' len_L ?k1 ?k2 ?k3 ?_; (case k1 => k_asm); (case k2 => k_mem); (case k3 => walk_at "mine om")); intro _ _; try dsimp only))
local macro_rules | `(tactic| walk_at "subscriptTail Name Name ref int") => `(tactic| ((try dsimp only); k_dflt (refine' item_L ?k1 ?k2 ?k3 ?k4 ?k5 ?_; (case k1 => k_asm); (case k2 => k_mem); (case k3 => with_reducible assumption); (case k4 => first | with_reducible assumption | exact Int.natCast_nonneg _ | omega); (case k5 => first | with_reducible assumption | omega)); try dsimp only))
local macro_rules | `(tactic| walk_at "compareOp Eq ref ref") => `(tactic| ((try dsimp only); k_dflt (refine' eq_U ?k1 ?k2 ?k3 ?k4 ?_; (case k1 => k_asm); (case k2 => (simp only [units_deeper]; omega)); (case k3 => k_mem); (case k4 => k_mem))))
local macro_rules | `(tactic| walk_at "compareOp NotIn int ref") => `(tactic| ((try dsimp only); k_dflt (refine' notIn_N ?k1 ?k2 ?k3 ?_; (case k1 => k_asm); (case k2 => k_mem); (case k3 => with_reducible assumption))))
local macro_rules | `(tactic| walk_at "binaryOp Add ref ref") => `(tactic| ((try dsimp only); k_dflt (refine' cat_L ?k1 ?k2 ?k3 ?k4 ?k5 ?_; (case k1 => k_asm); (case k2 => k_asm); (case k3 => k_mem); (case k4 => k_mem); (case k5 => first | with_reducible assumption | omega)); intro D' h' F' N' l1; (try simp only [AllLt, and_true] at l1)))
-- part MStrip
section
def AllB (gs : Array GenState) : Prop := ∀ y ∈ gs, y.bare = true
theorem allB_gen {gs gs' : Array GenState} {x : GenState} (h : AllB gs) (h1 : gs'[gs.size]? = some .finished) (h2 : GenOnly gs.size (gs.push x) gs') : AllB gs' := by
  intro y hy
  obtain ⟨i, hi, rfl⟩ := Array.mem_iff_getElem.mp hy
  by_cases e : i = gs.size
  · subst e
    rw [Array.getElem?_eq_getElem hi] at h1
    rw [Option.some.inj h1]
    rfl
  · have h3 := h2.2 i e
    have hs := h2.1
    rw [Array.size_push] at hs
    have hi2 : i < gs.size := by omega
    rw [Array.getElem?_eq_getElem hi, Array.getElem?_push_lt hi2] at h3
    rw [Option.some.inj h3]
    exact h _ (Array.getElem_mem hi2)
def SIn (v : Value) (x : List Nat) : Prop := ∃ t, v = .str (S x) t
theorem strsAre_of : ∀ {vs : List Value} {xs : List (List Nat)}, AllIn SIn vs xs → PyProof.Rows.StrsAre vs (xs.map S)
  | [], [], _ => .nil
  | _ :: _, x :: xs, h => by
    obtain ⟨⟨t, rfl⟩, h2⟩ := h
    exact .cons _ _ (strsAre_of h2)
  | [], _ :: _, h => h.elim
  | _ :: _, [], h => h.elim
theorem join_S : ∀ (xs : List (List Nat)), Str.join (S []) (xs.map S) = S xs.flatten
  | [] => rfl
  | [x] => by simp [Str.join]
  | x :: y :: r => by
    have ih := join_S (y :: r)
    show S x ++ S [] ++ Str.join (S []) ((y :: r).map S) = _
    rw [ih, S_append, S_append]
    simp
theorem join_L {w : World} {A : Around} {s : Shared} {h₀ : Heap} {L : Addr} {led : List (Addr × Obj)} {E Q : Value → Shared → Prop} {D : Addr} {vs : List Value} {n : Nat} {xs : List (List Nat)} {t : Tok} (N : News h₀ L s.heap led) (hD : (D, listOf vs.toArray n) ∈ led) (hv : AllIn SIn vs xs)
    (hok : (xs.map List.length).sum + xs.length * 64 ≤ 16777216) (h : ∀ t' k, Q (.str (S xs.flatten) t') { s with toks := k }) : wpAny (model PySem.Challenge.rw_tr0040_01.row.prog w) A (call (.builtin "str.join") [.str (S []) t, .ref D]) Q E s := by
  refine PyProof.Rows.join_listC (items := vs.toArray) (ys := xs.map S) ⟨_, (N _ hD).1, rfl, n, rfl⟩ (by simpa using strsAre_of hv) (by rw [S_length]; decide) ?_ fun t' k => ?_
  · rw [List.map_map, List.length_map]
    have : (fun x : Str => x.length) ∘ S = List.length := by funext x; exact S_length x
    rw [this]; exact hok
  · have e : Txt.join (S []) (xs.map S) = S xs.flatten := (PySem.StrLaws.glued_eq_join _ _).trans (join_S xs)
    rw [e]; exact h t' k
theorem append_L {w : World} {A : Around} {s : Shared} {h₀ : Heap} {L D : Addr} {m : Str → Option Value} {news news' : List (Addr × Obj)} {vs : List Value} {n : Nat} {x : Value} {Q E : Value → Shared → Prop} (F : Fr h₀ L s.heap m) (N : News h₀ L s.heap news) (U : Upd D (listOf vs.toArray n) (listOf (vs ++ [x]).toArray (n + 1)) news news')
    (h : ∀ h', Fr h₀ L h' m → News h₀ L h' news' → Q .none { s with heap := h' }) (hsz : vs.toArray.size ≤ sizeLine) : wpAny (model PySem.Challenge.rw_tr0040_01.row.prog w) A (call (.builtin "list.append") [.ref D, x]) Q E s :=
  append_K F N (by rw [List.push_toArray]; exact U) h hsz
/-- a place that may be none -/
def OIn (v : Value) (o : Option Nat) : Prop := match o with
  | none => v = .none
  | some k => ∃ t, v = .int (k : Int) t
/-- the strip's loop after i items -/
inductive StripJ (l : List Nat) (lr : Addr) (news : List (Addr × Obj)) (i : Nat) (m : Str → Option Value) (nx : List (Addr × Obj)) : Prop
  | mk (st : St) (q1 q2 : Tok) (vs : List Value) (n : Nat) (ov : Value) (e : nx = (lr, listOf vs.toArray n) :: news) (hm : Has m [(Str.ofString "addr", .str (S l) q1), (Str.ofString "start", .int (st.1 : Int) q2), (Str.ofString "open_pos", ov), (Str.ofString "result", .ref lr)])
    (ho : OIn ov st.2.1) (hv : AllIn SIn vs st.2.2) (ok : StOk l i st) (hs : st = ((itemsG false 0 l).take i).foldl (stStep l) (0, none, [])) : StripJ l lr news i m nx
local macro_rules | `(tactic| walk_at "subscriptTail Name Slice str ref") => `(tactic| ((with_reducible show wpAny _ _ (subscriptTail _ (Expr.Slice (some _) (some _) none _) _ _) _ _ _); k_dflt (refine slice_strN_ss (hsz := ?hsz) (s := ⟨_, _, _, _, _⟩) (by k_asm) (by k_asm) ?_; (case hsz => (rw [S_length, sizeLine_eq]; omega))); intro h' t' k' F' N'))
local macro_rules | `(tactic| walk_at "subscriptTail Name Slice str ref") => `(tactic| ((with_reducible show wpAny _ _ (subscriptTail _ (Expr.Slice (some _) none none _) _ _) _ _ _); k_dflt (refine slice_strN_sn (hsz := ?hsz) (s := ⟨_, _, _, _, _⟩) (by k_asm) (by k_asm) ?_; (case hsz => (rw [S_length, sizeLine_eq]; omega))); intro h' t' k' F' N'))
local macro_rules | `(tactic| walk_at "call builtin:list.append") => `(tactic| ((with_reducible show wpAny _ _ (call (Value.builtin _) [Value.ref _, Value.str _ _]) _ _ _); k_dflt (refine' append_L ?k1 ?k2 ?k3 ?_ ?z; (case k1 => k_asm); (case k2 => k_asm); (case k3 => k_upd); (case z => walk_at "mine size")); intro h' F' N'))
local macro_rules | `(tactic| walk_at "call builtin:str.join") => `(tactic| ((with_reducible show wpAny _ _ (call (Value.builtin _) [Value.str _ _, Value.ref _]) _ _ _); k_dflt (refine' join_L ?k1 ?k2 ?k3 ?k4 ?_; (case k1 => k_asm); (case k2 => k_mem); (case k3 => first | with_reducible assumption | (with_reducible rename ∀ _ : Tok, AllIn SIn _ _ => hvT; exact hvT _)); (case k4 => with_reducible assumption)); intro t' k'; try dsimp only))
local macro_rules | `(tactic| walk_at "exec For Tuple Call cons nil") => `(tactic| with_unfolding_all refine for_any ?_)
theorem strip_call {w : World} {A : Around} {s : Shared} {h₀ : Heap} {L : Addr} {m : Str → Option Value} {news : List (Addr × Obj)} {mean : ExcName → Option Value} {mg mb : Str → Option Value} {Q E : Value → Shared → Prop}
   {l : List Nat} {t : Tok}
   (F : Fr h₀ L s.heap m) (N : News h₀ L s.heap news) (G : GD w mean mg mb h₀) (a : AOk A 3) (hl : l.length ≤ 1000) (hg : AllB s.gens)
   (ret : ∀ t' h' gs' tk', Fr h₀ L h' m → News h₀ L h' news → AllB gs' → Q (.str (S (stripS l)) t') ⟨h', gs', s.drawn, tk', s.os⟩)
   : wpAny (model PySem.Challenge.rw_tr0040_01.row.prog w) A (call (.ref 35) [.str (S l) t]) Q E s := by
  obtain ⟨X, T⟩ := G
  obtain ⟨ah, dp, fr, gd, un⟩ := A
  obtain ⟨rfl⟩ : ah = none := a.hh
  have aD := a.hd; have aU := a.hu
  dsimp only at aD aU
  refine wpAny_call ?_
  refine' enterF (cl := []) (binds := [(Str.ofString "addr", .str (S l) t)]) F N X T.nolimit ?k1 ?k3 ?k4 ?k5 ?k6 ?_ ?k7 ?k8 ?k9 ?k10
  case k4 => exact Nat.lt_of_le_of_lt (Nat.le_add_right _ _) a.hd
  walk_at "mine sides"
  intro g L' h₁ tk htk FG F' N' st hlt
  have X' := X.keeps st
  have T' := T.keeps st
  clear X T F N FG st
  walk_at "mine steps"
  · rename (Builtin.Str.occurrences (S l) (S [34]) 0 (S l).length 1).isEmpty = true => hoc
    have h34 : 34 ∉ l := by
      have := in_S l 34
      rw [hoc] at this
      intro hm
      rw [decide_eq_true hm] at this
      cases this
    dsimp only
    have e : stripS l = l := by unfold stripS; rw [if_pos h34]
    rw [e] at ret
    exact leaveK_ F' N' (fun kF kN => ret _ _ _ _ kF kN hg)
  · rename (Builtin.Str.occurrences (S l) (S [34]) 0 (S l).length 1).isEmpty = false => hoc
    have h34 : ¬ 34 ∉ l := by
      have := in_S l 34
      rw [hoc] at this
      intro hm
      rw [decide_eq_false hm] at this
      cases this
    rename Fr _ _ _ _ => F2
    rename News _ _ _ _ => N2
    rename_i lr _ _ _
    rename ∀ p ∈ news, @LT.lt Nat _ p.1 lr => hnlr
    walk_at "mine steps"
    refine esciter_call F2 N2 ⟨X', T'⟩ (by simp only [depth_deeper]; omega) hl (fun C h2 tk2 oC oa gst F3 N3 hoa hlt2 hLC hG => ?_)
    obtain ⟨nm, qn, hd⟩ := hoa.2.1
    refine wpAny_pyIter_gen (g := s.gens.size) ⟨oa, nm, qn, (N3 _ (.head _)).1, hoa.1, hd, hoa.2.2⟩ ?_
    dsimp only
    refine for_gen (C := C) (oa := oa) (g := s.gens.size) (own := [(C + 1, oa), (C, oC)]) (nx := (lr, listOf [].toArray 0) :: news) rfl (by simp only [depth_deeper]; omega) T'.nolimit (StripJ l lr news) _ F3 ?hN hLC hoa (by simp) (hG _ rfl) ?hnx ?hj ?turn ?done
    case hN =>
      intro p hp
      rcases List.mem_cons.mp hp with rfl | hp
      · exact N3 _ (.head _)
      · exact N3 _ hp
    case hnx =>
      rintro i m nx ⟨st, q1, q2, vs, n, ov, rfl, r⟩ p hp
      rcases List.mem_cons.mp hp with rfl | hp
      · exact hlt2 (lr, listOf #[] 0) (.head _)
      · exact hlt2 _ (.tail _ hp)
    case hj => exact ⟨(0, none, []), _, _, [], 0, _, rfl, by walk_at "mine has", rfl, trivial, StOk.zero l, rfl⟩
    case done =>
      rintro m₁ nx₁ h gs' tk ⟨⟨s1, s2, s3⟩, q1, q2, vs, n, ov, rfl, hm, hov, hvs, hok, hst⟩ hfin hgo F4 N4
      rw [List.take_length] at hst
      have F5 := frHas F4 hm
      clear F4 hm
      dsimp only [mp] at F5
      dsimp only at hvs
      have hbare := allB_gen hg hfin hgo
      have h3 := items_len l false 0
      have hok1 : (s3.map List.length).sum + s3.length * 64 ≤ 16777216 := by
        have h1 := sum_len s3 1000 fun y hy => Nat.le_trans (hok.x y hy) hl
        have h2 := hok.n
        dsimp only at h2
        omega
      have hok2 : ((s3 ++ [l.drop s1]).map List.length).sum + (s3 ++ [l.drop s1]).length * 64 ≤ 16777216 := by
        have h1 := sum_len (s3 ++ [l.drop s1]) 1000 fun y hy => by
          rcases List.mem_append.mp hy with hy | hy
          · exact Nat.le_trans (hok.x y hy) hl
          · rw [List.mem_singleton.mp hy, List.length_drop]; omega
        have h2 := hok.n
        dsimp only at h2
        rw [List.length_append, List.length_singleton] at h1 ⊢
        omega
      have hvl : vs.length ≤ 2000 := by
        have h1 := hvs.length
        have h2 := hok.n
        dsimp only at h2
        omega
      have hv2 : ∀ t', AllIn SIn (vs ++ [.str (Txt.slice (S l) (some (s1 : Int)) none) t']) (s3 ++ [l.drop s1]) := fun t' => hvs.append (And.intro ⟨t', by rw [slice_sn l s1 hok.a]⟩ trivial : AllIn SIn [_] [_])
      have hE : stripE l = (s1, s2, s3) := hst.symm
      walk_at "mine steps"
      · rename (s1 : Int) < (l.length : Int) => hlt9
        rename Fr _ _ _ _ => F6
        rename News _ _ _ _ => N6
        have e : stripS l = (s3 ++ [l.drop s1]).flatten := by
          unfold stripS
          rw [if_neg h34, hE]
          dsimp only
          rw [if_pos (Int.ofNat_lt.mp hlt9)]
        rw [e] at ret
        exact leaveK_ F6 N6 (fun kF kN => ret _ _ _ _ kF (newsSub kN fun _ hp => .tail _ hp) hbare)
      · rename ¬(s1 : Int) < (l.length : Int) => hlt9
        have e : stripS l = s3.flatten := by
          unfold stripS
          rw [if_neg h34, hE]
          dsimp only
          rw [if_neg fun q => hlt9 (Int.ofNat_lt.mpr q)]
        rw [e] at ret
        exact leaveK_ F5 N4 (fun kF kN => ret _ _ _ _ kF (newsSub kN fun _ hp => .tail _ hp) hbare)
    case turn =>
      rintro i Ta t₁ t₂ p sg m₁ nx₁ ow h gs' tk hit ⟨⟨s1, s2, s3⟩, q1, q2, vs, n, ov, rfl, hm, hov, hvs, hok, hst⟩ hoff how F4 N4
      have F5 := frHas F4 hm
      clear F4 hm
      obtain ⟨X, hXe⟩ : ∃ X, X = ow ++ news := ⟨_, rfl⟩
      have N5 : News g L' h ((Ta, tupO [.int (p : Int) t₁, .str (S sg) t₂] 0) :: (lr, listOf vs.toArray n) :: X) := newsSub N4 fun q hq => by
        subst hXe
        rcases List.mem_cons.mp hq with rfl | hq
        · exact .head _
        · rcases List.mem_cons.mp hq with rfl | hq
          · exact .tail _ (List.mem_append_right _ (.head _))
          · rcases List.mem_append.mp hq with hq | hq
            · exact .tail _ (List.mem_append_left _ hq)
            · exact .tail _ (List.mem_append_right _ (.tail _ hq))
      have hTne : lr ≠ Ta := hoff _ (.head _)
      have hXne : ∀ q ∈ X, q.1 ≠ lr := fun q hq e => by
        subst hXe
        rcases List.mem_append.mp hq with hq | hq
        · have h1 := how q hq
          have h2 := hlt2 (lr, listOf #[] 0) (.head _)
          rw [e] at h1
          exact absurd h2 (Nat.not_lt.mpr h1)
        · exact absurd (hnlr q hq) (by rw [e]; exact Nat.lt_irrefl _)
      have hback : ∀ {a b : Addr × Obj}, ∀ q ∈ ow ++ b :: news, q ∈ a :: b :: X := fun q hq => by
        subst hXe
        rcases List.mem_append.mp hq with hq | hq
        · exact .tail _ (.tail _ (List.mem_append_left _ hq))
        · rcases List.mem_cons.mp hq with rfl | hq
          · exact .tail _ (.head _)
          · exact .tail _ (.tail _ (List.mem_append_right _ hq))
      clear N4
      dsimp only [mp] at F5
      dsimp only at hov hvs
      have hnext := fold_take (l := l) (s := (0, none, [])) hit
      rw [← hst] at hnext
      have hbd := items_bound l false 0 (p, sg) (List.mem_of_getElem? hit)
      have hok2 := StOk.step (it := (p, sg)) hok (by intro e; have := hbd e; omega)
      cases s2 with
      | none =>
        have hov2 : ov = .none := hov
        subst hov2
        walk_at "mine steps"
        · rename sg = [34] => hsg
          rename Fr _ _ _ _ => F6
          rename News _ _ _ _ => N6
          have e : stStep l (s1, none, s3) (p, sg) = (s1, some p, s3) := by unfold stStep; rw [if_pos hsg]
          rw [e] at hnext hok2
          exact ⟨_, _, _, _, rfl, F6, newsSub N6 hback, ⟨(s1, some p, s3), _, _, vs, n, _, rfl, (by walk_at "mine has"), ⟨_, rfl⟩, hvs, hok2, hnext.symm⟩⟩
        · rename ¬sg = [34] => hsg
          rename Fr _ _ _ _ => F6
          rename News _ _ _ _ => N6
          have e : stStep l (s1, none, s3) (p, sg) = (s1, none, s3) := by unfold stStep; rw [if_neg hsg]
          rw [e] at hnext hok2
          exact ⟨_, _, _, _, rfl, F6, newsSub N6 hback, ⟨(s1, none, s3), _, _, vs, n, _, rfl, (by walk_at "mine has"), rfl, hvs, hok2, hnext.symm⟩⟩
      | some o =>
        obtain ⟨to, rfl⟩ := hov
        have hvl : vs.length ≤ 2000 := by
          have h1 := hvs.length
          have h2 := hok.n
          have h3 := items_len l false 0
          have h4 := (List.getElem?_eq_some_iff.mp hit).1
          dsimp only at h2
          omega
        walk_at "mine steps"
        · rename sg = [34] => hsg
          rename (s1 : Int) ≠ (o : Int) => hne
          rename Fr _ _ _ _ => F6
          rename News _ _ _ _ => N6
          have hne2 : s1 ≠ o := fun e => hne (by rw [e])
          have e : stStep l (s1, some o, s3) (p, sg) = (p + 1, none, s3 ++ [(l.drop s1).take (o - s1)]) := by unfold stStep; rw [if_pos hsg]; dsimp only; rw [if_pos hne2]
          rw [e] at hnext hok2
          have hv2 : ∀ t', AllIn SIn (vs ++ [.str (Txt.slice (S l) (some (s1 : Int)) (some (o : Int))) t']) (s3 ++ [(l.drop s1).take (o - s1)]) := fun t' => hvs.append (And.intro ⟨t', by rw [slice_ss l s1 o hok.a (hok.o o rfl)]⟩ trivial : AllIn SIn [_] [_])
          exact ⟨_, _, _, _, rfl, F6, newsSub N6 hback, ⟨(p + 1, none, _), _, _, _, _, _, rfl, (by walk_at "mine has"), rfl, hv2 _, hok2, hnext.symm⟩⟩
        · rename sg = [34] => hsg
          rename (s1 : Int) = (o : Int) => hne
          rename Fr _ _ _ _ => F6
          rename News _ _ _ _ => N6
          have hne2 : s1 = o := Int.ofNat.inj hne
          have e : stStep l (s1, some o, s3) (p, sg) = (p + 1, none, s3) := by unfold stStep; rw [if_pos hsg]; dsimp only; rw [if_neg (by rw [hne2]; simp)]
          rw [e] at hnext hok2
          exact ⟨_, _, _, _, rfl, F6, newsSub N6 hback, ⟨(p + 1, none, _), _, _, _, _, _, rfl, (by walk_at "mine has"), rfl, hvs, hok2, hnext.symm⟩⟩
        · rename ¬sg = [34] => hsg
          rename Fr _ _ _ _ => F6
          rename News _ _ _ _ => N6
          have e : stStep l (s1, some o, s3) (p, sg) = (s1, some o, s3) := by unfold stStep; rw [if_neg hsg]
          rw [e] at hnext hok2
          exact ⟨_, _, _, _, rfl, F6, newsSub N6 hback, ⟨(s1, some o, s3), _, _, vs, n, _, rfl, (by walk_at "mine has"), ⟨_, rfl⟩, hvs, hok2, hnext.symm⟩⟩
end

-- part MRead
section
/-- what the table of codes of _law_read holds: nothing yet, or the two codes made there -/
def qRead : Str := Str.ofString "_law_read" ++ ".<locals>." ++ "read"
def qLam : Str := Str.ofString "_law_read" ++ ".<locals>." ++ "<lambda>"
def RTab (ps : Array Value) (rest : List (Addr × Obj)) : Prop := ps = #[] ∨ ∃ c1 c2, ps = #[rawInt 242, rawInt 4, .ref c1, rawInt 246, rawInt 13, .ref c2] ∧ IsCd rest c1 qRead ∧ IsCd rest c2 qLam
def RTab1 (ps : Array Value) (rest : List (Addr × Obj)) : Prop := ∃ c1, IsCd rest c1 qRead ∧ (ps = #[rawInt 242, rawInt 4, .ref c1] ∨ ∃ c2, ps = #[rawInt 242, rawInt 4, .ref c1, rawInt 246, rawInt 13, .ref c2] ∧ IsCd rest c2 qLam)
theorem RTab.triples {ps : Array Value} {rest : List (Addr × Obj)} (x : RTab ps rest) : TriplesOk ps.toList := by
  rcases x with rfl | ⟨c1, c2, rfl, _⟩
  · exact True.intro
  · simp [TriplesOk, rawInt]
theorem RTab1.triples {ps : Array Value} {rest : List (Addr × Obj)} (x : RTab1 ps rest) : TriplesOk ps.toList := by
  obtain ⟨c1, _, rfl | ⟨c2, rfl, _⟩⟩ := x <;> simp [TriplesOk, rawInt]
theorem RTab.ask {ps : Array Value} {rest rest' : List (Addr × Obj)} (x : RTab ps rest) (hs : ∀ p ∈ rest, p ∈ rest') {e f : Nat} : codeAmong ⟨242, 4, e, f⟩ ps.toList = none ∨ ∃ c', codeAmong ⟨242, 4, e, f⟩ ps.toList = some (.ref c') ∧ IsCd rest' c' qRead := by
  rcases x with rfl | ⟨c1, c2, rfl, h1, h2⟩
  · exact .inl rfl
  · exact .inr ⟨c1, by simp [codeAmong, rawInt], h1.mono hs⟩
theorem RTab.next {ps ps' : Array Value} {rest rest' : List (Addr × Obj)} {c' : Addr} {e f : Nat} (x : RTab ps rest) (hs : ∀ p ∈ rest, p ∈ rest') (hc : IsCd rest' c' qRead)
    (h : (codeAmong ⟨242, 4, e, f⟩ ps.toList = none ∧ ps' = ps ++ #[rawInt (242 : Nat), rawInt (4 : Nat), .ref c']) ∨ (codeAmong ⟨242, 4, e, f⟩ ps.toList = some (.ref c') ∧ ps' = ps)) : RTab1 ps' rest' := by
  rcases x with rfl | ⟨c1, c2, rfl, h1, h2⟩
  · rcases h with ⟨_, rfl⟩ | ⟨h, _⟩
    · exact ⟨c', hc, .inl rfl⟩
    · cases h
  · rcases h with ⟨h, _⟩ | ⟨h, rfl⟩
    · simp [codeAmong, rawInt] at h
    · have : c1 = c' := by simpa [codeAmong, rawInt] using h
      subst this
      exact ⟨c1, hc, .inr ⟨c2, rfl, h2.mono hs⟩⟩
theorem RTab1.ask {ps : Array Value} {rest rest' : List (Addr × Obj)} (x : RTab1 ps rest) (hs : ∀ p ∈ rest, p ∈ rest') {e f : Nat} : codeAmong ⟨246, 13, e, f⟩ ps.toList = none ∨ ∃ c', codeAmong ⟨246, 13, e, f⟩ ps.toList = some (.ref c') ∧ IsCd rest' c' qLam := by
  obtain ⟨c1, h1, rfl | ⟨c2, rfl, h2⟩⟩ := x
  · exact .inl (by simp [codeAmong, rawInt])
  · exact .inr ⟨c2, by simp [codeAmong, rawInt], h2.mono hs⟩
theorem RTab1.next {ps ps' : Array Value} {rest rest' : List (Addr × Obj)} {c' : Addr} {e f : Nat} (x : RTab1 ps rest) (hs : ∀ p ∈ rest, p ∈ rest') (hc : IsCd rest' c' qLam)
    (h : (codeAmong ⟨246, 13, e, f⟩ ps.toList = none ∧ ps' = ps ++ #[rawInt (246 : Nat), rawInt (13 : Nat), .ref c']) ∨ (codeAmong ⟨246, 13, e, f⟩ ps.toList = some (.ref c') ∧ ps' = ps)) : RTab ps' rest' := by
  obtain ⟨c1, h1, rfl | ⟨c2, rfl, h2⟩⟩ := x
  · rcases h with ⟨_, rfl⟩ | ⟨h, _⟩
    · exact .inr ⟨c1, c', rfl, h1.mono hs, hc⟩
    · simp [codeAmong, rawInt] at h
  · rcases h with ⟨h, _⟩ | ⟨h, rfl⟩
    · simp [codeAmong, rawInt] at h
    · exact .inr ⟨c1, c2, rfl, h1.mono hs, h2.mono hs⟩
theorem RTab.mono {ps : Array Value} {rest rest' : List (Addr × Obj)} (x : RTab ps rest) (hs : ∀ p ∈ rest, p ∈ rest') : RTab ps rest' := x.imp id fun ⟨c1, c2, e, h1, h2⟩ => ⟨c1, c2, e, h1.mono hs, h2.mono hs⟩

theorem ReadOk.mono {w : World} {l : List Nat} {lp fr : Addr} {W W' : List (Addr × Obj)} (h : ReadOk w l lp fr W) (hs : ∀ q ∈ W, q ∈ W') : ReadOk w l lp fr W' := fun F N hW hV G a hp ret => h F N (fun q hq => hW q (hs q hq)) hV G a hp ret
theorem RTab.strip {a b : List (Addr × Obj)} {x : Addr × Obj} {ps : Array Value} (h : RTab ps (a ++ x :: b)) (hx : ∀ vs, x.2.data ≠ .fields vs) : RTab ps (a ++ b) :=
  h.imp id fun ⟨c1, c2, e, h1, h2⟩ => ⟨c1, c2, e, h1.strip hx, h2.strip hx⟩

inductive ReadJ (w : World) (l : List Nat) (lt lp dx fl pb x : Addr) (TT : Toks) (ps2 : Array Value) (W : List (Addr × Obj)) (i : Nat) (m : Str → Option Value) (nx : List (Addr × Obj)) : Prop
  | mk (vs : List Value) (nv : Nat) (tl : List (Addr × Obj)) (tp : Tok) (np : Nat) (tkk : Tok) (e : nx = (lt, listOf vs.toArray nv) :: (lp, listOf #[.int ((rd l i).1 : Int) tp] np) :: (dx, lexD w TT fl pb ((1 + nl (l.take (rd l i).1) : Nat) : Int) tkk) :: (tl ++ (168, tabObj ps2) :: W))
      (a : AllIn (TIn tl) vs (rd l i).2) (ht : ∀ q ∈ tl, q.2.cls = .type "tuple") (hm : Has m [(Str.ofString "told", .ref lt), (Str.ofString "lexer", .ref x)]) : ReadJ w l lt lp dx fl pb x TT ps2 W i m nx
theorem read_call {w : World} {A : Around} {s : Shared} {h₀ : Heap} {L : Addr} {m : Str → Option Value} {rest : List (Addr × Obj)} {mean : ExcName → Option Value} {mg mb : Str → Option Value} {Q E : Value → Shared → Prop}
   {l : List Nat} {t : Tok} {ps : Array Value}
   (F : Fr h₀ L s.heap m) (N : News h₀ L s.heap ((168, tabObj ps) :: rest)) (G : GD w mean mg mb h₀) (a : AOk A 6) (C : CodeHd h₀ 172 168) (hP : ∀ p ∈ rest, p.1 ≠ 168) (hR : RTab ps rest)
   (hn : l.length ≤ 100)
   (ret : ∀ lr vr nr tl ps' h' tk', Fr h₀ L h' m → News h₀ L h' ((168, tabObj ps') :: (lr, listOf vr.toArray nr) :: (tl ++ rest)) → RTab ps' (tl ++ rest) → (∀ p ∈ tl, p.1 ≠ 168) → lr ≠ 168 → AllIn (TIn tl) vr (readAll l) → Q (.ref lr) { s with heap := h', toks := tk' })
   : wpAny (model PySem.Challenge.rw_tr0040_01.row.prog w) A (call (.ref 173) [.str (S l) t]) Q E s := by
  obtain ⟨X, T⟩ := G
  obtain ⟨ah, dp, fr, gd, un⟩ := A
  obtain ⟨rfl⟩ : ah = none := a.hh
  have aD := a.hd; have aU := a.hu
  dsimp only at aD aU
  refine wpAny_call ?_
  refine' enterC (binds := [(Str.ofString "text", .str (S l) t)]) F N X T.nolimit ?k1 ?k3 ?k4 ?k5 ?k6 ?k11 ?_ ?k7 ?k8 ?k9
  case k4 => exact Nat.lt_of_le_of_lt (Nat.le_add_right _ _) a.hd
  walk_at "mine sidesC"
  intro g L' h₁ tk cells FG F' N' Y st hlt
  have X' := X.keeps st
  have T' := T.keeps st
  have C' := C.keeps st
  clear X T F N FG st C
  obtain ⟨hl0, hlt⟩ := List.forall_mem_cons.mp (allN hlt)
  dsimp only at hl0
  k_cells Y
  simp only [List.cons_append, List.nil_append] at N'
  walk_at "mine steps"
  with_unfolding_all refine' nestDef_K ?d0 ?k0 ?a0 ?_
  case d0 => exact rfl
  case k0 => exact rfl
  case a0 => exact rfl
  rename Fr g L' _ _ => F2
  rename News g L' _ _ => N2
  rename _ ∧ _ => l2
  rename News g L' _ _ => N2
  rename_i _ oT _ dT lp _ _ oP dP
  replace dT : oT.data = .cell (some (.str (S l) t)) := dT
  obtain ⟨tl0, N3⟩ : ∃ tl0, News g L' _ ((168, tabObj ps) :: (lp, listOf #[Value.int 0 tl0] 0) :: (L' + 1 + 1, oP) :: (L' + 1, oT) :: rest) := by
    refine' ⟨_, newsSub N2 ?hh⟩
    case hh => walk_at "mine sub"
  clear N2
  obtain ⟨l2a, l2b, l2c, l2d⟩ := l2
  refine' nest_any F2 N3 T' C' rfl ?n1 hR.triples (hR.ask (by walk_at "mine sub")) ?n4 ?_
  case n4 => exact rfl
  case n1 => 
    simp only [List.forall_mem_cons]
    exact ⟨neN (by omega), neN (by omega), neN (by omega), hP⟩
  intro fr ofr c1 ctv doc h' tk tl ps1 hofr F4 N4 hc1 hps1 hlt4 hPf htl
  replace hR := hR.next (by walk_at "mine sub") hc1 hps1
  clear hps1 F2 N3
  simp only [List.forall_mem_append, List.forall_mem_cons] at hlt4 htl
  obtain ⟨l4a, l4b, l4c, l4d, l4e⟩ := hlt4
  walk_at "mine steps"
  rename Fr g L' _ _ => F5
  rename News g L' _ _ => N5
  with_unfolding_all refine' kla_eval ?d0 ?_
  case d0 => exact rfl
  have N6 : News g L' _ ((168, tabObj ps1) :: (fr, ofr) :: (tl ++ (lp, listOf #[Value.int 0 tl0] 0) :: (L' + 1 + 1, oP) :: (L' + 1, oT) :: rest)) := newsSub N5 (by walk_at "mine sub")
  clear N5
  refine' lam_any F5 N6 T' C' rfl ?n1 hR.triples (hR.ask (by walk_at "mine sub")) ?n4 ?_
  case n4 => exact rfl
  case n1 =>
    simp only [List.forall_mem_append, List.forall_mem_cons]
    exact ⟨neN (by omega), fun p hp => Nat.ne_of_gt (htl p hp).1, neN (by omega), neN (by omega), neN (by omega), hP⟩
  intro fl fdl c2 h' tk tl2 ps2 F7 N7 hc2 hps2 hlt7 hPl htl2
  replace hR := hR.next (by walk_at "mine sub") hc2 hps2
  clear hps2 F5 N6
  simp only [List.forall_mem_append, List.forall_mem_cons] at hlt7 htl2
  obtain ⟨l7a, l7b, l7c, l7d, l7e, l7f, l7g⟩ := hlt7
  walk_at "mine steps"
  rename Fr g L' _ _ => F8
  rename News g L' _ _ => N8
  have N9 : News g L' _ ((fl, (⟨.type "function", none, .func fdl, #[]⟩ : Obj)) :: (168, tabObj ps2) :: (fr, ofr) :: (lp, listOf #[Value.int 0 tl0] 0) :: (L' + 1 + 1, oP) :: (L' + 1, oT) :: (tl2 ++ (tl ++ rest))) := newsSub N8 (by walk_at "mine sub")
  clear N8
  replace hR : RTab ps2 ((fr, ofr) :: (L' + 1 + 1, oP) :: (L' + 1, oT) :: (tl2 ++ (tl ++ rest))) := RTab.strip (a := []) (x := (lp, listOf #[Value.int 0 tl0] 0)) (RTab.mono (rest' := (lp, listOf #[Value.int 0 tl0] 0) :: (fr, ofr) :: (L' + 1 + 1, oP) :: (L' + 1, oT) :: (tl2 ++ (tl ++ rest))) hR (by walk_at "mine sub")) (fun _ q => by cases q)
  replace hc1 : IsCd ((fr, ofr) :: (L' + 1 + 1, oP) :: (L' + 1, oT) :: (tl2 ++ (tl ++ rest))) c1 qRead := IsCd.strip (a := []) (x := (lp, listOf #[Value.int 0 tl0] 0)) (IsCd.mono (news' := (lp, listOf #[Value.int 0 tl0] 0) :: (fr, ofr) :: (L' + 1 + 1, oP) :: (L' + 1, oT) :: (tl2 ++ (tl ++ rest))) hc1 (by walk_at "mine sub")) (fun _ q => by cases q)
  clear hc2
  have hTl : ∀ p ∈ tl2 ++ (tl ++ rest), @LT.lt Nat _ p.1 fl := by
    simp only [List.forall_mem_append]
    exact ⟨l7a, l7c, l7g⟩
  have hT168 : ∀ p ∈ tl2 ++ (tl ++ rest), p.1 ≠ 168 := by
    simp only [List.forall_mem_append]
    exact ⟨fun p hp => Nat.ne_of_gt (htl2 p hp).1, fun p hp => Nat.ne_of_gt (htl p hp).1, hP⟩
  have hTlp : ∀ p ∈ tl2 ++ (tl ++ rest), p.1 ≠ lp := by
    simp only [List.forall_mem_append]
    exact ⟨fun p hp => Nat.ne_of_gt (htl2 p hp).2.2.2.1, fun p hp => Nat.ne_of_gt (htl p hp).2.1, fun p hp => Nat.ne_of_lt (Nat.lt_trans (hlt p hp) (by omega))⟩
  have hTr : ∀ p ∈ rest, p ∈ tl2 ++ (tl ++ rest) := by walk_at "mine sub"
  clear l7a l7c l7g htl2 htl l4a l4e
  generalize tl2 ++ (tl ++ rest) = T at *
  refine fn_store F8 N9 (UpdF.head ?_) fn_look_read ?_
  · simp only [List.forall_mem_cons]
    exact ⟨neN (by omega), neN (by omega), neN (by omega), neN (by omega), neN (by omega), fun p hp => Nat.ne_of_lt (hTl p hp)⟩
  intro dl od h' tk F10 N10 hod hlt10
  clear F8 N9
  simp only [List.forall_mem_cons] at hlt10
  obtain ⟨l10a, l10b, l10c, l10d, l10e, l10f, l10g⟩ := hlt10
  walk_at "mine steps"
  refine' call_cls F10 X' N10 ?k4 ?k5 ?k6 ?_
  case k4 => k_is
  case k5 => k_is
  case k6 => k_is
  intro x dx h' F11 N11 hlt11 hdx
  replace hdx := ltN hdx
  replace hlt11 := allN hlt11
  clear F10 N10
  simp only [List.forall_mem_cons] at hlt11
  obtain ⟨l11a, l11b, l11c, l11d, l11e, l11f, l11g, l11h⟩ := hlt11
  have RO : ReadOk w l lp fr ((fr, ofr) :: (L' + 1 + 1, oP) :: (L' + 1, oT) :: T) := by
    intro A s h₀ L m mean mg mb R p tp t1 np V F N hWV hV G a hp ret
    obtain ⟨X9, T9⟩ := G
    obtain ⟨ah, dp, fr', gd, un⟩ := A
    obtain ⟨rfl⟩ : ah = none := a.hh
    refine' enterN (binds := [(Str.ofString "size", .int 1 t1)]) F N X9 T9.nolimit (.tail _ (hWV _ (.head _))) (congrArg Obj.data hofr) ((hc1.mono fun q hq => .tail _ (hWV q hq)).code N) ?k4 ?k5 ?k6 ?_ ?k7 ?k8 ?k9 ?k10
    case k4 => exact Nat.lt_of_le_of_lt (Nat.le_add_right _ _) a.hd
    case k5 => exact BindsTo.of_eq rfl
    case k6 => exact locs rfl
    case k7 => decide
    case k8 => rfl
    case k9 => rfl
    case k10 => rfl
    intro g' L9 h₁ tk htk FG F' N' st hlt
    have X' := X9.keeps st
    have T' := T9.keeps st
    clear X9 T9 F N FG st
    have N1 : News g' L9 h₁ ((lp, listOf #[.int (p : Int) tp] np) :: (L' + 1 + 1, oP) :: (L' + 1, oT) :: V) := newsCons (newsCons N' (.tail _ (hWV _ (.tail _ (.tail _ (.head _)))))) (.tail _ (.tail _ (hWV _ (.tail _ (.head _))))) |> fun z => newsSub z (by walk_at "mine sub")
    clear N'
    iterate 44 (walk_at "mine step")
    rename Fr _ _ _ _ => F9
    rename News _ _ _ _ => N9
    have e0 : ([(p : Int)].getD (Int.toNat 0) 0) = (p : Int) := rfl
    simp only [e0] at F9 N9 ⊢
    refine slice_strN_ss (hsz := by rw [S_length, sizeLine_eq]; omega) (s := ⟨_, _, _, _, _⟩) F9 N9 ?_
    intro h8 t8 k8 F8 N8
    clear F9 N9
    rw [slice_one l p hp]
    walk_at "mine steps"
    dsimp only
    obtain ⟨tp8, np8, N7⟩ : ∃ tp8 np8, News g' L9 h8 ((lp, listOf #[Value.int ((min l.length (p + 1) : Nat) : Int) tp8] np8) :: V) := by
      have e1 : (if (p : Int) + 1 < (l.length : Int) then (p : Int) + 1 else (l.length : Int)) = ((min l.length (p + 1) : Nat) : Int) := by split <;> omega
      rw [e1] at N8
      refine' ⟨_, _, newsSub N8 ?hh⟩
      case hh => walk_at "mine sub"
    exact leaveK_ F8 N7 (fun kF kN => ret _ _ _ _ _ kF kN)
  obtain ⟨fdr, hofr2⟩ : ∃ fdr, ofr = (⟨.type "function", none, .func fdr, #[]⟩ : Obj) := ⟨_, hofr⟩
  clear hofr
  subst hofr2
  refine' enterF (cl := []) (binds := [(Str.ofString "self", .ref x), (Str.ofString "fp", .ref fl)]) F11 N11 X' T'.nolimit ?k1 ?k3 ?k4 ?k5 ?k6 ?_ ?k7 ?k8 ?k9 ?k10
  case k4 => exact (show dp + 1 + 1 < recursionLimit by omega)
  walk_at "mine sides"
  intro g2 L2 h₁ tk2 htk2 FG F12 N12 st2 hlt12
  have X2 := X'.keeps st2
  have T2 := T'.keeps st2
  clear F11 N11 FG st2
  walk_at "mine steps"
  rename Fr g L' _ _ => F3
  rename News g L' _ _ => N3
  rename IsRange _ _ _ _ _ _ _ _ => R3
  rename_i pb _ _ _ _ _ _ _ _ _ _ lt _ _ _ _ _ _ _ _ _ _ _ _ _
  have LW : LexW w l lp dx x fl pb dl fr fdl fdr od ((x, instObj 73 dx) :: (pb, listOf #[] 0) :: (dl, od) :: (fl, (⟨.type "function", some dl, .func fdl, #[]⟩ : Obj)) :: (fr, (⟨.type "function", none, .func fdr, #[]⟩ : Obj)) :: (L' + 1 + 1, oP) :: (L' + 1, oT) :: T) :=
    ⟨neN (by omega), .head _, .tail _ (.head _), .tail _ (.tail _ (.tail _ (.head _))), .tail _ (.tail _ (.head _)), .tail _ (.tail _ (.tail _ (.tail _ (.head _)))), hod, RO.mono (by walk_at "mine sub")⟩
  generalize hW : (x, instObj 73 dx) :: (pb, listOf #[] 0) :: (dl, od) :: (fl, (⟨.type "function", some dl, .func fdl, #[]⟩ : Obj)) :: (fr, (⟨.type "function", none, .func fdr, #[]⟩ : Obj)) :: (L' + 1 + 1, oP) :: (L' + 1, oT) :: T = W at LW
  obtain ⟨TT, tkk0, N4⟩ : ∃ TT tkk0, News g L' _ ((lt, listOf #[] 0) :: (lp, listOf #[.int ((0 : Nat) : Int) tl0] 0) :: (dx, lexD w TT fl pb ((1 : Nat) : Int) tkk0) :: ((168, tabObj ps2) :: W)) := by
    rw [← hW]
    refine' ⟨⟨_, _, _, _, _⟩, _, newsSub N3 ?hh⟩
    case hh => walk_at "mine sub"
  have hm168 : ∀ q ∈ W, q.1 ≠ 168 := by
    rw [← hW]
    simp only [List.forall_mem_cons]
    exact ⟨neN (by omega), neN (by omega), neN (by omega), neN (by omega), neN (by omega), neN (by omega), neN (by omega), hT168⟩
  have hWlp : ∀ q ∈ (168, tabObj ps2) :: W, q.1 ≠ lp := by
    rw [← hW]
    simp only [List.forall_mem_cons]
    exact ⟨neN (by omega), neN (by omega), neN (by omega), neN (by omega), neN (by omega), neN (by omega), neN (by omega), neN (by omega), hTlp⟩
  have hWdx : ∀ q ∈ (168, tabObj ps2) :: W, q.1 ≠ dx := by
    rw [← hW]
    simp only [List.forall_mem_cons]
    exact ⟨neN (by omega), neN (by omega), neN (by omega), neN (by omega), neN (by omega), neN (by omega), neN (by omega), neN (by omega), fun q hq => Nat.ne_of_lt (l11h q hq)⟩
  have hWlt : ∀ q ∈ (168, tabObj ps2) :: W, q.1 ≠ lt := by
    rw [← hW]
    simp only [List.forall_mem_cons]
    exact ⟨neN (by omega), neN (by omega), neN (by omega), neN (by omega), neN (by omega), neN (by omega), neN (by omega), neN (by omega), fun q hq => Nat.ne_of_lt (Nat.lt_trans (l11h q hq) (by omega))⟩
  have mx : (x, instObj 73 dx) ∈ W := LW.hx
  have mP : (L' + 1 + 1, oP) ∈ W := by rw [← hW]; walk_at "mine mem"
  have mT : (L' + 1, oT) ∈ W := by rw [← hW]; walk_at "mine mem"
  have hltlp : lt ≠ lp := neN (by omega)
  have hltdx : lt ≠ dx := neN (by omega)
  have npd : lp ≠ dx := LW.npd
  clear N3
  refine it_range (n := l.length) rfl F3 N4 R3 ?_ ?_ (ReadJ w l lt lp dx fl pb x TT ps2 W) ?_ ?_ ?_
  · exact small_one (by omega) (by omega) (by omega) (by omega)
  · rw [rangeSize_one]; split <;> omega
  · exact ⟨[], 0, [], tl0, 0, tkk0, rfl, trivial, (fun _ hq => nomatch hq), by walk_at "mine has"⟩
  · rintro i tv m₁ nx₁ I oI h t' hi ⟨vs, nv, tl, tp, np, tkk, rfl, hvs, htl, hm⟩ hoff F5 N5
    have hp9 := rd_le l i
    have F6 := frHas F5 hm
    dsimp only [mp] at F6
    generalize hpp : (rd l i).1 = p at *
    have N6 := newsCons (newsCons N5 (.tail _ (.tail _ (.tail _ (.tail _ (List.mem_append_right _ (.tail _ mP))))))) (.tail _ (.tail _ (.tail _ (.tail _ (.tail _ (List.mem_append_right _ (.tail _ mT)))))))
    have N7 := newsCons N6 (.tail _ (.tail _ (.tail _ (.tail _ (.tail _ (.tail _ (List.mem_append_right _ (.tail _ mx))))))))
    clear F5 N5 N6 F3 N4
    walk_at "mine steps"
    · rename ([(p : Int)].getD (Int.toNat 0) 0 < _) => hpl
      have hpl' : p < l.length := by
        have : (p : Int) < (l.length : Int) := hpl
        omega
      rename Fr g L' _ _ => F8
      rename News g L' _ _ => N8
      have hIlp : I ≠ lp := Ne.symm (hoff _ (.tail _ (.head _)))
      have hIdx : I ≠ dx := Ne.symm (hoff _ (.tail _ (.tail _ (.head _))))
      have hIlt : I ≠ lt := Ne.symm (hoff _ (.head _))
      have tlp : ∀ q ∈ tl, q.1 ≠ lp := offTup N8 (by walk_at "mine mem") (.inl rfl) htl (by walk_at "mine sub")
      have tdx : ∀ q ∈ tl, q.1 ≠ dx := offTup N8 (by walk_at "mine mem") (.inr rfl) htl (by walk_at "mine sub")
      have tlt : ∀ q ∈ tl, q.1 ≠ lt := offTup N8 (by walk_at "mine mem") (.inl rfl) htl (by walk_at "mine sub")
      refine wpAny_call (get_token_code (p := p) (V := (I, oI) :: (lt, listOf vs.toArray nv) :: (tl ++ (168, tabObj ps2) :: W)) F8 ⟨tp, np, tkk, newsSub N8 (by walk_at "mine sub")⟩ ⟨X', T'⟩ (a.deeper _) LW
        (fun q hq => .tail _ (.tail _ (List.mem_append_right _ (.tail _ hq)))) (List.forall_mem_cons.mpr ⟨hIlp, List.forall_mem_cons.mpr ⟨hltlp, offApp tlp hWlp⟩⟩) (List.forall_mem_cons.mpr ⟨hIdx, List.forall_mem_cons.mpr ⟨hltdx, offApp tdx hWdx⟩⟩) hp9 (by omega) ?_)
      intro t9 h9 tk9 F9 N9
      clear F8 N8
      obtain ⟨tp2, np2, tkk2, N9⟩ := N9
      have hle : p + (tok (l.drop p)).2 ≤ l.length := tellAt_le l hp9
      have N10 := newsCons N9 (.tail _ (.tail _ (.tail _ (.tail _ (List.mem_append_right _ (.tail _ mP))))))
      have N11 := newsCons N10 (.tail _ (.tail _ (.tail _ (.tail _ (.tail _ (List.mem_append_right _ (.tail _ mx)))))))
      clear N9 N10
      generalize hp2 : p + (tok (l.drop p)).2 = p2 at *
      have N12 : News g L' h9 ((lt, listOf vs.toArray nv) :: (x, instObj 73 dx) :: (L' + 1 + 1, oP) :: (lp, listOf #[Value.int (p2 : Int) tp2] np2) :: (dx, lexD w TT fl pb ((1 + nl (l.take p2) : Nat) : Int) tkk2) :: (I, oI) :: (tl ++ (168, tabObj ps2) :: W)) := newsSub N11 (by walk_at "mine sub")
      have hR9 : ∀ q ∈ (x, instObj 73 dx) :: (L' + 1 + 1, oP) :: (lp, listOf #[Value.int (p2 : Int) tp2] np2) :: (dx, lexD w TT fl pb ((1 + nl (l.take p2) : Nat) : Int) tkk2) :: (I, oI) :: (tl ++ (168, tabObj ps2) :: W), q.1 ≠ lt := by
        simp only [List.forall_mem_cons]
        exact ⟨hWlt _ (.tail _ mx), hWlt _ (.tail _ mP), Ne.symm hltlp, Ne.symm hltdx, hIlt, offApp tlt hWlt⟩
      clear N11
      have hvs9 : vs.length ≤ 1000 := by
        have h1 := rd_length l i
        have h2 := hvs.length
        omega
      walk_at "mine steps"
      rename Fr g L' _ _ => F13
      rename News g L' _ _ => N13
      rename_i D _ _ _ _ _
      rename (lt < D ∧ _) => l13
      obtain ⟨l13a, l13b, l13c, l13d, l13e, l13f, l13g⟩ := l13
      have er : rd l (i + 1) = (p2, (rd l i).2 ++ [tellAt l p]) := by
        rw [rd, hpp, if_pos hpl']; unfold tellAt; rw [hp2]
      rw [List.push_toArray] at N13
      obtain ⟨u1, u2, N14⟩ : ∃ u1 u2, News g L' _ ((I, oI) :: (lt, listOf (vs ++ [Value.ref D]).toArray (nv + 1)) :: (lp, listOf #[Value.int (p2 : Int) tp2] np2) :: (dx, lexD w TT fl pb ((1 + nl (l.take p2) : Nat) : Int) tkk2) :: (((D, tupO [.str (S (tok (l.drop p)).1) t9, .int (p2 : Int) u1, .int ((1 + nl (l.take p2) : Nat) : Int) u2] 0) :: tl) ++ (168, tabObj ps2) :: W)) := by
        refine' ⟨_, _, newsSub N13 ?hh⟩
        case hh => walk_at "mine sub"
      clear N13
      refine ⟨_, _, _, _, rfl, F13, N14, ?_, vs ++ [Value.ref D], nv + 1, (D, tupO [.str (S (tok (l.drop p)).1) t9, .int (p2 : Int) u1, .int ((1 + nl (l.take p2) : Nat) : Int) u2] 0) :: tl, tp2, np2, tkk2, by rw [er], ?_, ?_, by walk_at "mine has"⟩
      · intro q hq
        rcases List.mem_cons.mp hq with rfl | hq
        · exact Ne.symm hIlt
        rcases List.mem_cons.mp hq with rfl | hq
        · exact Ne.symm hIlp
        rcases List.mem_cons.mp hq with rfl | hq
        · exact Ne.symm hIdx
        rcases List.mem_append.mp hq with hq | hq
        · rcases List.mem_cons.mp hq with rfl | hq
          · exact Nat.ne_of_gt l13f
          · exact hoff q (.tail _ (.tail _ (.tail _ (List.mem_append_left _ hq))))
        · exact hoff q (.tail _ (.tail _ (.tail _ (List.mem_append_right _ hq))))
      · rw [er]
        refine AllIn.append (AllIn.mono (fun v u hu => hu.mono fun q hq => .tail _ hq) hvs) ⟨⟨D, 0, t9, u1, u2, rfl, ?_⟩, trivial⟩
        unfold tellAt
        rw [hp2]
        exact .head _
      · exact List.forall_mem_cons.mpr ⟨rfl, htl⟩
    · rename ¬ ([(p : Int)].getD (Int.toNat 0) 0 < _) => hpl
      have hpl' : ¬ p < l.length := by
        have : ¬ (p : Int) < (l.length : Int) := hpl
        omega
      rename Fr g L' _ _ => F8
      rename News g L' _ _ => N8
      have er : rd l (i + 1) = rd l i := by rw [rd, hpp, if_neg hpl']
      refine ⟨_, _, _, _, rfl, F8, newsSub (l' := (I, oI) :: (lt, listOf vs.toArray nv) :: (lp, listOf #[.int (p : Int) tp] np) :: (dx, lexD w TT fl pb ((1 + nl (l.take p) : Nat) : Int) tkk) :: (tl ++ (168, tabObj ps2) :: W)) N8 (by walk_at "mine sub"), hoff, vs, nv, tl, tp, np, tkk, by rw [er, hpp], by rw [er]; exact hvs, htl, by walk_at "mine has"⟩
  · rintro m₁ nx₁ h t' ⟨vs, nv, tl, tp, np, tkk, rfl, hvs, htl, hm⟩ F5 N5
    have hp9 := rd_le l l.length
    have F6 := frHas F5 hm
    dsimp only [mp] at F6
    have hra : readAll l = (rd l l.length).2 ++ [tellAt l (rd l l.length).1] := rfl
    generalize hpp : (rd l l.length).1 = p at *
    have N7 := newsCons (newsCons N5 (.tail _ (.tail _ (.tail _ (List.mem_append_right _ (.tail _ mP)))))) (.tail _ (.tail _ (.tail _ (.tail _ (List.mem_append_right _ (.tail _ mx))))))
    clear F5 N5 F3 N4
    walk_at "mine steps"
    rename Fr g L' _ _ => F8
    rename News g L' _ _ => N8
    have tlp : ∀ q ∈ tl, q.1 ≠ lp := offTup N8 (by walk_at "mine mem") (.inl rfl) htl (by walk_at "mine sub")
    have tdx : ∀ q ∈ tl, q.1 ≠ dx := offTup N8 (by walk_at "mine mem") (.inr rfl) htl (by walk_at "mine sub")
    have tlt : ∀ q ∈ tl, q.1 ≠ lt := offTup N8 (by walk_at "mine mem") (.inl rfl) htl (by walk_at "mine sub")
    refine wpAny_call (get_token_code (p := p) (V := (lt, listOf vs.toArray nv) :: (tl ++ (168, tabObj ps2) :: W)) F8 ⟨tp, np, tkk, newsSub N8 (by walk_at "mine sub")⟩ ⟨X', T'⟩ (a.deeper _) LW
      (fun q hq => .tail _ (List.mem_append_right _ (.tail _ hq))) (List.forall_mem_cons.mpr ⟨hltlp, offApp tlp hWlp⟩) (List.forall_mem_cons.mpr ⟨hltdx, offApp tdx hWdx⟩) hp9 (by omega) ?_)
    intro t9 h9 tk9 F9 N9
    clear F8 N8
    obtain ⟨tp2, np2, tkk2, N9⟩ := N9
    have N10 := newsCons N9 (.tail _ (.tail _ (.tail _ (List.mem_append_right _ (.tail _ mP)))))
    have N11 := newsCons N10 (.tail _ (.tail _ (.tail _ (.tail _ (List.mem_append_right _ (.tail _ mx))))))
    clear N9 N10
    generalize hp2 : p + (tok (l.drop p)).2 = p2 at *
    have N12 : News g L' h9 ((lt, listOf vs.toArray nv) :: (x, instObj 73 dx) :: (L' + 1 + 1, oP) :: (lp, listOf #[Value.int (p2 : Int) tp2] np2) :: (dx, lexD w TT fl pb ((1 + nl (l.take p2) : Nat) : Int) tkk2) :: (tl ++ (168, tabObj ps2) :: W)) := newsSub N11 (by walk_at "mine sub")
    clear N11
    have hvs9 : vs.length ≤ 1000 := by
      have h1 := rd_length l l.length
      have h2 := hvs.length
      omega
    walk_at "mine steps"
    rename Fr g L' _ _ => F13
    rename News g L' _ _ => N13
    rename_i D _ _ _ _ _ _ _ lr _ _
    have hWR : ∀ q ∈ (fr, (⟨.type "function", none, .func fdr, #[]⟩ : Obj)) :: (L' + 1 + 1, oP) :: (L' + 1, oT) :: T, q ∈ W := by
      rw [← hW]; walk_at "mine sub"
    generalize hRR : (fr, (⟨.type "function", none, .func fdr, #[]⟩ : Obj)) :: (L' + 1 + 1, oP) :: (L' + 1, oT) :: T = R at hR hWR
    have hRr : ∀ q ∈ rest, q ∈ R := by rw [← hRR]; walk_at "mine sub"
    have hRr' : ∀ q ∈ rest, q ∈ W := fun q hq => hWR q (hRr q hq)
    obtain ⟨u1, u2, N14⟩ : ∃ u1 u2, News g L' _ ((168, tabObj ps2) :: (lr, listOf (vs ++ [Value.ref D]).toArray 0) :: (((D, tupO [.str (S (tok (l.drop p)).1) t9, .int (p2 : Int) u1, .int ((1 + nl (l.take p2) : Nat) : Int) u2] 0) :: (tl ++ R)) ++ rest)) := by
      refine' ⟨_, _, newsSub N13 ?hh⟩
      case hh => walk_at "mine sub"
    try dsimp only at N14
    clear N13
    have k168 : ∀ (a : Addr) (o : Obj), (a, o) ∈ (168, tabObj ps2) :: (lr, listOf (vs ++ [Value.ref D]).toArray 0) :: (((D, tupO [.str (S (tok (l.drop p)).1) t9, .int (p2 : Int) u1, .int ((1 + nl (l.take p2) : Nat) : Int) u2] 0) :: (tl ++ R)) ++ rest) → o.cls = .type "tuple" ∨ o.cls = .type "list" → a ≠ 168 := by
      rintro a o hao hc rfl
      have := news_same N14 hao (.head _)
      subst this
      rcases hc with hc | hc <;> cases hc
    refine leaveK_ F13 N14 (fun kF kN => ret _ _ _ _ _ _ _ kF kN ?_ ?_ ?_ ?_)
    · exact hR.mono fun q hq => List.mem_append_left _ (.tail _ (List.mem_append_right _ hq))
    · intro q hq
      rcases List.mem_cons.mp hq with rfl | hq
      · exact k168 _ _ (.tail _ (.tail _ (.head _))) (.inl rfl)
      rcases List.mem_append.mp hq with hq | hq
      · exact k168 q.1 q.2 (.tail _ (.tail _ (List.mem_append_left _ (.tail _ (List.mem_append_left _ hq))))) (.inl (htl q hq))
      · exact hm168 q (hWR q hq)
    · exact k168 _ _ (.tail _ (.head _)) (.inr rfl)
    · rw [hra]
      refine AllIn.append (AllIn.mono (fun v u hu => hu.mono fun q hq => .tail _ (List.mem_append_left _ hq)) hvs) ⟨⟨D, 0, t9, u1, u2, rfl, ?_⟩, trivial⟩
      unfold tellAt
      rw [hp2]
      exact .head _
end

-- part MLeft
section
open PyProof.Rows.LCg PyProof.Rows.LCt
inductive LeftJ (us : List U) (ll lm lu : Addr) (L' : Nat) (ms vs : List Value) (nu : Nat) (oU : Obj) (news : List (Addr × Obj)) (i : Nat) (m : Str → Option Value) (nx : List (Addr × Obj)) : Prop
  | mk (vl : List Value) (nl : Nat) (o : Obj) (c : Option Value) (e : nx = (ll, listOf vl.toArray nl) :: (lm, lst ms) :: (lu, listOf vs.toArray nu) :: (L' + 1 + 1, o) :: (L' + 1, oU) :: news) (ho : o.data = .cell c) (a : AllIn (UIn news) vl (leftTo us (markS us) i))
      (hm : Has m [(Str.ofString "left", .ref ll), (Str.ofString "marks", .ref lm)]) : LeftJ us ll lm lu L' ms vs nu oU news i m nx
theorem left_call {w : World} {A : Around} {s : Shared} {h₀ : Heap} {L : Addr} {m : Str → Option Value} {news : List (Addr × Obj)} {mean : ExcName → Option Value} {mg mb : Str → Option Value} {Q E : Value → Shared → Prop}
   {lu : Addr} {vs : List Value} {nu : Nat} {us : List U}
   (F : Fr h₀ L s.heap m) (N : News h₀ L s.heap news) (G : GD w mean mg mb h₀) (a : AOk A 2) (hlu : (lu, listOf vs.toArray nu) ∈ news) (hus : AllIn (UIn news) vs us)
   (hn : us.length ≤ 100)
   (ret : ∀ ll vl nl h' tk', Fr h₀ L h' m → News h₀ L h' ((ll, listOf vl.toArray nl) :: news) → AllIn (UIn news) vl (leftOf us) → Q (.ref ll) { s with heap := h', toks := tk' })
   : wpAny (model PySem.Challenge.rw_tr0040_01.row.prog w) A (call (.ref 138) [.ref lu]) Q E s := by
  obtain ⟨X, T⟩ := G
  obtain ⟨ah, dp, fr, gd, un⟩ := A
  obtain ⟨rfl⟩ : ah = none := a.hh
  have aD := a.hd; have aU := a.hu
  dsimp only at aD aU
  refine wpAny_call ?_
  refine' enterC (binds := [(Str.ofString "units", .ref lu)]) F N X T.nolimit ?k1 ?k3 ?k4 ?k5 ?k6 ?k11 ?_ ?k7 ?k8 ?k9
  case k4 => exact Nat.lt_of_le_of_lt (Nat.le_add_right _ _) a.hd
  walk_at "mine sidesC"
  intro g L' h₁ tk cells FG F' N' Y st hlt
  have X' := X.keeps st
  have T' := T.keeps st
  clear X T F N FG st
  k_cells Y
  simp only [List.cons_append, List.nil_append] at N'
  rename_i oK oU dK dU
  replace dK : oK.data = .cell none := dK
  replace dU : oU.data = .cell (some (.ref lu)) := dU
  have N1 : News g L' h₁ ((lu, listOf vs.toArray nu) :: (L' + 1 + 1, oK) :: (L' + 1, oU) :: news) := newsCons N' (.tail _ (.tail _ hlu))
  clear N'
  refine wpAny_execs_cons ?_
  refine LCt.Assign_ListComp_T (F₀ := by k_asm) (by rfl) (by with_unfolding_all rfl) (by with_unfolding_all rfl) (by decide) (by rfl) (by decide) (by rfl) (by rfl) (by rfl) ?_
  have hvl := hus.length
  iterate 13 (walk_at "mine step")
  rename Fr g _ _ _ => F2; rename News g _ _ _ => N2; rename IsRange _ _ _ _ _ _ _ _ => R2
  refine CompSrcT.range (n := us.length) rfl F2 N2 R2 ?_ ?_ ?_ ?_
  · exact small_one (by omega) (by omega) (by omega) (by omega)
  · rw [rangeSize_one]; have := hus.length; split <;> omega
  · rw [sizeLine_eq]; omega
  intro gg
  refine restT_run (fun i ys nx => nx = (lu, listOf vs.toArray nu) :: (L' + 1 + 1, oK) :: (L' + 1, oU) :: news ∧ AllIn NIn ys (marksTo us i)) ?_ ?_ _ 0 [] _ (Nat.zero_add _) ⟨rfl, trivial⟩
  · rintro i ys nx v I oI C oC D m₂ h tk E' hi ⟨rfl, hys⟩ ⟨tv, rfl⟩ hC hx F3 N3 off ne
    obtain ⟨u, hu⟩ : ∃ u, us[i]? = some u := ⟨_, List.getElem?_eq_getElem hi⟩
    obtain ⟨v, hv, hvu⟩ := hus.at hu
    have hv2 : vs[(0 + (i : Int)).toNat]? = some v := by rw [show (0 + (i : Int)).toNat = i by omega]; exact hv
    obtain ⟨ta, tn, tt, rfl, htm⟩ := hvu
    have N4 := newsCons N3 (.tail _ (.tail _ (.tail _ (.tail _ (.tail _ (.tail _ htm))))))
    obtain ⟨ue, us'⟩ := u
    dsimp only at N4
    iterate 16 (walk_at "mine step")
    · rename Fr g _ _ _ => F5
      rename News g _ _ _ => N5
      rename ((ue, us') = (false, [34])) => hq
      refine CompEnd.intro F5 N5 ((lu, listOf vs.toArray nu) :: (L' + 1 + 1, oK) :: (L' + 1, oU) :: news) (by walk_at "mine sub") off trivial ⟨rfl, ?_⟩
      show AllIn NIn _ (marksTo us i ++ _)
      rw [hu, hq, if_pos rfl]
      exact hys.append ⟨⟨tv, by rw [Int.zero_add]⟩, trivial⟩
    · rename Fr g _ _ _ => F5
      rename News g _ _ _ => N5
      rename (¬ (ue, us') = (false, [34])) => hq
      refine CompEnd.intro F5 N5 ((lu, listOf vs.toArray nu) :: (L' + 1 + 1, oK) :: (L' + 1, oU) :: news) (by walk_at "mine sub") off trivial ⟨rfl, ?_⟩
      show AllIn NIn _ (marksTo us i ++ _)
      rw [hu, if_neg (fun q => hq (Option.some.inj q)), List.append_nil]
      exact hys
  · rintro ms nx ⟨rfl, hms⟩ lm h3 tk3 F3 N3 off3
    iterate 22 (walk_at "mine step")
    rename Fr g L' _ _ => F5
    rename News g L' _ _ => N5
    rename IsRange _ _ _ _ _ _ _ _ => R5
    rename_i ll _ _ _ _ _ _ _ _ _ _ _ _ _
    have hml : ms.length = (markS us).length := hms.length
    have hlll : (lm ≠ ll) ∧ (lu ≠ ll) ∧ (L' + 1 ≠ ll) ∧ ∀ p ∈ news, p.1 ≠ ll := by
      rename (lm < ll ∧ _) => l1
      exact ⟨Nat.ne_of_lt l1.1, Nat.ne_of_lt l1.2.1, Nat.ne_of_lt l1.2.2.2.1, fun p hp => Nat.ne_of_lt (Nat.lt_trans (hlt p hp) (Nat.lt_trans (Nat.lt_succ_self _) l1.2.2.2.1))⟩
    refine it_range (n := us.length) rfl F5 N5 R5 ?_ ?_ (LeftJ us ll lm lu L' ms vs nu oU news) ?_ ?_ ?_
    · exact small_one (by omega) (by omega) (by omega) (by omega)
    · rw [rangeSize_one]; split <;> omega
    · exact ⟨[], 0, _, _, rfl, dK, trivial, by walk_at "mine has"⟩
    · rintro i tv m₁ nx₁ I oI h t' hi ⟨vl, nl, o, c, rfl, ho, hvl', hm⟩ hoff F6 N6
      have F7 := frHas F6 hm
      dsimp only [mp] at F7
      have N7 := newsCons N6 (show (L' + 1 + 1, o) ∈ _ by walk_at "mine mem")
      have N8 : News g L' h ((L' + 1 + 1, o) :: (I, oI) :: (ll, listOf vl.toArray nl) :: (lm, lst ms) :: (lu, listOf vs.toArray nu) :: (L' + 1, oU) :: news) := newsSub N7 (by walk_at "mine sub")
      clear F6 F5 N5 R5 N6 N7
      iterate 1 (walk_at "mine step")
      refine storeX_C F7 N8 rfl (UpdF.head ?_) ho ?_ rfl rfl
      · simp only [List.forall_mem_cons]
        exact ⟨Ne.symm (hoff (L' + 1 + 1, o) (by walk_at "mine mem")), cellNe N8 (by walk_at "mine mem") (.head _) ho, cellNe N8 (by walk_at "mine mem") (.head _) ho, cellNe N8 (by walk_at "mine mem") (.head _) ho, neN (by omega), fun p hp => Nat.ne_of_lt (Nat.lt_trans (hlt p hp) (by omega))⟩
      intro h8 o8 F8 N9 ho8
      rw [show ((0 : Int) + (i : Int) * 1) = (i : Int) by omega] at ho8
      iterate 7 (walk_at "mine step")
      refine LCt.ListComp_T (F₀ := by k_asm) (by with_unfolding_all rfl) (by decide) (by rfl) (by decide) (by rfl) ?_
      iterate 1 (walk_at "mine step")
      refine CompSrcT.ledger (k := ms.length) (its := ms.toArray) rfl F8 N9 (by walk_at "mine mem") (by rw [List.size_toArray, sizeLine_eq]; have := marksTo_length us us.length; have := hml; unfold markS at this; omega) ?_
      intro g8
      refine restT_run (fun j ys nx => nx = (L' + 1 + 1, o8) :: (I, oI) :: (ll, listOf vl.toArray nl) :: (lm, lst ms) :: (lu, listOf vs.toArray nu) :: (L' + 1, oU) :: news ∧ AllIn NIn ys (((markS us).take j).filter fun m => decide (m < i))) ?_ ?_ _ 0 [] _ (Nat.zero_add _) ⟨rfl, trivial⟩
      · rintro j ys nx v I2 oI2 C oC D m₂ h9 tk9 E' hj ⟨rfl, hys⟩ hv hC hx F10 N10 off ne
        obtain ⟨u, hu, tv2, rfl⟩ := hms.get (show ms[j]? = some v by simpa using hv)
        have hu' : (markS us)[j]? = some u := hu
        iterate 6 (walk_at "mine step")
        · iterate 1 (walk_at "mine step")
          rename ((u : Int) < (i : Int)) => hlt9
          refine CompEnd.intro F10 N10 ((L' + 1 + 1, o8) :: (I, oI) :: (ll, listOf vl.toArray nl) :: (lm, lst ms) :: (lu, listOf vs.toArray nu) :: (L' + 1, oU) :: news) (by walk_at "mine sub") off (srcIn (n := ms.length) (by walk_at "mine mem")) ⟨rfl, ?_⟩
          rw [List.take_add_one, hu', List.filter_append]
          refine hys.append ?_
          rw [show (some u).toList.filter (fun m => decide (m < i)) = [u] by simp; omega]
          exact ⟨⟨tv2, rfl⟩, trivial⟩
        · rename (¬ (u : Int) < (i : Int)) => hlt9
          refine CompEnd.intro F10 N10 ((L' + 1 + 1, o8) :: (I, oI) :: (ll, listOf vl.toArray nl) :: (lm, lst ms) :: (lu, listOf vs.toArray nu) :: (L' + 1, oU) :: news) (by walk_at "mine sub") off (srcIn (n := ms.length) (by walk_at "mine mem")) ⟨rfl, ?_⟩
          rw [List.take_add_one, hu', List.filter_append, show (some u).toList.filter (fun m => decide (m < i)) = [] by simp; omega, List.append_nil]
          exact hys
      · rintro as nx ⟨rfl, has⟩ la h9 tk9 F10 N10 off9
        rw [show ms.toArray.size = (markS us).length by rw [List.size_toArray]; exact hml, List.take_length] at has
        have hal : as.length = aheadOf (markS us) i := has.length
        have hale := aheadOf_le (markS us) i
        have hmle : (markS us).length ≤ us.length := marksTo_length us us.length
        have N11 : News g L' h9 ((ll, listOf vl.toArray nl) :: (la, lst as) :: (L' + 1 + 1, o8) :: (I, oI) :: (lm, listOf ms.toArray ms.length) :: (lu, listOf vs.toArray nu) :: (L' + 1, oU) :: news) := newsSub N10 (by walk_at "mine sub")
        have hR : ∀ p ∈ (la, lst as) :: (L' + 1 + 1, o8) :: (I, oI) :: (lm, listOf ms.toArray ms.length) :: (lu, listOf vs.toArray nu) :: (L' + 1, oU) :: news, p.1 ≠ ll := by
          simp only [List.forall_mem_cons]
          exact ⟨Ne.symm (off1 off9 (ll, listOf vl.toArray nl) (by walk_at "mine mem")), Ne.symm (cellNe N11 (.head _) (by walk_at "mine mem") ho8), Ne.symm (hoff (ll, listOf vl.toArray nl) (by walk_at "mine mem")), hlll.1, hlll.2.1, hlll.2.2.1, hlll.2.2.2⟩
        obtain ⟨u, hu⟩ : ∃ u, us[i]? = some u := ⟨_, List.getElem?_eq_getElem hi⟩
        obtain ⟨v, hv, hvu⟩ := hus.at hu
        have hv2 : vs[((i : Int)).toNat]? = some v := hv
        have hml2 : (markS us).length = ms.length := hml.symm
        have hvll := leftTo_length us (markS us) i
        have hvll2 := hvl'.length
        have hofn : ∀ (ob : Obj) (oc : Obj), ∀ p ∈ (ll, ob) :: (lm, lst ms) :: (lu, listOf vs.toArray nu) :: (L' + 1 + 1, oc) :: (L' + 1, oU) :: news, p.1 ≠ I := fun ob oc => by
          simp only [List.forall_mem_cons] at hoff ⊢
          exact hoff
        walk_at "mine steps"
        · rename Fr g _ _ _ => F12
          rename News g _ _ _ => N12
          have e := left_in (shown1 hal (by assumption) (by assumption)) hu
          rw [List.push_toArray] at N12
          refine ⟨_, _, _, _, rfl, F12, newsSub (l' := (I, oI) :: (ll, listOf (vl ++ [v]).toArray (nl + 1)) :: (lm, lst ms) :: (lu, listOf vs.toArray nu) :: (L' + 1 + 1, o8) :: (L' + 1, oU) :: news) N12 (by walk_at "mine sub"), hofn _ _, vl ++ [v], nl + 1, o8, _, rfl, ho8, ?_, by walk_at "mine has"⟩
          rw [e]
          exact hvl'.append ⟨hvu, trivial⟩
        · rename Fr g _ _ _ => F12
          rename News g _ _ _ => N12
          have e := left_in (shown2 hal hml (by assumption) (by assumption)) hu
          rw [List.push_toArray] at N12
          refine ⟨_, _, _, _, rfl, F12, newsSub (l' := (I, oI) :: (ll, listOf (vl ++ [v]).toArray (nl + 1)) :: (lm, lst ms) :: (lu, listOf vs.toArray nu) :: (L' + 1 + 1, o8) :: (L' + 1, oU) :: news) N12 (by walk_at "mine sub"), hofn _ _, vl ++ [v], nl + 1, o8, _, rfl, ho8, ?_, by walk_at "mine has"⟩
          rw [e]
          exact hvl'.append ⟨hvu, trivial⟩
        · rename Fr g _ _ _ => F12
          rename News g _ _ _ => N12
          have e := left_out (us := us) (shown3 hal hml (by assumption) (by assumption) (by assumption))
          refine ⟨_, _, _, _, rfl, F12, newsSub (l' := (I, oI) :: (ll, listOf vl.toArray nl) :: (lm, lst ms) :: (lu, listOf vs.toArray nu) :: (L' + 1 + 1, o8) :: (L' + 1, oU) :: news) N12 (by walk_at "mine sub"), hofn _ _, vl, nl, o8, _, rfl, ho8, ?_, by walk_at "mine has"⟩
          rw [e]
          exact hvl'
        · rename Fr g _ _ _ => F12
          rename News g _ _ _ => N12
          have e := left_in (shown4 hal hml (by assumption) (by assumption)) hu
          rw [List.push_toArray] at N12
          refine ⟨_, _, _, _, rfl, F12, newsSub (l' := (I, oI) :: (ll, listOf (vl ++ [v]).toArray (nl + 1)) :: (lm, lst ms) :: (lu, listOf vs.toArray nu) :: (L' + 1 + 1, o8) :: (L' + 1, oU) :: news) N12 (by walk_at "mine sub"), hofn _ _, vl ++ [v], nl + 1, o8, _, rfl, ho8, ?_, by walk_at "mine has"⟩
          rw [e]
          exact hvl'.append ⟨hvu, trivial⟩
        · rename Fr g _ _ _ => F12
          rename News g _ _ _ => N12
          have e := left_out (us := us) (shown5 hal hml (by assumption) (by assumption))
          refine ⟨_, _, _, _, rfl, F12, newsSub (l' := (I, oI) :: (ll, listOf vl.toArray nl) :: (lm, lst ms) :: (lu, listOf vs.toArray nu) :: (L' + 1 + 1, o8) :: (L' + 1, oU) :: news) N12 (by walk_at "mine sub"), hofn _ _, vl, nl, o8, _, rfl, ho8, ?_, by walk_at "mine has"⟩
          rw [e]
          exact hvl'
    · rintro m₁ nx₁ h t' ⟨vl, nl, o, c, rfl, ho, hvl', hm⟩ F6 N6
      have F7 := frHas F6 hm
      dsimp only [mp] at F7
      clear F6 F5 N5
      walk_at "mine steps"
      dsimp only
      exact leaveK_ F7 N6 (fun kF kN => ret _ _ _ _ _ kF (newsSub kN (by walk_at "mine sub")) hvl')
end

-- part MText
section
theorem ne_nil {prog : Program} {w : World} {A : Around} {s : Shared} {E Q : Value → Shared → Prop} {ax b : Addr} {vs : List Value} (hl : s.heap.IsList ax vs.toArray) (hb : s.heap.IsList b #[]) (hu : A.units < cLine)
    (h : Q (.bool (decide (vs ≠ []))) s) : wpAny (model prog w) A (compareOp .NotEq (.ref ax) (.ref b)) Q E s := by
  by_cases e : vs = []
  · subst e
    exact PySem.SeqAt.RcNeAt.lists (items := #[]) (items2 := #[]) (e := fun _ => true) hl hb rfl hu (fun j h1 _ => absurd h1 (Nat.not_lt_zero _)) prog w E Q (by simpa using h)
  · refine PySem.SeqAt.RcNeAt.lists_lengths hl hb (by cases vs with | nil => exact absurd rfl e | cons => simp) hu prog w E Q ?_
    have : decide (vs ≠ []) = true := decide_eq_true e
    rw [this] at h; exact h
local macro_rules | `(tactic| walk_at "compareOp NotEq ref ref") => `(tactic| ((try dsimp only); k_dflt (refine' ne_nil (Fr.lst ?k1 (by assumption)) (News.isList ?k2 ?k3) ?k4 ?_; (case k1 => k_asm); (case k2 => k_asm); (case k3 => k_mem); (case k4 => (simp only [units_deeper]; omega)))))
def piecesL : List Str := [Str.ofString "\"", Str.ofString "\\", Str.ofString " ", Str.ofString "\n", Str.ofString "\x0d", Str.ofString "\t", Str.ofString "&", Str.ofString "<", Str.ofString ">", Str.ofString "a", Str.ofString "b", Str.ofString "\x0b", Str.ofString "\x0c", Str.ofString "\\\"", Str.ofString "\\ ", Str.ofString "\" ", Str.ofString "\\\\", Str.ofString "\\<", Str.ofString "&lt;", Str.ofString "\\\n"]
/-- a value is this text -/
def StrIs (v : Value) (x : Str) : Prop := ∃ t, v = .str x t
theorem pieces_len : ∀ x ∈ piecesL, x.length ≤ 4 := by decide
theorem text_led {h₀ h : Heap} {L lx lp : Addr} {q : Addr × Obj} {ws ts : List Value} {n k : Nat} {ks : List Int} {news : List (Addr × Obj)} {P : Prop} (N : News h₀ L h ((lx, listOf ws.toArray n) :: q :: (lp, listOf ts.toArray k) :: news)) (hi : IntsAre ws ks) (hk : ks.length ≤ 6) (hts : AllIn StrIs ts piecesL)
    (c : ∀ ws ks n ts k, News h₀ L h ((lx, listOf ws.toArray n) :: (lp, listOf ts.toArray k) :: news) → IntsAre ws ks → ks.length ≤ 6 → AllIn StrIs ts piecesL → P) : P :=
  c _ _ _ _ _ (newsSub N (sub_cons (.head _) (sub_cons (.tail _ (.tail _ (.head _))) (sub_drop (sub_drop (sub_drop sub_self)))))) hi hk hts
theorem ints_get : ∀ {ws : List Value} {ks : List Int} {i : Nat} {v : Value}, IntsAre ws ks → ws[i]? = some v → ∃ z t, v = .int z t
  | _, _, 0, _, .cons z t _, e => ⟨z, t, (Option.some.inj e).symm⟩
  | _, _, i + 1, _, .cons _ _ r, e => ints_get (i := i) r e
  | _, _, _, _, .nil, e => by simp at e
theorem ints_len : ∀ {ws : List Value} {ks : List Int}, IntsAre ws ks → ws.length = ks.length
  | _, _, .cons _ _ r => by rw [List.length_cons, List.length_cons, ints_len r]
  | _, _, .nil => rfl
theorem add_S2 {prog : Program} {w : World} {A : Around} {s : Shared} {Q E : Value → Shared → Prop} {a : List Nat} {y : Str} {t u : Tok} (hsz : a.length ≤ 1000) (hy : y.length ≤ 4) (h : ∀ t' k l, l.length ≤ a.length + 4 → Q (.str (S l) t') { s with toks := k }) : wpAny (model prog w) A (binaryOp .Add (.str (S a) t) (.str y u)) Q E s := by
  rw [S_of y]
  have e : y.length = y.cps.toList.length := by simp [Str.length]
  exact add_S (by omega) fun t' k => h t' k _ (by rw [List.length_append]; omega)
theorem slice_ten (l : List Nat) : Txt.slice (S l) none (some (10 : Int)) = S (l.take 10) := by
  have := slice_core l 0 (min l.length 10) (Nat.zero_le _) (Nat.min_le_left _ _) (lo := none) (hi := some (10 : Int)) (by
    unfold Builtin.Str.strSliceIndices
    simp only [show (1 : Int) > 0 by decide, if_true]
    congr 1; split <;> omega)
  rw [this]
  congr 1
  simp only [List.drop_zero, Nat.sub_zero]
  by_cases h : 10 ≤ l.length
  · rw [Nat.min_eq_right h]
  · rw [Nat.min_eq_left (by omega), List.take_of_length_le (Nat.le_refl _), List.take_of_length_le (by omega)]
local macro_rules | `(tactic| walk_at "binaryOp Add str str") => `(tactic| ((try dsimp only); k_dflt (refine' add_S2 ?k1 ?k2 ?_; (case k1 => omega); (case k2 => first | with_reducible assumption | exact Nat.le_of_ble_eq_true rfl)); intro _ _ _ _; try dsimp only))
local macro_rules | `(tactic| walk_at "subscriptTail Name BinOp ref int") => `(tactic| ((try dsimp only); k_dflt (refine' item_L ?k1 ?k2 ?k3 ?k4 ?k5 ?_; (case k1 => k_asm); (case k2 => k_mem); (case k3 => with_reducible assumption); (case k4 => omega); (case k5 => omega)); try dsimp only))
inductive TextJ (lx lp : Addr) (ws ts : List Value) (n k : Nat) (news : List (Addr × Obj)) (i : Nat) (m : Str → Option Value) (nx : List (Addr × Obj)) : Prop
  | mk (e : nx = (lx, listOf ws.toArray n) :: (lp, listOf ts.toArray k) :: news) (l : List Nat) (t : Tok) (hl : l.length ≤ 4 * i) (hm : Has m [(Str.ofString "text", .str (S l) t), (Str.ofString "pieces", .ref lp)]) : TextJ lx lp ws ts n k news i m nx
theorem text_call {w : World} {A : Around} {s : Shared} {h₀ : Heap} {L : Addr} {m : Str → Option Value} {news : List (Addr × Obj)} {mean : ExcName → Option Value} {mg mb : Str → Option Value} {Q E : Value → Shared → Prop}
   {ax : Addr} {vs : List Value} {ns : List Int}
   (F : Fr h₀ L s.heap m) (N : News h₀ L s.heap news) (G : GD w mean mg mb h₀) (a : AOk A 1) (hl : h₀.IsList ax vs.toArray) (hi : IntsAre vs ns) (hn : ns.length ≤ 63)
   (ret : ∀ l t' h' tk', l.length ≤ 10 → Fr h₀ L h' m → News h₀ L h' news → Q (.str (S l) t') { s with heap := h', toks := tk' })
   : wpAny (model PySem.Challenge.rw_tr0040_01.row.prog w) A (call (.ref 126) [.ref ax]) Q E s := by
  obtain ⟨X, T⟩ := G
  obtain ⟨ah, dp, fr, gd, un⟩ := A
  obtain ⟨rfl⟩ : ah = none := a.hh
  have aD := a.hd; have aU := a.hu
  dsimp only at aD aU
  refine wpAny_call ?_
  refine' enterF (cl := []) (binds := [(Str.ofString "script", .ref ax)]) F N X T.nolimit ?k1 ?k3 ?k4 ?k5 ?k6 ?_ ?k7 ?k8 ?k9 ?k10
  case k4 => exact Nat.lt_of_le_of_lt (Nat.le_add_right _ _) a.hd
  walk_at "mine sides"
  intro g L' h₁ tk htk FG F' N' st hlt
  have X' := X.keeps st
  have T' := T.keeps st
  have hl' : g.IsList ax vs.toArray := by obtain ⟨o, e, r⟩ := hl; exact ⟨o, st _ _ e, r⟩
  clear X T F N FG st hl
  walk_at "mine steps"
  · rename Fr g L' _ _ => F2
    rename News g L' _ _ => N2
    rename_i lp _ _ _ _ _ _ _ _ _ _ _ lx _ _ _ _ _ _
    rename IntsAre _ (List.take 6 ns) => hi2
    refine text_led N2 hi2 (by rw [List.length_take]; omega) (by unfold piecesL; repeat (first | exact trivial | refine ⟨⟨_, rfl⟩, ?_⟩)) (fun ws ks n ts k N3 hi3 hks hts => ?_)
    have hwl := ints_len hi3
    have htl := hts.length
    replace htl : ts.length = 20 := htl
    refine it_list rfl F2 N3 (.head _) (TextJ lx lp ws ts n k news) ?_ ?_ ?_ ?_
    · exact ⟨rfl, [], _, Nat.zero_le _, by walk_at "mine has"⟩
    · rintro _ _ _ ⟨rfl, _⟩
      exact .head _
    · rintro i v m₁ nx₁ I oI h t' hv ⟨rfl, l, tt, hll, hm⟩ hoff F5 N5
      have hi6 : i < 6 := by
        have := (List.getElem?_eq_some_iff.mp hv).1
        omega
      have F6 := frHas F5 hm
      dsimp only [mp] at F6
      obtain ⟨z, tz, rfl⟩ := ints_get hi3 hv
      have hz0 : 0 ≤ z.fmod 21 := Int.fmod_nonneg_of_pos z (by decide)
      have hz1 : z.fmod 21 < 21 := Int.fmod_lt_of_pos z (by decide)
      clear F5 F2 N3
      by_cases h20 : z.fmod 21 = 20
      · walk_at "mine steps"
        · rename Fr g L' _ _ => F7
          rename News g L' _ _ => N7
          rename List.length _ ≤ l.length + 4 => hl9
          refine ⟨_, _, _, _, rfl, F7, N7, hoff, rfl, _, _, ?_, by walk_at "mine has"⟩
          omega
      · obtain ⟨y, hy, t9, hts9⟩ : ∃ y, y ∈ piecesL ∧ ∃ t9, ts[(z.fmod 21).toNat]? = some (.str y t9) := by
          have hlt : (z.fmod 21).toNat < piecesL.length := by show _ < 20; omega
          obtain ⟨v, hv, t9, rfl⟩ := hts.at (List.getElem?_eq_getElem hlt)
          exact ⟨_, List.getElem_mem hlt, t9, hv⟩
        have hyl := pieces_len y hy
        walk_at "mine steps"
        · exact absurd (by assumption) h20
        · rename Fr g L' _ _ => F7
          rename News g L' _ _ => N7
          rename List.length _ ≤ l.length + 4 => hl9
          refine ⟨_, _, _, _, rfl, F7, N7, hoff, rfl, _, _, ?_, by walk_at "mine has"⟩
          omega
    · rintro m₁ nx₁ h t' ⟨rfl, l, tt, hll, hm⟩ F5 N5
      have F6 := frHas F5 hm
      dsimp only [mp] at F6
      clear F5 F2 N3
      walk_at "mine step"
      iterate 8 (walk_at "mine step")
      rename Fr g L' _ _ => F7
      rename News g L' _ _ => N7
      refine slice_strN_ns (hsz := by rw [S_length, sizeLine_eq]; omega) (s := ⟨_, _, _, _, _⟩) F7 N7 ?_
      intro h8 t8 k8 F8 N8
      rw [slice_ten]
      walk_at "mine steps"
      dsimp only
      exact leaveK_ F8 N8 (fun kF kN => ret _ _ _ _ (List.length_take_le _ _) kF (newsSub kN (by walk_at "mine sub")))
  · rename Fr g L' _ _ => F2
    rename News g L' _ _ => N2
    rename_i lp _ _ _ _ _ _ _ _ _ _ _ lx _ _
    refine text_led N2 (ks := [0, 2, 13, 0, 6, 3]) (by repeat constructor) (by decide) (by unfold piecesL; repeat (first | exact trivial | refine ⟨⟨_, rfl⟩, ?_⟩)) (fun ws ks n ts k N3 hi3 hks hts => ?_)
    have hwl := ints_len hi3
    have htl := hts.length
    replace htl : ts.length = 20 := htl
    refine it_list rfl F2 N3 (.head _) (TextJ lx lp ws ts n k news) ?_ ?_ ?_ ?_
    · exact ⟨rfl, [], _, Nat.zero_le _, by walk_at "mine has"⟩
    · rintro _ _ _ ⟨rfl, _⟩
      exact .head _
    · rintro i v m₁ nx₁ I oI h t' hv ⟨rfl, l, tt, hll, hm⟩ hoff F5 N5
      have hi6 : i < 6 := by
        have := (List.getElem?_eq_some_iff.mp hv).1
        omega
      have F6 := frHas F5 hm
      dsimp only [mp] at F6
      obtain ⟨z, tz, rfl⟩ := ints_get hi3 hv
      have hz0 : 0 ≤ z.fmod 21 := Int.fmod_nonneg_of_pos z (by decide)
      have hz1 : z.fmod 21 < 21 := Int.fmod_lt_of_pos z (by decide)
      clear F5 F2 N3
      by_cases h20 : z.fmod 21 = 20
      · walk_at "mine steps"
        · rename Fr g L' _ _ => F7
          rename News g L' _ _ => N7
          rename List.length _ ≤ l.length + 4 => hl9
          refine ⟨_, _, _, _, rfl, F7, N7, hoff, rfl, _, _, ?_, by walk_at "mine has"⟩
          omega
      · obtain ⟨y, hy, t9, hts9⟩ : ∃ y, y ∈ piecesL ∧ ∃ t9, ts[(z.fmod 21).toNat]? = some (.str y t9) := by
          have hlt : (z.fmod 21).toNat < piecesL.length := by show _ < 20; omega
          obtain ⟨v, hv, t9, rfl⟩ := hts.at (List.getElem?_eq_getElem hlt)
          exact ⟨_, List.getElem_mem hlt, t9, hv⟩
        have hyl := pieces_len y hy
        walk_at "mine steps"
        · exact absurd (by assumption) h20
        · rename Fr g L' _ _ => F7
          rename News g L' _ _ => N7
          rename List.length _ ≤ l.length + 4 => hl9
          refine ⟨_, _, _, _, rfl, F7, N7, hoff, rfl, _, _, ?_, by walk_at "mine has"⟩
          omega
    · rintro m₁ nx₁ h t' ⟨rfl, l, tt, hll, hm⟩ F5 N5
      have F6 := frHas F5 hm
      dsimp only [mp] at F6
      clear F5 F2 N3
      walk_at "mine step"
      iterate 8 (walk_at "mine step")
      rename Fr g L' _ _ => F7
      rename News g L' _ _ => N7
      refine slice_strN_ns (hsz := by rw [S_length, sizeLine_eq]; omega) (s := ⟨_, _, _, _, _⟩) F7 N7 ?_
      intro h8 t8 k8 F8 N8
      rw [slice_ten]
      walk_at "mine steps"
      dsimp only
      exact leaveK_ F8 N8 (fun kF kN => ret _ _ _ _ (List.length_take_le _ _) kF (newsSub kN (by walk_at "mine sub")))
end

-- part MWl
section
/-- a value is an entry's pair -/
def EIn (news : List (Addr × Obj)) (v : Value) (e : Ent) : Prop := ∃ a n t1 t2, v = .ref a ∧ (a, tupO [.str (S e.1) t1, .int (e.2 : Int) t2] n) ∈ news
theorem EIn.mono {l l' : List (Addr × Obj)} (hs : ∀ p ∈ l, p ∈ l') {v : Value} {u : Ent} (h : EIn l v u) : EIn l' v u := by
  obtain ⟨a, n, t1, t2, e, hm⟩ := h
  exact ⟨a, n, t1, t2, e, hs _ hm⟩
theorem AllIn.replicate {α : Type} {P : Value → α → Prop} {v : Value} {u : α} (h : P v u) : ∀ n, AllIn P (List.replicate n v) (List.replicate n u)
  | 0 => trivial
  | n + 1 => ⟨h, AllIn.replicate h n⟩
theorem AllIn.set {α : Type} {P : Value → α → Prop} {v : Value} {u : α} (h : P v u) : ∀ {vs : List Value} {us : List α} (k : Nat), AllIn P vs us → AllIn P (vs.set k v) (us.set k u)
  | [], [], _, _ => trivial
  | _ :: _, _ :: _, 0, x => ⟨h, x.2⟩
  | _ :: _, _ :: _, k + 1, x => ⟨x.1, AllIn.set h k x.2⟩
  | [], _ :: _, _, x => x.elim
  | _ :: _, [], _, x => x.elim
section
variable {w : World} {A : Around} {s : Shared} {h₀ : Heap} {L : Addr} {m : Str → Option Value} {led : List (Addr × Obj)} {E : Value → Shared → Prop}
theorem rep_L {l : Addr} {v : Value} {n : Nat} {x : Int} {u : Tok} {Q : Value → Shared → Prop} (F : Fr h₀ L s.heap m) (N : News h₀ L s.heap led) (hl : (l, listOf #[v] n) ∈ led) (h0 : 0 ≤ x) (h1 : x ≤ 256)
    (h : ∀ D h', Fr h₀ L h' m → News h₀ L h' ((D, listOf (List.replicate x.toNat v).toArray 0) :: led) → AllLt D led → Q (.ref D) { s with heap := h' }) :
    wpAny (model PySem.Challenge.rw_tr0040_01.row.prog w) A (binaryOp .Mult (.ref l) (.int x u)) Q E s :=
  KMa.mul (vs := [v]) (ws := List.replicate x.toNat v) F N ⟨_, (N _ hl).1, rfl, n, rfl⟩ (by omega) (by omega) (by simp only [List.length_singleton]; omega)
    (by generalize x.toNat = k; induction k with
        | zero => rfl
        | succ k ih => rw [List.replicate_succ, List.flatten_cons, ih]; rfl) (fun D h' F' N' hlt => h D h' F' N' (allLt_of hlt))
end
theorem name9 {h₀ h : Heap} {L : Addr} {a1 a2 a3 a4 a5 a6 a7 a8 a9 : Addr} {o1 o2 o3 o4 o5 o6 o7 o8 o9 : Obj} {r : List (Addr × Obj)} {P : Prop} (_N : News h₀ L h ((a1, o1) :: (a2, o2) :: (a3, o3) :: (a4, o4) :: (a5, o5) :: (a6, o6) :: (a7, o7) :: (a8, o8) :: (a9, o9) :: r))
    (k : ∀ b1 b2 b3 b4 b5 b6 b7 b8 b9, b1 = a1 → b2 = a2 → b3 = a3 → b4 = a4 → b5 = a5 → b6 = a6 → b7 = a7 → b8 = a8 → b9 = a9 → P) : P := k _ _ _ _ _ _ _ _ _ rfl rfl rfl rfl rfl rfl rfl rfl rfl
theorem allLt_ne {d : Nat} : ∀ {l : List (Addr × Obj)}, AllLt d l → ∀ p ∈ l, p.1 ≠ d
  | [], _, _, h => nomatch h
  | _ :: _, x, p, h => by
    rcases List.mem_cons.mp h with rfl | h
    · exact Nat.ne_of_lt x.1
    · exact allLt_ne x.2 p h
theorem tab_look (x : List Nat) (tab : Tab) : PySem.Spec.lookup (.str (S x)) (tabD tab) = (match x with | [c] => (tab.lookup c).map fun r => .str (S r) | _ => none) := by
    skip
    induction tab with
    | nil =>
      match x with
      | [] => rfl
      | [c] => rfl
      | a :: b :: r => rfl
    | cons p t ih =>
      obtain ⟨k, r⟩ := p
      show (if PySem.Spec.same (.str (S [k])) (.str (S x)) = true then some (.str (S r)) else PySem.Spec.lookup (.str (S x)) (tabD t)) = _
      rw [PyProof.V.same_str, ih]
      match x with
      | [] =>
        have : ¬ (S [k] = S []) := fun e => by have := S_inj e; cases this
        simp [this]
      | [c] =>
        by_cases hk : c = k
        · subst hk; simp [List.lookup]
        · have h1 : ¬ (S [k] = S [c]) := fun e => hk (by have := S_inj e; injection this with a; exact a.symm)
          have h2 : (c == k) = false := by simpa using hk
          simp [h1, List.lookup, h2]
      | a :: b :: rr =>
        have : ¬ (S [k] = S (a :: b :: rr)) := fun e => by have := S_inj e; cases this
        simp [this]
theorem tab_some (x : List Nat) (tab : Tab) : (PySem.Spec.lookup (.str (S x)) (tabD tab)).isSome = inTab tab x := by
  rw [tab_look]
  match x with
  | [] => rfl
  | [c] =>
    show ((tab.lookup c).map _).isSome = (tab.lookup c).isSome
    cases tab.lookup c <;> rfl
  | _ :: _ :: _ => rfl
theorem notIn_T {w : World} {A : Around} {s : Shared} {h₀ : Heap} {L d : Addr} {led : List (Addr × Obj)} {E Q : Value → Shared → Prop} {o : Obj} {tab : Tab} {x : List Nat} {t : Tok} (N : News h₀ L s.heap led) (hd : (d, o) ∈ led) (hsp : SpO w d o tab)
    (h : ∀ k, Q (.bool (!inTab tab x)) { s with toks := k }) : wpAny (model PySem.Challenge.rw_tr0040_01.row.prog w) A (compareOp .NotIn (.str (S x) t) (.ref d)) Q E s := by
  obtain ⟨lo, kvs, is, fl⟩ := hsp
  exact notin_strTab (D := tabD tab) (TabAt.ofNews N hd lo is fl) (by rw [tab_some]; exact h _)
theorem in_T {w : World} {A : Around} {s : Shared} {h₀ : Heap} {L d : Addr} {led : List (Addr × Obj)} {E Q : Value → Shared → Prop} {o : Obj} {tab : Tab} {x : List Nat} {t : Tok} (N : News h₀ L s.heap led) (hd : (d, o) ∈ led) (hsp : SpO w d o tab)
    (h : ∀ k, Q (.bool (inTab tab x)) { s with toks := k }) : wpAny (model PySem.Challenge.rw_tr0040_01.row.prog w) A (compareOp .In (.str (S x) t) (.ref d)) Q E s := by
  obtain ⟨lo, kvs, is, fl⟩ := hsp
  exact in_strTab (D := tabD tab) (TabAt.ofNews N hd lo is fl) (by rw [tab_some]; exact h _)
/-- up to a cut: the value alone is told, the heap stays -/
theorem evalB {w : World} {A : Around} {h : Heap} {gs : Array GenState} {dr : Drawn} {os : OsState} {tk : Nat} {e : Expr} {env : Env} {Q E : Value → Shared → Prop} (b : Bool)
    (hb : wpAny (model PySem.Challenge.rw_tr0040_01.row.prog w) A (eval e env) (fun v s' => v = .bool b ∧ ∃ k, s' = ⟨h, gs, dr, k, os⟩) (fun _ _ => False) ⟨h, gs, dr, tk, os⟩)
    (hQ : ∀ k, Q (.bool b) ⟨h, gs, dr, k, os⟩) : wpAny (model PySem.Challenge.rw_tr0040_01.row.prog w) A (eval e env) Q E ⟨h, gs, dr, tk, os⟩ :=
  wpAny_mono hb (fun v s' ⟨e1, k, e2⟩ => by rw [e1, e2]; exact hQ k) (fun _ _ x => x.elim)
def PostF (h₀ : Heap) (L : Addr) (m : Str → Option Value) (led : List (Addr × Obj)) (gs : Array GenState) (dr : Drawn) (os : OsState) (b : Bool) (v : Value) (s' : Shared) : Prop := v = .bool b ∧ ∃ h' k, s' = ⟨h', gs, dr, k, os⟩ ∧ Fr h₀ L h' m ∧ News h₀ L h' led
theorem evalF {w : World} {A : Around} {h h₀ : Heap} {L : Addr} {m : Str → Option Value} {led : List (Addr × Obj)} {gs : Array GenState} {dr : Drawn} {os : OsState} {tk : Nat} {e : Expr} {env : Env} {Q E : Value → Shared → Prop} (b : Bool) (_F : Fr h₀ L h m) (_N : News h₀ L h led)
    (hb : wpAny (model PySem.Challenge.rw_tr0040_01.row.prog w) A (eval e env) (PostF h₀ L m led gs dr os b) (fun _ _ => False) ⟨h, gs, dr, tk, os⟩)
    (hQ : ∀ h' k, Fr h₀ L h' m → News h₀ L h' led → Q (.bool b) ⟨h', gs, dr, k, os⟩) : wpAny (model PySem.Challenge.rw_tr0040_01.row.prog w) A (eval e env) Q E ⟨h, gs, dr, tk, os⟩ :=
  wpAny_mono hb (fun v s' ⟨e1, h', k, e2, f, n⟩ => by rw [e1, e2]; exact hQ h' k f n) (fun _ _ x => x.elim)
theorem any_ws (x : List Nat) : ([S [32], S [10], S [13], S [9]].any fun y => y == S x) = decide (x ∈ [[32], [10], [13], [9]]) := by
  have e : ∀ a : List Nat, (S a == S x) = decide (x = a) := fun a => by
    rw [Bool.eq_iff_iff, beq_iff_eq, decide_eq_true_eq]
    exact ⟨fun h => (S_inj h).symm, fun h => by rw [h]⟩
  simp only [List.any_cons, List.any_nil, e, Bool.or_false]
  rw [Bool.eq_iff_iff]; simp
theorem set_L {w : World} {A : Around} {s : Shared} {h₀ : Heap} {L D : Addr} {m : Str → Option Value} {news news' : List (Addr × Obj)} {E : Value → Shared → Prop} {vs : List Value} {n k : Nat} {t : Tok} {v : Value} {Q : Unit → Shared → Prop} (F : Fr h₀ L s.heap m) (N : News h₀ L s.heap news)
    (U : Upd D (listOf vs.toArray n) (listOf (vs.set k v).toArray n) news news') (h1 : k < vs.length) (hfit : k ≤ 1000)
    (h : ∀ h', Fr h₀ L h' m → News h₀ L h' news' → Q () { s with heap := h' }) :
    wpAny (model PySem.Challenge.rw_tr0040_01.row.prog w) A (setItem (.ref D) (.int (k : Int) t) v) Q E s := by
  obtain ⟨pre, post, rfl, rfl, a, b'⟩ := U.split
  have z := N (D, listOf vs.toArray n) (List.mem_append.mpr (.inr (.head _)))
  refine ki_setAt z.1 (by omega) (by omega) (by rw [List.size_toArray]; omega) (h _ (F.change (Heap.SameBut.update ..) z.2.1 z.2.2) (ki_turn _ N a b' ?_ ?_))
  · show vs.toArray.setIfInBounds ((k : Int)).toNat v = (vs.set k v).toArray
    apply Array.toList_inj.mp
    simp
  · simp
theorem getset {l : List Value} {k : Nat} {v : Value} (h : k < l.length) : (l.set k v)[((k : Nat) : Int).toNat]? = some v := by
  rw [show ((k : Nat) : Int).toNat = k from rfl, List.getElem?_set_self h]
inductive WordsJ (us : List U) (tab : Tab) (lb lq lf lu d : Addr) (o : Obj) (vs : List Value) (nu : Nat) (news : List (Addr × Obj)) (i : Nat) (m : Str → Option Value) (nx : List (Addr × Obj)) : Prop
  | mk (vb : List Value) (nb : Nat) (vq : List Value) (nq : Nat) (vf : List Value) (nf : Nat) (tl : List (Addr × Obj)) (e : nx = (lb, listOf vb.toArray nb) :: (lq, listOf vq.toArray nq) :: (lf, listOf vf.toArray nf) :: (lu, listOf vs.toArray nu) :: (d, o) :: (tl ++ news))
      (a1 : AllIn (EIn tl) vb (entL (bareE tab us.length) us (us.length - i))) (a2 : AllIn (EIn tl) vq (entL (quotE tab us.length) us (us.length - i))) (a3 : AllIn (EIn tl) vf (entL (firstE tab us.length) us (us.length - i))) (ht : ∀ p ∈ tl, p.2.cls = .type "tuple")
      (tsz : Tok) (hm : Has m [(Str.ofString "units", .ref lu), (Str.ofString "spell", .ref d), (Str.ofString "bare", .ref lb), (Str.ofString "quoted", .ref lq), (Str.ofString "first", .ref lf), (Str.ofString "size", .int (vs.length : Int) tsz)]) : WordsJ us tab lb lq lf lu d o vs nu news i m nx
theorem words_end0 {g h' : Heap} {L' I lb lq lf lu d Db Dq : Addr} {oI o : Obj} {gs : Array GenState} {dr : Drawn} {os : OsState} {tk nb nq nf nu i k : Nat} {m' : Str → Option Value} {vs vb vq vf : List Value} {xf : Value} {tl news : List (Addr × Obj)} {us : List U} {tab : Tab} {t1 t2 t3 t4 : Tok} {eb eq : Ent} {Q : Flow → Shared → Prop}
    (F : Fr g L' h' m') (N : News g L' h' ((I, oI) :: (lb, listOf (vb.set k (.ref Db)).toArray nb) :: (lq, listOf (vq.set k (.ref Dq)).toArray nq) :: (lf, listOf (vf.set k xf).toArray nf) :: (lu, listOf vs.toArray nu) :: (d, o) ::
      ((Db, tupO [.str (S eb.1) t1, .int (eb.2 : Int) t2] 0) :: (Dq, tupO [.str (S eq.1) t3, .int (eq.2 : Int) t4] 0) :: (tl ++ news))))
    (hoff : ∀ p ∈ (lb, listOf vb.toArray nb) :: (lq, listOf vq.toArray nq) :: (lf, listOf vf.toArray nf) :: (lu, listOf vs.toArray nu) :: (d, o) :: (tl ++ news), p.1 ≠ I) (hDb : Db ≠ I) (hDq : Dq ≠ I)
    (hvb : AllIn (EIn tl) vb (entL (bareE tab us.length) us (k + 1))) (hvq : AllIn (EIn tl) vq (entL (quotE tab us.length) us (k + 1))) (hvf : AllIn (EIn tl) vf (entL (firstE tab us.length) us (k + 1)))
    (hk : k < us.length) (hik : us.length - (i + 1) = k) (heb : eb = bareE tab us.length (us.drop k) k) (heq : eq = quotE tab us.length (us.drop k) k)
    (hxf : EIn ((Db, tupO [.str (S eb.1) t1, .int (eb.2 : Int) t2] 0) :: (Dq, tupO [.str (S eq.1) t3, .int (eq.2 : Int) t4] 0) :: tl) xf (firstE tab us.length (us.drop k) k)) (htl : ∀ p ∈ tl, p.2.cls = .type "tuple")
    {tsz : Tok} (hm : Has m' [(Str.ofString "units", .ref lu), (Str.ofString "spell", .ref d), (Str.ofString "bare", .ref lb), (Str.ofString "quoted", .ref lq), (Str.ofString "first", .ref lf), (Str.ofString "size", .int (vs.length : Int) tsz)]) :
    TurnEnd g L' I oI gs dr os (WordsJ us tab lb lq lf lu d o vs nu news (i + 1)) Q .next ⟨h', gs, dr, tk, os⟩ := by
  have mono : ∀ v u, EIn tl v u → EIn ((Db, tupO [.str (S eb.1) t1, .int (eb.2 : Int) t2] 0) :: (Dq, tupO [.str (S eq.1) t3, .int (eq.2 : Int) t4] 0) :: tl) v u := fun v u h => h.mono fun p hp => .tail _ (.tail _ hp)
  refine ⟨h', tk, m', _, rfl, F, N, ?_, _, _, _, _, _, _, (Db, tupO [.str (S eb.1) t1, .int (eb.2 : Int) t2] 0) :: (Dq, tupO [.str (S eq.1) t3, .int (eq.2 : Int) t4] 0) :: tl, rfl, ?_, ?_, ?_, ?_, tsz, hm⟩
  · simp only [List.forall_mem_cons] at hoff ⊢
    exact ⟨hoff.1, hoff.2.1, hoff.2.2.1, hoff.2.2.2.1, hoff.2.2.2.2.1, hDb, hDq, hoff.2.2.2.2.2⟩
  · rw [hik, ← entL_set _ _ _ hk heb]
    exact AllIn.set ⟨Db, 0, t1, t2, rfl, .head _⟩ k (AllIn.mono mono hvb)
  · rw [hik, ← entL_set _ _ _ hk heq]
    exact AllIn.set ⟨Dq, 0, t3, t4, rfl, .tail _ (.head _)⟩ k (AllIn.mono mono hvq)
  · rw [hik, ← entL_set _ _ _ hk rfl]
    exact AllIn.set hxf k (AllIn.mono mono hvf)
  · exact List.forall_mem_cons.mpr ⟨rfl, List.forall_mem_cons.mpr ⟨rfl, htl⟩⟩
theorem words_end {g h' : Heap} {L' I lb lq lf lu d Db Dq : Addr} {oI o : Obj} {gs : Array GenState} {dr : Drawn} {os : OsState} {tk nb nq nf nu i k : Nat} {m' : Str → Option Value} {vs vb vq vf : List Value} {xf : Value} {tl news : List (Addr × Obj)} {us : List U} {tab : Tab} {t1 t2 t3 t4 : Tok} {x1 x2 : List Nat} {z1 z2 : Int} {Q : Flow → Shared → Prop}
    (F : Fr g L' h' m') (N : News g L' h' ((I, oI) :: (lb, listOf (vb.set k (.ref Db)).toArray nb) :: (lq, listOf (vq.set k (.ref Dq)).toArray nq) :: (lf, listOf (vf.set k xf).toArray nf) :: (lu, listOf vs.toArray nu) :: (d, o) ::
      ((Db, tupO [.str (S x1) t1, .int z1 t2] 0) :: (Dq, tupO [.str (S x2) t3, .int z2 t4] 0) :: (tl ++ news))))
    (hoff : ∀ p ∈ (lb, listOf vb.toArray nb) :: (lq, listOf vq.toArray nq) :: (lf, listOf vf.toArray nf) :: (lu, listOf vs.toArray nu) :: (d, o) :: (tl ++ news), p.1 ≠ I) (hDb : Db ≠ I) (hDq : Dq ≠ I)
    (hvb : AllIn (EIn tl) vb (entL (bareE tab us.length) us (k + 1))) (hvq : AllIn (EIn tl) vq (entL (quotE tab us.length) us (k + 1))) (hvf : AllIn (EIn tl) vf (entL (firstE tab us.length) us (k + 1)))
    (hk : k < us.length) (hik : us.length - (i + 1) = k) (e1 : x1 = (bareE tab us.length (us.drop k) k).1) (e2 : z1 = ((bareE tab us.length (us.drop k) k).2 : Int)) (e3 : x2 = (quotE tab us.length (us.drop k) k).1) (e4 : z2 = ((quotE tab us.length (us.drop k) k).2 : Int))
    (hxf : EIn ((Db, tupO [.str (S x1) t1, .int z1 t2] 0) :: (Dq, tupO [.str (S x2) t3, .int z2 t4] 0) :: tl) xf (firstE tab us.length (us.drop k) k)) (htl : ∀ p ∈ tl, p.2.cls = .type "tuple")
    {tsz : Tok} (hm : Has m' [(Str.ofString "units", .ref lu), (Str.ofString "spell", .ref d), (Str.ofString "bare", .ref lb), (Str.ofString "quoted", .ref lq), (Str.ofString "first", .ref lf), (Str.ofString "size", .int (vs.length : Int) tsz)]) :
    TurnEnd g L' I oI gs dr os (WordsJ us tab lb lq lf lu d o vs nu news (i + 1)) Q .next ⟨h', gs, dr, tk, os⟩ := by
  subst e1 e2 e3 e4
  exact words_end0 F N hoff hDb hDq hvb hvq hvf hk hik rfl rfl hxf htl hm
theorem getset1 {l : List Value} {k : Nat} {v x : Value} (h : l[((k : Nat) : Int).toNat + 1]? = some x ∨ l[(((k : Nat) : Int) + 1).toNat]? = some x) : (l.set k v)[(((k : Nat) : Int) + 1).toNat]? = some x := by
  have e : (((k : Nat) : Int) + 1).toNat = k + 1 := by omega
  rw [e] at h ⊢
  rw [List.getElem?_set_ne (by omega)]
  rcases h with h | h
  · exact h
  · exact h
section
open Builtin Builtin.Str StrLaws
theorem occ_step (x : Str) (c limit : Nat) : ∀ (n a : Nat) (acc : Array Nat) (free : Nat), a + n = x.length + 1 → free ≤ a → acc.size ≤ a → limit = x.length + 1 →
    (forIn (List.range' a n) (acc, free) (occBody x ⟨#[c]⟩ x.length limit)).run.fst.size = acc.size + (x.cps.toList.drop a).count c
  | 0, a, acc, free, h, _, _, _ => by
    have e : x.length = x.cps.toList.length := by simp [Str.length]
    rw [List.drop_eq_nil_of_le (by omega)]; simp
  | n + 1, a, acc, free, h, hf, hs, hl => by
    have e : x.length = x.cps.toList.length := by simp [Str.length]
    rw [List.range'_succ, List.forIn_cons]
    by_cases hc : x.cps.toList[a]? = some c
    · have hc2 := (subAt_one x c a).mpr hc
      have hlt : a < x.cps.toList.length := (List.getElem?_eq_some_iff.mp hc).1
      have hb : occBody x ⟨#[c]⟩ x.length limit a (acc, free) = pure (ForInStep.yield (acc.push a, a + 1)) := by
        unfold occBody
        rw [if_pos ⟨⟨⟨by simp only; omega, hf⟩, hc2.1⟩, hc2.2⟩]
        rfl
      rw [hb]
      show (forIn (List.range' (a + 1) n) (acc.push a, a + 1) (occBody x ⟨#[c]⟩ x.length limit)).run.fst.size = _
      rw [occ_step x c limit n (a + 1) _ _ (by omega) (Nat.le_refl _) (by simp; omega) hl]
      have hd : x.cps.toList.drop a = c :: x.cps.toList.drop (a + 1) := by
        rw [List.drop_eq_getElem_cons hlt]
        congr 1
        exact Option.some.inj ((List.getElem?_eq_getElem hlt).symm.trans hc)
      rw [hd, List.count_cons_self, Array.size_push]
      omega
    · have hb : occBody x ⟨#[c]⟩ x.length limit a (acc, free) = pure (ForInStep.yield (acc, free)) := by
        unfold occBody
        rw [if_neg]
        rintro ⟨⟨_, h1⟩, h2⟩
        exact hc ((subAt_one x c a).mp ⟨h1, h2⟩)
      rw [hb]
      show (forIn (List.range' (a + 1) n) (acc, free) (occBody x ⟨#[c]⟩ x.length limit)).run.fst.size = _
      rw [occ_step x c limit n (a + 1) _ _ (by omega) (by omega) (by omega) hl]
      congr 1
      by_cases hlt : a < x.cps.toList.length
      · rw [List.drop_eq_getElem_cons hlt, List.count_cons_of_ne]
        intro e2
        exact hc (by rw [List.getElem?_eq_getElem hlt, e2])
      · rw [List.drop_eq_nil_of_le (by omega), List.drop_eq_nil_of_le (by omega)]
theorem occ_count (l : List Nat) : (occurrences (S l) (S [10]) 0 (S l).length ((S l).length + 1)).length = nl l := by
  rw [occ_eq, Array.length_toList]
  have := occ_step (S l) 10 ((S l).length + 1) ((S l).length + 1) 0 #[] 0 (by omega) (Nat.le_refl _) (Nat.le_refl _) rfl
  rw [Nat.sub_zero]
  refine this.trans ?_
  simp [S, nl]
end
theorem count_S {prog : Program} {w : World} {A : Around} {s : Shared} {Q E : Value → Shared → Prop} {l : List Nat} {t u : Tok} (h : ∀ t' k, Q (.int ((nl l : Nat) : Int) t') { s with toks := k }) : wpAny (model prog w) A (call (.builtin "str.count") [.str (S l) t, .str (S [10]) u]) Q E s :=
  SC.count (by unfold Txt.count; rw [occ_count]; exact h _ _)
theorem pick_take (vs : List Value) (k : Nat) : slicePick vs.toArray none (some (k : Int)) none = (vs.take k).toArray := by
  have e : sliceBounds none (some (k : Int)) none vs.toArray.size = (((0 : Nat) : Int), ((min k vs.toArray.size : Nat) : Int), 1) := by
    simp only [sliceBounds, Option.getD_none, show (1 : Int) > 0 by decide, if_true, if_neg (show ¬ ((k : Int) < 0) by omega)]
    congr 1
    congr 1
    omega
  rw [kmk_pick_nat _ e]
  congr 1
  show (vs.drop 0).take (min k vs.toArray.size - 0) = _
  rw [List.drop_zero, Nat.sub_zero, List.size_toArray]
  by_cases h : k ≤ vs.length
  · rw [Nat.min_eq_left h]
  · rw [Nat.min_eq_right (by omega), List.take_of_length_le (Nat.le_refl _), List.take_of_length_le (by omega)]
theorem slice_L {w : World} {A : Around} {s : Shared} {h₀ : Heap} {L l : Addr} {m : Str → Option Value} {led : List (Addr × Obj)} {E : Value → Shared → Prop} {value slice : PySem.Expr} {vs : List Value} {n k : Nat} {t : Tok} {Q : Value → Shared → Prop} (F : Fr h₀ L s.heap m) (N : News h₀ L s.heap led) (hl : (l, listOf vs.toArray n) ∈ led) (hz : vs.length ≤ 10000)
    (h : ∀ D h', Fr h₀ L h' m → News h₀ L h' ((D, listOf (vs.take k).toArray 0) :: led) → AllLt D led → Q (.ref D) { s with heap := h' })
    (hs : subscripted slice false (.ref l) (.ref s.heap.objs.size) = operate [.ref s.heap.objs.size, .ref l] (getItem (.ref l) (.ref s.heap.objs.size))) (ht : ∀ r, letTemporaryGo value (.ref l) r = pure ()) :
    wpAny (model PySem.Challenge.rw_tr0040_01.row.prog w) A (subscriptTail value slice (.ref l) (.ref s.heap.objs.size)) Q E { s with heap := s.heap.push { cls := .type "slice", data := .fields #[.none, .int (k : Int) t, .none] } } := by
  refine kmk_slice (its := vs.toArray) (lo := none) (hi := some (k : Int)) F N ⟨_, (N _ hl).1, rfl, n, rfl⟩ ?_ ?_ (fun D h' F' N' l1 => ?_) hs ht (by rw [List.size_toArray, sizeLine_eq]; omega)
  · constructor
  · constructor
  · rw [pick_take] at N'
    exact h D h' F' N' (allLt_of l1)
end

local macro_rules | `(tactic| walk_at "binaryOp Mult ref int") => `(tactic| ((try dsimp only); k_dflt (refine' rep_L ?k1 ?k2 ?k3 ?k4 ?k5 ?_; (case k1 => k_asm); (case k2 => k_asm); (case k3 => k_mem); (case k4 => walk_at "mine om"); (case k5 => walk_at "mine om")); intro D' h' F' N' l1; (try simp only [AllLt, and_true] at l1)))
local macro_rules | `(tactic| walk_at "compareOp NotIn str ref") => `(tactic| ((try dsimp only); k_dflt (refine' notIn_T ?k1 ?k2 ?k3 ?_; (case k1 => k_asm); (case k2 => k_mem); (case k3 => with_reducible assumption)); intro _; try dsimp only))
local macro_rules | `(tactic| walk_at "mine bool") => `(tactic| repeat' ((fail_if_success (with_reducible show wpAny _ _ (eval (Expr.BoolOp _ _ _) _) _ _ _)); walk_at "mine step"))
local macro_rules | `(tactic| walk_at "setItem ref int ref") => `(tactic| ((try dsimp only); k_dflt (refine' set_L ?k1 ?k2 ?k3 ?k4 ?k5 ?_; (case k1 => k_asm); (case k2 => k_asm); (case k3 => k_upd); (case k4 => walk_at "mine om"); (case k5 => walk_at "mine om")); intro h' F' N'))
local macro_rules | `(tactic| walk_at "subscriptTail Name BinOp ref int") => `(tactic| ((try dsimp only); k_dflt (refine' item_L ?k1 ?k2 ?k3 ?k4 ?k5 ?_; (case k1 => k_asm); (case k2 => k_mem); (case k3 => first | with_reducible assumption | exact getset1 (.inr (by with_reducible assumption))); (case k4 => walk_at "mine om"); (case k5 => walk_at "mine om")); try dsimp only))
local macro_rules | `(tactic| walk_at "subscriptTail Name Name ref int") => `(tactic| ((try dsimp only); k_dflt (refine' item_L ?k1 ?k2 ?k3 ?k4 ?k5 ?_; (case k1 => k_asm); (case k2 => k_mem); (case k3 => exact getset (by omega)); (case k4 => first | with_reducible assumption | exact Int.natCast_nonneg _ | omega); (case k5 => first | with_reducible assumption | omega)); try dsimp only))
local macro_rules | `(tactic| walk_at "call builtin:str.count") => `(tactic| (k_dflt (refine count_S ?_); intro _ _; try dsimp only))
local macro_rules | `(tactic| walk_at "mine while") => `(tactic| repeat' ((fail_if_success (with_reducible show wpAny _ _ (exec (Stmt.While _ _ _ _) _) _ _ _)); walk_at "mine step"))
local macro_rules | `(tactic| walk_at "subscriptTail Name Slice ref ref") => `(tactic| ((try dsimp only); k_dflt (refine' slice_L (s := ⟨_, _, _, _, _⟩) ?k1 ?k2 ?k3 ?k4 ?_ ?k6 ?k7; (case k1 => k_asm); (case k2 => k_asm); (case k3 => k_mem); (case k4 => walk_at "mine om"); (case k6 => with_unfolding_all rfl); (case k7 => (intro _; with_unfolding_all rfl))); intro D' h' F' N' l1; (try simp only [AllLt, and_true] at l1)))
-- part MWords
section
inductive WhileJ (us : List U) (tab : Tab) (lt lf lu d : Addr) (o : Obj) (vf : List Value) (nf : Nat) (vs : List Value) (nu : Nat) (tl news : List (Addr × Obj)) (n : Nat) (m : Str → Option Value) (nx : List (Addr × Obj)) : Prop
  | mk (k : Nat) (tk : Tok) (vt : List Value) (nt : Nat) (t2 : List (Addr × Obj)) (done : List (List Nat × Nat × Nat)) (e : nx = (lt, listOf vt.toArray nt) :: (lf, listOf vf.toArray nf) :: (lu, listOf vs.toArray nu) :: (d, o) :: (t2 ++ (tl ++ news))) (hk : k ≤ us.length) (hn : us.length - k ≤ n) (a : AllIn (TIn t2) vt done)
      (hd : done ++ wordsFrom tab us n k = wordsFrom tab us us.length 0) (ht : ∀ p ∈ t2, p.2.cls = .type "tuple") (tsz : Tok) (hm : Has m [(Str.ofString "units", .ref lu), (Str.ofString "spell", .ref d), (Str.ofString "first", .ref lf), (Str.ofString "size", .int (vs.length : Int) tsz), (Str.ofString "told", .ref lt), (Str.ofString "k", .int (k : Int) tk)]) : WhileJ us tab lt lf lu d o vf nf vs nu tl news n m nx
theorem words_call {w : World} {A : Around} {s : Shared} {h₀ : Heap} {L : Addr} {m : Str → Option Value} {news : List (Addr × Obj)} {mean : ExcName → Option Value} {mg mb : Str → Option Value} {Q E : Value → Shared → Prop}
   {lu d : Addr} {vs : List Value} {nu : Nat} {us : List U} {o : Obj} {tab : Tab}
   (F : Fr h₀ L s.heap m) (N : News h₀ L s.heap news) (G : GD w mean mg mb h₀) (a : AOk A 2) (hlu : (lu, listOf vs.toArray nu) ∈ news) (hus : AllIn (UIn news) vs us) (hd : (d, o) ∈ news) (hsp : SpO w d o tab)
   (hn : us.length ≤ 100) (hok : ∀ u ∈ us, Uok u) (htab : ∀ p ∈ tab, p.2.length ≤ 14)
   (ret : ∀ lr vr nr tl h' tk', Fr h₀ L h' m → News h₀ L h' ((lr, listOf vr.toArray nr) :: (tl ++ news)) → AllIn (TIn tl) vr (wordsOf us tab) → (∀ p ∈ tl, p.2.cls = .type "tuple") → Q (.ref lr) { s with heap := h', toks := tk' })
   : wpAny (model PySem.Challenge.rw_tr0040_01.row.prog w) A (call (.ref 166) [.ref lu, .ref d]) Q E s := by
  obtain ⟨X, T⟩ := G
  obtain ⟨ah, dp, fr, gd, un⟩ := A
  obtain ⟨rfl⟩ : ah = none := a.hh
  have aD := a.hd; have aU := a.hu
  dsimp only at aD aU
  refine wpAny_call ?_
  refine' enterF (cl := []) (binds := [(Str.ofString "units", .ref lu), (Str.ofString "spell", .ref d)]) F N X T.nolimit ?k1 ?k3 ?k4 ?k5 ?k6 ?_ ?k7 ?k8 ?k9 ?k10
  case k4 => exact Nat.lt_of_le_of_lt (Nat.le_add_right _ _) a.hd
  walk_at "mine sides"
  intro g L' h₁ tk htk FG F' N' st hlt
  have X' := X.keeps st
  have T' := T.keeps st
  clear X T F N FG st
  have N1 : News g L' h₁ ((lu, listOf vs.toArray nu) :: (d, o) :: news) := newsCons (newsCons N' hd) (.tail _ hlu)
  have hvl := hus.length
  clear N'
  walk_at "mine steps"
  rename Fr g L' _ _ => F2
  rename News g L' _ _ => N2
  rename IsRange _ _ _ _ _ _ _ _ => R2
  rename_i tb _ _ f8 _ _ lb _ _ _ _ _ _ tq _ _ f5 _ _ lq _ _ _ _ _ _ tf _ _ f2 _ _ lf _ _ _ _ _ _ _ _ _ _ _
  obtain ⟨hqf, hbf, hnf⟩ : lq ≠ lf ∧ lb ≠ lf ∧ ∀ p ∈ (lu, listOf vs.toArray nu) :: (d, o) :: news, p.1 ≠ lf := by
    rename (f2 < lf ∧ _) => l1
    obtain ⟨_, _, q1, _, _, q2, _, _, q3, q4, q5⟩ := l1
    exact ⟨Nat.ne_of_lt q1, Nat.ne_of_lt q2, List.forall_mem_cons.mpr ⟨Nat.ne_of_lt q3, List.forall_mem_cons.mpr ⟨Nat.ne_of_lt q4, allLt_ne q5⟩⟩⟩
  obtain ⟨hbq, hnq⟩ : lb ≠ lq ∧ ∀ p ∈ (lu, listOf vs.toArray nu) :: (d, o) :: news, p.1 ≠ lq := by
    rename (f5 < lq ∧ _) => l1
    obtain ⟨_, _, q1, _, _, q3, q4, q5⟩ := l1
    exact ⟨Nat.ne_of_lt q1, List.forall_mem_cons.mpr ⟨Nat.ne_of_lt q3, List.forall_mem_cons.mpr ⟨Nat.ne_of_lt q4, allLt_ne q5⟩⟩⟩
  have hnb : ∀ p ∈ (lu, listOf vs.toArray nu) :: (d, o) :: news, p.1 ≠ lb := by
    rename (f8 < lb ∧ _) => l1
    obtain ⟨_, _, q3, q4, q5⟩ := l1
    exact List.forall_mem_cons.mpr ⟨Nat.ne_of_lt q3, List.forall_mem_cons.mpr ⟨Nat.ne_of_lt q4, allLt_ne q5⟩⟩
  obtain ⟨ti1, ti2, tj1, tj2, tk1, tk2, N3⟩ : ∃ ti1 ti2 tj1 tj2 tk1 tk2, News g L' _ ((lb, listOf (List.replicate (vs.length + 1) (Value.ref tb)).toArray 0) :: (lq, listOf (List.replicate (vs.length + 1) (Value.ref tq)).toArray 0) :: (lf, listOf (List.replicate (vs.length + 1) (Value.ref tf)).toArray 0) ::
      (lu, listOf vs.toArray nu) :: (d, o) :: ([(tb, tupO [.str (S []) ti1, .int (vs.length : Int) ti2] 0), (tq, tupO [.str (S []) tj1, .int (vs.length : Int) tj2] 0), (tf, tupO [.str (S []) tk1, .int (vs.length : Int) tk2] 0)] ++ news)) := by
    rw [show ((vs.length : Int) + 1).toNat = vs.length + 1 by omega] at N2
    refine' ⟨_, _, _, _, _, _, newsSub N2 ?hh⟩
    case hh => walk_at "mine sub"
  dsimp only at N3
  clear N2
  refine it_range (n := us.length) rfl F2 N3 R2 ?_ ?_ (WordsJ us tab lb lq lf lu d o vs nu news) ?_ ?_ ?_
  · exact PySem.W.small_down (by omega) (by omega) (by omega) (by omega)
  · rw [PySem.W.rangeSize_downNat]; omega
  · refine ⟨_, _, _, _, _, _, _, rfl, ?_, ?_, ?_, ?_, _, by walk_at "mine has"⟩
    · rw [Nat.sub_zero, entL_top _ _ rfl, hvl]
      exact AllIn.replicate ⟨tb, 0, ti1, ti2, rfl, by rw [← hvl]; exact .head _⟩ _
    · rw [Nat.sub_zero, entL_top _ _ rfl, hvl]
      exact AllIn.replicate ⟨tq, 0, tj1, tj2, rfl, by rw [← hvl]; exact .tail _ (.head _)⟩ _
    · rw [Nat.sub_zero, entL_top _ _ rfl, hvl]
      exact AllIn.replicate ⟨tf, 0, tk1, tk2, rfl, by rw [← hvl]; exact .tail _ (.tail _ (.head _))⟩ _
    · intro p hp
      simp only [List.mem_cons, List.not_mem_nil, or_false] at hp
      rcases hp with rfl | rfl | rfl <;> rfl
  · rintro i tv m₁ nx₁ I oI h t' hi ⟨vb, nb, vq, nq, vf, nf, tl, rfl, hvb, hvq, hvf, htl, tsz, hm⟩ hoff F5 N5
    have F6 := frHas F5 hm
    dsimp only [mp] at F6
    obtain ⟨k, hk⟩ : ∃ k, us.length - 1 - i = k := ⟨_, rfl⟩
    rw [show ((vs.length : Int) - 1 + (i : Int) * -1) = (k : Int) by omega]
    rw [show us.length - i = k + 1 by omega] at hvb hvq hvf
    have hk1 : k < us.length := by omega
    have hik1 : us.length - (i + 1) = k := by rw [← hk, Nat.sub_sub, Nat.add_comm 1 i]
    obtain ⟨u, hu⟩ : ∃ u, us[k]? = some u := ⟨_, List.getElem?_eq_getElem hk1⟩
    obtain ⟨v, hv, ta, tn, tt, rfl, htm⟩ := hus.at hu
    have hv2 : vs[((k : Int)).toNat]? = some (.ref ta) := hv
    have N6 := newsCons N5 (show (ta, tupO [.bool u.1, .str (S u.2) tt] tn) ∈ _ by walk_at "mine mem")
    have hl2 : (splS tab u.2).length ≤ 15 := by
      have := wrU_length htab (hok u (List.mem_of_getElem? hu))
      unfold wrU at this; rw [List.length_append] at this; omega
    obtain ⟨ue, us'⟩ := u
    dsimp only at N6 hl2
    clear F5 N5 F2 N3
    walk_at "mine bool"
    rename Fr g L' _ _ => F7
    rename News g L' _ _ => N7
    refine evalB (plainU tab (ue, us')) ?_ ?_
    · cases ue
      · walk_at "mine steps"
      · walk_at "mine steps"
    intro tk7
    dsimp only
    walk_at "mine bool"
    rename Fr g L' _ _ => F8
    rename News g L' _ _ => N8
    refine evalF (whiteU tab (ue, us')) F8 N8 ?_ ?_
    · cases hpl : plainU tab (ue, us')
      · rw [hpl] at F8
        walk_at "mine steps"
        exact ⟨by unfold whiteU; rw [hpl]; rfl, _, _, rfl, F8, N8⟩
      · rw [hpl] at F8
        walk_at "mine steps"
        rename Fr g L' _ _ => F9
        rename News g L' _ _ => N9
        refine ⟨?_, _, _, rfl, F9, newsSub N9 (fun q hq => .tail _ hq)⟩
        rw [any_ws]; unfold whiteU; rw [hpl]; rfl
    clear F8 N8
    intro h8 tk8 F8 N8
    dsimp only
    walk_at "mine bool"
    rename Fr g L' _ _ => F9
    rename News g L' _ _ => N9
    refine evalB (markU tab (ue, us')) ?_ ?_
    · cases hpl : plainU tab (ue, us')
      · rw [hpl] at F9
        walk_at "mine steps"
        unfold markU; rw [hpl]; rfl
      · rw [hpl] at F9
        walk_at "mine steps"
        unfold markU; rw [hpl]; rfl
    intro tk9
    dsimp only
    have hk2 : k + 1 ≤ us.length := by omega
    obtain ⟨xb, hxb, ba, bn, b1, b2, rfl, hbm⟩ := hvb.at (entL_get (bareE tab us.length) us (k + 1) (k + 1) hk2)
    obtain ⟨xq, hxq, qa, qn, q1, q2, rfl, hqm⟩ := hvq.at (entL_get (quotE tab us.length) us (k + 1) (k + 1) hk2)
    obtain ⟨xf, hxf, fa, fn, f1, f2', rfl, hfm⟩ := hvf.at (entL_get (firstE tab us.length) us (k + 1) (k + 1) hk2)
    rw [entAt_self] at hbm hqm hfm
    have hxb2 : vb[((k : Int) + 1).toNat]? = some (.ref ba) := by rw [show ((k : Int) + 1).toNat = k + 1 by omega]; exact hxb
    have hxq2 : vq[((k : Int) + 1).toNat]? = some (.ref qa) := by rw [show ((k : Int) + 1).toNat = k + 1 by omega]; exact hxq
    have hxf2 : vf[((k : Int) + 1).toNat]? = some (.ref fa) := by rw [show ((k : Int) + 1).toNat = k + 1 by omega]; exact hxf
    have hspl : ∀ u ∈ us.drop (k + 1), (splS tab u.2).length ≤ 15 := fun x hx => by
      have := wrU_length htab (hok x (List.mem_of_mem_drop hx))
      unfold wrU at this; rw [List.length_append] at this; omega
    have hlb := bareE_len (size := us.length) (us.drop (k + 1)) (k + 1) hspl
    have hlq := quotE_len (size := us.length) (us.drop (k + 1)) (k + 1) hspl
    have hdl : (us.drop (k + 1)).length ≤ 100 := by rw [List.length_drop]; omega
    have hvbl : vb.length = us.length + 1 := by rw [hvb.length, entL_length]
    have hvql : vq.length = us.length + 1 := by rw [hvq.length, entL_length]
    have hvfl : vf.length = us.length + 1 := by rw [hvf.length, entL_length]
    have hkA : k ≤ 1000 := Nat.le_trans (Nat.le_of_lt hk1) (Nat.le_trans hn (by decide))
    have hkB : (k : Int) ≤ 16777216 := Int.le_trans (Int.ofNat_le.mpr hkA) (by decide)
    have hkC : (k : Int) + 1 ≤ 16777216 := Int.le_trans (Int.add_le_add_right (Int.ofNat_le.mpr hkA) 1) (by decide)
    have hkb : k < vb.length := by rw [hvbl]; exact Nat.lt_succ_of_lt hk1
    have hkq : k < vq.length := by rw [hvql]; exact Nat.lt_succ_of_lt hk1
    have hkf : k < vf.length := by rw [hvfl]; exact Nat.lt_succ_of_lt hk1
    obtain ⟨R, hRe⟩ : ∃ R, R = (ba, tupO [.str (S (bareE tab us.length (us.drop (k + 1)) (k + 1)).1) b1, .int ((bareE tab us.length (us.drop (k + 1)) (k + 1)).2 : Int) b2] bn) :: (qa, tupO [.str (S (quotE tab us.length (us.drop (k + 1)) (k + 1)).1) q1, .int ((quotE tab us.length (us.drop (k + 1)) (k + 1)).2 : Int) q2] qn) :: (I, oI) :: (lu, listOf vs.toArray nu) :: (d, o) :: (tl ++ news) := ⟨_, rfl⟩
    have N10 := newsSub (l' := (lb, listOf vb.toArray nb) :: (lq, listOf vq.toArray nq) :: (lf, listOf vf.toArray nf) :: R) N9 (by
      rw [hRe]
      refine sub_cons (by walk_at "mine mem") (sub_cons (by walk_at "mine mem") (sub_cons (by walk_at "mine mem") (sub_cons ?_ (sub_cons ?_ (by walk_at "mine sub")))))
      · exact .tail _ (.tail _ (.tail _ (.tail _ (.tail _ (.tail _ (.tail _ (List.mem_append_left _ hbm)))))))
      · exact .tail _ (.tail _ (.tail _ (.tail _ (.tail _ (.tail _ (.tail _ (List.mem_append_left _ hqm))))))))
    have tlk : ∀ (D : Addr) (oD : Obj), (D, oD) ∈ (lb, listOf vb.toArray nb) :: (lq, listOf vq.toArray nq) :: (lf, listOf vf.toArray nf) :: R → oD.cls = .type "list" → ∀ p ∈ tl, p.1 ≠ D := fun D oD hD hc => offTup N10 hD (.inl hc) htl (by rw [hRe]; walk_at "mine sub")
    have hRk : ∀ (D : Addr) (oD : Obj), (D, oD) ∈ (lb, listOf vb.toArray nb) :: (lq, listOf vq.toArray nq) :: (lf, listOf vf.toArray nf) :: R → oD.cls = .type "list" → I ≠ D → (∀ p ∈ (lu, listOf vs.toArray nu) :: (d, o) :: news, p.1 ≠ D) → ∀ p ∈ R, p.1 ≠ D := fun D oD hD hc hI hn => by
      have ht := tlk D oD hD hc
      rw [hRe]
      simp only [List.forall_mem_cons] at hn ⊢
      exact ⟨ht _ hbm, ht _ hqm, hI, hn.1, hn.2.1, offApp ht hn.2.2⟩
    have hRb := hRk lb _ (.head _) rfl (Ne.symm (hoff _ (.head _))) hnb
    have hRq := hRk lq _ (.tail _ (.head _)) rfl (Ne.symm (hoff _ (.tail _ (.head _)))) hnq
    have hRf := hRk lf _ (.tail _ (.tail _ (.head _))) rfl (Ne.symm (hoff _ (.tail _ (.tail _ (.head _))))) hnf
    have hb0 : ∀ p ∈ (lq, listOf vq.toArray nq) :: (lf, listOf vf.toArray nf) :: R, p.1 ≠ lb := List.forall_mem_cons.mpr ⟨Ne.symm hbq, List.forall_mem_cons.mpr ⟨Ne.symm hbf, hRb⟩⟩
    have hq0 : ∀ p ∈ (lf, listOf vf.toArray nf) :: R, p.1 ≠ lq := List.forall_mem_cons.mpr ⟨Ne.symm hqf, hRq⟩
    clear N9 hRk tlk
    rw [hRe] at N10 hb0 hq0 hRf
    rename Fr g L' _ _ => F10
    have hdk : us.drop k = (ue, us') :: us.drop (k + 1) := by
      rw [List.drop_eq_getElem_cons hk1]
      congr 1
      exact Option.some.inj ((List.getElem?_eq_getElem hk1).symm.trans hu)

    cases hwh : whiteU tab (ue, us') <;> cases hmk : markU tab (ue, us') <;> rw [hwh] at F10
    · walk_at "mine steps"
      rename Fr g L' _ _ => F11
      rename News g L' _ _ => N11

      rename_i Db _ _ _ _ _ _ Dq _ _ _ _ _ _ _ _ _
      rename (Db < Dq ∧ _) => l1
      have hDqI : Dq ≠ I := Nat.ne_of_gt (by omega)
      rename (lb < Db ∧ _) => l2
      have hDbI : Db ≠ I := Nat.ne_of_gt (by omega)

      obtain ⟨w1, w2, w3, w4, N12⟩ : ∃ w1 w2 w3 w4, News g L' _ ((I, oI) :: (lb, listOf (vb.set k (.ref Db)).toArray nb) :: (lq, listOf (vq.set k (.ref Dq)).toArray nq) :: (lf, listOf (vf.set k (.ref Db)).toArray nf) :: (lu, listOf vs.toArray nu) :: (d, o) ::
          ((Db, tupO [.str (S (splS tab us' ++ (bareE tab us.length (us.drop (k + 1)) (k + 1)).1)) w1, .int ((bareE tab us.length (us.drop (k + 1)) (k + 1)).2 : Int) w2] 0) :: (Dq, tupO [.str (S (splS tab us' ++ (quotE tab us.length (us.drop (k + 1)) (k + 1)).1)) w3, .int ((quotE tab us.length (us.drop (k + 1)) (k + 1)).2 : Int) w4] 0) :: (tl ++ news))) := by
        refine' ⟨_, _, _, _, newsSub N11 ?hh⟩
        case hh => walk_at "mine sub"

      exact words_end F11 N12 hoff hDbI hDqI hvb hvq hvf hk1 hik1 (by rw [hdk, bareE, if_neg (by rw [hwh]; decide)]) (by rw [hdk, bareE, if_neg (by rw [hwh]; decide)]; try rfl) (by rw [hdk, quotE, if_neg (by rw [hmk]; decide)]) (by rw [hdk, quotE, if_neg (by rw [hmk]; decide)]; try rfl) (by rw [hdk, firstE, if_neg (by rw [hwh]; decide), if_neg (by rw [hmk]; decide), bareE, if_neg (by rw [hwh]; decide)]; exact ⟨Db, 0, w1, w2, rfl, .head _⟩) htl (by walk_at "mine has")

    · walk_at "mine steps"
      rename Fr g L' _ _ => F11
      rename News g L' _ _ => N11

      rename_i Db _ _ _ _ _ _ Dq _ _ _ _ _ _ _ _ _
      rename (Db < Dq ∧ _) => l1
      have hDqI : Dq ≠ I := Nat.ne_of_gt (by omega)
      rename (lb < Db ∧ _) => l2
      have hDbI : Db ≠ I := Nat.ne_of_gt (by omega)

      obtain ⟨w1, w2, w3, w4, N12⟩ : ∃ w1 w2 w3 w4, News g L' _ ((I, oI) :: (lb, listOf (vb.set k (.ref Db)).toArray nb) :: (lq, listOf (vq.set k (.ref Dq)).toArray nq) :: (lf, listOf (vf.set k (.ref qa)).toArray nf) :: (lu, listOf vs.toArray nu) :: (d, o) ::
          ((Db, tupO [.str (S (splS tab us' ++ (bareE tab us.length (us.drop (k + 1)) (k + 1)).1)) w1, .int ((bareE tab us.length (us.drop (k + 1)) (k + 1)).2 : Int) w2] 0) :: (Dq, tupO [.str (S []) w3, .int ((k : Int) + 1) w4] 0) :: (tl ++ news))) := by
        refine' ⟨_, _, _, _, newsSub N11 ?hh⟩
        case hh => walk_at "mine sub"

      exact words_end F11 N12 hoff hDbI hDqI hvb hvq hvf hk1 hik1 (by rw [hdk, bareE, if_neg (by rw [hwh]; decide)]) (by rw [hdk, bareE, if_neg (by rw [hwh]; decide)]; try rfl) (by rw [hdk, quotE, if_pos hmk]) (by rw [hdk, quotE, if_pos hmk]; try rfl) (by rw [hdk, firstE, if_neg (by rw [hwh]; decide), if_pos hmk]; exact ⟨qa, qn, q1, q2, rfl, .tail _ (.tail _ hqm)⟩) htl (by walk_at "mine has")

    · walk_at "mine steps"
      rename Fr g L' _ _ => F11
      rename News g L' _ _ => N11

      rename_i Db _ _ _ _ _ _ Dq _ _ _ _ _ _ _ _ _
      rename (Db < Dq ∧ _) => l1
      have hDqI : Dq ≠ I := Nat.ne_of_gt (by omega)
      rename (lb < Db ∧ _) => l2
      have hDbI : Db ≠ I := Nat.ne_of_gt (by omega)

      obtain ⟨w1, w2, w3, w4, N12⟩ : ∃ w1 w2 w3 w4, News g L' _ ((I, oI) :: (lb, listOf (vb.set k (.ref Db)).toArray nb) :: (lq, listOf (vq.set k (.ref Dq)).toArray nq) :: (lf, listOf (vf.set k (.ref fa)).toArray nf) :: (lu, listOf vs.toArray nu) :: (d, o) ::
          ((Db, tupO [.str (S []) w1, .int ((k : Int) + 1) w2] 0) :: (Dq, tupO [.str (S (splS tab us' ++ (quotE tab us.length (us.drop (k + 1)) (k + 1)).1)) w3, .int ((quotE tab us.length (us.drop (k + 1)) (k + 1)).2 : Int) w4] 0) :: (tl ++ news))) := by
        refine' ⟨_, _, _, _, newsSub N11 ?hh⟩
        case hh => walk_at "mine sub"

      exact words_end F11 N12 hoff hDbI hDqI hvb hvq hvf hk1 hik1 (by rw [hdk, bareE, if_pos hwh]) (by rw [hdk, bareE, if_pos hwh]; try rfl) (by rw [hdk, quotE, if_neg (by rw [hmk]; decide)]) (by rw [hdk, quotE, if_neg (by rw [hmk]; decide)]; try rfl) (by rw [hdk, firstE, if_pos hwh]; exact ⟨fa, fn, f1, f2', rfl, .tail _ (.tail _ hfm)⟩) htl (by walk_at "mine has")

    · exfalso
      unfold whiteU at hwh
      unfold markU at hmk
      rw [Bool.and_eq_true] at hwh hmk
      have h1 := of_decide_eq_true hwh.2
      have h2 := of_decide_eq_true hmk.2
      dsimp only at h1 h2
      rw [h2] at h1
      revert h1
      decide
  · rintro m₁ nx₁ h t' ⟨vb, nb, vq, nq, vf, nf, tl, rfl, hvb, hvq, hvf, htl, tsz, hm⟩ F5 N5
    rw [Nat.sub_self] at hvf
    have F6 := frHas F5 hm
    dsimp only [mp] at F6
    clear F5 F2 N3 hvb hvq hnb hnq hbq hqf hbf
    walk_at "mine while"
    rename Fr g L' _ _ => F7
    rename News g L' _ _ => N7
    rename_i lt _ _ _ _
    rename (lb < lt ∧ _) => lx
    obtain ⟨_, _, lx3, lx4, lx5, lx6⟩ := lx
    have hnt := allLt_ne lx6
    have hflt : lf ≠ lt := Nat.ne_of_lt lx3
    have hult : lu ≠ lt := Nat.ne_of_lt lx4
    have hdlt : d ≠ lt := Nat.ne_of_lt lx5
    clear lx6
    refine while_any (WhileJ us tab lt lf lu d o vf nf vs nu tl news)
      us.length F7 (newsSub N7 (l' := (lt, listOf #[] 0) :: (lf, listOf vf.toArray nf) :: (lu, listOf vs.toArray nu) :: (d, o) :: ([] ++ (tl ++ news))) (by walk_at "mine sub")) ⟨0, _, [], 0, [], [], rfl, Nat.zero_le _, Nat.sub_le _ _, trivial, rfl, (fun _ hp => nomatch hp), _, by walk_at "mine has"⟩ ?_
    rintro n m₁ nx₁ h t' ⟨k, tk, vt, nt, t2, done, rfl, hk, hkn, hvt, hdone, ht2, tsz, hm⟩ F8 N8
    have F9 := frHas F8 hm
    dsimp only [mp] at F9
    have hvt9 : vt.length ≤ 1000 := by
      have h1 := hvt.length
      have h2 := wordsFrom_length tab us us.length 0
      rw [← hdone, List.length_append] at h2
      omega
    have hRt : ∀ p ∈ (lf, listOf vf.toArray nf) :: (lu, listOf vs.toArray nu) :: (d, o) :: (t2 ++ (tl ++ news)), p.1 ≠ lt :=
      List.forall_mem_cons.mpr ⟨hflt, List.forall_mem_cons.mpr ⟨hult, List.forall_mem_cons.mpr ⟨hdlt, offApp (offTup N8 (.head _) (.inl rfl) ht2 (by walk_at "mine sub")) hnt⟩⟩⟩
    clear F8 F7 N7
    by_cases hk1 : k < us.length
    · obtain ⟨n, rfl⟩ : ∃ n', n = n' + 1 := ⟨n - 1, by omega⟩
      obtain ⟨hg1, hg2⟩ := firstE_at (tab := tab) hk1
      rw [wordsFrom, if_pos hk1] at hdone
      obtain ⟨x, hx, fa, fn, f1, f2', rfl, hfm⟩ := hvf.at (entL_get (firstE tab us.length) us 0 k hk)
      rw [show entAt (firstE tab us.length) us 0 k = firstE tab us.length (us.drop k) k by unfold entAt; rw [if_pos (Nat.zero_le _)]] at hfm
      generalize firstE tab us.length (us.drop k) k = e at *
      obtain ⟨ew, k2⟩ := e
      dsimp only at hfm hg1 hg2 hdone
      have hx2 : vf[((k : Int)).toNat]? = some (.ref fa) := hx
      have hkI : (k : Int) < (vs.length : Int) := by omega
      have N9 := newsCons N8 (show (fa, tupO [.str (S ew) f1, .int (k2 : Int) f2'] fn) ∈ _ from .tail _ (.tail _ (.tail _ (.tail _ (List.mem_append_right _ (List.mem_append_left _ hfm))))))
      clear N8
      walk_at "mine steps"
      rename Fr g L' _ _ => F10
      rename News g L' _ _ => N10
      rename_i ls _ _
      have htk2 : (us.take k2).length ≤ 100 := Nat.le_trans (List.length_take_le' _ _) hn
      have hwl := written_length htab (us := us.take k2) (fun u hu => hok u (List.mem_of_mem_take hu))
      refine written_call F10 N10 ⟨X', T'⟩ (a.deeper _) (.head _) ((hus.take k2).mono fun v u hu => hu.mono (by walk_at "mine sub")) (show (d, o) ∈ _ by walk_at "mine mem") hsp htk2 (fun u hu => hok u (List.mem_of_mem_take hu)) htab (fun t9 h9 tk9 F11 N11 => ?_)
      have N12 := newsSub (l' := (lt, listOf vt.toArray nt) :: (lf, listOf vf.toArray nf) :: (lu, listOf vs.toArray nu) :: (d, o) :: (t2 ++ (tl ++ news))) N11 (by walk_at "mine sub")
      clear F10 N10 N11
      walk_at "mine steps"
      rename Fr g L' _ _ => F13
      rename News g L' _ _ => N13
      rename_i D _ _ _ _ _
      rw [List.push_toArray] at N13
      obtain ⟨w1, w2, w3, N14⟩ : ∃ w1 w2 w3, News g L' _ ((lt, listOf (vt ++ [Value.ref D]).toArray (nt + 1)) :: (lf, listOf vf.toArray nf) :: (lu, listOf vs.toArray nu) :: (d, o) :: (((D, tupO [.str (S ew) w1, .int ((written (us.take k2) tab).length : Int) w2, .int (1 + ((nl (written (us.take k2) tab) : Nat) : Int)) w3] 0) :: t2) ++ (tl ++ news))) := by
        refine' ⟨_, _, _, newsSub N13 ?hh⟩
        case hh => walk_at "mine sub"
      try dsimp only at N14
      refine ⟨_, _, _, _, rfl, F13, N14, n, Nat.lt_succ_self _, k2, _, vt ++ [Value.ref D], nt + 1, (D, tupO [.str (S ew) w1, .int ((written (us.take k2) tab).length : Int) w2, .int (1 + ((nl (written (us.take k2) tab) : Nat) : Int)) w3] 0) :: t2, done ++ [(ew, (written (us.take k2) tab).length, 1 + nl (written (us.take k2) tab))], rfl, hg2, by omega, ?_, ?_, ?_, tsz, by walk_at "mine has"⟩
      · exact AllIn.append (AllIn.mono (fun v u hu => hu.mono fun p hp => .tail _ hp) hvt) ⟨⟨D, 0, w1, w2, w3, rfl, by rw [show ((1 + nl (written (us.take k2) tab) : Nat) : Int) = 1 + ((nl (written (us.take k2) tab) : Nat) : Int) by omega]; exact .head _⟩, trivial⟩
      · rw [List.append_assoc]; exact hdone
      · exact List.forall_mem_cons.mpr ⟨rfl, ht2⟩
    · have hkI : ¬ (k : Int) < (vs.length : Int) := by omega
      have hnil : wordsFrom tab us n k = [] := by
        cases n with
        | zero => rfl
        | succ n => rw [wordsFrom, if_neg hk1]
      rw [hnil, List.append_nil] at hdone
      subst hdone
      have hwl := written_length htab (us := us) hok
      walk_at "mine steps"
      rename Fr g L' _ _ => F10
      rename News g L' _ _ => N10
      refine written_call F10 N10 ⟨X', T'⟩ (a.deeper _) (show (lu, _) ∈ _ by walk_at "mine mem") (hus.mono fun v u hu => hu.mono (by walk_at "mine sub")) (show (d, o) ∈ _ by walk_at "mine mem") hsp hn hok htab (fun t9 h9 tk9 F11 N11 => ?_)
      clear F10 N10
      walk_at "mine steps"
      rename Fr g L' _ _ => F13
      rename News g L' _ _ => N13
      rename_i D _ _ _ _ _ _ _ lr _ _
      obtain ⟨w1, w2, w3, N14⟩ : ∃ w1 w2 w3, News g L' _ ((lr, listOf (vt ++ [Value.ref D]).toArray 0) :: (((D, tupO [.str (S []) w1, .int ((written us tab).length : Int) w2, .int (1 + ((nl (written us tab) : Nat) : Int)) w3] 0) :: t2) ++ news)) := by
        refine' ⟨_, _, _, newsSub N13 ?hh⟩
        case hh => walk_at "mine sub"
      try dsimp only at N14
      refine leaveK_ F13 N14 (fun kF kN => ret _ _ _ _ _ _ kF kN ?_ ?_)
      · exact AllIn.append (AllIn.mono (fun v u hu => hu.mono fun p hp => .tail _ hp) hvt) ⟨⟨D, 0, w1, w2, w3, rfl, by rw [show ((1 + nl (written us tab) : Nat) : Int) = 1 + ((nl (written us tab) : Nat) : Int) by omega]; exact .head _⟩, trivial⟩
      · exact List.forall_mem_cons.mpr ⟨rfl, ht2⟩
end

-- part MLaw
section
theorem ne_same {prog : Program} {w : World} {A : Around} {s : Shared} {Q E : Value → Shared → Prop} {a b : List Nat} {t u : Tok} (e : a = b) (h : Q (.bool false) s) : wpAny (model prog w) A (compareOp .NotEq (.str (S a) t) (.str (S b) u)) Q E s := by
  subst e
  exact ne_S (by simpa using h)
theorem SpO.off {w : World} {d : Addr} {o : Obj} {tab : Tab} {h₀ h : Heap} {L : Addr} {led : List (Addr × Obj)} {ps : Array Value} (x : SpO w d o tab) (N : News h₀ L h led) (h1 : (d, o) ∈ led) (h2 : (168, tabObj ps) ∈ led) : d ≠ 168 := by
  intro e
  subst e
  have := news_same N h1 h2
  subst this
  obtain ⟨_, kvs, ⟨es, ep, _, hc, _⟩, _⟩ := x
  cases hc
theorem tabOf_ok (i : Nat) : TabOk (tabOf i) := by
  obtain ⟨h0, h1, h2, h3, h4⟩ := tabOk_ok
  match i with
  | 0 => exact h0
  | 1 => exact h1
  | 2 => exact h2
  | 3 => exact h3
  | _ + 4 => exact h4
theorem tabOf_len (i : Nat) : ∀ p ∈ tabOf i, p.2.length ≤ 14 := by
  match i with
  | 0 => decide
  | 1 => decide
  | 2 => decide
  | 3 => decide
  | _ + 4 => show ∀ p ∈ T4, p.2.length ≤ 14; decide
local macro_rules | `(tactic| walk_at "compareOp In str ref") => `(tactic| ((try dsimp only); k_dflt (refine' in_T ?k1 ?k2 ?k3 ?_; (case k1 => k_asm); (case k2 => k_mem); (case k3 => with_reducible assumption)); intro _; try dsimp only))
theorem IsCd.strip2 {a b : List (Addr × Obj)} {x : Addr × Obj} {c : Addr} {q : Str} (h : IsCd (a ++ x :: b) c q) (hx : NoStr x.2) : IsCd (a ++ b) c q := by
  obtain ⟨oc, vs, t, hm, hd, hv⟩ := h
  refine ⟨oc, vs, t, ?_, hd, hv⟩
  rcases List.mem_append.mp hm with hm | hm
  · exact List.mem_append_left _ hm
  rcases List.mem_cons.mp hm with rfl | hm
  · exact absurd hv (hx vs hd q t)
  · exact List.mem_append_right _ hm
theorem RTab.strip2 {a b : List (Addr × Obj)} {x : Addr × Obj} {ps : Array Value} (h : RTab ps (a ++ x :: b)) (hx : NoStr x.2) : RTab ps (a ++ b) :=
  h.imp id fun ⟨c1, c2, e, h1, h2⟩ => ⟨c1, c2, e, h1.strip2 hx, h2.strip2 hx⟩
theorem RTab.filt {I : Addr} {oI : Obj} {lst : List (Addr × Obj)} {ps : Array Value} (h : RTab ps lst) (hs : ∀ p ∈ lst, p.1 = I → p.2 = oI) (hno : NoStr oI) : RTab ps (lst.filter fun p => decide (p.1 ≠ I)) := by
  have key : ∀ {c : Addr} {q : Str}, IsCd lst c q → IsCd (lst.filter fun p => decide (p.1 ≠ I)) c q := by
    rintro c q ⟨oc, vs, t, hm, hd, hv⟩
    refine ⟨oc, vs, t, List.mem_filter.mpr ⟨hm, decide_eq_true ?_⟩, hd, hv⟩
    intro e
    have := hs _ hm e
    dsimp only at this
    subst this
    exact hno vs hd q t hv
  exact h.imp id fun ⟨c1, c2, e, h1, h2⟩ => ⟨c1, c2, e, key h1, key h2⟩
theorem turn_fin {h₀ h' : Heap} {L I d : Addr} {oI o : Obj} {W0 rest tr3 : List (Addr × Obj)} {ps ps3 : Array Value} (hoff : ∀ p ∈ (168, tabObj ps) :: (W0 ++ rest), p.1 ≠ I) (hno : NoStr oI) (hd168 : d ≠ 168) (hI168 : I ≠ 168) (hP : ∀ p ∈ W0 ++ rest, p.1 ≠ 168)
    (N3 : News h₀ L h' ((I, oI) :: (168, tabObj ps3) :: (W0 ++ (tr3 ++ (d, o) :: rest)))) (hR3 : RTab ps3 (tr3 ++ (d, o) :: (I, oI) :: (W0 ++ rest))) (hP3 : ∀ p ∈ tr3, p.1 ≠ 168) :
    ∃ rest', News h₀ L h' ((I, oI) :: (168, tabObj ps3) :: (W0 ++ rest')) ∧ (∀ p ∈ (168, tabObj ps3) :: (W0 ++ rest'), p.1 ≠ I) ∧ RTab ps3 (W0 ++ rest') ∧ (∀ p ∈ W0 ++ rest', p.1 ≠ 168) := by
  refine ⟨(tr3 ++ (d, o) :: rest).filter fun p => decide (p.1 ≠ I), newsSub N3 ?_, ?_, ?_, ?_⟩
  · refine sub_cons (.head _) (sub_cons (.tail _ (.head _)) (sub_drop (sub_drop ?_)))
    exact sub_app (sub_left sub_self) (sub_right fun p hp => (List.mem_filter.mp hp).1)
  · intro p hp
    rcases List.mem_cons.mp hp with rfl | hp
    · exact Ne.symm hI168
    rcases List.mem_append.mp hp with hp | hp
    · exact hoff p (.tail _ (List.mem_append_left _ hp))
    · exact of_decide_eq_true (List.mem_filter.mp hp).2
  · have h4 := hR3.filt (I := I) (oI := oI) (fun p hp e => ?_) hno
    · refine h4.mono fun p hp => ?_
      obtain ⟨hp, hne⟩ := List.mem_filter.mp hp
      rcases List.mem_append.mp hp with hp | hp
      · exact List.mem_append_right _ (List.mem_filter.mpr ⟨List.mem_append_left _ hp, hne⟩)
      rcases List.mem_cons.mp hp with rfl | hp
      · exact List.mem_append_right _ (List.mem_filter.mpr ⟨List.mem_append_right _ (.head _), hne⟩)
      rcases List.mem_cons.mp hp with rfl | hp
      · exact absurd rfl (of_decide_eq_true hne)
      rcases List.mem_append.mp hp with hp | hp
      · exact List.mem_append_left _ hp
      · exact List.mem_append_right _ (List.mem_filter.mpr ⟨List.mem_append_right _ (.tail _ hp), hne⟩)
    · have hmm : (p.1, p.2) ∈ (I, oI) :: (168, tabObj ps3) :: (W0 ++ (tr3 ++ (d, o) :: rest)) := by
        rcases List.mem_append.mp hp with hp | hp
        · exact .tail _ (.tail _ (List.mem_append_right _ (List.mem_append_left _ hp)))
        rcases List.mem_cons.mp hp with rfl | hp
        · exact .tail _ (.tail _ (List.mem_append_right _ (List.mem_append_right _ (.head _))))
        rcases List.mem_cons.mp hp with rfl | hp
        · exact .head _
        rcases List.mem_append.mp hp with hp | hp
        · exact .tail _ (.tail _ (List.mem_append_left _ hp))
        · exact .tail _ (.tail _ (List.mem_append_right _ (List.mem_append_right _ (.tail _ hp))))
      rw [e] at hmm
      exact news_same N3 hmm (.head _)
  · intro p hp
    rcases List.mem_append.mp hp with hp | hp
    · exact hP p (List.mem_append_left _ hp)
    have hp := (List.mem_filter.mp hp).1
    rcases List.mem_append.mp hp with hp | hp
    · exact hP3 p hp
    rcases List.mem_cons.mp hp with rfl | hp
    · exact hd168
    · exact hP p (List.mem_append_right _ hp)
theorem written_len {c : Nat} {tab : Tab} (hc : 1 ≤ c) (h : ∀ p ∈ tab, p.2.length ≤ c) : ∀ {us : List U}, (∀ u ∈ us, Uok u) → (written us tab).length ≤ (c + 1) * us.length
  | [], _ => by simp [written]
  | (e, s) :: r, hu => by
    have ih := written_len hc h (us := r) fun x hx => hu x (.tail _ hx)
    have hs := hu _ (.head _)
    have h1 : (wrU tab (e, s)).length ≤ c + 1 := by
      have h2 : (splS tab s).length ≤ c := by
        match s, hs with
        | [], _ => simp [splS]
        | [a], _ => exact spl_length hc h a
      unfold wrU
      rw [List.length_append]
      have : (if e = true then [92] else ([] : List Nat)).length ≤ 1 := by cases e <;> simp
      simp only at this ⊢
      omega
    rw [written_cons, List.length_append, List.length_cons, Nat.mul_succ]
    omega
theorem tabOf_len6 (i : Nat) : ∀ p ∈ tabOf i, p.2.length ≤ 6 := by
  match i with
  | 0 => decide
  | 1 => decide
  | 2 => decide
  | 3 => decide
  | _ + 4 => show ∀ p ∈ T4, p.2.length ≤ 6; decide
section
open PySem.SeqAt
variable {prog : Program} {w : World} {A : Around} {s : Shared} {h₀ : Heap} {L : Addr} {led : List (Addr × Obj)} {Q E : Value → Shared → Prop} {l l' : Addr} {vs vs' : List Value} {n n' : Nat}
theorem ne_LT {us us' : List Told} (N : News h₀ L s.heap led) (hu : A.units + 1 < cLine) (hl : (l, listOf vs.toArray n) ∈ led) (hl' : (l', listOf vs'.toArray n') ∈ led) (hv : AllIn (TIn led) vs us) (hv' : AllIn (TIn led) vs' us') (e : us = us')
    (h : Q (.bool false) s) : wpAny (model prog w) A (compareOp .NotEq (.ref l) (.ref l')) Q E s :=
  ne_L N (Nat.lt_of_succ_lt hu) hl hl' hv hv' (fun _ _ _ _ h1 h2 => eqAt_T N hu h1 h2) (by
    have : decide (us ≠ us') = false := by simp [e]
    rw [this]; exact h)
theorem ne_LU {us us' : List U} (N : News h₀ L s.heap led) (hu : A.units + 1 < cLine) (hl : (l, listOf vs.toArray n) ∈ led) (hl' : (l', listOf vs'.toArray n') ∈ led) (hv : AllIn (UIn led) vs us) (hv' : AllIn (UIn led) vs' us')
    (h : Q (.bool (decide (us ≠ us'))) s) : wpAny (model prog w) A (compareOp .NotEq (.ref l) (.ref l')) Q E s :=
  ne_L N (Nat.lt_of_succ_lt hu) hl hl' hv hv' (fun _ _ _ _ h1 h2 => eqAt_U N hu h1 h2) h
end
theorem evalV {w : World} {A : Around} {h : Heap} {gs : Array GenState} {dr : Drawn} {os : OsState} {tk : Nat} {e : Expr} {env : Env} {Q E : Value → Shared → Prop} (v0 : Value)
    (hb : wpAny (model PySem.Challenge.rw_tr0040_01.row.prog w) A (eval e env) (fun v s' => v = v0 ∧ ∃ k, s' = ⟨h, gs, dr, k, os⟩) (fun _ _ => False) ⟨h, gs, dr, tk, os⟩)
    (hQ : ∀ k, Q v0 ⟨h, gs, dr, k, os⟩) : wpAny (model PySem.Challenge.rw_tr0040_01.row.prog w) A (eval e env) Q E ⟨h, gs, dr, tk, os⟩ :=
  wpAny_mono hb (fun v s' ⟨e1, k, e2⟩ => by rw [e1, e2]; exact hQ k) (fun _ _ x => x.elim)
local macro_rules | `(tactic| walk_at "mine if") => `(tactic| repeat' ((fail_if_success (with_reducible show wpAny _ _ (eval (Expr.IfExp _ _ _ _) _) _ _ _)); walk_at "mine step"))
local macro_rules | `(tactic| walk_at "mine ne") => `(tactic| repeat' ((fail_if_success (with_reducible show wpAny _ _ (compareOp CmpOp.NotEq (Value.ref _) (Value.ref _)) _ _ _)); walk_at "mine step"))
/-- the law's end: it says True, the base stays as it was, the table of codes is grown, the generators are bare -/
def LawEnd (h₁ : Heap) (os : OsState) (tabs : List (Addr × Addr)) (r : Result) (s' : Shared) : Prop :=
  r = .ok (.ret (.bool true)) ∧ (∀ b o, (ghostOf h₁ tabs).get? b = some o → s'.heap.get? b = some o) ∧ s'.os = os ∧ AllBare s'.gens ∧ GrownAll tabs s'.heap
theorem kn_postB {M : Model} {A : Around} {cd : Code} {s s₁ : Shared} {cw : ClaimW} {cl : Str → Option Addr} {mean : ExcName → Option Value} {args : List WData} {tabs : List (Addr × Addr)} (hT : TabsAt tabs s₁.heap)
    (hp : (∀ x, cw.raises args x = false) ∧ cw.post args (.bool true) args = true)
    (h : codeAny M A cd (LawEnd s₁.heap s₁.os tabs) s) : codeAny M A cd (GoodWG cw cl mean args s₁) s :=
  codeAny_mono h fun r s' ⟨hr, hk, hos, hg, hgr⟩ => by
    refine ⟨.inl ⟨.bool true, .bool true, [], hr, hp.1, ReadsW.bool _, hp.2, fun _ => ⟨List.nodup_nil, fun a ha => nomatch ha⟩⟩, ⟨fun b o e => ?_, fun b o e => ?_⟩, hos, hg⟩
    · by_cases hb : b ∈ tabs.map (·.2)
      · obtain ⟨q, hq, rfl⟩ := List.mem_map.mp hb
        have e2 := (hT q hq).2
        rw [e] at e2
        have e3 := Option.some.inj e2
        subst e3
        obtain ⟨ps, hP⟩ := hgr.get q hq
        exact .inr (.inl ⟨((hT q hq).1.tab (hT q hq).2).isCodeTable, rfl, #[], ps, rfl, by rw [Array.empty_append]; exact hP⟩)
      · exact .inl (hk b o (ghost_ne e hb))
    · by_cases hb : b ∈ tabs.map (·.2)
      · obtain ⟨q, hq, rfl⟩ := List.mem_map.mp hb
        obtain ⟨ps, hP⟩ := hgr.get q hq
        exact ⟨_, hP⟩
      · exact ⟨o, hk b o (ghost_ne e hb)⟩
inductive LawJ (l : List Nat) (W0 : List (Addr × Obj)) (lu ll : Addr) (i : Nat) (m : Str → Option Value) (nx : List (Addr × Obj)) : Prop
  | mk (ps : Array Value) (rest : List (Addr × Obj)) (e : nx = (168, tabObj ps) :: (W0 ++ rest)) (r : RTab ps (W0 ++ rest)) (hp : ∀ p ∈ W0 ++ rest, p.1 ≠ 168)
    (q1 q2 : Tok) (hm : Has m [(Str.ofString "text", .str (S l) q1), (Str.ofString "units", .ref lu), (Str.ofString "left", .ref ll), (Str.ofString "bare", .str (S (stripS l)) q2)]) : LawJ l W0 lu ll i m nx
theorem law_go : PySem.Challenge.rw_tr0040_01.Holds := by
  refine hd ?_
  k_fill
  intro w s₀ s₁ mg mb G0 Y fa o pm cd doc dV kV ho hd' hcd hD hmg hg0 args vals as hpre hlay hrd hwl hlo
  have KX := km_in_of Y
  km_tabs Y
  have X := (Ground.X G0).1
  have V := (Ground.X G0).2
  refine Ground.open G0 ?_
  intro T B D TE TW
  try (refine guard_noD D (by decide +kernel) ?_; clear D)
  km_lay T hmg ho hd' cd
  clear hmg
  wrow_args hpre hlay hrd hwl hlo
  first | refine callC_kw (enter_call ?_) | refine enter_call ?_
  w_top on
  refine kn_postB hT9 ⟨fun _ => rfl, by first | with_unfolding_all rfl | kernel_rfl | (simp [PySem.Challenge.rw_tr0040_01, OpenLaw.row, OpenRow.toRowW]; done)⟩ ?_
  w_call any ho hd' hcd hD T F
  clear hd'
  kn_ghosts F T
  k_drop
  rename CodeHd _ _ _ => C
  rename IntsAre _ _ => hI
  rename (¬ _ < _) => hc63
  rename Frag.In _ _ => X
  rename Top topProg _ _ _ _ _ => T
  rename Below _ _ _ _ => K
  rename Fr _ _ _ _ => F
  rename News _ _ _ _ => N
  rename Heap.IsList (ghostOf _ _) _ _ => hL
  clear K
  have a0 : AOk callerA 7 := ⟨rfl, by decide, by decide⟩
  have G : GD _ _ _ _ _ := ⟨X, T⟩
  walk_at "mine steps"
  rename Fr _ _ _ _ => F1
  rename News _ _ _ _ => N1
  refine text_call F1 N1 G (AOk.le (a0.deeper _) (by decide)) hL hI (by omega) (fun l t1 h1 k1 hl F2 N2 => ?_)
  clear F1 N1
  walk_at "mine steps"
  rename Fr _ _ _ _ => F1
  rename News _ _ _ _ => N1
  refine units_call F1 N1 G (AOk.le (a0.deeper _) (by decide)) (Nat.le_trans hl (by decide)) (fun lu vs nu tl h2 k2 F3 N3 hus htl => ?_)
  clear F1 N1
  walk_at "mine steps"
  rename Fr _ _ _ _ => F1
  rename News _ _ _ _ => N1
  have hul : (unitsOf l).length ≤ 100 := Nat.le_trans (upTo_length l l.length) (Nat.le_trans hl (by decide))
  refine left_call F1 N1 G (AOk.le (a0.deeper _) (by decide)) (.head _) (hus.mono fun v u hu => hu.mono fun p hp => .tail _ (List.mem_append_left _ hp)) hul (fun ll vl nl h3 k3 F4 N4 hvl => ?_)
  clear F1 N1
  walk_at "mine steps"
  rename Fr _ _ _ _ => F1
  rename News _ _ _ _ => N1
  refine strip_call F1 N1 G (AOk.le (a0.deeper _) (by decide)) (Nat.le_trans hl (by decide)) (by show AllB _; dsimp only; rw [hg0]; intro y hy; simp at hy) (fun t5 h5 g5 k5 F5 N5 hg5 => ?_)
  clear F1 N1
  walk_at "mine steps"
  rename Fr _ _ _ _ => F1
  rename News _ _ _ _ => N1
  rename IsRange _ _ _ _ _ _ _ _ => R1
  obtain ⟨W0, hW0⟩ : ∃ W0, W0 = (ll, listOf vl.toArray nl) :: (lu, listOf vs.toArray nu) :: tl := ⟨_, rfl⟩
  have mll : (ll, listOf vl.toArray nl) ∈ W0 := by rw [hW0]; exact .head _
  have mlu : (lu, listOf vs.toArray nu) ∈ W0 := by rw [hW0]; exact .tail _ (.head _)
  have mtl : ∀ p ∈ tl, p ∈ W0 := by rw [hW0]; exact fun p hp => .tail _ (.tail _ hp)
  replace hus := hus.mono fun v u hu => hu.mono mtl
  have N2 := newsSub (l' := (168, tabObj #[]) :: (W0 ++ [])) N1 (by rw [hW0]; walk_at "mine sub")
  replace hvl : AllIn (UIn W0) vl (leftOf (unitsOf l)) := hvl.mono fun v u hu => by
    obtain ⟨a, n, t, rfl, hm⟩ := hu
    refine ⟨a, n, t, rfl, ?_⟩
    rcases List.mem_cons.mp hm with hm | hm
    · rw [hm]; exact mlu
    · rcases List.mem_append.mp hm with hm | hm
      · exact mtl _ hm
      · have := List.mem_singleton.mp hm
        exact absurd (congrArg (fun p => p.2.cls) this) (by simp)
  have hoff0 : ∀ p ∈ W0 ++ [], p.1 ≠ 168 := by
    rw [List.append_nil, hW0]
    have k168 : ∀ (a : Addr) (o : Obj), (a, o) ∈ W0 → o.cls = .type "tuple" ∨ o.cls = .type "list" → a ≠ 168 := by
      rintro a o hao hc rfl
      have := news_same N2 (.tail _ (List.mem_append_left _ hao)) (.head _)
      subst this
      rcases hc with hc | hc <;> cases hc
    exact List.forall_mem_cons.mpr ⟨k168 _ _ mll (.inr rfl), List.forall_mem_cons.mpr ⟨k168 _ _ mlu (.inr rfl), fun p hp => k168 p.1 p.2 (mtl _ hp) (.inl (htl p hp))⟩⟩
  refine it_rangeG AllB (n := 5) rfl F1 N2 R1 (by decide) (by decide) hg5 (LawJ l W0 lu ll) ?_ ?_ ?_
  · exact ⟨#[], [], rfl, .inl rfl, hoff0, _, _, by walk_at "mine has"⟩
  · rintro i tv m₁ nx₁ I oI h gs t' hi hno hgs ⟨ps, rest, rfl, hR, hP, q1, q2, hm⟩ hoff F5 N5
    have F6 := frHas F5 hm
    dsimp only [mp] at F6
    rw [show ((0 : Int) + (i : Int) * 1) = (i : Int) by omega]
    clear F5 F1 N1 N2 R1
    walk_at "mine steps"
    rename Fr _ _ _ _ => F1
    rename News _ _ _ _ => N1
    refine spell_n F1 N1 G (AOk.le (a0.deeper _) (by decide)) i hi tv (fun d o h2 k2 hsp F2 N2 => ?_)
    clear F1 N1
    walk_at "mine steps"
    rename Fr _ _ _ _ => F1
    rename News _ _ _ _ => N1
    refine write_n F1 N1 G (AOk.le (a0.deeper _) (by decide)) i hi _ l _ (Nat.le_trans hl (by decide)) (fun t3 h3 k3 F3 N3 => ?_)
    clear F1 N1
    walk_at "mine steps"
    rename Fr _ _ _ _ => F1
    rename News _ _ _ _ => N1
    have hd168 : d ≠ 168 := hsp.off N1 (by walk_at "mine mem") (show (168, tabObj ps) ∈ _ by walk_at "mine mem")
    have hI168 : I ≠ 168 := Ne.symm (hoff _ (.head _))
    have tok9 := tabOf_ok i
    have tlen9 := tabOf_len i
    refine written_call F1 N1 G (AOk.le (a0.deeper _) (by decide)) (.tail _ (.tail _ (.tail _ (List.mem_append_left _ mlu)))) (hus.mono fun v u hu => hu.mono fun p hp => .tail _ (.tail _ (.tail _ (List.mem_append_left _ hp)))) (.head _) hsp hul (upTo_ok l l.length) tlen9 (fun t4 h4 k4 F4 N4 => ?_)
    clear F1 N1
    refine ne_same (units_written _ tok9.bs l).symm ?_
    walk_at "mine steps"
    rename Fr _ _ _ _ => F1
    rename News _ _ _ _ => N1
    have N2 := newsSub (l' := (168, tabObj ps) :: ((d, o) :: (I, oI) :: (W0 ++ rest))) N1 (by walk_at "mine sub")
    have hspl : (sp (tabOf i) l).length ≤ 100 := by
      have := sp_length (by decide) (tabOf_len6 i) l
      omega
    refine read_call F1 N2 G (AOk.le (a0.deeper _) (by decide)) C (List.forall_mem_cons.mpr ⟨hd168, List.forall_mem_cons.mpr ⟨hI168, hP⟩⟩) (hR.mono fun q hq => .tail _ (.tail _ hq)) hspl (fun lr vr nr tr ps2 h5 k5 F5 N5 hR5 hP5 hlr hvr => ?_)
    clear F1 N1 N2
    walk_at "mine steps"
    rename Fr _ _ _ _ => F1
    rename News _ _ _ _ => N1
    refine' words_call F1 N1 G (AOk.le (a0.deeper _) (by decide)) ?mlu ?hus ?md hsp hul (upTo_ok l l.length) tlen9 (fun lr2 vr2 nr2 tl2 h6 k6 F6 N6 hvr2 htl2 => ?_)
    case mlu => exact (show ∀ p ∈ W0, p ∈ _ by walk_at "mine sub") _ mlu
    case hus => exact hus.mono fun v u hu => hu.mono (by walk_at "mine sub")
    case md => walk_at "mine mem"
    clear F1 N1
    walk_at "mine ne"
    rename Fr _ _ _ _ => F1
    rename News _ _ _ _ => N1
    refine ne_LT N1 (by simp only [units_deeper]; decide) (show (lr, _) ∈ _ by walk_at "mine mem") (show (lr2, _) ∈ _ by walk_at "mine mem") (hvr.mono fun v u hu => hu.mono (by walk_at "mine sub")) (hvr2.mono fun v u hu => hu.mono (by walk_at "mine sub")) ?_ ?_
    · rw [← units_written _ tok9.bs l]; exact read_words tok9 _ (units_proper l)
    walk_at "mine if"
    rename Fr _ _ _ _ => F1
    rename News _ _ _ _ => N1
    have N2 := newsSub (l' := (d, o) :: (168, tabObj ps2) :: (tr ++ (I, oI) :: (W0 ++ rest))) N1 (by walk_at "mine sub")
    clear N1
    obtain ⟨lk, vk, nk, uk, hlk, mlk, hvk, huk, hokk, hstrip⟩ : ∃ lk vk nk uk, lk = (if inTab (tabOf i) [34] = true then lu else ll) ∧ (lk, listOf vk.toArray nk) ∈ W0 ∧ AllIn (UIn W0) vk uk ∧ uk.length ≤ 100 ∧ (∀ u ∈ uk, Uok u) ∧ stripS (sp (tabOf i) l) = written uk (tabOf i) := by
      cases hin : inTab (tabOf i) [34]
      · refine ⟨ll, vl, nl, _, rfl, mll, hvl, Nat.le_trans (leftTo_length _ _ _) hul, left_ok (upTo_ok l l.length) _ _, ?_⟩
        rw [← units_written _ tok9.bs l]
        exact strip_left tok9 (by simpa [inTab] using hin) _ (units_proper l)
      · refine ⟨lu, vs, nu, _, rfl, mlu, hus, hul, upTo_ok l l.length, ?_⟩
        rw [← units_written _ tok9.bs l]
        exact strip_none tok9 (fun q => by rw [show inTab (tabOf i) [34] = ((tabOf i).lookup 34).isSome from rfl, q] at hin; cases hin) _ (units_proper l)
    refine evalV (.ref lk) ?_ ?_
    · rw [hlk]
      cases hin : inTab (tabOf i) [34]
      · walk_at "mine steps"
      · walk_at "mine steps"
    intro tkk
    dsimp only
    walk_at "mine steps"
    rename Fr _ _ _ _ => F1
    rename News _ _ _ _ => N1
    refine strip_call F1 N1 G (AOk.le (a0.deeper _) (by decide)) (Nat.le_trans hspl (by decide)) hgs (fun t7 h7 g7 k7 F7 N7 hg7 => ?_)
    clear F1 N1
    walk_at "mine steps"
    rename Fr _ _ _ _ => F1
    rename News _ _ _ _ => N1
    refine' written_call F1 N1 G (AOk.le (a0.deeper _) (by decide)) ?mlu ?hus ?md hsp huk hokk tlen9 (fun t8 h8 k8 F8 N8 => ?_)
    case mlu => exact (show ∀ p ∈ W0, p ∈ _ by walk_at "mine sub") _ mlk
    case hus => exact hvk.mono fun v u hu => hu.mono (by walk_at "mine sub")
    case md => walk_at "mine mem"
    clear F1 N1
    refine ne_same hstrip ?_
    walk_at "mine ne"
    rename Fr _ _ _ _ => F1
    rename News _ _ _ _ => N1
    refine ne_LU N1 (by simp only [units_deeper]; decide) ((show ∀ p ∈ W0, p ∈ _ by walk_at "mine sub") _ mll) ((show ∀ p ∈ W0, p ∈ _ by walk_at "mine sub") _ mlu) (hvl.mono fun v u hu => hu.mono (by walk_at "mine sub")) (hus.mono fun v u hu => hu.mono (by walk_at "mine sub")) ?_
    have ok0 : TabOk [] := ⟨rfl, fun c s h => by cases h⟩
    have hsl : stripS l = written (leftOf (unitsOf l)) [] := by
      have := strip_left ok0 rfl (unitsOf l) (units_proper l)
      rwa [units_written [] rfl, sp_nil] at this
    have hlok : ∀ u ∈ leftOf (unitsOf l), Uok u := left_ok (upTo_ok l l.length) _ _
    have hspb : sp (tabOf i) (stripS l) = written (leftOf (unitsOf l)) (tabOf i) := by
      rw [hsl]; exact sp_written _ tok9.bs _ hlok
    have hll9 : (leftOf (unitsOf l)).length ≤ 10 := Nat.le_trans (leftTo_length _ _ _) (Nat.le_trans (upTo_length l l.length) hl)
    walk_at "mine steps"
    · rename Fr _ _ _ _ => F1
      rename News _ _ _ _ => N1
      have hsl9 : (stripS l).length ≤ 1000 := by
        rw [hsl]
        have := written_len (c := 1) (tab := []) (by decide) (fun p hp => nomatch hp) hlok
        omega
      refine write_n F1 N1 G (AOk.le (a0.deeper _) (by decide)) i hi _ (stripS l) _ hsl9 (fun t3 h3 k3 F3 N3 => ?_)
      clear F1 N1
      walk_at "mine steps"
      rename Fr _ _ _ _ => F1
      rename News _ _ _ _ => N1
      have hspb9 : (sp (tabOf i) (stripS l)).length ≤ 100 := by
        rw [hspb]
        have := written_len (by decide) (tabOf_len6 i) hlok
        omega
      have N2 := newsSub (l' := (168, tabObj ps2) :: (tr ++ (d, o) :: (I, oI) :: (W0 ++ rest))) N1 (by walk_at "mine sub")
      refine read_call F1 N2 G (AOk.le (a0.deeper _) (by decide)) C (offApp hP5 (List.forall_mem_cons.mpr ⟨hd168, List.forall_mem_cons.mpr ⟨hI168, hP⟩⟩)) hR5 hspb9 (fun lr3 vr3 nr3 tr3 ps3 h5 k5 F5 N5 hR6 hP6 hlr3 hvr3 => ?_)
      clear F1 N1 N2
      walk_at "mine steps"
      rename Fr _ _ _ _ => F1
      rename News _ _ _ _ => N1
      refine' words_call F1 N1 G (AOk.le (a0.deeper _) (by decide)) ?mlu ?hus ?md hsp (Nat.le_trans hll9 (by decide)) hlok tlen9 (fun lr4 vr4 nr4 tl4 h6 k6 F6 N6 hvr4 htl4 => ?_)
      case mlu => exact (show ∀ p ∈ W0, p ∈ _ by walk_at "mine sub") _ mll
      case hus => exact hvl.mono fun v u hu => hu.mono (by walk_at "mine sub")
      case md => walk_at "mine mem"
      clear F1 N1
      walk_at "mine ne"
      rename Fr _ _ _ _ => F1
      rename News _ _ _ _ => N1
      refine ne_LT N1 (by simp only [units_deeper]; decide) (show (lr3, _) ∈ _ by walk_at "mine mem") (show (lr4, _) ∈ _ by walk_at "mine mem") (hvr3.mono fun v u hu => hu.mono (by walk_at "mine sub")) (hvr4.mono fun v u hu => hu.mono (by walk_at "mine sub")) ?_ ?_
      · rw [hspb]; exact read_words tok9 _ (left_proper _ (units_proper l))
      walk_at "mine steps"
      rename Fr _ _ _ _ => F1
      rename News _ _ _ _ => N1
      have N2 := newsSub (l' := (I, oI) :: (168, tabObj ps3) :: (W0 ++ ((tr3 ++ tr) ++ (d, o) :: rest))) N1 (by walk_at "mine sub")
      obtain ⟨rest', n1, n2, n3, n4⟩ := turn_fin hoff hno hd168 hI168 hP N2 (by rw [List.append_assoc]; exact hR6) (offApp hP6 hP5)
      exact ⟨_, _, _, _, _, rfl, hg7, F1, n1, n2, ps3, rest', rfl, n3, n4, _, _, by walk_at "mine has"⟩
    · rename Fr _ _ _ _ => F1
      rename News _ _ _ _ => N1
      have N2 := newsSub (l' := (I, oI) :: (168, tabObj ps2) :: (W0 ++ (tr ++ (d, o) :: rest))) N1 (by walk_at "mine sub")
      obtain ⟨rest', n1, n2, n3, n4⟩ := turn_fin hoff hno hd168 hI168 hP N2 hR5 hP5
      exact ⟨_, _, _, _, _, rfl, hg7, F1, n1, n2, ps2, rest', rfl, n3, n4, _, _, by walk_at "mine has"⟩
  · rintro m₁ nx₁ h gs t' hgs ⟨ps, rest, rfl, hR, hP, q1, q2, hm⟩ F5 N5
    have F6 := frHas F5 hm
    dsimp only [mp] at F6
    clear F5 F1 N1 N2 R1
    walk_at "mine steps"
    rename Fr _ _ _ _ => F1
    rename News _ _ _ _ => N1
    rename PyProof.V.FlatPairs PyData.str _ _ => fs9
    have ok0 : TabOk [] := ⟨rfl, fun c s h => by cases h⟩
    have hsl : stripS l = written (leftOf (unitsOf l)) [] := by
      have := strip_left ok0 rfl (unitsOf l) (units_proper l)
      rwa [units_written [] rfl, sp_nil] at this
    have hlok : ∀ u ∈ leftOf (unitsOf l), Uok u := left_ok (upTo_ok l l.length) _ _
    have hll9 : (leftOf (unitsOf l)).length ≤ 10 := Nat.le_trans (leftTo_length _ _ _) (Nat.le_trans (upTo_length l l.length) hl)
    refine' written_call (tab := []) F1 N1 G (AOk.le (a0.deeper _) (by decide)) ?mlu ?hus (.head _) ⟨by assumption, _, by assumption, fs9⟩ (Nat.le_trans hll9 (by decide)) hlok (fun p hp => nomatch hp) (fun t8 h8 k8 F8 N8 => ?_)
    case mlu => exact (show ∀ p ∈ W0, p ∈ _ by walk_at "mine sub") _ mll
    case hus => exact hvl.mono fun v u hu => hu.mono (by walk_at "mine sub")
    rw [← hsl]
    walk_at "mine steps"
    exact ⟨by rw [decide_eq_true rfl], fun b o e => F8.keep b o e, rfl, hgs, ⟨ps, (N8 (168, tabObj ps) (by walk_at "mine mem")).1⟩, trivial⟩
end

end Mine
theorem PySem.Challenge.cw_tr0040_01_holds : PySem.Challenge.rw_tr0040_01.Holds :=
  Mine.law_go
