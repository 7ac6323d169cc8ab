import PyProof.Rows.All
import Wide.All
import OpenK.AllK
import Wide.FinOn
import PySem.Challenge.RW_zs0002_01
set_option Elab.async false
section
open PySem PySem.W PyProof.Rows
namespace Mine
set_option maxRecDepth 100000 in
set_option maxHeartbeats 8000000 in
open_top hd for PySem.Challenge.rw_zs0002_01
end Mine
end
section
open PySem PySem.W PyProof.Rows
namespace Mine

def lab : Nat → List Nat
  | 0 => [97]
  | 1 => [98]
  | _ => [99, 99]
def nmL : List Nat → List Nat
  | [] => [99, 99]
  | x :: q => lab x ++ 46 :: nmL q
def nm (q : List Nat) : Str := ⟨(nmL q).toArray⟩
def tdL : List Nat → List Nat
  | [] => [99, 99, 124]
  | x :: q => tdL q ++ (lab x ++ [124])
def td (q : List Nat) : Str := ⟨(tdL q).toArray⟩
/-- the zone's text of a host text -/
def zn (q : List Nat) : Str := ⟨(46 :: nmL q).toArray⟩
def labS (n : Nat) : Str := ⟨(lab n).toArray⟩
def ccS : Str := ⟨#[99, 99]⟩

def grow (l : List (List Nat)) : List (List Nat) := l.flatMap fun q => [0 :: q, 1 :: q, 2 :: q]
def U1 : List (List Nat) := [[0], [1], [2]]
def U2 := grow U1
def U3 := grow U2
def U4 := grow U3
/-- all hosts -/
def U : List (List Nat) := U1 ++ U2 ++ U3 ++ U4
/-- the hosts that can be a zone's own name -/
def V : List (List Nat) := U1 ++ U2 ++ U3

theorem U_count : U.length = 120 := by decide +kernel
theorem nm_len : ∀ q ∈ U, (nm q).length ≤ 15 := by decide +kernel

end Mine
end
section
open PySem PySem.W PyProof.Rows
namespace Mine
set_option maxRecDepth 100000

theorem pat_ga : typeLookup (.type "re.Pattern") "__getattribute__" = pure (some (.builtin "object.__getattribute__")) := by rw [typeLookup_type, builtinLookup_eq_fast]; kernel_rfl
theorem pat_plain : PlainAttrs "re.Pattern" :=
  ⟨⟨"object.__getattribute__", pat_ga, by decide +kernel⟩, by rw [typeLookup_type, builtinLookup_eq_fast]; kernel_rfl⟩
theorem pat_slot : Slot "re.Pattern" "search" "re.Pattern.search" :=
  .of (owner := "re.Pattern") (n := "search") (by rw [typeLookup_type, builtinLookup_eq_fast]; kernel_rfl) (by decide +kernel) (by decide +kernel) (by decide +kernel)
    (by first | exact .inl (by decide +kernel) | exact .inr (by decide +kernel)) (by rw [isSubtype_type]; kernel_rfl)
theorem pat_type : typeOf (.builtin "re.Pattern.search") = pure (.type "method_descriptor") := by show builtinType _ = _; rw [builtinType_eq_fast]; kernel_rfl
theorem pat_entry : entryFor table "re.Pattern.search" = some Builtin.«re.Pattern.search» := entryFor_of_tree (by kernel_rfl)
theorem pat_owner : Manifest.owners.lookup (String.ofList ['n', 'r', 'e', 't', 't', 'a', 'P', '.', 'e', 'r'].reverse) = some Manifest.sig_re_Pattern := by kernel_rfl
theorem pat_args (a b : Value) : argsOk "re.Pattern.search" ⟨[a, b], []⟩ := by
  unfold argsOk; rw [signature?_of (id := "re.Pattern.search") (n := ['h', 'c', 'r', 'a', 'e', 's']) (o := ['n', 'r', 'e', 't', 't', 'a', 'P', '.', 'e', 'r']) (by kernel_rfl) pat_owner]; kernel_rfl

/-- the compiled code of IPV4_RE -/
def ipCode : Array Nat := #[14, 8, 1, 2, 4294967295, 1, 1, 46, 0, 16, 46, 24, 9, 1, 4294967295, 13, 4, 8, 0, 0, 1, 6, 5, 1]
def ipRun (x : Str) : Sre.M := Sre.forSearch ipCode x.cps 0 0 x.cps.size false
def failsIn (n : Nat) (m : Sre.M) : Bool := match (Sre.M.runFor n m).outcome with
  | some .failed => true
  | _ => false
/-- hands a list on, its members laid out -/
def laid : List Nat → (List Nat → Bool) → Bool
  | [], k => k []
  | a :: l, k => laid l fun l' => k (a :: l')
theorem laid_eq : ∀ (l : List Nat) (k : List Nat → Bool), laid l k = k l
  | [], _ => rfl
  | _ :: l, _ => laid_eq l _
def textFails (l : List Nat) : Bool := laid l fun l => failsIn 200 (ipRun ⟨l.toArray⟩)
theorem textFails_eq {l : List Nat} (h : textFails l = true) : failsIn 200 (ipRun ⟨l.toArray⟩) = true := by
  unfold textFails at h
  rwa [laid_eq] at h
theorem nm_fails1 : (U1 ++ U2 ++ U3).all (fun q => textFails (nmL q)) = true := by decide +kernel
theorem nm_fails2 : (U4.take 20).all (fun q => textFails (nmL q)) = true := by decide +kernel
theorem nm_fails3 : ((U4.drop 20).take 20).all (fun q => textFails (nmL q)) = true := by decide +kernel
theorem nm_fails4 : ((U4.drop 40).take 20).all (fun q => textFails (nmL q)) = true := by decide +kernel
theorem nm_fails5 : (U4.drop 60).all (fun q => textFails (nmL q)) = true := by decide +kernel
theorem U4_parts : U4 = U4.take 20 ++ ((U4.drop 20).take 20 ++ ((U4.drop 40).take 20 ++ U4.drop 60)) := by decide +kernel
theorem U_parts {P : List Nat → Prop} (h1 : ∀ q ∈ U1 ++ U2 ++ U3, P q) (h2 : ∀ q ∈ U4.take 20, P q) (h3 : ∀ q ∈ (U4.drop 20).take 20, P q) (h4 : ∀ q ∈ (U4.drop 40).take 20, P q) (h5 : ∀ q ∈ U4.drop 60, P q) : ∀ q ∈ U, P q := by
  intro q hq
  rcases List.mem_append.mp hq with h | h
  · exact h1 q h
  · rw [U4_parts] at h
    rcases List.mem_append.mp h with h | h
    · exact h2 q h
    · rcases List.mem_append.mp h with h | h
      · exact h3 q h
      · rcases List.mem_append.mp h with h | h
        · exact h4 q h
        · exact h5 q h
theorem nm_fails (q) (hq : q ∈ U) : failsIn 200 (ipRun (nm q)) = true := by
  refine textFails_eq ?_
  rcases List.mem_append.mp hq with h | h
  · exact List.all_eq_true.mp nm_fails1 q h
  · rw [U4_parts] at h
    rcases List.mem_append.mp h with h | h
    · exact List.all_eq_true.mp nm_fails2 q h
    · rcases List.mem_append.mp h with h | h
      · exact List.all_eq_true.mp nm_fails3 q h
      · rcases List.mem_append.mp h with h | h
        · exact List.all_eq_true.mp nm_fails4 q h
        · exact List.all_eq_true.mp nm_fails5 q h
theorem zn_fails_all : V.all (fun q => textFails (46 :: nmL q)) = true := by decide +kernel
theorem zn_fails (q) (hq : q ∈ V) : failsIn 200 (ipRun (zn q)) = true := textFails_eq (List.all_eq_true.mp zn_fails_all q hq)

section
variable {M : Model} {A : Around} {E : Value → Shared → Prop} {s : Shared}
theorem runFor_done {m : Sre.M} (h : m.outcome.isSome = true) : ∀ n, Sre.M.runFor n m = m
  | 0 => rfl
  | n + 1 => by rw [Sre.M.runFor, if_pos h]
theorem runFor_add (a b : Nat) : ∀ m : Sre.M, Sre.M.runFor (a + b) m = Sre.M.runFor b (Sre.M.runFor a m) := by
  induction a with
  | zero => intro m; rw [Nat.zero_add]; rfl
  | succ a ih =>
    intro m
    rw [show a + 1 + b = (a + b) + 1 by omega, Sre.M.runFor, Sre.M.runFor]
    by_cases h : m.outcome.isSome = true
    · rw [if_pos h, if_pos h, runFor_done h]
    · rw [if_neg h, if_neg h, ih]
theorem drive (n : Nat) : ∀ (k : Nat) (m : Sre.M) (Q : Sre.M → Shared → Prop), n + 1 ≤ k → (Sre.M.runFor (4 * n) m).outcome.isSome = true → Q (Sre.M.runFor (4 * n) m) s →
    wpAny M A (Builtin.Re.reDrive k m) Q E s := by
  induction n with
  | zero =>
    intro k m Q hk ho hq
    obtain ⟨j, rfl⟩ : ∃ j, k = j + 1 := ⟨k - 1, by omega⟩
    have ho' : m.outcome.isSome = true := ho
    have e4 : Sre.M.runFor Builtin.Re.reTurnSteps m = m := runFor_done ho' _
    rw [Builtin.Re.reDrive]
    rw [e4]
    refine wpAny_ite ?_
    rw [if_pos ho']
    exact wpAny_pure hq
  | succ n ih =>
    intro k m Q hk ho hq
    obtain ⟨j, rfl⟩ : ∃ j, k = j + 1 := ⟨k - 1, by omega⟩
    rw [Builtin.Re.reDrive]
    have e : Sre.M.runFor (4 * (n + 1)) m = Sre.M.runFor (4 * n) (Sre.M.runFor Builtin.Re.reTurnSteps m) := by rw [show 4 * (n + 1) = Builtin.Re.reTurnSteps + 4 * n by unfold Builtin.Re.reTurnSteps; omega, runFor_add]
    refine wpAny_ite ?_
    by_cases h : (Sre.M.runFor Builtin.Re.reTurnSteps m).outcome.isSome = true
    · rw [if_pos h]
      rw [e, runFor_done h] at hq
      exact wpAny_pure hq
    · rw [if_neg h]
      refine wpAny_bind (wpAny_rule ?_)
      exact ih j _ Q (by omega) (e ▸ ho) (e ▸ hq)
theorem rules_skip (m : Sre.M) (f : Nat → String) : ∀ (l : List Nat) (Q : PUnit → Shared → Prop), Q ⟨⟩ s →
    wpAny M A (forIn l PUnit.unit fun i _ => if m.seen.has i = true then do rule (f i); pure (ForInStep.yield PUnit.unit) else pure (ForInStep.yield PUnit.unit)) Q E s := by
  intro l
  induction l with
  | nil => intro Q h; exact wpAny_pure h
  | cons i r ih =>
    intro Q h
    rw [List.forIn_cons]
    refine wpAny_bind (wpAny_ite ?_)
    split
    · exact wpAny_bind (wpAny_rule (wpAny_pure (ih Q h)))
    · exact wpAny_pure (ih Q h)
theorem run_none {m : Sre.M} {Q : Option Sre.M → Shared → Prop} (h : failsIn 200 m = true) (hq : Q none s) : wpAny M A (Builtin.Re.reRunToEnd m) Q E s := by
  have ho : (Sre.M.runFor (4 * 50) m).outcome = some .failed := by
    unfold failsIn at h
    split at h
    · assumption
    · cases h
  unfold Builtin.Re.reRunToEnd
  refine wpAny_bind (drive 50 _ m _ (by decide) (by rw [ho]; rfl) ?_)
  refine wpAny_bind (rules_skip _ _ _ _ ?_)
  rw [ho]
  exact wpAny_pure hq

theorem if_ff {α : Type} {c : Bool} {a b : Sem α} {Q : α → Shared → Prop} (hc : c = false) (h : wpAny M A b Q E s) : wpAny M A (if c = true then a else b) Q E s := by
  subst hc; exact h
theorem if_tt {α : Type} {c : Bool} {a b : Sem α} {Q : α → Shared → Prop} (hc : c = true) (h : wpAny M A a Q E s) : wpAny M A (if c = true then a else b) Q E s := by
  subst hc; exact h
theorem search_target {x : Str} {t : Tok} {vs : Array Value} {k : Nat} {d d' : Option Addr} {sl sl' : Array (Option Value)} {p c : Addr} {Q : Builtin.Re.ReTarget → Shared → Prop}
    (hp : s.heap.get? p = some ⟨.type "re.Pattern", d, .fields #[.str (Str.ofString "\\.\\d+$") 285, .int 256 312, .int 0 0, .none, .none, .ref c, .int 0 0], sl⟩)
    (hc : s.heap.get? c = some ⟨.type "tuple", d', .seq vs k, sl'⟩)
    (h : Q { pattern := .ref p, string := .str x t, code := (vs.map Builtin.Re.reRawOf).map (·.toNat), text := x.cps, kind := 0, groups := 0, pos := min 0 x.cps.size, lim := min (2 ^ 63 - 1) x.cps.size } s) :
    wpAny M A (Builtin.Re.reTarget "re.Pattern.search" "search" ⟨[.ref p, .str x t], []⟩) Q E s := by
  unfold Builtin.Re.reTarget
  refine wpAny_bind (m := Builtin.Re.reNamed _ _ _ _ _ _) (wpAny_of_eq (a := [some (.str x t), none, none]) (by rfl) ?_)
  dsimp only
  refine wpAny_bind (wpAny_pure (wpAny_bind (wpAny_pure (wpAny_bind ?_))))
  refine wpAny_bind (wpAny_load hp (wpAny_pure ?_))
  refine wpAny_bind (wpAny_of_eq (a := (x.cps, 0)) (by rfl) ?_)
  refine if_ff (by rfl) ?_
  refine if_ff (by rfl) ?_
  refine wpAny_bind (wpAny_of_eq (a := ()) (by rfl) ?_)
  refine wpAny_bind ?_
  show wpAny M A (do return ((← seqItems? (.ref c)).getD #[]).map Builtin.Re.reRawOf) _ _ _
  refine wpAny_bind (wpAny_bind (wpAny_load hc (wpAny_pure (wpAny_pure (wpAny_pure ?_)))))
  exact h
end
section
variable {prog : Program} {w : World} {A : Around} {E : Value → Shared → Prop} {s : Shared}
theorem search_none {x : Str} {t : Tok} {vs : Array Value} {k : Nat} {d' : Option Addr} {sl sl' : Array (Option Value)} {p c : Addr} {Q : Value → Shared → Prop}
    (hp : s.heap.get? p = some ⟨.type "re.Pattern", none, .fields #[.str (Str.ofString "\\.\\d+$") 285, .int 256 312, .int 0 0, .none, .none, .ref c, .int 0 0], sl⟩)
    (hc : s.heap.get? c = some ⟨.type "tuple", d', .seq vs k, sl'⟩) (hv : (vs.map Builtin.Re.reRawOf).map (·.toNat) = ipCode) (hx : x.cps.size < 2 ^ 63) (hf : failsIn 200 (ipRun x) = true)
    (h : Q .none s) : wpAny (model prog w) A (call (.builtin "re.Pattern.search") [.ref p, .str x t]) Q E s := by
  refine wpAny_call_entry pat_slot ⟨_, hp, rfl⟩ pat_entry ?_ (pat_args _ _)
  unfold Builtin.«re.Pattern.search»
  refine wpAny_bind (search_target hp hc ?_)
  unfold Builtin.Re.reAnswer
  rw [hv, show min 0 x.cps.size = 0 by omega, show min (2 ^ 63 - 1) x.cps.size = x.cps.size by omega]
  exact wpAny_bind (run_none hf (wpAny_pure ⟨_, rfl, h⟩))
theorem search_meth {d : Data} {sl : Array (Option Value)} {p : Addr} {pl : Sem Bool} {Q : Value × List Value → Shared → Prop}
    (hp : s.heap.get? p = some ⟨.type "re.Pattern", none, d, sl⟩) (h : Q (.builtin "re.Pattern.search", [.ref p]) s) :
    wpAny (model prog w) A (getMethod (.ref p) (Str.ofString "search") pl) Q E s :=
  getMethod_builtin ⟨_, hp, rfl⟩ pat_plain pat_slot pat_type (fun a e => by cases e; exact ⟨_, hp, rfl⟩) h
end
end Mine
end
section
open PySem PySem.W PyProof.Rows PySem.Spec
namespace Mine
set_option maxRecDepth 100000

/-- values made one by one of data -/
inductive Made {α : Type} (R : α → Tok → Value) : List Value → List α → Prop
  | nil : Made R [] []
  | cons {a : α} {t : Tok} {ys : List Value} {xs : List α} : Made R ys xs → Made R (R a t :: ys) (a :: xs)
theorem Made.snoc {α : Type} {R : α → Tok → Value} {a : α} {t : Tok} : ∀ {ys : List Value} {xs : List α}, Made R ys xs → Made R (ys ++ [R a t]) (xs ++ [a])
  | _, _, .nil => .cons .nil
  | _, _, .cons h => .cons h.snoc
theorem Made.strs {α : Type} {g : α → Str} : ∀ {ys : List Value} {xs : List α}, Made (fun a t => .str (g a) t) ys xs → StrsAre ys (xs.map g)
  | _, _, .nil => .nil
  | _, _, .cons h => .cons _ _ h.strs
theorem Made.ints {α : Type} {g : α → Int} : ∀ {ys : List Value} {xs : List α}, Made (fun a t => .int (g a) t) ys xs → IntsAre ys (xs.map g)
  | _, _, .nil => .nil
  | _, _, .cons h => .cons _ _ h.ints

section
variable {prog : Program} {w : World} {A : Around} {E : Value → Shared → Prop} {h₀ : Heap} {L : Addr} {m : Str → Option Value} {env : Env} {elt ct : Expr} {x : Str} {scope : Scope} {cl : List (Str × Addr)} {news : List (Addr × Obj)}

/-- an element of a comprehension, its name bound to v, comes to R -/
abbrev EltTo (prog : Program) (w : World) (A : Around) (h₀ : Heap) (L : Addr) (m : Str → Option Value) (env : Env) (elt : Expr) (x : Str) (scope : Scope) (cl : List (Str × Addr)) (news : List (Addr × Obj)) (v : Value) (R : Tok → Value) : Prop :=
  ∀ (s : Shared) (I C D : Addr) (oI oC oD : Obj) (m₂ : Str → Option Value) (Q E' : Value → Shared → Prop), LCg.NsObj oC m₂ → m₂ x = some v → Fr h₀ L s.heap m → News h₀ L s.heap ((I, oI) :: (C, oC) :: (D, oD) :: news) →
    (∀ (t : Tok) (h' : Heap) (tk' : Nat), Fr h₀ L h' m → News h₀ L h' ((I, oI) :: (C, oC) :: (D, oD) :: news) → Q (R t) { s with heap := h', toks := tk' }) →
    wpAny (model prog w) A (eval elt (compEnvC scope cl C env)) Q E' s
/-- a test of a comprehension, its name bound to v, comes to b -/
abbrev TestTo (prog : Program) (w : World) (A : Around) (h₀ : Heap) (L : Addr) (m : Str → Option Value) (env : Env) (ct : Expr) (x : Str) (scope : Scope) (cl : List (Str × Addr)) (news : List (Addr × Obj)) (v : Value) (b : Bool) : Prop :=
  ∀ (s : Shared) (I C D : Addr) (oI oC oD : Obj) (m₂ : Str → Option Value) (Q : Bool → Shared → Prop) (E' : Value → Shared → Prop), LCg.NsObj oC m₂ → m₂ x = some v → Fr h₀ L s.heap m → News h₀ L s.heap ((I, oI) :: (C, oC) :: (D, oD) :: news) →
    (∀ (h' : Heap) (tk' : Nat), Fr h₀ L h' m → News h₀ L h' ((I, oI) :: (C, oC) :: (D, oD) :: news) → Q b { s with heap := h', toks := tk' }) →
    wpAny (model prog w) A (isTrue ct (compEnvC scope cl C env) (eval ct (compEnvC scope cl C env))) Q E' s

theorem rest_map {s : Shared} {S : List (Addr × Obj) → Prop} {P : Nat → Value → Prop} {Fin : List Value → List (Addr × Obj) → Prop} {α : Type} {R : α → Tok → Value} {xs : List α} (hS : S news)
    (hP : ∀ i v, i < xs.length → P i v → ∃ a, xs[i]? = some a ∧ EltTo prog w A h₀ L m env elt x scope cl news v (R a))
    (fin : ∀ ys, Made R ys xs → Fin ys news) : LCg.CompRest prog w A h₀ L m env elt x scope cl s S P Fin xs.length 0 [] news := by
  have key : ∀ (j i : Nat) (ys : List Value), i + j = xs.length → Made R ys (xs.take i) → LCg.CompRest prog w A h₀ L m env elt x scope cl s S P Fin j i ys news := by
    intro j
    induction j with
    | zero =>
      intro i ys hi hy
      rw [List.take_of_length_le (by omega)] at hy
      exact LCg.CompRest.zero (fin ys hy)
    | succ j ih =>
      intro i ys hi hy
      refine LCg.CompRest.succ ?_
      intro v I oI C oC D m₂ h tk E' hv hC hx F N off _
      obtain ⟨a, ha, he⟩ := hP i v (by omega) hv
      refine he { s with heap := h, toks := tk } I C D oI oC _ m₂ _ E' hC hx F N ?_
      intro t h' tk' F' N'
      refine ⟨h', tk', news, rfl, F', N', off, hS, ih (i + 1) _ (by omega) ?_⟩
      rw [List.take_add_one, ha]
      exact hy.snoc
  exact key xs.length 0 [] (by omega) (by rw [List.take_zero]; exact .nil)

theorem rest_filter {s : Shared} {S : List (Addr × Obj) → Prop} {P : Nat → Value → Prop} {Fin : List Value → List (Addr × Obj) → Prop} {xs : List Str} {p : Str → Bool} (hS : S news)
    (hP : ∀ i v, i < xs.length → P i v → ∃ a t, xs[i]? = some a ∧ v = .str a t ∧ TestTo prog w A h₀ L m env ct x scope cl news v (p a) ∧ EltTo prog w A h₀ L m env elt x scope cl news v (fun _ => v))
    (fin : ∀ ys, StrsAre ys (xs.filter p) → Fin ys news) : LCt.CompRestT prog w A h₀ L m env ct elt x scope cl s S P Fin xs.length 0 [] news := by
  have key : ∀ (j i : Nat) (ys : List Value), i + j = xs.length → StrsAre ys ((xs.take i).filter p) → LCt.CompRestT prog w A h₀ L m env ct elt x scope cl s S P Fin j i ys news := by
    intro j
    induction j with
    | zero =>
      intro i ys hi hy
      rw [List.take_of_length_le (by omega)] at hy
      exact LCt.CompRestT.zero (fin ys hy)
    | succ j ih =>
      intro i ys hi hy
      refine LCt.CompRestT.succ ?_
      intro v I oI C oC D m₂ h tk E' hv hC hx F N off _
      obtain ⟨a, t, ha, rfl, ht, he⟩ := hP i v (by omega) hv
      refine ht { s with heap := h, toks := tk } I C D oI oC _ m₂ _ E' hC hx F N ?_
      intro h' tk' F' N'
      have e : (xs.take (i + 1)).filter p = (xs.take i).filter p ++ (if p a then [a] else []) := by
        rw [List.take_add_one, ha, List.filter_append]
        cases hp : p a <;> simp [hp]
      cases hp : p a with
      | false =>
        simp only [Bool.false_eq_true, if_false]
        refine ⟨h', tk', news, rfl, F', N', off, hS, ih (i + 1) _ (by omega) ?_⟩
        rw [e, hp]
        simpa using hy
      | true =>
        simp only [if_true]
        refine he { s with heap := h', toks := tk' } I C D oI oC _ m₂ _ E' hC hx F' N' ?_
        intro _ h2 tk2 F2 N2
        refine ⟨h2, tk2, news, rfl, F2, N2, off, hS, ih (i + 1) _ (by omega) ?_⟩
        rw [e, hp]
        exact hy.append' (.cons a t .nil)
  exact key xs.length 0 [] (by omega) (by rw [List.take_zero]; exact .nil)

theorem strs_idx {vs : List Value} {xs : List Str} (h : StrsAre vs xs) {i : Nat} {v : Value} (hv : vs[i]? = some v) : ∃ a t, xs[i]? = some a ∧ v = .str a t := by
  obtain ⟨y, t, e, hy⟩ := h.item i v hv
  exact ⟨y, t, hy, e⟩

theorem src_map {s₁ : Shared} {ax : Addr} {vs : List Value} {xs : List Str} {g : Str → Str} {Q : Value → Shared → Prop} (hh : A.handled = none) (F : Fr h₀ L s₁.heap m) (N : News h₀ L s₁.heap news) (S : LCg.SrcAt h₀ ax vs.toArray news)
    (hI : StrsAre vs xs) (hsz : xs.length ≤ 1000)
    (elt_ : ∀ y t, y ∈ xs → EltTo prog w A h₀ L m env elt x scope cl news (.str y t) (fun t => .str (g y) t))
    (fin : ∀ D ys h tk, StrsAre ys (xs.map g) → Fr h₀ L h m → News h₀ L h ((D, LCg.lst ys) :: news) → LCg.Off1 D news → Q (.ref D) { s₁ with heap := h, toks := tk }) :
    LCg.CompSrc prog w A h₀ L m env elt x scope cl (fun s₂ => LCg.FinE h₀ L m s₂ Q) (.ref ax) s₁ := by
  have hlen : vs.toArray.size = xs.length := by rw [List.size_toArray, hI.length]
  refine .inl ⟨ax, vs.toArray, news, rfl, hh, F, N, S, by rw [hlen, sizeLine_eq]; omega, ?_⟩
  rintro s₂ ⟨g', rfl⟩
  rw [hlen]
  refine rest_map (R := fun y t => .str (g y) t) S (fun i v _ hv => ?_) fun ys hy D h tk F' N' o => fin D ys h tk hy.strs F' N' o
  obtain ⟨a, t, ha, rfl⟩ := strs_idx hI (by simpa using hv)
  exact ⟨a, ha, elt_ a t (List.mem_of_getElem? ha)⟩

theorem src_filter {s₁ : Shared} {ax : Addr} {vs : List Value} {xs : List Str} {p : Str → Bool} {Fin : Shared → List Value → List (Addr × Obj) → Prop} (hh : A.handled = none) (F : Fr h₀ L s₁.heap m) (N : News h₀ L s₁.heap news) (S : LCg.SrcAt h₀ ax vs.toArray news)
    (hI : StrsAre vs xs) (hsz : xs.length ≤ 1000)
    (test_ : ∀ y t, y ∈ xs → TestTo prog w A h₀ L m env ct x scope cl news (.str y t) (p y))
    (elt_ : ∀ y t, y ∈ xs → EltTo prog w A h₀ L m env elt x scope cl news (.str y t) (fun _ => .str y t))
    (fin : ∀ g ys, StrsAre ys (xs.filter p) → Fin { s₁ with heap := g } ys news) :
    LCt.CompSrcT prog w A h₀ L m env ct elt x scope cl Fin (.ref ax) s₁ := by
  have hlen : vs.toArray.size = xs.length := by rw [List.size_toArray, hI.length]
  refine .inl ⟨ax, vs.toArray, news, rfl, hh, F, N, S, by rw [hlen, sizeLine_eq]; omega, ?_⟩
  rintro s₂ ⟨g', rfl⟩
  rw [hlen]
  refine rest_filter S (fun i v _ hv => ?_) fun ys hy => fin g' ys hy
  obtain ⟨a, t, ha, rfl⟩ := strs_idx hI (by simpa using hv)
  exact ⟨a, t, ha, rfl, test_ a t (List.mem_of_getElem? ha), elt_ a t (List.mem_of_getElem? ha)⟩

theorem src_range {s₁ : Shared} {r : Addr} {a b : Int} {t u v : Tok} {n : Nat} {R : Nat → Tok → Value} {Q : Value → Shared → Prop} (hh : A.handled = none) (F : Fr h₀ L s₁.heap m) (N : News h₀ L s₁.heap news)
    (hr : IsRange s₁.heap r a b 1 t u v) (hsm : Builtin.Range.small a b 1 = true) (hn : Builtin.Range.rangeSize a b 1 = ((n : Nat) : Int)) (hsz : n ≤ 1000)
    (elt_ : ∀ (i : Nat) t, i < n → EltTo prog w A h₀ L m env elt x scope cl news (.int (a + (i : Int)) t) (R i))
    (fin : ∀ D ys h tk, Made R ys (List.range n) → Fr h₀ L h m → News h₀ L h ((D, LCg.lst ys) :: news) → LCg.Off1 D news → Q (.ref D) { s₁ with heap := h, toks := tk }) :
    LCg.CompSrc prog w A h₀ L m env elt x scope cl (fun s₂ => LCg.FinE h₀ L m s₂ Q) (.ref r) s₁ := by
  refine .inr ⟨r, a, b, t, u, v, n, news, rfl, hh, F, N, hr, hsm, hn, by rw [sizeLine_eq]; omega, ?_⟩
  rintro s₂ ⟨g', rfl⟩
  have e : n = (List.range n).length := List.length_range.symm
  have := rest_map (prog := prog) (w := w) (A := A) (h₀ := h₀) (L := L) (m := m) (env := env) (elt := elt) (x := x) (scope := scope) (cl := cl) (news := news) (s := { s₁ with heap := g' }) (S := fun _ => True) (P := fun i v => ∃ t, v = Value.int (a + (i : Int)) t)
    (Fin := LCg.FinE h₀ L m { s₁ with heap := g' } Q) (R := R) (xs := List.range n) trivial (fun i v hi hv => by
      rw [List.length_range] at hi
      obtain ⟨t, rfl⟩ := hv
      exact ⟨i, by simp [hi], elt_ i t hi⟩) fun ys hy D h tk F' N' o => fin D ys h tk hy F' N' o
  rw [List.length_range] at this
  exact this
end
end Mine
end
section
open PySem PySem.W PyProof.Rows PySem.Spec PySem.Calls
namespace Mine
set_option maxRecDepth 100000

section
variable {prog : Program} {w : World} {A : Around} {E : Value → Shared → Prop} {s : Shared} {h₀ : Heap} {L l l' : Addr} {m : Str → Option Value} {news : List (Addr × Obj)} {value slice : Expr} {vs us : List Value} {xs ys : List Str} {x y : Str} {t u : Tok} {Q : Value → Shared → Prop}

theorem strs_size_le (hS : StrsAre vs xs) (h : xs.length ≤ 1000) : vs.toArray.size ≤ sizeLine := by
  rw [List.size_toArray, hS.length, sizeLine_eq]; omega
theorem l_split {zs : List Str} (F : Fr h₀ L s.heap m) (N : News h₀ L s.heap news) (hy : (y.length == 0) = false) (e : Txt.split x y = zs) (hx : x.length ≤ 1000)
    (h : ∀ D ws h' k, Fr h₀ L h' m → News h₀ L h' ((D, listOf (List.toArray ws) 0) :: news) → (∀ p ∈ news, p.1 < D) → StrsAre ws zs → Q (.ref D) { s with heap := h', toks := k }) :
    wpAny (model prog w) A (call (.builtin "str.split") [.str x t, .str y u]) Q E s :=
  splitN1 F N hy (fun lv h' k el F' N' => by
    refine h _ (strValues lv) h' k F' N' (fun p hp => Heap.lt_size (N p hp).1) ?_
    have := strsAre_of_values lv
    rw [el, e] at this
    exact this) (by rw [sizeLine_eq]; omega)
theorem l_rev {vk : Value} {ops : List Value} (F : Fr h₀ L s.heap m) (N : News h₀ L s.heap news) (hl : s.heap.IsList l vs.toArray) (pk : IsPart vk (some (-1))) (hS : StrsAre vs xs) (hz : xs.length ≤ 1000)
    (h : ∀ D ws h', Fr h₀ L h' m → News h₀ L h' ((D, listOf (List.toArray ws) 0) :: news) → (∀ p ∈ news, p.1 < D) → StrsAre ws xs.reverse → Q (.ref D) { s with heap := h' })
    (hs : subscripted slice false (.ref l) (.ref s.heap.objs.size) = operate ops (getItem (.ref l) (.ref s.heap.objs.size))) (ht : ∀ r, letTemporaryGo value (.ref l) r = pure ()) :
    wpAny (model prog w) A (subscriptTail value slice (.ref l) (.ref s.heap.objs.size)) Q E { s with heap := s.heap.push { cls := .type "slice", data := .fields #[.none, .none, vk] } } :=
  krv_lit (its := vs.toArray) (zs := vs.reverse) F N hl pk rfl (fun D h' F' N' l1 => h D vs.reverse h' F' N' l1 (strs_reverse hS)) hs ht (strs_size_le hS hz)
where
  strs_reverse : ∀ {vs : List Value} {xs : List Str}, StrsAre vs xs → StrsAre vs.reverse xs.reverse
  | _, _, .nil => .nil
  | _, _, .cons y t r => by
    rw [List.reverse_cons, List.reverse_cons]
    exact (strs_reverse r).append' (.cons y t .nil)
theorem l_join {z : Str} (hl : s.heap.IsList l vs.toArray) (hS : StrsAre vs xs) (hok : (xs.map (·.length)).sum + xs.length * x.length ≤ 16777216) (e : Txt.join x xs = z) (h : ∀ t' k, Q (.str z t') { s with toks := k }) :
    wpAny (model prog w) A (call (.builtin "str.join") [.str x t, .ref l]) Q E s := join_list hl hS hok fun t' k => by rw [e]; exact h t' k
theorem l_in {b : Bool} (hl : s.heap.IsList l vs.toArray) (hS : StrsAre vs xs) (e : xs.contains x = b) (h : Q (.bool b) s) : wpAny (model prog w) A (compareOp .In (.str x t) (.ref l)) Q E s :=
  in_list_strs hl hS (by
    have e2 : xs.any (· == x) = xs.contains x := by
      rw [List.contains_eq_any_beq]
      congr 1
      funext a
      exact Bool.eq_iff_iff.mpr ⟨fun h => by rw [beq_iff_eq] at *; exact h.symm, fun h => by rw [beq_iff_eq] at *; exact h.symm⟩
    rw [e2, e]; exact h)
theorem l_notin {b : Bool} (hl : s.heap.IsList l vs.toArray) (hS : StrsAre vs xs) (e : (!xs.contains x) = b) (h : Q (.bool b) s) : wpAny (model prog w) A (compareOp .NotIn (.str x t) (.ref l)) Q E s :=
  notin_list_strs hl hS (by
    have e2 : xs.any (· == x) = xs.contains x := by
      rw [List.contains_eq_any_beq]
      congr 1
      funext a
      exact Bool.eq_iff_iff.mpr ⟨fun h => by rw [beq_iff_eq] at *; exact h.symm, fun h => by rw [beq_iff_eq] at *; exact h.symm⟩
    rw [e2, e]; exact h)
theorem l_item {k : Int} (hl : s.heap.IsList l vs.toArray) (hS : StrsAre vs xs) (h0 : 0 ≤ k) (h1 : k < (xs.length : Int)) (hz : xs.length ≤ 1000) (h : ∀ t', Q (.str (xs.getD k.toNat Str.empty) t') s)
    (hs : subscripted slice false (.ref l) (.int k u) = operate [.ref l, .int k u] (getItem (.ref l) (.int k u)) := by with_unfolding_all rfl) (hg : ∀ r, letTemporaryGo value (.ref l) r = pure () := by intro _; with_unfolding_all rfl) :
    wpAny (model prog w) A (subscriptTail value slice (.ref l) (.int k u)) Q E s := item_strsA hl hS h0 h1 (by omega) h hs hg
theorem l_len (hl : s.heap.IsList l vs.toArray) (hS : StrsAre vs xs) (hz : xs.length ≤ 1000) (h : ∀ t' k, Q (.int xs.length t') { s with toks := k }) : wpAny (model prog w) A (call (.builtin "len") [.ref l]) Q E s :=
  len_strsA hl hS (by omega) (h _ _)
theorem l_from {i : Int} {vl : Value} (F : Fr h₀ L s.heap m) (N : News h₀ L s.heap news) (hl : s.heap.IsList l vs.toArray) (pl : IsPart vl (some i)) (h0 : 0 ≤ i) (hS : StrsAre vs xs) (hz : xs.length ≤ 1000)
    (h : ∀ D ws h', Fr h₀ L h' m → News h₀ L h' ((D, listOf (List.toArray ws) 0) :: news) → (∀ p ∈ news, p.1 < D) → StrsAre ws (xs.drop i.toNat) → Q (.ref D) { s with heap := h' })
    (hs : subscripted slice false (.ref l) (.ref s.heap.objs.size) = operate [.ref s.heap.objs.size, .ref l] (getItem (.ref l) (.ref s.heap.objs.size))) (ht : ∀ r, letTemporaryGo value (.ref l) r = pure ()) :
    wpAny (model prog w) A (subscriptTail value slice (.ref l) (.ref s.heap.objs.size)) Q E { s with heap := s.heap.push { cls := .type "slice", data := .fields #[vl, .none, .none] } } := by
  have e : sliceBounds (some i) none none vs.toArray.size = (((min i.toNat vs.toArray.size : Nat) : Int), ((vs.toArray.size : Nat) : Int), 1) := by
    simp only [sliceBounds, Option.getD_none, show (1 : Int) > 0 by decide, if_true, if_neg (show ¬ (i < 0) by omega)]
    congr 1
    omega
  have e2 : (slicePick vs.toArray (some i) none none).toList = vs.drop i.toNat := by
    rw [kmk_pick_nat _ e]
    show (vs.drop (min i.toNat vs.toArray.size)).take (vs.toArray.size - min i.toNat vs.toArray.size) = vs.drop i.toNat
    rw [List.size_toArray, kmk_drop_min, List.take_of_length_le]
    rw [List.length_drop]
    omega
  exact kmk_slice_lit F N hl pl .none e2 (fun D h' F' N' l1 => h D _ h' F' N' l1 (hS.drop' _)) hs ht (strs_size_le hS hz)
theorem l_run {i j : Int} {vl vu : Value} (F : Fr h₀ L s.heap m) (N : News h₀ L s.heap news) (hl : s.heap.IsList l vs.toArray) (pl : IsPart vl (some i)) (pu : IsPart vu (some j)) (h0 : 0 ≤ i) (h1 : 0 ≤ j) (hS : StrsAre vs xs) (hz : xs.length ≤ 1000)
    (h : ∀ D ws h', Fr h₀ L h' m → News h₀ L h' ((D, listOf (List.toArray ws) 0) :: news) → (∀ p ∈ news, p.1 < D) → StrsAre ws ((xs.take j.toNat).drop i.toNat) → Q (.ref D) { s with heap := h' })
    (hs : subscripted slice false (.ref l) (.ref s.heap.objs.size) = operate [.ref s.heap.objs.size, .ref l] (getItem (.ref l) (.ref s.heap.objs.size))) (ht : ∀ r, letTemporaryGo value (.ref l) r = pure ()) :
    wpAny (model prog w) A (subscriptTail value slice (.ref l) (.ref s.heap.objs.size)) Q E { s with heap := s.heap.push { cls := .type "slice", data := .fields #[vl, vu, .none] } } := by
  have e : sliceBounds (some i) (some j) none vs.toArray.size = (((min i.toNat vs.toArray.size : Nat) : Int), ((min j.toNat vs.toArray.size : Nat) : Int), 1) := by
    simp only [sliceBounds, Option.getD_none, show (1 : Int) > 0 by decide, if_true, if_neg (show ¬ (i < 0) by omega), if_neg (show ¬ (j < 0) by omega)]
    congr 1
    · omega
    · congr 1
      omega
  have e2 : (slicePick vs.toArray (some i) (some j) none).toList = (vs.take j.toNat).drop i.toNat := by
    rw [kmk_pick_nat _ e]
    show (vs.drop (min i.toNat vs.toArray.size)).take (min j.toNat vs.toArray.size - min i.toNat vs.toArray.size) = (vs.take j.toNat).drop i.toNat
    rw [List.size_toArray, List.drop_take, kmk_drop_min]
    by_cases q : i.toNat ≤ vs.length
    · rw [Nat.min_eq_left q]
      by_cases q2 : j.toNat ≤ vs.length
      · rw [Nat.min_eq_left q2]
      · rw [Nat.min_eq_right (by omega), List.take_of_length_le, List.take_of_length_le]
        · rw [List.length_drop]; omega
        · rw [List.length_drop]; omega
    · rw [List.drop_of_length_le (by omega), List.take_nil, List.take_nil]
  exact kmk_slice_lit F N hl pl pu e2 (fun D h' F' N' l1 => h D _ h' F' N' l1 ((hS.take' _).drop' _)) hs ht (strs_size_le hS hz)

theorem strs_canLayAll0 : ∀ ns : List Str, (∀ y ∈ ns, PyData.strOk y = true) → PyData.canLayAll0 (ns.map PyData.str) = true
  | [], _ => rfl
  | a :: r, h => by simp [PyData.canLayAll0, PyData.canLay0, strs_canLayAll0 r fun y hy => h y (List.mem_cons_of_mem _ hy), h a (List.mem_cons_self ..)]
theorem strs_depthAll : ∀ ns : List Str, PyData.depthAll (ns.map PyData.str) = 0
  | [] => rfl
  | _ :: r => by simp [PyData.depthAll, PyData.depth, strs_depthAll r]
theorem strs_shaped (ns : List Str) (h : ∀ y ∈ ns, PyData.strOk y = true) : SeqAt.shaped (.list (ns.map PyData.str)) = true := by
  simp [SeqAt.shaped, PyData.canLay0, PyData.depth, strs_canLayAll0 ns h, strs_depthAll]
theorem strs_sameAll : ∀ ns ms : List Str, PySem.Spec.sameAll (ns.map PyData.str) (ms.map PyData.str) = decide (ns = ms)
  | [], [] => by simp [PySem.Spec.sameAll]
  | [], _ :: _ => by simp [PySem.Spec.sameAll]
  | _ :: _, [] => by simp [PySem.Spec.sameAll]
  | a :: r, b :: t => by
    simp only [List.map_cons, PySem.Spec.sameAll, PySem.Spec.same, strs_sameAll r t]
    by_cases h : a = b <;> by_cases h' : r = t <;> simp [h, h']
theorem strs_same (ns ms : List Str) : PySem.Spec.same (.list (ns.map PyData.str)) (.list (ms.map PyData.str)) = decide (ns = ms) := by
  simp only [PySem.Spec.same]; exact strs_sameAll ns ms
theorem l_ne {b : Bool} (ha : s.heap.IsList l vs.toArray) (hb : s.heap.IsList l' us.toArray) (hi : StrsAre vs xs) (hj : StrsAre us ys) (hx : ∀ y ∈ xs, PyData.strOk y = true) (hy : ∀ y ∈ ys, PyData.strOk y = true) (hu : A.units + 64 < cLine) (e : (!decide (xs = ys)) = b) (h : Q (.bool b) s) :
    wpAny (model prog w) A (compareOp .NotEq (.ref l) (.ref l')) Q E s :=
  ne_dataH_same (reads_newData ha hi.carried) (reads_newData hb hj.carried) (strs_shaped _ hx) (strs_shaped _ hy) hu (SeqAt.noMix_of_shape (.list .str) rfl _ _ (list_map_has fun _ => rfl) (list_map_has fun _ => rfl)) (by rw [strs_same, e]; exact h)
theorem l_add (F : Fr h₀ L s.heap m) (N : News h₀ L s.heap news) (ha : s.heap.IsList l vs.toArray) (hb : s.heap.IsList l' us.toArray) (hi : StrsAre vs xs) (hj : StrsAre us ys) (h1 : xs.length ≤ 1000) (h2 : ys.length ≤ 1000)
    (h : ∀ D ws h', Fr h₀ L h' m → News h₀ L h' ((D, listOf (List.toArray ws) 0) :: news) → (∀ p ∈ news, p.1 < D) → StrsAre ws (xs ++ ys) → Q (.ref D) { s with heap := h' }) :
    wpAny (model prog w) A (binaryOp .Add (.ref l) (.ref l')) Q E s :=
  kmk_add_lit F N ha hb rfl (fun D h' F' N' l1 => h D (vs ++ us) h' F' N' l1 (hi.append' hj)) (by
    show vs.length + us.length ≤ sizeLine
    rw [hi.length, hj.length, sizeLine_eq]; omega)
theorem l_sorted (F : Fr h₀ L s.heap m) (N : News h₀ L s.heap news) (hl : s.heap.IsList l vs.toArray) (hS : StrsAre vs xs) (h64 : xs.length < 64)
    (h : ∀ D (h' : Heap) (vs' : List Value) (ss' : List Str) (e : Nat), Fr h₀ L h' m → News h₀ L h' ((D, listOf vs'.toArray e) :: news) → (∀ p ∈ news, p.1 < D) →
      StrsAre vs' ss' → ss'.Perm xs → sortedS ss' = true → Q (.ref D) { s with heap := h' }) :
    wpAny (model prog w) A (call (.builtin "sorted") [.ref l]) Q E s :=
  sorted_N_str F N hl hS (by rw [hS.length]; exact h64) fun h' vs' ss' e F' N' a b c => h _ h' vs' ss' e F' N' (fun p hp => Nat.lt_succ_of_lt (Heap.lt_size (N p hp).1)) a b c
end
end Mine
end
section
open PySem PySem.W PyProof.Rows PySem.Spec PySem.Calls
namespace Mine
set_option maxRecDepth 100000

theorem allLt_ne {d : Addr} {l : List (Addr × Obj)} (h : AllLt d l) : ∀ q ∈ l, d ≠ q.1 := by
  induction l with
  | nil => intro q hq; cases hq
  | cons p r ih =>
    intro q hq
    rcases List.mem_cons.mp hq with rfl | hq
    · exact Nat.ne_of_gt h.1
    · exact ih h.2 q hq
theorem allLt_ne' {d : Addr} {l : List (Addr × Obj)} (h : AllLt d l) : ∀ q ∈ l, q.1 ≠ d := fun q hq => Ne.symm (allLt_ne h q hq)
theorem news_neL {h₀ h : Heap} {L a : Addr} {o : Obj} {news : List (Addr × Obj)} (N : News h₀ L h news) (hm : (a, o) ∈ news) : L ≠ a := Ne.symm (N _ hm).2.1
/-- how many items two lists share from their heads on -/
def lcp : List Str → List Str → Nat
  | a :: as, b :: bs => if a = b then lcp as bs + 1 else 0
  | _, _ => 0
theorem lcp_stop : ∀ (i : Nat) (as bs : List Str), (∀ j, j < i → as[j]? = bs[j]?) → (∃ a b, as[i]? = some a ∧ bs[i]? = some b ∧ a ≠ b) → lcp as bs = i
  | 0, as, bs, _, ⟨a, b, ha, hb, hne⟩ => by
    cases as with
    | nil => simp at ha
    | cons a' as =>
      cases bs with
      | nil => simp at hb
      | cons b' bs =>
        simp at ha hb
        subst ha hb
        simp [lcp, hne]
  | i + 1, as, bs, h, ⟨a, b, ha, hb, hne⟩ => by
    cases as with
    | nil => simp at ha
    | cons a' as =>
      cases bs with
      | nil => simp at hb
      | cons b' bs =>
        have h0 := h 0 (by omega)
        simp at h0
        subst h0
        have := lcp_stop i as bs (fun j hj => by simpa using h (j + 1) (by omega)) ⟨a, b, by simpa using ha, by simpa using hb, hne⟩
        simp [lcp, this]
theorem lcp_all : ∀ (as bs : List Str), (∀ j, j < min as.length bs.length → as[j]? = bs[j]?) → lcp as bs = min as.length bs.length
  | [], _, _ => by simp [lcp]
  | _ :: _, [], _ => by simp [lcp]
  | a :: as, b :: bs, h => by
    have h0 := h 0 (by simp only [List.length_cons]; omega)
    simp at h0
    subst h0
    have := lcp_all as bs (fun j hj => by simpa using h (j + 1) (by simp only [List.length_cons]; omega))
    simp only [lcp, if_true, this, List.length_cons]
    omega

section
variable {prog : Program} {w : World} {A : Around} {E : Value → Shared → Prop} {s : Shared} {h₀ : Heap} {L : Addr} {m : Str → Option Value} {news : List (Addr × Obj)}
theorem call_zip_N {l1 l2 : Addr} {vs₁ vs₂ : List Value} {as bs : List Str} {Q : Value → Shared → Prop} (hh : A.handled = none)
    (hl1 : s.heap.IsList l1 vs₁.toArray) (hl2 : s.heap.IsList l2 vs₂.toArray) (h1L : L ≠ l1) (h2L : L ≠ l2) (n1 : ∀ q ∈ news, l1 ≠ q.1) (n2 : ∀ q ∈ news, l2 ≠ q.1) (hi1 : StrsAre vs₁ as) (hi2 : StrsAre vs₂ bs)
    (F : Fr h₀ L s.heap m) (N : News h₀ L s.heap news)
    (h : ∀ h' e, Fr h₀ L h' m → News h₀ L h' news → PairSrc2L prog w A E h₀ L .str .str as bs (.ref e) { s with heap := h' } m news → Q (.ref e) { s with heap := h' }) :
    wpAny (model prog w) A (call (.type "zip") [.ref l1, .ref l2]) Q E s := by
  obtain ⟨ol1, hol1, _⟩ := id hl1
  obtain ⟨ol2, hol2, _⟩ := id hl2
  have a1 : l1 < s.heap.objs.size := Heap.lt_size hol1
  have a2 : l2 < s.heap.objs.size := Heap.lt_size hol2
  have hLs : L < s.heap.objs.size := F.ns.lt
  have hab : h₀.objs.size ≤ L := F.above
  refine call_zip_2 hl1 hl2 fun h' hz hTI hTO hit1 hit2 hsz hk => ?_
  have F' : Fr h₀ L h' m := ⟨F.ns.keeps hk, fun b o e => hk b o (F.keep b o e), F.above⟩
  have N' : News h₀ L h' news := fun p hp => ⟨hk _ _ (N p hp).1, (N p hp).2⟩
  refine h h' _ F' N' fun env hL => ?_
  subst hL
  have hnews : ∀ q ∈ news, q.1 < s.heap.objs.size := fun q hq => Heap.lt_size (N q hq).1
  refine zipSrc hh (zipApart_new a1 a2) ⟨hz, hTI, ⟨_, _, hTO⟩, hit1, hit2, hl1.at fun o e => hk l1 o e, hl2.at fun o e => hk l2 o e⟩ hi1.areOf hi2.areOf ?_ ?_ ?_ ?_ F' N'
  · intro hm
    simp only [List.mem_cons, List.not_mem_nil, or_false] at hm
    have up : ∀ k, env.locals ≠ s.heap.objs.size + k := fun k e => Nat.ne_of_lt (Nat.lt_of_lt_of_le hLs (Nat.le_add_right _ k)) e
    rcases hm with e | e | e | e | e | e | e
    · exact up 4 e
    · exact up 2 e
    · exact up 3 e
    · exact up 0 e
    · exact up 1 e
    · exact h1L e
    · exact h2L e
  · intro b hb
    simp only [List.mem_cons, List.not_mem_nil, or_false] at hb
    have nw : ∀ k, h₀.get? (s.heap.objs.size + k) = none := fun k => Heap.get?_none_of_le (Nat.le_trans hab (Nat.le_trans (Nat.le_of_lt hLs) (Nat.le_add_right _ k)))
    rcases hb with rfl | rfl | rfl | rfl
    · exact nw 4
    · exact nw 3
    · exact nw 0
    · exact nw 1
  · intro p hp hm
    have hq1 := hnews p hp
    simp only [List.mem_cons, List.not_mem_nil, or_false] at hm
    have dn : ∀ k, p.1 ≠ s.heap.objs.size + k := fun k e => Nat.ne_of_lt (Nat.lt_of_lt_of_le hq1 (Nat.le_add_right _ k)) e
    rcases hm with e | e | e | e
    · exact dn 4 e
    · exact dn 3 e
    · exact dn 0 e
    · exact dn 1 e
  · intro b hb q hq e
    have hq1 := hnews q hq
    simp only [List.mem_cons, List.not_mem_nil, or_false] at hb
    have gt : ∀ k, s.heap.objs.size + k ≠ q.1 := fun k e => Nat.ne_of_gt (Nat.lt_of_lt_of_le hq1 (Nat.le_add_right _ k)) e
    rcases hb with rfl | rfl | rfl | rfl | rfl | rfl | rfl
    · exact gt 4 e
    · exact gt 2 e
    · exact gt 3 e
    · exact gt 0 e
    · exact gt 1 e
    · exact n1 q hq e
    · exact n2 q hq e

/-- what a turn of the zip loop leaves -/
def ZipTurn (h₀ : Heap) (L : Addr) (news own : List (Addr × Obj)) (c : Str) (k : Int) (m₁ : Str → Option Value) (P : Prop) (s₁ : Shared) (Q : Flow → Shared → Prop) (f : Flow) (s' : Shared) : Prop :=
  match f with
  | .ret v => Q (.ret v) s'
  | .next => P ∧ ∃ h' tk' t', s' = { s₁ with heap := h', toks := tk' } ∧ Fr h₀ L h' (fun y => if y = c then some (.int k t') else m₁ y) ∧ News h₀ L h' (own ++ news)
  | _ => False
theorem zip_loop {env : Env} {xl xr c : Str} {as bs : List Str} {e : Addr} {t₀ : Tok} {body : List Stmt} {Q : Flow → Shared → Prop} (hcl : c ≠ xl) (hcr : c ≠ xr)
    (S : PairSrc2L prog w A E h₀ env.locals .str .str as bs (.ref e) s m news) (hc : m c = some (.int 0 t₀))
    (turn : ∀ (i : Nat) a b ta tb t h tk own, as[i]? = some a → bs[i]? = some b → (∀ j, j < i → as[j]? = bs[j]?) →
      Fr h₀ env.locals h (fun y => if y = xr then some (.str b tb) else if y = xl then some (.str a ta) else if y = c then some (.int (i : Int) t) else m y) → News h₀ env.locals h (own ++ news) →
      wpAny (model prog w) A (execs body env) (ZipTurn h₀ env.locals news own c ((i : Int) + 1) (fun y => if y = xr then some (.str b tb) else if y = xl then some (.str a ta) else if y = c then some (.int (i : Int) t) else m y) (a = b) { s with heap := h, toks := tk } Q) E { s with heap := h, toks := tk })
    (done : ∀ h' tk' vl vr t, (∀ j, j < min as.length bs.length → as[j]? = bs[j]?) → Fr h₀ env.locals h' (fun y => if y = xr then vr else if y = xl then vl else if y = c then some (.int ((min as.length bs.length : Nat) : Int) t) else m y) → News h₀ env.locals h' news → Q .next { s with heap := h', toks := tk' }) :
    wpAny (model prog w) A (pyIter (.ref e)) (fun it s₂ => PairAt3 prog w A h₀ env xl xr body Q E it s₂) E s := by
  refine S env rfl xl xr body Q (fun i m₁ news₁ => news₁ = news ∧ (∃ vl vr t, m₁ = fun y => if y = xr then vr else if y = xl then vl else if y = c then some (.int (i : Int) t) else m y) ∧ ∀ j, j < i → as[j]? = bs[j]?) ⟨rfl, ⟨m xl, m xr, t₀, ?_⟩, fun j hj => absurd hj (Nat.not_lt_zero _)⟩ ?_ ?_
  · funext y
    by_cases h1 : y = xr
    · rw [if_pos h1, h1]
    · rw [if_neg h1]
      by_cases h2 : y = xl
      · rw [if_pos h2, h2]
      · rw [if_neg h2]
        by_cases h3 : y = c
        · rw [if_pos h3, h3, hc]; rfl
        · rw [if_neg h3]
  · rintro i a b va vb m₁ news₁ s₁ own ⟨h, tk, rfl⟩ ha hb ka kb ⟨rfl, ⟨vl, vr, t, rfl⟩, hj⟩ _ _ F₁ N₁
    obtain ⟨ta, rfl⟩ := ItemKind.str_is ka
    obtain ⟨tb, rfl⟩ := ItemKind.str_is kb
    have em : (fun y => if y = xr then some (Value.str b tb) else if y = xl then some (Value.str a ta) else (fun y => if y = xr then vr else if y = xl then vl else if y = c then some (Value.int (i : Int) t) else m y) y) = fun y => if y = xr then some (Value.str b tb) else if y = xl then some (Value.str a ta) else if y = c then some (Value.int (i : Int) t) else m y := by
      funext y
      by_cases h1 : y = xr
      · rw [if_pos h1, if_pos h1]
      · by_cases h2 : y = xl
        · simp only [if_neg h1, if_pos h2]
        · simp only [if_neg h1, if_neg h2]
    rw [em] at F₁
    refine wpAny_mono (turn i a b ta tb t h tk own ha hb hj F₁ N₁) (fun f s' hf => ?_) fun _ _ x => x
    cases f with
    | ret v => exact hf
    | next =>
      obtain ⟨hab, h', tk', t', e, F', N'⟩ := hf
      refine ⟨rfl, h', tk', _, news₁, e, F', N', rfl, rfl, ⟨some (.str a ta), some (.str b tb), t', ?_⟩, fun j hj' => ?_⟩
      · funext y
        by_cases h3 : y = c
        · rw [if_pos h3, h3, if_neg hcr, if_neg hcl, if_pos rfl]
          rfl
        · rw [if_neg h3]
          simp only [if_neg h3]
      · rcases Nat.lt_succ_iff_lt_or_eq.mp hj' with h | h
        · exact hj j h
        · rw [h, ha, hb, hab]
    | brk => exact hf.elim
    | cont => exact hf.elim
  · rintro h' tk m' news' F' N' _ ⟨rfl, ⟨vl, vr, t, rfl⟩, hj⟩
    rw [List.length_zip] at hj F'
    exact done h' tk vl vr t hj F' N'
end
end Mine
end
section
open PySem PySem.W PyProof.Rows PySem.Spec PySem.Calls
namespace Mine
set_option maxRecDepth 100000

abbrev noE : Value → Shared → Prop := fun _ _ => False
section
variable {prog : Program} {w : World} {A : Around} {E : Value → Shared → Prop} {s : Shared} {h₀ : Heap} {L : Addr} {m : Str → Option Value} {news : List (Addr × Obj)} {env : Env} {body : List Stmt} {Q : Flow → Shared → Prop}

/-- what a turn of a while loop leaves -/
def WhileEnd (h₀ : Heap) (L : Addr) (J : Nat → (Str → Option Value) → List (Addr × Obj) → Prop) (n : Nat) (s₁ : Shared) (Q : Flow → Shared → Prop) (f : Flow) (s' : Shared) : Prop :=
  match f with
  | .ret v => Q (.ret v) s'
  | .brk => Q .next s'
  | _ => ∃ h' tk' m' news' n', s' = { s₁ with heap := h', toks := tk' } ∧ Fr h₀ L h' m' ∧ News h₀ L h' news' ∧ n' < n ∧ J n' m' news'
theorem while_J {test : Expr} {pos : Pos} {n₀ : Nat} (J : Nat → (Str → Option Value) → List (Addr × Obj) → Prop) (F : Fr h₀ L s.heap m) (N : News h₀ L s.heap news) (hJ : J n₀ m news)
    (turn : ∀ n m₁ news₁ h tk, J n m₁ news₁ → Fr h₀ L h m₁ → News h₀ L h news₁ →
      wpAny (model prog w) A (isTrue test env (eval test env)) (fun b s₂ =>
        if b = true then wpAny (model prog w) A (execs body env) (WhileEnd h₀ L J n { s with heap := h, toks := tk } Q) noE s₂ else Q .next s₂) noE { s with heap := h, toks := tk }) :
    wpAny (model prog w) A (exec (.While test body [] pos) env) Q E s := by
  refine wpAny_While (codeAny_whileLoop (fun n s' => ∃ h tk m₁ news₁, s' = { s with heap := h, toks := tk } ∧ Fr h₀ L h m₁ ∧ News h₀ L h news₁ ∧ J n m₁ news₁) ?_ n₀ ⟨s.heap, s.toks, m, news, rfl, F, N, hJ⟩)
  rintro n s' ⟨h, tk, m₁, news₁, rfl, F₁, N₁, J₁⟩
  refine wpAny_mono (turn n m₁ news₁ h tk J₁ F₁ N₁) (fun b s₂ h₂ => ?_) fun _ _ h => h.elim
  cases b with
  | false =>
    simp only [Bool.false_eq_true, if_false] at h₂ ⊢
    exact wpAny_execs_nil h₂
  | true =>
    simp only [if_true] at h₂ ⊢
    refine wpAny_mono h₂ (fun f s₃ h₃ => ?_) fun _ _ h => h.elim
    cases f with
    | next =>
      obtain ⟨h', tk', m₂, news₂, n', rfl, F₂, N₂, hn, J₂⟩ := h₃
      exact ⟨n', hn, h', tk', m₂, news₂, rfl, F₂, N₂, J₂⟩
    | cont =>
      obtain ⟨h', tk', m₂, news₂, n', rfl, F₂, N₂, hn, J₂⟩ := h₃
      exact ⟨n', hn, h', tk', m₂, news₂, rfl, F₂, N₂, J₂⟩
    | brk => exact h₃
    | ret v => exact h₃

/-- what a turn of a for loop leaves -/
def ForEnd (h₀ : Heap) (L I : Addr) (oI : Obj) (J : (Str → Option Value) → List (Addr × Obj) → Prop) (s₁ : Shared) (Q : Flow → Shared → Prop) (f : Flow) (s' : Shared) : Prop :=
  match f with
  | .ret v => Q (.ret v) s'
  | .brk => Q .next s'
  | _ => ∃ h' tk' m' news', s' = { s₁ with heap := h', toks := tk' } ∧ Fr h₀ L h' m' ∧ News h₀ L h' ((I, oI) :: news') ∧ (∀ p ∈ news', p.1 ≠ I) ∧ J m' news'
theorem for_walk {x : Str} {px : Pos} {I : Addr} {fp : List Addr} {n : Nat} {P : Nat → Value → Prop} {St : Nat → Heap → Prop} {S : List (Addr × Obj) → Prop}
    (W : Walks prog w A I fp [I] n P St) (hIo : ∀ i h, St i h → ∃ o, h.get? I = some o)
    (hSt : ∀ i h h' o nw, St i h → h.get? I = some o → h'.get? I = some o → (∀ b o, h₀.get? b = some o → h'.get? b = some o) → News h₀ L h' nw → S nw → St i h')
    (hst : St 0 s.heap) (F : Fr h₀ L s.heap m) (N : News h₀ L s.heap news) (hIL : L ≠ I) (hI₀ : h₀.get? I = none) (off : ∀ p ∈ news, p.1 ≠ I)
    (J : Nat → (Str → Option Value) → List (Addr × Obj) → Prop) (hJ : J 0 m news) (hJS : ∀ i m₁ news₁, J i m₁ news₁ → S news₁)
    (turn : ∀ i v m₁ news₁ oI h tk, i < n → P i v → J i m₁ news₁ → Fr h₀ L h m₁ → News h₀ L h ((I, oI) :: news₁) → (∀ p ∈ news₁, p.1 ≠ I) →
      wpAny (model prog w) A (assign (.Name x px) env v) (fun _ s₂ => wpAny (model prog w) A (execs body env) (ForEnd h₀ L I oI (J (i + 1)) { s with heap := h, toks := tk } Q) noE s₂) noE { s with heap := h, toks := tk })
    (done : ∀ h tk m' news', J n m' news' → Fr h₀ L h m' → News h₀ L h news' → Q .next { s with heap := h, toks := tk }) :
    codeAny (model prog w) A (.forLoop (.Name x px) (.ref I) body [] env) (fun r s' => match r with | .ok f => Q f s' | .error e => cameBackBy (model prog w) A env E e s') s := by
  refine codeAny_forLoop (fun k s' => ∃ h tk i m₁ news₁, s' = { s with heap := h, toks := tk } ∧ i ≤ n ∧ k = n + 1 - i ∧ St i h ∧ Fr h₀ L h m₁ ∧ News h₀ L h news₁ ∧ (∀ p ∈ news₁, p.1 ≠ I) ∧ J i m₁ news₁) ?_ (n + 1)
    ⟨s.heap, s.toks, 0, m, news, rfl, Nat.zero_le _, rfl, hst, F, N, off, hJ⟩
  rintro k s' ⟨h, tk, i, m₁, news₁, rfl, hi, rfl, hst₁, F₁, N₁, off₁, J₁⟩
  by_cases hlt : i < n
  · refine W.item i _ _ _ hlt hst₁ fun v h₂ tk₂ hPv hst₂ hk₂ => ?_
    obtain ⟨oI, heI⟩ := hIo _ _ hst₂
    have F₂ := LCg.fr_but F₁ hk₂ hIL hI₀
    have N₂ : News h₀ L h₂ ((I, oI) :: news₁) := fun p hp => by
      rcases List.mem_cons.mp hp with rfl | hp
      · exact ⟨heI, Ne.symm hIL, hI₀⟩
      · exact LCg.news_but N₁ hk₂ off₁ p hp
    refine wpAny_mono (turn i v m₁ news₁ oI h₂ tk₂ hlt hPv J₁ F₂ N₂ off₁) (fun _ s₂ hs₂ => wpAny_mono hs₂ (fun f s₃ h₃ => ?_) fun _ _ h => h.elim) fun _ _ h => h.elim
    have go : (∃ h' tk' m' news', s₃ = { ({ s with heap := h₂, toks := tk₂ } : Shared) with heap := h', toks := tk' } ∧ Fr h₀ L h' m' ∧ News h₀ L h' ((I, oI) :: news') ∧ (∀ p ∈ news', p.1 ≠ I) ∧ J (i + 1) m' news') →
        ∃ k', k' < n + 1 - i ∧ ∃ h tk i m₁ news₁, s₃ = { s with heap := h, toks := tk } ∧ i ≤ n ∧ k' = n + 1 - i ∧ St i h ∧ Fr h₀ L h m₁ ∧ News h₀ L h news₁ ∧ (∀ p ∈ news₁, p.1 ≠ I) ∧ J i m₁ news₁ := by
      rintro ⟨h', tk', m', news', rfl, F', N', off', J'⟩
      have N'' : News h₀ L h' news' := fun p hp => N' p (List.mem_cons_of_mem _ hp)
      exact ⟨n + 1 - (i + 1), by omega, h', tk', i + 1, m', news', rfl, hlt, rfl, hSt _ _ _ _ _ hst₂ heI (N' _ (List.mem_cons_self ..)).1 F'.keep N'' (hJS _ _ _ J'), F', N'', off', J'⟩
    cases f with
    | next => exact go h₃
    | cont => exact go h₃
    | brk => exact h₃
    | ret v => exact h₃
  · obtain rfl : i = n := Nat.le_antisymm hi (Nat.not_lt.mp hlt)
    refine W.done _ _ _ hst₁ fun h₂ tk₂ hk₂ => wpAny_execs_nil ?_
    exact done h₂ tk₂ m₁ news₁ J₁ (LCg.fr_but F₁ hk₂ hIL hI₀) (LCg.news_but N₁ hk₂ off₁)

theorem for_list {x : Str} {px : Pos} {ax : Addr} {its : Array Value} (hh : A.handled = none) (F : Fr h₀ L s.heap m) (N : News h₀ L s.heap news)
    (J : Nat → (Str → Option Value) → List (Addr × Obj) → Prop) (hJ : J 0 m news) (hJS : ∀ i m₁ news₁, J i m₁ news₁ → LCg.SrcAt h₀ ax its news₁)
    (turn : ∀ i v m₁ news₁ I oI h tk, its[i]? = some v → J i m₁ news₁ → Fr h₀ L h m₁ → News h₀ L h ((I, oI) :: news₁) → (∀ p ∈ news₁, p.1 ≠ I) →
      wpAny (model prog w) A (assign (.Name x px) env v) (fun _ s₂ => wpAny (model prog w) A (execs body env) (ForEnd h₀ L I oI (J (i + 1)) { s with heap := h, toks := tk } Q) noE s₂) noE { s with heap := h, toks := tk })
    (done : ∀ h tk m' news', J its.size m' news' → Fr h₀ L h m' → News h₀ L h news' → Q .next { s with heap := h, toks := tk }) :
    wpAny (model prog w) A (pyIter (.ref ax)) (fun it s₂ => codeAny (model prog w) A (.forLoop (.Name x px) it body [] env) (fun r s' => match r with | .ok f => Q f s' | .error e => cameBackBy (model prog w) A env E e s') s₂) E s := by
  have hl := (hJS _ _ _ hJ).list F.keep N
  have hlt : ax < s.heap.objs.size := by obtain ⟨_, e, _⟩ := hl; exact Heap.lt_size e
  refine wpAny_pyIter_list hl ?_
  have up : ∀ b o, s.heap.get? b = some o → (s.heap.push { cls := .type "list_iterator", data := .fields #[.ref ax, .int 0 0] }).get? b = some o := fun b o e => Heap.get?_push_of_some _ e
  exact for_walk (S := LCg.SrcAt h₀ ax its) (Walks.list hh s.heap.objs.size ax (Nat.ne_of_lt hlt) its) (fun i h st => by obtain ⟨o, e, _⟩ := st.1; exact ⟨o, e⟩) LCg.list_st ⟨⟨_, Heap.get?_push_size _ rfl, rfl, rfl⟩, hl.push _⟩
    (F.keeps up) (N.grown up) (Nat.ne_of_lt F.ns.lt) (next_is_new F) (fun p hp => Nat.ne_of_lt (Heap.lt_size (N p hp).1)) J hJ hJS
    (fun i v m₁ news₁ oI h tk _ hv J₁ F₁ N₁ off₁ => turn i v m₁ news₁ _ oI h tk hv J₁ F₁ N₁ off₁) done

theorem for_range {x : Str} {px : Pos} {r : Addr} {a b : Int} {t u v : Tok} {n : Nat} (hh : A.handled = none) (F : Fr h₀ L s.heap m) (N : News h₀ L s.heap news)
    (hr : IsRange s.heap r a b 1 t u v) (hsm : Builtin.Range.small a b 1 = true) (hn : Builtin.Range.rangeSize a b 1 = ((n : Nat) : Int))
    (J : Nat → (Str → Option Value) → List (Addr × Obj) → Prop) (hJ : J 0 m news)
    (turn : ∀ (i : Nat) t m₁ news₁ I oI h tk, i < n → J i m₁ news₁ → Fr h₀ L h m₁ → News h₀ L h ((I, oI) :: news₁) → (∀ p ∈ news₁, p.1 ≠ I) →
      wpAny (model prog w) A (assign (.Name x px) env (.int (a + (i : Int)) t)) (fun _ s₂ => wpAny (model prog w) A (execs body env) (ForEnd h₀ L I oI (J (i + 1)) { s with heap := h, toks := tk } Q) noE s₂) noE { s with heap := h, toks := tk })
    (done : ∀ h tk m' news', J n m' news' → Fr h₀ L h m' → News h₀ L h news' → Q .next { s with heap := h, toks := tk }) :
    wpAny (model prog w) A (pyIter (.ref r)) (fun it s₂ => codeAny (model prog w) A (.forLoop (.Name x px) it body [] env) (fun r s' => match r with | .ok f => Q f s' | .error e => cameBackBy (model prog w) A env E e s') s₂) E s := by
  refine wpAny_pyIter_range hr hsm ?_
  exact for_walk (S := fun _ => True) (LCg.range_walks hh a n) (fun i h st => ⟨_, st⟩) LCg.range_st (by show IsRangeIter _ _ _ _ _; rw [hn]; simpa using Heap.get?_push_size _ rfl)
    (F.keeps fun _ _ e => Heap.get?_push_of_some _ e) (N.grown fun _ _ e => Heap.get?_push_of_some _ e) (Nat.ne_of_lt F.ns.lt) (next_is_new F) (fun p hp => Nat.ne_of_lt (Heap.lt_size (N p hp).1)) J hJ (fun _ _ _ _ => trivial)
    (fun i v m₁ news₁ oI h tk hi hv J₁ F₁ N₁ off₁ => by obtain ⟨t, rfl⟩ := hv; exact turn i t m₁ news₁ _ oI h tk hi J₁ F₁ N₁ off₁) done
end
section
variable {prog : Program} {w : World} {A : Around} {E : Value → Shared → Prop} {s : Shared} {h₀ : Heap} {L D : Addr} {m : Str → Option Value} {news news' : List (Addr × Obj)} {Q : Value → Shared → Prop}
theorem l_append {ws : List Value} {xs : List Str} {x : Str} {t : Tok} {k : Nat} (F : Fr h₀ L s.heap m) (N : News h₀ L s.heap news) (hS : StrsAre ws xs) (hz : xs.length ≤ 1000)
    (U : Upd D (listOf (List.toArray ws) k) (listOf (List.toArray (ws ++ [.str x t])) (k + 1)) news news')
    (h : ∀ h', Fr h₀ L h' m → News h₀ L h' news' → StrsAre (ws ++ [.str x t]) (xs ++ [x]) → Q .none { s with heap := h' }) : wpAny (model prog w) A (call (.builtin "list.append") [.ref D, .str x t]) Q E s := by
  have e : (List.toArray ws).push (.str x t) = List.toArray (ws ++ [.str x t]) := List.push_toArray ws _
  rw [← e] at U
  exact append_K F N U (fun h' F' N' => h h' F' N' (hS.append' (.cons x t .nil))) (by rw [List.size_toArray, hS.length, sizeLine_eq]; omega)
end
end Mine
end
section
open PySem PySem.W PyProof.Rows PySem.Spec PySem.Calls
namespace Mine
set_option maxRecDepth 100000

def ltS (a b : Str) : Bool := decide (a.cps.toList < b.cps.toList)
section
variable {prog : Program} {w : World} {A : Around} {E : Value → Shared → Prop} {s : Shared} {x y : Str} {t u : Tok} {Q : Value → Shared → Prop}
theorem s_lt {b : Bool} (e : ltS x y = b) (h : Q (.bool b) s) : wpAny (model prog w) A (compareOp .Lt (.str x t) (.str y u)) Q E s := PyProof.Rows.lt_str (by unfold ltS at e; rw [e]; exact h)
end
/-- where a text is to stand: how many are less -/
def cut (p : Str → Bool) (ys : List Str) : Nat := (ys.filter p).length
theorem cut_at {p : Str → Bool} : ∀ {ys : List Str} {k : Nat}, k ≤ ys.length → (∀ i, i < k → ∀ a, ys[i]? = some a → p a = true) → (∀ i, k ≤ i → ∀ a, ys[i]? = some a → p a = false) → cut p ys = k
  | [], k, hk, _, _ => by simp at hk; subst hk; rfl
  | a :: ys, 0, _, _, h2 => by
    have h0 := h2 0 (Nat.le_refl _) a (by simp)
    have := cut_at (p := p) (ys := ys) (k := 0) (Nat.zero_le _) (fun i hi => absurd hi (Nat.not_lt_zero _)) fun i _ b hb => h2 (i + 1) (Nat.zero_le _) b (by simpa using hb)
    unfold cut at *
    rw [List.filter_cons_of_neg (by rw [h0]; decide)]
    exact this
  | a :: ys, k + 1, hk, h1, h2 => by
    have h0 := h1 0 (Nat.succ_pos _) a (by simp)
    have := cut_at (p := p) (ys := ys) (k := k) (by simpa using hk) (fun i hi b hb => h1 (i + 1) (by omega) b (by simpa using hb)) fun i hi b hb => h2 (i + 1) (by omega) b (by simpa using hb)
    unfold cut at *
    rw [List.filter_cons_of_pos h0, List.length_cons, this]
/-- a search's fact: the texts that are less stand ahead -/
def Mono (p : Str → Bool) (ys : List Str) : Prop := ∀ (i j : Nat) (a b : Str), i ≤ j → ys[i]? = some a → ys[j]? = some b → p b = true → p a = true
theorem getD_get {ys : List Str} {i : Nat} (h : i < ys.length) : ys[i]? = some (ys.getD i Str.empty) := by
  simp [List.getD, h]
def BisIn (p : Str → Bool) (ys : List Str) (lo hi : Int) : Prop :=
  0 ≤ lo ∧ lo ≤ hi ∧ hi ≤ (ys.length : Int) ∧ (∀ i : Nat, (i : Int) < lo → ∀ a, ys[i]? = some a → p a = true) ∧ ∀ i : Nat, hi ≤ (i : Int) → ∀ a, ys[i]? = some a → p a = false
theorem BisIn.start (p : Str → Bool) (ys : List Str) : BisIn p ys 0 (ys.length : Int) :=
  ⟨Int.le_refl _, by omega, Int.le_refl _, fun i hi => by omega, fun i hi a ha => by
    have := (List.getElem?_eq_some_iff.mp ha).1
    omega⟩
theorem BisIn.stop {p : Str → Bool} {ys : List Str} {lo hi : Int} (h : BisIn p ys lo hi) (hn : ¬ lo < hi) : lo = (cut p ys : Int) := by
  obtain ⟨h0, h1, h2, h3, h4⟩ := h
  have e := cut_at (p := p) (ys := ys) (k := lo.toNat) (by omega) (fun i hi => h3 i (by omega)) fun i hi => h4 i (by omega)
  omega
theorem BisIn.left {p : Str → Bool} {ys : List Str} {lo hi mid : Int} (h : BisIn p ys lo hi) (hm : Mono p ys) (h1 : lo ≤ mid) (h2 : mid < hi) (hp : p (ys.getD mid.toNat Str.empty) = true) : BisIn p ys (mid + 1) hi := by
  obtain ⟨g0, g1, g2, g3, g4⟩ := h
  refine ⟨by omega, by omega, g2, fun i hi a ha => ?_, g4⟩
  exact hm i mid.toNat a _ (by omega) ha (getD_get (by omega)) hp
theorem BisIn.right {p : Str → Bool} {ys : List Str} {lo hi mid : Int} (h : BisIn p ys lo hi) (hm : Mono p ys) (h1 : lo ≤ mid) (h2 : mid < hi) (hp : p (ys.getD mid.toNat Str.empty) = false) : BisIn p ys lo mid := by
  obtain ⟨g0, g1, g2, g3, g4⟩ := h
  refine ⟨g0, h1, by omega, g3, fun i hi a ha => ?_⟩
  cases e : p a with
  | false => rfl
  | true =>
    have := hm mid.toNat i _ a (by omega) (getD_get (by omega)) ha e
    rw [hp] at this; cases this
theorem mid_facts {lo hi : Int} (h : lo < hi) : lo ≤ (lo + hi).fdiv 2 ∧ (lo + hi).fdiv 2 < hi := by
  rw [Int.fdiv_eq_ediv_of_nonneg _ (by decide)]
  omega
end Mine
end
section
open PySem PySem.W PyProof.Rows PySem.Spec PySem.Calls
namespace Mine
set_option maxRecDepth 100000
set_option maxHeartbeats 4000000

/-- a key's call ends: it answers by the text k -/
def SkEnd (h₀ : Heap) (L : Addr) (m : Str → Option Value) (need : List (Addr × Obj)) (k : Str) (s₁ : Shared) (v : Value) (s₂ : Shared) : Prop :=
  ∃ h' tk t', s₂ = { s₁ with heap := h', toks := tk } ∧ v = .str k t' ∧ Fr h₀ L h' m ∧ News h₀ L h' need
/-- what is sorted by text keys -/
def SkOut (g : Str → Str) (xs : List Str) (out : List Value) : Prop :=
  ∃ xs', StrsAre out xs' ∧ xs'.Perm xs ∧ xs'.Pairwise (fun a b => ltS (g b) (g a) = false)

theorem zip_strs {g : Str → Str} : ∀ {ks vs : List Value} {xs : List Str}, StrsAre ks (xs.map g) → StrsAre vs xs → ∀ p ∈ ks.zip vs, ∃ x t u, p = (.str (g x) t, .str x u)
  | _, _, [], hk, hv, p, hp => by
    cases hk; cases hv; cases hp
  | _, _, x :: xs, hk, hv, p, hp => by
    cases hk with
    | cons _ t hk => cases hv with
      | cons _ u hv =>
        rw [List.zip_cons_cons] at hp
        rcases List.mem_cons.mp hp with rfl | hp
        · exact ⟨x, t, u, rfl⟩
        · exact zip_strs hk hv p hp
theorem sk_out {g : Str → Str} {keys : Array Value} {vs : List Value} {xs : List Str} (hk : StrsAre keys.toList (xs.map g)) (hv : StrsAre vs xs) {ar : Array Keyed} (hp : ar.Perm (keys.zip vs.toArray)) (hs : SortedToK strKind ar ar.size) :
    SkOut g xs (ar.map (·.2)).toList := by
  have hl : ar.toList.Perm (keys.toList.zip vs) := by rw [← ksk_zip]; exact Array.perm_iff_toList_perm.mp hp
  have hrel : ∀ p ∈ ar.toList, ∃ x t u, p = (Value.str (g x) t, Value.str x u) := fun p hp' => zip_strs hk hv p (hl.mem_iff.mp hp')
  refine ⟨ar.toList.map (fun p => strOf p.2), ?_, ?_, ?_⟩
  · rw [Array.toList_map]
    have := strsAre_map (ar.toList.map (·.2)) fun v hv' => by
      obtain ⟨p, hp', rfl⟩ := List.mem_map.mp hv'
      obtain ⟨x, t, u, rfl⟩ := hrel p hp'
      exact ⟨x, u, rfl⟩
    rwa [List.map_map] at this
  · have h1 := hl.map (fun p : Keyed => strOf p.2)
    have hlen : vs.length ≤ keys.toList.length := by
      have a := hk.length
      have b := hv.length
      rw [List.length_map] at a
      omega
    have e : (keys.toList.zip vs).map (fun p : Keyed => strOf p.2) = xs := by
      have : (keys.toList.zip vs).map (fun p : Keyed => strOf p.2) = ((keys.toList.zip vs).map Prod.snd).map strOf := by rw [List.map_map]; rfl
      rw [this, List.map_snd_zip hlen, hv.strs]
    rwa [e] at h1
  · rw [List.pairwise_map, List.pairwise_iff_getElem]
    intro i j hi hj hij
    have hi' : i < ar.size := by simpa using hi
    have hj' : j < ar.size := by simpa using hj
    have h1 := hs i j (Nat.le_of_lt hij) hj'
    obtain ⟨x, t, u, ex⟩ := hrel ar[i] (by simp)
    obtain ⟨y, t', u', ey⟩ := hrel ar[j] (by simp)
    rw [KK_str hi' ex, KK_str hj' ey] at h1
    rw [Array.getElem_toList, Array.getElem_toList, ex, ey]
    exact h1

section
variable {prog : Program} {w : World} {A : Around} {E : Value → Shared → Prop} {s : Shared} {h₀ : Heap} {L : Addr} {m : Str → Option Value} {news : List (Addr × Obj)} {a kS : Addr} {vs : List Value} {xs : List Str} {g : Str → Str} {keys : Array Value} {e e1 : Nat} {P : PySem.Fin → Shared → Prop}

theorem sk_tail {st : SortSt} (F : Fr h₀ L s.heap m) (N : News h₀ L s.heap (news ++ [(kS, seqObj "list" keys e), (a, seqObj "list" #[] e1)])) (hka : kS ≠ a) (hnk : ∀ p ∈ news, p.1 ≠ kS) (hna : ∀ p ∈ news, p.1 ≠ a)
    (hks : keys.size ≤ 1000) (har : (arrOf st).size ≤ 1000) (hfl : failedOf st = none)
    (h : ∀ h' tk c, Fr h₀ L h' m → News h₀ L h' ((a, seqObj "list" ((arrOf st).map (·.2)) c) :: news) → P (.done (.ret .none)) { s with heap := h', toks := tk }) :
    wpAny (model prog w) A (ksk_tail a false e1 (.ref kS) st) P E s := by
  have nk := N (kS, seqObj "list" keys e) (List.mem_append_right _ (.head _))
  have na := N (a, seqObj "list" #[] e1) (List.mem_append_right _ (.tail _ (.head _)))
  have Nn : News h₀ L s.heap news := fun p hp => N p (List.mem_append_left _ hp)
  have s1 := Heap.SameBut.update s.heap kS (Obj.mapSeq fun _ => (#[] : Array Value))
  have na1 : (s.heap.update kS (Obj.mapSeq fun _ => (#[] : Array Value))).get? a = some (seqObj "list" #[] e1) := (s1.2 a hka.symm).trans na.1
  have s2 := Heap.SameBut.update (s.heap.update kS (Obj.mapSeq fun _ => (#[] : Array Value))) a (Obj.mapSeq fun _ => (arrOf st).map (·.2))
  obtain ⟨c2, hc2⟩ : ∃ c2, ((s.heap.update kS (Obj.mapSeq fun _ => (#[] : Array Value))).update a (Obj.mapSeq fun _ => (arrOf st).map (·.2))).get? a = some (seqObj "list" ((arrOf st).map (·.2)) c2) := ⟨_, get?_update_seq na1 fun _ => (arrOf st).map (·.2)⟩
  have N2 := ksk_news (ksk_news Nn s1 hnk) s2 hna
  unfold ksk_tail
  simp only [Bool.false_eq_true, if_false]
  refine wpAny_bind (listUpdate_at nk.1 rfl ?_ (by rw [sizeLine_eq]; omega) (Nat.zero_le _))
  refine wpAny_bind (wpAny_letGo ?_)
  refine wpAny_bind (seqEpoch_at na1 rfl ?_)
  refine wpAny_bind (listUpdate_at na1 rfl ?_ (Nat.zero_le _) (by rw [Array.size_map, sizeLine_eq]; omega))
  rw [hfl]
  simp only [bne_self_eq_false, Bool.false_eq_true, if_false]
  refine wpAny_pure (h _ _ c2 (ksk_fr (ksk_fr F s1 nk.2.1 nk.2.2) s2 na.2.1 na.2.2) fun p hp => ?_)
  rcases List.mem_cons.mp hp with rfl | hp
  · exact ⟨hc2, na.2⟩
  · exact N2 p hp

theorem sk_end (F : Fr h₀ L s.heap m) (N : News h₀ L s.heap (news ++ [(kS, seqObj "list" keys e), (a, seqObj "list" #[] e1)])) (hka : kS ≠ a) (hnk : ∀ p ∈ news, p.1 ≠ kS) (hna : ∀ p ∈ news, p.1 ≠ a)
    (hk : StrsAre keys.toList (xs.map g)) (hv : StrsAre vs xs) (h64 : xs.length < 64)
    (h : ∀ h' tk out c, Fr h₀ L h' m → News h₀ L h' ((a, seqObj "list" out c) :: news) → SkOut g xs out.toList → P (.done (.ret .none)) { s with heap := h', toks := tk }) :
    wpAny (model prog w) A (ksk_end a false vs.toArray e1 (.ref kS) keys) P E s := by
  have hvl := hv.length
  have hkl : keys.size = xs.length := by
    have h1 := hk.length
    rw [Array.length_toList, List.length_map] at h1
    exact h1
  have hzs : (keys.zip vs.toArray).size = xs.length := by rw [Array.size_zip, hkl, List.size_toArray, hvl, Nat.min_self]
  unfold ksk_end
  simp only [Bool.false_eq_true, if_false]
  by_cases h2 : vs.toArray.size < 2
  · rw [if_pos h2, if_pos h2]
    refine wpAny_bind (wpAny_pure ?_)
    rw [StateT.run_pure]
    refine wpAny_bind (wpAny_pure ?_)
    try dsimp only
    refine sk_tail (st := SortSt.mk' general' (keys.zip vs.toArray) #[] 7 none) F N hka hnk hna (by omega) (by show (keys.zip vs.toArray).size ≤ _; omega) rfl fun h' tk c F' N' => h h' tk _ c F' N' (sk_out hk hv (Array.Perm.refl _) ?_)
    intro i j hij hj
    have hj2 : j < (keys.zip vs.toArray).size := hj
    rw [List.size_toArray] at h2
    have : i = j := by omega
    subst this
    exact KeyOrd.kle_refl _
  · rw [if_neg h2, if_neg h2]
    rw [List.size_toArray, hvl] at h2
    obtain ⟨v₁, v₂, rest, ek⟩ : ∃ v₁ v₂ rest, keys.toList = v₁ :: v₂ :: rest := by
      have hl : 2 ≤ keys.toList.length := by rw [Array.length_toList]; omega
      match keys.toList, hl with
      | v₁ :: v₂ :: rest, _ => exact ⟨v₁, v₂, rest, rfl⟩
    have hkk : keyKind' keys = pure oneType' := by
      have e' : keys = (v₁ :: v₂ :: rest).toArray := by rw [← ek, Array.toArray_toList]
      rw [ek] at hk
      rw [e']
      exact keyKind_strs hk
    rw [hkk]
    refine wpAny_bind (wpAny_pure ?_)
    refine wpAny_bind (wpAny_mono (wpS_sortRunsK (κ := strKind) strKind_oneLt (a₀ := keys.zip vs.toArray) (st := SortSt.mk' oneType' (keys.zip vs.toArray) #[] 7 none)
      (Q := fun _ st' => (arrOf st').Perm (keys.zip vs.toArray) ∧ failedOf st' = none ∧ SortedToK strKind (arrOf st') (keys.zip vs.toArray).size)
      (fun p hp => by
        rw [ksk_zip] at hp
        obtain ⟨x, t, u, rfl⟩ := zip_strs hk hv p hp
        exact ⟨_, rfl⟩) ⟨Array.Perm.refl _, rfl, rfl, rfl⟩ (by omega) (by omega) fun st' a1 a2 a3 => ⟨a1, a2, a3⟩) ?_ fun _ _ e => e)
    rintro ⟨⟨⟩, st'⟩ s' ⟨rfl, hp, hf, hs⟩
    try dsimp only
    exact sk_tail F N hka hnk hna (by omega) (by rw [hp.size_eq]; omega) hf fun h' tk c F' N' => h h' tk _ c F' N' (sk_out hk hv hp (by rw [hp.size_eq]; exact hs))

theorem sk_rest {f : Value} (F : Fr h₀ L s.heap m) (N : News h₀ L s.heap (news ++ [(kS, seqObj "list" #[] 0), (a, seqObj "list" #[] e1)])) (hka : kS ≠ a) (hnk : ∀ p ∈ news, p.1 ≠ kS) (hna : ∀ p ∈ news, p.1 ≠ a)
    (hv : StrsAre vs xs) (h64 : xs.length < 64)
    (turn : ∀ (x : Str) (t : Tok) (h : Heap) (tk : Nat) (own : List (Addr × Obj)), x ∈ xs → Fr h₀ L h m → News h₀ L h (news ++ own) →
      wpAny (model prog w) A (call f [.str x t]) (SkEnd h₀ L m (news ++ own) (g x) { s with heap := h, toks := tk }) (fun _ _ => False) { s with heap := h, toks := tk })
    (h : ∀ h' tk out c, Fr h₀ L h' m → News h₀ L h' ((a, seqObj "list" out c) :: news) → SkOut g xs out.toList → P (.done (.ret .none)) { s with heap := h', toks := tk }) :
    wpAny (model prog w) A (ksk_rest a f false vs.toArray e1 (.ref kS)) P E s := by
  have hvl := hv.length
  unfold ksk_rest
  refine wpAny_bind (wpAny_rule ?_)
  rw [List.forIn_toArray]
  refine wpAny_bind (ksk_fold (fun i s' => ∃ h' tk kA e, s' = { s with heap := h', toks := tk } ∧ Fr h₀ L h' m ∧ News h₀ L h' (news ++ [(kS, seqObj "list" kA e), (a, seqObj "list" #[] e1)]) ∧ StrsAre kA.toList ((xs.take i).map g)) vs 0 s
    ⟨s.heap, s.toks, #[], 0, rfl, F, N, by simpa using StrsAre.nil⟩ ?step ?done)
  case step =>
    rintro j x s' hx ⟨h', tk, kA, e, rfl, F', N', hk⟩
    simp only [Nat.zero_add] at hk ⊢
    obtain ⟨y, t, rfl, hy⟩ := hv.item j x hx
    have hz : kA.size ≤ xs.length := by
      have h1 := hk.length
      rw [Array.length_toList, List.length_map, List.length_take] at h1
      omega
    refine wpAny_bind (wpAny_attempt (wpAny_mono (turn y t h' tk _ (List.mem_of_getElem? hy) F' N') (fun v s'' he => ?_) fun _ _ hF => hF.elim))
    obtain ⟨g2, tk2, t2, rfl, rfl, F2, N2⟩ := he
    try dsimp only
    have nk := N2 (kS, seqObj "list" kA e) (List.mem_append_right _ (.head _))
    have na := N2 (a, seqObj "list" #[] e1) (List.mem_append_right _ (.tail _ (.head _)))
    have s1 := Heap.SameBut.update g2 kS (Obj.mapSeq (·.push (.str (g y) t2)))
    obtain ⟨c2, hc2⟩ : ∃ c2, (g2.update kS (Obj.mapSeq (·.push (Value.str (g y) t2)))).get? kS = some (seqObj "list" (kA.push (Value.str (g y) t2)) c2) := ⟨_, get?_update_seq nk.1 (·.push (Value.str (g y) t2))⟩
    have ek : (xs.take (j + 1)).map g = (xs.take j).map g ++ [g y] := by rw [List.take_add_one, hy]; simp
    have ea : (kA.push (Value.str (g y) t2)).toList = kA.toList ++ [Value.str (g y) t2] := by simp
    refine wpAny_bind (listUpdate_at nk.1 rfl ?_ (by rw [sizeLine_eq]; omega) (Nat.le_trans (Nat.le_of_eq (Array.size_push ..)) (by rw [sizeLine_eq]; omega)))
    refine wpAny_pure ⟨rfl, _, _, kA.push (.str (g y) t2), c2, rfl, ksk_fr F2 s1 nk.2.1 nk.2.2, fun p hp => ?_, by rw [ea, ek]; exact hk.append' (.cons _ _ .nil)⟩
    rcases List.mem_append.mp hp with hp | hp
    · exact ksk_news (fun q hq => N2 q (List.mem_append_left _ hq)) s1 hnk p hp
    · rcases List.mem_cons.mp hp with rfl | hp
      · exact ⟨hc2, nk.2⟩
      · rw [List.mem_singleton.mp hp]
        exact ⟨(s1.2 a hka.symm).trans na.1, na.2⟩
  case done =>
    rintro s' ⟨h', tk, kA, e, rfl, F', N', hk⟩
    rw [List.take_of_length_le (by omega)] at hk
    have nk := N' (kS, seqObj "list" kA e) (List.mem_append_right _ (.head _))
    try dsimp only
    refine wpAny_bind (listItems_at nk.1 rfl ?_)
    exact sk_end F' N' hka hnk hna hk hv h64 fun h3 tk3 out c F3 N3 k3 => h h3 tk3 out c F3 N3 k3

theorem sk_sort {f : Value} {n : Nat} (F : Fr h₀ L s.heap m) (N : News h₀ L s.heap news) (ho : s.heap.get? a = some (seqObj "list" vs.toArray n)) (haL : a ≠ L) (ha0 : h₀.get? a = none) (hna : ∀ p ∈ news, p.1 ≠ a)
    (hv : StrsAre vs xs) (h64 : xs.length < 64)
    (turn : ∀ (x : Str) (t : Tok) (h : Heap) (tk : Nat) (own : List (Addr × Obj)), x ∈ xs → Fr h₀ L h m → News h₀ L h (news ++ own) →
      wpAny (model prog w) A (call f [.str x t]) (SkEnd h₀ L m (news ++ own) (g x) { s with heap := h, toks := tk }) (fun _ _ => False) { s with heap := h, toks := tk })
    (h : ∀ h' tk out c, Fr h₀ L h' m → News h₀ L h' ((a, seqObj "list" out c) :: news) → SkOut g xs out.toList → P (.done (.ret .none)) { s with heap := h', toks := tk }) :
    wpAny (model prog w) A (ksk_tree a f false) P E s := by
  have hvl := hv.length
  have ha : a < s.heap.objs.size := Heap.lt_size ho
  have s1 := Heap.SameBut.update s.heap a (Obj.mapSeq fun _ => (#[] : Array Value))
  obtain ⟨e1, ho1⟩ : ∃ e1, (s.heap.update a (Obj.mapSeq fun _ => (#[] : Array Value))).get? a = some (seqObj "list" #[] e1) := ⟨_, get?_update_seq ho fun _ => (#[] : Array Value)⟩
  have F1 := ksk_fr F s1 haL ha0
  have N1 := ksk_news N s1 hna
  have hkS : ((s.heap.update a (Obj.mapSeq fun _ => (#[] : Array Value))).push (seqObj "tuple" vs.toArray 0)).objs.size = s.heap.objs.size + 1 := by rw [size_push', Heap.size_update]
  have hLk : L < ((s.heap.update a (Obj.mapSeq fun _ => (#[] : Array Value))).push (seqObj "tuple" vs.toArray 0)).objs.size := (F1.push _).ns.lt
  unfold ksk_tree
  refine wpAny_bind (listItems_at ho rfl ?_)
  refine wpAny_bind (listUpdate_at ho rfl ?_ (by rw [List.size_toArray, sizeLine_eq]; omega) (Nat.zero_le _))
  refine wpAny_bind (seqEpoch_at ho1 rfl ?_)
  refine wpAny_bind (wpAny_newTuple ?_ (by show vs.length ≤ _; rw [sizeLine_eq]; omega))
  refine wpAny_bind (wpAny_newList ?_ (Nat.zero_le _))
  refine wpAny_holding ?_
  refine sk_rest (s := { s with heap := ((s.heap.update a (Obj.mapSeq fun _ => (#[] : Array Value))).push (seqObj "tuple" vs.toArray 0)).push (seqObj "list" #[] 0) }) (kS := ((s.heap.update a (Obj.mapSeq fun _ => (#[] : Array Value))).push (seqObj "tuple" vs.toArray 0)).objs.size)
    ((F1.push _).push _) (fun p hp => ?_) (by rw [hkS]; exact Nat.ne_of_gt (Nat.lt_succ_of_lt ha)) (fun p hp => by rw [hkS]; exact Nat.ne_of_lt (Nat.lt_succ_of_lt (Heap.lt_size (N p hp).1))) hna hv h64 turn h
  rcases List.mem_append.mp hp with hp | hp
  · exact ⟨Heap.get?_push_of_some _ (Heap.get?_push_of_some _ (N1 p hp).1), (N1 p hp).2⟩
  · rcases List.mem_cons.mp hp with rfl | hp
    · exact ⟨Heap.get?_push_size _ rfl, Nat.ne_of_gt hLk, Heap.get?_none_of_le (Nat.le_trans F.above (Nat.le_of_lt hLk))⟩
    · rw [List.mem_singleton.mp hp]
      exact ⟨Heap.get?_push_of_some _ (Heap.get?_push_of_some _ ho1), haL, ha0⟩

theorem l_sortedBy {l q : Addr} {Q : Value → Shared → Prop} (F : Fr h₀ L s.heap m) (N : News h₀ L s.heap news) (hl : s.heap.IsList l vs.toArray) (hv : StrsAre vs xs) (h64 : xs.length < 64)
    (turn : ∀ (x : Str) (t : Tok) (h : Heap) (tk : Nat) (own : List (Addr × Obj)), x ∈ xs → Fr h₀ L h m → News h₀ L h (news ++ own) →
      wpAny (model prog w) A.in1.in1 (call (.ref q) [.str x t]) (SkEnd h₀ L m (news ++ own) (g x) { s with heap := h, toks := tk }) (fun _ _ => False) { s with heap := h, toks := tk })
    (h : ∀ D h' tk out c, Fr h₀ L h' m → News h₀ L h' ((D, seqObj "list" out c) :: news) → (∀ q ∈ news, q.1 < D) → SkOut g xs out.toList → Q (.ref D) { s with heap := h', toks := tk }) :
    wpAny (model prog w) A (call (.builtin "sorted") [.ref l] [(Str.ofString "key", .ref q)]) Q E s := by
  have hvl := hv.length
  refine call_function_entry_kw kind_sorted plain_sorted entry_sorted (ksk_s1 _ _) ?_
  unfold Builtin.«sorted»
  refine wpAny_bind (m := checkCount "sorted" 1 1 _) (wpAny_pure ?_)
  refine wpAny_bind (collect_list hl ?_ (by rw [sizeLine_eq]; omega))
  refine wpAny_bind (wpAny_newList ?_ (by rw [sizeLine_eq]; omega))
  have hsz : ((s.heap.push (seqObj "list" #[] 0)).update s.heap.objs.size (Obj.mapSeq (· ++ vs.toArray))).objs.size = s.heap.objs.size + 1 := by
    rw [Heap.size_update, size_push']
  have hoL : (((s.heap.push (seqObj "list" #[] 0)).update s.heap.objs.size (Obj.mapSeq (· ++ vs.toArray))).push (seqObj "list" vs.toArray 0)).get? (s.heap.objs.size + 1) = some (seqObj "list" vs.toArray 0) := by
    rw [← hsz]; exact Heap.get?_push_size _ rfl
  have keep : ∀ b o, s.heap.get? b = some o → (((s.heap.push (seqObj "list" #[] 0)).update s.heap.objs.size (Obj.mapSeq (· ++ vs.toArray))).push (seqObj "list" vs.toArray 0)).get? b = some o := fun b o q => by
    have hlt : b < s.heap.objs.size := Heap.lt_size q
    rw [Heap.get?_push_ne _ _ _ (by rw [hsz]; exact Nat.ne_of_lt (Nat.lt_succ_of_lt hlt)), Heap.get?_update_ne _ _ _ _ (Nat.ne_of_lt hlt), Heap.get?_push_ne _ _ _ (Nat.ne_of_lt hlt)]
    exact q
  have hL : L < s.heap.objs.size := F.ns.lt
  show wpAny _ _ _ _ _ { s with heap := ((s.heap.push (seqObj "list" #[] 0)).update s.heap.objs.size (Obj.mapSeq (· ++ vs.toArray))).push (seqObj "list" vs.toArray 0) }
  rw [hsz]
  refine wpAny_bind (wpAny_holding (wpAny_call_entry_kw slot_list_sort ⟨_, hoL, rfl⟩ entry_list_sort ?body (ksk_l1 _ _)))
  case body =>
    show wpAny (model prog w) A.in1.in1 (Builtin.«list.sort» ⟨[.ref (s.heap.objs.size + 1)], [(Str.ofString "key", .ref q)]⟩) _ _ _
    rw [ksk_t1]
    refine sk_sort (s := { s with heap := ((s.heap.push (seqObj "list" #[] 0)).update s.heap.objs.size (Obj.mapSeq (· ++ vs.toArray))).push (seqObj "list" vs.toArray 0) })
      (F.kept keep) (N.grown keep) hoL (Nat.ne_of_gt (Nat.lt_succ_of_lt hL)) (Heap.get?_none_of_le (Nat.le_trans F.above (Nat.le_succ_of_le (Nat.le_of_lt hL))))
      (fun p hp => Nat.ne_of_lt (Nat.lt_succ_of_lt (Heap.lt_size (N p hp).1))) hv h64 turn fun h' tk out c F' N' k' => ⟨_, rfl, ?_⟩
    exact wpAny_pure ⟨_, rfl, h _ h' tk out c F' N' (fun q hq => Nat.lt_succ_of_lt (Heap.lt_size (N q hq).1)) k'⟩
end
end Mine
end
section
open PySem PySem.W PyProof.Rows
namespace Mine
set_option maxRecDepth 100000

/-- what a frame hands on: all but the heap and the tokens stays -/
noncomputable abbrev Loose : List Str := looseW hd.view_39 [Str.ofString "IPV4_RE", Str.ofString "insort_left", Str.ofString "bisect_left"]

/-- a def's contract: called at f with vs, in whatever frame, with n frames' room, it answers by R -/
abbrev Claim (n : Nat) (w : World) (mean : ExcName → Option Value) (mg mb : Str → Option Value) (f : Addr) (vs : List Value) (R : Tok → Value) : Prop :=
  ∀ (news : List (Addr × Obj)) (dp un : Nat) (gd : Option (List Code)) (cn : Str) (cs : Scope) (a : Addr) (ccd : Value) (cl : List (Str × Addr)) (outer : List Env) (A₀ : Around) (base h₀ : Heap) (L : Addr) (m : Str → Option Value) (s : Shared) (Q E : Value → Shared → Prop),
    Below A₀ base outer h₀ → Fr h₀ L s.heap m → (hd.heap_39 w.params).In h₀ → News h₀ L s.heap news →
    Top hd.view_39 Loose mean mg mb h₀ → cs.kind = .function →
    dp + n < recursionLimit → un + 8 * n < cLine →
    (∀ (t : Tok) (h' : Heap) (tk' : Nat), Fr h₀ L h' m → News h₀ L h' news → Q (R t) { s with heap := h', toks := tk' }) →
      wpAny (model PySem.Challenge.rw_zs0002_01.row.prog w) (ktrTop dp un gd cn cs L a ccd cl outer) (call (.ref f) vs) Q E s

section
variable {n : Nat} {w : World} {mean : ExcName → Option Value} {mg mb : Str → Option Value} {f : Addr} {vs : List Value} {R : Tok → Value}
theorem Claim.use (C : Claim n w mean mg mb f vs R) {news : List (Addr × Obj)} {dp un : Nat} {gd : Option (List Code)} {cn : Str} {cs : Scope} {a : Addr} {ccd : Value} {cl : List (Str × Addr)} {outer : List Env} {A₀ : Around} {base h₀ : Heap} {L : Addr} {m : Str → Option Value} {s : Shared} {Q E : Value → Shared → Prop}
    (B : Below A₀ base outer h₀) (F : Fr h₀ L s.heap m) (X : (hd.heap_39 w.params).In h₀) (N : News h₀ L s.heap news) (T : Top hd.view_39 Loose mean mg mb h₀) (hk : cs.kind = .function)
    (hd : dp + n < recursionLimit) (hu : un + 8 * n < cLine)
    (ret : ∀ (t : Tok) (h' : Heap) (tk' : Nat), Fr h₀ L h' m → News h₀ L h' news → Q (R t) { s with heap := h', toks := tk' }) :
    wpAny (model PySem.Challenge.rw_zs0002_01.row.prog w) (ktrTop dp un gd cn cs L a ccd cl outer) (call (.ref f) vs) Q E s := C _ _ _ _ _ _ _ _ _ _ _ _ _ _ _ _ _ _ B F X N T hk hd hu ret
end

/-- a def's contract: it answers by a new list of texts -/
abbrev ClaimL (n : Nat) (w : World) (mean : ExcName → Option Value) (mg mb : Str → Option Value) (f : Addr) (vs : List Value) (xs : List Str) : Prop :=
  ∀ (news : List (Addr × Obj)) (dp un : Nat) (gd : Option (List Code)) (cn : Str) (cs : Scope) (a : Addr) (ccd : Value) (cl : List (Str × Addr)) (outer : List Env) (A₀ : Around) (base h₀ : Heap) (L : Addr) (m : Str → Option Value) (s : Shared) (Q E : Value → Shared → Prop),
    Below A₀ base outer h₀ → Fr h₀ L s.heap m → (hd.heap_39 w.params).In h₀ → News h₀ L s.heap news →
    Top hd.view_39 Loose mean mg mb h₀ → cs.kind = .function →
    dp + n < recursionLimit → un + 8 * n < cLine →
    (∀ (D : Addr) (ws : List Value) (k : Nat) (h' : Heap) (tk' : Nat), Fr h₀ L h' m → News h₀ L h' ((D, listOf ws.toArray k) :: news) → (∀ p ∈ news, p.1 < D) → StrsAre ws xs → Q (.ref D) { s with heap := h', toks := tk' }) →
      wpAny (model PySem.Challenge.rw_zs0002_01.row.prog w) (ktrTop dp un gd cn cs L a ccd cl outer) (call (.ref f) vs) Q E s
section
variable {n : Nat} {w : World} {mean : ExcName → Option Value} {mg mb : Str → Option Value} {f : Addr} {vs : List Value} {xs : List Str}
theorem ClaimL.use (C : ClaimL n w mean mg mb f vs xs) {news : List (Addr × Obj)} {dp un : Nat} {gd : Option (List Code)} {cn : Str} {cs : Scope} {a : Addr} {ccd : Value} {cl : List (Str × Addr)} {outer : List Env} {A₀ : Around} {base h₀ : Heap} {L : Addr} {m : Str → Option Value} {s : Shared} {Q E : Value → Shared → Prop}
    (B : Below A₀ base outer h₀) (F : Fr h₀ L s.heap m) (X : (hd.heap_39 w.params).In h₀) (N : News h₀ L s.heap news) (T : Top hd.view_39 Loose mean mg mb h₀) (hk : cs.kind = .function)
    (hd : dp + n < recursionLimit) (hu : un + 8 * n < cLine)
    (ret : ∀ (D : Addr) (ws : List Value) (k : Nat) (h' : Heap) (tk' : Nat), Fr h₀ L h' m → News h₀ L h' ((D, listOf ws.toArray k) :: news) → (∀ p ∈ news, p.1 < D) → StrsAre ws xs → Q (.ref D) { s with heap := h', toks := tk' }) :
    wpAny (model PySem.Challenge.rw_zs0002_01.row.prog w) (ktrTop dp un gd cn cs L a ccd cl outer) (call (.ref f) vs) Q E s := C _ _ _ _ _ _ _ _ _ _ _ _ _ _ _ _ _ _ B F X N T hk hd hu ret
end

/-- a goal that the walk is to leave -/
def Stop (P : Prop) : Prop := P
theorem Stop.out {P : Prop} (h : Stop P) : P := h

section
variable {prog : Program} {w : World} {A : Around} {E : Value → Shared → Prop} {s : Shared} {x y z : Str} {t u : Tok} {Q : Value → Shared → Prop} {h₀ : Heap} {L : Addr} {m : Str → Option Value} {news : List (Addr × Obj)} {value slice : Expr}
theorem pat_at {w : World} {h : Heap} (X : (hd.heap_39 w.params).In h) : h.get? 36 = some ⟨.type "re.Pattern", none, .fields #[.str (Str.ofString "\\.\\d+$") 285, .int 256 312, .int 0 0, .none, .none, .ref 35, .int 0 0], #[]⟩ := X _ _ rfl
theorem pat_code {w : World} {h : Heap} (X : (hd.heap_39 w.params).In h) : h.get? 35 = some ⟨.type "tuple", none, .seq #[.int 14 0, .int 8 0, .int 1 0, .int 2 0, .int 4294967295 0, .int 1 0, .int 1 0, .int 46 0, .int 0 0, .int 16 0, .int 46 0, .int 24 0, .int 9 0, .int 1 0, .int 4294967295 0, .int 13 0, .int 4 0, .int 8 0, .int 0 0, .int 0 0, .int 1 0, .int 6 0, .int 5 0, .int 1 0] 0, #[]⟩ := X _ _ rfl
theorem re_meth {pl : Sem Bool} {Q : Value × List Value → Shared → Prop} (F : Fr h₀ L s.heap m) (X : (hd.heap_39 w.params).In h₀) (h : Q (.builtin "re.Pattern.search", [.ref 36]) s) :
    wpAny (model prog w) A (getMethod (.ref 36) (Str.ofString "search") pl) Q E s := search_meth (F.keep _ _ (pat_at X)) h
theorem re_none (F : Fr h₀ L s.heap m) (X : (hd.heap_39 w.params).In h₀) (hx : x.cps.size < 2 ^ 63) (hf : failsIn 200 (ipRun x) = true) (h : Q .none s) :
    wpAny (model prog w) A (call (.builtin "re.Pattern.search") [.ref 36, .str x t]) Q E s :=
  search_none (F.keep _ _ (pat_at X)) (F.keep _ _ (pat_code X)) (by decide +kernel) hx hf h
theorem s_eq {b : Bool} (e : (x == y) = b) (h : Q (.bool b) s) : wpAny (model prog w) A (compareOp .Eq (.str x t) (.str y u)) Q E s := PyProof.Rows.eq_str (by rw [e]; exact h)
theorem s_ne {b : Bool} (e : (x != y) = b) (h : Q (.bool b) s) : wpAny (model prog w) A (compareOp .NotEq (.str x t) (.str y u)) Q E s := PyProof.Rows.ne_str (by rw [e]; exact h)
theorem s_item {i : Int} {k : Nat} (hk : x.length = k) (h0 : -(k : Int) ≤ i) (h1 : i < (k : Int)) (hn : k ≤ 16777216) (e : Txt.item x i = y) (h : ∀ t' k, Q (.str y t') { s with toks := k })
    (hs : subscripted slice false (.str x t) (.int i u) = operate [.str x t, .int i u] (getItem (.str x t) (.int i u)) := by with_unfolding_all rfl)
    (ht : ∀ r, letTemporaryGo value (.str x t) r = pure () := by intro _; with_unfolding_all rfl) :
    wpAny (model prog w) A (subscriptTail value slice (.str x t) (.int i u)) Q E s := KXi.item hk h0 h1 hn (fun _ => by rw [e]; exact h _ _) hs ht
theorem s_from {i : Int} {ui : Tok} (hF : Fr h₀ L s.heap m) (hN : News h₀ L s.heap news) (e : Txt.slice x (some i) none = y) (hx : x.length ≤ 1000) (h : ∀ h' t' k, Fr h₀ L h' m → News h₀ L h' news → Q (.str y t') { s with heap := h', toks := k })
    (hs : subscripted slice false (.str x t) (.ref s.heap.objs.size) = operate [.ref s.heap.objs.size, .str x t] (getItem (.str x t) (.ref s.heap.objs.size)) := by with_unfolding_all rfl)
    (ht : ∀ r, letTemporaryGo value (.str x t) r = pure () := by intro _; with_unfolding_all rfl) :
    wpAny (model prog w) A (subscriptTail value slice (.str x t) (.ref s.heap.objs.size)) Q E { s with heap := s.heap.push { cls := .type "slice", data := .fields #[.int i ui, .none, .none] } } :=
  slice_strN_sn hF hN (fun h' t' k F' N' => by rw [e]; exact h h' t' k F' N') hs ht (Nat.le_trans hx (by decide))
theorem s_starts {b : Bool} (e : Txt.startswith x y = b) (h : Q (.bool b) s) : wpAny (model prog w) A (call (.builtin "str.startswith") [.str x t, .str y u]) Q E s := PySem.SC.startswith (by rw [e]; exact h)
theorem s_ends {b : Bool} (e : Txt.endswith x y = b) (h : Q (.bool b) s) : wpAny (model prog w) A (call (.builtin "str.endswith") [.str x t, .str y u]) Q E s := PySem.SC.endswith (by rw [e]; exact h)
theorem s_add (e : x ++ y = z) (hx : x.length ≤ 1000) (hy : y.length ≤ 1000) (h : ∀ t' k, Q (.str z t') { s with toks := k }) : wpAny (model prog w) A (binaryOp .Add (.str x t) (.str y u)) Q E s :=
  KXadd.add hx hy (by decide) fun t' k _ => by rw [e]; exact h t' k
end
end Mine
end
section
open PySem PySem.W PyProof.Rows
namespace Mine
theorem clear_E2 : True := by
  w_top off
  trivial
set_option maxRecDepth 100000
local macro_rules | `(tactic| walk_at "getMethod ref") => `(tactic| (k_here; (with_reducible show wpAny _ _ (getMethod (Value.ref 36) _ _) _ _ _); k_dflt (refine re_meth (by k_asm) (by k_asm) ?_)))
local macro_rules | `(tactic| walk_at "call builtin:re.Pattern.search") => `(tactic| (k_here; k_dflt (refine re_none (by k_asm) (by k_asm) (by first | assumption | omega) (by assumption) ?_)))
local macro_rules | `(tactic| walk_at "compareOp Eq str str") => `(tactic| (k_here; with_reducible refine s_eq (by assumption) ?_))
local macro_rules | `(tactic| walk_at "compareOp NotEq str str") => `(tactic| (k_here; with_reducible refine s_ne (by assumption) ?_))
local macro_rules | `(tactic| walk_at "call builtin:str.find") => `(tactic| (k_here; (with_reducible show wpAny _ _ (call (Value.builtin "str.find") [Value.str _ _, Value.str _ _]) _ _ _); (with_reducible refine KXw.find (by assumption) ?_); intro _ _))
local macro_rules | `(tactic| walk_at "call builtin:str.rfind") => `(tactic| (k_here; (with_reducible show wpAny _ _ (call (Value.builtin "str.rfind") [Value.str _ _, Value.str _ _]) _ _ _); (with_reducible refine KXw.rfind (by assumption) ?_); intro _ _))
local macro_rules | `(tactic| walk_at "subscriptTail") => `(tactic| (k_here; (with_reducible show wpAny _ _ (subscriptTail _ _ (Value.str _ _) (Value.int _ _)) _ _ _); (refine s_item (by assumption) (by first | decide | omega) (by first | decide | omega) (by first | decide | omega) (by assumption) ?_); intro _ _))
local macro_rules | `(tactic| walk_at "subscriptTail Name Constant str int") => `(tactic| (k_here; (with_reducible show wpAny _ _ (subscriptTail _ _ (Value.str _ _) (Value.int _ _)) _ _ _); (refine s_item (by assumption) (by first | decide | omega) (by first | decide | omega) (by first | decide | omega) (by assumption) ?_); intro _ _))
local macro_rules | `(tactic| walk_at "subscriptTail Name UnaryOp str int") => `(tactic| (k_here; (with_reducible show wpAny _ _ (subscriptTail _ _ (Value.str _ _) (Value.int _ _)) _ _ _); (refine s_item (by assumption) (by first | decide | omega) (by first | decide | omega) (by first | decide | omega) (by assumption) ?_); intro _ _))
local macro_rules | `(tactic| walk_at "subscriptTail") => `(tactic| (k_here; (with_reducible show wpAny _ _ (subscriptTail _ (Expr.Slice (some _) none none _) (Value.str _ _) (Value.ref _)) _ _ _); (refine s_from (s := ⟨_, _, _, _, _⟩) (by k_asm) (by k_asm) (by assumption) (by first | assumption | omega) ?_); intro _ _ _ _ _))
local macro_rules | `(tactic| walk_at "subscriptTail Name Slice str ref") => `(tactic| (k_here; (with_reducible show wpAny _ _ (subscriptTail _ (Expr.Slice (some _) none none _) (Value.str _ _) (Value.ref _)) _ _ _); (refine s_from (s := ⟨_, _, _, _, _⟩) (by k_asm) (by k_asm) (by assumption) (by first | assumption | omega) ?_); intro _ _ _ _ _))
local macro_rules | `(tactic| walk_at "binaryOp Add str str") => `(tactic| (k_here; (with_reducible refine s_add (by assumption) (by first | assumption | omega) (by first | assumption | omega) ?_); intro _ _))

local macro_rules | `(tactic| walk_at "eval ListComp") => `(tactic| (k_here; refine Stop.out ?_))
local macro_rules | `(tactic| walk_at "CompSrc") => `(tactic| (k_here; refine Stop.out ?_))
local macro_rules | `(tactic| walk_at "CompSrcT") => `(tactic| (k_here; refine Stop.out ?_))
local macro_rules | `(tactic| walk_at "call builtin:str.split") => `(tactic| (k_here; (with_reducible show wpAny _ _ (call (Value.builtin "str.split") [Value.str _ _, Value.str _ _]) _ _ _); k_dflt (refine l_split (by k_asm) (by k_asm) (by decide +kernel) (by with_reducible assumption) (by first | assumption | omega) ?_); intro D' ws' h' k' F' N' l1 hS'; (try k_lt l1); (try k_sweep)))
local macro_rules | `(tactic| walk_at "subscriptTail") => `(tactic| (k_here; (with_reducible show wpAny _ _ (subscriptTail _ (PySem.Expr.Slice none none (some _) _) (Value.ref _) (Value.ref _)) _ _ _); k_dflt (refine l_rev (by k_asm) (by k_asm) (by exact News.isList (by k_asm) (by k_mem)) (IsPart.int _ _) (by with_reducible assumption) (by first | assumption | omega) ?_ (by with_unfolding_all rfl) (by intro _; with_unfolding_all rfl)); intro D' ws' h' F' N' l1 hS'; (try k_lt l1); (try k_sweep)))
local macro_rules | `(tactic| walk_at "subscriptTail Name Slice ref ref") => `(tactic| (k_here; (with_reducible show wpAny _ _ (subscriptTail _ (PySem.Expr.Slice none none (some _) _) (Value.ref _) (Value.ref _)) _ _ _); k_dflt (refine l_rev (by k_asm) (by k_asm) (by exact News.isList (by k_asm) (by k_mem)) (IsPart.int _ _) (by with_reducible assumption) (by first | assumption | omega) ?_ (by with_unfolding_all rfl) (by intro _; with_unfolding_all rfl)); intro D' ws' h' F' N' l1 hS'; (try k_lt l1); (try k_sweep)))
local macro_rules | `(tactic| walk_at "call builtin:str.join") => `(tactic| (k_here; (with_reducible show wpAny _ _ (call (Value.builtin "str.join") [Value.str _ _, Value.ref _]) _ _ _); k_dflt (refine l_join (by exact News.isList (by k_asm) (by k_mem)) (by with_reducible assumption) (by first | assumption | omega) (by with_reducible assumption) ?_); intro _ _))
local macro_rules | `(tactic| walk_at "exec For Tuple Call cons nil") => `(tactic| (k_here; refine Stop.out ?_))
local macro_rules | `(tactic| walk_at "exec For Name Subscript cons nil") => `(tactic| (k_here; refine Stop.out ?_))
local macro_rules | `(tactic| walk_at "exec For Name Name cons nil") => `(tactic| (k_here; refine Stop.out ?_))
local macro_rules | `(tactic| walk_at "exec For Name Call cons nil") => `(tactic| (k_here; refine Stop.out ?_))
local macro_rules | `(tactic| walk_at "exec While Compare cons nil") => `(tactic| (k_here; refine Stop.out ?_))
local macro_rules | `(tactic| walk_at "exec While Constant cons nil") => `(tactic| (k_here; refine Stop.out ?_))
local macro_rules | `(tactic| walk_at "eval Name") => `(tactic| (k_here; k_dflt (refine nameX_L (by k_asm) (by with_unfolding_all first | exact rfl | assumption) ?_ (by rfl) (by rfl))))
local macro_rules | `(tactic| walk_at "WhileEnd") => `(tactic| (k_here; refine Stop.out ?_))
local macro_rules | `(tactic| walk_at "ForEnd") => `(tactic| (k_here; refine Stop.out ?_))
local macro_rules | `(tactic| k_all) => `(tactic| (refine allLt_ne' ?_; assumption))
theorem hdn_facts : ∀ q ∈ U, (nm q == Str.ofString "") = false ∧ (Txt.item (nm q) 0 == Str.ofString ".") = false ∧ (Txt.item (nm q) (-1) == Str.ofString ".") = false ∧ (nm q).cps.size ≤ 15 ∧ 1 ≤ (nm q).length := by decide +kernel
set_option maxHeartbeats 4000000 in
theorem hdn (w : World) (mean mg mb) (q : List Nat) (hq : q ∈ U) (t : Tok) : Claim 2 w mean mg mb 43 [.str (nm q) t] (fun _ => .bool true) := by
  unfold Claim
  k_fill
  intros
  rename_i hret
  obtain ⟨f1, f3, f5, f6, f7⟩ := hdn_facts q hq
  obtain ⟨y1, hy1⟩ : ∃ y, Txt.item (nm q) 0 = y := ⟨_, rfl⟩
  obtain ⟨y2, hy2⟩ : ∃ y, Txt.item (nm q) (-1) = y := ⟨_, rfl⟩
  rw [hy1] at f3
  rw [hy2] at f5
  have f8 := nm_fails q hq
  obtain ⟨k, hk⟩ : ∃ k, (nm q).length = k := ⟨_, rfl⟩
  have f9 : k ≤ 15 := hk ▸ f6
  have f10 : 1 ≤ k := hk ▸ f7
  have f11 : (nm q).cps.size < 2 ^ 63 := by omega
  clear f6 f7
  refine wpAny_call ?_
  k_dflt cell_enter
  k_steps
  exact hret 0 _ _ (by k_asm) (by k_asm)
end Mine
end
section
open PySem PySem.W PyProof.Rows
namespace Mine
local macro_rules | `(tactic| walk_at "none such 0") => `(tactic| skip)
theorem clear_Fa : True := by
  w_top off
  trivial
set_option maxRecDepth 100000
local macro_rules | `(tactic| walk_at "getMethod ref") => `(tactic| (k_here; (with_reducible show wpAny _ _ (getMethod (Value.ref 36) _ _) _ _ _); k_dflt (refine re_meth (by k_asm) (by k_asm) ?_)))
local macro_rules | `(tactic| walk_at "call builtin:re.Pattern.search") => `(tactic| (k_here; k_dflt (refine re_none (by k_asm) (by k_asm) (by first | assumption | omega) (by assumption) ?_)))
local macro_rules | `(tactic| walk_at "compareOp Eq str str") => `(tactic| (k_here; with_reducible refine s_eq (by assumption) ?_))
local macro_rules | `(tactic| walk_at "compareOp NotEq str str") => `(tactic| (k_here; with_reducible refine s_ne (by assumption) ?_))
local macro_rules | `(tactic| walk_at "call builtin:str.find") => `(tactic| (k_here; (with_reducible show wpAny _ _ (call (Value.builtin "str.find") [Value.str _ _, Value.str _ _]) _ _ _); (with_reducible refine KXw.find (by assumption) ?_); intro _ _))
local macro_rules | `(tactic| walk_at "call builtin:str.rfind") => `(tactic| (k_here; (with_reducible show wpAny _ _ (call (Value.builtin "str.rfind") [Value.str _ _, Value.str _ _]) _ _ _); (with_reducible refine KXw.rfind (by assumption) ?_); intro _ _))
local macro_rules | `(tactic| walk_at "subscriptTail") => `(tactic| (k_here; (with_reducible show wpAny _ _ (subscriptTail _ _ (Value.str _ _) (Value.int _ _)) _ _ _); (refine s_item (by assumption) (by first | decide | omega) (by first | decide | omega) (by first | decide | omega) (by assumption) ?_); intro _ _))
local macro_rules | `(tactic| walk_at "subscriptTail Name Constant str int") => `(tactic| (k_here; (with_reducible show wpAny _ _ (subscriptTail _ _ (Value.str _ _) (Value.int _ _)) _ _ _); (refine s_item (by assumption) (by first | decide | omega) (by first | decide | omega) (by first | decide | omega) (by assumption) ?_); intro _ _))
local macro_rules | `(tactic| walk_at "subscriptTail Name UnaryOp str int") => `(tactic| (k_here; (with_reducible show wpAny _ _ (subscriptTail _ _ (Value.str _ _) (Value.int _ _)) _ _ _); (refine s_item (by assumption) (by first | decide | omega) (by first | decide | omega) (by first | decide | omega) (by assumption) ?_); intro _ _))
local macro_rules | `(tactic| walk_at "subscriptTail") => `(tactic| (k_here; (with_reducible show wpAny _ _ (subscriptTail _ (Expr.Slice (some _) none none _) (Value.str _ _) (Value.ref _)) _ _ _); (refine s_from (s := ⟨_, _, _, _, _⟩) (by k_asm) (by k_asm) (by assumption) (by first | assumption | omega) ?_); intro _ _ _ _ _))
local macro_rules | `(tactic| walk_at "subscriptTail Name Slice str ref") => `(tactic| (k_here; (with_reducible show wpAny _ _ (subscriptTail _ (Expr.Slice (some _) none none _) (Value.str _ _) (Value.ref _)) _ _ _); (refine s_from (s := ⟨_, _, _, _, _⟩) (by k_asm) (by k_asm) (by assumption) (by first | assumption | omega) ?_); intro _ _ _ _ _))
local macro_rules | `(tactic| walk_at "binaryOp Add str str") => `(tactic| (k_here; (with_reducible refine s_add (by assumption) (by first | assumption | omega) (by first | assumption | omega) ?_); intro _ _))

local macro_rules | `(tactic| walk_at "eval ListComp") => `(tactic| (k_here; refine Stop.out ?_))
local macro_rules | `(tactic| walk_at "CompSrc") => `(tactic| (k_here; refine Stop.out ?_))
local macro_rules | `(tactic| walk_at "CompSrcT") => `(tactic| (k_here; refine Stop.out ?_))
local macro_rules | `(tactic| walk_at "call builtin:str.split") => `(tactic| (k_here; (with_reducible show wpAny _ _ (call (Value.builtin "str.split") [Value.str _ _, Value.str _ _]) _ _ _); k_dflt (refine l_split (by k_asm) (by k_asm) (by decide +kernel) (by with_reducible assumption) (by first | assumption | omega) ?_); intro D' ws' h' k' F' N' l1 hS'; (try k_lt l1); (try k_sweep)))
local macro_rules | `(tactic| walk_at "subscriptTail") => `(tactic| (k_here; (with_reducible show wpAny _ _ (subscriptTail _ (PySem.Expr.Slice none none (some _) _) (Value.ref _) (Value.ref _)) _ _ _); k_dflt (refine l_rev (by k_asm) (by k_asm) (by exact News.isList (by k_asm) (by k_mem)) (IsPart.int _ _) (by with_reducible assumption) (by first | assumption | omega) ?_ (by with_unfolding_all rfl) (by intro _; with_unfolding_all rfl)); intro D' ws' h' F' N' l1 hS'; (try k_lt l1); (try k_sweep)))
local macro_rules | `(tactic| walk_at "subscriptTail Name Slice ref ref") => `(tactic| (k_here; (with_reducible show wpAny _ _ (subscriptTail _ (PySem.Expr.Slice none none (some _) _) (Value.ref _) (Value.ref _)) _ _ _); k_dflt (refine l_rev (by k_asm) (by k_asm) (by exact News.isList (by k_asm) (by k_mem)) (IsPart.int _ _) (by with_reducible assumption) (by first | assumption | omega) ?_ (by with_unfolding_all rfl) (by intro _; with_unfolding_all rfl)); intro D' ws' h' F' N' l1 hS'; (try k_lt l1); (try k_sweep)))
local macro_rules | `(tactic| walk_at "call builtin:str.join") => `(tactic| (k_here; (with_reducible show wpAny _ _ (call (Value.builtin "str.join") [Value.str _ _, Value.ref _]) _ _ _); k_dflt (refine l_join (by exact News.isList (by k_asm) (by k_mem)) (by with_reducible assumption) (by first | assumption | omega) (by with_reducible assumption) ?_); intro _ _))
local macro_rules | `(tactic| walk_at "exec For Tuple Call cons nil") => `(tactic| (k_here; refine Stop.out ?_))
local macro_rules | `(tactic| walk_at "exec For Name Subscript cons nil") => `(tactic| (k_here; refine Stop.out ?_))
local macro_rules | `(tactic| walk_at "exec For Name Name cons nil") => `(tactic| (k_here; refine Stop.out ?_))
local macro_rules | `(tactic| walk_at "exec For Name Call cons nil") => `(tactic| (k_here; refine Stop.out ?_))
local macro_rules | `(tactic| walk_at "exec While Compare cons nil") => `(tactic| (k_here; refine Stop.out ?_))
local macro_rules | `(tactic| walk_at "exec While Constant cons nil") => `(tactic| (k_here; refine Stop.out ?_))
local macro_rules | `(tactic| walk_at "eval Name") => `(tactic| (k_here; k_dflt (refine nameX_L (by k_asm) (by with_unfolding_all first | exact rfl | assumption) ?_ (by rfl) (by rfl))))
local macro_rules | `(tactic| walk_at "WhileEnd") => `(tactic| (k_here; refine Stop.out ?_))
local macro_rules | `(tactic| walk_at "ForEnd") => `(tactic| (k_here; refine Stop.out ?_))
local macro_rules | `(tactic| k_all) => `(tactic| (refine allLt_ne' ?_; assumption))
set_option maxHeartbeats 4000000 in
theorem libh (w : World) (mean mg mb) (q : List Nat) (hq : q ∈ U) (t : Tok) : Claim 2 w mean mg mb 57 [.str (nm q) t] (fun _ => .bool true) := by
  unfold Claim
  k_fill
  intros
  rename_i hret
  have f8 := nm_fails q hq
  have f11 : (nm q).cps.size < 2 ^ 63 := Nat.lt_of_le_of_lt (nm_len q hq) (by decide)
  refine wpAny_call ?_
  k_dflt cell_enter
  k_steps
  exact hret 0 _ _ (by k_asm) (by k_asm)
theorem zn_len : ∀ q ∈ V, (zn q).length ≤ 15 := by decide +kernel
set_option maxHeartbeats 4000000 in
theorem libz (w : World) (mean mg mb) (q : List Nat) (hq : q ∈ V) (t : Tok) : Claim 2 w mean mg mb 57 [.str (zn q) t] (fun _ => .bool true) := by
  unfold Claim
  k_fill
  intros
  rename_i hret
  have f8 := zn_fails q hq
  have f11 : (zn q).cps.size < 2 ^ 63 := Nat.lt_of_le_of_lt (zn_len q hq) (by decide)
  refine wpAny_call ?_
  k_dflt cell_enter
  k_steps
  exact hret 0 _ _ (by k_asm) (by k_asm)

local macro_rules | `(tactic| walk_at "call ref") => `(tactic| (k_here; (with_reducible show wpAny _ _ (call (Value.ref 43) _ _) _ _ _); k_dflt (refine Claim.use (hdn _ _ _ _ _ (by assumption) _) (by k_asm) (by k_asm) (by k_asm) (by k_asm) (by k_asm) (by first | exact rfl | assumption) (by ktr_room) (by ktr_units) ?_; intro t9 h9 tk9 F9 N9; (try dsimp only); (try k_fold))))
/-- reach: the root's child stays, else the zone above -/
def rv : List Nat → Str
  | [] => nm []
  | [x] => nm [x]
  | _ :: q => zn q
theorem rch_facts1 : ∀ q ∈ U1, q ∈ U ∧ 0 ≤ Txt.find (nm q) (Str.ofString ".") ∧ Txt.slice (nm q) (some (Txt.find (nm q) (Str.ofString ".") + 1)) none = ccS ∧ rv q = nm q := by decide +kernel
theorem rch_facts2 : ∀ q ∈ U2 ++ U3 ++ U4, 0 ≤ Txt.find (nm q) (Str.ofString ".") ∧ Txt.slice (nm q) (some (Txt.find (nm q) (Str.ofString ".") + 1)) none = nm q.tail ∧ 0 ≤ Txt.find (nm q.tail) (Str.ofString ".") ∧ Str.ofString "." ++ nm q.tail = rv q ∧ (nm q.tail).length ≤ 15 := by decide +kernel
theorem U_cases {q : List Nat} (h : q ∈ U) : q ∈ U1 ∨ q ∈ U2 ++ U3 ++ U4 := by
  unfold U at h
  rw [List.append_assoc, List.append_assoc, List.mem_append, ← List.append_assoc] at h
  exact h
set_option maxHeartbeats 4000000 in
theorem rch1 (w : World) (mean mg mb) (q : List Nat) (hq : q ∈ U1) (t : Tok) : Claim 4 w mean mg mb 71 [.str (nm q) t] (fun t => .str (rv q) t) := by
  unfold Claim
  k_fill
  intros
  rename_i hret
  obtain ⟨f0, f1, f2, f3⟩ := rch_facts1 q hq
  rw [f3] at hret
  have f4 : Txt.find ccS (Str.ofString ".") = -1 := by decide +kernel
  have f5 : (ccS == Str.ofString "local") = false := by decide +kernel
  have f6 := nm_len q f0
  obtain ⟨i, hi⟩ : ∃ i, Txt.find (nm q) (Str.ofString ".") = i := ⟨_, rfl⟩
  rw [hi] at f1 f2
  refine wpAny_call ?_
  k_dflt cell_enter
  k_steps
  exact hret _ _ _ (by k_asm) (by k_asm)
set_option maxHeartbeats 4000000 in
theorem rch2 (w : World) (mean mg mb) (q : List Nat) (h2 : q ∈ U2 ++ U3 ++ U4) (hq : q ∈ U) (t : Tok) : Claim 4 w mean mg mb 71 [.str (nm q) t] (fun t => .str (rv q) t) := by
  unfold Claim
  k_fill
  intros
  rename_i hret
  obtain ⟨f1, f2, f3, f4, f5⟩ := rch_facts2 q h2
  have f6 := nm_len q hq
  have f7 : (Str.ofString ".").length = 1 := by decide +kernel
  obtain ⟨i, hi⟩ : ∃ i, Txt.find (nm q) (Str.ofString ".") = i := ⟨_, rfl⟩
  obtain ⟨j, hj⟩ : ∃ i, Txt.find (nm q.tail) (Str.ofString ".") = i := ⟨_, rfl⟩
  rw [hi] at f1 f2
  rw [hj] at f3
  refine wpAny_call ?_
  k_dflt cell_enter
  k_steps
  exact hret _ _ _ (by k_asm) (by k_asm)
theorem rch (w : World) (mean mg mb) (q : List Nat) (hq : q ∈ U) (t : Tok) : Claim 4 w mean mg mb 71 [.str (nm q) t] (fun t => .str (rv q) t) :=
  (U_cases hq).elim (fun h => rch1 w mean mg mb q h t) fun h => rch2 w mean mg mb q h hq t
end Mine
end
section
open PySem PySem.W PyProof.Rows
namespace Mine
theorem clear_Fb : True := by
  w_top off
  trivial
set_option maxRecDepth 100000
local macro_rules | `(tactic| walk_at "getMethod ref") => `(tactic| (k_here; (with_reducible show wpAny _ _ (getMethod (Value.ref 36) _ _) _ _ _); k_dflt (refine re_meth (by k_asm) (by k_asm) ?_)))
local macro_rules | `(tactic| walk_at "call builtin:re.Pattern.search") => `(tactic| (k_here; k_dflt (refine re_none (by k_asm) (by k_asm) (by first | assumption | omega) (by assumption) ?_)))
local macro_rules | `(tactic| walk_at "compareOp Eq str str") => `(tactic| (k_here; with_reducible refine s_eq (by assumption) ?_))
local macro_rules | `(tactic| walk_at "compareOp NotEq str str") => `(tactic| (k_here; with_reducible refine s_ne (by assumption) ?_))
local macro_rules | `(tactic| walk_at "call builtin:str.find") => `(tactic| (k_here; (with_reducible show wpAny _ _ (call (Value.builtin "str.find") [Value.str _ _, Value.str _ _]) _ _ _); (with_reducible refine KXw.find (by assumption) ?_); intro _ _))
local macro_rules | `(tactic| walk_at "call builtin:str.rfind") => `(tactic| (k_here; (with_reducible show wpAny _ _ (call (Value.builtin "str.rfind") [Value.str _ _, Value.str _ _]) _ _ _); (with_reducible refine KXw.rfind (by assumption) ?_); intro _ _))
local macro_rules | `(tactic| walk_at "subscriptTail") => `(tactic| (k_here; (with_reducible show wpAny _ _ (subscriptTail _ _ (Value.str _ _) (Value.int _ _)) _ _ _); (refine s_item (by assumption) (by first | decide | omega) (by first | decide | omega) (by first | decide | omega) (by assumption) ?_); intro _ _))
local macro_rules | `(tactic| walk_at "subscriptTail Name Constant str int") => `(tactic| (k_here; (with_reducible show wpAny _ _ (subscriptTail _ _ (Value.str _ _) (Value.int _ _)) _ _ _); (refine s_item (by assumption) (by first | decide | omega) (by first | decide | omega) (by first | decide | omega) (by assumption) ?_); intro _ _))
local macro_rules | `(tactic| walk_at "subscriptTail Name UnaryOp str int") => `(tactic| (k_here; (with_reducible show wpAny _ _ (subscriptTail _ _ (Value.str _ _) (Value.int _ _)) _ _ _); (refine s_item (by assumption) (by first | decide | omega) (by first | decide | omega) (by first | decide | omega) (by assumption) ?_); intro _ _))
local macro_rules | `(tactic| walk_at "subscriptTail") => `(tactic| (k_here; (with_reducible show wpAny _ _ (subscriptTail _ (Expr.Slice (some _) none none _) (Value.str _ _) (Value.ref _)) _ _ _); (refine s_from (s := ⟨_, _, _, _, _⟩) (by k_asm) (by k_asm) (by assumption) (by first | assumption | omega) ?_); intro _ _ _ _ _))
local macro_rules | `(tactic| walk_at "subscriptTail Name Slice str ref") => `(tactic| (k_here; (with_reducible show wpAny _ _ (subscriptTail _ (Expr.Slice (some _) none none _) (Value.str _ _) (Value.ref _)) _ _ _); (refine s_from (s := ⟨_, _, _, _, _⟩) (by k_asm) (by k_asm) (by assumption) (by first | assumption | omega) ?_); intro _ _ _ _ _))
local macro_rules | `(tactic| walk_at "binaryOp Add str str") => `(tactic| (k_here; (with_reducible refine s_add (by assumption) (by first | assumption | omega) (by first | assumption | omega) ?_); intro _ _))

local macro_rules | `(tactic| walk_at "eval ListComp") => `(tactic| (k_here; refine Stop.out ?_))
local macro_rules | `(tactic| walk_at "CompSrc") => `(tactic| (k_here; refine Stop.out ?_))
local macro_rules | `(tactic| walk_at "CompSrcT") => `(tactic| (k_here; refine Stop.out ?_))
local macro_rules | `(tactic| walk_at "call builtin:str.split") => `(tactic| (k_here; (with_reducible show wpAny _ _ (call (Value.builtin "str.split") [Value.str _ _, Value.str _ _]) _ _ _); k_dflt (refine l_split (by k_asm) (by k_asm) (by decide +kernel) (by with_reducible assumption) (by first | assumption | omega) ?_); intro D' ws' h' k' F' N' l1 hS'; (try k_lt l1); (try k_sweep)))
local macro_rules | `(tactic| walk_at "subscriptTail") => `(tactic| (k_here; (with_reducible show wpAny _ _ (subscriptTail _ (PySem.Expr.Slice none none (some _) _) (Value.ref _) (Value.ref _)) _ _ _); k_dflt (refine l_rev (by k_asm) (by k_asm) (by exact News.isList (by k_asm) (by k_mem)) (IsPart.int _ _) (by with_reducible assumption) (by first | assumption | omega) ?_ (by with_unfolding_all rfl) (by intro _; with_unfolding_all rfl)); intro D' ws' h' F' N' l1 hS'; (try k_lt l1); (try k_sweep)))
local macro_rules | `(tactic| walk_at "subscriptTail Name Slice ref ref") => `(tactic| (k_here; (with_reducible show wpAny _ _ (subscriptTail _ (PySem.Expr.Slice none none (some _) _) (Value.ref _) (Value.ref _)) _ _ _); k_dflt (refine l_rev (by k_asm) (by k_asm) (by exact News.isList (by k_asm) (by k_mem)) (IsPart.int _ _) (by with_reducible assumption) (by first | assumption | omega) ?_ (by with_unfolding_all rfl) (by intro _; with_unfolding_all rfl)); intro D' ws' h' F' N' l1 hS'; (try k_lt l1); (try k_sweep)))
local macro_rules | `(tactic| walk_at "call builtin:str.join") => `(tactic| (k_here; (with_reducible show wpAny _ _ (call (Value.builtin "str.join") [Value.str _ _, Value.ref _]) _ _ _); k_dflt (refine l_join (by exact News.isList (by k_asm) (by k_mem)) (by with_reducible assumption) (by first | assumption | omega) (by with_reducible assumption) ?_); intro _ _))
local macro_rules | `(tactic| walk_at "exec For Tuple Call cons nil") => `(tactic| (k_here; refine Stop.out ?_))
local macro_rules | `(tactic| walk_at "exec For Name Subscript cons nil") => `(tactic| (k_here; refine Stop.out ?_))
local macro_rules | `(tactic| walk_at "exec For Name Name cons nil") => `(tactic| (k_here; refine Stop.out ?_))
local macro_rules | `(tactic| walk_at "exec For Name Call cons nil") => `(tactic| (k_here; refine Stop.out ?_))
local macro_rules | `(tactic| walk_at "exec While Compare cons nil") => `(tactic| (k_here; refine Stop.out ?_))
local macro_rules | `(tactic| walk_at "exec While Constant cons nil") => `(tactic| (k_here; refine Stop.out ?_))
local macro_rules | `(tactic| walk_at "eval Name") => `(tactic| (k_here; k_dflt (refine nameX_L (by k_asm) (by with_unfolding_all first | exact rfl | assumption) ?_ (by rfl) (by rfl))))
local macro_rules | `(tactic| walk_at "WhileEnd") => `(tactic| (k_here; refine Stop.out ?_))
local macro_rules | `(tactic| walk_at "ForEnd") => `(tactic| (k_here; refine Stop.out ?_))
local macro_rules | `(tactic| k_all) => `(tactic| (refine allLt_ne' ?_; assumption))
local macro_rules | `(tactic| walk_at "call builtin:str.lower") => `(tactic| (k_here; (with_reducible show wpAny _ _ (call (Value.builtin "str.lower") [Value.str _ _]) _ _ _); (with_reducible refine KXw.lower (by assumption) (by assumption) ?_); intro _ _))
local macro_rules | `(tactic| walk_at "call builtin:str.startswith") => `(tactic| (k_here; (with_reducible show wpAny _ _ (call (Value.builtin "str.startswith") [Value.str _ _, Value.str _ _]) _ _ _); (with_reducible refine s_starts (by assumption) ?_)))
local macro_rules | `(tactic| walk_at "call builtin:str.endswith") => `(tactic| (k_here; (with_reducible show wpAny _ _ (call (Value.builtin "str.endswith") [Value.str _ _, Value.str _ _]) _ _ _); (with_reducible refine s_ends (by assumption) ?_)))
local macro_rules | `(tactic| walk_at "call ref") => `(tactic| (k_here; (with_reducible show wpAny _ _ (call (Value.ref 43) _ _) _ _ _); k_dflt (refine Claim.use (hdn _ _ _ _ _ (by assumption) _) (by k_asm) (by k_asm) (by k_asm) (by k_asm) (by k_asm) (by first | exact rfl | assumption) (by ktr_room) (by ktr_units) ?_; intro t9 h9 tk9 F9 N9; (try dsimp only); (try k_fold))))
local macro_rules | `(tactic| walk_at "call ref") => `(tactic| (k_here; (with_reducible show wpAny _ _ (call (Value.ref 57) _ _) _ _ _); k_dflt (first | (refine Claim.use (libh _ _ _ _ _ (by assumption) _) (by k_asm) (by k_asm) (by k_asm) (by k_asm) (by k_asm) (by first | exact rfl | assumption) (by ktr_room) (by ktr_units) ?_; intro t9 h9 tk9 F9 N9; (try dsimp only); (try k_fold)) | (refine Claim.use (libz _ _ _ _ _ (by assumption) _) (by k_asm) (by k_asm) (by k_asm) (by k_asm) (by k_asm) (by first | exact rfl | assumption) (by ktr_room) (by ktr_units) ?_; intro t9 h9 tk9 F9 N9; (try dsimp only); (try k_fold)))))
/-- the hosts above, nearest first -/
def above : List Nat → List (List Nat)
  | [] => []
  | _ :: q => if q.isEmpty then [] else q :: above q
def sfx (q p : List Nat) : Bool := (above q).contains p
theorem low_nm : ∀ q ∈ U, Txt.lower (nm q) = nm q ∧ Builtin.Str.tooLong (Txt.lower (nm q)).length = false := U_parts (by decide +kernel) (by decide +kernel) (by decide +kernel) (by decide +kernel) (by decide +kernel)
theorem low_zn : ∀ q ∈ V, Txt.lower (zn q) = zn q ∧ Builtin.Str.tooLong (Txt.lower (zn q)).length = false ∧ Txt.startswith (zn q) (Str.ofString ".") = true ∧ Txt.slice (zn q) (some 1) none = nm q := by decide +kernel
theorem V_U : ∀ q ∈ V, q ∈ U := by decide +kernel
theorem above_V : ∀ q ∈ U, ∀ p ∈ above q, p ∈ V := by decide +kernel
theorem above_facts : ∀ q ∈ U, ∀ p ∈ above q, (nm q == zn p) = false ∧ 0 < Txt.rfind (nm q) (zn p) := U_parts (by decide +kernel) (by decide +kernel) (by decide +kernel) (by decide +kernel) (by decide +kernel)
theorem ends_list (x y : Str) : Txt.endswith x y = (Nat.ble y.cps.toList.length x.cps.toList.length && (x.cps.toList.drop (x.cps.toList.length - y.cps.toList.length) == y.cps.toList)) := by
  unfold Txt.endswith
  rw [StrLaws.subAt_eq]
  have lx : x.cps.toList.length = x.length := Array.length_toList
  have ly : y.cps.toList.length = y.length := Array.length_toList
  rw [lx, ly, Nat.zero_add]
  by_cases h : y.length ≤ x.length
  · have e : List.take y.length (List.drop (x.length - y.length) x.cps.toList) = List.drop (x.length - y.length) x.cps.toList := by
      apply List.take_of_length_le
      rw [List.length_drop, lx]
      omega
    rw [e, Nat.ble_eq.mpr h, decide_eq_true h]
  · have h' : Nat.ble y.length x.length = false := by
      cases e : Nat.ble y.length x.length with
      | false => rfl
      | true => exact absurd (Nat.ble_eq.mp e) h
    rw [h', decide_eq_false h, Bool.false_and, Bool.false_and]
theorem ends_all : (U.all fun q => V.all fun p => (Nat.ble (46 :: nmL p).length (nmL q).length && ((nmL q).drop ((nmL q).length - (46 :: nmL p).length) == (46 :: nmL p))) == sfx q p) = true := by decide +kernel
theorem ends_facts (q) (hq : q ∈ U) (p) (hp : p ∈ V) : Txt.endswith (nm q) (zn p) = sfx q p := by
  rw [ends_list]
  exact eq_of_beq (List.all_eq_true.mp (List.all_eq_true.mp ends_all q hq) p hp)
set_option maxHeartbeats 4000000 in
theorem dmt (w : World) (mean mg mb) (q p : List Nat) (hq : q ∈ U) (hp : p ∈ above q) (t u : Tok) : Claim 4 w mean mg mb 50 [.str (nm q) t, .str (zn p) u] (fun _ => .bool true) := by
  unfold Claim
  k_fill
  intros
  rename_i hret
  have hpV := above_V q hq p hp
  have hpU := V_U p hpV
  obtain ⟨f1, f2⟩ := above_facts q hq p hp
  obtain ⟨f3, f4⟩ := low_nm q hq
  obtain ⟨f5, f6, f7, f8⟩ := low_zn p hpV
  have f9 := zn_len p hpV
  obtain ⟨i, hi⟩ : ∃ i, Txt.rfind (nm q) (zn p) = i := ⟨_, rfl⟩
  rw [hi] at f2
  refine wpAny_call ?_
  k_dflt cell_enter
  k_steps
  all_goals first | exact hret 0 _ _ (by k_asm) (by k_asm) | (exfalso; omega) 
set_option maxHeartbeats 4000000 in
theorem udm (w : World) (mean mg mb) (q p : List Nat) (hq : q ∈ U) (hp : p ∈ V) (t u : Tok) : Claim 4 w mean mg mb 64 [.str (nm q) t, .str (zn p) u] (fun _ => .bool (sfx q p)) := by
  unfold Claim
  k_fill
  intros
  rename_i hret
  have f1 := ends_facts q hq p hp
  obtain ⟨f3, f4⟩ := low_nm q hq
  obtain ⟨f5, f6, f7, f8⟩ := low_zn p hp
  obtain ⟨b, hb⟩ : ∃ i, sfx q p = i := ⟨_, rfl⟩
  rw [hb] at f1 hret
  cases b
  all_goals
    refine wpAny_call ?_
    k_dflt cell_enter
    k_steps
    exact hret 0 _ _ (by k_asm) (by k_asm)
end Mine
end
section
open PySem PySem.W PyProof.Rows
namespace Mine
local macro_rules | `(tactic| walk_at "none such 0") => `(tactic| skip)
local macro_rules | `(tactic| walk_at "none such 1") => `(tactic| skip)
local macro_rules | `(tactic| walk_at "none such 2") => `(tactic| skip)
local macro_rules | `(tactic| walk_at "none such 3") => `(tactic| skip)
local macro_rules | `(tactic| walk_at "none such 4") => `(tactic| skip)
local macro_rules | `(tactic| walk_at "none such 5") => `(tactic| skip)
theorem clear_Fc : True := by
  w_top off
  trivial
set_option maxRecDepth 100000
local macro_rules | `(tactic| walk_at "getMethod ref") => `(tactic| (k_here; (with_reducible show wpAny _ _ (getMethod (Value.ref 36) _ _) _ _ _); k_dflt (refine re_meth (by k_asm) (by k_asm) ?_)))
local macro_rules | `(tactic| walk_at "call builtin:re.Pattern.search") => `(tactic| (k_here; k_dflt (refine re_none (by k_asm) (by k_asm) (by first | assumption | omega) (by assumption) ?_)))
local macro_rules | `(tactic| walk_at "compareOp Eq str str") => `(tactic| (k_here; with_reducible refine s_eq (by assumption) ?_))
local macro_rules | `(tactic| walk_at "compareOp NotEq str str") => `(tactic| (k_here; with_reducible refine s_ne (by assumption) ?_))
local macro_rules | `(tactic| walk_at "call builtin:str.find") => `(tactic| (k_here; (with_reducible show wpAny _ _ (call (Value.builtin "str.find") [Value.str _ _, Value.str _ _]) _ _ _); (with_reducible refine KXw.find (by assumption) ?_); intro _ _))
local macro_rules | `(tactic| walk_at "call builtin:str.rfind") => `(tactic| (k_here; (with_reducible show wpAny _ _ (call (Value.builtin "str.rfind") [Value.str _ _, Value.str _ _]) _ _ _); (with_reducible refine KXw.rfind (by assumption) ?_); intro _ _))
local macro_rules | `(tactic| walk_at "subscriptTail") => `(tactic| (k_here; (with_reducible show wpAny _ _ (subscriptTail _ _ (Value.str _ _) (Value.int _ _)) _ _ _); (refine s_item (by assumption) (by first | decide | omega) (by first | decide | omega) (by first | decide | omega) (by assumption) ?_); intro _ _))
local macro_rules | `(tactic| walk_at "subscriptTail Name Constant str int") => `(tactic| (k_here; (with_reducible show wpAny _ _ (subscriptTail _ _ (Value.str _ _) (Value.int _ _)) _ _ _); (refine s_item (by assumption) (by first | decide | omega) (by first | decide | omega) (by first | decide | omega) (by assumption) ?_); intro _ _))
local macro_rules | `(tactic| walk_at "subscriptTail Name UnaryOp str int") => `(tactic| (k_here; (with_reducible show wpAny _ _ (subscriptTail _ _ (Value.str _ _) (Value.int _ _)) _ _ _); (refine s_item (by assumption) (by first | decide | omega) (by first | decide | omega) (by first | decide | omega) (by assumption) ?_); intro _ _))
local macro_rules | `(tactic| walk_at "subscriptTail") => `(tactic| (k_here; (with_reducible show wpAny _ _ (subscriptTail _ (Expr.Slice (some _) none none _) (Value.str _ _) (Value.ref _)) _ _ _); (refine s_from (s := ⟨_, _, _, _, _⟩) (by k_asm) (by k_asm) (by assumption) (by first | assumption | omega) ?_); intro _ _ _ _ _))
local macro_rules | `(tactic| walk_at "subscriptTail Name Slice str ref") => `(tactic| (k_here; (with_reducible show wpAny _ _ (subscriptTail _ (Expr.Slice (some _) none none _) (Value.str _ _) (Value.ref _)) _ _ _); (refine s_from (s := ⟨_, _, _, _, _⟩) (by k_asm) (by k_asm) (by assumption) (by first | assumption | omega) ?_); intro _ _ _ _ _))
local macro_rules | `(tactic| walk_at "binaryOp Add str str") => `(tactic| (k_here; (with_reducible refine s_add (by assumption) (by first | assumption | omega) (by first | assumption | omega) ?_); intro _ _))

local macro_rules | `(tactic| walk_at "eval ListComp") => `(tactic| (k_here; refine Stop.out ?_))
local macro_rules | `(tactic| walk_at "CompSrc") => `(tactic| (k_here; refine Stop.out ?_))
local macro_rules | `(tactic| walk_at "CompSrcT") => `(tactic| (k_here; refine Stop.out ?_))
local macro_rules | `(tactic| walk_at "call builtin:str.split") => `(tactic| (k_here; (with_reducible show wpAny _ _ (call (Value.builtin "str.split") [Value.str _ _, Value.str _ _]) _ _ _); k_dflt (refine l_split (by k_asm) (by k_asm) (by decide +kernel) (by with_reducible assumption) (by first | assumption | omega) ?_); intro D' ws' h' k' F' N' l1 hS'; (try k_lt l1); (try k_sweep)))
local macro_rules | `(tactic| walk_at "subscriptTail") => `(tactic| (k_here; (with_reducible show wpAny _ _ (subscriptTail _ (PySem.Expr.Slice none none (some _) _) (Value.ref _) (Value.ref _)) _ _ _); k_dflt (refine l_rev (by k_asm) (by k_asm) (by exact News.isList (by k_asm) (by k_mem)) (IsPart.int _ _) (by with_reducible assumption) (by first | assumption | omega) ?_ (by with_unfolding_all rfl) (by intro _; with_unfolding_all rfl)); intro D' ws' h' F' N' l1 hS'; (try k_lt l1); (try k_sweep)))
local macro_rules | `(tactic| walk_at "subscriptTail Name Slice ref ref") => `(tactic| (k_here; (with_reducible show wpAny _ _ (subscriptTail _ (PySem.Expr.Slice none none (some _) _) (Value.ref _) (Value.ref _)) _ _ _); k_dflt (refine l_rev (by k_asm) (by k_asm) (by exact News.isList (by k_asm) (by k_mem)) (IsPart.int _ _) (by with_reducible assumption) (by first | assumption | omega) ?_ (by with_unfolding_all rfl) (by intro _; with_unfolding_all rfl)); intro D' ws' h' F' N' l1 hS'; (try k_lt l1); (try k_sweep)))
local macro_rules | `(tactic| walk_at "call builtin:str.join") => `(tactic| (k_here; (with_reducible show wpAny _ _ (call (Value.builtin "str.join") [Value.str _ _, Value.ref _]) _ _ _); k_dflt (refine l_join (by exact News.isList (by k_asm) (by k_mem)) (by with_reducible assumption) (by first | assumption | omega) (by with_reducible assumption) ?_); intro _ _))
local macro_rules | `(tactic| walk_at "exec For Tuple Call cons nil") => `(tactic| (k_here; refine Stop.out ?_))
local macro_rules | `(tactic| walk_at "exec For Name Subscript cons nil") => `(tactic| (k_here; refine Stop.out ?_))
local macro_rules | `(tactic| walk_at "exec For Name Name cons nil") => `(tactic| (k_here; refine Stop.out ?_))
local macro_rules | `(tactic| walk_at "exec For Name Call cons nil") => `(tactic| (k_here; refine Stop.out ?_))
local macro_rules | `(tactic| walk_at "exec While Compare cons nil") => `(tactic| (k_here; refine Stop.out ?_))
local macro_rules | `(tactic| walk_at "exec While Constant cons nil") => `(tactic| (k_here; refine Stop.out ?_))
local macro_rules | `(tactic| walk_at "eval Name") => `(tactic| (k_here; k_dflt (refine nameX_L (by k_asm) (by with_unfolding_all first | exact rfl | assumption) ?_ (by rfl) (by rfl))))
local macro_rules | `(tactic| walk_at "WhileEnd") => `(tactic| (k_here; refine Stop.out ?_))
local macro_rules | `(tactic| walk_at "ForEnd") => `(tactic| (k_here; refine Stop.out ?_))
local macro_rules | `(tactic| k_all) => `(tactic| (refine allLt_ne' ?_; assumption))
def labs : List Nat → List Str
  | [] => [ccS]
  | x :: q => labS x :: labs q
def bar (y : Str) : Str := y ++ Str.ofString "|"
theorem told_facts : ∀ q ∈ U, Txt.split (nm q) (Str.ofString ".") = labs q ∧ Txt.join (Str.ofString "") ((labs q).reverse.map bar) = td q ∧ (((labs q).reverse.map bar).map (·.length)).sum + ((labs q).reverse.map bar).length * (Str.ofString "").length ≤ 16777216 ∧ (∀ y ∈ (labs q).reverse, y.length ≤ 2) ∧ (labs q).length ≤ 5 := U_parts (by decide +kernel) (by decide +kernel) (by decide +kernel) (by decide +kernel) (by decide +kernel)
set_option maxHeartbeats 4000000 in
theorem told (w : World) (mean mg mb) (q : List Nat) (hq : q ∈ U) (t : Tok) : Claim 4 w mean mg mb 101 [.str (nm q) t] (fun t => .str (td q) t) := by
  unfold Claim
  k_fill
  intros
  rename_i hret
  obtain ⟨f1, f2, f3, f4, f5⟩ := told_facts q hq
  have f6 := nm_len q hq
  have f7 : (Str.ofString "|").length ≤ 1 := by decide +kernel
  refine wpAny_call ?_
  k_dflt cell_enter
  k_steps
  unfold Stop
  refine LCg.ListComp_U (F₀ := by k_asm) (by with_unfolding_all rfl) (by decide) (by rfl) (by decide) (by rfl) ?_
  k_steps
  unfold Stop
  have f8 : (labs q).reverse.length ≤ 5 := by rw [List.length_reverse]; exact f5
  refine src_map (g := bar) (by rfl) (by k_asm) (by k_asm) (.inr ⟨_, by k_mem, rfl, _, rfl⟩) (by with_reducible assumption) (by omega) ?elt ?fin
  case elt =>
    intro y t hy s I C D oI oC oD m₂ Q E' hC hx F N ret
    have f9 := f4 y hy
    have f10 : y ++ Str.ofString "|" = bar y := rfl
    k_steps
    exact ret _ _ _ (by k_asm) (by k_asm)
  case fin =>
    intro D ys h tk hS F N o
    k_steps
    exact hret _ _ _ (by k_asm) (by first | k_asm | exact cb_drop (by assumption) (by kcj_all))
end Mine
end
section
open PySem PySem.W PyProof.Rows
namespace Mine
local macro_rules | `(tactic| walk_at "none such 0") => `(tactic| skip)
local macro_rules | `(tactic| walk_at "none such 1") => `(tactic| skip)
local macro_rules | `(tactic| walk_at "none such 2") => `(tactic| skip)
local macro_rules | `(tactic| walk_at "none such 3") => `(tactic| skip)
local macro_rules | `(tactic| walk_at "none such 4") => `(tactic| skip)
theorem clear_Fd : True := by
  w_top off
  trivial
set_option maxRecDepth 100000
local macro_rules | `(tactic| walk_at "getMethod ref") => `(tactic| (k_here; (with_reducible show wpAny _ _ (getMethod (Value.ref 36) _ _) _ _ _); k_dflt (refine re_meth (by k_asm) (by k_asm) ?_)))
local macro_rules | `(tactic| walk_at "call builtin:re.Pattern.search") => `(tactic| (k_here; k_dflt (refine re_none (by k_asm) (by k_asm) (by first | assumption | omega) (by assumption) ?_)))
local macro_rules | `(tactic| walk_at "compareOp Eq str str") => `(tactic| (k_here; with_reducible refine s_eq (by assumption) ?_))
local macro_rules | `(tactic| walk_at "compareOp NotEq str str") => `(tactic| (k_here; with_reducible refine s_ne (by assumption) ?_))
local macro_rules | `(tactic| walk_at "call builtin:str.find") => `(tactic| (k_here; (with_reducible show wpAny _ _ (call (Value.builtin "str.find") [Value.str _ _, Value.str _ _]) _ _ _); (with_reducible refine KXw.find (by assumption) ?_); intro _ _))
local macro_rules | `(tactic| walk_at "call builtin:str.rfind") => `(tactic| (k_here; (with_reducible show wpAny _ _ (call (Value.builtin "str.rfind") [Value.str _ _, Value.str _ _]) _ _ _); (with_reducible refine KXw.rfind (by assumption) ?_); intro _ _))
local macro_rules | `(tactic| walk_at "subscriptTail") => `(tactic| (k_here; (with_reducible show wpAny _ _ (subscriptTail _ _ (Value.str _ _) (Value.int _ _)) _ _ _); (refine s_item (by assumption) (by first | decide | omega) (by first | decide | omega) (by first | decide | omega) (by assumption) ?_); intro _ _))
local macro_rules | `(tactic| walk_at "subscriptTail Name Constant str int") => `(tactic| (k_here; (with_reducible show wpAny _ _ (subscriptTail _ _ (Value.str _ _) (Value.int _ _)) _ _ _); (refine s_item (by assumption) (by first | decide | omega) (by first | decide | omega) (by first | decide | omega) (by assumption) ?_); intro _ _))
local macro_rules | `(tactic| walk_at "subscriptTail Name UnaryOp str int") => `(tactic| (k_here; (with_reducible show wpAny _ _ (subscriptTail _ _ (Value.str _ _) (Value.int _ _)) _ _ _); (refine s_item (by assumption) (by first | decide | omega) (by first | decide | omega) (by first | decide | omega) (by assumption) ?_); intro _ _))
local macro_rules | `(tactic| walk_at "subscriptTail") => `(tactic| (k_here; (with_reducible show wpAny _ _ (subscriptTail _ (Expr.Slice (some _) none none _) (Value.str _ _) (Value.ref _)) _ _ _); (refine s_from (s := ⟨_, _, _, _, _⟩) (by k_asm) (by k_asm) (by assumption) (by first | assumption | omega) ?_); intro _ _ _ _ _))
local macro_rules | `(tactic| walk_at "subscriptTail Name Slice str ref") => `(tactic| (k_here; (with_reducible show wpAny _ _ (subscriptTail _ (Expr.Slice (some _) none none _) (Value.str _ _) (Value.ref _)) _ _ _); (refine s_from (s := ⟨_, _, _, _, _⟩) (by k_asm) (by k_asm) (by assumption) (by first | assumption | omega) ?_); intro _ _ _ _ _))
local macro_rules | `(tactic| walk_at "binaryOp Add str str") => `(tactic| (k_here; (with_reducible refine s_add (by assumption) (by first | assumption | omega) (by first | assumption | omega) ?_); intro _ _))

local macro_rules | `(tactic| walk_at "eval ListComp") => `(tactic| (k_here; refine Stop.out ?_))
local macro_rules | `(tactic| walk_at "CompSrc") => `(tactic| (k_here; refine Stop.out ?_))
local macro_rules | `(tactic| walk_at "CompSrcT") => `(tactic| (k_here; refine Stop.out ?_))
local macro_rules | `(tactic| walk_at "call builtin:str.split") => `(tactic| (k_here; (with_reducible show wpAny _ _ (call (Value.builtin "str.split") [Value.str _ _, Value.str _ _]) _ _ _); k_dflt (refine l_split (by k_asm) (by k_asm) (by decide +kernel) (by with_reducible assumption) (by first | assumption | omega) ?_); intro D' ws' h' k' F' N' l1 hS'; (try k_lt l1); (try k_sweep)))
local macro_rules | `(tactic| walk_at "subscriptTail") => `(tactic| (k_here; (with_reducible show wpAny _ _ (subscriptTail _ (PySem.Expr.Slice none none (some _) _) (Value.ref _) (Value.ref _)) _ _ _); k_dflt (refine l_rev (by k_asm) (by k_asm) (by exact News.isList (by k_asm) (by k_mem)) (IsPart.int _ _) (by with_reducible assumption) (by first | assumption | omega) ?_ (by with_unfolding_all rfl) (by intro _; with_unfolding_all rfl)); intro D' ws' h' F' N' l1 hS'; (try k_lt l1); (try k_sweep)))
local macro_rules | `(tactic| walk_at "subscriptTail Name Slice ref ref") => `(tactic| (k_here; (with_reducible show wpAny _ _ (subscriptTail _ (PySem.Expr.Slice none none (some _) _) (Value.ref _) (Value.ref _)) _ _ _); k_dflt (refine l_rev (by k_asm) (by k_asm) (by exact News.isList (by k_asm) (by k_mem)) (IsPart.int _ _) (by with_reducible assumption) (by first | assumption | omega) ?_ (by with_unfolding_all rfl) (by intro _; with_unfolding_all rfl)); intro D' ws' h' F' N' l1 hS'; (try k_lt l1); (try k_sweep)))
local macro_rules | `(tactic| walk_at "call builtin:str.join") => `(tactic| (k_here; (with_reducible show wpAny _ _ (call (Value.builtin "str.join") [Value.str _ _, Value.ref _]) _ _ _); k_dflt (refine l_join (by exact News.isList (by k_asm) (by k_mem)) (by with_reducible assumption) (by first | assumption | omega) (by with_reducible assumption) ?_); intro _ _))
local macro_rules | `(tactic| walk_at "exec For Tuple Call cons nil") => `(tactic| (k_here; refine Stop.out ?_))
local macro_rules | `(tactic| walk_at "exec For Name Subscript cons nil") => `(tactic| (k_here; refine Stop.out ?_))
local macro_rules | `(tactic| walk_at "exec For Name Name cons nil") => `(tactic| (k_here; refine Stop.out ?_))
local macro_rules | `(tactic| walk_at "exec For Name Call cons nil") => `(tactic| (k_here; refine Stop.out ?_))
local macro_rules | `(tactic| walk_at "exec While Compare cons nil") => `(tactic| (k_here; refine Stop.out ?_))
local macro_rules | `(tactic| walk_at "exec While Constant cons nil") => `(tactic| (k_here; refine Stop.out ?_))
local macro_rules | `(tactic| walk_at "eval Name") => `(tactic| (k_here; k_dflt (refine nameX_L (by k_asm) (by with_unfolding_all first | exact rfl | assumption) ?_ (by rfl) (by rfl))))
local macro_rules | `(tactic| walk_at "WhileEnd") => `(tactic| (k_here; refine Stop.out ?_))
local macro_rules | `(tactic| walk_at "ForEnd") => `(tactic| (k_here; refine Stop.out ?_))
local macro_rules | `(tactic| k_all) => `(tactic| (refine allLt_ne' ?_; assumption))
local macro_rules | `(tactic| walk_at "call type:zip") => `(tactic| (k_here; refine Stop.out ?_))
local macro_rules | `(tactic| walk_at "LoopStep3") => `(tactic| (k_here; refine Stop.out ?_))
def cmn (q p : List Nat) : Nat := lcp (labs q).reverse (labs p).reverse
theorem cm_facts : ∀ q ∈ U, Txt.split (nm q) (Str.ofString ".") = labs q ∧ (nm q).length ≤ 15 ∧ (labs q).length ≤ 5 := by decide +kernel
set_option maxHeartbeats 4000000 in
theorem common (w : World) (mean mg mb) (q p : List Nat) (hq : q ∈ U) (hp : p ∈ U) (t u : Tok) : Claim 4 w mean mg mb 115 [.str (nm q) t, .str (nm p) u] (fun t => .int (cmn q p : Nat) t) := by
  unfold Claim
  k_fill
  intro news dp un gd cn cs a ccd cl outer A₀ base h₀ L m s Q E B F X N T hk hd hu hret
  obtain ⟨f1, f2, f3⟩ := cm_facts q hq
  obtain ⟨g1, g2, g3⟩ := cm_facts p hp
  refine wpAny_call ?_
  k_dflt cell_enter
  k_steps
  unfold Stop
  refine For_pair3F (_F := by with_unfolding_all k_asm) (by with_unfolding_all rfl) (by with_unfolding_all rfl) (by with_unfolding_all rfl) (by with_unfolding_all rfl) ?_ (by intro _; with_unfolding_all rfl)
  k_steps
  unfold Stop
  (with_reducible rename News _ _ _ _ => N1)
  (with_reducible rename Fr _ _ _ _ => F1)
  have N2 := cb_drop (news := news) N1 (by kcj_all)
  refine call_zip_N (by rfl) (News.isList N1 (by k_mem)) (News.isList N1 (by k_mem)) (news_neL N1 (by k_mem)) (news_neL N1 (by k_mem)) ?n1 ?n2 (by assumption) (by assumption) F1 N2 ?_
  case n1 => exact allLt_ne (And.right (by assumption))
  case n2 => exact allLt_ne (And.right (And.right (And.right (by assumption))))
  intro h1 e F3 N3 S
  refine zip_loop (c := Str.ofString "count") (by decide) (by decide) S (by rfl) ?turn ?done
  case turn =>
    intro i a b ta tb t h tk own ha hb hj F N
    by_cases hab : a = b
    · have fne : (a != b) = false := by rw [hab]; exact bne_self_eq_false b
      k_steps
      exact ⟨hab, _, _, _, rfl, by k_asm, by k_asm⟩
    · have fne : (a != b) = true := bne_iff_ne.mpr hab
      have e : cmn q p = i := lcp_stop i _ _ hj ⟨a, b, ha, hb, hab⟩
      rw [e] at hret
      k_steps
      dsimp only [ZipTurn]
      k_steps
      exact hret _ _ _ (by k_asm) (by first | k_asm | exact cb_drop (by assumption) (by kcj_in) | exact cb_drop (by assumption) (by kcj_all) | exact News.right (by assumption))
  case done =>
    intro h' tk' vl vr t hj F N
    have e : cmn q p = min (labs q).reverse.length (labs p).reverse.length := lcp_all _ _ hj
    rw [e] at hret
    k_steps
    exact hret _ _ _ (by k_asm) (by first | k_asm | exact cb_drop (by assumption) (by kcj_all))
end Mine
end
section
open PySem PySem.W PyProof.Rows
namespace Mine
local macro_rules | `(tactic| walk_at "none such 0") => `(tactic| skip)
local macro_rules | `(tactic| walk_at "none such 1") => `(tactic| skip)
local macro_rules | `(tactic| walk_at "none such 2") => `(tactic| skip)
local macro_rules | `(tactic| walk_at "none such 3") => `(tactic| skip)
local macro_rules | `(tactic| walk_at "none such 4") => `(tactic| skip)
local macro_rules | `(tactic| walk_at "none such 5") => `(tactic| skip)
theorem clear_Fe : True := by
  w_top off
  trivial
set_option maxRecDepth 100000
local macro_rules | `(tactic| walk_at "getMethod ref") => `(tactic| (k_here; (with_reducible show wpAny _ _ (getMethod (Value.ref 36) _ _) _ _ _); k_dflt (refine re_meth (by k_asm) (by k_asm) ?_)))
local macro_rules | `(tactic| walk_at "call builtin:re.Pattern.search") => `(tactic| (k_here; k_dflt (refine re_none (by k_asm) (by k_asm) (by first | assumption | omega) (by assumption) ?_)))
local macro_rules | `(tactic| walk_at "compareOp Eq str str") => `(tactic| (k_here; with_reducible refine s_eq (by assumption) ?_))
local macro_rules | `(tactic| walk_at "compareOp NotEq str str") => `(tactic| (k_here; with_reducible refine s_ne (by assumption) ?_))
local macro_rules | `(tactic| walk_at "call builtin:str.find") => `(tactic| (k_here; (with_reducible show wpAny _ _ (call (Value.builtin "str.find") [Value.str _ _, Value.str _ _]) _ _ _); (with_reducible refine KXw.find (by assumption) ?_); intro _ _))
local macro_rules | `(tactic| walk_at "call builtin:str.rfind") => `(tactic| (k_here; (with_reducible show wpAny _ _ (call (Value.builtin "str.rfind") [Value.str _ _, Value.str _ _]) _ _ _); (with_reducible refine KXw.rfind (by assumption) ?_); intro _ _))
local macro_rules | `(tactic| walk_at "subscriptTail") => `(tactic| (k_here; (with_reducible show wpAny _ _ (subscriptTail _ _ (Value.str _ _) (Value.int _ _)) _ _ _); (refine s_item (by assumption) (by first | decide | omega) (by first | decide | omega) (by first | decide | omega) (by assumption) ?_); intro _ _))
local macro_rules | `(tactic| walk_at "subscriptTail Name Constant str int") => `(tactic| (k_here; (with_reducible show wpAny _ _ (subscriptTail _ _ (Value.str _ _) (Value.int _ _)) _ _ _); (refine s_item (by assumption) (by first | decide | omega) (by first | decide | omega) (by first | decide | omega) (by assumption) ?_); intro _ _))
local macro_rules | `(tactic| walk_at "subscriptTail Name UnaryOp str int") => `(tactic| (k_here; (with_reducible show wpAny _ _ (subscriptTail _ _ (Value.str _ _) (Value.int _ _)) _ _ _); (refine s_item (by assumption) (by first | decide | omega) (by first | decide | omega) (by first | decide | omega) (by assumption) ?_); intro _ _))
local macro_rules | `(tactic| walk_at "subscriptTail") => `(tactic| (k_here; (with_reducible show wpAny _ _ (subscriptTail _ (Expr.Slice (some _) none none _) (Value.str _ _) (Value.ref _)) _ _ _); (refine s_from (s := ⟨_, _, _, _, _⟩) (by k_asm) (by k_asm) (by assumption) (by first | assumption | omega) ?_); intro _ _ _ _ _))
local macro_rules | `(tactic| walk_at "subscriptTail Name Slice str ref") => `(tactic| (k_here; (with_reducible show wpAny _ _ (subscriptTail _ (Expr.Slice (some _) none none _) (Value.str _ _) (Value.ref _)) _ _ _); (refine s_from (s := ⟨_, _, _, _, _⟩) (by k_asm) (by k_asm) (by assumption) (by first | assumption | omega) ?_); intro _ _ _ _ _))
local macro_rules | `(tactic| walk_at "binaryOp Add str str") => `(tactic| (k_here; (with_reducible refine s_add (by assumption) (by first | assumption | omega) (by first | assumption | omega) ?_); intro _ _))

local macro_rules | `(tactic| walk_at "eval ListComp") => `(tactic| (k_here; refine Stop.out ?_))
local macro_rules | `(tactic| walk_at "CompSrc") => `(tactic| (k_here; refine Stop.out ?_))
local macro_rules | `(tactic| walk_at "CompSrcT") => `(tactic| (k_here; refine Stop.out ?_))
local macro_rules | `(tactic| walk_at "call builtin:str.split") => `(tactic| (k_here; (with_reducible show wpAny _ _ (call (Value.builtin "str.split") [Value.str _ _, Value.str _ _]) _ _ _); k_dflt (refine l_split (by k_asm) (by k_asm) (by decide +kernel) (by with_reducible assumption) (by first | assumption | omega) ?_); intro D' ws' h' k' F' N' l1 hS'; (try k_lt l1); (try k_sweep)))
local macro_rules | `(tactic| walk_at "subscriptTail") => `(tactic| (k_here; (with_reducible show wpAny _ _ (subscriptTail _ (PySem.Expr.Slice none none (some _) _) (Value.ref _) (Value.ref _)) _ _ _); k_dflt (refine l_rev (by k_asm) (by k_asm) (by exact News.isList (by k_asm) (by k_mem)) (IsPart.int _ _) (by with_reducible assumption) (by first | assumption | omega) ?_ (by with_unfolding_all rfl) (by intro _; with_unfolding_all rfl)); intro D' ws' h' F' N' l1 hS'; (try k_lt l1); (try k_sweep)))
local macro_rules | `(tactic| walk_at "subscriptTail Name Slice ref ref") => `(tactic| (k_here; (with_reducible show wpAny _ _ (subscriptTail _ (PySem.Expr.Slice none none (some _) _) (Value.ref _) (Value.ref _)) _ _ _); k_dflt (refine l_rev (by k_asm) (by k_asm) (by exact News.isList (by k_asm) (by k_mem)) (IsPart.int _ _) (by with_reducible assumption) (by first | assumption | omega) ?_ (by with_unfolding_all rfl) (by intro _; with_unfolding_all rfl)); intro D' ws' h' F' N' l1 hS'; (try k_lt l1); (try k_sweep)))
local macro_rules | `(tactic| walk_at "call builtin:str.join") => `(tactic| (k_here; (with_reducible show wpAny _ _ (call (Value.builtin "str.join") [Value.str _ _, Value.ref _]) _ _ _); k_dflt (refine l_join (by exact News.isList (by k_asm) (by k_mem)) (by with_reducible assumption) (by first | assumption | omega) (by with_reducible assumption) ?_); intro _ _))
local macro_rules | `(tactic| walk_at "exec For Tuple Call cons nil") => `(tactic| (k_here; refine Stop.out ?_))
local macro_rules | `(tactic| walk_at "exec For Name Subscript cons nil") => `(tactic| (k_here; refine Stop.out ?_))
local macro_rules | `(tactic| walk_at "exec For Name Name cons nil") => `(tactic| (k_here; refine Stop.out ?_))
local macro_rules | `(tactic| walk_at "exec For Name Call cons nil") => `(tactic| (k_here; refine Stop.out ?_))
local macro_rules | `(tactic| walk_at "exec While Compare cons nil") => `(tactic| (k_here; refine Stop.out ?_))
local macro_rules | `(tactic| walk_at "exec While Constant cons nil") => `(tactic| (k_here; refine Stop.out ?_))
local macro_rules | `(tactic| walk_at "eval Name") => `(tactic| (k_here; k_dflt (refine nameX_L (by k_asm) (by with_unfolding_all first | exact rfl | assumption) ?_ (by rfl) (by rfl))))
local macro_rules | `(tactic| walk_at "WhileEnd") => `(tactic| (k_here; refine Stop.out ?_))
local macro_rules | `(tactic| walk_at "ForEnd") => `(tactic| (k_here; refine Stop.out ?_))
local macro_rules | `(tactic| k_all) => `(tactic| (refine allLt_ne' ?_; assumption))
local macro_rules | `(tactic| walk_at "call ref") => `(tactic| (k_here; (with_reducible show wpAny _ _ (call (Value.ref 71) _ _) _ _ _); k_dflt (refine Claim.use (rch _ _ _ _ _ (by assumption) _) (by k_asm) (by k_asm) (by k_asm) (by k_asm) (by k_asm) (by first | exact rfl | assumption) (by ktr_room) (by ktr_units) ?_; intro t9 h9 tk9 F9 N9; (try dsimp only); (try k_fold))))
local macro_rules | `(tactic| walk_at "call builtin:list.append") => `(tactic| (k_here; k_dflt (refine l_append (by k_asm) (by k_asm) (by with_reducible assumption) (by first | assumption | omega) (by k_upd) ?_); intro h' F' N' hS'))
theorem allLt_mem {d : Addr} {l : List (Addr × Obj)} (h : AllLt d l) : ∀ q ∈ l, q.1 < d := by
  induction l with
  | nil => intro q hq; cases hq
  | cons p r ih =>
    intro q hq
    rcases List.mem_cons.mp hq with rfl | hq
    · exact h.1
    · exact ih h.2 q hq
theorem above_len : ∀ q ∈ U, ((above q).map zn).length ≤ 3 := by decide +kernel
theorem zone_facts1 : ∀ q ∈ U1, (rv q == nm q) = true ∧ above q = [] := by decide +kernel
theorem zone_facts2 : ∀ q ∈ U2 ++ U3 ++ U4, rv q = zn q.tail ∧ (rv q == nm q) = false ∧ Txt.slice (rv q) (some 1) none = nm q.tail ∧ q.tail ∈ U ∧ above q = q.tail :: above q.tail ∧ q.tail.length < q.length ∧ (rv q).length ≤ 15 := by decide +kernel
set_option maxHeartbeats 4000000 in
theorem zones (w : World) (mean mg mb) (q : List Nat) (hq : q ∈ U) (t : Tok) : ClaimL 6 w mean mg mb 108 [.str (nm q) t] ((above q).map zn) := by
  unfold ClaimL
  k_fill
  intro news dp un gd cn cs a ccd cl outer A₀ base h₀ L m s Q E B F X N T hk hd hu hret
  refine wpAny_call ?_
  k_dflt cell_enter
  k_steps
  unfold Stop
  (with_reducible rename News _ _ _ _ => N1)
  (with_reducible rename Fr _ _ _ _ => F1)
  refine while_J (n₀ := q.length) (fun n m₁ news₁ => ∃ D q' t' done ws k, q' ∈ U ∧ AllLt D news ∧ n = q'.length ∧ m₁ (Str.ofString "here") = some (.str (nm q') t') ∧ m₁ (Str.ofString "found") = some (.ref D) ∧ news₁ = (D, listOf (List.toArray ws) k) :: news ∧ StrsAre ws done ∧ done ++ (above q').map zn = (above q).map zn)
    F1 (cb_drop (news := (_, listOf (List.toArray []) 0) :: news) N1 (by kcj_all)) ⟨_, q, t, [], [], 0, hq, allLt_of (by assumption), rfl, by with_unfolding_all rfl, by with_unfolding_all rfl, rfl, .nil, rfl⟩ ?_
  rintro n m₁ news₁ h tk ⟨D, q', t', done, ws, k, hq', hD, rfl, hm1, hm2, rfl, hS, hz⟩ F N
  have hl : done.length ≤ 3 := by
    have := congrArg List.length hz
    rw [List.length_append] at this
    have := above_len q hq
    omega
  rcases U_cases hq' with h1 | h2
  · obtain ⟨f1, f2⟩ := zone_facts1 q' h1
    rw [f2, List.map_nil, List.append_nil] at hz
    subst hz
    k_steps
    unfold Stop
    dsimp only [WhileEnd]
    k_steps
    refine hret D ws k _ _ ?_ ?_ (allLt_mem hD) hS
    · k_asm
    · first | k_asm | exact cb_drop (by assumption) (by kcj_all)
  · obtain ⟨f1, f2, f3, f4, f5, f6, f7⟩ := zone_facts2 q' h2
    k_steps
    unfold Stop
    refine ⟨_, _, _, _, q'.tail.length, rfl, by k_asm, by k_asm, f6, D, q'.tail, _, done ++ [rv q'], _, _, f4, hD, rfl, by with_unfolding_all rfl, by with_unfolding_all first | rfl | assumption, rfl, by assumption, ?_⟩
    rw [← hz, f5, f1, List.map_cons, List.append_assoc]
    rfl
end Mine
end
section
open PySem PySem.W PyProof.Rows
namespace Mine
local macro_rules | `(tactic| walk_at "none such 0") => `(tactic| skip)
local macro_rules | `(tactic| walk_at "none such 1") => `(tactic| skip)
local macro_rules | `(tactic| walk_at "none such 2") => `(tactic| skip)
local macro_rules | `(tactic| walk_at "none such 3") => `(tactic| skip)
theorem clear_Ff : True := by
  w_top off
  trivial
set_option maxRecDepth 100000
local macro_rules | `(tactic| walk_at "getMethod ref") => `(tactic| (k_here; (with_reducible show wpAny _ _ (getMethod (Value.ref 36) _ _) _ _ _); k_dflt (refine re_meth (by k_asm) (by k_asm) ?_)))
local macro_rules | `(tactic| walk_at "call builtin:re.Pattern.search") => `(tactic| (k_here; k_dflt (refine re_none (by k_asm) (by k_asm) (by first | assumption | omega) (by assumption) ?_)))
local macro_rules | `(tactic| walk_at "compareOp Eq str str") => `(tactic| (k_here; with_reducible refine s_eq (by assumption) ?_))
local macro_rules | `(tactic| walk_at "compareOp NotEq str str") => `(tactic| (k_here; with_reducible refine s_ne (by assumption) ?_))
local macro_rules | `(tactic| walk_at "call builtin:str.find") => `(tactic| (k_here; (with_reducible show wpAny _ _ (call (Value.builtin "str.find") [Value.str _ _, Value.str _ _]) _ _ _); (with_reducible refine KXw.find (by assumption) ?_); intro _ _))
local macro_rules | `(tactic| walk_at "call builtin:str.rfind") => `(tactic| (k_here; (with_reducible show wpAny _ _ (call (Value.builtin "str.rfind") [Value.str _ _, Value.str _ _]) _ _ _); (with_reducible refine KXw.rfind (by assumption) ?_); intro _ _))
local macro_rules | `(tactic| walk_at "subscriptTail") => `(tactic| (k_here; (with_reducible show wpAny _ _ (subscriptTail _ _ (Value.str _ _) (Value.int _ _)) _ _ _); (refine s_item (by assumption) (by first | decide | omega) (by first | decide | omega) (by first | decide | omega) (by assumption) ?_); intro _ _))
local macro_rules | `(tactic| walk_at "subscriptTail Name Constant str int") => `(tactic| (k_here; (with_reducible show wpAny _ _ (subscriptTail _ _ (Value.str _ _) (Value.int _ _)) _ _ _); (refine s_item (by assumption) (by first | decide | omega) (by first | decide | omega) (by first | decide | omega) (by assumption) ?_); intro _ _))
local macro_rules | `(tactic| walk_at "subscriptTail Name UnaryOp str int") => `(tactic| (k_here; (with_reducible show wpAny _ _ (subscriptTail _ _ (Value.str _ _) (Value.int _ _)) _ _ _); (refine s_item (by assumption) (by first | decide | omega) (by first | decide | omega) (by first | decide | omega) (by assumption) ?_); intro _ _))
local macro_rules | `(tactic| walk_at "subscriptTail") => `(tactic| (k_here; (with_reducible show wpAny _ _ (subscriptTail _ (Expr.Slice (some _) none none _) (Value.str _ _) (Value.ref _)) _ _ _); (refine s_from (s := ⟨_, _, _, _, _⟩) (by k_asm) (by k_asm) (by assumption) (by first | assumption | omega) ?_); intro _ _ _ _ _))
local macro_rules | `(tactic| walk_at "subscriptTail Name Slice str ref") => `(tactic| (k_here; (with_reducible show wpAny _ _ (subscriptTail _ (Expr.Slice (some _) none none _) (Value.str _ _) (Value.ref _)) _ _ _); (refine s_from (s := ⟨_, _, _, _, _⟩) (by k_asm) (by k_asm) (by assumption) (by first | assumption | omega) ?_); intro _ _ _ _ _))
local macro_rules | `(tactic| walk_at "binaryOp Add str str") => `(tactic| (k_here; (with_reducible refine s_add (by assumption) (by first | assumption | omega) (by first | assumption | omega) ?_); intro _ _))

local macro_rules | `(tactic| walk_at "eval ListComp") => `(tactic| (k_here; refine Stop.out ?_))
local macro_rules | `(tactic| walk_at "CompSrc") => `(tactic| (k_here; refine Stop.out ?_))
local macro_rules | `(tactic| walk_at "CompSrcT") => `(tactic| (k_here; refine Stop.out ?_))
local macro_rules | `(tactic| walk_at "call builtin:str.split") => `(tactic| (k_here; (with_reducible show wpAny _ _ (call (Value.builtin "str.split") [Value.str _ _, Value.str _ _]) _ _ _); k_dflt (refine l_split (by k_asm) (by k_asm) (by decide +kernel) (by with_reducible assumption) (by first | assumption | omega) ?_); intro D' ws' h' k' F' N' l1 hS'; (try k_lt l1); (try k_sweep)))
local macro_rules | `(tactic| walk_at "subscriptTail") => `(tactic| (k_here; (with_reducible show wpAny _ _ (subscriptTail _ (PySem.Expr.Slice none none (some _) _) (Value.ref _) (Value.ref _)) _ _ _); k_dflt (refine l_rev (by k_asm) (by k_asm) (by exact News.isList (by k_asm) (by k_mem)) (IsPart.int _ _) (by with_reducible assumption) (by first | assumption | omega) ?_ (by with_unfolding_all rfl) (by intro _; with_unfolding_all rfl)); intro D' ws' h' F' N' l1 hS'; (try k_lt l1); (try k_sweep)))
local macro_rules | `(tactic| walk_at "subscriptTail Name Slice ref ref") => `(tactic| (k_here; (with_reducible show wpAny _ _ (subscriptTail _ (PySem.Expr.Slice none none (some _) _) (Value.ref _) (Value.ref _)) _ _ _); k_dflt (refine l_rev (by k_asm) (by k_asm) (by exact News.isList (by k_asm) (by k_mem)) (IsPart.int _ _) (by with_reducible assumption) (by first | assumption | omega) ?_ (by with_unfolding_all rfl) (by intro _; with_unfolding_all rfl)); intro D' ws' h' F' N' l1 hS'; (try k_lt l1); (try k_sweep)))
local macro_rules | `(tactic| walk_at "call builtin:str.join") => `(tactic| (k_here; (with_reducible show wpAny _ _ (call (Value.builtin "str.join") [Value.str _ _, Value.ref _]) _ _ _); k_dflt (refine l_join (by exact News.isList (by k_asm) (by k_mem)) (by with_reducible assumption) (by first | assumption | omega) (by with_reducible assumption) ?_); intro _ _))
local macro_rules | `(tactic| walk_at "exec For Tuple Call cons nil") => `(tactic| (k_here; refine Stop.out ?_))
local macro_rules | `(tactic| walk_at "exec For Name Subscript cons nil") => `(tactic| (k_here; refine Stop.out ?_))
local macro_rules | `(tactic| walk_at "exec For Name Name cons nil") => `(tactic| (k_here; refine Stop.out ?_))
local macro_rules | `(tactic| walk_at "exec For Name Call cons nil") => `(tactic| (k_here; refine Stop.out ?_))
local macro_rules | `(tactic| walk_at "exec While Compare cons nil") => `(tactic| (k_here; refine Stop.out ?_))
local macro_rules | `(tactic| walk_at "exec While Constant cons nil") => `(tactic| (k_here; refine Stop.out ?_))
local macro_rules | `(tactic| walk_at "eval Name") => `(tactic| (k_here; k_dflt (refine nameX_L (by k_asm) (by with_unfolding_all first | exact rfl | assumption) ?_ (by rfl) (by rfl))))
local macro_rules | `(tactic| walk_at "WhileEnd") => `(tactic| (k_here; refine Stop.out ?_))
local macro_rules | `(tactic| walk_at "ForEnd") => `(tactic| (k_here; refine Stop.out ?_))
local macro_rules | `(tactic| k_all) => `(tactic| (refine allLt_ne' ?_; assumption))
local macro_rules | `(tactic| walk_at "pyIter ref") => `(tactic| (k_here; refine Stop.out ?_))
local macro_rules | `(tactic| walk_at "subscriptTail List BinOp ref int") => `(tactic| (k_here; k_dflt (refine l_item (by exact News.isList (by k_asm) (by k_mem)) (by first | with_reducible assumption | exact .cons _ _ (.cons _ _ (.cons _ _ .nil))) (by first | omega | exact Int.fmod_nonneg_of_pos _ (by decide)) (by first | omega | exact Int.fmod_lt_of_pos _ (by decide)) (by first | omega | decide) ?_); intro _))
local macro_rules | `(tactic| walk_at "subscriptTail Name BinOp ref int") => `(tactic| (k_here; k_dflt (refine l_item (by exact News.isList (by k_asm) (by k_mem)) (by first | with_reducible assumption | exact .cons _ _ (.cons _ _ (.cons _ _ .nil))) (by first | omega | exact Int.fmod_nonneg_of_pos _ (by decide)) (by first | omega | exact Int.fmod_lt_of_pos _ (by decide)) (by first | omega | decide) ?_); intro _))
local macro_rules | `(tactic| walk_at "binaryOp Add ref ref") => `(tactic| (k_here; k_dflt (refine l_add (by k_asm) (by k_asm) (by exact News.isList (by k_asm) (by k_mem)) (by exact News.isList (by k_asm) (by k_mem)) (by first | with_reducible assumption | exact .cons _ _ .nil) (by first | with_reducible assumption | exact .cons _ _ .nil) (by first | omega | (simp only [List.length_cons, List.length_nil]; omega) | decide) (by first | omega | (simp only [List.length_cons, List.length_nil]; omega) | decide) ?_); intro D' ws' h' F' N' l1 hS'; (try k_lt l1); (try k_sweep)))

local macro_rules | `(tactic| walk_at "subscriptTail Name Name ref int") => `(tactic| (k_here; k_dflt (refine l_item (by exact News.isList (by k_asm) (by first | with_reducible assumption | k_mem)) (by with_reducible assumption) (by omega) (by omega) (by omega) ?_); intro _))
def small3 (q : List Nat) : Bool := q.all fun d => d < 3
theorem U_of_aux : ∀ a ∈ [0, 1, 2], [a] ∈ U ∧ ∀ b ∈ [0, 1, 2], [b, a] ∈ U ∧ ∀ c ∈ [0, 1, 2], [c, b, a] ∈ U ∧ ∀ d ∈ [0, 1, 2], [d, c, b, a] ∈ U := by decide +kernel
theorem in3 {a : Nat} (h : a < 3) : a ∈ [0, 1, 2] := by
  have : a = 0 ∨ a = 1 ∨ a = 2 := by omega
  rcases this with rfl | rfl | rfl <;> simp
theorem U_of {q : List Nat} (h : ∀ d ∈ q, d < 3) (h1 : 1 ≤ q.length) (h4 : q.length ≤ 4) : q ∈ U := by
  match q, h, h1, h4 with
  | [a], h, _, _ => exact (U_of_aux a (in3 (h a (by simp)))).1
  | [b, a], h, _, _ => exact ((U_of_aux a (in3 (h a (by simp)))).2 b (in3 (h b (by simp)))).1
  | [c, b, a], h, _, _ => exact (((U_of_aux a (in3 (h a (by simp)))).2 b (in3 (h b (by simp)))).2 c (in3 (h c (by simp)))).1
  | [d, c, b, a], h, _, _ => exact (((U_of_aux a (in3 (h a (by simp)))).2 b (in3 (h b (by simp)))).2 c (in3 (h c (by simp)))).2 d (in3 (h d (by simp)))
  | _ :: _ :: _ :: _ :: _ :: _, _, _, h4 => simp at h4
theorem host_facts : ∀ q ∈ U, Txt.join (Str.ofString ".") (labs q) = nm q ∧ ((labs q).map (·.length)).sum + (labs q).length * (Str.ofString ".").length ≤ 16777216 := by decide +kernel
theorem lab_facts : ∀ d, d < 3 → [Str.ofString "a", Str.ofString "b", Str.ofString "cc"].getD d Str.empty = labS d := by decide +kernel
theorem cc_fact : Str.ofString "cc" = ccS := by decide +kernel
theorem labs_len (q : List Nat) : (labs q).length = q.length + 1 := by
  induction q with
  | nil => rfl
  | cons a q ih => simp only [labs, List.length_cons, ih]
def hst (r : Int) : Nat → Int × List Nat
  | 0 => (r, [])
  | i + 1 => let x := if i = 0 then (hst r i).1.fdiv 4 else (hst r i).1.fdiv 3; (x, (x.fmod 3).toNat :: (hst r i).2)
/-- the host of a number -/
def hostq (v : Int) : List Nat := let r := if v < 0 then -v else v; (hst r (1 + r.fmod 4 - 0).toNat).2
theorem hst_ok {r : Int} (hr : 0 ≤ r) : ∀ i, 0 ≤ (hst r i).1 ∧ (hst r i).2.length = i ∧ ∀ d ∈ (hst r i).2, d < 3 := by
  intro i
  induction i with
  | zero => exact ⟨hr, rfl, fun d hd => by cases hd⟩
  | succ i ih =>
    obtain ⟨h1, h2, h3⟩ := ih
    have hx : 0 ≤ (if i = 0 then (hst r i).1.fdiv 4 else (hst r i).1.fdiv 3) := by
      split
      · exact Int.fdiv_nonneg h1 (by decide)
      · exact Int.fdiv_nonneg h1 (by decide)
    refine ⟨hx, by simp only [hst, List.length_cons, h2], fun d hd => ?_⟩
    rcases List.mem_cons.mp hd with rfl | hd
    · have := Int.fmod_lt_of_pos (if i = 0 then (hst r i).1.fdiv 4 else (hst r i).1.fdiv 3) (show (0 : Int) < 3 by decide)
      omega
    · exact h3 d hd
theorem hostq_U (v : Int) : hostq v ∈ U := by
  unfold hostq
  dsimp only
  generalize hr : (if v < 0 then -v else v) = r
  have hr0 : 0 ≤ r := by rw [← hr]; split <;> omega
  have hm0 : 0 ≤ r.fmod 4 := Int.fmod_nonneg_of_pos _ (by decide)
  have hm1 : r.fmod 4 < 4 := Int.fmod_lt_of_pos _ (by decide)
  obtain ⟨_, h2, h3⟩ := hst_ok hr0 (1 + r.fmod 4 - 0).toNat
  exact U_of h3 (by omega) (by omega)
abbrev HostJ (r : Int) (news : List (Addr × Obj)) (i : Nat) (m₁ : Str → Option Value) (news₁ : List (Addr × Obj)) : Prop :=
  ∃ D ws k t, m₁ (Str.ofString "labels") = some (.ref D) ∧ m₁ (Str.ofString "rest") = some (.int (hst r i).1 t) ∧ news₁ = (D, listOf (List.toArray ws) k) :: news ∧ StrsAre ws (labs (hst r i).2) ∧ AllLt D news
theorem host_end {h₀ h' : Heap} {L D I : Addr} {m' : Str → Option Value} {all news : List (Addr × Obj)} {ws : List Value} {k : Nat} {oI : Obj} {r x : Int} {i : Nat} {t : Tok} {s₁ : Shared} {Q : Flow → Shared → Prop} {tk' : Nat} {xs : List Str}
    (F : Fr h₀ L h' m') (N : News h₀ L h' all) (h1 : m' (Str.ofString "labels") = some (.ref D)) (h2 : m' (Str.ofString "rest") = some (.int x t)) (hD : (D, listOf (List.toArray ws) k) ∈ all) (hI : (I, oI) ∈ all) (hn : ∀ p ∈ news, p ∈ all)
    (hS : StrsAre ws xs) (hx : (hst r (i + 1)).1 = x) (hxs : labs (hst r (i + 1)).2 = xs) (hDI : D ≠ I) (off : ∀ p ∈ news, p.1 ≠ I) (hDn : AllLt D news) :
    ForEnd h₀ L I oI (HostJ r news (i + 1)) s₁ Q .next { s₁ with heap := h', toks := tk' } :=
  ⟨h', tk', m', (D, listOf (List.toArray ws) k) :: news, rfl, F, fun p hp => N p (by
    rcases List.mem_cons.mp hp with rfl | hp
    · exact hI
    · rcases List.mem_cons.mp hp with rfl | hp
      · exact hD
      · exact hn p hp), fun p hp => by
    rcases List.mem_cons.mp hp with rfl | hp
    · exact hDI
    · exact off p hp, D, ws, k, t, h1, hx ▸ h2, rfl, hxs ▸ hS, hDn⟩
set_option maxHeartbeats 4000000 in
theorem host (w : World) (mean mg mb) (v : Int) (t : Tok) : Claim 4 w mean mg mb 96 [.int v t] (fun t => .str (nm (hostq v)) t) := by
  unfold Claim
  k_fill
  have hU := hostq_U v
  unfold hostq at *
  dsimp only at *
  intro news dp un gd cn cs a ccd cl outer A₀ base h₀ L m s Q E B F X N T hk hd hu hret
  refine wpAny_call ?_
  k_dflt cell_enter
  k_steps
  unfold Stop
  refine wpAny_For ?_ (by intro _; with_unfolding_all rfl)
  k_steps
  unfold Stop
  generalize hr : (if v < 0 then -v else v) = r at *
  have hr0 : 0 ≤ r := by rw [← hr]; split <;> omega
  have hm0 : 0 ≤ r.fmod 4 := Int.fmod_nonneg_of_pos _ (by decide)
  have hm1 : r.fmod 4 < 4 := Int.fmod_lt_of_pos _ (by decide)
  (with_reducible rename IsRange _ _ _ _ _ _ _ _ => R)
  (with_reducible rename News _ _ _ _ => N1)
  (with_reducible rename Fr _ _ _ _ => F1)
  refine for_range (n := (1 + r.fmod 4 - 0).toNat) (by rfl) (by k_asm) (cb_drop (news := (_, listOf (List.toArray [Value.str (Str.ofString "cc") _]) 0) :: news) (by k_asm) (by kcj_all)) R (small_one (by omega) (by omega) (by omega) (by omega)) (rangeSize_nat _ _)
    (HostJ r news)
    ⟨_, _, _, _, by with_unfolding_all rfl, by with_unfolding_all rfl, rfl, by rw [cc_fact]; exact .cons _ _ .nil, by first | assumption | exact allLt_of (by assumption)⟩ ?turn ?done
  case turn =>
    rintro i t m₁ news₁ I oI h tk hi ⟨D, ws, k, t', hm1, hm2, rfl, hS, hD⟩ F N off
    obtain ⟨h1, h2, h3⟩ := hst_ok hr0 i
    have hb1 := labs_len (hst r i).2
    have hi4 : i < 4 := by omega
    obtain ⟨x, hx⟩ : ∃ x, (hst r i).1 = x := ⟨_, rfl⟩
    obtain ⟨q, hq⟩ : ∃ q, (hst r i).2 = q := ⟨_, rfl⟩
    have he : hst r (i + 1) = (if i = 0 then x.fdiv 4 else x.fdiv 3, ((if i = 0 then x.fdiv 4 else x.fdiv 3).fmod 3).toNat :: q) := by rw [← hx, ← hq]; rfl
    rw [hx] at hm2 h1
    rw [hq] at hS hb1 h2 h3
    have hd3 : ∀ y : Int, (y.fmod 3).toNat < 3 := fun y => by have := Int.fmod_lt_of_pos y (show (0 : Int) < 3 by decide); omega
    k_steps
    · have hi0 : i = 0 := by omega
      rw [if_pos hi0] at he
      unfold Stop
      refine host_end (by k_asm) (by k_asm) (by with_unfolding_all rfl) (by with_unfolding_all rfl) (by k_mem) (by k_mem) (by kcj_in) (by assumption) (by rw [he]) ?_ (by k_ne) (fun p hp => off p (List.mem_cons_of_mem _ hp)) (by first | assumption | exact And.right (by assumption) | exact And.right (And.right (by assumption)) | exact And.right (And.right (And.right (by assumption))) | exact And.right (And.right (And.right (And.right (by assumption)))))
      rw [he, lab_facts _ (hd3 _)]
      rfl
    · have hi0 : ¬ i = 0 := by omega
      rw [if_neg hi0] at he
      unfold Stop
      refine host_end (by k_asm) (by k_asm) (by with_unfolding_all rfl) (by with_unfolding_all rfl) (by k_mem) (by k_mem) (by kcj_in) (by assumption) (by rw [he]) ?_ (by k_ne) (fun p hp => off p (List.mem_cons_of_mem _ hp)) (by first | assumption | exact And.right (by assumption) | exact And.right (And.right (by assumption)) | exact And.right (And.right (And.right (by assumption))) | exact And.right (And.right (And.right (And.right (by assumption)))))
      rw [he, lab_facts _ (hd3 _)]
      rfl
  case done =>
    rintro h tk m' news' ⟨D, ws, k, t', hm1, hm2, rfl, hS, hD⟩ F N
    obtain ⟨f1, f2⟩ := host_facts _ hU
    k_steps
    exact hret _ _ _ (by k_asm) (by first | k_asm | exact cb_drop (by assumption) (by kcj_all))
end Mine
end
section
open PySem PySem.W PyProof.Rows
namespace Mine
local macro_rules | `(tactic| walk_at "none such 0") => `(tactic| skip)
local macro_rules | `(tactic| walk_at "none such 1") => `(tactic| skip)
local macro_rules | `(tactic| walk_at "none such 2") => `(tactic| skip)
local macro_rules | `(tactic| walk_at "none such 3") => `(tactic| skip)
theorem clear_Fg : True := by
  w_top off
  trivial
set_option maxRecDepth 100000
local macro_rules | `(tactic| walk_at "getMethod ref") => `(tactic| (k_here; (with_reducible show wpAny _ _ (getMethod (Value.ref 36) _ _) _ _ _); k_dflt (refine re_meth (by k_asm) (by k_asm) ?_)))
local macro_rules | `(tactic| walk_at "call builtin:re.Pattern.search") => `(tactic| (k_here; k_dflt (refine re_none (by k_asm) (by k_asm) (by first | assumption | omega) (by assumption) ?_)))
local macro_rules | `(tactic| walk_at "compareOp Eq str str") => `(tactic| (k_here; with_reducible refine s_eq (by assumption) ?_))
local macro_rules | `(tactic| walk_at "compareOp NotEq str str") => `(tactic| (k_here; with_reducible refine s_ne (by assumption) ?_))
local macro_rules | `(tactic| walk_at "call builtin:str.find") => `(tactic| (k_here; (with_reducible show wpAny _ _ (call (Value.builtin "str.find") [Value.str _ _, Value.str _ _]) _ _ _); (with_reducible refine KXw.find (by assumption) ?_); intro _ _))
local macro_rules | `(tactic| walk_at "call builtin:str.rfind") => `(tactic| (k_here; (with_reducible show wpAny _ _ (call (Value.builtin "str.rfind") [Value.str _ _, Value.str _ _]) _ _ _); (with_reducible refine KXw.rfind (by assumption) ?_); intro _ _))
local macro_rules | `(tactic| walk_at "subscriptTail") => `(tactic| (k_here; (with_reducible show wpAny _ _ (subscriptTail _ _ (Value.str _ _) (Value.int _ _)) _ _ _); (refine s_item (by assumption) (by first | decide | omega) (by first | decide | omega) (by first | decide | omega) (by assumption) ?_); intro _ _))
local macro_rules | `(tactic| walk_at "subscriptTail Name Constant str int") => `(tactic| (k_here; (with_reducible show wpAny _ _ (subscriptTail _ _ (Value.str _ _) (Value.int _ _)) _ _ _); (refine s_item (by assumption) (by first | decide | omega) (by first | decide | omega) (by first | decide | omega) (by assumption) ?_); intro _ _))
local macro_rules | `(tactic| walk_at "subscriptTail Name UnaryOp str int") => `(tactic| (k_here; (with_reducible show wpAny _ _ (subscriptTail _ _ (Value.str _ _) (Value.int _ _)) _ _ _); (refine s_item (by assumption) (by first | decide | omega) (by first | decide | omega) (by first | decide | omega) (by assumption) ?_); intro _ _))
local macro_rules | `(tactic| walk_at "subscriptTail") => `(tactic| (k_here; (with_reducible show wpAny _ _ (subscriptTail _ (Expr.Slice (some _) none none _) (Value.str _ _) (Value.ref _)) _ _ _); (refine s_from (s := ⟨_, _, _, _, _⟩) (by k_asm) (by k_asm) (by assumption) (by first | assumption | omega) ?_); intro _ _ _ _ _))
local macro_rules | `(tactic| walk_at "subscriptTail Name Slice str ref") => `(tactic| (k_here; (with_reducible show wpAny _ _ (subscriptTail _ (Expr.Slice (some _) none none _) (Value.str _ _) (Value.ref _)) _ _ _); (refine s_from (s := ⟨_, _, _, _, _⟩) (by k_asm) (by k_asm) (by assumption) (by first | assumption | omega) ?_); intro _ _ _ _ _))
local macro_rules | `(tactic| walk_at "binaryOp Add str str") => `(tactic| (k_here; (with_reducible refine s_add (by assumption) (by first | assumption | omega) (by first | assumption | omega) ?_); intro _ _))

local macro_rules | `(tactic| walk_at "eval ListComp") => `(tactic| (k_here; refine Stop.out ?_))
local macro_rules | `(tactic| walk_at "CompSrc") => `(tactic| (k_here; refine Stop.out ?_))
local macro_rules | `(tactic| walk_at "CompSrcT") => `(tactic| (k_here; refine Stop.out ?_))
local macro_rules | `(tactic| walk_at "call builtin:str.split") => `(tactic| (k_here; (with_reducible show wpAny _ _ (call (Value.builtin "str.split") [Value.str _ _, Value.str _ _]) _ _ _); k_dflt (refine l_split (by k_asm) (by k_asm) (by decide +kernel) (by with_reducible assumption) (by first | assumption | omega) ?_); intro D' ws' h' k' F' N' l1 hS'; (try k_lt l1); (try k_sweep)))
local macro_rules | `(tactic| walk_at "subscriptTail") => `(tactic| (k_here; (with_reducible show wpAny _ _ (subscriptTail _ (PySem.Expr.Slice none none (some _) _) (Value.ref _) (Value.ref _)) _ _ _); k_dflt (refine l_rev (by k_asm) (by k_asm) (by exact News.isList (by k_asm) (by k_mem)) (IsPart.int _ _) (by with_reducible assumption) (by first | assumption | omega) ?_ (by with_unfolding_all rfl) (by intro _; with_unfolding_all rfl)); intro D' ws' h' F' N' l1 hS'; (try k_lt l1); (try k_sweep)))
local macro_rules | `(tactic| walk_at "subscriptTail Name Slice ref ref") => `(tactic| (k_here; (with_reducible show wpAny _ _ (subscriptTail _ (PySem.Expr.Slice none none (some _) _) (Value.ref _) (Value.ref _)) _ _ _); k_dflt (refine l_rev (by k_asm) (by k_asm) (by exact News.isList (by k_asm) (by k_mem)) (IsPart.int _ _) (by with_reducible assumption) (by first | assumption | omega) ?_ (by with_unfolding_all rfl) (by intro _; with_unfolding_all rfl)); intro D' ws' h' F' N' l1 hS'; (try k_lt l1); (try k_sweep)))
local macro_rules | `(tactic| walk_at "call builtin:str.join") => `(tactic| (k_here; (with_reducible show wpAny _ _ (call (Value.builtin "str.join") [Value.str _ _, Value.ref _]) _ _ _); k_dflt (refine l_join (by exact News.isList (by k_asm) (by k_mem)) (by with_reducible assumption) (by first | assumption | omega) (by with_reducible assumption) ?_); intro _ _))
local macro_rules | `(tactic| walk_at "exec For Tuple Call cons nil") => `(tactic| (k_here; refine Stop.out ?_))
local macro_rules | `(tactic| walk_at "exec For Name Subscript cons nil") => `(tactic| (k_here; refine Stop.out ?_))
local macro_rules | `(tactic| walk_at "exec For Name Name cons nil") => `(tactic| (k_here; refine Stop.out ?_))
local macro_rules | `(tactic| walk_at "exec For Name Call cons nil") => `(tactic| (k_here; refine Stop.out ?_))
local macro_rules | `(tactic| walk_at "exec While Compare cons nil") => `(tactic| (k_here; refine Stop.out ?_))
local macro_rules | `(tactic| walk_at "exec While Constant cons nil") => `(tactic| (k_here; refine Stop.out ?_))
local macro_rules | `(tactic| walk_at "eval Name") => `(tactic| (k_here; k_dflt (refine nameX_L (by k_asm) (by with_unfolding_all first | exact rfl | assumption) ?_ (by rfl) (by rfl))))
local macro_rules | `(tactic| walk_at "WhileEnd") => `(tactic| (k_here; refine Stop.out ?_))
local macro_rules | `(tactic| walk_at "ForEnd") => `(tactic| (k_here; refine Stop.out ?_))
local macro_rules | `(tactic| k_all) => `(tactic| (refine allLt_ne' ?_; assumption))
local macro_rules | `(tactic| walk_at "subscriptTail List BinOp ref int") => `(tactic| (k_here; k_dflt (refine l_item (by exact News.isList (by k_asm) (by k_mem)) (by first | with_reducible assumption | exact .cons _ _ (.cons _ _ (.cons _ _ .nil))) (by first | omega | exact Int.fmod_nonneg_of_pos _ (by decide)) (by first | omega | exact Int.fmod_lt_of_pos _ (by decide)) (by first | omega | decide) ?_); intro _))
local macro_rules | `(tactic| walk_at "subscriptTail Name BinOp ref int") => `(tactic| (k_here; k_dflt (refine l_item (by exact News.isList (by k_asm) (by k_mem)) (by first | with_reducible assumption | exact .cons _ _ (.cons _ _ (.cons _ _ .nil))) (by first | omega | exact Int.fmod_nonneg_of_pos _ (by decide)) (by first | omega | exact Int.fmod_lt_of_pos _ (by decide)) (by first | omega | decide) ?_); intro _))
local macro_rules | `(tactic| walk_at "binaryOp Add ref ref") => `(tactic| (k_here; k_dflt (refine l_add (by k_asm) (by k_asm) (by exact News.isList (by k_asm) (by k_mem)) (by exact News.isList (by k_asm) (by k_mem)) (by first | with_reducible assumption | exact .cons _ _ .nil) (by first | with_reducible assumption | exact .cons _ _ .nil) (by first | omega | (simp only [List.length_cons, List.length_nil]; omega) | decide) (by first | omega | (simp only [List.length_cons, List.length_nil]; omega) | decide) ?_); intro D' ws' h' F' N' l1 hS'; (try k_lt l1); (try k_sweep)))

local macro_rules | `(tactic| walk_at "subscriptTail Name Name ref int") => `(tactic| (k_here; k_dflt (refine l_item (by exact News.isList (by k_asm) (by first | with_reducible assumption | k_mem)) (by with_reducible assumption) (by omega) (by omega) (by omega) ?_); intro _))
local macro_rules | `(tactic| walk_at "compareOp Lt str str") => `(tactic| (k_here; with_reducible refine s_lt (by assumption) ?_))
local macro_rules | `(tactic| walk_at "call builtin:len") => `(tactic| (k_here; (with_reducible show wpAny _ _ (call (Value.builtin "len") [Value.ref _]) _ _ _); k_dflt (refine l_len (by exact News.isList (by k_asm) (by with_reducible assumption)) (by with_reducible assumption) (by first | assumption | omega) ?_); intro _ _))
set_option maxHeartbeats 4000000 in
theorem bisect (w : World) (mean mg mb) (a : Addr) (vs : List Value) (ys : List Str) (k : Nat) (x : Str) (t : Tok) (hS : StrsAre vs ys) (hz : ys.length ≤ 1000) (hm : Mono (fun y => ltS y x) ys)
    (news : List (Addr × Obj)) (hmem : (a, listOf (List.toArray vs) k) ∈ news) (dp un : Nat) (gd : Option (List Code)) (cn : Str) (cs : Scope) (fa : Addr) (ccd : Value) (cl : List (Str × Addr)) (outer : List Env) (A₀ : Around) (base h₀ : Heap) (L : Addr) (m : Str → Option Value) (s : Shared) (Q E : Value → Shared → Prop)
    (B : Below A₀ base outer h₀) (F : Fr h₀ L s.heap m) (X : (hd.heap_39 w.params).In h₀) (N : News h₀ L s.heap news) (T : Top hd.view_39 Loose mean mg mb h₀) (hk : cs.kind = .function) (hd : dp + 3 < recursionLimit) (hu : un + 8 * 3 < cLine)
    (hret : ∀ (t : Tok) (h' : Heap) (tk' : Nat), Fr h₀ L h' m → News h₀ L h' news → Q (.int (cut (fun y => ltS y x) ys : Nat) t) { s with heap := h', toks := tk' }) :
    wpAny (model PySem.Challenge.rw_zs0002_01.row.prog w) (ktrTop dp un gd cn cs L fa ccd cl outer) (call (.ref 89) [.ref a, .str x t]) Q E s := by
  revert X; k_fill; intro X
  refine wpAny_call ?_
  k_dflt (refine' code_def (binds := [(Str.ofString "a", .ref a), (Str.ofString "x", .str x t), (Str.ofString "lo", .int 0 370), (Str.ofString "hi", .none), (Str.ofString "key", .none)]) B F X N T (by exact rfl) (by exact rfl) hk ?k6 ?k7 ?k8 ?k9 ?kB ?kM ?c2 ?c3 ?c4 ?c5)
  case k6 => k_is
  case k7 => k_is
  case k8 => ktr_room
  case k9 => exact kp_binds (K := Mine.hd.heap_39 w.params) (by k_in) (fun _ => by rfl)
  case c5 => decide
  case kB => exact locs rfl
  case c2 => exact rfl
  case c3 => exact rfl
  case c4 => exact rfl
  intro g L' h1 FG FL NL BG XG TG
  k_steps
  unfold Stop
  (with_reducible rename News g L' _ _ => N1)
  (with_reducible rename Fr g L' _ _ => F1)
  refine while_J (n₀ := ((ys.length : Int) - 0).toNat) (fun n m₁ news₁ => news₁ = news ∧ ∃ lo hi t1 t2, m₁ (Str.ofString "lo") = some (.int lo t1) ∧ m₁ (Str.ofString "hi") = some (.int hi t2) ∧ m₁ (Str.ofString "a") = some (.ref a) ∧ m₁ (Str.ofString "x") = some (.str x t) ∧ BisIn (fun y => ltS y x) ys lo hi ∧ n = (hi - lo).toNat)
    F1 N1 ⟨rfl, 0, _, _, _, by with_unfolding_all rfl, by with_unfolding_all rfl, by with_unfolding_all rfl, by with_unfolding_all rfl, BisIn.start _ _, rfl⟩ ?_
  clear N1 F1
  rintro n m₁ news₁ h tk ⟨rfl, lo, hi, t1, t2, hm1, hm2, hm3, hm4, hI, rfl⟩ F N
  by_cases hlt : lo < hi
  · obtain ⟨hb1, hb2⟩ := mid_facts hlt
    obtain ⟨g0, g1, g2, g3, g4⟩ := id hI
    obtain ⟨b, hb⟩ : ∃ b, ltS (ys.getD ((lo + hi).fdiv 2).toNat Str.empty) x = b := ⟨_, rfl⟩
    cases b with
    | true =>
      have hJ := hI.left hm hb1 hb2 hb
      k_steps
      unfold Stop
      exact ⟨_, _, _, _, ((hi - ((lo + hi).fdiv 2 + 1)).toNat), rfl, by k_asm, by k_asm, by omega, rfl, _, _, _, _, by with_unfolding_all rfl, by with_unfolding_all first | rfl | assumption, by with_unfolding_all first | rfl | assumption, by with_unfolding_all first | rfl | assumption, hJ, rfl⟩
    | false =>
      have hJ := hI.right hm hb1 hb2 hb
      k_steps
      unfold Stop
      exact ⟨_, _, _, _, (((lo + hi).fdiv 2 - lo).toNat), rfl, by k_asm, by k_asm, by omega, rfl, _, _, _, _, by with_unfolding_all first | rfl | assumption, by with_unfolding_all first | rfl | assumption, by with_unfolding_all first | rfl | assumption, by with_unfolding_all first | rfl | assumption, hJ, rfl⟩
  · have e := hI.stop hlt
    rw [e] at hm1
    k_steps
    exact hret _ _ _ (by k_asm) (by k_asm)
end Mine
end
section
open PySem PySem.W PyProof.Rows
namespace Mine
local macro_rules | `(tactic| walk_at "none such 0") => `(tactic| skip)
local macro_rules | `(tactic| walk_at "none such 1") => `(tactic| skip)
local macro_rules | `(tactic| walk_at "none such 2") => `(tactic| skip)
theorem clear_Fh : True := by
  w_top off
  trivial
set_option maxRecDepth 100000
local macro_rules | `(tactic| walk_at "getMethod ref") => `(tactic| (k_here; (with_reducible show wpAny _ _ (getMethod (Value.ref 36) _ _) _ _ _); k_dflt (refine re_meth (by k_asm) (by k_asm) ?_)))
local macro_rules | `(tactic| walk_at "call builtin:re.Pattern.search") => `(tactic| (k_here; k_dflt (refine re_none (by k_asm) (by k_asm) (by first | assumption | omega) (by assumption) ?_)))
local macro_rules | `(tactic| walk_at "compareOp Eq str str") => `(tactic| (k_here; with_reducible refine s_eq (by assumption) ?_))
local macro_rules | `(tactic| walk_at "compareOp NotEq str str") => `(tactic| (k_here; with_reducible refine s_ne (by assumption) ?_))
local macro_rules | `(tactic| walk_at "call builtin:str.find") => `(tactic| (k_here; (with_reducible show wpAny _ _ (call (Value.builtin "str.find") [Value.str _ _, Value.str _ _]) _ _ _); (with_reducible refine KXw.find (by assumption) ?_); intro _ _))
local macro_rules | `(tactic| walk_at "call builtin:str.rfind") => `(tactic| (k_here; (with_reducible show wpAny _ _ (call (Value.builtin "str.rfind") [Value.str _ _, Value.str _ _]) _ _ _); (with_reducible refine KXw.rfind (by assumption) ?_); intro _ _))
local macro_rules | `(tactic| walk_at "subscriptTail") => `(tactic| (k_here; (with_reducible show wpAny _ _ (subscriptTail _ _ (Value.str _ _) (Value.int _ _)) _ _ _); (refine s_item (by assumption) (by first | decide | omega) (by first | decide | omega) (by first | decide | omega) (by assumption) ?_); intro _ _))
local macro_rules | `(tactic| walk_at "subscriptTail Name Constant str int") => `(tactic| (k_here; (with_reducible show wpAny _ _ (subscriptTail _ _ (Value.str _ _) (Value.int _ _)) _ _ _); (refine s_item (by assumption) (by first | decide | omega) (by first | decide | omega) (by first | decide | omega) (by assumption) ?_); intro _ _))
local macro_rules | `(tactic| walk_at "subscriptTail Name UnaryOp str int") => `(tactic| (k_here; (with_reducible show wpAny _ _ (subscriptTail _ _ (Value.str _ _) (Value.int _ _)) _ _ _); (refine s_item (by assumption) (by first | decide | omega) (by first | decide | omega) (by first | decide | omega) (by assumption) ?_); intro _ _))
local macro_rules | `(tactic| walk_at "subscriptTail") => `(tactic| (k_here; (with_reducible show wpAny _ _ (subscriptTail _ (Expr.Slice (some _) none none _) (Value.str _ _) (Value.ref _)) _ _ _); (refine s_from (s := ⟨_, _, _, _, _⟩) (by k_asm) (by k_asm) (by assumption) (by first | assumption | omega) ?_); intro _ _ _ _ _))
local macro_rules | `(tactic| walk_at "subscriptTail Name Slice str ref") => `(tactic| (k_here; (with_reducible show wpAny _ _ (subscriptTail _ (Expr.Slice (some _) none none _) (Value.str _ _) (Value.ref _)) _ _ _); (refine s_from (s := ⟨_, _, _, _, _⟩) (by k_asm) (by k_asm) (by assumption) (by first | assumption | omega) ?_); intro _ _ _ _ _))
local macro_rules | `(tactic| walk_at "binaryOp Add str str") => `(tactic| (k_here; (with_reducible refine s_add (by assumption) (by first | assumption | omega) (by first | assumption | omega) ?_); intro _ _))

local macro_rules | `(tactic| walk_at "eval ListComp") => `(tactic| (k_here; refine Stop.out ?_))
local macro_rules | `(tactic| walk_at "CompSrc") => `(tactic| (k_here; refine Stop.out ?_))
local macro_rules | `(tactic| walk_at "CompSrcT") => `(tactic| (k_here; refine Stop.out ?_))
local macro_rules | `(tactic| walk_at "call builtin:str.split") => `(tactic| (k_here; (with_reducible show wpAny _ _ (call (Value.builtin "str.split") [Value.str _ _, Value.str _ _]) _ _ _); k_dflt (refine l_split (by k_asm) (by k_asm) (by decide +kernel) (by with_reducible assumption) (by first | assumption | omega) ?_); intro D' ws' h' k' F' N' l1 hS'; (try k_lt l1); (try k_sweep)))
local macro_rules | `(tactic| walk_at "subscriptTail") => `(tactic| (k_here; (with_reducible show wpAny _ _ (subscriptTail _ (PySem.Expr.Slice none none (some _) _) (Value.ref _) (Value.ref _)) _ _ _); k_dflt (refine l_rev (by k_asm) (by k_asm) (by exact News.isList (by k_asm) (by k_mem)) (IsPart.int _ _) (by with_reducible assumption) (by first | assumption | omega) ?_ (by with_unfolding_all rfl) (by intro _; with_unfolding_all rfl)); intro D' ws' h' F' N' l1 hS'; (try k_lt l1); (try k_sweep)))
local macro_rules | `(tactic| walk_at "subscriptTail Name Slice ref ref") => `(tactic| (k_here; (with_reducible show wpAny _ _ (subscriptTail _ (PySem.Expr.Slice none none (some _) _) (Value.ref _) (Value.ref _)) _ _ _); k_dflt (refine l_rev (by k_asm) (by k_asm) (by exact News.isList (by k_asm) (by k_mem)) (IsPart.int _ _) (by with_reducible assumption) (by first | assumption | omega) ?_ (by with_unfolding_all rfl) (by intro _; with_unfolding_all rfl)); intro D' ws' h' F' N' l1 hS'; (try k_lt l1); (try k_sweep)))
local macro_rules | `(tactic| walk_at "call builtin:str.join") => `(tactic| (k_here; (with_reducible show wpAny _ _ (call (Value.builtin "str.join") [Value.str _ _, Value.ref _]) _ _ _); k_dflt (refine l_join (by exact News.isList (by k_asm) (by k_mem)) (by with_reducible assumption) (by first | assumption | omega) (by with_reducible assumption) ?_); intro _ _))
local macro_rules | `(tactic| walk_at "exec For Tuple Call cons nil") => `(tactic| (k_here; refine Stop.out ?_))
local macro_rules | `(tactic| walk_at "exec For Name Subscript cons nil") => `(tactic| (k_here; refine Stop.out ?_))
local macro_rules | `(tactic| walk_at "exec For Name Name cons nil") => `(tactic| (k_here; refine Stop.out ?_))
local macro_rules | `(tactic| walk_at "exec For Name Call cons nil") => `(tactic| (k_here; refine Stop.out ?_))
local macro_rules | `(tactic| walk_at "exec While Compare cons nil") => `(tactic| (k_here; refine Stop.out ?_))
local macro_rules | `(tactic| walk_at "exec While Constant cons nil") => `(tactic| (k_here; refine Stop.out ?_))
local macro_rules | `(tactic| walk_at "eval Name") => `(tactic| (k_here; k_dflt (refine nameX_L (by k_asm) (by with_unfolding_all first | exact rfl | assumption) ?_ (by rfl) (by rfl))))
local macro_rules | `(tactic| walk_at "WhileEnd") => `(tactic| (k_here; refine Stop.out ?_))
local macro_rules | `(tactic| walk_at "ForEnd") => `(tactic| (k_here; refine Stop.out ?_))
local macro_rules | `(tactic| k_all) => `(tactic| (refine allLt_ne' ?_; assumption))
local macro_rules | `(tactic| walk_at "subscriptTail List BinOp ref int") => `(tactic| (k_here; k_dflt (refine l_item (by exact News.isList (by k_asm) (by k_mem)) (by first | with_reducible assumption | exact .cons _ _ (.cons _ _ (.cons _ _ .nil))) (by first | omega | exact Int.fmod_nonneg_of_pos _ (by decide)) (by first | omega | exact Int.fmod_lt_of_pos _ (by decide)) (by first | omega | decide) ?_); intro _))
local macro_rules | `(tactic| walk_at "subscriptTail Name BinOp ref int") => `(tactic| (k_here; k_dflt (refine l_item (by exact News.isList (by k_asm) (by k_mem)) (by first | with_reducible assumption | exact .cons _ _ (.cons _ _ (.cons _ _ .nil))) (by first | omega | exact Int.fmod_nonneg_of_pos _ (by decide)) (by first | omega | exact Int.fmod_lt_of_pos _ (by decide)) (by first | omega | decide) ?_); intro _))
local macro_rules | `(tactic| walk_at "binaryOp Add ref ref") => `(tactic| (k_here; k_dflt (refine l_add (by k_asm) (by k_asm) (by exact News.isList (by k_asm) (by k_mem)) (by exact News.isList (by k_asm) (by k_mem)) (by first | with_reducible assumption | exact .cons _ _ .nil) (by first | with_reducible assumption | exact .cons _ _ .nil) (by first | omega | (simp only [List.length_cons, List.length_nil]; omega) | decide) (by first | omega | (simp only [List.length_cons, List.length_nil]; omega) | decide) ?_); intro D' ws' h' F' N' l1 hS'; (try k_lt l1); (try k_sweep)))

local macro_rules | `(tactic| walk_at "subscriptTail Name Name ref int") => `(tactic| (k_here; k_dflt (refine l_item (by exact News.isList (by k_asm) (by first | with_reducible assumption | k_mem)) (by with_reducible assumption) (by omega) (by omega) (by omega) ?_); intro _))
local macro_rules | `(tactic| walk_at "call ref") => `(tactic| (k_here; (with_reducible show wpAny _ _ (call (Value.ref 101) _ _) _ _ _); k_dflt (refine Claim.use (told _ _ _ _ _ (by assumption) _) (by k_asm) (by k_asm) (by k_asm) (by k_asm) (by k_asm) (by first | exact rfl | assumption) (by ktr_room) (by ktr_units) ?_; intro t9 h9 tk9 F9 N9; (try dsimp only); (try k_fold))))
local macro_rules | `(tactic| walk_at "compareOp Lt str str") => `(tactic| (k_here; with_reducible refine s_lt (by assumption) ?_))
local macro_rules | `(tactic| walk_at "call builtin:len") => `(tactic| (k_here; (with_reducible show wpAny _ _ (call (Value.builtin "len") [Value.ref _]) _ _ _); k_dflt (refine l_len (by exact News.isList (by k_asm) (by with_reducible assumption)) (by with_reducible assumption) (by first | assumption | omega) ?_); intro _ _))
theorem l_itemE {prog : Program} {w : World} {A : Around} {E : Value → Shared → Prop} {s : Shared} {Q : Value → Shared → Prop} {value slice : Expr} {l : Addr} {vs : List Value} {xs : List Str} {u : Tok} {k : Int} {y : Str} (hl : s.heap.IsList l vs.toArray) (hS : StrsAre vs xs) (h0 : 0 ≤ k) (h1 : k < (xs.length : Int)) (hz : xs.length ≤ 1000) (e : xs.getD k.toNat Str.empty = y) (h : ∀ t', Q (.str y t') s)
    (hs : subscripted slice false (.ref l) (.int k u) = operate [.ref l, .int k u] (getItem (.ref l) (.int k u)) := by with_unfolding_all rfl) (hg : ∀ r, letTemporaryGo value (.ref l) r = pure () := by intro _; with_unfolding_all rfl) :
    wpAny (model prog w) A (subscriptTail value slice (.ref l) (.int k u)) Q E s := l_item hl hS h0 h1 hz (by rw [e]; exact h) hs hg
local macro_rules | `(tactic| walk_at "subscriptTail Name Name ref int") => `(tactic| (k_here; k_dflt (refine l_itemE (by exact News.isList (by k_asm) (by first | with_reducible assumption | k_mem)) (by with_reducible assumption) (by omega) (by omega) (by omega) (by assumption) ?_); intro _))
set_option maxHeartbeats 4000000 in
theorem bisectK (w : World) (mean mg mb) (a : Addr) (vs : List Value) (qs : List (List Nat)) (k : Nat) (x : Str) (t u : Tok) (hS : StrsAre vs (qs.map nm)) (hU : ∀ q ∈ qs, q ∈ U) (hz : qs.length ≤ 1000) (hm : Mono (fun y => ltS y x) (qs.map td))
    (news : List (Addr × Obj)) (hmem : (a, listOf (List.toArray vs) k) ∈ news) (dp un : Nat) (gd : Option (List Code)) (cn : Str) (cs : Scope) (fa : Addr) (ccd : Value) (cl : List (Str × Addr)) (outer : List Env) (A₀ : Around) (base h₀ : Heap) (L : Addr) (m : Str → Option Value) (s : Shared) (Q E : Value → Shared → Prop)
    (B : Below A₀ base outer h₀) (F : Fr h₀ L s.heap m) (X : (hd.heap_39 w.params).In h₀) (N : News h₀ L s.heap news) (T : Top hd.view_39 Loose mean mg mb h₀) (hk : cs.kind = .function) (hd : dp + 6 < recursionLimit) (hu : un + 8 * 6 < cLine)
    (hret : ∀ (t : Tok) (h' : Heap) (tk' : Nat), Fr h₀ L h' m → News h₀ L h' news → Q (.int (cut (fun y => ltS y x) (qs.map td) : Nat) t) { s with heap := h', toks := tk' }) :
    wpAny (model PySem.Challenge.rw_zs0002_01.row.prog w) (ktrTop dp un gd cn cs L fa ccd cl outer) (call (.ref 89) [.ref a, .str x t, .int 0 u, .none] [(Str.ofString "key", .ref 101)]) Q E s := by
  revert X; k_fill; intro X
  refine wpAny_call ?_
  k_dflt (refine' code_def (binds := [(Str.ofString "a", .ref a), (Str.ofString "x", .str x t), (Str.ofString "lo", .int 0 u), (Str.ofString "hi", .none), (Str.ofString "key", .ref 101)]) B F X N T (by exact rfl) (by exact rfl) hk ?k6 ?k7 ?k8 ?k9 ?kB ?kM ?c2 ?c3 ?c4 ?c5)
  case k6 => k_is
  case k7 => k_is
  case k8 => ktr_room
  case k9 => exact kp_binds (K := Mine.hd.heap_39 w.params) (by k_in) (fun _ => by rfl)
  case c5 => decide
  case kB => exact locs rfl
  case c2 => exact rfl
  case c3 => exact rfl
  case c4 => exact rfl
  intro g L' h1 FG FL NL BG XG TG
  have hz1 : (qs.map nm).length = qs.length := List.length_map ..
  have hz2 : (qs.map td).length = qs.length := List.length_map ..
  k_steps
  unfold Stop
  (with_reducible rename News g L' _ _ => N1)
  (with_reducible rename Fr g L' _ _ => F1)
  refine while_J (n₀ := ((qs.length : Int) - 0).toNat) (fun n m₁ news₁ => news₁ = news ∧ ∃ lo hi t1 t2, m₁ (Str.ofString "lo") = some (.int lo t1) ∧ m₁ (Str.ofString "hi") = some (.int hi t2) ∧ m₁ (Str.ofString "a") = some (.ref a) ∧ m₁ (Str.ofString "x") = some (.str x t) ∧ m₁ (Str.ofString "key") = some (.ref 101) ∧ BisIn (fun y => ltS y x) (qs.map td) lo hi ∧ n = (hi - lo).toNat)
    F1 N1 ⟨rfl, 0, _, _, _, by with_unfolding_all rfl, by with_unfolding_all rfl, by with_unfolding_all rfl, by with_unfolding_all rfl, by with_unfolding_all rfl, by rw [hz1, ← hz2]; exact BisIn.start _ _, by rw [hz1]⟩ ?_
  clear N1 F1
  rintro n m₁ news₁ h tk ⟨rfl, lo, hi, t1, t2, hm1, hm2, hm3, hm4, hm5, hI, rfl⟩ F N
  by_cases hlt : lo < hi
  · obtain ⟨hb1, hb2⟩ := mid_facts hlt
    obtain ⟨g0, g1, g2, g3, g4⟩ := id hI
    obtain ⟨q, hqe⟩ : ∃ q, qs[((lo + hi).fdiv 2).toNat]? = some q := ⟨_, List.getElem?_eq_getElem (by omega)⟩
    have hq := hU q (List.mem_of_getElem? hqe)
    have e1 : (qs.map nm).getD ((lo + hi).fdiv 2).toNat Str.empty = nm q := by rw [List.getD_eq_getElem?_getD, List.getElem?_map, hqe]; rfl
    have e2 : (qs.map td).getD ((lo + hi).fdiv 2).toNat Str.empty = td q := by rw [List.getD_eq_getElem?_getD, List.getElem?_map, hqe]; rfl
    obtain ⟨b, hb⟩ : ∃ b, ltS (td q) x = b := ⟨_, rfl⟩
    have hb' := hb
    rw [← e2] at hb'
    cases b with
    | true =>
      have hJ := hI.left hm hb1 hb2 hb'
      k_steps
      unfold Stop
      exact ⟨_, _, _, _, ((hi - ((lo + hi).fdiv 2 + 1)).toNat), rfl, by k_asm, by k_asm, by omega, rfl, _, _, _, _, by with_unfolding_all rfl, by with_unfolding_all first | rfl | assumption, by with_unfolding_all first | rfl | assumption, by with_unfolding_all first | rfl | assumption, by with_unfolding_all first | rfl | assumption, hJ, rfl⟩
    | false =>
      have hJ := hI.right hm hb1 hb2 hb'
      k_steps
      unfold Stop
      exact ⟨_, _, _, _, (((lo + hi).fdiv 2 - lo).toNat), rfl, by k_asm, by k_asm, by omega, rfl, _, _, _, _, by with_unfolding_all first | rfl | assumption, by with_unfolding_all first | rfl | assumption, by with_unfolding_all first | rfl | assumption, by with_unfolding_all first | rfl | assumption, by with_unfolding_all first | rfl | assumption, hJ, rfl⟩
  · have e := hI.stop hlt
    rw [e] at hm1
    k_steps
    exact hret _ _ _ (by k_asm) (by k_asm)
end Mine
end
section
open PySem PySem.W PyProof.Rows
namespace Mine
local macro_rules | `(tactic| walk_at "none such 0") => `(tactic| skip)
local macro_rules | `(tactic| walk_at "none such 1") => `(tactic| skip)
local macro_rules | `(tactic| walk_at "none such 2") => `(tactic| skip)
local macro_rules | `(tactic| walk_at "none such 3") => `(tactic| skip)
local macro_rules | `(tactic| walk_at "none such 4") => `(tactic| skip)
local macro_rules | `(tactic| walk_at "none such 5") => `(tactic| skip)
theorem clear_Fi : True := by
  w_top off
  trivial
set_option maxRecDepth 100000
local macro_rules | `(tactic| walk_at "getMethod ref") => `(tactic| (k_here; (with_reducible show wpAny _ _ (getMethod (Value.ref 36) _ _) _ _ _); k_dflt (refine re_meth (by k_asm) (by k_asm) ?_)))
local macro_rules | `(tactic| walk_at "call builtin:re.Pattern.search") => `(tactic| (k_here; k_dflt (refine re_none (by k_asm) (by k_asm) (by first | assumption | omega) (by assumption) ?_)))
local macro_rules | `(tactic| walk_at "compareOp Eq str str") => `(tactic| (k_here; with_reducible refine s_eq (by assumption) ?_))
local macro_rules | `(tactic| walk_at "compareOp NotEq str str") => `(tactic| (k_here; with_reducible refine s_ne (by assumption) ?_))
local macro_rules | `(tactic| walk_at "call builtin:str.find") => `(tactic| (k_here; (with_reducible show wpAny _ _ (call (Value.builtin "str.find") [Value.str _ _, Value.str _ _]) _ _ _); (with_reducible refine KXw.find (by assumption) ?_); intro _ _))
local macro_rules | `(tactic| walk_at "call builtin:str.rfind") => `(tactic| (k_here; (with_reducible show wpAny _ _ (call (Value.builtin "str.rfind") [Value.str _ _, Value.str _ _]) _ _ _); (with_reducible refine KXw.rfind (by assumption) ?_); intro _ _))
local macro_rules | `(tactic| walk_at "subscriptTail") => `(tactic| (k_here; (with_reducible show wpAny _ _ (subscriptTail _ _ (Value.str _ _) (Value.int _ _)) _ _ _); (refine s_item (by assumption) (by first | decide | omega) (by first | decide | omega) (by first | decide | omega) (by assumption) ?_); intro _ _))
local macro_rules | `(tactic| walk_at "subscriptTail Name Constant str int") => `(tactic| (k_here; (with_reducible show wpAny _ _ (subscriptTail _ _ (Value.str _ _) (Value.int _ _)) _ _ _); (refine s_item (by assumption) (by first | decide | omega) (by first | decide | omega) (by first | decide | omega) (by assumption) ?_); intro _ _))
local macro_rules | `(tactic| walk_at "subscriptTail Name UnaryOp str int") => `(tactic| (k_here; (with_reducible show wpAny _ _ (subscriptTail _ _ (Value.str _ _) (Value.int _ _)) _ _ _); (refine s_item (by assumption) (by first | decide | omega) (by first | decide | omega) (by first | decide | omega) (by assumption) ?_); intro _ _))
local macro_rules | `(tactic| walk_at "subscriptTail") => `(tactic| (k_here; (with_reducible show wpAny _ _ (subscriptTail _ (Expr.Slice (some _) none none _) (Value.str _ _) (Value.ref _)) _ _ _); (refine s_from (s := ⟨_, _, _, _, _⟩) (by k_asm) (by k_asm) (by assumption) (by first | assumption | omega) ?_); intro _ _ _ _ _))
local macro_rules | `(tactic| walk_at "subscriptTail Name Slice str ref") => `(tactic| (k_here; (with_reducible show wpAny _ _ (subscriptTail _ (Expr.Slice (some _) none none _) (Value.str _ _) (Value.ref _)) _ _ _); (refine s_from (s := ⟨_, _, _, _, _⟩) (by k_asm) (by k_asm) (by assumption) (by first | assumption | omega) ?_); intro _ _ _ _ _))
local macro_rules | `(tactic| walk_at "binaryOp Add str str") => `(tactic| (k_here; (with_reducible refine s_add (by assumption) (by first | assumption | omega) (by first | assumption | omega) ?_); intro _ _))

local macro_rules | `(tactic| walk_at "eval ListComp") => `(tactic| (k_here; refine Stop.out ?_))
local macro_rules | `(tactic| walk_at "CompSrc") => `(tactic| (k_here; refine Stop.out ?_))
local macro_rules | `(tactic| walk_at "CompSrcT") => `(tactic| (k_here; refine Stop.out ?_))
local macro_rules | `(tactic| walk_at "call builtin:str.split") => `(tactic| (k_here; (with_reducible show wpAny _ _ (call (Value.builtin "str.split") [Value.str _ _, Value.str _ _]) _ _ _); k_dflt (refine l_split (by k_asm) (by k_asm) (by decide +kernel) (by with_reducible assumption) (by first | assumption | omega) ?_); intro D' ws' h' k' F' N' l1 hS'; (try k_lt l1); (try k_sweep)))
local macro_rules | `(tactic| walk_at "subscriptTail") => `(tactic| (k_here; (with_reducible show wpAny _ _ (subscriptTail _ (PySem.Expr.Slice none none (some _) _) (Value.ref _) (Value.ref _)) _ _ _); k_dflt (refine l_rev (by k_asm) (by k_asm) (by exact News.isList (by k_asm) (by k_mem)) (IsPart.int _ _) (by with_reducible assumption) (by first | assumption | omega) ?_ (by with_unfolding_all rfl) (by intro _; with_unfolding_all rfl)); intro D' ws' h' F' N' l1 hS'; (try k_lt l1); (try k_sweep)))
local macro_rules | `(tactic| walk_at "subscriptTail Name Slice ref ref") => `(tactic| (k_here; (with_reducible show wpAny _ _ (subscriptTail _ (PySem.Expr.Slice none none (some _) _) (Value.ref _) (Value.ref _)) _ _ _); k_dflt (refine l_rev (by k_asm) (by k_asm) (by exact News.isList (by k_asm) (by k_mem)) (IsPart.int _ _) (by with_reducible assumption) (by first | assumption | omega) ?_ (by with_unfolding_all rfl) (by intro _; with_unfolding_all rfl)); intro D' ws' h' F' N' l1 hS'; (try k_lt l1); (try k_sweep)))
local macro_rules | `(tactic| walk_at "call builtin:str.join") => `(tactic| (k_here; (with_reducible show wpAny _ _ (call (Value.builtin "str.join") [Value.str _ _, Value.ref _]) _ _ _); k_dflt (refine l_join (by exact News.isList (by k_asm) (by k_mem)) (by with_reducible assumption) (by first | assumption | omega) (by with_reducible assumption) ?_); intro _ _))
local macro_rules | `(tactic| walk_at "exec For Tuple Call cons nil") => `(tactic| (k_here; refine Stop.out ?_))
local macro_rules | `(tactic| walk_at "exec For Name Subscript cons nil") => `(tactic| (k_here; refine Stop.out ?_))
local macro_rules | `(tactic| walk_at "exec For Name Name cons nil") => `(tactic| (k_here; refine Stop.out ?_))
local macro_rules | `(tactic| walk_at "exec For Name Call cons nil") => `(tactic| (k_here; refine Stop.out ?_))
local macro_rules | `(tactic| walk_at "exec While Compare cons nil") => `(tactic| (k_here; refine Stop.out ?_))
local macro_rules | `(tactic| walk_at "exec While Constant cons nil") => `(tactic| (k_here; refine Stop.out ?_))
local macro_rules | `(tactic| walk_at "eval Name") => `(tactic| (k_here; k_dflt (refine nameX_L (by k_asm) (by with_unfolding_all first | exact rfl | assumption) ?_ (by rfl) (by rfl))))
local macro_rules | `(tactic| walk_at "WhileEnd") => `(tactic| (k_here; refine Stop.out ?_))
local macro_rules | `(tactic| walk_at "ForEnd") => `(tactic| (k_here; refine Stop.out ?_))
local macro_rules | `(tactic| k_all) => `(tactic| (refine allLt_ne' ?_; assumption))
local macro_rules | `(tactic| walk_at "subscriptTail List BinOp ref int") => `(tactic| (k_here; k_dflt (refine l_item (by exact News.isList (by k_asm) (by k_mem)) (by first | with_reducible assumption | exact .cons _ _ (.cons _ _ (.cons _ _ .nil))) (by first | omega | exact Int.fmod_nonneg_of_pos _ (by decide)) (by first | omega | exact Int.fmod_lt_of_pos _ (by decide)) (by first | omega | decide) ?_); intro _))
local macro_rules | `(tactic| walk_at "subscriptTail Name BinOp ref int") => `(tactic| (k_here; k_dflt (refine l_item (by exact News.isList (by k_asm) (by k_mem)) (by first | with_reducible assumption | exact .cons _ _ (.cons _ _ (.cons _ _ .nil))) (by first | omega | exact Int.fmod_nonneg_of_pos _ (by decide)) (by first | omega | exact Int.fmod_lt_of_pos _ (by decide)) (by first | omega | decide) ?_); intro _))
local macro_rules | `(tactic| walk_at "binaryOp Add ref ref") => `(tactic| (k_here; k_dflt (refine l_add (by k_asm) (by k_asm) (by exact News.isList (by k_asm) (by k_mem)) (by exact News.isList (by k_asm) (by k_mem)) (by first | with_reducible assumption | exact .cons _ _ .nil) (by first | with_reducible assumption | exact .cons _ _ .nil) (by first | omega | (simp only [List.length_cons, List.length_nil]; omega) | decide) (by first | omega | (simp only [List.length_cons, List.length_nil]; omega) | decide) ?_); intro D' ws' h' F' N' l1 hS'; (try k_lt l1); (try k_sweep)))

local macro_rules | `(tactic| walk_at "subscriptTail Name Name ref int") => `(tactic| (k_here; k_dflt (refine l_item (by exact News.isList (by k_asm) (by first | with_reducible assumption | k_mem)) (by with_reducible assumption) (by omega) (by omega) (by omega) ?_); intro _))
local macro_rules | `(tactic| walk_at "call ref") => `(tactic| (k_here; (with_reducible show wpAny _ _ (call (Value.ref 101) _ _) _ _ _); k_dflt (refine Claim.use (told _ _ _ _ _ (by assumption) _) (by k_asm) (by k_asm) (by k_asm) (by k_asm) (by k_asm) (by first | exact rfl | assumption) (by ktr_room) (by ktr_units) ?_; intro t9 h9 tk9 F9 N9; (try dsimp only); (try k_fold))))
local macro_rules | `(tactic| walk_at "call ref") => `(tactic| (k_here; (with_reducible show wpAny _ _ (call (Value.ref 89) _ _) _ _ _); k_dflt (refine bisectK _ _ _ _ _ _ _ _ _ _ _ (by assumption) (by assumption) (by omega) (by assumption) _ (by with_reducible assumption) _ _ _ _ _ _ _ _ _ _ _ _ _ _ _ _ _ (by k_asm) (by k_asm) (by k_asm) (by k_asm) (by k_asm) (by first | exact rfl | assumption) (by ktr_room) (by ktr_units) ?_); intro t9 h9 tk9 F9 N9; (try dsimp only); (try k_fold)))
def insAt (l : List Str) (k : Nat) (y : Str) : List Str := l.take k ++ y :: l.drop k
def insV (l : List Value) (k : Nat) (y : Value) : List Value := l.take k ++ y :: l.drop k
theorem StrsAre.take : ∀ {vs : List Value} {xs : List Str} (k : Nat), StrsAre vs xs → StrsAre (vs.take k) (xs.take k)
  | _, _, 0, _ => by simpa using StrsAre.nil
  | _, _, k + 1, .nil => by simpa using StrsAre.nil
  | _, _, k + 1, .cons x t h => .cons x t (StrsAre.take k h)
theorem StrsAre.drop' : ∀ {vs : List Value} {xs : List Str} (k : Nat), StrsAre vs xs → StrsAre (vs.drop k) (xs.drop k)
  | _, _, 0, h => by simpa using h
  | _, _, k + 1, .nil => by simpa using StrsAre.nil
  | _, _, k + 1, .cons x t h => by simpa using StrsAre.drop' k h
theorem insV_strs {vs : List Value} {xs : List Str} {k : Nat} {y : Str} {t : Tok} (h : StrsAre vs xs) : StrsAre (insV vs k (.str y t)) (insAt xs k y) :=
  (StrsAre.take k h).append' (.cons _ _ (StrsAre.drop' k h))
theorem kl_ins_at {l : List Value} {k : Nat} {y : Value} (h : k ≤ l.length) : kl_ins l (k : Int) y = insV l k y := by
  unfold kl_ins insV
  have e : (if (k : Int) < 0 then ((k : Int) + (l.length : Int)).toNat else min (k : Int).toNat l.length) = k := by
    rw [if_neg (by omega), Int.toNat_natCast, Nat.min_eq_left h]
  rw [e]
set_option maxHeartbeats 4000000 in
theorem insort (w : World) (mean mg mb) (a : Addr) (vs : List Value) (qs : List (List Nat)) (k : Nat) (q : List Nat) (hq : q ∈ U) (t : Tok) (hS : StrsAre vs (qs.map nm)) (hU : ∀ q ∈ qs, q ∈ U) (hz : qs.length ≤ 1000) (hm : Mono (fun y => ltS y (td q)) (qs.map td))
    (news news' : List (Addr × Obj)) (hUpd : Upd a (listOf (List.toArray vs) k) (listOf (List.toArray (insV vs (cut (fun y => ltS y (td q)) (qs.map td)) (.str (nm q) t))) (k + 1)) news news') (dp un : Nat) (gd : Option (List Code)) (cn : Str) (cs : Scope) (fa : Addr) (ccd : Value) (cl : List (Str × Addr)) (outer : List Env) (A₀ : Around) (base h₀ : Heap) (L : Addr) (m : Str → Option Value) (s : Shared) (Q E : Value → Shared → Prop)
    (B : Below A₀ base outer h₀) (F : Fr h₀ L s.heap m) (X : (hd.heap_39 w.params).In h₀) (N : News h₀ L s.heap news) (T : Top hd.view_39 Loose mean mg mb h₀) (hk : cs.kind = .function) (hd : dp + 8 < recursionLimit) (hu : un + 8 * 8 < cLine)
    (hret : ∀ (h' : Heap) (tk' : Nat), Fr h₀ L h' m → News h₀ L h' news' → Q .none { s with heap := h', toks := tk' }) :
    wpAny (model PySem.Challenge.rw_zs0002_01.row.prog w) (ktrTop dp un gd cn cs L fa ccd cl outer) (call (.ref 80) [.ref a, .str (nm q) t] [(Str.ofString "key", .ref 101)]) Q E s := by
  have hmem : (a, listOf (List.toArray vs) k) ∈ news := by
    obtain ⟨pre, post, rfl, -⟩ := hUpd.split
    exact List.mem_append_right _ (.head _)
  have hl : vs.length = qs.length := by rw [hS.length, List.length_map]
  have hc : cut (fun y => ltS y (td q)) (qs.map td) ≤ vs.length := by
    rw [hl, ← List.length_map (f := td)]
    exact List.length_filter_le _ _
  have hf : Builtin.List.listFitsIndex ((cut (fun y => ltS y (td q)) (qs.map td) : Nat) : Int) = true := by
    generalize cut (fun y => ltS y (td q)) (qs.map td) = n at hc
    unfold Builtin.List.listFitsIndex
    simp
    omega
  have he := kl_ins_at (y := Value.str (nm q) t) hc
  revert X; k_fill; intro X
  refine wpAny_call ?_
  k_dflt (refine' code_def (binds := [(Str.ofString "a", .ref a), (Str.ofString "x", .str (nm q) t), (Str.ofString "lo", .int 0 357), (Str.ofString "hi", .none), (Str.ofString "key", .ref 101)]) B F X N T (by exact rfl) (by exact rfl) hk ?k6 ?k7 ?k8 ?k9 ?kB ?kM ?c2 ?c3 ?c4 ?c5)
  case k6 => k_is
  case k7 => k_is
  case k8 => ktr_room
  case k9 => exact kp_binds (K := Mine.hd.heap_39 w.params) (by k_in) (fun _ => by rfl)
  case c5 => decide
  case kB => exact locs rfl
  case c2 => exact rfl
  case c3 => exact rfl
  case c4 => exact rfl
  intro g L' h1 FG FL NL BG XG TG
  k_steps
  refine kl_insert (its := vs.toArray) (by k_asm) (by k_asm) hf (by rw [ksk_tl]; exact he) hUpd (by rw [ksk_tl, sizeLine_eq]; omega) ?_
  intro h2 F2 N2
  k_steps
  exact hret _ _ (by k_asm) (by k_asm)
end Mine
end
section
open PySem PySem.W PyProof.Rows
namespace Mine
set_option maxRecDepth 100000

/-- hosts in the order that they came, and sorted -/
structure Good (qs os : List (List Nat)) : Prop where
  mem : ∀ q ∈ qs, q ∈ U
  nodup : qs.Nodup
  perm : os.Perm qs
  sorted : os.Pairwise (fun a b => ltS (td a) (td b) = true)
def num (y : Str) : Nat := if y == labS 0 then 0 else if y == labS 1 then 1 else 2
def decN (x : Str) : List Nat := ((Txt.split x (Str.ofString ".")).map num).dropLast
def decT (x : Str) : List Nat := (((Txt.split x (Str.ofString "|")).map num).dropLast.drop 1).reverse
theorem dec_ok : ∀ q ∈ U, decN (nm q) = q ∧ decT (td q) = q := U_parts (by decide +kernel) (by decide +kernel) (by decide +kernel) (by decide +kernel) (by decide +kernel)
theorem nm_inj (q) (hq : q ∈ U) (p) (hp : p ∈ U) (e : nm q = nm p) : q = p := by
  rw [← (dec_ok q hq).1, ← (dec_ok p hp).1, e]
theorem td_inj (q) (hq : q ∈ U) (p) (hp : p ∈ U) (e : td q = td p) : q = p := by
  rw [← (dec_ok q hq).2, ← (dec_ok p hp).2, e]
theorem ltS_trans {a b c : Str} (h : ltS a b = true) (g : ltS b c = true) : ltS a c = true := by
  unfold ltS at *
  exact decide_eq_true (List.lt_trans (of_decide_eq_true h) (of_decide_eq_true g))
theorem ltS_irrefl (a : Str) : ltS a a = false := by
  unfold ltS
  exact decide_eq_false (List.lt_irrefl _)
theorem ltS_total {a b : Str} (h : ltS a b = false) (g : ltS b a = false) : a = b := by
  unfold ltS at *
  have h1 := of_decide_eq_false h
  have h2 := of_decide_eq_false g
  have : a.cps.toList = b.cps.toList := List.le_antisymm (List.not_lt.mp h2) (List.not_lt.mp h1)
  cases a; cases b
  simp only at this
  rw [Array.toList_inj.mp this]
theorem ltS_asymm {a b : Str} (h : ltS a b = true) : ltS b a = false := by
  cases e : ltS b a with
  | false => rfl
  | true => have := ltS_trans h e; rw [ltS_irrefl] at this; cases this
/-- less than y, then all ahead are -/
theorem mono_sorted {l : List Str} (h : l.Pairwise (fun a b => ltS a b = true)) (y : Str) : Mono (fun x => ltS x y) l := by
  intro i j a b hij ha hb hlt
  rcases Nat.lt_or_eq_of_le hij with h1 | rfl
  · obtain ⟨hi, rfl⟩ := List.getElem?_eq_some_iff.mp ha
    obtain ⟨hj, rfl⟩ := List.getElem?_eq_some_iff.mp hb
    exact ltS_trans (List.pairwise_iff_getElem.mp h i j hi hj h1) hlt
  · rw [ha] at hb; cases hb; exact hlt
theorem Good.sorted_td {qs os : List (List Nat)} (G : Good qs os) : (os.map td).Pairwise (fun a b => ltS a b = true) := by
  rw [List.pairwise_map]; exact G.sorted
theorem Good.memO {qs os : List (List Nat)} (G : Good qs os) : ∀ q ∈ os, q ∈ U := fun q h => G.mem q (G.perm.mem_iff.mp h)
theorem Good.lenO {qs os : List (List Nat)} (G : Good qs os) : os.length = qs.length := G.perm.length_eq
theorem Good.nil : Good [] [] := ⟨by simp, .nil, .nil, .nil⟩
theorem contains_nm {qs : List (List Nat)} {q : List Nat} (h : ∀ q ∈ qs, q ∈ U) (hq : q ∈ U) : (qs.map nm).contains (nm q) = qs.contains q := by
  rw [Bool.eq_iff_iff, List.contains_iff_mem, List.contains_iff_mem, List.mem_map]
  constructor
  · rintro ⟨p, hp, e⟩
    rw [nm_inj q hq p (h p hp) e.symm]; exact hp
  · intro hm; exact ⟨q, hm, rfl⟩
def insQ (l : List (List Nat)) (k : Nat) (q : List Nat) : List (List Nat) := l.take k ++ q :: l.drop k
theorem insQ_nm (l : List (List Nat)) (k : Nat) (q : List Nat) : (insQ l k q).map nm = insAt (l.map nm) k (nm q) := by
  unfold insQ insAt
  rw [List.map_append, List.map_cons, List.map_take, List.map_drop]
/-- in a sorted list, the ones that are less stand ahead -/
theorem take_cut {p : List Nat → Bool} : ∀ {l : List (List Nat)}, (∀ (i j : Nat) (a b : List Nat), i ≤ j → l[i]? = some a → l[j]? = some b → p b = true → p a = true) →
    l.take (l.filter p).length = l.filter p ∧ l.drop (l.filter p).length = l.filter (fun a => !p a)
  | [], _ => ⟨rfl, rfl⟩
  | a :: l, h => by
    have ih := take_cut (p := p) (l := l) fun i j x y hij hx hy => h (i + 1) (j + 1) x y (by omega) (by simpa using hx) (by simpa using hy)
    cases hp : p a with
    | true =>
      rw [List.filter_cons_of_pos hp, List.filter_cons_of_neg (by rw [hp]; decide), List.length_cons, List.take_succ_cons, List.drop_succ_cons, ih.1, ih.2]
      exact ⟨rfl, rfl⟩
    | false =>
      have hn : ∀ b ∈ l, p b = false := fun b hb => by
        obtain ⟨j, hj, rfl⟩ := List.getElem_of_mem hb
        cases e : p l[j] with
        | false => rfl
        | true => have := h 0 (j + 1) a l[j] (by omega) (by simp) (by simp) e; rw [hp] at this; cases this
      have e1 : l.filter p = [] := List.filter_eq_nil_iff.mpr fun b hb => by rw [hn b hb]; decide
      have e2 : l.filter (fun a => !p a) = l := List.filter_eq_self.mpr fun b hb => by rw [hn b hb]; rfl
      rw [List.filter_cons_of_neg (by rw [hp]; decide), List.filter_cons_of_pos (by rw [hp]; rfl), e1, e2]
      exact ⟨rfl, rfl⟩
theorem mono_q {l : List (List Nat)} (h : l.Pairwise (fun a b => ltS (td a) (td b) = true)) (y : Str) (i j : Nat) (a b : List Nat) (hij : i ≤ j) (ha : l[i]? = some a) (hb : l[j]? = some b) (hlt : ltS (td b) y = true) : ltS (td a) y = true := by
  have hm := mono_sorted (l := l.map td) (by rw [List.pairwise_map]; exact h) y
  exact hm i j (td a) (td b) hij (by rw [List.getElem?_map, ha]; rfl) (by rw [List.getElem?_map, hb]; rfl) hlt
theorem cut_td (l : List (List Nat)) (y : Str) : cut (fun x => ltS x y) (l.map td) = (l.filter (fun q => ltS (td q) y)).length := by
  unfold cut
  rw [List.filter_map, List.length_map]
  rfl
theorem Good.ins {qs os : List (List Nat)} (G : Good qs os) {q : List Nat} (hq : q ∈ U) (hn : q ∉ qs) : Good (qs ++ [q]) (insQ os (cut (fun y => ltS y (td q)) (os.map td)) q) := by
  rw [cut_td]
  have e := take_cut (p := fun a => ltS (td a) (td q)) (l := os) (mono_q G.sorted (td q))
  have hn' : q ∉ os := fun h => hn (G.perm.mem_iff.mp h)
  have hs1 := G.sorted.filter (fun a => ltS (td a) (td q))
  have hs2 := G.sorted.filter (fun a => !ltS (td a) (td q))
  unfold insQ
  refine ⟨?_, ?_, ?_, ?_⟩
  · intro p hp
    rcases List.mem_append.mp hp with h | h
    · exact G.mem p h
    · rw [List.mem_singleton.mp h]; exact hq
  · rw [List.nodup_append]
    refine ⟨G.nodup, by simp, ?_⟩
    intro a ha b hb
    rw [List.mem_singleton.mp hb]
    exact fun e => hn (e ▸ ha)
  · refine List.perm_middle.trans ?_
    rw [List.take_append_drop]
    exact ((G.perm.cons q).trans (List.perm_append_singleton q qs).symm)
  · rw [e.1, e.2, List.pairwise_append]
    have gt : ∀ b ∈ os.filter (fun a => !ltS (td a) (td q)), ltS (td q) (td b) = true := fun b hb => by
      obtain ⟨h1, h2⟩ := List.mem_filter.mp hb
      cases e : ltS (td q) (td b) with
      | true => rfl
      | false =>
        have := td_inj q hq b (G.memO b h1) (ltS_total e (by simpa using h2))
        exact absurd (this ▸ h1) hn'
    refine ⟨hs1, ?_, ?_⟩
    · rw [List.pairwise_cons]
      exact ⟨gt, hs2⟩
    · intro a ha b hb
      have ha2 := (List.mem_filter.mp ha).2
      rcases List.mem_cons.mp hb with rfl | hb
      · exact ha2
      · exact ltS_trans ha2 (gt b hb)
end Mine
end
section
open PySem PySem.W PyProof.Rows PySem.Spec
namespace Mine
set_option maxRecDepth 100000

theorem perm_uniq {α : Type} {R : α → α → Prop} : ∀ {l₁ l₂ : List α}, l₁.Perm l₂ → l₁.Pairwise R → l₂.Pairwise R → (∀ a ∈ l₁, ∀ b ∈ l₁, R a b → R b a → a = b) → l₁ = l₂
  | [], l₂, hp, _, _, _ => (List.nil_perm.mp hp).symm
  | a :: l₁, [], hp, _, _, _ => absurd hp.length_eq (by simp)
  | a :: l₁, b :: l₂, hp, h1, h2, an => by
    obtain ⟨h1a, h1b⟩ := List.pairwise_cons.mp h1
    obtain ⟨h2a, h2b⟩ := List.pairwise_cons.mp h2
    have e : a = b := by
      rcases List.mem_cons.mp (hp.mem_iff.mp (List.mem_cons_self ..)) with e | ha
      · exact e
      · rcases List.mem_cons.mp (hp.mem_iff.mpr (List.mem_cons_self ..)) with e | hb
        · exact e.symm
        · exact an a (.head _) b (.tail _ hb) (h1a b hb) (h2a a ha)
    subst e
    rw [perm_uniq (List.Perm.cons_inv hp) h1b h2b fun x hx y hy => an x (.tail _ hx) y (.tail _ hy)]
/-- the key of a host's text -/
def gk (x : Str) : Str := td (decN x)
theorem gk_nm {q} (hq : q ∈ U) : gk (nm q) = td q := by unfold gk; rw [(dec_ok q hq).1]
theorem sk_uniq {qs os : List (List Nat)} (G : Good qs os) {xs : List Str} (hp : xs.Perm (qs.map nm)) (hs : xs.Pairwise (fun a b => ltS (gk b) (gk a) = false)) : xs = os.map nm := by
  have hx : ∀ a ∈ xs, ∃ q ∈ U, a = nm q := fun a ha => by
    obtain ⟨q, hq, rfl⟩ := List.mem_map.mp (hp.mem_iff.mp ha)
    exact ⟨q, G.mem q hq, rfl⟩
  refine perm_uniq (hp.trans (G.perm.symm.map nm)) hs ?_ ?_
  · rw [List.pairwise_map]
    refine G.sorted.imp_of_mem fun {a b} ha hb h => ?_
    rw [gk_nm (G.memO a ha), gk_nm (G.memO b hb)]
    exact ltS_asymm h
  · intro a ha b hb h1 h2
    obtain ⟨q, hq, rfl⟩ := hx a ha
    obtain ⟨p, hp, rfl⟩ := hx b hb
    rw [gk_nm hq, gk_nm hp] at h1 h2
    rw [td_inj q hq p hp (ltS_total h2 h1)]
theorem cps_le_trans {a b c : List Nat} (h : ltCps b a = false) (g : ltCps c b = false) : ltCps c a = false := by
  rw [ltCps_eq] at *
  have h1 := List.not_lt.mp (of_decide_eq_false h)
  have h2 := List.not_lt.mp (of_decide_eq_false g)
  exact decide_eq_false (List.not_lt.mpr (List.le_trans h1 h2))
theorem rising_all : ∀ {l : List Str} {p : Str}, risingS p l = true → ∀ x ∈ l, ltCps x.cps.toList p.cps.toList = false
  | [], _, _, x, hx => by cases hx
  | y :: l, p, h, x, hx => by
    have h' : (!ltCps y.cps.toList p.cps.toList && risingS y l) = true := h
    rw [Bool.and_eq_true, Bool.not_eq_true'] at h'
    rcases List.mem_cons.mp hx with rfl | hx
    · exact h'.1
    · exact cps_le_trans h'.1 (rising_all h'.2 x hx)
theorem rising_pair : ∀ {l : List Str} {p : Str}, risingS p l = true → (p :: l).Pairwise (fun a b => ltCps b.cps.toList a.cps.toList = false)
  | [], _, _ => by simp
  | y :: l, p, h => by
    have h' : (!ltCps y.cps.toList p.cps.toList && risingS y l) = true := h
    rw [Bool.and_eq_true, Bool.not_eq_true'] at h'
    exact List.pairwise_cons.mpr ⟨rising_all h, rising_pair h'.2⟩
theorem sortedS_pair : ∀ {l : List Str}, sortedS l = true → l.Pairwise (fun a b => ltCps b.cps.toList a.cps.toList = false)
  | [], _ => .nil
  | _ :: _, h => rising_pair h
theorem sortedS_uniq {l₁ l₂ : List Str} (h1 : sortedS l₁ = true) (h2 : sortedS l₂ = true) (hp : l₁.Perm l₂) : l₁ = l₂ :=
  perm_uniq hp (sortedS_pair h1) (sortedS_pair h2) fun a _ b _ g1 g2 => by
    rw [ltCps_eq] at g1 g2
    exact ltS_total g2 g1
theorem ok_nm : ∀ q ∈ U, PyData.strOk (nm q) = true ∧ PyData.strOk (zn q) = true := by decide +kernel
theorem ok_nms {l : List (List Nat)} (h : ∀ q ∈ l, q ∈ U) : ∀ y ∈ l.map nm, PyData.strOk y = true := fun y hy => by
  obtain ⟨q, hq, rfl⟩ := List.mem_map.mp hy
  exact (ok_nm q (h q hq)).1
theorem ok_zns {l : List (List Nat)} (h : ∀ q ∈ l, q ∈ U) : ∀ y ∈ l.map zn, PyData.strOk y = true := fun y hy => by
  obtain ⟨q, hq, rfl⟩ := List.mem_map.mp hy
  exact (ok_nm q (h q hq)).2
/-- the zones' list grows -/
def addZ (zs : List (List Nat)) (q : List Nat) : List (List Nat) := zs ++ (above q).filter (fun p => !zs.contains p)
def decZ (x : Str) : List Nat := decN (Txt.slice x (some 1) none)
theorem zn_inj (q) (hq : q ∈ V) (p) (hp : p ∈ V) (e : zn q = zn p) : q = p := by
  have h1 := (low_zn q hq).2.2.2
  have h2 := (low_zn p hp).2.2.2
  exact nm_inj q (V_U q hq) p (V_U p hp) (by rw [← h1, ← h2, e])
theorem contains_zn {zs : List (List Nat)} {q : List Nat} (h : ∀ q ∈ zs, q ∈ V) (hq : q ∈ V) : (zs.map zn).contains (zn q) = zs.contains q := by
  rw [Bool.eq_iff_iff, List.contains_iff_mem, List.contains_iff_mem, List.mem_map]
  constructor
  · rintro ⟨p, hp, e⟩
    rw [zn_inj q hq p (h p hp) e.symm]; exact hp
  · intro hm; exact ⟨q, hm, rfl⟩
theorem addZ_zn {zs : List (List Nat)} {q : List Nat} (h : ∀ q ∈ zs, q ∈ V) (hq : q ∈ U) : zs.map zn ++ ((above q).map zn).filter (fun y => !(zs.map zn).contains y) = (addZ zs q).map zn := by
  unfold addZ
  rw [List.map_append, List.filter_map]
  congr 2
  apply List.filter_congr
  intro p hp
  show (!(zs.map zn).contains (zn p)) = _
  rw [contains_zn h (above_V q hq p hp)]
theorem above_form : ∀ q ∈ U, (List.range ((labs q).length - 2)).map (fun i => zn (q.drop (1 + i))) = (above q).map zn := by decide +kernel
theorem own_all : ∀ q ∈ U, (List.range ((labs q).length - 2)).all (fun i => (Txt.join (Str.ofString ".") ((labs q).drop (1 + i)) == nm (q.drop (1 + i))) && decide ((nm (q.drop (1 + i))).length ≤ 1000) && decide ((((labs q).drop (1 + i)).map (·.length)).sum + ((labs q).drop (1 + i)).length * (Str.ofString ".").length ≤ 16777216) && (Str.ofString "." ++ nm (q.drop (1 + i)) == zn (q.drop (1 + i)))) = true := by decide +kernel
theorem own_facts {q} (hq : q ∈ U) {i : Nat} (hi : i < (labs q).length - 2) : Txt.join (Str.ofString ".") ((labs q).drop (1 + (i : Int)).toNat) = nm (q.drop (1 + i)) ∧ (nm (q.drop (1 + i))).length ≤ 1000 ∧ (((labs q).drop (1 + (i : Int)).toNat).map (·.length)).sum + ((labs q).drop (1 + (i : Int)).toNat).length * (Str.ofString ".").length ≤ 16777216 ∧ Str.ofString "." ++ nm (q.drop (1 + i)) = zn (q.drop (1 + i)) := by
  have e : (1 + (i : Int)).toNat = 1 + i := by omega
  have h := List.all_eq_true.mp (own_all q hq) i (List.mem_range.mpr hi)
  rw [Bool.and_eq_true, Bool.and_eq_true, Bool.and_eq_true] at h
  rw [e]
  exact ⟨eq_of_beq h.1.1.1, of_decide_eq_true h.1.1.2, of_decide_eq_true h.1.2, eq_of_beq h.2⟩
theorem labs_two : ∀ q ∈ U, 2 ≤ (labs q).length ∧ (labs q).length ≤ 5 ∧ Txt.split (nm q) (Str.ofString ".") = labs q ∧ ((above q).map zn).length ≤ 3 ∧ ∀ p ∈ above q, p ∈ U := by decide +kernel
/-- the zones of the first hosts -/
def zonesOf (qs : List (List Nat)) : List (List Nat) := qs.foldl addZ []
theorem zonesOf_snoc (qs : List (List Nat)) (q : List Nat) : zonesOf (qs ++ [q]) = addZ (zonesOf qs) q := by
  unfold zonesOf
  rw [List.foldl_append]
  rfl
theorem addZ_mem {zs : List (List Nat)} {q : List Nat} (h : ∀ p ∈ zs, p ∈ V) (hq : q ∈ U) : ∀ p ∈ addZ zs q, p ∈ V := fun p hp => by
  rcases List.mem_append.mp hp with hp | hp
  · exact h p hp
  · exact above_V q hq p (List.mem_filter.mp hp).1
theorem addZ_len {zs : List (List Nat)} {q : List Nat} (hq : q ∈ U) : (addZ zs q).length ≤ zs.length + 3 := by
  unfold addZ
  rw [List.length_append]
  have := List.length_filter_le (fun p => !zs.contains p) (above q)
  have := (labs_two q hq).2.2.2.1
  rw [List.length_map] at this
  omega
theorem take_snoc {qs : List (List Nat)} {i : Nat} {q : List Nat} (h : qs[i]? = some q) : qs.take (i + 1) = qs.take i ++ [q] := by
  rw [List.take_add_one, h]
  rfl
end Mine
end
section
open PySem PySem.W PyProof.Rows PySem.Spec
namespace Mine
set_option maxRecDepth 100000

def lx : List Nat → List Nat → Bool
  | _, [] => false
  | [], _ :: _ => true
  | a :: x, b :: y => Nat.blt a b || (Nat.beq a b && lx x y)
theorem lx_eq : ∀ (x y : List Nat), lx x y = decide (x < y)
  | x, [] => by
    cases x <;> simp [lx]
  | [], b :: y => by simp [lx]
  | a :: x, b :: y => by
    rw [Bool.eq_iff_iff, decide_eq_true_iff, List.cons_lt_cons_iff, lx, lx_eq x y]
    simp
theorem ltS_lx (x y : Str) : ltS x y = lx x.cps.toList y.cps.toList := by rw [lx_eq]; rfl
def tdt (p : List Nat) : Str := td p ++ Str.ofString "~"
theorem td_cps (q : List Nat) : (td q).cps.toList = tdL q := by simp [td]
theorem tdt_cps : ∀ p ∈ V, (tdt p).cps.toList = tdL p ++ [126] ∧ (td p).length ≤ 1000 ∧ (zn p).length ≤ 1000 := by decide +kernel
theorem key_all : (U.all fun q => V.all fun p => ((lx (tdL q) (tdL p ++ [126]) && !lx (tdL q) (tdL p)) == (q == p || sfx q p)) && (!lx (tdL q) (tdL p) || lx (tdL q) (tdL p ++ [126])) && (sfx q p || !(sfx p p)) && !(sfx p p)) = true := by decide +kernel
theorem key_facts {q p} (hq : q ∈ U) (hp : p ∈ V) : ((ltS (td q) (tdt p) && !ltS (td q) (td p)) = (q == p || sfx q p)) ∧ (ltS (td q) (td p) = true → ltS (td q) (tdt p) = true) ∧ sfx p p = false := by
  have h := List.all_eq_true.mp (List.all_eq_true.mp key_all q hq) p hp
  rw [Bool.and_eq_true, Bool.and_eq_true, Bool.and_eq_true] at h
  obtain ⟨⟨⟨h1, h2⟩, -⟩, h3⟩ := h
  rw [ltS_lx, ltS_lx, td_cps, td_cps, (tdt_cps p hp).1]
  refine ⟨eq_of_beq h1, fun e => ?_, by simpa using h3⟩
  rw [e] at h2
  simpa using h2
section
variable {qs os : List (List Nat)} {p : List Nat}
theorem run_eq (G : Good qs os) (hp : p ∈ V) : ((os.map nm).take ((cut (fun y => ltS y (tdt p)) (os.map td) : Nat) : Int).toNat).drop ((cut (fun y => ltS y (td p)) (os.map td) : Nat) : Int).toNat = (os.filter (fun q => q == p || sfx q p)).map nm := by
  rw [Int.toNat_natCast, Int.toNat_natCast, cut_td, cut_td, ← List.map_take, ← List.map_drop]
  congr 1
  rw [(take_cut (p := fun q => ltS (td q) (tdt p)) (mono_q G.sorted _)).1]
  have e : os.filter (fun q => ltS (td q) (td p)) = (os.filter (fun q => ltS (td q) (tdt p))).filter (fun q => ltS (td q) (td p)) := by
    rw [List.filter_filter]
    apply List.filter_congr
    intro q hq
    have := (key_facts (G.memO q hq) hp).2.1
    cases h : ltS (td q) (td p) with
    | false => rfl
    | true => rw [this h]; rfl
  rw [e, (take_cut (p := fun q => ltS (td q) (td p)) (mono_q (G.sorted.filter _) _)).2, List.filter_filter]
  apply List.filter_congr
  intro q hq
  rw [← (key_facts (G.memO q hq) hp).1, Bool.and_comm]
/-- what inside's test asks of a text -/
def pS (p : List Nat) (y : Str) : Bool := sfx (decN y) p
theorem filt_nm {l : List (List Nat)} {f : Str → Bool} {g : List Nat → Bool} (e : ∀ q ∈ l, f (nm q) = g q) : (l.map nm).filter f = (l.filter g).map nm := by
  rw [List.filter_map]
  congr 1
  exact List.filter_congr e
theorem pS_nm {q} (hq : q ∈ U) : pS p (nm q) = sfx q p := by unfold pS; rw [(dec_ok q hq).1]
theorem ne_nm {q} (hq : q ∈ U) (hp : p ∈ U) : (nm q != nm p) = !(q == p) := by
  unfold bne
  congr 1
  rw [Bool.eq_iff_iff, beq_iff_eq, beq_iff_eq]
  exact ⟨nm_inj q hq p hp, fun e => by rw [e]⟩
theorem eq_nm {q} (hq : q ∈ U) (hp : p ∈ U) : (nm q == nm p) = (q == p) := by
  rw [Bool.eq_iff_iff, beq_iff_eq, beq_iff_eq]
  exact ⟨nm_inj q hq p hp, fun e => by rw [e]⟩
theorem own_eq (G : Good qs os) (hp : p ∈ V) : ((os.filter (fun q => q == p || sfx q p)).map nm).filter (fun y => y != nm p) = (os.filter (fun q => sfx q p)).map nm := by
  rw [filt_nm (g := fun q => !(q == p)) (fun q hq => ne_nm (G.memO q (List.mem_filter.mp hq).1) (V_U p hp)), List.filter_filter]
  congr 1
  apply List.filter_congr
  intro q hq
  by_cases e : q = p
  · subst e
    rw [(key_facts (V_U q hp) hp).2.2]
    simp
  · rw [beq_false_of_ne e]
    simp
theorem in_zone {q} (hq : q ∈ U) (hp : p ∈ V) : ((above q).map zn).contains (zn p) = sfx q p := contains_zn (above_V q hq) hp
theorem perm_in (G : Good qs os) : ((os.filter (fun q => sfx q p)).map nm).Perm ((qs.filter (fun q => sfx q p)).map nm) := (G.perm.filter _).map _
end
theorem perm_ok {a b : List Str} (h : ∀ y ∈ b, PyData.strOk y = true) (hp : a.Perm b) : ∀ y ∈ a, PyData.strOk y = true := fun y hy => h y (hp.mem_iff.mp hy)
end Mine
end
section
open PySem PySem.W PyProof.Rows PySem.Spec
namespace Mine
set_option maxRecDepth 100000

def lcpN : List Nat → List Nat → Nat
  | a :: as, b :: bs => if a = b then lcpN as bs + 1 else 0
  | _, _ => 0
theorem lcp3 : ∀ {a b c : List Nat}, lx a b = true → lx b c = true → lcpN a c = min (lcpN a b) (lcpN b c)
  | [], b, c, _, _ => by simp [lcpN]
  | x :: a, [], c, h, _ => by simp [lx] at h
  | x :: a, y :: b, [], _, h => by simp [lx] at h
  | x :: a, y :: b, z :: c, h, g => by
    simp only [lx, Bool.or_eq_true, Bool.and_eq_true, Nat.blt_eq, Nat.beq_eq] at h g
    rcases h with h | ⟨rfl, h⟩
    · rcases g with g | ⟨rfl, g⟩
      · simp only [lcpN, if_neg (Nat.ne_of_lt h), if_neg (Nat.ne_of_lt (Nat.lt_trans h g)), Nat.zero_min]
      · simp only [lcpN, if_neg (Nat.ne_of_lt h), Nat.zero_min]
    · rcases g with g | ⟨rfl, g⟩
      · simp only [lcpN, if_neg (Nat.ne_of_lt g), Nat.min_zero]
      · have := lcp3 h g
        simp only [lcpN, if_true, this]
        omega
/-- the common start of two in a sorted list is the least of the neighbours' -/
theorem lcp_law {l : List (List Nat)} (hs : l.Pairwise (fun a b => lx a b = true)) : ∀ (d j : Nat) (a b : List Nat), l[j]? = some a → l[j + d + 1]? = some b →
    (∀ i, i ≤ d → ∀ x y, l[j + i]? = some x → l[j + i + 1]? = some y → lcpN a b ≤ lcpN x y) ∧ ∃ i x y, i ≤ d ∧ l[j + i]? = some x ∧ l[j + i + 1]? = some y ∧ lcpN x y ≤ lcpN a b
  | 0, j, a, b, ha, hb => by
    refine ⟨fun i hi x y hx hy => ?_, 0, a, b, Nat.le_refl _, ha, hb, Nat.le_refl _⟩
    have : i = 0 := by omega
    subst this
    rw [Nat.add_zero] at hx hy
    rw [Nat.add_zero] at hb
    rw [ha] at hx
    rw [hb] at hy
    cases hx; cases hy
    exact Nat.le_refl _
  | d + 1, j, a, b, ha, hb => by
    have hlen := (List.getElem?_eq_some_iff.mp hb).1
    obtain ⟨c, hc⟩ : ∃ c, l[j + d + 1]? = some c := ⟨_, List.getElem?_eq_getElem (by omega)⟩
    obtain ⟨h1, i, x, y, hi, hx, hy, hle⟩ := lcp_law hs d j a c ha hc
    have gt : ∀ (s t : Nat) (x y : List Nat), s < t → l[s]? = some x → l[t]? = some y → lx x y = true := fun s t x y hst hx hy => by
      obtain ⟨h1, rfl⟩ := List.getElem?_eq_some_iff.mp hx
      obtain ⟨h2, rfl⟩ := List.getElem?_eq_some_iff.mp hy
      exact List.pairwise_iff_getElem.mp hs s t h1 h2 hst
    have e3 := lcp3 (gt _ _ _ _ (by omega) ha hc) (gt _ _ _ _ (by omega) hc hb)
    have eb : j + (d + 1) + 1 = j + d + 1 + 1 := by omega
    rw [eb] at hb
    refine ⟨fun s hs' u v hu hv => ?_, ?_⟩
    · rw [e3]
      rcases Nat.lt_or_eq_of_le hs' with hlt | rfl
      · exact Nat.le_trans (Nat.min_le_left _ _) (h1 s (by omega) u v hu hv)
      · rw [show j + (d + 1) = j + d + 1 by omega] at hu hv
        rw [hc] at hu
        rw [hb] at hv
        cases hu; cases hv
        exact Nat.min_le_right _ _
    · by_cases hcm : lcpN a c ≤ lcpN c b
      · exact ⟨i, x, y, by omega, hx, hy, by rw [e3, Nat.min_eq_left hcm]; exact hle⟩
      · exact ⟨d + 1, c, b, Nat.le_refl _, hc, hb, by rw [e3, Nat.min_eq_right (by omega)]; exact Nat.le_refl _⟩
theorem td_form : ∀ (q : List Nat), tdL q = [99, 99, 124] ++ q.reverse.flatMap (fun x => lab x ++ [124])
  | [] => rfl
  | x :: q => by
    rw [tdL, td_form q, List.reverse_cons, List.flatMap_append, List.append_assoc]
    simp
theorem lx_step {x y : Nat} (hx : x < 3) (hy : y < 3) (s t : List Nat) : lx ((lab x ++ [124]) ++ s) ((lab y ++ [124]) ++ t) = (Nat.blt x y || (Nat.beq x y && lx s t)) := by
  obtain rfl | rfl | rfl : x = 0 ∨ x = 1 ∨ x = 2 := by omega
  all_goals obtain rfl | rfl | rfl : y = 0 ∨ y = 1 ∨ y = 2 := by omega
  all_goals rfl
theorem lx_flat : ∀ {a b : List Nat}, (∀ x ∈ a, x < 3) → (∀ x ∈ b, x < 3) → lx (a.flatMap (fun x => lab x ++ [124])) (b.flatMap (fun x => lab x ++ [124])) = lx a b
  | a, [], _, _ => by cases a <;> simp [lx]
  | [], y :: b, _, h => by
    have : lab y ++ [124] ≠ [] := by simp
    rw [List.flatMap_nil, List.flatMap_cons]
    cases e : lab y ++ [124] with
    | nil => exact absurd e this
    | cons u v => rfl
  | x :: a, y :: b, ha, hb => by
    rw [List.flatMap_cons, List.flatMap_cons, lx_step (ha x (.head _)) (hb y (.head _)), lx_flat (fun z hz => ha z (.tail _ hz)) fun z hz => hb z (.tail _ hz)]
    rfl
theorem U_small : ∀ q ∈ U, (∀ x ∈ q, x < 3) ∧ (labs q).reverse = ccS :: q.reverse.map labS := by decide +kernel
theorem lt_rev {q p} (hq : q ∈ U) (hp : p ∈ U) : ltS (td q) (td p) = lx q.reverse p.reverse := by
  rw [ltS_lx, td_cps, td_cps, td_form, td_form, ← lx_flat (fun x hx => (U_small q hq).1 x (List.mem_reverse.mp hx)) fun x hx => (U_small p hp).1 x (List.mem_reverse.mp hx)]
  rfl
theorem labS_inj {x y : Nat} (hx : x < 3) (hy : y < 3) : labS x = labS y ↔ x = y := by
  obtain rfl | rfl | rfl : x = 0 ∨ x = 1 ∨ x = 2 := by omega
  all_goals obtain rfl | rfl | rfl : y = 0 ∨ y = 1 ∨ y = 2 := by omega
  all_goals decide +kernel
theorem lcp_map : ∀ {a b : List Nat}, (∀ x ∈ a, x < 3) → (∀ x ∈ b, x < 3) → lcp (a.map labS) (b.map labS) = lcpN a b
  | [], _, _, _ => by simp [lcp, lcpN]
  | _ :: _, [], _, _ => by simp [lcp, lcpN]
  | x :: a, y :: b, ha, hb => by
    have ih := lcp_map (fun z hz => ha z (.tail _ hz)) fun z hz => hb z (.tail _ hz)
    simp only [List.map_cons, lcp, lcpN, ih, labS_inj (ha x (.head _)) (hb y (.head _))]
theorem cmn_rev {q p} (hq : q ∈ U) (hp : p ∈ U) : cmn q p = lcpN q.reverse p.reverse + 1 := by
  unfold cmn
  rw [(U_small q hq).2, (U_small p hp).2, lcp, if_pos rfl, lcp_map (fun x hx => (U_small q hq).1 x (List.mem_reverse.mp hx)) fun x hx => (U_small p hp).1 x (List.mem_reverse.mp hx)]
/-- the host at a place -/
def atO (os : List (List Nat)) (i : Nat) : List Nat := os.getD i []
theorem atO_get {os : List (List Nat)} {i : Nat} (h : i < os.length) : os[i]? = some (atO os i) := by simp [atO, h]
section
variable {qs os : List (List Nat)}
theorem atO_mem (G : Good qs os) {i : Nat} (h : i < os.length) : atO os i ∈ U := G.memO _ (List.mem_of_getElem? (atO_get h))
theorem atO_nm {i : Nat} (h : i < os.length) {k : Int} (hk : k = (i : Int)) : (os.map nm).getD k.toNat Str.empty = nm (atO os i) := by
  subst hk
  rw [Int.toNat_natCast, List.getD_eq_getElem?_getD, List.getElem?_map, atO_get h]
  rfl
theorem min_law (G : Good qs os) {j d : Nat} (h : j + d + 1 < os.length) {M : Int} (hm : M ∈ (List.range (d + 1)).map (fun i => ((cmn (atO os (j + i)) (atO os (j + i + 1)) : Nat) : Int)))
    (hl : ∀ a ∈ (List.range (d + 1)).map (fun i => ((cmn (atO os (j + i)) (atO os (j + i + 1)) : Nat) : Int)), M ≤ a) : M = ((cmn (atO os j) (atO os (j + d + 1)) : Nat) : Int) := by
  have hs : (os.map List.reverse).Pairwise (fun a b => lx a b = true) := by
    rw [List.pairwise_map]
    exact G.sorted.imp_of_mem fun {a b} ha hb h => by rw [← lt_rev (G.memO a ha) (G.memO b hb)]; exact h
  have gt : ∀ i, i < os.length → (os.map List.reverse)[i]? = some (atO os i).reverse := fun i hi => by rw [List.getElem?_map, atO_get hi]; rfl
  obtain ⟨h1, i, x, y, hi, hx, hy, hle⟩ := lcp_law hs d j _ _ (gt j (by omega)) (gt (j + d + 1) h)
  rw [gt _ (by omega)] at hx hy
  cases hx; cases hy
  have c := fun s t (hs : s < os.length) (ht : t < os.length) => cmn_rev (atO_mem G hs) (atO_mem G ht)
  obtain ⟨s, hs', rfl⟩ := List.mem_map.mp hm
  have hs1 := List.mem_range.mp hs'
  have u1 := h1 s (by omega) _ _ (gt _ (by omega)) (gt _ (by omega))
  have u2 := hl _ (List.mem_map.mpr ⟨i, List.mem_range.mpr (by omega), rfl⟩)
  have w1 := c (j + s) (j + s + 1) (by omega) (by omega)
  have w2 := c (j + i) (j + i + 1) (by omega) (by omega)
  have w3 := c j (j + d + 1) (by omega) (by omega)
  omega
end
end Mine
end
section
open PySem PySem.W PyProof.Rows
namespace Mine
theorem clear_W1 : True := by
  w_top off
  trivial
set_option maxRecDepth 100000
local macro_rules | `(tactic| walk_at "getMethod ref") => `(tactic| (k_here; (with_reducible show wpAny _ _ (getMethod (Value.ref 36) _ _) _ _ _); k_dflt (refine re_meth (by k_asm) (by k_asm) ?_)))
local macro_rules | `(tactic| walk_at "call builtin:re.Pattern.search") => `(tactic| (k_here; k_dflt (refine re_none (by k_asm) (by k_asm) (by first | assumption | omega) (by assumption) ?_)))
local macro_rules | `(tactic| walk_at "compareOp Eq str str") => `(tactic| (k_here; with_reducible refine s_eq (by assumption) ?_))
local macro_rules | `(tactic| walk_at "compareOp NotEq str str") => `(tactic| (k_here; with_reducible refine s_ne (by assumption) ?_))
local macro_rules | `(tactic| walk_at "call builtin:str.find") => `(tactic| (k_here; (with_reducible show wpAny _ _ (call (Value.builtin "str.find") [Value.str _ _, Value.str _ _]) _ _ _); (with_reducible refine KXw.find (by assumption) ?_); intro _ _))
local macro_rules | `(tactic| walk_at "call builtin:str.rfind") => `(tactic| (k_here; (with_reducible show wpAny _ _ (call (Value.builtin "str.rfind") [Value.str _ _, Value.str _ _]) _ _ _); (with_reducible refine KXw.rfind (by assumption) ?_); intro _ _))
local macro_rules | `(tactic| walk_at "subscriptTail") => `(tactic| (k_here; (with_reducible show wpAny _ _ (subscriptTail _ _ (Value.str _ _) (Value.int _ _)) _ _ _); (refine s_item (by assumption) (by first | decide | omega) (by first | decide | omega) (by first | decide | omega) (by assumption) ?_); intro _ _))
local macro_rules | `(tactic| walk_at "subscriptTail Name Constant str int") => `(tactic| (k_here; (with_reducible show wpAny _ _ (subscriptTail _ _ (Value.str _ _) (Value.int _ _)) _ _ _); (refine s_item (by assumption) (by first | decide | omega) (by first | decide | omega) (by first | decide | omega) (by assumption) ?_); intro _ _))
local macro_rules | `(tactic| walk_at "subscriptTail Name UnaryOp str int") => `(tactic| (k_here; (with_reducible show wpAny _ _ (subscriptTail _ _ (Value.str _ _) (Value.int _ _)) _ _ _); (refine s_item (by assumption) (by first | decide | omega) (by first | decide | omega) (by first | decide | omega) (by assumption) ?_); intro _ _))
local macro_rules | `(tactic| walk_at "subscriptTail") => `(tactic| (k_here; (with_reducible show wpAny _ _ (subscriptTail _ (Expr.Slice (some _) none none _) (Value.str _ _) (Value.ref _)) _ _ _); (refine s_from (s := ⟨_, _, _, _, _⟩) (by k_asm) (by k_asm) (by assumption) (by first | assumption | omega) ?_); intro _ _ _ _ _))
local macro_rules | `(tactic| walk_at "subscriptTail Name Slice str ref") => `(tactic| (k_here; (with_reducible show wpAny _ _ (subscriptTail _ (Expr.Slice (some _) none none _) (Value.str _ _) (Value.ref _)) _ _ _); (refine s_from (s := ⟨_, _, _, _, _⟩) (by k_asm) (by k_asm) (by assumption) (by first | assumption | omega) ?_); intro _ _ _ _ _))
local macro_rules | `(tactic| walk_at "binaryOp Add str str") => `(tactic| (k_here; (with_reducible refine s_add (by assumption) (by first | assumption | omega) (by first | assumption | omega) ?_); intro _ _))

local macro_rules | `(tactic| walk_at "eval ListComp") => `(tactic| (k_here; refine Stop.out ?_))
local macro_rules | `(tactic| walk_at "CompSrc") => `(tactic| (k_here; refine Stop.out ?_))
local macro_rules | `(tactic| walk_at "CompSrcT") => `(tactic| (k_here; refine Stop.out ?_))
local macro_rules | `(tactic| walk_at "call builtin:str.split") => `(tactic| (k_here; (with_reducible show wpAny _ _ (call (Value.builtin "str.split") [Value.str _ _, Value.str _ _]) _ _ _); k_dflt (refine l_split (by k_asm) (by k_asm) (by decide +kernel) (by with_reducible assumption) (by first | assumption | omega) ?_); intro D' ws' h' k' F' N' l1 hS'; (try k_lt l1); (try k_sweep)))
local macro_rules | `(tactic| walk_at "subscriptTail") => `(tactic| (k_here; (with_reducible show wpAny _ _ (subscriptTail _ (PySem.Expr.Slice none none (some _) _) (Value.ref _) (Value.ref _)) _ _ _); k_dflt (refine l_rev (by k_asm) (by k_asm) (by exact News.isList (by k_asm) (by k_mem)) (IsPart.int _ _) (by with_reducible assumption) (by first | assumption | omega) ?_ (by with_unfolding_all rfl) (by intro _; with_unfolding_all rfl)); intro D' ws' h' F' N' l1 hS'; (try k_lt l1); (try k_sweep)))
local macro_rules | `(tactic| walk_at "subscriptTail Name Slice ref ref") => `(tactic| (k_here; (with_reducible show wpAny _ _ (subscriptTail _ (PySem.Expr.Slice none none (some _) _) (Value.ref _) (Value.ref _)) _ _ _); k_dflt (refine l_rev (by k_asm) (by k_asm) (by exact News.isList (by k_asm) (by k_mem)) (IsPart.int _ _) (by with_reducible assumption) (by first | assumption | omega) ?_ (by with_unfolding_all rfl) (by intro _; with_unfolding_all rfl)); intro D' ws' h' F' N' l1 hS'; (try k_lt l1); (try k_sweep)))
local macro_rules | `(tactic| walk_at "call builtin:str.join") => `(tactic| (k_here; (with_reducible show wpAny _ _ (call (Value.builtin "str.join") [Value.str _ _, Value.ref _]) _ _ _); k_dflt (refine l_join (by exact News.isList (by k_asm) (by k_mem)) (by with_reducible assumption) (by first | assumption | omega) (by with_reducible assumption) ?_); intro _ _))
local macro_rules | `(tactic| walk_at "exec For Tuple Call cons nil") => `(tactic| (k_here; refine Stop.out ?_))
local macro_rules | `(tactic| walk_at "exec For Name Subscript cons nil") => `(tactic| (k_here; refine Stop.out ?_))
local macro_rules | `(tactic| walk_at "exec For Name Name cons nil") => `(tactic| (k_here; refine Stop.out ?_))
local macro_rules | `(tactic| walk_at "exec For Name Call cons nil") => `(tactic| (k_here; refine Stop.out ?_))
local macro_rules | `(tactic| walk_at "exec While Compare cons nil") => `(tactic| (k_here; refine Stop.out ?_))
local macro_rules | `(tactic| walk_at "exec While Constant cons nil") => `(tactic| (k_here; refine Stop.out ?_))
local macro_rules | `(tactic| walk_at "eval Name") => `(tactic| (k_here; k_dflt (refine nameX_L (by k_asm) (by with_unfolding_all first | exact rfl | assumption) ?_ (by rfl) (by rfl))))
local macro_rules | `(tactic| walk_at "WhileEnd") => `(tactic| (k_here; refine Stop.out ?_))
local macro_rules | `(tactic| walk_at "ForEnd") => `(tactic| (k_here; refine Stop.out ?_))
local macro_rules | `(tactic| k_all) => `(tactic| (refine allLt_ne' ?_; assumption))
local macro_rules | `(tactic| walk_at "subscriptTail List BinOp ref int") => `(tactic| (k_here; k_dflt (refine l_item (by exact News.isList (by k_asm) (by k_mem)) (by first | with_reducible assumption | exact .cons _ _ (.cons _ _ (.cons _ _ .nil))) (by first | omega | exact Int.fmod_nonneg_of_pos _ (by decide)) (by first | omega | exact Int.fmod_lt_of_pos _ (by decide)) (by first | omega | decide) ?_); intro _))
local macro_rules | `(tactic| walk_at "subscriptTail Name BinOp ref int") => `(tactic| (k_here; k_dflt (refine l_item (by exact News.isList (by k_asm) (by k_mem)) (by first | with_reducible assumption | exact .cons _ _ (.cons _ _ (.cons _ _ .nil))) (by first | omega | exact Int.fmod_nonneg_of_pos _ (by decide)) (by first | omega | exact Int.fmod_lt_of_pos _ (by decide)) (by first | omega | decide) ?_); intro _))
local macro_rules | `(tactic| walk_at "binaryOp Add ref ref") => `(tactic| (k_here; k_dflt (refine l_add (by k_asm) (by k_asm) (by exact News.isList (by k_asm) (by k_mem)) (by exact News.isList (by k_asm) (by k_mem)) (by first | with_reducible assumption | exact .cons _ _ .nil) (by first | with_reducible assumption | exact .cons _ _ .nil) (by first | omega | (simp only [List.length_cons, List.length_nil]; omega) | decide) (by first | omega | (simp only [List.length_cons, List.length_nil]; omega) | decide) ?_); intro D' ws' h' F' N' l1 hS'; (try k_lt l1); (try k_sweep)))

local macro_rules | `(tactic| walk_at "subscriptTail Name Name ref int") => `(tactic| (k_here; k_dflt (refine l_item (by exact News.isList (by k_asm) (by first | with_reducible assumption | k_mem)) (by with_reducible assumption) (by omega) (by omega) (by omega) ?_); intro _))
local macro_rules | `(tactic| walk_at "call ref") => `(tactic| (k_here; (with_reducible show wpAny _ _ (call (Value.ref 101) _ _) _ _ _); k_dflt (refine Claim.use (told _ _ _ _ _ (by assumption) _) (by k_asm) (by k_asm) (by k_asm) (by k_asm) (by k_asm) (by first | exact rfl | assumption) (by ktr_room) (by ktr_units) ?_; intro t9 h9 tk9 F9 N9; (try dsimp only); (try k_fold))))
local macro_rules | `(tactic| walk_at "call ref") => `(tactic| (k_here; (with_reducible show wpAny _ _ (call (Value.ref 96) _ _) _ _ _); k_dflt (refine Claim.use (host _ _ _ _ _ _) (by k_asm) (by k_asm) (by k_asm) (by k_asm) (by k_asm) (by first | exact rfl | assumption) (by ktr_room) (by ktr_units) ?_; intro t9 h9 tk9 F9 N9; (try dsimp only); (try k_fold))))
local macro_rules | `(tactic| walk_at "call ref") => `(tactic| (k_here; (with_reducible show wpAny _ _ (call (Value.ref 115) _ _) _ _ _); k_dflt (refine Claim.use (common _ _ _ _ _ _ (by assumption) (by assumption) _ _) (by k_asm) (by k_asm) (by k_asm) (by k_asm) (by k_asm) (by first | exact rfl | assumption) (by ktr_room) (by ktr_units) ?_; intro t9 h9 tk9 F9 N9; (try dsimp only); (try k_fold))))
local macro_rules | `(tactic| walk_at "call ref") => `(tactic| (k_here; (with_reducible show wpAny _ _ (call (Value.ref 64) _ _) _ _ _); k_dflt (refine Claim.use (udm _ _ _ _ _ _ (by assumption) (by assumption) _ _) (by k_asm) (by k_asm) (by k_asm) (by k_asm) (by k_asm) (by first | exact rfl | assumption) (by ktr_room) (by ktr_units) ?_; intro t9 h9 tk9 F9 N9; (try dsimp only); (try k_fold))))
local macro_rules | `(tactic| walk_at "call ref") => `(tactic| (k_here; (with_reducible show wpAny _ _ (call (Value.ref 50) _ _) _ _ _); k_dflt (refine Claim.use (dmt _ _ _ _ _ _ (by assumption) (by assumption) _ _) (by k_asm) (by k_asm) (by k_asm) (by k_asm) (by k_asm) (by first | exact rfl | assumption) (by ktr_room) (by ktr_units) ?_; intro t9 h9 tk9 F9 N9; (try dsimp only); (try k_fold))))
local macro_rules | `(tactic| walk_at "pyIter ref") => `(tactic| (k_here; refine Stop.out ?_))
local macro_rules | `(tactic| walk_at "call ref") => `(tactic| (k_here; (with_reducible show wpAny _ _ (call (Value.ref 80) _ _) _ _ _); refine Stop.out ?_))
local macro_rules | `(tactic| walk_at "call builtin:sorted") => `(tactic| (k_here; refine Stop.out ?_))
local macro_rules | `(tactic| walk_at "compareOp NotEq ref ref") => `(tactic| (k_here; refine Stop.out ?_))
local macro_rules | `(tactic| walk_at "compareOp NotIn str ref") => `(tactic| (k_here; k_dflt (refine l_notin (by exact News.isList (by k_asm) (by k_mem)) (by with_reducible assumption) (by assumption) ?_)))
local macro_rules | `(tactic| walk_at "call builtin:list.append") => `(tactic| (k_here; refine Stop.out ?_))
local macro_rules | `(tactic| k_ne) => `(tactic| (refine neN ?_; (try dsimp only); first | with_reducible assumption | with_reducible exact Ne.symm (by assumption) | (with_reducible exact absurd rfl (by assumption))))
theorem offK {I a : Addr} {b : Obj} {r : List (Addr × Obj)} (h : @Ne Nat a I) (g : ∀ p ∈ r, p.1 ≠ I) : ∀ p ∈ (a, b) :: r, p.1 ≠ I := fun p hp => by
  rcases List.mem_cons.mp hp with rfl | hp
  · exact h
  · exact g p hp
theorem drop1 {h₀ h : Heap} {L : Addr} {a : Addr × Obj} {r : List (Addr × Obj)} (N : News h₀ L h (a :: r)) : News h₀ L h r := fun p hp => N p (.tail _ hp)
theorem drop2 {h₀ h : Heap} {L : Addr} {a b : Addr × Obj} {r : List (Addr × Obj)} (N : News h₀ L h (a :: b :: r)) : News h₀ L h (a :: r) := fun p hp => N p (by
  rcases List.mem_cons.mp hp with rfl | hp
  · exact .head _
  · exact .tail _ (.tail _ hp))
theorem ints_idx : ∀ {vs : List Value} {xs : List Int}, IntsAre vs xs → ∀ {i : Nat} {v : Value}, vs[i]? = some v → ∃ a t, v = .int a t
  | _, _, .nil, _, _, h => by simp at h
  | _, _, .cons x t h, 0, _, e => by simp at e; exact ⟨x, t, e.symm⟩
  | _, _, .cons x t h, i + 1, _, e => ints_idx h (by simpa using e)
theorem off_same {I : Addr} {l l' : List (Addr × Obj)} (h : ∀ p ∈ l, p.1 ≠ I) (e : l'.map (·.1) = l.map (·.1)) : ∀ p ∈ l', p.1 ≠ I := fun p hp => by
  have : p.1 ∈ l.map (·.1) := e ▸ List.mem_map_of_mem hp
  obtain ⟨q, hq, e⟩ := List.mem_map.mp this
  exact e ▸ h q hq
theorem offC {I a : Addr} {b : Obj} {r : List (Addr × Obj)} (h : ∀ p ∈ (a, b) :: r, p.1 ≠ I) : @Ne Nat a I ∧ ∀ p ∈ r, p.1 ≠ I := ⟨h _ (.head _), fun p hp => h p (.tail _ hp)⟩
def J5 (H O Dt c5 c4 c3 c2 c1 : Addr) (o5 o1 : Obj) (wsH wsO wsT : List Value) (kH kO : Nat) (qs : List (List Nat)) (i : Nat) (m₁ : Str → Option Value) (news₁ : List (Addr × Obj)) : Prop :=
  ∃ Z wsZ kZ o4 o3 o2 v4 v2, m₁ (Str.ofString "hosts") = some (.ref H) ∧ m₁ (Str.ofString "told") = some (.ref Dt) ∧ @LT.lt Nat _ Dt Z ∧ @LT.lt Nat _ O Z ∧
    news₁ = [(Z, listOf (List.toArray wsZ) kZ), (Dt, LCg.lst wsT), (O, listOf (List.toArray wsO) kO), (H, listOf (List.toArray wsH) kH), (c5, o5), (c4, o4), (c3, o3), (c2, o2), (c1, o1)] ∧
    o4.data = .cell v4 ∧ o3.data = .cell (some (.ref Z)) ∧ o2.data = .cell v2 ∧ StrsAre wsZ ((zonesOf (qs.take i)).map zn) ∧ (zonesOf (qs.take i)).length ≤ 3 * i ∧ ∀ p ∈ zonesOf (qs.take i), p ∈ V
def J6 (H O Z Dt c5 c4 c3 c2 c1 : Addr) (o4 o3 o2 o1 : Obj) (wsH wsO wsT wsZ : List Value) (kH kO kZ : Nat) (_ : Nat) (m₁ : Str → Option Value) (news₁ : List (Addr × Obj)) : Prop :=
  ∃ o5 v5, m₁ (Str.ofString "hosts") = some (.ref H) ∧ m₁ (Str.ofString "told") = some (.ref Dt) ∧
    news₁ = [(Z, listOf (List.toArray wsZ) kZ), (Dt, LCg.lst wsT), (O, listOf (List.toArray wsO) kO), (H, listOf (List.toArray wsH) kH), (c5, o5), (c4, o4), (c3, o3), (c2, o2), (c1, o1)] ∧ o5.data = .cell v5
def J1 (D H O c5 c4 c3 c2 c1 : Addr) (o5 o4 o3 : Obj) (ws : List Value) (i : Nat) (m₁ : Str → Option Value) (news₁ : List (Addr × Obj)) : Prop :=
  ∃ qs os wsH kH wsO kO oO oH v, m₁ (Str.ofString "hosts") = some (.ref H) ∧ news₁ = [(D, listOf ws.toArray 0), (O, listOf (List.toArray wsO) kO), (H, listOf (List.toArray wsH) kH), (c5, o5), (c4, o4), (c3, o3), (c2, oH), (c1, oO)] ∧
    oO.data = .cell (some (.ref O)) ∧ oH.data = .cell v ∧ StrsAre wsH (qs.map nm) ∧ StrsAre wsO (os.map nm) ∧ Good qs os ∧ qs.length ≤ i
local macro_rules | `(tactic| walk_at "call ref") => `(tactic| (k_here; (with_reducible show wpAny _ _ (call (Value.ref 108) _ _) _ _ _); k_dflt (refine ClaimL.use (zones _ _ _ _ _ (by assumption) _) (by k_asm) (by k_asm) (by k_asm) (by k_asm) (by k_asm) (by first | exact rfl | assumption) (by ktr_room) (by ktr_units) ?_); intro D9 ws9 k9 h9 tk9 F9 N9 l9 S9; (try k_lt l9); (try dsimp only); (try k_fold); (try k_sweep)))
local macro_rules | `(tactic| walk_at "call builtin:len") => `(tactic| (k_here; (with_reducible show wpAny _ _ (call (Value.builtin "len") [Value.ref _]) _ _ _); k_dflt (refine l_len (by exact News.isList (by k_asm) (by k_mem)) (by with_reducible assumption) (by first | assumption | omega) ?_); intro _ _))
local macro_rules | `(tactic| walk_at "subscriptTail Name Slice ref ref") => `(tactic| (k_here; (with_reducible show wpAny _ _ (subscriptTail _ (PySem.Expr.Slice (some _) none none _) (Value.ref _) (Value.ref _)) _ _ _); k_dflt (refine l_from (by k_asm) (by k_asm) (by exact News.isList (by k_asm) (by k_mem)) (IsPart.int _ _) (by omega) (by with_reducible assumption) (by omega) ?_ (by with_unfolding_all rfl) (by intro _; with_unfolding_all rfl)); intro D' ws' h' F' N' l1 hS'; (try k_lt l1); (try k_sweep)))
local macro_rules | `(tactic| walk_at "call ref") => `(tactic| (k_here; (with_reducible show wpAny _ _ (call (Value.ref 89) _ _) _ _ _); refine Stop.out ?_))
local macro_rules | `(tactic| walk_at "exec Assign cons ListComp") => `(tactic| (k_here; refine Stop.out ?_))
local macro_rules | `(tactic| walk_at "subscriptTail Name Slice ref ref") => `(tactic| (k_here; (with_reducible show wpAny _ _ (subscriptTail _ (PySem.Expr.Slice (some _) (some _) none _) (Value.ref _) (Value.ref _)) _ _ _); k_dflt (refine l_run (by k_asm) (by k_asm) (by exact News.isList (by k_asm) (by k_mem)) (IsPart.int _ _) (IsPart.int _ _) (by omega) (by omega) (by with_reducible assumption) (by omega) ?_ (by with_unfolding_all rfl) (by intro _; with_unfolding_all rfl)); intro D' ws' h' F' N' l1 hS'; (try k_lt l1); (try k_sweep)))
local macro_rules | `(tactic| walk_at "compareOp In str ref") => `(tactic| (k_here; k_dflt (refine l_in (by exact News.isList (by k_asm) (by k_mem)) (by with_reducible assumption) (by assumption) ?_)))
local macro_rules | `(tactic| walk_at "subscriptTail Name Name ref int") => `(tactic| (k_here; k_dflt (refine l_itemE (by exact News.isList (by k_asm) (by first | with_reducible assumption | k_mem)) (by with_reducible assumption) (by omega) (by omega) (by omega) (by assumption) ?_); intro _))
local macro_rules | `(tactic| walk_at "subscriptTail Name BinOp ref int") => `(tactic| (k_here; k_dflt (refine l_itemE (by exact News.isList (by k_asm) (by k_mem)) (by with_reducible assumption) (by omega) (by omega) (by omega) (by assumption) ?_); intro _))
local macro_rules | `(tactic| walk_at "call builtin:min") => `(tactic| (k_here; refine Stop.out ?_))
set_option maxHeartbeats 8000000 in
theorem law_holds : PySem.Challenge.rw_zs0002_01.Holds := Mine.hd (by
  w_strict (k_go0)
  (all_goals try k_fold)
  (with_reducible rename Shared => s1)
  (with_reducible rename Below _ _ _ _ => K0)
  have K1 : Below callerA s1.heap [] s1.heap := K0
  clear K0
  k_steps
  unfold Stop
  refine wpAny_For ?_ (by intro _; with_unfolding_all rfl)
  k_steps
  unfold Stop
  (with_reducible rename News _ _ _ _ => N1)
  (with_reducible rename Fr _ _ _ _ => F1)
  (with_reducible rename IntsAre _ (List.take 10 _) => hI1)
  (with_reducible rename _ = min _ _ => hC1)
  have hl1 := hI1.length
  have N2 := drop2 N1
  (with_reducible rename List Value => wsN)
  refine for_list (its := wsN.toArray) (by rfl) F1 N2 (J1 _ _ _ _ _ _ _ _ _ _ _ wsN) ⟨[], [], [], 0, [], 0, _, _, _, by with_unfolding_all rfl, rfl, by assumption, by assumption, .nil, .nil, .nil, Nat.le_refl _⟩ (fun i m₁ news₁ hJ => .inr (by obtain ⟨qs, os, wsH, kH, wsO, kO, oO, oH, vc, hm1, rfl, -⟩ := hJ; exact ⟨_, .head _, rfl, _, rfl⟩)) ?turn ?done
  all_goals clear N2 N1 F1
  case turn =>
    rintro i v m₁ news₁ I oI h tk hv ⟨qs, os, wsH, kH, wsO, kO, oO, oH, vc, hm1, rfl, hdO, hdH, hSH, hSO, G, hlen⟩ F N off
    have hv' : wsN[i]? = some v := by simpa using hv
    obtain ⟨a1, f1⟩ := offC off
    obtain ⟨a2, f2⟩ := offC f1
    obtain ⟨a3, f3⟩ := offC f2
    obtain ⟨a4, f4⟩ := offC f3
    obtain ⟨a5, f5⟩ := offC f4
    obtain ⟨a6, f6⟩ := offC f5
    obtain ⟨a7, f7⟩ := offC f6
    obtain ⟨a8, -⟩ := offC f7
    clear f1 f2 f3 f4 f5 f6 f7
    obtain ⟨x, t, rfl⟩ := ints_idx hI1 hv'
    have hi10 : i < 10 := by have := (List.getElem?_eq_some_iff.mp hv').1; omega
    have hqU := hostq_U x
    have hz1 : (qs.map nm).length ≤ 1000 := by rw [List.length_map]; omega
    have hz2 : os.length ≤ 1000 := by rw [G.lenO]; omega
    by_cases hc : hostq x ∈ qs
    · have hb : (!(qs.map nm).contains (nm (hostq x))) = false := by rw [contains_nm G.mem hqU, List.contains_iff_mem.mpr hc]; rfl
      k_steps
      unfold Stop
      exact ⟨_, _, _, _, rfl, by k_asm, by k_asm, by exact off_same off rfl, qs, os, wsH, kH, wsO, kO, _, _, _, by with_unfolding_all first | rfl | assumption, rfl, by assumption, by assumption, hSH, hSO, G, by omega⟩
    · have hb : (!(qs.map nm).contains (nm (hostq x))) = true := by rw [contains_nm G.mem hqU, show qs.contains (hostq x) = false from by rw [← Bool.not_eq_true, List.contains_iff_mem]; exact hc]; rfl
      k_steps
      unfold Stop
      k_dflt (refine' l_append (k := kH) ?apF ?apN hSH hz1 ?apU ?apR)
      case apF => k_asm
      case apN => k_asm
      case apU => k_upd
      intro h8 F8 N8 hS8
      k_steps
      unfold Stop
      k_dflt (refine' insort _ _ _ _ _ wsO os kO (hostq x) hqU _ hSO G.memO hz2 (mono_sorted G.sorted_td _) _ _ ?inU _ _ _ _ _ _ _ _ _ _ _ _ _ _ _ _ _ ?inB ?inF ?inX ?inN ?inT ?inK ?inD ?inE ?inR)
      case inB => k_asm
      case inF => k_asm
      case inX => k_asm
      case inN => k_asm
      case inT => k_asm
      case inU => k_upd
      case inK => first | exact rfl | assumption
      case inD => ktr_room
      case inE => ktr_units
      intro h9 tk9 F9 N9
      k_steps
      unfold Stop
      refine ⟨_, _, _, _, rfl, by k_asm, by k_asm, by exact off_same off rfl, qs ++ [hostq x], insQ os _ (hostq x), _, _, _, _, _, _, _, by with_unfolding_all first | rfl | assumption, rfl, by assumption, by assumption, ?_, ?_, G.ins hqU hc, by rw [List.length_append]; simp; omega⟩
      · rw [List.map_append]; assumption
      · rw [insQ_nm]; exact insV_strs hSO
  case done =>
    rintro h tk m' news' ⟨qs, os, wsH, kH, wsO, kO, oO, oH, vc, hm1, rfl, hdO, hdH, hSH, hSO, G, hlen⟩ F N
    have hq10 : qs.length ≤ 10 := by rw [List.size_toArray] at hlen; omega
    have ho10 : os.length ≤ 10 := by rw [G.lenO]; exact hq10
    have hz1 : (qs.map nm).length ≤ 10 := by rw [List.length_map]; exact hq10
    have hz2 : (os.map nm).length ≤ 10 := by rw [List.length_map]; exact ho10
    k_steps
    unfold Stop
    (with_reducible rename News _ _ _ _ => N1)
    (with_reducible rename Fr _ _ _ _ => F1)
    k_dflt (refine' l_sortedBy (g := gk) F1 N1 (News.isList N1 (by k_mem)) hSH (by omega) ?srT ?srD)
    case srT =>
      intro x t h tk own hx F N
      obtain ⟨q, hq, rfl⟩ := List.mem_map.mp hx
      have hqU := G.mem q hq
      rw [gk_nm hqU]
      k_dflt (refine' Claim.use (told _ _ _ _ q hqU t) ?toB ?toF ?toX ?toN ?toT ?toK ?toD ?toE ?toR)
      case toB => k_asm
      case toF => exact F
      case toX => k_asm
      case toN => exact N
      case toT => k_asm
      case toK => exact rfl
      case toD => ktr_room
      case toE => ktr_units
      intro t' h' tk' F' N'
      exact ⟨h', tk', t', rfl, rfl, F', N'⟩
    intro D h2 tk2 out c F2 N2 l2 ⟨xs', hS2, hp2, hs2⟩
    obtain rfl := sk_uniq G hp2 hs2
    obtain ⟨ws2, rfl⟩ : ∃ ws2 : List Value, out = ws2.toArray := ⟨out.toList, by rw [Array.toArray_toList]⟩
    rw [List.toList_toArray] at hS2
    clear hp2 hs2 l2
    have hok := ok_nms G.memO
    k_steps
    unfold Stop
    k_dflt (refine l_ne (b := false) (News.isList N2 (by k_mem)) (News.isList N2 (List.Mem.head _)) hSO hS2 hok hok (by first | ktr_units | decide) (by simp) ?_)
    have N3 := drop1 (drop1 N2)
    clear N2 N1
    k_steps
    unfold Stop
    refine LCg.ListComp_U (F₀ := by k_asm) (by with_unfolding_all rfl) (by decide) (by rfl) (by decide) (by rfl) ?_
    k_steps
    unfold Stop
    refine src_map (g := gk) (by rfl) (by k_asm) (by k_asm) (.inr ⟨_, by k_mem, rfl, _, rfl⟩) hSO (by omega) ?elt1 ?fin1
    case elt1 =>
      intro y t hy s I C D oI oC oD m₂ Q E' hC hx F N ret
      obtain ⟨q, hq, rfl⟩ := List.mem_map.mp hy
      have hqU := G.memO q hq
      rw [gk_nm hqU] at ret
      k_steps
      exact ret _ _ _ (by k_asm) (by k_asm)
    intro Dt wsT h3 tk3 hST F4 N4 oT
    have eT : (os.map nm).map gk = os.map td := by
      rw [List.map_map]
      exact List.map_congr_left fun q hq => gk_nm (G.memO q hq)
    rw [eT] at hST
    dsimp only [LCg.Off1] at oT
    (repeat (have hx := And.left oT; replace oT := And.right oT)); clear oT
    k_steps
    unfold Stop
    refine wpAny_For ?_ (by intro _; with_unfolding_all rfl)
    k_steps
    unfold Stop
    (with_reducible rename News _ _ _ _ => N5)
    (with_reducible rename Fr _ _ _ _ => F5)
    have N6 := drop1 N5
    refine for_list (its := wsH.toArray) (by rfl) F5 N6 (J5 _ _ _ _ _ _ _ _ _ _ wsH wsO wsT kH kO qs) ⟨_, [], 0, _, _, _, _, _, by with_unfolding_all first | rfl | assumption, by with_unfolding_all first | rfl | assumption, by omega, by omega, rfl, by assumption, by assumption, by assumption, .nil, Nat.zero_le _, fun p hp => by cases hp⟩ (fun i m₁ news₁ hJ => .inr (by obtain ⟨Z, wsZ, kZ, o4, o3, o2, v4, v2, -, -, -, -, rfl, -⟩ := hJ; exact ⟨_, by k_mem, rfl, _, rfl⟩)) ?turn5 ?done5
    all_goals clear N6 N5 F5
    case turn5 =>
      rintro i v m₁ news₁ I oI h tk hv ⟨Z, wsZ, kZ, o4, o3, o2, v4, v2, hm1, hm2, hZ1, hZ2, rfl, hd4, hd3, hd2, hSZ, hzl, hzV⟩ F N off
      have hv' : wsH[i]? = some v := by simpa using hv
      obtain ⟨y, t, hy, rfl⟩ := strs_idx hSH hv'
      rw [List.getElem?_map] at hy
      obtain ⟨q, hqi, rfl⟩ := Option.map_eq_some_iff.mp hy
      have hqU := G.mem q (List.mem_of_getElem? hqi)
      have hi10 : i < 10 := by have := (List.getElem?_eq_some_iff.mp hqi).1; omega
      obtain ⟨g1, g2, g3, g4, g5⟩ := labs_two q hqU
      have g6 := nm_len q hqU
      obtain ⟨a1, f1⟩ := offC off
      obtain ⟨a2, f2⟩ := offC f1
      obtain ⟨a3, f3⟩ := offC f2
      obtain ⟨a4, f4⟩ := offC f3
      obtain ⟨a5, f5⟩ := offC f4
      obtain ⟨a6, f6⟩ := offC f5
      obtain ⟨a7, f7⟩ := offC f6
      obtain ⟨a8, f8⟩ := offC f7
      obtain ⟨a9, -⟩ := offC f8
      clear f1 f2 f3 f4 f5 f6 f7 f8
      k_steps
      unfold Stop
      refine LCg.ListComp_U (F₀ := by k_asm) (by with_unfolding_all rfl) (by decide) (by rfl) (by decide) (by rfl) ?_
      k_steps
      unfold Stop
      (with_reducible rename IsRange _ _ _ _ _ _ _ _ => R)
      refine src_range (n := (labs q).length - 2) (R := fun i t => .str (zn (q.drop (1 + i))) t) (by rfl) (by k_asm) (by k_asm) R (small_one (by omega) (by omega) (by omega) (by omega)) ((rangeSize_nat _ _).trans (by omega)) (by omega) ?elt5 ?fin5
      case elt5 =>
        intro j tj hj s I₂ C D oI₂ oC oD m₂ Q E' hC hx F N ret
        obtain ⟨e1, e2, e3, e4⟩ := own_facts hqU hj
        have e5 : (Str.ofString ".").length ≤ 1000 := by decide +kernel
        k_steps
        exact ret _ _ _ (by k_asm) (by first | k_asm | exact cb_drop (by assumption) (by kcj_all))
      intro Dc ysc hc tkc hMc Fc Nc oc
      have hSc := hMc.strs
      rw [above_form q hqU] at hSc
      dsimp only [LCg.Off1] at oc
      (repeat (have hx := And.left oc; replace oc := And.right oc)); clear oc
      have hokz := ok_zns (l := above q) g5
      k_steps
      unfold Stop
      k_dflt (refine l_ne (b := false) (News.isList (by k_asm) (by k_mem)) (News.isList (by k_asm) (by k_mem)) (by with_reducible assumption) hSc hokz hokz (by first | ktr_units | decide) (by simp) ?_)
      clear hSc
      (with_reducible rename StrsAre _ ((above q).map zn) => hSw)
      k_steps
      unfold Stop
      refine LCt.ListComp_T (F₀ := by k_asm) (by with_unfolding_all rfl) (by decide) (by rfl) (by decide) (by rfl) ?_
      k_steps
      unfold Stop
      refine src_filter (p := fun _ => false) (by rfl) (by k_asm) (by k_asm) (.inr ⟨_, by k_mem, rfl, _, rfl⟩) hSw (by omega) ?test6 ?elt6 ?fin6
      case test6 =>
        intro y ty hy s I₂ C D oI₂ oC oD m₂ Q E' hC hx F N ret
        obtain ⟨p, hp, rfl⟩ := List.mem_map.mp hy
        k_steps
        exact ret _ _ (by k_asm) (by k_asm)
      case elt6 =>
        intro y ty hy s I₂ C D oI₂ oC oD m₂ Q E' hC hx F N ret
        k_steps
        exact ret ty _ _ (by k_asm) (by k_asm)
      intro gf ysf hSf Df hf tkf Ff Nf of
      rw [List.filter_eq_nil_iff.mpr (fun _ _ => by decide)] at hSf
      dsimp only [LCg.Off1] at of
      (repeat (have hx := And.left of; replace of := And.right of)); clear of
      k_steps
      unfold Stop
      k_dflt (refine l_ne (b := false) (us := []) (News.isList (by k_asm) (by k_mem)) (News.isList (by k_asm) (by k_mem)) hSf .nil (fun _ h => by cases h) (fun _ h => by cases h) (by first | ktr_units | decide) (by simp) ?_)
      k_steps
      unfold Stop
      refine LCt.ListComp_T (F₀ := by k_asm) (by with_unfolding_all rfl) (by decide) (by rfl) (by decide) (by rfl) ?_
      k_steps
      unfold Stop
      refine src_filter (p := fun y => !((zonesOf (qs.take i)).map zn).contains y) (by rfl) (by k_asm) (by k_asm) (.inr ⟨_, by k_mem, rfl, _, rfl⟩) hSw (by omega) ?test7 ?elt7 ?fin7
      case test7 =>
        intro y ty hy s I₂ C D oI₂ oC oD m₂ Q E' hC hx F N ret
        obtain ⟨bt, hbt⟩ : ∃ bt, (!((zonesOf (qs.take i)).map zn).contains y) = bt := ⟨_, rfl⟩
        rw [hbt] at ret
        k_steps
        exact ret _ _ (by k_asm) (by k_asm)
      case elt7 =>
        intro y ty hy s I₂ C D oI₂ oC oD m₂ Q E' hC hx F N ret
        k_steps
        exact ret ty _ _ (by k_asm) (by k_asm)
      intro gf2 ysf2 hSf2 Df2 hf2 tkf2 Ff2 Nf2 of2
      have hl1 := List.length_filter_le (fun y => !((zonesOf (qs.take i)).map zn).contains y) ((above q).map zn)
      have hl2 : ((zonesOf (qs.take i)).map zn).length ≤ 30 := by rw [List.length_map]; omega
      have hl3 := addZ_zn hzV hqU
      have hl4 : zonesOf (qs.take (i + 1)) = addZ (zonesOf (qs.take i)) q := by rw [take_snoc hqi, zonesOf_snoc]
      have hl5 := addZ_len (zs := zonesOf (qs.take i)) hqU
      dsimp only [LCg.Off1] at of2
      (repeat (have hx := And.left of2; replace of2 := And.right of2)); clear of2
      k_steps
      unfold Stop
      (with_reducible rename News _ _ _ _ => N9)
      (with_reducible rename Addr => Zn)
      (with_reducible rename List Value => wsn)
      refine ⟨_, _, _, _, rfl, by k_asm, by exact cb_drop N9 (by kcj_all), by exact offK (by omega) (off_same (fun p hp => off p (.tail _ hp)) rfl), Zn, wsn, 0, _, _, _, _, _, by with_unfolding_all first | rfl | assumption, by with_unfolding_all first | rfl | assumption, by omega, by omega, rfl, by assumption, by assumption, by assumption, by rw [hl4, ← hl3]; assumption, by rw [hl4]; omega, by rw [hl4]; exact addZ_mem hzV hqU⟩
    case done5 =>
      rintro h5 tk5 m5 news5 ⟨Z, wsZ, kZ, o4, o3, o2, v4, v2, hm1, hm2, hZ1, hZ2, rfl, hd4, hd3, hd2, hSZ, hzl, hzV⟩ F N
      rw [List.size_toArray, hSH.length, List.length_map, List.take_of_length_le (Nat.le_refl _)] at hSZ hzl hzV
      k_steps
      unfold Stop
      have hz3 : (os.map td).length ≤ 1000 := by rw [List.length_map]; omega
      have hmT := fun y => mono_sorted G.sorted_td y
      refine wpAny_For ?_ (by intro _; with_unfolding_all rfl)
      k_steps
      unfold Stop
      refine for_list (its := wsZ.toArray) (by rfl) F N (J6 _ _ Z _ _ _ _ _ _ o4 o3 o2 oO wsH wsO wsT wsZ kH kO kZ) ⟨_, _, hm1, hm2, rfl, by assumption⟩ (fun i m₁ news₁ hJ => .inr (by obtain ⟨o5, v5, -, -, rfl, -⟩ := hJ; exact ⟨_, by k_mem, rfl, _, rfl⟩)) ?turn6 ?done6
      all_goals clear F N hm1 hm2
      case turn6 =>
        rintro i v m₁ news₁ I oI h tk hv ⟨o5, v5, hm1, hm2, rfl, hd5⟩ F N off
        have hv' : wsZ[i]? = some v := by simpa using hv
        obtain ⟨y, t, hy, rfl⟩ := strs_idx hSZ hv'
        rw [List.getElem?_map] at hy
        obtain ⟨p, hpi, rfl⟩ := Option.map_eq_some_iff.mp hy
        have hpV := hzV p (List.mem_of_getElem? hpi)
        have hpU := V_U p hpV
        obtain ⟨-, g2, g3⟩ := tdt_cps p hpV
        have g4 := (low_zn p hpV).2.2.2
        have g5 : td p ++ Str.ofString "~" = tdt p := rfl
        have g6 : (Str.ofString "~").length ≤ 1000 := by decide +kernel
        obtain ⟨a1, f1⟩ := offC off
        obtain ⟨a2, f2⟩ := offC f1
        obtain ⟨a3, f3⟩ := offC f2
        obtain ⟨a4, f4⟩ := offC f3
        obtain ⟨a5, f5⟩ := offC f4
        obtain ⟨a6, f6⟩ := offC f5
        obtain ⟨a7, f7⟩ := offC f6
        obtain ⟨a8, f8⟩ := offC f7
        obtain ⟨a9, -⟩ := offC f8
        clear f1 f2 f3 f4 f5 f6 f7 f8
        k_steps
        unfold Stop
        k_dflt (refine' bisect _ _ _ _ _ wsT (os.map td) _ (td p) _ hST hz3 (hmT _) _ ?biM _ _ _ _ _ _ _ _ _ _ _ _ _ _ _ _ _ ?biB ?biF ?biX ?biN ?biT ?biK ?biD ?biE ?biR)
        case biB => k_asm
        case biF => k_asm
        case biX => k_asm
        case biN => k_asm
        case biT => k_asm
        case biM => k_mem
        case biK => first | exact rfl | assumption
        case biD => ktr_room
        case biE => ktr_units
        intro tlo hlo tklo Flo Nlo
        k_steps
        unfold Stop
        k_dflt (refine' bisect _ _ _ _ _ wsT (os.map td) _ (tdt p) _ hST hz3 (hmT _) _ ?bjM _ _ _ _ _ _ _ _ _ _ _ _ _ _ _ _ _ ?bjB ?bjF ?bjX ?bjN ?bjT ?bjK ?bjD ?bjE ?bjR)
        case bjB => k_asm
        case bjF => k_asm
        case bjX => k_asm
        case bjN => k_asm
        case bjT => k_asm
        case bjM => k_mem
        case bjK => first | exact rfl | assumption
        case bjD => ktr_room
        case bjE => ktr_units
        intro thi hhi tkhi Fhi Nhi
        k_steps
        unfold Stop
        refine LCt.Assign_ListComp_T (F₀ := by k_asm) (by rfl) (by with_unfolding_all rfl) (by with_unfolding_all rfl) (by decide) (by rfl) (by decide) (by rfl) (by rfl) (by rfl) ?_
        k_steps
        unfold Stop
        refine src_filter (p := pS p) (by rfl) (by k_asm) (by k_asm) (.inr ⟨_, by k_mem, rfl, _, rfl⟩) hSO (by omega) ?tesa ?elta ?fina
        case tesa =>
          intro y ty hy s I₂ C D oI₂ oC oD m₂ Q E' hC hx F N ret
          obtain ⟨q, hq, rfl⟩ := List.mem_map.mp hy
          have hqU := G.memO q hq
          rw [pS_nm hqU] at ret
          k_steps
          exact ret _ _ (by k_asm) (by k_asm)
        case elta =>
          intro y ty hy s I₂ C D oI₂ oC oD m₂ Q E' hC hx F N ret
          k_steps
          exact ret ty _ _ (by k_asm) (by k_asm)
        intro ga ysa hSa Da ha tka Fa Na oa
        rw [filt_nm (fun q hq => pS_nm (G.memO q hq))] at hSa
        dsimp only [LCg.Off1] at oa
        (repeat (have hx := And.left oa; replace oa := And.right oa)); clear oa
        have hza : ((os.filter (fun q => sfx q p)).map nm).length ≤ 10 := by
          rw [List.length_map]
          have := List.length_filter_le (fun q => sfx q p) os
          omega
        k_steps
        unfold Stop
        refine LCt.Assign_ListComp_T (F₀ := by k_asm) (by rfl) (by with_unfolding_all rfl) (by with_unfolding_all rfl) (by decide) (by rfl) (by decide) (by rfl) (by rfl) (by rfl) ?_
        k_steps
        unfold Stop
        (with_reducible rename StrsAre _ (List.drop _ _) => hSr)
        rw [run_eq G hpV] at hSr
        have hzr : ((os.filter (fun q => q == p || sfx q p)).map nm).length ≤ 10 := by
          rw [List.length_map]
          have := List.length_filter_le (fun q => q == p || sfx q p) os
          omega
        refine src_filter (p := fun y => y != nm p) (by rfl) (by k_asm) (by k_asm) (.inr ⟨_, by k_mem, rfl, _, rfl⟩) hSr (by omega) ?tesb ?eltb ?finb
        case tesb =>
          intro y ty hy s I₂ C D oI₂ oC oD m₂ Q E' hC hx F N ret
          obtain ⟨bt, hbt⟩ : ∃ bt, (y != nm p) = bt := ⟨_, rfl⟩
          rw [hbt] at ret
          k_steps
          exact ret _ _ (by k_asm) (by k_asm)
        case eltb =>
          intro y ty hy s I₂ C D oI₂ oC oD m₂ Q E' hC hx F N ret
          k_steps
          exact ret ty _ _ (by k_asm) (by k_asm)
        intro gb ysb hSb Db hb tkb Fb Nb ob
        rw [own_eq G hpV] at hSb
        dsimp only [LCg.Off1] at ob
        (repeat (have hx := And.left ob; replace ob := And.right ob)); clear ob
        have hoka := ok_nms (l := os.filter (fun q => sfx q p)) (fun q hq => G.memO q (List.mem_filter.mp hq).1)
        have hokb := ok_nms (l := qs.filter (fun q => sfx q p)) (fun q hq => G.mem q (List.mem_filter.mp hq).1)
        have hokr := ok_nms (l := os.filter (fun q => q == p || sfx q p)) (fun q hq => G.memO q (List.mem_filter.mp hq).1)
        k_steps
        unfold Stop
        k_dflt (refine l_ne (b := false) (News.isList (by k_asm) (by k_mem)) (News.isList (by k_asm) (by k_mem)) hSa hSb hoka hoka (by first | ktr_units | decide) (by simp) ?_)
        k_steps
        unfold Stop
        (with_reducible rename News _ _ _ _ => Ns1)
        (with_reducible rename Fr _ _ _ _ => Fs1)
        k_dflt (refine l_sorted Fs1 Ns1 (News.isList Ns1 (by k_mem)) hSa (by omega) ?_)
        intro Ds1 hs1 vs1 ss1 es1 Fs2 Ns2 ls1 hSs1 hPs1 hOs1
        clear Fs1 Ns1
        k_lt ls1
        k_steps
        unfold Stop
        refine LCt.ListComp_T (F₀ := by k_asm) (by with_unfolding_all rfl) (by decide) (by rfl) (by decide) (by rfl) ?_
        k_steps
        unfold Stop
        refine src_filter (p := pS p) (by rfl) (by k_asm) (by k_asm) (.inr ⟨_, by k_mem, rfl, _, rfl⟩) hSH (by omega) ?tesc ?eltc ?finc
        case tesc =>
          intro y ty hy s I₂ C D oI₂ oC oD m₂ Q E' hC hx F N ret
          obtain ⟨q, hq, rfl⟩ := List.mem_map.mp hy
          have hqU := G.mem q hq
          rw [pS_nm hqU] at ret
          have hbt := in_zone hqU hpV
          k_steps
          exact ret _ _ (by k_asm) (by first | k_asm | exact cb_drop (by assumption) (by kcj_all))
        case eltc =>
          intro y ty hy s I₂ C D oI₂ oC oD m₂ Q E' hC hx F N ret
          k_steps
          exact ret ty _ _ (by k_asm) (by k_asm)
        intro gc ysc hSc Dc hc tkc Fc Nc oc
        rw [filt_nm (fun q hq => pS_nm (G.mem q hq))] at hSc
        dsimp only [LCg.Off1] at oc
        (repeat (have hx := And.left oc; replace oc := And.right oc)); clear oc
        have hzc : ((qs.filter (fun q => sfx q p)).map nm).length ≤ 10 := by
          rw [List.length_map]
          have := List.length_filter_le (fun q => sfx q p) qs
          omega
        k_steps
        unfold Stop
        (with_reducible rename News _ _ _ _ => Ns1)
        (with_reducible rename Fr _ _ _ _ => Fs1)
        k_dflt (refine l_sorted Fs1 Ns1 (News.isList Ns1 (by k_mem)) hSc (by omega) ?_)
        intro Ds2 hs2 vs2 ss2 es2 Fs4 Ns4 ls2 hSs2 hPs2 hOs2
        clear Fs1 Ns1
        k_lt ls2
        have hss : ss1 = ss2 := sortedS_uniq hOs1 hOs2 (hPs1.trans ((perm_in G).trans hPs2.symm))
        subst hss
        have hoks := perm_ok hoka hPs1
        k_steps
        unfold Stop
        k_dflt (refine l_ne (b := false) (News.isList (by k_asm) (by k_mem)) (News.isList (by k_asm) (by k_mem)) hSs1 hSs2 hoks hoks (by first | ktr_units | decide) (by simp) ?_)
        k_steps
        unfold Stop
        (with_reducible rename StrsAre _ (List.drop _ _) => hSq)
        rw [run_eq G hpV] at hSq
        refine LCt.ListComp_T (F₀ := by k_asm) (by with_unfolding_all rfl) (by decide) (by rfl) (by decide) (by rfl) ?_
        k_steps
        unfold Stop
        refine src_filter (p := fun y => y == nm p || pS p y) (by rfl) (by k_asm) (by k_asm) (.inr ⟨_, by k_mem, rfl, _, rfl⟩) hSO (by omega) ?tesd ?eltd ?find
        case tesd =>
          intro y ty hy s I₂ C D oI₂ oC oD m₂ Q E' hC hx F N ret
          obtain ⟨q, hq, rfl⟩ := List.mem_map.mp hy
          have hqU := G.memO q hq
          by_cases hqp : q = p
          · have hbt : (nm q == nm p) = true := by rw [hqp]; exact beq_self_eq_true _
            rw [hbt, Bool.true_or] at ret
            k_steps
            exact ret _ _ (by k_asm) (by k_asm)
          · have hbt : (nm q == nm p) = false := by rw [eq_nm hqU hpU]; exact beq_false_of_ne hqp
            rw [hbt, Bool.false_or, pS_nm hqU] at ret
            cases hb2 : sfx q p with
            | true =>
              rw [hb2] at ret
              k_steps
              exact ret _ _ (by k_asm) (by k_asm)
            | false =>
              rw [hb2] at ret
              k_steps
              exact ret _ _ (by k_asm) (by k_asm)
        case eltd =>
          intro y ty hy s I₂ C D oI₂ oC oD m₂ Q E' hC hx F N ret
          k_steps
          exact ret ty _ _ (by k_asm) (by k_asm)
        intro gd2 ysd hSd Dd hd3 tkd Fd Nd od
        rw [filt_nm (g := fun q => q == p || sfx q p) (fun q hq => by show (nm q == nm p || pS p (nm q)) = _; rw [pS_nm (G.memO q hq), eq_nm (G.memO q hq) hpU])] at hSd
        dsimp only [LCg.Off1] at od
        (repeat (have hx := And.left od; replace od := And.right od)); clear od
        k_steps
        unfold Stop
        k_dflt (refine l_ne (b := false) (News.isList (by k_asm) (by k_mem)) (News.isList (by k_asm) (by k_mem)) hSq hSd hokr hokr (by first | ktr_units | decide) (by simp) ?_)
        k_steps
        unfold Stop
        (with_reducible rename News _ _ _ _ => N9)
        refine ⟨_, _, _, _, rfl, by k_asm, by exact cb_drop N9 (by kcj_all), by exact off_same off rfl, _, _, by with_unfolding_all first | rfl | assumption, by with_unfolding_all first | rfl | assumption, rfl, by assumption⟩
      case done6 =>
        rintro h6 tk6 m6 news6 ⟨o5, v5, hm1, hm2, rfl, hd5⟩ F N
        k_steps
        unfold Stop
        refine wpAny_For ?_ (by intro _; with_unfolding_all rfl)
        k_steps
        unfold Stop
        (with_reducible rename IsRange _ _ _ _ _ _ _ _ => R7)
        (with_reducible rename News _ _ _ _ => N7)
        (with_reducible rename Fr _ _ _ _ => F7)
        have heO : (os.map nm).length = os.length := List.length_map ..
        refine for_range (n := os.length) (by rfl) F7 N7 R7 (small_one (by omega) (by omega) (by omega) (by omega)) ((rangeSize_nat _ _).trans (by omega)) (fun _ _ news₁ => news₁ = [_, _, _, _, _, _, _, _, _]) rfl ?turn7 ?done7
        all_goals clear F7 N7 R7
        case turn7 =>
          rintro j tj m₁ news₁ I oI h tk hj rfl F N off
          k_steps
          unfold Stop
          refine wpAny_For ?_ (by intro _; with_unfolding_all rfl)
          k_steps
          unfold Stop
          (with_reducible rename IsRange _ _ _ _ _ _ _ _ => R8)
          (with_reducible rename News _ _ _ _ => N8)
          (with_reducible rename Fr _ _ _ _ => F8)
          refine for_range (n := os.length - (j + 1)) (by rfl) F8 N8 R8 (small_one (by omega) (by omega) (by omega) (by omega)) ((rangeSize_nat _ _).trans (by omega)) (fun _ m₁ news₁ => m₁ (Str.ofString "j") = some (.int (0 + (j : Int)) tj) ∧ news₁ = [_, _, _, _, _, _, _, _, _, _]) ⟨by with_unfolding_all first | rfl | assumption, rfl⟩ ?turn8 ?done8
          all_goals clear F8 N8 R8
          case turn8 =>
            rintro d td' m₂ news₂ I₂ oI₂ h₂ tk₂ hd' ⟨hmj, rfl⟩ F N off₂
            have e1 : (os.map nm).getD (0 + (j : Int)).toNat Str.empty = nm (atO os j) := atO_nm hj (by omega)
            have e2 : (os.map nm).getD (0 + (j : Int) + 1 + (d : Int)).toNat Str.empty = nm (atO os (j + d + 1)) := atO_nm (by omega) (by omega)
            have hu1 := atO_mem G hj
            have hu2 := atO_mem G (i := j + d + 1) (by omega)
            k_steps
            unfold Stop
            refine LCg.ListComp_U (F₀ := by k_asm) (by with_unfolding_all rfl) (by decide) (by rfl) (by decide) (by rfl) ?_
            k_steps
            unfold Stop
            (with_reducible rename IsRange _ _ _ _ _ _ _ _ => R9)
            refine src_range (n := d + 1) (R := fun i t => .int ((cmn (atO os (j + i)) (atO os (j + i + 1)) : Nat) : Int) t) (by rfl) (by k_asm) (by k_asm) R9 (small_one (by omega) (by omega) (by omega) (by omega)) ((rangeSize_nat _ _).trans (by omega)) (by omega) ?elt9 ?fin9
            case elt9 =>
              intro i ti hi s I₃ C D oI₃ oC oD m₃ Q E' hC hx F N ret
              have e3 : (os.map nm).getD (0 + (j : Int) + 1 + (i : Int) - 1).toNat Str.empty = nm (atO os (j + i)) := atO_nm (by omega) (by omega)
              have e4 : (os.map nm).getD (0 + (j : Int) + 1 + (i : Int)).toNat Str.empty = nm (atO os (j + i + 1)) := atO_nm (by omega) (by omega)
              have hu3 := atO_mem G (i := j + i) (by omega)
              have hu4 := atO_mem G (i := j + i + 1) (by omega)
              k_steps
              exact ret _ _ _ (by k_asm) (by first | k_asm | exact cb_drop (by assumption) (by kcj_all))
            intro Dm ysm hm tkm hMm Fm Nm om
            have hIm := hMm.ints
            dsimp only [LCg.Off1] at om
            (repeat (have hx := And.left om; replace om := And.right om)); clear om
            k_steps
            unfold Stop
            refine min_list_N (by rfl) Fm Nm (News.isList Nm (by k_mem)) hIm (by simp) ?_
            intro hmin M tM tkM FM NM hMem hLe
            have hM := min_law G (j := j) (d := d) (by omega) hMem hLe
            subst hM
            k_steps
            · contradiction
            unfold Stop
            (with_reducible rename News _ _ _ _ => N9)
            refine ⟨_, _, _, _, rfl, by k_asm, by exact cb_drop N9 (by kcj_all), off₂, by with_unfolding_all first | rfl | assumption, rfl⟩
          case done8 =>
            rintro h8 tk8 m8 news8 ⟨hmj, rfl⟩ F N
            k_steps
            unfold Stop
            refine ⟨_, _, _, _, rfl, by k_asm, by k_asm, off, rfl⟩
        case done7 =>
          rintro h7 tk7 m7 news7 rfl F N
          k_steps)
end Mine
end
open PySem PySem.W PyProof.Rows
theorem PySem.Challenge.cw_zs0002_01_holds : PySem.Challenge.rw_zs0002_01.Holds := by
  exact Mine.law_holds
