import PyProof.Rows.All
import Wide.All
import OpenK.AllK
import Wide.FinOn
import Lean
import PySem.Challenge.RW_xg0035_01
set_option Elab.async false
set_option linter.all false
set_option compiler.extract_closed false
set_option maxRecDepth 100000
namespace Mine
/-! ### the head -/
section
open PySem PySem.Calls PySem.W PyProof.Rows
set_option maxHeartbeats 8000000
open_top hd for PySem.Challenge.rw_xg0035_01
end
open PySem PySem.Calls PySem.W PyProof.Rows
/-! ### B1 -/
section
open PySem PySem.Calls PySem.W PyProof.Rows
/-! ## The state -/
abbrev No : Value → Shared → Prop := fun _ _ => False
/-- wpAny, closed: no term is opened behind it while the walk goes -/
@[irreducible] def WP {α : Type} (M : Model) (A : Around) (t : Sem α) (Q : α → Shared → Prop) (E : Value → Shared → Prop) (s : Shared) : Prop := wpAny M A t Q E s
theorem WP_eq {α : Type} : @WP α = @wpAny α := by
  funext M A t Q E s; unfold WP; rfl

structure Fine (n : Nat) (A : Around) : Prop where
  h : A.handled = none
  d : A.depth ≤ n
  u : A.units ≤ 10 * n
theorem Fine.deeper {n : Nat} {A : Around} (x : Fine n A) (env : Env) : Fine (n + 1) (A.deeper env) :=
  ⟨x.h, Nat.succ_le_succ x.d, by have := x.u; show A.units + 3 ≤ _; omega⟩
theorem Fine.in1 {n : Nat} {A : Around} (x : Fine n A) : Fine (n + 1) A.in1 :=
  ⟨x.h, Nat.le_succ_of_le x.d, by have := x.u; show A.units + 1 ≤ _; omega⟩
theorem Fine.mono {n k : Nat} {A : Around} (x : Fine n A) (h : n ≤ k) : Fine k A := ⟨x.h, by have := x.d; omega, by have := x.u; omega⟩
theorem Fine.room {n : Nat} {A : Around} (x : Fine n A) (h : n < 900 := by omega) : A.depth < recursionLimit := by
  have := x.d; show A.depth < 1000; omega
theorem Fine.units {n : Nat} {A : Around} (x : Fine n A) (h : n < 900 := by omega) : A.units < cLine := by
  have := x.u; show A.units < 9900; omega

inductive Ent where
  | list (xs : List Value)
  | cell (v : Option Value)
  | liter (l : Addr) (i : Nat)
  | riter (x left step : Int)

def listO (xs : List Value) (n : Nat) : Obj := { cls := .type "list", data := .seq xs.toArray n }
def tupO (xs : List Value) (n : Nat) : Obj := { cls := .type "tuple", data := .seq xs.toArray n }
def IsL (h : Heap) (a : Addr) (xs : List Value) : Prop := ∃ n, h.get? a = some (listO xs n)
def IsT (h : Heap) (a : Addr) (xs : List Value) : Prop := ∃ n, h.get? a = some (tupO xs n)

def Ent.at (h : Heap) (a : Addr) : Ent → Prop
  | .list xs => IsL h a xs
  | .cell v => ∃ o, h.get? a = some o ∧ o.data = .cell v
  | .liter l i => h.IsListIter a l i
  | .riter x left step => IsRangeIter h a x left step

abbrev Up (g g' : Heap) : Prop := ∀ b o, g.get? b = some o → g'.get? b = some o
theorem Up.rfl {g : Heap} : Up g g := fun _ _ e => e
theorem Up.trans {a b c : Heap} (x : Up a b) (y : Up b c) : Up a c := fun _ _ e => y _ _ (x _ _ e)

theorem IsL.up {h h' : Heap} {a : Addr} {xs : List Value} (x : IsL h a xs) (u : Up h h') : IsL h' a xs := let ⟨n, e⟩ := x; ⟨n, u _ _ e⟩
theorem IsT.up {h h' : Heap} {a : Addr} {xs : List Value} (x : IsT h a xs) (u : Up h h') : IsT h' a xs := let ⟨n, e⟩ := x; ⟨n, u _ _ e⟩
theorem IsL.isList {h : Heap} {a : Addr} {xs : List Value} (x : IsL h a xs) : h.IsList a xs.toArray := let ⟨n, e⟩ := x; ⟨_, e, Eq.refl _, n, Eq.refl _⟩
theorem IsL.plain {h : Heap} {a : Addr} {xs : List Value} (x : IsL h a xs) : h.PlainList a xs.toArray := x
theorem IsT.isTup {h : Heap} {a : Addr} {xs : List Value} (x : IsT h a xs) : IsTup h a xs.toArray := let ⟨n, e⟩ := x; ⟨_, e, Eq.refl _, n, Eq.refl _⟩

theorem Ent.at.to {h h' : Heap} {a : Addr} {e : Ent} (x : e.at h a) (hk : ∀ o, h.get? a = some o → h'.get? a = some o) : e.at h' a := by
  cases e with
  | list xs => let ⟨n, e⟩ := x; exact ⟨n, hk _ e⟩
  | cell v => let ⟨o, e, d⟩ := x; exact ⟨o, hk _ e, d⟩
  | liter l i => let ⟨o, e, d⟩ := x; exact ⟨o, hk _ e, d⟩
  | riter y l st => exact hk _ x
theorem Ent.at.there {h : Heap} {a : Addr} {e : Ent} (x : e.at h a) : ∃ o, h.get? a = some o := by
  cases e with
  | list xs => let ⟨n, e⟩ := x; exact ⟨_, e⟩
  | cell v => let ⟨o, e, d⟩ := x; exact ⟨o, e⟩
  | liter l i => let ⟨o, e, d⟩ := x; exact ⟨o, e⟩
  | riter y l st => exact ⟨_, x⟩

/-- the frame at L with the locals m, the lists and cells mu that may change, all of g as it was -/
structure On (s₀ : Shared) (h₀ g : Heap) (L : Addr) (m : Str → Option Value) (mu : List (Addr × Ent)) (s : Shared) : Prop where
  ns : s.heap.Ns L m
  keep : Up g s.heap
  org : Up h₀ g
  mus : ∀ p ∈ mu, p.2.at s.heap p.1
  offL : g.get? L = none
  off : ∀ p ∈ mu, g.get? p.1 = none
  apart : (L :: mu.map (·.1)).Nodup
  gens : s.gens = s₀.gens
  drawn : s.drawn = s₀.drawn
  os : s.os = s₀.os

section
variable {s₀ : Shared} {h₀ g : Heap} {L : Addr} {m : Str → Option Value} {mu : List (Addr × Ent)} {s s' : Shared}

theorem Keeps.refl' (s : Shared) : Keeps s s := ⟨s.heap, s.toks, rfl, fun _ _ e => e⟩
theorem Keeps.tr {a b c : Shared} (x : Keeps a b) (y : Keeps b c) : Keeps a c := by
  obtain ⟨h, t, rfl, k⟩ := x
  obtain ⟨h', t', rfl, k'⟩ := y
  exact ⟨h', t', rfl, fun b o e => k' b o (k b o e)⟩
theorem Keeps.up {a b : Shared} (x : Keeps a b) : Up a.heap b.heap := by
  obtain ⟨h, t, rfl, k⟩ := x; exact k

theorem On.keeps (I : On s₀ h₀ g L m mu s) (k : Keeps s s') : On s₀ h₀ g L m mu s' := by
  obtain ⟨h', tk, rfl, hk⟩ := k
  exact ⟨I.ns.keeps hk, fun b o e => hk b o (I.keep b o e), I.org, fun p hp => (I.mus p hp).to (hk _), I.offL, I.off, I.apart, I.gens, I.drawn, I.os⟩
theorem On.keepsOf (I : On s s.heap g L m [] s') : Keeps s s' := by
  refine ⟨s'.heap, s'.toks, ?_, I.org.trans I.keep⟩
  obtain ⟨h', g', d', t', o'⟩ := s'
  have h1 := I.gens; have h2 := I.drawn; have h3 := I.os
  dsimp only at h1 h2 h3 ⊢
  subst h1 h2 h3; rfl

theorem On.neL (I : On s₀ h₀ g L m mu s) {p : Addr × Ent} (hp : p ∈ mu) : p.1 ≠ L := fun e =>
  (List.nodup_cons.mp I.apart).1 (e ▸ List.mem_map_of_mem hp)

/-- everything but the frame and mu taken into the ground -/
theorem On.max (I : On s₀ h₀ g L m mu s) : Up g (hideAll s.heap (L :: mu.map (·.1))) ∧ On s₀ h₀ (hideAll s.heap (L :: mu.map (·.1))) L m mu s := by
  have U : Up g (hideAll s.heap (L :: mu.map (·.1))) := fun b o e => by
    refine hideAll_get _ (I.keep b o e) ?_
    intro hb
    rcases List.mem_cons.mp hb with rfl | hb
    · rw [I.offL] at e; cases e
    · obtain ⟨p, hp, rfl⟩ := List.mem_map.mp hb
      rw [I.off p hp] at e; cases e
  exact ⟨U, I.ns, fun b o e => of_hideAll _ e, I.org.trans U, I.mus, hideAll_none _ (List.mem_cons_self ..),
    fun p hp => hideAll_none _ (List.mem_cons_of_mem _ (List.mem_map_of_mem hp)), I.apart, I.gens, I.drawn, I.os⟩

theorem On.lt (I : On s₀ h₀ g L m mu s) {b : Addr} (hb : b ∈ L :: mu.map (·.1)) : b < s.heap.objs.size := by
  rcases List.mem_cons.mp hb with rfl | hb
  · exact I.ns.lt
  · obtain ⟨p, hp, rfl⟩ := List.mem_map.mp hb
    obtain ⟨o, ho⟩ := (I.mus p hp).there
    exact Heap.lt_size ho

/-- a new object, taken into the ground -/
theorem On.push (I : On s₀ h₀ g L m mu s) (o : Obj) (hf : o.isFreed = false := by rfl) :
    ∃ g', Up g g' ∧ g'.get? s.heap.objs.size = some o ∧ On s₀ h₀ g' L m mu { s with heap := s.heap.push o } := by
  have K : Keeps s { s with heap := s.heap.push o } := ⟨_, s.toks, rfl, fun b o' e => Heap.get?_push_of_some _ e⟩
  have J := (I.keeps K).max
  refine ⟨_, J.1, hideAll_get _ (Heap.get?_push_size _ hf) fun hb => Nat.lt_irrefl _ (I.lt hb), J.2⟩

/-- a new object that may change -/
theorem On.pushMu (I : On s₀ h₀ g L m mu s) (o : Obj) (e : Ent) (hf : o.isFreed = false) (he : ∀ h : Heap, h.get? s.heap.objs.size = some o → e.at h s.heap.objs.size) :
    On s₀ h₀ g L m ((s.heap.objs.size, e) :: mu) { s with heap := s.heap.push o } := by
  have K : Keeps s { s with heap := s.heap.push o } := ⟨_, s.toks, rfl, fun b o' e => Heap.get?_push_of_some _ e⟩
  have J := I.keeps K
  refine ⟨J.ns, J.keep, J.org, fun p hp => ?_, J.offL, fun p hp => ?_, ?_, J.gens, J.drawn, J.os⟩
  · rcases List.mem_cons.mp hp with rfl | hp
    · exact he _ (Heap.get?_push_size _ hf)
    · exact J.mus p hp
  · rcases List.mem_cons.mp hp with rfl | hp
    · cases q : g.get? s.heap.objs.size with
      | none => rfl
      | some o' => exact absurd (Heap.lt_size (I.keep _ _ q)) (Nat.lt_irrefl _)
    · exact J.off p hp
  · have h1 := I.apart
    have hlt : ∀ b ∈ L :: mu.map (·.1), b < s.heap.objs.size := fun b hb => I.lt hb
    rw [List.map_cons]
    rw [List.nodup_cons] at h1 ⊢
    refine ⟨fun hb => ?_, List.nodup_cons.mpr ⟨fun hb => ?_, h1.2⟩⟩
    · rcases List.mem_cons.mp hb with e | hb
      · exact Nat.lt_irrefl _ (e ▸ hlt L (List.mem_cons_self ..) : L < L)
      · exact h1.1 hb
    · exact Nat.lt_irrefl _ (hlt _ (List.mem_cons_of_mem _ hb))

theorem On.store {x : Str} {v : Value} {h' : Heap} {tk : Nat} (I : On s₀ h₀ g L m mu s) (hn : h'.Ns L fun y => if y = x then some v else m y) (hs : Heap.SameBut L s.heap h') :
    On s₀ h₀ g L (fun y => if y = x then some v else m y) mu { s with heap := h', toks := tk } :=
  ⟨hn, fun b o e => hs.extBut b o (fun q => by rw [q, I.offL] at e; cases e) (I.keep b o e), I.org,
   fun p hp => (I.mus p hp).to fun o e => hs.extBut _ o (I.neL hp) e, I.offL, I.off, I.apart, I.gens, I.drawn, I.os⟩

/-- one of mu is another now -/
inductive Put (a : Addr) (e e' : Ent) : List (Addr × Ent) → List (Addr × Ent) → Prop
  | head {r} : Put a e e' ((a, e) :: r) ((a, e') :: r)
  | tail {p r r'} : Put a e e' r r' → Put a e e' (p :: r) (p :: r')
theorem Put.mem {a : Addr} {e e' : Ent} : ∀ {l l' : List (Addr × Ent)}, Put a e e' l l' → (a, e) ∈ l
  | _, _, .head => .head _
  | _, _, .tail p => .tail _ p.mem
theorem Put.map {a : Addr} {e e' : Ent} : ∀ {l l' : List (Addr × Ent)}, Put a e e' l l' → l'.map (·.1) = l.map (·.1)
  | _, _, .head => rfl
  | _, _, .tail p => by rw [List.map_cons, List.map_cons, p.map]
theorem Put.cases {a : Addr} {e e' : Ent} : ∀ {l l' : List (Addr × Ent)}, Put a e e' l l' → (l.map (·.1)).Nodup → ∀ p ∈ l', p = (a, e') ∨ (p ∈ l ∧ p.1 ≠ a)
  | _, _, .head, hn, p, hp => by
    rcases List.mem_cons.mp hp with rfl | hp
    · exact .inl rfl
    · refine .inr ⟨.tail _ hp, fun q => ?_⟩
      rw [List.map_cons, List.nodup_cons] at hn
      have := List.mem_map_of_mem (f := (·.1)) hp
      rw [q] at this
      exact hn.1 this
  | _, _, .tail r, hn, p, hp => by
    rw [List.map_cons, List.nodup_cons] at hn
    rcases List.mem_cons.mp hp with rfl | hp
    · refine .inr ⟨.head _, fun q => ?_⟩
      have := List.mem_map_of_mem (f := (·.1)) r.mem
      rw [← q] at this
      exact hn.1 this
    · exact (r.cases hn.2 p hp).imp id fun h => ⟨.tail _ h.1, h.2⟩

theorem On.put {a : Addr} {e e' : Ent} {mu' : List (Addr × Ent)} {h' : Heap} {tk : Nat} (I : On s₀ h₀ g L m mu s) (P : Put a e e' mu mu') (he : e'.at h' a)
    (hk : ∀ b o, b ≠ a → s.heap.get? b = some o → h'.get? b = some o) : On s₀ h₀ g L m mu' { s with heap := h', toks := tk } := by
  have ha := I.off _ P.mem
  have hL := I.neL P.mem
  have hm : ∀ p ∈ mu', p = (a, e') ∨ (p ∈ mu ∧ p.1 ≠ a) := P.cases (List.nodup_cons.mp I.apart).2
  refine ⟨I.ns.at' fun o x => hk _ _ (Ne.symm hL) x, fun b o x => hk b o (fun q => by rw [q, ha] at x; cases x) (I.keep b o x), I.org, fun p hp => ?_, I.offL, fun p hp => ?_, ?_, I.gens, I.drawn, I.os⟩
  · rcases hm p hp with rfl | ⟨h1, h2⟩
    · exact he
    · exact (I.mus p h1).to fun o x => hk _ o h2 x
  · rcases hm p hp with rfl | ⟨h1, h2⟩
    · exact ha
    · exact I.off p h1
  · rw [P.map]; exact I.apart
end
end
/-! ### B2 -/
section
open PySem PySem.Calls PySem.W PyProof.Rows
/-! ## The text's defs -/
def dBody : Stmt → List Stmt
  | .FunctionDef _ _ b _ _ _ _ _ _ _ => b
  | _ => []
def dArgs : Stmt → Arguments
  | .FunctionDef _ a _ _ _ _ _ _ _ _ => a
  | _ => { posonlyargs := [], args := [], vararg := none, kwonlyargs := [], kw_defaults := [], kwarg := none, defaults := [] }
def dScope : Stmt → Scope
  | .FunctionDef _ _ _ _ _ _ sc _ _ _ => sc
  | _ => { kind := .module, names := [], isGenerator := false, isCoroutine := false, more := [] }
def stm (i : Nat) : Stmt := PySem.Challenge.pw_xg0035_01.main.body.getD i (.Pass ⟨0, 0, 0, 0⟩)
def fdOf (i : Nat) (name : Str) (c : Addr) (dV kV pm : Value) : FuncData :=
  { name, qualname := name, params := dArgs (stm i), body := .stmts (dBody (stm i)), scope := dScope (stm i), globals := 3, closure := [], defaults := dV, kwdefaults := kV, pyModule := pm, code := .ref c }
def fIndent : FuncData := fdOf 3 "_indent" 43 (.ref 37) .none (.str "cpy313.doctest" 282)
def fInsR : FuncData := fdOf 5 "insort_right" 52 (.ref 45) (.ref 46) (.str "cpy313.bisect" 313)
def fBisR : FuncData := fdOf 6 "bisect_right" 61 (.ref 54) (.ref 55) (.str "cpy313.bisect" 313)
def fInsL : FuncData := fdOf 7 "insort_left" 70 (.ref 63) (.ref 64) (.str "cpy313.bisect" 313)
def fBisL : FuncData := fdOf 8 "bisect_left" 79 (.ref 72) (.ref 73) (.str "cpy313.bisect" 313)
def fOff : FuncData := fdOf 12 "offset_from_tz_string" 92 .none .none (.str "cpy313.http.cookiejar" 369)
def fTwo : FuncData := fdOf 14 "_law_two" 99 .none .none (.str "law_xg0035_01" 466)
def fClock : FuncData := fdOf 15 "_law_clock" 106 .none .none (.str "law_xg0035_01" 466)
def fFirst : FuncData := fdOf 16 "_law_first" 113 .none .none (.str "law_xg0035_01" 466)
def fLast : FuncData := fdOf 17 "_law_last" 120 .none .none (.str "law_xg0035_01" 466)
def fPart : FuncData := fdOf 18 "_law_partings" 125 .none .none (.str "law_xg0035_01" 466)
def fLaw : FuncData := fdOf 19 "law" 130 .none .none (.str "law_xg0035_01" 466)

structure FnIn (h : Heap) (a : Addr) (fd : FuncData) : Prop where
  o : h.get? a = some { cls := .type "function", data := .func fd }
  c : h.CodeRec fd.code fd.qualname
theorem FnIn.up {h h' : Heap} {a : Addr} {fd : FuncData} (x : FnIn h a fd) (u : Up h h') : FnIn h' a fd :=
  ⟨u _ _ x.o, x.c.keeps u⟩

/-- what the top's run has laid, as far as it is asked -/
structure Wd (mg mb : Str → Option Value) (h : Heap) : Prop where
  g : h.Ns mainGlobals mg
  b : h.Ns builtinsNs mb
  lim : h.NoLimit
  indent : FnIn h 44 fIndent
  insR : FnIn h 53 fInsR
  bisR : FnIn h 62 fBisR
  insL : FnIn h 71 fInsL
  bisL : FnIn h 80 fBisL
  off : FnIn h 93 fOff
  two : FnIn h 100 fTwo
  clock : FnIn h 107 fClock
  first : FnIn h 114 fFirst
  last : FnIn h 121 fLast
  part : FnIn h 126 fPart
structure Nm (mg mb : Str → Option Value) : Prop where
  indent : mg "_indent" = some (.ref 44)
  insR : mg "insort_right" = some (.ref 53)
  bisR : mg "bisect_right" = some (.ref 62)
  insL : mg "insort_left" = some (.ref 71)
  bisL : mg "bisect_left" = some (.ref 80)
  off : mg "offset_from_tz_string" = some (.ref 93)
  two : mg "_law_two" = some (.ref 100)
  clock : mg "_law_clock" = some (.ref 107)
  first : mg "_law_first" = some (.ref 114)
  last : mg "_law_last" = some (.ref 121)
  part : mg "_law_partings" = some (.ref 126)
  re1 : mg "_twin_re_1" = some (.ref 36)
  re2 : mg "TIMEZONE_RE" = some (.ref 86)
  zones : mg "UTC_ZONES" = some (.ref 81)
  nlen : mg "len" = none
  nrange : mg "range" = none
  nmin : mg "min" = none
  nabs : mg "abs" = none
  nstr : mg "str" = none
  nint : mg "int" = none
  nsorted : mg "sorted" = none
  nisi : mg "isinstance" = none
  nbool : mg "bool" = none
  blen : mb "len" = some (.builtin "len")
  brange : mb "range" = some (.type "range")
  bmin : mb "min" = some (.builtin "min")
  babs : mb "abs" = some (.builtin "abs")
  bstr : mb "str" = some (.type "str")
  bint : mb "int" = some (.type "int")
  bsorted : mb "sorted" = some (.builtin "sorted")
  bisi : mb "isinstance" = some (.builtin "isinstance")
  bbool : mb "bool" = some (.type "bool")
theorem Wd.up {mg mb : Str → Option Value} {h h' : Heap} (x : Wd mg mb h) (u : Up h h') : Wd mg mb h' :=
  ⟨x.g.keeps u, x.b.keeps u, x.lim.keeps u, x.indent.up u, x.insR.up u, x.bisR.up u, x.insL.up u, x.bisL.up u, x.off.up u, x.two.up u, x.clock.up u, x.first.up u, x.last.up u, x.part.up u⟩

abbrev upd (m : Str → Option Value) (x : Str) (v : Value) : Str → Option Value := fun y => if y = x then some v else m y

section
variable {prog : Program} {w : World} {A : Around} {s₀ : Shared} {h₀ g : Heap} {L : Addr} {m : Str → Option Value} {mu : List (Addr × Ent)} {s : Shared} {env : Env} {mg mb : Str → Option Value} {pos : Pos}

theorem On.tok (I : On s₀ h₀ g L m mu s) (k : Nat) : On s₀ h₀ g L m mu { s with toks := k } := I.keeps ⟨s.heap, k, rfl, fun _ _ e => e⟩

/-! ## Names, constants -/
theorem r_nm {x : Str} {v : Value} {Q : Value → Shared → Prop} (I : On s₀ h₀ g L m mu s) (hv : m x = some v) (h : Q v s) (hE : env.locals = L := by rfl)
    (hk : env.scope.kind = .function := by rfl) (hl : env.kindOf x = some .local := by rfl) (hd : (x == ("__debug__" : Str)) = false := by decide) :
    WP (model prog w) A (eval (.Name x pos) env) Q No s := by
  simp only [WP_eq] at *
  exact wpAny_Name (wpAny_loadName_local hk hl (hE ▸ I.ns) hv h) hd
theorem r_glob {x : Str} {v : Value} {Q : Value → Shared → Prop} (I : On s₀ h₀ g L m mu s) (W : Wd mg mb g) (hv : mg x = some v) (h : Q v s) (hG : env.globals = mainGlobals := by rfl)
    (hk : env.scope.kind = .function := by rfl) (hl : env.kindOf x = some .globalImplicit := by rfl) (hd : (x == ("__debug__" : Str)) = false := by decide) :
    WP (model prog w) A (eval (.Name x pos) env) Q No s := by
  simp only [WP_eq] at *
  exact Name_function_global hk hl (loadGlobal_global (by rw [hG]; exact W.g.keeps I.keep) hv h) hd
theorem r_blt {x : Str} {v : Value} {Q : Value → Shared → Prop} (I : On s₀ h₀ g L m mu s) (W : Wd mg mb g) (hn : mg x = none) (hv : mb x = some v) (h : Q v s) (hG : env.globals = mainGlobals := by rfl) (hB : env.builtins = builtinsNs := by rfl)
    (hk : env.scope.kind = .function := by rfl) (hl : env.kindOf x = some .globalImplicit := by rfl) (hd : (x == ("__debug__" : Str)) = false := by decide) :
    WP (model prog w) A (eval (.Name x pos) env) Q No s := by
  simp only [WP_eq] at *
  exact Name_function_global hk hl (loadGlobal_builtin (by rw [hG]; exact W.g.keeps I.keep) hn (by rw [hB]; exact W.b.keeps I.keep) hv h) hd
theorem r_int {i : Int} {k : Nat} {Q : Value → Shared → Prop} (I : On s₀ h₀ g L m mu s) (h : ∀ s' t, On s₀ h₀ g L m mu s' → Q (.int i t) s') : WP (model prog w) A (eval (.Constant (.int i) k pos) env) Q No s := by
  simp only [WP_eq] at *
  exact wpAny_Constant_int (h _ _ (I.tok _))
theorem r_str {x : Str} {k : Nat} {Q : Value → Shared → Prop} (I : On s₀ h₀ g L m mu s) (h : ∀ s' t, On s₀ h₀ g L m mu s' → Q (.str x t) s') : WP (model prog w) A (eval (.Constant (.str x) k pos) env) Q No s := by
  simp only [WP_eq] at *
  exact wpAny_Constant_str (h _ _ (I.tok _))
/-! ## Ints -/
theorem r_add {a b : Int} {t u : Tok} {Q : Value → Shared → Prop} (I : On s₀ h₀ g L m mu s) (h : ∀ s' t, On s₀ h₀ g L m mu s' → Q (.int (a + b) t) s') : WP (model prog w) A (binaryOp .Add (.int a t) (.int b u)) Q No s := by
  simp only [WP_eq] at *
  exact wpAny_add_int (h _ _ (I.tok _))
theorem r_iadd {a b : Int} {t u : Tok} {Q : Value → Shared → Prop} (I : On s₀ h₀ g L m mu s) (h : ∀ s' t, On s₀ h₀ g L m mu s' → Q (.int (a + b) t) s') : WP (model prog w) A (inplaceOp .Add (.int a t) (.int b u)) Q No s := by
  simp only [WP_eq] at *
  exact wpAny_iadd_int (h _ _ (I.tok _))
theorem r_sub {a b : Int} {t u : Tok} {Q : Value → Shared → Prop} (I : On s₀ h₀ g L m mu s) (h : ∀ s' t, On s₀ h₀ g L m mu s' → Q (.int (a - b) t) s') : WP (model prog w) A (binaryOp .Sub (.int a t) (.int b u)) Q No s := by
  simp only [WP_eq] at *
  exact SiftDown.sub_int (h _ _ (I.tok _))
theorem mulOk {a b : Int} (h : -(2 ^ 63) < a ∧ a < 2 ^ 63 ∨ -(2 ^ 63) < b ∧ b < 2 ^ 63) : IntMulOk a b := by
  rcases h with h | h
  · exact IntMulOk.of_left (intBits_le_64 (by omega) (by omega))
  · exact IntMulOk.of_right (intBits_le_64 (by omega) (by omega))
theorem r_mul {a b : Int} {t u : Tok} {Q : Value → Shared → Prop} (I : On s₀ h₀ g L m mu s) (hb : -(2 ^ 63) < a ∧ a < 2 ^ 63 ∨ -(2 ^ 63) < b ∧ b < 2 ^ 63) (h : ∀ s' t, On s₀ h₀ g L m mu s' → Q (.int (a * b) t) s') :
    WP (model prog w) A (binaryOp .Mult (.int a t) (.int b u)) Q No s := by
  simp only [WP_eq] at *
  exact PyProof.Rows.mul_int (h _ _ (I.tok _)) (mulOk hb)
theorem r_imul {a b : Int} {t u : Tok} {Q : Value → Shared → Prop} (I : On s₀ h₀ g L m mu s) (hb : -(2 ^ 63) < a ∧ a < 2 ^ 63 ∨ -(2 ^ 63) < b ∧ b < 2 ^ 63) (h : ∀ s' t, On s₀ h₀ g L m mu s' → Q (.int (a * b) t) s') :
    WP (model prog w) A (inplaceOp .Mult (.int a t) (.int b u)) Q No s := by
  simp only [WP_eq] at *
  exact PyProof.Rows.imul_int (h _ _ (I.tok _)) (mulOk hb)
/-- by a small positive number -/
theorem r_div {a b : Int} {t u : Tok} {Q : Value → Shared → Prop} (I : On s₀ h₀ g L m mu s) (hb : 0 < b ∧ b < 1000000000) (h : ∀ s' t, On s₀ h₀ g L m mu s' → Q (.int (a / b) t) s') :
    WP (model prog w) A (binaryOp .FloorDiv (.int a t) (.int b u)) Q No s := by
  simp only [WP_eq] at *
  refine PyProof.Rows.floordiv_int (by omega) ?_ (Or.inl (PyProof.noPylong_small (by omega)))
  rw [Int.fdiv_eq_ediv_of_nonneg _ (by omega)]
  exact h _ _ (I.tok _)
theorem r_mod {a b : Int} {t u : Tok} {Q : Value → Shared → Prop} (I : On s₀ h₀ g L m mu s) (hb : 0 < b) (h : ∀ s' t, On s₀ h₀ g L m mu s' → Q (.int (a % b) t) s') :
    WP (model prog w) A (binaryOp .Mod (.int a t) (.int b u)) Q No s := by
  simp only [WP_eq] at *
  refine PyProof.Rows.mod_int' (by omega) ?_
  rw [Int.fmod_eq_emod_of_nonneg _ (by omega)]
  exact h _ _ (I.tok _)
theorem r_neg {a : Int} {t : Tok} {Q : Value → Shared → Prop} (I : On s₀ h₀ g L m mu s) (h : ∀ s' t, On s₀ h₀ g L m mu s' → Q (.int (-a) t) s') : WP (model prog w) A (unaryOp .USub (.int a t)) Q No s := by
  simp only [WP_eq] at *
  exact PyProof.Rows.neg_int (h _ _ (I.tok _))
/-! ## Statements -/
theorem r_store {x : Str} {v : Value} {Q : Unit → Shared → Prop} (I : On s₀ h₀ g L m mu s) (h : ∀ s', On s₀ h₀ g L (upd m x v) mu s' → Q () s') (hE : env.locals = L := by rfl)
    (hl : env.kindOf x = some .local := by rfl) (hp : (env.scope.kind == .class || (env.scope.kind == .module && env.locals != env.globals)) = false := by rfl) :
    WP (model prog w) A (storeName env x v) Q No s := by
  simp only [WP_eq] at *
  subst hE
  exact wpAny_storeName_local hl I.ns (fun h' hn hs => h _ (I.store hn hs)) hp
theorem r_assign {x : Str} {p : Pos} {value : Expr} {Q : Flow → Shared → Prop} (h : WP (model prog w) A (eval value env) (fun v s₁ => WP (model prog w) A (storeName env x v) (fun _ => Q .next) No s₁) No s)
    (hs : swapsWith value (some (.Name x p)) pos.line env = pure false := by rfl) : WP (model prog w) A (exec (.Assign [.Name x p] value pos) env) Q No s := by
  simp only [WP_eq] at *
  exact wpAny_Assign_Name h hs
/-! ## A def called -/
theorem call_def {n : Nat} {a : Addr} {fd : FuncData} {args : List Value} {kw : List (Str × Value)} {binds : List (Str × Value)} {body : List Stmt} {Q : Value → Shared → Prop} (mu : List (Addr × Ent))
    (hA : Fine n A) (F : FnIn s.heap a fd) (lim : s.heap.NoLimit) (hbind : BindsTo s fd ⟨args, kw⟩ binds) (hmu : ∀ p ∈ mu, p.2.at s.heap p.1) (hnd : (mu.map (·.1)).Nodup)
    (h : ∀ s₁, On s (hideAll s.heap (mu.map (·.1))) (hideAll s.heap (mu.map (·.1))) s.heap.objs.size (fun x => binds.reverse.lookup x) mu s₁ →
      WP (model prog w) (A.deeper (callEnv fd s.heap.objs.size a)) (execs body (callEnv fd s.heap.objs.size a)) (fun f s' => Q (match f with | .ret v => v | _ => .none) s') No s₁)
    (hbody : fd.body = .stmts body := by rfl) (hcell : ∀ x ∈ fd.scope.names, x.2 ≠ .cell := by decide) (hloc : ∀ x ∈ binds, fd.scope.names.lookup x.1 = some .local := by exact locs rfl)
    (hco : fd.scope.isCoroutine = false := by rfl) (hgen : fd.scope.isGenerator = false := by rfl) (hk : fd.scope.kind = .function := by rfl) (hn : n < 900 := by omega) :
    WP (model prog w) A (call (.ref a) args kw) Q No s := by
  simp only [WP_eq] at *
  refine wpAny_call (codeAny_call_def (hA.room hn) F.o rfl lim F.c hbody hbind hcell hloc (fun h₀ hns hk₀ => ?_) hco hgen hk)
  have hlt : ∀ p ∈ mu, p.1 < s.heap.objs.size := fun p hp => let ⟨o, ho⟩ := (hmu p hp).there; Heap.lt_size ho
  refine wpAny_mono (h _ ⟨hns, fun b o e => hk₀ b o (of_hideAll _ e), Up.rfl, fun p hp => (hmu p hp).to (hk₀ _), ?_, fun p hp => hideAll_none _ (List.mem_map_of_mem hp), ?_, rfl, rfl, rfl⟩) (fun _ _ x => x) fun _ _ x => x.elim
  · cases q : (hideAll s.heap (mu.map (·.1))).get? s.heap.objs.size with
    | none => rfl
    | some o => exact absurd (Heap.lt_size (of_hideAll _ q)) (Nat.lt_irrefl _)
  · refine List.nodup_cons.mpr ⟨fun hb => ?_, hnd⟩
    obtain ⟨p, hp, e⟩ := List.mem_map.mp hb
    exact Nat.lt_irrefl _ (e ▸ hlt p hp)
/-- one that changes nothing -/
theorem call_pure {n : Nat} {a : Addr} {fd : FuncData} {args : List Value} {kw : List (Str × Value)} {binds : List (Str × Value)} {body : List Stmt} {Q : Value → Shared → Prop}
    (hA : Fine n A) (F : FnIn s.heap a fd) (lim : s.heap.NoLimit) (hbind : BindsTo s fd ⟨args, kw⟩ binds)
    (h : ∀ s₁, On s s.heap s.heap s.heap.objs.size (fun x => binds.reverse.lookup x) [] s₁ →
      WP (model prog w) (A.deeper (callEnv fd s.heap.objs.size a)) (execs body (callEnv fd s.heap.objs.size a)) (fun f s' => Q (match f with | .ret v => v | _ => .none) s') No s₁)
    (hbody : fd.body = .stmts body := by rfl) (hcell : ∀ x ∈ fd.scope.names, x.2 ≠ .cell := by decide) (hloc : ∀ x ∈ binds, fd.scope.names.lookup x.1 = some .local := by exact locs rfl)
    (hco : fd.scope.isCoroutine = false := by rfl) (hgen : fd.scope.isGenerator = false := by rfl) (hk : fd.scope.kind = .function := by rfl) (hn : n < 900 := by omega) :
    WP (model prog w) A (call (.ref a) args kw) Q No s := by
  exact call_def [] hA F lim hbind (fun _ h => nomatch h) List.nodup_nil h hbody hcell hloc hco hgen hk hn
/-- a call by a def's name: the arguments first -/
theorem callWith_def {a : Addr} {fd : FuncData} {args : List (Bool × Sem Value)} {keywords : List (Option Str × Sem Value)} {Q : Value → Shared → Prop}
    (h : WP (model prog w) A (evalArgs (.ref a) true args keywords) (fun x s₁ => FnIn s₁.heap a fd ∧ WP (model prog w) A (call (.ref a) x.pos x.kw) Q No s₁) No s) :
    WP (model prog w) A (callWith pos (.ref a) [] args keywords) Q No s := by
  simp only [WP_eq] at *
  exact callWith_function_kw (o := { cls := .type "function", data := .func fd }) (fd := fd) (wpAny_mono h (fun x s₁ h₁ => ⟨⟨h₁.1.o, rfl⟩, h₁.2⟩) fun _ _ x => x)
end
end
/-! ### B3 -/
section
open PySem PySem.Calls PySem.W PyProof.Rows
section
variable {prog : Program} {w : World} {A : Around} {s₀ : Shared} {h₀ g : Heap} {L : Addr} {m : Str → Option Value} {mu : List (Addr × Ent)} {s : Shared} {env : Env} {mg mb : Str → Option Value} {pos : Pos}

/-! ## Compare, truth, If -/
theorem r_eqi {a b : Int} {t u : Tok} {Q : Value → Shared → Prop} (h : Q (.bool (decide (a = b))) s) : WP (model prog w) A (compareOp .Eq (.int a t) (.int b u)) Q No s := by
  simp only [WP_eq] at *
  exact PyProof.Rows.eq_int (by rw [show (a == b) = decide (a = b) from rfl]; exact h)
theorem r_nei {a b : Int} {t u : Tok} {Q : Value → Shared → Prop} (h : Q (.bool (decide (a ≠ b))) s) : WP (model prog w) A (compareOp .NotEq (.int a t) (.int b u)) Q No s := by
  simp only [WP_eq] at *
  exact PyProof.Rows.ne_int (by rw [show (a != b) = decide (a ≠ b) from by by_cases q : a = b <;> simp [q]]; exact h)
theorem r_lti {a b : Int} {t u : Tok} {Q : Value → Shared → Prop} (h : Q (.bool (decide (a < b))) s) : WP (model prog w) A (compareOp .Lt (.int a t) (.int b u)) Q No s := by
  simp only [WP_eq] at *
  exact PyProof.Rows.lt_int h
theorem r_gti {a b : Int} {t u : Tok} {Q : Value → Shared → Prop} (h : Q (.bool (decide (b < a))) s) : WP (model prog w) A (compareOp .Gt (.int a t) (.int b u)) Q No s := by
  simp only [WP_eq] at *
  exact PyProof.Rows.gt_int h
theorem r_tb {b : Bool} {Q : Bool → Shared → Prop} (h : Q b s) : WP (model prog w) A (truthy (.bool b)) Q No s := by
  simp only [WP_eq] at *
  exact wpAny_truthy_bool h
/-- both ways of a test -/
theorem both {p : Prop} [Decidable p] {P R : Prop} (h1 : p → P) (h2 : ¬p → R) : if decide p = true then P else R := by
  by_cases q : p
  · rw [if_pos (decide_eq_true q)]; exact h1 q
  · rw [if_neg (by rw [decide_eq_false q]; decide)]; exact h2 q
theorem both' {p : Prop} [Decidable p] {P R : Prop} (h1 : p → P) (h2 : ¬p → R) : if p then P else R := by
  by_cases q : p
  · rw [if_pos q]; exact h1 q
  · rw [if_neg q]; exact h2 q

/-! ## Texts -/
theorem r_cat {x y : Str} {t u : Tok} {Q : Value → Shared → Prop} (I : On s₀ h₀ g L m mu s) (hz : x.length + y.length ≤ sizeLine) (h : ∀ s' t, On s₀ h₀ g L m mu s' → Q (.str (x ++ y) t) s') :
    WP (model prog w) A (binaryOp .Add (.str x t) (.str y u)) Q No s := by
  simp only [WP_eq] at *
  exact PyProof.Rows.add_str (fun _ _ => h _ _ (I.tok _)) hz
theorem r_eqs {x y : Str} {t u : Tok} {Q : Value → Shared → Prop} (h : Q (.bool (decide (x = y))) s) : WP (model prog w) A (compareOp .Eq (.str x t) (.str y u)) Q No s := by
  simp only [WP_eq] at *
  exact PyProof.Rows.eq_str (by rw [show (x == y) = decide (x = y) from by by_cases q : x = y <;> simp [q]]; exact h)
theorem r_strI {a : Int} {t : Tok} {Q : Value → Shared → Prop} (I : On s₀ h₀ g L m mu s) (hb : -1000000 < a ∧ a < 1000000) (h : ∀ s' t, On s₀ h₀ g L m mu s' → Q (.str (Str.ofString (toString a)) t) s') :
    WP (model prog w) A (call (.type "str") [.int a t]) Q No s := by
  simp only [WP_eq] at *
  exact PyProof.Rows.str_of_int_fit (N := 1000000) (by split <;> omega) (by decide) fun _ => h _ _ (I.tok _)
theorem r_abs {a : Int} {t : Tok} {Q : Value → Shared → Prop} (I : On s₀ h₀ g L m mu s) (h : ∀ s' t, On s₀ h₀ g L m mu s' → Q (.int (if a < 0 then -a else a) t) s') :
    WP (model prog w) A (call (.builtin "abs") [.int a t]) Q No s := by
  simp only [WP_eq] at *
  exact PyProof.Rows.call_abs_int fun _ _ => h _ _ (I.tok _)
/-! ## Calls of names -/
theorem spl_nil {Q : List Value → Shared → Prop} (h : Q [] s) : WP (model prog w) A (spliced (backTo pos (starEach [] env))) Q No s := by
  simp only [WP_eq] at *
  exact wpAny_items_nil h
theorem spl_cons {e : Expr} {rest : List Expr} {Q : List Value → Shared → Prop}
    (h : WP (model prog w) A (eval e env) (fun v s₁ => WP (model prog w) A (spliced (backTo pos (starEach rest env))) (fun vs s₂ => Q (v :: vs) s₂) No s₁) No s)
    (he : starEach (e :: rest) env = (false, eval e env) :: starEach rest env := by rfl) : WP (model prog w) A (spliced (backTo pos (starEach (e :: rest) env))) Q No s := by
  simp only [WP_eq] at *
  exact wpAny_items_cons h he
theorem cw_builtin {id : String} {e : Expr} {rest : List Expr} {Q : Value → Shared → Prop}
    (h : WP (model prog w) A (spliced (backTo pos (starEach (e :: rest) env))) (fun vs s₁ => WP (model prog w) A (call (.builtin id) vs) Q No s₁) No s)
    (he : starEach (e :: rest) env = (false, eval e env) :: starEach rest env := by rfl) (hp : (backTo pos (starEach rest env)).any (·.1) = false := by rfl) :
    WP (model prog w) A (callWith pos (.builtin id) [] (backTo pos (starEach (e :: rest) env)) []) Q No s := by
  simp only [WP_eq] at *
  exact PyProof.Rows.callWith_builtin1 h he hp
theorem cw_type {T : String} {e : Expr} {rest : List Expr} {Q : Value → Shared → Prop}
    (h : WP (model prog w) A (spliced (backTo pos (starEach (e :: rest) env))) (fun vs s₁ => WP (model prog w) A (call (.type T) vs) Q No s₁) No s)
    (he : starEach (e :: rest) env = (false, eval e env) :: starEach rest env := by rfl) (hp : (backTo pos (starEach rest env)).any (·.1) = false := by rfl) :
    WP (model prog w) A (callWith pos (.type T) [] (backTo pos (starEach (e :: rest) env)) []) Q No s := by
  simp only [WP_eq] at *
  exact PyProof.Rows.callWith_type1 h he hp
/-- a def's call, the arguments by place -/
theorem cw_def {a : Addr} (fd : FuncData) {e : Expr} {rest : List Expr} {Q : Value → Shared → Prop}
    (h : WP (model prog w) A (spliced (backTo pos (starEach (e :: rest) env))) (fun vs s₁ => FnIn s₁.heap a fd ∧ WP (model prog w) A (call (.ref a) vs []) Q No s₁) No s)
    (he : starEach (e :: rest) env = (false, eval e env) :: starEach rest env := by rfl) :
    WP (model prog w) A (callWith pos (.ref a) [] (backTo pos (starEach (e :: rest) env)) []) Q No s := by
  refine callWith_def (fd := fd) ?_
  simp only [WP_eq] at *
  rw [he] at h ⊢
  exact Calls.evalArgs_plain h
/-! ## The names of the module -/
section
variable {Q : Value → Shared → Prop} (I : On s₀ h₀ g L m mu s) (W : Wd mg mb g) (N : Nm mg mb) (hG : env.globals = mainGlobals) (hB : env.builtins = builtinsNs) (hk : env.scope.kind = .function)
include I W N hG hk
theorem n_two (h : Q (.ref 100) s) (hl : env.kindOf "_law_two" = some .globalImplicit := by rfl) : WP (model prog w) A (eval (.Name "_law_two" pos) env) Q No s := r_glob I W N.two h hG hk hl
theorem n_clock (h : Q (.ref 107) s) (hl : env.kindOf "_law_clock" = some .globalImplicit := by rfl) : WP (model prog w) A (eval (.Name "_law_clock" pos) env) Q No s := r_glob I W N.clock h hG hk hl
theorem n_off (h : Q (.ref 93) s) (hl : env.kindOf "offset_from_tz_string" = some .globalImplicit := by rfl) : WP (model prog w) A (eval (.Name "offset_from_tz_string" pos) env) Q No s := r_glob I W N.off h hG hk hl
theorem n_indent (h : Q (.ref 44) s) (hl : env.kindOf "_indent" = some .globalImplicit := by rfl) : WP (model prog w) A (eval (.Name "_indent" pos) env) Q No s := r_glob I W N.indent h hG hk hl
theorem n_insR (h : Q (.ref 53) s) (hl : env.kindOf "insort_right" = some .globalImplicit := by rfl) : WP (model prog w) A (eval (.Name "insort_right" pos) env) Q No s := r_glob I W N.insR h hG hk hl
theorem n_bisR (h : Q (.ref 62) s) (hl : env.kindOf "bisect_right" = some .globalImplicit := by rfl) : WP (model prog w) A (eval (.Name "bisect_right" pos) env) Q No s := r_glob I W N.bisR h hG hk hl
theorem n_insL (h : Q (.ref 71) s) (hl : env.kindOf "insort_left" = some .globalImplicit := by rfl) : WP (model prog w) A (eval (.Name "insort_left" pos) env) Q No s := r_glob I W N.insL h hG hk hl
theorem n_bisL (h : Q (.ref 80) s) (hl : env.kindOf "bisect_left" = some .globalImplicit := by rfl) : WP (model prog w) A (eval (.Name "bisect_left" pos) env) Q No s := r_glob I W N.bisL h hG hk hl
theorem n_first (h : Q (.ref 114) s) (hl : env.kindOf "_law_first" = some .globalImplicit := by rfl) : WP (model prog w) A (eval (.Name "_law_first" pos) env) Q No s := r_glob I W N.first h hG hk hl
theorem n_last (h : Q (.ref 121) s) (hl : env.kindOf "_law_last" = some .globalImplicit := by rfl) : WP (model prog w) A (eval (.Name "_law_last" pos) env) Q No s := r_glob I W N.last h hG hk hl
theorem n_part (h : Q (.ref 126) s) (hl : env.kindOf "_law_partings" = some .globalImplicit := by rfl) : WP (model prog w) A (eval (.Name "_law_partings" pos) env) Q No s := r_glob I W N.part h hG hk hl
theorem n_re1 (h : Q (.ref 36) s) (hl : env.kindOf "_twin_re_1" = some .globalImplicit := by rfl) : WP (model prog w) A (eval (.Name "_twin_re_1" pos) env) Q No s := r_glob I W N.re1 h hG hk hl
theorem n_re2 (h : Q (.ref 86) s) (hl : env.kindOf "TIMEZONE_RE" = some .globalImplicit := by rfl) : WP (model prog w) A (eval (.Name "TIMEZONE_RE" pos) env) Q No s := r_glob I W N.re2 h hG hk hl
theorem n_zones (h : Q (.ref 81) s) (hl : env.kindOf "UTC_ZONES" = some .globalImplicit := by rfl) : WP (model prog w) A (eval (.Name "UTC_ZONES" pos) env) Q No s := r_glob I W N.zones h hG hk hl
include hB
theorem n_len (h : Q (.builtin "len") s) (hl : env.kindOf "len" = some .globalImplicit := by rfl) : WP (model prog w) A (eval (.Name "len" pos) env) Q No s := r_blt I W N.nlen N.blen h hG hB hk hl
theorem n_range (h : Q (.type "range") s) (hl : env.kindOf "range" = some .globalImplicit := by rfl) : WP (model prog w) A (eval (.Name "range" pos) env) Q No s := r_blt I W N.nrange N.brange h hG hB hk hl
theorem n_min (h : Q (.builtin "min") s) (hl : env.kindOf "min" = some .globalImplicit := by rfl) : WP (model prog w) A (eval (.Name "min" pos) env) Q No s := r_blt I W N.nmin N.bmin h hG hB hk hl
theorem n_abs (h : Q (.builtin "abs") s) (hl : env.kindOf "abs" = some .globalImplicit := by rfl) : WP (model prog w) A (eval (.Name "abs" pos) env) Q No s := r_blt I W N.nabs N.babs h hG hB hk hl
theorem n_str (h : Q (.type "str") s) (hl : env.kindOf "str" = some .globalImplicit := by rfl) : WP (model prog w) A (eval (.Name "str" pos) env) Q No s := r_blt I W N.nstr N.bstr h hG hB hk hl
theorem n_int (h : Q (.type "int") s) (hl : env.kindOf "int" = some .globalImplicit := by rfl) : WP (model prog w) A (eval (.Name "int" pos) env) Q No s := r_blt I W N.nint N.bint h hG hB hk hl
theorem n_sorted (h : Q (.builtin "sorted") s) (hl : env.kindOf "sorted" = some .globalImplicit := by rfl) : WP (model prog w) A (eval (.Name "sorted" pos) env) Q No s := r_blt I W N.nsorted N.bsorted h hG hB hk hl
theorem n_isi (h : Q (.builtin "isinstance") s) (hl : env.kindOf "isinstance" = some .globalImplicit := by rfl) : WP (model prog w) A (eval (.Name "isinstance" pos) env) Q No s := r_blt I W N.nisi N.bisi h hG hB hk hl
theorem n_bool (h : Q (.type "bool") s) (hl : env.kindOf "bool" = some .globalImplicit := by rfl) : WP (model prog w) A (eval (.Name "bool" pos) env) Q No s := r_blt I W N.nbool N.bbool h hG hB hk hl
end

/-! ## Tuples, lists -/
theorem r_tup {elts : List Expr} {k : Nat} {Q : Value → Shared → Prop} (h : WP (model prog w) A (spliced (backTo pos (starEach elts env))) (fun vs s₁ => WP (model prog w) A (newTuple vs) Q No s₁) No s) :
    WP (model prog w) A (eval (.Tuple elts k pos) env) Q No s := by
  simp only [WP_eq] at *
  exact PyProof.Rows.Tuple_ h
theorem r_lst {elts : List Expr} {Q : Value → Shared → Prop} (h : WP (model prog w) A (spliced (backTo pos (starEach elts env))) (fun vs s₁ => WP (model prog w) A (newList vs) Q No s₁) No s) :
    WP (model prog w) A (eval (.List elts pos) env) Q No s := by
  simp only [WP_eq] at *
  exact PyProof.Rows.List_ h
theorem r_newT {vs : List Value} {Q : Value → Shared → Prop} (I : On s₀ h₀ g L m mu s) (hz : vs.length ≤ 1000)
    (h : ∀ s' g' a, Up g g' → IsT g' a vs → On s₀ h₀ g' L m mu s' → Q (.ref a) s') : WP (model prog w) A (newTuple vs) Q No s := by
  simp only [WP_eq] at *
  refine wpAny_newObj_type ?_ (by show vs.toArray.size ≤ sizeLine; rw [List.size_toArray, sizeLine_eq]; omega)
  obtain ⟨g', u, e, J⟩ := I.push (tupO vs 0)
  exact h _ g' _ u ⟨0, e⟩ J
theorem r_newL {vs : List Value} {Q : Value → Shared → Prop} (I : On s₀ h₀ g L m mu s) (hz : vs.length ≤ 1000)
    (h : ∀ s' g' a, Up g g' → IsL g' a vs → On s₀ h₀ g' L m mu s' → Q (.ref a) s') : WP (model prog w) A (newList vs) Q No s := by
  simp only [WP_eq] at *
  refine wpAny_newObj_type ?_ (by show vs.toArray.size ≤ sizeLine; rw [List.size_toArray, sizeLine_eq]; omega)
  obtain ⟨g', u, e, J⟩ := I.push (listO vs 0)
  exact h _ g' _ u ⟨0, e⟩ J
/-- a new list that may change -/
theorem r_newM {vs : List Value} {Q : Value → Shared → Prop} (I : On s₀ h₀ g L m mu s) (hz : vs.length ≤ 1000)
    (h : ∀ s' a, On s₀ h₀ g L m ((a, .list vs) :: mu) s' → Q (.ref a) s') : WP (model prog w) A (newList vs) Q No s := by
  simp only [WP_eq] at *
  refine wpAny_newObj_type ?_ (by show vs.toArray.size ≤ sizeLine; rw [List.size_toArray, sizeLine_eq]; omega)
  exact h _ _ (I.pushMu (listO vs 0) (.list vs) rfl fun h' e => ⟨0, e⟩)
theorem r_subs {value slice : Expr} {Q : Value → Shared → Prop}
    (h : WP (model prog w) A (eval value env) (fun o s₁ => WP (model prog w) A (eval slice env) (fun i s₂ => WP (model prog w) A (subscriptTail value slice o i) Q No s₂) No s₁) No s) :
    WP (model prog w) A (eval (.Subscript value slice pos) env) Q No s := by
  simp only [WP_eq] at *
  exact PyProof.Rows.Subscript_ h
theorem r_itemT {value slice : Expr} {t : Addr} {l : List Value} {k : Int} {u : Tok} {v : Value} {Q : Value → Shared → Prop} (ht : IsT s.heap t l) (h0 : 0 ≤ k) (h1 : k < 1000000) (hx : l[k.toNat]? = some v) (h : Q v s)
    (hs : subscripted slice false (.ref t) (.int k u) = operate [.ref t, .int k u] (getItem (.ref t) (.int k u)) := by with_unfolding_all rfl) :
    WP (model prog w) A (subscriptTail value slice (.ref t) (.int k u)) Q No s := by
  simp only [WP_eq] at *
  refine item_tupleT (j := k.toNat) ht.isTup (by omega) (by omega) ?_ hx h hs
  have hlt : k.toNat < l.length := by
    rcases Nat.lt_or_ge k.toNat l.length with q | q
    · exact q
    · rw [List.getElem?_eq_none q] at hx; cases hx
  unfold seqIndex?
  have h2 : ¬ k < 0 := by omega
  have h3 : (decide (0 ≤ k) && decide (k < (l.length : Int))) = true := by
    rw [Bool.and_eq_true]; exact ⟨decide_eq_true h0, decide_eq_true (by omega)⟩
  simp only [h2, if_false]
  rw [if_pos h3]
theorem r_itemL {value slice : Expr} {t : Addr} {l : List Value} {k : Int} {u : Tok} {v : Value} {Q : Value → Shared → Prop} (ht : IsL s.heap t l) (h0 : 0 ≤ k) (h1 : k < 1000000) (hx : l[k.toNat]? = some v) (h : Q v s)
    (hs : subscripted slice false (.ref t) (.int k u) = operate [.ref t, .int k u] (getItem (.ref t) (.int k u)) := by with_unfolding_all rfl) :
    WP (model prog w) A (subscriptTail value slice (.ref t) (.int k u)) Q No s := by
  simp only [WP_eq] at *
  exact tail_any ht.isList.typeIs PySem.F.slot_list_getitem.lookup (wpAny_getItem_list ht.isList h0 (by omega) (by simpa using hx) h) hs
theorem r_unpack {elts : List Expr} {k : Nat} {t : Addr} {xs : List Value} {Q : Unit → Shared → Prop} (hh : A.handled = none) (ht : IsT g t xs) (I : On s₀ h₀ g L m mu s)
    (h : ∀ s', On s₀ h₀ g L m mu s' → WP (model prog w) A (assignInOrder ((assignEach elts env).map (·.2)) xs) Q No s')
    (hn : (assignEach elts env).length = xs.length := by rfl) (hstar : (assignEach elts env).findIdx? (·.1) = none := by rfl) :
    WP (model prog w) A (assign (.Tuple elts k pos) env (.ref t)) Q No s := by
  simp only [WP_eq] at *
  refine PyProof.Rows.assign_Tuple_tuple hh (ht.up I.keep).isTup (by simpa using hn) hstar fun h' hx => ?_
  exact h _ (I.keeps ⟨h', s.toks, rfl, fun b o e => hx b o (Nat.ne_of_lt (Heap.lt_size e)) e⟩)
theorem r_anm {x : Str} {v : Value} {Q : Unit → Shared → Prop} (h : WP (model prog w) A (storeName env x v) Q No s) : WP (model prog w) A (assign (.Name x pos) env v) Q No s := by
  simp only [WP_eq] at *
  exact wpAny_assign_Name h

/-! ## The library's rules, closed -/
section
variable {M : Model}
theorem w_cons {st : Stmt} {rest : List Stmt} {Q : Flow → Shared → Prop} (h : WP M A (exec st env) (fun f s' => match f with | .next => WP M A (execs rest env) Q No s' | f => Q f s') No s) : WP M A (execs (st :: rest) env) Q No s := by
  simp only [WP_eq] at *; exact wpAny_execs_cons h
theorem w_nil {Q : Flow → Shared → Prop} (h : Q .next s) : WP M A (execs [] env) Q No s := by simp only [WP_eq] at *; exact wpAny_execs_nil h
theorem w_BinOp {l : Expr} {op : Operator} {r : Expr} {Q : Value → Shared → Prop} (h : WP M A (eval l env) (fun a s₁ => WP M A (eval r env) (fun b s₂ => WP M A (binaryOp op a b) Q No s₂) No s₁) No s) : WP M A (eval (.BinOp l op r pos) env) Q No s := by
  simp only [WP_eq] at *; exact wpAny_BinOp h
theorem w_UnaryOp {op : UnaryOp} {x : Expr} {Q : Value → Shared → Prop} (h : WP M A (eval x env) (fun v s₁ => WP M A (unaryOp op v) Q No s₁) No s) : WP M A (eval (.UnaryOp op x pos) env) Q No s := by
  simp only [WP_eq] at *; exact wpAny_UnaryOp h
theorem w_Compare {l : Expr} {op : CmpOp} {r : Expr} {Q : Value → Shared → Prop} (h : WP M A (eval l env) (fun a s₁ => WP M A (eval r env) (fun b s₂ => WP M A (compareOp op a b) Q No s₂) No s₁) No s)
    (hm : behindInMarks op r = false := by with_unfolding_all rfl) : WP M A (eval (.Compare l [op] [r] pos) env) Q No s := by
  simp only [WP_eq] at *; exact wpAny_Compare1 h hm
theorem w_tCompare {l : Expr} {op : CmpOp} {r : Expr} {wh : Sem Value} {Q : Bool → Shared → Prop} (h : WP M A (eval l env) (fun a s₁ => WP M A (eval r env) (fun b s₂ => WP M A (compareOp op a b) (fun c s₃ => WP M A (truthy c) Q No s₃) No s₂) No s₁) No s)
    (hm : behindInMarks op r = false := by with_unfolding_all rfl) : WP M A (isTrue (.Compare l [op] [r] pos) env wh) Q No s := by
  simp only [WP_eq] at *; exact wpAny_isTrue_Compare1 h hm
theorem w_tBool {op : BoolOp} {vs : List Expr} {wh : Sem Value} {Q : Bool → Shared → Prop} (h : WP M A (allTrue op vs env) Q No s) : WP M A (isTrue (.BoolOp op vs pos) env wh) Q No s := by
  simp only [WP_eq] at *; exact wpAny_isTrue_BoolOp h
theorem w_tVal {e : Expr} {wh : Sem Value} {Q : Bool → Shared → Prop} (h : WP M A wh (fun v s₁ => WP M A (truthy v) Q No s₁) No s) (he : isTrue e env wh = (do let v ← wh; standAt e.pos; holding [v] (truthy v)) := by rfl) : WP M A (isTrue e env wh) Q No s := by
  simp only [WP_eq] at *; exact wpAny_isTrue_value h he
theorem w_andNil {Q : Bool → Shared → Prop} (h : Q true s) : WP M A (allTrue .And [] env) Q No s := by simp only [WP_eq] at *; exact wpAny_allTrue_And_nil h
theorem w_orNil {Q : Bool → Shared → Prop} (h : Q false s) : WP M A (allTrue .Or [] env) Q No s := by simp only [WP_eq] at *; exact wpAny_allTrue_Or_nil h
theorem w_andCons {x : Expr} {rest : List Expr} {Q : Bool → Shared → Prop} (h : WP M A (isTrue x env (eval x env)) (fun b s₁ => if b = true then WP M A (allTrue .And rest env) Q No s₁ else Q false s₁) No s) : WP M A (allTrue .And (x :: rest) env) Q No s := by
  simp only [WP_eq] at *; exact wpAny_allTrue_And_cons h
theorem w_orCons {x : Expr} {rest : List Expr} {Q : Bool → Shared → Prop} (h : WP M A (isTrue x env (eval x env)) (fun b s₁ => if b = true then Q true s₁ else WP M A (allTrue .Or rest env) Q No s₁) No s) : WP M A (allTrue .Or (x :: rest) env) Q No s := by
  simp only [WP_eq] at *; exact wpAny_allTrue_Or_cons h
theorem w_IfExp {test body orelse : Expr} {Q : Value → Shared → Prop} (h : WP M A (isTrue test env (eval test env)) (fun b s₁ => if b = true then WP M A (eval body env) Q No s₁ else WP M A (eval orelse env) Q No s₁) No s) : WP M A (eval (.IfExp test body orelse pos) env) Q No s := by
  simp only [WP_eq] at *; exact wpAny_IfExp h
theorem w_If {test : Expr} {body orelse : List Stmt} {Q : Flow → Shared → Prop} (h : WP M A (isTrue test env (eval test env)) (fun b s₂ => if b = true then WP M A (execs body env) Q No s₂ else WP M A (execs orelse env) Q No s₂) No s) : WP M A (exec (.If test body orelse pos) env) Q No s := by
  simp only [WP_eq] at *; exact wpAny_If h
theorem w_Ret {e : Expr} {Q : Flow → Shared → Prop} (h : WP M A (eval e env) (fun v => Q (.ret v)) No s) : WP M A (exec (.Return (some e) pos) env) Q No s := by
  simp only [WP_eq] at *; exact wpAny_Return_some h
theorem w_Continue {Q : Flow → Shared → Prop} (h : Q .cont s) : WP M A (exec (.Continue pos) env) Q No s := by simp only [WP_eq] at *; exact wpAny_Continue h
theorem w_Aug {x : Str} {p : Pos} {op : Operator} {value : Expr} {Q : Flow → Shared → Prop} (h : WP M A (loadName env x) (fun old s₁ => WP M A (eval value env) (fun v s₂ => WP M A (inplaceOp op old v)
      (fun r s₃ => WP M A (storeName env x r) (fun _ => Q .next) No s₃) No s₂) No s₁) No s) : WP M A (exec (.AugAssign (.Name x p) op value pos) env) Q No s := by
  simp only [WP_eq] at *; exact wpAny_AugAssign_Name h
theorem w_none {k : Nat} {Q : Value → Shared → Prop} (h : Q .none s) : WP M A (eval (.Constant .none k pos) env) Q No s := by simp only [WP_eq] at *; exact wpAny_Constant_none h
theorem w_bool {b : Bool} {k : Nat} {Q : Value → Shared → Prop} (h : Q (.bool b) s) : WP M A (eval (.Constant (.bool b) k pos) env) Q No s := by simp only [WP_eq] at *; exact wpAny_Constant_bool h
theorem w_call {func : Expr} {args : List Expr} {Q : Value → Shared → Prop} (h : WP M A (eval func env) (fun f s₁ => WP M A (callWith pos f [] (backTo pos (starEach args env)) []) Q No s₁) No s)
    (he : eval (.Call func args [] pos) env = (do callWith pos (← eval func env) [] (backTo pos (starEach args env)) (backToKw pos (keywordEach [] env))) := by rfl) : WP M A (eval (.Call func args [] pos) env) Q No s := by
  simp only [WP_eq] at *; exact Call_ h he
theorem w_callKw {id : Str} {p : Pos} {args : List Expr} {kws : List Keyword} {Q : Value → Shared → Prop} (h : WP M A (eval (.Name id p) env) (fun f s₁ => WP M A (callWith pos f [] (backTo pos (starEach args env)) (backToKw pos (keywordEach kws env))) Q No s₁) No s) :
    WP M A (eval (.Call (.Name id p) args kws pos) env) Q No s := by
  simp only [WP_eq] at *; exact wpAny_Call_Name_kw h
theorem w_asgT {elts : List Expr} {k : Nat} {tp : Pos} {value : Expr} {Q : Flow → Shared → Prop} (h : WP M A (eval value env) (fun v s₁ => WP M A (assign (.Tuple elts k tp) env v) (fun _ => Q .next) No s₁) No s)
    (hs : swapsWithSole [.Tuple elts k tp] value pos.line env = pure false := by rfl) (hw : swappedStores [.Tuple elts k tp] value env = pure none := by rfl) : WP M A (exec (.Assign [.Tuple elts k tp] value pos) env) Q No s := by
  simp only [WP_eq] at *; exact PyProof.Rows.Assign_Tuple h hs hw
theorem w_asgS {elts : List Expr} {k : Nat} {tp : Pos} {value : Expr} {names : List Str} {Q : Flow → Shared → Prop} (h : WP M A (eval value env) (fun v s₁ => WP M A (unpackItems v names.length none) (fun items s₂ =>
      WP M A (assignInOrder (names.reverse.map fun n => bindName env n) items.reverse) (fun _ => Q .next) No s₂) No s₁) No s)
    (hs : swapsWithSole [.Tuple elts k tp] value pos.line env = pure false := by rfl) (hw : swappedStores [.Tuple elts k tp] value env = pure (some names) := by rfl) : WP M A (exec (.Assign [.Tuple elts k tp] value pos) env) Q No s := by
  simp only [WP_eq] at *; exact PyProof.Rows.Assign_Tuple_swapped h hs hw
theorem w_ordNil {xs : List Value} {Q : Unit → Shared → Prop} (h : Q () s) : WP M A (assignInOrder [] xs) Q No s := by simp only [WP_eq] at *; exact PyProof.Rows.assignInOrder_nil h
theorem w_ordCons {t : Value → Sem Unit} {ts : List (Value → Sem Unit)} {x : Value} {xs : List Value} {Q : Unit → Shared → Prop} (h : WP M A (t x) (fun _ s₁ => WP M A (assignInOrder ts xs) Q No s₁) No s) : WP M A (assignInOrder (t :: ts) (x :: xs)) Q No s := by
  simp only [WP_eq] at *; exact PyProof.Rows.assignInOrder_cons h
theorem w_bind {x : Str} {v : Value} {Q : Unit → Shared → Prop} (h : WP M A (storeName env x v) Q No s) : WP M A (bindName env x v) Q No s := by simp only [WP_eq] at *; exact wpAny_bindName h
theorem w_mono {α : Type} {t : Sem α} {Q Q' : α → Shared → Prop} (h : WP M A t Q No s) (hq : ∀ a s', Q a s' → Q' a s') : WP M A t Q' No s := by
  simp only [WP_eq] at *; exact wpAny_mono h hq fun _ _ x => x
end

theorem r_ldn {x : Str} {v : Value} {Q : Value → Shared → Prop} (I : On s₀ h₀ g L m mu s) (hv : m x = some v) (h : Q v s) (hE : env.locals = L := by rfl)
    (hk : env.scope.kind = .function := by rfl) (hl : env.kindOf x = some .local := by rfl) :
    WP (model prog w) A (loadName env x) Q No s := by
  simp only [WP_eq] at *; exact wpAny_loadName_local hk hl (hE ▸ I.ns) hv h
theorem r_unpackI {t : Addr} {xs : List Value} {n : Nat} {Q : List Value → Shared → Prop} (hh : A.handled = none) (ht : IsT g t xs) (I : On s₀ h₀ g L m mu s) (h : ∀ s', On s₀ h₀ g L m mu s' → Q xs s') (hn : n = xs.length := by rfl) :
    WP (model prog w) A (unpackItems (.ref t) n none) Q No s := by
  simp only [WP_eq] at *
  have e : n = xs.toArray.size := by simpa using hn
  subst e
  exact PyProof.Rows.unpackItems_tuple hh (ht.up I.keep).isTup fun h' hx => h _ (I.keeps ⟨h', s.toks, rfl, fun b o e => hx b o (Nat.ne_of_lt (Heap.lt_size e)) e⟩)
end
end
/-! ### B4 -/
local macro_rules | `(tactic| walk_at "name") => `(tactic| first
  | ((with_reducible show WP _ _ (eval (Expr.Name (Str.ofString "_law_two") _) _) _ _ _); refine n_two (by assumption) (by assumption) (by assumption) (by rfl) (by rfl) ?_)
  | ((with_reducible show WP _ _ (eval (Expr.Name (Str.ofString "_law_clock") _) _) _ _ _); refine n_clock (by assumption) (by assumption) (by assumption) (by rfl) (by rfl) ?_)
  | ((with_reducible show WP _ _ (eval (Expr.Name (Str.ofString "offset_from_tz_string") _) _) _ _ _); refine n_off (by assumption) (by assumption) (by assumption) (by rfl) (by rfl) ?_)
  | ((with_reducible show WP _ _ (eval (Expr.Name (Str.ofString "_indent") _) _) _ _ _); refine n_indent (by assumption) (by assumption) (by assumption) (by rfl) (by rfl) ?_)
  | ((with_reducible show WP _ _ (eval (Expr.Name (Str.ofString "insort_right") _) _) _ _ _); refine n_insR (by assumption) (by assumption) (by assumption) (by rfl) (by rfl) ?_)
  | ((with_reducible show WP _ _ (eval (Expr.Name (Str.ofString "bisect_right") _) _) _ _ _); refine n_bisR (by assumption) (by assumption) (by assumption) (by rfl) (by rfl) ?_)
  | ((with_reducible show WP _ _ (eval (Expr.Name (Str.ofString "insort_left") _) _) _ _ _); refine n_insL (by assumption) (by assumption) (by assumption) (by rfl) (by rfl) ?_)
  | ((with_reducible show WP _ _ (eval (Expr.Name (Str.ofString "bisect_left") _) _) _ _ _); refine n_bisL (by assumption) (by assumption) (by assumption) (by rfl) (by rfl) ?_)
  | ((with_reducible show WP _ _ (eval (Expr.Name (Str.ofString "_law_first") _) _) _ _ _); refine n_first (by assumption) (by assumption) (by assumption) (by rfl) (by rfl) ?_)
  | ((with_reducible show WP _ _ (eval (Expr.Name (Str.ofString "_law_last") _) _) _ _ _); refine n_last (by assumption) (by assumption) (by assumption) (by rfl) (by rfl) ?_)
  | ((with_reducible show WP _ _ (eval (Expr.Name (Str.ofString "_law_partings") _) _) _ _ _); refine n_part (by assumption) (by assumption) (by assumption) (by rfl) (by rfl) ?_)
  | ((with_reducible show WP _ _ (eval (Expr.Name (Str.ofString "_twin_re_1") _) _) _ _ _); refine n_re1 (by assumption) (by assumption) (by assumption) (by rfl) (by rfl) ?_)
  | ((with_reducible show WP _ _ (eval (Expr.Name (Str.ofString "TIMEZONE_RE") _) _) _ _ _); refine n_re2 (by assumption) (by assumption) (by assumption) (by rfl) (by rfl) ?_)
  | ((with_reducible show WP _ _ (eval (Expr.Name (Str.ofString "UTC_ZONES") _) _) _ _ _); refine n_zones (by assumption) (by assumption) (by assumption) (by rfl) (by rfl) ?_)
  | ((with_reducible show WP _ _ (eval (Expr.Name (Str.ofString "len") _) _) _ _ _); refine n_len (by assumption) (by assumption) (by assumption) (by rfl) (by rfl) (by rfl) ?_)
  | ((with_reducible show WP _ _ (eval (Expr.Name (Str.ofString "range") _) _) _ _ _); refine n_range (by assumption) (by assumption) (by assumption) (by rfl) (by rfl) (by rfl) ?_)
  | ((with_reducible show WP _ _ (eval (Expr.Name (Str.ofString "min") _) _) _ _ _); refine n_min (by assumption) (by assumption) (by assumption) (by rfl) (by rfl) (by rfl) ?_)
  | ((with_reducible show WP _ _ (eval (Expr.Name (Str.ofString "abs") _) _) _ _ _); refine n_abs (by assumption) (by assumption) (by assumption) (by rfl) (by rfl) (by rfl) ?_)
  | ((with_reducible show WP _ _ (eval (Expr.Name (Str.ofString "str") _) _) _ _ _); refine n_str (by assumption) (by assumption) (by assumption) (by rfl) (by rfl) (by rfl) ?_)
  | ((with_reducible show WP _ _ (eval (Expr.Name (Str.ofString "int") _) _) _ _ _); refine n_int (by assumption) (by assumption) (by assumption) (by rfl) (by rfl) (by rfl) ?_)
  | ((with_reducible show WP _ _ (eval (Expr.Name (Str.ofString "sorted") _) _) _ _ _); refine n_sorted (by assumption) (by assumption) (by assumption) (by rfl) (by rfl) (by rfl) ?_)
  | ((with_reducible show WP _ _ (eval (Expr.Name (Str.ofString "isinstance") _) _) _ _ _); refine n_isi (by assumption) (by assumption) (by assumption) (by rfl) (by rfl) (by rfl) ?_)
  | ((with_reducible show WP _ _ (eval (Expr.Name (Str.ofString "bool") _) _) _ _ _); refine n_bool (by assumption) (by assumption) (by assumption) (by rfl) (by rfl) (by rfl) ?_))
local macro_rules | `(tactic| walk_at "size") => `(tactic| (simp only [Str.length_append, sizeLine_eq]; omega))
local macro_rules | `(tactic| walk_at "eval") => `(tactic| first
  | ((with_reducible show WP _ _ (eval (Expr.Name _ _) _) _ _ _); first | refine r_nm (by assumption) (by first | rfl | assumption) ?_ | walk_at "name")
  | ((with_reducible show WP _ _ (eval (Expr.Constant (Const.int _) _ _) _) _ _ _); refine r_int (by assumption) ?_; intro _ _ _)
  | ((with_reducible show WP _ _ (eval (Expr.Constant (Const.str _) _ _) _) _ _ _); refine r_str (by assumption) ?_; intro _ _ _)
  | ((with_reducible show WP _ _ (eval (Expr.Constant Const.none _ _) _) _ _ _); refine w_none ?_)
  | ((with_reducible show WP _ _ (eval (Expr.Constant (Const.bool _) _ _) _) _ _ _); refine w_bool ?_)
  | ((with_reducible show WP _ _ (eval (Expr.BinOp _ _ _ _) _) _ _ _); refine w_BinOp ?_)
  | ((with_reducible show WP _ _ (eval (Expr.UnaryOp _ _ _) _) _ _ _); refine w_UnaryOp ?_)
  | ((with_reducible show WP _ _ (eval (Expr.Subscript _ _ _) _) _ _ _); refine r_subs ?_)
  | ((with_reducible show WP _ _ (eval (Expr.Call (Expr.Name _ _) _ [] _) _) _ _ _); refine w_call ?_)
  | ((with_reducible show WP _ _ (eval (Expr.IfExp _ _ _ _) _) _ _ _); refine w_IfExp ?_)
  | ((with_reducible show WP _ _ (eval (Expr.Tuple _ _ _) _) _ _ _); refine r_tup ?_)
  | ((with_reducible show WP _ _ (eval (Expr.List _ _) _) _ _ _); refine r_lst ?_)
  | ((with_reducible show WP _ _ (eval (Expr.Compare _ [_] [_] _) _) _ _ _); refine w_Compare ?_))
local macro_rules | `(tactic| walk_at "exec") => `(tactic| first
  | ((with_reducible show WP _ _ (exec (Stmt.Assign [Expr.Name _ _] _ _) _) _ _ _); refine r_assign ?_)
  | ((with_reducible show WP _ _ (exec (Stmt.Assign [Expr.Tuple _ _ _] _ _) _) _ _ _); first | refine w_asgT ?_ | refine w_asgS ?_)
  | ((with_reducible show WP _ _ (exec (Stmt.AugAssign (Expr.Name _ _) _ _ _) _) _ _ _); refine w_Aug ?_)
  | ((with_reducible show WP _ _ (exec (Stmt.If _ _ _ _) _) _ _ _); refine w_If ?_)
  | ((with_reducible show WP _ _ (exec (Stmt.Return (some _) _) _) _ _ _); refine w_Ret ?_)
  | ((with_reducible show WP _ _ (exec (Stmt.Continue _) _) _ _ _); refine w_Continue ?_))
local macro_rules | `(tactic| walk_at "ops") => `(tactic| first
  | ((with_reducible show WP _ _ (binaryOp Operator.Add (Value.int _ _) (Value.int _ _)) _ _ _); refine r_add (by assumption) ?_; intro _ _ _)
  | ((with_reducible show WP _ _ (binaryOp Operator.Sub (Value.int _ _) (Value.int _ _)) _ _ _); refine r_sub (by assumption) ?_; intro _ _ _)
  | ((with_reducible show WP _ _ (inplaceOp Operator.Add (Value.int _ _) (Value.int _ _)) _ _ _); refine r_iadd (by assumption) ?_; intro _ _ _)
  | ((with_reducible show WP _ _ (binaryOp Operator.FloorDiv (Value.int _ _) (Value.int _ _)) _ _ _); refine r_div (by assumption) (by decide) ?_; intro _ _ _)
  | ((with_reducible show WP _ _ (binaryOp Operator.Mod (Value.int _ _) (Value.int _ _)) _ _ _); refine r_mod (by assumption) (by decide) ?_; intro _ _ _)
  | ((with_reducible show WP _ _ (binaryOp Operator.Mult (Value.int _ _) (Value.int _ _)) _ _ _); refine r_mul (by assumption) (by omega) ?_; intro _ _ _)
  | ((with_reducible show WP _ _ (binaryOp Operator.Add (Value.str _ _) (Value.str _ _)) _ _ _); refine r_cat (by assumption) (by walk_at "size") ?_; intro _ _ _)
  | ((with_reducible show WP _ _ (unaryOp UnaryOp.USub (Value.int _ _)) _ _ _); refine r_neg (by assumption) ?_; intro _ _ _)
  | ((with_reducible show WP _ _ (compareOp CmpOp.Eq (Value.int _ _) (Value.int _ _)) _ _ _); refine r_eqi ?_)
  | ((with_reducible show WP _ _ (compareOp CmpOp.NotEq (Value.int _ _) (Value.int _ _)) _ _ _); refine r_nei ?_)
  | ((with_reducible show WP _ _ (compareOp CmpOp.Lt (Value.int _ _) (Value.int _ _)) _ _ _); refine r_lti ?_)
  | ((with_reducible show WP _ _ (compareOp CmpOp.Gt (Value.int _ _) (Value.int _ _)) _ _ _); refine r_gti ?_)
  | ((with_reducible show WP _ _ (compareOp CmpOp.Eq (Value.str _ _) (Value.str _ _)) _ _ _); refine r_eqs ?_))
local macro_rules | `(tactic| walk_at "test") => `(tactic| first
  | ((with_reducible show WP _ _ (isTrue (Expr.Compare _ [_] [_] _) _ _) _ _ _); refine w_tCompare ?_)
  | ((with_reducible show WP _ _ (isTrue (Expr.BoolOp _ _ _) _ _) _ _ _); refine w_tBool ?_)
  | ((with_reducible show WP _ _ (isTrue (Expr.Name _ _) _ _) _ _ _); refine w_tVal ?_)
  | ((with_reducible show WP _ _ (isTrue (Expr.Subscript _ _ _) _ _) _ _ _); refine w_tVal ?_)
  | ((with_reducible show WP _ _ (isTrue (Expr.Call _ _ _ _) _ _) _ _ _); refine w_tVal ?_)
  | ((with_reducible show WP _ _ (allTrue BoolOp.And [] _) _ _ _); refine w_andNil ?_)
  | ((with_reducible show WP _ _ (allTrue BoolOp.Or [] _) _ _ _); refine w_orNil ?_)
  | ((with_reducible show WP _ _ (allTrue BoolOp.And (_ :: _) _) _ _ _); refine w_andCons ?_)
  | ((with_reducible show WP _ _ (allTrue BoolOp.Or (_ :: _) _) _ _ _); refine w_orCons ?_))
local macro_rules | `(tactic| walk_at "go") => `(tactic| first
  | ((with_reducible show WP _ _ (eval _ _) _ _ _); walk_at "eval")
  | ((with_reducible show WP _ _ (exec _ _) _ _ _); walk_at "exec")
  | ((with_reducible show WP _ _ (binaryOp _ _ _) _ _ _); walk_at "ops")
  | ((with_reducible show WP _ _ (compareOp _ _ _) _ _ _); walk_at "ops")
  | ((with_reducible show WP _ _ (isTrue _ _ _) _ _ _); walk_at "test")
  | ((with_reducible show WP _ _ (execs (_ :: _) _) _ _ _); refine w_cons ?_)
  | ((with_reducible show WP _ _ (execs [] _) _ _ _); refine w_nil ?_)
  | ((with_reducible show WP _ _ (unpackItems (Value.ref _) _ none) _ _ _); refine r_unpackI (by assumption) (by assumption) (by assumption) ?_; intro _ _)
  | ((with_reducible show WP _ _ (assign (Expr.Tuple _ _ _) _ (Value.ref _)) _ _ _); refine r_unpack (by assumption) (by assumption) (by assumption) ?_; intro _ _)
  | ((with_reducible show WP _ _ (bindName _ _ _) _ _ _); refine w_bind ?_)
  | ((with_reducible show WP _ _ (loadName _ _) _ _ _); refine r_ldn (by assumption) (by first | rfl | assumption) ?_)
  | ((with_reducible show WP _ _ (truthy (Value.bool _)) _ _ _); refine r_tb ?_)
  | ((with_reducible show WP _ _ (storeName _ _ _) _ _ _); refine r_store (by assumption) ?_; intro _ _)
  | ((with_reducible show WP _ _ (spliced (backTo _ (starEach (_ :: _) _))) _ _ _); refine spl_cons ?_)
  | ((with_reducible show WP _ _ (spliced (backTo _ (starEach [] _))) _ _ _); refine spl_nil ?_)
  | ((with_reducible show WP _ _ (callWith _ (Value.builtin _) [] _ _) _ _ _); refine cw_builtin ?_)
  | ((with_reducible show WP _ _ (callWith _ (Value.type _) [] _ _) _ _ _); refine cw_type ?_)
  | ((with_reducible show ∀ _ : Sem Bool, WP _ _ (getMethod _ _ _) _ _ _); intro _)
  | ((with_reducible show WP _ _ (call (Value.type "str") [Value.int _ _]) _ _ _); refine r_strI (by assumption) (by omega) ?_; intro _ _ _)
  | ((with_reducible show WP _ _ (call (Value.builtin "abs") [Value.int _ _]) _ _ _); refine r_abs (by assumption) ?_; intro _ _ _)
  | ((with_reducible show WP _ _ (newTuple _) _ _ _); refine r_newT (by assumption) (by exact Nat.le_of_ble_eq_true rfl) ?_; intro _ _ _ hU _ _; (try (have hW := Wd.up (by assumption) hU)))
  | ((with_reducible show WP _ _ (assign (Expr.Name _ _) _ _) _ _ _); refine r_anm ?_)
  | ((with_reducible show WP _ _ (assignInOrder [] _) _ _ _); refine w_ordNil ?_)
  | ((with_reducible show WP _ _ (assignInOrder (_ :: _) _) _ _ _); refine w_ordCons ?_)
  | ((with_reducible show WP _ _ (assignInOrder _ _) _ _ _); first | refine w_ordNil ?_ | refine w_ordCons ?_)
  | ((with_reducible show (if _ then _ else _)); first | refine ite_neg (by decide) ?_ | refine ite_pos (by decide) ?_ | (refine both (fun _ => ?_) (fun _ => ?_) <;> (try (exfalso; omega))))
  | ((with_reducible show WP _ _ (inplaceOp _ _ _) _ _ _); walk_at "ops")
  | ((with_reducible show WP _ _ (unaryOp _ _) _ _ _); walk_at "ops")
  | ((with_reducible show WP _ _ (allTrue _ _ _) _ _ _); walk_at "test")
  | (dsimp only))
local macro_rules | `(tactic| walk_at "go") => `(tactic| first
  | ((with_reducible show WP _ _ (eval (Expr.Call (Expr.Name _ _) _ (_ :: _) _) _) _ _ _); refine w_callKw ?_)
  | ((with_reducible show WP _ _ (newList (_ :: _)) _ _ _); refine r_newL (by assumption) (by exact Nat.le_of_ble_eq_true rfl) ?_; intro _ _ _ hU _ _; (try (have hW := Wd.up (by assumption) hU))))
section
open PySem PySem.Calls PySem.W PyProof.Rows
section
variable {prog : Program} {w : World} {A : Around} {s : Shared} {mg mb : Str → Option Value}

theorem first_ok {n : Nat} {t : Addr} {b e : Value} {Q : Value → Shared → Prop} (hA : Fine n A) (F : FnIn s.heap 114 fFirst) (lim : s.heap.NoLimit) (ht : IsT s.heap t [b, e]) (h : ∀ s', Keeps s s' → Q b s') (hn : n < 900 := by omega) :
    WP (model prog w) A (call (.ref 114) [.ref t] []) Q No s := by
  refine call_pure hA F lim (BindsTo.of_eq (binds := [("meeting", .ref t)]) rfl) (fun s₁ I => ?_)
  conv in dBody _ => whnf
  repeat' walk_at "go"
  exact r_itemT (ht.up (On.keep (by assumption))) (by decide) (by decide) rfl (h _ (On.keepsOf (by assumption)))

theorem last_ok {n : Nat} {t : Addr} {b e : Value} {Q : Value → Shared → Prop} (hA : Fine n A) (F : FnIn s.heap 121 fLast) (lim : s.heap.NoLimit) (ht : IsT s.heap t [b, e]) (h : ∀ s', Keeps s s' → Q e s') (hn : n < 900 := by omega) :
    WP (model prog w) A (call (.ref 121) [.ref t] []) Q No s := by
  refine call_pure hA F lim (BindsTo.of_eq (binds := [("meeting", .ref t)]) rfl) (fun s₁ I => ?_)
  conv in dBody _ => whnf
  repeat' walk_at "go"
  exact r_itemT (ht.up (On.keep (by assumption))) (by decide) (by decide) rfl (h _ (On.keepsOf (by assumption)))

def numS (n : Int) : Str := Str.ofString (toString n)
def twoS (n : Int) : Str := numS (n / 10) ++ numS (n % 10)
theorem numS_len {n : Int} (h : -1000000 < n ∧ n < 1000000) : (numS n).length ≤ 7 := by
  unfold numS
  rw [PySem.ofString_length]
  exact int_text_length_le10 (k := 6) (by decide) (by omega)
theorem twoS_len {n : Int} (h : 0 ≤ n ∧ n < 1000) : (twoS n).length ≤ 14 := by
  have h1 := numS_len (n := n / 10) (by omega)
  have h2 := numS_len (n := n % 10) (by omega)
  unfold twoS; rw [Str.length_append]; omega
theorem two_ok {n : Nat} {i : Int} {t : Tok} {Q : Value → Shared → Prop} (hA : Fine n A) (W : Wd mg mb s.heap) (N : Nm mg mb) (hi : 0 ≤ i ∧ i < 1000) (h : ∀ s' t, Keeps s s' → Q (.str (twoS i) t) s') (hn : n < 900 := by omega) :
    WP (model prog w) A (call (.ref 100) [.int i t] []) Q No s := by
  refine call_pure hA W.two W.lim (BindsTo.of_eq (binds := [("number", .int i t)]) rfl) (fun s₁ I => ?_)
  have h1 := numS_len (n := i / 10) (by omega)
  have h2 := numS_len (n := i % 10) (by omega)
  unfold numS at h1 h2
  conv in dBody _ => whnf
  repeat' walk_at "go"
  exact h _ _ (On.keepsOf (by assumption))
end
end
/-! ### B5 -/
local macro_rules | `(tactic| walk_at "go") => `(tactic| first
  | ((with_reducible show WP _ _ (callWith _ (Value.ref 100) [] _ []) _ _ _); refine cw_def fTwo ?_)
  | ((with_reducible show FnIn _ 100 _ ∧ _); refine ⟨FnIn.up (Wd.two (by assumption)) (On.keep (by assumption)), ?_⟩))
section
open PySem PySem.Calls PySem.W PyProof.Rows
section
variable {prog : Program} {w : World} {A : Around} {s : Shared} {mg mb : Str → Option Value}
local macro_rules | `(tactic| walk_at "go") => `(tactic| ((with_reducible show WP _ _ (call (Value.ref 100) [Value.int _ _] []) _ _ _); refine two_ok (by assumption) (Wd.up (by assumption) (On.keep (by assumption))) (by assumption) (by omega) (fun _ _ K => ?_); replace K := On.keeps (by assumption) K))
local macro_rules | `(tactic| walk_at "go") => `(tactic| ((with_reducible show WP _ _ (subscriptTail _ _ (Value.ref _) (Value.int _ _)) _ _ _); refine r_itemL (IsL.up (by assumption) (On.keep (by assumption))) (by decide) (by decide) (by rfl) ?_))
local macro_rules | `(tactic| walk_at "go") => `(tactic| ((with_reducible show WP _ _ (newList _) _ _ _); refine r_newL (by assumption) (by exact Nat.le_of_ble_eq_true rfl) ?_; intro _ _ _ hU _ _; have hW := Wd.up (by assumption) hU))

def absI (b : Int) : Int := if b < 0 then -b else b
def clk (d b : Int) : Str :=
  if d = 6 then numS b ++ "h"
  else if b = 0 ∧ d < 4 then (if d = 0 then "GMT" else if d = 1 then "UTC" else if d = 2 then "UT" else "Z")
  else
    let sg : Str := if b < 0 then "-" else if d % 2 = 0 then "+" else ""
    let hh := absI b / 2
    let mi := absI b % 2 * 30
    if d = 0 then sg ++ twoS hh ++ twoS mi
    else if d = 1 then sg ++ numS hh ++ ":" ++ twoS mi
    else if d = 2 then sg ++ numS hh ++ twoS mi
    else if d = 3 ∧ mi = 0 then sg ++ twoS hh ++ ":"
    else if d = 4 ∧ 0 < hh then sg ++ twoS (hh - 1) ++ twoS (mi + 60)
    else if d = 5 ∧ mi = 0 then sg ++ numS hh
    else sg ++ twoS hh ++ ":" ++ twoS mi

theorem absI_eq (b : Int) : (if b < 0 then -b else b) = absI b := rfl
def sgn (d b : Int) : Str := if b < 0 then "-" else if d % 2 = 0 then "+" else ""
theorem sgn_len (d b : Int) : (sgn d b).length ≤ 1 := by
  unfold sgn
  split
  · exact Nat.le_refl _
  · split
    · exact Nat.le_refl _
    · exact Nat.zero_le _
def clkR (d b : Int) (sg : Str) : Str :=
  if d = 0 then sg ++ twoS (absI b / 2) ++ twoS (absI b % 2 * 30)
  else if d = 1 then sg ++ numS (absI b / 2) ++ ":" ++ twoS (absI b % 2 * 30)
  else if d = 2 then sg ++ numS (absI b / 2) ++ twoS (absI b % 2 * 30)
  else if d = 3 ∧ absI b % 2 * 30 = 0 then sg ++ twoS (absI b / 2) ++ ":"
  else if d = 4 ∧ 0 < absI b / 2 then sg ++ twoS (absI b / 2 - 1) ++ twoS (absI b % 2 * 30 + 60)
  else if d = 5 ∧ absI b % 2 * 30 = 0 then sg ++ numS (absI b / 2)
  else sg ++ twoS (absI b / 2) ++ ":" ++ twoS (absI b % 2 * 30)
theorem clk_main {d b : Int} (h6 : d ≠ 6) (hz : ¬ (b = 0 ∧ d < 4)) : clk d b = clkR d b (sgn d b) := by
  unfold clk
  rw [if_neg h6, if_neg hz]
  rfl
/-- the sign -/
theorem sign_ok {s₀ : Shared} {h₀ g : Heap} {L : Addr} {m : Str → Option Value} {mu : List (Addr × Ent)} {d b : Int} {tb td : Tok} {p1 p2 p3 p4 p5 p6 p7 p8 p9 q1 q2 q3 : Pos} {k1 k2 k3 k4 k5} {Q : Value → Shared → Prop} (W : Wd mg mb g)
    (I : On s₀ h₀ g L m mu s) (hb : m "begin" = some (.int b tb)) (hd : m "dress" = some (.int d td)) (h : ∀ s' g' t, Up g g' → Wd mg mb g' → On s₀ h₀ g' L m mu s' → Q (.str (sgn d b) t) s') :
    WP (model prog w) A (eval (.IfExp (.Compare (.Name (Str.ofString "begin") p1) [.Lt] [.Constant (.int 0) k1 p2] p3) (.Constant (.str (Str.ofString "-")) k2 p4)
      (.Subscript (.List [.Constant (.str (Str.ofString "+")) k3 p5, .Constant (.str (Str.ofString "")) k4 p6] p7) (.BinOp (.Name (Str.ofString "dress") p8) .Mod (.Constant (.int 2) k5 p9) q1) q2) q3) (callEnv fClock L 107)) Q No s := by
  have g0 : ∀ s' g' t x, x = sgn d b → Up g g' → On s₀ h₀ g' L m mu s' → Q (.str x t) s' := fun s' g' t x e u O => e ▸ h s' g' t u (W.up u) O
  clear h
  repeat' walk_at "go"
  · exact g0 _ _ _ _ (by unfold sgn; rw [if_pos (by assumption)]) Up.rfl (by assumption)
  · rename_i hn0 s2 t2 O2 s3 t3 O3 s4 g4 a4 hU hL O4 W4 s5 t5 O5 s6 t6 O6
    have hm : d % 2 = 0 ∨ d % 2 = 1 := by omega
    rcases hm with hm | hm
    · refine r_itemL (hL.up O6.keep) (by omega) (by omega) (by rw [hm]; rfl) ?_
      exact g0 _ _ _ _ (by unfold sgn; rw [if_neg hn0, if_pos hm]) hU O6
    · refine r_itemL (hL.up O6.keep) (by omega) (by omega) (by rw [hm]; rfl) ?_
      exact g0 _ _ _ _ (by unfold sgn; rw [if_neg hn0, if_neg (by omega)]) hU O6
/-- the row of the zone's names is asked -/
theorem zero_ok {s₀ : Shared} {h₀ g : Heap} {L : Addr} {m : Str → Option Value} {mu : List (Addr × Ent)} {d b : Int} {tb td : Tok} {p1 p2 p3 p4 p5 p6 p7 : Pos} {k1 k2} {wh : Sem Value} {Q : Bool → Shared → Prop}
    (I : On s₀ h₀ g L m mu s) (hb : m "begin" = some (.int b tb)) (hd : m "dress" = some (.int d td)) (h : ∀ s', On s₀ h₀ g L m mu s' → Q (decide (b = 0 ∧ d < 4)) s') :
    WP (model prog w) A (isTrue (.BoolOp .And [.Compare (.Name (Str.ofString "begin") p1) [.Eq] [.Constant (.int 0) k1 p2] p3, .Compare (.Name (Str.ofString "dress") p4) [.Lt] [.Constant (.int 4) k2 p5] p6] p7) (callEnv fClock L 107) wh) Q No s := by
  have g0 : ∀ s' x, x = decide (b = 0 ∧ d < 4) → On s₀ h₀ g L m mu s' → Q x s' := fun s' x e O => e ▸ h s' O
  clear h
  repeat' walk_at "go"
  · exact g0 _ _ (by symm; rw [decide_eq_true_iff]; omega) (by assumption)
  · exact g0 _ _ (by symm; rw [decide_eq_false_iff_not]; omega) (by assumption)
  · exact g0 _ _ (by symm; rw [decide_eq_false_iff_not]; omega) (by assumption)
local macro_rules | `(tactic| walk_at "go") => `(tactic| ((with_reducible show WP _ _ (eval (Expr.IfExp _ _ _ _) _) _ _ _); refine sign_ok (by assumption) (by assumption) rfl rfl ?_; intro _ _ _ _ hW O))
local macro_rules | `(tactic| walk_at "go") => `(tactic| ((with_reducible show WP _ _ (isTrue (Expr.BoolOp BoolOp.And [Expr.Compare (Expr.Name (Str.ofString "begin") _) _ _ _, _] _) _ _) _ _ _); refine zero_ok (by assumption) rfl rfl ?_; intro _ _))
set_option maxHeartbeats 8000000 in
theorem clock_ok {n : Nat} {d b : Int} {t u : Tok} {Q : Value → Shared → Prop} (hA : Fine n A) (W : Wd mg mb s.heap) (N : Nm mg mb) (hd : 0 ≤ d ∧ d ≤ 6) (hb : -8 ≤ b ∧ b ≤ 8) (h : ∀ s' t, Keeps s s' → Q (.str (clk d b) t) s') (hn : n < 890 := by omega) :
    WP (model prog w) A (call (.ref 107) [.int d t, .int b u] []) Q No s := by
  refine call_pure hA W.clock W.lim (BindsTo.of_eq (binds := [("dress", .int d t), ("begin", .int b u)]) rfl) (fun s₁ I => ?_)
  have hA' := hA.deeper (callEnv fClock s.heap.objs.size 107)
  have hh := hA'.h
  have l1 : (Str.ofString "-").length = 1 := rfl
  have l2 : (Str.ofString "+").length = 1 := rfl
  have l3 : (Str.ofString ":").length = 1 := rfl
  have l4 : (Str.ofString "").length = 0 := rfl
  have l5 : (Str.ofString "h").length = 1 := rfl
  have hab : 0 ≤ (if b < 0 then -b else b) ∧ (if b < 0 then -b else b) ≤ 8 := by omega
  have z1 := twoS_len (n := (if b < 0 then -b else b) / 2) (by omega)
  have z2 := twoS_len (n := (if b < 0 then -b else b) % 2 * 30) (by omega)
  have z3 := twoS_len (n := (if b < 0 then -b else b) % 2 * 30 + 60) (by omega)
  have z6 : (twoS ((if b < 0 then -b else b) / 2 - 1)).length ≤ 14 := by
    have h1 := numS_len (n := ((if b < 0 then -b else b) / 2 - 1) / 10) (by omega)
    have h2 := numS_len (n := ((if b < 0 then -b else b) / 2 - 1) % 10) (by omega)
    unfold twoS; rw [Str.length_append]; omega
  have z4 : (Str.ofString (toString ((if b < 0 then -b else b) / 2))).length ≤ 7 := numS_len (n := (if b < 0 then -b else b) / 2) (by omega)
  have z5 : (Str.ofString (toString b)).length ≤ 7 := numS_len (n := b) (by omega)
  have fin : ∀ s' t x, x = clk d b → Keeps s s' → Q (.str x t) s' := fun s' t x e k => e ▸ h s' t k
  clear h
  conv in dBody _ => whnf
  repeat' ((fail_if_success (with_reducible show WP _ _ (execs (Stmt.If (Expr.Compare _ [CmpOp.Eq] [Expr.Constant (Const.int 0) _ _] _) _ _ _ :: _) _) _ _ _)); walk_at "go")
  · refine fin _ _ _ ?_ (On.keepsOf (by assumption))
    unfold clk numS
    rw [if_pos (by assumption)]
  · have hL := (by assumption : IsL _ _ _)
    have O := (by assumption : On _ _ _ _ _ _ _)
    have hd4 : d = 0 ∨ d = 1 ∨ d = 2 ∨ d = 3 := by omega
    clear hd
    rcases hd4 with rfl | rfl | rfl | rfl
    all_goals (
      refine r_itemL (hL.up O.keep) (by decide) (by decide) rfl ?_
      refine fin _ _ _ ?_ (On.keepsOf (by assumption))
      unfold clk
      rw [if_neg (by decide), if_pos (by assumption)]
      rfl)
  · dsimp only
    have h6 : ¬ d = 6 := by assumption
    have hz : ¬ (b = 0 ∧ d < 4) := by assumption
    have fin2 : ∀ s' t x, x = clkR d b (sgn d b) → Keeps s s' → Q (.str x t) s' := fun s' t x e k => fin s' t x (e.trans (clk_main h6 hz).symm) k
    have zs := sgn_len d b
    generalize sgn d b = S at *
    clear fin hz
    have hd5 : d = 0 ∨ d = 1 ∨ d = 2 ∨ d = 3 ∨ d = 4 ∨ d = 5 := by omega
    clear hd h6
    rcases hd5 with rfl | rfl | rfl | rfl | rfl | rfl
    all_goals (repeat' walk_at "go")
    all_goals (refine fin2 _ _ _ ?_ (On.keepsOf (by assumption)))
    all_goals (clear l1 l2 l3 l4 l5 z1 z2 z3 z4 z5 z6 zs fin2)
    all_goals (simp only [clkR, absI, numS])
    all_goals (first | rfl | (simp [*]; done) | (simp [*]; intro hx; exfalso; omega))
end
end
/-! ### R1 -/
section
open PySem PySem.Calls PySem.W PyProof.Rows
theorem pa_pattern : PlainAttrs "re.Pattern" :=
  ⟨⟨"object.__getattribute__", by rw [typeLookup_type, builtinLookup_eq_fast]; kernel_rfl, by decide +kernel⟩, by rw [typeLookup_type, builtinLookup_eq_fast]; kernel_rfl⟩
theorem pa_match : PlainAttrs "re.Match" :=
  ⟨⟨"object.__getattribute__", by rw [typeLookup_type, builtinLookup_eq_fast]; kernel_rfl, by decide +kernel⟩, by rw [typeLookup_type, builtinLookup_eq_fast]; kernel_rfl⟩
theorem slot_search : Slot "re.Pattern" "search" "re.Pattern.search" :=
  .of (owner := "re.Pattern") (n := "search") (by rw [typeLookup_type, builtinLookup_eq_fast]; kernel_rfl) (by decide +kernel) (by decide +kernel) (by decide +kernel)
    (by first | exact .inl (by decide +kernel) | exact .inr (by decide +kernel)) (by rw [isSubtype_type]; kernel_rfl)
theorem slot_sub : Slot "re.Pattern" "sub" "re.Pattern.sub" :=
  .of (owner := "re.Pattern") (n := "sub") (by rw [typeLookup_type, builtinLookup_eq_fast]; kernel_rfl) (by decide +kernel) (by decide +kernel) (by decide +kernel)
    (by first | exact .inl (by decide +kernel) | exact .inr (by decide +kernel)) (by rw [isSubtype_type]; kernel_rfl)
theorem slot_group : Slot "re.Match" "group" "re.Match.group" :=
  .of (owner := "re.Match") (n := "group") (by rw [typeLookup_type, builtinLookup_eq_fast]; kernel_rfl) (by decide +kernel) (by decide +kernel) (by decide +kernel)
    (by first | exact .inl (by decide +kernel) | exact .inr (by decide +kernel)) (by rw [isSubtype_type]; kernel_rfl)
theorem type_search : typeOf (.builtin "re.Pattern.search") = pure (.type "method_descriptor") := by show builtinType _ = _; rw [builtinType_eq_fast]; kernel_rfl
theorem type_sub : typeOf (.builtin "re.Pattern.sub") = pure (.type "method_descriptor") := by show builtinType _ = _; rw [builtinType_eq_fast]; kernel_rfl
theorem type_group : typeOf (.builtin "re.Match.group") = pure (.type "method_descriptor") := by show builtinType _ = _; rw [builtinType_eq_fast]; kernel_rfl
theorem entry_search : entryFor table "re.Pattern.search" = some Builtin.«re.Pattern.search» := entryFor_of_tree (by kernel_rfl)
theorem entry_sub : entryFor table "re.Pattern.sub" = some Builtin.«re.Pattern.sub» := entryFor_of_tree (by kernel_rfl)
theorem entry_loop : entryFor table "re.Pattern.sub.loop" = some Builtin.«re.Pattern.sub.loop» := entryFor_of_tree (by kernel_rfl)
theorem entry_group : entryFor table "re.Match.group" = some Builtin.«re.Match.group» := entryFor_of_tree (by kernel_rfl)
theorem args_search (a b : Value) : argsOk "re.Pattern.search" ⟨[a, b], []⟩ := by
  unfold argsOk; kernel_rfl
end
/-! ### R3 -/
section
open PySem PySem.Calls PySem.W PyProof.Rows PySem.Builtin.Re
def code1 : List Nat := [14, 4, 0, 0, 0, 6, 1, 5, 5, 0, 6, 6, 1, 1]
def code2 : List Nat := [14, 4, 0, 1, 6, 6, 0, 23, 14, 0, 1, 17, 0, 13, 6, 16, 45, 16, 43, 0, 17, 1, 18, 17, 2, 13, 4, 8, 0, 0, 24, 9, 0, 1, 13, 4, 8, 0, 0, 1, 17, 3, 24, 6, 0, 1, 16, 58, 1, 23, 17, 0, 1, 17, 4, 13, 4, 8, 0, 0, 13, 4, 8, 0, 0, 17, 5, 18, 6, 5, 1]
def codeO (c : List Nat) : Obj := { cls := .type "tuple", data := .seq (c.map fun (n : Nat) => rawInt (n : Int)).toArray }
def patO1 : Obj := { cls := .type "re.Pattern", data := .fields #[.str "(?m)^(?!$)" 285, .int 40 302, .int 0 0, .none, .none, .ref 35, .int 0 0] }
def patO2 : Obj := { cls := .type "re.Pattern", data := .fields #[.str "^([-+])?(\\d\\d?):?(\\d\\d)?$" 381, .int 256 455, .int 3 0, .none, .none, .ref 85, .int 0 0] }
def zonesEs (P : Params) : Array DictEntry := #[⟨PyData.keyHash P "GMT", .str "GMT" 371, .none⟩, ⟨PyData.keyHash P "UTC", .str "UTC" 372, .none⟩, ⟨PyData.keyHash P "UT", .str "UT" 373, .none⟩, ⟨PyData.keyHash P "Z", .str "Z" 374, .none⟩]
structure Rx (P : Params) (h : Heap) : Prop where
  c1 : h.get? 35 = some (codeO code1)
  p1 : h.get? 36 = some patO1
  c2 : h.get? 85 = some (codeO code2)
  p2 : h.get? 86 = some patO2
  zones : h.get? 81 = some { cls := .type "dict", data := .dict (zonesEs P) 4 }
theorem Rx.up {P : Params} {h h' : Heap} (x : Rx P h) (u : Up h h') : Rx P h' := ⟨u _ _ x.c1, u _ _ x.p1, u _ _ x.c2, u _ _ x.p2, u _ _ x.zones⟩

section
variable {prog : Program} {w : World} {A : Around} {s : Shared} {E : Value → Shared → Prop}

theorem runFor_done (m : Sre.M) (h : m.outcome.isSome = true) : ∀ n, m.runFor n = m
  | 0 => rfl
  | n + 1 => by unfold Sre.M.runFor; rw [if_pos h]
theorem runFor_add (m : Sre.M) : ∀ a b, m.runFor (a + b) = (m.runFor a).runFor b
  | 0, b => by rw [Nat.zero_add]; rfl
  | a + 1, b => by
    rw [Nat.add_right_comm]
    by_cases h : m.outcome.isSome = true
    · rw [runFor_done m h, runFor_done m h, runFor_done m h]
    · show (if m.outcome.isSome = true then m else (m.step).runFor (a + b)) = ((if m.outcome.isSome = true then m else (m.step).runFor a)).runFor b
      rw [if_neg h, if_neg h]; exact runFor_add _ a b
theorem drive (Q : Sre.M → Shared → Prop) : ∀ (j turns : Nat) (m : Sre.M), j < turns → (m.runFor (4 * j)).outcome.isSome = true → Q (m.runFor (4 * j)) s → wpAny (model prog w) A (reDrive turns m) Q E s
  | j, 0, m, h, _, _ => absurd h (Nat.not_lt_zero _)
  | 0, t + 1, m, _, ho, hq => by
    have e : m.runFor 4 = m := runFor_done m ho 4
    show wpAny (model prog w) A (if (m.runFor 4).outcome.isSome then pure (m.runFor 4) else do rule "sre.turn"; reDrive t (m.runFor 4)) Q E s
    have ho' : m.outcome.isSome = true := ho
    rw [e, if_pos ho']; exact wpAny_pure hq
  | j + 1, t + 1, m, h, ho, hq => by
    have e : m.runFor (4 * (j + 1)) = (m.runFor 4).runFor (4 * j) := by rw [← runFor_add]; congr 1; omega
    rw [e] at ho hq
    show wpAny (model prog w) A (if (m.runFor 4).outcome.isSome then pure (m.runFor 4) else do rule "sre.turn"; reDrive t (m.runFor 4)) Q E s
    by_cases hd : (m.runFor 4).outcome.isSome = true
    · rw [if_pos hd]; rw [runFor_done _ hd] at hq; exact wpAny_pure hq
    · rw [if_neg hd]
      exact wpAny_bind (wpAny_rule (drive Q j t _ (Nat.lt_of_succ_lt_succ h) ho hq))

def spansM (groups : Nat) (m : Sre.M) : List Int := (List.range groups).flatMap fun g =>
  match if ((2 * g + 1 : Nat) : Int) ≤ m.lastmark then (m.marks.getD (2 * g) none, m.marks.getD (2 * g + 1) none) else (none, none) with
    | (some b, some e) => [(b : Int), (e : Int)]
    | _ => [-1, -1]

theorem rules {m : Sre.M} {Q : PUnit → Shared → Prop} (h : Q ⟨⟩ s) : ∀ l : List Nat, wpAny (model prog w) A (forIn l ⟨⟩ fun i _ => (do
    if m.seen.has i then rule (Sre.names.getD i "")
    pure (ForInStep.yield ⟨⟩) : Sem (ForInStep PUnit))) Q E s
  | [] => by rw [List.forIn_nil]; exact wpAny_pure h
  | i :: l => by
    rw [List.forIn_cons]
    refine wpAny_bind ?_
    dsimp only
    split
    · exact wpAny_bind (wpAny_rule (wpAny_pure (rules h l)))
    · exact wpAny_pure (rules h l)

theorem toEnd {m : Sre.M} {Q : Option Sre.M → Shared → Prop} (j : Nat) (hj : j < 1000000) (r : Option Sre.M)
    (ho : (m.runFor (4 * j)).outcome = some .matched ∧ r = some (m.runFor (4 * j)) ∨ (m.runFor (4 * j)).outcome = some .failed ∧ r = none) (h : Q r s) : wpAny (model prog w) A (reRunToEnd m) Q E s := by
  unfold reRunToEnd
  refine wpAny_bind (drive _ j _ m (Nat.lt_trans hj (by decide)) (by rcases ho with ⟨e, _⟩ | ⟨e, _⟩ <;> rw [e] <;> rfl) ?_)
  refine wpAny_bind (rules ?_ _)
  rcases ho with ⟨e, rfl⟩ | ⟨e, rfl⟩ <;> rw [e] <;> exact wpAny_pure h
end
end
/-! ### R4 -/
section
open PySem PySem.Calls PySem.W PyProof.Rows PySem.Builtin.Re
section
variable {prog : Program} {w : World} {A : Around} {s : Shared} {E : Value → Shared → Prop}

def wrongM (groups : Nat) (m : Sre.M) : Bool := (List.range groups).any fun g => match m.marks.getD (2 * g) none, m.marks.getD (2 * g + 1) none with | some b, some e => ((2 * g + 1 : Nat) : Int) ≤ m.lastmark && e < b | _, _ => false
def matchO (x : Str) (t : Tok) (lim : Nat) (li : Int) (b : Addr) : Obj := { cls := .type "re.Match", data := .fields #[.str x t, .ref 86, rawInt 0, rawInt lim, rawInt li, .ref b] }
def mach2 (x : Str) : Sre.M := Sre.forSearch code2.toArray x.cps 3 0 x.cps.size false
theorem code2_is : Array.map (fun x => x.toNat) (Array.map reRawOf ((some (List.map (fun (n : Nat) => rawInt ↑n) code2).toArray).getD #[])) = code2.toArray := by decide +kernel

theorem spans_eq (groups : Nat) (m : Sre.M) : ((List.range groups).flatMap fun g =>
    match if ((2 * g + 1 : Nat) : Int) ≤ m.lastmark then (m.marks.getD (2 * g) none, m.marks.getD (2 * g + 1) none) else (none, none) with
    | (some b, some e) => [rawInt b, rawInt e]
    | _ => [rawInt (-1), rawInt (-1)]) = (spansM groups m).map rawInt := by
  unfold spansM
  rw [List.map_flatMap]
  congr 1
  funext g
  generalize (if ((2 * g + 1 : Nat) : Int) ≤ m.lastmark then (m.marks.getD (2 * g) none, m.marks.getD (2 * g + 1) none) else (none, none)) = p
  rcases p with ⟨_ | b, _ | e⟩ <;> rfl

theorem spans_len (groups : Nat) (m : Sre.M) : (spansM groups m).length ≤ 2 * groups := by
  unfold spansM
  generalize hl : List.range groups = l
  have e : groups = l.length := by rw [← hl, List.length_range]
  rw [e]
  clear hl e
  induction l with
  | nil => exact Nat.le_refl _
  | cons g l ih =>
    rw [List.flatMap_cons, List.length_append, List.length_cons]
    have : ∀ p : Option Nat × Option Nat, (match p with | (some b, some e) => [(b : Int), (e : Int)] | _ => [-1, -1]).length = 2 := by
      rintro ⟨_ | b, _ | e⟩ <;> rfl
    have h2 := this (if ((2 * g + 1 : Nat) : Int) ≤ m.lastmark then (m.marks.getD (2 * g) none, m.marks.getD (2 * g + 1) none) else (none, none))
    exact Nat.le_trans (Nat.add_le_add (Nat.le_of_eq h2) ih) (by omega)
theorem target2 {x : Str} {t : Tok} {Q : ReTarget → Shared → Prop} (h2 : s.heap.get? 86 = some patO2) (h1 : s.heap.get? 85 = some (codeO code2)) (hx : x.length < 1000)
    (hq : Q { pattern := .ref 86, string := .str x t, code := code2.toArray, text := x.cps, kind := 0, groups := 3, pos := 0, lim := x.cps.size } s) :
    wpAny (model prog w) A (reTarget "re.Pattern.search" "search" ⟨[.ref 86, .str x t], []⟩) Q E s := by
  obtain ⟨h, g, d, tk, os⟩ := s
  unfold reTarget
  dsimp only
  repeat wp_step
  have e : min (2 ^ 63 - 1 : Int).toNat x.cps.size = x.cps.size := by
    have : x.cps.size < 1000 := hx
    omega
  dsimp only
  rw [code2_is, e]
  exact hq

theorem answer {T : ReTarget} {m : Sre.M} {Q : Value → Shared → Prop} (j : Nat) (hj : j < 1000) (r : Option Sre.M)
    (ho : (m.runFor (4 * j)).outcome = some .matched ∧ r = some (m.runFor (4 * j)) ∨ (m.runFor (4 * j)).outcome = some .failed ∧ r = none) (hg : T.groups ≤ 10)
    (hw : ∀ m, r = some m → wrongM T.groups m = false)
    (hn : r = none → Q .none s)
    (hq : ∀ m, r = some m → ∀ s' a b, Keeps s s' → s'.heap.get? a = some { cls := .type "re.Match", data := .fields #[T.string, T.pattern, rawInt T.pos, rawInt T.lim, rawInt m.lastindex, .ref b] } →
      IsT s'.heap b (rawInt m.start :: rawInt m.handed :: (spansM T.groups m).map rawInt) → Q (.ref a) s') :
    wpAny (model prog w) A (reAnswer T m) (fun fin s' => ∃ v, fin = .done (.ret v) ∧ Q v s') E s := by
  unfold reAnswer
  refine wpAny_bind (toEnd j (by omega) r ho ?_)
  cases r with
  | none => exact wpAny_pure ⟨_, rfl, hn rfl⟩
  | some m' =>
    dsimp only
    refine wpAny_bind ?_
    unfold reNewMatch
    have hw' := hw m' rfl
    unfold wrongM at hw'
    have hlen := spans_len T.groups m'
    generalize hsp : (List.flatMap (β := Value) _ (List.range T.groups)) = sp
    have hsp' : sp = (spansM T.groups m').map rawInt := hsp.symm.trans (spans_eq T.groups m')
    clear hsp
    subst hsp'
    dsimp only
    generalize hb : List.any (List.range T.groups) _ = bb
    have hb' : bb = false := hb.symm.trans hw'
    clear hb
    subst hb'
    simp only [Bool.false_eq_true, if_false]
    refine wpAny_bind (wpAny_newObj_type ?_ ?_)
    · refine wpAny_newObj_type (wpAny_pure ⟨_, rfl, hq m' rfl _ _ _ ⟨_, s.toks, rfl, fun b o e => ?_⟩ (Heap.get?_push_size _ rfl) ⟨0, ?_⟩⟩) ?_
      · exact Heap.get?_push_of_some _ (Heap.get?_push_of_some _ e)
      · exact Heap.get?_push_of_some _ (Heap.get?_push_size _ rfl)
      · show ([T.string, T.pattern, rawInt T.pos, rawInt T.lim, rawInt m'.lastindex, Value.ref _] : List Value).toArray.size ≤ sizeLine + 2
        rw [List.size_toArray, sizeLine_eq]
        exact Nat.le_of_ble_eq_true rfl
    · show (List.toArray _).size ≤ sizeLine
      rw [List.size_toArray, sizeLine_eq]
      simp only [List.length_cons, List.length_map]
      omega
end
end
/-! ### R5 -/
section
open PySem PySem.Calls PySem.W PyProof.Rows PySem.Builtin.Re
theorem args_group (a b : Value) : argsOk "re.Match.group" ⟨[a, b], []⟩ := by
  unfold argsOk; kernel_rfl
section
variable {prog : Program} {w : World} {A : Around} {s : Shared} {E : Value → Shared → Prop}

theorem search_call {x : Str} {t : Tok} {Q : Value → Shared → Prop} (h2 : s.heap.get? 86 = some patO2) (h1 : s.heap.get? 85 = some (codeO code2)) (hx : x.length < 1000) (j : Nat) (hj : j < 1000) (r : Option Sre.M)
    (ho : ((mach2 x).runFor (4 * j)).outcome = some .matched ∧ r = some ((mach2 x).runFor (4 * j)) ∨ ((mach2 x).runFor (4 * j)).outcome = some .failed ∧ r = none)
    (hw : ∀ m, r = some m → wrongM 3 m = false)
    (hn : r = none → Q .none s)
    (hq : ∀ m, r = some m → ∀ s' a b, Keeps s s' → s'.heap.get? a = some (matchO x t x.length m.lastindex b) → IsT s'.heap b (rawInt m.start :: rawInt m.handed :: (spansM 3 m).map rawInt) → Q (.ref a) s') :
    WP (model prog w) A (call (.builtin "re.Pattern.search") [.ref 86, .str x t]) Q E s := by
  simp only [WP_eq] at *
  refine wpAny_call_entry slot_search ⟨_, h2, rfl⟩ entry_search ?_ (args_search _ _)
  unfold Builtin.«re.Pattern.search»
  exact wpAny_bind (target2 h2 h1 hx (answer j hj r ho (Nat.le_of_ble_eq_true rfl) hw hn hq))

def grp (x : Str) (sp : List Int) (k : Nat) : Option Str :=
  let b := sp.getD (2 * k) (-1)
  let e := sp.getD (2 * k + 1) (-1)
  if b < 0 ∨ e < 0 then none else some ⟨x.cps.extract b.toNat e.toNat⟩
theorem raw_map (sp : List Int) : Array.map reRawOf ((some (sp.map rawInt).toArray).getD #[]) = sp.toArray := by
  show Array.map reRawOf (sp.map rawInt).toArray = sp.toArray
  rw [List.map_toArray, List.map_map]
  congr 1
  have : (reRawOf ∘ rawInt) = id := by funext i; rfl
  rw [this, List.map_id]

theorem group_call {x : Str} {t u : Tok} {a b : Addr} {lim : Nat} {li : Int} {sp : List Int} {k : Nat} {Q : Value → Shared → Prop} (ha : s.heap.get? a = some (matchO x t lim li b)) (hb : IsT s.heap b (sp.map rawInt)) (hk : k < 4) (hsp : sp.length = 8) (hx : x.length < 1000)
    (hn : grp x sp k = none → Q .none s) (hq : ∀ y, grp x sp k = some y → ∀ s' t', Keeps s s' → Q (.str y t') s') :
    WP (model prog w) A (call (.builtin "re.Match.group") [.ref a, .int (k : Int) u]) Q E s := by
  simp only [WP_eq] at *
  obtain ⟨nb, hb⟩ := hb
  refine wpAny_call_entry slot_group ⟨_, ha, rfl⟩ entry_group ?_ (args_group _ _)
  obtain ⟨h, g, d, tk, os⟩ := s
  unfold Builtin.«re.Match.group»
  dsimp only
  repeat ((fail_if_success (with_reducible show wpAny _ _ (reGroupNumber _ _) _ _ _)); wp_step)
  rw [raw_map]
  have hnum : wpAny (model prog w) A.in1 (reGroupNumber { fields := #[.str x t, .ref 86, rawInt 0, rawInt lim, rawInt li, .ref b], spans := sp.toArray } (.int (k : Int) u))
      (fun i s' => i = k ∧ s' = ⟨h, g, d, tk, os⟩) E ⟨h, g, d, tk, os⟩ := by
    unfold reGroupNumber
    have hlt : (decide ((k : Int) < 0) || decide (2 * (k : Int) ≥ (sp.toArray.size : Int))) = false := by
      rw [Bool.or_eq_false_iff]
      refine ⟨decide_eq_false (by omega), decide_eq_false ?_⟩
      rw [List.size_toArray, hsp]; omega
    repeat ((fail_if_success (with_reducible show wpAny _ _ (ite (Bool.or _ _ = true) _ _) _ _ _)); wp_step)
    dsimp only
    rw [hlt, if_neg Bool.false_ne_true]
    exact wpAny_pure ⟨by simp, rfl⟩
  refine wpAny_mono hnum (fun i s' hi => ?_) fun _ _ x => x
  obtain ⟨rfl, rfl⟩ := hi
  refine wpAny_bind ?_
  unfold reGroupText
  dsimp only
  have e1 : sp.toArray.getD (2 * i) (-1) = sp.getD (2 * i) (-1) := by simp
  have e2 : sp.toArray.getD (2 * i + 1) (-1) = sp.getD (2 * i + 1) (-1) := by simp
  rw [e1, e2]
  by_cases hg : sp.getD (2 * i) (-1) < 0 ∨ sp.getD (2 * i + 1) (-1) < 0
  · have hg' : (decide (sp.getD (2 * i) (-1) < 0) || decide (sp.getD (2 * i + 1) (-1) < 0)) = true := by
      rcases hg with q | q
      · rw [decide_eq_true q]; rfl
      · rw [decide_eq_true q]; exact Bool.or_true _
    rw [if_pos hg']
    exact wpAny_pure (wpAny_pure ⟨_, rfl, hn (by unfold grp; rw [if_pos hg])⟩)
  · have hg' : (decide (sp.getD (2 * i) (-1) < 0) || decide (sp.getD (2 * i + 1) (-1) < 0)) = false := by
      rw [Bool.or_eq_false_iff]; exact ⟨decide_eq_false fun q => hg (.inl q), decide_eq_false fun q => hg (.inr q)⟩
    rw [hg', if_neg Bool.false_ne_true]
    have hy : grp x sp i = some ⟨x.cps.extract (sp.getD (2 * i) (-1)).toNat (sp.getD (2 * i + 1) (-1)).toNat⟩ := by unfold grp; rw [if_neg hg]
    refine wpAny_bind ?_
    unfold reTextOf
    repeat ((fail_if_success (with_reducible show wpAny _ _ (reSlice _ _ _ _) _ _ _)); wp_step)
    show wpAny _ _ (mkStr ⟨x.cps.extract (sp.getD (2 * i) (-1)).toNat (sp.getD (2 * i + 1) (-1)).toNat⟩) _ _ _
    refine wpAny_mkStr' (wpAny_pure ⟨_, rfl, hq _ hy _ _ ⟨h, _, rfl, fun _ _ e => e⟩⟩) ?_
    have h1 : (x.cps.extract (sp.getD (2 * i) (-1)).toNat (sp.getD (2 * i + 1) (-1)).toNat).size ≤ x.cps.size := by
      rw [Array.size_extract]; omega
    have h2 : x.cps.size < 1000 := hx
    show (x.cps.extract _ _).size ≤ sizeLine
    rw [sizeLine_eq]; omega
end
end
/-! ### R6 -/
section
open PySem PySem.Calls PySem.W PyProof.Rows PySem.Builtin.Re
theorem no_bool : typeLookup (.type "re.Match") (Str.ofString "__bool__") = pure none := by rw [typeLookup_type, builtinLookup_eq_fast]; kernel_rfl
theorem no_len : typeLookup (.type "re.Match") (Str.ofString "__len__") = pure none := by rw [typeLookup_type, builtinLookup_eq_fast]; kernel_rfl
section
variable {prog : Program} {w : World} {A : Around} {s₀ : Shared} {h₀ g : Heap} {L : Addr} {m : Str → Option Value} {mu : List (Addr × Ent)} {s : Shared} {env : Env} {mg mb : Str → Option Value} {pos : Pos}
theorem truthy_match {a : Addr} {o : Obj} {Q : Bool → Shared → Prop} (ho : s.heap.get? a = some o) (hc : o.cls = .type "re.Match") (h : Q true s) : WP (model prog w) A (truthy (.ref a)) Q No s := by
  simp only [WP_eq] at *
  obtain ⟨hp, g, d, tk, os⟩ := s
  have hT : (⟨hp, g, d, tk, os⟩ : Shared).TypeIs (.ref a) "re.Match" := ⟨o, ho, hc⟩
  have h1 := no_bool
  have h2 := no_len
  unfold truthy
  repeat wp_step
  exact h
theorem r_tnone {Q : Bool → Shared → Prop} (h : Q false s) : WP (model prog w) A (truthy .none) Q No s := by simp only [WP_eq] at *; exact fun _ _ _ => h
theorem r_tstr {x : Str} {t : Tok} {Q : Bool → Shared → Prop} (I : On s₀ h₀ g L m mu s) (hx : x.length < 1000000) (h : ∀ s', On s₀ h₀ g L m mu s' → Q (decide (x.length ≠ 0)) s') : WP (model prog w) A (truthy (.str x t)) Q No s := by
  simp only [WP_eq] at *
  refine PySem.P.truthy_str (by omega) ?_
  have e : ((x.length : Int) != 0) = decide (x.length ≠ 0) := by
    by_cases q : x.length = 0 <;> simp [q]
  rw [e]; exact h _ (I.tok _)
theorem w_meth {o : Expr} {name : Str} {ap : Pos} {args : List Expr} {Q : Value → Shared → Prop}
    (h : WP (model prog w) A (eval o env) (fun ov s₁ => ∀ pl : Sem Bool, WP (model prog w) A (getMethod ov name pl) (fun fx s₂ => WP (model prog w) A (callWith pos fx.1 fx.2 (backTo pos (starEach args env)) []) Q No s₂) No s₁) No s)
    (he : ∃ pl : Sem Bool, eval (.Call (.Attribute o name ap) args [] pos) env = (do
      let ov ← eval o env
      standAt ap.atName
      let (f, first) ← holding [ov] (getMethod ov name pl)
      callWith pos f first (backTo pos (starEach args env)) (backToKw pos (keywordEach [] env))) := by exact ⟨_, rfl⟩) :
    WP (model prog w) A (eval (.Call (.Attribute o name ap) args [] pos) env) Q No s := by
  obtain ⟨pl, he⟩ := he
  simp only [WP_eq] at *
  exact PyProof.Rows.MethodCall_ (pl := pl) (wpAny_mono h (fun ov s₁ h₁ => h₁ pl) fun _ _ x => x) he
theorem cw_m1 {id : String} {self : Value} {e : Expr} {rest : List Expr} {Q : Value → Shared → Prop}
    (h : WP (model prog w) A (spliced (backTo pos (starEach (e :: rest) env))) (fun vs s₁ => WP (model prog w) A (call (.builtin id) (self :: vs)) Q No s₁) No s)
    (he : starEach (e :: rest) env = (false, eval e env) :: starEach rest env := by rfl) (hp : (backTo pos (starEach rest env)).any (·.1) = false := by rfl) :
    WP (model prog w) A (callWith pos (.builtin id) [self] (backTo pos (starEach (e :: rest) env)) []) Q No s := by
  simp only [WP_eq] at *
  exact PyProof.Rows.callWith_method1 h he hp
theorem gm_search {pl : Sem Bool} {Q : Value × List Value → Shared → Prop} (h2 : s.heap.get? 86 = some patO2) (h : Q (.builtin "re.Pattern.search", [.ref 86]) s) : WP (model prog w) A (getMethod (.ref 86) "search" pl) Q No s := by
  simp only [WP_eq] at *
  exact getMethod_builtin ⟨_, h2, rfl⟩ pa_pattern slot_search type_search (fun a e => by cases e; exact ⟨_, h2, rfl⟩) h
theorem gm_sub {pl : Sem Bool} {Q : Value × List Value → Shared → Prop} (h2 : s.heap.get? 36 = some patO1) (h : Q (.builtin "re.Pattern.sub", [.ref 36]) s) : WP (model prog w) A (getMethod (.ref 36) "sub" pl) Q No s := by
  simp only [WP_eq] at *
  exact getMethod_builtin ⟨_, h2, rfl⟩ pa_pattern slot_sub type_sub (fun a e => by cases e; exact ⟨_, h2, rfl⟩) h
theorem gm_group {x : Str} {t : Tok} {a b : Addr} {lim : Nat} {li : Int} {pl : Sem Bool} {Q : Value × List Value → Shared → Prop} (ha : s.heap.get? a = some (matchO x t lim li b)) (h : Q (.builtin "re.Match.group", [.ref a]) s) : WP (model prog w) A (getMethod (.ref a) "group" pl) Q No s := by
  simp only [WP_eq] at *
  exact getMethod_builtin ⟨_, ha, rfl⟩ pa_match slot_group type_group (fun a e => by cases e; exact ⟨_, ha, rfl⟩) h
def inZones (x : Str) : Bool := (Str.ofString "GMT" == x) || (Str.ofString "UTC" == x) || (Str.ofString "UT" == x) || (Str.ofString "Z" == x)
theorem r_zones {x : Str} {t : Tok} {Q : Value → Shared → Prop} (X : Rx w.params s.heap) (I : On s₀ h₀ g L m mu s) (h : ∀ s', On s₀ h₀ g L m mu s' → Q (.bool (inZones x)) s') : WP (model prog w) A (compareOp .In (.str x t) (.ref 81)) Q No s := by
  simp only [WP_eq] at *
  have hm : s.heap.MapOf (PySem.strKind prog w) 81 (fun k => findBy Value.isStrOf (zonesEs w.params) k) :=
    ⟨_, zonesEs w.params, 4, X.zones, ⟨rfl, rfl, rfl⟩, rfl, fun e he => by
      simp only [zonesEs, List.mem_toArray, List.mem_cons, List.not_mem_nil, or_false] at he
      rcases he with rfl | rfl | rfl | rfl
      · exact ⟨"GMT", strKind_is prog w _ _, rfl⟩
      · exact ⟨"UTC", strKind_is prog w _ _, rfl⟩
      · exact ⟨"UT", strKind_is prog w _ _, rfl⟩
      · exact ⟨"Z", strKind_is prog w _ _, rfl⟩, fun _ => rfl⟩
  refine wpAny_in_of (strKind_is prog w x t) rfl hm ?_
  have e : (findBy Value.isStrOf (zonesEs w.params) x).isSome = inZones x := by
    unfold findBy inZones zonesEs
    simp only [List.find?_toArray, List.find?_cons, Value.isStrOf]
    cases (Str.ofString "GMT" == x) <;> cases (Str.ofString "UTC" == x) <;> cases (Str.ofString "UT" == x) <;> cases (Str.ofString "Z" == x) <;> rfl
  rw [e]; exact h _ (I.tok _)
theorem r_intS {x : Str} {t : Tok} {n : Int} {Q : Value → Shared → Prop} (I : On s₀ h₀ g L m mu s) (hn : PySem.intText? x = some n) (hx : x.length ≤ 640) (h : ∀ s' t, On s₀ h₀ g L m mu s' → Q (.int n t) s') : WP (model prog w) A (call (.type "int") [.str x t]) Q No s := by
  simp only [WP_eq] at *
  exact PySem.W.KIN.call_text hn hx (h _ _ (I.tok _))
theorem r_eqNS {x : Str} {t : Tok} {Q : Value → Shared → Prop} (h : Q (.bool false) s) : WP (model prog w) A (compareOp .Eq .none (.str x t)) Q No s := by
  simp only [WP_eq] at *
  exact PySem.EqNone.eq_none_str h
end

def spOf (m : Sre.M) : List Int := (m.start : Int) :: (m.handed : Int) :: spansM 3 m
/-- what offset_from_tz_string gives for x; none: not said -/
def offR (x : Str) : Option (Option Int) :=
  if inZones x then some (some 0) else
  let m := (mach2 x).runFor (4 * 12)
  match m.outcome with
  | some .failed => some none
  | some .matched =>
    if wrongM 3 m then none else
    match grp x (spOf m) 2 with
    | none => none
    | some t2 => match PySem.intText? t2 with
      | none => none
      | some i2 =>
        let o : Option Int := match grp x (spOf m) 3 with
          | none => some (3600 * i2)
          | some t3 => if t3.length = 0 then some (3600 * i2) else (PySem.intText? t3).map fun i3 => 3600 * i2 + 60 * i3
        o.map fun o => if grp x (spOf m) 1 = some (Str.ofString "-") then some (-o) else some o
  | _ => none
theorem grp_len {x y : Str} {sp : List Int} {k : Nat} (h : grp x sp k = some y) : y.length ≤ x.length := by
  unfold grp at h
  dsimp only at h
  split at h
  · cases h
  · cases h
    show (x.cps.extract _ _).size ≤ x.cps.size
    rw [Array.size_extract]; omega
theorem spOf_len (m : Sre.M) : (spOf m).length = 8 := by
  have h : ∀ g, (match if ((2 * g + 1 : Nat) : Int) ≤ m.lastmark then (m.marks.getD (2 * g) none, m.marks.getD (2 * g + 1) none) else (none, none) with
    | (some b, some e) => [(b : Int), (e : Int)]
    | _ => [-1, -1]).length = 2 := fun g => by
    generalize (if ((2 * g + 1 : Nat) : Int) ≤ m.lastmark then (m.marks.getD (2 * g) none, m.marks.getD (2 * g + 1) none) else (none, none)) = p
    rcases p with ⟨_ | b, _ | e⟩ <;> rfl
  unfold spOf spansM
  rw [List.length_cons, List.length_cons, List.length_flatMap]
  have e : (List.range 3).map (fun g => (match if ((2 * g + 1 : Nat) : Int) ≤ m.lastmark then (m.marks.getD (2 * g) none, m.marks.getD (2 * g + 1) none) else (none, none) with
    | (some b, some e) => [(b : Int), (e : Int)]
    | _ => [-1, -1]).length) = [2, 2, 2] := by
    rw [show List.range 3 = [0, 1, 2] from rfl]
    simp only [List.map_cons, List.map_nil]
    exact congr (congrArg List.cons (h 0)) (congr (congrArg List.cons (h 1)) (congr (congrArg List.cons (h 2)) rfl))
  exact congrArg (fun l => l.sum + 1 + 1) e
end
/-! ### R7 -/
local macro_rules | `(tactic| walk_at "eval") => `(tactic| first
  | ((with_reducible show WP _ _ (eval (Expr.Call (Expr.Attribute _ _ _) _ [] _) _) _ _ _); refine w_meth ?_))
local macro_rules | `(tactic| walk_at "ops") => `(tactic| first
  | ((with_reducible show WP _ _ (compareOp CmpOp.Eq Value.none (Value.str _ _)) _ _ _); refine r_eqNS ?_))
local macro_rules | `(tactic| walk_at "go") => `(tactic| first
  | ((with_reducible show WP _ _ (callWith _ (Value.builtin _) [_] _ []) _ _ _); refine cw_m1 ?_)
  | ((with_reducible show WP _ _ (truthy Value.none) _ _ _); refine r_tnone ?_))
section
open PySem PySem.Calls PySem.W PyProof.Rows PySem.Builtin.Re
section
variable {prog : Program} {w : World} {A : Around} {s₀ : Shared} {h₀ g : Heap} {L : Addr} {m : Str → Option Value} {mu : List (Addr × Ent)} {s : Shared} {env : Env} {mg mb : Str → Option Value} {pos : Pos}
theorem On.take {a : Addr} {o : Obj} (I : On s₀ h₀ g L m mu s) (e : s.heap.get? a = some o) (hd : ∀ es n, o.data ≠ .dict es n) (hm : ∀ p ∈ mu, p.1 ≠ a) : ∃ g', Up g g' ∧ g'.get? a = some o ∧ On s₀ h₀ g' L m mu s := by
  have J := I.max
  refine ⟨_, J.1, hideAll_get _ e fun hb => ?_, J.2⟩
  rcases List.mem_cons.mp hb with rfl | hb
  · obtain ⟨o', es, ep, h1, h2, _⟩ := I.ns
    rw [e] at h1; cases h1
    exact hd _ _ h2
  · obtain ⟨p, hp, q⟩ := List.mem_map.mp hb
    exact hm p hp q

theorem group_none {x : Str} {t u : Tok} {a b : Addr} {lim : Nat} {li : Int} {sp : List Int} (k : Nat) {Q : Value → Shared → Prop} (I : On s₀ h₀ g L m mu s) (ha : g.get? a = some (matchO x t lim li b)) (hb : IsT g b (sp.map rawInt)) (hsp : sp.length = 8) (hx : x.length < 1000)
    (e : grp x sp k = none) (h : Q .none s) (hk : k < 4 := by decide) : WP (model prog w) A (call (.builtin "re.Match.group") [.ref a, .int (k : Int) u]) Q No s :=
  group_call (I.keep _ _ ha) (hb.up I.keep) hk hsp hx (fun _ => h) (fun y hy => by rw [e] at hy; cases hy)
theorem group_some {x y : Str} {t u : Tok} {a b : Addr} {lim : Nat} {li : Int} {sp : List Int} (k : Nat) {Q : Value → Shared → Prop} (I : On s₀ h₀ g L m mu s) (ha : g.get? a = some (matchO x t lim li b)) (hb : IsT g b (sp.map rawInt)) (hsp : sp.length = 8) (hx : x.length < 1000)
    (e : grp x sp k = some y) (h : ∀ s' t, On s₀ h₀ g L m mu s' → Q (.str y t) s') (hk : k < 4 := by decide) : WP (model prog w) A (call (.builtin "re.Match.group") [.ref a, .int (k : Int) u]) Q No s :=
  group_call (I.keep _ _ ha) (hb.up I.keep) hk hsp hx (fun hn => by rw [e] at hn; cases hn) (fun y' hy s' t' K => by rw [e] at hy; cases hy; exact h _ _ (I.keeps K))

local macro_rules | `(tactic| walk_at "go") => `(tactic| ((with_reducible show WP _ _ (getMethod (Value.ref _) (Str.ofString "group") _) _ _ _); refine gm_group (On.keep (by assumption) _ _ (by assumption)) ?_))
local macro_rules | `(tactic| walk_at "go") => `(tactic| ((with_reducible show WP _ _ (truthy (Value.str _ _)) _ _ _); refine r_tstr (by assumption) (by omega) ?_; intro _ _))
local macro_rules | `(tactic| walk_at "go") => `(tactic| ((with_reducible show WP _ _ (call (Value.builtin "re.Match.group") [Value.ref _, Value.int 1 _]) _ _ _); first | refine group_none 1 (by assumption) (by assumption) (by assumption) (spOf_len _) (by omega) (by assumption) ?_ | (refine group_some 1 (by assumption) (by assumption) (by assumption) (spOf_len _) (by omega) (by assumption) ?_; intro _ _ _)))
local macro_rules | `(tactic| walk_at "go") => `(tactic| ((with_reducible show WP _ _ (call (Value.builtin "re.Match.group") [Value.ref _, Value.int 2 _]) _ _ _); (refine group_some 2 (by assumption) (by assumption) (by assumption) (spOf_len _) (by omega) (by assumption) ?_; intro _ _ _)))
local macro_rules | `(tactic| walk_at "go") => `(tactic| ((with_reducible show WP _ _ (call (Value.builtin "re.Match.group") [Value.ref _, Value.int 3 _]) _ _ _); first | refine group_none 3 (by assumption) (by assumption) (by assumption) (spOf_len _) (by omega) (by assumption) ?_ | (refine group_some 3 (by assumption) (by assumption) (by assumption) (spOf_len _) (by omega) (by assumption) ?_; intro _ _ _)))
local macro_rules | `(tactic| walk_at "go") => `(tactic| ((with_reducible show WP _ _ (call (Value.type "int") [Value.str _ _]) _ _ _); refine r_intS (by assumption) (by assumption) (by omega) ?_; intro _ _ _))
local macro_rules | `(tactic| walk_at "go") => `(tactic| ((with_reducible show WP _ _ (binaryOp Operator.Mult (Value.int _ _) (Value.int _ _)) _ _ _); refine r_mul (by assumption) (.inl (by decide)) ?_; intro _ _ _))
set_option maxHeartbeats 4000000 in
theorem off_ok {n : Nat} {x : Str} {t : Tok} {r : Option Int} {Q : Value → Shared → Prop} (hA : Fine n A) (W : Wd mg mb s.heap) (N : Nm mg mb) (X : Rx w.params s.heap) (hx : x.length ≤ 100) (hr : offR x = some r)
    (h : ∀ s' t, Keeps s s' → Q (match r with | none => .none | some i => .int i t) s') (hn : n < 890 := by omega) :
    WP (model prog w) A (call (.ref 93) [.str x t] []) Q No s := by
  refine call_pure hA W.off W.lim (BindsTo.of_eq (binds := [("tz", .str x t)]) rfl) (fun s₁ I => ?_)
  have hA' := hA.deeper (callEnv fOff s.heap.objs.size 93)
  have hh := hA'.h
  have hl0 : (Str.ofString "-").length = 1 := rfl
  conv in dBody _ => whnf
  repeat' walk_at "go"
  refine r_zones (X.up (On.keep (by assumption))) (by assumption) (fun s' I' => ?_)
  clear I
  unfold offR at hr
  cases hz : inZones x with
  | true =>
    rw [hz, if_pos rfl] at hr
    cases hr
    repeat' walk_at "go"
    exact h _ _ (On.keepsOf (by assumption))
  | false =>
    rw [hz, if_neg Bool.false_ne_true] at hr
    dsimp only at hr
    repeat' walk_at "go"
    refine gm_search ((X.up (On.keep (by assumption))).p2) ?_
    repeat' walk_at "go"
    generalize hm : (mach2 x).runFor (4 * 12) = mm at hr
    cases ho : mm.outcome with
    | none => rw [ho] at hr; cases hr
    | some o =>
      rw [ho] at hr
      cases o with
      | stuck q => cases hr
      | failed =>
        cases hr
        refine search_call ((X.up (On.keep (by assumption))).p2) ((X.up (On.keep (by assumption))).c2) (by omega) 12 (by decide) none (.inr ⟨hm ▸ ho, rfl⟩) (fun _ e => nomatch e) (fun _ => ?_) (fun _ e => nomatch e)
        repeat' walk_at "go"
        exact h _ 0 (On.keepsOf (by assumption))
      | matched =>
        dsimp only at hr
        cases hw : wrongM 3 mm with
        | true => rw [hw, if_pos rfl] at hr; cases hr
        | false =>
        rw [hw, if_neg Bool.false_ne_true] at hr
        refine search_call ((X.up (On.keep (by assumption))).p2) ((X.up (On.keep (by assumption))).c2) (by omega) 12 (by decide) (some mm) (.inl ⟨hm ▸ ho, by rw [hm]⟩) (fun m e => by cases e; exact hw) (fun e => nomatch e) (fun m' e s₂ a b K ha hb => ?_)
        cases e
        have I₂ := On.keeps (by assumption) K
        have hb' : IsT s₂.heap b ((spOf mm).map rawInt) := hb
        obtain ⟨nb, hb'⟩ := hb'
        obtain ⟨g₁, u₁, ha₁, I₃⟩ := I₂.take ha (by intro es n e; cases e) (fun _ h => nomatch h)
        obtain ⟨g₂, u₂, hb₂, I₄⟩ := I₃.take hb' (by intro es n e; cases e) (fun _ h => nomatch h)
        have ha₂ := u₂ _ _ ha₁
        have hT : IsT g₂ b ((spOf mm).map rawInt) := ⟨nb, hb₂⟩
        have W₂ := W.up (u₁.trans u₂)
        clear I₂ I₃ ha hb hb' ha₁ hb₂ I' hm ho hw K
        cases h2 : grp x (spOf mm) 2 with
        | none => rw [h2] at hr; cases hr
        | some t2 =>
        rw [h2] at hr
        have l2 := grp_len h2
        dsimp only at hr
        cases hi2 : PySem.intText? t2 with
        | none => rw [hi2] at hr; cases hr
        | some i2 =>
        rw [hi2] at hr
        dsimp only at hr
        have mt := (fun {A : Around} {s : Shared} {Q : Bool → Shared → Prop} (ho : s.heap.get? a = some (matchO x t x.length mm.lastindex b)) (h : Q true s) => truthy_match (prog := prog) (w := w) (A := A) ho rfl h)
        repeat' walk_at "go"
        refine mt (On.keep (by assumption) _ _ ha₂) ?_
        clear mt
        cases h3 : grp x (spOf mm) 3 with
        | none =>
          rw [h3] at hr
          dsimp only [Option.map] at hr
          cases h1 : grp x (spOf mm) 1 with
          | none =>
            rw [h1, if_neg (by decide)] at hr
            cases hr
            repeat' walk_at "go"
            all_goals first | (exfalso; omega) | exact h _ _ (On.keepsOf (by assumption))
          | some t1 =>
            have l1 := grp_len h1
            rw [h1] at hr
            by_cases q : t1 = Str.ofString "-"
            · rw [if_pos (congrArg some q)] at hr
              cases hr
              repeat' walk_at "go"
              all_goals first | (exfalso; omega) | exact absurd q (by assumption) | exact h _ _ (On.keepsOf (by assumption))
            · rw [if_neg (fun e => q (Option.some.inj e))] at hr
              cases hr
              repeat' walk_at "go"
              all_goals first | (exfalso; omega) | exact absurd (by assumption) q | exact h _ _ (On.keepsOf (by assumption))
        | some t3 =>
          have l3 := grp_len h3
          rw [h3] at hr
          dsimp only at hr
          by_cases q0 : t3.length = 0
          · rw [if_pos q0] at hr
            dsimp only [Option.map] at hr
            cases h1 : grp x (spOf mm) 1 with
            | none =>
              rw [h1, if_neg (by decide)] at hr
              cases hr
              repeat' walk_at "go"
              all_goals first | (exfalso; omega) | exact h _ _ (On.keepsOf (by assumption))
            | some t1 =>
              have l1 := grp_len h1
              rw [h1] at hr
              by_cases q : t1 = Str.ofString "-"
              · rw [if_pos (congrArg some q)] at hr
                cases hr
                repeat' walk_at "go"
                all_goals first | (exfalso; omega) | exact absurd q (by assumption) | exact h _ _ (On.keepsOf (by assumption))
              · rw [if_neg (fun e => q (Option.some.inj e))] at hr
                cases hr
                repeat' walk_at "go"
                all_goals first | (exfalso; omega) | exact absurd (by assumption) q | exact h _ _ (On.keepsOf (by assumption))
          · rw [if_neg q0] at hr
            cases hi3 : PySem.intText? t3 with
            | none => rw [hi3] at hr; cases hr
            | some i3 =>
            rw [hi3] at hr
            dsimp only [Option.map] at hr
            cases h1 : grp x (spOf mm) 1 with
            | none =>
              rw [h1, if_neg (by decide)] at hr
              cases hr
              repeat' walk_at "go"
              all_goals first | (exfalso; omega) | exact h _ _ (On.keepsOf (by assumption))
            | some t1 =>
              have l1 := grp_len h1
              rw [h1] at hr
              by_cases q : t1 = Str.ofString "-"
              · rw [if_pos (congrArg some q)] at hr
                cases hr
                repeat' walk_at "go"
                all_goals first | (exfalso; omega) | exact absurd q (by assumption) | exact h _ _ (On.keepsOf (by assumption))
              · rw [if_neg (fun e => q (Option.some.inj e))] at hr
                cases hr
                repeat' walk_at "go"
                all_goals first | (exfalso; omega) | exact absurd (by assumption) q | exact h _ _ (On.keepsOf (by assumption))
end
end
/-! ### R8 -/
section
open PySem
abbrev Tz (d b : Nat) : Prop := (clk (d : Int) ((b : Int) - 8)).length ≤ 100 ∧ offR (clk (d : Int) ((b : Int) - 8)) = some (if d = 6 then none else some (1800 * ((b : Int) - 8)))
def TzAt (d : Nat) : Prop := ∀ b : Fin 17, Tz d b.val
theorem tz0at0 : Tz 0 0 := by decide +kernel
theorem tz0at1 : Tz 0 1 := by decide +kernel
theorem tz0at2 : Tz 0 2 := by decide +kernel
theorem tz0at3 : Tz 0 3 := by decide +kernel
theorem tz0at4 : Tz 0 4 := by decide +kernel
theorem tz0at5 : Tz 0 5 := by decide +kernel
theorem tz0at6 : Tz 0 6 := by decide +kernel
theorem tz0at7 : Tz 0 7 := by decide +kernel
theorem tz0at8 : Tz 0 8 := by decide +kernel
theorem tz0at9 : Tz 0 9 := by decide +kernel
theorem tz0at10 : Tz 0 10 := by decide +kernel
theorem tz0at11 : Tz 0 11 := by decide +kernel
theorem tz0at12 : Tz 0 12 := by decide +kernel
theorem tz0at13 : Tz 0 13 := by decide +kernel
theorem tz0at14 : Tz 0 14 := by decide +kernel
theorem tz0at15 : Tz 0 15 := by decide +kernel
theorem tz0at16 : Tz 0 16 := by decide +kernel
theorem tz0 : TzAt 0 := fun b => match b with
  | ⟨0, _⟩ => tz0at0
  | ⟨1, _⟩ => tz0at1
  | ⟨2, _⟩ => tz0at2
  | ⟨3, _⟩ => tz0at3
  | ⟨4, _⟩ => tz0at4
  | ⟨5, _⟩ => tz0at5
  | ⟨6, _⟩ => tz0at6
  | ⟨7, _⟩ => tz0at7
  | ⟨8, _⟩ => tz0at8
  | ⟨9, _⟩ => tz0at9
  | ⟨10, _⟩ => tz0at10
  | ⟨11, _⟩ => tz0at11
  | ⟨12, _⟩ => tz0at12
  | ⟨13, _⟩ => tz0at13
  | ⟨14, _⟩ => tz0at14
  | ⟨15, _⟩ => tz0at15
  | ⟨16, _⟩ => tz0at16
  | ⟨k + 17, h⟩ => absurd h (by omega)
theorem tz1at0 : Tz 1 0 := by decide +kernel
theorem tz1at1 : Tz 1 1 := by decide +kernel
theorem tz1at2 : Tz 1 2 := by decide +kernel
theorem tz1at3 : Tz 1 3 := by decide +kernel
theorem tz1at4 : Tz 1 4 := by decide +kernel
theorem tz1at5 : Tz 1 5 := by decide +kernel
theorem tz1at6 : Tz 1 6 := by decide +kernel
theorem tz1at7 : Tz 1 7 := by decide +kernel
theorem tz1at8 : Tz 1 8 := by decide +kernel
theorem tz1at9 : Tz 1 9 := by decide +kernel
theorem tz1at10 : Tz 1 10 := by decide +kernel
theorem tz1at11 : Tz 1 11 := by decide +kernel
theorem tz1at12 : Tz 1 12 := by decide +kernel
theorem tz1at13 : Tz 1 13 := by decide +kernel
theorem tz1at14 : Tz 1 14 := by decide +kernel
theorem tz1at15 : Tz 1 15 := by decide +kernel
theorem tz1at16 : Tz 1 16 := by decide +kernel
theorem tz1 : TzAt 1 := fun b => match b with
  | ⟨0, _⟩ => tz1at0
  | ⟨1, _⟩ => tz1at1
  | ⟨2, _⟩ => tz1at2
  | ⟨3, _⟩ => tz1at3
  | ⟨4, _⟩ => tz1at4
  | ⟨5, _⟩ => tz1at5
  | ⟨6, _⟩ => tz1at6
  | ⟨7, _⟩ => tz1at7
  | ⟨8, _⟩ => tz1at8
  | ⟨9, _⟩ => tz1at9
  | ⟨10, _⟩ => tz1at10
  | ⟨11, _⟩ => tz1at11
  | ⟨12, _⟩ => tz1at12
  | ⟨13, _⟩ => tz1at13
  | ⟨14, _⟩ => tz1at14
  | ⟨15, _⟩ => tz1at15
  | ⟨16, _⟩ => tz1at16
  | ⟨k + 17, h⟩ => absurd h (by omega)
theorem tz2at0 : Tz 2 0 := by decide +kernel
theorem tz2at1 : Tz 2 1 := by decide +kernel
theorem tz2at2 : Tz 2 2 := by decide +kernel
theorem tz2at3 : Tz 2 3 := by decide +kernel
theorem tz2at4 : Tz 2 4 := by decide +kernel
theorem tz2at5 : Tz 2 5 := by decide +kernel
theorem tz2at6 : Tz 2 6 := by decide +kernel
theorem tz2at7 : Tz 2 7 := by decide +kernel
theorem tz2at8 : Tz 2 8 := by decide +kernel
theorem tz2at9 : Tz 2 9 := by decide +kernel
theorem tz2at10 : Tz 2 10 := by decide +kernel
theorem tz2at11 : Tz 2 11 := by decide +kernel
theorem tz2at12 : Tz 2 12 := by decide +kernel
theorem tz2at13 : Tz 2 13 := by decide +kernel
theorem tz2at14 : Tz 2 14 := by decide +kernel
theorem tz2at15 : Tz 2 15 := by decide +kernel
theorem tz2at16 : Tz 2 16 := by decide +kernel
theorem tz2 : TzAt 2 := fun b => match b with
  | ⟨0, _⟩ => tz2at0
  | ⟨1, _⟩ => tz2at1
  | ⟨2, _⟩ => tz2at2
  | ⟨3, _⟩ => tz2at3
  | ⟨4, _⟩ => tz2at4
  | ⟨5, _⟩ => tz2at5
  | ⟨6, _⟩ => tz2at6
  | ⟨7, _⟩ => tz2at7
  | ⟨8, _⟩ => tz2at8
  | ⟨9, _⟩ => tz2at9
  | ⟨10, _⟩ => tz2at10
  | ⟨11, _⟩ => tz2at11
  | ⟨12, _⟩ => tz2at12
  | ⟨13, _⟩ => tz2at13
  | ⟨14, _⟩ => tz2at14
  | ⟨15, _⟩ => tz2at15
  | ⟨16, _⟩ => tz2at16
  | ⟨k + 17, h⟩ => absurd h (by omega)
theorem tz3at0 : Tz 3 0 := by decide +kernel
theorem tz3at1 : Tz 3 1 := by decide +kernel
theorem tz3at2 : Tz 3 2 := by decide +kernel
theorem tz3at3 : Tz 3 3 := by decide +kernel
theorem tz3at4 : Tz 3 4 := by decide +kernel
theorem tz3at5 : Tz 3 5 := by decide +kernel
theorem tz3at6 : Tz 3 6 := by decide +kernel
theorem tz3at7 : Tz 3 7 := by decide +kernel
theorem tz3at8 : Tz 3 8 := by decide +kernel
theorem tz3at9 : Tz 3 9 := by decide +kernel
theorem tz3at10 : Tz 3 10 := by decide +kernel
theorem tz3at11 : Tz 3 11 := by decide +kernel
theorem tz3at12 : Tz 3 12 := by decide +kernel
theorem tz3at13 : Tz 3 13 := by decide +kernel
theorem tz3at14 : Tz 3 14 := by decide +kernel
theorem tz3at15 : Tz 3 15 := by decide +kernel
theorem tz3at16 : Tz 3 16 := by decide +kernel
theorem tz3 : TzAt 3 := fun b => match b with
  | ⟨0, _⟩ => tz3at0
  | ⟨1, _⟩ => tz3at1
  | ⟨2, _⟩ => tz3at2
  | ⟨3, _⟩ => tz3at3
  | ⟨4, _⟩ => tz3at4
  | ⟨5, _⟩ => tz3at5
  | ⟨6, _⟩ => tz3at6
  | ⟨7, _⟩ => tz3at7
  | ⟨8, _⟩ => tz3at8
  | ⟨9, _⟩ => tz3at9
  | ⟨10, _⟩ => tz3at10
  | ⟨11, _⟩ => tz3at11
  | ⟨12, _⟩ => tz3at12
  | ⟨13, _⟩ => tz3at13
  | ⟨14, _⟩ => tz3at14
  | ⟨15, _⟩ => tz3at15
  | ⟨16, _⟩ => tz3at16
  | ⟨k + 17, h⟩ => absurd h (by omega)
theorem tz4at0 : Tz 4 0 := by decide +kernel
theorem tz4at1 : Tz 4 1 := by decide +kernel
theorem tz4at2 : Tz 4 2 := by decide +kernel
theorem tz4at3 : Tz 4 3 := by decide +kernel
theorem tz4at4 : Tz 4 4 := by decide +kernel
theorem tz4at5 : Tz 4 5 := by decide +kernel
theorem tz4at6 : Tz 4 6 := by decide +kernel
theorem tz4at7 : Tz 4 7 := by decide +kernel
theorem tz4at8 : Tz 4 8 := by decide +kernel
theorem tz4at9 : Tz 4 9 := by decide +kernel
theorem tz4at10 : Tz 4 10 := by decide +kernel
theorem tz4at11 : Tz 4 11 := by decide +kernel
theorem tz4at12 : Tz 4 12 := by decide +kernel
theorem tz4at13 : Tz 4 13 := by decide +kernel
theorem tz4at14 : Tz 4 14 := by decide +kernel
theorem tz4at15 : Tz 4 15 := by decide +kernel
theorem tz4at16 : Tz 4 16 := by decide +kernel
theorem tz4 : TzAt 4 := fun b => match b with
  | ⟨0, _⟩ => tz4at0
  | ⟨1, _⟩ => tz4at1
  | ⟨2, _⟩ => tz4at2
  | ⟨3, _⟩ => tz4at3
  | ⟨4, _⟩ => tz4at4
  | ⟨5, _⟩ => tz4at5
  | ⟨6, _⟩ => tz4at6
  | ⟨7, _⟩ => tz4at7
  | ⟨8, _⟩ => tz4at8
  | ⟨9, _⟩ => tz4at9
  | ⟨10, _⟩ => tz4at10
  | ⟨11, _⟩ => tz4at11
  | ⟨12, _⟩ => tz4at12
  | ⟨13, _⟩ => tz4at13
  | ⟨14, _⟩ => tz4at14
  | ⟨15, _⟩ => tz4at15
  | ⟨16, _⟩ => tz4at16
  | ⟨k + 17, h⟩ => absurd h (by omega)
theorem tz5at0 : Tz 5 0 := by decide +kernel
theorem tz5at1 : Tz 5 1 := by decide +kernel
theorem tz5at2 : Tz 5 2 := by decide +kernel
theorem tz5at3 : Tz 5 3 := by decide +kernel
theorem tz5at4 : Tz 5 4 := by decide +kernel
theorem tz5at5 : Tz 5 5 := by decide +kernel
theorem tz5at6 : Tz 5 6 := by decide +kernel
theorem tz5at7 : Tz 5 7 := by decide +kernel
theorem tz5at8 : Tz 5 8 := by decide +kernel
theorem tz5at9 : Tz 5 9 := by decide +kernel
theorem tz5at10 : Tz 5 10 := by decide +kernel
theorem tz5at11 : Tz 5 11 := by decide +kernel
theorem tz5at12 : Tz 5 12 := by decide +kernel
theorem tz5at13 : Tz 5 13 := by decide +kernel
theorem tz5at14 : Tz 5 14 := by decide +kernel
theorem tz5at15 : Tz 5 15 := by decide +kernel
theorem tz5at16 : Tz 5 16 := by decide +kernel
theorem tz5 : TzAt 5 := fun b => match b with
  | ⟨0, _⟩ => tz5at0
  | ⟨1, _⟩ => tz5at1
  | ⟨2, _⟩ => tz5at2
  | ⟨3, _⟩ => tz5at3
  | ⟨4, _⟩ => tz5at4
  | ⟨5, _⟩ => tz5at5
  | ⟨6, _⟩ => tz5at6
  | ⟨7, _⟩ => tz5at7
  | ⟨8, _⟩ => tz5at8
  | ⟨9, _⟩ => tz5at9
  | ⟨10, _⟩ => tz5at10
  | ⟨11, _⟩ => tz5at11
  | ⟨12, _⟩ => tz5at12
  | ⟨13, _⟩ => tz5at13
  | ⟨14, _⟩ => tz5at14
  | ⟨15, _⟩ => tz5at15
  | ⟨16, _⟩ => tz5at16
  | ⟨k + 17, h⟩ => absurd h (by omega)
theorem tz6at0 : Tz 6 0 := by decide +kernel
theorem tz6at1 : Tz 6 1 := by decide +kernel
theorem tz6at2 : Tz 6 2 := by decide +kernel
theorem tz6at3 : Tz 6 3 := by decide +kernel
theorem tz6at4 : Tz 6 4 := by decide +kernel
theorem tz6at5 : Tz 6 5 := by decide +kernel
theorem tz6at6 : Tz 6 6 := by decide +kernel
theorem tz6at7 : Tz 6 7 := by decide +kernel
theorem tz6at8 : Tz 6 8 := by decide +kernel
theorem tz6at9 : Tz 6 9 := by decide +kernel
theorem tz6at10 : Tz 6 10 := by decide +kernel
theorem tz6at11 : Tz 6 11 := by decide +kernel
theorem tz6at12 : Tz 6 12 := by decide +kernel
theorem tz6at13 : Tz 6 13 := by decide +kernel
theorem tz6at14 : Tz 6 14 := by decide +kernel
theorem tz6at15 : Tz 6 15 := by decide +kernel
theorem tz6at16 : Tz 6 16 := by decide +kernel
theorem tz6 : TzAt 6 := fun b => match b with
  | ⟨0, _⟩ => tz6at0
  | ⟨1, _⟩ => tz6at1
  | ⟨2, _⟩ => tz6at2
  | ⟨3, _⟩ => tz6at3
  | ⟨4, _⟩ => tz6at4
  | ⟨5, _⟩ => tz6at5
  | ⟨6, _⟩ => tz6at6
  | ⟨7, _⟩ => tz6at7
  | ⟨8, _⟩ => tz6at8
  | ⟨9, _⟩ => tz6at9
  | ⟨10, _⟩ => tz6at10
  | ⟨11, _⟩ => tz6at11
  | ⟨12, _⟩ => tz6at12
  | ⟨13, _⟩ => tz6at13
  | ⟨14, _⟩ => tz6at14
  | ⟨15, _⟩ => tz6at15
  | ⟨16, _⟩ => tz6at16
  | ⟨k + 17, h⟩ => absurd h (by omega)
theorem tz_at {d b : Int} (hd : 0 ≤ d ∧ d ≤ 6) (hb : -8 ≤ b ∧ b ≤ 8) : (clk d b).length ≤ 100 ∧ offR (clk d b) = some (if d = 6 then none else some (1800 * b)) := by
  have key : ∀ k : Nat, TzAt k → d = k → (clk d b).length ≤ 100 ∧ offR (clk d b) = some (if d = 6 then none else some (1800 * b)) := fun k h e => by
    have := h ⟨(b + 8).toNat, by omega⟩
    have e2 : (((b + 8).toNat : Nat) : Int) - 8 = b := by omega
    unfold Tz at this
    rw [e2, ← e] at this
    refine ⟨this.1, this.2.trans ?_⟩
    have e3 : (k = 6) = (d = 6) := by rw [e]; exact propext ⟨fun q => by rw [q]; rfl, fun q => by omega⟩
    simp only [e3]
  have h7 : d = (0 : Nat) ∨ d = (1 : Nat) ∨ d = (2 : Nat) ∨ d = (3 : Nat) ∨ d = (4 : Nat) ∨ d = (5 : Nat) ∨ d = (6 : Nat) := by omega
  rcases h7 with h | h | h | h | h | h | h
  · exact key 0 tz0 h
  · exact key 1 tz1 h
  · exact key 2 tz2 h
  · exact key 3 tz3 h
  · exact key 4 tz4 h
  · exact key 5 tz5 h
  · exact key 6 tz6 h
end
/-! ### S1 -/
section
open PySem PySem.Sre
def fr0 (s : Nat) (first : Bool) : Sre.Frame := { wait := .nextStart, pc := 5, pos := s, outermost := first }
def fr1 (s : Nat) (first : Bool) : Sre.Frame := { wait := .lookNot, pc := 7, pos := s, outermost := first, kept := { lastmark := -1, lastindex := -1, whole := false, marks := #[] } }
def mk1 (x : Array Nat) (s : Nat) (must : Bool) (pc pos handed : Nat) (outer : Bool) (frames : List Sre.Frame) (weight : Nat) (ans : Option Bool) (seen : Sre.Seen) (out : Option Sre.Outcome) : Sre.M :=
  { code := code1.toArray, text := x, lim := x.size, start := s, lastStart := x.size, wholeText := false, mustAdvance := must, pc, pos, handed, outermost := outer, marks := #[], lastmark := -1, lastindex := -1, loops := #[], inner := none, frames, weight, answer := ans, seen, outcome := out }
def bol (x : Array Nat) (s : Nat) : Bool := s == 0 || x.getD (s - 1) 0 == 10
def eol (x : Array Nat) (s : Nat) : Bool := s == x.size || x.getD s 0 == 10
/-- an attempt at s begins -/
def at0 (x : Array Nat) (s : Nat) (must first : Bool) (seen : Sre.Seen) : Sre.M := mk1 x s must 5 s s first [fr0 s first] 1 none seen none

section
variable {x : Array Nat} {s h : Nat} {must first : Bool} {seen : Sre.Seen}
theorem st1 : (at0 x s must first seen).step = if bol x s = true then mk1 x s must 7 s s first [fr0 s first] 1 none ((seen.add 6).add 44) none else mk1 x s must 5 s s first [fr0 s first] 1 (some false) ((seen.add 6).add 44) none := rfl
theorem st2 : (mk1 x s must 7 s s first [fr0 s first] 1 none seen none).step = mk1 x s must 10 s s false [fr1 s first, fr0 s first] 2 none (seen.add 5) none := rfl
theorem st3 : (mk1 x s must 10 s s false [fr1 s first, fr0 s first] 2 none seen none).step = if eol x s = true then mk1 x s must 12 s s false [fr1 s first, fr0 s first] 2 none ((seen.add 6).add 49) none else mk1 x s must 10 s s false [fr1 s first, fr0 s first] 2 (some false) ((seen.add 6).add 49) none := rfl
theorem st4 : (mk1 x s must 12 s s false [fr1 s first, fr0 s first] 2 none seen none).step = mk1 x s must 12 s s false [fr1 s first, fr0 s first] 2 (some true) (seen.add 1) none := rfl
theorem st5 : (mk1 x s must 12 s s false [fr1 s first, fr0 s first] 2 (some true) seen none).step = mk1 x s must 7 s s first [fr0 s first] 1 (some false) seen none := rfl
theorem st4' : (mk1 x s must 10 s s false [fr1 s first, fr0 s first] 2 (some false) seen none).step = mk1 x s must 13 s s first [fr0 s first] 1 none seen none := rfl
theorem st5' : (mk1 x s must 13 s s first [fr0 s first] 1 none seen none).step = if (first && (false && s != x.size || must && s == s)) = true then mk1 x s must 13 s s first [fr0 s first] 1 (some false) (seen.add 1) none else mk1 x s must 13 s s first [fr0 s first] 1 (some true) (seen.add 1) none := rfl
theorem st6' {pc : Nat} : (mk1 x s must pc s s first [fr0 s first] 1 (some true) seen none).step = mk1 x s must 5 s s first [] 0 (some true) seen none := rfl
theorem st7' {pc : Nat} : (mk1 x s must pc s s first [] 0 (some true) seen none).step = mk1 x s must pc s s first [] 0 (some true) seen (some .matched) := rfl
theorem stF {pc : Nat} : (mk1 x s must pc s s first [fr0 s first] 1 (some false) seen none).step = if s < x.size then at0 x (s + 1) false false seen else mk1 x s must 5 s s first [] 0 (some false) seen none := rfl
theorem stG {pc : Nat} : (mk1 x s must pc s s first [] 0 (some false) seen none).step = mk1 x s must pc s s first [] 0 (some false) seen (some .failed) := rfl
end

theorem rf {m : Sre.M} (h : m.outcome = none) (n : Nat) : m.runFor (n + 1) = m.step.runFor n := by
  rw [Sre.M.runFor]
  rw [h]; rfl
def hit (x : Array Nat) (s : Nat) : Bool := bol x s && !eol x s
def nxt (x : Array Nat) : Nat → Nat → Bool → Option Nat
  | 0, _, _ => none
  | f + 1, s, skip => if (hit x s && !skip) = true then some s else nxt x f (s + 1) false

theorem run_hit {x : Array Nat} {s : Nat} {must first : Bool} {seen : Sre.Seen} (hh : hit x s = true) (hs : (first && must) = false) :
    ∃ seen' pc o, (at0 x s must first seen).runFor 7 = mk1 x s must pc s s o [] 0 (some true) seen' (some .matched) := by
  unfold hit at hh
  rw [Bool.and_eq_true, Bool.not_eq_true'] at hh
  refine ⟨((((((seen.add 6).add 44).add 5).add 6).add 49).add 1), 5, first, ?_⟩
  rw [rf rfl, st1, if_pos hh.1, rf rfl, st2, rf rfl, st3, if_neg (by rw [hh.2]; exact Bool.false_ne_true), rf rfl, st4', rf rfl, st5']
  rw [if_neg (by
    have : (first && (false && s != x.size || must && s == s)) = (first && must) := by simp
    rw [this, hs]; exact Bool.false_ne_true)]
  rw [rf rfl, st6', rf rfl, st7']
  rfl
theorem run_miss {x : Array Nat} {s : Nat} {must first : Bool} {seen : Sre.Seen} (hh : hit x s = false ∨ (first && must) = true) :
    ∃ k seen', k ≤ 6 ∧ ∀ n, (at0 x s must first seen).runFor (k + n) = (if s < x.size then at0 x (s + 1) false false seen' else mk1 x s must 5 s s first [] 0 (some false) seen' none).runFor n := by
  by_cases hb : bol x s = true
  · by_cases he : eol x s = true
    · refine ⟨6, ((((((seen.add 6).add 44).add 5).add 6).add 49).add 1), by decide, fun n => ?_⟩
      rw [show 6 + n = n + 1 + 1 + 1 + 1 + 1 + 1 by omega]
      rw [rf rfl, st1, if_pos hb, rf rfl, st2, rf rfl, st3, if_pos he, rf rfl, st4, rf rfl, st5, rf rfl, stF]
    · have hs : (first && must) = true := by
        rcases hh with h | h
        · unfold hit at h; rw [hb, Bool.true_and, Bool.not_eq_false'] at h; exact absurd h he
        · exact h
      refine ⟨6, ((((((seen.add 6).add 44).add 5).add 6).add 49).add 1), by decide, fun n => ?_⟩
      rw [show 6 + n = n + 1 + 1 + 1 + 1 + 1 + 1 by omega]
      rw [rf rfl, st1, if_pos hb, rf rfl, st2, rf rfl, st3, if_neg he, rf rfl, st4', rf rfl, st5']
      rw [if_pos (by
        have : (first && (false && s != x.size || must && s == s)) = (first && must) := by simp
        rw [this, hs])]
      rw [rf rfl, stF]
  · refine ⟨2, ((seen.add 6).add 44), by decide, fun n => ?_⟩
    rw [show 2 + n = n + 1 + 1 by omega]
    rw [rf rfl, st1, if_neg hb, rf rfl, stF]

/-- the search from s, with more turns than it needs -/
theorem run_search {x : Array Nat} : ∀ (f s : Nat) (must first : Bool) (seen : Sre.Seen), f = x.size + 1 - s → s ≤ x.size → ∀ n, 8 * f ≤ n →
    match nxt x f s (first && must) with
    | some q => s ≤ q ∧ ∃ seen' pc o must', (at0 x s must first seen).runFor n = mk1 x q must' pc q q o [] 0 (some true) seen' (some .matched)
    | none => ((at0 x s must first seen).runFor n).outcome = some .failed
  | 0, s, _, _, _, hf, hs, _, _ => by omega
  | f + 1, s, must, first, seen, hf, hs, n, hn => by
    unfold nxt
    by_cases hc : (hit x s && !(first && must)) = true
    · rw [if_pos hc]
      rw [Bool.and_eq_true, Bool.not_eq_true'] at hc
      obtain ⟨a, b, c, e⟩ := run_hit (seen := seen) hc.1 hc.2
      refine ⟨Nat.le_refl _, a, b, c, must, ?_⟩
      rw [show n = 7 + (n - 7) by omega, runFor_add, e]
      exact runFor_done _ rfl _
    · rw [if_neg hc]
      have hm : hit x s = false ∨ (first && must) = true := by
        cases h1 : hit x s with
        | false => exact .inl rfl
        | true =>
          cases h2 : (first && must) with
          | true => exact .inr rfl
          | false => rw [h1, h2] at hc; exact absurd rfl hc
      obtain ⟨k, seen', hk, e⟩ := run_miss (seen := seen) hm
      rw [show n = k + (n - k) by omega, e]
      by_cases hlt : s < x.size
      · rw [if_pos hlt]
        have := run_search (x := x) f (s + 1) false false seen' (by omega) (by omega) (n - k) (by omega)
        cases hq : nxt x f (s + 1) false with
        | none =>
          rw [show (false && false) = false from rfl, hq] at this
          exact this
        | some q =>
          rw [show (false && false) = false from rfl, hq] at this
          exact ⟨by have := this.1; omega, this.2⟩
      · rw [if_neg hlt]
        have f0 : f = 0 := by omega
        subst f0
        show Sre.M.outcome _ = _
        rw [show n - k = (n - k - 1) + 1 by omega, rf rfl, stG, runFor_done _ rfl]
        rfl
theorem search1_is {x : Array Nat} {s : Nat} {must : Bool} (hs : s ≤ x.size) : ∃ seen, Sre.forSearch code1.toArray x 0 s x.size must = at0 x s must true seen := by
  refine ⟨({} : Sre.Seen).add 14, ?_⟩
  have h1 : ¬ (s > x.size) := by omega
  unfold Sre.forSearch
  have h2 : (decide (s > x.size) || decide (x.size - s < (Sre.header code1.toArray).1)) = false := by
    rw [Bool.or_eq_false_iff]
    exact ⟨decide_eq_false h1, rfl⟩
  dsimp only
  rw [if_neg (by rw [h2]; exact Bool.false_ne_true)]
  rfl
end
/-! ### S2 -/
section
open PySem PySem.Calls PySem.W PyProof.Rows PySem.Builtin.Re
theorem no_call_str : typeLookup (.type "str") (Str.ofString "__call__") = pure none := by rw [typeLookup_type, builtinLookup_eq_fast]; kernel_rfl
theorem code1_is : Array.map (fun x => x.toNat) (Array.map reRawOf ((some (List.map (fun (n : Nat) => rawInt ↑n) code1).toArray).getD #[])) = code1.toArray := by decide +kernel
def loopArgs (x : Str) (u : Tok) (r : Str) (t : Tok) (n p : Int) (must : Bool) (D : Addr) : Args :=
  ⟨[.ref 36, .str x u, .str r t, rawInt 0, rawInt 0, rawInt n, rawInt p, rawInt p, .bool must, .ref D, .bool false], []⟩
/-- all but the list at D stands -/
def KeepBut (D : Addr) (s s' : Shared) : Prop := ∃ h' tk, s' = { s with heap := h', toks := tk } ∧ ∀ b o, b ≠ D → s.heap.get? b = some o → h'.get? b = some o
theorem KeepBut.tr {D : Addr} {a b c : Shared} (x : KeepBut D a b) (y : KeepBut D b c) : KeepBut D a c := by
  obtain ⟨h, t, rfl, k⟩ := x
  obtain ⟨h', t', rfl, k'⟩ := y
  exact ⟨h', t', rfl, fun b o n e => k' b o n (k b o n e)⟩
theorem KeepBut.tok {D : Addr} (s : Shared) (k : Nat) : KeepBut D s { s with toks := k } := ⟨s.heap, k, rfl, fun _ _ _ e => e⟩
theorem KeepBut.of {D : Addr} {a b : Shared} (x : Keeps a b) : KeepBut D a b := by
  obtain ⟨h, t, rfl, k⟩ := x
  exact ⟨h, t, rfl, fun b o _ e => k b o e⟩
section
variable {prog : Program} {w : World} {A : Around} {s : Shared} {E : Value → Shared → Prop}
theorem whole1 {x : Str} {u : Tok} {Q : ReTarget → Shared → Prop} (h2 : s.heap.get? 36 = some patO1) (h1 : s.heap.get? 35 = some (codeO code1))
    (hq : Q { pattern := .ref 36, string := .str x u, code := code1.toArray, text := x.cps, kind := 0, groups := 0, pos := 0, lim := x.cps.size } s) :
    wpAny (model prog w) A (reWholeTarget (.ref 36) (.str x u)) Q E s := by
  obtain ⟨h, g, d, tk, os⟩ := s
  unfold reWholeTarget
  repeat wp_step
  rw [code1_is]
  exact hq
theorem push_list {D : Addr} {items : List Value} {v : Value} {Q : Unit → Shared → Prop} (hl : IsL s.heap D items) (hz : items.length ≤ 100000) (h : ∀ s', KeepBut D s s' → IsL s'.heap D (items ++ [v]) → Q () s') :
    wpAny (model prog w) A (updateSeq D (·.push v)) Q E s := by
  obtain ⟨n, hl⟩ := hl
  have ea : items.toArray.push v = (items ++ [v]).toArray := List.push_toArray ..
  have e1 : ∃ k, Obj.mapSeq (fun a => a.push v) (listO items n) = listO (items ++ [v]) k := by
    refine ⟨(if ((items.toArray.push v).size == items.toArray.size) = true then n else n + 1), ?_⟩
    exact congrArg (fun z => ({ cls := .type "list", data := .seq z (if ((items.toArray.push v).size == items.toArray.size) = true then n else n + 1) } : Obj)) ea
  obtain ⟨k, e1⟩ := e1
  have hs : items.toArray.size ≤ sizeLine := by rw [List.size_toArray, sizeLine_eq]; omega
  refine wpAny_updateSeq hl rfl (h _ ⟨_, s.toks, rfl, fun b o nb e => ((Heap.SameBut.update ..).2 b nb).trans e⟩ ⟨k, ?_⟩) hs (by rw [Array.size_push]; omega)
  exact (Heap.get?_update_self _ hl (by rw [e1]; rfl)).trans (by rw [e1])
theorem slice_ok {X : Array Nat} {a b : Nat} {Q : Value → Shared → Prop} (hz : X.size ≤ 100000) (h : ∀ s' t, Keeps s s' → Q (.str ⟨X.extract a b⟩ t) s') : wpAny (model prog w) A (reSlice X 0 a b) Q E s := by
  obtain ⟨hp, g, d, tk, os⟩ := s
  show wpAny _ _ (mkStr ⟨X.extract a b⟩) _ _ _
  refine wpAny_mkStr' (h _ _ ⟨hp, _, rfl, fun _ _ e => e⟩) ?_
  have h1 : (X.extract a b).size ≤ X.size := by rw [Array.size_extract]; omega
  show (X.extract a b).size ≤ sizeLine
  rw [sizeLine_eq]; omega
theorem found1 {x : Str} {p : Nat} {must : Bool} {Q : Option Sre.M → Shared → Prop} (hp : p ≤ x.cps.size) (hx : x.cps.size ≤ 100000)
    (hn : nxt x.cps (x.cps.size + 1 - p) p must = none → Q none s)
    (hs : ∀ q, nxt x.cps (x.cps.size + 1 - p) p must = some q → p ≤ q → ∀ m : Sre.M, m.start = q → m.handed = q → Q (some m) s) :
    wpAny (model prog w) A (reNextFound { pattern := .ref 36, string := .str x u, code := code1.toArray, text := x.cps, kind := 0, groups := 0, pos := 0, lim := x.cps.size } p must) Q E s := by
  unfold reNextFound
  obtain ⟨seen, e⟩ := search1_is (must := must) hp
  dsimp only
  rw [e]
  have key := run_search (x := x.cps) (x.cps.size + 1 - p) p must true seen rfl hp (4 * 200004) (by omega)
  rw [Bool.true_and] at key
  cases hq : nxt x.cps (x.cps.size + 1 - p) p must with
  | none =>
    rw [hq] at key
    exact toEnd 200004 (by decide) none (.inr ⟨key, rfl⟩) (hn hq)
  | some q =>
    rw [hq] at key
    obtain ⟨hpq, a, b, c, d, e⟩ := key
    exact toEnd 200004 (by decide) (some _) (.inl ⟨by rw [e]; rfl, rfl⟩) (hs q hq hpq _ (by rw [e]; rfl) (by rw [e]; rfl))
/-- the texts joined -/
def catL (l : List (Str × Tok)) : List Nat := l.flatMap fun p => p.1.cps.toList
theorem turn_hit {x r : Str} {u t : Tok} {n : Int} {p q : Nat} {must : Bool} {D : Addr} {l : List (Str × Tok)} {Q : Fin → Shared → Prop} (h2 : s.heap.get? 36 = some patO1) (h1 : s.heap.get? 35 = some (codeO code1)) (hx : x.cps.size ≤ 10000)
    (hl : IsL s.heap D (strValues l)) (hz : l.length ≤ 90000) (hp : p ≤ x.cps.size) (hn : nxt x.cps (x.cps.size + 1 - p) p must = some q)
    (hq : ∀ s' l', KeepBut D s s' → IsL s'.heap D (strValues l') → catL l' = catL l ++ (x.cps.extract p q).toList ++ r.cps.toList → l'.length ≤ l.length + 2 → Q (.again (.builtin "re.Pattern.sub.loop" (loopArgs x u r t (n + 1) q true D))) s') :
    wpAny (model prog w) A (Builtin.«re.Pattern.sub.loop» (loopArgs x u r t n p must D)) Q E s := by
  unfold Builtin.«re.Pattern.sub.loop» loopArgs rawInt
  dsimp only
  refine wpAny_bind (whole1 h2 h1 ?_)
  dsimp only
  rw [if_pos (by rfl)]
  refine wpAny_bind ?_
  have lit : ∀ {Q' : Unit → Shared → Prop}, Q' () s → wpAny (model prog w) A (reLiteralCannotBeTurned (.str r t)) Q' E s := fun hq' => by
    obtain ⟨h, g, d, tk, os⟩ := s
    unfold reLiteralCannotBeTurned
    repeat wp_step
    exact hq'
  refine lit ?_
  rw [if_neg (by simp)]
  refine wpAny_bind ?_
  rw [Int.toNat_natCast]
  refine found1 hp (by omega) (fun e => by rw [hn] at e; cases e) (fun q' e hpq m hm1 hm2 => ?_)
  rw [hn] at e; cases e
  dsimp only
  rw [hm1, hm2]
  have fin : ∀ s₁ l₁, KeepBut D s s₁ → IsL s₁.heap D (strValues l₁) → catL l₁ = catL l ++ (x.cps.extract p q).toList → l₁.length ≤ l.length + 1 →
      wpAny (model prog w) A (updateSeq D (·.push (.str r t))) (fun _ s' => Q (.again (.builtin "re.Pattern.sub.loop" (loopArgs x u r t (n + 1) q true D))) s') E s₁ := fun s₁ l₁ k₁ hl₁ hc hlen => by
    refine push_list hl₁ (by unfold strValues; rw [List.length_map]; omega) fun s₂ k₂ hl₂ => ?_
    refine hq s₂ (l₁ ++ [(r, t)]) (k₁.tr k₂) (by unfold strValues at hl₂ ⊢; rw [List.map_append]; exact hl₂) ?_ (by rw [List.length_append]; simp only [List.length_singleton]; omega)
    unfold catL at hc ⊢
    rw [List.flatMap_append, hc]; simp
  have e2 : (q == q) = true := by simp
  have go : ∀ s₁ l₁, KeepBut D s s₁ → IsL s₁.heap D (strValues l₁) → catL l₁ = catL l ++ (x.cps.extract p q).toList → l₁.length ≤ l.length + 1 →
      wpAny (model prog w) A (do
        let item ← (pure (Value.str r t) : Sem Value)
        if item != Value.none then updateSeq D (·.push item)
        again (.builtin "re.Pattern.sub.loop" ⟨[.ref 36, .str x u, .str r t, .int 0 0, .int 0 0, .int (n + 1) 0, .int (q : Int) 0, .int (q : Int) 0, .bool (q == q), .ref D, .bool false], []⟩)) Q E s₁ := fun s₁ l₁ k₁ hl₁ hc hlen => by
    refine wpAny_bind (wpAny_pure ?_)
    dsimp only
    rw [if_pos (by rfl)]
    refine wpAny_bind (wpAny_mono (fin s₁ l₁ k₁ hl₁ hc hlen) (fun _ s' hQ => ?_) fun _ _ x => x)
    rw [e2]
    exact wpAny_pure hQ
  by_cases hlt : p < q
  · rw [if_pos hlt]
    refine wpAny_bind (slice_ok (by omega) fun s₁ tk K => ?_)
    have hl₁ := hl.up (Mine.Keeps.up K)
    refine wpAny_bind (push_list hl₁ (by unfold strValues; rw [List.length_map]; omega) fun s₂ k₂ hl₂ => ?_)
    rw [if_pos (by rfl)]
    refine go s₂ (l ++ [(⟨x.cps.extract p q⟩, tk)]) ((KeepBut.of K).tr k₂) (by unfold strValues at hl₂ ⊢; rw [List.map_append]; exact hl₂) ?_ (by rw [List.length_append]; exact Nat.le_refl _)
    unfold catL
    rw [List.flatMap_append]; simp
  · rw [if_neg hlt]
    rw [if_pos (by rfl)]
    have : p = q := by omega
    refine go s l ⟨s.heap, s.toks, rfl, fun _ _ _ e => e⟩ hl ?_ (Nat.le_succ _)
    subst this
    simp
theorem join_fold (sep : Str) (h0 : sep.length = 0) : ∀ (l : List (Str × Tok)) (a : Nat), (l.map (·.1)).foldl (fun acc (y : Str) => acc + y.length + sep.length) a = a + (catL l).length
  | [], a => by simp [catL]
  | p :: l, a => by
    rw [List.map_cons, List.foldl_cons, join_fold sep h0 l]
    unfold catL
    rw [List.flatMap_cons, List.length_append, h0]
    have : p.1.cps.toList.length = p.1.length := Array.length_toList
    omega
theorem join_cat (sep : Str) (h0 : sep.cps = #[]) : ∀ l : List (Str × Tok), (Str.join sep (l.map (·.1))).cps.toList = catL l
  | [] => rfl
  | [p] => by simp [catL, Str.join]
  | p :: q :: l => by
    have ih := join_cat sep h0 (q :: l)
    have e : Str.join sep ((p :: q :: l).map (·.1)) = p.1 ++ sep ++ Str.join sep ((q :: l).map (·.1)) := rfl
    rw [e, Str.cps_append, Str.cps_append, h0]
    have e2 : catL (p :: q :: l) = p.1.cps.toList ++ catL (q :: l) := by unfold catL; rw [List.flatMap_cons]
    rw [e2, ← ih]; simp
theorem turn_end {x r : Str} {u t : Tok} {n : Int} {p : Nat} {must : Bool} {D : Addr} {l : List (Str × Tok)} {Q : Fin → Shared → Prop} (h2 : s.heap.get? 36 = some patO1) (h1 : s.heap.get? 35 = some (codeO code1)) (hx : x.cps.size ≤ 10000)
    (hl : IsL s.heap D (strValues l)) (hz : l.length ≤ 90000) (hc : (catL l).length ≤ 10000000) (hp : p ≤ x.cps.size) (hn : nxt x.cps (x.cps.size + 1 - p) p must = none)
    (hq : ∀ s' y t', KeepBut D s s' → y.cps.toList = catL l ++ x.cps.toList.drop p → Q (.done (.ret (.str y t'))) s') :
    wpAny (model prog w) A (Builtin.«re.Pattern.sub.loop» (loopArgs x u r t n p must D)) Q E s := by
  unfold Builtin.«re.Pattern.sub.loop» loopArgs rawInt
  dsimp only
  refine wpAny_bind (whole1 h2 h1 ?_)
  dsimp only
  rw [if_pos (by rfl)]
  refine wpAny_bind ?_
  have lit : ∀ {Q' : Unit → Shared → Prop}, Q' () s → wpAny (model prog w) A (reLiteralCannotBeTurned (.str r t)) Q' E s := fun hq' => by
    obtain ⟨h, g, d, tk, os⟩ := s
    unfold reLiteralCannotBeTurned
    repeat wp_step
    exact hq'
  refine lit ?_
  rw [if_neg (by simp)]
  refine wpAny_bind ?_
  rw [Int.toNat_natCast]
  refine found1 hp (by omega) (fun _ => ?_) (fun q' e => by rw [hn] at e; cases e)
  dsimp only
  have go : ∀ s₁ l₁, KeepBut D s s₁ → IsL s₁.heap D (strValues l₁) → catL l₁ = catL l ++ x.cps.toList.drop p → l₁.length ≤ l.length + 1 →
      wpAny (model prog w) A (do
        let joiner ← reSlice x.cps 0 0 0
        let text ← if ((← seqItems? (.ref D)).getD #[]).isEmpty then pure joiner
          else call (.builtin (if (0 : Nat) == 0 then "str.join" else "bytes.join")) [joiner, .ref D]
        if false then ret (← holding [text] do newTuple [text, ← mkInt n]) else ret text) Q E s₁ := fun s₁ l₁ k₁ hl₁ hc₁ hlen => by
    refine wpAny_bind (slice_ok (by omega) fun s₂ tk K => ?_)
    have hl₂ := hl₁.up (Mine.Keeps.up K)
    obtain ⟨k, hl₃⟩ := hl₂
    dsimp only
    refine wpAny_bind (wpAny_seqItems hl₃ rfl ?_)
    have e0 : x.cps.extract 0 0 = #[] := by simp
    have kk : KeepBut D s s₂ := k₁.tr (KeepBut.of K)
    cases l₁ with
    | nil =>
      rw [if_pos (by rfl)]
      refine wpAny_bind (wpAny_pure ?_)
      rw [if_neg Bool.false_ne_true]
      refine wpAny_pure (hq _ _ _ kk ?_)
      rw [← hc₁, e0]; rfl
    | cons a l₁ =>
      rw [if_neg (by simp [strValues])]
      have hsep : (⟨x.cps.extract 0 0⟩ : Str).length = 0 := by show (x.cps.extract 0 0).size = 0; rw [e0]; rfl
      refine wpAny_bind (PySem.SC.join (l := a :: l₁) (IsL.isList ⟨k, hl₃⟩) rfl ?_ fun t' k' => ?_)
      · unfold JoinOk
        rw [Bool.not_eq_true', List.foldl_toArray, join_fold _ hsep]
        unfold PySem.Builtin.Str.tooLong
        refine decide_eq_false ?_
        rw [hc₁, sizeLine_eq, List.length_append, List.length_drop]
        have : x.cps.toList.length = x.cps.size := Array.length_toList
        omega
      · rw [if_neg Bool.false_ne_true]
        refine wpAny_pure (hq _ _ _ (kk.tr (KeepBut.tok _ _)) ?_)
        rw [← hc₁]
        show (PySem.Txt.join _ _).cps.toList = _
        unfold PySem.Txt.join
        rw [PySem.StrLaws.glued_eq_join]
        exact join_cat _ e0 _
  by_cases hlt : p < x.cps.size
  · rw [if_pos hlt]
    refine wpAny_bind (slice_ok (by omega) fun s₁ tk K => ?_)
    have hl₁ := hl.up (Mine.Keeps.up K)
    refine wpAny_bind (push_list hl₁ (by unfold strValues; rw [List.length_map]; omega) fun s₂ k₂ hl₂ => ?_)
    refine go s₂ (l ++ [(⟨x.cps.extract p x.cps.size⟩, tk)]) ((KeepBut.of K).tr k₂) (by unfold strValues at hl₂ ⊢; rw [List.map_append]; exact hl₂) ?_ (by rw [List.length_append]; exact Nat.le_refl _)
    unfold catL
    rw [List.flatMap_append]
    simp only [List.flatMap_cons, List.flatMap_nil, List.append_nil, Array.toList_extract]
    have e3 : x.cps.toList.extract p x.cps.size = List.drop p x.cps.toList := by
      rw [List.extract_eq_take_drop]
      exact List.take_of_length_le (by simp)
    rw [e3]
  · rw [if_neg hlt]
    refine go s l ⟨s.heap, s.toks, rfl, fun _ _ _ e => e⟩ hl ?_ (Nat.le_succ _)
    rw [List.drop_eq_nil_of_le (by simp; omega)]; simp

/-- what the loop puts out, from p on -/
def subR (X : Array Nat) (r : List Nat) : Nat → Nat → Bool → List Nat
  | 0, _, _ => []
  | f + 1, p, must => match nxt X (X.size + 1 - p) p must with
    | none => X.toList.drop p
    | some q => (X.extract p q).toList ++ r ++ subR X r f q true
theorem nxt_gt {X : Array Nat} : ∀ (f p : Nat) (must : Bool) (q : Nat), nxt X f p must = some q → p ≤ q ∧ q < p + f ∧ hit X q = true ∧ (must = true → p < q)
  | 0, _, _, _, h => by cases h
  | f + 1, p, must, q, h => by
    unfold nxt at h
    split at h
    · rename_i hc
      cases h
      rw [Bool.and_eq_true, Bool.not_eq_true'] at hc
      exact ⟨Nat.le_refl _, by omega, hc.1, fun e => by rw [hc.2] at e; cases e⟩
    · have := nxt_gt f (p + 1) false q h
      exact ⟨by omega, by omega, this.2.2.1, fun _ => by omega⟩
theorem loop_ok {x r : Str} {u t : Tok} {R : Result → Shared → Prop} (hx : x.cps.size ≤ 1000) (hr : r.length ≤ 100) {D : Addr} : ∀ (f p : Nat) (must : Bool) (n : Int) (l : List (Str × Tok)) (s : Shared), s.heap.get? 36 = some patO1 → s.heap.get? 35 = some (codeO code1) → D ≠ 36 → D ≠ 35 →
    IsL s.heap D (strValues l) → p ≤ x.cps.size → x.cps.size + (if must then 1 else 2) - p ≤ f → l.length + 2 * f ≤ 90000 → (catL l).length + 1200 * f ≤ 10000000 →
    (∀ s' y t', KeepBut D s s' → y.cps.toList = catL l ++ subR x.cps r.cps.toList f p must → R (.ok (.ret (.str y t'))) s') →
    codeAny (model prog w) A (.builtin "re.Pattern.sub.loop" (loopArgs x u r t n p must D)) R s
  | 0, p, must, n, l, s, _, _, _, _, _, hp, hf, _, _, _ => by cases must <;> simp at hf <;> omega
  | f + 1, p, must, n, l, s, h2, h1, d36, d35, hl, hp, hf, hz, hz2, hR => by
    refine codeAny_builtin entry_loop ?_
    have hu : A.under (.builtin "re.Pattern.sub.loop" (loopArgs x u r t n p must D)) = A.in1 := Around.under_plainId (by decide +kernel) _
    rw [hu]
    cases hn : nxt x.cps (x.cps.size + 1 - p) p must with
    | none =>
      refine turn_end h2 h1 (by omega) hl (by omega) (by omega) hp hn fun s' y t' k hy => ?_
      refine hR s' y t' k ?_
      rw [hy]; unfold subR; rw [hn]
    | some q =>
      obtain ⟨g1, g2, g3, g4⟩ := nxt_gt _ _ _ _ hn
      refine turn_hit h2 h1 (by omega) hl (by omega) hp hn fun s' l' k hl' hc hlen => ⟨plainId_quiet (by decide +kernel) _, ?_⟩
      have kk := k
      obtain ⟨h', tk, rfl, kp⟩ := k
      have lr : r.cps.toList.length ≤ 100 := by have : r.cps.toList.length = r.length := Array.length_toList; omega
      have lx : (x.cps.extract p q).toList.length ≤ 1000 := by
        have e1 : (x.cps.extract p q).toList.length = (x.cps.extract p q).size := Array.length_toList
        rw [e1, Array.size_extract]; omega
      refine loop_ok hx hr f q true (n + 1) l' _ (kp _ _ (Ne.symm d36) h2) (kp _ _ (Ne.symm d35) h1) d36 d35 hl' (by omega) ?_ (by omega) ?_ fun s₂ y t' k₂ hy => ?_
      · cases must with
        | true => have := g4 rfl; simp at hf ⊢; omega
        | false => simp at hf ⊢; omega
      · rw [hc, List.length_append, List.length_append]; omega
      · refine hR s₂ y t' (kk.tr k₂) ?_
        rw [hy, hc]
        conv => rhs; unfold subR
        rw [hn]; simp [List.append_assoc]
theorem named_sub (a b : Value) : reNamed "re.Pattern.sub" "sub" ["repl", "string", "count"] 2 [a, b] [] = pure [some a, some b, none] := by kernel_rfl
theorem sub_head {x r : Str} {u t : Tok} {R : Result → Shared → Prop} (h2 : s.heap.get? 36 = some patO1) (h1 : s.heap.get? 35 = some (codeO code1)) (hr : r.cps.contains 92 = false)
    (hq : ∀ s' D, Keeps s s' → s.heap.get? D = none → IsL s'.heap D [] → codeAny (model prog w) A (.builtin "re.Pattern.sub.loop" (loopArgs x u r t 0 (0 : Nat) false D)) R s') :
    codeAny (model prog w) A (.call (.builtin "re.Pattern.sub") ⟨[.ref 36, .str r t, .str x u], []⟩) R s := by
  refine codeAny_call_builtin slot_sub.plain entry_sub (slot_sub.check _ _ _ _ _ _ _ _ ⟨_, h2, rfl⟩ (by unfold argsOk; kernel_rfl) ?_)
  have hc := no_call_str
  obtain ⟨h, g, d, tk, os⟩ := s
  have hT : (⟨h, g, d, tk, os⟩ : Shared).TypeIs (.str r t) "str" := rfl
  unfold Builtin.«re.Pattern.sub» reSubstitute
  dsimp only
  rw [named_sub]
  refine wpAny_bind (wpAny_pure ?_)
  dsimp only
  refine wpAny_bind (wpAny_pure ?_)
  refine wpAny_bind (wpAny_specialOf hT hc ?_)
  rw [if_neg (by simp)]
  refine wpAny_bind ?_
  show wpAny _ _ (pure (some r)) _ _ _
  refine wpAny_pure ?_
  dsimp only
  refine wpAny_bind (wpAny_pure ?_)
  rw [if_neg (by simp)]
  rw [if_pos (by rw [hr]; rfl)]
  refine wpAny_bind (wpAny_pure ?_)
  refine wpAny_bind (wpAny_holding (whole1 h2 h1 ?_))
  dsimp only
  rw [if_neg (by simp)]
  refine wpAny_bind (wpAny_newObj_type ?_ (by show ([] : List Value).toArray.size ≤ sizeLine; rw [sizeLine_eq]; exact Nat.le_of_ble_eq_true rfl))
  refine wpAny_pure ⟨plainId_quiet (by decide +kernel) _, ?_⟩
  have hnone : h.get? h.objs.size = none := by
    cases q : h.get? h.objs.size with
    | none => rfl
    | some o => exact absurd (Heap.lt_size q) (Nat.lt_irrefl _)
  exact hq _ h.objs.size ⟨_, tk, rfl, fun b o e => Heap.get?_push_of_some _ e⟩ hnone ⟨0, Heap.get?_push_size _ rfl⟩
/-- all of sub -/
theorem sub_ok {x r : Str} {u t : Tok} {R : Result → Shared → Prop} (h2 : s.heap.get? 36 = some patO1) (h1 : s.heap.get? 35 = some (codeO code1)) (hr : r.cps.contains 92 = false) (hx : x.cps.size ≤ 1000) (hl : r.length ≤ 100)
    (hq : ∀ s' y t', Keeps s s' → y.cps.toList = subR x.cps r.cps.toList (x.cps.size + 2) 0 false → R (.ok (.ret (.str y t'))) s') :
    codeAny (model prog w) A (.call (.builtin "re.Pattern.sub") ⟨[.ref 36, .str r t, .str x u], []⟩) R s := by
  refine sub_head h2 h1 hr fun s' D K hD hL => ?_
  have d36 : D ≠ 36 := fun e => by rw [e, h2] at hD; cases hD
  have d35 : D ≠ 35 := fun e => by rw [e, h1] at hD; cases hD
  have U := Mine.Keeps.up K
  refine loop_ok hx hl (x.cps.size + 2) 0 false 0 [] s' (U _ _ h2) (U _ _ h1) d36 d35 hL (Nat.zero_le _) (by simp) (by simp; omega) (by simp [catL]; omega) fun s₂ y t' k hy => ?_
  refine hq s₂ y t' ?_ (by rw [hy]; simp [catL])
  obtain ⟨h', tk, rfl, k₁⟩ := K
  obtain ⟨h'', tk', rfl, k₂⟩ := k
  exact ⟨h'', tk', rfl, fun b o e => k₂ b o (fun q => by rw [q, hD] at e; cases e) (k₁ b o e)⟩
end
end
/-! ### S3 -/
section
open PySem
/-- r ahead of each line that is not empty; b: a line begins here -/
def indG (r : List Nat) : Bool → List Nat → List Nat
  | _, [] => []
  | b, c :: l => (if (b && c != 10) = true then r else []) ++ c :: indG r (c == 10) l
def after (r : List Nat) : List Nat → List Nat
  | [] => []
  | c :: l => c :: indG r (c == 10) l
section
variable {X : Array Nat} {r : List Nat}
theorem drop_at {p : Nat} (h : p < X.size) : X.toList.drop p = X.getD p 0 :: X.toList.drop (p + 1) := by
  rw [List.drop_eq_getElem_cons (by simpa using h)]
  congr 1
  rw [Array.getElem_toList]
  simp [Array.getD, h]
theorem bol_succ {p : Nat} : bol X (p + 1) = (X.getD p 0 == 10) := by
  unfold bol; simp
theorem hit_at {p : Nat} (h : p < X.size) : hit X p = (bol X p && X.getD p 0 != 10) := by
  unfold hit eol
  have : (p == X.size) = false := by simp; omega
  rw [this, Bool.false_or]; rfl
theorem ind_at {p : Nat} (h : p < X.size) : indG r (bol X p) (X.toList.drop p) = (if hit X p = true then r else []) ++ after r (X.toList.drop p) := by
  rw [drop_at h, hit_at h]; rfl
theorem after_at {p : Nat} (h : p < X.size) : after r (X.toList.drop p) = X.getD p 0 :: indG r (bol X (p + 1)) (X.toList.drop (p + 1)) := by
  rw [drop_at h, bol_succ]; rfl
theorem ext_cons {p q : Nat} (h : p < q) (hq : q ≤ X.size) : (X.extract p q).toList = X.getD p 0 :: (X.extract (p + 1) q).toList := by
  simp only [Array.toList_extract, List.extract_eq_take_drop]
  rw [drop_at (by omega), show q - p = (q - (p + 1)) + 1 by omega, List.take_succ_cons]
theorem nxt_law : ∀ (f p : Nat) (skip : Bool), f = X.size + 1 - p → p ≤ X.size →
    (if skip = true then after r (X.toList.drop p) else indG r (bol X p) (X.toList.drop p)) = match nxt X f p skip with
      | none => X.toList.drop p
      | some q => (X.extract p q).toList ++ r ++ after r (X.toList.drop q)
  | 0, p, _, hf, hp => by omega
  | f + 1, p, skip, hf, hp => by
    rcases Nat.lt_or_ge p X.size with hlt | hge
    · have ih := nxt_law f (p + 1) false (by omega) (by omega)
      rw [if_neg Bool.false_ne_true] at ih
      have step : after r (X.toList.drop p) = match nxt X f (p + 1) false with
          | none => X.toList.drop p
          | some q => (X.extract p q).toList ++ r ++ after r (X.toList.drop q) := by
        rw [after_at hlt, ih]
        cases hn : nxt X f (p + 1) false with
        | none => exact (drop_at hlt).symm
        | some q =>
          have g := nxt_gt _ _ _ _ hn
          dsimp only
          rw [ext_cons (X := X) (p := p) (q := q) (by omega) (by omega)]
          rfl
      unfold nxt
      cases skip with
      | true =>
        rw [if_pos rfl, if_neg (by simp)]
        exact step
      | false =>
        rw [if_neg Bool.false_ne_true, ind_at hlt]
        cases hh : hit X p with
        | true => simp
        | false => simpa using step
    · have e : p = X.size := by omega
      subst e
      have hd : X.toList.drop X.size = [] := List.drop_eq_nil_of_le (by simp)
      have hh : hit X X.size = false := by unfold hit eol; simp
      have f0 : f = 0 := by omega
      subst f0
      unfold nxt
      rw [hd, hh]
      cases skip <;> rfl
theorem sub_law : ∀ (f p : Nat) (must : Bool), p ≤ X.size → X.size + (if must then 1 else 2) - p ≤ f →
    subR X r f p must = if must = true then after r (X.toList.drop p) else indG r (bol X p) (X.toList.drop p)
  | 0, p, must, hp, hf => by cases must <;> simp at hf <;> omega
  | f + 1, p, must, hp, hf => by
    unfold subR
    rw [nxt_law (X.size + 1 - p) p must rfl hp]
    cases hn : nxt X (X.size + 1 - p) p must with
    | none => rfl
    | some q =>
      obtain ⟨g1, g2, g3, g4⟩ := nxt_gt _ _ _ _ hn
      dsimp only
      rw [sub_law f q true (by omega) (by
        cases must with
        | true => have := g4 rfl; simp at hf ⊢; omega
        | false => simp at hf ⊢; omega)]
      rfl
theorem sub_all : subR X r (X.size + 2) 0 false = indG r true X.toList := by
  rw [sub_law _ _ _ (Nat.zero_le _) (by simp)]
  rfl
end
end
/-! ### S4 -/
section
open PySem PySem.Calls PySem.W PyProof.Rows PySem.Builtin.Str
section
variable {prog : Program} {w : World} {A : Around} {E : Value → Shared → Prop} {s : Shared}
theorem mul_int_str {x : Str} {n : Int} {t u : Tok} {Q : Value → Shared → Prop} (hok : MulOk x n) (h : ∀ t' k, Q (.str (PySem.Txt.mul x n) t') { s with toks := k }) : wpAny (model prog w) A (binaryOp .Mult (.int n u) (.str x t)) Q E s := by
  refine lm_binaryOp_repeat_right (T := "str") (U := "int") (by decide) (fun s' => typeIs_int s' n u) (typeIs_str s x t) PySem.F.fills_int_mul PySem.noFill_str_mul PySem.F.slot_int_mul lm_noRepeat_int PySem.repeat_str PySem.F.slot_int_index.lookup ?_
  refine call_gives PySem.F.slot_int_mul (typeIs_int s n u) PySem.F.entry_int_mul (PySem.F.args_int_mul_2 _ _) (AutoIntG3.int___mul___int_str_0 n u x t) ⟨rfl, typeIs_str s x t, ?_⟩
  refine call_gives PySem.F.slot_str_mul (typeIs_str s x t) PySem.F.entry_str_mul (PySem.F.args_str_mul_2 _ _) (gives_str_mul x n t u hok.1 hok.2.1 hok.2.2) ?_
  unfold PySem.Txt.mul at h
  by_cases h1 : n < 1
  · rw [if_pos h1]; have h' := h s.toks (s.toks + 1); rw [if_pos h1] at h'; exact ⟨by decide, h'⟩
  · rw [if_neg h1]; refine post_val_or_made (fun hc => fits_reps (hok.2.2 h1 (by simpa using hc))) fun t' k => ?_
    have h' := h t' k; rw [if_neg h1] at h'; exact h'
end
/-- n times the sign c -/
def repS (c : Nat) (n : Nat) : Str := ⟨(List.replicate n c).toArray⟩
theorem repS_len {c n : Nat} : (repS c n).length = n := by show (List.replicate n c).toArray.size = n; simp
theorem rep_fold (c : Nat) : ∀ (n : Nat) (a : Array Nat), (List.replicate n #[c]).foldl (· ++ ·) a = a ++ (List.replicate n c).toArray
  | 0, a => by simp
  | n + 1, a => by
    rw [List.replicate_succ, List.foldl_cons, rep_fold c n, List.replicate_succ]
    apply Array.ext'
    simp
theorem mul_is (c : Nat) (n : Int) (h0 : 0 ≤ n) : PySem.Txt.mul ⟨#[c]⟩ n = repS c n.toNat := by
  unfold PySem.Txt.mul repS
  by_cases h1 : n < 1
  · rw [if_pos h1]
    have : n = 0 := by omega
    subst this; rfl
  · rw [if_neg h1]
    by_cases h2 : n = 1
    · subst h2; rfl
    · rw [if_neg (by
        have e : (n == 1) = false := by simp [h2]
        rw [e]; simp [PySem.Str.length])]
      rw [rep_fold]; simp
theorem mulOk1 (c : Nat) {n : Int} (h : 0 ≤ n ∧ n < 100000) : MulOk ⟨#[c]⟩ n := by
  refine ⟨?_, fun _ _ => ?_, fun _ _ => ?_⟩
  · rw [Bool.or_eq_false_iff]; exact ⟨decide_eq_false (by omega), decide_eq_false (by omega)⟩
  · show ¬ ((1 : Nat) : Int) > (2 ^ 63 - 1) / n
    have : 1 ≤ (2 ^ 63 - 1) / n := by
      rw [Int.le_ediv_iff_mul_le (by omega)]; omega
    omega
  · show decide (1 * n.toNat > sizeLine) = false
    exact decide_eq_false (by rw [sizeLine_eq]; omega)
section
variable {prog : Program} {w : World} {A : Around} {s₀ : Shared} {h₀ g : Heap} {L : Addr} {m : Str → Option Value} {mu : List (Addr × Ent)} {s : Shared} {env : Env} {mg mb : Str → Option Value} {pos : Pos}
theorem r_mulIS {c : Nat} {n : Int} {t u : Tok} {Q : Value → Shared → Prop} (I : On s₀ h₀ g L m mu s) (hn : 0 ≤ n ∧ n < 100000) (h : ∀ s' t, On s₀ h₀ g L m mu s' → Q (.str (repS c n.toNat) t) s') : WP (model prog w) A (binaryOp .Mult (.int n u) (.str ⟨#[c]⟩ t)) Q No s := by
  simp only [WP_eq] at *
  refine mul_int_str (mulOk1 c hn) fun t' k => ?_
  rw [mul_is c n hn.1]; exact h _ _ (I.tok _)
theorem r_mulSI {c : Nat} {n : Int} {t u : Tok} {Q : Value → Shared → Prop} (I : On s₀ h₀ g L m mu s) (hn : 0 ≤ n ∧ n < 100000) (h : ∀ s' t, On s₀ h₀ g L m mu s' → Q (.str (repS c n.toNat) t) s') : WP (model prog w) A (binaryOp .Mult (.str ⟨#[c]⟩ t) (.int n u)) Q No s := by
  simp only [WP_eq] at *
  refine PySem.SB.mul (mulOk1 c hn) fun t' k => ?_
  rw [mul_is c n hn.1]; exact h _ _ (I.tok _)
end
end
/-! ### S5 -/
section
open PySem PySem.Calls PySem.W PyProof.Rows
section
variable {prog : Program} {w : World} {A : Around} {s : Shared} {mg mb : Str → Option Value}
def indS (k : Nat) (x : Str) : Str := ⟨(indG (List.replicate k 32) true x.cps.toList).toArray⟩
theorem sp_is : Str.ofString " " = ⟨#[32]⟩ := by decide +kernel
theorem hash_is : Str.ofString "#" = ⟨#[35]⟩ := by decide +kernel
local macro_rules | `(tactic| walk_at "go") => `(tactic| ((with_reducible show WP _ _ (binaryOp Operator.Mult (Value.int _ _) (Value.str _ _)) _ _ _); rw [sp_is]; refine r_mulIS (by assumption) (by omega) ?_; intro _ _ _))
theorem not_back (k : Nat) : (repS 32 k).cps.contains 92 = false := by
  unfold repS
  rw [Bool.eq_false_iff]
  intro h
  rw [Array.contains_iff] at h
  simp only [List.mem_toArray, List.mem_replicate] at h
  exact absurd h.2 (by decide)
theorem indent_body {n : Nat} {x : Str} {k : Int} {t u : Tok} {Q : Value → Shared → Prop} {mm : Str → Option Value} {s₁ : Shared} {L : Addr} (hA : Fine n A) (W : Wd mg mb s.heap) (N : Nm mg mb) (X : Rx w.params s.heap) (hk : 0 ≤ k ∧ k ≤ 100) (hx : x.length ≤ 1000)
    (h : ∀ s' t, Keeps s s' → Q (.str (indS k.toNat x) t) s') (I : On s s.heap s.heap L mm [] s₁) (h1 : mm "s" = some (.str x u)) (h2 : mm "indent" = some (.int k t)) :
    WP (model prog w) (A.deeper (callEnv fIndent L 44)) (execs (dBody (stm 3)) (callEnv fIndent L 44)) (fun f s' => Q (match f with | .ret v => v | _ => .none) s') No s₁ := by
  conv in dBody _ => whnf
  have hR := hA.deeper (callEnv fIndent L 44)
  repeat' walk_at "go"
  refine gm_sub ((X.up (On.keep (by assumption))).p1) ?_
  repeat' walk_at "go"
  have J := (by assumption : On s s.heap s.heap L mm [] _)
  have X' := X.up J.keep
  have hz : x.cps.size ≤ 1000 := hx
  simp only [WP_eq]
  refine wpAny_call (sub_ok X'.p1 X'.c1 (not_back _) hz (by rw [repS_len]; omega) fun s' y t' K hy => ?_)
  have e : y = indS k.toNat x := by
    rw [sub_all] at hy
    unfold indS
    have : y.cps = (indG (List.replicate k.toNat 32) true x.cps.toList).toArray := by
      apply Array.ext'
      rw [hy]; rfl
    rw [← this]
  subst e
  exact h _ _ (J.keeps K).keepsOf
theorem indent2_ok {n : Nat} {x : Str} {k : Int} {t u : Tok} {Q : Value → Shared → Prop} (hA : Fine n A) (W : Wd mg mb s.heap) (N : Nm mg mb) (X : Rx w.params s.heap) (hd : IsT s.heap 37 [.int 4 304]) (hk : 0 ≤ k ∧ k ≤ 100) (hx : x.length ≤ 1000)
    (h : ∀ s' t, Keeps s s' → Q (.str (indS k.toNat x) t) s') (hn : n < 890 := by omega) :
    WP (model prog w) A (call (.ref 44) [.str x u, .int k t] []) Q No s := by
  obtain ⟨n0, hd⟩ := hd
  exact call_pure hA W.indent W.lim (BindsTo.of_defaults (binds := [("s", .str x u), ("indent", .int k t)]) rfl hd rfl rfl rfl) (fun s₁ I => indent_body hA W N X hk hx h I rfl rfl)
theorem indent1_ok {n : Nat} {x : Str} {u : Tok} {Q : Value → Shared → Prop} (hA : Fine n A) (W : Wd mg mb s.heap) (N : Nm mg mb) (X : Rx w.params s.heap) (hd : IsT s.heap 37 [.int 4 304]) (hx : x.length ≤ 1000)
    (h : ∀ s' t, Keeps s s' → Q (.str (indS 4 x) t) s') (hn : n < 890 := by omega) :
    WP (model prog w) A (call (.ref 44) [.str x u] []) Q No s := by
  obtain ⟨n0, hd⟩ := hd
  exact call_pure hA W.indent W.lim (BindsTo.of_defaults (binds := [("s", .str x u), ("indent", .int 4 304)]) rfl hd rfl rfl rfl) (fun s₁ I => indent_body hA W N X (k := 4) (by decide) hx h I rfl rfl)
end
end
/-! ### L1 -/
section
open PySem PySem.Calls PySem.W PyProof.Rows
section
variable {prog : Program} {w : World} {A : Around} {s₀ : Shared} {h₀ g : Heap} {L : Addr} {m : Str → Option Value} {mu : List (Addr × Ent)} {s : Shared} {env : Env} {mg mb : Str → Option Value} {pos : Pos}

/-! ## mu made less, more -/
theorem On.weaken {p : Addr × Ent} (I : On s₀ h₀ g L m (p :: mu) s) : On s₀ h₀ g L m mu s :=
  ⟨I.ns, I.keep, I.org, fun q hq => I.mus q (.tail _ hq), I.offL, fun q hq => I.off q (.tail _ hq), by
    have h := I.apart
    rw [List.map_cons, List.nodup_cons, List.nodup_cons] at h
    rw [List.nodup_cons]
    exact ⟨fun q => h.1 (.tail _ q), h.2.2⟩, I.gens, I.drawn, I.os⟩
/-- a list that is done is taken into the ground -/
theorem On.freeze {a : Addr} {xs : List Value} (I : On s₀ h₀ g L m ((a, .list xs) :: mu) s) : ∃ g', Up g g' ∧ IsL g' a xs ∧ On s₀ h₀ g' L m mu s := by
  have J := I.weaken.max
  obtain ⟨n, hn⟩ : IsL s.heap a xs := I.mus _ (.head _)
  refine ⟨_, J.1, ⟨n, hideAll_get _ hn fun hb => ?_⟩, J.2⟩
  have h := I.apart
  rw [List.map_cons, List.nodup_cons, List.nodup_cons] at h
  rcases List.mem_cons.mp hb with e | hb
  · exact h.1 (e ▸ List.mem_cons_self ..)
  · exact h.2.1 hb
theorem On.swap {p q : Addr × Ent} (I : On s₀ h₀ g L m (p :: q :: mu) s) : On s₀ h₀ g L m (q :: p :: mu) s := by
  refine ⟨I.ns, I.keep, I.org, fun x hx => I.mus x ?_, I.offL, fun x hx => I.off x ?_, ?_, I.gens, I.drawn, I.os⟩
  · rcases List.mem_cons.mp hx with rfl | hx
    · exact .tail _ (.head _)
    · rcases List.mem_cons.mp hx with rfl | hx
      · exact .head _
      · exact .tail _ (.tail _ hx)
  · rcases List.mem_cons.mp hx with rfl | hx
    · exact .tail _ (.head _)
    · rcases List.mem_cons.mp hx with rfl | hx
      · exact .head _
      · exact .tail _ (.tail _ hx)
  · have h := I.apart
    rw [List.map_cons, List.map_cons, List.nodup_cons, List.nodup_cons, List.nodup_cons] at h
    rw [List.map_cons, List.map_cons, List.nodup_cons, List.nodup_cons, List.nodup_cons]
    refine ⟨fun x => h.1 ?_, fun x => ?_, fun x => h.2.1 (.tail _ x), h.2.2.2⟩
    · rcases List.mem_cons.mp x with e | x
      · rw [e]; exact .tail _ (.head _)
      · rcases List.mem_cons.mp x with e | x
        · rw [e]; exact .head _
        · exact .tail _ (.tail _ x)
    · rcases List.mem_cons.mp x with e | x
      · exact h.2.1 (e ▸ List.mem_cons_self ..)
      · exact h.2.2.1 x

/-! ## While -/
theorem w_while {test : Expr} {body orelse : List Stmt} {Q : Flow → Shared → Prop} (I : Nat → Shared → Prop)
    (turn : ∀ n s, I n s → WP (model prog w) A (isTrue test env (eval test env)) (fun b s₂ =>
        if b = true then WP (model prog w) A (execs body env) (fun f s₃ => match f with
            | .next | .cont => ∃ m, m < n ∧ I m s₃
            | .brk => Q .next s₃
            | .ret v => Q (.ret v) s₃) No s₂
        else WP (model prog w) A (execs orelse env) Q No s₂) No s)
    (n : Nat) (h : I n s) : WP (model prog w) A (exec (.While test body orelse pos) env) Q No s := by
  simp only [WP_eq] at *
  refine wpAny_While (codeAny_whileLoop I (fun n s hI => ?_) n h)
  refine wpAny_mono (turn n s hI) (fun b s₂ hb => ?_) fun _ _ x => x.elim
  cases b with
  | true => exact wpAny_mono hb (fun f s₃ h => by cases f <;> exact h) fun _ _ x => x.elim
  | false => exact wpAny_mono hb (fun f s₃ h => h) fun _ _ x => x.elim

/-! ## For -/
structure Iter (prog : Program) (w : World) (A : Around) (s₀ : Shared) (h₀ : Heap) (L : Addr) (g₀ : Heap) (I : Addr) (It : Nat → Ent) (n : Nat) (val : Nat → Value → Prop) : Prop where
  item : ∀ i g m mu s (Q : Option Value → Shared → Prop), Up g₀ g → i < n → On s₀ h₀ g L m ((I, It i) :: mu) s →
    (∀ v s', val i v → On s₀ h₀ g L m ((I, It (i + 1)) :: mu) s' → Q (some v) s') → WP (model prog w) A (pyNext (.ref I)) Q No s
  done : ∀ g m mu s (Q : Option Value → Shared → Prop), Up g₀ g → On s₀ h₀ g L m ((I, It n) :: mu) s →
    (∀ s', On s₀ h₀ g L m mu s' → Q none s') → WP (model prog w) A (pyNext (.ref I)) Q No s

theorem w_whileQ {test : Expr} {body orelse : List Stmt} {Q : Flow → Shared → Prop} (I : Nat → Shared → Prop)
    (turn : ∀ n s, I n s → ∀ QQ : Flow → Shared → Prop, (∀ s', (∃ m, m < n ∧ I m s') → QQ .next s' ∧ QQ .cont s') → WP (model prog w) A (isTrue test env (eval test env)) (fun b s₂ =>
        if b = true then WP (model prog w) A (execs body env) QQ No s₂
        else WP (model prog w) A (execs orelse env) Q No s₂) No s)
    (n : Nat) (h : I n s) : WP (model prog w) A (exec (.While test body orelse pos) env) Q No s :=
  w_while I (fun n s h => turn n s h _ fun _ h => ⟨h, h⟩) n h

theorem On.lose {p : Addr × Ent} {h' : Heap} (I : On s₀ h₀ g L m (p :: mu) s) (k : Heap.ExtBut p.1 s.heap h') : On s₀ h₀ g L m mu { s with heap := h' } := by
  have hL := I.neL (.head _)
  have ho := I.off _ (.head _)
  have J := I.weaken
  have h := I.apart
  rw [List.map_cons, List.nodup_cons, List.nodup_cons] at h
  exact ⟨I.ns.at' fun o e => k _ _ (Ne.symm hL) e, fun b o e => k b o (fun q => by rw [q, ho] at e; cases e) (I.keep b o e), I.org,
    fun q hq => (J.mus q hq).to fun o e => k _ o (fun z => h.2.1 (z ▸ List.mem_map_of_mem hq)) e, J.offL, J.off, J.apart, I.gens, I.drawn, I.os⟩

theorem Iter.list {g₀ : Heap} {I ax : Addr} {vs : List Value} (hh : A.handled = none) (hl : IsL g₀ ax vs) : Iter prog w A s₀ h₀ L g₀ I (fun i => .liter ax i) vs.length (fun i v => vs[i]? = some v) where
  item := fun i g m mu s Q u hi J hQ => by
    simp only [WP_eq]
    have hit : s.heap.IsListIter I ax i := J.mus _ (.head _)
    have hl' := (hl.up (u.trans J.keep)).isList
    have hx : vs.toArray[i]? = some vs[i] := by simp [hi]
    refine wpAny_pyNext_list_item hit hl' hx fun h' hit' hs => hQ _ _ (by simp [hi]) ?_
    exact J.put (tk := s.toks) .head hit' fun b o nb e => hs.extBut b o nb e
  done := fun g m mu s Q u J hQ => by
    simp only [WP_eq]
    have hit : s.heap.IsListIter I ax vs.length := J.mus _ (.head _)
    have hl' := (hl.up (u.trans J.keep)).isList
    exact wpAny_pyNext_list_end hh hit hl' (by simp) fun h' hx => hQ _ (J.lose hx)
theorem Iter.range {g₀ : Heap} {I : Addr} {a c : Int} {n : Nat} (hh : A.handled = none) : Iter prog w A s₀ h₀ L g₀ I (fun i => .riter (a + i * c) ((n : Int) - i) c) n (fun i v => ∃ t, v = .int (a + i * c) t) where
  item := fun i g m mu s Q u hi J hQ => by
    simp only [WP_eq]
    have hit : IsRangeIter s.heap I (a + i * c) ((n : Int) - i) c := J.mus _ (.head _)
    refine wpAny_pyNext_range_item hit (by omega) fun h' hit' hs => hQ _ _ ⟨_, rfl⟩ ?_
    refine J.put (tk := s.toks + 1) .head ?_ fun b o nb e => hs.extBut b o nb e
    have e1 : a + ((i + 1 : Nat) : Int) * c = a + i * c + c := by rw [Int.natCast_succ, Int.add_mul, Int.one_mul, Int.add_assoc]
    have e2 : (n : Int) - ((i + 1 : Nat) : Int) = n - i - 1 := by omega
    show IsRangeIter h' I (a + ((i + 1 : Nat) : Int) * c) ((n : Int) - ((i + 1 : Nat) : Int)) c
    rw [e1, e2]; exact hit'
  done := fun g m mu s Q u J hQ => by
    simp only [WP_eq]
    have hit : IsRangeIter s.heap I (a + n * c) ((n : Int) - n) c := J.mus _ (.head _)
    exact wpAny_pyNext_range_end hh hit (by omega) fun h' hx => hQ _ (J.lose hx)

theorem it_list {ax : Addr} {vs : List Value} {Q : Value → Shared → Prop} (I : On s₀ h₀ g L m mu s) (hl : IsL g ax vs) (h : ∀ I s', On s₀ h₀ g L m ((I, .liter ax 0) :: mu) s' → Q (.ref I) s') : WP (model prog w) A (pyIter (.ref ax)) Q No s := by
  simp only [WP_eq]
  refine wpAny_pyIter_list (hl.up I.keep).isList (h _ _ (I.pushMu _ _ rfl fun h' e => ⟨_, e, rfl, rfl⟩))
theorem it_range {r : Addr} {a b c : Int} {t u v : Tok} {Q : Value → Shared → Prop} (I : On s₀ h₀ g L m mu s) (hr : IsRange s.heap r a b c t u v) (hs : Builtin.Range.small a b c = true)
    (h : ∀ I s', On s₀ h₀ g L m ((I, .riter a (Builtin.Range.rangeSize a b c) c) :: mu) s' → Q (.ref I) s') : WP (model prog w) A (pyIter (.ref r)) Q No s := by
  simp only [WP_eq]
  refine wpAny_pyIter_range hr hs (h _ _ (I.pushMu _ _ rfl fun h' e => e))
end
end
/-! ### L2 -/
section
open PySem PySem.Calls PySem.W PyProof.Rows
section
variable {prog : Program} {w : World} {A : Around} {s₀ : Shared} {h₀ g : Heap} {L : Addr} {m : Str → Option Value} {mu : List (Addr × Ent)} {s : Shared} {env : Env} {mg mb : Str → Option Value} {pos : Pos}
theorem r_isNN {Q : Value → Shared → Prop} (h : Q (.bool true) s) : WP (model prog w) A (compareOp .Is .none .none) Q No s := by simp only [WP_eq]; exact is_none_none h
theorem r_isRN {a : Addr} {Q : Value → Shared → Prop} (h : Q (.bool false) s) : WP (model prog w) A (compareOp .Is (.ref a) .none) Q No s := by simp only [WP_eq]; exact is_ref_none h
theorem r_lenL {a : Addr} {xs : List Value} {Q : Value → Shared → Prop} (I : On s₀ h₀ g L m mu s) (hl : IsL s.heap a xs) (hz : xs.length ≤ 100000) (h : ∀ s' t, On s₀ h₀ g L m mu s' → Q (.int (xs.length : Int) t) s') : WP (model prog w) A (call (.builtin "len") [.ref a]) Q No s := by
  simp only [WP_eq]
  refine PyProof.Rows.len_list hl.isList (by simp only [List.size_toArray]; omega) ?_
  rw [List.size_toArray]; exact h _ _ (I.tok _)
end
/-- a meeting: its object, its beginning, its end -/
structure Mt where
  a : Addr
  b : Int
  e : Int
def Mt.In (h : Heap) (x : Mt) : Prop := ∃ t u, IsT h x.a [.int x.b t, .int x.e u]
theorem Mt.In.up {h h' : Heap} {x : Mt} (i : x.In h) (u : Up h h') : x.In h' := let ⟨t, v, e⟩ := i; ⟨t, v, e.up u⟩
def refs (R : List Mt) : List Value := R.map fun x => .ref x.a
theorem refs_get {R : List Mt} {i : Nat} (h : i < R.length) : (refs R)[i]? = some (.ref R[i].a) := by
  unfold refs; rw [List.getElem?_map]; simp [h]
end
local macro_rules | `(tactic| walk_at "ops") => `(tactic| first
  | ((with_reducible show WP _ _ (compareOp CmpOp.Is Value.none Value.none) _ _ _); refine r_isNN ?_)
  | ((with_reducible show WP _ _ (compareOp CmpOp.Is (Value.ref _) Value.none) _ _ _); refine r_isRN ?_))
local macro_rules | `(tactic| walk_at "go") => `(tactic| first
  | ((with_reducible show WP _ _ (callWith _ (Value.ref 114) [] _ []) _ _ _); refine cw_def fFirst ?_)
  | ((with_reducible show FnIn _ 114 _ ∧ _); refine ⟨FnIn.up (Wd.first (by assumption)) (On.keep (by assumption)), ?_⟩)
  | ((with_reducible show WP _ _ (callWith _ (Value.ref 121) [] _ []) _ _ _); refine cw_def fLast ?_)
  | ((with_reducible show FnIn _ 121 _ ∧ _); refine ⟨FnIn.up (Wd.last (by assumption)) (On.keep (by assumption)), ?_⟩))
section
open PySem PySem.Calls PySem.W PyProof.Rows
section
variable {prog : Program} {w : World} {A : Around} {s : Shared} {mg mb : Str → Option Value}
local macro_rules | `(tactic| walk_at "go") => `(tactic| ((with_reducible show WP _ _ (call (Value.builtin "len") [Value.ref _]) _ _ _); refine r_lenL (by assumption) (IsL.up (by assumption) (On.keep (by assumption))) (by assumption) ?_; intro _ _ _))
theorem fst_on {n : Nat} {x : Mt} {s₀ : Shared} {h₀ g : Heap} {L : Addr} {m : Str → Option Value} {mu : List (Addr × Ent)} {Q : Value → Shared → Prop} (hA : Fine n A) (W : Wd mg mb g) (I : On s₀ h₀ g L m mu s) (hx : x.In g) (h : ∀ s' t, On s₀ h₀ g L m mu s' → Q (.int x.b t) s') (hn : n < 900) :
    WP (model prog w) A (call (.ref 114) [.ref x.a] []) Q No s := by
  obtain ⟨t, u, e⟩ := hx
  exact first_ok hA (W.first.up I.keep) (W.lim.keeps I.keep) (e.up I.keep) (fun s' K => h _ _ (I.keeps K)) hn
theorem lst_on {n : Nat} {x : Mt} {s₀ : Shared} {h₀ g : Heap} {L : Addr} {m : Str → Option Value} {mu : List (Addr × Ent)} {Q : Value → Shared → Prop} (hA : Fine n A) (W : Wd mg mb g) (I : On s₀ h₀ g L m mu s) (hx : x.In g) (h : ∀ s' t, On s₀ h₀ g L m mu s' → Q (.int x.e t) s') (hn : n < 900) :
    WP (model prog w) A (call (.ref 121) [.ref x.a] []) Q No s := by
  obtain ⟨t, u, e⟩ := hx
  exact last_ok hA (W.last.up I.keep) (W.lim.keeps I.keep) (e.up I.keep) (fun s' K => h _ _ (I.keeps K)) hn

set_option maxHeartbeats 2000000 in
theorem bisR_ok {n : Nat} {a : Addr} {R : List Mt} {X : Int} {t t0 : Tok} {args : List Value} {kw : List (Str × Value)} {Q : Value → Shared → Prop} (hA : Fine n A) (W : Wd mg mb s.heap) (N : Nm mg mb)
    (hb : BindsTo s fBisR ⟨args, kw⟩ [("a", .ref a), ("x", .int X t), ("lo", .int 0 t0), ("hi", .none), ("key", .ref 114)]) (hl : IsL s.heap a (refs R)) (hz : R.length ≤ 1000) (hR : ∀ x ∈ R, x.In s.heap)
    (hs : ∀ (i j : Nat) (hi : i < j) (hj : j < R.length), R[i].b ≤ R[j].b)
    (h : ∀ s' (p : Nat) t, Keeps s s' → p ≤ R.length → (∀ (i : Nat) (hi : i < R.length), i < p → R[i].b ≤ X) → (∀ (i : Nat) (hi : i < R.length), p ≤ i → X < R[i].b) → Q (.int (p : Int) t) s') (hn : n < 890 := by omega) :
    WP (model prog w) A (call (.ref 62) args kw) Q No s := by
  refine call_pure hA W.bisR W.lim hb (fun s₁ I => ?_)
  have hA' := hA.deeper (callEnv fBisR s.heap.objs.size 62)
  have hh := hA'.h
  have hzl : (refs R).length ≤ 100000 := by unfold refs; rw [List.length_map]; omega
  have hln : (refs R).length = R.length := by unfold refs; rw [List.length_map]
  conv in dBody _ => whnf
  repeat' walk_at "go"
  refine w_whileQ (fun k s' => ∃ (lo hi : Nat) (m : Str → Option Value) (tl th : Tok), k = hi - lo ∧ lo ≤ hi ∧ hi ≤ R.length ∧ (∀ (i : Nat) (hi : i < R.length), i < lo → R[i].b ≤ X) ∧ (∀ (i : Nat) (h : i < R.length), hi ≤ i → X < R[i].b) ∧
    m "a" = some (.ref a) ∧ m "x" = some (.int X t) ∧ m "key" = some (.ref 114) ∧ m "lo" = some (.int (lo : Int) tl) ∧ m "hi" = some (.int (hi : Int) th) ∧ On s s.heap s.heap s.heap.objs.size m [] s') ?turn R.length ?start
  case start =>
    refine' ⟨0, R.length, _, _, _, by omega, Nat.zero_le _, Nat.le_refl _, fun i _ h => by omega, fun i h1 h2 => by omega, ?ma, ?mx, ?mk, ?ml, ?mh, ?on⟩
    case on => assumption
    case ma => rfl
    case mx => rfl
    case mk => rfl
    case ml => rfl
    case mh => exact congrArg (fun k : Nat => some (Value.int (k : Int) _)) hln
  rintro k s₂ ⟨lo, hi, m, tl, th, rfl, hlh, hhn, hlo, hhi, ma, mx, mk, ml, mh, J⟩ Q1 hQ1
  repeat' walk_at "go"
  · have hlt : lo < hi := by omega
    repeat' walk_at "go"
    have hm : (lo + hi) / 2 < R.length := by omega
    have e : ((lo : Int) + hi) / 2 = (((lo + hi) / 2 : Nat) : Int) := by omega
    rw [e]
    generalize hmid : (lo + hi) / 2 = mid at *
    refine r_itemL (hl.up (On.keep (by assumption))) (by omega) (by omega) (by rw [Int.toNat_natCast]; exact refs_get hm) ?_
    repeat' walk_at "go"
    refine fst_on hA' W (by assumption) (hR _ (List.getElem_mem hm)) ?_ (by omega)
    intro _ _ _
    repeat' walk_at "go"
    · have hX : X < R[mid].b := by assumption
      refine (hQ1 _ ?_).1
      refine' ⟨mid - lo, by omega, lo, mid, _, _, _, rfl, by omega, by omega, hlo, fun i h1 h2 => ?hi, ?ma, ?mx, ?mk, ?ml, ?mh, ?on⟩
      case on => assumption
      case ma => exact ma
      case mx => exact mx
      case mk => exact mk
      case ml => exact ml
      case mh => exact congrArg (fun k : Int => some (Value.int k _)) e
      case hi =>
        rcases Nat.eq_or_lt_of_le h2 with q | q
        · subst q; exact hX
        · exact Int.lt_of_lt_of_le hX (hs _ _ q h1)
    · have hX : R[mid].b ≤ X := by omega
      refine (hQ1 _ ?_).1
      refine' ⟨hi - (mid + 1), by omega, mid + 1, hi, _, _, _, rfl, by omega, by omega, fun i h1 h2 => ?lo, hhi, ?ma, ?mx, ?mk, ?ml, ?mh, ?on⟩
      case on => assumption
      case ma => exact ma
      case mx => exact mx
      case mk => exact mk
      case ml => exact congrArg (fun k : Int => some (Value.int (k + 1) _)) e
      case mh => exact mh
      case lo =>
        rcases Nat.eq_or_lt_of_le (Nat.le_of_lt_succ h2) with q | q
        · subst q; exact hX
        · exact Int.le_trans (hs _ _ q hm) hX
  · have he : lo = hi := by omega
    repeat' walk_at "go"
    subst he
    exact h _ lo _ (On.keepsOf (by assumption)) hhn hlo hhi
end
end
/-! ### L3 -/
section
open PySem PySem.Calls PySem.W PyProof.Rows
set_option maxRecDepth 4000
section
variable {prog : Program} {w : World} {A : Around} {s₀ : Shared} {h₀ g : Heap} {L : Addr} {m : Str → Option Value} {mu mu' : List (Addr × Ent)} {s : Shared} {env : Env} {mg mb : Str → Option Value} {pos : Pos}
theorem mapSeq_list (xs ys : List Value) (n : Nat) (f : Array Value → Array Value) (e : f xs.toArray = ys.toArray) : ∃ k, Obj.mapSeq f (listO xs n) = listO ys k := by
  refine ⟨(if ((f xs.toArray).size == xs.toArray.size) = true then n else n + 1), ?_⟩
  exact congrArg (fun z => ({ cls := .type "list", data := .seq z (if ((f xs.toArray).size == xs.toArray.size) = true then n else n + 1) } : Obj)) e
theorem On.edit {D : Addr} {xs ys : List Value} {f : Array Value → Array Value} (I : On s₀ h₀ g L m mu s) (P : Put D (.list xs) (.list ys) mu mu') (e : f xs.toArray = ys.toArray) (tk : Nat) :
    On s₀ h₀ g L m mu' { s with heap := s.heap.update D (Obj.mapSeq f), toks := tk } := by
  obtain ⟨n, hl⟩ := I.mus _ P.mem
  obtain ⟨k, e1⟩ := mapSeq_list xs ys n f e
  refine I.put P ⟨k, ?_⟩ fun b o nb q => ((Heap.SameBut.update ..).2 b nb).trans q
  exact (Heap.get?_update_self _ hl (by rw [e1]; rfl)).trans (by rw [e1])
theorem r_append {D : Addr} {xs : List Value} {v : Value} {Q : Value → Shared → Prop} (I : On s₀ h₀ g L m mu s) (P : Put D (.list xs) (.list (xs ++ [v])) mu mu') (hz : xs.length ≤ 100000)
    (h : ∀ s', On s₀ h₀ g L m mu' s' → Q .none s') : WP (model prog w) A (call (.builtin "list.append") [.ref D, v]) Q No s := by
  simp only [WP_eq]
  obtain ⟨n, hl⟩ := I.mus _ P.mem
  refine wpAny_call_entry slot_list_append ⟨_, hl, rfl⟩ entry_list_append ?_ (args_list_append _ _)
  show wpAny _ _ (updateSeq D (·.push v) >>= fun _ => ret .none) _ _ s
  refine wpAny_bind ?_
  have ea : xs.toArray.push v = (xs ++ [v]).toArray := List.push_toArray ..
  have hs : xs.toArray.size ≤ sizeLine := by rw [List.size_toArray, sizeLine_eq]; omega
  refine wpAny_updateSeq hl rfl (wpAny_pure ⟨.none, rfl, h _ (I.edit (f := fun x => x.push v) P ea s.toks)⟩) hs (by rw [Array.size_push]; omega)
def insAt (xs : List Value) (p : Nat) (v : Value) : List Value := xs.take p ++ v :: xs.drop p
theorem insAt_arr (xs : List Value) (p : Nat) (v : Value) : ((xs.toArray.extract 0 p).push v ++ xs.toArray.extract p) = (insAt xs p v).toArray := by
  apply Array.ext'
  simp [insAt]
  exact List.take_of_length_le (by simp)
theorem call_insert {D : Addr} {p : Int} {t : Tok} {v : Value} {Q : Value → Shared → Prop} (S : PySem.Spec) (G : Meets (Builtin.«list.insert» ⟨[.ref D, .int p t, v], []⟩) S) (ty : s.TypeIs (.ref D) "list") (hS : S A (wants Q No) s) :
    wpAny (model prog w) A (call (.builtin "list.insert") [.ref D, .int p t, v]) Q No s := by
  exact call_meets PySem.F.slot_list_insert ty PySem.F.entry_list_insert (PySem.F.args_list_insert_3 _ _ _) G hS
theorem call_insert2 {D : Addr} {xs : Array Value} {n : Nat} {q : Int} {t : Tok} {v : Value} {Q : Value → Shared → Prop} (hl : s.heap.get? D = some { cls := .type "list", dict := none, data := .seq xs n, slots := #[] }) (hc : ¬(!Builtin.List.listFitsIndex q) = true) (hs : xs.size ≤ sizeLine)
    (h : Q .none { s with heap := s.heap.update D (Obj.mapSeq fun xs => have k := if q < 0 then (q + ((xs.size : Nat) : Int)).toNat else min q.toNat xs.size; (xs.extract 0 k).push v ++ xs.extract k), toks := s.toks }) : wpAny (model prog w) A (call (.builtin "list.insert") [.ref D, .int q t, v]) Q No s := by
  have MM := @PySem.AutoListH.list_insert_list_int_val_1 D xs n q t v hc hs
  refine call_insert _ MM ⟨_, hl, rfl⟩ (And.intro hl h)
theorem r_insert {D : Addr} {xs : List Value} {p : Nat} {q : Int} {t : Tok} {v : Value} {Q : Value → Shared → Prop} (I : On s₀ h₀ g L m mu s) (P : Put D (.list xs) (.list (insAt xs p v)) mu mu') (hz : xs.length ≤ 100000) (hp : p ≤ xs.length) (hq : q = p)
    (h : ∀ s', On s₀ h₀ g L m mu' s' → Q .none s') : WP (model prog w) A (call (.builtin "list.insert") [.ref D, .int q t, v]) Q No s := by
  simp only [WP_eq]
  obtain ⟨n, hl⟩ := I.mus _ P.mem
  have hs : xs.toArray.size ≤ sizeLine := by rw [List.size_toArray, sizeLine_eq]; omega
  have hc : ¬(!Builtin.List.listFitsIndex q) = true := by unfold Builtin.List.listFitsIndex; simp; omega
  refine call_insert2 hl hc hs (h _ (I.edit P ?_ s.toks))
  have e : min q.toNat xs.length = p := by omega
  have e2 : ¬ q < 0 := by omega
  simp only [List.size_toArray, e, e2, if_false]
  exact insAt_arr xs p v
theorem gm_list {D : Addr} {xs : List Value} {name : Str} {id : String} {pl : Sem Bool} {Q : Value × List Value → Shared → Prop} (slot : Slot "list" name id) (hty : typeOf (.builtin id) = pure (.type "method_descriptor"))
    (hl : IsL s.heap D xs) (h : Q (.builtin id, [.ref D]) s) : WP (model prog w) A (getMethod (.ref D) name pl) Q No s := by
  simp only [WP_eq]
  exact getMethod_list_of slot hty hl.isList (by obtain ⟨n, hl⟩ := hl; exact ⟨_, hl, rfl⟩) h
theorem gm_append {D : Addr} {xs : List Value} {pl : Sem Bool} {Q : Value × List Value → Shared → Prop} (I : On s₀ h₀ g L m mu s) (hm : (D, .list xs) ∈ mu) (h : Q (.builtin "list.append", [.ref D]) s) : WP (model prog w) A (getMethod (.ref D) "append" pl) Q No s :=
  gm_list slot_list_append type_list_append (I.mus _ hm) h
theorem gm_insert {D : Addr} {xs : List Value} {pl : Sem Bool} {Q : Value × List Value → Shared → Prop} (I : On s₀ h₀ g L m mu s) (hm : (D, .list xs) ∈ mu) (h : Q (.builtin "list.insert", [.ref D]) s) : WP (model prog w) A (getMethod (.ref D) "insert" pl) Q No s :=
  gm_list PySem.F.slot_list_insert PySem.F.type_list_insert (I.mus _ hm) h
/-- a def's call with arguments by name -/
theorem cw_defK {a : Addr} (fd : FuncData) {e : Expr} {rest : List Expr} {kws : List Keyword} {Q : Value → Shared → Prop}
    (h : WP (model prog w) A (spliced (backTo pos (starEach (e :: rest) env))) (fun vs s₁ => WP (model prog w) A (evalAll ((backToKw pos (keywordEach kws env)).map (·.2)))
      (fun ks s₂ => FnIn s₂.heap a fd ∧ WP (model prog w) A (call (.ref a) vs (((backToKw pos (keywordEach kws env)).filterMap (·.1)).zip ks)) Q No s₂) No s₁) No s)
    (hall : (backToKw pos (keywordEach kws env)).all (·.1.isSome) = true := by rfl)
    (he : starEach (e :: rest) env = (false, eval e env) :: starEach rest env := by rfl) :
    WP (model prog w) A (callWith pos (.ref a) [] (backTo pos (starEach (e :: rest) env)) (backToKw pos (keywordEach kws env))) Q No s := by
  refine callWith_def (fd := fd) ?_
  simp only [WP_eq] at *
  exact evalArgs_kw2 hall h he
theorem kwN {p : Pos} {Q : List Value → Shared → Prop} (h : Q [] s) : WP (model prog w) A (evalAll ((backToKw p (keywordEach [] env)).map (·.2))) Q No s := by
  simp only [WP_eq]; exact kwAll_nil h
theorem kwC {pos p : Pos} {name : Str} {value : Expr} {rest : List Keyword} {Q : List Value → Shared → Prop}
    (h : WP (model prog w) A (eval value env) (fun v s₁ => WP (model prog w) A (evalAll ((backToKw pos (keywordEach rest env)).map (·.2))) (fun vs s₂ => Q (v :: vs) s₂) No s₁) No s) :
    WP (model prog w) A (evalAll ((backToKw pos (keywordEach (⟨some name, value, p⟩ :: rest) env)).map (·.2))) Q No s := by
  simp only [WP_eq] at *; exact kwAll_cons h
end
/-- the four default tuples -/
structure Df (h : Heap) : Prop where
  insR : IsT h 45 [.int 0 315, .none]
  bisR : IsT h 54 [.int 0 328, .none]
  insL : IsT h 63 [.int 0 342, .none]
  bisL : IsT h 72 [.int 0 355, .none]
theorem Df.up {h h' : Heap} (d : Df h) (u : Up h h') : Df h' := ⟨d.insR.up u, d.bisR.up u, d.insL.up u, d.bisL.up u⟩
theorem bindR {s : Shared} (d : Df s.heap) {a : Addr} {X : Int} {t : Tok} : BindsTo s fBisR ⟨[.ref a, .int X t], [("key", .ref 114)]⟩ [("a", .ref a), ("x", .int X t), ("lo", .int 0 328), ("hi", .none), ("key", .ref 114)] := by
  obtain ⟨n, e⟩ := d.bisR
  exact BindsTo.of_defaults rfl e rfl rfl rfl
theorem bindR4 {s : Shared} (d : Df s.heap) {a : Addr} {X : Int} {t t0 : Tok} : BindsTo s fBisR ⟨[.ref a, .int X t, .int 0 t0, .none], [("key", .ref 114)]⟩ [("a", .ref a), ("x", .int X t), ("lo", .int 0 t0), ("hi", .none), ("key", .ref 114)] := by
  obtain ⟨n, e⟩ := d.bisR
  exact BindsTo.of_defaults rfl e rfl rfl rfl
theorem bindL {s : Shared} (d : Df s.heap) {a : Addr} {X : Int} {t : Tok} : BindsTo s fBisL ⟨[.ref a, .int X t], [("key", .ref 121)]⟩ [("a", .ref a), ("x", .int X t), ("lo", .int 0 355), ("hi", .none), ("key", .ref 121)] := by
  obtain ⟨n, e⟩ := d.bisL
  exact BindsTo.of_defaults rfl e rfl rfl rfl
theorem bindL4 {s : Shared} (d : Df s.heap) {a : Addr} {X : Int} {t t0 : Tok} : BindsTo s fBisL ⟨[.ref a, .int X t, .int 0 t0, .none], [("key", .ref 121)]⟩ [("a", .ref a), ("x", .int X t), ("lo", .int 0 t0), ("hi", .none), ("key", .ref 121)] := by
  obtain ⟨n, e⟩ := d.bisL
  exact BindsTo.of_defaults rfl e rfl rfl rfl
theorem bindIR {s : Shared} (d : Df s.heap) {a x : Addr} : BindsTo s fInsR ⟨[.ref a, .ref x], [("key", .ref 114)]⟩ [("a", .ref a), ("x", .ref x), ("lo", .int 0 315), ("hi", .none), ("key", .ref 114)] := by
  obtain ⟨n, e⟩ := d.insR
  exact BindsTo.of_defaults rfl e rfl rfl rfl
theorem bindIL {s : Shared} (d : Df s.heap) {a x : Addr} : BindsTo s fInsL ⟨[.ref a, .ref x], [("key", .ref 121)]⟩ [("a", .ref a), ("x", .ref x), ("lo", .int 0 342), ("hi", .none), ("key", .ref 121)] := by
  obtain ⟨n, e⟩ := d.insL
  exact BindsTo.of_defaults rfl e rfl rfl rfl
end
/-! ### L4 -/
local macro_rules | `(tactic| walk_at "go") => `(tactic| first
  | ((with_reducible show WP _ _ (callWith _ (Value.ref 62) [] _ []) _ _ _); refine cw_def fBisR ?_)
  | ((with_reducible show FnIn _ 62 _ ∧ _); refine ⟨FnIn.up (Wd.bisR (by assumption)) (On.keep (by assumption)), ?_⟩)
  | ((with_reducible show WP _ _ (callWith _ (Value.ref 80) [] _ []) _ _ _); refine cw_def fBisL ?_)
  | ((with_reducible show FnIn _ 80 _ ∧ _); refine ⟨FnIn.up (Wd.bisL (by assumption)) (On.keep (by assumption)), ?_⟩))
local macro_rules | `(tactic| walk_at "go") => `(tactic| first
  | ((with_reducible show WP _ _ (callWith _ (Value.ref 62) [] _ _) _ _ _); refine cw_defK fBisR ?_)
  | ((with_reducible show WP _ _ (callWith _ (Value.ref 80) [] _ _) _ _ _); refine cw_defK fBisL ?_)
  | ((with_reducible show WP _ _ (evalAll (List.map _ (backToKw _ (keywordEach (_ :: _) _)))) _ _ _); refine kwC ?_)
  | ((with_reducible show WP _ _ (evalAll (List.map _ (backToKw _ (keywordEach [] _)))) _ _ _); refine kwN ?_)
  | ((with_reducible show WP _ _ (getMethod (Value.ref _) (Str.ofString "append") _) _ _ _); refine gm_append (by assumption) (.head _) ?_))
section
open PySem PySem.Calls PySem.W PyProof.Rows
section
variable {prog : Program} {w : World} {A : Around} {s : Shared} {mg mb : Str → Option Value}
local macro_rules | `(tactic| walk_at "go") => `(tactic| ((with_reducible show WP _ _ (call (Value.builtin "len") [Value.ref _]) _ _ _); refine r_lenL (by assumption) (IsL.up (by assumption) (On.keep (by assumption))) (by assumption) ?_; intro _ _ _))
set_option maxHeartbeats 2000000 in
theorem bisL_ok {n : Nat} {a : Addr} {R : List Mt} {X : Int} {t t0 : Tok} {args : List Value} {kw : List (Str × Value)} {Q : Value → Shared → Prop} (hA : Fine n A) (W : Wd mg mb s.heap) (N : Nm mg mb)
    (hb : BindsTo s fBisL ⟨args, kw⟩ [("a", .ref a), ("x", .int X t), ("lo", .int 0 t0), ("hi", .none), ("key", .ref 121)]) (hl : IsL s.heap a (refs R)) (hz : R.length ≤ 1000) (hR : ∀ x ∈ R, x.In s.heap)
    (hs : ∀ (i j : Nat) (hi : i < j) (hj : j < R.length), R[i].e ≤ R[j].e)
    (h : ∀ s' (p : Nat) t, Keeps s s' → p ≤ R.length → (∀ (i : Nat) (hi : i < R.length), i < p → R[i].e < X) → (∀ (i : Nat) (hi : i < R.length), p ≤ i → X ≤ R[i].e) → Q (.int (p : Int) t) s') (hn : n < 890 := by omega) :
    WP (model prog w) A (call (.ref 80) args kw) Q No s := by
  refine call_pure hA W.bisL W.lim hb (fun s₁ I => ?_)
  have hA' := hA.deeper (callEnv fBisL s.heap.objs.size 80)
  have hh := hA'.h
  have hzl : (refs R).length ≤ 100000 := by unfold refs; rw [List.length_map]; omega
  have hln : (refs R).length = R.length := by unfold refs; rw [List.length_map]
  conv in dBody _ => whnf
  repeat' walk_at "go"
  refine w_whileQ (fun k s' => ∃ (lo hi : Nat) (m : Str → Option Value) (tl th : Tok), k = hi - lo ∧ lo ≤ hi ∧ hi ≤ R.length ∧ (∀ (i : Nat) (hi : i < R.length), i < lo → R[i].e < X) ∧ (∀ (i : Nat) (h : i < R.length), hi ≤ i → X ≤ R[i].e) ∧
    m "a" = some (.ref a) ∧ m "x" = some (.int X t) ∧ m "key" = some (.ref 121) ∧ m "lo" = some (.int (lo : Int) tl) ∧ m "hi" = some (.int (hi : Int) th) ∧ On s s.heap s.heap s.heap.objs.size m [] s') ?turn R.length ?start
  case start =>
    refine' ⟨0, R.length, _, _, _, by omega, Nat.zero_le _, Nat.le_refl _, fun i _ h => by omega, fun i h1 h2 => by omega, ?ma, ?mx, ?mk, ?ml, ?mh, ?on⟩
    case on => assumption
    case ma => rfl
    case mx => rfl
    case mk => rfl
    case ml => rfl
    case mh => exact congrArg (fun k : Nat => some (Value.int (k : Int) _)) hln
  rintro k s₂ ⟨lo, hi, m, tl, th, rfl, hlh, hhn, hlo, hhi, ma, mx, mk, ml, mh, J⟩ Q1 hQ1
  repeat' walk_at "go"
  · have hlt : lo < hi := by omega
    repeat' walk_at "go"
    have hm : (lo + hi) / 2 < R.length := by omega
    have e : ((lo : Int) + hi) / 2 = (((lo + hi) / 2 : Nat) : Int) := by omega
    rw [e]
    generalize hmid : (lo + hi) / 2 = mid at *
    refine r_itemL (hl.up (On.keep (by assumption))) (by omega) (by omega) (by rw [Int.toNat_natCast]; exact refs_get hm) ?_
    repeat' walk_at "go"
    refine lst_on hA' W (by assumption) (hR _ (List.getElem_mem hm)) ?_ (by omega)
    intro _ _ _
    repeat' walk_at "go"
    · have hX : R[mid].e < X := by assumption
      refine (hQ1 _ ?_).1
      refine' ⟨hi - (mid + 1), by omega, mid + 1, hi, _, _, _, rfl, by omega, by omega, fun i h1 h2 => ?lo, hhi, ?ma, ?mx, ?mk, ?ml, ?mh, ?on⟩
      case on => assumption
      case ma => exact ma
      case mx => exact mx
      case mk => exact mk
      case ml => exact congrArg (fun k : Int => some (Value.int (k + 1) _)) e
      case mh => exact mh
      case lo =>
        rcases Nat.eq_or_lt_of_le (Nat.le_of_lt_succ h2) with q | q
        · subst q; exact hX
        · exact Int.lt_of_le_of_lt (hs _ _ q hm) hX
    · have hX : X ≤ R[mid].e := by omega
      refine (hQ1 _ ?_).1
      refine' ⟨mid - lo, by omega, lo, mid, _, _, _, rfl, by omega, by omega, hlo, fun i h1 h2 => ?hi, ?ma, ?mx, ?mk, ?ml, ?mh, ?on⟩
      case on => assumption
      case ma => exact ma
      case mx => exact mx
      case mk => exact mk
      case ml => exact ml
      case mh => exact congrArg (fun k : Int => some (Value.int k _)) e
      case hi =>
        rcases Nat.eq_or_lt_of_le h2 with q | q
        · subst q; exact hX
        · exact Int.le_trans hX (hs _ _ q h1)
  · have he : lo = hi := by omega
    repeat' walk_at "go"
    subst he
    exact h _ lo _ (On.keepsOf (by assumption)) hhn hlo hhi

theorem Mt.insAt_refs {R : List Mt} {p : Nat} {x : Mt} : insAt (refs R) p (.ref x.a) = refs (R.take p ++ x :: R.drop p) := by
  simp [insAt, refs, List.map_take, List.map_drop]
/-- all but one object kept -/
def KB (D : Addr) (s s' : Shared) : Prop := ∃ h' tk, s' = { s with heap := h', toks := tk } ∧ ∀ b o, b ≠ D → s.heap.get? b = some o → h'.get? b = some o
theorem On.kb {a : Addr} {e : Ent} {s₁ : Shared} {L : Addr} {m : Str → Option Value} (J : On s (hideAll s.heap [a]) (hideAll s.heap [a]) L m [(a, e)] s₁) : KB a s s₁ := by
  obtain ⟨h1, g1, d1, t1, o1⟩ := s₁
  have e1 := J.gens; have e2 := J.drawn; have e3 := J.os
  simp only at e1 e2 e3; subst e1 e2 e3
  exact ⟨h1, t1, rfl, fun b o nb q => J.keep b o (hideAll_get _ q (by simpa using nb))⟩
theorem hide_up (h : Heap) (l : List Addr) : Up (hideAll h l) h := fun _ _ e => of_hideAll _ e
theorem On.hide1 {s₀ : Shared} {h₀ g : Heap} {L : Addr} {m : Str → Option Value} {mu : List (Addr × Ent)} {a : Addr} {e : Ent} (I : On s₀ h₀ g L m mu s) (hm : (a, e) ∈ mu) : Up g (hideAll s.heap [a]) := fun b o q => by
  refine hideAll_get _ (I.keep b o q) ?_
  intro hb
  have : b = a := by simpa using hb
  subst this
  rw [I.off _ hm] at q; cases q
theorem w_expr {e : Expr} {env : Env} {p : Pos} {w : World} {Q : Flow → Shared → Prop} (h : WP (model prog w) A (eval e env) (fun v s' => match v with | .ref _ => False | _ => Q .next s') No s) (hi : interactive env = false := by rfl) (hs : swapsWith e none p.line env = pure false := by rfl) : WP (model prog w) A (exec (.Expr e p) env) Q No s := by
  simp only [WP_eq] at *; exact wpAny_Expr h hi hs
local macro_rules | `(tactic| walk_at "go") => `(tactic| ((with_reducible show WP _ _ (exec (Stmt.Expr _ _) _) _ _ _); refine w_expr ?_))
local macro_rules | `(tactic| walk_at "go") => `(tactic| ((with_reducible show WP _ _ (getMethod (Value.ref _) (Str.ofString "insert") _) _ _ _); refine gm_insert (by assumption) (List.mem_cons_self ..) ?_))
local macro_rules | `(tactic| walk_at "go") => `(tactic| ((with_reducible show WP _ _ (call (Value.builtin "list.insert") _) _ _ _); refine r_insert (by assumption) .head (by assumption) (by assumption) rfl ?_; intro _ _))

set_option maxHeartbeats 2000000 in
theorem insR_ok {n : Nat} {a : Addr} {R : List Mt} {x : Mt} {Q : Value → Shared → Prop} (hA : Fine n A) (W : Wd mg mb (hideAll s.heap [a])) (N : Nm mg mb) (D : Df (hideAll s.heap [a]))
    (hl : IsL s.heap a (refs R)) (hz : R.length ≤ 1000) (hR : ∀ x ∈ R, x.In (hideAll s.heap [a])) (hx : x.In (hideAll s.heap [a]))
    (hs : ∀ (i j : Nat) (hi : i < j) (hj : j < R.length), R[i].b ≤ R[j].b)
    (h : ∀ s' (p : Nat), KB a s s' → IsL s'.heap a (refs (R.take p ++ x :: R.drop p)) → p ≤ R.length → (∀ (i : Nat) (hi : i < R.length), i < p → R[i].b ≤ x.b) → (∀ (i : Nat) (hi : i < R.length), p ≤ i → x.b < R[i].b) → Q .none s') (hn : n < 880 := by omega) :
    WP (model prog w) A (call (.ref 53) [.ref a, .ref x.a] [("key", .ref 114)]) Q No s := by
  refine call_def [(a, .list (refs R))] hA (W.insR.up (hide_up _ _)) (W.lim.keeps (hide_up _ _)) (bindIR (D.up (hide_up _ _))) (by intro p hp; simp only [List.mem_singleton] at hp; subst hp; exact hl) (by simp) (fun s₁ I => ?_)
  simp only [List.map_cons, List.map_nil] at I
  have hA' := hA.deeper (callEnv fInsR s.heap.objs.size 53)
  have hh := hA'.h
  have hln : (refs R).length = R.length := by unfold refs; rw [List.length_map]
  have hzl : (refs R).length ≤ 100000 := by omega
  conv in dBody _ => whnf
  repeat' walk_at "go"
  refine fst_on hA' W (by assumption) hx ?_ (by omega)
  intro _ _ _
  repeat' walk_at "go"
  have J := (by assumption : On _ _ _ _ _ [(a, .list (refs R))] _)
  refine bisR_ok hA' (W.up J.keep) N (bindR4 (D.up J.keep)) (J.mus _ (List.mem_cons_self ..)) hz (fun x q => (hR x q).up J.keep) hs ?_
  intro s' p t K hp h1 h2
  have J := J.keeps K
  have hp' : p ≤ (refs R).length := by omega
  repeat' walk_at "go"
  have J := (by assumption : On _ _ _ _ _ [(a, .list (insAt (refs R) p (.ref x.a)))] _)
  exact h _ p J.kb (Mt.insAt_refs ▸ J.mus _ (List.mem_cons_self ..)) hp h1 h2

set_option maxHeartbeats 2000000 in
theorem insL_ok {n : Nat} {a : Addr} {R : List Mt} {x : Mt} {Q : Value → Shared → Prop} (hA : Fine n A) (W : Wd mg mb (hideAll s.heap [a])) (N : Nm mg mb) (D : Df (hideAll s.heap [a]))
    (hl : IsL s.heap a (refs R)) (hz : R.length ≤ 1000) (hR : ∀ x ∈ R, x.In (hideAll s.heap [a])) (hx : x.In (hideAll s.heap [a]))
    (hs : ∀ (i j : Nat) (hi : i < j) (hj : j < R.length), R[i].e ≤ R[j].e)
    (h : ∀ s' (p : Nat), KB a s s' → IsL s'.heap a (refs (R.take p ++ x :: R.drop p)) → p ≤ R.length → (∀ (i : Nat) (hi : i < R.length), i < p → R[i].e < x.e) → (∀ (i : Nat) (hi : i < R.length), p ≤ i → x.e ≤ R[i].e) → Q .none s') (hn : n < 880 := by omega) :
    WP (model prog w) A (call (.ref 71) [.ref a, .ref x.a] [("key", .ref 121)]) Q No s := by
  refine call_def [(a, .list (refs R))] hA (W.insL.up (hide_up _ _)) (W.lim.keeps (hide_up _ _)) (bindIL (D.up (hide_up _ _))) (by intro p hp; simp only [List.mem_singleton] at hp; subst hp; exact hl) (by simp) (fun s₁ I => ?_)
  simp only [List.map_cons, List.map_nil] at I
  have hA' := hA.deeper (callEnv fInsL s.heap.objs.size 71)
  have hh := hA'.h
  have hln : (refs R).length = R.length := by unfold refs; rw [List.length_map]
  have hzl : (refs R).length ≤ 100000 := by omega
  conv in dBody _ => whnf
  repeat' walk_at "go"
  refine lst_on hA' W (by assumption) hx ?_ (by omega)
  intro _ _ _
  repeat' walk_at "go"
  have J := (by assumption : On _ _ _ _ _ [(a, .list (refs R))] _)
  refine bisL_ok hA' (W.up J.keep) N (bindL4 (D.up J.keep)) (J.mus _ (List.mem_cons_self ..)) hz (fun x q => (hR x q).up J.keep) hs ?_
  intro s' p t K hp h1 h2
  have J := J.keeps K
  have hp' : p ≤ (refs R).length := by omega
  repeat' walk_at "go"
  have J := (by assumption : On _ _ _ _ _ [(a, .list (insAt (refs R) p (.ref x.a)))] _)
  exact h _ p J.kb (Mt.insAt_refs ▸ J.mus _ (List.mem_cons_self ..)) hp h1 h2
end
end
/-! ### C2 -/
section
open PySem PySem.Calls PySem.W PyProof.Rows
section
variable {prog : Program} {w : World} {A : Around} {s₀ s₁ : Shared} {h₀ g : Heap} {L C D : Addr} {m : Str → Option Value} {mu : List (Addr × Ent)} {s : Shared} {env : Env} {pos : Pos}
/-- what a comprehension goes over -/
def Src (prog : Program) (w : World) (A : Around) (s₁ : Shared) (x : Value) (n : Nat) (val : Nat → Value → Prop) : Prop :=
  ∃ (oI : Obj) (It : Nat → Ent), oI.isFreed = false ∧
    (∀ (Q : Value → Shared → Prop) (E : Value → Shared → Prop), Q (.ref s₁.heap.objs.size) { s₁ with heap := s₁.heap.push oI } → wpAny (model prog w) A (pyIter x) Q E s₁) ∧
    (∀ (h : Heap) (a : Addr), h.get? a = some oI → (It 0).at h a) ∧ (∀ L, Iter prog w A s₁ s₁.heap L s₁.heap s₁.heap.objs.size It n val) ∧
    (∀ (s : Shared) (a : Addr) (Q E : Value → Shared → Prop), (It 0).at s.heap a → Q (.ref a) s → wpAny (model prog w) A (pyIter (.ref a)) Q E s)
theorem Src.list {ax : Addr} {vs : List Value} (hh : A.handled = none) (hl : IsL s₁.heap ax vs) : Src prog w A s₁ (.ref ax) vs.length (fun i v => vs[i]? = some v) :=
  ⟨_, fun i => .liter ax i, rfl, fun Q E h => wpAny_pyIter_list hl.isList h, fun h a e => ⟨_, e, rfl, rfl⟩, fun L => Iter.list hh hl, fun s a Q E i h => wpAny_pyIter_listiter i h⟩
theorem Src.range {r : Addr} {n : Nat} {b : Int} {t u v : Tok} (hh : A.handled = none) (hr : IsRange s₁.heap r 0 b 1 t u v) (hs : Builtin.Range.small 0 b 1 = true) (hn : Builtin.Range.rangeSize 0 b 1 = n) :
    Src prog w A s₁ (.ref r) n (fun i v => ∃ t, v = .int (i : Int) t) := by
  refine ⟨_, fun i => .riter (0 + i * 1) ((n : Int) - i) 1, rfl, fun Q E h => wpAny_pyIter_range hr hs h, fun h a e => ?_, fun L => ?_, fun s a Q E i h => wpAny_pyIter_rangeiter i h⟩
  · have e0 : (0 : Int) + ((0 : Nat) : Int) * 1 = 0 := rfl
    have e1 : (n : Int) - ((0 : Nat) : Int) = Builtin.Range.rangeSize 0 b 1 := by omega
    show IsRangeIter h a _ _ _
    rw [e0, e1]; exact e
  · have W : Iter prog w A s₁ s₁.heap L s₁.heap s₁.heap.objs.size (fun i => .riter (0 + i * 1) ((n : Int) - i) 1) n (fun i v => ∃ t, v = .int (0 + i * 1) t) := Iter.range hh
    have e : (fun (i : Nat) v => ∃ t, v = Value.int (0 + (i : Int) * 1) t) = fun (i : Nat) v => ∃ t, v = .int (i : Int) t := by
      funext i v; rw [show (0 + (i : Int) * 1) = i by omega]
    rw [e] at W; exact W
/-- a comprehension's tests -/
def tst (ifs : List Expr) (env : Env) : Sem Bool := forIn ifs true fun c r => if r = true then do let ok ← isTrue c env (eval c env); pure (ForInStep.yield ok) else pure (ForInStep.yield r)
theorem tst_nil {Q : Bool → Shared → Prop} (h : Q true s) : WP (model prog w) A (tst [] env) Q No s := by
  simp only [WP_eq]; exact wpAny_pure h
theorem tst_one {c : Expr} {Q : Bool → Shared → Prop} (h : WP (model prog w) A (isTrue c env (eval c env)) Q No s) : WP (model prog w) A (tst [c] env) Q No s := by
  simp only [WP_eq] at *
  unfold tst
  rw [List.forIn_cons]
  simp only [if_true]
  refine wpAny_bind (wpAny_bind (wpAny_mono h (fun ok s' q => wpAny_pure ?_) fun _ _ x => x))
  show wpAny (model prog w) A (forIn [] ok _) Q No s'
  rw [List.forIn_nil]; exact wpAny_pure q

/-- the entries of the cells that a scope lays -/
def cellMu (n : Nat) : List (Str × NameKind) → List (Addr × Ent) → List (Addr × Ent)
  | [], mu => mu
  | (_, k) :: r, mu => if k == .cell then cellMu (n + 1) r ((n, .cell none) :: mu) else cellMu n r mu
theorem On.pushCells : ∀ (names : List (Str × NameKind)) {mu : List (Addr × Ent)} {s : Shared}, On s₀ h₀ g L m mu s → On s₀ h₀ g L m (cellMu s.heap.objs.size names mu) { s with heap := PySem.pushCells s.heap names }
  | [], _, _, I => I
  | (x, k) :: r, mu, s, I => by
    unfold PySem.pushCells cellMu
    split
    · have J := I.pushMu { cls := .type "cell", data := .cell none } (.cell none) rfl fun h e => ⟨_, e, rfl⟩
      have K := On.pushCells r J
      have e : (s.heap.push { cls := .type "cell", data := .cell none }).objs.size = s.heap.objs.size + 1 := Heap.size_push ..
      simp only [e] at K
      exact K
    · exact On.pushCells r I
/-- the environment of a comprehension -/
def cEnv (scope : Scope) (cl : List (Str × Addr)) (C : Addr) (env : Env) : Env :=
  { scope := relabel scope env, locals := C, globals := env.globals, cells := cellsFrom (C + 1) scope.names cl, qual := env.qual, func := none, code := env.code, frame := env.frame, builtins := env.builtins }

theorem cellMu_app : ∀ (names : List (Str × NameKind)) (n : Nat) (a mu : List (Addr × Ent)), cellMu n names (a ++ mu) = cellMu n names a ++ mu
  | [], _, _, _ => rfl
  | (x, k) :: r, n, a, mu => by
    unfold cellMu
    split
    · exact cellMu_app r (n + 1) ((n, .cell none) :: a) mu
    · exact cellMu_app r n a mu
theorem cellMu_eq (names : List (Str × NameKind)) (n : Nat) (mu : List (Addr × Ent)) : cellMu n names mu = cellMu n names [] ++ mu := cellMu_app names n [] mu
theorem On.perm {mu' : List (Addr × Ent)} (I : On s₀ h₀ g L m mu s) (p : mu.Perm mu') : On s₀ h₀ g L m mu' s :=
  ⟨I.ns, I.keep, I.org, fun q hq => I.mus q (p.mem_iff.mpr hq), I.offL, fun q hq => I.off q (p.mem_iff.mpr hq), ((p.map _).cons L).nodup_iff.mp I.apart, I.gens, I.drawn, I.os⟩
theorem comp_testsT {R : Result → Shared → Prop} {elt target iter : Expr} {ifs : List Expr} {scope : Scope} {it acc : Value} (I : Nat → Shared → Prop)
    (turn : ∀ n s, I n s → wpAny (model prog w) A (pyNext it) (fun r s₁ => match r with
      | none => R (.ok .next) s₁
      | some v => wpAny (model prog w) A (letOwnedTupleGo target it v) (fun _ s₁ => wpAny (model prog w) A (assign target env v) (fun _ s₂ =>
          wpAny (model prog w) A (tst ifs env) (fun ok s₃ =>
            if ok = true then wpAny (model prog w) A (eval elt env) (fun x s₄ =>
              wpAny (model prog w) A (call (.builtin "list.append") [acc, x]) (fun _ s₅ => ∃ m, m < n ∧ I m s₅) No s₄) No s₃
            else ∃ m, m < n ∧ I m s₃) No s₂) No s₁) No s₁) No s)
    (n : Nat) (h : I n s) : codeAny (model prog w) A (.compLoop (.ListComp elt [⟨target, iter, ifs, 0⟩] scope pos) 0 it acc env) R s := by
  refine codeAny_loop rfl I (fun n s hI => ?_) n h
  show wpAny _ A ((compTurn (.ListComp elt [⟨target, iter, ifs, 0⟩] scope pos) 0 it acc env).onRaise (fun x => do noteFrame x env; theTreesLotGoes x)) _ _ s
  refine wpAny_noted ?_
  rw [compTurn_list]
  refine wpAny_bind (wpAny_standAt (wpAny_bind (wpAny_mono (turn n s hI) (fun r s₁ h₁ => ?_) fun _ _ x => x.elim)))
  cases r with
  | none => exact wpAny_pure h₁
  | some v =>
    refine wpAny_bind (wpAny_mono h₁ (fun _ s₁ h₁ => ?_) fun _ _ x => x.elim)
    refine wpAny_bind (wpAny_mono h₁ (fun _ s₂ h₂ => wpAny_bind (wpAny_mono h₂ (fun ok s₃ h₃ => ?_) fun _ _ x => x.elim)) fun _ _ x => x.elim)
    cases ok with
    | false => exact wpAny_pure ⟨rfl, h₃⟩
    | true =>
      exact wpAny_bind (wpAny_bind (wpAny_mono h₃ (fun x s₄ h₄ => wpAny_bind (wpAny_mono h₄ (fun _ s₅ h₅ => wpAny_pure (wpAny_pure ⟨rfl, h₅⟩)) fun _ _ x => x.elim)) fun _ _ x => x.elim))
def SrcT (prog : Program) (w : World) (A : Around) (s₁ : Shared) (x : Value) (n : Nat) (val : Nat → Value → Prop) (target : Expr) : Prop :=
  ∃ (oI : Obj) (It : Nat → Ent), oI.isFreed = false ∧
    (∀ (Q : Value → Shared → Prop) (E : Value → Shared → Prop), Q (.ref s₁.heap.objs.size) { s₁ with heap := s₁.heap.push oI } → wpAny (model prog w) A (pyIter x) Q E s₁) ∧
    (∀ (h : Heap) (a : Addr), h.get? a = some oI → (It 0).at h a) ∧ (∀ L, Iter prog w A s₁ s₁.heap L s₁.heap s₁.heap.objs.size It n val) ∧
    (∀ (s : Shared) (a : Addr) (Q E : Value → Shared → Prop), (It 0).at s.heap a → Q (.ref a) s → wpAny (model prog w) A (pyIter (.ref a)) Q E s) ∧
    (∀ (i : Nat) (s : Shared) (a : Addr) (v : Value) (Q : Unit → Shared → Prop), val i v → (It (i + 1)).at s.heap a → Q () s → wpAny (model prog w) A (letOwnedTupleGo target (.ref a) v) Q No s)
theorem SrcT.list {ax : Addr} {vs : List Value} {elts : List Expr} {k : Nat} {p : Pos} (hh : A.handled = none) (hl : IsL s₁.heap ax vs) (hv : ∀ v ∈ vs, ∃ T, v = .ref T) : SrcT prog w A s₁ (.ref ax) vs.length (fun i v => vs[i]? = some v) (.Tuple elts k p) :=
  ⟨_, fun i => .liter ax i, rfl, fun Q E h => wpAny_pyIter_list hl.isList h, fun h a e => ⟨_, e, rfl, rfl⟩, fun L => Iter.list hh hl, fun s a Q E i h => wpAny_pyIter_listiter i h, fun i s a v Q hv' ha hq => by
    obtain ⟨T, rfl⟩ := hv v (List.mem_of_getElem? hv')
    exact wpAny_letOwnedTupleGo_listiter ha hq⟩
theorem comp_loopT {elt target iter : Expr} {ifs : List Expr} {scope : Scope} {cenv : Env} {I : Addr} {It : Nat → Ent} {n : Nat} {val : Nat → Value → Prop} {R : Result → Shared → Prop}
    (P : (Str → Option Value) → List (Addr × Ent) → Prop) (Y : Nat → List Value → Prop)
    (W : Iter prog w A s₁ h₀ C g I It n val) (hn : n ≤ 1000) (hP : P m mu) (hY : Y 0 []) (O : On s₁ h₀ g C m ((I, It 0) :: (D, .list []) :: mu) s)
    (turn : ∀ i v m mu g' ys s, i < n → val i v → Up g g' → P m mu → Y i ys → ys.length ≤ i → On s₁ h₀ g' C m ((I, It (i + 1)) :: (D, .list ys) :: mu) s →
      WP (model prog w) A (assign target cenv v) (fun _ s₂ => WP (model prog w) A (tst ifs cenv) (fun ok s₃ =>
        if ok = true then WP (model prog w) A (eval elt cenv) (fun y s₄ => ∃ m' mu' g'', Up g' g'' ∧ P m' mu' ∧ Y (i + 1) (ys ++ [y]) ∧ On s₁ h₀ g'' C m' ((I, It (i + 1)) :: (D, .list ys) :: mu') s₄) No s₃
        else ∃ m' mu' g'', Up g' g'' ∧ P m' mu' ∧ Y (i + 1) ys ∧ On s₁ h₀ g'' C m' ((I, It (i + 1)) :: (D, .list ys) :: mu') s₃) No s₂) No s)
    (done : ∀ m mu g' ys s, Up g g' → P m mu → Y n ys → ys.length ≤ n → On s₁ h₀ g' C m ((D, .list ys) :: mu) s → R (.ok .next) s)
    (ht : ∀ (i : Nat) (s : Shared) (v : Value) (Q : Unit → Shared → Prop), val i v → (It (i + 1)).at s.heap I → Q () s → wpAny (model prog w) A (letOwnedTupleGo target (.ref I) v) Q No s) :
    codeAny (model prog w) A (.compLoop (.ListComp elt [⟨target, iter, ifs, 0⟩] scope pos) 0 (.ref I) (.ref D) cenv) R s := by
  refine comp_testsT (fun k s => ∃ i m mu g' ys, k = n - i ∧ i ≤ n ∧ Up g g' ∧ P m mu ∧ Y i ys ∧ ys.length ≤ i ∧ On s₁ h₀ g' C m ((I, It i) :: (D, .list ys) :: mu) s) (fun k s hk => ?_) n
    ⟨0, m, mu, g, [], rfl, Nat.zero_le _, Up.rfl, hP, hY, Nat.le_refl _, O⟩
  obtain ⟨i, m₁, mu₁, g₁, ys, rfl, hi, u, p1, y1, hl1, hO⟩ := hk
  rcases Nat.lt_or_ge i n with hlt | hge
  · have := W.item i g₁ m₁ _ s (fun r s₁' => match r with
      | none => False
      | some v => val i v ∧ On s₁ h₀ g₁ C m₁ ((I, It (i + 1)) :: (D, .list ys) :: mu₁) s₁') u hlt hO fun v s' hv hO' => ⟨hv, hO'⟩
    simp only [WP_eq] at this
    refine wpAny_mono this (fun r s₂ h₂ => ?_) fun _ _ x => x.elim
    cases r with
    | none => exact h₂.elim
    | some v =>
      have T := turn i v m₁ mu₁ g₁ ys _ hlt h₂.1 u p1 y1 hl1 h₂.2
      simp only [WP_eq] at T
      refine ht i _ _ _ h₂.1 (h₂.2.mus _ (.head _)) ?_
      refine wpAny_mono T (fun _ s₃ T => ?_) fun _ _ x => x.elim
      refine wpAny_mono T (fun ok s₄ T => ?_) fun _ _ x => x.elim
      cases ok with
      | false =>
        simp only [Bool.false_eq_true, if_false] at T ⊢
        obtain ⟨m', mu', g'', u', p', y', O'⟩ := T
        exact ⟨n - (i + 1), by omega, i + 1, m', mu', g'', ys, rfl, hlt, u.trans u', p', y', by omega, O'⟩
      | true =>
        simp only [if_true] at T ⊢
        refine wpAny_mono T (fun y s₅ T => ?_) fun _ _ x => x.elim
        obtain ⟨m', mu', g'', u', p', y', O'⟩ := T
        have T2 := r_append (prog := prog) (w := w) (A := A) (D := D) (xs := ys) (v := y) (Q := fun _ s' => On s₁ h₀ g'' C m' ((I, It (i + 1)) :: (D, .list (ys ++ [y])) :: mu') s') O' (.tail .head) (by omega) (fun s' O => O)
        simp only [WP_eq] at T2
        refine wpAny_mono T2 (fun _ s₆ O'' => ?_) fun _ _ x => x.elim
        exact ⟨n - (i + 1), by omega, i + 1, m', mu', g'', ys ++ [y], rfl, hlt, u.trans u', p', y', by rw [List.length_append]; simp; omega, O''⟩
  · have e : i = n := by omega
    subst e
    have := W.done g₁ m₁ _ s (fun r s₁' => match r with
      | none => On s₁ h₀ g₁ C m₁ ((D, .list ys) :: mu₁) s₁'
      | some v => False) u hO fun s' hO' => hO'
    simp only [WP_eq] at this
    refine wpAny_mono this (fun r s₂ h₂ => ?_) fun _ _ x => x.elim
    cases r with
    | none => exact done m₁ mu₁ g₁ ys s₂ u p1 y1 hl1 h₂
    | some v => exact h₂.elim

theorem comp_coreT {elt target iter : Expr} {ifs : List Expr} {scope : Scope} {cl : List (Str × Addr)} {x : Value} {n : Nat} {val : Nat → Value → Prop} {RR : Value → Addr → Result → Shared → Prop}
    (P : (Str → Option Value) → Addr → List (Addr × Ent) → Prop) (Y : Nat → List Value → Prop)
    (S : SrcT prog w A s₁ x n val target) (hn : n ≤ 1000) (hP : ∀ C, P (fun _ => none) C (cellMu (C + 1) scope.names [])) (hY : Y 0 [])
    (turn : ∀ C i v m mu g' J s, i < n → val i v → Up s₁.heap g' → P m C mu → On s₁ s₁.heap g' C m (mu ++ J) s →
      WP (model prog w) A (assign target (cEnv scope cl C env) v) (fun _ s₂ => WP (model prog w) A (tst ifs (cEnv scope cl C env)) (fun ok s₃ =>
        if ok = true then WP (model prog w) A (eval elt (cEnv scope cl C env)) (fun y s₄ => (∀ ys, Y i ys → Y (i + 1) (ys ++ [y])) ∧ ∃ m' mu' g'', Up g' g'' ∧ P m' C mu' ∧ On s₁ s₁.heap g'' C m' (mu' ++ J) s₄) No s₃
        else (∀ ys, Y i ys → Y (i + 1) ys) ∧ ∃ m' mu' g'', Up g' g'' ∧ P m' C mu' ∧ On s₁ s₁.heap g'' C m' (mu' ++ J) s₃) No s₂) No s)
    (done : ∀ D C ys m s, s₁.heap.get? D = none → s₁.heap.get? C = none → D ≠ C → Y n ys → s.heap.Ns C m → IsL s.heap D ys → Keeps s₁ s → RR (.ref D) C (.ok .next) s)
    (hk : scope.kind = .function)  :
    wpAny (model prog w) A (pyIter x) (fun it s₂ => wpAny (model prog w) A (newList []) (fun acc s₃ => wpAny (model prog w) A (newFunctionEnv scope env.globals cl [] env.qual none .none (some env)) (fun cenv s₄ =>
      codeAny (model prog w) A (.compStart (.ListComp elt [⟨target, iter, ifs, 0⟩] scope pos) 0 it acc { cenv with scope := relabel scope env }) (RR acc cenv.locals) s₄) No s₃) No s₂) No s₁ := by
  obtain ⟨oI, It, hf, h1, h2, h3, h4, h5⟩ := S
  refine h1 _ _ ?_
  refine wpAny_newObj_type ?_
  generalize hI : s₁.heap.objs.size = I
  have e2 : (s₁.heap.push oI).objs.size = I + 1 := by rw [Heap.size_push, hI]
  simp only [e2]
  have gI : (s₁.heap.push oI).get? I = some oI := hI ▸ Heap.get?_push_size _ hf
  have gO : ∀ b o, s₁.heap.get? b = some o → (s₁.heap.push oI).get? b = some o := fun b o e => Heap.get?_push_of_some _ e
  generalize hH : s₁.heap.push oI = H at *
  have gD : (H.push (listO [] 0)).get? (I + 1) = some (listO [] 0) := e2 ▸ Heap.get?_push_size _ rfl
  have e3 : (H.push (listO [] 0)).objs.size = I + 2 := by rw [Heap.size_push, e2]
  have gO2 : ∀ b o, H.get? b = some o → (H.push (listO [] 0)).get? b = some o := fun b o e => Heap.get?_push_of_some _ e
  show wpAny (model prog w) A (newFunctionEnv scope env.globals cl [] env.qual none .none (some env)) _ No { s₁ with heap := H.push (listO [] 0) }
  generalize hH2 : H.push (listO [] 0) = H2 at *
  have gO3 : ∀ b o, H2.get? b = some o → (H2.push { cls := .type "dict", data := .dict #[] }).get? b = some o := fun b o e => Heap.get?_push_of_some _ e
  have fr : ∀ a, I ≤ a → s₁.heap.get? a = none := fun a ha => by
    cases e : s₁.heap.get? a with
    | none => rfl
    | some o' => exact absurd (Heap.lt_size e) (Nat.not_lt.mpr (hI ▸ ha))
  have ns : (H2.push { cls := .type "dict", data := .dict #[] }).Ns (I + 2) (fun _ => none) := e3 ▸ Heap.Ns.new H2 (.type "dict")
  have O : On s₁ s₁.heap s₁.heap (I + 2) (fun _ => none) [(I, It 0), (I + 1, .list [])] { s₁ with heap := H2.push { cls := .type "dict", data := .dict #[] } } := by
    refine ⟨ns, fun b o e => gO3 _ _ (gO2 _ _ (gO _ _ e)), Up.rfl, ?_, fr _ (by omega), ?_, by simp, rfl, rfl, rfl⟩
    · intro p hp
      simp only [List.mem_cons, List.not_mem_nil, or_false] at hp
      rcases hp with rfl | rfl
      · exact h2 _ _ (gO3 _ _ (gO2 _ _ gI))
      · exact ⟨0, gO3 _ _ gD⟩
    · intro p hp
      simp only [List.mem_cons, List.not_mem_nil, or_false] at hp
      rcases hp with rfl | rfl
      · exact fr _ (Nat.le_refl _)
      · exact fr _ (by omega)
  simp only [newFunctionEnv, Option.isSome_some, if_true]
  refine wpAny_bind (wpAny_alloc ?_)
  refine wpAny_bind (wpAny_layCells _ (fun name kind cells => by cases hkc : kind == NameKind.cell <;> simp [hkc]) _ _ _ _ ?_)
  rw [List.forIn_nil]
  refine wpAny_bind (wpAny_pure (wpAny_pure ?_))
  dsimp only
  simp only [Heap.size_push, e3]
  have e5 : ({ s₁ with heap := H2.push { cls := .type "dict", data := .dict #[] } } : Shared).heap.objs.size = I + 3 := by
    show (H2.push { cls := .type "dict", data := .dict #[] }).objs.size = I + 3
    rw [Heap.size_push, e3]
  have O2 := On.pushCells scope.names O
  rw [e5, cellMu_eq] at O2
  have O3 := O2.perm (mu' := (I, It 0) :: (I + 1, .list []) :: cellMu (I + 2 + 1) scope.names []) (by
    show (cellMu (I + 3) scope.names [] ++ [(I, It 0), (I + 1, .list [])]).Perm ([(I, It 0), (I + 1, .list [])] ++ cellMu (I + 3) scope.names [])
    exact List.perm_append_comm)
  have loop : codeAny (model prog w) A (.compLoop (.ListComp elt [⟨target, iter, ifs, 0⟩] scope pos) 0 (.ref I) (.ref (I + 1)) (cEnv scope cl (I + 2) env)) (RR (.ref (I + 1)) (I + 2)) { s₁ with heap := PySem.pushCells (H2.push { cls := .type "dict", data := .dict #[] }) scope.names } := by
    refine comp_loopT (fun m mu => P m (I + 2) mu) Y (by rw [← hI]; exact h3 _) hn (hP _) hY O3 (fun i v m mu g' ys s hi hv u hp hy hl O => ?_) (fun m mu g' ys s u hp hy hl O => ?_) (fun i s v Q hv ha hq => h5 i s _ v Q hv ha hq)
    · have T := turn (I + 2) i v m mu g' [(I, It (i + 1)), (I + 1, .list ys)] s hi hv u hp (O.perm (by
        show ([(I, It (i + 1)), (I + 1, .list ys)] ++ mu).Perm (mu ++ [(I, It (i + 1)), (I + 1, .list ys)])
        exact List.perm_append_comm))
      simp only [WP_eq] at T ⊢
      refine wpAny_mono T (fun _ s₂ T => ?_) fun _ _ x => x.elim
      refine wpAny_mono T (fun ok s₃ T => ?_) fun _ _ x => x.elim
      have pm : ∀ mu' : List (Addr × Ent), (mu' ++ [(I, It (i + 1)), (I + 1, .list ys)]).Perm ((I, It (i + 1)) :: (I + 1, .list ys) :: mu') := fun mu' => by
        show (mu' ++ [(I, It (i + 1)), (I + 1, .list ys)]).Perm ([(I, It (i + 1)), (I + 1, .list ys)] ++ mu')
        exact List.perm_append_comm
      cases ok with
      | false =>
        simp only [Bool.false_eq_true, if_false] at T ⊢
        obtain ⟨hy', m', mu', g'', u', hp', O'⟩ := T
        exact ⟨m', mu', g'', u', hp', hy' _ hy, O'.perm (pm _)⟩
      | true =>
        simp only [if_true] at T ⊢
        refine wpAny_mono T (fun y s₄ T => ?_) fun _ _ x => x.elim
        obtain ⟨hy', m', mu', g'', u', hp', O'⟩ := T
        exact ⟨m', mu', g'', u', hp', hy' _ hy, O'.perm (pm _)⟩
    · have K : Keeps s₁ s := by
        obtain ⟨h1, g1, d1, t1, o1⟩ := s
        have e1 := O.gens; have e2 := O.drawn; have e3 := O.os
        simp only at e1 e2 e3; subst e1 e2 e3
        exact ⟨h1, t1, rfl, fun b o q => O.keep b o (u b o q)⟩
      exact done (I + 1) (I + 2) ys m s (fr _ (Nat.le_add_right ..)) (fr _ (Nat.le_add_right ..)) (Nat.ne_of_lt (Nat.lt_succ_self _)) hy O.ns (O.mus _ (.head _)) K
  exact codeAny_compStart_list loop (h4 _ _ _ _ (O3.mus _ (.head _)) loop)

theorem comp_core {elt target iter : Expr} {ifs : List Expr} {scope : Scope} {cl : List (Str × Addr)} {x : Value} {n : Nat} {val : Nat → Value → Prop} {RR : Value → Addr → Result → Shared → Prop}
    (P : (Str → Option Value) → Addr → List (Addr × Ent) → Prop) (Y : Nat → List Value → Prop)
    (S : Src prog w A s₁ x n val) (hn : n ≤ 1000) (hP : ∀ C, P (fun _ => none) C (cellMu (C + 1) scope.names [])) (hY : Y 0 [])
    (turn : ∀ C i v m mu g' J s, i < n → val i v → Up s₁.heap g' → P m C mu → On s₁ s₁.heap g' C m (mu ++ J) s →
      WP (model prog w) A (assign target (cEnv scope cl C env) v) (fun _ s₂ => WP (model prog w) A (tst ifs (cEnv scope cl C env)) (fun ok s₃ =>
        if ok = true then WP (model prog w) A (eval elt (cEnv scope cl C env)) (fun y s₄ => (∀ ys, Y i ys → Y (i + 1) (ys ++ [y])) ∧ ∃ m' mu' g'', Up g' g'' ∧ P m' C mu' ∧ On s₁ s₁.heap g'' C m' (mu' ++ J) s₄) No s₃
        else (∀ ys, Y i ys → Y (i + 1) ys) ∧ ∃ m' mu' g'', Up g' g'' ∧ P m' C mu' ∧ On s₁ s₁.heap g'' C m' (mu' ++ J) s₃) No s₂) No s)
    (done : ∀ D C ys m s, s₁.heap.get? D = none → s₁.heap.get? C = none → D ≠ C → Y n ys → s.heap.Ns C m → IsL s.heap D ys → Keeps s₁ s → RR (.ref D) C (.ok .next) s)
    (hk : scope.kind = .function) (ht : ∀ it v, letOwnedTupleGo target it v = pure () := by intro _ _; rfl) :
    wpAny (model prog w) A (pyIter x) (fun it s₂ => wpAny (model prog w) A (newList []) (fun acc s₃ => wpAny (model prog w) A (newFunctionEnv scope env.globals cl [] env.qual none .none (some env)) (fun cenv s₄ =>
      codeAny (model prog w) A (.compStart (.ListComp elt [⟨target, iter, ifs, 0⟩] scope pos) 0 it acc { cenv with scope := relabel scope env }) (RR acc cenv.locals) s₄) No s₃) No s₂) No s₁ := by
  obtain ⟨oI, It, h1, h2, h3, h4, h5⟩ := S
  exact comp_coreT P Y ⟨oI, It, h1, h2, h3, h4, h5, fun i s a v Q _ _ hq => by
    rw [ht]
    exact wpAny_pure hq⟩ hn hP hY turn done hk

theorem r_comp {elt target iter : Expr} {ifs : List Expr} {scope : Scope} (cl : List (Str × Addr)) {n : Nat} {val : Nat → Value → Prop} {Q : Value → Shared → Prop}
    (P : (Str → Option Value) → Addr → List (Addr × Ent) → Prop) (Y : Nat → List Value → Prop)
    (h : WP (model prog w) A (eval iter env) (fun x s₁ => Src prog w A s₁ x n val ∧
      (∀ C i v m mu g' J s, i < n → val i v → Up s₁.heap g' → P m C mu → On s₁ s₁.heap g' C m (mu ++ J) s →
        WP (model prog w) A (assign target (cEnv scope cl C env) v) (fun _ s₂ => WP (model prog w) A (tst ifs (cEnv scope cl C env)) (fun ok s₃ =>
          if ok = true then WP (model prog w) A (eval elt (cEnv scope cl C env)) (fun y s₄ => (∀ ys, Y i ys → Y (i + 1) (ys ++ [y])) ∧ ∃ m' mu' g'', Up g' g'' ∧ P m' C mu' ∧ On s₁ s₁.heap g'' C m' (mu' ++ J) s₄) No s₃
          else (∀ ys, Y i ys → Y (i + 1) ys) ∧ ∃ m' mu' g'', Up g' g'' ∧ P m' C mu' ∧ On s₁ s₁.heap g'' C m' (mu' ++ J) s₃) No s₂) No s) ∧
      (∀ D ys s, s₁.heap.get? D = none → Y n ys → IsL s.heap D ys → Keeps s₁ s → Q (.ref D) s)) No s)
    (hn : n ≤ 1000) (hP : ∀ C, P (fun _ => none) C (cellMu (C + 1) scope.names [])) (hY : Y 0 [])
    (hclos : closureFor scope env = pure cl := by rfl) (hk : scope.kind = .function := by rfl) (ht : ∀ it v, letOwnedTupleGo target it v = pure () := by intro _ _; rfl)
    (hnames : ∀ y ∈ scope.names, y.2 = .local → scope.names.lookup y.1 = some .local := by decide) (hs : ∀ x, foldedSetIterable iter env x = pure x := by intro _; rfl) :
    WP (model prog w) A (eval (.ListComp elt [⟨target, iter, ifs, 0⟩] scope pos) env) Q No s := by
  simp only [WP_eq] at *
  rw [eval_ListComp]
  refine wpAny_comprehension_free (use := none) rfl hs hclos hk hnames (wpAny_mono h (fun x s₁ h₁ => ?_) fun _ _ e => e)
  obtain ⟨S, turn, hQ⟩ := h₁
  refine comp_core (RR := fun acc C => compPost (model prog w) A No none Q acc C) P Y S hn hP hY (by simp only [WP_eq]; exact turn) ?_ hk ht
  intro D C ys m s hD hC hDC y ns hl K
  obtain ⟨h', tk, rfl, hk'⟩ := K
  refine ⟨m, ns, fun h'' hs'' => hQ D ys _ hD y ?_ ⟨h'', tk, rfl, fun b o e => hs''.extBut b o (by rintro rfl; rw [hC] at e; cases e) (hk' b o e)⟩⟩
  obtain ⟨k, hl⟩ := hl
  exact ⟨k, hs''.extBut _ _ hDC hl⟩

theorem w_asgComp {elt target iter : Expr} {ifs : List Expr} {scope : Scope} {y : Str} {py spos : Pos} (cl : List (Str × Addr)) {n : Nat} {val : Nat → Value → Prop} {Q : Flow → Shared → Prop}
    (P : (Str → Option Value) → Addr → List (Addr × Ent) → Prop) (Y : Nat → List Value → Prop)
    (h : WP (model prog w) A (eval iter env) (fun x s₁ => Src prog w A s₁ x n val ∧
      (∀ C i v m mu g' J s, i < n → val i v → Up s₁.heap g' → P m C mu → On s₁ s₁.heap g' C m (mu ++ J) s →
        WP (model prog w) A (assign target (cEnv scope cl C env) v) (fun _ s₂ => WP (model prog w) A (tst ifs (cEnv scope cl C env)) (fun ok s₃ =>
          if ok = true then WP (model prog w) A (eval elt (cEnv scope cl C env)) (fun y s₄ => (∀ ys, Y i ys → Y (i + 1) (ys ++ [y])) ∧ ∃ m' mu' g'', Up g' g'' ∧ P m' C mu' ∧ On s₁ s₁.heap g'' C m' (mu' ++ J) s₄) No s₃
          else (∀ ys, Y i ys → Y (i + 1) ys) ∧ ∃ m' mu' g'', Up g' g'' ∧ P m' C mu' ∧ On s₁ s₁.heap g'' C m' (mu' ++ J) s₃) No s₂) No s) ∧
      ∃ m mu g, On s₀ h₀ g L m mu s₁ ∧ (∀ D ys g' s, Up g g' → IsL s.heap D ys → Y n ys → On s₀ h₀ g L (upd m y (.ref D)) ((D, .list ys) :: mu) s → Q .next s)) No s)
    (hn : n ≤ 1000) (hP : ∀ C, P (fun _ => none) C (cellMu (C + 1) scope.names [])) (hY : Y 0 [])
    (hE : env.locals = L := by rfl) (hl : env.kindOf y = some .local := by rfl)
    (hp : (env.scope.kind == .class || (env.scope.kind == .module && env.locals != env.globals)) = false := by rfl)
    (hsw : swapsWith (.ListComp elt [⟨target, iter, ifs, 0⟩] scope pos) (some (.Name y py)) spos.line env = pure true := by rfl)
    (hclos : closureFor scope env = pure cl := by rfl) (hk : scope.kind = .function := by rfl) (ht : ∀ it v, letOwnedTupleGo target it v = pure () := by intro _ _; rfl)
    (hnames : ∀ y ∈ scope.names, y.2 = .local → scope.names.lookup y.1 = some .local := by decide) (hs : ∀ x, foldedSetIterable iter env x = pure x := by intro _; rfl) :
    WP (model prog w) A (exec (.Assign [.Name y py] (.ListComp elt [⟨target, iter, ifs, 0⟩] scope pos) spos) env) Q No s := by
  simp only [WP_eq] at *
  rw [exec_Assign_Name_used _ _ _ _ hsw]
  refine wpAny_bind (wpAny_standAt (wpAny_bind ?_))
  show wpAny _ A (do let _ ← comprehension (.ListComp elt [⟨target, iter, ifs, 0⟩] scope pos) scope env _ (newList []) false (eval iter env) (some (assign (.Name y py) env))) _ _ s
  refine wpAny_bind (wpAny_mono (wpAny_comprehension_free (use := some (assign (.Name y py) env)) (Q := fun _ s' => Q .next s') rfl hs hclos hk hnames
    (wpAny_mono h (fun x s₁ h₁ => ?_) fun _ _ e => e)) (fun _ s' hq => wpAny_pure (wpAny_pure hq)) fun _ _ e => e)
  obtain ⟨S, turn, m, mu, g, O, hQ⟩ := h₁
  refine comp_core (RR := fun acc C => compPost (model prog w) A No (some (assign (.Name y py) env)) (fun _ s' => Q .next s') acc C) P Y S hn hP hY (by simp only [WP_eq]; exact turn) ?_ hk ht
  intro D C ys mc s hD hC hDC yy ns hlD K
  have live : ∀ b ∈ L :: mu.map (·.1), ∃ o, s₁.heap.get? b = some o := fun b hb => by
    rcases List.mem_cons.mp hb with rfl | hb
    · obtain ⟨o, _, _, ho, _⟩ := O.ns; exact ⟨o, ho⟩
    · obtain ⟨p, hp', rfl⟩ := List.mem_map.mp hb; exact (O.mus p hp').there
  have off : ∀ b, s₁.heap.get? b = none → g.get? b = none ∧ ∀ x ∈ L :: mu.map (·.1), x ≠ b := fun b hb => by
    refine ⟨?_, fun x hx e => ?_⟩
    · cases e : g.get? b with
      | none => rfl
      | some o => rw [O.keep _ _ e] at hb; cases hb
    · obtain ⟨o, ho⟩ := live x hx
      rw [e, hb] at ho; cases ho
  have O' : On s₀ h₀ g L m ((D, .list ys) :: mu) s := by
    have J := O.keeps K
    refine ⟨J.ns, J.keep, J.org, ?_, J.offL, ?_, ?_, J.gens, J.drawn, J.os⟩
    · intro p hp'
      rcases List.mem_cons.mp hp' with rfl | hp'
      · exact hlD
      · exact J.mus p hp'
    · intro p hp'
      rcases List.mem_cons.mp hp' with rfl | hp'
      · exact (off _ hD).1
      · exact J.off p hp'
    · rw [List.map_cons, List.nodup_cons, List.nodup_cons]
      have hap := List.nodup_cons.mp J.apart
      exact ⟨fun q => (List.mem_cons.mp q).elim (fun e => (off _ hD).2 L (.head _) e) hap.1, fun q => (off _ hD).2 _ (.tail _ q) rfl, hap.2⟩
  have hLC : L ≠ C := (off _ hC).2 L (.head _)
  subst hE
  show wpAny _ A (assign (.Name y py) env (.ref D)) _ _ _
  refine wpAny_assign_Name (wpAny_storeName_local hl O'.ns (fun h₂ hn₂ hs₂ => ?_) hp)
  have O2 := O'.store (tk := s.toks + 1) hn₂ hs₂
  refine ⟨mc, ns.at' fun o e => hs₂.extBut _ _ (Ne.symm hLC) e, fun h' hs' => ?_⟩
  have hsb : ∀ b o, b ≠ C → h₂.get? b = some o → h'.get? b = some o := fun b o nb e => hs'.extBut b o nb e
  have O3 : On s₀ h₀ g env.locals (upd m y (.ref D)) ((D, .list ys) :: mu) { s with heap := h', toks := s.toks + 1 } := by
    refine ⟨O2.ns.at' fun o e => hsb _ _ hLC e, fun b o e => hsb b o (fun q => by rw [q, (off _ hC).1] at e; cases e) (O2.keep b o e), O2.org, fun p hp' => ?_, O2.offL, O2.off, O2.apart, O2.gens, O2.drawn, O2.os⟩
    refine (O2.mus p hp').to fun o e => hsb _ o ?_ e
    rcases List.mem_cons.mp hp' with rfl | hp'
    · exact hDC
    · exact (off _ hC).2 _ (.tail _ (List.mem_map_of_mem hp'))
  exact hQ D ys g _ Up.rfl (O3.mus _ (.head _)) yy O3
end
end
/-! ### C3 -/
section
open PySem PySem.Calls PySem.W PyProof.Rows
section
variable {prog : Program} {w : World} {A : Around} {s₀ s₁ : Shared} {h₀ g : Heap} {L C D c : Addr} {m : Str → Option Value} {mu mu' : List (Addr × Ent)} {s : Shared} {env : Env} {pos : Pos}
theorem r_cell {x : Str} {v : Value} {Q : Value → Shared → Prop} (I : On s₀ h₀ g L m mu s) (hm : (c, .cell (some v)) ∈ mu) (hc : env.cells.lookup x = some c) (h : Q v s)
    (hk : env.scope.kind = .function := by rfl) (hl : env.kindOf x = some .cell := by rfl) (hd : (x == ("__debug__" : Str)) = false := by decide) : WP (model prog w) A (eval (.Name x pos) env) Q No s := by
  simp only [WP_eq] at *
  exact wpAny_Name (wpAny_loadName_cell hk hl hc (I.mus _ hm) h) hd
theorem r_cellG {x : Str} {v : Value} {Q : Value → Shared → Prop} (I : On s₀ h₀ g L m mu s) (hm : (Ent.cell (some v)).at g c) (hc : env.cells.lookup x = some c) (h : Q v s)
    (hk : env.scope.kind = .function := by rfl) (hl : env.kindOf x = some .cell := by rfl) (hd : (x == ("__debug__" : Str)) = false := by decide) : WP (model prog w) A (eval (.Name x pos) env) Q No s := by
  simp only [WP_eq] at *
  exact wpAny_Name (wpAny_loadName_cell hk hl hc (hm.to fun o e => I.keep _ o e) h) hd
theorem r_storeC {x : Str} {v : Value} {v0 : Option Value} {Q : Unit → Shared → Prop} (I : On s₀ h₀ g L m mu s) (P : Put c (.cell v0) (.cell (some v)) mu mu') (hc : env.cells.lookup x = some c)
    (h : ∀ s', On s₀ h₀ g L m mu' s' → Q () s') (hk : env.scope.kind = .function := by rfl) (hl : env.kindOf x = some .cell := by rfl) : WP (model prog w) A (storeName env x v) Q No s := by
  simp only [WP_eq] at *
  refine wpAny_storeName_cell hk hl hc (I.mus _ P.mem) (fun h' hc' hs => h _ ?_)
  exact I.put (tk := s.toks) P hc' fun b o nb e => hs.extBut b o nb e

/-- a loop by what holds between the turns; any target -/
def ForAtG (prog : Program) (w : World) (A : Around) (env : Env) (target : Expr) (body : List Stmt) (Q : Flow → Shared → Prop) (it : Value) (s : Shared) : Prop :=
  codeAny (model prog w) A (.forLoop target it body [] env) (fun r s' => match r with | .ok f => Q f s' | .error _ => False) s
theorem w_forG {target : Expr} {iter : Expr} {body : List Stmt} {Q : Flow → Shared → Prop}
    (h : WP (model prog w) A (eval iter env) (fun v s₁ => WP (model prog w) A (pyIter v) (fun it s₂ => ForAtG prog w A env target body Q it s₂) No s₁) No s)
    (hs : ∀ x, foldedSetIterable iter env x = pure x := by intro _; rfl) : WP (model prog w) A (exec (.For target iter body [] pos) env) Q No s := by
  simp only [WP_eq] at *
  refine wpAny_For (wpAny_mono h (fun v s₁ h₁ => wpAny_mono h₁ (fun it s₂ h₂ => ?_) fun _ _ x => x.elim) fun _ _ x => x.elim) hs
  exact codeAny_mono h₂ fun r s' hr => by cases r with | ok f => exact hr | error e => exact hr.elim
theorem for_loopG {target : Expr} {body : List Stmt} {Q : Flow → Shared → Prop} {I : Addr} {It : Nat → Ent} {n : Nat} {val : Nat → Value → Prop} (J : Nat → (Str → Option Value) → List (Addr × Ent) → Heap → Prop)
    (W : Iter prog w A s₀ h₀ L g I It n val) (h0 : J 0 m mu g) (On₀ : On s₀ h₀ g L m ((I, It 0) :: mu) s)
    (turn : ∀ i v m mu g' s K, i < n → val i v → Up g g' → J i m mu g' → On s₀ h₀ g' L m (mu ++ K) s →
      WP (model prog w) A (assign target env v) (fun _ s₂ => WP (model prog w) A (execs body env) (fun f s' => match f with
        | .next | .cont => ∃ m' mu' g'', Up g' g'' ∧ J (i + 1) m' mu' g'' ∧ On s₀ h₀ g'' L m' (mu' ++ K) s'
        | .brk => Q .next s'
        | .ret v => Q (.ret v) s') No s₂) No s)
    (done : ∀ m mu g' s, Up g g' → J n m mu g' → On s₀ h₀ g' L m mu s → Q .next s)
    (ht : ∀ v, letOwnedTupleGo target (.ref I) v = pure () := by intro _; rfl) :
    ForAtG prog w A env target body Q (.ref I) s := by
  refine codeAny_forLoop (fun k s => ∃ i m mu g', k = n - i ∧ i ≤ n ∧ Up g g' ∧ J i m mu g' ∧ On s₀ h₀ g' L m ((I, It i) :: mu) s) (fun k s hk => ?_) n ⟨0, m, mu, g, rfl, Nat.zero_le _, Up.rfl, h0, On₀⟩ (ht := ht)
  obtain ⟨i, m₁, mu₁, g₁, rfl, hi, u, hJ, hO⟩ := hk
  rcases Nat.lt_or_ge i n with hlt | hge
  · have := W.item i g₁ m₁ mu₁ s (fun r s₁ => match r with
      | none => False
      | some v => val i v ∧ On s₀ h₀ g₁ L m₁ ((I, It (i + 1)) :: mu₁) s₁) u hlt hO fun v s' hv hO' => ⟨hv, hO'⟩
    simp only [WP_eq] at this
    refine wpAny_mono this (fun r s₁ h₁ => ?_) fun _ _ x => x.elim
    cases r with
    | none => exact h₁.elim
    | some v =>
      dsimp only at h₁ ⊢
      have pm : ∀ mu : List (Addr × Ent), (mu ++ [(I, It (i + 1))]).Perm ((I, It (i + 1)) :: mu) := fun mu => by
        show (mu ++ [(I, It (i + 1))]).Perm ([(I, It (i + 1))] ++ mu)
        exact List.perm_append_comm
      have T := turn i v m₁ mu₁ g₁ _ [(I, It (i + 1))] hlt h₁.1 u hJ (h₁.2.perm (pm _).symm)
      simp only [WP_eq] at T
      refine wpAny_mono T (fun _ s₂ T => ?_) fun _ _ x => x.elim
      refine wpAny_mono T (fun f s₃ h₃ => ?_) fun _ _ x => x.elim
      cases f with
      | next => obtain ⟨m', mu', g'', u', hJ', hO'⟩ := h₃; exact ⟨n - (i + 1), by omega, i + 1, m', mu', g'', rfl, hlt, u.trans u', hJ', hO'.perm (pm _)⟩
      | cont => obtain ⟨m', mu', g'', u', hJ', hO'⟩ := h₃; exact ⟨n - (i + 1), by omega, i + 1, m', mu', g'', rfl, hlt, u.trans u', hJ', hO'.perm (pm _)⟩
      | brk => exact h₃
      | ret v => exact h₃
  · have e : i = n := by omega
    subst e
    have := W.done g₁ m₁ mu₁ s (fun r s₁ => match r with
      | none => On s₀ h₀ g₁ L m₁ mu₁ s₁
      | some v => False) u hO fun s' hO' => hO'
    simp only [WP_eq] at this
    refine wpAny_mono this (fun r s₁ h₁ => ?_) fun _ _ x => x.elim
    cases r with
    | none => exact wpAny_execs_nil (done m₁ mu₁ g₁ s₁ u hJ h₁)
    | some v => exact h₁.elim
/-- the same; what is asked behind a turn is hidden -/
theorem for_loopQ {target : Expr} {body : List Stmt} {Q : Flow → Shared → Prop} {I : Addr} {It : Nat → Ent} {n : Nat} {val : Nat → Value → Prop} (J : Nat → (Str → Option Value) → List (Addr × Ent) → Heap → Prop)
    (W : Iter prog w A s₀ h₀ L g I It n val) (h0 : J 0 m mu g) (On₀ : On s₀ h₀ g L m ((I, It 0) :: mu) s)
    (turn : ∀ i v m mu g' s K, i < n → val i v → Up g g' → J i m mu g' → On s₀ h₀ g' L m (mu ++ K) s → ∀ QQ : Flow → Shared → Prop,
      (∀ s', (∃ m' mu' g'', Up g' g'' ∧ J (i + 1) m' mu' g'' ∧ On s₀ h₀ g'' L m' (mu' ++ K) s') → QQ .next s' ∧ QQ .cont s') →
      WP (model prog w) A (assign target env v) (fun _ s₂ => WP (model prog w) A (execs body env) QQ No s₂) No s)
    (done : ∀ m mu g' s, Up g g' → J n m mu g' → On s₀ h₀ g' L m mu s → Q .next s)
    (ht : ∀ v, letOwnedTupleGo target (.ref I) v = pure () := by intro _; rfl) :
    ForAtG prog w A env target body Q (.ref I) s :=
  for_loopG J W h0 On₀ (fun i v m mu g' s K h1 h2 h3 h4 h5 => turn i v m mu g' s K h1 h2 h3 h4 h5 _ fun _ h => ⟨h, h⟩) done ht
end
end
/-! ### C4 -/
section
open PySem PySem.Calls PySem.W PyProof.Rows
section
variable {prog : Program} {w : World} {A : Around} {s₀ s₁ : Shared} {h₀ g : Heap} {L C D c : Addr} {m : Str → Option Value} {mu mu' : List (Addr × Ent)} {s : Shared} {env : Env} {pos : Pos}
/-! ## slices -/
theorem r_slice {lo hi st : Option Expr} {p : Pos} {Q : Value → Shared → Prop} (h : WP (model prog w) A (evalPart lo env) (fun l s₁ => WP (model prog w) A (evalPart hi env) (fun u s₂ => WP (model prog w) A (evalPart st env) (fun t s₃ =>
      ∀ S s₄, Keeps s₃ s₄ → s₄.heap.IsSliceOf S l u t → Q (.ref S) s₄) No s₂) No s₁) No s) : WP (model prog w) A (eval (.Slice lo hi st p) env) Q No s := by
  simp only [WP_eq] at *
  show wpAny _ _ (do
    let l ← evalPart lo env
    let u ← holding [l] (evalPart hi env)
    let s ← holding [l, u] (evalPart st env)
    newFields "slice" [l, u, s]) _ _ _
  refine wpAny_bind (wpAny_mono h (fun l s₁ h => ?_) fun _ _ x => x)
  refine wpAny_bind (wpAny_holding (wpAny_mono h (fun u s₂ h => ?_) fun _ _ x => x))
  refine wpAny_bind (wpAny_holding (wpAny_mono h (fun t s₃ h => ?_) fun _ _ x => x))
  refine wpAny_newObj_type (h _ _ ⟨_, s₃.toks, rfl, fun b o e => Heap.get?_push_of_some _ e⟩ (Heap.IsSliceOf.new ..))
theorem r_part0 {Q : Value → Shared → Prop} (h : Q .none s) : WP (model prog w) A (evalPart none env) Q No s := by simp only [WP_eq]; exact wpAny_pure h
theorem r_part1 {e : Expr} {Q : Value → Shared → Prop} (h : WP (model prog w) A (eval e env) Q No s) : WP (model prog w) A (evalPart (some e) env) Q No s := h
def pick (xs : List Value) (lo hi st : Option Int) : List Value := (slicePick xs.toArray lo hi st).toList
theorem r_tailSlice {value slice : Expr} {l S : Addr} {xs : List Value} {vl vu vt : Value} {lo hi st : Option Int} {Q : Value → Shared → Prop} (I : On s₀ h₀ g L m mu s) (hl : IsL s.heap l xs) (hS : s.heap.IsSliceOf S vl vu vt)
    (pl : IsPart vl lo) (pu : IsPart vu hi) (pt : IsPart vt st) (h0 : st ≠ some 0) (hz : xs.length ≤ 100000) (h : ∀ D g' s', Up g g' → IsL g' D (pick xs lo hi st) → On s₀ h₀ g' L m mu s' → Q (.ref D) s')
    (hs : subscripted slice false (.ref l) (.ref S) = operate [.ref S, .ref l] (getItem (.ref l) (.ref S)) := by with_unfolding_all rfl) (ht : ∀ r, letTemporaryGo value (.ref l) r = pure () := by intro _; with_unfolding_all rfl) :
    WP (model prog w) A (subscriptTail value slice (.ref l) (.ref S)) Q No s := by
  simp only [WP_eq] at *
  refine subscriptTail_ops (hl.isList.typeIs) list_getitem_lookup (wpAny_getItem_list_slice hl.isList hS pl pu pt h0 ?_ (by rw [List.size_toArray, sizeLine_eq]; omega)) hs ht
  obtain ⟨g', u, e, J⟩ := I.push (listO (pick xs lo hi st) 0)
  exact h _ g' _ u ⟨0, e⟩ J
theorem r_addL {a b : Addr} {xs ys : List Value} {Q : Value → Shared → Prop} (I : On s₀ h₀ g L m mu s) (ha : IsL s.heap a xs) (hb : IsL s.heap b ys) (hz : xs.length + ys.length ≤ 100000)
    (h : ∀ D g' s', Up g g' → IsL g' D (xs ++ ys) → On s₀ h₀ g' L m mu s' → Q (.ref D) s') : WP (model prog w) A (binaryOp .Add (.ref a) (.ref b)) Q No s := by
  simp only [WP_eq] at *
  obtain ⟨n, ha⟩ := ha
  obtain ⟨k, hb⟩ := hb
  refine P.add_list ha hb ?_ (by simp only [List.size_toArray]; rw [sizeLine_eq]; omega)
  have e : xs.toArray ++ ys.toArray = (xs ++ ys).toArray := by simp
  rw [e]
  obtain ⟨g', u, e, J⟩ := I.push (listO (xs ++ ys) 0)
  exact h _ g' _ u ⟨0, e⟩ J
/-! ## comparing lists -/
theorem rcne {E : Value → Shared → Prop} {a b : Value} {k : Bool} {Q : Value → Shared → Prop} (h : SeqAt.RcNeAt A s a b k) (hq : Q (.bool k) s) : wpAny (model prog w) A (compareOp .NotEq a b) Q E s := h prog w E Q hq
theorem ints_at {xs : List Value} {ns : List Int} (h : IntsAre xs ns) {j : Nat} (h1 : j < xs.length) (h2 : j < ns.length) : ∃ t, xs[j] = .int ns[j] t := by
  obtain ⟨t, e⟩ := h.get j ns[j] (by simp [h2])
  exact ⟨t, by rw [List.getElem?_eq_getElem h1] at e; exact Option.some.inj e⟩
theorem r_eqE {a b : Addr} {xs : List Value} {n : Nat} {Q : Value → Shared → Prop} (hA : Fine n A) (ha : IsL s.heap a xs) (hb : IsL s.heap b []) (h : Q (.bool xs.isEmpty) s) (hn : n < 900 := by omega) : WP (model prog w) A (compareOp .Eq (.ref a) (.ref b)) Q No s := by
  simp only [WP_eq] at *
  cases xs with
  | nil => exact SeqAt.eq_listAt (e := fun _ => true) ha.isList hb.isList rfl (hA.units hn) (fun j h1 _ => absurd h1 (by simp)) h
  | cons x r => exact SeqAt.eq_list_lengthsAt ha.isList hb.isList (by simp) (hA.units hn) h
theorem r_neE {a b : Addr} {xs : List Value} {n : Nat} {Q : Value → Shared → Prop} (hA : Fine n A) (ha : IsL s.heap a xs) (hb : IsL s.heap b []) (h : Q (.bool (!xs.isEmpty)) s) (hn : n < 900 := by omega) : WP (model prog w) A (compareOp .NotEq (.ref a) (.ref b)) Q No s := by
  simp only [WP_eq] at *
  cases xs with
  | nil => exact rcne (SeqAt.RcNeAt.lists (e := fun _ => true) ha.isList hb.isList rfl (hA.units hn) (fun j h1 _ => absurd h1 (by simp))) h
  | cons x r => exact rcne (SeqAt.RcNeAt.lists_lengths ha.isList hb.isList (by simp) (hA.units hn)) h
theorem all_true (n : Nat) : (List.range n).all (fun _ => true) = true := by simp
theorem r_neSame {a b : Addr} {xs : List Value} {n : Nat} {Q : Value → Shared → Prop} (hA : Fine n A) (ha : IsL s.heap a xs) (hb : IsL s.heap b xs) (h : Q (.bool false) s) (hn : n < 900 := by omega) : WP (model prog w) A (compareOp .NotEq (.ref a) (.ref b)) Q No s := by
  simp only [WP_eq] at *
  refine rcne (SeqAt.RcNeAt.lists (e := fun _ => true) ha.isList hb.isList rfl (hA.units hn) (fun j h1 _ => SeqAt.EqAt.same _)) ?_
  rw [all_true]; exact h
theorem r_neInts {a b : Addr} {xs ys : List Value} {ns : List Int} {n : Nat} {Q : Value → Shared → Prop} (hA : Fine n A) (ha : IsL s.heap a xs) (hb : IsL s.heap b ys) (hx : IntsAre xs ns) (hy : IntsAre ys ns) (h : Q (.bool false) s) (hn : n < 900 := by omega) :
    WP (model prog w) A (compareOp .NotEq (.ref a) (.ref b)) Q No s := by
  simp only [WP_eq] at *
  have hl : xs.length = ys.length := hx.length.trans hy.length.symm
  refine rcne (SeqAt.RcNeAt.lists (e := fun _ => true) ha.isList hb.isList (by simpa using hl) (hA.units hn) (fun j h1 h2 => ?_)) ?_
  · have h1' : j < xs.length := by simpa using h1
    have h2' : j < ys.length := by simpa using h2
    have hn' : j < ns.length := by have := hx.length; omega
    obtain ⟨t, e⟩ : ∃ t, xs[j] = .int ns[j] t := ints_at hx h1' hn'
    obtain ⟨u, e'⟩ : ∃ t, ys[j] = .int ns[j] t := ints_at hy h2' hn'
    have := SeqAt.EqAt.int_int (A := A.in1) (s := s) ns[j] t ns[j] u
    simp only [List.getElem_toArray]
    rw [e, e']
    simpa using this
  · rw [all_true]; exact h
end
end
/-! ### C5 -/
section
open PySem PySem.Calls PySem.W PyProof.Rows
section
variable {prog : Program} {w : World} {A : Around} {s₀ s₁ : Shared} {h₀ g : Heap} {L C D c : Addr} {m : Str → Option Value} {mu mu' : List (Addr × Ent)} {s : Shared} {env : Env} {pos : Pos}
def IsR (h : Heap) (r : Addr) (n : Nat) : Prop := ∃ t u v, IsRange h r 0 (n : Int) 1 t u v
theorem IsR.up {h h' : Heap} {r : Addr} {n : Nat} (x : IsR h r n) (u : Up h h') : IsR h' r n := let ⟨t, v, z, e⟩ := x; ⟨t, v, z, u _ _ e⟩
theorem small0 {n : Nat} (h : n ≤ 100000) : Builtin.Range.small 0 (n : Int) 1 = true := small_one (by decide) (by decide) (by omega) (by omega)
theorem size0 (n : Nat) : Builtin.Range.rangeSize 0 (n : Int) 1 = n := by
  unfold Builtin.Range.rangeSize; simp only [show ((1 : Int) > 0) from by decide, if_true]; split <;> omega
theorem r_range {k : Int} {n : Nat} {t : Tok} {Q : Value → Shared → Prop} (I : On s₀ h₀ g L m mu s) (hk : k = n) (h : ∀ r g' s', Up g g' → IsR g' r n → On s₀ h₀ g' L m mu s' → Q (.ref r) s') : WP (model prog w) A (call (.type "range") [.int k t]) Q No s := by
  simp only [WP_eq]
  subst hk
  refine call_range_1 ?_
  obtain ⟨g', u, e, J⟩ := I.push { cls := .type "range", data := .fields #[.int 0 s.toks, .int (n : Int) t, .int 1 (s.toks + 1)] }
  exact h _ g' _ u ⟨_, _, _, e⟩ (J.tok _)
theorem it_rangeN {r : Addr} {n : Nat} {Q : Value → Shared → Prop} (I : On s₀ h₀ g L m mu s) (hh : A.handled = none) (hr : IsR g r n) (hn : n ≤ 100000)
    (h : ∀ I It s', Iter prog w A s₀ h₀ L g I It n (fun i v => ∃ t, v = .int (i : Int) t) → On s₀ h₀ g L m ((I, It 0) :: mu) s' → Q (.ref I) s') : WP (model prog w) A (pyIter (.ref r)) Q No s := by
  obtain ⟨t, u, v, e⟩ := hr
  refine it_range I (I.keep _ _ e) (small0 hn) fun I' s' J => ?_
  refine h I' (fun i => .riter (0 + i * 1) ((n : Int) - i) 1) s' ?_ ?_
  · have W : Iter prog w A s₀ h₀ L g I' (fun i => .riter (0 + i * 1) ((n : Int) - i) 1) n (fun i v => ∃ t, v = .int (0 + i * 1) t) := Iter.range hh
    have e : (fun (i : Nat) v => ∃ t, v = Value.int (0 + (i : Int) * 1) t) = fun (i : Nat) v => ∃ t, v = .int (i : Int) t := by
      funext i v; rw [show (0 + (i : Int) * 1) = i by omega]
    rw [e] at W; exact W
  · have e0 : (0 : Int) + ((0 : Nat) : Int) * 1 = 0 := rfl
    have e1 : (n : Int) - ((0 : Nat) : Int) = Builtin.Range.rangeSize 0 (n : Int) 1 := by rw [size0]; omega
    show On _ _ _ _ _ ((I', .riter (0 + ((0 : Nat) : Int) * 1) ((n : Int) - ((0 : Nat) : Int)) 1) :: mu) _
    rw [e0, e1]; exact J
theorem it_listN {ax : Addr} {vs : List Value} {Q : Value → Shared → Prop} (I : On s₀ h₀ g L m mu s) (hh : A.handled = none) (hl : IsL g ax vs)
    (h : ∀ I It s', Iter prog w A s₀ h₀ L g I It vs.length (fun i v => vs[i]? = some v) → On s₀ h₀ g L m ((I, It 0) :: mu) s' → Q (.ref I) s') : WP (model prog w) A (pyIter (.ref ax)) Q No s :=
  it_list I hl fun I' s' J => h I' _ s' (Iter.list hh hl) J
theorem Src.rangeN {r : Addr} {n : Nat} (hh : A.handled = none) (hr : IsR s₁.heap r n) (hn : n ≤ 100000) : Src prog w A s₁ (.ref r) n (fun i v => ∃ t, v = .int (i : Int) t) := by
  obtain ⟨t, u, v, e⟩ := hr
  exact Src.range hh e (small0 hn) (size0 n)

/-! ## lists of things -/
def Al {α : Type} (R : Addr → α → Prop) : List Addr → List α → Prop
  | [], [] => True
  | a :: as, x :: xs => R a x ∧ Al R as xs
  | _, _ => False
theorem Al.mono {α : Type} {R S : Addr → α → Prop} (h : ∀ a x, R a x → S a x) : ∀ {as : List Addr} {xs : List α}, Al R as xs → Al S as xs
  | [], [], _ => trivial
  | _ :: _, _ :: _, r => ⟨h _ _ r.1, Al.mono h r.2⟩
  | [], _ :: _, r => r.elim
  | _ :: _, [], r => r.elim
theorem Al.length {α : Type} {R : Addr → α → Prop} : ∀ {as : List Addr} {xs : List α}, Al R as xs → as.length = xs.length
  | [], [], _ => rfl
  | _ :: _, _ :: _, r => congrArg (· + 1) (Al.length r.2)
  | [], _ :: _, r => r.elim
  | _ :: _, [], r => r.elim
theorem Al.append {α : Type} {R : Addr → α → Prop} : ∀ {as bs : List Addr} {xs ys : List α}, Al R as xs → Al R bs ys → Al R (as ++ bs) (xs ++ ys)
  | [], _, [], _, _, h => h
  | _ :: _, _, _ :: _, _, r, h => ⟨r.1, Al.append r.2 h⟩
  | [], _, _ :: _, _, r, _ => r.elim
  | _ :: _, _, [], _, r, _ => r.elim
theorem Al.take {α : Type} {R : Addr → α → Prop} : ∀ (k : Nat) {as : List Addr} {xs : List α}, Al R as xs → Al R (as.take k) (xs.take k)
  | 0, _, _, _ => trivial
  | _ + 1, [], [], _ => trivial
  | k + 1, _ :: _, _ :: _, r => ⟨r.1, Al.take k r.2⟩
  | _ + 1, [], _ :: _, r => r.elim
  | _ + 1, _ :: _, [], r => r.elim
theorem Al.drop {α : Type} {R : Addr → α → Prop} : ∀ (k : Nat) {as : List Addr} {xs : List α}, Al R as xs → Al R (as.drop k) (xs.drop k)
  | 0, _, _, r => r
  | _ + 1, [], [], _ => trivial
  | k + 1, _ :: _, _ :: _, r => Al.drop k r.2
  | _ + 1, [], _ :: _, r => r.elim
  | _ + 1, _ :: _, [], r => r.elim
theorem Al.get {α : Type} {R : Addr → α → Prop} : ∀ {as : List Addr} {xs : List α} (i : Nat) (h : i < as.length) (h' : i < xs.length), Al R as xs → R as[i] xs[i]
  | _ :: _, _ :: _, 0, _, _, r => r.1
  | _ :: _, _ :: _, i + 1, h, h', r => Al.get i (Nat.lt_of_succ_lt_succ h) (Nat.lt_of_succ_lt_succ h') r.2
def rfs (as : List Addr) : List Value := as.map .ref
def nats (xs : List Nat) : List Int := xs.map fun n : Nat => (n : Int)
def Room (h : Heap) (a : Addr) (xs : List Nat) : Prop := ∃ vs, IsL h a vs ∧ IntsAre vs (nats xs)
def Rooms (h : Heap) (a : Addr) (R : List (List Nat)) : Prop := ∃ as, IsL h a (rfs as) ∧ Al (Room h) as R
theorem Room.up {h h' : Heap} {a : Addr} {xs : List Nat} (x : Room h a xs) (u : Up h h') : Room h' a xs := let ⟨v, e, i⟩ := x; ⟨v, e.up u, i⟩
theorem Rooms.up {h h' : Heap} {a : Addr} {R : List (List Nat)} (x : Rooms h a R) (u : Up h h') : Rooms h' a R := let ⟨v, e, i⟩ := x; ⟨v, e.up u, i.mono fun _ _ q => q.up u⟩
/-- the table of the meets -/
def MeetsIn (h : Heap) (a : Addr) (M : Nat → Nat → Bool) (n : Nat) : Prop := ∃ as : List Addr, as.length = n ∧ IsL h a (rfs as) ∧ ∀ (k : Nat) (hk : k < as.length), IsL h as[k] ((List.range k).map fun j => .bool (M k j))
theorem MeetsIn.up {h h' : Heap} {a : Addr} {M : Nat → Nat → Bool} {n : Nat} (x : MeetsIn h a M n) (u : Up h h') : MeetsIn h' a M n := let ⟨v, e, i, j⟩ := x; ⟨v, e, i.up u, fun k hk => (j k hk).up u⟩
/-! ## the partings, plainly -/
def fits (M : Nat → Nat → Bool) (k : Nat) (room : List Nat) : Bool := (room.filter (M k)).isEmpty
def addAt (M : Nat → Nat → Bool) (k : Nat) (R : List (List Nat)) (p : Nat) : List (List (List Nat)) :=
  if fits M k (R.getD p []) then [R.take p ++ [R.getD p [] ++ [k]] ++ R.drop (p + 1)] else []
def adds (M : Nat → Nat → Bool) (k : Nat) (R : List (List Nat)) : List (List (List Nat)) := (List.range R.length).flatMap (addAt M k R) ++ [R ++ [[k]]]
def parts (M : Nat → Nat → Bool) : Nat → List (List (List Nat))
  | 0 => [[]]
  | k + 1 => (parts M k).flatMap (adds M k)
def countOf (P : List (List (List Nat))) (c : Nat) : Nat := (P.filter fun R => R.length == c).length

theorem fPart_cells (L : Addr) : cellsFrom (L + 1) fPart.scope.names [] = [(Str.ofString "k", L + 2), (Str.ofString "meets", L + 1)] := by rfl
theorem call_part {n : Nat} {v : Value} {Q : Value → Shared → Prop} (hA : Fine n A) (F : FnIn s.heap 126 fPart) (lim : s.heap.NoLimit) (hn : n < 900 := by omega)
    (h : ∀ s₁, On s s.heap s.heap s.heap.objs.size (fun _ => none) [(s.heap.objs.size + 1, .cell (some v)), (s.heap.objs.size + 2, .cell none)] s₁ →
      WP (model prog w) (A.deeper (callEnvC fPart s.heap.objs.size 126)) (execs (dBody (stm 18)) (callEnvC fPart s.heap.objs.size 126)) (fun f s' => Q (match f with | .ret v => v | _ => .none) s') No s₁) :
    WP (model prog w) A (call (.ref 126) [v]) Q No s := by
  simp only [WP_eq] at *
  refine wpAny_call (codeAny_call_cells (binds := [("meets", v)]) (hA.room hn) F.o rfl lim F.c rfl rfl rfl (fun x hx => ?_) (fun s₁ X => ?_))
  · simp only [List.mem_singleton] at hx
    subst hx
    exact Or.inr ⟨rfl, rfl⟩
  · obtain ⟨⟨h', tk, rfl⟩, ns, kp, fr⟩ := X.toInCall
    have c1 := X.cell "meets" (s.heap.objs.size + 1) rfl
    have c2 := X.cell "k" (s.heap.objs.size + 2) rfl
    refine wpAny_mono (h _ ⟨ns, kp, Up.rfl, ?_, Heap.get?_none_of_le (Nat.le_refl _), ?_, by simp, rfl, rfl, rfl⟩) (fun _ _ x => x) fun _ _ x => x.elim
    · intro p hp
      simp only [List.mem_cons, List.not_mem_nil, or_false] at hp
      rcases hp with rfl | rfl
      · exact c1
      · exact c2
    · intro p hp
      simp only [List.mem_cons, List.not_mem_nil, or_false] at hp
      rcases hp with rfl | rfl
      · exact Heap.get?_none_of_le (Nat.le_add_right ..)
      · exact Heap.get?_none_of_le (Nat.le_add_right ..)
end
end
/-! ### C6 -/
section
open PySem PySem.Calls PySem.W PyProof.Rows
theorem parts_ok {M : Nat → Nat → Bool} : ∀ (k : Nat), ∀ R ∈ parts M k, R.length ≤ k ∧ ∀ room ∈ R, ∀ x ∈ room, x < k
  | 0, R, h => by simp only [parts, List.mem_singleton] at h; subst h; exact ⟨Nat.le_refl _, fun _ h => by cases h⟩
  | k + 1, R, h => by
    simp only [parts, List.mem_flatMap] at h
    obtain ⟨S, hS, h⟩ := h
    have ih := parts_ok k S hS
    simp only [adds, List.mem_append, List.mem_flatMap, List.mem_range, List.mem_singleton] at h
    rcases h with ⟨p, hp, h⟩ | rfl
    · unfold addAt at h
      split at h
      · simp only [List.mem_singleton] at h
        subst h
        refine ⟨by simp; omega, fun room hr x hx => ?_⟩
        simp only [List.mem_append, List.mem_singleton] at hr
        rcases hr with (hr | rfl) | hr
        · exact Nat.lt_succ_of_lt (ih.2 room (List.mem_of_mem_take hr) x hx)
        · rcases List.mem_append.mp hx with hx | hx
          · refine Nat.lt_succ_of_lt (ih.2 (S.getD p []) ?_ x hx)
            rw [List.getD_eq_getElem?_getD, List.getElem?_eq_getElem hp]
            exact List.getElem_mem hp
          · simp only [List.mem_singleton] at hx; omega
        · exact Nat.lt_succ_of_lt (ih.2 room (List.mem_of_mem_drop hr) x hx)
      · cases h
    · refine ⟨by simp; omega, fun room hr x hx => ?_⟩
      rcases List.mem_append.mp hr with hr | hr
      · exact Nat.lt_succ_of_lt (ih.2 room hr x hx)
      · simp only [List.mem_singleton] at hr
        subst hr
        simp only [List.mem_singleton] at hx; omega
theorem rf_get {as : List Addr} {i : Nat} (h : i < as.length) : (rfs as)[i]? = some (.ref as[i]) := by
  unfold rfs; rw [List.getElem?_map, List.getElem?_eq_getElem h]; rfl
theorem ints_set : ∀ {vs : List Value} {ns : List Int}, IntsAre vs ns → ∀ (j : Nat) (n : Int) (t : Tok), IntsAre (vs.set j (.int n t)) (ns.set j n)
  | _, _, .nil, _, _, _ => .nil
  | _, _, .cons a b h, 0, n, t => .cons _ _ h
  | _, _, .cons a b h, j + 1, n, t => .cons _ _ (ints_set h j n t)
theorem counts_step {P : List (List (List Nat))} {j k : Nat} (hj : j < P.length) (hl : P[j].length ≤ k) :
    nats ((List.range (k + 1)).map (countOf (P.take (j + 1)))) = (nats ((List.range (k + 1)).map (countOf (P.take j)))).set P[j].length ((countOf (P.take j) P[j].length : Nat) + 1) := by
  refine List.ext_getElem (by simp [nats]) fun i h1 h2 => ?_
  have hi : i < k + 1 := by simpa [nats] using h1
  rw [List.getElem_set]
  simp only [nats, List.getElem_map, List.getElem_range]
  have e : countOf (P.take (j + 1)) i = countOf (P.take j) i + (if P[j].length = i then 1 else 0) := by
    unfold countOf
    rw [List.take_succ_eq_append_getElem hj, List.filter_append, List.length_append]
    by_cases q : P[j].length = i <;> simp [q]
  rw [e]
  split <;> rename_i q
  · subst q; rfl
  · rfl
theorem counts0 (k : Nat) (M) (n : Nat) : nats ((List.range (k + 1)).map (countOf ((parts M n).take 0))) = List.replicate (k + 1) 0 := by
  have e : ∀ n : Nat, nats ((List.range n).map (countOf [])) = List.replicate n 0 := by
    intro n
    induction n with
    | zero => rfl
    | succ n ih => rw [List.range_succ, List.map_append, List.replicate_succ', ← ih]; simp [nats, countOf]
  exact e (k + 1)
theorem addAt_len {M : Nat → Nat → Bool} {k : Nat} {R : List (List Nat)} {p : Nat} : (addAt M k R p).length ≤ 1 := by unfold addAt; split <;> simp
theorem flatMap_le {α β : Type} {f : α → List β} {c : Nat} : ∀ {l : List α}, (∀ x ∈ l, (f x).length ≤ c) → (l.flatMap f).length ≤ l.length * c
  | [], _ => Nat.zero_le _
  | x :: l, h => by
    rw [List.flatMap_cons, List.length_append, List.length_cons, Nat.succ_mul]
    have := flatMap_le (l := l) fun y hy => h y (List.mem_cons_of_mem _ hy)
    have := h x (List.mem_cons_self ..)
    omega
theorem parts_room {M : Nat → Nat → Bool} : ∀ (k : Nat), ∀ R ∈ parts M k, ∀ room ∈ R, room.length ≤ k
  | 0, R, h, room, hr => by simp only [parts, List.mem_singleton] at h; subst h; cases hr
  | k + 1, R, h, room, hr => by
    simp only [parts, List.mem_flatMap] at h
    obtain ⟨S, hS, h⟩ := h
    have ih := parts_room k S hS
    simp only [adds, List.mem_append, List.mem_flatMap, List.mem_range, List.mem_singleton] at h
    rcases h with ⟨p, hp, h⟩ | rfl
    · unfold addAt at h
      split at h
      · simp only [List.mem_singleton] at h
        subst h
        simp only [List.mem_append, List.mem_singleton] at hr
        rcases hr with (hr | rfl) | hr
        · exact Nat.le_succ_of_le (ih room (List.mem_of_mem_take hr))
        · rw [List.length_append]
          refine Nat.succ_le_succ (ih (S.getD p []) ?_)
          rw [List.getD_eq_getElem?_getD, List.getElem?_eq_getElem hp]
          exact List.getElem_mem hp
        · exact Nat.le_succ_of_le (ih room (List.mem_of_mem_drop hr))
      · cases h
    · rcases List.mem_append.mp hr with hr | hr
      · exact Nat.le_succ_of_le (ih room hr)
      · simp only [List.mem_singleton] at hr
        subst hr
        simp
theorem adds_len {M : Nat → Nat → Bool} {k : Nat} {R : List (List Nat)} : (adds M k R).length ≤ R.length + 1 := by
  unfold adds
  rw [List.length_append]
  have := flatMap_le (f := addAt M k R) (c := 1) (l := List.range R.length) fun x _ => addAt_len
  rw [List.length_range] at this
  show _ + 1 ≤ _
  omega
def fac : Nat → Nat
  | 0 => 1
  | k + 1 => fac k * (k + 1)
theorem parts_fac {M : Nat → Nat → Bool} : ∀ k, (parts M k).length ≤ fac k
  | 0 => Nat.le_refl _
  | k + 1 => by
    have ih := parts_fac (M := M) k
    have := flatMap_le (f := adds M k) (c := k + 1) (l := parts M k) fun x hx => Nat.le_trans adds_len (Nat.succ_le_succ (parts_ok k x hx).1)
    exact Nat.le_trans this (Nat.mul_le_mul_right _ ih)
theorem fac_le : ∀ k : Fin 6, fac k.val ≤ 720 := by decide
theorem parts_len {M : Nat → Nat → Bool} (k : Nat) (h : k ≤ 5) : (parts M k).length ≤ 720 := Nat.le_trans (parts_fac k) (fac_le ⟨k, Nat.lt_succ_of_le h⟩)
theorem bound {M : Nat → Nat → Bool} {i j p : Nat} {R : List (List Nat)} (hi : i ≤ 5) (hp : p ≤ 100) : (((parts M i).take j).flatMap (adds M i) ++ (List.range p).flatMap (addAt M i R)).length ≤ 100000 := by
  have h1 := flatMap_le (f := adds M i) (c := i + 1) (l := (parts M i).take j) fun x hx => by
    have := (parts_ok i x (List.mem_of_mem_take hx)).1
    have := adds_len (M := M) (k := i) (R := x)
    omega
  have h2 := flatMap_le (f := addAt M i R) (c := 1) (l := List.range p) fun x _ => addAt_len
  have h3 := parts_len (M := M) i hi
  have h4 : ((parts M i).take j).length ≤ 720 := by rw [List.length_take]; omega
  have h5 : ((parts M i).take j).length * (i + 1) ≤ 720 * 6 := Nat.mul_le_mul h4 (by omega)
  rw [List.length_range] at h2
  rw [List.length_append]; omega
end
local macro_rules | `(tactic| walk_at "eval") => `(tactic| first
  | ((with_reducible show WP _ _ (eval (Expr.Slice _ _ _ _) _) _ _ _); refine r_slice ?_))
local macro_rules | `(tactic| walk_at "exec") => `(tactic| first
  | ((with_reducible show WP _ _ (exec (Stmt.For _ _ _ [] _) _) _ _ _); refine w_forG ?_)
  | ((with_reducible show WP _ _ (exec (Stmt.Expr _ _) _) _ _ _); refine w_expr ?_))
local macro_rules | `(tactic| walk_at "go") => `(tactic| first
  | ((with_reducible show WP _ _ (evalPart none _) _ _ _); refine r_part0 ?_)
  | ((with_reducible show WP _ _ (evalPart (some _) _) _ _ _); refine r_part1 ?_))
local macro_rules | `(tactic| walk_at "go") => `(tactic| first
  | ((with_reducible show WP _ _ (tst [_] _) _ _ _); refine tst_one ?_)
  | ((with_reducible show WP _ _ (tst [] _) _ _ _); refine tst_nil ?_))
section
open PySem PySem.Calls PySem.W PyProof.Rows
section
variable {prog : Program} {w : World} {A : Around} {s : Shared} {mg mb : Str → Option Value}
theorem IsL.on {s₀ : Shared} {h₀ g h : Heap} {L a : Addr} {m : Str → Option Value} {mu : List (Addr × Ent)} {xs : List Value} (I : On s₀ h₀ g L m mu s) (hl : IsL h a xs) (u : Up h g) : IsL s.heap a xs := hl.up (u.trans I.keep)
local macro_rules | `(tactic| walk_at "go") => `(tactic| ((with_reducible show WP _ _ (storeName _ (Str.ofString "k") _) _ _ _); refine r_storeC (by assumption) (.tail .head) rfl ?_; intro _ _))
local macro_rules | `(tactic| walk_at "go") => `(tactic| ((with_reducible show WP _ _ (eval (Expr.Name (Str.ofString "meets") _) (cEnv _ _ _ _)) _ _ _); refine r_cellG (by assumption) (by assumption) rfl ?_))
local macro_rules | `(tactic| walk_at "go") => `(tactic| ((with_reducible show WP _ _ (eval (Expr.Name (Str.ofString "k") _) (cEnv _ _ _ _)) _ _ _); refine r_cellG (by assumption) (by assumption) rfl ?_))
local macro_rules | `(tactic| walk_at "go") => `(tactic| ((with_reducible show WP _ _ (eval (Expr.Name (Str.ofString "k") _) (callEnvC _ _ _)) _ _ _); refine r_cell (by assumption) (.tail _ (.tail _ (.head _))) rfl ?_))
local macro_rules | `(tactic| walk_at "go") => `(tactic| ((with_reducible show WP _ _ (eval (Expr.Name (Str.ofString "meets") _) (callEnvC _ _ _)) _ _ _); refine r_cell (by assumption) (.head _) rfl ?_))
local macro_rules | `(tactic| walk_at "go") => `(tactic| ((with_reducible show WP _ _ (call (Value.builtin "len") [Value.ref _]) _ _ _); refine r_lenL (by assumption) (IsL.up (by assumption) (On.keep (by assumption))) (by assumption) ?_; intro _ _ _))
theorem iff_ite {b : Bool} {P Q : Prop} (h1 : b = true → P) (h2 : ¬ b = true → Q) : if b = true then P else Q := by
  cases b with
  | true => exact h1 rfl
  | false => exact h2 (by simp)
theorem slicePick_to (items : Array Value) (k : Nat) (hb : k ≤ items.size) : slicePick items none (some (k : Int)) none = (items.toList.take k).toArray := by
  have e : slicePick items none (some (k : Int)) none = slicePick items (some ((0 : Nat) : Int)) (some (k : Int)) none := by
    unfold slicePick sliceBounds
    simp
    rw [Int.min_eq_left (by omega)]; rfl
  rw [e, slicePick_run items 0 k hb (Nat.zero_le _)]; simp
theorem pick_to {xs : List Value} {k : Nat} (h : k ≤ xs.length) : pick xs none (some (k : Int)) none = xs.take k := by
  unfold pick; rw [slicePick_to _ _ (by simpa using h)]
theorem pick_from {xs : List Value} {k : Nat} (h : k ≤ xs.length) : pick xs (some (k : Int)) none none = xs.drop k := by
  unfold pick; rw [slicePick_from _ _ (by simpa using h)]
theorem On.gain {s₀ s' : Shared} {h₀ g : Heap} {L D : Addr} {m : Str → Option Value} {mu : List (Addr × Ent)} {ys : List Value} (I : On s₀ h₀ g L m mu s) (K : Keeps s s') (hD : s.heap.get? D = none) (hl : IsL s'.heap D ys) :
    ∃ g', Up g g' ∧ IsL g' D ys ∧ On s₀ h₀ g' L m mu s' := by
  obtain ⟨n, e⟩ := hl
  obtain ⟨g', u, e', J⟩ := (I.keeps K).take e (fun _ _ q => by cases q) (fun p hp q => by
    obtain ⟨o, ho⟩ := (I.mus p hp).there
    rw [q, hD] at ho; cases ho)
  exact ⟨g', u, ⟨n, e'⟩, J⟩
theorem nats_snoc (a : List Nat) (b : Nat) : nats (a ++ [b]) = nats a ++ [(b : Int)] := by unfold nats; simp
theorem ints_snoc {vs : List Value} {ns : List Int} (h : IntsAre vs ns) (n : Int) (t : Tok) : IntsAre (vs ++ [.int n t]) (ns ++ [n]) := ksk_snoc h
theorem take_filter_t {α : Type} {f : α → Bool} {l : List α} {q : Nat} (h : q < l.length) (hb : f l[q] = true) : (l.take (q + 1)).filter f = (l.take q).filter f ++ [l[q]] := by
  rw [List.take_succ_eq_append_getElem h, List.filter_append]; simp [hb]
theorem take_filter_f {α : Type} {f : α → Bool} {l : List α} {q : Nat} (h : q < l.length) (hb : ¬ f l[q] = true) : (l.take (q + 1)).filter f = (l.take q).filter f := by
  rw [List.take_succ_eq_append_getElem h, List.filter_append]; simp [hb]
theorem r_setL {s₀ : Shared} {h₀ g : Heap} {L l : Addr} {m : Str → Option Value} {mu mu' : List (Addr × Ent)} {xs : List Value} {j : Nat} {q : Int} {t : Tok} {v : Value} {Q : Unit → Shared → Prop} (I : On s₀ h₀ g L m mu s) (P : Put l (.list xs) (.list (xs.set j v)) mu mu') (hq : q = j) (hj : j < xs.length) (hz : xs.length ≤ 100000)
    (h : ∀ s', On s₀ h₀ g L m mu' s' → Q () s') : WP (model prog w) A (setItem (.ref l) (.int q t) v) Q No s := by
  simp only [WP_eq]
  obtain ⟨n, ho⟩ := I.mus _ P.mem
  have hT : s.TypeIs (.ref l) "list" := ⟨_, ho, rfl⟩
  unfold setItem
  try with_reducible refine wpAny_holding ?_
  first | refine wpAny_bind (wpAny_pure ?_) | skip
  refine wpAny_bind (wpAny_sequenceKey hT (by decide) ?_)
  refine wpAny_bind (wpAny_callSpecial?_slot (name := Str.ofString "__setitem__") hT slot_list_setitem (wpAny_call_entry slot_list_setitem hT entry_list_setitem ?_ (args_list_setitem _ _ _)))
  have h0 : 0 ≤ q := by omega
  have hfit : q < 2 ^ 63 := by omega
  show wpAny _ _ (Builtin.List.listSubscript? (.int q t) >>= _) _ _ s
  refine wpAny_bind (wpAny_listSubscript_int (fitsIndex_of h0 hfit) ?_)
  clear hfit h0
  subst hq
  show wpAny _ _ ((seqItemAt l j >>= fun r => pure (r.map (j, ·))) >>= _) _ _ s
  refine wpAny_bind (wpAny_bind (wpAny_seqItemAt ho rfl (wpAny_pure ?_)))
  rw [show xs.toArray[j]? = some xs[j] by simp [hj]]
  show wpAny _ _ (setSeqItemAt l j v >>= _) _ _ s
  have fin := h _ (I.edit (f := fun a => a.setIfInBounds j v) P (by simp) s.toks)
  refine wpAny_bind (wpAny_setSeqItemAt ho rfl ?_)
  first
    | exact wpAny_bind (wpAny_pure (wpAny_pure ⟨.none, rfl, wpAny_pure fin⟩))
    | exact wpAny_pure ⟨.none, rfl, wpAny_pure fin⟩
theorem w_augI {o i value : Expr} {tpos pos : Pos} {env : Env} {op : Operator} {Q : Flow → Shared → Prop}
    (h : WP (model prog w) A (eval o env) (fun ov s₁ => WP (model prog w) A (eval i env) (fun iv s₂ => WP (model prog w) A (getItem ov iv) (fun old s₃ =>
          WP (model prog w) A (eval value env) (fun v s₄ => WP (model prog w) A (inplaceOp op old v) (fun new s₅ =>
            WP (model prog w) A (setItem ov iv new) (fun _ => Q .next) No s₅) No s₄) No s₃) No s₂) No s₁) No s)
    (hi : ∀ ov iv new, augStore i ov iv new = (do holding [new, ov, iv] (setItem ov iv new); release [new, ov, iv] []; pure .next) := by intros; rfl) :
    WP (model prog w) A (exec (.AugAssign (.Subscript o i tpos) op value pos) env) Q No s := by
  simp only [WP_eq] at *; exact wpAny_AugAssign_SubscriptAny h hi
theorem r_getL {l : Addr} {xs : List Value} {j : Nat} {t : Tok} {v : Value} {Q : Value → Shared → Prop} (hl : IsL s.heap l xs) (hx : xs[j]? = some v) (hz : xs.length ≤ 100000) (h : Q v s) : WP (model prog w) A (getItem (.ref l) (.int (j : Int) t)) Q No s := by
  simp only [WP_eq]
  have hj : j < xs.length := by
    rcases Nat.lt_or_ge j xs.length with q | q
    · exact q
    · rw [List.getElem?_eq_none q] at hx; cases hx
  exact wpAny_getItem_list hl.isList (by omega) (by omega) (by simpa using hx) h
local macro_rules | `(tactic| walk_at "up") => `(tactic| first | assumption | exact Up.rfl | (refine Up.trans (by assumption) ?_; walk_at "up"))
set_option maxHeartbeats 4000000 in
theorem part_ok {n k : Nat} {ma : Addr} {M : Nat → Nat → Bool} {Q : Value → Shared → Prop} (hA : Fine n A) (W : Wd mg mb s.heap) (N : Nm mg mb) (hM : MeetsIn s.heap ma M k) (hk : k ≤ 5)
    (h : ∀ s' D vs, Keeps s s' → s.heap.get? D = none → IsL s'.heap D vs → IntsAre vs (nats ((List.range (k + 1)).map (countOf (parts M k)))) → Q (.ref D) s') (hn : n < 880 := by omega) :
    WP (model prog w) A (call (.ref 126) [.ref ma]) Q No s := by
  refine call_part hA W.part W.lim (by omega) fun s₁ I => ?_
  have hA' := hA.deeper (callEnvC fPart s.heap.objs.size 126)
  have hh := hA'.h
  obtain ⟨ms, hmm, hml, hmr⟩ := id hM
  have hz : (rfs ms).length ≤ 100000 := by unfold rfs; rw [List.length_map]; omega
  conv in dBody _ => whnf
  repeat' walk_at "go"
  refine r_newL (by assumption) (by exact Nat.le_of_ble_eq_true rfl) ?_
  intro s2 g0 a0 u0 hl0 O
  have W0 := W.up u0
  repeat' walk_at "go"
  refine r_lenL (by assumption) (IsL.on (by assumption) hml (by walk_at "up")) hz ?_
  intro _ _ _
  repeat' walk_at "go"
  refine r_range (n := k) (by assumption) (by unfold rfs; rw [List.length_map, hmm]) ?_
  intro r g1 s2 u1 hr O
  refine it_rangeN O hh hr (by omega) ?_
  intro I It s3 WI O2
  refine for_loopQ (fun i m mu g => (∃ pa as, m "partings" = some (.ref pa) ∧ IsL g pa (rfs as) ∧ Al (Rooms g) as (parts M i)) ∧ ∃ kv, mu = [(s.heap.objs.size + 1, .cell (some (.ref ma))), (s.heap.objs.size + 2, .cell kv)]) WI ?start O2 ?turn ?done (by intro _; rfl)
  case start =>
    exact ⟨⟨_, [_], rfl, IsL.up (by assumption : IsL _ _ [Value.ref _]) (by walk_at "up"), ⟨[], IsL.up hl0 (by walk_at "up"), trivial⟩, trivial⟩, _, rfl⟩
  case turn =>
    rintro i v m mu g' s4 K hi ⟨t, rfl⟩ u2 ⟨⟨pa, as, mp, hpa, hal⟩, kv, rfl⟩ O4 Q1 hQ1
    simp only [List.cons_append, List.nil_append] at O4
    have W2 : Wd mg mb g' := W.up (by walk_at "up")
    repeat' walk_at "go"
    refine r_newM (by assumption) (by decide) ?_
    intro s5 la O5
    repeat' walk_at "go"
    refine it_listN (by assumption) hh hpa ?_
    intro I2 It2 s6 WI2 O6
    refine for_loopQ (fun j m mu g => m "partings" = some (.ref pa) ∧ m "longer" = some (.ref la) ∧ ∃ bs, Al (Rooms g) bs (((parts M i).take j).flatMap (adds M i)) ∧
      mu = (la, .list (rfs bs)) :: (s.heap.objs.size + 1, .cell (some (.ref ma))) :: (s.heap.objs.size + 2, .cell (some (.int (i : Int) t))) :: K) WI2 ?start2 O6 ?turn2 ?done2 (by intro _; rfl)
    case start2 => exact ⟨mp, rfl, [], trivial, rfl⟩
    case turn2 =>
      rintro j v m2 mu2 g2 s7 K2 hj hv u3 ⟨mp2, ml2, bs, hbs, rfl⟩ O7 Q2 hQ2
      simp only [List.cons_append] at O7
      have hj1 : j < as.length := by unfold rfs at hj; simpa using hj
      have hj2 : j < (parts M i).length := by rw [← hal.length]; exact hj1
      obtain ⟨rs, hrs, halr⟩ := (Al.get j hj1 hj2 hal).up u3
      have hv' : v = .ref as[j] := by
        unfold rfs at hv
        rw [List.getElem?_map, List.getElem?_eq_getElem hj1] at hv
        exact (Option.some.inj hv).symm
      subst hv'
      generalize hR : (parts M i)[j] = R at *
      have W3 : Wd mg mb g2 := W.up (by walk_at "up")
      have hRm : R ∈ parts M i := hR ▸ List.getElem_mem hj2
      obtain ⟨hRl, hRx⟩ := parts_ok i R hRm
      have hrz : (rfs rs).length ≤ 100000 := by unfold rfs; rw [List.length_map, halr.length]; omega
      repeat' walk_at "go"
      refine r_range (n := R.length) (by assumption) (by unfold rfs; rw [List.length_map, halr.length]) ?_
      intro r3 g3 s8 u4 hr3 O8
      refine it_rangeN O8 hh hr3 (by omega) ?_
      intro I3 It3 s9 WI3 O9
      have W4 := W3.up u4
      refine for_loopQ (fun p m mu g => m "partings" = some (.ref pa) ∧ m "longer" = some (.ref la) ∧ m "rooms" = some (.ref as[j]) ∧ ∃ bs, Al (Rooms g) bs (((parts M i).take j).flatMap (adds M i) ++ (List.range p).flatMap (addAt M i R)) ∧
        mu = (la, .list (rfs bs)) :: (s.heap.objs.size + 1, .cell (some (.ref ma))) :: (s.heap.objs.size + 2, .cell (some (.int (i : Int) t))) :: K ++ K2) WI3 ?start3 O9 ?turn3 ?done3 (by intro _; rfl)
      case start3 => exact ⟨mp2, ml2, rfl, bs, by simpa using hbs.mono fun _ _ q => q.up u4, rfl⟩
      case turn3 =>
        rintro p v m3 mu3 g4 s10 K3 hp ⟨t3, rfl⟩ u5 ⟨mp3, ml3, mr3, bs3, hbs3, rfl⟩ O10 Q3 hQ3
        simp only [List.cons_append] at O10
        have W5 := W4.up u5
        repeat' walk_at "go"
        have hp1 : p < rs.length := by rw [halr.length]; exact hp
        obtain ⟨vs, hvs, hiv⟩ := Al.get p hp1 hp halr
        have hvl : vs.length = R[p].length := by have := hiv.length; unfold nats at this; rw [List.length_map] at this; exact this
        have hrl := parts_room i R hRm _ (List.getElem_mem hp)
        have hvz : vs.length + 1 ≤ 100000 := by omega
        have hbz : (((parts M i).take j).flatMap (adds M i) ++ (List.range p).flatMap (addAt M i R)).length ≤ 100000 := bound (by omega) (by omega)
        refine r_comp [(Str.ofString "meets", s.heap.objs.size + 1), (Str.ofString "k", s.heap.objs.size + 2)] (n := vs.length) (val := fun i v => vs[i]? = some v) (fun _ _ mu => mu = []) (fun q ys => IntsAre ys (nats ((R[p].take q).filter (M i)))) ?comp (by omega) (fun C => rfl) .nil
        case comp =>
          repeat' walk_at "go"
          refine r_itemL (IsL.on (by assumption) hrs (by walk_at "up")) (by omega) (by omega) (rf_get hp1) ?_
          have O11 := (by assumption : On s s.heap g4 _ _ _ _)
          refine ⟨Src.list hh (IsL.on O11 hvs (by walk_at "up")), ?turnC, ?doneC⟩
          case turnC =>
            rintro C q v mC _ gC J sC hq hv uC rfl OC
            simp only [List.nil_append] at OC
            have cm : (Ent.cell (some (.ref ma))).at gC (s.heap.objs.size + 1) := (O11.mus (_, .cell (some (.ref ma))) (by simp)).to fun o e => uC _ o e
            have ck : (Ent.cell (some (.int (i : Int) t))).at gC (s.heap.objs.size + 2) := (O11.mus (_, .cell (some (.int (i : Int) t))) (by simp)).to fun o e => uC _ o e
            have hq' : q < R[p].length := by have := hiv.length; unfold nats at this; rw [List.length_map] at this; omega
            obtain ⟨t4, rfl⟩ : ∃ t4, v = .int (R[p][q] : Int) t4 := by
              obtain ⟨t4, e⟩ := hiv.get q (R[p][q] : Int) (by unfold nats; simp [hq'])
              exact ⟨t4, by rw [hv] at e; exact Option.some.inj e⟩
            have hx : R[p][q] < i := hRx _ (List.getElem_mem hp) _ (List.getElem_mem hq')
            have him : i < ms.length := by omega
            have hml' : IsL gC ma (rfs ms) := (IsL.on O11 hml (by walk_at "up")).up uC
            have hmr' : IsL gC ms[i] ((List.range i).map fun j => .bool (M i j)) := (IsL.on O11 (hmr i him) (by walk_at "up")).up uC
            have hxx : ((List.range i).map fun j => Value.bool (M i j))[R[p][q]]? = some (.bool (M i R[p][q])) := by simp [hx]
            repeat' walk_at "go"
            refine r_itemL (IsL.on (by assumption) hml' (by walk_at "up")) (by omega) (by omega) (rf_get him) ?_
            repeat' walk_at "go"
            refine r_itemL (IsL.on (by assumption) hmr' (by walk_at "up")) (by omega) (by omega) hxx ?_
            repeat' walk_at "go"
            refine iff_ite (fun hb => ?_) (fun hb => ?_)
            · repeat' walk_at "go"
              refine ⟨fun ys hy => ?_, _, [], _, Up.rfl, rfl, (by assumption)⟩
              rw [take_filter_t hq' hb, nats_snoc]
              exact ints_snoc hy _ _
            · refine ⟨fun ys hy => ?_, _, [], _, Up.rfl, rfl, (by assumption)⟩
              rw [take_filter_f hq' hb]
              exact hy
          case doneC =>
            intro D ys s11 hD hys hlD KD
            obtain ⟨g5, u6, hlD5, O12⟩ := O11.gain KD hD hlD
            have W6 := W5.up u6
            have hfit : ys.isEmpty = fits M i R[p] := by
              rw [hiv.length, show (nats R[p]).length = R[p].length from List.length_map .., List.take_length] at hys
              have := hys.length
              unfold fits
              unfold nats at this
              rw [List.length_map] at this
              cases ys <;> cases hf : R[p].filter (M i) <;> simp_all
            repeat' walk_at "go"
            refine r_newL (by assumption) (by decide) ?_
            intro s12 g6 e0 u7 he0 O13
            have W7 := W6.up u7
            repeat' walk_at "go"
            refine r_eqE hA' (IsL.on (by assumption) hlD5 (by walk_at "up")) (IsL.on (by assumption) he0 (by walk_at "up")) ?_ (by omega)
            repeat' walk_at "go"
            rw [hfit]
            have hup : Up g4 g6 := u6.trans u7
            refine iff_ite (fun hb => ?_) (fun hb => ?_)
            · repeat' walk_at "go"
              intro S1 s13 K13 hS1
              have O14 := On.keeps (by assumption) K13
              refine r_tailSlice O14 (IsL.on (by assumption) hrs (by walk_at "up")) hS1 .none (.int _ _) .none (by simp) hrz ?_
              intro D1 g7 s14 u8 hD1 O15
              rw [pick_to (by unfold rfs; rw [List.length_map]; omega)] at hD1
              have W8 := W7.up u8
              repeat' walk_at "go"
              refine r_itemL (IsL.on (by assumption) hrs (by walk_at "up")) (by omega) (by omega) (rf_get hp1) ?_
              repeat' walk_at "go"
              refine r_addL (by assumption) (IsL.on (by assumption) hvs (by walk_at "up")) (IsL.on (by assumption) (by assumption : IsL _ _ [Value.int (i : Int) t]) (by walk_at "up")) hvz ?_
              intro D2 g8 s15 u9 hD2 O16
              have W9 : Wd mg mb g8 := W8.up (by walk_at "up")
              repeat' walk_at "go"
              have hD2' := (by assumption : IsL _ _ [Value.ref D2])
              refine r_addL (by assumption) (IsL.on (by assumption) hD1 (by walk_at "up")) (IsL.on (by assumption) hD2' (by walk_at "up")) (by rw [List.length_take]; show _ + 1 ≤ _; omega) ?_
              intro D3 g9 s16 u10 hD3 O17
              have W10 : Wd mg mb g9 := W9.up (by walk_at "up")
              repeat' walk_at "go"
              intro S2 s17 K17 hS2
              have O18 := On.keeps (by assumption) K17
              refine r_tailSlice O18 (IsL.on (by assumption) hrs (by walk_at "up")) hS2 (.int _ _) .none .none (by simp) hrz ?_
              intro D4 g10 s18 u11 hD4 O19
              have e1 : (p : Int) + 1 = ((p + 1 : Nat) : Int) := by omega
              rw [e1, pick_from (by unfold rfs; rw [List.length_map]; omega)] at hD4
              repeat' walk_at "go"
              refine r_addL (by assumption) (IsL.on (by assumption) hD3 (by walk_at "up")) (IsL.on (by assumption) hD4 (by walk_at "up")) (by simp only [List.length_append, List.length_take, List.length_drop, List.length_cons, List.length_nil]; omega) ?_
              intro D5 g11 s19 u12 hD5 O20
              repeat' walk_at "go"
              refine r_append (by assumption) .head (by unfold rfs; rw [List.length_map, hbs3.length]; exact hbz) ?_
              intro s20 O21
              repeat' walk_at "go"
              rw [show rfs bs3 ++ [Value.ref D5] = rfs (bs3 ++ [D5]) from by simp [rfs]] at O21
              refine (hQ3 _ ?_).1
              refine' ⟨_, _, g11, ?up, ⟨?a1, ?a2, ?a3, bs3 ++ [D5], ?a4, rfl⟩, ?on⟩
              case on => exact O21
              case a1 => exact mp3
              case a2 => exact ml3
              case a3 => exact mr3
              case up => exact Up.trans hup (by walk_at "up")
              rw [List.range_succ, List.flatMap_append, ← List.append_assoc]
              have e : [p].flatMap (addAt M i R) = [R.take p ++ [R[p] ++ [i]] ++ R.drop (p + 1)] := by
                rw [List.flatMap_singleton]; unfold addAt
                rw [List.getD_eq_getElem?_getD, List.getElem?_eq_getElem hp]
                simp [hb]
              rw [e]
              refine Al.append (hbs3.mono fun _ _ q => q.up (Up.trans hup (by walk_at "up"))) ⟨⟨rs.take p ++ [D2] ++ rs.drop (p + 1), ?l, ?al⟩, trivial⟩
              case l => simpa [rfs, List.map_take, List.map_drop] using hD5
              case al =>
                have up : Up g2 g11 := by walk_at "up"
                have halr' := halr.mono (S := Room g11) fun _ _ q => q.up up
                have hr2 : Room g11 D2 (R[p] ++ [i]) := ⟨_, hD2.up (by walk_at "up"), by rw [nats_snoc]; exact ints_snoc hiv _ _⟩
                have hr3 : Al (Room g11) [D2] [R[p] ++ [i]] := ⟨hr2, trivial⟩
                exact ((halr'.take p).append hr3).append (halr'.drop (p + 1))
            · repeat' walk_at "go"
              refine (hQ3 _ ?_).1
              refine' ⟨_, _, g6, hup, ⟨?b1, ?b2, ?b3, bs3, ?b4, rfl⟩, ?bon⟩
              case bon => exact O13
              case b1 => exact mp3
              case b2 => exact ml3
              case b3 => exact mr3
              rw [List.range_succ, List.flatMap_append, ← List.append_assoc]
              have e : [p].flatMap (addAt M i R) = [] := by
                rw [List.flatMap_singleton]; unfold addAt
                rw [List.getD_eq_getElem?_getD, List.getElem?_eq_getElem hp]
                simp [hb]
              rw [e, List.append_nil]
              exact hbs3.mono fun _ _ q => q.up hup
      case done3 =>
        rintro m3 mu3 g4 s10 u5 ⟨mp3, ml3, mr3, bs3, hbs3, rfl⟩ O10
        have W5 := W4.up u5
        repeat' walk_at "go"
        have hE1 := (by assumption : IsL _ _ [Value.ref _])
        have hE0 := (by assumption : IsL _ _ [Value.int (i : Int) t])
        refine r_addL (by assumption) (IsL.on (by assumption) hrs (by walk_at "up")) (IsL.on (by assumption) hE1 (by walk_at "up")) (by show _ + 1 ≤ _; unfold rfs; rw [List.length_map, halr.length]; omega) ?_
        intro D g6 s11 u6 hD O11
        repeat' walk_at "go"
        refine r_append (by assumption) .head (by unfold rfs; rw [List.length_map, hbs3.length]; exact bound (by omega) (by omega)) ?_
        intro s12 O12
        repeat' walk_at "go"
        rw [show rfs bs3 ++ [Value.ref D] = rfs (bs3 ++ [D]) from by simp [rfs]] at O12
        refine (hQ2 _ ?_).1
        refine' ⟨_, _, g6, ?c0, ⟨?c1, ?c2, bs3 ++ [D], ?c3, rfl⟩, ?con⟩
        case con => exact O12
        case c1 => exact mp3
        case c2 => exact ml3
        case c0 => exact Up.trans u4 (by walk_at "up")
        rw [List.take_succ_eq_append_getElem hj2, List.flatMap_append, hR, List.flatMap_singleton]
        unfold adds
        rw [← List.append_assoc]
        refine Al.append (hbs3.mono fun _ _ q => q.up (by walk_at "up")) ⟨⟨rs ++ [_], by simpa [rfs] using hD, ?_⟩, trivial⟩
        have up : Up g2 g6 := by walk_at "up"
        have hr2 : Room g6 _ [i] := ⟨_, hE0.up (by walk_at "up"), .cons _ _ .nil⟩
        have hr3 : Al (Room g6) [_] [[i]] := ⟨hr2, trivial⟩
        exact (halr.mono (S := Room g6) fun _ _ q => q.up up).append hr3
    case done2 =>
      rintro m2 mu2 g2 s7 u3 ⟨mp2, ml2, bs, hbs, rfl⟩ O7
      repeat' walk_at "go"
      have O8 := (by assumption : On s s.heap g2 _ _ _ _)
      obtain ⟨g3, u4, hla, O9⟩ := O8.freeze
      refine (hQ1 _ ?_).1
      refine' ⟨_, _, g3, u3.trans u4, ⟨⟨la, bs, ?d1, hla, ?d2⟩, _, rfl⟩, ?don⟩
      case don => exact O9
      case d1 => rfl
      case d2 =>
        have e : (rfs as).length = (parts M i).length := by unfold rfs; rw [List.length_map, hal.length]
        rw [e, List.take_length] at hbs
        exact hbs.mono fun _ _ q => q.up u4
  case done =>
    rintro m mu g' s4 u2 ⟨⟨pa, as, mp, hpa, hal⟩, kv, rfl⟩ O4
    have W2 : Wd mg mb g' := W.up (by walk_at "up")
    repeat' walk_at "go"
    refine w_asgComp (s₀ := s) (h₀ := s.heap) (L := s.heap.objs.size) [] (n := k + 1) (val := fun i v => ∃ t, v = .int (i : Int) t) (fun _ _ mu => mu = []) (fun q ys => IntsAre ys (List.replicate q 0)) ?cnt (by omega) (fun C => rfl) .nil
    case cnt =>
      repeat' walk_at "go"
      refine r_lenL (by assumption) (IsL.on (by assumption) hml (by walk_at "up")) hz ?_
      intro _ _ _
      repeat' walk_at "go"
      refine r_range (n := k + 1) (by assumption) (by unfold rfs; rw [List.length_map, hmm]; omega) ?_
      intro r2 g2 s5 u3 hr2 O5
      refine ⟨Src.rangeN hh (hr2.up O5.keep) (by omega), ?_, _, _, g2, O5, ?_⟩
      · rintro C q v mC _ gC J sC hq ⟨t, rfl⟩ uC rfl OC
        simp only [List.nil_append] at OC
        repeat' walk_at "go"
        refine ⟨fun ys hy => ?_, _, [], _, Up.rfl, rfl, (by assumption)⟩
        rw [List.replicate_succ']
        exact ints_snoc hy _ _
      · intro D ys g3 s6 u4 hD hys O6
        repeat' walk_at "go"
        refine it_listN (by assumption) hh (hpa.up (by walk_at "up")) ?_
        intro I4 It4 s7 WI4 O7
        refine for_loopQ (fun j m mu g => m "counts" = some (.ref D) ∧ ∃ vs kv, IntsAre vs (nats ((List.range (k + 1)).map (countOf ((parts M k).take j)))) ∧ mu = [(D, .list vs), (s.heap.objs.size + 1, .cell (some (.ref ma))), (s.heap.objs.size + 2, .cell kv)]) WI4 ?start4 O7 ?turn4 ?done4 (by intro _; rfl)
        case start4 => exact ⟨rfl, ys, kv, by rw [counts0]; exact hys, rfl⟩
        case turn4 =>
          rintro j v m2 mu2 g4 s8 K2 hj hv u5 ⟨mc, vs, kv2, hvs, rfl⟩ O8 Q4 hQ4
          simp only [List.cons_append, List.nil_append] at O8
          have hj1 : j < as.length := by unfold rfs at hj; simpa using hj
          have hj2 : j < (parts M k).length := by rw [← hal.length]; exact hj1
          obtain ⟨rs, hrs, halr⟩ := (Al.get j hj1 hj2 hal).up (Up.trans u3 u5)
          have hv' : v = .ref as[j] := by rw [rf_get hj1] at hv; exact (Option.some.inj hv).symm
          subst hv'
          have hRm : (parts M k)[j] ∈ parts M k := List.getElem_mem hj2
          obtain ⟨hRl, hRx⟩ := parts_ok k _ hRm
          have W3 : Wd mg mb g4 := W2.up (by walk_at "up")
          have hrz : (rfs rs).length ≤ 100000 := by unfold rfs; rw [List.length_map, halr.length]; omega
          have hrl : (rfs rs).length = (parts M k)[j].length := by unfold rfs; rw [List.length_map, halr.length]
          have hvl : vs.length = k + 1 := by have := hvs.length; unfold nats at this; simpa using this
          obtain ⟨t5, hg⟩ := hvs.get (parts M k)[j].length (countOf ((parts M k).take j) (parts M k)[j].length : Nat) (by unfold nats; rw [List.map_map, List.getElem?_map, List.getElem?_range (by omega)]; rfl)
          repeat' walk_at "go"
          refine w_augI ?_
          repeat' walk_at "go"
          rw [hrl]
          have O9 := (by assumption : On s s.heap g4 _ _ _ _)
          refine r_getL (O9.mus _ (.head _)) hg (by omega) ?_
          repeat' walk_at "go"
          refine r_setL (by assumption) .head rfl (by omega) (by omega) ?_
          intro s9 O10
          repeat' walk_at "go"
          refine (hQ4 _ ?_).1
          refine' ⟨_, _, g4, Up.rfl, ⟨?e1, _, _, ?e2, rfl⟩, ?eon⟩
          case eon => exact O10
          case e1 => exact mc
          case e2 =>
            rw [counts_step hj2 hRl]
            exact ints_set hvs _ _ _
        case done4 =>
          rintro m2 mu2 g4 s8 u5 ⟨mc, vs, kv2, hvs, rfl⟩ O8
          repeat' walk_at "go"
          have e : (rfs as).length = (parts M k).length := by unfold rfs; rw [List.length_map, hal.length]
          rw [e, List.take_length] at hvs
          have hD0 : s.heap.get? D = none := by
            cases q : s.heap.get? D with
            | none => rfl
            | some o => have := (O8.org D o q).symm.trans (O8.off _ (.head _)); cases this
          exact h s8 D vs O8.weaken.weaken.weaken.keepsOf hD0 (O8.mus _ (.head _)) hvs
end
end
/-! ### D1 -/
section
open PySem PySem.Calls PySem.W PyProof.Rows
def prodS (st : List Int) (r : Int) : Nat → Int
  | 0 => 1
  | k + 1 => prodS st r k * (r - st.getD k 0)
def fall (r : Int) : Nat → Int
  | 0 => 1
  | k + 1 => fall r k * (r - k)
def sumC (cs : List Int) (r : Int) : Nat → Int
  | 0 => 0
  | k + 1 => sumC cs r k + cs.getD k 0 * fall r k
abbrev lawRest (i : Nat) : List Stmt := (dBody (stm 19)).drop i
abbrev eLaw (L : Addr) (fw : Addr × Addr) : Env := callEnvC { fLaw with code := .ref fw.2 } L fw.1
/-- it returns True, and what stood before stands as it was -/
structure True1 (s₀ : Shared) (h₀ : Heap) (f : Flow) (s : Shared) : Prop where
  r : f = .ret (.bool true)
  up : Up h₀ s.heap
  gens : s.gens = s₀.gens
  os : s.os = s₀.os
theorem On.true1 {s₀ s : Shared} {h₀ g : Heap} {L : Addr} {m : Str → Option Value} {mu : List (Addr × Ent)} (I : On s₀ h₀ g L m mu s) : True1 s₀ h₀ (.ret (.bool true)) s := ⟨rfl, I.org.trans I.keep, I.gens, I.os⟩
theorem ints_getD {vs : List Value} {ns : List Int} (h : IntsAre vs ns) {j : Nat} (hj : j < ns.length) : ∃ t, vs[j]? = some (.int (ns.getD j 0) t) := by
  obtain ⟨t, e⟩ := h.get j ns[j] (by simp [hj])
  exact ⟨t, by rw [e, List.getD_eq_getElem?_getD, List.getElem?_eq_getElem hj]; rfl⟩
end
section
open PySem PySem.Calls PySem.W PyProof.Rows
section
variable {prog : Program} {w : World} {A : Around} {s : Shared} {mg mb : Str → Option Value} {fw : Addr × Addr}
local macro_rules | `(tactic| walk_at "go") => `(tactic| ((with_reducible show WP _ _ (eval (Expr.Name (Str.ofString "row") _) (callEnvC _ _ _)) _ _ _); refine r_cell (by assumption) (.head _) rfl ?_))
local macro_rules | `(tactic| walk_at "up") => `(tactic| first | assumption | exact Up.rfl | (refine Up.trans (by assumption) ?_; walk_at "up"))
set_option maxHeartbeats 4000000 in
theorem t16 {n N : Nat} {s₀ : Shared} {h₀ g : Heap} {L ra sa ca : Addr} {m : Str → Option Value} {mu : List (Addr × Ent)} {xs vs vc : List Value} {st cs : List Int} (hA : Fine n A) (W : Wd mg mb g) (N' : Nm mg mb)
    (I : On s₀ h₀ g L m ((L + 1, .cell (some (.ref ra))) :: mu) s) (hs : m "still" = some (.ref sa)) (hc : m "counts" = some (.ref ca)) (hra : IsL g ra xs) (hsa : IsL g sa vs) (hca : IsL g ca vc)
    (hx : xs.length = N) (hN : N ≤ 5) (hst : IntsAre vs st) (hcs : IntsAre vc cs) (hl1 : st.length = N) (hl2 : cs.length = N + 1) (hb1 : ∀ x ∈ st, -100 ≤ x ∧ x ≤ 100) (hb2 : ∀ x ∈ cs, -100000 ≤ x ∧ x ≤ 100000)
    (eq : ∀ r : Nat, r ≤ N → prodS st r N = sumC cs r (N + 1)) (hn : n < 800 := by omega) :
    WP (model prog w) A (execs (lawRest 16) (eLaw L fw)) (True1 s₀ h₀) No s := by
  have hh := hA.h
  have hz : xs.length ≤ 100000 := by omega
  conv in lawRest _ => whnf
  repeat' walk_at "go"
  refine r_lenL (by assumption) (IsL.on (by assumption) hra (by walk_at "up")) hz ?_
  intro _ _ _
  repeat' walk_at "go"
  refine r_range (n := N + 1) (by assumption) (by omega) ?_
  intro r g1 s2 u1 hr O
  refine it_rangeN O hh hr (by omega) ?_
  intro I1 It1 s3 WI O2
  refine for_loopQ (fun _ m mu' _ => m "still" = some (.ref sa) ∧ m "counts" = some (.ref ca) ∧ mu' = (L + 1, .cell (some (.ref ra))) :: mu) WI ⟨hs, hc, rfl⟩ O2 ?turn ?done (by intro _; rfl)
  case done =>
    rintro m mu' g' s4 u2 ⟨hs, hc, rfl⟩ O3
    repeat' walk_at "go"
    exact On.true1 (by assumption)
  case turn =>
    rintro i v m2 mu' g' s4 K hi ⟨t, rfl⟩ u2 ⟨hs2, hc2, rfl⟩ O3 Q1 hQ1
    simp only [List.cons_append] at O3
    have W2 : Wd mg mb g' := W.up (by walk_at "up")
    repeat' walk_at "go"
    refine r_lenL (by assumption) (IsL.on (by assumption) hra (by walk_at "up")) hz ?_
    intro _ _ _
    repeat' walk_at "go"
    refine r_range (n := N) (by assumption) (by omega) ?_
    intro r5 g5 s5 u5 hr5 O5
    refine it_rangeN O5 hh hr5 (by omega) ?_
    intro I6 It6 s6 WI6 O6
    have W5 : Wd mg mb g5 := W2.up (by walk_at "up")
    refine for_loopQ (fun k m mu' _ => m "still" = some (.ref sa) ∧ m "counts" = some (.ref ca) ∧ (∃ t, m "rooms" = some (.int (i : Int) t)) ∧ (∃ t, m "ways" = some (.int 0 t)) ∧ (∃ t, m "named" = some (.int 1 t)) ∧ (∃ t, m "product" = some (.int (prodS st i k) t)) ∧
      mu' = (L + 1, .cell (some (.ref ra))) :: mu ++ K) WI6 ?st6 O6 ?turn6 ?done6 (by intro _; rfl)
    case st6 => exact ⟨hs2, hc2, ⟨_, rfl⟩, ⟨_, rfl⟩, ⟨_, rfl⟩, ⟨_, rfl⟩, rfl⟩
    case turn6 =>
      rintro k v m7 mu7 g7 s7 K7 hk ⟨t7, rfl⟩ u7 ⟨hs7, hc7, ⟨tr, hr7⟩, ⟨tw, hw7⟩, ⟨tn, hn7⟩, ⟨tp, hp7⟩, rfl⟩ O7 Q6 hQ6
      simp only [List.cons_append] at O7
      have W7 := W5.up u7
      obtain ⟨tk, hk7⟩ := ints_getD hst (j := k) (by omega)
      have hbk : -100 ≤ st.getD k 0 ∧ st.getD k 0 ≤ 100 := by
        rw [List.getD_eq_getElem?_getD, List.getElem?_eq_getElem (by omega : k < st.length)]
        exact hb1 _ (List.getElem_mem _)
      repeat' walk_at "go"
      refine r_itemL (IsL.on (by assumption) hsa (by walk_at "up")) (by omega) (by omega) hk7 ?_
      repeat' walk_at "go"
      refine r_imul (by assumption) (Or.inr ⟨by omega, by omega⟩) ?_
      intro s10 t10 O10
      repeat' walk_at "go"
      have O11 := (by assumption : On s₀ h₀ g7 L _ _ _)
      refine (hQ6 _ ?_).1
      refine' ⟨_, _, g7, Up.rfl, ⟨?x1, ?x2, ?x3, ?x4, ?x5, ?x6, rfl⟩, ?xon⟩
      case xon => exact O11
      case x1 => exact hs7
      case x2 => exact hc7
      case x3 => exact ⟨_, hr7⟩
      case x4 => exact ⟨_, hw7⟩
      case x5 => exact ⟨_, hn7⟩
      case x6 => exact ⟨_, rfl⟩
    case done6 =>
      rintro m7 mu7 g7 s7 u7 ⟨hs7, hc7, ⟨tr, hr7⟩, ⟨tw, hw7⟩, ⟨tn, hn7⟩, ⟨tp, hp7⟩, rfl⟩ O7
      simp only [List.cons_append] at O7
      have W7 := W5.up u7
      repeat' walk_at "go"
      refine r_lenL (by assumption) (IsL.on (by assumption) hra (by walk_at "up")) hz ?_
      intro _ _ _
      repeat' walk_at "go"
      refine r_range (n := N + 1) (by assumption) (by omega) ?_
      intro r8 g8 s8 u8 hr8 O8
      refine it_rangeN O8 hh hr8 (by omega) ?_
      intro I9 It9 s9 WI9 O9
      have W8 := W7.up u8
      refine for_loopQ (fun k m mu' _ => m "still" = some (.ref sa) ∧ m "counts" = some (.ref ca) ∧ (∃ t, m "rooms" = some (.int (i : Int) t)) ∧ (∃ t, m "ways" = some (.int (sumC cs i k) t)) ∧ (∃ t, m "named" = some (.int (fall i k) t)) ∧ (∃ t, m "product" = some (.int (prodS st i N) t)) ∧
        mu' = (L + 1, .cell (some (.ref ra))) :: mu ++ K) WI9 ?st9 O9 ?turn9 ?done9 (by intro _; rfl)
      case st9 => exact ⟨hs7, hc7, ⟨_, hr7⟩, ⟨_, hw7⟩, ⟨_, hn7⟩, ⟨_, hp7⟩, rfl⟩
      case turn9 =>
        rintro k v m7 mu7 g9 s7 K7 hk ⟨t7, rfl⟩ u9 ⟨hs7, hc7, ⟨tr, hr7⟩, ⟨tw, hw7⟩, ⟨tn, hn7⟩, ⟨tp, hp7⟩, rfl⟩ O7 Q9 hQ9
        simp only [List.cons_append] at O7
        have W9 := W8.up u9
        obtain ⟨tk, hk7⟩ := ints_getD hcs (j := k) (by omega)
        have hbk : -100000 ≤ cs.getD k 0 ∧ cs.getD k 0 ≤ 100000 := by
          rw [List.getD_eq_getElem?_getD, List.getElem?_eq_getElem (by omega : k < cs.length)]
          exact hb2 _ (List.getElem_mem _)
        repeat' walk_at "go"
        refine r_itemL (IsL.on (by assumption) hca (by walk_at "up")) (by omega) (by omega) hk7 ?_
        repeat' walk_at "go"
        refine r_imul (by assumption) (Or.inr ⟨by omega, by omega⟩) ?_
        intro s10 t10 O10
        repeat' walk_at "go"
        have O11 := (by assumption : On s₀ h₀ g9 L _ _ _)
        refine (hQ9 _ ?_).1
        refine' ⟨_, _, g9, Up.rfl, ⟨?y1, ?y2, ?y3, ?y4, ?y5, ?y6, rfl⟩, ?yon⟩
        case yon => exact O11
        case y1 => exact hs7
        case y2 => exact hc7
        case y3 => exact ⟨_, hr7⟩
        case y4 => exact ⟨_, rfl⟩
        case y5 => exact ⟨_, rfl⟩
        case y6 => exact ⟨_, hp7⟩
      case done9 =>
        rintro m7 mu7 g9 s7 u9 ⟨hs7, hc7, ⟨tr, hr7⟩, ⟨tw, hw7⟩, ⟨tn, hn7⟩, ⟨tp, hp7⟩, rfl⟩ O7
        have W9 := W8.up u9
        repeat' walk_at "go"
        · exact absurd (eq i (by omega)) (by assumption)
        · refine (hQ1 _ ?_).1
          refine' ⟨_, _, g9, ?z0, ⟨?z1, ?z2, rfl⟩, ?zon⟩
          case zon => exact O7
          case z0 => exact Up.trans (by walk_at "up") (Up.trans u7 (Up.trans u8 u9))
          case z1 => exact hs7
          case z2 => exact hc7
end
end
/-! ### D2 -/
section
open PySem PySem.Calls PySem.W PyProof.Rows
/-- how many end before X, how many begin by X -/
def cL (E : List Mt) (X : Int) : Nat := (E.filter fun x => decide (x.e < X)).length
def cR (R : List Mt) (X : Int) : Nat := (R.filter fun x => decide (x.b ≤ X)).length
def stillF (R E : List Mt) (k : Nat) : Int := (k : Int) - cL E (R.getD k ⟨0, 0, 0⟩).b
def alreadyF (R E : List Mt) (k : Nat) : Int := (cR R (E.getD k ⟨0, 0, 0⟩).e : Int) - k - 1
theorem cut_count {α : Type} (f : α → Bool) (l : List α) (p : Nat) (hp : p ≤ l.length) (h1 : ∀ (i : Nat) (hi : i < l.length), i < p → f l[i] = true) (h2 : ∀ (i : Nat) (hi : i < l.length), p ≤ i → f l[i] = false) : (l.filter f).length = p := by
  rw [← List.take_append_drop p l, List.filter_append]
  have a : (l.take p).filter f = l.take p := List.filter_eq_self.mpr fun x hx => by
    obtain ⟨i, hi, rfl⟩ := List.getElem_of_mem hx
    have hi' : i < p ∧ i < l.length := by rw [List.length_take] at hi; omega
    rw [List.getElem_take]; exact h1 i hi'.2 hi'.1
  have b : (l.drop p).filter f = [] := List.filter_eq_nil_iff.mpr fun x hx => by
    obtain ⟨i, hi, rfl⟩ := List.getElem_of_mem hx
    have hi' : p + i < l.length := by rw [List.length_drop] at hi; omega
    rw [List.getElem_drop, h2 (p + i) hi' (by omega)]; simp
  rw [a, b, List.append_nil, List.length_take]; omega
section
variable {prog : Program} {w : World} {A : Around} {s₀ : Shared} {h₀ g : Heap} {L : Addr} {m : Str → Option Value} {mu : List (Addr × Ent)} {s : Shared}
theorem r_sorted {l : Addr} {vs : List Value} {ns : List Int} {Q : Value → Shared → Prop} (I : On s₀ h₀ g L m mu s) (hl : IsL s.heap l vs) (hI : IntsAre vs ns) (h64 : vs.length < 64)
    (h : ∀ D g' s' vs' ns', Up g g' → IsL g' D vs' → IntsAre vs' ns' → ns'.Perm ns → ns'.Pairwise (· ≤ ·) → On s₀ h₀ g' L m mu s' → Q (.ref D) s') : WP (model prog w) A (call (.builtin "sorted") [.ref l]) Q No s := by
  simp only [WP_eq]
  refine sorted_ints hl.isList hI h64 fun out ns' a1 a2 a3 => ?_
  obtain ⟨e, he⟩ := sortedAll_at s.heap vs out
  have K : Keeps s { s with heap := sortedAll s.heap vs out } := ⟨_, s.toks, rfl, fun b o q => sortedAll_old q⟩
  have hD : s.heap.get? (s.heap.objs.size + 1) = none := Heap.get?_none_of_le (Nat.le_succ _)
  obtain ⟨g', u, hl', J⟩ := I.gain (ys := out.toList) K hD ⟨e, by rw [he]; unfold listO; rw [Array.toArray_toList]⟩
  exact h _ g' _ _ _ u hl' a1 a2 a3 J
end
end
local macro_rules | `(tactic| walk_at "go") => `(tactic| first
  | ((with_reducible show WP _ _ (callWith _ (Value.ref 126) [] _ []) _ _ _); refine cw_def fPart ?_)
  | ((with_reducible show FnIn _ 126 _ ∧ _); refine ⟨FnIn.up (Wd.part (by assumption)) (On.keep (by assumption)), ?_⟩))
section
open PySem PySem.Calls PySem.W PyProof.Rows
section
variable {prog : Program} {w : World} {A : Around} {s : Shared} {mg mb : Str → Option Value} {fw : Addr × Addr}
local macro_rules | `(tactic| walk_at "go") => `(tactic| ((with_reducible show WP _ _ (eval (Expr.Name (Str.ofString "row") _) (callEnvC _ _ _)) _ _ _); refine r_cell (by assumption) (.head _) rfl ?_))
local macro_rules | `(tactic| walk_at "go") => `(tactic| ((with_reducible show WP _ _ (eval (Expr.Name (Str.ofString "ends") _) (callEnvC _ _ _)) _ _ _); refine r_cell (by assumption) (.tail _ (.head _)) rfl ?_))
local macro_rules | `(tactic| walk_at "go") => `(tactic| ((with_reducible show WP _ _ (eval (Expr.Name (Str.ofString "row") _) (cEnv _ _ _ _)) _ _ _); refine r_cellG (by assumption) (by assumption) rfl ?_))
local macro_rules | `(tactic| walk_at "go") => `(tactic| ((with_reducible show WP _ _ (eval (Expr.Name (Str.ofString "ends") _) (cEnv _ _ _ _)) _ _ _); refine r_cellG (by assumption) (by assumption) rfl ?_))
local macro_rules | `(tactic| walk_at "up") => `(tactic| first | assumption | exact Up.rfl | (refine Up.trans (by assumption) ?_; walk_at "up"))
set_option maxHeartbeats 8000000 in
theorem t12 {n N : Nat} {s₀ : Shared} {h₀ g : Heap} {L ra ea ma : Addr} {m : Str → Option Value} {mu : List (Addr × Ent)} {R E : List Mt} {M : Nat → Nat → Bool} (hA : Fine n A) (W : Wd mg mb g) (N' : Nm mg mb) (Dg : Df g)
    (I : On s₀ h₀ g L m ((L + 1, .cell (some (.ref ra))) :: (L + 2, .cell (some (.ref ea))) :: mu) s) (hm : m "meets" = some (.ref ma)) (hM : MeetsIn g ma M N) (hra : IsL g ra (refs R)) (hea : IsL g ea (refs E))
    (hN : N ≤ 5) (hlR : R.length = N) (hlE : E.length = N) (hRi : ∀ x ∈ R, x.In g) (hEi : ∀ x ∈ E, x.In g)
    (hsR : ∀ (i j : Nat) (hi : i < j) (hj : j < R.length), R[i].b ≤ R[j].b) (hsE : ∀ (i j : Nat) (hi : i < j) (hj : j < E.length), E[i].e ≤ E[j].e)
    (hp : ((List.range N).map (stillF R E)).Perm ((List.range N).map (alreadyF R E)))
    (eq : ∀ r : Nat, r ≤ N → prodS ((List.range N).map (stillF R E)) r N = sumC (nats ((List.range (N + 1)).map (countOf (parts M N)))) r (N + 1)) (hn : n < 700 := by omega) :
    WP (model prog w) A (execs (lawRest 12) (eLaw L fw)) (True1 s₀ h₀) No s := by
  have hh := hA.h
  have hzR : (refs R).length ≤ 100000 := by unfold refs; rw [List.length_map]; omega
  have hRl : (refs R).length = N := by unfold refs; rw [List.length_map]; exact hlR
  conv in lawRest _ => whnf
  repeat' walk_at "go"
  refine w_asgComp (s₀ := s₀) (h₀ := h₀) (L := L) [(Str.ofString "row", L + 1), (Str.ofString "ends", L + 2)] (n := N) (val := fun i v => ∃ t, v = .int (i : Int) t) (fun _ _ mu => mu = []) (fun q ys => IntsAre ys ((List.range q).map (stillF R E))) ?still (by omega) (fun C => rfl) .nil
  case still =>
    repeat' walk_at "go"
    refine r_lenL (by assumption) (IsL.on (by assumption) hra (by walk_at "up")) hzR ?_
    intro _ _ _
    repeat' walk_at "go"
    refine r_range (n := N) (by assumption) (by omega) ?_
    intro r2 g2 s2 u2 hr2 O2
    refine ⟨Src.rangeN hh (hr2.up O2.keep) (by omega), ?_, _, _, g2, O2, ?_⟩
    · rintro C k v mC _ gC J sC hk ⟨t, rfl⟩ uC rfl OC
      simp only [List.nil_append] at OC
      have c1 : (Ent.cell (some (.ref ra))).at gC (L + 1) := (O2.mus (_, .cell (some (.ref ra))) (by simp)).to fun o e => uC _ o e
      have c2 : (Ent.cell (some (.ref ea))).at gC (L + 2) := (O2.mus (_, .cell (some (.ref ea))) (by simp)).to fun o e => uC _ o e
      have up : Up g gC := u2.trans (O2.keep.trans uC)
      have WC := W.up up
      have hra' := hra.up up
      have hkR : k < R.length := by omega
      obtain ⟨tb, te, hT⟩ := (hRi _ (List.getElem_mem hkR)).up up
      repeat' walk_at "go"
      refine r_itemL (IsL.on (by assumption) hra' (by walk_at "up")) (by omega) (by omega) (refs_get hkR) ?_
      repeat' walk_at "go"
      have O3 := (by assumption : On s2 s2.heap gC C _ J _)
      refine r_itemT (hT.up O3.keep) (by decide) (by decide) rfl ?_
      repeat' walk_at "go"
      have O4 := (by assumption : On s2 s2.heap gC C _ J _)
      refine bisL_ok hA (WC.up O4.keep) N' (bindL ((Dg.up up).up O4.keep)) ((hea.up up).up O4.keep) (by omega) (fun x hx => ((hEi x hx).up up).up O4.keep) hsE ?_ (by omega)
      intro s5 p t5 K5 hp h1 h2
      have O5 := O4.keeps K5
      repeat' walk_at "go"
      refine ⟨fun ys hy => ?_, _, [], _, Up.rfl, rfl, (by assumption)⟩
      have e : (k : Int) - p = stillF R E k := by
        unfold stillF cL
        rw [List.getD_eq_getElem?_getD, List.getElem?_eq_getElem hkR, Option.getD_some, cut_count _ E p hp (fun i hi h => by simpa using h1 i hi h) (fun i hi h => by simpa using h2 i hi h)]
      rw [e, List.range_succ, List.map_append]
      exact ints_snoc hy _ _
    · intro D ys g3 s3 u3 hD hys O3
      obtain ⟨g4, u4, hsa, O4⟩ := O3.freeze
      have up4 : Up g g4 := u2.trans u4
      have W4 := W.up up4
      repeat' walk_at "go"
      refine w_asgComp (s₀ := s₀) (h₀ := h₀) (L := L) [(Str.ofString "row", L + 1), (Str.ofString "ends", L + 2)] (n := N) (val := fun i v => ∃ t, v = .int (i : Int) t) (fun _ _ mu => mu = []) (fun q ys => IntsAre ys ((List.range q).map (alreadyF R E))) ?already (by omega) (fun C => rfl) .nil
      case already =>
        repeat' walk_at "go"
        refine r_lenL (by assumption) (IsL.on (by assumption) (hra.up up4) (by walk_at "up")) hzR ?_
        intro _ _ _
        repeat' walk_at "go"
        refine r_range (n := N) (by assumption) (by omega) ?_
        intro r5 g5 s5 u5 hr5 O5
        have up5 : Up g g5 := up4.trans u5
        refine ⟨Src.rangeN hh (hr5.up O5.keep) (by omega), ?_, _, _, g5, O5, ?_⟩
        · rintro C k v mC _ gC J sC hk ⟨t, rfl⟩ uC rfl OC
          simp only [List.nil_append] at OC
          have c1 : (Ent.cell (some (.ref ra))).at gC (L + 1) := (O5.mus (_, .cell (some (.ref ra))) (by simp)).to fun o e => uC _ o e
          have c2 : (Ent.cell (some (.ref ea))).at gC (L + 2) := (O5.mus (_, .cell (some (.ref ea))) (by simp)).to fun o e => uC _ o e
          have up : Up g gC := up5.trans (O5.keep.trans uC)
          have WC := W.up up
          have hea' := hea.up up
          have hkE : k < E.length := by omega
          obtain ⟨tb, te, hT⟩ := (hEi _ (List.getElem_mem hkE)).up up
          repeat' walk_at "go"
          refine r_itemL (IsL.on (by assumption) hea' (by walk_at "up")) (by omega) (by omega) (refs_get hkE) ?_
          repeat' walk_at "go"
          have O6 := (by assumption : On s5 s5.heap gC C _ J _)
          refine r_itemT (hT.up O6.keep) (by decide) (by decide) rfl ?_
          repeat' walk_at "go"
          have O7 := (by assumption : On s5 s5.heap gC C _ J _)
          refine bisR_ok hA (WC.up O7.keep) N' (bindR ((Dg.up up).up O7.keep)) ((hra.up up).up O7.keep) (by omega) (fun x hx => ((hRi x hx).up up).up O7.keep) hsR ?_ (by omega)
          intro s8 p t8 K8 hp h1 h2
          have O8 := O7.keeps K8
          repeat' walk_at "go"
          refine ⟨fun ys hy => ?_, _, [], _, Up.rfl, rfl, (by assumption)⟩
          have e : (p : Int) - k - 1 = alreadyF R E k := by
            unfold alreadyF cR
            rw [List.getD_eq_getElem?_getD, List.getElem?_eq_getElem hkE, Option.getD_some, cut_count _ R p hp (fun i hi h => by simpa using h1 i hi h) (fun i hi h => by simpa using h2 i hi h)]
          rw [e, List.range_succ, List.map_append]
          exact ints_snoc hy _ _
        · intro D2 ys2 g6 s6 u6 hD2 hys2 O6
          obtain ⟨g7, u7, haa, O7⟩ := O6.freeze
          have up7 : Up g g7 := up5.trans u7
          have W7 := W.up up7
          have hlst : (List.map (stillF R E) (List.range N)).length = N := by simp
          repeat' walk_at "go"
          refine r_sorted (by assumption) (IsL.on (by assumption) hsa (by walk_at "up")) hys (by rw [hys.length, hlst]; omega) ?_
          intro D3 g8 s8 vs8 ns8 u8 hD3 hi8 hp8 hs8 O8
          have W8 := W7.up u8
          repeat' walk_at "go"
          refine r_sorted (by assumption) (IsL.on (by assumption) haa (by walk_at "up")) hys2 (by rw [hys2.length]; simp; omega) ?_
          intro D4 g9 s9 vs9 ns9 u9 hD4 hi9 hp9 hs9 O9
          have W9 := W8.up u9
          have ens : ns8 = ns9 := List.Perm.eq_of_pairwise (fun a b _ _ h1 h2 => by omega) hs8 hs9 (hp8.trans (hp.trans hp9.symm))
          subst ens
          repeat' walk_at "go"
          refine r_neInts hA (IsL.on (by assumption) hD3 (by walk_at "up")) (IsL.on (by assumption) hD4 (by walk_at "up")) hi8 hi9 ?_ (by omega)
          repeat' walk_at "go"
          have up9 : Up g g9 := up7.trans (u8.trans u9)
          have O10 := (by assumption : On s₀ h₀ g9 L _ _ _)
          refine part_ok hA (W9.up O10.keep) N' ((hM.up up9).up O10.keep) hN ?_ (by omega)
          intro s10 D5 vs10 K10 hD5 hl10 hi10
          obtain ⟨g11, u11, hl11, O11⟩ := O10.gain K10 hD5 hl10
          have up11 : Up g g11 := up9.trans u11
          refine r_store O11 ?_
          intro s12 O12
          refine t16 (N := N) hA (W.up up11) N' O12 rfl rfl (hra.up up11) (hsa.up (by walk_at "up")) hl11 hRl hN hys hi10 (by simp) (by unfold nats; simp) ?_ ?_ eq (by omega)
          · intro x hx
            obtain ⟨k, hk, rfl⟩ := List.mem_map.mp hx
            rw [List.mem_range] at hk
            have : cL E (R.getD k ⟨0, 0, 0⟩).b ≤ E.length := List.length_filter_le ..
            unfold stillF; omega
          · intro x hx
            unfold nats at hx
            obtain ⟨k, hk, rfl⟩ := List.mem_map.mp hx
            obtain ⟨j, hj, rfl⟩ := List.mem_map.mp hk
            have h1 : countOf (parts M N) j ≤ (parts M N).length := List.length_filter_le ..
            have h2 := parts_len (M := M) N hN
            omega
end
end
/-! ### D3 -/
section
open PySem PySem.Calls PySem.W PyProof.Rows
section
variable {prog : Program} {w : World} {A : Around} {s₀ : Shared} {h₀ g : Heap} {L : Addr} {m : Str → Option Value} {mu : List (Addr × Ent)} {s : Shared}
theorem r_lenS {x : Str} {t : Tok} {Q : Value → Shared → Prop} (I : On s₀ h₀ g L m mu s) (hx : x.length ≤ 1000000) (h : ∀ s' t, On s₀ h₀ g L m mu s' → Q (.int (x.length : Int) t) s') : WP (model prog w) A (call (.builtin "len") [.str x t]) Q No s := by
  simp only [WP_eq]
  exact P.len_str (by omega) (h _ _ (I.tok _))
theorem r_min {a b : Int} {t u : Tok} {Q : Value → Shared → Prop} (hh : A.handled = none) (I : On s₀ h₀ g L m mu s) (h : ∀ s' t, On s₀ h₀ g L m mu s' → Q (.int (min a b) t) s') : WP (model prog w) A (call (.builtin "min") [.int a t, .int b u]) Q No s := by
  simp only [WP_eq]
  refine min_two_ints hh fun h' tk hk => ?_
  have K : Keeps s { s with heap := h', toks := tk } := ⟨_, _, rfl, hk⟩
  have J := I.keeps K
  by_cases q : b < a
  · rw [if_pos q]; have e : min a b = b := by omega
    have := h _ u J; rw [e] at this; exact this
  · rw [if_neg q]; have e : min a b = a := by omega
    have := h _ t J; rw [e] at this; exact this
theorem r_itemS {value slice : Expr} {x : Str} {k c : Nat} {q : Int} {t u : Tok} {Q : Value → Shared → Prop} (I : On s₀ h₀ g L m mu s) (hq : q = k) (hz : x.length ≤ 1000000) (hc : x.cps[k]? = some c) (h : ∀ s' t, On s₀ h₀ g L m mu s' → Q (.str ⟨#[c]⟩ t) s')
    (hs : subscripted slice false (.str x t) (.int q u) = operate [.str x t, .int q u] (getItem (.str x t) (.int q u)) := by with_unfolding_all rfl) : WP (model prog w) A (subscriptTail value slice (.str x t) (.int q u)) Q No s := by
  simp only [WP_eq]
  have hk : k < x.length := by
    rcases Nat.lt_or_ge k x.cps.size with z | z
    · exact z
    · rw [Array.getElem?_eq_none z] at hc; cases hc
  refine tail_any (typeIs_str _ _ _) PySem.F.slot_str_getitem.lookup (P.getItem_str ?_ ?_ (h _ _ (I.tok _))) hs
  · simp; omega
  · unfold seqIndex?
    have e1 : ¬ q < 0 := by omega
    have e2 : q < (x.length : Int) := by omega
    have e3 : 0 ≤ q := by omega
    simp only [e1, if_false, e2, e3, decide_true, Bool.and_self, if_true, Option.bind_some]
    rw [show q.toNat = k by omega]
    exact hc
theorem strsFrom_are : ∀ (l : List Str) (tk : Nat), StrsAre (strsFrom tk l) l
  | [], _ => .nil
  | x :: r, tk => .cons x tk (strsFrom_are r (tk + 1))
theorem gm_str {x : Str} {t : Tok} {name : Str} {id : String} {pl : Sem Bool} {Q : Value × List Value → Shared → Prop} (h0 : ∀ M A E Q s, Q (.builtin id, [.str x t]) s → wpAny M A (getMethod (.str x t) name pl) Q E s) (h : Q (.builtin id, [.str x t]) s) : WP (model prog w) A (getMethod (.str x t) name pl) Q No s := by
  simp only [WP_eq]; exact h0 _ _ _ _ _ h
theorem gm_split {x : Str} {t : Tok} {pl : Sem Bool} {Q : Value × List Value → Shared → Prop} (h : Q (.builtin "str.split", [.str x t]) s) : WP (model prog w) A (getMethod (.str x t) "split" pl) Q No s := by
  simp only [WP_eq]; exact GM.split h
theorem gm_join {x : Str} {t : Tok} {pl : Sem Bool} {Q : Value × List Value → Shared → Prop} (h : Q (.builtin "str.join", [.str x t]) s) : WP (model prog w) A (getMethod (.str x t) "join" pl) Q No s := by
  simp only [WP_eq]; exact GM.join h
theorem r_split {x y : Str} {t u : Tok} {Q : Value → Shared → Prop} (I : On s₀ h₀ g L m mu s) (hx : x.length ≤ 100000) (hy : (y.length == 0) = false) (h : ∀ D g' s' vs, Up g g' → IsL g' D vs → StrsAre vs (Txt.split x y) → On s₀ h₀ g' L m mu s' → Q (.ref D) s') :
    WP (model prog w) A (call (.builtin "str.split") [.str x t, .str y u]) Q No s := by
  simp only [WP_eq]
  have one : ∀ (e : Txt.split x y = [x]) (tk : Nat), Q (.ref s.heap.objs.size) { s with heap := s.heap.push (listO [.str x t] 0), toks := tk } := fun e tk => by
    obtain ⟨g', u', e', J⟩ := I.push (listO [.str x t] 0)
    exact h _ g' _ _ u' ⟨0, e'⟩ (by rw [e]; exact .cons x t .nil) (J.tok tk)
  cases h1 : (decide (x.length < y.length) || decide (Builtin.Str.strKind x < Builtin.Str.strKind y))
  · cases hf : (Builtin.Str.occurrences x y 0 x.length (x.length + 1)).isEmpty
    · have e : Txt.split x y = Builtin.Str.partsBetween x (Builtin.Str.occurrences x y 0 x.length (x.length + 1)) y.length := (if_neg (ne_true_of_eq_false h1)).trans (if_neg (ne_true_of_eq_false hf))
      have hl := split_le x y
      rw [e] at hl
      refine call_meets PySem.F.slot_str_split (typeIs_str _ _ _) PySem.F.entry_str_split (PySem.F.args_str_split_2 _ _) (meets_str_split_sep x y t u h1 hy hf (by rw [sizeLine_eq]; omega) (by rw [sizeLine_eq]; omega)) ?_
      obtain ⟨g', u', e', J⟩ := I.push (listO (strsFrom s.toks (Builtin.Str.partsBetween x (Builtin.Str.occurrences x y 0 x.length (x.length + 1)) y.length)) 0)
      exact h _ g' _ _ u' ⟨0, e'⟩ (by rw [e]; exact strsFrom_are _ _) (J.tok _)
    · exact call_meets PySem.F.slot_str_split (typeIs_str _ _ _) PySem.F.entry_str_split (PySem.F.args_str_split_2 _ _) (meets_str_split_not_found x y t u h1 hy hf) (one ((if_neg (ne_true_of_eq_false h1)).trans (if_pos hf)) _)
  · exact call_meets PySem.F.slot_str_split (typeIs_str _ _ _) PySem.F.entry_str_split (PySem.F.args_str_split_2 _ _) (meets_str_split_cannot_occur x y t u h1) (one (if_pos h1) _)
end
end
/-! ### T1 -/
section
open PySem PySem.Calls PySem.W PyProof.Rows
/-! ## the page, plainly -/
def lineL (x : Mt) : List Nat := List.replicate (x.b + 4).toNat 32 ++ List.replicate (x.e - x.b + 1).toNat 35
def lineS (x : Mt) : Str := ⟨(lineL x).toArray⟩
def pageL : List Mt → List Nat
  | [] => []
  | x :: R => lineL x ++ [10, 10] ++ pageL R
def pageS (R : List Mt) : Str := ⟨(pageL R).toArray⟩
def partsL : List Mt → List Str
  | [] => [Str.empty]
  | x :: R => lineS x :: Str.empty :: partsL R
theorem nl_is : Str.ofString "\n" = ⟨#[10]⟩ := by decide +kernel
theorem app10 : ∀ {x y A B : List Nat}, x ++ 10 :: A = y ++ 10 :: B → 10 ∉ x → 10 ∉ y → x = y ∧ A = B
  | [], [], _, _, h, _, _ => by simpa using h
  | [], b :: y, _, _, h, _, hy => by simp at h; exact absurd (by simp [← h.1]) hy
  | a :: x, [], _, _, h, hx, _ => by simp at h; exact absurd (by simp [h.1]) hx
  | a :: x, b :: y, A, B, h, hx, hy => by
    simp only [List.cons_append, List.cons.injEq] at h
    obtain ⟨e1, e2⟩ := app10 h.2 (fun q => hx (.tail _ q)) (fun q => hy (.tail _ q))
    exact ⟨by rw [h.1, e1], e2⟩
theorem join2 (sep a b : Str) (r : List Str) : Str.join sep (a :: b :: r) = a ++ sep ++ Str.join sep (b :: r) := rfl
theorem join1 (sep a : Str) : Str.join sep [a] = a := rfl
theorem cps_join2 (a b : Str) (r : List Str) : (Str.join ⟨#[10]⟩ (a :: b :: r)).cps.toList = a.cps.toList ++ 10 :: (Str.join ⟨#[10]⟩ (b :: r)).cps.toList := by
  rw [join2]; simp [Str.cps_append]
theorem join_uniq : ∀ (xs ys : List Str), xs ≠ [] → ys ≠ [] → (∀ p ∈ xs, 10 ∉ p.cps.toList) → (∀ p ∈ ys, 10 ∉ p.cps.toList) → (Str.join ⟨#[10]⟩ xs).cps.toList = (Str.join ⟨#[10]⟩ ys).cps.toList → xs = ys
  | [], _, h, _, _, _, _ => absurd rfl h
  | _, [], _, h, _, _, _ => absurd rfl h
  | [x], [y], _, _, _, _, h => by
    rw [join1, join1] at h
    have : x = y := by cases x; cases y; simp only at h; rw [Array.ext' h]
    rw [this]
  | [x], y :: y' :: r, _, _, hx, _, h => by
    rw [join1, cps_join2] at h
    exact absurd (by rw [h]; simp) (hx x (.head _))
  | x :: x' :: r, [y], _, _, _, hy, h => by
    rw [join1, cps_join2] at h
    exact absurd (by rw [← h]; simp) (hy y (.head _))
  | x :: x' :: r, y :: y' :: r', _, _, hx, hy, h => by
    rw [cps_join2, cps_join2] at h
    obtain ⟨e1, e2⟩ := app10 h (hx x (.head _)) (hy y (.head _))
    have ih := join_uniq (x' :: r) (y' :: r') (by simp) (by simp) (fun p hp => hx p (.tail _ hp)) (fun p hp => hy p (.tail _ hp)) e2
    have : x = y := by cases x; cases y; simp only at e1; rw [Array.ext' e1]
    rw [this, ih]
theorem lineL_free (x : Mt) : 10 ∉ lineL x := by
  unfold lineL
  simp only [List.mem_append, List.mem_replicate, not_or, not_and]
  exact ⟨fun _ => by decide, fun _ => by decide⟩
theorem partsL_ne (R : List Mt) : ∃ p r, partsL R = p :: r := by cases R <;> exact ⟨_, _, rfl⟩
theorem partsL_join : ∀ R : List Mt, (Str.join ⟨#[10]⟩ (partsL R)).cps.toList = pageL R
  | [] => rfl
  | x :: R => by
    obtain ⟨p, r, e⟩ := partsL_ne R
    have ih := partsL_join R
    show (Str.join ⟨#[10]⟩ (lineS x :: Str.empty :: partsL R)).cps.toList = _
    rw [cps_join2, e, cps_join2, ← e, ih]
    simp [lineS, Str.empty, pageL]
theorem partsL_free : ∀ (R : List Mt), ∀ p ∈ partsL R, 10 ∉ p.cps.toList
  | [], p, h => by simp only [partsL, List.mem_singleton] at h; subst h; simp [Str.empty]
  | x :: R, p, h => by
    simp only [partsL, List.mem_cons] at h
    rcases h with rfl | rfl | h
    · simpa [lineS] using lineL_free x
    · simp [Str.empty]
    · exact partsL_free R p h
theorem split_page (R : List Mt) : Txt.split (pageS R) ⟨#[10]⟩ = partsL R := by
  have h1 := StrLaws.join_split (pageS R) ⟨#[10]⟩
  refine join_uniq _ _ (fun q => ?_) (fun q => ?_) (StrLaws.split_free _ 10) (partsL_free R) ?_
  · have := split_pos (pageS R) ⟨#[10]⟩
    rw [q] at this; simp at this
  · obtain ⟨p, r, e⟩ := partsL_ne R; rw [e] at q; cases q
  · rw [h1, partsL_join]; simp [pageS]
end
/-! ### D4 -/
section
open PySem PySem.Calls PySem.W PyProof.Rows
def evens {α : Type} : List α → List α
  | x :: _ :: r => x :: evens r
  | _ => []
theorem evens_are : ∀ (R : List Mt) (xs : List Value), StrsAre xs (partsL R) → StrsAre (evens xs) (R.map lineS)
  | [], xs, h => by cases h with | cons y t h => cases h; exact .nil
  | x :: R, xs, h => by
    cases h with
    | cons y t h => cases h with | cons z u h => exact .cons _ _ (evens_are R _ h)
theorem evens_eq {α : Type} : ∀ (N : Nat) (xs : List α), xs.length = 2 * N + 1 → (List.range N).filterMap (fun k => xs[2 * k]?) = evens xs
  | 0, [x], _ => rfl
  | N + 1, x :: y :: r, h => by
    rw [List.range_succ_eq_map, List.filterMap_cons]
    simp only [Nat.mul_zero, List.getElem?_cons_zero]
    show x :: _ = x :: evens r
    rw [List.filterMap_map, ← evens_eq N r (by simp at h; omega)]
    congr 1
theorem pick_even {xs : List Value} {N : Nat} (h : xs.length = 2 * N + 1) : pick xs (some 0) (some (2 * (N : Int))) (some 2) = evens xs := by
  rw [← evens_eq N xs h]
  unfold pick slicePick sliceBounds sliceRange
  have hs : xs.toArray.size = 2 * N + 1 := by simpa using h
  simp only [hs, Option.getD_some, show (2 : Int) > 0 by decide, if_true, show ¬ ((0 : Int) < 0) by decide, if_false, show ¬ (2 * (N : Int) < 0) by omega]
  have e1 : max 0 (min (0 : Int) ((2 * N + 1 : Nat) : Int)) = 0 := by omega
  have e2 : max 0 (min (2 * (N : Int)) ((2 * N + 1 : Nat) : Int)) = 2 * N := by omega
  rw [e1, e2]
  have e3 : (if (0 : Int) < 2 * N then (2 * (N : Int) - 0 + 2 - 1) / 2 else 0).toNat = N := by split <;> omega
  rw [e3]
  simp only [List.filterMap_map]
  have e4 : ∀ k : Nat, ((0 : Int) + 2 * (k : Int)).toNat = 2 * k := fun k => by omega
  congr 1
  funext k
  show xs.toArray[((0 : Int) + 2 * (k : Int)).toNat]? = _
  rw [e4]; simp
theorem partsL_len : ∀ R : List Mt, (partsL R).length = 2 * R.length + 1
  | [] => rfl
  | x :: R => by simp only [partsL, List.length_cons, partsL_len R]; omega
theorem strs_len : ∀ {vs : List Value} {ys : List Str}, StrsAre vs ys → vs.length = ys.length
  | _, _, .nil => rfl
  | _, _, .cons _ _ h => congrArg (· + 1) (strs_len h)
theorem strs_at : ∀ {vs : List Value} {ys : List Str}, StrsAre vs ys → ∀ (i : Nat) (h : i < ys.length), ∃ t, vs[i]? = some (.str ys[i] t)
  | _, _, .cons y t _, 0, _ => ⟨t, rfl⟩
  | _, _, .cons _ _ h, i + 1, hi => strs_at h i (Nat.lt_of_succ_lt_succ hi)
theorem r_tailSliceT {prog : Program} {w : World} {A : Around} {s₀ : Shared} {h₀ g : Heap} {L : Addr} {m : Str → Option Value} {mu : List (Addr × Ent)} {s : Shared} {value slice : Expr} {l S : Addr} {xs : List Value} {vl vu vt : Value} {lo hi st : Option Int} {Q : Value → Shared → Prop} (ops : List Value) (I : On s₀ h₀ g L m mu s) (hl : IsL s.heap l xs) (hS : s.heap.IsSliceOf S vl vu vt)
    (pl : IsPart vl lo) (pu : IsPart vu hi) (pt : IsPart vt st) (h0 : st ≠ some 0) (hz : xs.length ≤ 100000) (h : ∀ D g' s', Up g g' → IsL g' D (pick xs lo hi st) → On s₀ h₀ g' L m mu s' → Q (.ref D) s')
    (hs : subscripted slice false (.ref l) (.ref S) = operate ops (getItem (.ref l) (.ref S)) := by with_unfolding_all rfl) :
    WP (model prog w) A (subscriptTail value slice (.ref l) (.ref S)) Q No s := by
  simp only [WP_eq] at *
  refine tail_any (hl.isList.typeIs) list_getitem_lookup (wpAny_getItem_list_slice hl.isList hS pl pu pt h0 ?_ (by rw [List.size_toArray, sizeLine_eq]; omega)) hs
  obtain ⟨g', u, e, J⟩ := I.push (listO (pick xs lo hi st) 0)
  exact h _ g' _ u ⟨0, e⟩ J
def hitC (x y : List Nat) (c : Nat) : Bool := x[c]? == some 35 && y[c]? == some 35
def anyHit (x y : List Nat) : Bool := (List.range (min x.length y.length)).any (hitC x y)
theorem any_succ (f : Nat → Bool) (q : Nat) : (List.range (q + 1)).any f = ((List.range q).any f || f q) := by
  rw [List.range_succ, List.any_append]; simp
theorem hash_eq : Str.ofString "#" = ⟨#[35]⟩ := by decide +kernel
theorem hash1 {a : Nat} (h : (⟨#[a]⟩ : Str) = Str.ofString "#") : a = 35 := by
  rw [hash_eq] at h; injection h with h; simpa using h
theorem hash2 {a : Nat} (h : ¬ (⟨#[a]⟩ : Str) = Str.ofString "#") : ¬ a = 35 := fun e => h (by rw [hash_eq, e])
def MR (R : List Mt) (k j : Nat) : Bool := anyHit (lineL (R.getD k ⟨0, 0, 0⟩)) (lineL (R.getD j ⟨0, 0, 0⟩))
end
section
open PySem PySem.Calls PySem.W PyProof.Rows
section
variable {prog : Program} {w : World} {A : Around} {s : Shared} {mg mb : Str → Option Value} {fw : Addr × Addr}
local macro_rules | `(tactic| walk_at "go") => `(tactic| ((with_reducible show WP _ _ (eval (Expr.Name (Str.ofString "row") _) (callEnvC _ _ _)) _ _ _); refine r_cell (by assumption) (by first | exact .head _ | exact .tail _ (.head _)) rfl ?_))
local macro_rules | `(tactic| walk_at "go") => `(tactic| ((with_reducible show WP _ _ (storeName (callEnvC _ _ _) (Str.ofString "strip") _) _ _ _); refine r_storeC (by assumption) (.tail (.tail (.tail .head))) rfl ?_; intro _ _))
local macro_rules | `(tactic| walk_at "go") => `(tactic| ((with_reducible show WP _ _ (storeName (cEnv _ _ _ _) (Str.ofString "other") _) _ _ _); refine r_storeC (by assumption) .head rfl ?_; intro _ _))
local macro_rules | `(tactic| walk_at "go") => `(tactic| ((with_reducible show WP _ _ (eval (Expr.Name (Str.ofString "strip") _) (cEnv _ _ _ _)) _ _ _); refine r_cellG (by assumption) (by assumption) rfl ?_))
local macro_rules | `(tactic| walk_at "go") => `(tactic| ((with_reducible show WP _ _ (eval (Expr.Name (Str.ofString "other") _) (cEnv _ _ _ _)) _ _ _); first | refine r_cell (by assumption) (.head _) rfl ?_ | refine r_cellG (by assumption) (by assumption) rfl ?_))
local macro_rules | `(tactic| walk_at "go") => `(tactic| ((with_reducible show WP _ _ (getMethod (Value.str _ _) (Str.ofString "split") _) _ _ _); refine gm_split ?_))
local macro_rules | `(tactic| walk_at "go") => `(tactic| ((with_reducible show WP _ _ (call (Value.builtin "len") [Value.str _ _]) _ _ _); refine r_lenS (by assumption) (by assumption) ?_; intro _ _ _))
local macro_rules | `(tactic| walk_at "up") => `(tactic| first | assumption | exact Up.rfl | (refine Up.trans (by assumption) ?_; walk_at "up"))
set_option maxHeartbeats 8000000 in
theorem t9 {n N : Nat} {s₀ : Shared} {h₀ g : Heap} {L ra ea : Addr} {m : Str → Option Value} {mu : List (Addr × Ent)} {R E : List Mt} {tp : Tok} {v3 : Option Value} (hA : Fine n A) (W : Wd mg mb g) (N' : Nm mg mb) (Dg : Df g)
    (I : On s₀ h₀ g L m ((L + 1, .cell (some (.ref ra))) :: (L + 2, .cell (some (.ref ea))) :: (L + 3, .cell v3) :: mu) s) (hp0 : m "page" = some (.str (pageS R) tp)) (hra : IsL g ra (refs R)) (hea : IsL g ea (refs E))
    (hN : N ≤ 5) (hlR : R.length = N) (hlE : E.length = N) (hRi : ∀ x ∈ R, x.In g) (hEi : ∀ x ∈ E, x.In g) (hpl : (pageL R).length ≤ 1000)
    (hll : ∀ x ∈ R, (lineL x).length ≤ 100)
    (hsR : ∀ (i j : Nat) (hi : i < j) (hj : j < R.length), R[i].b ≤ R[j].b) (hsE : ∀ (i j : Nat) (hi : i < j) (hj : j < E.length), E[i].e ≤ E[j].e)
    (hp : ((List.range N).map (stillF R E)).Perm ((List.range N).map (alreadyF R E)))
    (eq : ∀ r : Nat, r ≤ N → prodS ((List.range N).map (stillF R E)) r N = sumC (nats ((List.range (N + 1)).map (countOf (parts (MR R) N)))) r (N + 1)) (hn : n < 600 := by omega) :
    WP (model prog w) A (execs (lawRest 9) (eLaw L fw)) (True1 s₀ h₀) No s := by
  have hh := hA.h
  have hzR : (refs R).length ≤ 100000 := by unfold refs; rw [List.length_map]; omega
  have hRl : (refs R).length = N := by unfold refs; rw [List.length_map]; exact hlR
  conv in lawRest _ => whnf
  repeat' walk_at "go"
  refine r_newM (by assumption) (by decide) ?_
  intro s2 ma O2
  repeat' walk_at "go"
  rw [nl_is]
  refine r_split (by assumption) (by show (pageL R).toArray.size ≤ _; simp; omega) (by decide) ?_
  intro D1 g1 s3 vs1 u1 hD1 hvs1 O3
  rw [split_page] at hvs1
  have W1 := W.up u1
  repeat' walk_at "go"
  refine r_lenL (by assumption) (IsL.on (by assumption) hra (by walk_at "up")) hzR ?_
  intro _ _ _
  repeat' walk_at "go"
  intro S1 s4 K4 hS1
  have O4 := On.keeps (by assumption) K4
  have hvl : vs1.length = 2 * N + 1 := by rw [strs_len hvs1, partsL_len, hlR]
  refine r_tailSliceT [.ref D1, .ref S1] O4 (IsL.on O4 hD1 (by walk_at "up")) hS1 (.int _ _) (.int _ _) (.int _ _) (by decide) (by omega) ?_
  intro D2 g2 s5 u2 hD2 O5
  rw [hRl, pick_even hvl] at hD2
  have hev := evens_are R vs1 hvs1
  generalize evens vs1 = ss at hD2 hev
  have hsl : ss.length = N := by rw [strs_len hev, List.length_map, hlR]
  have W2 := W1.up u2
  repeat' walk_at "go"
  refine it_listN (by assumption) hh hD2 ?_
  intro I6 It6 s6 WI6 O6
  refine for_loopQ (fun k m mu' g => m "strips" = some (.ref D2) ∧ m "meets" = some (.ref ma) ∧ (∃ bs : List Addr, bs.length = k ∧ (∀ (i : Nat) (hi : i < bs.length), IsL g bs[i] ((List.range i).map fun j => .bool (MR R i j))) ∧
    ∃ v, mu' = (ma, .list (rfs bs)) :: (L + 1, .cell (some (.ref ra))) :: (L + 2, .cell (some (.ref ea))) :: (L + 3, .cell v) :: mu)) WI6 ?st6 O6 ?turn6 ?done6 (by intro _; rfl)
  case st6 => exact ⟨rfl, rfl, [], rfl, fun i hi => absurd hi (Nat.not_lt_zero _), _, rfl⟩
  case done6 =>
    rintro m7 mu7 g7 s7 u7 ⟨hs7, hm7, bs, hbl, hbs, v, rfl⟩ O7
    obtain ⟨g8, u8, hma, O8⟩ := O7.freeze
    have up8 : Up g g8 := u1.trans (u2.trans (u7.trans u8))
    exact t12 (M := MR R) hA (W.up up8) N' (Dg.up up8) O8 hm7 ⟨bs, by omega, hma, fun i hi => (hbs i hi).up u8⟩ (hra.up up8) (hea.up up8) hN hlR hlE (fun x hx => (hRi x hx).up up8) (fun x hx => (hEi x hx).up up8) hsR hsE hp eq (by omega)
  case turn6 =>
    rintro k v m7 mu7 g7 s7 K7 hk hv u7 ⟨hs7, hm7, bs, hbl, hbs, v7, rfl⟩ O7 Q6 hQ6
    simp only [List.cons_append] at O7
    have hkR : k < R.length := by omega
    have hkR' : k < (R.map lineS).length := by rw [List.length_map]; exact hkR
    obtain ⟨tv, hv'⟩ := strs_at hev k hkR'
    rw [hv] at hv'
    have hv2 : v = .str (lineS R[k]) tv := by simpa using hv'
    subst hv2
    have W7 := W2.up u7
    repeat' walk_at "go"
    have htl : (ss.take k).length = k := by rw [List.length_take]; omega
    refine r_comp [(Str.ofString "strip", L + 3)] (n := (ss.take k).length) (val := fun i v => (ss.take k)[i]? = some v) (fun _ C mu => ∃ v, mu = [(C + 1, .cell v)]) (fun q ys => ys = (List.range q).map fun j => Value.bool (MR R k j)) ?outer (by omega) (fun C => ⟨none, rfl⟩) rfl
    case outer =>
      repeat' walk_at "go"
      have O8 := (by assumption : On s₀ h₀ g7 L _ _ _)
      refine r_lenL O8 (O8.mus _ (.head _)) (by unfold rfs; rw [List.length_map]; omega) ?_
      intro _ _ _
      repeat' walk_at "go"
      intro S9 s9 K9 hS9
      have O9 := On.keeps (by assumption) K9
      refine r_tailSlice O9 (IsL.on O9 hD2 (by walk_at "up")) hS9 .none (.int _ _) .none (by simp) (by omega) ?_
      intro D3 g10 s10 u10 hD3 O10
      have ebl : (rfs bs).length = k := by unfold rfs; rw [List.length_map]; exact hbl
      rw [ebl, pick_to (by omega)] at hD3
      have W10 := W7.up u10
      refine ⟨Src.list hh (IsL.on O10 hD3 (by walk_at "up")), ?turnO, ?doneO⟩
      case turnO =>
        rintro C j v mC _ gC J sC hj hv uC ⟨v0, rfl⟩ OC
        simp only [List.cons_append, List.nil_append] at OC
        have c1 : (Ent.cell (some (.str (lineS R[k]) tv))).at gC (L + 3) := (O10.mus (_, .cell (some (.str (lineS R[k]) tv))) (by simp)).to fun o e => uC _ o e
        have hjk : j < k := by omega
        have hjR : j < R.length := by omega
        obtain ⟨tw, hw⟩ := strs_at hev j (by rw [List.length_map]; exact hjR)
        rw [List.getElem?_take_of_lt hjk, hw] at hv
        have hv2 : v = .str (lineS R[j]) tw := by simpa using hv.symm
        subst hv2
        have WC := W10.up (O10.keep.trans uC)
        have up_g : Up g s10.heap := u1.trans (u2.trans (u7.trans (u10.trans O10.keep)))
        have hxl : (lineS R[k]).length ≤ 1000000 := by show (lineL R[k]).toArray.size ≤ _; have := hll _ (List.getElem_mem hkR); simp; omega
        have hyl : (lineS R[j]).length ≤ 1000000 := by show (lineL R[j]).toArray.size ≤ _; have := hll _ (List.getElem_mem hjR); simp; omega
        repeat' walk_at "go"
        have hmn : (min (lineL R[k]).length (lineL R[j]).length) ≤ 1000 := by have := hll _ (List.getElem_mem hkR); omega
        refine r_comp [(Str.ofString "strip", L + 3), (Str.ofString "other", C + 1)] (n := min (lineL R[k]).length (lineL R[j]).length) (val := fun i v => ∃ t, v = .int (i : Int) t) (fun _ _ mu => mu = []) (fun q ys => ys.isEmpty = !((List.range q).any (hitC (lineL R[k]) (lineL R[j])))) ?inner hmn (fun C => rfl) rfl
        case inner =>
          repeat' walk_at "go"
          refine r_min hh (by assumption) ?_
          intro s12 t12 O12
          repeat' walk_at "go"
          have e1 : (lineS R[k]).length = (lineL R[k]).length := by show (lineL R[k]).toArray.size = _; simp
          have e2 : (lineS R[j]).length = (lineL R[j]).length := by show (lineL R[j]).toArray.size = _; simp
          refine r_range (n := min (lineL R[k]).length (lineL R[j]).length) (by assumption) (by rw [e1, e2]; omega) ?_
          intro r13 g13 s13 u13 hr13 O13
          have WI := WC.up u13
          refine ⟨Src.rangeN hh (hr13.up O13.keep) (by omega), ?turnI, ?doneI⟩
          case turnI =>
            rintro C2 q v mC2 _ gC2 J2 sC2 hq ⟨t2, rfl⟩ uC2 rfl OC2
            simp only [List.nil_append] at OC2
            have upI : Up gC gC2 := u13.trans (O13.keep.trans uC2)
            have d1 : (Ent.cell (some (.str (lineS R[k]) tv))).at gC2 (L + 3) := c1.to fun o e => upI _ o e
            have d2 : (Ent.cell (some (.str (lineS R[j]) tw))).at gC2 (C + 1) := (O13.mus (_, .cell (some (.str (lineS R[j]) tw))) (.head _)).to fun o e => uC2 _ o e
            have hq1 : q < (lineL R[k]).length := by omega
            have hq2 : q < (lineL R[j]).length := by omega
            have hx1 : (lineS R[k]).cps[q]? = some (lineL R[k])[q] := by unfold lineS; simp [hq1]
            have hx2 : (lineS R[j]).cps[q]? = some (lineL R[j])[q] := by unfold lineS; simp [hq2]
            have W14 := W.up (up_g.trans (uC.trans upI))
            repeat' walk_at "go"
            refine r_itemS (by assumption) rfl hxl hx1 ?_
            intro _ _ _
            repeat' walk_at "go"
            · have k1 : (lineL R[k])[q] = 35 := hash1 (by assumption)
              refine r_itemS (by assumption) rfl hyl hx2 ?_
              intro _ _ _
              repeat' walk_at "go"
              · have k2 : (lineL R[j])[q] = 35 := hash1 (by assumption)
                refine ⟨fun ys hy => ?_, _, [], _, Up.rfl, rfl, (by assumption)⟩
                have hh : hitC (lineL R[k]) (lineL R[j]) q = true := by unfold hitC; simp [hq1, hq2, k1, k2]
                rw [any_succ, hh]; simp
              · have k2 : ¬ (lineL R[j])[q] = 35 := hash2 (by assumption)
                refine ⟨fun ys hy => ?_, _, [], _, Up.rfl, rfl, (by assumption)⟩
                have hh : hitC (lineL R[k]) (lineL R[j]) q = false := by unfold hitC; simp [hq1, hq2, k2]
                rw [any_succ, hh, Bool.or_false]; exact hy
            · have k1 : ¬ (lineL R[k])[q] = 35 := hash2 (by assumption)
              refine ⟨fun ys hy => ?_, _, [], _, Up.rfl, rfl, (by assumption)⟩
              have hh : hitC (lineL R[k]) (lineL R[j]) q = false := by unfold hitC; simp [hq1, hq2, k1]
              rw [any_succ, hh, Bool.or_false]; exact hy
          case doneI =>
            intro D6 ys6 s16 hD6 hys6 hlD6 K16
            obtain ⟨g17, u17, hlD7, O17⟩ := O13.gain K16 hD6 hlD6
            repeat' walk_at "go"
            refine r_newL O17 (by decide) ?_
            intro s18 g18 e18 u18 he18 O18
            repeat' walk_at "go"
            refine r_neE hA (IsL.on O18 hlD7 (by walk_at "up")) (IsL.on O18 he18 (by walk_at "up")) ?_ (by omega)
            refine ⟨fun ys hy => ?_, _, [(C + 1, _)], g18, u13.trans (u17.trans u18), ⟨_, rfl⟩, O18⟩
            rw [hy, hys6, Bool.not_not, List.range_succ, List.map_append]
            congr 1
            simp only [List.map_cons, List.map_nil]
            unfold MR anyHit
            rw [List.getD_eq_getElem?_getD, List.getElem?_eq_getElem hkR, List.getD_eq_getElem?_getD, List.getElem?_eq_getElem hjR]
            rfl
      case doneO =>
        intro D4 ys s11 hD4 hys hlD4 K11
        obtain ⟨g12, u12, hlD5, O12⟩ := O10.gain K11 hD4 hlD4
        repeat' walk_at "go"
        refine r_append O12 .head (by omega) ?_
        intro s13 O13
        repeat' walk_at "go"
        rw [show rfs bs ++ [Value.ref D4] = rfs (bs ++ [D4]) from by simp [rfs]] at O13
        refine (hQ6 _ ?_).1
        refine' ⟨_, _, g12, u10.trans u12, ⟨?q1, ?q2, bs ++ [D4], ?q3, ?q4, _, rfl⟩, ?qon⟩
        case qon => exact O13
        case q1 => exact hs7
        case q2 => exact hm7
        case q3 => simp [hbl]
        case q4 =>
          intro i hi
          rw [htl] at hys
          rcases Nat.lt_or_ge i bs.length with q | q
          · rw [List.getElem_append_left q]; exact (hbs i q).up (u10.trans u12)
          · have : i = k := by rw [List.length_append] at hi; simp at hi; omega
            subst this
            rw [List.getElem_append_right q]
            simp only [List.getElem_singleton]
            rw [← hys]; exact hlD5
end
end
/-! ### T2 -/
section
open PySem PySem.Calls PySem.W PyProof.Rows
def lineA (a : Int) (x : Mt) : List Nat := List.replicate (x.b - a).toNat 32 ++ List.replicate (x.e - x.b + 1).toNat 35
def pgL (a : Int) : List Mt → List Nat
  | [] => []
  | x :: R => lineA a x ++ [10, 10] ++ pgL a R
theorem pgL_four : ∀ R : List Mt, pgL (-4) R = pageL R
  | [] => rfl
  | x :: R => by
    unfold pgL pageL
    rw [pgL_four R]
    have e : lineA (-4) x = lineL x := by
      unfold lineA lineL
      rw [show x.b - -4 = x.b + 4 by omega]
    rw [e]
theorem indG_in {r : List Nat} : ∀ (l t : List Nat), 10 ∉ l → indG r false (l ++ 10 :: t) = l ++ 10 :: indG r true t
  | [], t, _ => by simp [indG]
  | c :: l, t, h => by
    have hc : c ≠ 10 := fun e => h (by simp [e])
    have ih := indG_in (r := r) l t (fun q => h (.tail _ q))
    show (if (false && c != 10) = true then r else []) ++ c :: indG r (c == 10) (l ++ 10 :: t) = _
    have e : (c == 10) = false := by simpa using hc
    rw [e, ih]
    simp
theorem indG_line {r : List Nat} : ∀ (l t : List Nat), 10 ∉ l → l ≠ [] → indG r true (l ++ 10 :: t) = r ++ l ++ 10 :: indG r true t
  | [], _, _, h => absurd rfl h
  | c :: l, t, h, _ => by
    have hc : c ≠ 10 := fun e => h (by simp [e])
    show (if (true && c != 10) = true then r else []) ++ c :: indG r (c == 10) (l ++ 10 :: t) = _
    have e : (c == 10) = false := by simpa using hc
    rw [e, indG_in l t (fun q => h (.tail _ q))]
    simp [hc]
theorem indG_nl {r : List Nat} (t : List Nat) : indG r true (10 :: t) = 10 :: indG r true t := by
  show (if (true && (10 : Nat) != 10) = true then r else []) ++ 10 :: indG r ((10 : Nat) == 10) t = _
  simp
theorem lineA_free (a : Int) (x : Mt) : 10 ∉ lineA a x := by
  unfold lineA
  simp only [List.mem_append, List.mem_replicate, not_or, not_and]
  exact ⟨fun _ => by decide, fun _ => by decide⟩
theorem indG_page (d : Nat) (a : Int) : ∀ R : List Mt, (∀ x ∈ R, a ≤ x.b ∧ x.b ≤ x.e) → indG (List.replicate d 32) true (pgL a R) = pgL (a - d) R
  | [], _ => rfl
  | x :: R, h => by
    have hx := h x (.head _)
    have ih := indG_page d a R fun y hy => h y (.tail _ hy)
    unfold pgL
    have ne : lineA a x ≠ [] := by
      unfold lineA
      intro e
      have := congrArg List.length e
      simp only [List.length_append, List.length_replicate, List.length_nil] at this
      omega
    rw [show lineA a x ++ [10, 10] ++ pgL a R = lineA a x ++ 10 :: 10 :: pgL a R by simp, indG_line _ _ (lineA_free a x) ne, indG_nl, ih]
    have e : List.replicate d 32 ++ lineA a x = lineA (a - d) x := by
      unfold lineA
      rw [← List.append_assoc, List.replicate_append_replicate, show d + (x.b - a).toNat = (x.b - (a - d)).toNat by omega]
    rw [e]; simp
theorem pgL_len (a : Int) : ∀ R : List Mt, (∀ x ∈ R, a ≤ x.b ∧ x.b ≤ x.e ∧ x.e ≤ a + 50) → (pgL a R).length ≤ R.length * 60
  | [], _ => Nat.zero_le _
  | x :: R, h => by
    have hx := h x (.head _)
    have ih := pgL_len a R fun y hy => h y (.tail _ hy)
    unfold pgL lineA
    simp only [List.length_append, List.length_replicate, List.length_cons, List.length_nil]
    omega
theorem indS_page (d : Nat) (a : Int) (R : List Mt) (h : ∀ x ∈ R, a ≤ x.b ∧ x.b ≤ x.e) : indS d ⟨(pgL a R).toArray⟩ = ⟨(pgL (a - d) R).toArray⟩ := by
  unfold indS
  rw [← indG_page d a R h]
end
/-! ### D5 -/
section
open PySem PySem.Calls PySem.W PyProof.Rows
section
variable {prog : Program} {w : World} {A : Around} {s₀ : Shared} {h₀ g : Heap} {L : Addr} {m : Str → Option Value} {mu : List (Addr × Ent)} {s : Shared}
def IsRD (h : Heap) (r : Addr) (n : Nat) : Prop := ∃ t u v, IsRange h r ((n : Int) - 1) (-1) (-1) t u v
theorem r_rangeD {a b c : Int} {n : Nat} {t u v : Tok} {Q : Value → Shared → Prop} (I : On s₀ h₀ g L m mu s) (ha : a = (n : Int) - 1) (hb : b = -1) (hc : c = -1) (hn : n ≤ 1000) (h : ∀ r g' s', Up g g' → IsRD g' r n → On s₀ h₀ g' L m mu s' → Q (.ref r) s') :
    WP (model prog w) A (call (.type "range") [.int a t, .int b u, .int c v]) Q No s := by
  simp only [WP_eq]
  subst hb hc
  refine call_range_3 (by decide) ?_ (Or.inl (PyProof.noPylong_small (by omega)))
  obtain ⟨g', u', e, J⟩ := I.push { cls := .type "range", data := .fields #[.int a t, .int (-1) u, .int (-1) v] }
  subst ha
  exact h _ g' _ u' ⟨_, _, _, e⟩ (J.tok _)
theorem it_rangeD {r : Addr} {n : Nat} {Q : Value → Shared → Prop} (I : On s₀ h₀ g L m mu s) (hh : A.handled = none) (hr : IsRD g r n) (hn : n ≤ 1000)
    (h : ∀ I It s', Iter prog w A s₀ h₀ L g I It n (fun i v => ∃ t, v = .int (((n : Int) - 1) + (i : Int) * (-1)) t) → On s₀ h₀ g L m ((I, It 0) :: mu) s' → Q (.ref I) s') : WP (model prog w) A (pyIter (.ref r)) Q No s := by
  obtain ⟨t, u, v, e⟩ := hr
  have es : Builtin.Range.rangeSize ((n : Int) - 1) (-1) (-1) = n := by unfold Builtin.Range.rangeSize; simp; omega
  refine it_range I (I.keep _ _ e) ?_ fun I' s' J => ?_
  · unfold Builtin.Range.small Builtin.Range.rangeFitsLong; rw [es]; simp; omega
  · refine h I' (fun i => .riter (((n : Int) - 1) + i * (-1)) ((n : Int) - i) (-1)) s' (Iter.range hh) ?_
    have e0 : ((n : Int) - 1) + ((0 : Nat) : Int) * (-1) = (n : Int) - 1 := by omega
    have e1 : (n : Int) - ((0 : Nat) : Int) = Builtin.Range.rangeSize ((n : Int) - 1) (-1) (-1) := by omega
    show On _ _ _ _ _ ((I', .riter (((n : Int) - 1) + ((0 : Nat) : Int) * (-1)) ((n : Int) - ((0 : Nat) : Int)) (-1)) :: mu) _
    rw [e0, e1]; exact J
end
def aheadOf (R : List Mt) (k : Nat) : Int := if k = 0 then 0 else (R.getD (k - 1) ⟨0, 0, 0⟩).b
def pageK (R : List Mt) (k : Nat) : Str := ⟨(pgL (aheadOf R k) (R.drop k)).toArray⟩
theorem pageK_end (R : List Mt) : pageK R R.length = Str.empty := by unfold pageK; rw [List.drop_length]; rfl
/-- what is asked of the row -/
structure RowOk (R : List Mt) : Prop where
  len : R.length ≤ 5
  lo : ∀ x ∈ R, 0 ≤ x.b ∧ x.b ≤ 16 ∧ x.b ≤ x.e ∧ x.e ≤ x.b + 4
  srt : ∀ (i j : Nat) (hi : i < j) (hj : j < R.length), R[i].b ≤ R[j].b
theorem aheadOf_le {R : List Mt} (h : RowOk R) {k : Nat} (hk : k ≤ R.length) : 0 ≤ aheadOf R k ∧ aheadOf R k ≤ 16 ∧ ∀ x ∈ R.drop k, aheadOf R k ≤ x.b := by
  unfold aheadOf
  split
  · refine ⟨by omega, by omega, fun x hx => (h.lo x (List.mem_of_mem_drop hx)).1⟩
  · have hk1 : k - 1 < R.length := by omega
    rw [List.getD_eq_getElem?_getD, List.getElem?_eq_getElem hk1, Option.getD_some]
    have := h.lo _ (List.getElem_mem hk1)
    refine ⟨this.1, this.2.1, fun x hx => ?_⟩
    obtain ⟨i, hi, rfl⟩ := List.getElem_of_mem hx
    rw [List.getElem_drop]
    rw [List.length_drop] at hi
    exact h.srt (k - 1) (k + i) (by omega) (by omega)
theorem pageK_len {R : List Mt} (h : RowOk R) {k : Nat} (hk : k ≤ R.length) : (pageK R k).length ≤ 300 := by
  show (pgL (aheadOf R k) (R.drop k)).toArray.size ≤ 300
  rw [List.size_toArray]
  have ha := aheadOf_le h hk
  have := pgL_len (aheadOf R k) (R.drop k) fun x hx => by
    have h1 := h.lo x (List.mem_of_mem_drop hx)
    have h2 := ha.2.2 x hx
    omega
  have hl := h.len
  rw [List.length_drop] at this
  omega
theorem pageK_step {R : List Mt} (h : RowOk R) {k : Nat} (hk : k < R.length) :
    indS (R[k].b - aheadOf R k).toNat ((repS 35 (R[k].e - R[k].b + 1).toNat ++ ⟨#[10, 10]⟩) ++ pageK R (k + 1)) = pageK R k := by
  have ha := aheadOf_le h (Nat.le_of_lt hk)
  have hb : aheadOf R (k + 1) = R[k].b := by unfold aheadOf; simp [hk]
  have hkb : aheadOf R k ≤ R[k].b := ha.2.2 _ (by rw [List.drop_eq_getElem_cons hk]; exact .head _)
  have e : (repS 35 (R[k].e - R[k].b + 1).toNat ++ ⟨#[10, 10]⟩) ++ pageK R (k + 1) = ⟨(pgL R[k].b (R.drop k)).toArray⟩ := by
    have e2 : pgL R[k].b (R.drop k) = List.replicate (R[k].e - R[k].b + 1).toNat 35 ++ [10, 10] ++ pgL R[k].b (R.drop (k + 1)) := by
      rw [List.drop_eq_getElem_cons hk]
      show lineA R[k].b R[k] ++ [10, 10] ++ pgL R[k].b (R.drop (k + 1)) = _
      unfold lineA
      rw [Int.sub_self]; rfl
    rw [e2]
    unfold pageK repS
    rw [hb]
    apply congrArg Str.mk
    apply Array.ext'
    simp [Str.cps_append]
  rw [e, indS_page _ _ _ fun x hx => ?_]
  · unfold pageK
    rw [show R[k].b - ((R[k].b - aheadOf R k).toNat : Int) = aheadOf R k by omega]
  · obtain ⟨i, hi, rfl⟩ := List.getElem_of_mem hx
    rw [List.getElem_drop]
    rw [List.length_drop] at hi
    have hle := (h.lo _ (List.getElem_mem (show k + i < R.length by omega)))
    refine ⟨?_, hle.2.2.1⟩
    cases i with
    | zero => exact Int.le_refl _
    | succ i => exact h.srt k (k + (i + 1)) (by omega) (by omega)
theorem page_all {R : List Mt} (h : RowOk R) : indS 4 (pageK R 0) = pageS R := by
  unfold pageK
  rw [List.drop_zero, show aheadOf R 0 = 0 from rfl, indS_page 4 0 R fun x hx => ⟨(h.lo x hx).1, (h.lo x hx).2.2.1⟩]
  show (⟨(pgL (0 - 4) R).toArray⟩ : Str) = ⟨(pageL R).toArray⟩
  rw [show ((0 : Int) - 4) = -4 by decide, pgL_four]
end
/-! ### C7 -/
section
open PySem PySem.Calls PySem.W PyProof.Rows
section
variable {prog : Program} {w : World} {A : Around} {s₀ s₁ : Shared} {h₀ g : Heap} {L C D : Addr} {m : Str → Option Value} {mu : List (Addr × Ent)} {s : Shared} {env : Env} {pos : Pos}
theorem r_compT {elt target iter : Expr} {ifs : List Expr} {scope : Scope} (cl : List (Str × Addr)) {n : Nat} {val : Nat → Value → Prop} {Q : Value → Shared → Prop}
    (P : (Str → Option Value) → Addr → List (Addr × Ent) → Prop) (Y : Nat → List Value → Prop)
    (h : WP (model prog w) A (eval iter env) (fun x s₁ => SrcT prog w A s₁ x n val target ∧
      (∀ C i v m mu g' J s, i < n → val i v → Up s₁.heap g' → P m C mu → On s₁ s₁.heap g' C m (mu ++ J) s →
        WP (model prog w) A (assign target (cEnv scope cl C env) v) (fun _ s₂ => WP (model prog w) A (tst ifs (cEnv scope cl C env)) (fun ok s₃ =>
          if ok = true then WP (model prog w) A (eval elt (cEnv scope cl C env)) (fun y s₄ => (∀ ys, Y i ys → Y (i + 1) (ys ++ [y])) ∧ ∃ m' mu' g'', Up g' g'' ∧ P m' C mu' ∧ On s₁ s₁.heap g'' C m' (mu' ++ J) s₄) No s₃
          else (∀ ys, Y i ys → Y (i + 1) ys) ∧ ∃ m' mu' g'', Up g' g'' ∧ P m' C mu' ∧ On s₁ s₁.heap g'' C m' (mu' ++ J) s₃) No s₂) No s) ∧
      (∀ D ys s, s₁.heap.get? D = none → Y n ys → IsL s.heap D ys → Keeps s₁ s → Q (.ref D) s)) No s)
    (hn : n ≤ 1000) (hP : ∀ C, P (fun _ => none) C (cellMu (C + 1) scope.names [])) (hY : Y 0 [])
    (hclos : closureFor scope env = pure cl := by rfl) (hk : scope.kind = .function := by rfl)
    (hnames : ∀ y ∈ scope.names, y.2 = .local → scope.names.lookup y.1 = some .local := by decide) (hs : ∀ x, foldedSetIterable iter env x = pure x := by intro _; rfl) :
    WP (model prog w) A (eval (.ListComp elt [⟨target, iter, ifs, 0⟩] scope pos) env) Q No s := by
  simp only [WP_eq] at *
  rw [eval_ListComp]
  refine wpAny_comprehension_free (use := none) rfl hs hclos hk hnames (wpAny_mono h (fun x s₁ h₁ => ?_) fun _ _ e => e)
  obtain ⟨S, turn, hQ⟩ := h₁
  refine comp_coreT (RR := fun acc C => compPost (model prog w) A No none Q acc C) P Y S hn hP hY (by simp only [WP_eq]; exact turn) ?_ hk
  intro D C ys m s hD hC hDC y ns hl K
  obtain ⟨h', tk, rfl, hk'⟩ := K
  refine ⟨m, ns, fun h'' hs'' => hQ D ys _ hD y ?_ ⟨h'', tk, rfl, fun b o e => hs''.extBut b o (by rintro rfl; rw [hC] at e; cases e) (hk' b o e)⟩⟩
  obtain ⟨k, hl⟩ := hl
  exact ⟨k, hs''.extBut _ _ hDC hl⟩

end
end
/-! ### D6 -/
local macro_rules | `(tactic| walk_at "go") => `(tactic| first
  | ((with_reducible show WP _ _ (callWith _ (Value.ref 44) [] _ []) _ _ _); refine cw_def fIndent ?_)
  | ((with_reducible show FnIn _ 44 _ ∧ _); refine ⟨FnIn.up (Wd.indent (by assumption)) (On.keep (by assumption)), ?_⟩))
section
open PySem PySem.Calls PySem.W PyProof.Rows
section
variable {prog : Program} {w : World} {A : Around} {s : Shared} {mg mb : Str → Option Value} {fw : Addr × Addr}
local macro_rules | `(tactic| walk_at "go") => `(tactic| ((with_reducible show WP _ _ (eval (Expr.Name (Str.ofString "row") _) (callEnvC _ _ _)) _ _ _); refine r_cell (by assumption) (by first | exact .head _ | exact .tail _ (.head _)) rfl ?_))
local macro_rules | `(tactic| walk_at "up") => `(tactic| first | assumption | exact Up.rfl | (refine Up.trans (by assumption) ?_; walk_at "up"))
def lineN (x : Mt) : Str := (repS 32 (x.b + 4).toNat ++ repS 35 (x.e - x.b + 1).toNat) ++ ⟨#[10, 10]⟩
theorem lineN_len {x : Mt} (h : 0 ≤ x.b ∧ x.b ≤ 16 ∧ x.b ≤ x.e ∧ x.e ≤ x.b + 4) : (lineN x).length ≤ 40 := by
  unfold lineN
  rw [Str.length_append, Str.length_append, repS_len, repS_len]
  show _ + 2 ≤ 40
  omega
theorem lineN_sum {R : List Mt} (h : RowOk R) : ((R.map lineN).map (·.length)).sum + (R.map lineN).length ≤ 1048576 := by
  have e : ∀ l : List Mt, (∀ x ∈ l, (lineN x).length ≤ 40) → ((l.map lineN).map (·.length)).sum ≤ l.length * 40 := by
    intro l
    induction l with
    | nil => intro _; simp
    | cons x l ih =>
      intro hl
      have h1 := hl x (.head _)
      have h2 := ih fun y hy => hl y (.tail _ hy)
      simp only [List.map_cons, List.sum_cons, List.length_cons] at h2 ⊢
      omega
  have := e R fun x hx => lineN_len (h.lo x hx)
  have := h.len
  rw [List.length_map]; omega
theorem empty_is : Str.ofString "" = Str.empty := by decide +kernel
theorem lineN_cps (x : Mt) : (lineN x).cps.toList = lineL x ++ [10, 10] := by
  unfold lineN repS lineL
  simp [Str.cps_append]
theorem join_cps : ∀ R : List Mt, (Str.join Str.empty (R.map lineN)).cps.toList = pageL R
  | [] => rfl
  | [x] => by
    show (Str.join Str.empty [lineN x]).cps.toList = _
    rw [join1, lineN_cps]; simp [pageL]
  | x :: y :: R => by
    have ih := join_cps (y :: R)
    show (Str.join Str.empty (lineN x :: lineN y :: R.map lineN)).cps.toList = _
    rw [join2]
    have ih' : (Str.join Str.empty (lineN y :: R.map lineN)).cps.toList = pageL (y :: R) := ih
    simp only [Str.cps_append, Array.toList_append, ih', lineN_cps]
    simp [Str.empty, pageL]
theorem join_all (R : List Mt) : Txt.join (Str.ofString "") (R.map lineN) = pageS R := by
  rw [empty_is]
  show Builtin.Str.glued Str.empty (R.map lineN) = pageS R
  rw [StrLaws.glued_eq_join]
  unfold pageS
  rw [← join_cps R]
theorem r_joinL {prog : Program} {w : World} {A : Around} {s₀ : Shared} {h₀ g : Heap} {L : Addr} {m : Str → Option Value} {mu : List (Addr × Ent)} {s : Shared} {D : Addr} {vs : List Value} {ys : List Str} {t : Tok} {Q : Value → Shared → Prop} (I : On s₀ h₀ g L m mu s) (hl : IsL s.heap D vs) (hi : StrsAre vs ys) (hw : (ys.map (·.length)).sum + ys.length ≤ 1048576)
    (h : ∀ s' t', On s₀ h₀ g L m mu s' → Q (.str (Txt.join (Str.ofString "") ys) t') s') : WP (model prog w) A (call (.builtin "str.join") [.str (Str.ofString "") t, .ref D]) Q No s := by
  simp only [WP_eq]
  exact join_listW hl.isList (by simpa using hi) (by decide) hw fun t' k => h _ t' (I.tok k)
theorem strs_snoc : ∀ {vs : List Value} {ys : List Str}, StrsAre vs ys → ∀ (y : Str) (t : Tok), StrsAre (vs ++ [.str y t]) (ys ++ [y])
  | _, _, .nil, y, t => .cons y t .nil
  | _, _, .cons a b h, y, t => .cons a b (strs_snoc h y t)
theorem r_neS {prog : Program} {w : World} {A : Around} {s : Shared} {x : Str} {t u : Tok} {Q : Value → Shared → Prop} (h : Q (.bool false) s) : WP (model prog w) A (compareOp .NotEq (.str x t) (.str x u)) Q No s := by
  simp only [WP_eq]
  exact P.ne_str (by rw [show (x.cps.toList != x.cps.toList) = false by simp]; exact h)
theorem nn_is : Str.ofString "\n\n" = ⟨#[10, 10]⟩ := by decide +kernel
theorem ahead_ok {n : Nat} {s₀ : Shared} {h₀ g : Heap} {L ra : Addr} {m : Str → Option Value} {mu : List (Addr × Ent)} {R : List Mt} {k : Nat} {tk : Tok} {p1 p2 p3 q1 q2 q3 q4 q5 q6 q7 q8 q9 : Pos} {k1 k2 k3 k4} {Q : Value → Shared → Prop} (hA : Fine n A) (W : Wd mg mb g) (N' : Nm mg mb)
    (I : On s₀ h₀ g L m ((L + 1, .cell (some (.ref ra))) :: mu) s) (hk : m "k" = some (.int (k : Int) tk)) (hra : IsL g ra (refs R)) (hRi : ∀ x ∈ R, x.In g) (hkR : k < R.length) (hz : R.length ≤ 5) (h : ∀ s' t, On s₀ h₀ g L m ((L + 1, .cell (some (.ref ra))) :: mu) s' → Q (.int (aheadOf R k) t) s') :
    WP (model prog w) A (eval (.IfExp (.Compare (.Name (Str.ofString "k") p1) [.Gt] [.Constant (.int 0) k1 p2] p3) (.Subscript (.Subscript (.Name (Str.ofString "row") q1) (.BinOp (.Name (Str.ofString "k") q2) .Sub (.Constant (.int 1) k2 q3) q4) q5) (.Constant (.int 0) k3 q6) q7) (.Constant (.int 0) k4 q8) q9) (eLaw L fw)) Q No s := by
  repeat' walk_at "go"
  · have hk0 : 0 < k := by omega
    have hk1 : k - 1 < R.length := by omega
    obtain ⟨t, u, hT⟩ := hRi _ (List.getElem_mem hk1)
    refine r_itemL (IsL.on (by assumption) hra Up.rfl) (by omega) (by omega) (v := .ref R[k - 1].a) (by rw [show ((k : Int) - 1).toNat = k - 1 by omega]; exact refs_get hk1) ?_
    repeat' walk_at "go"
    have O := (by assumption : On s₀ h₀ g L m _ _)
    refine r_itemT (hT.up O.keep) (by decide) (by decide) rfl ?_
    have e : aheadOf R k = R[k - 1].b := by
      unfold aheadOf
      rw [if_neg (by omega), List.getD_eq_getElem?_getD, List.getElem?_eq_getElem hk1]; rfl
    have := h _ t O
    rw [e] at this
    exact this
  · have e : aheadOf R k = 0 := by unfold aheadOf; rw [if_pos (by omega)]
    have O := (by assumption : On s₀ h₀ g L m _ _)
    have := h _ (by assumption) O
    rw [e] at this
    exact this
local macro_rules | `(tactic| walk_at "go") => `(tactic| ((with_reducible show WP _ _ (eval (Expr.IfExp _ _ _ _) _) _ _ _); refine ahead_ok (by assumption) (by assumption) (by assumption) (by assumption) rfl (by assumption) (by assumption) (by assumption) (by assumption) ?_; intro _ _ _))
set_option maxHeartbeats 8000000 in
theorem t5 {n N : Nat} {s₀ : Shared} {h₀ g : Heap} {L ra ea : Addr} {m : Str → Option Value} {mu : List (Addr × Ent)} {R E : List Mt} {v3 : Option Value} (hA : Fine n A) (W : Wd mg mb g) (N' : Nm mg mb) (Dg : Df g) (X : Rx w.params g) (hd : IsT g 37 [.int 4 304])
    (I : On s₀ h₀ g L m ((L + 1, .cell (some (.ref ra))) :: (L + 2, .cell (some (.ref ea))) :: (L + 3, .cell v3) :: mu) s) (hra : IsL g ra (refs R)) (hea : IsL g ea (refs E))
    (hok : RowOk R) (hlR : R.length = N) (hlE : E.length = N) (hRi : ∀ x ∈ R, x.In g) (hEi : ∀ x ∈ E, x.In g)
    (hsE : ∀ (i j : Nat) (hi : i < j) (hj : j < E.length), E[i].e ≤ E[j].e)
    (hp : ((List.range N).map (stillF R E)).Perm ((List.range N).map (alreadyF R E)))
    (eq : ∀ r : Nat, r ≤ N → prodS ((List.range N).map (stillF R E)) r N = sumC (nats ((List.range (N + 1)).map (countOf (parts (MR R) N)))) r (N + 1)) (hn : n < 500 := by omega) :
    WP (model prog w) A (execs (lawRest 5) (eLaw L fw)) (True1 s₀ h₀) No s := by
  have hh := hA.h
  have hN : N ≤ 5 := hlR ▸ hok.len
  have hzR : (refs R).length ≤ 100000 := by unfold refs; rw [List.length_map]; omega
  have hRl : (refs R).length = N := by unfold refs; rw [List.length_map]; exact hlR
  conv in lawRest _ => whnf
  repeat' walk_at "go"
  refine r_lenL (by assumption) (IsL.on (by assumption) hra (by walk_at "up")) hzR ?_
  intro _ _ _
  repeat' walk_at "go"
  refine r_rangeD (n := N) (by assumption) (by omega) (by omega) (by omega) (by omega) ?_
  intro r1 g1 s1 u1 hr1 O1
  refine it_rangeD O1 hh hr1 (by omega) ?_
  intro I2 It2 s2 WI2 O2
  refine for_loopQ (fun i m mu' _ => (∃ t, m "page" = some (.str (pageK R (N - i)) t)) ∧ mu' = (L + 1, .cell (some (.ref ra))) :: (L + 2, .cell (some (.ref ea))) :: (L + 3, .cell v3) :: mu) WI2 ?st2 O2 ?turn2 ?done2 (by intro _; rfl)
  case st2 => exact ⟨⟨_, by rw [Nat.sub_zero, ← hlR, pageK_end]; rfl⟩, rfl⟩
  case turn2 =>
    rintro i v m3 mu3 g3 s3 K3 hi ⟨t3, rfl⟩ u3 ⟨⟨tp, hp3⟩, rfl⟩ O3 Q2 hQ2
    simp only [List.cons_append] at O3
    have W3 : Wd mg mb g3 := W.up (u1.trans u3)
    obtain ⟨k, hk⟩ : ∃ k : Nat, N - i = k + 1 := ⟨N - i - 1, by omega⟩
    have hkR : k < R.length := by omega
    rw [hk] at hp3
    rw [show ((N : Int) - 1 + (i : Int) * -1) = (k : Int) by omega] at *
    have hra3 := hra.up (u1.trans u3)
    have hRi3 : ∀ x ∈ R, x.In g3 := fun x hx => (hRi x hx).up (u1.trans u3)
    have hR5 := hok.len
    repeat' walk_at "go"
    obtain ⟨tb, te, hT⟩ := hRi3 _ (List.getElem_mem hkR)
    have hlo := hok.lo _ (List.getElem_mem hkR)
    have hah := aheadOf_le hok (Nat.le_of_lt hkR)
    have hbk : aheadOf R k ≤ R[k].b := hah.2.2 _ (by rw [List.drop_eq_getElem_cons hkR]; exact .head _)
    refine r_itemL (IsL.on (by assumption) hra3 Up.rfl) (by omega) (by omega) (refs_get hkR) ?_
    repeat' walk_at "go"
    have O4 := (by assumption : On s₀ h₀ g3 L _ _ _)
    refine r_itemT (hT.up O4.keep) (by decide) (by decide) rfl ?_
    repeat' walk_at "go"
    refine r_itemL (IsL.on (by assumption) hra3 Up.rfl) (by omega) (by omega) (refs_get hkR) ?_
    repeat' walk_at "go"
    have O5 := (by assumption : On s₀ h₀ g3 L _ _ _)
    refine r_itemT (hT.up O5.keep) (by decide) (by decide) rfl ?_
    repeat' walk_at "go"
    rw [hash_eq]
    refine r_mulSI (by assumption) (by omega) ?_
    intro _ _ _
    repeat' walk_at "go"
    rw [nn_is]
    have hpk := pageK_len hok (k := k + 1) (by omega)
    have hl1 : (repS 35 (R[k].e - R[k].b + 1).toNat).length ≤ 10 := by rw [repS_len]; omega
    have hl2 : (⟨#[10, 10]⟩ : Str).length = 2 := rfl
    refine r_cat (by assumption) (by rw [sizeLine_eq]; omega) ?_
    intro _ _ _
    repeat' walk_at "go"
    have hl3 : (repS 35 (R[k].e - R[k].b + 1).toNat ++ (⟨#[10, 10]⟩ : Str)).length ≤ 12 := by rw [Str.length_append]; omega
    refine r_itemL (IsL.on (by assumption) hra3 Up.rfl) (by omega) (by omega) (refs_get hkR) ?_
    repeat' walk_at "go"
    have O6 := (by assumption : On s₀ h₀ g3 L _ _ _)
    refine r_itemT (hT.up O6.keep) (by decide) (by decide) rfl ?_
    repeat' walk_at "go"
    have O7 := (by assumption : On s₀ h₀ g3 L _ _ _)
    refine indent2_ok hA (W3.up O7.keep) N' ((X.up (u1.trans u3)).up O7.keep) ((hd.up (u1.trans u3)).up O7.keep) (by omega) (by rw [Str.length_append]; omega) ?_ (by omega)
    intro s8 t8 K8
    have O8 := O7.keeps K8
    rw [pageK_step hok hkR]
    repeat' walk_at "go"
    have O9 := (by assumption : On s₀ h₀ g3 L _ _ _)
    refine (hQ2 _ ?_).1
    refine' ⟨_, _, g3, Up.rfl, ⟨?w1, rfl⟩, ?won⟩
    case won => exact O9
    case w1 => exact ⟨_, by rw [show N - (i + 1) = k by omega]; rfl⟩
  case done2 =>
    rintro m3 mu3 g3 s3 u3 ⟨⟨tp, hp3⟩, rfl⟩ O3
    have W3 : Wd mg mb g3 := W.up (u1.trans u3)
    rw [Nat.sub_self] at hp3
    repeat' walk_at "go"
    refine indent1_ok hA (W3.up O3.keep) N' ((X.up (u1.trans u3)).up O3.keep) ((hd.up (u1.trans u3)).up O3.keep) (by have := pageK_len hok (k := 0) (by omega); omega) ?_ (by omega)
    intro s4 t4 K4
    have O4 := O3.keeps K4
    rw [page_all hok]
    repeat' walk_at "go"
    refine gm_join ?_
    repeat' walk_at "go"
    refine r_compT [] (n := (refs R).length) (val := fun i v => (refs R)[i]? = some v) (fun _ _ mu => mu = []) (fun q ys => StrsAre ys ((R.take q).map lineN)) ?jc (by omega) (fun C => rfl) .nil
    case jc =>
      repeat' walk_at "go"
      have O5 := (by assumption : On s₀ h₀ g3 L _ _ _)
      refine ⟨SrcT.list hh (IsL.on O5 hra (u1.trans u3)) (fun v hv => ?refs), ?turnJ, ?doneJ⟩
      case refs =>
        unfold refs at hv
        obtain ⟨x, _, rfl⟩ := List.mem_map.mp hv
        exact ⟨_, rfl⟩
      case turnJ =>
        rintro C q v mC _ gC J sC hq hv uC rfl OC
        simp only [List.nil_append] at OC
        have hqR : q < R.length := by omega
        have hv2 : v = .ref R[q].a := by rw [refs_get hqR] at hv; exact (Option.some.inj hv).symm
        subst hv2
        obtain ⟨tb, te, hT⟩ := (hRi _ (List.getElem_mem hqR)).up (u1.trans (u3.trans (O5.keep.trans uC)))
        repeat' walk_at "go"
        have hlo := hok.lo _ (List.getElem_mem hqR)
        rw [sp_is]
        refine r_mulSI (by assumption) (by omega) ?_
        intro _ _ _
        repeat' walk_at "go"
        rw [hash_eq]
        refine r_mulSI (by assumption) (by omega) ?_
        intro _ _ _
        have hl1 : (repS 32 (R[q].b + 4).toNat).length ≤ 30 := by rw [repS_len]; omega
        have hl2 : (repS 35 (R[q].e - R[q].b + 1).toNat).length ≤ 10 := by rw [repS_len]; omega
        have hl3 : (⟨#[10, 10]⟩ : Str).length = 2 := rfl
        repeat' walk_at "go"
        rw [nn_is]
        refine r_cat (by assumption) (by rw [Str.length_append, sizeLine_eq]; omega) ?_
        intro _ _ _
        refine ⟨fun ys hy => ?_, _, [], _, Up.rfl, rfl, (by assumption)⟩
        rw [List.take_succ_eq_append_getElem hqR, List.map_append]
        exact strs_snoc hy _ _
      case doneJ =>
        intro D6 ys s6 hD6 hys hlD6 K6
        obtain ⟨g7, u7, hlD7, O7⟩ := O5.gain K6 hD6 hlD6
        repeat' walk_at "go"
        have hys' : StrsAre ys (R.map lineN) := by rw [hRl, ← hlR, List.take_length] at hys; exact hys
        refine r_joinL O7 (IsL.on O7 hlD7 Up.rfl) hys' (lineN_sum hok) ?_
        intro s8 t8 O8
        rw [join_all]
        repeat' walk_at "go"
        refine r_neS ?_
        refine r_tb ?_
        refine ite_neg (by decide) ?_
        walk_at "go"
        have up7 : Up g g7 := u1.trans (u3.trans u7)
        refine t9 (N := N) hA (W.up up7) N' (Dg.up up7) O8 rfl (hra.up up7) (hea.up up7) hN hlR hlE (fun x hx => (hRi x hx).up up7) (fun x hx => (hEi x hx).up up7) ?_ ?_ hok.srt hsE hp eq (by omega)
        · rw [← pgL_four]
          have := pgL_len (-4) R fun x hx => by have := hok.lo x hx; omega
          have := hok.len; omega
        · intro x hx
          have := hok.lo x hx
          unfold lineL
          simp only [List.length_append, List.length_replicate]; omega
end
end
/-! ### T3 -/
section
open PySem PySem.Calls PySem.W PyProof.Rows
/-! ## all is a function of the vector c -/
def ins1 (x : Nat) : List Nat → List Nat
  | [] => [x]
  | y :: l => if x ≤ y then x :: y :: l else y :: ins1 x l
def isort : List Nat → List Nat
  | [] => []
  | x :: l => ins1 x (isort l)
def stillC (cs : List Nat) (k : Nat) : Int := (k : Int) - ((cs.filter fun c => decide (c ≤ k)).length : Nat)
def alreadyC (cs : List Nat) (k : Nat) : Int := ((isort cs).getD k 0 : Nat) - k - 1
def MC (cs : List Nat) (k j : Nat) : Bool := decide (k < cs.getD j 0)
/-- the vectors with i + k < c_k ≤ N, from the end -/
def cands (N : Nat) : Nat → List (List Nat)
  | 0 => [[]]
  | k + 1 => (cands N k).flatMap fun l => (List.range (k + 1)).map fun d => (N - d) :: l
def good (N : Nat) (cs : List Nat) : Bool :=
  ((List.range N).map (stillC cs)).isPerm ((List.range N).map (alreadyC cs)) &&
  (List.range (N + 1)).all fun r => prodS ((List.range N).map (stillC cs)) r N == sumC (nats ((List.range (N + 1)).map (countOf (parts (MC cs) N)))) r (N + 1)
theorem good0 : (cands 0 0).all (good 0) = true := by decide +kernel
theorem good1 : (cands 1 1).all (good 1) = true := by decide +kernel
theorem good2 : (cands 2 2).all (good 2) = true := by decide +kernel
theorem good3 : (cands 3 3).all (good 3) = true := by decide +kernel
theorem good4 : (cands 4 4).all (good 4) = true := by decide +kernel
theorem good5 : (cands 5 5).all (good 5) = true := by decide +kernel
theorem good_all {N : Nat} (h : N ≤ 5) : (cands N N).all (good N) = true := by
  have : N = 0 ∨ N = 1 ∨ N = 2 ∨ N = 3 ∨ N = 4 ∨ N = 5 := by omega
  rcases this with rfl | rfl | rfl | rfl | rfl | rfl
  · exact good0
  · exact good1
  · exact good2
  · exact good3
  · exact good4
  · exact good5
theorem mem_cands {N : Nat} : ∀ (k : Nat) (l : List Nat), k ≤ N → l.length = k → (∀ (i : Nat) (h : i < l.length), N - k + i < l[i] ∧ l[i] ≤ N) → l ∈ cands N k
  | 0, l, _, hl, _ => by rw [List.length_eq_zero_iff.mp hl]; exact .head _
  | k + 1, [], _, hl, _ => by cases hl
  | k + 1, x :: l, hk, hl, h => by
    unfold cands
    rw [List.mem_flatMap]
    refine ⟨l, mem_cands k l (by omega) (by simpa using hl) fun i hi => ?_, ?_⟩
    · have := h (i + 1) (by simpa using hi)
      simp only [List.getElem_cons_succ] at this
      omega
    · have hx : N - (k + 1) + 0 < x ∧ x ≤ N := h 0 (Nat.zero_lt_succ _)
      rw [List.mem_map]
      refine ⟨N - x, List.mem_range.mpr (by omega), ?_⟩
      rw [show N - (N - x) = x by omega]
theorem cut_ex : ∀ (R : List Mt) (X : Int), R.Pairwise (fun x y => x.b ≤ y.b) → ∃ p, p ≤ R.length ∧ ∀ (i : Nat) (hi : i < R.length), R[i].b ≤ X ↔ i < p
  | [], _, _ => ⟨0, Nat.le_refl _, fun i hi => absurd hi (Nat.not_lt_zero _)⟩
  | x :: R, X, h => by
    rw [List.pairwise_cons] at h
    by_cases q : x.b ≤ X
    · obtain ⟨p, hp, hc⟩ := cut_ex R X h.2
      refine ⟨p + 1, Nat.succ_le_succ hp, fun i hi => ?_⟩
      cases i with
      | zero => simpa using q
      | succ i => simp only [List.getElem_cons_succ]; rw [hc i (by simpa using hi)]; omega
    · refine ⟨0, Nat.zero_le _, fun i hi => ?_⟩
      cases i with
      | zero => simpa using q
      | succ i =>
        have hi' : i < R.length := by simpa using hi
        have := h.1 R[i] (List.getElem_mem _)
        simp only [List.getElem_cons_succ]; omega
theorem srt_pair {R : List Mt} (h : ∀ (i j : Nat) (hi : i < j) (hj : j < R.length), R[i].b ≤ R[j].b) : R.Pairwise (fun x y => x.b ≤ y.b) :=
  List.pairwise_iff_getElem.mpr fun i j _ hj hij => h i j hij hj
theorem cR_iff {R : List Mt} (h : RowOk R) (X : Int) : cR R X ≤ R.length ∧ ∀ (i : Nat) (hi : i < R.length), R[i].b ≤ X ↔ i < cR R X := by
  obtain ⟨p, hp, hc⟩ := cut_ex R X (srt_pair h.srt)
  have e : cR R X = p := cut_count _ R p hp (fun i hi q => by simpa using (hc i hi).mpr q) (fun i hi q => by
    have := mt (hc i hi).mp (by omega)
    simpa using this)
  rw [e]; exact ⟨hp, hc⟩
def csOf (R : List Mt) : List Nat := R.map fun x => cR R x.e
theorem cs_mem {R : List Mt} (h : RowOk R) : csOf R ∈ cands R.length R.length := by
  refine mem_cands _ _ (Nat.le_refl _) (by unfold csOf; simp) fun i hi => ?_
  have hi' : i < R.length := by unfold csOf at hi; simpa using hi
  have e : (csOf R)[i] = cR R R[i].e := by simp [csOf]
  rw [e]
  have := cR_iff h R[i].e
  have h2 := (this.2 i hi').mp (h.lo _ (List.getElem_mem hi')).2.2.1
  exact ⟨by omega, this.1⟩
theorem good_cs {R : List Mt} (h : RowOk R) : good R.length (csOf R) = true := List.all_eq_true.mp (good_all h.len) _ (cs_mem h)
theorem flatMap_congr' {α β : Type} {f f' : α → List β} : ∀ {l : List α}, (∀ x ∈ l, f x = f' x) → l.flatMap f = l.flatMap f'
  | [], _ => rfl
  | x :: l, h => by rw [List.flatMap_cons, List.flatMap_cons, h x (.head _), flatMap_congr' fun y hy => h y (.tail _ hy)]
theorem parts_congr {M M' : Nat → Nat → Bool} {N : Nat} (h : ∀ k j, j < k → k < N → M k j = M' k j) : ∀ n, n ≤ N → parts M n = parts M' n
  | 0, _ => rfl
  | n + 1, hn => by
    have ih := parts_congr h n (by omega)
    show (parts M n).flatMap (adds M n) = (parts M' n).flatMap (adds M' n)
    rw [← ih]
    have e : ∀ S ∈ parts M n, adds M n S = adds M' n S := fun S hS => by
      have hx := (parts_ok n S hS).2
      have hf : ∀ p, addAt M n S p = addAt M' n S p := fun p => by
        unfold addAt
        have : fits M n (S.getD p []) = fits M' n (S.getD p []) := by
          unfold fits
          rcases Nat.lt_or_ge p S.length with q | q
          · rw [List.getD_eq_getElem?_getD, List.getElem?_eq_getElem q, Option.getD_some]
            rw [List.filter_congr fun x hx' => h n x (hx _ (List.getElem_mem q) x hx') (by omega)]
          · rw [List.getD_eq_getElem?_getD, List.getElem?_eq_none q]; rfl
        rw [this]
      unfold adds
      rw [flatMap_congr' fun p _ => hf p]
    exact flatMap_congr' e
end
/-! ### T4 -/
section
open PySem PySem.Calls PySem.W PyProof.Rows
theorem getD_lt {R : List Mt} {k : Nat} (h : k < R.length) : R.getD k ⟨0, 0, 0⟩ = R[k] := by
  rw [List.getD_eq_getElem?_getD, List.getElem?_eq_getElem h]; rfl
theorem still_eq {R E : List Mt} (h : RowOk R) (p : E.Perm R) {k : Nat} (hk : k < R.length) : stillF R E k = stillC (csOf R) k := by
  unfold stillF stillC cL csOf
  rw [getD_lt hk, List.filter_map, List.length_map, (p.filter _).length_eq]
  congr 2
  congr 1
  apply List.filter_congr
  intro x _
  have := (cR_iff h x.e).2 k hk
  simp only [Function.comp]
  by_cases q : x.e < R[k].b
  · have : ¬ k < cR R x.e := fun z => by have := this.mpr z; omega
    simp [q]; omega
  · have : k < cR R x.e := this.mp (by omega)
    simp [q]; omega
theorem cR_mono {R : List Mt} (h : RowOk R) {X Y : Int} (hxy : X ≤ Y) : cR R X ≤ cR R Y := by
  rcases Nat.eq_zero_or_pos (cR R X) with q | q
  · omega
  · have h1 := cR_iff h X
    have h2 := cR_iff h Y
    have hi : cR R X - 1 < R.length := by omega
    have := (h1.2 _ hi).mpr (by omega)
    have := (h2.2 _ hi).mp (by omega)
    omega
theorem ins1_perm (x : Nat) : ∀ l, (ins1 x l).Perm (x :: l)
  | [] => .refl _
  | y :: l => by
    unfold ins1
    split
    · exact .refl _
    · exact ((ins1_perm x l).cons y).trans (.swap x y l)
theorem isort_perm : ∀ l, (isort l).Perm l
  | [] => .refl _
  | x :: l => (ins1_perm x (isort l)).trans ((isort_perm l).cons x)
theorem ins1_sorted (x : Nat) : ∀ l, l.Pairwise (· ≤ ·) → (ins1 x l).Pairwise (· ≤ ·)
  | [], _ => by simp [ins1]
  | y :: l, h => by
    unfold ins1
    rw [List.pairwise_cons] at h
    split
    · rename_i q
      refine List.pairwise_cons.mpr ⟨fun z hz => ?_, List.pairwise_cons.mpr h⟩
      rcases List.mem_cons.mp hz with rfl | hz
      · exact q
      · exact Nat.le_trans q (h.1 z hz)
    · rename_i q
      refine List.pairwise_cons.mpr ⟨fun z hz => ?_, ins1_sorted x l h.2⟩
      rcases List.mem_cons.mp ((ins1_perm x l).mem_iff.mp hz) with rfl | hz
      · omega
      · exact h.1 z hz
theorem isort_sorted : ∀ l, (isort l).Pairwise (· ≤ ·)
  | [] => .nil
  | x :: l => ins1_sorted x _ (isort_sorted l)
theorem already_eq {R E : List Mt} (h : RowOk R) (p : E.Perm R) (hs : ∀ (i j : Nat) (hi : i < j) (hj : j < E.length), E[i].e ≤ E[j].e) {k : Nat} (hk : k < R.length) : alreadyF R E k = alreadyC (csOf R) k := by
  have hkE : k < E.length := by rw [p.length_eq]; exact hk
  have e : E.map (fun x => cR R x.e) = isort (csOf R) := by
    refine List.Perm.eq_of_pairwise (le := (· ≤ ·)) (fun a b _ _ h1 h2 => Nat.le_antisymm h1 h2) ?_ (isort_sorted _) ?_
    · rw [List.pairwise_map]
      exact List.pairwise_iff_getElem.mpr fun i j _ hj hij => cR_mono h (hs i j hij hj)
    · exact (p.map _).trans (isort_perm _).symm
  unfold alreadyF alreadyC
  rw [← e, getD_lt hkE, List.getD_eq_getElem?_getD, List.getElem?_map, List.getElem?_eq_getElem hkE]
  rfl
theorem line_at {x : Mt} (h : 0 ≤ x.b ∧ x.b ≤ x.e) (c : Nat) : ((lineL x)[c]? == some 35) = decide (x.b + 4 ≤ c ∧ (c : Int) ≤ x.e + 4) := by
  unfold lineL
  rw [List.getElem?_append]
  simp only [List.length_replicate, List.getElem?_replicate]
  split
  · rename_i q
    simp; omega
  · rename_i q
    split
    · rename_i r; simp; omega
    · rename_i r; simp; omega
theorem mr_eq {R : List Mt} (h : RowOk R) {k j : Nat} (hj : j < k) (hk : k < R.length) : MR R k j = MC (csOf R) k j := by
  have hjR : j < R.length := by omega
  have hk1 := h.lo _ (List.getElem_mem hk)
  have hj1 := h.lo _ (List.getElem_mem hjR)
  have hjk := h.srt j k hj hk
  have hc := (cR_iff h R[j].e).2 k hk
  unfold MR MC csOf anyHit
  rw [getD_lt hk, getD_lt hjR, List.getD_eq_getElem?_getD, List.getElem?_map, List.getElem?_eq_getElem hjR]
  simp only [Option.map_some, Option.getD_some]
  have hl : ∀ x : Mt, (lineL x).length = (x.b + 4).toNat + (x.e - x.b + 1).toNat := fun x => by unfold lineL; simp
  rw [Bool.eq_iff_iff, List.any_eq_true, decide_eq_true_iff, ← hc]
  constructor
  · rintro ⟨c, _, hh⟩
    unfold hitC at hh
    rw [line_at ⟨hk1.1, hk1.2.2.1⟩, line_at ⟨hj1.1, hj1.2.2.1⟩] at hh
    simp at hh
    omega
  · intro q
    refine ⟨(R[k].b + 4).toNat, ?_, ?_⟩
    · rw [List.mem_range, hl, hl]; omega
    · unfold hitC
      rw [line_at ⟨hk1.1, hk1.2.2.1⟩, line_at ⟨hj1.1, hj1.2.2.1⟩]
      simp; omega
/-- the two plain facts -/
theorem plain {R E : List Mt} (h : RowOk R) (p : E.Perm R) (hs : ∀ (i j : Nat) (hi : i < j) (hj : j < E.length), E[i].e ≤ E[j].e) :
    ((List.range R.length).map (stillF R E)).Perm ((List.range R.length).map (alreadyF R E)) ∧
    ∀ r : Nat, r ≤ R.length → prodS ((List.range R.length).map (stillF R E)) r R.length = sumC (nats ((List.range (R.length + 1)).map (countOf (parts (MR R) R.length)))) r (R.length + 1) := by
  have g := good_cs h
  unfold good at g
  rw [Bool.and_eq_true] at g
  have e1 : (List.range R.length).map (stillF R E) = (List.range R.length).map (stillC (csOf R)) := List.map_congr_left fun k hk => still_eq h p (List.mem_range.mp hk)
  have e2 : (List.range R.length).map (alreadyF R E) = (List.range R.length).map (alreadyC (csOf R)) := List.map_congr_left fun k hk => already_eq h p hs (List.mem_range.mp hk)
  have e3 : parts (MR R) R.length = parts (MC (csOf R)) R.length := parts_congr (fun k j hj hk => mr_eq h hj hk) _ (Nat.le_refl _)
  rw [e1, e2, e3]
  refine ⟨List.isPerm_iff.mp g.1, fun r hr => ?_⟩
  have := List.all_eq_true.mp g.2 r (List.mem_range.mpr (by omega))
  simpa using this
end
/-! ### T5 -/
section
open PySem PySem.Calls PySem.W PyProof.Rows
/-- the sort's questions answered by a plain order -/
def runK {α : Type} (cmp : Nat → Nat → Bool) : KasT α → α
  | .ret a => a
  | .ask i j k => runK cmp (k (cmp i j))
def lexI (ks : List Int) (a b : Nat) : Prop := ks.getD a 0 < ks.getD b 0 ∨ (ks.getD a 0 = ks.getD b 0 ∧ a < b)
/-- what the answers tell: ed of what is not above, st of what is below -/
def leR (ed : List (Nat × Nat)) : Nat → Nat → Nat → Bool
  | 0, a, b => a == b
  | k + 1, a, b => a == b || ed.any fun e => e.1 == a && leR ed k e.2 b
def ltR (st ed : List (Nat × Nat)) (k a b : Nat) : Bool := st.any fun e => leR ed k a e.1 && leR ed k e.2 b
def adjO (st ed : List (Nat × Nat)) (k : Nat) : List Nat → Bool
  | a :: b :: r => (st.elem (a, b) || ((ed.elem (a, b) || leR ed k a b) && decide (a < b)) || ltR st ed k a b) && adjO st ed k (b :: r)
  | _ => true
def okT (n k : Nat) (st ed : List (Nat × Nat)) : KasT (Array Nat) → Bool
  | .ret a => a.toList.isPerm (List.range n) && (adjO st ed k a.toList || st.any fun e => leR ed k e.2 e.1)
  | .ask i j f => (ed.elem (j, i) || okT n k ((i, j) :: st) ((i, j) :: ed) (f true)) && (st.elem (i, j) || okT n k st ((j, i) :: ed) (f false))
theorem okT2 : okT 2 3 [] [] (kas_sort 2) = true := by decide +kernel
theorem okT3 : okT 3 3 [] [] (kas_sort 3) = true := by decide +kernel
theorem okT4 : okT 4 3 [] [] (kas_sort 4) = true := by decide +kernel
theorem okT5 : okT 5 3 [] [] (kas_sort 5) = true := by decide +kernel
theorem lexI_trans {ks : List Int} {a b c : Nat} (h1 : lexI ks a b) (h2 : lexI ks b c) : lexI ks a c := by
  unfold lexI at *; omega
theorem leR_le {ks : List Int} {ed : List (Nat × Nat)} (he : ∀ p ∈ ed, ks.getD p.1 0 ≤ ks.getD p.2 0) : ∀ (k a b : Nat), leR ed k a b = true → ks.getD a 0 ≤ ks.getD b 0
  | 0, a, b, h => by
    unfold leR at h
    rw [beq_iff_eq.mp h]; exact Int.le_refl _
  | k + 1, a, b, h => by
    unfold leR at h
    rw [Bool.or_eq_true] at h
    rcases h with h | h
    · rw [beq_iff_eq.mp h]; exact Int.le_refl _
    · obtain ⟨e, hm, h⟩ := List.any_eq_true.mp h
      rw [Bool.and_eq_true] at h
      have h1 := he e hm
      rw [beq_iff_eq.mp h.1] at h1
      exact Int.le_trans h1 (leR_le he k e.2 b h.2)
theorem ltR_lt {ks : List Int} {st ed : List (Nat × Nat)} (hs : ∀ p ∈ st, ks.getD p.1 0 < ks.getD p.2 0) (he : ∀ p ∈ ed, ks.getD p.1 0 ≤ ks.getD p.2 0) {k a b : Nat} (h : ltR st ed k a b = true) : ks.getD a 0 < ks.getD b 0 := by
  obtain ⟨e, hm, h⟩ := List.any_eq_true.mp h
  rw [Bool.and_eq_true] at h
  have h1 := hs e hm
  have h2 := leR_le he _ _ _ h.1
  have h3 := leR_le he _ _ _ h.2
  omega
theorem adj_pair {ks : List Int} {st ed : List (Nat × Nat)} {k : Nat} (hs : ∀ p ∈ st, ks.getD p.1 0 < ks.getD p.2 0) (he : ∀ p ∈ ed, ks.getD p.1 0 ≤ ks.getD p.2 0) : ∀ (p : List Nat), adjO st ed k p = true → p.Pairwise (lexI ks)
  | [], _ => .nil
  | [a], _ => by simp
  | a :: b :: r, h => by
    unfold adjO at h
    rw [Bool.and_eq_true] at h
    have ih := adj_pair hs he (b :: r) h.2
    have hab : lexI ks a b := by
      have := h.1
      simp only [Bool.or_eq_true, Bool.and_eq_true, decide_eq_true_eq, List.elem_eq_mem] at this
      unfold lexI
      rcases this with (q | ⟨q, r⟩) | q
      · exact .inl (hs _ q)
      · have : ks.getD a 0 ≤ ks.getD b 0 := by
          rcases q with q | q
          · exact he _ q
          · exact leR_le he _ _ _ q
        omega
      · exact .inl (ltR_lt hs he q)
    refine List.pairwise_cons.mpr ⟨fun c hc => ?_, ih⟩
    rcases List.mem_cons.mp hc with rfl | hc
    · exact hab
    · exact lexI_trans hab ((List.pairwise_cons.mp ih).1 c hc)
theorem okT_run {n f : Nat} {ks : List Int} : ∀ (t : KasT (Array Nat)) (st ed : List (Nat × Nat)), (∀ p ∈ st, ks.getD p.1 0 < ks.getD p.2 0) → (∀ p ∈ ed, ks.getD p.1 0 ≤ ks.getD p.2 0) → okT n f st ed t = true →
    (runK (fun i j => decide (ks.getD i 0 < ks.getD j 0)) t).toList.Perm (List.range n) ∧ (runK (fun i j => decide (ks.getD i 0 < ks.getD j 0)) t).toList.Pairwise (lexI ks)
  | .ret a, st, ed, hs, he, h => by
    unfold okT at h
    rw [Bool.and_eq_true, Bool.or_eq_true] at h
    refine ⟨List.isPerm_iff.mp h.1, ?_⟩
    rcases h.2 with m | m
    · exact adj_pair hs he _ m
    · obtain ⟨e, hm, m⟩ := List.any_eq_true.mp m
      have h1 := hs e hm
      have h2 := leR_le he _ _ _ m
      omega
  | .ask i j k, st, ed, hs, he, h => by
    unfold okT at h
    simp only [Bool.and_eq_true, Bool.or_eq_true, List.elem_eq_mem, decide_eq_true_eq] at h
    unfold runK
    by_cases q : ks.getD i 0 < ks.getD j 0
    · rw [decide_eq_true q]
      rcases h.1 with m | m
      · have := he _ m
        simp only at this
        omega
      · exact okT_run (k true) _ _ (fun p hp => by
          rcases List.mem_cons.mp hp with rfl | hp
          · exact q
          · exact hs p hp) (fun p hp => by
          rcases List.mem_cons.mp hp with rfl | hp
          · exact Int.le_of_lt q
          · exact he p hp) m
    · rw [decide_eq_false q]
      rcases h.2 with m | m
      · exact absurd (hs _ m) q
      · exact okT_run (k false) st _ hs (fun p hp => by
          rcases List.mem_cons.mp hp with rfl | hp
          · simp only; omega
          · exact he p hp) m
theorem okT_all {n : Nat} (h2 : 2 ≤ n) (h5 : n ≤ 5) : okT n 3 [] [] (kas_sort n) = true := by
  have : n = 2 ∨ n = 3 ∨ n = 4 ∨ n = 5 := by omega
  rcases this with rfl | rfl | rfl | rfl
  · exact okT2
  · exact okT3
  · exact okT4
  · exact okT5
end
/-! ### T6 -/
section
open PySem PySem.Calls PySem.W PyProof.Rows
def asksIn {α : Type} (n : Nat) : KasT α → Bool
  | .ret _ => true
  | .ask i j k => decide (i < n) && decide (j < n) && asksIn n (k true) && asksIn n (k false)
theorem asks2 : asksIn 2 (kas_sort 2) = true := by decide +kernel
theorem asks3 : asksIn 3 (kas_sort 3) = true := by decide +kernel
theorem asks4 : asksIn 4 (kas_sort 4) = true := by decide +kernel
theorem asks5 : asksIn 5 (kas_sort 5) = true := by decide +kernel
theorem asksIn_ask {α : Type} {n i j : Nat} {k : Bool → KasT α} (h : asksIn n (.ask i j k) = true) : i < n ∧ j < n ∧ ∀ b, asksIn n (k b) = true := by
  unfold asksIn at h
  simp only [Bool.and_eq_true, decide_eq_true_eq] at h
  exact ⟨h.1.1.1, h.1.1.2, fun b => by cases b; exact h.2; exact h.1.2⟩
theorem run_wp {α : Type} {cmpP : Nat → Nat → (Bool → Shared → Prop) → Shared → Prop} {cmp : Nat → Nat → Bool} {n : Nat} {Q : α → Shared → Prop}
    (hc : ∀ i j C s, i < n → j < n → C (cmp i j) s → cmpP i j C s) : ∀ (t : KasT α) (s : Shared), asksIn n t = true → Q (runK cmp t) s → t.kasWp cmpP Q s
  | .ret a, s, _, hq => hq
  | .ask i j k, s, h, hq => by
    obtain ⟨hi, hj, hk⟩ := asksIn_ask h
    exact hc i j _ s hi hj (run_wp hc (k (cmp i j)) s (hk _) hq)
theorem asks_all {n : Nat} (h2 : 2 ≤ n) (h5 : n ≤ 5) : asksIn n (kas_sort n) = true := by
  have : n = 2 ∨ n = 3 ∨ n = 4 ∨ n = 5 := by omega
  rcases this with rfl | rfl | rfl | rfl
  · exact asks2
  · exact asks3
  · exact asks4
  · exact asks5
def sortP (ks : List Int) : List Nat := (runK (fun i j => decide (ks.getD i 0 < ks.getD j 0)) (kas_sort ks.length)).toList
theorem getD_int {ks : List Int} {i : Nat} (h : i < ks.length) : ks.getD i 0 = ks[i] := by
  rw [List.getD_eq_getElem?_getD, List.getElem?_eq_getElem h]; rfl
theorem stable_keys {ks : List Int} (h2 : 2 ≤ ks.length) (h5 : ks.length ≤ 5) : (sortP ks).Perm (List.range ks.length) ∧ (sortP ks).Pairwise (lexI ks) :=
  okT_run _ [] [] (fun _ h => nomatch h) (fun _ h => nomatch h) (okT_all h2 h5)
end
/-! ### D7 -/
section
open PySem PySem.Calls PySem.W PyProof.Rows
theorem perm_one {α : Type} : ∀ {l ps : List α}, l.length ≤ 1 → ps.Perm l → ps = l
  | [], _, _, hp => hp.eq_nil
  | [_], _, _, hp => List.perm_singleton.mp hp
def live (h : Heap) (L : Addr) : List (Addr × Obj) := (List.range h.objs.size).filterMap fun b => if b = L then none else (h.get? b).map fun o => (b, o)
theorem live_mem {h : Heap} {L b : Addr} {o : Obj} (hb : b ≠ L) (e : h.get? b = some o) : (b, o) ∈ live h L := by
  unfold live
  rw [List.mem_filterMap]
  exact ⟨b, List.mem_range.mpr (Heap.lt_size e), by rw [if_neg hb, e]; rfl⟩
theorem live_of {h : Heap} {L : Addr} {p : Addr × Obj} (hp : p ∈ live h L) : p.1 ≠ L ∧ h.get? p.1 = some p.2 := by
  unfold live at hp
  rw [List.mem_filterMap] at hp
  obtain ⟨b, _, e⟩ := hp
  split at e
  · cases e
  · rename_i hb
    cases q : h.get? b with
    | none => rw [q] at e; cases e
    | some o => rw [q] at e; cases e; exact ⟨hb, q⟩
section
variable {s₀ s : Shared} {h₀ g : Heap} {L : Addr} {m : Str → Option Value} {mu : List (Addr × Ent)}
theorem On.fr (I : On s₀ h₀ g L m mu s) : Fr ({} : Heap) L s.heap m ∧ News ({} : Heap) L s.heap (live s.heap L) :=
  ⟨⟨I.ns, fun b o e => by simp [Heap.get?] at e, Nat.zero_le _⟩, fun p hp => ⟨(live_of hp).2, (live_of hp).1, by simp [Heap.get?]⟩⟩
theorem On.back {h' : Heap} {tk : Nat} {ns : List (Addr × Obj)} (I : On s₀ h₀ g L m mu s) (F : Fr ({} : Heap) L h' m) (N : News ({} : Heap) L h' ns) (hn : ∀ p ∈ live s.heap L, p ∈ ns) : On s₀ h₀ g L m mu { s with heap := h', toks := tk } := by
  have k : ∀ b o, b ≠ L → s.heap.get? b = some o → h'.get? b = some o := fun b o hb e => (N _ (hn _ (live_mem hb e))).1
  exact ⟨F.ns, fun b o e => k b o (fun q => by rw [q, I.offL] at e; cases e) (I.keep b o e), I.org, fun p hp => (I.mus p hp).to fun o e => k _ o (I.neL hp) e, I.offL, I.off, I.apart, I.gens, I.drawn, I.os⟩
theorem keys_go {prog : Program} {w : World} {A : Around} {kS : Addr} {f : Value} {Fin : List Value → Nat → Shared → Prop} (own : List (Addr × Obj)) (I0 : On s₀ h₀ g L m mu s) (hown : ∀ p ∈ own, p.1 ≠ kS) (hlive : ∀ p ∈ live s.heap L, p.1 ≠ kS)
    (key : ∀ (kz : Int) (v : Value), Prop) (hkey : ∀ kz v s1, key kz v → On s₀ h₀ g L m mu s1 → WP (model prog w) A (call f [v]) (fun k s2 => ∃ t, k = .int kz t ∧ Keeps s1 s2) No s1) :
    ∀ (vs : List Value) (kz : List Int) (done : List Value) (dz : List Int) (e : Nat) (s1 : Shared), vs.length = kz.length → (∀ (i : Nat) (h : i < vs.length) (h' : i < kz.length), key kz[i] vs[i]) → IntsAre done dz →
      (∃ h1 tk, s1 = { s with heap := h1, toks := tk }) → Fr ({} : Heap) L s1.heap m → News ({} : Heap) L s1.heap ((kS, seqObj "list" (List.toArray done) e) :: own ++ live s.heap L) →
      (∀ ks e' s2, IntsAre ks (dz ++ kz) → (∃ h1 tk, s2 = { s with heap := h1, toks := tk }) → Fr ({} : Heap) L s2.heap m → News ({} : Heap) L s2.heap ((kS, seqObj "list" (List.toArray ks) e') :: own ++ live s.heap L) → Fin ks e' s2) →
      KatKeys prog w A ({} : Heap) L m kS f Fin vs done e s1
  | [], [], done, dz, e, s1, _, _, hi, hs, F, N, fin => KatKeys.nil (fin done e s1 (by simpa using hi) hs F N)
  | [], _ :: _, _, _, _, _, hl, _, _, _, _, _, _ => by cases hl
  | _ :: _, [], _, _, _, _, hl, _, _, _, _, _, _ => by cases hl
  | v :: vs, z :: kz, done, dz, e, s1, hl, hk, hi, ⟨h1, tk, hs⟩, F, N, fin => by
    subst hs
    refine KatKeys.cons ?_
    have J := I0.back (tk := tk) F N (fun p hp => List.mem_append_right _ hp)
    have T := hkey z v _ (hk 0 (Nat.zero_lt_succ _) (Nat.zero_lt_succ _)) J
    simp only [WP_eq] at T
    refine wpAny_mono T (fun k s2 hk2 => ?_) fun _ _ x => x.elim
    obtain ⟨t, rfl, K⟩ := hk2
    obtain ⟨h2, tk2, rfl, kp⟩ := K
    have J2 := J.keeps ⟨h2, tk2, rfl, kp⟩
    have F2 : Fr ({} : Heap) L h2 m := ⟨J2.ns, fun b o e => by simp [Heap.get?] at e, Nat.zero_le _⟩
    have N2 : News ({} : Heap) L h2 ((kS, seqObj "list" (List.toArray done) e) :: own ++ live s.heap L) := fun p hp => ⟨kp _ _ (N p hp).1, (N p hp).2⟩
    refine KatBack.intro (g := fun o => (kS, o) :: own ++ live s.heap L) F2 N2 (.head fun p hp => ?_) (fun h3 c F3 N3 => ?_)
    · rcases List.mem_append.mp hp with q | q
      · exact hown p q
      · exact hlive p q
    · refine keys_go own I0 hown hlive key hkey vs kz (done ++ [.int z t]) (dz ++ [z]) c _ (by simpa using hl) (fun i a b => hk (i + 1) (by simpa using a) (by simpa using b)) (ints_snoc hi z t) ⟨_, _, rfl⟩ F3 N3 (fun ks e' s2 h1 h2 h3 h4 => fin ks e' s2 (by simpa using h1) h2 h3 h4)
theorem r_sortedK {prog : Program} {w : World} {A : Around} {f : Value} {l : Addr} {vs : List Value} {kz : List Int} {Q : Value → Shared → Prop} (I : On s₀ h₀ g L m mu s) (hl : IsL s.heap l vs) (h2 : 2 ≤ vs.length) (h5 : vs.length ≤ 5) (hlen : vs.length = kz.length)
    (ha1 : argsOk "sorted" ⟨[.ref l], [(Str.ofString "key", f)]⟩) (ha2 : ∀ x, argsOk "list.sort" ⟨[.ref x], [(Str.ofString "key", f)]⟩) (ht : ∀ x, Builtin.«list.sort» ⟨[.ref x], [(Str.ofString "key", f)]⟩ = ksk_tree x f false)
    (key : ∀ (kz : Int) (v : Value), Prop) (hk : ∀ (i : Nat) (h : i < vs.length) (h' : i < kz.length), key kz[i] vs[i])
    (hkey : ∀ kz v s1, key kz v → On s₀ h₀ g L m mu s1 → WP (model prog w) A.in1.in1 (call f [v]) (fun k s2 => ∃ t, k = .int kz t ∧ Keeps s1 s2) No s1)
    (h : ∀ D g' s', Up g g' → IsL g' D ((sortP kz).map fun i => vs.getD i .none) → On s₀ h₀ g' L m mu s' → Q (.ref D) s') :
    WP (model prog w) A (call (.builtin "sorted") [.ref l] [(Str.ofString "key", f)]) Q No s := by
  simp only [WP_eq]
  obtain ⟨F0, N0⟩ := I.fr
  refine kat_sortedK (b := false) F0 N0 hl.isList h2 (by omega) ha1 ha2 ht fun D kS e1 h' F N hlt hbig => ?_
  have kD : ∀ p ∈ live s.heap L, p.1 ≠ kS := fun p hp e => absurd e (Nat.ne_of_lt (Nat.lt_trans (hbig p hp) hlt))
  refine keys_go (s := s) [(D, seqObj "list" #[] e1)] I (fun p hp => by simp only [List.mem_singleton] at hp; subst hp; exact Nat.ne_of_lt hlt) kD key hkey vs kz [] [] 0 _ hlen hk .nil ⟨h', s.toks, rfl⟩ F N ?_
  rintro ks e' s2 hi ⟨h2', tk2, rfl⟩ F2 N2
  simp only [List.nil_append] at hi
  have hkl : ks.length = kz.length := hi.length
  rw [ksk_kind (by simpa using hi) (by simp; omega)]
  refine wpAny_pure ?_
  refine run_wp (cmp := fun i j => decide (kz.getD i 0 < kz.getD j 0)) (n := vs.length) (fun i j C s3 hi' hj' hC => ?_) (kas_sort vs.length) _ (asks_all h2 h5) ?_
  · obtain ⟨t, e1⟩ := ints_getD hi (j := i) (by omega)
    obtain ⟨u, e2⟩ := ints_getD hi (j := j) (by omega)
    show wpAny (model prog w) A.in1.in1 (keyLt' oneType' (ks.getD i .none) (ks.getD j .none)) C _ s3
    rw [List.getD_eq_getElem?_getD, List.getD_eq_getElem?_getD, e1, e2]
    exact kat_lt_int hC
  · refine KatFin.intro (g := fun o => (kS, o) :: [(D, seqObj "list" #[] e1)] ++ live s.heap L) F2 N2 (.head fun p hp => ?_) fun h3 c F3 N3 => ?_
    · rcases List.mem_append.mp hp with q | q
      · simp only [List.mem_singleton] at q; subst q; exact Nat.ne_of_lt hlt
      · exact kD p q
    · refine KasFin.intro (g := fun o => (kS, seqObj "list" #[] c) :: (D, o) :: live s.heap L) F3 N3 (.tail (Nat.ne_of_gt hlt) (.head fun p hp => Nat.ne_of_lt (hbig p hp))) fun h4 c2 F4 N4 => ?_
      have J := I.back (tk := tk2) F4 N4 (fun p hp => .tail _ (.tail _ hp))
      have eD := (N4 (D, _) (.tail _ (.head _))).1
      have hm : ∀ p ∈ mu, p.1 ≠ D := fun p hp => by
        obtain ⟨o, ho⟩ := (I.mus p hp).there
        exact Nat.ne_of_lt (hbig _ (live_mem (I.neL hp) ho))
      obtain ⟨g', u, e', J'⟩ := J.take eD (fun _ _ q => by cases q) hm
      refine h D g' _ u ⟨c2, ?_⟩ J'
      have en : kz.length = vs.length := hlen.symm
      unfold sortP
      rw [en]
      exact e'
theorem r_sortedK1 {prog : Program} {w : World} {A : Around} {f : Value} {l : Addr} {vs : List Value} {kz : List Int} {Q : Value → Shared → Prop} (I : On s₀ h₀ g L m mu s) (hl : IsL s.heap l vs) (h1 : vs.length ≤ 1) (hlen : vs.length = kz.length)
    (ha1 : argsOk "sorted" ⟨[.ref l], [(Str.ofString "key", f)]⟩) (ha2 : ∀ x, argsOk "list.sort" ⟨[.ref x], [(Str.ofString "key", f)]⟩) (ht : ∀ x, Builtin.«list.sort» ⟨[.ref x], [(Str.ofString "key", f)]⟩ = ksk_tree x f false)
    (key : ∀ (kz : Int) (v : Value), Prop) (hk : ∀ (i : Nat) (h : i < vs.length) (h' : i < kz.length), key kz[i] vs[i])
    (hkey : ∀ kz v s1, key kz v → On s₀ h₀ g L m mu s1 → WP (model prog w) A.in1.in1 (call f [v]) (fun k s2 => ∃ t, k = .int kz t ∧ Keeps s1 s2) No s1)
    (h : ∀ D g' s', Up g g' → IsL g' D vs → On s₀ h₀ g' L m mu s' → Q (.ref D) s') :
    WP (model prog w) A (call (.builtin "sorted") [.ref l] [(Str.ofString "key", f)]) Q No s := by
  simp only [WP_eq]
  obtain ⟨F0, N0⟩ := I.fr
  refine ksk_sorted (b := false) (kz := kz) F0 N0 hl.isList hlen.symm (by omega) ha1 ha2 ht (fun i v k hv hkk h1 tk own F N => ?_) fun D h' tk out c F N hbig ho => ?_
  · have J := I.back (tk := tk) F N (fun p hp => List.mem_append_left _ hp)
    have hi : i < vs.length := (List.getElem?_eq_some_iff.mp hv).1
    have hi' : i < kz.length := (List.getElem?_eq_some_iff.mp hkk).1
    have e1 : vs[i] = v := (List.getElem?_eq_some_iff.mp hv).2
    have e2 : kz[i] = k := (List.getElem?_eq_some_iff.mp hkk).2
    have T := hkey k v _ (e1 ▸ e2 ▸ hk i hi hi') J
    simp only [WP_eq] at T
    refine wpAny_mono T (fun r s2 hr => ?_) fun _ _ x => x.elim
    obtain ⟨t, rfl, h2, tk2, rfl, kp⟩ := hr
    have J2 := J.keeps ⟨h2, tk2, rfl, kp⟩
    have F2 : Fr ({} : Heap) L h2 m := ⟨J2.ns, fun b o e => by simp [Heap.get?] at e, Nat.zero_le _⟩
    exact KskEnd.intro F2 (news' := live s.heap L ++ own) (fun p hp => ⟨kp _ _ (N p hp).1, (N p hp).2⟩) fun p hp => hp
  · have J := I.back (tk := tk) F N (fun p hp => .tail _ hp)
    have eD := (N (D, _) (.head _)).1
    have hm : ∀ p ∈ mu, p.1 ≠ D := fun p hp => by
      obtain ⟨o, ho⟩ := (I.mus p hp).there
      exact Nat.ne_of_lt (hbig _ (live_mem (I.neL hp) ho))
    obtain ⟨g', u, e', J'⟩ := J.take eD (fun _ _ q => by cases q) hm
    have eo : out.toList = vs := by
      obtain ⟨ps, hp, e, _⟩ := ho
      have hz : (kz.zip vs).length ≤ 1 := by rw [List.length_zip]; omega
      have e3 : ps = kz.zip vs := perm_one hz hp
      rw [e, e3, List.map_snd_zip (by omega)]
    refine h D g' _ u ⟨c, ?_⟩ J'
    rw [e', ← eo]; unfold listO; rw [Array.toArray_toList]
end
end
/-! ### T7 -/
section
open PySem PySem.Calls PySem.W PyProof.Rows
theorem lexI_asymm {ks : List Int} {a b : Nat} (h1 : lexI ks a b) (h2 : lexI ks b a) : a = b := by
  unfold lexI at *; omega
/-- the stable order is one only -/
theorem stable_one {ks : List Int} {p : List Nat} (h2 : 2 ≤ ks.length) (h5 : ks.length ≤ 5) (hp : p.Perm (List.range ks.length)) (hs : p.Pairwise (lexI ks)) : sortP ks = p := by
  have g := stable_keys h2 h5
  exact List.Perm.eq_of_pairwise (le := lexI ks) (fun a b _ _ x y => lexI_asymm x y) g.2 hs (g.1.trans hp.symm)
theorem lexI_app {ks : List Int} {x : Int} {a b : Nat} (ha : a < ks.length) (hb : b < ks.length) : lexI (ks ++ [x]) a b ↔ lexI ks a b := by
  unfold lexI
  rw [getD_int (by simp; omega), getD_int (by simp; omega), getD_int ha, getD_int hb, List.getElem_append_left ha, List.getElem_append_left hb]
theorem ins_perm {n q : Nat} {p : List Nat} (hp : p.Perm (List.range n)) : (p.take q ++ n :: p.drop q).Perm (List.range (n + 1)) := by
  rw [List.range_succ]
  refine (List.perm_middle).trans ?_
  rw [List.take_append_drop]
  exact (hp.cons n).trans (List.perm_append_singleton n (List.range n)).symm
theorem insR_lex {ks : List Int} {x : Int} {p : List Nat} {q : Nat} (hp : p.Perm (List.range ks.length)) (hs : p.Pairwise (lexI ks))
    (h1 : ∀ a ∈ p.take q, ks.getD a 0 ≤ x) (h2 : ∀ a ∈ p.drop q, x < ks.getD a 0) : (p.take q ++ ks.length :: p.drop q).Pairwise (lexI (ks ++ [x])) := by
  have hlt : ∀ a ∈ p, a < ks.length := fun a ha => List.mem_range.mp (hp.mem_iff.mp ha)
  have hx : (ks ++ [x]).getD ks.length 0 = x := by rw [getD_int (by simp)]; simp
  have hk : ∀ a, a < ks.length → (ks ++ [x]).getD a 0 = ks.getD a 0 := fun a ha => by rw [getD_int (by simp; omega), getD_int ha, List.getElem_append_left ha]
  rw [← List.take_append_drop q p, List.pairwise_append] at hs
  rw [List.pairwise_append]
  have tl : ∀ a ∈ p.take q, a < ks.length := fun a ha => hlt a (List.mem_of_mem_take ha)
  have dl : ∀ a ∈ p.drop q, a < ks.length := fun a ha => hlt a (List.mem_of_mem_drop ha)
  refine ⟨hs.1.imp_of_mem fun {a b} ha hb h => (lexI_app (tl a ha) (tl b hb)).mpr h, List.pairwise_cons.mpr ⟨fun b hb => ?_, hs.2.1.imp_of_mem fun {a b} ha hb h => (lexI_app (dl a ha) (dl b hb)).mpr h⟩, fun a ha b hb => ?_⟩
  · unfold lexI
    rw [hx, hk b (dl b hb)]
    exact Or.inl (h2 b hb)
  · rcases List.mem_cons.mp hb with rfl | hb
    · unfold lexI
      rw [hx, hk a (tl a ha)]
      have := h1 a ha; have := tl a ha; omega
    · exact (lexI_app (tl a ha) (dl b hb)).mpr (hs.2.2 a ha b hb)
theorem lexI_cons {ks : List Int} {x : Int} {a b : Nat} : lexI (x :: ks) (a + 1) (b + 1) ↔ lexI ks a b := by
  unfold lexI
  simp only [List.getD_cons_succ]; omega
theorem insL_perm {n q : Nat} {p : List Nat} (hp : p.Perm (List.range n)) : ((p.take q).map (· + 1) ++ 0 :: (p.drop q).map (· + 1)).Perm (List.range (n + 1)) := by
  rw [List.range_succ_eq_map]
  refine (List.perm_middle).trans (List.Perm.cons 0 ?_)
  rw [← List.map_append, List.take_append_drop]
  exact hp.map _
theorem insL_lex {ks : List Int} {x : Int} {p : List Nat} {q : Nat} (hs : p.Pairwise (lexI ks))
    (h1 : ∀ a ∈ p.take q, ks.getD a 0 < x) (h2 : ∀ a ∈ p.drop q, x ≤ ks.getD a 0) : ((p.take q).map (· + 1) ++ 0 :: (p.drop q).map (· + 1)).Pairwise (lexI (x :: ks)) := by
  rw [← List.take_append_drop q p, List.pairwise_append] at hs
  rw [List.pairwise_append, List.pairwise_map, List.pairwise_cons, List.pairwise_map]
  refine ⟨hs.1.imp fun h => lexI_cons.mpr h, ⟨fun b hb => ?_, hs.2.1.imp fun h => lexI_cons.mpr h⟩, fun a ha b hb => ?_⟩
  · obtain ⟨c, hc, rfl⟩ := List.mem_map.mp hb
    have := h2 c hc
    unfold lexI
    simp only [List.getD_cons_zero, List.getD_cons_succ]; omega
  · obtain ⟨d, hd, rfl⟩ := List.mem_map.mp ha
    rcases List.mem_cons.mp hb with rfl | hb
    · have := h1 d hd
      unfold lexI
      simp only [List.getD_cons_zero, List.getD_cons_succ]; omega
    · obtain ⟨c, hc, rfl⟩ := List.mem_map.mp hb
      exact lexI_cons.mpr (hs.2.2 d hd c hc)
end
/-! ### D8 -/
section
open PySem PySem.Calls PySem.W PyProof.Rows
section
variable {prog : Program} {w : World} {A : Around} {s : Shared} {env : Env} {pos : Pos} {mg mb : Str → Option Value}
/-- a builtin's call with arguments by name -/
theorem cw_builtinK {id : String} {e : Expr} {rest : List Expr} {kws : List Keyword} {Q : Value → Shared → Prop}
    (h : WP (model prog w) A (spliced (backTo pos (starEach (e :: rest) env))) (fun vs s₁ => WP (model prog w) A (evalAll ((backToKw pos (keywordEach kws env)).map (·.2)))
      (fun kvs s₂ => WP (model prog w) A (call (.builtin id) vs (((backToKw pos (keywordEach kws env)).filterMap (·.1)).zip kvs)) Q No s₂) No s₁) No s)
    (he : backTo pos (starEach (e :: rest) env) = (false, eval e env) :: backTo pos (starEach rest env) := by rfl)
    (hplain : (backTo pos (starEach (e :: rest) env)).any (·.1) = false := by rfl)
    (hall : (backToKw pos (keywordEach kws env)).all (·.1.isSome) = true := by rfl)
    (hkw : (backToKw pos (keywordEach kws env)).any (·.1.isNone) = false := by rfl) :
    WP (model prog w) A (callWith pos (.builtin id) [] (backTo pos (starEach (e :: rest) env)) (backToKw pos (keywordEach kws env))) Q No s := by
  simp only [WP_eq] at *
  exact callWith_kw h he hplain hall hkw
/-- the stable order of a list of meetings -/
def ordered (R D : List Mt) (key : Mt → Int) : Prop := ∃ p : List Nat, p.Perm (List.range D.length) ∧ p.Pairwise (lexI (D.map key)) ∧ R = p.map fun i => D.getD i ⟨0, 0, 0⟩
theorem ord_one : ∀ {D : List Mt} {p : List Nat}, D.length < 2 → p.Perm (List.range D.length) → (p.map fun i => D.getD i ⟨0, 0, 0⟩) = D
  | [], _, _, hp => by rw [hp.eq_nil]; rfl
  | [_], _, _, hp => by rw [List.perm_singleton.mp hp]; rfl
theorem sorted_first {n : Nat} {l : Addr} {R D : List Mt} {s₀ : Shared} {h₀ g : Heap} {L : Addr} {m : Str → Option Value} {mu : List (Addr × Ent)} {Q : Value → Shared → Prop} (hA : Fine n A) (W : Wd mg mb g) (I : On s₀ h₀ g L m mu s) (hl : IsL s.heap l (refs D)) (hD : ∀ x ∈ D, x.In g) (h5 : D.length ≤ 5) (ho : ordered R D (·.b))
    (h : ∀ a g' s', Up g g' → IsL g' a (refs R) → On s₀ h₀ g' L m mu s' → Q (.ref a) s') (hn : n < 800 := by omega) : WP (model prog w) A (call (.builtin "sorted") [.ref l] [(Str.ofString "key", .ref 114)]) Q No s := by
  obtain ⟨p, hp, hs, rfl⟩ := ho
  have hl1 : (refs D).length = (D.map (·.b)).length := by unfold refs; simp
  have hkey : ∀ (kz : Int) (v : Value) (s1 : Shared), (∃ x ∈ D, x.b = kz ∧ v = .ref x.a) → On s₀ h₀ g L m mu s1 → WP (model prog w) A.in1.in1 (call (.ref 114) [v]) (fun k s2 => ∃ t, k = .int kz t ∧ Keeps s1 s2) No s1 := by
    rintro kz v s1 ⟨x, hx, rfl, rfl⟩ J
    obtain ⟨t, u, e⟩ := hD x hx
    exact first_ok hA.in1.in1 (W.first.up J.keep) (W.lim.keeps J.keep) (e.up J.keep) (fun s' K => ⟨_, rfl, K⟩) (by omega)
  have hk : ∀ (i : Nat) (h : i < (refs D).length) (h' : i < (D.map (·.b)).length), ∃ x ∈ D, x.b = (D.map (·.b))[i] ∧ (refs D)[i] = .ref x.a := fun i h h' => by
    have hi : i < D.length := by simpa using h'
    exact ⟨D[i], List.getElem_mem hi, by simp, by simp [refs]⟩
  have hrl : (refs D).length = D.length := by unfold refs; simp
  rcases Nat.lt_or_ge D.length 2 with q | q
  · refine r_sortedK1 I hl (by omega) hl1 (ksk_s1 _ _) (fun x => ksk_l1 _ _) (fun x => ksk_t1 114 x) (fun kz v => ∃ x ∈ D, x.b = kz ∧ v = .ref x.a) hk hkey fun a g' s' u hla O => ?_
    have e := ord_one q hp
    rw [e] at h
    exact h a g' s' u hla O
  · have e1 : sortP (D.map (·.b)) = p := stable_one (by simpa using q) (by simpa using h5) (by simpa using hp) hs
    refine r_sortedK I hl (by omega) (by omega) hl1 (ksk_s1 _ _) (fun x => ksk_l1 _ _) (fun x => ksk_t1 114 x) (fun kz v => ∃ x ∈ D, x.b = kz ∧ v = .ref x.a) hk hkey fun a g' s' u hla O => ?_
    rw [e1] at hla
    refine h a g' s' u ?_ O
    have e2 : (p.map fun i => (refs D).getD i .none) = refs (p.map fun i => D.getD i ⟨0, 0, 0⟩) := by
      unfold refs
      rw [List.map_map]
      refine List.map_congr_left fun i hi => ?_
      have hi' : i < D.length := List.mem_range.mp (hp.mem_iff.mp hi)
      simp [hi']
    rw [← e2]; exact hla
theorem sorted_last {n : Nat} {l : Addr} {R D : List Mt} {s₀ : Shared} {h₀ g : Heap} {L : Addr} {m : Str → Option Value} {mu : List (Addr × Ent)} {Q : Value → Shared → Prop} (hA : Fine n A) (W : Wd mg mb g) (I : On s₀ h₀ g L m mu s) (hl : IsL s.heap l (refs D)) (hD : ∀ x ∈ D, x.In g) (h5 : D.length ≤ 5) (ho : ordered R D (·.e))
    (h : ∀ a g' s', Up g g' → IsL g' a (refs R) → On s₀ h₀ g' L m mu s' → Q (.ref a) s') (hn : n < 800 := by omega) : WP (model prog w) A (call (.builtin "sorted") [.ref l] [(Str.ofString "key", .ref 121)]) Q No s := by
  obtain ⟨p, hp, hs, rfl⟩ := ho
  have hl1 : (refs D).length = (D.map (·.e)).length := by unfold refs; simp
  have hkey : ∀ (kz : Int) (v : Value) (s1 : Shared), (∃ x ∈ D, x.e = kz ∧ v = .ref x.a) → On s₀ h₀ g L m mu s1 → WP (model prog w) A.in1.in1 (call (.ref 121) [v]) (fun k s2 => ∃ t, k = .int kz t ∧ Keeps s1 s2) No s1 := by
    rintro kz v s1 ⟨x, hx, rfl, rfl⟩ J
    obtain ⟨t, u, e⟩ := hD x hx
    exact last_ok hA.in1.in1 (W.last.up J.keep) (W.lim.keeps J.keep) (e.up J.keep) (fun s' K => ⟨_, rfl, K⟩) (by omega)
  have hk : ∀ (i : Nat) (h : i < (refs D).length) (h' : i < (D.map (·.e)).length), ∃ x ∈ D, x.e = (D.map (·.e))[i] ∧ (refs D)[i] = .ref x.a := fun i h h' => by
    have hi : i < D.length := by simpa using h'
    exact ⟨D[i], List.getElem_mem hi, by simp, by simp [refs]⟩
  have hrl : (refs D).length = D.length := by unfold refs; simp
  rcases Nat.lt_or_ge D.length 2 with q | q
  · refine r_sortedK1 I hl (by omega) hl1 (ksk_s1 _ _) (fun x => ksk_l1 _ _) (fun x => ksk_t1 121 x) (fun kz v => ∃ x ∈ D, x.e = kz ∧ v = .ref x.a) hk hkey fun a g' s' u hla O => ?_
    have e := ord_one q hp
    rw [e] at h
    exact h a g' s' u hla O
  · have e1 : sortP (D.map (·.e)) = p := stable_one (by simpa using q) (by simpa using h5) (by simpa using hp) hs
    refine r_sortedK I hl (by omega) (by omega) hl1 (ksk_s1 _ _) (fun x => ksk_l1 _ _) (fun x => ksk_t1 121 x) (fun kz v => ∃ x ∈ D, x.e = kz ∧ v = .ref x.a) hk hkey fun a g' s' u hla O => ?_
    rw [e1] at hla
    refine h a g' s' u ?_ O
    have e2 : (p.map fun i => (refs D).getD i .none) = refs (p.map fun i => D.getD i ⟨0, 0, 0⟩) := by
      unfold refs
      rw [List.map_map]
      refine List.map_congr_left fun i hi => ?_
      have hi' : i < D.length := List.mem_range.mp (hp.mem_iff.mp hi)
      simp [hi']
    rw [← e2]; exact hla
end
end
/-! ### T8 -/
section
open PySem PySem.Calls PySem.W PyProof.Rows
theorem pick_rev (xs : List Value) : pick xs none none (some (-1)) = xs.reverse := by
  unfold pick; rw [krv_pick]
theorem all_range (D : List Mt) : ((List.range D.length).map fun i => D.getD i ⟨0, 0, 0⟩) = D := by
  apply List.ext_getElem
  · simp
  · intro i h1 h2
    simp [h2]
theorem ordered.perm {R D : List Mt} {key : Mt → Int} (h : ordered R D key) : R.Perm D := by
  obtain ⟨p, hp, _, rfl⟩ := h
  have := hp.map fun i => D.getD i ⟨0, 0, 0⟩
  rw [all_range] at this
  exact this
theorem ordered.len {R D : List Mt} {key : Mt → Int} (h : ordered R D key) : R.length = D.length := h.perm.length_eq
theorem ordered.pw {R D : List Mt} {key : Mt → Int} (h : ordered R D key) : R.Pairwise fun x y => key x ≤ key y := by
  obtain ⟨p, hp, hs, rfl⟩ := h
  rw [List.pairwise_map]
  refine hs.imp_of_mem fun {a b} ha hb q => ?_
  have ha' : a < D.length := List.mem_range.mp (hp.mem_iff.mp ha)
  have hb' : b < D.length := List.mem_range.mp (hp.mem_iff.mp hb)
  unfold lexI at q
  simp only [List.getD_eq_getElem?_getD, List.getElem?_map, List.getElem?_eq_getElem ha', List.getElem?_eq_getElem hb', Option.map_some, Option.getD_some] at q ⊢
  omega
theorem ordered.at {R D : List Mt} {key : Mt → Int} (h : ordered R D key) (i j : Nat) (hi : i < j) (hj : j < R.length) : key R[i] ≤ key R[j] :=
  (List.pairwise_iff_getElem.mp h.pw) i j (by omega) hj hi
theorem ordered.rowOk {R D : List Mt} (h : ordered R D (·.b)) (h5 : D.length ≤ 5) (hlo : ∀ x ∈ D, 0 ≤ x.b ∧ x.b ≤ 16 ∧ x.b ≤ x.e ∧ x.e ≤ x.b + 4) : RowOk R :=
  ⟨by rw [h.len]; exact h5, fun x hx => hlo x (h.perm.mem_iff.mp hx), fun i j hi hj => h.at i j hi hj⟩
theorem ordered.nil (key : Mt → Int) : ordered [] [] key := ⟨[], .refl _, .nil, rfl⟩
/-- one more, behind its like -/
theorem ordered.snoc {R D : List Mt} {key : Mt → Int} {x : Mt} {q : Nat} (h : ordered R D key) (hq : q ≤ R.length)
    (h1 : ∀ (i : Nat) (hi : i < R.length), i < q → key R[i] ≤ key x) (h2 : ∀ (i : Nat) (hi : i < R.length), q ≤ i → key x < key R[i]) : ordered (R.take q ++ x :: R.drop q) (D ++ [x]) key := by
  obtain ⟨p, hp, hs, rfl⟩ := h
  have hl : p.length = D.length := by rw [hp.length_eq]; simp
  have at' : ∀ (i : Nat) (hi : i < p.length), p[i] < D.length := fun i hi => List.mem_range.mp (hp.mem_iff.mp (List.getElem_mem hi))
  have key' : ∀ (i : Nat) (hi : i < p.length), (D.map key).getD p[i] 0 = key (D.getD p[i] ⟨0, 0, 0⟩) := fun i hi => by
    have := at' i hi
    simp [this]
  refine ⟨p.take q ++ D.length :: p.drop q, ?_, ?_, ?_⟩
  · rw [List.length_append]; exact ins_perm hp
  · rw [List.map_append]
    have := insR_lex (x := key x) (q := q) (ks := D.map key) (p := p) (by simpa using hp) hs (fun a ha => ?_) (fun a ha => ?_)
    · simpa using this
    · obtain ⟨i, hi, rfl⟩ := List.mem_iff_getElem.mp ha
      have hi' : i < q ∧ i < p.length := by rw [List.length_take] at hi; omega
      rw [List.getElem_take, key' i hi'.2]
      have := h1 i (by simpa using hi'.2) hi'.1
      simpa using this
    · obtain ⟨i, hi, rfl⟩ := List.mem_iff_getElem.mp ha
      have hi' : q + i < p.length := by rw [List.length_drop] at hi; omega
      rw [List.getElem_drop, key' _ hi']
      have := h2 (q + i) (by simpa using hi') (by omega)
      simpa using this
  · rw [List.map_append, List.map_cons, ← List.map_take, ← List.map_drop]
    have e : ∀ l : List Nat, (∀ a ∈ l, a ∈ p) → (l.map fun i => D.getD i ⟨0, 0, 0⟩) = l.map fun i => (D ++ [x]).getD i ⟨0, 0, 0⟩ := fun l hl => List.map_congr_left fun a ha => by
      have : a < D.length := List.mem_range.mp (hp.mem_iff.mp (hl a ha))
      simp [List.getElem?_append_left, this]
    rw [e _ fun a ha => List.mem_of_mem_take ha, e _ fun a ha => List.mem_of_mem_drop ha]
    simp
/-- one more, ahead of its like -/
theorem ordered.cons {R D : List Mt} {key : Mt → Int} {x : Mt} {q : Nat} (h : ordered R D key) (hq : q ≤ R.length)
    (h1 : ∀ (i : Nat) (hi : i < R.length), i < q → key R[i] < key x) (h2 : ∀ (i : Nat) (hi : i < R.length), q ≤ i → key x ≤ key R[i]) : ordered (R.take q ++ x :: R.drop q) (x :: D) key := by
  obtain ⟨p, hp, hs, rfl⟩ := h
  have at' : ∀ (i : Nat) (hi : i < p.length), p[i] < D.length := fun i hi => List.mem_range.mp (hp.mem_iff.mp (List.getElem_mem hi))
  have key' : ∀ (i : Nat) (hi : i < p.length), (D.map key).getD p[i] 0 = key (D.getD p[i] ⟨0, 0, 0⟩) := fun i hi => by
    have := at' i hi
    simp [this]
  refine ⟨(p.take q).map (· + 1) ++ 0 :: (p.drop q).map (· + 1), ?_, ?_, ?_⟩
  · rw [List.length_cons]; exact insL_perm hp
  · rw [List.map_cons]
    refine insL_lex hs (fun a ha => ?_) (fun a ha => ?_)
    · obtain ⟨i, hi, rfl⟩ := List.mem_iff_getElem.mp ha
      have hi' : i < q ∧ i < p.length := by rw [List.length_take] at hi; omega
      rw [List.getElem_take, key' i hi'.2]
      have := h1 i (by simpa using hi'.2) hi'.1
      simpa using this
    · obtain ⟨i, hi, rfl⟩ := List.mem_iff_getElem.mp ha
      have hi' : q + i < p.length := by rw [List.length_drop] at hi; omega
      rw [List.getElem_drop, key' _ hi']
      have := h2 (q + i) (by simpa using hi') (by omega)
      simpa using this
  · rw [List.map_append, List.map_cons, ← List.map_take, ← List.map_drop, List.map_map, List.map_map]
    rfl
end
/-! ### D9 -/
section
open PySem PySem.Calls PySem.W PyProof.Rows
section
variable {prog : Program} {w : World} {A : Around} {s : Shared} {mg mb : Str → Option Value} {fw : Addr × Addr}
local macro_rules | `(tactic| walk_at "go") => `(tactic| ((with_reducible show WP _ _ (eval (Expr.Name (Str.ofString "row") _) (callEnvC _ _ _)) _ _ _); refine r_cell (by assumption) (.head _) rfl ?_))
local macro_rules | `(tactic| walk_at "go") => `(tactic| ((with_reducible show WP _ _ (eval (Expr.Name (Str.ofString "ends") _) (callEnvC _ _ _)) _ _ _); refine r_cell (by assumption) (.tail _ (.head _)) rfl ?_))
local macro_rules | `(tactic| walk_at "go") => `(tactic| ((with_reducible show WP _ _ (callWith _ (Value.builtin _) [] _ _) _ _ _); refine cw_builtinK ?_))
local macro_rules | `(tactic| walk_at "up") => `(tactic| first | assumption | exact Up.rfl | (refine Up.trans (by assumption) ?_; walk_at "up"))
set_option maxHeartbeats 8000000 in
theorem t4 {n : Nat} {s₀ : Shared} {h₀ g : Heap} {L ra ea da : Addr} {m : Str → Option Value} {mu : List (Addr × Ent)} {R E D : List Mt} {v3 : Option Value} (hA : Fine n A) (W : Wd mg mb g) (N' : Nm mg mb) (Dg : Df g) (X : Rx w.params g) (hd : IsT g 37 [.int 4 304])
    (I : On s₀ h₀ g L m ((L + 1, .cell (some (.ref ra))) :: (L + 2, .cell (some (.ref ea))) :: (L + 3, .cell v3) :: mu) s) (hda : m "drawn" = some (.ref da)) (hdr : IsL g da (refs D)) (hra : IsL g ra (refs R)) (hea : IsL g ea (refs E))
    (hDi : ∀ x ∈ D, x.In g) (hD5 : D.length ≤ 5) (hlo : ∀ x ∈ D, 0 ≤ x.b ∧ x.b ≤ 16 ∧ x.b ≤ x.e ∧ x.e ≤ x.b + 4) (oR : ordered R D (·.b)) (oE : ordered E D.reverse (·.e)) (hn : n < 400 := by omega) :
    WP (model prog w) A (execs (lawRest 4) (eLaw L fw)) (True1 s₀ h₀) No s := by
  have hh := hA.h
  have pR := oR.perm
  have pE : E.Perm D := oE.perm.trans (List.reverse_perm D)
  have hlR : R.length = D.length := oR.len
  have hlE : E.length = R.length := by rw [pE.length_eq, hlR]
  have hok := oR.rowOk hD5 hlo
  have hRi : ∀ x ∈ R, x.In g := fun x hx => hDi x (pR.mem_iff.mp hx)
  have hEi : ∀ x ∈ E, x.In g := fun x hx => hDi x (pE.mem_iff.mp hx)
  have pl := plain hok (pE.trans pR.symm) (fun i j hi hj => oE.at i j hi hj)
  have hzD : (refs D).length ≤ 100000 := by unfold refs; rw [List.length_map]; omega
  conv in lawRest _ => whnf
  repeat' walk_at "go"
  refine sorted_first hA W (by assumption) (IsL.on (by assumption) hdr Up.rfl) hDi hD5 oR ?_ (by omega)
  intro a1 g1 s1 u1 ha1 O1
  refine r_neSame hA (IsL.on O1 hra u1) (IsL.on O1 ha1 Up.rfl) ?_ (by omega)
  have W1 := W.up u1
  repeat' walk_at "go"
  intro S s2 K2 hS
  have O2 := On.keeps (by assumption) K2
  refine r_tailSliceT [.ref da, .ref S] O2 (IsL.on O2 hdr (by walk_at "up")) hS .none .none (.int _ _) (by decide) hzD ?_
  intro a2 g2 s3 u2 ha2 O3
  rw [pick_rev] at ha2
  have hrv : (refs D).reverse = refs D.reverse := by unfold refs; rw [List.map_reverse]
  rw [hrv] at ha2
  have W2 := W1.up u2
  repeat' walk_at "go"
  refine sorted_last hA W2 (by assumption) (IsL.on (by assumption) ha2 Up.rfl) (fun x hx => ((hDi x (List.mem_reverse.mp hx)).up u1).up u2) (by rw [List.length_reverse]; exact hD5) oE ?_ (by omega)
  intro a3 g3 s4 u3 ha3 O4
  have up3 : Up g g3 := u1.trans (u2.trans u3)
  refine r_neSame hA (IsL.on O4 hea up3) (IsL.on O4 ha3 Up.rfl) ?_ (by omega)
  refine r_tb ?_
  refine ite_neg (by decide) ?_
  refine w_orNil ?_
  refine ite_neg (by decide) ?_
  refine w_nil ?_
  exact t5 (N := R.length) hA (W.up up3) N' (Dg.up up3) (X.up up3) (hd.up up3) O4 (hra.up up3) (hea.up up3) hok rfl hlE (fun x hx => (hRi x hx).up up3) (fun x hx => (hEi x hx).up up3) (fun i j hi hj => oE.at i j hi hj) pl.1 pl.2 (by omega)
end
end
/-! ### E1 -/
section
open PySem PySem.Calls PySem.W PyProof.Rows
section
variable {prog : Program} {w : World} {A : Around} {s₀ s : Shared} {h₀ g : Heap} {L : Addr} {m : Str → Option Value} {mu : List (Addr × Ent)} {mg mb : Str → Option Value}
theorem r_isiB {a : Int} {t : Tok} {Q : Value → Shared → Prop} (I : On s₀ h₀ g L m mu s) (h : ∀ s', On s₀ h₀ g L m mu s' → Q (.bool false) s') : WP (model prog w) A (call (.builtin "isinstance") [.int a t, .type "bool"]) Q No s := by
  simp only [WP_eq]
  exact IsiPair.int_bool (h _ (I.tok _))
theorem r_insR {n : Nat} {a : Addr} {R : List Mt} {x : Mt} {Q : Value → Shared → Prop} (hA : Fine n A) (W : Wd mg mb g) (N : Nm mg mb) (D : Df g) (I : On s₀ h₀ g L m mu s) (hm : (a, .list (refs R)) ∈ mu) (hz : R.length ≤ 1000) (hR : ∀ x ∈ R, x.In g) (hx : x.In g)
    (hs : ∀ (i j : Nat) (hi : i < j) (hj : j < R.length), R[i].b ≤ R[j].b)
    (h : ∀ s' (p : Nat), (∀ mu', Put a (.list (refs R)) (.list (refs (R.take p ++ x :: R.drop p))) mu mu' → On s₀ h₀ g L m mu' s') → p ≤ R.length → (∀ (i : Nat) (hi : i < R.length), i < p → R[i].b ≤ x.b) → (∀ (i : Nat) (hi : i < R.length), p ≤ i → x.b < R[i].b) → Q .none s') (hn : n < 880 := by omega) :
    WP (model prog w) A (call (.ref 53) [.ref a, .ref x.a] [("key", .ref 114)]) Q No s := by
  have u := I.hide1 hm
  refine insR_ok hA (W.up u) N (D.up u) (I.mus _ hm) hz (fun y hy => (hR y hy).up u) (hx.up u) hs (fun s' p K hl hp h1 h2 => h s' p (fun mu' P => ?_) hp h1 h2) hn
  obtain ⟨h', tk, rfl, hk⟩ := K
  exact I.put P hl hk
theorem r_insL {n : Nat} {a : Addr} {R : List Mt} {x : Mt} {Q : Value → Shared → Prop} (hA : Fine n A) (W : Wd mg mb g) (N : Nm mg mb) (D : Df g) (I : On s₀ h₀ g L m mu s) (hm : (a, .list (refs R)) ∈ mu) (hz : R.length ≤ 1000) (hR : ∀ x ∈ R, x.In g) (hx : x.In g)
    (hs : ∀ (i j : Nat) (hi : i < j) (hj : j < R.length), R[i].e ≤ R[j].e)
    (h : ∀ s' (p : Nat), (∀ mu', Put a (.list (refs R)) (.list (refs (R.take p ++ x :: R.drop p))) mu mu' → On s₀ h₀ g L m mu' s') → p ≤ R.length → (∀ (i : Nat) (hi : i < R.length), i < p → R[i].e < x.e) → (∀ (i : Nat) (hi : i < R.length), p ≤ i → x.e ≤ R[i].e) → Q .none s') (hn : n < 880 := by omega) :
    WP (model prog w) A (call (.ref 71) [.ref a, .ref x.a] [("key", .ref 121)]) Q No s := by
  have u := I.hide1 hm
  refine insL_ok hA (W.up u) N (D.up u) (I.mus _ hm) hz (fun y hy => (hR y hy).up u) (hx.up u) hs (fun s' p K hl hp h1 h2 => h s' p (fun mu' P => ?_) hp h1 h2) hn
  obtain ⟨h', tk, rfl, hk⟩ := K
  exact I.put P hl hk
end
/-- the three rows of meetings, between two turns -/
structure Rws (g : Heap) (i : Nat) (D R E : List Mt) : Prop where
  len : D.length ≤ i
  inn : ∀ x ∈ D, x.In g
  lo : ∀ x ∈ D, 0 ≤ x.b ∧ x.b ≤ 16 ∧ x.b ≤ x.e ∧ x.e ≤ x.b + 4
  oR : ordered R D (·.b)
  oE : ordered E D.reverse (·.e)
theorem Rws.up {g g' : Heap} {i j : Nat} {D R E : List Mt} (x : Rws g i D R E) (u : Up g g') (h : i ≤ j) : Rws g' j D R E :=
  ⟨Nat.le_trans x.len h, fun y hy => (x.inn y hy).up u, x.lo, x.oR, x.oE⟩
theorem Rws.inR {g : Heap} {i : Nat} {D R E : List Mt} (x : Rws g i D R E) (y : Mt) (hy : y ∈ R) : y.In g := x.inn y (x.oR.perm.mem_iff.mp hy)
theorem Rws.inE {g : Heap} {i : Nat} {D R E : List Mt} (x : Rws g i D R E) (y : Mt) (hy : y ∈ E) : y.In g := x.inn y (List.mem_reverse.mp (x.oE.perm.mem_iff.mp hy))
theorem Rws.more {g g' : Heap} {i : Nat} {D R E : List Mt} {y : Mt} {p q : Nat} (x : Rws g i D R E) (u : Up g g') (hy : y.In g') (hlo : 0 ≤ y.b ∧ y.b ≤ 16 ∧ y.b ≤ y.e ∧ y.e ≤ y.b + 4) (hp : p ≤ R.length) (hq : q ≤ E.length)
    (h1 : ∀ (i : Nat) (hi : i < R.length), i < p → R[i].b ≤ y.b) (h2 : ∀ (i : Nat) (hi : i < R.length), p ≤ i → y.b < R[i].b)
    (h3 : ∀ (i : Nat) (hi : i < E.length), i < q → E[i].e < y.e) (h4 : ∀ (i : Nat) (hi : i < E.length), q ≤ i → y.e ≤ E[i].e) :
    Rws g' (i + 1) (D ++ [y]) (R.take p ++ y :: R.drop p) (E.take q ++ y :: E.drop q) := by
  refine ⟨by rw [List.length_append]; exact Nat.succ_le_succ x.len, fun z hz => ?_, fun z hz => ?_, x.oR.snoc hp h1 h2, ?_⟩
  · rcases List.mem_append.mp hz with h | h
    · exact (x.inn z h).up u
    · rw [List.mem_singleton.mp h]; exact hy
  · rcases List.mem_append.mp hz with h | h
    · exact x.lo z h
    · rw [List.mem_singleton.mp h]; exact hlo
  · rw [List.reverse_append]
    exact x.oE.cons hq h3 h4
end
local macro_rules | `(tactic| walk_at "go") => `(tactic| first
  | ((with_reducible show WP _ _ (callWith _ (Value.ref 107) [] _ []) _ _ _); refine cw_def fClock ?_)
  | ((with_reducible show FnIn _ 107 _ ∧ _); refine ⟨FnIn.up (Wd.clock (by assumption)) (On.keep (by assumption)), ?_⟩)
  | ((with_reducible show WP _ _ (callWith _ (Value.ref 93) [] _ []) _ _ _); refine cw_def fOff ?_)
  | ((with_reducible show FnIn _ 93 _ ∧ _); refine ⟨FnIn.up (Wd.off (by assumption)) (On.keep (by assumption)), ?_⟩)
  | ((with_reducible show WP _ _ (callWith _ (Value.ref 53) [] _ []) _ _ _); refine cw_def fInsR ?_)
  | ((with_reducible show FnIn _ 53 _ ∧ _); refine ⟨FnIn.up (Wd.insR (by assumption)) (On.keep (by assumption)), ?_⟩)
  | ((with_reducible show WP _ _ (callWith _ (Value.ref 71) [] _ []) _ _ _); refine cw_def fInsL ?_)
  | ((with_reducible show FnIn _ 71 _ ∧ _); refine ⟨FnIn.up (Wd.insL (by assumption)) (On.keep (by assumption)), ?_⟩))
section
open PySem PySem.Calls PySem.W PyProof.Rows
section
variable {prog : Program} {w : World} {A : Around} {s : Shared} {mg mb : Str → Option Value} {fw : Addr × Addr}
local macro_rules | `(tactic| walk_at "go") => `(tactic| ((with_reducible show WP _ _ (eval (Expr.Name (Str.ofString "row") _) (callEnvC _ _ _)) _ _ _); refine r_cell (by assumption) (.tail _ (.tail _ (.tail _ (.head _)))) rfl ?_))
local macro_rules | `(tactic| walk_at "go") => `(tactic| ((with_reducible show WP _ _ (eval (Expr.Name (Str.ofString "ends") _) (callEnvC _ _ _)) _ _ _); refine r_cell (by assumption) (.tail _ (.tail _ (.tail _ (.tail _ (.head _))))) rfl ?_))
local macro_rules | `(tactic| walk_at "go") => `(tactic| ((with_reducible show WP _ _ (callWith _ (Value.ref 53) [] _ _) _ _ _); refine cw_defK fInsR ?_))
local macro_rules | `(tactic| walk_at "go") => `(tactic| ((with_reducible show WP _ _ (callWith _ (Value.ref 71) [] _ _) _ _ _); refine cw_defK fInsL ?_))
local macro_rules | `(tactic| walk_at "go") => `(tactic| ((with_reducible show WP _ _ (call (Value.builtin "isinstance") [Value.int _ _, Value.type "bool"]) _ _ _); refine r_isiB (by assumption) ?_; intro _ _))
local macro_rules | `(tactic| walk_at "up") => `(tactic| first | assumption | exact Up.rfl | (refine Up.trans (by assumption) ?_; walk_at "up"))
set_option maxHeartbeats 8000000 in
theorem t3 {n : Nat} {s₀ : Shared} {h₀ g : Heap} {L ra ea da fa : Addr} {m : Str → Option Value} {mu : List (Addr × Ent)} {vs : List Value} {fs : List Int} {v3 : Option Value} (hA : Fine n A) (W : Wd mg mb g) (N' : Nm mg mb) (Dg : Df g) (X : Rx w.params g) (hd : IsT g 37 [.int 4 304])
    (I : On s₀ h₀ g L m ((da, .list []) :: (ra, .list []) :: (ea, .list []) :: (L + 1, .cell (some (.ref ra))) :: (L + 2, .cell (some (.ref ea))) :: (L + 3, .cell v3) :: mu) s) (hda : m "drawn" = some (.ref da)) (hfa : m "five" = some (.ref fa)) (hf : IsL g fa vs) (hi : IntsAre vs fs) (h5 : fs.length ≤ 5) (hlo : ∀ x ∈ fs, 0 ≤ x ∧ x < 1000000) (hn : n < 380 := by omega) :
    WP (model prog w) A (execs (lawRest 3) (eLaw L fw)) (True1 s₀ h₀) No s := by
  have hh := hA.h
  have hvl : vs.length = fs.length := hi.length
  conv in lawRest _ => whnf
  repeat' walk_at "go"
  refine it_listN (by assumption) hh hf ?_
  intro I1 It1 s1 WI1 O1
  refine for_loopQ (fun i m mu' g' => m "drawn" = some (.ref da) ∧ ∃ D R E : List Mt, Rws g' i D R E ∧ mu' = (da, .list (refs D)) :: (ra, .list (refs R)) :: (ea, .list (refs E)) :: (L + 1, .cell (some (.ref ra))) :: (L + 2, .cell (some (.ref ea))) :: (L + 3, .cell v3) :: mu) WI1 ?st1 O1 ?turn1 ?done1 (by intro _; rfl)
  case st1 => exact ⟨hda, [], [], [], ⟨Nat.zero_le _, by simp, by simp, ordered.nil _, ordered.nil _⟩, rfl⟩
  case done1 =>
    rintro m2 mu2 g2 s2 u2 ⟨hd2, D, R, E, hW, rfl⟩ O2
    obtain ⟨g3, u3, hDl, O3⟩ := O2.freeze
    obtain ⟨g4, u4, hRl, O4⟩ := O3.freeze
    obtain ⟨g5, u5, hEl, O5⟩ := O4.freeze
    have u35 : Up g2 g5 := u3.trans (u4.trans u5)
    have u05 : Up g g5 := u2.trans u35
    exact t4 hA (W.up u05) N' (Dg.up u05) (X.up u05) (hd.up u05) O5 hd2 (hDl.up (u4.trans u5)) (hRl.up u5) hEl (fun x hx => (hW.inn x hx).up u35) (by have := hW.len; omega) hW.lo hW.oR hW.oE (by omega)
  case turn1 =>
    rintro i v m2 mu2 g2 s2 K2 hin hv u2 ⟨hd2, D, R, E, hW, rfl⟩ O2 Q1 hQ1
    simp only [List.cons_append] at O2
    have hin' : i < fs.length := by omega
    obtain ⟨tv, rfl⟩ : ∃ t, v = .int fs[i] t := by
      obtain ⟨t, e⟩ := hi.get i fs[i] (by simp [hin'])
      rw [e] at hv; exact ⟨t, (Option.some.inj hv).symm⟩
    have hx := hlo _ (List.getElem_mem hin')
    generalize fs[i] = x at *
    have W2 := W.up u2
    have Dg2 := Dg.up u2
    have X2 := X.up u2
    repeat' walk_at "go"
    have u3 := (by assumption : Up g2 _)
    have O3 := (by assumption : On s₀ h₀ _ L _ _ _)
    have hd7 : 0 ≤ x % 7 ∧ x % 7 ≤ 6 := by omega
    have hb8 : -8 ≤ x / 7 % 17 - 8 ∧ x / 7 % 17 - 8 ≤ 8 := by omega
    have tz := tz_at hd7 hb8
    refine clock_ok hA (Wd.up (W2.up u3) O3.keep) N' hd7 hb8 ?_ (by omega)
    intro s4 t4 K4
    have O4 := O3.keeps K4
    repeat' walk_at "go"
    generalize hB : x / 7 % 17 - 8 = B at *
    by_cases hd6 : x % 7 = 6
    · rw [if_pos hd6] at tz
      refine off_ok hA (Wd.up (W2.up u3) O4.keep) N' ((X2.up u3).up O4.keep) tz.1 tz.2 ?_ (by omega)
      intro s5 t5 K5
      have O5 := O4.keeps K5
      repeat' walk_at "go"
      refine (hQ1 _ ?_).2
      refine' ⟨_, _, _, u3, ⟨?c1, D, R, E, hW.up u3 (Nat.le_succ i), rfl⟩, ?c2⟩
      case c2 => assumption
      case c1 => exact hd2
    · rw [if_neg hd6] at tz
      refine off_ok hA (Wd.up (W2.up u3) O4.keep) N' ((X2.up u3).up O4.keep) tz.1 tz.2 ?_ (by omega)
      intro s5 t5 K5
      have O5 := O4.keeps K5
      repeat' walk_at "go"
      rename_i s6 g6 o u6 hT6 O6 W6 s7 O7 pl
      have hD5 : D.length ≤ 5 := by have := hW.len; omega
      have hRl : R.length ≤ 5 := by rw [hW.oR.len]; exact hD5
      have hEl : E.length ≤ 5 := by rw [hW.oE.len, List.length_reverse]; exact hD5
      have hzD : (refs D).length ≤ 100000 := by unfold refs; rw [List.length_map]; omega
      have u26 : Up g2 g6 := u3.trans u6
      have hx6 : Mt.In g6 ⟨o, B + 8, 1800 * B / 1800 + 8 + x / 119 % 5⟩ := ⟨_, _, hT6⟩
      generalize hy : (⟨o, B + 8, 1800 * B / 1800 + 8 + x / 119 % 5⟩ : Mt) = y at hx6
      have hyo : o = y.a := by rw [← hy]
      have hyb : y.b = B + 8 := by rw [← hy]
      have hye : y.e = 1800 * B / 1800 + 8 + x / 119 % 5 := by rw [← hy]
      have hylo : 0 ≤ y.b ∧ y.b ≤ 16 ∧ y.b ≤ y.e ∧ y.e ≤ y.b + 4 := by rw [hyb, hye]; omega
      subst hyo
      refine r_append O7 .head hzD ?_
      intro s8 O8
      have W6 := W2.up u26
      repeat' walk_at "go"
      refine r_insR (R := R) (x := y) hA W6 N' (Dg2.up u26) (by assumption) (by simp) (by omega) (fun z hz => (hW.inR z hz).up u26) hx6 (fun i j hi hj => hW.oR.at i j hi hj) ?_ (by omega)
      intro s9 p h9 hp h1 h2
      have O9 := h9 _ (.tail .head)
      repeat' walk_at "go"
      refine r_insL (R := E) (x := y) hA W6 N' (Dg2.up u26) (by assumption) (by simp) (by omega) (fun z hz => (hW.inE z hz).up u26) hx6 (fun i j hi hj => hW.oE.at i j hi hj) ?_ (by omega)
      intro s10 q h10 hq h3 h4
      have O10 := h10 _ (.tail (.tail .head))
      repeat' walk_at "go"
      have eD : refs D ++ [Value.ref y.a] = refs (D ++ [y]) := by unfold refs; simp
      rw [eD] at O10
      refine (hQ1 _ ?_).1
      refine' ⟨_, _, _, u26, ⟨?d1, D ++ [y], _, _, hW.more u26 hx6 hylo hp hq h1 h2 h3 h4, rfl⟩, ?d2⟩
      case d2 => exact O10
      case d1 => exact hd2
end
end
/-! ### E0 -/
section
open PySem PySem.Calls PySem.W PyProof.Rows
theorem pick_toI {vs : List Value} {ns : List Int} (hi : IntsAre vs ns) {k : Int} (h : 0 ≤ k) : IntsAre (pick vs none (some k) none) (ns.take k.toNat) := kmk_upto hi h
theorem pick_fromI {vs : List Value} {ns : List Int} (hi : IntsAre vs ns) {k : Int} (h : 0 ≤ k) : IntsAre (pick vs (some k) none none) (ns.drop k.toNat) := kmk_from hi h
theorem il_up {h h' : Heap} {a : Addr} {xs : Array Value} (x : h.IsList a xs) (u : Up h h') : h'.IsList a xs := let ⟨o, e, r⟩ := x; ⟨o, u _ _ e, r⟩
theorem r_tailSliceI {prog : Program} {w : World} {A : Around} {s₀ : Shared} {h₀ g : Heap} {L : Addr} {m : Str → Option Value} {mu : List (Addr × Ent)} {s : Shared} {value slice : Expr} {l S : Addr} {xs : List Value} {vl vu vt : Value} {lo hi st : Option Int} {Q : Value → Shared → Prop} (ops : List Value) (I : On s₀ h₀ g L m mu s) (hl : g.IsList l xs.toArray) (hS : s.heap.IsSliceOf S vl vu vt)
    (pl : IsPart vl lo) (pu : IsPart vu hi) (pt : IsPart vt st) (h0 : st ≠ some 0) (hz : xs.length ≤ 100000) (h : ∀ D g' s', Up g g' → IsL g' D (pick xs lo hi st) → On s₀ h₀ g' L m mu s' → Q (.ref D) s')
    (hs : subscripted slice false (.ref l) (.ref S) = operate ops (getItem (.ref l) (.ref S)) := by with_unfolding_all rfl) :
    WP (model prog w) A (subscriptTail value slice (.ref l) (.ref S)) Q No s := by
  simp only [WP_eq] at *
  have hl := il_up hl I.keep
  refine tail_any (hl.typeIs) list_getitem_lookup (wpAny_getItem_list_slice hl hS pl pu pt h0 ?_ (by rw [List.size_toArray, sizeLine_eq]; omega)) hs
  obtain ⟨g', u, e, J⟩ := I.push (listO (pick xs lo hi st) 0)
  exact h _ g' _ u ⟨0, e⟩ J
end
section
open PySem PySem.Calls PySem.W PyProof.Rows
section
variable {prog : Program} {w : World} {A : Around} {s : Shared} {mg mb : Str → Option Value} {fw : Addr × Addr}
local macro_rules | `(tactic| walk_at "go") => `(tactic| ((with_reducible show WP _ _ (storeName (callEnvC _ _ _) (Str.ofString "row") _) _ _ _); refine r_storeC (by assumption) (.tail (.tail (.tail .head))) rfl ?_; intro _ _))
local macro_rules | `(tactic| walk_at "go") => `(tactic| ((with_reducible show WP _ _ (storeName (callEnvC _ _ _) (Str.ofString "ends") _) _ _ _); refine r_storeC (by assumption) (.tail (.tail (.tail (.tail .head)))) rfl ?_; intro _ _))
local macro_rules | `(tactic| walk_at "up") => `(tactic| first | assumption | exact Up.rfl | (refine Up.trans (by assumption) ?_; walk_at "up"))
set_option maxHeartbeats 8000000 in
theorem t0 {n : Nat} {s₀ : Shared} {h₀ g : Heap} {L sa : Addr} {m : Str → Option Value} {mu : List (Addr × Ent)} {vs : List Value} {ns : List Int} {v1 v2 v3 : Option Value} (hA : Fine n A) (W : Wd mg mb g) (N' : Nm mg mb) (Dg : Df g) (X : Rx w.params g) (hd : IsT g 37 [.int 4 304])
    (I : On s₀ h₀ g L m ((L + 1, .cell v1) :: (L + 2, .cell v2) :: (L + 3, .cell v3) :: mu) s) (hsa : m "script" = some (.ref sa)) (hs : g.IsList sa vs.toArray) (hi : IntsAre vs ns) (h63 : vs.length ≤ 63) (hn : n < 350 := by omega) :
    WP (model prog w) A (execs (lawRest 0) (eLaw L fw)) (True1 s₀ h₀) No s := by
  have hh := hA.h
  conv in lawRest _ => whnf
  repeat' walk_at "go"
  rename_i s1 g1 sp u1 hsp O1 W1 s2 O2
  obtain ⟨sps, hsps, hip⟩ : ∃ sps, IsL g1 sp sps ∧ IntsAre sps [394, 297, 207, 530, 77] := ⟨_, hsp, .cons 394 _ (.cons 297 _ (.cons 207 _ (.cons 530 _ (.cons 77 _ .nil))))⟩
  clear hsp
  have hspl : sps.length = 5 := hip.length
  have hzv : vs.length ≤ 100000 := by omega
  have hp5 : IntsAre (pick vs none (some 5) none) (ns.take 5) := pick_toI hi (k := 5) (by decide)
  have hl5 : (pick vs none (some 5) none).length ≤ 5 := by rw [hp5.length, List.length_take]; exact Nat.min_le_left _ _
  have hs1 := il_up hs u1
  refine r_comp [] (n := (pick vs none (some 5) none).length) (val := fun i v => (pick vs none (some 5) none)[i]? = some v) (fun _ _ mu => mu = []) (fun q ys => IntsAre ys (((ns.take 5).map (· % 1000000)).take q)) ?jc (by omega) (fun C => rfl) .nil
  case jc =>
    repeat' walk_at "go"
    intro S1 s3 K3 hS1
    have O3 := On.keeps (by assumption) K3
    refine r_tailSliceI [.ref S1, .ref sa] O3 hs1 hS1 .none (.int _ _) .none (by decide) hzv ?_
    intro a2 g2 s4 u2 ha2 O4
    refine ⟨Src.list hh (IsL.on O4 ha2 Up.rfl), ?turnJ, ?doneJ⟩
    case turnJ =>
      rintro C q v mC _ gC J sC hq hv uC rfl OC
      simp only [List.nil_append] at OC
      have hq' : q < (ns.take 5).length := by rw [← hp5.length]; exact hq
      obtain ⟨t, rfl⟩ : ∃ t, v = .int (ns.take 5)[q] t := by
        obtain ⟨t, e⟩ := hp5.get q (ns.take 5)[q] (List.getElem?_eq_getElem hq')
        rw [e] at hv; exact ⟨t, (Option.some.inj hv).symm⟩
      repeat' walk_at "go"
      refine ⟨fun ys hy => ?_, _, [], _, Up.rfl, rfl, (by assumption)⟩
      have hq2 : q < ((ns.take 5).map (· % 1000000)).length := by rw [List.length_map]; exact hq'
      rw [List.take_succ_eq_append_getElem hq2, List.getElem_map]
      exact ints_snoc hy _ _
    case doneJ =>
      intro D5 ys s5 hD5 hys hlD5 K5
      obtain ⟨g6, u6, hlD6, O6⟩ := O4.gain K5 hD5 hlD5
      have hys' : IntsAre ys ((ns.take 5).map (· % 1000000)) := by
        rw [List.take_of_length_le (by rw [List.length_map, hp5.length]; exact Nat.le_refl _)] at hys; exact hys
      have W6 := (W1.up u2).up u6
      have hs6 := il_up (il_up hs1 u2) u6
      have hsp6 := (hsps.up u2).up u6
      repeat' walk_at "go"
      intro S2 s7 K7 hS2
      have O7 := On.keeps (by assumption) K7
      refine r_tailSliceI [.ref S2, .ref sa] O7 hs6 hS2 .none (.int _ _) .none (by decide) hzv ?_
      intro a3 g8 s8 u8 ha3 O8
      have W8 := W6.up u8
      repeat' walk_at "go"
      refine r_lenL O8 (IsL.on O8 ha3 Up.rfl) (by omega) ?_
      intro s9 t9 O9
      repeat' walk_at "go"
      intro S3 s10 K10 hS3
      have O10 := On.keeps (by assumption) K10
      refine r_tailSliceT [.ref S3, .ref sp] O10 (IsL.on O10 hsp6 u8) hS3 (.int _ _) .none .none (by decide) (by omega) ?_
      intro a4 g11 s11 u11 ha4 O11
      have hir := pick_fromI hip (k := ((pick vs none (some 5) none).length : Int)) (by omega)
      have hlr := hir.length
      rw [Int.toNat_natCast, List.length_drop, List.length_cons, List.length_cons, List.length_cons, List.length_cons, List.length_cons, List.length_nil] at hlr
      have hly : ys.length = (pick vs none (some 5) none).length := by rw [hys'.length, List.length_map, hp5.length]
      refine r_addL O11 (IsL.on O11 hlD6 (u8.trans u11)) (IsL.on O11 ha4 Up.rfl) (by omega) ?_
      intro a5 g12 s12 u12 ha5 O12
      have W12 := (W8.up u11).up u12
      repeat' walk_at "go"
      refine r_newM (by assumption) (by decide) ?_
      intro s13 da O13
      repeat' walk_at "go"
      refine r_newM (by assumption) (by decide) ?_
      intro s14 ra O14
      repeat' walk_at "go"
      refine r_newM (by assumption) (by decide) ?_
      intro s15 ea O15
      repeat' ((fail_if_success (with_reducible show WP _ _ (execs (Stmt.For _ _ _ _ _ :: _) _) _ _ _)); walk_at "go")
      have u16 := (by assumption : Up g12 _)
      have O16 := (by assumption : On s₀ h₀ _ L _ _ _)
      have P16 := O16.perm (List.Perm.append_right _ (List.reverse_perm [(da, Ent.list []), (ra, Ent.list []), (ea, Ent.list [])]))
      have up12 : Up g g12 := u1.trans (u2.trans (u6.trans (u8.trans (u11.trans u12))))
      have up : Up g _ := up12.trans u16
      have hfs := hys'.append hir
      refine t3 hA (W12.up u16) N' (Dg.up up) (X.up up) (hd.up up) P16 rfl rfl (ha5.up u16) hfs ?len ?lo (by omega)
      case len =>
        simp only [List.length_append, List.length_map, List.length_drop, List.length_cons, List.length_nil, Int.toNat_natCast]
        rw [← hp5.length]; omega
      case lo =>
        intro z hz
        rcases List.mem_append.mp hz with h | h
        · obtain ⟨y, _, rfl⟩ := List.mem_map.mp h
          omega
        · have := List.mem_of_mem_drop h
          simp at this
          omega
end
end
/-! ### F1 -/
section
open PySem PySem.Calls PySem.W PyProof.Rows
abbrev fnO (fd : FuncData) : Obj := { cls := .type "function", data := .func fd }
theorem fnIn_of {K : Frag} {h : Heap} {a c : Addr} {fd : FuncData} (X : K.In h) (e : K.lookup a = some (fnO fd)) (ec : codeIn K (.ref c) fd.qualname = true) (hc : fd.code = .ref c := by rfl) : FnIn h a fd :=
  ⟨X _ _ e, by rw [hc]; exact codeRec_of X ec⟩
theorem wd_of {K : Frag} {h : Heap} {mg mb : Str → Option Value} {p : Program} {loose : List Str} {mean : ExcName → Option Value} (X : K.In h) (T : Top p loose mean mg mb h)
    (e1 : K.lookup 44 = some (fnO fIndent)) (c1 : codeIn K (.ref 43) "_indent" = true) (e2 : K.lookup 53 = some (fnO fInsR)) (c2 : codeIn K (.ref 52) "insort_right" = true)
    (e3 : K.lookup 62 = some (fnO fBisR)) (c3 : codeIn K (.ref 61) "bisect_right" = true) (e4 : K.lookup 71 = some (fnO fInsL)) (c4 : codeIn K (.ref 70) "insort_left" = true)
    (e5 : K.lookup 80 = some (fnO fBisL)) (c5 : codeIn K (.ref 79) "bisect_left" = true) (e6 : K.lookup 93 = some (fnO fOff)) (c6 : codeIn K (.ref 92) "offset_from_tz_string" = true)
    (e7 : K.lookup 100 = some (fnO fTwo)) (c7 : codeIn K (.ref 99) "_law_two" = true) (e8 : K.lookup 107 = some (fnO fClock)) (c8 : codeIn K (.ref 106) "_law_clock" = true)
    (e9 : K.lookup 114 = some (fnO fFirst)) (c9 : codeIn K (.ref 113) "_law_first" = true) (e10 : K.lookup 121 = some (fnO fLast)) (c10 : codeIn K (.ref 120) "_law_last" = true)
    (e11 : K.lookup 126 = some (fnO fPart)) (c11 : codeIn K (.ref 125) "_law_partings" = true) : Wd mg mb h :=
  ⟨T.g, T.b, T.nolimit, fnIn_of X e1 c1, fnIn_of X e2 c2, fnIn_of X e3 c3, fnIn_of X e4 c4, fnIn_of X e5 c5, fnIn_of X e6 c6, fnIn_of X e7 c7, fnIn_of X e8 c8, fnIn_of X e9 c9, fnIn_of X e10 c10, fnIn_of X e11 c11⟩
theorem on_of {h₀ h₁ : Heap} {L : Addr} {m : Str → Option Value} {s : Shared} {a b c : Obj} {va vb vc : Option Value} (F : Fr h₀ L h₁ m) (N : News h₀ L h₁ [(L + 1 + 1 + 1, a), (L + 1 + 1, b), (L + 1, c)]) (da : a.data = .cell va) (db : b.data = .cell vb) (dc : c.data = .cell vc) (e : s.heap = h₁) :
    On s h₀ h₀ L m [(L + 1, .cell vc), (L + 2, .cell vb), (L + 3, .cell va)] s := by
  subst e
  have z : ∀ k, h₀.get? (L + k) = none := fun k => Heap.get?_none_of_le (Nat.le_trans F.above (Nat.le_add_right _ _))
  refine ⟨F.ns, F.keep, Up.rfl, fun p hp => ?_, z 0, fun p hp => ?_, ?_, rfl, rfl, rfl⟩
  · simp only [List.mem_cons, List.not_mem_nil, or_false] at hp
    rcases hp with rfl | rfl | rfl
    · exact ⟨c, (N (L + 1, c) (by simp)).1, dc⟩
    · exact ⟨b, (N (L + 1 + 1, b) (by simp)).1, db⟩
    · exact ⟨a, (N (L + 1 + 1 + 1, a) (by simp)).1, da⟩
  · simp only [List.mem_cons, List.not_mem_nil, or_false] at hp
    rcases hp with rfl | rfl | rfl
    · exact z 1
    · exact z 2
    · exact z 3
  · simp
theorem fine0 (env : Env) : Fine 310 (callerA.deeper env) := ⟨rfl, Nat.le_of_ble_eq_true rfl, Nat.le_of_ble_eq_true rfl⟩
theorem law_ends {prog : Program} {w : World} {A : Around} {s : Shared} {mg mb : Str → Option Value} {n : Nat} {h₀ : Heap} {L sa : Addr} {m : Str → Option Value} {vs : List Value} {ns : List Int} {v1 v2 v3 : Option Value} {qk : Flow → Shared → Prop} {ek : Value → Shared → Prop} (fa c : Addr) (hA : Fine n A) (W : Wd mg mb h₀) (N' : Nm mg mb) (Dg : Df h₀) (X : Rx w.params h₀) (hd : IsT h₀ 37 [.int 4 304])
    (I : On s h₀ h₀ L m [(L + 1, .cell v1), (L + 2, .cell v2), (L + 3, .cell v3)] s) (hsa : m "script" = some (.ref sa)) (hs : h₀.IsList sa vs.toArray) (hi : IntsAre vs ns) (h63 : vs.length ≤ 63) (hn : n < 350)
    (hq : ∀ s', Up h₀ s'.heap → s'.gens = s.gens → s'.os = s.os → qk (.ret (.bool true)) s') :
    wpAny (model prog w) A (execs (lawRest 0) (eLaw L (fa, c))) qk ek s := by
  have Z := t0 (prog := prog) (fw := (fa, c)) hA W N' Dg X hd I hsa hs hi h63 hn
  simp only [WP_eq] at Z
  refine wpAny_mono Z (fun f s' h => ?_) (fun _ _ x => x.elim)
  obtain ⟨rfl, hu, hg, ho⟩ := h
  exact hq s' hu hg ho
end
/-! ### the whole -/
set_option maxHeartbeats 8000000 in
theorem whole : PySem.Challenge.rw_xg0035_01.Holds := by
  refine hd ?_
  k_go0
  all_goals try k_fold
  rename_i h1 tk1 F oa ob oc la lb lc N0 X0
  have KX := (by assumption : Frag.In _ _)
  have T := (by assumption : Top _ _ _ _ _ _)
  have W := wd_of KX T (by k_is) (by k_is) (by k_is) (by k_is) (by k_is) (by k_is) (by k_is) (by k_is) (by k_is) (by k_is) (by k_is) (by k_is) (by k_is) (by k_is) (by k_is) (by k_is) (by k_is) (by k_is) (by k_is) (by k_is) (by k_is) (by k_is)
  have X : Rx _ _ := ⟨KX _ _ (by k_is), KX _ _ (by k_is), KX _ _ (by k_is), KX _ _ (by k_is), KX _ _ (by k_is)⟩
  have N' : Nm _ _ := ⟨mg_of KX T.g (by k_is), mg_of KX T.g (by k_is), mg_of KX T.g (by k_is), mg_of KX T.g (by k_is), mg_of KX T.g (by k_is), mg_of KX T.g (by k_is), mg_of KX T.g (by k_is), mg_of KX T.g (by k_is), mg_of KX T.g (by k_is), mg_of KX T.g (by k_is), mg_of KX T.g (by k_is), mg_of KX T.g (by k_is), mg_of KX T.g (by k_is), mg_of KX T.g (by k_is),
    mg_none_of KX T.g (by k_is), mg_none_of KX T.g (by k_is), mg_none_of KX T.g (by k_is), mg_none_of KX T.g (by k_is), mg_none_of KX T.g (by k_is), mg_none_of KX T.g (by k_is), mg_none_of KX T.g (by k_is), mg_none_of KX T.g (by k_is), mg_none_of KX T.g (by k_is),
    (T.builtins _ (by decide)).trans (by decide +kernel), (T.builtins _ (by decide)).trans (by decide +kernel), (T.builtins _ (by decide)).trans (by decide +kernel), (T.builtins _ (by decide)).trans (by decide +kernel), (T.builtins _ (by decide)).trans (by decide +kernel), (T.builtins _ (by decide)).trans (by decide +kernel), (T.builtins _ (by decide)).trans (by decide +kernel), (T.builtins _ (by decide)).trans (by decide +kernel), (T.builtins _ (by decide)).trans (by decide +kernel)⟩
  have Dg : Df _ := ⟨⟨_, KX _ _ (by k_is)⟩, ⟨_, KX _ _ (by k_is)⟩, ⟨_, KX _ _ (by k_is)⟩, ⟨_, KX _ _ (by k_is)⟩⟩
  have hd' : IsT _ 37 [.int 4 304] := ⟨_, KX _ _ (by k_is)⟩
  have hi := (by assumption : IntsAre _ _)
  have hl := (by assumption : Heap.IsList _ _ _)
  have hvl := hi.length
  refine law_ends (n := 310) _ _ (fine0 _) W N' Dg X hd' (on_of F N0 la lb lc rfl) rfl hl hi (by omega) (by decide) ?_
  intro s' hu hg ho
  refine ⟨.inl ⟨.bool true, .bool true, [], rfl, fun _ => ?ra, .bool true, ?po, fun _ => ⟨List.nodup_nil, by simp⟩⟩, hu, ho, ?ge⟩
  case ra => rfl
  case po => exact postW_of (by wrow_shape) (by wtm_val) (by w_fin)
  case ge => rw [hg]; assumption
end Mine
/-! ### the statement -/
theorem PySem.Challenge.cw_xg0035_01_holds : PySem.Challenge.rw_xg0035_01.Holds :=
  Mine.whole
