import PyProof.Rows.All
import Wide.All
import OpenK.AllK
import Wide.FinOn
import PySem.Challenge.RW_mq0487_01
set_option Elab.async false

section -- part 1
open PySem PySem.W PyProof.Rows PySem.Calls
set_option maxRecDepth 100000
namespace Mine

/-- the statement n of the program's top, and the parts of a def that stands there -/
def top (n : Nat) : Stmt := (PySem.Challenge.pw_mq0487_01.main.body[n]?).getD (.Pass ⟨0, 0, 0, 0⟩)
def nameOf (n : Nat) : Str := match top n with | .FunctionDef name .. => name | _ => Str.empty
def paramsOf (n : Nat) : Arguments := match top n with | .FunctionDef _ args .. => args | _ => ⟨[], [], none, [], [], none, []⟩
def bodyOf (n : Nat) : List Stmt := match top n with | .FunctionDef _ _ body .. => body | _ => []
def scopeOf (n : Nat) : Scope := match top n with | .FunctionDef _ _ _ _ _ _ scope .. => scope | _ => default

def fd (n : Nat) (pm cd : Value) : FuncData := fnX (nameOf n) (nameOf n) (paramsOf n) (bodyOf n) (scopeOf n) [] .none .none .none pm none cd .none
def ev (n : Nat) (L f : Addr) (cd : Value) (cells : List (Str × Addr)) : Env := envX (nameOf n) (scopeOf n) L f cd cells

def FnAt (g : Heap) (f : Addr) (n : Nat) : Prop := ∃ o pm cd, g.get? f = some o ∧ o.data = .func (fd n pm cd) ∧ g.CodeRec cd (nameOf n)

/-- the own exception class as the top leaves it -/
abbrev excBm : List Value := [.type "ValueError", .type "Exception", .type "BaseException", .type "object"]
def ErrCls (g : Heap) : Prop :=
  ∃ nm q bs hdct sn sub ab col dd k0 k1 k2 k3 k5 mN, g.get? 24 = some (excClassObj nm q 24 23 bs excBm hdct sn sub ab col dd k0 k1 k2 k3 k5 "ValueError.__new__") ∧ g.Ns 23 mN ∧ mN "__init__" = none ∧ mN "__str__" = none ∧
    mN "__subclasscheck__" = none

def gNames : List (Str × Value) := [("TOMLDecodeError", .ref 24), ("skip_chars", .ref 34), ("skip_until", .ref 41), ("suffixed_err", .ref 48), ("_law_signs", .ref 55), ("_law_at", .ref 62),
  ("_law_until", .ref 69), ("_law_until_by_chars", .ref 74), ("_law_chars_by_until", .ref 79), ("_law_chars_by_refusal", .ref 86), ("_law_table", .ref 93)]
def bNames : List (Str × Value) := [("IndexError", .type "IndexError"), ("ValueError", .type "ValueError"), ("len", .builtin "len"), ("chr", .builtin "chr"), ("str", .type "str"), ("repr", .builtin "repr"),
  ("frozenset", .type "frozenset"), ("list", .type "list"), ("tuple", .type "tuple"), ("range", .type "range"), ("max", .builtin "max"), ("min", .builtin "min"), ("sum", .builtin "sum")]
def fnAddrs : List (Addr × Nat) := [(34, 2), (41, 3), (55, 6), (62, 7), (69, 8), (74, 9), (79, 10), (86, 11), (93, 12)]

/-- the def within suffixed_err, and the table of its code's places (the object 43, which the first call fills) -/
def cdef : Stmt := ((bodyOf 4)[0]?).getD (.Pass ⟨0, 0, 0, 0⟩)
def cpos : Pos := match cdef with | .FunctionDef _ _ _ _ _ _ _ _ _ pos => pos | _ => ⟨0, 0, 0, 0⟩
def cparams : Arguments := match cdef with | .FunctionDef _ args .. => args | _ => ⟨[], [], none, [], [], none, []⟩
def cbody : List Stmt := match cdef with | .FunctionDef _ _ body .. => body | _ => []
def cscope : Scope := match cdef with | .FunctionDef _ _ _ _ _ _ scope .. => scope | _ => default
def cqual : Str := nameOf 4 ++ ".<locals>." ++ "coord_repr"
def TabOk (h : Heap) : Prop := ∃ ps, h.get? 43 = some (tabObj ps) ∧ (ps = #[] ∨ ∃ c', ps = #[rawInt cpos.line, rawInt cpos.col, .ref c'] ∧ c' ≠ 43 ∧ h.CodeRec (.ref c') cqual)

/-- what the walk asks of the heap behind the top -/
structure Gnd (g : Heap) : Prop where
  globs : ∃ mg mb : Str → Option Value, g.Ns mainGlobals mg ∧ g.Ns builtinsNs mb ∧ (∀ p ∈ gNames, mg p.1 = some p.2) ∧ (∀ p ∈ bNames, mg p.1 = none ∧ mb p.1 = some p.2) ∧
    ∃ bm ob, mg "__builtins__" = some (.ref bm) ∧ bm ≠ builtinsNs ∧ g.get? bm = some ob ∧ ob.cls = .type "module" ∧ ob.dict = some builtinsNs ∧ ob.data = .plain
  no43 : g.get? 43 = none
  code48 : CodeHd g 47 43
  fn48 : ∃ o pm, g.get? 48 = some o ∧ o.data = .func (fd 4 pm (.ref 47)) ∧ g.CodeRec (.ref 47) (nameOf 4)
  nolimit : g.NoLimit
  nodigits : ∃ mc, g.Ns cStatics mc ∧ mc "sys.int_max_str_digits" = none
  fns : ∀ p ∈ fnAddrs, FnAt g p.1 p.2
  err : ErrCls g

end Mine

end

section -- part 2
open PySem PySem.W PyProof.Rows PySem.Calls
set_option maxRecDepth 100000
set_option linter.unusedVariables false
namespace Mine

abbrev framesOf (l : List Env) : List Addr := l.filterMap (·.frame)
/-- what may turn beneath a call: the frames' slots, and the table -/
abbrev frs (l : List Env) : List Addr := 43 :: framesOf l

theorem TabOk.lt {h : Heap} (x : TabOk h) : ∃ o, h.get? 43 = some o := let ⟨_, e, _⟩ := x; ⟨_, e⟩
theorem TabOk.of {h h' : Heap} (x : TabOk h) (e : ∀ o, h.get? 43 = some o → h'.get? 43 = some o) (ups : ∀ b o, h.get? b = some o → b ≠ 43 → ∃ sl, h'.get? b = some { o with slots := sl }) : TabOk h' := by
  obtain ⟨ps, h1, h2⟩ := x
  refine ⟨ps, e _ h1, h2.imp id ?_⟩
  rintro ⟨c', q1, q2, c, o, vs, t, q3, q4, q5, q6⟩
  cases q3
  obtain ⟨sl, q7⟩ := ups _ _ q4 q2
  exact ⟨_, q1, q2, _, _, vs, t, rfl, q7, q5, q6⟩

/-- no code object stands at a -/
def NotCode (h : Heap) (a : Addr) : Prop := ∀ o vs q t, h.get? a = some o → o.data = .fields vs → vs[1]? ≠ some (.str q t)
theorem TabOk.upd {h h' : Heap} (x : TabOk h) {a : Addr} (h43 : a ≠ 43) (hno : NotCode h a) (k : ∀ b o, b ≠ a → h.get? b = some o → h'.get? b = some o) : TabOk h' := by
  obtain ⟨ps, h1, h2⟩ := x
  refine ⟨ps, k _ _ (Ne.symm h43) h1, h2.imp id ?_⟩
  rintro ⟨c', q1, q2, c, o, vs, t, q3, q4, q5, q6⟩
  cases q3
  exact ⟨_, q1, q2, _, _, vs, t, rfl, k _ _ (fun e => hno o vs _ _ (e ▸ q4) q5 q6) q4, q5, q6⟩
theorem notCode_ns {h : Heap} {L : Addr} {m : Str → Option Value} (hn : h.Ns L m) : NotCode h L := by
  intro o vs q t e hd
  obtain ⟨o', es, ep, e', hd', _⟩ := hn
  rw [e] at e'; cases e'; rw [hd] at hd'; cases hd'

/-- the heap kept, but for the slots of fs and the table -/
structure Kp (fs : List Addr) (h h' : Heap) : Prop where
  same : ∀ b o, h.get? b = some o → b ∉ fs → h'.get? b = some o
  ups : ∀ b o, h.get? b = some o → b ≠ 43 → ∃ sl, h'.get? b = some { o with slots := sl }
  tab : TabOk h → TabOk h'

theorem Kp.refl (fs : List Addr) (h : Heap) : Kp fs h h := ⟨fun _ _ e _ => e, fun _ o e _ => ⟨o.slots, e⟩, id⟩
theorem Kp.trans {fs : List Addr} {h₁ h₂ h₃ : Heap} (x : Kp fs h₁ h₂) (y : Kp fs h₂ h₃) : Kp fs h₁ h₃ :=
  ⟨fun b o e n => y.same b o (x.same b o e n) n, fun b o e n => let ⟨_, e₁⟩ := x.ups b o e n; let ⟨sl, e₂⟩ := y.ups b _ e₁ n; ⟨sl, e₂⟩, fun q => y.tab (x.tab q)⟩
theorem Kp.of_keeps {fs : List Addr} {h h' : Heap} (k : ∀ b o, h.get? b = some o → h'.get? b = some o) : Kp fs h h' :=
  ⟨fun b o e _ => k b o e, fun b o e _ => ⟨o.slots, k b o e⟩, fun q => q.of (k 43) fun b o e _ => ⟨o.slots, k b o e⟩⟩
theorem Kp.ns {fs : List Addr} {h h' : Heap} (x : Kp fs h h') {L : Addr} (hL : L ≠ 43) {m : Str → Option Value} (hn : h.Ns L m) : h'.Ns L m := by
  obtain ⟨o, es, ep, ho, hd, r⟩ := hn
  obtain ⟨sl, e⟩ := x.ups L o ho hL
  exact ⟨_, es, ep, e, hd, r⟩
theorem Kp.funFrames {fs : List Addr} {h h' gr : Heap} (x : Kp fs h h') (ht : TabOk h) {l : List Env} (hl : h.FunFrames gr l) : h'.FunFrames gr l :=
  hl.of_keeps fun b o e hnf => by
    have hb : b ≠ 43 := fun q => by
      obtain ⟨ps, h1, _⟩ := ht
      rw [q, h1] at e; cases e; exact hnf _ rfl
    obtain ⟨_, e₁⟩ := x.ups b o e hb
    exact ⟨_, e₁, rfl⟩

/-- the ambient of a call -/
structure Bel (A : Around) (gr : Heap) (outer : List Env) (h : Heap) : Prop extends Below A gr outer h where
  tabok : TabOk h
  no43 : gr.get? 43 = none

theorem bel_kp {A : Around} {gr h h' : Heap} {outer : List Env} (B : Bel A gr outer h) (x : Kp (frs outer) h h') : Bel A gr outer h' where
  stack := B.stack
  stays := fun b o e => x.same b o (B.stays b o e) (fun hm => by
    rcases List.mem_cons.mp hm with rfl | hm
    · rw [B.no43] at e; cases e
    · rw [(B.frames.mem hm).1] at e; cases e)
  frames := x.funFrames B.tabok B.frames
  tabok := x.tab B.tabok
  no43 := B.no43

/-- a map by a list of pairs -/
def lk (l : List (Str × Value)) : Str → Option Value := fun x => l.lookup x
noncomputable def put (x : Str) (v : Value) : List (Str × Value) → List (Str × Value)
  | [] => [(x, v)]
  | (y, u) :: r => if x = y then (y, v) :: r else (y, u) :: put x v r
theorem lk_put (x : Str) (v : Value) : ∀ l : List (Str × Value), (fun y => if y = x then some v else lk l y) = lk (put x v l)
  | [] => by
    funext y
    unfold put lk
    by_cases h : y = x
    · simp [h]
    · have : (y == x) = false := by simpa using h
      simp [h, List.lookup_cons, this]
  | (z, u) :: r => by
    have ih := lk_put x v r
    funext y
    have ihy := congrFun ih y
    unfold put
    by_cases hz : x = z
    · subst hz
      rw [if_pos rfl]
      unfold lk
      by_cases h : y = x
      · subst h; simp
      · have : (y == x) = false := by simpa using h
        simp [h, List.lookup_cons, this]
    · rw [if_neg hz]
      unfold lk at ihy ⊢
      by_cases h : y = z
      · subst h
        have : y ≠ x := fun e => hz e.symm
        simp [this]
      · have : (y == z) = false := by simpa using h
        simp only [List.lookup_cons, this]
        exact ihy

/-- the state within a call: s₀ as the call found it, fs the frames beneath, L its own frame, own what it made, m its names -/
structure In (s₀ : Shared) (fs : List Addr) (L : Addr) (own : List (Addr × Obj)) (l : List (Str × Value)) (s : Shared) : Prop where
  ns : s.heap.Ns L (lk l)
  kp : Kp fs s₀.heap s.heap
  lt : s₀.heap.objs.size ≤ L
  own : ∀ p ∈ own, s.heap.get? p.1 = some p.2 ∧ s₀.heap.get? p.1 = none ∧ p.1 ≠ L
  gens : s.gens = s₀.gens
  os : s.os = s₀.os
  t43 : ∃ o, s₀.heap.get? 43 = some o

section
variable {s₀ s : Shared} {fs : List Addr} {L : Addr} {own : List (Addr × Obj)} {l : List (Str × Value)}

theorem In.get (X : In s₀ fs L own l s) {a : Addr} {o : Obj} (h : (a, o) ∈ own) : s.heap.get? a = some o := (X.own _ h).1
theorem In.old (X : In s₀ fs L own l s) {a : Addr} {o : Obj} (h : s₀.heap.get? a = some o) (hn : a ∉ fs) : s.heap.get? a = some o := X.kp.same a o h hn
theorem In.toks (X : In s₀ fs L own l s) (t : Nat) : In s₀ fs L own l { s with toks := t } := ⟨X.ns, X.kp, X.lt, X.own, X.gens, X.os, X.t43⟩
theorem In.less (X : In s₀ fs L own l s) {own' : List (Addr × Obj)} (h : ∀ p ∈ own', p ∈ own) : In s₀ fs L own' l s := ⟨X.ns, X.kp, X.lt, fun p hp => X.own p (h p hp), X.gens, X.os, X.t43⟩
theorem In.l43 (X : In s₀ fs L own l s) : L ≠ 43 := fun q => by
  obtain ⟨o, e⟩ := X.t43
  exact Nat.lt_irrefl _ (Nat.lt_of_lt_of_le (Heap.lt_size e) (q ▸ X.lt))
theorem In.lsize (X : In s₀ fs L own l s) : L < s.heap.objs.size := X.ns.lt
theorem In.size (X : In s₀ fs L own l s) : s₀.heap.objs.size ≤ s.heap.objs.size := Nat.le_of_lt (Nat.lt_of_le_of_lt X.lt X.ns.lt)

/-- the heap only grew -/
theorem In.grow (X : In s₀ fs L own l s) {h' : Heap} {t : Nat} (k : ∀ b o, s.heap.get? b = some o → h'.get? b = some o) : In s₀ fs L own l { s with heap := h', toks := t } :=
  ⟨X.ns.keeps k, X.kp.trans (Kp.of_keeps k), X.lt, fun p hp => ⟨k _ _ (X.own p hp).1, (X.own p hp).2⟩, X.gens, X.os, X.t43⟩
/-- a new object -/
theorem In.grow1 (X : In s₀ fs L own l s) {h' : Heap} {t : Nat} {a : Addr} {o : Obj} (k : ∀ b o, s.heap.get? b = some o → h'.get? b = some o) (ha : h'.get? a = some o) (hn : s.heap.objs.size ≤ a) :
    In s₀ fs L ((a, o) :: own) l { s with heap := h', toks := t } := by
  refine ⟨X.ns.keeps k, X.kp.trans (Kp.of_keeps k), X.lt, fun p hp => ?_, X.gens, X.os, X.t43⟩
  rcases List.mem_cons.mp hp with rfl | hp
  · exact ⟨ha, Heap.get?_none_of_le (Nat.le_trans X.size hn), Nat.ne_of_gt (Nat.lt_of_lt_of_le X.lsize hn)⟩
  · exact ⟨k _ _ (X.own p hp).1, (X.own p hp).2⟩
/-- a name stored -/
theorem In.store (X : In s₀ fs L own l s) {h' : Heap} {t : Nat} {x : Str} {v : Value} (hn : h'.Ns L (fun y => if y = x then some v else lk l y)) (hs : Heap.SameBut L s.heap h') :
    In s₀ fs L own (put x v l) { s with heap := h', toks := t } := by
  have h43 : 43 ≠ L := Ne.symm X.l43
  refine ⟨by rw [← lk_put]; exact hn, ⟨fun b o e n => ?_, fun b o e n => ?_, fun q => (X.kp.tab q).upd (Ne.symm h43) (notCode_ns X.ns) fun b o n e => (hs.2 b n).trans e⟩, X.lt, fun p hp => ?_, X.gens, X.os, X.t43⟩
  · have hb : b ≠ L := Nat.ne_of_lt (Nat.lt_of_lt_of_le (Heap.lt_size e) X.lt)
    exact (hs.2 b hb).trans (X.kp.same b o e n)
  · have hb : b ≠ L := Nat.ne_of_lt (Nat.lt_of_lt_of_le (Heap.lt_size e) X.lt)
    obtain ⟨sl, h⟩ := X.kp.ups b o e n
    exact ⟨sl, (hs.2 b hb).trans h⟩
  · exact ⟨(hs.2 p.1 (X.own p hp).2.2).trans (X.own p hp).1, (X.own p hp).2⟩
/-- a call came back -/
theorem In.back (X : In s₀ fs L own l s) (hfs : ∀ b ∈ fs, ∃ o, s₀.heap.get? b = some o) {fs' : List Addr} (hfs' : ∀ b ∈ fs', b = L ∨ b ∈ fs) {s' : Shared} (k : Kp fs' s.heap s'.heap) (hg : s'.gens = s.gens) (ho : s'.os = s.os) : In s₀ fs L own l s' := by
  have h43 : L ≠ 43 := X.l43
  refine ⟨k.ns h43 X.ns, ⟨fun b o e n => ?_, fun b o e n => ?_, fun q => k.tab (X.kp.tab q)⟩, X.lt, fun p hp => ?_, hg.trans X.gens, ho.trans X.os, X.t43⟩
  · have hb : b ≠ L := Nat.ne_of_lt (Nat.lt_of_lt_of_le (Heap.lt_size e) X.lt)
    exact k.same b o (X.kp.same b o e n) (fun hm => (hfs' b hm).elim hb n)
  · obtain ⟨sl, h⟩ := X.kp.ups b o e n
    obtain ⟨sl', h'⟩ := k.ups b _ h n
    exact ⟨sl', h'⟩
  · obtain ⟨h1, h2, h3⟩ := X.own p hp
    exact ⟨k.same _ _ h1 (fun hm => (hfs' _ hm).elim h3 fun hm => by obtain ⟨_, q⟩ := hfs _ hm; rw [h2] at q; cases q), h2, h3⟩
/-- an own object changed -/
theorem In.upd (X : In s₀ fs L ((a, o) :: own) l s) (hne : ∀ p ∈ own, p.1 ≠ a) {h' : Heap} {t : Nat} {o' : Obj} (ha : h'.get? a = some o') (hs : ∀ b ob, b ≠ a → s.heap.get? b = some ob → h'.get? b = some ob)
    (hno : ∀ vs q t, o.data = .fields vs → vs[1]? ≠ some (.str q t)) : In s₀ fs L ((a, o') :: own) l { s with heap := h', toks := t } := by
  obtain ⟨h1, h2, h3⟩ := X.own _ (.head _)
  have h43 : a ≠ 43 := fun q => by obtain ⟨_, e⟩ := X.t43; rw [← q, h2] at e; cases e
  have hnc : NotCode s.heap a := fun ob vs q t e hd => by
    have e' : s.heap.get? a = some o := h1
    rw [e] at e'; cases e'; exact hno vs q t hd
  refine ⟨X.ns.at' fun o e => hs L o (Ne.symm h3) e, ⟨fun b ob e n => ?_, fun b ob e n => ?_, fun q => (X.kp.tab q).upd h43 hnc hs⟩, X.lt, fun p hp => ?_, X.gens, X.os, X.t43⟩
  · have hb : b ≠ a := fun q => by rw [q, h2] at e; cases e
    exact hs b _ hb (X.kp.same b ob e n)
  · have hb : b ≠ a := fun q => by rw [q, h2] at e; cases e
    obtain ⟨sl, h⟩ := X.kp.ups b ob e n
    exact ⟨sl, hs b _ hb h⟩
  · rcases List.mem_cons.mp hp with rfl | hp
    · exact ⟨ha, h2, h3⟩
    · exact ⟨hs p.1 _ (hne p hp) (X.own p (.tail _ hp)).1, (X.own p (.tail _ hp)).2⟩
end

theorem frs_lt {A : Around} {gr h : Heap} {outer : List Env} (B : Bel A gr outer h) : ∀ b ∈ frs outer, ∃ o, h.get? b = some o := fun b hb => by
  rcases List.mem_cons.mp hb with rfl | hb
  · obtain ⟨ps, e, _⟩ := B.tabok; exact ⟨_, e⟩
  · obtain ⟨o, e, _⟩ := (B.frames.mem hb).2; exact ⟨o, e⟩

/-- the ambient one frame deeper -/
theorem bel_deep {A : Around} {gr : Heap} {outer : List Env} {s₀ s : Shared} {L : Addr} {own : List (Addr × Obj)} {l : List (Str × Value)} {env : Env}
    (B : Bel A gr outer s₀.heap) (X : In s₀ (frs outer) L own l s) (hf : env.frame = some L := by rfl) (hk : env.scope.kind = .function := by rfl) : Bel (A.deeper env) gr (env :: outer) s.heap := by
  have B' := bel_kp B X.kp
  have hnew : gr.get? L = none := by
    cases hq : gr.get? L with
    | none => rfl
    | some o => exact absurd (Nat.lt_of_lt_of_le (Heap.lt_size (B.stays L o hq)) X.lt) (Nat.lt_irrefl _)
  exact ⟨⟨Around.frames_deeper B.stack, B'.stays, .cons (by rw [hk]; decide) hf X.ns hnew B'.frames⟩, B'.tabok, B.no43⟩

theorem frs_cons {env : Env} {L : Addr} {outer : List Env} (hf : env.frame = some L) : ∀ b ∈ frs (env :: outer), b = L ∨ b ∈ frs outer := fun b hb => by
  rcases List.mem_cons.mp hb with rfl | hb
  · exact .inr (.head _)
  · rw [framesOf, List.filterMap_cons, hf] at hb
    rcases List.mem_cons.mp hb with rfl | hb
    · exact .inl rfl
    · exact .inr (.tail _ hb)

/-- a call within a def came back -/
theorem In.ret {A : Around} {gr : Heap} {outer : List Env} {s₀ s : Shared} {L : Addr} {own : List (Addr × Obj)} {l : List (Str × Value)} {env : Env} (B : Bel A gr outer s₀.heap) (X : In s₀ (frs outer) L own l s) {s' : Shared}
    (k : Kp (frs (env :: outer)) s.heap s'.heap) (hg : s'.gens = s.gens) (ho : s'.os = s.os) (hf : env.frame = some L := by rfl) : In s₀ (frs outer) L own l s' := X.back (frs_lt B) (frs_cons hf) k hg ho

theorem own_not_frame {A : Around} {gr : Heap} {outer : List Env} {s₀ s : Shared} {L a : Addr} {o : Obj} {own : List (Addr × Obj)} {l : List (Str × Value)} {env : Env}
    (B : Bel A gr outer s₀.heap) (X : In s₀ (frs outer) L own l s) (h : (a, o) ∈ own) (hf : env.frame = some L := by rfl) : a ∉ frs (env :: outer) := fun hm => by
  obtain ⟨_, h2, h3⟩ := X.own _ h
  exact (frs_cons hf a hm).elim h3 fun hm => by obtain ⟨_, q⟩ := frs_lt B _ hm; rw [h2] at q; cases q
theorem old_not_frame {outer : List Env} {s₀ s : Shared} {L a : Addr} {o : Obj} {own : List (Addr × Obj)} {l : List (Str × Value)} {env : Env}
    (X : In s₀ (frs outer) L own l s) (h : s₀.heap.get? a = some o) (hn : a ∉ frs outer) (hf : env.frame = some L := by rfl) : a ∉ frs (env :: outer) := fun hm =>
  (frs_cons hf a hm).elim (Nat.ne_of_lt (Nat.lt_of_lt_of_le (Heap.lt_size h) X.lt)) hn

theorem mem_of_lookup {x : Str} {v : Value} : ∀ {l : List (Str × Value)}, l.lookup x = some v → (x, v) ∈ l
  | [], h => by cases h
  | (y, u) :: r, h => by
    rw [List.lookup_cons] at h
    by_cases e : x = y
    · subst e; simp at h; subst h; exact .head _
    · have : (x == y) = false := by simpa using e
      simp only [this] at h
      exact .tail _ (mem_of_lookup h)

/-! ## names -/
section
variable {M : Model} {A : Around} {E : Value → Shared → Prop} {s₀ s : Shared} {gr : Heap} {fs : List Addr} {L f : Addr} {own : List (Addr × Obj)} {l : List (Str × Value)} {n : Nat} {cd : Value} {cl : List (Str × Addr)} {x : Str} {pos : Pos} {v : Value} {Q : Value → Shared → Prop}

theorem ldL (X : In s₀ fs L own l s) (hv : lk l x = some v) (h : Q v s) (hk : (scopeOf n).kind = .function := by rfl) (hx : (ev n L f cd cl).kindOf x = some .local := by rfl) (hd : (x == ("__debug__" : Str)) = false := by decide) :
    wpAny M A (eval (.Name x pos) (ev n L f cd cl)) Q E s := wpAny_Name (wpAny_loadName_local hk hx X.ns hv h) hd
theorem ldnL (X : In s₀ fs L own l s) (hv : lk l x = some v) (h : Q v s) (hk : (scopeOf n).kind = .function := by rfl) (hx : (ev n L f cd cl).kindOf x = some .local := by rfl) :
    wpAny M A (loadName (ev n L f cd cl) x) Q E s := wpAny_loadName_local hk hx X.ns hv h
theorem ldC {c : Addr} (hc : s.heap.IsCell c (some v)) (h : Q v s) (hcl : cl.lookup x = some c := by rfl) (hk : (scopeOf n).kind = .function := by rfl) (hx : (ev n L f cd cl).kindOf x = some .cell := by rfl) (hd : (x == ("__debug__" : Str)) = false := by decide) :
    wpAny M A (eval (.Name x pos) (ev n L f cd cl)) Q E s := wpAny_Name (wpAny_loadName_cell hk hx hcl hc h) hd
theorem ldG {env : Env} (G : Gnd gr) (st : gr.StaysIn s.heap) (hm : gNames.lookup x = some v) (h : Q v s) (hk : env.scope.kind = .function := by rfl) (hx : env.kindOf x = some .globalImplicit := by rfl)
    (hg : env.globals = mainGlobals := by rfl) (hd : (x == ("__debug__" : Str)) = false := by decide) : wpAny M A (eval (.Name x pos) env) Q E s := by
  obtain ⟨mg, mb, h1, _, h3, _⟩ := G.globs
  exact Name_function_global hk hx (loadGlobal_global (mg := mg) (by rw [hg]; exact h1.keeps st) (h3 (x, v) (mem_of_lookup hm)) h) hd
theorem ldB {env : Env} (G : Gnd gr) (st : gr.StaysIn s.heap) (hm : bNames.lookup x = some v) (h : Q v s) (hk : env.scope.kind = .function := by rfl) (hx : env.kindOf x = some .globalImplicit := by rfl)
    (hg : env.globals = mainGlobals := by rfl) (hb : env.builtins = builtinsNs := by rfl) (hd : (x == ("__debug__" : Str)) = false := by decide) : wpAny M A (eval (.Name x pos) env) Q E s := by
  obtain ⟨mg, mb, h1, h2, _, h4, _⟩ := G.globs
  have h5 := h4 (x, v) (mem_of_lookup hm)
  exact Name_function_global hk hx (loadGlobal_builtin (mg := mg) (mb := mb) (by rw [hg]; exact h1.keeps st) h5.1 (by rw [hb]; exact h2.keeps st) h5.2 h) hd
theorem stL {Q : Unit → Shared → Prop} (X : In s₀ fs L own l s) (h : ∀ s', In s₀ fs L own (put x v l) s' → Q () s') (hk : (scopeOf n).kind = .function := by rfl) (hx : (ev n L f cd cl).kindOf x = some .local := by rfl) :
    wpAny M A (storeName (ev n L f cd cl) x v) Q E s :=
  wpAny_storeName_local hx X.ns (fun _ hn hs => h _ (X.store hn hs)) (by show ((scopeOf n).kind == .class || ((scopeOf n).kind == .module && _)) = false; rw [hk]; rfl)
end
end Mine

end

section -- part 3
open PySem PySem.W PyProof.Rows PySem.Calls
set_option maxRecDepth 100000
set_option linter.unusedVariables false
namespace Mine

theorem kp_of_stations {gr h h' : Heap} {l : List Env} (hl : h.FunFrames gr l) (ht : TabOk h) (st : (hideAll h (framesOf l)).StaysIn h') (up : h.UpToSlots h') : Kp (frs l) h h' := by
  have ups : ∀ b o, h.get? b = some o → b ≠ 43 → ∃ sl, h'.get? b = some { o with slots := sl } := fun b o e _ => by
    by_cases hb : b ∈ framesOf l
    · obtain ⟨_, o', ho', hnf⟩ := hl.mem hb
      rw [e] at ho'; cases ho'
      exact up b o e hnf
    · exact ⟨o.slots, st b o (hideAll_get _ e hb)⟩
  refine ⟨fun b o e n => st b o (hideAll_get _ e fun q => n (.tail _ q)), ups, fun _ => ht.of (fun o e => st 43 o (hideAll_get _ e fun hm => ?_)) ups⟩
  obtain ⟨_, o', ho', hnf⟩ := hl.mem hm
  obtain ⟨ps, h1, _⟩ := ht
  rw [h1] at ho'; cases ho'; exact hnf _ rfl

theorem frames_hidden {gr h : Heap} {l : List Env} (hl : h.FunFrames gr l) : h.FunFrames (hideAll h (framesOf l)) l :=
  funFrames_hide hl fun env he a ha => List.mem_filterMap.mpr ⟨env, he, ha⟩

section
variable {M : Model} {A : Around} {E : Value → Shared → Prop} {s : Shared}

/-- an exception just made is noted in its own frame -/
theorem note_new {gr h : Heap} {env : Env} {outer : List Env} {L e : Addr} {oe : Obj} {vs : Array Value} {a0 : Value} {Q : Unit → Shared → Prop}
    (B : Bel A gr (env :: outer) h) (hf : env.frame = some L) (hk : ∀ b o, h.get? b = some o → s.heap.get? b = some o) (hn : h.get? e = none)
    (he : s.heap.get? e = some oe) (hd : oe.data = .fields vs) (h1 : vs[1]? = some .none) (h0 : vs[0]? = some a0)
    (k : ∀ h', Heap.HeldW (hideAll h (framesOf (env :: outer))) (env :: outer) e oe.cls a0 L h' → s.heap.UpToSlots h' → Q () { s with heap := h' }) :
    wpAny M A (noteFrame (.ref e) env) Q E s := by
  have hen : (hideAll h (framesOf (env :: outer))).get? e = none := by
    cases hq : (hideAll h (framesOf (env :: outer))).get? e with
    | none => rfl
    | some o => rw [of_hideAll _ hq] at hn; cases hn
  unfold noteFrame
  simp only [hf]
  refine wpAny_bind (wpAny_field he hd h1 ?_)
  rw [if_neg (by decide)]
  refine wpAny_entryW (base := hideAll h (framesOf (env :: outer))) B.stack ((frames_hidden B.frames).of_keeps fun b o e _ => ⟨o, hk b o e, rfl⟩) hf he (fun b o q => hk b o (of_hideAll _ q)) hen hd (Array.getElem?_eq_some_iff.mp h1).1 h0 fun h' hN => ?_
  obtain ⟨k1, k2, k3, k4⟩ := hN
  exact k h' ⟨k1, hen, k2, k3⟩ k4

/-- the traceback's mark is set: one record turns -/
theorem flightSet {e T : Addr} {oe oT : Obj} {vs ts : Array Value} {f : Option Addr} {Q : Unit → Shared → Prop} (he : s.heap.get? e = some oe) (hd : oe.data = .fields vs) (h1 : vs[1]? = some (.ref T))
    (hT : s.heap.get? T = some oT) (hdT : oT.data = .fields ts) (hsz : 3 < ts.size)
    (hQ : ∀ h' oT', Heap.SameBut T s.heap h' → h'.get? T = some oT' → oT'.data = .fields (ts.setIfInBounds 3 (f.elim .none fun a => rawInt a)) → Q () { s with heap := h' }) : wpAny M A (setFlight (.ref e) f) Q E s := by
  have e1 : (Value.ref T != Value.none) = true := rfl
  have e2 := Obj.data_mapFields hdT (·.setIfInBounds 3 (f.elim Value.none fun a => rawInt a))
  simp only [setFlight]
  exact wpAny_bind (wpAny_field he hd h1 (by rw [if_pos e1]; exact wpAny_setField hT hdT hsz (hQ _ _ (Heap.SameBut.update ..) (Heap.get?_update_self _ hT (Obj.isFreed_of_fields e2)) e2)))
theorem ne_rec {h : Heap} {T : Addr} {oT : Obj} {ts : Array Value} (hT : h.get? T = some oT) (hdT : oT.data = .fields ts) {b : Addr} {o : Obj} (hb : h.get? b = some o) (hn : ∀ vs, o.data ≠ .fields vs) : b ≠ T := by
  rintro rfl
  rw [hT] at hb; cases hb
  exact hn ts hdT

theorem setFlight_own {base : Heap} {l : List Env} {e L : Addr} {cls a0 fl : Value} {Q : Unit → Shared → Prop} (hh : base.StaysIn s.heap ∧ base.get? e = none ∧ s.heap.FunFrames base l ∧ s.heap.TracedAtW base e cls a0 fl)
    (hQ : ∀ h', Heap.HeldW base l e cls a0 L h' → s.heap.UpToSlots h' → Q () { s with heap := h' }) : wpAny M A (setFlight (.ref e) (some L)) Q E s := by
  obtain ⟨st, hen, hl, oe, vs, T, oT, ts, he, hc, hd, h1, hnT, hTe, hT, hdT, h3⟩ := hh
  obtain ⟨hsz, _⟩ := Array.getElem?_eq_some_iff.mp h3
  refine flightSet he hd h1 hT hdT hsz fun h' oT' sb hT' hdT' => ?_
  have stay : ∀ b o, s.heap.get? b = some o → (∀ vs, o.data ≠ .fields vs) → h'.get? b = some o := fun b o hb hn => (sb.2 b (ne_rec hT hdT hb hn)).trans hb
  refine hQ h' ⟨fun b o hb => ?_, hen, hl.of_keeps fun b o hb hn => ⟨o, stay b o hb hn, rfl⟩, oe, vs, T, oT', _, (sb.2 e hTe.symm).trans he, hc, hd, h1, hnT, hTe, hT', hdT', ?_⟩ fun b o hb hn => ⟨o.slots, stay b o hb hn⟩
  · have hbT : b ≠ T := by rintro rfl; rw [hnT] at hb; cases hb
    exact (sb.2 b hbT).trans (st b o hb)
  · rw [Array.getElem?_setIfInBounds_self_of_lt hsz]; rfl

theorem cameBack_held {base : Heap} {l : List Env} {env : Env} {e L : Addr} {cls a0 : Value} (hf : env.frame = some L) (hh : Heap.HeldW base l e cls a0 L s.heap)
    (hE : ∀ h', Heap.HeldW base l e cls a0 L h' → s.heap.UpToSlots h' → E (.ref e) { s with heap := h' }) : cameBackBy M A env E (.ref e) s := by
  unfold cameBackBy
  obtain ⟨hkb, hen, hl, oe, vs, T, oT, ts, he, hcls, hd, h1, hnT, hTe, hT, hdT, h3⟩ := id hh
  refine wpAny_bind (wpAny_field he hd h1 ?_)
  rw [if_neg (show ¬ ((Value.ref T == Value.none) = true) from Bool.false_ne_true), hf]
  exact setFlight_own hh hE
end

section
variable {prog : Program} {w : World} {A : Around} {E : Value → Shared → Prop} {s : Shared}

/-- a held exception of a built-in class, met by a clause that names it -/
theorem held_hit {gr h : Heap} {env : Env} {outer : List Env} {L e : Addr} {X T' : String} {a0 : Value} {x : Str} {np pos : Pos} {b₀ : Stmt} {suite : List Stmt} {rest : List ExceptHandler} {Q : Flow → Shared → Prop}
    (G : Gnd gr) (B : Bel A gr (env :: outer) h) (hh : Heap.HeldW (hideAll h (framesOf (env :: outer))) (env :: outer) e (.type X) a0 L s.heap) (up : h.UpToSlots s.heap)
    (hexc : isSubtype (.type T') (.type "BaseException") = pure true) (hnt : isSubtype (.type ((Manifest.find? T').elim "type" fun y => y.metatype)) (.type "tuple") = pure false) (hsub : isSubtype (.type X) (.type T') = pure true)
    (k : ∀ h', Kp (frs (env :: outer)) h h' → (∃ oe vs T oT ts, h'.get? e = some oe ∧ oe.cls = .type X ∧ oe.data = .fields vs ∧ h.get? e = none ∧ vs[0]? = some a0 ∧ vs[1]? = some (.ref T) ∧ h'.get? T = some oT ∧ oT.data = .fields ts) →
      wpAny (model prog w) (A.mark (some (.ref e))) (execs (b₀ :: suite) env) Q (notedBy (model prog w) (A.mark (some (.ref e))) env (cameBackBy (model prog w) A env E)) { s with heap := h' })
    (hk : env.scope.kind = .function) (hx : env.kindOf x = some .globalImplicit) (hg : env.globals = mainGlobals) (hb : env.builtins = builtinsNs) (hm : bNames.lookup x = some (.type T')) (hd : (x == ("__debug__" : Str)) = false)
    (hen : h.get? e = none) :
    wpAny (model prog w) A (setFlight (.ref e) none) (fun _ s₃ => wpAny (model prog w) A (handleBy (.ref e) env (.ExceptHandler (some (.Name x np)) none (b₀ :: suite) pos :: rest)) Q E s₃) E s := by
  refine wpAny_landsW hh fun h₅ hheld hsm₅ => ?_
  have st : ∀ h', (hideAll h (framesOf (env :: outer))).StaysIn h' → gr.StaysIn h' := fun h' q b o e => q b o (hideAll_get _ (B.stays b o e) (fun hm => by rw [(B.frames.mem hm).1] at e; cases e))
  obtain ⟨ob, hob, hobc⟩ := hheld.there
  refine wpAny_handleBy_builtin (X := X) (T := T') (b := true) hexc hnt hsub (ldB G (st _ hheld.1) hm ⟨rfl, ⟨ob, hob, hobc⟩, ?_⟩ hk hx hg hb hd)
  rw [if_pos rfl]
  refine lands_againW hheld fun h₆ hfl₆ hsm₆ => ?_
  refine k h₆ (kp_of_stations B.frames B.tabok hfl₆.1 ((up.trans hsm₅).trans hsm₆)) ?_
  obtain ⟨oe, vs, T, oT, ts, he, hcls, hd, h1, _, _, hT, hdT, _⟩ := hfl₆.2.2.2
  exact ⟨oe, vs, T, oT, ts, he, hcls.1, hd, hen, hcls.2, h1, hT, hdT⟩
end

section
variable {prog : Program} {w : World} {A : Around} {E : Value → Shared → Prop} {s : Shared} {gr : Heap} {outer : List Env} {Q : Value → Shared → Prop}

/-- a def without cells is entered -/
theorem enter {n : Nat} {f : Addr} {pos : List Value} {kw : List (Str × Value)} {binds : List (Str × Value)} (G : Gnd gr) (B : Bel A gr outer s.heap) (hroom : A.depth < recursionLimit) (hf : (f, n) ∈ fnAddrs)
    (hbind : ∀ pm cd, bindArgs (fd n pm cd) ⟨pos, kw⟩ = pure binds)
    (h : ∀ s' cd, In s (frs outer) s.heap.objs.size [] binds.reverse s' →
      wpAny (model prog w) (A.deeper (ev n s.heap.objs.size f cd [])) (execs (bodyOf n) (ev n s.heap.objs.size f cd [])) (fun fl s' => Q (match fl with | .ret v => v | _ => .none) s')
        (fun e s' => wpAny (model prog w) (A.deeper (ev n s.heap.objs.size f cd [])) (leaving (ev n s.heap.objs.size f cd []) e) (fun _ s'' => E e s'') (fun e' s'' => E e' s'') s') s')
    (hcell : ∀ x ∈ (scopeOf n).names, x.2 ≠ .cell := by decide) (hloc : (binds.all fun x => decide ((scopeOf n).names.lookup x.1 = some .local)) = true := by rfl)
    (hco : (scopeOf n).isCoroutine = false := by rfl) (hgen : (scopeOf n).isGenerator = false := by rfl) (hk : (scopeOf n).kind = .function := by rfl) :
    wpAny (model prog w) A (call (.ref f) pos kw) Q E s := by
  obtain ⟨o, pm, cd, ho, hd, hcd⟩ := G.fns _ hf
  refine wpAny_call (codeAny_call_def (fd := fd n pm cd) (body := bodyOf n) (binds := binds) hroom (B.stays _ _ ho) hd (G.nolimit.keeps B.stays) (hcd.keeps B.stays) rfl (BindsTo.of_eq (hbind pm cd)) hcell (locs hloc) (fun h₀ hns hk₀ => ?_) hco hgen hk)
  exact h _ cd ⟨hns, Kp.of_keeps hk₀, Nat.le_refl _, (fun p hp => nomatch hp), rfl, rfl, B.tabok.lt⟩
end
end Mine

end

section -- part 4
open PySem PySem.W PyProof.Rows PySem.Calls
set_option maxRecDepth 100000
set_option linter.unusedVariables false
namespace Mine

/-- over all signs that P tells, from p on -/
def skipTo (cs : List Nat) (P : Nat → Bool) (p : Nat) : Nat := p + ((cs.drop p).takeWhile P).length
theorem skipTo_step {cs : List Nat} {P : Nat → Bool} {p c : Nat} (h : cs[p]? = some c) (hc : P c = true) : skipTo cs P p = skipTo cs P (p + 1) := by
  unfold skipTo
  obtain ⟨hp, e⟩ := List.getElem?_eq_some_iff.mp h
  rw [List.drop_eq_getElem_cons hp, e, List.takeWhile_cons, if_pos hc, List.length_cons]; omega
theorem skipTo_stop {cs : List Nat} {P : Nat → Bool} {p c : Nat} (h : cs[p]? = some c) (hc : P c = false) : skipTo cs P p = p := by
  unfold skipTo
  obtain ⟨hp, e⟩ := List.getElem?_eq_some_iff.mp h
  rw [List.drop_eq_getElem_cons hp, e, List.takeWhile_cons, if_neg (by rw [hc]; decide)]; rfl
theorem skipTo_end {cs : List Nat} {P : Nat → Bool} {p : Nat} (h : cs.length ≤ p) : skipTo cs P p = p := by
  unfold skipTo
  rw [List.drop_eq_nil_of_le h]; rfl
theorem skipTo_ge (cs : List Nat) (P : Nat → Bool) (p : Nat) : p ≤ skipTo cs P p := Nat.le_add_right _ _
theorem skipTo_le {cs : List Nat} {P : Nat → Bool} {p : Nat} (h : p ≤ cs.length) : skipTo cs P p ≤ cs.length := by
  unfold skipTo
  have h1 := (List.takeWhile_sublist P (l := cs.drop p)).length_le
  rw [List.length_drop] at h1
  omega

/-- a value that tells of each sign whether it lies in it -/
def Member (prog : Program) (w : World) (h₀ : Heap) (fs : List Addr) (chars : Value) (P : Nat → Bool) : Prop :=
  ∀ (A : Around) (s : Shared) (c : Nat) (t : Tok) (Q : Value → Shared → Prop) (E : Value → Shared → Prop), Kp fs h₀ s.heap → (∀ tk, Q (.bool (P c)) { s with toks := tk }) →
    wpAny (model prog w) A (compareOp .In (.str ⟨#[c]⟩ t) chars) Q E s

theorem item_nat {x : Str} {q c : Nat} (h : x.cps.toList[q]? = some c) : Txt.item x (q : Int) = ⟨#[c]⟩ := by
  obtain ⟨hq, e⟩ := List.getElem?_eq_some_iff.mp h
  have hq' : q < x.cps.size := by simpa using hq
  have e' : x.cps[q]? = some c := by rw [← Array.getElem?_toList]; exact h
  unfold Txt.item Txt.charAt
  have h1 : seqIndex? (q : Int) x.length = some q := by
    unfold seqIndex?
    have h0 : ¬ ((q : Int) < 0) := by omega
    simp only [h0, if_false, Str.length]
    simp [hq']
  rw [h1]
  simp [e']

section
variable {prog : Program} {w : World} {A : Around} {E : Value → Shared → Prop} {s : Shared} {gr : Heap} {outer : List Env} {Q : Value → Shared → Prop}

theorem fits_nat {q : Nat} (h : q < 2 ^ 62) : fitsSsize (q : Int) = true := by
  unfold fitsSsize
  simp only [Bool.not_eq_true', Bool.or_eq_false_iff, decide_eq_false_iff_not]
  omega

theorem skip_chars_spec (G : Gnd gr) (B : Bel A gr outer s.heap) (hA : A.handled = none) (hroom : A.depth < recursionLimit) {x : Str} {tx tp : Tok} {p : Nat} {chars : Value} {P : Nat → Bool}
    (hx : x.cps.size < 2 ^ 60) (hp : p < 2 ^ 60) (hm : Member prog w s.heap (frs outer) chars P)
    (h : ∀ s' t, Kp (frs outer) s.heap s'.heap → s'.gens = s.gens → s'.os = s.os → Q (.int (skipTo x.cps.toList P p) t) s') :
    wpAny (model prog w) A (call (.ref 34) [.str x tx, .int p tp, chars]) Q E s := by
  refine enter (n := 2) (binds := [("src", .str x tx), ("pos", .int p tp), ("chars", chars)]) G B hroom (by decide) (fun pm cd => rfl) ?_
  intro s₁ cd X
  refine wpAny_execs_cons (wpAny_Try_except ?_)
  refine wpAny_execs_cons (wpAny_While (codeAny_whileLoop (fun n s' => ∃ q tq, In s (frs outer) s.heap.objs.size [] [("chars", chars), ("pos", .int (q : Nat) tq), ("src", .str x tx)] s' ∧ q < 2 ^ 61 ∧
    skipTo x.cps.toList P q = skipTo x.cps.toList P p ∧ n = skipTo x.cps.toList P p - q) ?turn (skipTo x.cps.toList P p - p) ⟨p, tp, X, by omega, rfl, rfl⟩))
  rintro n s' ⟨q, tq, X', hq, hs, hn⟩
  refine wpAny_isTrue_Compare1 (Subscript_ (ldL X' rfl (ldL X' rfl (item_str_or hA (fits_nat (by omega)) ?err ?ok))))
  case ok =>
    intro _ hlt
    have hsz : x.cps.toList.length = x.cps.size := Array.length_toList
    have hql : q < x.cps.toList.length := by simp only [Str.length] at hlt; simp; omega
    obtain ⟨c, hc⟩ : ∃ c, x.cps.toList[q]? = some c := ⟨_, List.getElem?_eq_getElem hql⟩
    rw [item_nat hc]
    refine ldL (X'.toks _) rfl (hm _ _ c _ _ _ X'.kp fun tk => wpAny_truthy_bool ?_)
    cases hP : P c with
    | true =>
      have hst := skipTo_step hc hP
      have hge := skipTo_ge x.cps.toList P (q + 1)
      rw [if_pos rfl]
      refine wpAny_execs_cons (wpAny_AugAssign_Name (ldnL (X'.toks _) rfl (wpAny_Constant_int (PySem.P.iadd_int (stL (X'.toks _) fun s₂ X₂ => ?_)))))
      exact wpAny_execs_nil ⟨skipTo x.cps.toList P p - (q + 1), by omega, q + 1, _, X₂, by omega, by rw [← hst, hs], rfl⟩
    | false =>
      have hst := skipTo_stop hc hP
      rw [if_neg (by decide)]
      refine wpAny_execs_nil ?_
      refine wpAny_execs_nil (wpAny_execs_nil ?_)
      refine wpAny_execs_cons (wpAny_Return_some (ldL (X'.toks _) rfl ?_))
      have := h { s' with toks := tk } tq X'.kp X'.gens X'.os
      rw [← hs, hst] at this
      exact this
  case err =>
    intro hout h' tk e hx
    obtain ⟨ob, t0, he, hcls, hd⟩ := hx.there
    have hlen : x.cps.toList.length ≤ q := by simp only [Str.length] at hout; simp; omega
    refine note_new (h := s'.heap) (bel_deep B X') rfl hx.keeps hx.new he hd rfl rfl fun h₁ hheld up₁ => ?_
    refine cameBack_held rfl hheld fun h₂ hheld₂ up₂ => ?_
    refine wpAny_noteFrame_againW rfl hheld₂.2.2.2 ?_
    rw [hcls] at hheld₂
    refine held_hit (T' := "IndexError") G (bel_deep B X') hheld₂ (((Heap.UpToSlots.of_keeps hx.keeps).trans up₁).trans up₂) PySem.F.isExc_IndexError PySem.F.notTuple_IndexError (by rw [isSubtype_type]; kernel_rfl) ?_ rfl rfl rfl rfl rfl (by decide) hx.new
    intro h₃ kp _
    have X₃ : In s (frs outer) s.heap.objs.size [] [("chars", chars), ("pos", .int (q : Nat) tq), ("src", .str x tx)] { s' with heap := h₃, toks := tk } := X'.ret B kp rfl rfl
    refine wpAny_execs_cons (wpAny_Pass (wpAny_execs_nil ?_))
    refine wpAny_execs_cons (wpAny_Return_some (ldL X₃ rfl ?_))
    have := h _ tq X₃.kp X₃.gens X₃.os
    rw [← hs, skipTo_end hlen] at this
    exact this
end
end Mine

end

section -- part 5
open PySem PySem.W PyProof.Rows PySem.Calls
set_option maxRecDepth 100000
set_option linter.unusedVariables false
namespace Mine

/-! ## frozensets of one-sign texts -/
abbrev one (c : Nat) : Str := ⟨#[c]⟩

theorem fz_plain : PlainAttrs "frozenset" :=
  ⟨⟨"object.__getattribute__", by rw [typeLookup_type, builtinLookup_eq_fast]; kernel_rfl, by decide +kernel⟩, by rw [typeLookup_type, builtinLookup_eq_fast]; kernel_rfl⟩
theorem fz_slot_isdisjoint : Slot "frozenset" "isdisjoint" "frozenset.isdisjoint" :=
  .of (owner := "frozenset") (n := "isdisjoint") (by rw [typeLookup_type, builtinLookup_eq_fast]; kernel_rfl) (by decide +kernel) (by decide +kernel) (by decide +kernel)
    (by first | exact .inl (by decide +kernel) | exact .inr (by decide +kernel)) (by rw [isSubtype_type]; kernel_rfl)
theorem fz_type_isdisjoint : typeOf (.builtin "frozenset.isdisjoint") = pure (.type "method_descriptor") := by show builtinType _ = _; rw [builtinType_eq_fast]; kernel_rfl
theorem fz_entry_isdisjoint : entryFor table "frozenset.isdisjoint" = some Builtin.«frozenset.isdisjoint» := entryFor_of_tree (by kernel_rfl)
theorem fz_entry_loop : entryFor table "frozenset.isdisjoint.loop" = some Builtin.«frozenset.isdisjoint.loop» := entryFor_of_tree (by kernel_rfl)
theorem fz_plain_loop : plainId "frozenset.isdisjoint.loop" = true := by decide +kernel
theorem fz_args_isdisjoint (a b : Value) : argsOk "frozenset.isdisjoint" ⟨[a, b], []⟩ := by
  unfold argsOk; rw [signature?_of (id := "frozenset.isdisjoint") (n := ['t', 'n', 'i', 'o', 'j', 's', 'i', 'd', 's', 'i']) (o := ['t', 'e', 's', 'n', 'e', 'z', 'o', 'r', 'f']) (by kernel_rfl) FB.owner_frozenset]; kernel_rfl
theorem fz_slot_init : Slot "frozenset" "__init__" "object.__init__" :=
  .of (owner := "object") (n := "__init__") (by rw [typeLookup_type, builtinLookup_eq_fast]; kernel_rfl) (by decide +kernel) (by decide +kernel) (by decide +kernel)
    (by first | exact .inl (by decide +kernel) | exact .inr (by decide +kernel)) (by rw [isSubtype_type]; kernel_rfl)
theorem fz_mro : mroOf (.type "frozenset") = pure [.type "frozenset", .type "object"] := by rw [mroOf_type]; kernel_rfl
theorem fz_lookup_new : typeLookup (.type "frozenset") "__new__" = pure (some (.builtin "frozenset.__new__")) := by rw [typeLookup_type, builtinLookup_eq_fast]; kernel_rfl
theorem fz_lookup_init : typeLookup (.type "frozenset") "__init__" = pure (some (.builtin "object.__init__")) := by rw [typeLookup_type, builtinLookup_eq_fast]; kernel_rfl
theorem fz_called : TypeCalled "frozenset" "frozenset.__new__" "object.__init__" :=
  ⟨by decide +kernel, by decide +kernel, ⟨_, _, fz_mro⟩, madeBy_type fz_mro fz_lookup_new (by decide +kernel), by decide +kernel, by rw [isSubtype_type]; kernel_rfl, fz_slot_init⟩
theorem fz_typeCall (a : Value) : checkTypeCall "frozenset" ⟨[a], []⟩ = pure () := by kernel_rfl
theorem fz_newCall (a : Value) : checkBuiltinCall "frozenset.__new__" ⟨[.type "frozenset", a], []⟩ = pure () := by kernel_rfl
theorem fz_entry_new : entryFor table "frozenset.__new__" = some Builtin.«frozenset.__new__» := entryFor_of_tree (by kernel_rfl)
end Mine

end

section -- part 6
open PySem PySem.W PyProof.Rows PySem.Calls
set_option maxRecDepth 100000
set_option linter.unusedVariables false
namespace Mine

def FzAt (prog : Program) (w : World) (h : Heap) (a : Addr) (cs : List Nat) (n : Nat) : Prop :=
  ∃ o es ep t, h.get? a = some o ∧ o.cls = .type "frozenset" ∧ o.dict = none ∧ o.data = .set es ep t ∧ ElemsOf (strKind prog w) es.toList ∧
    (∀ k : Str, (∃ e ∈ es.toList, (strKind prog w).is k e.2 = true) ↔ ∃ c ∈ cs, k = one c) ∧ es.size ≤ n ∧ t.fits es.size = true

theorem FzAt.at {prog : Program} {w : World} {h h' : Heap} {a : Addr} {cs : List Nat} {n : Nat} (x : FzAt prog w h a cs n) (k : ∀ o, h.get? a = some o → h'.get? a = some o) : FzAt prog w h' a cs n :=
  let ⟨o, es, ep, t, ho, r⟩ := x; ⟨o, es, ep, t, k o ho, r⟩
theorem FzAt.typeIs {prog : Program} {w : World} {s : Shared} {a : Addr} {cs : List Nat} {n : Nat} (x : FzAt prog w s.heap a cs n) : s.TypeIs (.ref a) "frozenset" :=
  let ⟨o, _, _, _, ho, hc, _⟩ := x; ⟨o, ho, hc⟩

section
variable {prog : Program} {w : World} {A : Around} {E : Value → Shared → Prop} {s : Shared} {a : Addr} {cs : List Nat} {n : Nat}

theorem lt_scan {k n : Nat} (h : k ≤ n) (hn : n < 1000) : k < scanBound := by
  have : scanBound = 4096 := rfl
  omega

theorem fz_find {c : Nat} {tk : Tok} {Q : Option Nat → Shared → Prop} (hF : FzAt prog w s.heap a cs n) (hn : n < 1000) (h : ∀ r : Option Nat, r.isSome = decide (c ∈ cs) → Q r s) :
    wpAny (model prog w) A (setFind a (.str (one c) tk) ((strKind prog w).hash (one c))) Q E s := by
  obtain ⟨o, es, ep, t, ho, _, _, hd, hel, hmem, hb, hf⟩ := hF
  unfold setFind setFindIn
  refine wpAny_bind (wpAny_setState_of ho hd hf ?_)
  dsimp only
  rw [byScan_of (knd := strKind prog w) rfl (lt_scan hb hn) hel]
  simp only [↓reduceIte]
  refine wpAny_bind (wpAny_rule ?_)
  refine wpAny_bind (wpAny_setScan_of (strKind_is prog w (one c) tk) ho hd hf hel ?_)
  have hk := hmem (one c)
  cases hr : List.findIdx? (fun e => (strKind prog w).is (one c) e.2) es.toList with
  | none =>
    dsimp only
    refine wpAny_pure (h none ?_)
    rw [Option.isSome_none, eq_comm, decide_eq_false_iff_not]
    intro hc
    obtain ⟨e, he, hpe⟩ := hk.mpr ⟨c, hc, rfl⟩
    have := List.findIdx?_eq_none_iff.mp hr e he
    rw [hpe] at this; exact Bool.noConfusion this
  | some j =>
    dsimp only
    refine wpAny_pure (h (some (0 + j)) ?_)
    rw [Option.isSome_some, eq_comm, decide_eq_true_eq]
    obtain ⟨hj, hpj, _⟩ := List.findIdx?_eq_some_iff_getElem.mp hr
    obtain ⟨c', hc', e⟩ := hk.mp ⟨es.toList[j], List.getElem_mem hj, hpj⟩
    have : c = c' := by simpa [one] using e
    rw [this]; exact hc'

theorem fz_hash {c : Nat} {tk : Tok} {Q : Int → Shared → Prop} (h : ∀ t, Q ((strKind prog w).hash (one c)) { s with toks := t }) : wpAny (model prog w) A (pyHash (.str (one c) tk)) Q E s :=
  (strKind prog w).pyHash (k := one c) (strKind_is prog w (one c) tk) (h _)

theorem fz_contains {c : Nat} {tk : Tok} {Q : Bool → Shared → Prop} (hF : FzAt prog w s.heap a cs n) (hn : n < 1000) (h : ∀ t, Q (decide (c ∈ cs)) { s with toks := t }) :
    wpAny (model prog w) A (setContains a (.str (one c) tk)) Q E s := by
  unfold setContains
  refine wpAny_holding (wpAny_bind (fz_hash fun t => wpAny_bind (fz_find (s := { s with toks := t }) hF hn fun r hr => wpAny_pure ?_)))
  rw [hr]; exact h t

theorem fz_in_body {c : Nat} {tk : Tok} {Q : Bool → Shared → Prop} (hF : FzAt prog w s.heap a cs n) (hn : n < 1000) (h : ∀ t, Q (decide (c ∈ cs)) { s with toks := t }) :
    wpAny (model prog w) A (contains (.ref a) (.str (one c) tk)) Q E s := by
  unfold contains
  try with_reducible refine wpAny_holding ?_
  refine wpAny_bind (wpAny_specialOf hF.typeIs FB.slot_frozenset_contains.lookup ?_)
  show wpAny _ _ (if (some (Value.builtin "frozenset.__contains__") == some Value.none) = true then _ else _) _ E s
  rw [if_neg (by rw [beq_builtin_none]; exact Bool.false_ne_true)]
  refine wpAny_bind (wpAny_callSpecialUnlessNone?_slot (name := Str.ofString "__contains__") hF.typeIs FB.slot_frozenset_contains
    (wpAny_call_entry FB.slot_frozenset_contains hF.typeIs FB.entry_frozenset_contains ?_ (FB.args_frozenset_contains_2 _ _)))
  unfold Builtin.«frozenset.__contains__» Builtin.Frozenset.oneOther
  simp only [List.isEmpty_nil, bind_assoc]
  unfold Builtin.Frozenset.addrOf Builtin.Frozenset.withSetAsKey
  refine wpAny_bind (wpAny_pure ?_)
  try dsimp only
  refine wpAny_bind (wpAny_pure ?_)
  try dsimp only
  refine wpAny_bind (wpAny_tryCatch ?_)
  refine fz_contains hF hn fun t => ?_
  show wpAny _ _ (ret (Value.bool _)) _ _ _
  exact wpAny_pure ⟨_, rfl, wpAny_truthy_bool (h t)⟩
theorem fz_in {c : Nat} {tk : Tok} {Q : Value → Shared → Prop} (hF : FzAt prog w s.heap a cs n) (hn : n < 1000) (h : ∀ t, Q (.bool (decide (c ∈ cs))) { s with toks := t }) :
    wpAny (model prog w) A (compareOp .In (.str (one c) tk) (.ref a)) Q E s := by
  show wpAny _ _ (do return .bool (← contains (.ref a) (.str (one c) tk))) Q E s
  exact wpAny_bind (fz_in_body hF hn fun t => wpAny_pure (h t))
theorem fz_notin {c : Nat} {tk : Tok} {Q : Value → Shared → Prop} (hF : FzAt prog w s.heap a cs n) (hn : n < 1000) (h : ∀ t, Q (.bool (!decide (c ∈ cs))) { s with toks := t }) :
    wpAny (model prog w) A (compareOp .NotIn (.str (one c) tk) (.ref a)) Q E s := by
  show wpAny _ _ (do return .bool (!(← contains (.ref a) (.str (one c) tk)))) Q E s
  exact wpAny_bind (fz_in_body hF hn fun t => wpAny_pure (h t))

theorem fz_store {h : Heap} {o : Obj} {es : Array (Int × Value)} {ep : Nat} {t : SetTable} (ho : h.get? a = some o) (hd : o.data = .set es ep t) (es' : Array (Int × Value)) (t' : SetTable) :
    (h.update a (Obj.putSet es' t')).get? a = some { o with data := .set es' (ep + 1) t' } := by
  rw [Heap.get?_update_self _ ho] <;> rw [putSet_of es' t' hd]
  rfl

theorem fz_add {c : Nat} {tk : Tok} {Q : Bool → Shared → Prop} (hF : FzAt prog w s.heap a cs n) (hn : n + 1 < 1000)
    (h : ∀ h' b, Heap.SameBut a s.heap h' → FzAt prog w h' a (cs ++ [c]) (n + 1) → Q b { s with heap := h' }) :
    wpAny (model prog w) A (setAddHashed a (.str (one c) tk) ((strKind prog w).hash (one c))) Q E s := by
  obtain ⟨o, es, ep, t, ho, hcl, hdc, hd, hel, hmem, hb, hf⟩ := hF
  have hkey := strKind_is prog w (one c) tk
  unfold setAddHashed setAddHashedIn
  refine wpAny_holding (wpAny_bind (wpAny_setState_of ho hd hf ?_))
  dsimp only
  rw [byScan_of (knd := strKind prog w) rfl (lt_scan hb (by omega)) hel]
  simp only [↓reduceIte]
  unfold setAddByScan
  refine wpAny_bind ?_
  refine wpAny_bind (wpAny_rule ?_)
  refine wpAny_bind (wpAny_setScan_of hkey ho hd hf hel ?_)
  have hgw : ∀ (b : Bool) {s₁ : Shared} {Q' : Unit → Shared → Prop}, Q' () s₁ → wpAny (model prog w) A (match b with | true => rule "set.scan.the-table-gave-way" | false => pure ()) Q' E s₁ :=
    fun b s₁ Q' hq => by cases b <;> first | exact wpAny_pure hq | exact wpAny_rule hq
  cases hr : List.findIdx? (fun e => (strKind prog w).is (one c) e.2) es.toList with
  | some j =>
    dsimp only
    obtain ⟨hj, hpj, _⟩ := List.findIdx?_eq_some_iff_getElem.mp hr
    refine wpAny_pure (wpAny_pure (h s.heap _ (Heap.SameBut.refl a s.heap) ⟨o, es, ep, t, ho, hcl, hdc, hd, hel, fun k => ?_, by omega, hf⟩))
    rw [hmem k]
    constructor
    · rintro ⟨c', hc', e⟩; exact ⟨c', List.mem_append_left _ hc', e⟩
    · rintro ⟨c', hc', e⟩
      rcases List.mem_append.mp hc' with hc' | hc'
      · exact ⟨c', hc', e⟩
      · rw [List.mem_singleton] at hc'; subst hc'
        rw [e]; exact (hmem _).mp ⟨_, List.getElem_mem hj, hpj⟩
  | none =>
    dsimp only
    have hperm := layNew_perm t es ((strKind prog w).hash (one c)) (.str (one c) tk)
    have hfits := layNew_fits t es ((strKind prog w).hash (one c)) (.str (one c) tk)
    generalize hL : layNew t es ((strKind prog w).hash (one c)) (.str (one c) tk) = L at hperm hfits ⊢
    obtain ⟨es1, t1, wasDummy, gave⟩ := L
    dsimp only at hperm hfits ⊢
    rw [Array.toList_push] at hperm
    have hel1 : ElemsOf (strKind prog w) es1.toList := (hel.push hkey rfl).perm hperm
    have hmem1 : ∀ k : Str, (∃ e ∈ es1.toList, (strKind prog w).is k e.2 = true) ↔ ∃ c' ∈ cs ++ [c], k = one c' := by
      intro k
      constructor
      · rintro ⟨e, he, hp⟩
        rcases List.mem_append.mp (hperm.mem_iff.mp he) with he | he
        · obtain ⟨c', hc', e'⟩ := (hmem k).mp ⟨e, he, hp⟩; exact ⟨c', List.mem_append_left _ hc', e'⟩
        · rw [List.mem_singleton] at he; subst he
          exact ⟨c, List.mem_append_right _ (List.mem_singleton.mpr rfl), (strKind prog w).inj _ _ _ hp hkey⟩
      · rintro ⟨c', hc', e'⟩
        rcases List.mem_append.mp hc' with hc' | hc'
        · obtain ⟨e, he, hp⟩ := (hmem k).mpr ⟨c', hc', e'⟩; exact ⟨e, hperm.mem_iff.mpr (List.mem_append_left _ he), hp⟩
        · rw [List.mem_singleton] at hc'; subst hc'; subst e'
          exact ⟨_, hperm.mem_iff.mpr (List.mem_append_right _ (List.mem_singleton.mpr rfl)), hkey⟩
    have hsz1 : es1.size = es.size + 1 := by rw [← Array.length_toList, hperm.length_eq, List.length_append, Array.length_toList]; rfl
    have hb1 : es1.size ≤ n + 1 := by omega
    have key : ∀ t2 : SetTable, t2.fits es1.size = true → wpAny (model prog w) A (do
        storeSet a es1 t2
        if (!wasDummy && t2.tooFull) = true then do
            (match (relayAll t2 es1 (SetTable.grown es1.size)).2.2 with | true => rule "set.scan.the-table-gave-way" | false => pure ())
            storeSet a (relayAll t2 es1 (SetTable.grown es1.size)).1 (relayAll t2 es1 (SetTable.grown es1.size)).2.1
            pure (some true)
          else pure (some true)) (fun r s' => ∃ b, r = some b ∧ Q b s') E s := by
      intro t2 hf2
      refine wpAny_bind (wpAny_storeSet_of ho hd ?_ (fits_of_scanBound (lt_scan hb1 hn)))
      have ho1 := fz_store ho hd es1 t2
      have hsb1 := Heap.SameBut.update s.heap a (Obj.putSet es1 t2)
      split
      · have hp := relayAll_perm t2 es1 (SetTable.grown es1.size)
        have hfr := relayAll_fits t2 es1 (SetTable.grown es1.size)
        generalize hRl : relayAll t2 es1 (SetTable.grown es1.size) = Rl at hp hfr ⊢
        obtain ⟨es2, t3, gave2⟩ := Rl
        dsimp only at hp hfr ⊢
        have hsz : es2.size = es1.size := by rw [← Array.length_toList, hp.length_eq, Array.length_toList]
        refine wpAny_bind (hgw _ ?_)
        refine wpAny_bind (wpAny_storeSet_of ho1 rfl ?_ (fits_of_scanBound (lt_scan (by omega : es2.size ≤ n + 1) hn)))
        have ho2 := fz_store ho1 rfl es2 t3
        exact wpAny_pure ⟨_, rfl, h _ _ (hsb1.trans (Heap.SameBut.update _ a _)) ⟨_, es2, _, t3, ho2, hcl, hdc, rfl, hel1.perm hp, fun k => (⟨fun ⟨e, he, q⟩ => ⟨e, hp.mem_iff.mp he, q⟩, fun ⟨e, he, q⟩ => ⟨e, hp.mem_iff.mpr he, q⟩⟩ : _ ↔ _).trans (hmem1 k), by omega, hfr⟩⟩
      · exact wpAny_pure ⟨_, rfl, h _ _ hsb1 ⟨_, es1, _, t2, ho1, hcl, hdc, rfl, hel1, hmem1, hb1, hf2⟩⟩
    refine wpAny_bind (hgw _ ?_)
    split
    · refine wpAny_bind ?_
      rw [hashByValue_scannable 8 rfl]
      refine wpAny_pure ?_
      refine wpAny_mono (key _ ?_) (fun r s' hr => ?_) fun _ _ x => x
      · split
        · exact hfits
        · exact SetTable.fits_plain_off hfits
      · obtain ⟨b, rfl, hq⟩ := hr; exact wpAny_pure hq
    · refine wpAny_bind (wpAny_pure ?_)
      simp only [↓reduceIte]
      refine wpAny_mono (key _ hfits) (fun r s' hr => ?_) fun _ _ x => x
      obtain ⟨b, rfl, hq⟩ := hr; exact wpAny_pure hq
end
end Mine

end

section -- part 7
open PySem PySem.W PyProof.Rows PySem.Calls
set_option maxRecDepth 100000
set_option linter.unusedVariables false
namespace Mine

section
variable {prog : Program} {w : World} {A : Around} {E : Value → Shared → Prop} {s : Shared}

theorem fz_fill {R : Result → Shared → Prop} {x : Str} {I S : Addr} {St : Nat → Heap → Prop} (W : Walks prog w A.in1 I [I] [I] x.cps.size (SignAt x) St) (hSI : S ≠ I) (hx : x.cps.size < 900) :
    ∀ (k i : Nat) (s : Shared), x.cps.size - i = k → i ≤ x.cps.size → St i s.heap → FzAt prog w s.heap S (x.cps.toList.take i) i →
      (∀ h' tk, (∀ b o, b ≠ S → b ≠ I → s.heap.get? b = some o → h'.get? b = some o) → FzAt prog w h' S x.cps.toList x.cps.size → R (.ok (.ret .none)) { s with heap := h', toks := tk }) →
      codeAny (model prog w) A (.builtin "set.update.loop" ⟨[.ref S, .ref I], []⟩) R s := by
  intro k
  induction k with
  | zero =>
    intro i s hk hi hst hF hR
    have hin : i = x.cps.size := by omega
    subst hin
    refine codeAny_builtin PyProof.Rows.F.entry_set_update_loop ?_
    rw [Around.under_plainId PyProof.Rows.F.plain_set_update_loop _]
    show wpAny _ A.in1 (pyNext (.ref I) >>= _) _ _ s
    refine wpAny_bind (W.done s _ _ hst fun h' tk hk' => ?_)
    show wpAny _ A.in1 (ret Value.none) _ _ _
    refine wpAny_pure (hR h' tk (fun b o h1 h2 e => hk' b o (by simpa using h2) e) ?_)
    rw [List.take_of_length_le (by simp)] at hF
    exact hF.at fun o e => hk' S o (by simpa using hSI) e
  | succ k ih =>
    intro i s hk hi hst hF hR
    have hlt : i < x.cps.size := by omega
    refine codeAny_builtin PyProof.Rows.F.entry_set_update_loop ?_
    rw [Around.under_plainId PyProof.Rows.F.plain_set_update_loop _]
    show wpAny _ A.in1 (pyNext (.ref I) >>= _) _ _ s
    refine wpAny_bind (W.item i s _ _ hlt hst fun v h' tk hP hst' hk' => ?_)
    obtain ⟨c, u, hc, rfl⟩ := hP
    have hF' : FzAt prog w h' S (x.cps.toList.take i) i := hF.at fun o e => hk' S o (by simpa using hSI) e
    show wpAny _ A.in1 (holding [Value.str ⟨#[c]⟩ u] (setAdd S (.str ⟨#[c]⟩ u)) >>= _) _ _ _
    refine wpAny_bind (wpAny_holding ?_)
    unfold setAdd
    refine wpAny_holding (wpAny_bind (fz_hash fun t => ?_))
    refine fz_add (s := { s with heap := h', toks := t }) hF' (by omega) fun h₂ b hsb hF₂ => ?_
    have hI : ∀ b ∈ [I], ∀ o, h'.get? b = some o → h₂.get? b = some o := fun b hb o e => by
      simp only [List.mem_singleton] at hb; subst hb
      exact (hsb.2 _ (Ne.symm hSI)).trans e
    have e1 : x.cps.toList.take i ++ [c] = x.cps.toList.take (i + 1) := by
      rw [List.take_add_one, Array.getElem?_toList, hc]; rfl
    rw [e1] at hF₂
    refine wpAny_pure ⟨plainId_quiet PyProof.Rows.F.plain_set_update_loop _, ih (i + 1) _ (by omega) hlt (W.frame _ _ _ hst' hI) hF₂ fun h₃ tk₃ hk₃ hF₃ => ?_⟩
    exact hR h₃ tk₃ (fun b o h1 h2 e => hk₃ b o h1 h2 ((hsb.2 b h1).trans (hk' b o (by simpa using h2) e))) hF₃

theorem fz_new {x : Str} {t : Tok} {Q : Value → Shared → Prop} (hA : A.handled = none) (hx : x.cps.size < 900)
    (h : ∀ h' tk, (∀ b o, s.heap.get? b = some o → h'.get? b = some o) → FzAt prog w h' s.heap.objs.size x.cps.toList x.cps.size → Q (.ref s.heap.objs.size) { s with heap := h', toks := tk }) :
    wpAny (model prog w) A (call (.type "frozenset") [.str x t]) Q E s := by
  refine callType_newIn (S := fun A' R s' => A'.handled = none ∧ ∀ h' tk, (∀ b o, s'.heap.get? b = some o → h'.get? b = some o) → FzAt prog w h' s'.heap.objs.size x.cps.toList x.cps.size → R (.ok (.ret (.ref s'.heap.objs.size))) { s' with heap := h', toks := tk })
    fz_called (by decide) (fz_typeCall _) (fz_newCall _) (fun obj => PySem.F.args_object_init_2 obj _) fz_entry_new (MeetsIn.of_wp fun A' R s' hS => ?_) ⟨hA, fun h' tk hk hF => ⟨FzAt.typeIs (s := { s with heap := h', toks := tk }) hF, h h' tk hk hF⟩⟩
  obtain ⟨hA', hR⟩ := hS
  unfold Builtin.«frozenset.__new__» Builtin.Frozenset.newClass
  have hsub := F.sub_frozenset_frozenset
  have hli := fz_lookup_init
  have hss := F.sub_str_set
  have hsf := F.sub_str_frozenset
  have hT := typeIs_str s' x t
  obtain ⟨hp, g, d, tk, os⟩ := s'
  dsimp only at hR hT ⊢
  refine wpAny_bind (wpAny_bind (m := isType (.type "frozenset")) (wpAny_pure ?_))
  simp only [Bool.not_true, Bool.false_eq_true, if_false]
  refine wpAny_bind (m := isSubtype (.type "frozenset") (.type "frozenset")) (wpAny_of_eq hsub ?_)
  simp only [Bool.not_true, Bool.false_eq_true, if_false]
  refine wpAny_pure ?_
  dsimp only
  refine wpAny_bind (wpAny_of_eq hli ?_)
  rw [if_pos (by simp)]
  refine wpAny_bind (wpAny_of_eq (a := ()) rfl ?_)
  have htn : ∃ nm, typeNameCut 200 (.type "frozenset") = pure nm := ⟨_, rfl⟩
  obtain ⟨nm, htn⟩ := htn
  refine wpAny_bind (wpAny_of_eq htn ?_)
  refine wpAny_bind (m := checkCount nm 0 1 [Value.str x t].length) (wpAny_of_eq (a := ()) rfl ?_)
  rw [if_pos (by simp)]
  refine wpAny_bind (wpAny_of_eq (a := Value.type "str") rfl ?_)
  rw [if_neg (by decide)]
  unfold Builtin.Frozenset.newFrom newSet setsByText
  refine wpAny_bind (wpAny_bind (wpAny_bind (wpAny_bind (wpAny_askSetting (wpAny_pure ?_)))))
  dsimp only
  simp only [newObj]
  refine wpAny_bind (wpAny_alloc (wpAny_pure ?_))
  refine wpAny_bind (m := Builtin.Frozenset.addrOf _) (wpAny_pure ?_)
  refine wpAny_bind (wpAny_holding ?_)
  unfold Builtin.Frozenset.updateFrom Builtin.Frozenset.isAnySet
  generalize hH : (⟨hp, g, d, tk, os⟩ : Shared).heap.push { cls := Value.type "frozenset", data := Data.set #[] 0 (SetTable.fresh 0 0 !(model prog w).w.params.followText "set-order") } = H
  have hsz : H.objs.size = hp.objs.size + 1 := by rw [← hH, Heap.size_push]
  have hkH : ∀ b o, hp.get? b = some o → H.get? b = some o := fun b o e => hH ▸ Heap.get?_push_of_some _ e
  have hF0 : FzAt prog w H hp.objs.size [] 0 := by
    refine ⟨_, #[], 0, _, hH ▸ Heap.get?_push_size _ rfl, rfl, rfl, rfl, fun e he => by simp at he, fun k => by simp, Nat.le_refl _, rfl⟩
  refine wpAny_bind (wpAny_bind (wpAny_isInstance (typeIs_str _ x t) hss ?_))
  simp only [toBool]
  refine wpAny_isInstance (typeIs_str _ x t) hsf ?_
  simp only [Bool.false_eq_true, if_false]
  refine wpAny_bind (wpAny_of_eq (a := Value.type "str") rfl ?_)
  rw [if_neg (by decide)]
  refine wpAny_bind (wpAny_pyIter_str fun o St W hst => ?_)
  refine wpAny_bind (wpAny_runValue ?_)
  have hFz : FzAt prog w (H.push o) hp.objs.size (x.cps.toList.take 0) 0 := hF0.at fun o' e => Heap.get?_push_of_some _ e
  refine fz_fill (A := A'.in1) (W A'.in1.in1 (by simpa using hA')) (by rw [hsz]; exact Nat.ne_of_lt (Nat.lt_succ_self _)) hx (x.cps.size - 0) 0 _ (by omega) (Nat.zero_le _) hst hFz fun h₂ tk₂ hk₂ hF₂ => ?_
  refine wpAny_pure ?_
  refine wpAny_pure ?_
  refine wpAny_pure ⟨_, rfl, hR h₂ tk₂ (fun b o' e => hk₂ b o' (Nat.ne_of_lt (Heap.lt_size e)) (by rw [hsz]; exact Nat.ne_of_lt (Nat.lt_succ_of_lt (Heap.lt_size e))) (Heap.get?_push_of_some _ (hkH b o' e))) hF₂⟩

/-- isdisjoint with a text -/
theorem fz_loop {R : Result → Shared → Prop} {y : Str} {I S : Addr} {cs : List Nat} {n : Nat} {St : Nat → Heap → Prop} (W : Walks prog w A.in1 I [I] [I] y.cps.size (SignAt y) St) (hSI : S ≠ I) (hn : n < 1000) :
    ∀ (k i : Nat) (s : Shared), y.cps.size - i = k → i ≤ y.cps.size → St i s.heap → FzAt prog w s.heap S cs n →
      (∀ h' tk, (∀ b o, b ≠ I → s.heap.get? b = some o → h'.get? b = some o) → R (.ok (.ret (.bool ((y.cps.toList.drop i).all fun c => !decide (c ∈ cs))))) { s with heap := h', toks := tk }) →
      codeAny (model prog w) A (.builtin "frozenset.isdisjoint.loop" ⟨[.ref S, .ref I], []⟩) R s := by
  intro k
  induction k with
  | zero =>
    intro i s hk hi hst hF hR
    have hin : i = y.cps.size := by omega
    subst hin
    refine codeAny_builtin fz_entry_loop ?_
    rw [Around.under_plainId fz_plain_loop _]
    show wpAny _ A.in1 (pyNext (.ref I) >>= _) _ _ s
    refine wpAny_bind (W.done s _ _ hst fun h' tk hk' => ?_)
    show wpAny _ A.in1 (ret (Value.bool true)) _ _ _
    have := hR h' tk (fun b o h2 e => hk' b o (by simpa using h2) e)
    rw [List.drop_eq_nil_of_le (by simp)] at this
    exact wpAny_pure this
  | succ k ih =>
    intro i s hk hi hst hF hR
    have hlt : i < y.cps.size := by omega
    refine codeAny_builtin fz_entry_loop ?_
    rw [Around.under_plainId fz_plain_loop _]
    show wpAny _ A.in1 (pyNext (.ref I) >>= _) _ _ s
    refine wpAny_bind (W.item i s _ _ hlt hst fun v h' tk hP hst' hk' => ?_)
    obtain ⟨c, u, hc, rfl⟩ := hP
    have hF' : FzAt prog w h' S cs n := hF.at fun o e => hk' S o (by simpa using hSI) e
    show wpAny _ A.in1 (holding [Value.str ⟨#[c]⟩ u] (setContains S (.str ⟨#[c]⟩ u)) >>= _) _ _ _
    refine wpAny_bind (wpAny_holding (fz_contains (s := { s with heap := h', toks := tk }) hF' hn fun t => ?_))
    have hdr : y.cps.toList.drop i = c :: y.cps.toList.drop (i + 1) := by
      have hl : i < y.cps.toList.length := by simpa using hlt
      have e : y.cps.toList[i]? = some c := by rw [Array.getElem?_toList]; exact hc
      obtain ⟨_, e'⟩ := List.getElem?_eq_some_iff.mp e
      rw [List.drop_eq_getElem_cons hl, e']
    rw [hdr] at hR
    by_cases hm : c ∈ cs
    · simp only [hm, decide_true, if_true]
      have := hR h' t (fun b o h2 e => hk' b o (by simpa using h2) e)
      simp only [List.all_cons, hm, decide_true, Bool.not_true, Bool.false_and] at this
      exact wpAny_pure this
    · simp only [hm, decide_false, Bool.false_eq_true, if_false]
      refine wpAny_pure ⟨plainId_quiet fz_plain_loop _, ih (i + 1) _ (by omega) hlt hst' hF' fun h₃ tk₃ hk₃ => ?_⟩
      have := hR h₃ tk₃ (fun b o h2 e => hk₃ b o h2 (hk' b o (by simpa using h2) e))
      simp only [List.all_cons, hm, decide_false, Bool.not_false, Bool.true_and] at this
      exact this

theorem fz_isdisjoint {y : Str} {t : Tok} {S : Addr} {cs : List Nat} {n : Nat} {Q : Value → Shared → Prop} (hA : A.handled = none) (hF : FzAt prog w s.heap S cs n) (hn : n < 1000)
    (h : ∀ h' tk, (∀ b o, s.heap.get? b = some o → h'.get? b = some o) → Q (.bool (y.cps.toList.all fun c => !decide (c ∈ cs))) { s with heap := h', toks := tk }) :
    wpAny (model prog w) A (call (.builtin "frozenset.isdisjoint") [.ref S, .str y t]) Q E s := by
  refine call_meetsIn (S := fun A' R s' => A'.handled = none ∧ FzAt prog w s'.heap S cs n ∧ ∀ h' tk, (∀ b o, s'.heap.get? b = some o → h'.get? b = some o) → R (.ok (.ret (.bool (y.cps.toList.all fun c => !decide (c ∈ cs))))) { s' with heap := h', toks := tk })
    fz_slot_isdisjoint hF.typeIs fz_entry_isdisjoint (fz_args_isdisjoint _ _) (fun A' R s' hS => ?_) ⟨hA, hF, h⟩
  obtain ⟨hA', hF', hR⟩ := hS
  unfold Builtin.«frozenset.isdisjoint» Builtin.Frozenset.oneOther
  simp only [List.isEmpty_nil, bind_assoc]
  unfold Builtin.Frozenset.addrOf
  refine wpAny_bind (wpAny_pure ?_)
  refine wpAny_bind (wpAny_pure ?_)
  dsimp only
  rw [if_neg (by simp)]
  refine wpAny_bind (wpAny_of_eq (a := Value.type "str") rfl ?_)
  rw [if_neg (by decide)]
  refine wpAny_bind (wpAny_pyIter_str fun o St W hst => wpAny_pure ⟨plainId_quiet fz_plain_loop _, ?_⟩)
  obtain ⟨oS, _, _, _, hoS, _⟩ := id hF'
  have hFz : FzAt prog w (s'.heap.push o) S cs n := hF'.at fun o' e => Heap.get?_push_of_some _ e
  refine fz_loop (W A'.in1 (by simpa using hA')) (Nat.ne_of_lt (Heap.lt_size hoS)) hn (y.cps.size - 0) 0 _ (by omega) (Nat.zero_le _) hst hFz fun h₂ tk₂ hk₂ => ?_
  exact hR h₂ tk₂ fun b o' e => hk₂ b o' (Nat.ne_of_lt (Heap.lt_size e)) (Heap.get?_push_of_some _ e)
end
end Mine

end

section -- part 8
open PySem PySem.W PyProof.Rows PySem.Calls
open PySem.Builtin PySem.Builtin.Str
set_option maxRecDepth 100000
set_option linter.unusedVariables false
namespace Mine

/-! ## str.index with a start; str.count and str.rindex with start and end -/
theorem fromIndex_nat (n p : Nat) : fromIndex n (p : Int) = p := by
  unfold fromIndex
  rw [if_neg (by omega)]
  omega

theorem gives_index_from (x y : Str) (i : Int) (t u v : Tok) (k : Nat) (r : List Nat) (h : occurrences x y (fromIndex x.length i) x.length 1 = k :: r) :
    Gives («str.index» ⟨[.str x t, .str y u, .int i v], []⟩) (.int k) := by
  show Gives (match occurrences x y (fromIndex x.length i) (min x.length x.length) 1 with | k :: _ => retInt k | [] => (do rule "str.index.not-found"; raiseError "ValueError" "substring not found")) _
  rw [Nat.min_self, h]
  exact .of_eq rfl
theorem raises_index_from (x y : Str) (i : Int) (t u v : Tok) (h : occurrences x y (fromIndex x.length i) x.length 1 = []) :
    Meets («str.index» ⟨[.str x t, .str y u, .int i v], []⟩) (raisesNew "ValueError") := by
  intro prog w A R s hS
  show wpAny _ _ (match occurrences x y (fromIndex x.length i) (min x.length x.length) 1 with | k :: _ => retInt k | [] => _) _ _ s
  rw [Nat.min_self, h]
  exact wpAny_bind (wpAny_rule (by exact_raiseError plainExc_ValueError hS.1 hS.2))
theorem gives_count_between (x y : Str) (i j : Int) (t u v z : Tok) :
    Gives («str.count» ⟨[.str x t, .str y u, .int i v, .int j z], []⟩) (.int (occurrences x y (fromIndex x.length i) (min (fromIndex x.length j) x.length) (x.length + 1)).length) := .of_eq rfl
theorem gives_rindex_between (x y : Str) (i j : Int) (t u v z : Tok) (k : Nat) (h : lastOccurrence x y (fromIndex x.length i) (min (fromIndex x.length j) x.length) = some k) :
    Gives («str.rindex» ⟨[.str x t, .str y u, .int i v, .int j z], []⟩) (.int k) := by
  show Gives (match lastOccurrence x y (fromIndex x.length i) (min (fromIndex x.length j) x.length) with | some i => retInt i | none => (do rule "str.rindex.not-found"; raiseError "ValueError" "substring not found")) _
  rw [h]
  exact .of_eq rfl

/-! ## one sign: where it is -/
open StrLaws in
theorem occ_one_run (x : Str) (c hi limit : Nat) : ∀ (n a : Nat) (arr : Array Nat) (free : Nat), free ≤ a → arr.size + n ≤ limit →
    (forIn (List.range' a n) (arr, free) (occBody x ⟨#[c]⟩ hi limit)).run.fst.toList = arr.toList ++ (List.range' a n).filter (fun i => decide (i < hi ∧ x.cps.toList[i]? = some c)) := by
  intro n
  induction n with
  | zero => intro a arr free _ _; simp
  | succ n ih =>
    intro a arr free hf hl
    rw [List.range'_succ, List.forIn_cons]
    have hsub : ∀ i, (At x ⟨#[c]⟩ hi i ↔ (i < hi ∧ x.cps.toList[i]? = some c)) := by
      intro i
      have e1 : (⟨#[c]⟩ : Str).length = 1 := rfl
      constructor
      · intro hA
        have h1 := hA.1
        rw [e1] at h1
        refine ⟨by omega, ?_⟩
        have h2 := hA.2
        simp only [subAt, e1, beq_iff_eq] at h2
        have h3 : (x.cps.extract i (i + 1))[0]? = some c := by rw [h2]; rfl
        rw [Array.getElem?_toList]
        simp [Array.getElem?_extract] at h3
        exact h3.2
      · rintro ⟨h1, h2⟩
        refine ⟨by rw [e1]; omega, ?_⟩
        obtain ⟨hi', e⟩ := List.getElem?_eq_some_iff.mp h2
        simp only [subAt, e1, beq_iff_eq]
        have hi'' : i < x.cps.size := by simpa using hi'
        apply Array.ext
        · simp; omega
        · intro j h3 h4
          simp at h3 h4 ⊢
          obtain rfl : j = 0 := by omega
          have : x.cps[i] = c := by rw [← e]; simp
          simpa using this
    unfold occBody
    by_cases hc : At x ⟨#[c]⟩ hi a
    · have hc' := (hsub a).mp hc
      have hcond : ((arr.size < limit ∧ free ≤ a) ∧ a + (⟨#[c]⟩ : Str).length ≤ hi) ∧ subAt x ⟨#[c]⟩ a = true := ⟨⟨⟨by omega, hf⟩, hc.1⟩, hc.2⟩
      simp only [hcond, and_self, if_true]
      have := ih (a + 1) (arr.push a) (a + 1) (Nat.le_refl _) (by rw [Array.size_push]; omega)
      rw [List.filter_cons_of_pos (by simpa using hc')]
      simp only [pure_bind] at this ⊢
      refine (this).trans ?_
      simp
    · have hc' := fun q => hc ((hsub a).mpr q)
      have hcond : ¬ (((arr.size < limit ∧ free ≤ a) ∧ a + (⟨#[c]⟩ : Str).length ≤ hi) ∧ subAt x ⟨#[c]⟩ a = true) := fun q => hc ⟨q.1.2, q.2⟩
      simp only [hcond, if_false]
      have := ih (a + 1) arr free (by omega) (by omega)
      rw [List.filter_cons_of_neg (by simpa using hc')]
      simp only [pure_bind] at this ⊢
      exact this

theorem count_take (cs : List Nat) (c : Nat) : ∀ p, p ≤ cs.length → ((List.range' 0 p).filter (fun i => decide (cs[i]? = some c))).length = (cs.take p).count c := by
  intro p
  induction p with
  | zero => intro _; rfl
  | succ p ih =>
    intro hp
    rw [List.range'_1_concat, List.filter_append, List.length_append, ih (by omega), List.take_add_one, List.count_append, Nat.zero_add]
    have hl : p < cs.length := by omega
    have he : cs[p]? = some cs[p] := List.getElem?_eq_getElem hl
    by_cases h : cs[p] = c
    · rw [List.filter_cons_of_pos (by rw [he, h]; simp), he, h]; simp
    · rw [List.filter_cons_of_neg (by rw [he]; simpa using h), he]; simp [h]

theorem count_nl {x : Str} {c p : Nat} (hp : p ≤ x.cps.size) : (occurrences x ⟨#[c]⟩ (fromIndex x.length 0) (min (fromIndex x.length (p : Int)) x.length) (x.length + 1)).length = (x.cps.toList.take p).count c := by
  have h0 : fromIndex x.length 0 = 0 := fromIndex_nat _ 0
  have hm : min p x.length = p := Nat.min_eq_left hp
  rw [h0, fromIndex_nat, hm, StrLaws.occ_eq, occ_one_run x c p (x.length + 1) (p + 1 - 0) 0 #[] 0 (Nat.le_refl _) (by simp [Str.length]; omega)]
  have hp' : p ≤ x.cps.toList.length := by simpa using hp
  rw [← count_take x.cps.toList c p hp', Nat.sub_zero, List.range'_1_concat, List.filter_append]
  have e : (List.filter (fun i => decide (i < p ∧ x.cps.toList[i]? = some c)) [0 + p]) = [] := by simp
  rw [e]
  simp only [List.append_nil]
  show (List.filter _ _).length = _
  congr 1
  apply List.filter_congr
  intro i hi
  have := List.mem_range'_1.mp hi
  simp
  intro _
  omega

theorem rindex_nl {x : Str} {c p i : Nat} (hp : p ≤ x.cps.size) (hi : i < p) (hc : x.cps.toList[i]? = some c) (hlast : ∀ k, i < k → k < p → x.cps.toList[k]? ≠ some c) :
    lastOccurrence x ⟨#[c]⟩ (fromIndex x.length 0) (min (fromIndex x.length (p : Int)) x.length) = some i := by
  have h0 : fromIndex x.length 0 = 0 := fromIndex_nat _ 0
  have hm : min p x.length = p := Nat.min_eq_left hp
  have hAt : ∀ k, StrLaws.At x ⟨#[c]⟩ p k ↔ (k < p ∧ x.cps.toList[k]? = some c) := by
    intro k
    have e1 : (⟨#[c]⟩ : Str).length = 1 := rfl
    have := StrLaws.subAt_one x c k
    constructor
    · intro hA
      have h1 := hA.1
      rw [e1] at h1
      exact ⟨by omega, this.mp ⟨by rw [e1]; simp [Str.length]; omega, hA.2⟩⟩
    · rintro ⟨h1, h2⟩
      exact ⟨by rw [e1]; omega, (this.mpr h2).2⟩
  rw [h0, fromIndex_nat, hm, StrLaws.last_eq]
  have key := StrLaws.last_run x ⟨#[c]⟩ p (List.range' 0 (p + 1 - 0)) [] none (fun _ h => nomatch h) (fun _ h => nomatch h) (by simpa using List.pairwise_lt_range' (s := 0) (n := p + 1 - 0))
  generalize (forIn (List.range' 0 (p + 1 - 0)) none (StrLaws.lastBody x ⟨#[c]⟩ p)).run = st at key
  have hin : ∀ k, k < p → k ∈ [] ++ List.range' 0 (p + 1 - 0) := fun k hk => by simp [List.mem_range'_1]; omega
  cases st with
  | none => exact absurd ((hAt i).mpr ⟨hi, hc⟩) (key i (hin i hi))
  | some a =>
    obtain ⟨k1, k2⟩ := key
    have ha := (hAt a).mp k1
    rcases Nat.lt_trichotomy a i with h | h | h
    · exact absurd ((hAt i).mpr ⟨hi, hc⟩) (k2 i (hin i hi) h)
    · rw [h]
    · exact absurd ha.2 (hlast a h ha.1)
end Mine

end

section -- part 9
open PySem PySem.W PyProof.Rows PySem.Calls
open PySem.Builtin PySem.Builtin.Str
set_option maxRecDepth 100000
set_option linter.unusedVariables false
namespace Mine

/-! ## names in any frame -/
section
variable {M : Model} {A : Around} {E : Value → Shared → Prop} {s₀ s : Shared} {fs : List Addr} {L : Addr} {own : List (Addr × Obj)} {l : List (Str × Value)} {env : Env} {x : Str} {pos : Pos} {v : Value} {Q : Value → Shared → Prop}
theorem ldE (X : In s₀ fs L own l s) (hv : lk l x = some v) (h : Q v s) (hL : env.locals = L := by rfl) (hk : env.scope.kind = .function := by rfl) (hx : env.kindOf x = some .local := by rfl) (hd : (x == ("__debug__" : Str)) = false := by decide) :
    wpAny M A (eval (.Name x pos) env) Q E s := wpAny_Name (wpAny_loadName_local hk hx (by rw [hL]; exact X.ns) hv h) hd
theorem ldnE (X : In s₀ fs L own l s) (hv : lk l x = some v) (h : Q v s) (hL : env.locals = L := by rfl) (hk : env.scope.kind = .function := by rfl) (hx : env.kindOf x = some .local := by rfl) :
    wpAny M A (loadName env x) Q E s := wpAny_loadName_local hk hx (by rw [hL]; exact X.ns) hv h
theorem stE {Q : Unit → Shared → Prop} (X : In s₀ fs L own l s) (h : ∀ s', In s₀ fs L own (put x v l) s' → Q () s') (hL : env.locals = L := by rfl) (hk : env.scope.kind = .function := by rfl) (hx : env.kindOf x = some .local := by rfl) :
    wpAny M A (storeName env x v) Q E s := by
  subst hL
  exact wpAny_storeName_local hx X.ns (fun _ hn hs => h _ (X.store hn hs)) (by rw [hk]; rfl)
end

theorem fnAtW {gr h : Heap} {f : Addr} {n : Nat} (G : Gnd gr) (st : gr.StaysIn h) (hf : (f, n) ∈ fnAddrs) : PySem.W.FnAt f h := by
  obtain ⟨⟨oc, od, dt, sl⟩, pm, cd, ho, hd, _⟩ := G.fns _ hf
  cases hd
  exact ⟨oc, od, _, sl, st _ _ ho⟩
theorem fnAt48 {gr h : Heap} (G : Gnd gr) (st : gr.StaysIn h) : PySem.W.FnAt 48 h := by
  obtain ⟨⟨oc, od, dt, sl⟩, pm, ho, hd, _⟩ := G.fn48
  cases hd
  exact ⟨oc, od, _, sl, st _ _ ho⟩

section
variable {prog : Program} {w : World} {A : Around} {E : Value → Shared → Prop} {s : Shared} {gr : Heap} {outer : List Env} {Q : Value → Shared → Prop}

/-- a function object without cells is entered -/
theorem enterX {f : Addr} {o : Obj} {fdx : FuncData} {body : List Stmt} {pos : List Value} {kw : List (Str × Value)} {binds : List (Str × Value)} (G : Gnd gr) (B : Bel A gr outer s.heap) (hroom : A.depth < recursionLimit)
    (ho : s.heap.get? f = some o) (hd : o.data = .func fdx) (hcd : s.heap.CodeRec fdx.code fdx.qualname) (hbody : fdx.body = .stmts body) (hbind : bindArgs fdx ⟨pos, kw⟩ = pure binds)
    (h : ∀ s', In s (frs outer) s.heap.objs.size [] binds.reverse s' →
      wpAny (model prog w) (A.deeper (callEnv fdx s.heap.objs.size f)) (execs body (callEnv fdx s.heap.objs.size f)) (fun fl s' => Q (match fl with | .ret v => v | _ => .none) s')
        (fun e s' => wpAny (model prog w) (A.deeper (callEnv fdx s.heap.objs.size f)) (leaving (callEnv fdx s.heap.objs.size f) e) (fun _ s'' => E e s'') (fun e' s'' => E e' s'') s') s')
    (hcell : ∀ x ∈ fdx.scope.names, x.2 ≠ .cell) (hloc : (binds.all fun x => decide (fdx.scope.names.lookup x.1 = some .local)) = true)
    (hco : fdx.scope.isCoroutine = false := by rfl) (hgen : fdx.scope.isGenerator = false := by rfl) (hk : fdx.scope.kind = .function := by rfl) :
    wpAny (model prog w) A (call (.ref f) pos kw) Q E s := by
  refine wpAny_call (codeAny_call_def (fd := fdx) (body := body) (binds := binds) hroom ho hd (G.nolimit.keeps B.stays) hcd hbody (BindsTo.of_eq hbind) hcell (locs hloc) (fun h₀ hns hk₀ => ?_) hco hgen hk)
  exact h _ ⟨hns, Kp.of_keeps hk₀, Nat.le_refl _, (fun p hp => nomatch hp), rfl, rfl, B.tabok.lt⟩
end

/-! ## line and column -/
def lineCol (cs : List Nat) : Nat × Nat := cs.foldl (fun lc c => if c = 10 then (lc.1 + 1, 1) else (lc.1, lc.2 + 1)) (1, 1)
theorem lineCol_snoc (cs : List Nat) (c : Nat) : lineCol (cs ++ [c]) = if c = 10 then ((lineCol cs).1 + 1, 1) else ((lineCol cs).1, (lineCol cs).2 + 1) := by
  unfold lineCol; rw [List.foldl_append]; rfl
theorem lineCol_facts (cs : List Nat) : ∀ p, p ≤ cs.length → (lineCol (cs.take p)).1 = (cs.take p).count 10 + 1 ∧ (lineCol (cs.take p)).2 ≤ p + 1 ∧ 1 ≤ (lineCol (cs.take p)).2 ∧
    (((cs.take p).count 10 = 0 ∧ (lineCol (cs.take p)).2 = p + 1) ∨ ∃ i, i < p ∧ cs[i]? = some 10 ∧ (∀ k, i < k → k < p → cs[k]? ≠ some 10) ∧ (lineCol (cs.take p)).2 = p - i ∧ 0 < (cs.take p).count 10) := by
  intro p
  induction p with
  | zero => intro _; exact ⟨rfl, Nat.le_refl _, Nat.le_refl _, .inl ⟨rfl, rfl⟩⟩
  | succ p ih =>
    intro hp
    obtain ⟨h1, h2, h3, h4⟩ := ih (by omega)
    have hl : p < cs.length := by omega
    have he : cs[p]? = some cs[p] := List.getElem?_eq_getElem hl
    rw [List.take_add_one, he]
    simp only [Option.toList_some]
    rw [lineCol_snoc, List.count_append]
    by_cases hc : cs[p] = 10
    · simp only [hc, if_true]
      refine ⟨by simp; omega, by omega, Nat.le_refl _, .inr ⟨p, Nat.lt_succ_self _, by rw [he, hc], fun k h5 h6 => by omega, by omega, by simp⟩⟩
    · simp only [hc, if_false]
      have h0 : List.count 10 [cs[p]] = 0 := by simp [hc]
      rw [h0]
      refine ⟨by omega, by omega, by omega, ?_⟩
      rcases h4 with ⟨h5, h6⟩ | ⟨i, h5, h6, h7, h8, h9⟩
      · exact .inl ⟨by omega, by omega⟩
      · refine .inr ⟨i, by omega, h6, fun k h10 h11 => ?_, by omega, by omega⟩
        by_cases hk : k = p
        · subst hk; rw [he]; simpa using hc
        · exact h7 k h10 (by omega)

/-- what stands for a place -/
def coordText (x : Str) (p : Nat) : Str :=
  if x.cps.size ≤ p then "end of document"
  else ("line " : Str) ++ (toString ((lineCol (x.cps.toList.take p)).1 : Int) : Str) ++ (", column " : Str) ++ (toString ((lineCol (x.cps.toList.take p)).2 : Int) : Str)

theorem cbody_len : cbody.length = 4 := by decide
end Mine

end

section -- part 10
open PySem PySem.W PyProof.Rows PySem.Calls
open PySem.Builtin PySem.Builtin.Str
set_option maxRecDepth 100000
set_option linter.unusedVariables false
namespace Mine

section
variable {prog : Program} {w : World} {A : Around} {E : Value → Shared → Prop} {s : Shared} {env : Env} {Q : Value → Shared → Prop}

/-- a method of a text, with arguments -/
theorem str_method {o e : Expr} {rest : List Expr} {name : Str} {apos pos : Pos} {id : String} {Bt : Builtin} (slot : Slot "str" name id) (ty : typeOf (.builtin id) = pure (.type "method_descriptor")) (entry : entryFor table id = some Bt)
    (h : wpAny (model prog w) A (eval o env) (fun ov s₁ => ∃ x t, ov = .str x t ∧ wpAny (model prog w) A (spliced (backTo pos (starEach (e :: rest) env))) (fun vs s₂ => argsOk id ⟨.str x t :: vs, []⟩ ∧
      ∃ S, Meets (Bt ⟨.str x t :: vs, []⟩) S ∧ S A (wants Q E) s₂) E s₁) E s)
    (hbase : attributeBase o name env (eval o env) = eval o env := by rfl)
    (hfew : ((backTo pos (starEach (e :: rest) env)).all (fun x => !x.1) && (backToKw pos (keywordEach [] env)).all (fun x => x.1.isSome)
      && decide ((e :: rest).length + ([] : List Keyword).length + (if ([] : List Keyword).isEmpty then 0 else 1) < 30)) = true := by rfl)
    (hline : (apos.endLine == pos.line) = true := by rfl) (he : starEach (e :: rest) env = (false, eval e env) :: starEach rest env := by rfl) (hplain : (backTo pos (starEach (e :: rest) env)).any (·.1) = false := by rfl) :
    wpAny (model prog w) A (eval (.Call (.Attribute o name apos) (e :: rest) [] pos) env) Q E s := by
  refine wpAny_Call_method_lateS hbase hfew hline (wpAny_mono h (fun ov s₁ h₁ => ?_) fun _ _ x => x)
  obtain ⟨x, t, rfl, h₁⟩ := h₁
  refine ⟨"str", id, PySem.F.plainAttrs_str, slot, ty, typeIs_str _ _ _, (fun _ e => nomatch e), ?_⟩
  refine method_meets slot entry hplain ?_
  rw [he] at h₁ ⊢
  refine evalArgs_plain (wpAny_mono h₁ (fun vs s₂ h₂ => ?_) fun _ _ x => x)
  exact ⟨rfl, typeIs_str _ _ _, h₂.1, h₂.2⟩

/-- len of a text -/
theorem len_call {e : Expr} {np pos : Pos} {gr : Heap} (G : Gnd gr) (st : gr.StaysIn s.heap) (h : wpAny (model prog w) A (eval e env) (fun v s₁ => ∃ x t, v = .str x t ∧ x.length < 2 ^ 60 ∧ ∀ t' k, Q (.int x.length t') { s₁ with toks := k }) E s)
    (hk : env.scope.kind = .function := by rfl) (hx : env.kindOf "len" = some .globalImplicit := by rfl) (hg : env.globals = mainGlobals := by rfl) (hb : env.builtins = builtinsNs := by rfl) (hs : starEach [e] env = [(false, eval e env)] := by rfl) :
    wpAny (model prog w) A (eval (.Call (.Name "len" np) [e] [] pos) env) Q E s := by
  refine Call_Name1 (ldB G st rfl (PySem.callWith_builtin1 (wpAny_mono h (fun v s₁ h₁ => ?_) fun _ _ x => x)) hk hx hg hb) hs
  obtain ⟨x, t, rfl, hl, h₁⟩ := h₁
  exact PySem.P.len_str (by omega) (h₁ _ _)
end

theorem nat_text {n : Nat} (h : n < 1000000) : (Str.ofString (toString (n : Int))).length ≤ 8 := by
  rw [PySem.ofString_length]
  have := int_text_length_le10 (a := (n : Int)) (k := 6) (by decide) (by simp; omega)
  omega

theorem small_log {n : Nat} (h : n < 1000000) : ((n : Int)).natAbs.log2 < 1920 := by
  by_cases h0 : n = 0
  · subst h0; decide
  · rw [Int.natAbs_natCast, Nat.log2_lt h0]
    exact Nat.lt_of_lt_of_le h (Nat.le_trans (by decide : 1000000 ≤ 2 ^ 20) (Nat.pow_le_pow_right (by decide) (by decide)))
theorem len_app (x y : Str) : (x ++ y).length = x.length + y.length := Str.length_append x y
theorem small_line {n : Nat} (h : n < 100000) : n ≤ sizeLine := by rw [sizeLine_eq]; omega

section
variable {prog : Program} {w : World} {A : Around} {E : Value → Shared → Prop} {s : Shared} {gr : Heap} {outer : List Env} {Q : Value → Shared → Prop}

theorem coord_spec (G : Gnd gr) (B : Bel A gr outer s.heap) (hroom : A.depth < recursionLimit) {f c' : Addr} {doc pm ctv : Value} {x : Str} {tx tp : Tok} {p : Nat}
    (ho : s.heap.get? f = some (fnMade "coord_repr" cqual cparams cbody cscope [] doc pm c' ctv)) (hcd : s.heap.CodeRec (.ref c') cqual) (hx : x.cps.size < 1000) (hp : p < 100000)
    (h : ∀ s' t, Kp (frs outer) s.heap s'.heap → s'.gens = s.gens → s'.os = s.os → Q (.str (coordText x p) t) s') :
    wpAny (model prog w) A (call (.ref f) [.str x tx, .int p tp]) Q E s := by
  refine enterX (binds := [("src", .str x tx), ("pos", .int p tp)]) G B hroom ho rfl hcd rfl rfl ?_ (show ∀ x ∈ cscope.names, x.2 ≠ .cell by decide) rfl
  intro s₁ X
  have st₁ := (bel_kp B X.kp).stays
  refine wpAny_execs_cons (wpAny_If (wpAny_isTrue_Compare1 (ldE X rfl (len_call G st₁ (ldE X rfl ⟨x, tx, rfl, by simp only [Str.length]; omega, fun t' k => ?_⟩)))))
  refine PySem.P.ge_int (wpAny_truthy_bool ?_)
  by_cases hge : x.cps.size ≤ p
  · rw [show decide ((p : Int) ≥ ((x.length : Nat) : Int)) = true from decide_eq_true (by simp only [Str.length]; omega), if_pos rfl]
    refine wpAny_execs_cons (wpAny_Return_some (wpAny_Constant_str ?_))
    have := h { s₁ with toks := k + 1 } k X.kp X.gens X.os
    unfold coordText at this
    rw [if_pos hge] at this
    exact this
  · rw [show decide ((p : Int) ≥ ((x.length : Nat) : Int)) = false from decide_eq_false (by simp only [Str.length]; omega), if_neg (by decide)]
    refine wpAny_execs_nil ?_
    have hp' : p ≤ x.cps.size := by omega
    have hpl : p ≤ x.cps.toList.length := by simpa using hp'
    obtain ⟨f1, f2, f3, f4⟩ := lineCol_facts x.cps.toList p hpl
    have hcnt : (x.cps.toList.take p).count 10 ≤ p := Nat.le_trans List.count_le_length (by rw [List.length_take]; omega)
    refine wpAny_execs_cons (wpAny_Assign_Name (wpAny_BinOp (str_method PySem.F.slot_str_count PySem.F.type_str_count PySem.F.entry_str_count (ldE (X.toks _) rfl ⟨x, tx, rfl, ?_⟩))))
    refine spliced_more (wpAny_Constant_str (spliced_more (wpAny_Constant_int (spliced_more (ldE (X.toks _) rfl (spliced_none ⟨PySem.F.args_str_count_4 _ _ _ _, _, (gives_count_between x _ _ _ _ _ _ _).meets, ?_⟩))))))
    have hnl : (Str.ofString "\n") = ⟨#[10]⟩ := by decide
    rw [hnl, count_nl hp']
    refine wpAny_Constant_int (PySem.P.add_int (stE (X.toks _) fun s₂ X₂ => ?_))
    have h1 := nat_text (n := (lineCol (x.cps.toList.take p)).1) (by omega)
    have h2 := nat_text (n := (lineCol (x.cps.toList.take p)).2) (by omega)
    have h3 : (Str.ofString "line ").length = 5 := by decide
    have h4 : (Str.ofString ", column ").length = 9 := by decide
    -- the end, from either way
    have fin : ∀ (s₃ : Shared) (l : List (Str × Value)) (a b : Int) (t₁ t₂ : Tok), In s (frs outer) s.heap.objs.size [] l s₃ → lk l "line" = some (.int a t₁) → lk l "column" = some (.int b t₂) → a = ((lineCol (x.cps.toList.take p)).1 : Nat) → b = ((lineCol (x.cps.toList.take p)).2 : Nat) →
        wpAny (model prog w) (A.deeper (callEnv (fnX "coord_repr" cqual cparams cbody cscope [] .none .none doc pm none (.ref c') ctv) s.heap.objs.size f)) (execs (cbody.drop 3) (callEnv (fnX "coord_repr" cqual cparams cbody cscope [] .none .none doc pm none (.ref c') ctv) s.heap.objs.size f))
          (fun fl s' => Q (match fl with | .ret v => v | _ => .none) s')
          (fun e s' => wpAny (model prog w) (A.deeper (callEnv (fnX "coord_repr" cqual cparams cbody cscope [] .none .none doc pm none (.ref c') ctv) s.heap.objs.size f)) (leaving (callEnv (fnX "coord_repr" cqual cparams cbody cscope [] .none .none doc pm none (.ref c') ctv) s.heap.objs.size f) e) (fun _ s'' => E e s'') (fun e' s'' => E e' s'') s') s₃ := by
      intro s₃ l a b t₁ t₂ X₃ hl hc ea eb
      subst ea; subst eb
      refine wpAny_execs_cons (wpAny_Return_some (wpAny_JoinedStr ?_))
      refine Joins_cons (wpAny_Constant_str ⟨_, _, rfl, small_line (by rw [Str.empty_append, h3]; omega), ?_⟩)
      refine Joins_cons (wpAny_FormattedValue_plain (ldE (X₃.toks _) hl (wpAny_formatField_int (small_log (by omega)) ⟨_, _, rfl, small_line (by rw [Str.empty_append, len_app]; omega), ?_⟩)))
      refine Joins_cons (wpAny_Constant_str ⟨_, _, rfl, small_line (by rw [Str.empty_append, len_app, len_app]; omega), ?_⟩)
      refine Joins_cons (wpAny_FormattedValue_plain (ldE (X₃.toks _) hc (wpAny_formatField_int (small_log (by omega)) ⟨_, _, rfl, small_line (by rw [Str.empty_append, len_app, len_app, len_app]; omega), ?_⟩)))
      refine Joins_nil ⟨small_line (by rw [Str.empty_append, len_app, len_app, len_app]; omega), ?_⟩
      rw [Str.empty_append]
      have key : ∀ (s' : Shared) (tk : Tok), Kp (frs outer) s.heap s'.heap → s'.gens = s.gens → s'.os = s.os → Q (.str ((("line " : Str) ++ (toString ((lineCol (x.cps.toList.take p)).1 : Int) : Str)) ++ (", column " : Str) ++ (toString ((lineCol (x.cps.toList.take p)).2 : Int) : Str)) tk) s' := by
        intro s' tk k1 k2 k3
        have := h s' tk k1 k2 k3
        unfold coordText at this
        rw [if_neg hge] at this
        exact this
      exact key _ _ X₃.kp X₃.gens X₃.os
    refine wpAny_execs_cons (wpAny_If (wpAny_isTrue_Compare1 (ldE X₂ rfl (wpAny_Constant_int (PySem.P.eq_int (wpAny_truthy_bool ?_))))))
    rcases f4 with ⟨g1, g2⟩ | ⟨i, g1, g2, g3, g4, g5⟩
    · rw [g1, show (((0 : Nat) : Int) + 1 == 1) = true from by decide, if_pos rfl]
      refine wpAny_execs_cons (wpAny_Assign_Name (wpAny_BinOp (ldE (X₂.toks _) rfl (wpAny_Constant_int (PySem.P.add_int (stE (X₂.toks _) fun s₃ X₃ => wpAny_execs_nil ?_))))))
      exact fin _ _ _ _ _ _ X₃ rfl rfl (by omega) (by omega)
    · rw [show (((List.count 10 (x.cps.toList.take p) : Nat) : Int) + 1 == 1) = false from by simp; omega, if_neg (by decide)]
      refine wpAny_execs_cons (wpAny_Assign_Name (wpAny_BinOp (ldE (X₂.toks _) rfl (str_method PySem.F.slot_str_rindex PySem.F.type_str_rindex PySem.F.entry_str_rindex (ldE (X₂.toks _) rfl ⟨x, tx, rfl, ?_⟩)))))
      refine spliced_more (wpAny_Constant_str (spliced_more (wpAny_Constant_int (spliced_more (ldE (X₂.toks _) rfl (spliced_none ⟨PySem.F.args_str_rindex_4 _ _ _ _, _, (gives_rindex_between x _ _ _ _ _ _ _ i ?_).meets, ?_⟩))))))
      · exact rindex_nl hp' g1 g2 g3
      · refine PySem.P.sub_int (stE (X₂.toks _) fun s₃ X₃ => wpAny_execs_nil ?_)
        exact fin _ _ _ _ _ _ X₃ rfl rfl (by omega) (by omega)
end
end Mine

end

section -- part 11
open PySem PySem.W PyProof.Rows PySem.Calls
open PySem.Builtin PySem.Builtin.Str
set_option maxRecDepth 100000
set_option linter.unusedVariables false
namespace Mine

section
variable {prog : Program} {w : World} {A : Around} {E : Value → Shared → Prop} {s : Shared} {gr : Heap} {outer : List Env} {env : Env} {Q : Value → Shared → Prop}

theorem stS {M : Model} {s₀ s : Shared} {fs : List Addr} {L : Addr} {own : List (Addr × Obj)} {l : List (Str × Value)} {x : Str} {v : Value} {Q : Unit → Shared → Prop} (X : In s₀ fs L own l s) (h : ∀ s', In s₀ fs L own (put x v l) s' → Heap.SameBut L s.heap s'.heap → Q () s') (hL : env.locals = L := by rfl) (hk : env.scope.kind = .function := by rfl) (hx : env.kindOf x = some .local := by rfl) :
    wpAny M A (storeName env x v) Q E s := by
  subst hL
  exact wpAny_storeName_local hx X.ns (fun _ hn hs => h _ (X.store hn hs) hs) (by rw [hk]; rfl)

/-- the own exception class called with one argument -/
theorem err_call {e : Expr} {np pos : Pos} (G : Gnd gr) (st : gr.StaysIn s.heap)
    (h : wpAny (model prog w) A (eval e env) (fun v s₁ => gr.StaysIn s₁.heap ∧ ∀ h' e, Heap.MadeExcOf s₁.heap h' e (.ref 24) [v] → Q (.ref e) { s₁ with heap := h' }) E s)
    (hk : env.scope.kind = .function := by rfl) (hx : env.kindOf "TOMLDecodeError" = some .globalImplicit := by rfl) (hg : env.globals = mainGlobals := by rfl) (hs : starEach [e] env = [(false, eval e env)] := by rfl) :
    wpAny (model prog w) A (eval (.Call (.Name "TOMLDecodeError" np) [e] [] pos) env) Q E s := by
  refine Call_Name1 (ldG G st rfl ?_ hk hx hg) hs
  unfold callWith
  refine wpAny_bind (wpAny_holding (evalArgs_plain (spliced_cons (wpAny_mono h (fun v s₁ h₁ => spliced_nil (wpAny_bind (wpAny_standAt ?_))) fun _ _ x => x))))
  obtain ⟨st₁, h₁⟩ := h₁
  obtain ⟨nm, q, bs, hdct, sn, sub, ab, col, dd, k0, k1, k2, k3, k5, mN, hC, hN, hni, _⟩ := G.err
  obtain ⟨hp, g, d, tk, os⟩ := s₁
  have hC' := st₁ _ _ hC
  have hN' : hp.Ns 23 mN := hN.keeps st₁
  simp only [List.any_cons, List.any_nil, Bool.or_false]
  refine wpAny_bind (wpAny_keeperOf_exc hC' ?_)
  exact wpAny_bind (wpAny_call_exc_sub PySem.F.excBase_ValueError hC' hN' hni fun h' e hm => wpAny_bind (wpAny_holding (wpAny_point (wpAny_pure (h₁ h' e hm)))))
end

section
variable {prog : Program} {w : World} {A : Around} {E : Value → Shared → Prop} {s : Shared} {gr : Heap} {outer : List Env} {Q : Value → Shared → Prop}

theorem builtins43 {gr h : Heap} (G : Gnd gr) (st : gr.StaysIn h) {mg : Str → Option Value} (hg : gr.Ns mainGlobals mg)
    (hb : ∃ bm ob, mg "__builtins__" = some (.ref bm) ∧ bm ≠ builtinsNs ∧ gr.get? bm = some ob ∧ ob.cls = .type "module" ∧ ob.dict = some builtinsNs ∧ ob.data = .plain) : h.BuiltinsAt mg 43 := by
  obtain ⟨bm, ob, b1, b2, b3, b4, b5, b6⟩ := hb
  refine ⟨bm, ob, b1, b2, fun q => ?_, fun q => ?_, st _ _ b3, b4, b5, b6⟩
  · obtain ⟨o, es, ep, e, hd, _⟩ := hg
    rw [q, e] at b3; cases b3; rw [hd] at b6; cases b6
  · rw [q, G.no43] at b3; cases b3

/-- the def within suffixed_err: made, or found in the table -/
theorem nested_def {A' : Around} (G : Gnd gr) (B : Bel A gr outer s.heap) {s₁ : Shared} {L : Addr} {l : List (Str × Value)} (X : In s (frs outer) L [] l s₁) {env : Env} {Q : Value → Shared → Prop} (hge0 : env.globals = mainGlobals) (hcode : env.code = .ref 47) (hcl : closureFor cscope env = pure [])
    (h : ∀ s₂ f c' doc pm ctv, In s (frs outer) L [(f, fnMade "coord_repr" cqual cparams cbody cscope [] doc pm c' ctv)] l s₂ → s₂.heap.CodeRec (.ref c') cqual → Q (.ref f) s₂) :
    wpAny (model prog w) A' (makeFunction "coord_repr" cqual cparams (.stmts cbody) cscope env [] [] [] cpos cpos.line) Q E s₁ := by
  have B₁ := bel_kp B X.kp
  obtain ⟨mg, mb, g1, g2, g3, g4, g5⟩ := G.globs
  have hb := builtins43 G B₁.stays g1 g5
  have hC : CodeHd s₁.heap 47 43 := G.code48.keeps B₁.stays
  obtain ⟨ps, h43, hps⟩ := B₁.tabok
  have h43L : L ≠ 43 := X.l43
  rcases hps with rfl | ⟨c', rfl, hc43, hrec⟩
  · refine makeFunction_K (mg := mg) hcl hge0 (g1.keeps B₁.stays) hcode hC h43 (by trivial) rfl (by decide) hb fun c' ctv doc h' tk hx hge hlt hrec htab => ?_
    have hc43 : c' ≠ 43 := Nat.ne_of_gt (Nat.lt_of_lt_of_le (Heap.lt_size h43) hge)
    have hk : ∀ b o, b ≠ 43 → s₁.heap.get? b = some o → (h'.push (fnMade "coord_repr" cqual cparams cbody cscope [] doc ((mg "__name__").getD .none) c' ctv)).get? b = some o := fun b o hb e => Heap.get?_push_of_some _ (hx b o hb e)
    have hrec' : (h'.push (fnMade "coord_repr" cqual cparams cbody cscope [] doc ((mg "__name__").getD .none) c' ctv)).CodeRec (.ref c') cqual := hrec.keeps fun b o e => Heap.get?_push_of_some _ e
    refine h _ h'.objs.size c' doc ((mg "__name__").getD .none) ctv ⟨X.ns.at' fun o e => hk L o h43L e, ⟨fun b o e n => hk b o (fun q => n (q ▸ .head _)) (X.kp.same b o e n), fun b o e n => ?_, fun _ => ⟨_, Heap.get?_push_of_some _ htab, .inr ⟨c', rfl, hc43, hrec'⟩⟩⟩, X.lt, fun p hp => ?_, X.gens, X.os, X.t43⟩ hrec'
    · obtain ⟨sl, e'⟩ := X.kp.ups b o e n
      exact ⟨sl, hk b _ n e'⟩
    · rcases List.mem_cons.mp hp with rfl | hp
      · have hsz : s₁.heap.objs.size ≤ h'.objs.size := Nat.le_of_lt (Nat.lt_of_le_of_lt hge hlt)
        exact ⟨Heap.get?_push_size _ rfl, Heap.get?_none_of_le (Nat.le_trans X.size hsz), Nat.ne_of_gt (Nat.lt_of_lt_of_le X.lsize hsz)⟩
      · cases hp
  · refine makeFunction_hit (mg := mg) (cv := .ref c') hcl hge0 (g1.keeps B₁.stays) hcode hC h43 (by exact trivial) rfl hb fun ctv doc h' tk hk hsz => ?_
    refine h _ h'.objs.size c' doc _ ctv (X.grow1 (fun b o e => Heap.get?_push_of_some _ (hk b o e)) (Heap.get?_push_size _ rfl) hsz) (hrec.keeps fun b o e => Heap.get?_push_of_some _ (hk b o e))

def errText (x : Str) (p : Nat) (msg : Str) : Str := msg ++ (" (at " : Str) ++ coordText x p ++ (")" : Str)

theorem coordText_len (x : Str) (p : Nat) (hx : x.cps.size < 1000) : (coordText x p).length < 100 := by
  unfold coordText
  split
  · decide
  · have hpl : p ≤ x.cps.toList.length := by simp; omega
    obtain ⟨f1, f2, f3, f4⟩ := lineCol_facts x.cps.toList p hpl
    have hcnt : (x.cps.toList.take p).count 10 ≤ p := Nat.le_trans List.count_le_length (by rw [List.length_take]; omega)
    have hl : p < x.cps.size := by omega
    have h1 := nat_text (n := (lineCol (x.cps.toList.take p)).1) (by omega)
    have h2 := nat_text (n := (lineCol (x.cps.toList.take p)).2) (by omega)
    have h3 : (Str.ofString "line ").length = 5 := by decide
    have h4 : (Str.ofString ", column ").length = 9 := by decide
    rw [len_app, len_app, len_app]
    omega

theorem suffixed_err_spec (G : Gnd gr) (B : Bel A gr outer s.heap) (hroom : A.depth + 1 < recursionLimit) {x msg : Str} {tx tp tm : Tok} {p : Nat} (hx : x.cps.size < 1000) (hp : p < 100000) (hm : msg.length < 1000)
    (h : ∀ s' h₁ e tk, Kp (frs outer) s.heap h₁ → Heap.MadeExcOf h₁ s'.heap e (.ref 24) [.str (errText x p msg) tk] → s'.gens = s.gens → s'.os = s.os → Q (.ref e) s') :
    wpAny (model prog w) A (call (.ref 48) [.str x tx, .int p tp, .str msg tm]) Q E s := by
  obtain ⟨o48, pm, ho, hd, hcd⟩ := G.fn48
  refine enterX (fdx := fd 4 pm (.ref 47)) (body := bodyOf 4) (binds := [("src", .str x tx), ("pos", .int p tp), ("msg", .str msg tm)]) G B (by omega) (B.stays _ _ ho) hd (hcd.keeps B.stays) rfl rfl ?_ (show ∀ x ∈ (scopeOf 4).names, x.2 ≠ .cell by decide) rfl
  intro s₁ X
  refine wpAny_execs_cons (nestDef_K rfl rfl rfl (nested_def G B X rfl rfl rfl ?_))
  intro s₂ f c' doc pm' ctv X₂ hrec
  refine stS X₂ fun s₃ X₃ hsb => ?_
  have hrec₃ : s₃.heap.CodeRec (.ref c') cqual := by
    obtain ⟨c, o, vs, t, q1, q2, q3, q4⟩ := hrec
    cases q1
    refine ⟨_, o, vs, t, rfl, (hsb.2 _ fun e => ?_).trans q2, q3, q4⟩
    obtain ⟨o', es, ep, e1, e2, _⟩ := X₂.ns
    rw [← e, q2] at e1; cases e1; rw [q3] at e2; cases e2
  have B₃ := bel_deep (env := callEnv (fd 4 pm (.ref 47)) s.heap.objs.size 48) B X₃
  have hcl := coordText_len x p hx
  have ha : (Str.ofString " (at ").length = 5 := by decide
  have hb : (Str.ofString ")").length = 1 := by decide
  refine wpAny_execs_cons (wpAny_Return_some (err_call G B₃.stays (wpAny_JoinedStr ?_)))
  refine Joins_cons (wpAny_FormattedValue_plain (ldE X₃ rfl (SB.field_str (fun t' k => ⟨_, _, rfl, small_line (by rw [Str.empty_append]; omega), ?_⟩) (small_line (by omega)))))
  refine Joins_cons (wpAny_Constant_str ⟨_, _, rfl, small_line (by rw [Str.empty_append, len_app]; omega), ?_⟩)
  refine Joins_cons (wpAny_FormattedValue_plain (Call_Name rfl (ldE (X₃.toks _) rfl (callWith_F ⟨_, _, _, _, X₃.get (.head _)⟩ (spliced_more (ldE (X₃.toks _) rfl (spliced_more (ldE (X₃.toks _) rfl (spliced_none ⟨⟨_, _, _, _, X₃.get (.head _)⟩, ?_⟩)))))))))
  refine coord_spec (outer := callEnv (fd 4 pm (.ref 47)) s.heap.objs.size 48 :: outer) (doc := doc) (pm := pm') (ctv := ctv) (c' := c') G ?_ hroom ?_ hrec₃ hx hp fun s₄ t₄ k₄ g₄ o₄ => ?_
  · exact B₃
  · exact X₃.get (.head _)
  have X₄ : In s (frs outer) s.heap.objs.size _ _ s₄ := X₃.ret B k₄ g₄ o₄
  refine SB.field_str (fun t' k => ⟨_, _, rfl, small_line (by rw [Str.empty_append, len_app, len_app]; omega), ?_⟩) (small_line (by omega))
  refine Joins_cons (wpAny_Constant_str ⟨_, _, rfl, small_line (by rw [Str.empty_append, len_app, len_app, len_app]; omega), ?_⟩)
  refine Joins_nil ⟨small_line (by rw [Str.empty_append, len_app, len_app, len_app]; omega), (bel_kp B X₄.kp).stays, fun h' e hm => ?_⟩
  rw [Str.empty_append] at hm
  exact h _ s₄.heap e _ X₄.kp hm X₄.gens X₄.os
end
end Mine

end

section -- part 12
open PySem PySem.W PyProof.Rows PySem.Calls
open PySem.Builtin PySem.Builtin.Str
set_option maxRecDepth 100000
set_option linter.unusedVariables false
namespace Mine

/-- an exception held in a frame, its object told -/
def HeldO (base : Heap) (l : List Env) (e : Addr) (oe : Obj) (fl : Value) (h : Heap) : Prop :=
  base.StaysIn h ∧ base.get? e = none ∧ h.FunFrames base l ∧ h.get? e = some oe ∧ ∃ vs T oT ts, oe.data = .fields vs ∧ vs[1]? = some (.ref T) ∧ base.get? T = none ∧ T ≠ e ∧ h.get? T = some oT ∧ oT.data = .fields ts ∧ ts[3]? = some fl

section
variable {M : Model} {A : Around} {E : Value → Shared → Prop} {s : Shared}

theorem note_newO {gr h : Heap} {env : Env} {outer : List Env} {L e : Addr} {oe : Obj} {vs : Array Value} {Q : Unit → Shared → Prop}
    (B : Bel A gr (env :: outer) h) (hf : env.frame = some L) (hk : ∀ b o, h.get? b = some o → s.heap.get? b = some o) (hn : h.get? e = none)
    (he : s.heap.get? e = some oe) (hd : oe.data = .fields vs) (h1 : vs[1]? = some .none)
    (k : ∀ h' T, HeldO (hideAll h (framesOf (env :: outer))) (env :: outer) e (oe.mapFields (·.setIfInBounds 1 (.ref T))) (rawInt L) h' → s.heap.UpToSlots h' → Q () { s with heap := h' }) :
    wpAny M A (noteFrame (.ref e) env) Q E s := by
  have hen : (hideAll h (framesOf (env :: outer))).get? e = none := by
    cases hq : (hideAll h (framesOf (env :: outer))).get? e with
    | none => rfl
    | some o => rw [of_hideAll _ hq] at hn; cases hn
  have hsz : 1 < vs.size := (Array.getElem?_eq_some_iff.mp h1).1
  have hl : s.heap.FunFrames (hideAll h (framesOf (env :: outer))) (env :: outer) := (frames_hidden B.frames).of_keeps fun b o e _ => ⟨o, hk b o e, rfl⟩
  have hkb : (hideAll h (framesOf (env :: outer))).StaysIn s.heap := fun b o q => hk b o (of_hideAll _ q)
  have hene : e ∉ (env :: outer).filterMap (·.frame) := fun hm => by
    obtain ⟨_, o, ho, hnf⟩ := hl.mem hm
    rw [he] at ho; cases ho; exact hnf vs hd
  unfold noteFrame
  simp only [hf]
  refine wpAny_bind (wpAny_field he hd h1 ?_)
  rw [if_neg (by decide)]
  refine wpAny_bind (wpAny_frameOf_fun B.stack hl hf fun h₁ hs₁ => ?_)
  refine wpAny_bind (wpAny_entryPlaceOf fun pl hpl => ?_)
  unfold EntryCells.newEntry newFields
  refine wpAny_bind (wpAny_newObj_type ?_ (hpl.sizeOk5 _ _ _ _ _))
  have he₁ : h₁.get? e = some oe := (hs₁.2.1 e hene).trans he
  have kb₁ : (hideAll h (framesOf (env :: outer))).StaysIn h₁ := fun b o hbo => (hs₁.2.1 b fun hm => by rw [(hl.mem hm).1] at hbo; cases hbo).trans (hkb b o hbo)
  have he₂ := fun (o : Obj) => Heap.get?_push_of_some (h := h₁) o he₁
  refine wpAny_setField (he₂ _) hd hsz (k _ h₁.objs.size ?_ ?_)
  · have hTe : h₁.objs.size ≠ e := Nat.ne_of_gt (Heap.lt_size he₁)
    have hd₃ := Obj.data_mapFields hd (·.setIfInBounds 1 (Value.ref h₁.objs.size))
    refine ⟨fun b o hbo => ?_, hen, hl.of_keeps fun b o hb hnf => ?_, Heap.get?_update_self _ (he₂ _) (Obj.isFreed_of_fields hd₃), _, h₁.objs.size, _, _, hd₃, by simp [hsz], kb₁.fresh, hTe, (Heap.get?_update_other _ _ (Ne.symm hTe)).trans (Heap.get?_push_size _ rfl), rfl, ?_⟩
    · have hbe : b ≠ e := fun q => by rw [q, hen] at hbo; cases hbo
      rw [Heap.get?_update_other _ _ (Ne.symm hbe)]
      exact Heap.get?_push_of_some _ (kb₁ b o hbo)
    · have hbe : b ≠ e := fun q => by rw [q, he] at hb; cases hb; exact hnf vs hd
      obtain ⟨sl, hs⟩ := hs₁.2.2 b o hb
      exact ⟨_, (Heap.get?_update_other _ _ (Ne.symm hbe)).trans (Heap.get?_push_of_some _ hs), rfl⟩
    · first | (simp; done) | (rcases hpl with rfl | ⟨_, _, _, _, _, _, _, rfl⟩ <;> simp)
  · intro b o hb hnf
    have hbe : b ≠ e := fun q => by rw [q, he] at hb; cases hb; exact hnf vs hd
    obtain ⟨sl, hs⟩ := hs₁.2.2 b o hb
    exact ⟨sl, (Heap.get?_update_other _ _ (Ne.symm hbe)).trans (Heap.get?_push_of_some _ hs)⟩

theorem landO {base : Heap} {l : List Env} {e : Addr} {oe : Obj} {fl : Value} {Q : Unit → Shared → Prop} (hh : HeldO base l e oe fl s.heap)
    (hQ : ∀ h', HeldO base l e oe .none h' → s.heap.UpToSlots h' → Q () { s with heap := h' }) : wpAny M A (setFlight (.ref e) none) Q E s := by
  obtain ⟨st, hen, hl, he, vs, T, oT, ts, hd, h1, hnT, hTe, hT, hdT, h3⟩ := hh
  obtain ⟨hsz, _⟩ := Array.getElem?_eq_some_iff.mp h3
  refine flightSet he hd h1 hT hdT hsz fun h' oT' sb hT' hdT' => ?_
  have stay : ∀ b o, s.heap.get? b = some o → (∀ vs, o.data ≠ .fields vs) → h'.get? b = some o := fun b o hb hn => (sb.2 b (ne_rec hT hdT hb hn)).trans hb
  refine hQ h' ⟨fun b o hb => ?_, hen, hl.of_keeps fun b o hb hn => ⟨o, stay b o hb hn, rfl⟩, (sb.2 e hTe.symm).trans he, vs, T, oT', _, hd, h1, hnT, hTe, hT', hdT', ?_⟩ fun b o hb hn => ⟨o.slots, stay b o hb hn⟩
  · have hbT : b ≠ T := by rintro rfl; rw [hnT] at hb; cases hb
    exact (sb.2 b hbT).trans (st b o hb)
  · rw [Array.getElem?_setIfInBounds_self_of_lt hsz]; rfl
end

section
variable {prog : Program} {w : World} {A : Around} {E : Value → Shared → Prop} {s : Shared}

/-- raised in the try's own block, of a built-in class, met by its first clause -/
theorem hit_new {gr h : Heap} {env : Env} {outer : List Env} {L e : Addr} {X T' : String} {x : Str} {np pos : Pos} {b₀ : Stmt} {suite : List Stmt} {rest : List ExceptHandler} {Q : Flow → Shared → Prop}
    (G : Gnd gr) (B : Bel A gr (env :: outer) h) (hf : env.frame = some L) (hx : Heap.NewExc h s.heap e X)
    (hexc : isSubtype (.type T') (.type "BaseException") = pure true) (hnt : isSubtype (.type ((Manifest.find? T').elim "type" fun y => y.metatype)) (.type "tuple") = pure false) (hsub : isSubtype (.type X) (.type T') = pure true)
    (k : ∀ h' oe, Kp (frs (env :: outer)) h h' → HeldO (hideAll h (framesOf (env :: outer))) (env :: outer) e oe .none h' → (∃ vs, oe.data = .fields vs ∧ vs[2]? = some .none) →
      wpAny (model prog w) (A.mark (some (.ref e))) (execs (b₀ :: suite) env) Q (notedBy (model prog w) (A.mark (some (.ref e))) env (cameBackBy (model prog w) A env E)) { s with heap := h' })
    (hk : env.scope.kind = .function) (hxk : env.kindOf x = some .globalImplicit) (hg : env.globals = mainGlobals) (hb : env.builtins = builtinsNs) (hm : bNames.lookup x = some (.type T')) (hdb : (x == ("__debug__" : Str)) = false) :
    wpAny (model prog w) A (noteFrame (.ref e) env) (fun _ s₂ => wpAny (model prog w) A (setFlight (.ref e) none) (fun _ s₃ =>
      wpAny (model prog w) A (handleBy (.ref e) env (.ExceptHandler (some (.Name x np)) none (b₀ :: suite) pos :: rest)) Q E s₃) E s₂) E s := by
  obtain ⟨ob, t0, he, hcls, hd⟩ := hx.there
  refine note_newO B hf hx.keeps hx.new he hd rfl fun h₁ T hh₁ up₁ => ?_
  refine landO hh₁ fun h₂ hh₂ up₂ => ?_
  have hd' := Obj.data_mapFields hd (·.setIfInBounds 1 (Value.ref T))
  have st : ∀ h', (hideAll h (framesOf (env :: outer))).StaysIn h' → gr.StaysIn h' := fun h' q b o e => q b o (hideAll_get _ (B.stays b o e) (fun hm => by rw [(B.frames.mem hm).1] at e; cases e))
  refine wpAny_handleBy_builtin (X := X) (T := T') (b := true) hexc hnt hsub (ldB G (st _ hh₂.1) hm ⟨rfl, ⟨_, hh₂.2.2.2.1, (Obj.cls_mapFields _ _).trans hcls⟩, ?_⟩ hk hxk hg hb hdb)
  rw [if_pos rfl]
  refine landO hh₂ fun h₃ hh₃ up₃ => ?_
  refine k h₃ _ (kp_of_stations B.frames B.tabok hh₃.1 ((((Heap.UpToSlots.of_keeps hx.keeps).trans up₁).trans up₂).trans up₃)) hh₃ ⟨_, hd', ?_⟩
  rfl
end
end Mine

end

section -- part 13
open PySem PySem.W PyProof.Rows PySem.Calls
open PySem.Builtin PySem.Builtin.Str
set_option maxRecDepth 100000
set_option linter.unusedVariables false
namespace Mine

/-- an exception of the own class, made behind h₁, not yet noted -/
def MadeAt (h₁ h' : Heap) (e : Addr) (msg : Str) : Prop :=
  (∀ b o, h₁.get? b = some o → h'.get? b = some o) ∧ h₁.get? e = none ∧ ∃ oe vs t tk, h'.get? e = some oe ∧ oe.cls = .ref 24 ∧ oe.data = .fields vs ∧ vs[1]? = some .none ∧ vs[0]? = some (.ref t) ∧ h₁.get? t = none ∧ h'.TupAt t [.str msg tk]

theorem unchain_entry : entryFor table "proto.unchain" = some Builtin.«proto.unchain» := entryFor_of_tree (by kernel_rfl)
theorem unchain_plain : plainId "proto.unchain" = true := by decide +kernel

section
variable {prog : Program} {w : World} {A : Around} {E : Value → Shared → Prop} {s : Shared} {gr : Heap} {env : Env} {Q : Flow → Shared → Prop}

theorem raise_err {e : Expr} {pos : Pos} (G : Gnd gr) (hh : A.handled = none)
    (h : wpAny (model prog w) A (eval e env) (fun v s₁ => gr.StaysIn s₁.heap ∧ ∃ a h₁ msg tk, v = .ref a ∧ Heap.MadeExcOf h₁ s₁.heap a (.ref 24) [.str msg tk] ∧ (MadeAt h₁ s₁.heap a msg → E (.ref a) s₁)) E s) :
    wpAny (model prog w) A (exec (.Raise (some e) none pos) env) Q E s := by
  obtain ⟨nm, q, bs, hdct, sn, sub, ab, col, dd, k0, k1, k2, k3, k5, mN, hC, hN, hni, _⟩ := G.err
  rw [arm_exec_Raise]
  refine wpAny_bind (wpAny_standAt ?_)
  refine wpAny_raiseStmt_made_sub (C := 24) (nm := nm) (q := q) (N := 23) (bs := bs) (bm := excBm) (hdct := hdct) (sn := sn) (sub := sub) (ab := ab) (col := col) (dd := dd) (k0 := k0) (k1 := k1) (k2 := k2) (k3 := k3) (k5 := k5) (newId := "ValueError.__new__") (by decide) hh ?_
  refine wpAny_bind (wpAny_mono h (fun v s₁ h₁ => wpAny_bind (wpAny_standAt (wpAny_pure ?_))) fun _ _ x => x)
  obtain ⟨st, a, h₁', msg, tk, rfl, hm, hE⟩ := h₁
  obtain ⟨t, he, htn, ht⟩ := hm.there
  exact ⟨a, t, rfl, st _ _ hC, he, hE ⟨hm.keeps, hm.new, _, _, t, tk, he, rfl, rfl, rfl, rfl, htn, ⟨_, _, ht, rfl, rfl⟩⟩⟩

theorem raise_from_none {e : Expr} {k : Nat} {np pos : Pos} {hd : Addr} (G : Gnd gr) (hh : A.handled = some (.ref hd))
    (h : wpAny (model prog w) A (eval e env) (fun v s₁ => gr.StaysIn s₁.heap ∧ ∃ a h₁ msg tk, v = .ref a ∧ Heap.MadeExcOf h₁ s₁.heap a (.ref 24) [.str msg tk] ∧ (∃ oh vs, h₁.get? hd = some oh ∧ oh.data = .fields vs ∧ vs[2]? = some .none) ∧
      ∀ h', MadeAt h₁ h' a msg → E (.ref a) { s₁ with heap := h' }) E s) :
    wpAny (model prog w) A (exec (.Raise (some e) (some (.Constant .none k np)) pos) env) Q E s := by
  obtain ⟨nm, q, bs, hdct, sn, sub, ab, col, dd, k0, k1, k2, k3, k5, mN, hC, hN, hni, _⟩ := G.err
  rw [arm_exec_Raise]
  refine wpAny_bind (wpAny_standAt ?_)
  unfold raiseStmt
  refine wpAny_bind (wpAny_bind (wpAny_mono h (fun v s₁ h₁ => wpAny_bind (wpAny_standAt (wpAny_pure ?_))) fun _ _ x => x))
  obtain ⟨st, a, h₁', msg, tk, rfl, hm, ⟨oh, vh, hoh, hdh, hvh⟩, hE⟩ := h₁
  obtain ⟨t, he, htn, ht⟩ := hm.there
  have hC' := st _ _ hC
  have hah : a ≠ hd := fun q => by have := hm.new; rw [q, hoh] at this; cases this
  have hta : t ≠ a := fun q => by rw [q, he] at ht; cases ht
  have hoh' := hm.keeps _ _ hoh
  have hcB : (Value.ref 24 :: excBm).contains (.type "BaseException") = true := by decide
  obtain ⟨hp, g, d, tk', os⟩ := s₁
  dsimp only at he ht hoh' hC' hE hm ⊢
  refine wpAny_bind (wpAny_holding (wpAny_bind (m := PySem.eval (.Constant .none k np) env) (wpAny_pure (wpAny_bind (wpAny_standAt (wpAny_pure ?_))))))
  refine wpAny_bind (wpAny_pure ?_)
  refine wpAny_bind (wpAny_holding ?_)
  have hT : ∀ {h' : Heap} {oe : Obj} {vs : Array Value} {Q' : Bool → Shared → Prop}, h'.get? a = some oe → oe.data = .fields vs → Q' false ⟨h', g, d, tk', os⟩ → wpAny (model prog w) A (isType (.ref a)) Q' E ⟨h', g, d, tk', os⟩ := by
    intro h' oe vs Q' ho hd hq
    simp only [isType, loadHead]
    refine wpAny_bind (wpAny_loadPart ho ?_)
    rw [hd]; exact wpAny_pure hq
  unfold excFromValue isExcClass
  refine wpAny_bind (wpAny_bind (hT he rfl ?_))
  simp only [Bool.false_eq_true, if_false]
  refine wpAny_pure ?_
  simp only [Bool.false_eq_true, if_false]
  unfold isInstance
  refine wpAny_bind (wpAny_bind (wpAny_typeOf_ref he (wpAny_isSubtype_exc hC' ?_)))
  rw [hcB]
  simp only [if_true]
  refine wpAny_pure ?_
  rw [if_pos (by decide)]
  refine wpAny_bind (wpAny_pure ?_)
  refine wpAny_bind (wpAny_setField_rec he (by simp) fun h₂ he₂ hs₂ => ?_)
  refine wpAny_bind (wpAny_setField_rec he₂ (by simp) fun h₃ he₃ hs₃ => ?_)
  refine wpAny_bind (hT he₃ rfl ?_)
  simp only [Bool.false_eq_true, if_false]
  have hs₂₃ := hs₂.trans hs₃
  have ha24 : (24 : Addr) ≠ a := fun q => by rw [← q] at he; rw [hC'] at he; cases he
  have hC₃ : h₃.get? 24 = some _ := (hs₂₃.2 24 ha24).trans hC'
  unfold raisedInstance
  refine wpAny_bind (wpAny_bind (wpAny_typeOf_ref he₃ (wpAny_bind (wpAny_typeOf_ref hC₃ ?_))))
  rw [if_pos (by simp)]
  refine wpAny_pure ?_
  unfold setFlight raiseNew
  refine wpAny_bind (wpAny_bind (wpAny_field he₃ rfl (x := .none) rfl ?_))
  rw [if_neg (by decide)]
  refine wpAny_pure (wpAny_bind (wpAny_handled ?_))
  rw [hh]
  have hoh₃ : h₃.get? hd = some oh := (hs₂₃.2 hd (Ne.symm hah)).trans hoh'
  have hne : (Value.ref hd != Value.ref a) = true := by simp; exact fun q => hah q.symm
  simp only [hne, if_true]
  refine wpAny_bind (wpAny_holding (wpAny_runValue (codeAny_builtin unchain_entry ?_)))
  rw [Around.under_plainId unchain_plain _]
  refine wpAny_bind (wpAny_field hoh₃ hdh hvh ?_)
  rw [if_pos (by decide)]
  refine wpAny_pure ?_
  refine wpAny_bind (m := setField (.ref a) 2 (.ref hd)) (wpAny_setField_rec he₃ (by simp) fun h₄ he₄ hs₄ => ?_)
  have hs := hs₂₃.trans hs₄
  refine wpAny_throw (hE h₄ ⟨fun b o e => ?_, hm.new, _, _, t, tk, he₄, rfl, rfl, rfl, rfl, htn, ⟨_, _, (hs.2 t hta).trans ht, rfl, rfl⟩⟩)
  exact (hs.2 b fun q => by have := hm.new; rw [← q, e] at this; cases this).trans (hm.keeps b o e)
end
end Mine

end

section -- part 14
open PySem PySem.W PyProof.Rows PySem.Calls
open PySem.Builtin PySem.Builtin.Str
set_option maxRecDepth 100000
set_option linter.unusedVariables false
namespace Mine

/-- an exception of the own class came out of a call -/
def Raised (outer : List Env) (s s' : Shared) (e : Addr) (msg : Str) : Prop :=
  ∃ env' L own l h₁ t tk, In s (frs outer) L own l { s' with heap := h₁ } ∧ Env.frame env' = some L ∧ env'.scope.kind = .function ∧ Heap.FlyingW (hideAll h₁ (framesOf (env' :: outer))) outer e (.ref 24) (.ref t) s'.heap ∧
    s'.heap.TupAt t [.str msg tk] ∧ h₁.UpToSlots s'.heap

theorem bel_mark {A : Around} {gr h : Heap} {outer : List Env} (B : Bel A gr outer h) (x : Option Value) : Bel (A.mark x) gr outer h := ⟨⟨B.stack, B.stays, B.frames⟩, B.tabok, B.no43⟩

section
variable {M : Model} {A : Around} {E E' : Value → Shared → Prop} {s s₁ s₂ : Shared} {gr h₁ : Heap} {outer : List Env} {env : Env} {L e : Addr} {own : List (Addr × Obj)} {l : List (Str × Value)} {msg : Str}

theorem raised_of {h' : Heap} {s₃ : Shared} (B : Bel A gr outer s.heap) (X₁ : In s (frs outer) L own l { s₂ with heap := h₁ }) (hf : env.frame = some L) (hkn : env.scope.kind = .function) {t : Addr} {tk : Tok}
    (hfl : Heap.FlyingW (hideAll h₁ (framesOf (env :: outer))) outer e (.ref 24) (.ref t) h') (htup : h'.TupAt t [.str msg tk]) (up : h₁.UpToSlots h') (tk' : Nat) : Raised outer s { s₂ with heap := h', toks := tk' } e msg := by
  exact ⟨env, L, own, l, h₁, t, tk, ⟨X₁.ns, X₁.kp, X₁.lt, X₁.own, X₁.gens, X₁.os, X₁.t43⟩, hf, hkn, hfl, htup, up⟩

theorem leave_direct (B : Bel A gr outer s.heap) (X : In s (frs outer) L own l s₁) (hf : env.frame = some L) (hkn : env.scope.kind = .function) (kp : Kp (frs (env :: outer)) s₁.heap h₁) (hm : MadeAt h₁ s₂.heap e msg) (hg : s₂.gens = s₁.gens) (ho : s₂.os = s₁.os)
    (hE : ∀ s', Raised outer s s' e msg → E (.ref e) s') : wpAny M (A.deeper env) (leaving env (.ref e)) (fun _ s'' => E (.ref e) s'') E' s₂ := by
  have X₁ : In s (frs outer) L own l { s₂ with heap := h₁ } := X.ret B kp hg ho hf
  have B₁ := bel_deep B X₁ hf hkn
  obtain ⟨hk, hn, oe, vs, t, tk, he, hcls, hd, h1, h0, htn, htup⟩ := hm
  have hen : (hideAll h₁ (framesOf (env :: outer))).get? e = none := by
    cases hq : (hideAll h₁ (framesOf (env :: outer))).get? e with
    | none => rfl
    | some o => rw [of_hideAll _ hq] at hn; cases hn
  refine wpAny_leaving_firstW (base := hideAll h₁ (framesOf (env :: outer))) B₁.stack ((frames_hidden B₁.frames).of_keeps fun b o e _ => ⟨o, hk b o e, rfl⟩) hf he (fun b o q => hk b o (of_hideAll _ q)) hen hd h1 h0 fun h' hL => ?_
  obtain ⟨k1, ⟨_, _, k2⟩, k3, k4⟩ := hL
  rw [hcls] at k3
  exact hE _ (raised_of (s₃ := s₂) B X₁ hf hkn ⟨k1, hen, k2, k3⟩ (htup.of_slots k4) ((Heap.UpToSlots.of_keeps hk).trans k4) s₂.toks)

theorem leave_handled {hd : Option Value} (B : Bel A gr outer s.heap) (X : In s (frs outer) L own l s₁) (hf : env.frame = some L) (hkn : env.scope.kind = .function) (kp : Kp (frs (env :: outer)) s₁.heap h₁) (hm : MadeAt h₁ s₂.heap e msg) (hg : s₂.gens = s₁.gens) (ho : s₂.os = s₁.os)
    (hE : ∀ s', Raised outer s s' e msg → E (.ref e) s') :
    notedBy M ((A.deeper env).mark hd) env (cameBackBy M (A.deeper env) env fun e s' => wpAny M (A.deeper env) (leaving env e) (fun _ s'' => E e s'') E' s') (.ref e) s₂ := by
  have X₁ : In s (frs outer) L own l { s₂ with heap := h₁ } := X.ret B kp hg ho hf
  have B₁ := bel_deep B X₁ hf hkn
  obtain ⟨hk, hn, oe, vs, t, tk, he, hcls, hdt, h1, h0, htn, htup⟩ := hm
  unfold notedBy
  refine note_new (bel_mark B₁ hd) hf hk hn he hdt h1 h0 fun h₂ hh₂ up₂ => ?_
  refine cameBack_held hf hh₂ fun h₃ hh₃ up₃ => ?_
  unfold leaving
  refine wpAny_bind (wpAny_noteFrame_againW hf hh₃.2.2.2 (wpAny_landsW hh₃ fun h₄ hfl up₄ => ?_))
  obtain ⟨k1, k2, ⟨_, _, k3⟩, k4⟩ := hfl
  rw [hcls] at k4
  exact hE _ (raised_of (s₃ := s₂) B X₁ hf hkn ⟨k1, k2, k3, k4⟩ (((htup.of_slots up₂).of_slots up₃).of_slots up₄) ((((Heap.UpToSlots.of_keeps hk).trans up₂).trans up₃).trans up₄) s₂.toks)
end
end Mine

end

section -- part 15
open PySem PySem.W PyProof.Rows PySem.Calls
open PySem.Builtin PySem.Builtin.Str
set_option maxRecDepth 100000
set_option linter.unusedVariables false
namespace Mine

/-! ## slices -/
def sub (x : Str) (a b : Nat) : Str := ⟨((x.cps.toList.drop a).take (b - a)).toArray⟩
theorem sub_list (x : Str) (a b : Nat) : (sub x a b).cps.toList = (x.cps.toList.drop a).take (b - a) := rfl

theorem idx_clip (a b n : Nat) : strSliceIndices (some (a : Int)) (some (b : Int)) 1 n = strSliceIndices (some ((min a n : Nat) : Int)) (some ((min b n : Nat) : Int)) 1 n := by
  have h1 : ¬ ((a : Int) < 0) := by omega
  have h2 : ¬ ((b : Int) < 0) := by omega
  have h3 : ¬ (((min a n : Nat) : Int) < 0) := by omega
  have h4 : ¬ (((min b n : Nat) : Int) < 0) := by omega
  have e1 : max (0 : Int) (min (a : Int) (n : Int)) = max (0 : Int) (min ((min a n : Nat) : Int) (n : Int)) := by omega
  have e2 : max (0 : Int) (min (b : Int) (n : Int)) = max (0 : Int) (min ((min b n : Nat) : Int) (n : Int)) := by omega
  simp only [strSliceIndices, h1, h2, h3, h4, if_false, e1, e2, show ((1 : Int) > 0) = True from by simp, if_true]
theorem idx_none (b n : Nat) : strSliceIndices none (some (b : Int)) 1 n = strSliceIndices (some ((0 : Nat) : Int)) (some (b : Int)) 1 n := by
  have e1 : max (0 : Int) (min ((0 : Nat) : Int) (n : Int)) = 0 := by omega
  simp only [strSliceIndices, show ¬ (((0 : Nat) : Int) < 0) by omega, if_false, e1, show ((1 : Int) > 0) = True from by simp, if_true]
theorem idx_empty {a b n : Nat} (h : b < a) (ha : a ≤ n) : strSliceIndices (some (a : Int)) (some (b : Int)) 1 n = [] := by
  have h1 : ¬ ((a : Int) < 0) := by omega
  have h2 : ¬ ((b : Int) < 0) := by omega
  have e1 : max (0 : Int) (min (a : Int) (n : Int)) = a := by omega
  have e2 : max (0 : Int) (min (b : Int) (n : Int)) = b := by omega
  have h3 : ¬ ((a : Int) < b) := by omega
  simp [strSliceIndices, sliceRange, h1, h2, e1, e2, h3]

theorem slice_nat (x : Str) (a b : Nat) : (strSliceIndices (some (a : Int)) (some (b : Int)) 1 x.length).filterMap (x.cps[·]?) = (x.cps.toList.drop a).take (b - a) ∧
    (strSliceIndices (some (a : Int)) (some (b : Int)) 1 x.length).length = ((x.cps.toList.drop a).take (b - a)).length := by
  have hl : x.cps.toList.length = x.length := by simp [Str.length]
  rw [idx_clip]
  by_cases h : min a x.length ≤ min b x.length
  · rw [StrLaws.sliced_plain x h (by omega), StrLaws.strSliceIndices_plain h (by omega)]
    have e : (x.cps.toList.drop (min a x.length)).take (min b x.length - min a x.length) = (x.cps.toList.drop a).take (b - a) := by
      by_cases ha : a ≤ x.length
      · rw [Nat.min_eq_left ha] at h ⊢
        by_cases hb : b ≤ x.length
        · rw [Nat.min_eq_left hb]
        · rw [Nat.min_eq_right (by omega), List.take_of_length_le (by rw [List.length_drop]; omega), List.take_of_length_le (by rw [List.length_drop]; omega)]
      · rw [Nat.min_eq_right (by omega), List.drop_eq_nil_of_le (by omega), List.drop_eq_nil_of_le (by omega)]; simp
    refine ⟨e, ?_⟩
    rw [← e]
    simp only [List.length_map, List.length_range, List.length_take, List.length_drop]
    omega
  · rw [idx_empty (by omega) (by omega)]
    have : b - a = 0 := by omega
    rw [this]; simp

section
variable {s : Shared} {Q : Value → Shared → Prop}
theorem slice_post {x : Str} {t ta tb : Tok} {a b : Nat} (hx : x.length ≤ sizeLine) (h : ∀ t' k, Q (.str (sub x a b) t') { s with toks := k }) : (sliceMade x t (some ((a : Int), ta)) (some ((b : Int), tb)) none).post Q s := by
  unfold sliceMade slicePicked
  simp only [Option.map_some, Option.map_none, Option.getD_none]
  obtain ⟨e1, e2⟩ := slice_nat x a b
  have hsub : (x.cps.toList.drop a).take (b - a) |>.Sublist x.cps.toList := (List.take_sublist _ _).trans (List.drop_sublist _ _)
  split
  · rename_i hc
    simp only [beq_self_eq_true, Bool.true_and, beq_iff_eq] at hc
    rw [e2] at hc
    have e := hsub.eq_of_length (by rw [hc]; simp [Str.length])
    have hxe : sub x a b = x := by
      obtain ⟨c⟩ := x
      show Str.mk _ = Str.mk c
      congr 1
      have e' : (List.take (b - a) (List.drop a c.toList)) = c.toList := e
      rw [e']
    have := h t s.toks
    rw [hxe] at this
    exact this
  · refine ⟨?_, ?_⟩
    · rw [e1]
      show ((x.cps.toList.drop a).take (b - a)).toArray.size ≤ sizeLine
      have := hsub.length_le
      simp only [List.size_toArray]
      have e3 : x.cps.toList.length = x.length := by simp [Str.length]
      omega
    · rw [e1]; exact h _ _
theorem slice_post0 {x : Str} {t tb : Tok} {b : Nat} (hx : x.length ≤ sizeLine) (h : ∀ t' k, Q (.str (sub x 0 b) t') { s with toks := k }) : (sliceMade x t none (some ((b : Int), tb)) none).post Q s := by
  have := slice_post (t := t) (ta := 0) (tb := tb) (a := 0) (b := b) hx h
  unfold sliceMade slicePicked at this ⊢
  simp only [Option.map_some, Option.map_none, Option.getD_none] at this ⊢
  rw [idx_none]
  exact this
end

/-! ## skip_until, as told -/
def firstAt (x y : Str) (p : Nat) : Option Nat := (occurrences x y p x.length 1).head?
theorem firstAt_spec (x y : Str) (p : Nat) : (firstAt x y p = none ∧ ∀ i, p ≤ i → ¬ StrLaws.At x y x.length i) ∨ ∃ i, firstAt x y p = some i ∧ p ≤ i ∧ StrLaws.At x y x.length i ∧ ∀ k, p ≤ k → k < i → ¬ StrLaws.At x y x.length k := by
  unfold firstAt
  rcases StrLaws.occ_head_from x y p 1 (Nat.le_refl 1) with ⟨h0, hn⟩ | ⟨i, r, h0, hlo, hi, hn⟩
  · exact .inl ⟨by rw [h0]; rfl, hn⟩
  · exact .inr ⟨i, by rw [h0]; rfl, hlo, hi, hn⟩

def stopAt (x : Str) (p : Nat) (D : Nat → Bool) : Nat := skipTo x.cps.toList (fun c => !D c) p
def foundText (x : Str) (q : Nat) : Str := errText x q (("Found invalid character " : Str) ++ reprText (one ((x.cps.toList[q]?).getD 0)))
def expectText (x y : Str) : Str := errText x x.cps.size (("Expected " : Str) ++ reprText y)
/-- the place, or the words -/
def untilR (x y : Str) (p : Nat) (D : Nat → Bool) (eof : Bool) : Nat ⊕ Str :=
  if (firstAt x y p).isNone && eof then .inr (expectText x y)
  else if stopAt x p D < (firstAt x y p).getD x.cps.size then .inr (foundText x (stopAt x p D))
  else .inl ((firstAt x y p).getD x.cps.size)

theorem skipTo_all {cs : List Nat} {P : Nat → Bool} {p q : Nat} (hq : q ≤ cs.length) : ((cs.drop p).take (q - p)).all P = !decide (skipTo cs P p < q) := by
  induction h : q - p generalizing p with
  | zero =>
    have := skipTo_ge cs P p
    simp
    omega
  | succ n ih =>
    have hpl : p < cs.length := by omega
    obtain ⟨c, hc⟩ : ∃ c, cs[p]? = some c := ⟨_, List.getElem?_eq_getElem hpl⟩
    obtain ⟨_, e⟩ := List.getElem?_eq_some_iff.mp hc
    rw [List.drop_eq_getElem_cons hpl, e, List.take_succ_cons, List.all_cons]
    cases hP : P c with
    | true => rw [Bool.true_and, ih (p := p + 1) (by omega), skipTo_step hc hP]
    | false =>
      rw [skipTo_stop hc hP]
      simp
      omega
end Mine

end

section -- part 16
open PySem PySem.W PyProof.Rows PySem.Calls
open PySem.Builtin PySem.Builtin.Str
set_option maxRecDepth 100000
set_option linter.unusedVariables false
namespace Mine

section
variable {prog : Program} {w : World} {A : Around} {E : Value → Shared → Prop} {s : Shared} {env : Env} {Q : Value → Shared → Prop}
/-- isdisjoint called upon a frozenset -/
theorem fz_method {o e : Expr} {apos pos : Pos}
    (h : wpAny (model prog w) A (eval o env) (fun ov s₁ => ∃ S cs n, ov = .ref S ∧ FzAt prog w s₁.heap S cs n ∧ wpAny (model prog w) A (eval e env) (fun v s₂ => wpAny (model prog w) A (call (.builtin "frozenset.isdisjoint") [.ref S, v]) Q E s₂) E s₁) E s)
    (hbase : attributeBase o "isdisjoint" env (eval o env) = eval o env := by rfl)
    (hfew : ((backTo pos (starEach [e] env)).all (fun x => !x.1) && (backToKw pos (keywordEach [] env)).all (fun x => x.1.isSome)
      && decide ([e].length + ([] : List Keyword).length + (if ([] : List Keyword).isEmpty then 0 else 1) < 30)) = true := by rfl)
    (hline : (apos.endLine == pos.line) = true := by rfl) (he : starEach [e] env = [(false, eval e env)] := by rfl) :
    wpAny (model prog w) A (eval (.Call (.Attribute o "isdisjoint" apos) [e] [] pos) env) Q E s := by
  refine wpAny_Call_method_lateS hbase hfew hline (wpAny_mono h (fun ov s₁ h₁ => ?_) fun _ _ x => x)
  obtain ⟨S, cs, n, rfl, hF, h₁⟩ := h₁
  refine ⟨"frozenset", "frozenset.isdisjoint", fz_plain, fz_slot_isdisjoint, fz_type_isdisjoint, hF.typeIs, fun a q => ?_, ?_⟩
  · cases q
    obtain ⟨o, _, _, _, ho, _, hd, _⟩ := hF
    exact ⟨o, ho, hd⟩
  · rw [he]
    refine Calls.callWith_builtin rfl ?_
    exact evalArgs_plain (spliced_cons (wpAny_mono h₁ (fun v s₂ h₂ => spliced_nil h₂) fun _ _ x => x))
end

section
variable {prog : Program} {w : World} {A : Around} {E : Value → Shared → Prop} {s : Shared} {gr : Heap} {outer : List Env} {Q : Value → Shared → Prop}

theorem In.hold {s₀ s : Shared} {fs : List Addr} {L e : Addr} {own : List (Addr × Obj)} {l : List (Str × Value)} {oe : Obj} (X : In s₀ fs L own l s) (h : s.heap.get? e = some oe) (hn : s₀.heap.get? e = none) (hL : e ≠ L) : In s₀ fs L ((e, oe) :: own) l s :=
  ⟨X.ns, X.kp, X.lt, fun p hp => by
    rcases List.mem_cons.mp hp with rfl | hp
    · exact ⟨h, hn, hL⟩
    · exact X.own p hp, X.gens, X.os, X.t43⟩
theorem In.fresh {A : Around} {gr : Heap} {outer : List Env} {s₀ s : Shared} {L e : Addr} {own : List (Addr × Obj)} {l : List (Str × Value)} (B : Bel A gr outer s₀.heap) (X : In s₀ (frs outer) L own l s) (h : s.heap.get? e = none) : s₀.heap.get? e = none ∧ e ≠ L := by
  refine ⟨?_, fun q => ?_⟩
  · cases hq : s₀.heap.get? e with
    | none => rfl
    | some o =>
      by_cases h43 : e = 43
      · obtain ⟨ps, h1, _⟩ := X.kp.tab B.tabok
        rw [h43, h1] at h; cases h
      · obtain ⟨sl, h1⟩ := X.kp.ups e o hq h43
        rw [h1] at h; cases h
  · obtain ⟨o, _, _, ho, _⟩ := X.ns
    rw [q, ho] at h; cases h

theorem repr_one {c : Nat} (h : c < 128) : (reprText (one c)).length ≤ 12 := by
  have := StrLaws.reprText_len (one c) (fun d hd => by
    have : d = c := by simpa using hd
    rw [this]
    exact Nat.lt_of_lt_of_le h (by decide))
  exact this

theorem skip_until_spec (G : Gnd gr) (B : Bel A gr outer s.heap) (hA : A.handled = none) (hroom : A.depth + 2 < recursionLimit) {x y : Str} {tx tp ty : Tok} {p S n : Nat} {cs : List Nat} {eof : Bool}
    (hx : x.cps.size < 1000) (hp : p < 10000) (hy : (reprText y).length < 500) (hc : ∀ c ∈ x.cps.toList, c < 128) (hF : FzAt prog w s.heap S cs n) (hn : n < 1000) (hS : S ∉ frs outer)
    (hok : ∀ s' t m, untilR x y p (fun c => decide (c ∈ cs)) eof = .inl m → Kp (frs outer) s.heap s'.heap → s'.gens = s.gens → s'.os = s.os → Q (.int (m : Nat) t) s')
    (herr : ∀ s' e m, untilR x y p (fun c => decide (c ∈ cs)) eof = .inr m → Raised outer s s' e m → E (.ref e) s') :
    wpAny (model prog w) A (call (.ref 41) [.str x tx, .int p tp, .str y ty] [("error_on", .ref S), ("error_on_eof", .bool eof)]) Q E s := by
  refine enter (n := 3) (binds := [("src", .str x tx), ("pos", .int p tp), ("expect", .str y ty), ("error_on", .ref S), ("error_on_eof", .bool eof)]) G B (by omega) (by decide) (fun pm cd => rfl) ?_
  intro s₁ cd X
  have hlen : x.cps.toList.length = x.cps.size := Array.length_toList
  -- behind the try
  have fin : ∀ (s₂ : Shared) (np : Nat) (t : Tok), In s (frs outer) s.heap.objs.size [] [("error_on_eof", .bool eof), ("error_on", .ref S), ("expect", .str y ty), ("pos", .int p tp), ("src", .str x tx), ("new_pos", .int (np : Nat) t)] s₂ →
      np = (firstAt x y p).getD x.cps.size → np ≤ x.cps.size → ((firstAt x y p).isNone && eof) = false →
      wpAny (model prog w) (A.deeper (ev 3 s.heap.objs.size 41 cd [])) (execs ((bodyOf 3).drop 1) (ev 3 s.heap.objs.size 41 cd [])) (fun fl s' => Q (match fl with | .ret v => v | _ => .none) s')
        (fun e s' => wpAny (model prog w) (A.deeper (ev 3 s.heap.objs.size 41 cd [])) (leaving (ev 3 s.heap.objs.size 41 cd []) e) (fun _ s'' => E e s'') (fun e' s'' => E e' s'') s') s₂ := by
    intro s₂ np t X₂ hnp hle hne
    have B₂ := bel_deep (env := ev 3 s.heap.objs.size 41 cd []) B X₂
    have hF₂ : FzAt prog w s₂.heap S cs n := hF.at fun o e => X₂.old e hS
    refine wpAny_execs_cons (wpAny_If (isTrue_not (isTrue_plain (fz_method (ldE X₂ rfl ⟨S, cs, n, rfl, hF₂, ?_⟩)))))
    refine wpAny_Subscript_str_slice (ldE X₂ rfl (ldE X₂ rfl (ldE X₂ rfl ⟨x, tx, some ((p : Int), tp), some ((np : Int), t), rfl, rfl, rfl, slice_post (small_line (by simp only [Str.length]; omega)) fun t' k => ?_⟩)))
    refine fz_isdisjoint hA (hF₂.at fun o e => Heap.get?_push_of_some _ e) hn fun h' tk hk' => wpAny_truthy_bool ?_
    have X₃ : In s (frs outer) s.heap.objs.size [] _ { s₂ with heap := h', toks := tk } := X₂.grow fun b o e => hk' b o (Heap.get?_push_of_some _ e)
    rw [sub_list, skipTo_all (P := fun c => !decide (c ∈ cs)) (by rw [hlen]; exact hle), Bool.not_not]
    by_cases hst : skipTo x.cps.toList (fun c => !decide (c ∈ cs)) p < np
    · rw [decide_eq_true hst, if_pos rfl]
      refine wpAny_execs_cons (wpAny_While (codeAny_whileLoop (fun m s' => ∃ q tq, In s (frs outer) s.heap.objs.size [] [("error_on_eof", .bool eof), ("error_on", .ref S), ("expect", .str y ty), ("pos", .int (q : Nat) tq), ("src", .str x tx), ("new_pos", .int (np : Nat) t)] s' ∧
        skipTo x.cps.toList (fun c => !decide (c ∈ cs)) q = skipTo x.cps.toList (fun c => !decide (c ∈ cs)) p ∧ m = skipTo x.cps.toList (fun c => !decide (c ∈ cs)) p - q) ?turn _ ⟨p, tp, X₃, rfl, rfl⟩))
      rintro m s' ⟨q, tq, X', hs, hm⟩
      have hge := skipTo_ge x.cps.toList (fun c => !decide (c ∈ cs)) q
      have hql : q < x.cps.toList.length := by omega
      obtain ⟨c, hcq⟩ : ∃ c, x.cps.toList[q]? = some c := ⟨_, List.getElem?_eq_getElem hql⟩
      have hF' : FzAt prog w s'.heap S cs n := hF.at fun o e => X'.old e hS
      refine wpAny_isTrue_Compare1 (Subscript_ (ldE X' rfl (ldE X' rfl (item_str_or hA (fits_nat (by omega)) (fun q' => ?_) fun _ _ => ?_))))
      · exfalso
        simp only [Str.length] at q'
        omega
      rw [item_nat hcq]
      refine ldE (X'.toks _) rfl (fz_notin hF' hn fun t'' => wpAny_truthy_bool ?_)
      by_cases hin : c ∈ cs
      · have hstop := skipTo_stop (P := fun c => !decide (c ∈ cs)) hcq (by simp [hin])
        simp only [hin, decide_true, Bool.not_true, Bool.false_eq_true, if_false]
        refine wpAny_execs_nil ?_
        -- the sign is found
        have B' := bel_deep (env := ev 3 s.heap.objs.size 41 cd []) B X'
        have hc128 : c < 128 := hc c (List.mem_of_getElem? hcq)
        have hr1 : (reprText ⟨#[c]⟩).length ≤ 12 := repr_one hc128
        have he : (Str.ofString "Found invalid character ").length = 24 := by decide
        refine wpAny_execs_cons (raise_err G hA ?_)
        refine Call_Name rfl (ldG G B'.stays rfl (callWith_F (fnAt48 G B'.stays) (spliced_more (ldE (X'.toks _) rfl (spliced_more (ldE (X'.toks _) rfl (spliced_more (wpAny_JoinedStr ?_))))))))
        refine Joins_cons (wpAny_Constant_str ⟨_, _, rfl, small_line (by rw [Str.empty_append, he]; omega), ?_⟩)
        refine Joins_cons (wpAny_FormattedValue_repr (Subscript_ (ldE (X'.toks _) rfl (ldE (X'.toks _) rfl (item_str_or hA (fits_nat (by omega)) (fun q' => ?_) fun _ _ => ?_)))))
        · exfalso
          simp only [Str.length] at q'
          omega
        rw [item_nat hcq]
        refine wpAny_pyReprObj_str (SB.field_str (fun t' k => ⟨_, _, rfl, small_line (by rw [Str.empty_append, len_app]; omega), ?_⟩) (small_line (by omega))) (small_line (by omega))
        refine Joins_nil ⟨small_line (by rw [Str.empty_append, len_app]; omega), ?_⟩
        rw [Str.empty_append]
        refine spliced_none ⟨fnAt48 G B'.stays, ?_⟩
        refine suffixed_err_spec (outer := ev 3 s.heap.objs.size 41 cd [] :: outer) G ?_ ?_ hx (show q < 100000 by omega) (by rw [len_app]; omega) fun s₅ h₅ e₅ tk₅ kp₅ made₅ g₅ o₅ => ?_
        · exact B'
        · show A.depth + 1 + 1 < recursionLimit
          omega
        · have X₅ : In s (frs outer) s.heap.objs.size [] _ { s₅ with heap := h₅ } := X'.ret B kp₅ g₅ o₅
          refine ⟨fun b o q => made₅.keeps b o ((bel_kp B X₅.kp).stays b o q), e₅, h₅, _, tk₅, rfl, made₅, fun hm' => ?_⟩
          refine leave_direct (E := E) B X' rfl rfl kp₅ hm' g₅ o₅ fun s' hr => herr s' e₅ _ ?_ hr
          unfold untilR
          rw [hne, if_neg (by decide), ← hnp, if_pos (show stopAt x p _ < np from hst)]
          have hq : stopAt x p (fun c => decide (c ∈ cs)) = q := hs.symm.trans hstop
          rw [hq]
          unfold foundText
          rw [hcq]
          rfl
      · have hstep := skipTo_step (P := fun c => !decide (c ∈ cs)) hcq (by simp [hin])
        have hge' := skipTo_ge x.cps.toList (fun c => !decide (c ∈ cs)) (q + 1)
        simp only [hin, decide_false, Bool.not_false, if_true]
        refine wpAny_execs_cons (wpAny_AugAssign_Name (ldnE (X'.toks _) rfl (wpAny_Constant_int (PySem.P.iadd_int (stE (X'.toks _) fun s₄ X₄ => wpAny_execs_nil ?_)))))
        exact ⟨_, by omega, q + 1, _, X₄, by rw [← hstep, hs], rfl⟩
    · rw [decide_eq_false hst, if_neg (by decide)]
      refine wpAny_execs_nil (wpAny_execs_cons (wpAny_Return_some (ldE X₃ rfl ?_)))
      refine hok _ t np ?_ X₃.kp X₃.gens X₃.os
      unfold untilR
      rw [hne, if_neg (by decide), ← hnp, if_neg (show ¬ stopAt x p _ < np from hst)]
  refine wpAny_execs_cons (wpAny_Try_except ?_)
  cases hfa : firstAt x y p with
  | some k =>
    obtain ⟨r, hocc⟩ : ∃ r, occurrences x y p x.length 1 = k :: r := by
      unfold firstAt at hfa
      cases ho : occurrences x y p x.length 1 with
      | nil => rw [ho] at hfa; cases hfa
      | cons a r => rw [ho] at hfa; cases hfa; exact ⟨r, rfl⟩
    have hk : k ≤ x.cps.size := by
      rcases firstAt_spec x y p with ⟨h0, _⟩ | ⟨i, h0, _, hAt, _⟩
      · rw [hfa] at h0; cases h0
      · rw [hfa] at h0; cases h0; have := hAt.1; simp only [Str.length] at this; omega
    refine wpAny_execs_cons (wpAny_Assign_Name (str_method PySem.F.slot_str_index PySem.F.type_str_index PySem.F.entry_str_index (ldE X rfl ⟨x, tx, rfl, ?_⟩)))
    refine spliced_more (ldE X rfl (spliced_more (ldE X rfl (spliced_none ⟨PySem.F.args_str_index_3 _ _ _, _, (gives_index_from x y _ _ _ _ k r ?_).meets, ?_⟩))))
    · rw [fromIndex_nat]; exact hocc
    · refine stE (X.toks _) fun s₂ X₂ => wpAny_execs_nil (wpAny_execs_nil ?_)
      exact fin _ k _ X₂ (by rw [hfa]; rfl) hk (by rw [hfa]; rfl)
  | none =>
    have hocc : occurrences x y p x.length 1 = [] := by
      unfold firstAt at hfa
      cases ho : occurrences x y p x.length 1 with
      | nil => rfl
      | cons a r => rw [ho] at hfa; cases hfa
    refine wpAny_execs_cons (wpAny_Assign_Name (str_method PySem.F.slot_str_index PySem.F.type_str_index PySem.F.entry_str_index (ldE X rfl ⟨x, tx, rfl, ?_⟩)))
    refine spliced_more (ldE X rfl (spliced_more (ldE X rfl (spliced_none ⟨PySem.F.args_str_index_3 _ _ _, _, raises_index_from x y _ _ _ _ ?_, hA, fun h' tk e hx' => ?_⟩))))
    · rw [fromIndex_nat]; exact hocc
    · refine hit_new (T' := "ValueError") G (bel_deep B X) rfl hx' PySem.F.isExc_ValueError PySem.F.notTuple_ValueError (by rw [isSubtype_type]; kernel_rfl) ?_ rfl rfl rfl rfl rfl (by decide)
      intro h₃ oe kp hh hvs
      obtain ⟨hf1, hf2⟩ := In.fresh B X hx'.new
      have X₃ : In s (frs outer) s.heap.objs.size [(e, oe)] _ { s₁ with heap := h₃, toks := tk } := In.hold (X.ret B kp rfl rfl) hh.2.2.2.1 hf1 hf2
      have B₃ := bel_deep (env := ev 3 s.heap.objs.size 41 cd []) B X₃
      refine wpAny_execs_cons (wpAny_Assign_Name (len_call G B₃.stays (ldE X₃ rfl ⟨x, tx, rfl, by simp only [Str.length]; omega, fun t' k => stE (X₃.toks _) fun s₄ X₄ => ?_⟩)))
      have B₄ := bel_deep (env := ev 3 s.heap.objs.size 41 cd []) B X₄
      refine wpAny_execs_cons (wpAny_If (isTrue_plain (ldE X₄ rfl (wpAny_truthy_bool ?_))))
      cases eof with
      | false =>
        rw [if_neg (by decide)]
        refine wpAny_execs_nil (wpAny_execs_nil ?_)
        exact fin _ x.cps.size _ (X₄.less fun p hp => nomatch hp) (by rw [hfa]; rfl) (Nat.le_refl _) (by rw [hfa]; rfl)
      | true =>
        rw [if_pos rfl]
        have he : (Str.ofString "Expected ").length = 9 := by decide
        refine wpAny_execs_cons (raise_from_none (hd := e) G rfl ?_)
        refine Call_Name rfl (ldG G B₄.stays rfl (callWith_F (fnAt48 G B₄.stays) (spliced_more (ldE X₄ rfl (spliced_more (ldE X₄ rfl (spliced_more (wpAny_JoinedStr ?_))))))))
        refine Joins_cons (wpAny_Constant_str ⟨_, _, rfl, small_line (by rw [Str.empty_append, he]; omega), ?_⟩)
        refine Joins_cons (wpAny_FormattedValue_repr (ldE (X₄.toks _) rfl (wpAny_pyReprObj_str (SB.field_str (fun t' k => ⟨_, _, rfl, small_line (by rw [Str.empty_append, len_app]; omega), ?_⟩) (small_line (by omega))) (small_line (by omega)))))
        refine Joins_nil ⟨small_line (by rw [Str.empty_append, len_app]; omega), ?_⟩
        rw [Str.empty_append]
        refine spliced_none ⟨fnAt48 G B₄.stays, ?_⟩
        refine suffixed_err_spec (outer := ev 3 s.heap.objs.size 41 cd [] :: outer) G ?_ ?_ hx (show x.cps.size < 100000 by omega) (by rw [len_app]; omega) fun s₅ h₅ e₅ tk₅ kp₅ made₅ g₅ o₅ => ?_
        · exact bel_mark B₄ _
        · show A.depth + 1 + 1 < recursionLimit
          omega
        · have X₅ : In s (frs outer) s.heap.objs.size [(e, oe)] _ { s₅ with heap := h₅ } := X₄.ret B kp₅ g₅ o₅
          obtain ⟨vs, hv1, hv2⟩ := hvs
          refine ⟨fun b o q => made₅.keeps b o ((bel_kp B X₅.kp).stays b o q), e₅, h₅, _, tk₅, rfl, made₅, ⟨oe, vs, X₅.get (.head _), hv1, hv2⟩, fun h' hm' => ?_⟩
          refine leave_handled (E := E) B X₄ rfl rfl kp₅ hm' g₅ o₅ fun s' hr => herr s' e₅ _ ?_ hr
          unfold untilR
          rw [hfa]
          rfl
end
end Mine

end

section -- part 17
open PySem PySem.W PyProof.Rows PySem.Calls
open PySem.Builtin PySem.Builtin.Str PySem.Builtin.BaseException PySem.Builtin.Exceptions
set_option maxRecDepth 100000
set_option linter.unusedVariables false
namespace Mine

section
variable {prog : Program} {w : World} {A : Around} {E : Value → Shared → Prop} {s : Shared} {e t0 : Addr} {gr : Heap}

def OwnExc (h : Heap) (e t0 : Addr) : Prop := ∃ o vs, h.get? e = some o ∧ o.cls = .ref 24 ∧ o.data = .fields vs ∧ vs[0]? = some (.ref t0)

theorem own_bexcArgs {M : Model} {items : List Value} {Q : Value × List Value → Shared → Prop} (x : OwnExc s.heap e t0) (ht : s.heap.TupAt t0 items) (hq : Q (.ref t0, items) s) :
    wpAny M A (bexcArgs (.ref e)) Q E s := by
  obtain ⟨_, _, ho, _, hd, h0⟩ := x
  obtain ⟨_, _, hto, _, htd⟩ := ht
  exact wpAny_bind (wpAny_field ho hd h0 (wpAny_bind (wpAny_seqItems hto htd (wpAny_pure (by simpa using hq)))))

theorem own_check_str {M : Model} {Q : Unit → Shared → Prop} (G : Gnd gr) (st : gr.StaysIn s.heap) (x : OwnExc s.heap e t0) (hq : Q () s) :
    wpAny M A (checkBuiltinCall "BaseException.__str__" ⟨[.ref e], []⟩) Q E s := by
  obtain ⟨nm, q, bs, hdct, sn, sub, ab, col, dd, k0, k1, k2, k3, k5, mN, hC, hN, hni, _⟩ := G.err
  obtain ⟨o, vs, hx, hc, _⟩ := x
  obtain ⟨h, g, d, tk, os⟩ := s
  have hC' := st _ _ hC
  have hk : builtinKind "BaseException.__str__" = some .slot := by decide +kernel
  have hsplit : splitId "BaseException.__str__" = some ("BaseException", "__str__") := by decide +kernel
  have hcB : (Value.ref 24 :: excBm).contains (.type "BaseException") = true := by decide
  have ha := PySem.F.args_bexc_str (.ref e)
  simp only [checkBuiltinCall, hk, hsplit]
  refine wpAny_bind ?_
  unfold isInstance
  repeat (first | (with_reducible refine wpAny_loadPart_at hx ?_; rw [hc]) | (with_reducible refine wpAny_isSubtype_exc hC' ?_; rw [hcB]) | wp_step)
  exact hq

theorem own_call_str {m : Str} {tk : Tok} {Q : Value → Shared → Prop} (G : Gnd gr) (st : gr.StaysIn s.heap) (x : OwnExc s.heap e t0) (ht : s.heap.TupAt t0 [.str m tk]) (hq : Q (.str m tk) s) :
    wpAny (model prog w) A (call (.builtin "BaseException.__str__") [.ref e]) Q E s := by
  refine wpAny_call (codeAny_call_builtin PySem.F.excStr_ValueError.str.plain PySem.F.entry_bexc_str (own_check_str G st x ?_))
  unfold Builtin.«BaseException.__str__»
  repeat (first | with_reducible refine own_bexcArgs x ht ?_ | wp_step)
  exact hq

theorem own_strOf {m : Str} {tk : Tok} {Q : Value → Shared → Prop} (G : Gnd gr) (st : gr.StaysIn s.heap) (hu : A.units < cLine) (x : OwnExc s.heap e t0) (ht : s.heap.TupAt t0 [.str m tk]) (hq : Q (.str m tk) s) :
    wpAny (model prog w) A (strOf (.ref e)) Q E s := by
  have sp : ∀ {Q' : Option Value → Shared → Prop} {A' : Around}, Q' (some (.str m tk)) s → wpAny (model prog w) A' (callSpecial? (.ref e) "__str__") Q' E s := by
    intro Q' A' h'
    have hcall := fun {Q : Value → Shared → Prop} (hq : Q (.str m tk) s) => own_call_str (prog := prog) (w := w) (A := A') (E := E) G st x ht hq
    obtain ⟨nm, q, bs, hdct, sn, sub, ab, col, dd, k0, k1, k2, k3, k5, mN, hC, hN, hni, hns, _⟩ := G.err
    obtain ⟨o, vs, hx, hc, _⟩ := x
    obtain ⟨h, g, d, tk', os⟩ := s
    have hC' := st _ _ hC
    have hN' : h.Ns 23 mN := hN.keeps st
    simp only [callSpecial?, specialOf]
    refine wpAny_bind (wpAny_bind ?_)
    refine wpAny_typeOf_ref hx ?_
    rw [hc]
    refine wpAny_typeLookup_exc hC' hN' (B := "ValueError") (by rfl) PySem.F.excStr_ValueError.str.lookup ?_
    rw [hns]
    simp only [PySem.F.excStr_ValueError.str.bind]
    exact wpAny_holding (wpAny_bind (wpAny_pure (wpAny_bind (hcall (wpAny_pure h')))))
  unfold PySem.Builtin.Str.strOf
  repeat (first | with_reducible refine wpAny_cRoomFor hu ?_ | with_reducible refine sp ?_ | wp_step)
  exact hq

theorem own_str {m : Str} {tk : Tok} {Q : Value → Shared → Prop} (G : Gnd gr) (st : gr.StaysIn s.heap) (hu : A.units + 2 < cLine) (x : OwnExc s.heap e t0) (ht : s.heap.TupAt t0 [.str m tk]) (h : Q (.str m tk) s) :
    wpAny (model prog w) A (call (.type "str") [.ref e]) Q E s :=
  callType_new PySem.F.called_str (by decide) (PySem.F.typeCall_str_1 _) (PySem.F.newCall_str_1 _) (fun obj => PySem.F.args_object_init_2 obj _) PySem.F.entry_str_new
    (meets_str_new (S := fun A' R s' => A'.units + 1 < cLine ∧ gr.StaysIn s'.heap ∧ OwnExc s'.heap e t0 ∧ s'.heap.TupAt t0 [.str m tk] ∧ R (.ok (.ret (.str m tk))) s')
      fun _ _ A' _ _ hq => own_strOf (A := A'.in1) G hq.2.1 hq.1 hq.2.2.1 hq.2.2.2.1 hq.2.2.2.2)
    ⟨(show A.units + 1 + 1 < cLine from hu), st, x, ht, typeIs_str _ _ _, h⟩
end
end Mine

end

section -- part 18
open PySem PySem.W PyProof.Rows PySem.Calls
open PySem.Builtin PySem.Builtin.Str
set_option maxRecDepth 100000
set_option linter.unusedVariables false
namespace Mine

/-- where a call may stand -/
structure Amb (A : Around) (n : Nat) : Prop where
  handled : A.handled = none
  room : A.depth + n < recursionLimit
  units : A.units + 3 * n < 9000
theorem Amb.deeper {A : Around} {n : Nat} (x : Amb A (n + 1)) (env : Env) : Amb (A.deeper env) n := ⟨x.handled, by
  show A.depth + 1 + n < recursionLimit
  have := x.room; omega, by
  show A.units + 3 + 3 * n < 9000
  have := x.units; omega⟩
theorem Amb.le {A : Around} {n m : Nat} (x : Amb A n) (h : m ≤ n) : Amb A m := ⟨x.handled, by have := x.room; omega, by have := x.units; omega⟩

theorem In.but {s₀ s : Shared} {fs : List Addr} {L : Addr} {own : List (Addr × Obj)} {l : List (Str × Value)} (X : In s₀ fs L own l s) {h' : Heap} (hs : Heap.SameBut L s.heap h') : Kp fs s₀.heap h' := by
  have h43 : 43 ≠ L := Ne.symm X.l43
  refine ⟨fun b o e n => ?_, fun b o e n => ?_, fun q => (X.kp.tab q).upd (Ne.symm h43) (notCode_ns X.ns) fun b o n e => (hs.2 b n).trans e⟩
  · have hb : b ≠ L := Nat.ne_of_lt (Nat.lt_of_lt_of_le (Heap.lt_size e) X.lt)
    exact (hs.2 b hb).trans (X.kp.same b o e n)
  · have hb : b ≠ L := Nat.ne_of_lt (Nat.lt_of_lt_of_le (Heap.lt_size e) X.lt)
    obtain ⟨sl, h⟩ := X.kp.ups b o e n
    exact ⟨sl, (hs.2 b hb).trans h⟩

def Told : Nat ⊕ Str → Value → Prop
  | .inl m, v => ∃ t, v = .int (m : Nat) t
  | .inr m, v => ∃ t, v = .str m t

section
variable {M : Model} {A : Around} {E : Value → Shared → Prop} {s : Shared} {env : Env} {pos : Pos} {first : List Value} {Q : Value → Shared → Prop} {q : Addr}
theorem callWith_FKW {e : Expr} {rest : List Expr} {kws : List Keyword} (hall : (backToKw pos (keywordEach kws env)).all (·.1.isSome) = true)
    (h : wpAny M A (spliced (backTo pos (starEach (e :: rest) env))) (fun vs s₁ => wpAny M A (evalAll ((backToKw pos (keywordEach kws env)).map (·.2)))
      (fun ks s₂ => PySem.W.FnAt q s₂.heap ∧ wpAny M A (call (.ref q) (first ++ vs) (((backToKw pos (keywordEach kws env)).filterMap (·.1)).zip ks)) Q E s₂) E s₁) E s)
    (hplain : ((backTo pos (starEach (e :: rest) env)).any (·.1) || (backToKw pos (keywordEach kws env)).any (·.1.isNone)) = false := by rfl) (he : starEach (e :: rest) env = (false, eval e env) :: starEach rest env := by rfl) :
    wpAny M A (callWith pos (.ref q) first (backTo pos (starEach (e :: rest) env)) (backToKw pos (keywordEach kws env))) Q E s :=
  callWith_of hplain keeps_F (evalArgs_kw2 hall h he)
end

section
variable {prog : Program} {w : World} {A : Around} {E : Value → Shared → Prop} {s : Shared} {gr : Heap} {outer : List Env} {Q : Value → Shared → Prop}

theorem Raised.land {h' : Heap} {s' : Shared} {h₁ : Heap} {env' : Env} {L : Addr} {own : List (Addr × Obj)} {l : List (Str × Value)} (B : Bel A gr outer s.heap) (X₁ : In s (frs outer) L own l { s' with heap := h₁ })
    (hf : env'.frame = some L) (hk : env'.scope.kind = .function) (st : (hideAll h₁ (framesOf (env' :: outer))).StaysIn h') (up : h₁.UpToSlots h') : Kp (frs outer) s.heap h' := by
  have B₁ := bel_deep B X₁ hf hk
  have kp := kp_of_stations B₁.frames B₁.tabok st up
  exact (X₁.ret (s' := { s' with heap := h' }) B kp rfl rfl hf).kp

theorem law_until_spec (G : Gnd gr) (B : Bel A gr outer s.heap) (hA : Amb A 4) {x y z : Str} {tx tp ty tz : Tok} {p : Nat} {eof : Bool}
    (hx : x.cps.size < 100) (hp : p < 10000) (hy : (reprText y).length < 500) (hc : ∀ c ∈ x.cps.toList, c < 128) (hz : z.cps.size < 100)
    (hok : ∀ s' v, Told (untilR x y p (fun c => decide (c ∈ z.cps.toList)) eof) v → Kp (frs outer) s.heap s'.heap → s'.gens = s.gens → s'.os = s.os → Q v s') :
    wpAny (model prog w) A (call (.ref 69) [.str x tx, .int p tp, .str y ty, .str z tz, .bool eof]) Q E s := by
  refine enter (n := 8) (binds := [("text", .str x tx), ("place", .int p tp), ("sought", .str y ty), ("barred", .str z tz), ("end_is_error", .bool eof)]) G B (by have := hA.room; omega) (by decide) (fun pm cd => rfl) ?_
  intro s₁ cd X
  have B₁ := bel_deep (env := ev 8 s.heap.objs.size 69 cd []) B X
  have hA₁ : Amb (A.deeper (ev 8 s.heap.objs.size 69 cd [])) 3 := hA.deeper _
  refine wpAny_execs_cons (wpAny_Try_except ?_)
  refine wpAny_execs_cons (wpAny_Return_some ?_)
  refine wpAny_Call_Name_kw (ldG G B₁.stays rfl (callWith_FKW rfl (spliced_more (ldE X rfl (spliced_more (ldE X rfl (spliced_more (ldE X rfl (spliced_none ?_)))))))))
  refine kwAll_cons (Call_Name1 (ldB G B₁.stays rfl (PySem.callWith_type1 (ldE X rfl (fz_new hA₁.handled (by omega) fun h' tk hk hF => ?_)))))
  have X₂ : In s (frs outer) s.heap.objs.size [] _ { s₁ with heap := h', toks := tk } := X.grow hk
  have B₂ := bel_deep (env := ev 8 s.heap.objs.size 69 cd []) B X₂
  refine kwAll_cons (ldE X₂ rfl (kwAll_nil ⟨fnAtW G B₂.stays (n := 3) (by decide), ?_⟩))
  refine skip_until_spec (outer := ev 8 s.heap.objs.size 69 cd [] :: outer) (cs := z.cps.toList) (n := z.cps.size) G B₂ hA₁.handled (by have := hA₁.room; omega) (by omega) hp hy hc hF (by omega) ?_ ?_ ?_
  · intro hm
    obtain ⟨o, ho⟩ := frs_lt B₁ _ hm
    exact Nat.lt_irrefl _ (Heap.lt_size ho)
  · intro s' t m hr kp hg ho
    have X' : In s (frs outer) s.heap.objs.size [] _ s' := X₂.ret B kp hg ho
    refine hok s' _ ?_ X'.kp X'.gens X'.os
    rw [hr]
    exact ⟨t, rfl⟩
  · rintro s' e m hr ⟨env', L', own', l', h₁, t, tk', X₃, hf', hk', hfl, htup, up⟩
    refine wpAny_looks_onW B₁.stack rfl hfl fun h₂ hh₂ up₂ => ?_
    refine wpAny_landsW hh₂ fun h₃ hfl₃ up₃ => ?_
    refine wpAny_handleBy_cons (codeAny_handlers_test ?_) (by intro q; cases q)
    have kp₃ := Raised.land (s := { s₁ with heap := h', toks := tk }) B₂ X₃ hf' hk' hfl₃.1 ((up.trans up₂).trans up₃)
    have B₃ : Bel (A.deeper (ev 8 s.heap.objs.size 69 cd [])) gr (ev 8 s.heap.objs.size 69 cd [] :: outer) h₃ := bel_kp B₂ kp₃
    refine ldG G B₃.stays rfl ?_
    obtain ⟨nm, q, bs, hdct, sn, sub, ab, col, dd, k0, k1, k2, k3, k5, mN, hC, hN, hni, _⟩ := G.err
    obtain ⟨oe, hoe, hoc⟩ := hfl₃.there
    refine wpAny_excMatches_sub_self (B₃.stays _ _ hC) hoe hoc (by decide) ?_
    refine codeAny_handlers_suite_as ?_
    refine lands_againW hfl₃ fun h₄ hfl₄ up₄ => ?_
    have kp₄ := Raised.land (s := { s₁ with heap := h', toks := tk }) B₂ X₃ hf' hk' hfl₄.1 (((up.trans up₂).trans up₃).trans up₄)
    have X₄ : In s (frs outer) s.heap.objs.size [] _ { s' with heap := h₄ } := X₂.ret B kp₄ X₃.gens X₃.os
    refine stS X₄ fun s₅ X₅ sb => ?_
    have B₅ := bel_deep (env := ev 8 s.heap.objs.size 69 cd []) B X₅
    refine wpAny_execs_cons (wpAny_Return_some (Call_Name1 (ldB G B₅.stays rfl (PySem.callWith_type1 (ldE X₅ rfl ?_)))))
    obtain ⟨f1, f2, f3, f4⟩ := hfl₄
    obtain ⟨oe', vs, T, oT, ts, he, hcls, hd, h1, hnT, hTe, hT, hdT, h3⟩ := f4
    have htup₄ := ((htup.of_slots up₂).of_slots up₃).of_slots up₄
    have hgone : ∀ b o, h₄.get? b = some o → (∀ m, ¬ h₄.Ns b m) → s₅.heap.get? b = some o := fun b o hb hn => (sb.2 b fun q => hn _ (q ▸ X₄.ns)).trans hb
    have notNs : ∀ b o, h₄.get? b = some o → (∀ es ep, o.data ≠ .dict es ep) → ∀ m, ¬ h₄.Ns b m := fun b o hb hn m hN => by
      obtain ⟨o', es, ep, e', hd', _⟩ := hN
      rw [hb] at e'; cases e'; exact hn _ _ hd'
    refine own_str (e := e) (t0 := t) (m := m) (tk := tk') G B₅.stays ?_ ⟨oe', vs, hgone e oe' he (notNs e oe' he fun es ep q => by rw [hd] at q; cases q), hcls.1, hd, hcls.2⟩ ?_ ?_
    · show A.units + 3 + 2 < cLine
      have := hA.units
      unfold cLine
      omega
    · obtain ⟨ot, k, hto, htc, htd⟩ := htup₄
      exact ⟨ot, k, hgone t ot hto (notNs t ot hto fun es ep q => by rw [htd] at q; cases q), htc, htd⟩
    · refine wpAny_nameGoes rfl X₅.ns rfl fun h₆ m₆ hn₆ sb₆ => ?_
      refine hok _ _ (by rw [hr]; exact ⟨_, rfl⟩) ?_ X₅.gens X₅.os
      exact X₅.but sb₆
end
end Mine

end

section -- part 19
open PySem PySem.W PyProof.Rows PySem.Calls
open PySem.Builtin PySem.Builtin.Str
set_option maxRecDepth 100000
set_option linter.unusedVariables false
namespace Mine

theorem lkp_same (x : Str) (v : Value) (l : List (Str × Value)) : lk (put x v l) x = some v := by rw [← lk_put]; simp
theorem lkp_ne {x y : Str} {v : Value} {u : Option Value} {l : List (Str × Value)} (e : lk l y = u) (h : y ≠ x := by decide) : lk (put x v l) y = u := by rw [← lk_put]; simp [h, e]

/-- an iterator that a loop holds -/
structure Wk (prog : Program) (w : World) (A : Around) (I : Addr) (fp : List Addr) (n : Nat) (P : Nat → Value → Prop) (St : Nat → Heap → Prop) : Prop extends Walks prog w A I fp [I] n P St where
  at' : ∀ i h, St i h → ∃ o, h.get? I = some o ∧ ∀ vs q t, o.data = .fields vs → vs[1]? ≠ some (.str q t)

theorem In.drop {s₀ s : Shared} {fs : List Addr} {L I : Addr} {oI : Obj} {own : List (Addr × Obj)} {l : List (Str × Value)} (X : In s₀ fs L ((I, oI) :: own) l s) (hne : ∀ p ∈ own, p.1 ≠ I) {h' : Heap} {t : Nat} (hs : ∀ b ob, b ≠ I → s.heap.get? b = some ob → h'.get? b = some ob)
    (hno : ∀ vs q t, oI.data = .fields vs → vs[1]? ≠ some (.str q t)) : In s₀ fs L own l { s with heap := h', toks := t } := by
  obtain ⟨h1, h2, h3⟩ := X.own _ (.head _)
  have h43 : I ≠ 43 := fun q => by obtain ⟨_, e⟩ := X.t43; rw [← q, h2] at e; cases e
  have hnc : NotCode s.heap I := fun ob vs q t e hd => by
    have e' : s.heap.get? I = some oI := h1
    rw [e] at e'; cases e'; exact hno vs q t hd
  refine ⟨X.ns.at' fun o e => hs L o (Ne.symm h3) e, ⟨fun b ob e n => ?_, fun b ob e n => ?_, fun q => (X.kp.tab q).upd h43 hnc hs⟩, X.lt, fun p hp => ⟨hs p.1 _ (hne p hp) (X.own p (.tail _ hp)).1, (X.own p (.tail _ hp)).2⟩, X.gens, X.os, X.t43⟩
  · have hb : b ≠ I := fun q => by rw [q, h2] at e; cases e
    exact hs b _ hb (X.kp.same b ob e n)
  · have hb : b ≠ I := fun q => by rw [q, h2] at e; cases e
    obtain ⟨sl, h⟩ := X.kp.ups b ob e n
    exact ⟨sl, hs b _ hb h⟩

section
variable {prog : Program} {w : World} {A : Around} {E : Value → Shared → Prop} {s₀ s : Shared} {fs : List Addr} {env : Env} {L I : Addr} {oI : Obj} {own : List (Addr × Obj)} {l : List (Str × Value)}

theorem loop_in {x : Str} {px : Pos} {body : List Stmt} {R : Result → Shared → Prop} {fp : List Addr} {n : Nat} {P : Nat → Value → Prop} {St : Nat → Heap → Prop} (W : Wk prog w A I fp n P St)
    (X : In s₀ fs L ((I, oI) :: own) l s) (hI : ∀ p ∈ own, p.1 ≠ I) (hst : St 0 s.heap) (hfp : ∀ b ∈ fp, b = I ∨ (∃ o, (b, o) ∈ own) ∨ ∃ o, s₀.heap.get? b = some o ∧ b ∉ fs)
    (J : Nat → List (Addr × Obj) → List (Str × Value) → Prop) (h0 : J 0 own l)
    (step : ∀ i v own₁ l₁ oI₁ s₁, i < n → P i v → J i own₁ l₁ → (∀ p ∈ own, p ∈ own₁) → (∀ p ∈ own₁, p.1 ≠ I) → In s₀ fs L ((I, oI₁) :: own₁) (put x v l₁) s₁ →
      wpAny (model prog w) A (execs body env) (fun f s₂ => match f with
        | .next | .cont => ∃ own₂ l₂, In s₀ fs L ((I, oI₁) :: own₂) l₂ s₂ ∧ (∀ p ∈ own, p ∈ own₂) ∧ (∀ p ∈ own₂, p.1 ≠ I) ∧ J (i + 1) own₂ l₂
        | .brk => R (.ok .next) s₂
        | .ret v => R (.ok (.ret v)) s₂) (notedBy (model prog w) A env fun e s' => R (.error e) s') s₁)
    (hR : ∀ own₁ l₁ s₁, In s₀ fs L own₁ l₁ s₁ → (∀ p ∈ own, p ∈ own₁) → J n own₁ l₁ → R (.ok .next) s₁)
    (hL : env.locals = L := by rfl) (hk : env.scope.kind = .function := by rfl) (hx : env.kindOf x = some .local := by rfl) :
    codeAny (model prog w) A (.forLoop (.Name x px) (.ref I) body [] env) R s := by
  refine codeAny_forLoop (fun k s' => ∃ i own₁ l₁ oI₁, In s₀ fs L ((I, oI₁) :: own₁) l₁ s' ∧ St i s'.heap ∧ J i own₁ l₁ ∧ (∀ p ∈ own, p ∈ own₁) ∧ (∀ p ∈ own₁, p.1 ≠ I) ∧ i ≤ n ∧ k = n + 1 - i) ?_ (n + 1) ⟨0, own, l, oI, X, hst, h0, fun _ h => h, hI, Nat.zero_le _, rfl⟩
  rintro k s' ⟨i, own₁, l₁, oI₁, X', hst', hJ, hsub, hne, hi, rfl⟩
  obtain ⟨o, ho, hno⟩ := W.at' i _ hst'
  have hoe : o = oI₁ := by rw [X'.get (.head _)] at ho; exact (Option.some.inj ho).symm
  subst hoe
  by_cases hlt : i < n
  · refine W.item i s' _ _ hlt hst' fun v h₁ tk₁ hPv hst₁ hk₁ => ?_
    obtain ⟨o₂, ho₂, hno₂⟩ := W.at' (i + 1) _ hst₁
    have X₁ : In s₀ fs L ((I, o₂) :: own₁) l₁ { s' with heap := h₁, toks := tk₁ } := X'.upd hne ho₂ (fun b ob hb e => hk₁ b ob (by simpa using hb) e) hno
    refine wpAny_assign_Name (stE X₁ (fun s₂ X₂ => ?_) hL hk hx)
    refine wpAny_mono (step i v own₁ l₁ o₂ s₂ hlt hPv hJ hsub hne X₂) (fun f s₃ h₃ => ?_) fun _ _ e => e
    have fin : (∃ own₂ l₂, In s₀ fs L ((I, o₂) :: own₂) l₂ s₃ ∧ (∀ p ∈ own, p ∈ own₂) ∧ (∀ p ∈ own₂, p.1 ≠ I) ∧ J (i + 1) own₂ l₂) →
        ∃ m, m < n + 1 - i ∧ ∃ i own₁ l₁ oI₁, In s₀ fs L ((I, oI₁) :: own₁) l₁ s₃ ∧ St i s₃.heap ∧ J i own₁ l₁ ∧ (∀ p ∈ own, p ∈ own₁) ∧ (∀ p ∈ own₁, p.1 ≠ I) ∧ i ≤ n ∧ m = n + 1 - i := by
      rintro ⟨own₂, l₂, X₃, hs₂, hn₂, hJ₂⟩
      refine ⟨n + 1 - (i + 1), by omega, i + 1, own₂, l₂, o₂, X₃, W.frame _ _ _ hst₁ fun b hb ob e => ?_, hJ₂, hs₂, hn₂, hlt, rfl⟩
      rcases hfp b hb with rfl | ⟨oo, hoo⟩ | ⟨oo, hoo, hnf⟩
      · rw [ho₂] at e; cases e; exact X₃.get (.head _)
      · rw [X₁.get (.tail _ (hsub _ hoo))] at e; cases e; exact X₃.get (.tail _ (hs₂ _ hoo))
      · rw [X₁.old hoo hnf] at e; cases e; exact X₃.old hoo hnf
    cases f with
    | next => exact fin h₃
    | cont => exact fin h₃
    | brk => exact h₃
    | ret v => exact h₃
  · have hin : i = n := by omega
    subst hin
    refine W.done s' _ _ hst' fun h₁ tk₁ hk₁ => wpAny_execs_nil ?_
    exact hR own₁ l₁ _ (X'.drop hne (fun b ob hb e => hk₁ b ob (by simpa using hb) e) hno) hsub hJ
end

theorem wk_str {prog : Program} {w : World} {A : Around} {x : Str} {t : Tok} {ty : String} {I : Addr} (W : Walks prog w A I [I] [I] x.cps.size (SignAt x) (fun i h => h.IsStrIter I ty x t i)) : Wk prog w A I [I] x.cps.size (SignAt x) (fun i h => h.IsStrIter I ty x t i) :=
  ⟨W, fun i h hi => by
      obtain ⟨o, ho, hc, hd⟩ := hi
      refine ⟨o, ho, fun vs q t e => ?_⟩
      rw [hd] at e; cases e
      simp⟩
theorem wk_range {prog : Program} {w : World} {A : Around} (hh : A.handled = none) (I : Addr) (a c : Int) (n : Nat) : Wk prog w A I [I] n (fun i v => ∃ t, v = .int (a + i * c) t) (fun i h => IsRangeIter h I (a + (i : Nat) * c) ((n : Int) - (i : Nat)) c) :=
  ⟨Walks.range hh I a c n, fun i h hi => ⟨_, hi, fun vs q t e => by cases e; simp [rawInt]⟩⟩
theorem wk_tuple {prog : Program} {w : World} {A : Around} (hh : A.handled = none) (I ax : Addr) (hne : ax ≠ I) (items : Array Value) : Wk prog w A I [I, ax] items.size (fun i v => items[i]? = some v) (fun i h => h.IsTupleIter I ax i ∧ h.IsTuple ax items) :=
  ⟨Walks.tuple hh I ax hne items, fun i h hi => by
      obtain ⟨⟨o, ho, hc, hd⟩, _⟩ := hi
      refine ⟨o, ho, fun vs q t e => ?_⟩
      rw [hd] at e; cases e
      simp⟩

section
variable {prog : Program} {w : World} {A : Around} {E : Value → Shared → Prop} {s : Shared}
theorem iter_str {x : Str} {t : Tok} {Q : Value → Shared → Prop}
    (hQ : ∀ (o : Obj) (St : Nat → Heap → Prop), (∀ A' : Around, A'.handled = none → Wk prog w A' s.heap.objs.size [s.heap.objs.size] x.cps.size (SignAt x) St) → o.isFreed = false → St 0 (s.heap.push o) →
      Q (.ref s.heap.objs.size) { s with heap := s.heap.push o }) : wpAny (model prog w) A (pyIter (.str x t)) Q E s := by
  cases ha : x.cps.all (· < 128)
  · exact wpAny_pyIter_wide ha (hQ _ _ (fun A' hA => wk_str (Walks.strWide hA _ x t)) rfl ⟨_, Heap.get?_push_size _ rfl, rfl, rfl⟩)
  · exact wpAny_pyIter_ascii ha (hQ _ _ (fun A' hA => wk_str (Walks.strAscii hA _ x t)) rfl ⟨_, Heap.get?_push_size _ rfl, rfl, rfl⟩)

theorem str_int_call {n : Nat} {t : Tok} {Q : Value → Shared → Prop} (hn : n < 1000000) (h : ∀ t' k, Q (.str (toString (n : Int) : Str) t') { s with toks := k }) : wpAny (model prog w) A (call (.type "str") [.int (n : Int) t]) Q E s := PySem.P.str_of_int (small_log hn) (h _ _)
end

def atText (x : Str) (p : Nat) : Str := ("(at " : Str) ++ coordText x p ++ (")" : Str)

section
variable {prog : Program} {w : World} {A : Around} {E : Value → Shared → Prop} {s : Shared} {gr : Heap} {outer : List Env} {Q : Value → Shared → Prop}

theorem law_at_spec (G : Gnd gr) (B : Bel A gr outer s.heap) (hA : Amb A 2) {x : Str} {tx tp : Tok} {p : Nat} (hx : x.cps.size < 100) (hp : p < 10000)
    (hok : ∀ s' t, Kp (frs outer) s.heap s'.heap → s'.gens = s.gens → s'.os = s.os → Q (.str (atText x p) t) s') :
    wpAny (model prog w) A (call (.ref 62) [.str x tx, .int p tp]) Q E s := by
  refine enter (n := 7) (binds := [("text", .str x tx), ("place", .int p tp)]) G B (by have := hA.room; omega) (by decide) (fun pm cd => rfl) ?_
  intro s₁ cd X
  have st₁ := (bel_kp B X.kp).stays
  refine wpAny_execs_cons (wpAny_If (wpAny_isTrue_Compare1 (ldE X rfl (len_call G st₁ (ldE X rfl ⟨x, tx, rfl, by simp only [Str.length]; omega, fun t' k => ?_⟩)))))
  refine PySem.P.ge_int (wpAny_truthy_bool ?_)
  by_cases hge : x.cps.size ≤ p
  · rw [show decide ((p : Int) ≥ ((x.length : Nat) : Int)) = true from decide_eq_true (by simp only [Str.length]; omega), if_pos rfl]
    refine wpAny_execs_cons (wpAny_Return_some (wpAny_Constant_str ?_))
    have := hok { s₁ with toks := k + 1 } k X.kp X.gens X.os
    unfold atText coordText at this
    rw [if_pos hge] at this
    exact this
  · rw [show decide ((p : Int) ≥ ((x.length : Nat) : Int)) = false from decide_eq_false (by simp only [Str.length]; omega), if_neg (by decide)]
    refine wpAny_execs_nil ?_
    refine wpAny_execs_cons (wpAny_Assign_Name (wpAny_Constant_int (stE (X.toks _) fun s₂ X₂ => ?_)))
    refine wpAny_execs_cons (wpAny_Assign_Name (wpAny_Constant_int (stE (X₂.toks _) fun s₃ X₃ => ?_)))
    have hp' : p ≤ x.cps.size := by omega
    have hsub : (sub x 0 p).cps.toList = x.cps.toList.take p := by rw [sub_list]; simp
    have hsz : (sub x 0 p).cps.size = p := by rw [← Array.length_toList, hsub, List.length_take, Array.length_toList]; omega
    refine wpAny_execs_cons (wpAny_For (wpAny_Subscript_str_slice (ldE X₃ rfl (wpAny_pure (ldE X₃ rfl ⟨x, tx, none, some ((p : Int), tp), rfl, rfl, rfl, slice_post0 (small_line (by simp only [Str.length]; omega)) fun t' k => ?_⟩)))))
    refine iter_str fun o St hW hfr hst => ?_
    have X₃' : In s (frs outer) s.heap.objs.size [] _ { s₃ with heap := s₃.heap.push _, toks := k } := X₃.grow (h' := s₃.heap.push { cls := .type "slice", data := .fields #[.none, .int p tp, .none] }) (t := k) fun b ob e => Heap.get?_push_of_some _ e
    have X₄ := X₃'.grow1 (t := k) (o := o) (fun b ob e => Heap.get?_push_of_some o e) (Heap.get?_push_size _ hfr) (Nat.le_refl _)
    refine loop_in (hW _ hA.handled) X₄ (fun p hp => nomatch hp) hst (fun b hb => .inl (by simpa using hb))
      (fun i own₁ l₁ => own₁ = [] ∧ ∃ t₁ t₂, lk l₁ "line" = some (.int ((lineCol (x.cps.toList.take i)).1 : Nat) t₁) ∧ lk l₁ "column" = some (.int ((lineCol (x.cps.toList.take i)).2 : Nat) t₂)) ?_ ?_ ?_
    · exact ⟨rfl, _, _, rfl, rfl⟩
    · rintro i v own₁ l₁ oI₁ s₅ hi ⟨c, u, hc, rfl⟩ ⟨rfl, t₁, t₂, h1, h2⟩ - - X₅
      have hci : x.cps.toList[i]? = some c := by
        have : (sub x 0 p).cps.toList[i]? = some c := by rw [Array.getElem?_toList]; exact hc
        rw [hsub, List.getElem?_take_of_lt (by omega)] at this
        exact this
      have hsn : x.cps.toList.take (i + 1) = x.cps.toList.take i ++ [c] := by rw [List.take_add_one, hci]; rfl
      refine wpAny_execs_cons (wpAny_AugAssign_Name (ldnE X₅ (lkp_ne h2) (wpAny_Constant_int (PySem.P.iadd_int (stE (X₅.toks _) fun s₆ X₆ => ?_)))))
      refine wpAny_execs_cons (wpAny_If (wpAny_isTrue_Compare1 (ldE X₆ (lkp_ne (lkp_same _ _ _)) (wpAny_Constant_str (PySem.P.eq_str (wpAny_truthy_bool ?_))))))
      by_cases hc10 : c = 10
      · subst hc10
        rw [if_pos (by decide)]
        refine wpAny_execs_cons (wpAny_AugAssign_Name (ldnE (X₆.toks _) (lkp_ne (lkp_ne h1)) (wpAny_Constant_int (PySem.P.iadd_int (stE (X₆.toks _) fun s₇ X₇ => ?_)))))
        refine wpAny_execs_cons (wpAny_Assign_Name (wpAny_Constant_int (stE (X₇.toks _) fun s₈ X₈ => wpAny_execs_nil (wpAny_execs_nil ?_))))
        refine ⟨[], _, X₈, (fun _ h => h), (fun p hp => nomatch hp), rfl, ?_⟩
        rw [hsn, lineCol_snoc, if_pos rfl]
        exact ⟨_, _, lkp_ne (lkp_same _ _ _), lkp_same _ _ _⟩
      · rw [if_neg (by
          have : (Str.ofString "\n") = ⟨#[10]⟩ := by decide
          rw [this]; simp [hc10])]
        refine wpAny_execs_nil (wpAny_execs_nil ?_)
        refine ⟨[], _, X₆.toks _, (fun _ h => h), (fun p hp => nomatch hp), rfl, ?_⟩
        rw [hsn, lineCol_snoc, if_neg hc10]
        exact ⟨_, _, lkp_ne (lkp_ne h1), lkp_same _ _ _⟩
    · rintro own₁ l₁ s₅ X₅ - ⟨rfl, t₁, t₂, h1, h2⟩
      rw [hsz] at h1 h2
      have hpl : p ≤ x.cps.toList.length := by simpa using hp'
      obtain ⟨f1, f2, f3, f4⟩ := lineCol_facts x.cps.toList p hpl
      have hcnt : (x.cps.toList.take p).count 10 ≤ p := Nat.le_trans List.count_le_length (by rw [List.length_take]; omega)
      have st₅ := (bel_kp B X₅.kp).stays
      have g1 := nat_text (n := (lineCol (x.cps.toList.take p)).1) (by omega)
      have g2 := nat_text (n := (lineCol (x.cps.toList.take p)).2) (by omega)
      have g3 : (Str.ofString "(at line ").length = 9 := by decide
      have g4 : (Str.ofString ", column ").length = 9 := by decide
      have g5 : (Str.ofString ")").length = 1 := by decide
      refine wpAny_execs_cons (wpAny_Return_some (wpAny_BinOp (wpAny_BinOp (wpAny_BinOp (wpAny_BinOp (wpAny_Constant_str ?_))))))
      refine Call_Name1 (ldB G st₅ rfl (PySem.callWith_type1 (ldE (X₅.toks _) h1 (str_int_call (by omega) fun t' k => ?_))))
      refine SB.add (fun t' k => ?_) (small_line (by omega))
      refine wpAny_Constant_str (SB.add (fun t' k => ?_) (small_line (by rw [len_app]; omega)))
      refine Call_Name1 (ldB G st₅ rfl (PySem.callWith_type1 (ldE (X₅.toks _) h2 (str_int_call (by omega) fun t' k => ?_))))
      refine SB.add (fun t' k => ?_) (small_line (by rw [len_app, len_app]; omega))
      refine wpAny_Constant_str (SB.add (fun t' k => ?_) (small_line (by rw [len_app, len_app, len_app]; omega)))
      have := hok { s₅ with toks := k } t' X₅.kp X₅.gens X₅.os
      unfold atText coordText at this
      rw [if_neg hge] at this
      have e : Str.ofString "(at line " = Str.ofString "(at " ++ Str.ofString "line " := by decide
      rw [e]
      simp only [Str.append_assoc] at this ⊢
      exact this
end
end Mine

end

section -- part 20
open PySem PySem.W PyProof.Rows PySem.Calls
open PySem.Builtin PySem.Builtin.Str
set_option maxRecDepth 100000
set_option linter.unusedVariables false
namespace Mine

def signsL : List Nat := [97, 98, 35, 10, 32, 9, 39, 0]
def signsS : Str := ⟨signsL.toArray⟩

section
variable {prog : Program} {w : World} {A : Around} {E : Value → Shared → Prop} {s : Shared} {gr : Heap} {outer : List Env} {Q : Value → Shared → Prop}

theorem law_signs_spec (G : Gnd gr) (B : Bel A gr outer s.heap) (hA : Amb A 1)
    (hok : ∀ s' t, Kp (frs outer) s.heap s'.heap → s'.gens = s.gens → s'.os = s.os → Q (.str signsS t) s') :
    wpAny (model prog w) A (call (.ref 55) []) Q E s := by
  refine enter (n := 6) (binds := []) G B (by have := hA.room; omega) (by decide) (fun pm cd => rfl) ?_
  intro s₁ cd X
  have st₁ := (bel_kp B X.kp).stays
  refine wpAny_execs_cons (wpAny_Return_some (wpAny_BinOp (wpAny_Constant_str ?_)))
  refine Call_Name1 (ldB G st₁ rfl (PySem.callWith_builtin1 (wpAny_Constant_int (PySem.P.chr_of_int (by decide) ?_))))
  refine SB.add (fun t' k => ?_) (by decide)
  have e : Str.ofString "ab#\n \t'" ++ ⟨#[(0 : Int).toNat]⟩ = signsS := by decide
  rw [e]
  exact hok _ _ X.kp X.gens X.os

noncomputable def bindP (kindOf : Str → Option NameKind) : List (Str × Value) → List (Str × Value) → List (Str × Value)
  | [], l => l
  | (n, v) :: r, l => bindP kindOf r (if kindOf n = some .local then put n v l else l)
theorem bindL_lk (kindOf : Str → Option NameKind) : ∀ (binds l : List (Str × Value)), bindL kindOf binds (lk l) = lk (bindP kindOf binds l)
  | [], l => rfl
  | (n, v) :: r, l => by
    unfold bindL bindP
    by_cases h : kindOf n = some .local
    · rw [if_pos h, if_pos h, lk_put]; exact bindL_lk kindOf r _
    · rw [if_neg h, if_neg h]; exact bindL_lk kindOf r _

/-- a def with cells is entered -/
theorem enterC {n : Nat} {f : Addr} {pos : List Value} {kw : List (Str × Value)} {binds : List (Str × Value)} (G : Gnd gr) (B : Bel A gr outer s.heap) (hroom : A.depth < recursionLimit) (hf : (f, n) ∈ fnAddrs)
    (hbind : ∀ pm cd, bindArgs (fd n pm cd) ⟨pos, kw⟩ = pure binds)
    (h : ∀ s' cd cells, CellsAre (bindC (ev n s.heap.objs.size f cd (cellsFrom (s.heap.objs.size + 1) (scopeOf n).names [])).kindOf binds fun _ => none) (cellsFrom (s.heap.objs.size + 1) (scopeOf n).names []) cells →
      In s (frs outer) s.heap.objs.size cells (bindP (ev n s.heap.objs.size f cd (cellsFrom (s.heap.objs.size + 1) (scopeOf n).names [])).kindOf binds []) s' →
      wpAny (model prog w) (A.deeper (ev n s.heap.objs.size f cd (cellsFrom (s.heap.objs.size + 1) (scopeOf n).names []))) (execs (bodyOf n) (ev n s.heap.objs.size f cd (cellsFrom (s.heap.objs.size + 1) (scopeOf n).names []))) (fun fl s' => Q (match fl with | .ret v => v | _ => .none) s')
        (fun e s' => wpAny (model prog w) (A.deeper (ev n s.heap.objs.size f cd (cellsFrom (s.heap.objs.size + 1) (scopeOf n).names []))) (leaving (ev n s.heap.objs.size f cd (cellsFrom (s.heap.objs.size + 1) (scopeOf n).names [])) e) (fun _ s'' => E e s'') (fun e' s'' => E e' s'') s') s')
    (hkind : ∀ k, ∀ x ∈ binds, (scopeOf n).names.lookup x.1 = some .local ∨ ((scopeOf n).names.lookup x.1 = some .cell ∧ ((cellsFrom k (scopeOf n).names []).lookup x.1).isSome = true))
    (hnd : ((cellsFrom 0 (scopeOf n).names []).map (·.1)).Nodup := by decide)
    (hco : (scopeOf n).isCoroutine = false := by rfl) (hgen : (scopeOf n).isGenerator = false := by rfl) (hk : (scopeOf n).kind = .function := by rfl) :
    wpAny (model prog w) A (call (.ref f) pos kw) Q E s := by
  obtain ⟨o, pm, cd, ho, hd, hcd⟩ := G.fns _ hf
  refine wpAny_call (codeAny_call_function hroom (B.stays _ _ ho) hd hco hgen rfl (hcd.keeps B.stays) ((BindsTo.of_eq (hbind pm cd)) _ _ _ _ ?_))
  refine wpAny_newFunctionEnv_cells hk (hkind _) fun env' he s' x => ?_
  subst he
  refine ⟨(G.nolimit.keeps B.stays).keeps x.toInCall.keep, codeAny_func ?_⟩
  obtain ⟨h₁, tk, rfl, _⟩ := x.done
  have hk₁ := x.toInCall.keep
  obtain ⟨cells, NC, Y⟩ := Cl.news (h₀ := s.heap) (Nat.le_refl _) fun n' c hm => ⟨x.cell n' c (lookup_of_mem_nodup (cellsFrom_names (scopeOf n).names 0 (s.heap.objs.size + 1) [] [] rfl ▸ hnd) hm), x.above n' c hm⟩
  have hns := x.toInCall.ns
  have e0 : (fun _ : Str => (none : Option Value)) = lk [] := rfl
  rw [e0, bindL_lk] at hns
  refine h _ cd cells Y ⟨hns, Kp.of_keeps hk₁, Nat.le_refl _, fun p hp => ⟨(NC p hp).1, (NC p hp).2.2, (NC p hp).2.1⟩, rfl, rfl, B.tabok.lt⟩
end
end Mine

end

section -- part 21
open PySem PySem.W PyProof.Rows PySem.Calls
open PySem.Builtin PySem.Builtin.Str
set_option maxRecDepth 100000
set_option linter.unusedVariables false
namespace Mine

theorem any_one (cs : List Nat) (c : Nat) : (cs.map one).any (· == (⟨#[c]⟩ : Str)) = decide (c ∈ cs) := by
  induction cs with
  | nil => rfl
  | cons a r ih =>
    rw [List.map_cons, List.any_cons, ih]
    by_cases h : a = c
    · subst h; simp [one]
    · have h1 : (one a == (⟨#[c]⟩ : Str)) = false := by simp [one, h]
      rw [h1]
      have h2 : (c ∈ a :: r) ↔ (c ∈ r) := by simp [Ne.symm h]
      simp [h2]

section
variable {prog : Program} {w : World} {h : Heap} {fs : List Addr}
theorem mem_str (z : Str) (t : Tok) : Member prog w h fs (.str z t) (fun c => decide (c ∈ z.cps.toList)) := fun A s c t Q E k hQ => by
  refine PySem.P.in_str ?_
  rw [StrLaws.found_one]
  exact hQ s.toks
theorem mem_list {D : Addr} {vs : List Value} {cs : List Nat} (hl : h.IsList D vs.toArray) (hs : StrsAre vs (cs.map one)) (hD : D ∉ fs) : Member prog w h fs (.ref D) (fun c => decide (c ∈ cs)) := fun A s c t Q E k hQ => by
  refine in_list_strs (hl.at fun o e => k.same _ _ e hD) hs ?_
  rw [any_one]
  exact hQ s.toks
theorem mem_tuple {D : Addr} {items : Array Value} {cs : List Nat} (hl : IsTup h D items) (hs : StrsAre items.toList (cs.map one)) (hD : D ∉ fs) : Member prog w h fs (.ref D) (fun c => decide (c ∈ cs)) := fun A s c t Q E k hQ => by
  refine in_tuple_strs (let ⟨o, ho, r⟩ := hl; ⟨o, k.same _ _ ho hD, r⟩) hs ?_
  rw [any_one]
  exact hQ s.toks
theorem mem_fz {D n : Nat} {cs : List Nat} (hF : FzAt prog w h D cs n) (hn : n < 1000) (hD : D ∉ fs) : Member prog w h fs (.ref D) (fun c => decide (c ∈ cs)) := fun A s c t Q E k hQ =>
  fz_in (hF.at fun o e => k.same _ _ e hD) hn hQ
end

/-! ## plain laws of skipTo -/
theorem skipTo_mem {cs : List Nat} {P : Nat → Bool} : ∀ n p, cs.length - p = n → ∀ k, p ≤ k → k < skipTo cs P p → ∃ c, cs[k]? = some c ∧ P c = true := by
  intro n
  induction n with
  | zero => intro p hn k h1 h2; rw [skipTo_end (by omega)] at h2; omega
  | succ n ih =>
    intro p hn k h1 h2
    obtain ⟨c, hc⟩ : ∃ c, cs[p]? = some c := ⟨_, List.getElem?_eq_getElem (by omega)⟩
    cases hP : P c with
    | false => rw [skipTo_stop hc hP] at h2; omega
    | true =>
      by_cases hk : k = p
      · subst hk; exact ⟨c, hc, hP⟩
      · rw [skipTo_step hc hP] at h2
        exact ih (p + 1) (by omega) k (by omega) h2
theorem skipTo_stop' {cs : List Nat} {P : Nat → Bool} : ∀ n p, cs.length - p = n → ∀ c, cs[skipTo cs P p]? = some c → P c = false := by
  intro n
  induction n with
  | zero => intro p hn c h; rw [skipTo_end (by omega), List.getElem?_eq_none (by omega)] at h; cases h
  | succ n ih =>
    intro p hn c h
    obtain ⟨d, hd⟩ : ∃ c, cs[p]? = some c := ⟨_, List.getElem?_eq_getElem (by omega)⟩
    cases hP : P d with
    | false => rw [skipTo_stop hd hP, hd] at h; cases h; exact hP
    | true => rw [skipTo_step hd hP] at h; exact ih (p + 1) (by omega) c h
theorem skipTo_congr {cs : List Nat} {P P' : Nat → Bool} (h : ∀ c ∈ cs, P c = P' c) (p : Nat) : skipTo cs P p = skipTo cs P' p := by
  unfold skipTo
  congr 2
  have : ∀ l : List Nat, (∀ c ∈ l, P c = P' c) → l.takeWhile P = l.takeWhile P' := by
    intro l
    induction l with
    | nil => intro _; rfl
    | cons a r ih =>
      intro hl
      rw [List.takeWhile_cons, List.takeWhile_cons, hl a (.head _), ih fun c hc => hl c (.tail _ hc)]
  exact this _ fun c hc => h c (List.mem_of_mem_drop hc)
end Mine

end

section -- part 22
open PySem PySem.W PyProof.Rows PySem.Calls
open PySem.Builtin PySem.Builtin.Str
set_option maxRecDepth 100000
set_option linter.unusedVariables false
namespace Mine

theorem paired_of {α : Type} {is : α → Value → Prop} {P : Nat → Value → Prop} : ∀ {xs : List α} {vs : List Value} (k : Nat), vs.length = xs.length → (∀ j v, vs[j]? = some v → P (k + j) v) → (∀ j v, P (k + j) v → ∃ a, xs[j]? = some a ∧ is a v) → Paired is xs vs
  | [], [], _, _, _, _ => .nil
  | [], _ :: _, _, h, _, _ => by simp at h
  | _ :: _, [], _, h, _, _ => by simp at h
  | x :: xs, v :: vs, k, h, h1, h2 => by
    obtain ⟨a, ha, hi⟩ := h2 0 v (h1 0 v rfl)
    simp at ha; subst ha
    refine .cons hi (paired_of (P := P) (k + 1) (by simpa using h) (fun j u hu => ?_) fun j u hu => ?_)
    · have := h1 (j + 1) u (by simpa using hu)
      rwa [show k + (j + 1) = k + 1 + j by omega] at this
    · have := h2 (j + 1) u (by rwa [show k + (j + 1) = k + 1 + j by omega])
      simpa using this

theorem paired_strs {α : Type} {is : α → Value → Prop} {p : α → Bool} {p' : Value → Bool} {g : α → Nat} {F : Value → Value → Prop} (hp : ∀ a v, is a v → p' v = p a) (hF : ∀ a v y, is a v → p a = true → F v y → ∃ t, y = .str (one (g a)) t) :
    ∀ {xs : List α} {vs ys : List Value}, Paired is xs vs → Paired F (vs.filter p') ys → StrsAre ys (((xs.filter p).map g).map one)
  | _, _, _, .nil, h => by cases h; exact .nil
  | _, _, _, .cons (a := a) (b := v) (l₁ := xs) (l₂ := vs) hi hr, h => by
    rw [List.filter_cons, hp a v hi] at h
    rw [List.filter_cons]
    cases hpa : p a with
    | false => simp only [hpa, Bool.false_eq_true, if_false] at h ⊢; exact paired_strs hp hF hr h
    | true =>
      simp only [hpa, if_true] at h ⊢
      cases h with
      | cons hf hr' =>
        obtain ⟨t, rfl⟩ := hF a v _ hi hpa hf
        exact .cons _ t (paired_strs hp hF hr hr')

abbrev IsOne (c : Nat) (v : Value) : Prop := ∃ t, v = .str ⟨#[c]⟩ t
def headP (p : Nat → Bool) : Value → Bool
  | .str z _ => p (z.cps.toList.headD 0)
  | _ => false
theorem headP_one {p : Nat → Bool} {c : Nat} {v : Value} (h : IsOne c v) : headP p v = p c := by obtain ⟨t, rfl⟩ := h; rfl
theorem signs_paired {x : Str} {vs : List Value} (hl : vs.length = x.cps.size) (h : ∀ j v, vs[j]? = some v → SignAt x j v) : Paired IsOne x.cps.toList vs :=
  paired_of 0 (by rw [hl, Array.length_toList]) (fun j v e => by simpa using h j v e) fun j v hv => by
    obtain ⟨c, u, hc, rfl⟩ := hv
    exact ⟨c, by rw [Array.getElem?_toList]; simpa using hc, u, rfl⟩

section
variable {M : Model} {A : Around} {E : Value → Shared → Prop} {s : Shared} {env : Env} {x : Str} {v : Value} {Q : Value → Shared → Prop} {pos : Pos}
theorem ldNs {L : Addr} {m : Str → Option Value} (hn : s.heap.Ns L m) (hv : m x = some v) (h : Q v s) (hL : env.locals = L := by rfl) (hk : env.scope.kind = .function := by rfl) (hx : env.kindOf x = some .local := by rfl) (hd : (x == ("__debug__" : Str)) = false := by decide) :
    wpAny M A (eval (.Name x pos) env) Q E s := wpAny_Name (wpAny_loadName_local hk hx (by rw [hL]; exact hn) hv h) hd
theorem ldCell {c : Addr} (hc : s.heap.IsCell c (some v)) (h : Q v s) (hcl : env.cells.lookup x = some c := by rfl) (hk : env.scope.kind = .function := by rfl) (hx : env.kindOf x = some .cell := by rfl) (hd : (x == ("__debug__" : Str)) = false := by decide) :
    wpAny M A (eval (.Name x pos) env) Q E s := wpAny_Name (wpAny_loadName_cell hk hx hcl hc h) hd
end

theorem TabOk.updS {h h' : Heap} (x : TabOk h) {as : List Addr} (ha : ∀ a ∈ as, a ≠ 43 ∧ NotCode h a) (k : ∀ b o, b ∉ as → h.get? b = some o → h'.get? b = some o) : TabOk h' := by
  obtain ⟨ps, h1, h2⟩ := x
  refine ⟨ps, k _ _ (fun q => (ha _ q).1 rfl) h1, h2.imp id ?_⟩
  rintro ⟨c', q1, q2, c, o, vs, t, q3, q4, q5, q6⟩
  cases q3
  exact ⟨_, q1, q2, _, _, vs, t, rfl, k _ _ (fun e => (ha _ e).2 o vs _ _ q4 q5 q6) q4, q5, q6⟩
theorem In.jump {s₀ s : Shared} {fs : List Addr} {L : Addr} {own own' : List (Addr × Obj)} {l l' : List (Str × Value)} (X : In s₀ fs L own l s) {as : List Addr} {h' : Heap} {t : Nat} (has : ∀ a ∈ as, a = L ∨ (s₀.heap.get? a = none ∧ NotCode s.heap a))
    (hk : ∀ b o, b ∉ as → s.heap.get? b = some o → h'.get? b = some o) (hns : h'.Ns L (lk l')) (hown : ∀ p ∈ own', h'.get? p.1 = some p.2 ∧ s₀.heap.get? p.1 = none ∧ p.1 ≠ L) : In s₀ fs L own' l' { s with heap := h', toks := t } := by
  have hout : ∀ b o, s₀.heap.get? b = some o → b ∉ as := fun b o e q => by
    rcases has b q with rfl | ⟨h1, _⟩
    · exact Nat.lt_irrefl _ (Nat.lt_of_lt_of_le (Heap.lt_size e) X.lt)
    · rw [h1] at e; cases e
  refine ⟨hns, ⟨fun b o e n => hk b o (hout b o e) (X.kp.same b o e n), fun b o e n => ?_, fun q => (X.kp.tab q).updS (fun a ha => ?_) hk⟩, X.lt, hown, X.gens, X.os, X.t43⟩
  · obtain ⟨sl, h⟩ := X.kp.ups b o e n
    exact ⟨sl, hk b _ (hout b o e) h⟩
  · rcases has a ha with rfl | ⟨h1, h2⟩
    · exact ⟨X.l43, notCode_ns X.ns⟩
    · exact ⟨fun q => (by obtain ⟨_, e⟩ := X.t43; rw [← q, h1] at e; cases e), h2⟩

section
variable {prog : Program} {w : World} {A : Around} {E : Value → Shared → Prop} {s₀ s : Shared} {env : Env} {fs : List Addr} {L : Addr}

/-- a comprehension that makes texts of one sign, without calls of own functions -/
structure Comp (α : Type) (prog : Program) (w : World) (A : Around) (env : Env) (scope : Scope) (cl : List (Str × Addr)) (x : Str) (ifs : List Expr) (elt : Expr) (is : α → Value → Prop) (p : α → Bool) (g : α → Nat) (I : Addr) (s₂ : Shared) : Prop where
  tests : ∀ C a v s₃ m₃ E', is a v → s₃.heap.Ns C m₃ → m₃ x = some v → (∀ b o, b ≠ I → s₂.heap.get? b = some o → s₃.heap.get? b = some o) →
    wpAny (model prog w) A (forIn ifs true fun c r => if r = true then do let ok ← isTrue c (compEnvC scope cl C env) (eval c (compEnvC scope cl C env)); pure (ForInStep.yield ok) else pure (ForInStep.yield r)) (fun ok s₄ => ok = p a ∧ Keeps s₃ s₄) E' s₃
  elt : ∀ C a v s₃ m₃ E', is a v → p a = true → s₃.heap.Ns C m₃ → m₃ x = some v → (∀ b o, b ≠ I → s₂.heap.get? b = some o → s₃.heap.get? b = some o) →
    wpAny (model prog w) A (eval elt (compEnvC scope cl C env)) (fun y s₄ => (∃ t, y = .str (one (g a)) t) ∧ Keeps s₃ s₄) E' s₃

/-- what stands when the iterator of a comprehension is made -/
def CompAt (α : Type) (prog : Program) (w : World) (A : Around) (env : Env) (scope : Scope) (cl : List (Str × Addr)) (x : Str) (ifs : List Expr) (elt : Expr) (is : α → Value → Prop) (p : α → Bool) (g : α → Nat) (s₀ : Shared) (fs : List Addr) (L : Addr)
    (own : List (Addr × Obj)) (l : List (Str × Value)) (K : Addr → Obj → List Value → List α → Shared → Prop) (it : Value) (s₂ : Shared) : Prop :=
  ∃ I fp n P St xs oI, it = .ref I ∧ Wk prog w A I fp n P St ∧ n ≤ 1000 ∧ St 0 s₂.heap ∧ (∀ b ∈ fp, b < s₂.heap.objs.size) ∧ List.length xs = n ∧ (∀ j v, P j v → ∃ a, xs[j]? = some a ∧ is a v) ∧ In s₀ fs L ((I, oI) :: own) l s₂ ∧ (∀ p ∈ own, p.1 ≠ I) ∧
    Comp α prog w A env scope cl x ifs elt is p g I s₂ ∧ ∀ D oD vs s', s'.heap.IsList D vs.toArray → s'.heap.get? D = some oD → s₀.heap.get? D = none → D ≠ L → D ≠ I → StrsAre vs (((xs.filter p).map g).map one) → K D oD vs xs s'

variable {own : List (Addr × Obj)} {l : List (Str × Value)} {α : Type} {is : α → Value → Prop} {p : α → Bool} {g : α → Nat}

theorem comp_eval {elt iter : Expr} {x : Str} {px : Pos} {ifs : List Expr} {scope : Scope} {cl : List (Str × Addr)} {pos : Pos} {Q : Value → Shared → Prop} (ht : TabOk s₀.heap) (p' : Value → Bool) (hp' : ∀ a v, is a v → p' v = p a) (hu : ∀ a a' v, is a v → is a' v → a = a')
    (hclos : closureFor scope env = pure cl)
    (h : wpAny (model prog w) A (eval iter env) (fun xv s₁ => wpAny (model prog w) A (pyIter xv) (fun it s₂ => CompAt α prog w A env scope cl x ifs elt is p g s₀ fs L own l (fun D oD vs xs s' => In s₀ fs L ((D, oD) :: own) l s' → Q (.ref D) s') it s₂) E s₁) E s)
    (hcell : ∀ y ∈ scope.names, y.2 ≠ .cell := by decide) (hkind : scope.kind = .function := by rfl)
    (hnames : ∀ y ∈ scope.names, y.2 = .local → scope.names.lookup y.1 = some .local := by decide) (hx : scope.names.lookup x = some .local := by rfl)
    (hs : ∀ x, foldedSetIterable iter env x = pure x := by intro _; rfl) :
    wpAny (model prog w) A (eval (.ListComp elt [⟨.Name x px, iter, ifs, 0⟩] scope pos) env) Q E s := by
  refine wpAny_ListComp_free p' (fun v y => ∀ a, is a v → p a = true → ∃ t, y = .str (one (g a)) t) hclos hcell hkind hnames hx (wpAny_mono h (fun xv s₁ h₁ => wpAny_mono h₁ (fun it s₂ h₂ => ?_) fun _ _ e => e) fun _ _ e => e) hs
  obtain ⟨I, fp, n, P, St, xs, oI, rfl, W, hn, hst, hfp, hlen, hPa, X, hne, hC, hK⟩ := h₂
  refine ⟨I, fp, [I], n, P, St, rfl, W.toWalks, small_line (by omega), hst, hfp, ⟨?_, ?_⟩, ?_⟩
  · intro C i v s₃ m₃ E' hCge hPv hns hv hk _
    obtain ⟨a, ha, hia⟩ := hPa i v hPv
    rw [hp' a v hia]
    exact hC.tests C a v s₃ m₃ E' hia hns hv fun b o hb e => hk b o (by simpa using hb) e
  · intro C i v s₃ m₃ E' hCge hPv hpv hns hv hk _
    obtain ⟨a, ha, hia⟩ := hPa i v hPv
    refine wpAny_mono (hC.elt C a v s₃ m₃ E' hia (by rw [← hp' a v hia]; exact hpv) hns hv fun b o hb e => hk b o (by simpa using hb) e) (fun y s₄ h₄ => ⟨fun a' ha' _ => ?_, h₄.2⟩) fun _ _ e => e
    rw [hu a' a v ha' hia]; exact h₄.1
  · intro D h' tk ys vs hD hl hpl hvl hvP hF hk
    obtain ⟨oD, hoD, _⟩ := id hl
    obtain ⟨oI', hoI, hno⟩ := W.at' 0 _ hst
    have hIe : oI' = oI := by rw [X.get (.head _)] at hoI; exact (Option.some.inj hoI).symm
    subst hIe
    have hpd := paired_of (is := is) (xs := xs) 0 (by rw [hvl, hlen]) (fun j v e => by simpa using hvP j v e) fun j v hv => hPa j v (by simpa using hv)
    have hnew : s₀.heap.get? D = none ∧ D ≠ L := by
      refine ⟨?_, fun q => ?_⟩
      · cases hq : s₀.heap.get? D with
        | none => rfl
        | some o =>
          by_cases h43 : D = 43
          · obtain ⟨ps, h1, _⟩ := X.kp.tab ht
            rw [h43, h1] at hD; cases hD
          · obtain ⟨sl, h1⟩ := X.kp.ups D o hq h43
            rw [h1] at hD; cases hD
      · obtain ⟨o, _, _, ho, _⟩ := X.ns
        rw [q, ho] at hD; cases hD
    have hDI : D ≠ I := fun q => by rw [q, hoI] at hD; cases hD
    refine hK D oD ys.toList _ (by simpa using hl) hoD hnew.1 hnew.2 hDI (paired_strs hp' (fun a v y ha hpa hy => hy a ha hpa) hpd hF) ?_
    refine X.jump (as := [I]) (fun a ha => ?_) (fun b o hb e => hk b o hb e) ?_ ?_
    · simp at ha; subst ha
      exact .inr ⟨(X.own _ (.head _)).2.1, fun ob vs q t e hd => by rw [hoI] at e; cases e; exact hno vs q t hd⟩
    · exact X.ns.at' fun o e => hk L o (by simpa using Ne.symm (X.own _ (.head _)).2.2) e
    · intro q hq
      rcases List.mem_cons.mp hq with rfl | hq
      · exact ⟨hoD, hnew⟩
      · exact ⟨hk _ _ (by simpa using hne q hq) (X.own q (.tail _ hq)).1, (X.own q (.tail _ hq)).2⟩
theorem comp_asn {elt iter : Expr} {x y : Str} {px py : Pos} {ifs : List Expr} {scope : Scope} {cl : List (Str × Addr)} {pos spos : Pos} {Q : Flow → Shared → Prop} (ht : TabOk s₀.heap) (p' : Value → Bool) (hp' : ∀ a v, is a v → p' v = p a) (hu : ∀ a a' v, is a v → is a' v → a = a')
    (hsw : swapsWith (.ListComp elt [⟨.Name x px, iter, ifs, 0⟩] scope pos) (some (.Name y py)) spos.line env = pure true) (hclos : closureFor scope env = pure cl)
    (h : wpAny (model prog w) A (eval iter env) (fun xv s₁ => wpAny (model prog w) A (pyIter xv) (fun it s₂ => CompAt α prog w A env scope cl x ifs elt is p g s₀ fs L own l (fun D oD vs xs s' => In s₀ fs L ((D, oD) :: own) (put y (.ref D) l) s' → Q .next s') it s₂) E s₁) E s)
    (hcell : ∀ y ∈ scope.names, y.2 ≠ .cell := by decide) (hkind : scope.kind = .function := by rfl)
    (hnames : ∀ y ∈ scope.names, y.2 = .local → scope.names.lookup y.1 = some .local := by decide) (hx : scope.names.lookup x = some .local := by rfl)
    (hs : ∀ x, foldedSetIterable iter env x = pure x := by intro _; rfl) (hL : env.locals = L := by rfl) (hke : env.scope.kind = .function := by rfl) (hy : env.kindOf y = some .local := by rfl) :
    wpAny (model prog w) A (exec (.Assign [.Name y py] (.ListComp elt [⟨.Name x px, iter, ifs, 0⟩] scope pos) spos) env) Q E s := by
  subst hL
  refine wpAny_Assign_ListComp_free p' (fun v y => ∀ a, is a v → p a = true → ∃ t, y = .str (one (g a)) t) hsw hclos hcell hkind hnames hx hy (by rw [hke]; rfl) (wpAny_mono h (fun xv s₁ h₁ => wpAny_mono h₁ (fun it s₂ h₂ => ?_) fun _ _ e => e) fun _ _ e => e) hs
  obtain ⟨I, fp, n, P, St, xs, oI, rfl, W, hn, hst, hfp, hlen, hPa, X, hne, hC, hK⟩ := h₂
  refine ⟨I, fp, [I], n, P, St, lk l, rfl, W.toWalks, small_line (by omega), hst, hfp, (by simpa using Ne.symm (X.own _ (.head _)).2.2), X.ns, ⟨?_, ?_⟩, ?_⟩
  · intro C i v s₃ m₃ E' hCge hPv hns hv hk _
    obtain ⟨a, ha, hia⟩ := hPa i v hPv
    rw [hp' a v hia]
    exact hC.tests C a v s₃ m₃ E' hia hns hv fun b o hb e => hk b o (by simpa using hb) e
  · intro C i v s₃ m₃ E' hCge hPv hpv hns hv hk _
    obtain ⟨a, ha, hia⟩ := hPa i v hPv
    refine wpAny_mono (hC.elt C a v s₃ m₃ E' hia (by rw [← hp' a v hia]; exact hpv) hns hv fun b o hb e => hk b o (by simpa using hb) e) (fun y s₄ h₄ => ⟨fun a' ha' _ => ?_, h₄.2⟩) fun _ _ e => e
    rw [hu a' a v ha' hia]; exact h₄.1
  · intro D h' tk ys vs hD hl hpl hvl hvP hF hns' hk
    obtain ⟨oD, hoD, _⟩ := id hl
    obtain ⟨oI', hoI, hno⟩ := W.at' 0 _ hst
    have hIe : oI' = oI := by rw [X.get (.head _)] at hoI; exact (Option.some.inj hoI).symm
    subst hIe
    have hpd := paired_of (is := is) (xs := xs) 0 (by rw [hvl, hlen]) (fun j v e => by simpa using hvP j v e) fun j v hv => hPa j v (by simpa using hv)
    have hnew : s₀.heap.get? D = none ∧ D ≠ env.locals := by
      refine ⟨?_, fun q => ?_⟩
      · cases hq : s₀.heap.get? D with
        | none => rfl
        | some o =>
          by_cases h43 : D = 43
          · obtain ⟨ps, h1, _⟩ := X.kp.tab ht
            rw [h43, h1] at hD; cases hD
          · obtain ⟨sl, h1⟩ := X.kp.ups D o hq h43
            rw [h1] at hD; cases hD
      · obtain ⟨o, _, _, ho, _⟩ := X.ns
        rw [q, ho] at hD; cases hD
    have hDI : D ≠ I := fun q => by rw [q, hoI] at hD; cases hD
    refine hK D oD ys.toList _ (by simpa using hl) hoD hnew.1 hnew.2 hDI (paired_strs hp' (fun a v y ha hpa hy => hy a ha hpa) hpd hF) ?_
    refine X.jump (as := [env.locals, I]) (fun a ha => ?_) (fun b o hb e => hk b o (fun q => hb (q ▸ .head _)) (fun q => hb (.tail _ q)) e) (by rw [← lk_put]; exact hns') ?_
    · rcases List.mem_cons.mp ha with rfl | ha
      · exact .inl rfl
      simp at ha; subst ha
      exact .inr ⟨(X.own _ (.head _)).2.1, fun ob vs q t e hd => by rw [hoI] at e; cases e; exact hno vs q t hd⟩
    · intro q hq
      rcases List.mem_cons.mp hq with rfl | hq
      · exact ⟨hoD, hnew⟩
      · exact ⟨hk _ _ (X.own q (.tail _ hq)).2.2 (by simpa using hne q hq) (X.own q (.tail _ hq)).1, (X.own q (.tail _ hq)).2⟩
end

end Mine

end

section -- part 23
open PySem PySem.W PyProof.Rows PySem.Calls
open PySem.Builtin PySem.Builtin.Str
set_option maxRecDepth 100000
set_option linter.unusedVariables false
namespace Mine

theorem at_iff (x y : Str) (q : Nat) (hy : y.cps.size ≠ 0) : StrLaws.At x y x.length q ↔ (sub x q (q + y.length)).cps.toList = y.cps.toList := by
  unfold StrLaws.At
  rw [sub_list]
  have hn : q + y.length - q = y.length := by omega
  rw [hn]
  have hyl : y.length = y.cps.toList.length := by simp [Str.length]
  rw [StrLaws.subAt_eq]
  constructor
  · rintro ⟨h1, h2⟩
    rw [hyl]
    exact eq_of_beq h2
  · intro h
    refine ⟨?_, ?_⟩
    · have := congrArg List.length h
      rw [List.length_take, List.length_drop, ← hyl] at this
      simp only [Str.length, Array.length_toList] at this ⊢
      omega
    · rw [hyl] at h
      exact beq_iff_eq.mpr h
theorem at_head {x y : Str} {q y₀ : Nat} (h : StrLaws.At x y x.length q) (hy : y.cps.toList.head? = some y₀) : x.cps.toList[q]? = some y₀ := by
  have hs : y.cps.size ≠ 0 := fun e => by
    have : y.cps.toList = [] := by apply List.eq_nil_of_length_eq_zero; simpa using e
    rw [this] at hy; cases hy
  have := (at_iff x y q hs).mp h
  rw [sub_list] at this
  rw [← this] at hy
  rw [List.head?_take, if_neg (by simp only [Str.length]; omega), List.head?_drop] at hy
  exact hy

/-- what the walk by signs finds -/
theorem first_of {x y : Str} {p f y₀ : Nat} (hy : y.cps.toList.head? = some y₀) (hpf : p ≤ f) (hnone : ∀ k, p ≤ k → k < f → ¬ StrLaws.At x y x.length k) :
    (x.cps.size ≤ f → firstAt x y p = none) ∧ (StrLaws.At x y x.length f → firstAt x y p = some f) := by
  have hs : y.cps.size ≠ 0 := fun e => by
    have : y.cps.toList = [] := by apply List.eq_nil_of_length_eq_zero; simpa using e
    rw [this] at hy; cases hy
  rcases firstAt_spec x y p with ⟨h0, h1⟩ | ⟨i, h0, h1, h2, h3⟩
  · exact ⟨fun _ => h0, fun h => absurd h (h1 f hpf)⟩
  · refine ⟨fun h => ?_, fun h => ?_⟩
    · have := h2.1
      simp only [Str.length] at this
      exact absurd h2 (hnone i h1 (by omega))
    · rw [h0]
      congr 1
      rcases Nat.lt_trichotomy i f with h4 | h4 | h4
      · exact absurd h2 (hnone i h1 h4)
      · exact h4
      · exact absurd h (h3 f hpf h4)

theorem skip_others {x y : Str} {y₀ : Nat} (hc : ∀ c ∈ x.cps.toList, c ∈ signsL) (hy : y.cps.toList.head? = some y₀) (q : Nat) :
    (∀ k, q ≤ k → k < skipTo x.cps.toList (fun c => decide (c ∈ signsL.filter fun c => decide (c ≠ y₀))) q → ¬ StrLaws.At x y x.length k) ∧
      (x.cps.size ≤ skipTo x.cps.toList (fun c => decide (c ∈ signsL.filter fun c => decide (c ≠ y₀))) q ∨ x.cps.toList[skipTo x.cps.toList (fun c => decide (c ∈ signsL.filter fun c => decide (c ≠ y₀))) q]? = some y₀) := by
  refine ⟨fun k h1 h2 hAt => ?_, ?_⟩
  · obtain ⟨c, h3, h4⟩ := skipTo_mem _ q rfl k h1 h2
    have h5 := at_head hAt hy
    rw [h3] at h5; cases h5
    simp at h4
  · by_cases h : x.cps.size ≤ skipTo x.cps.toList (fun c => decide (c ∈ signsL.filter fun c => decide (c ≠ y₀))) q
    · exact .inl h
    · right
      obtain ⟨c, h3⟩ : ∃ c, x.cps.toList[skipTo x.cps.toList (fun c => decide (c ∈ signsL.filter fun c => decide (c ≠ y₀))) q]? = some c := ⟨_, List.getElem?_eq_getElem (by simpa using Nat.lt_of_not_le h)⟩
      have h4 := skipTo_stop' _ q rfl c h3
      have h5 := hc c (List.mem_of_getElem? h3)
      rw [h3]
      simp [h5] at h4
      rw [h4]

section
variable {prog : Program} {w : World} {A : Around} {E : Value → Shared → Prop} {s₀ s₂ : Shared} {env : Env} {fs : List Addr} {L : Addr} {own : List (Addr × Obj)} {l : List (Str × Value)} {p : Nat → Bool}
theorem keeps_toks (s : Shared) (t : Nat) : Keeps s { s with toks := t } := ⟨s.heap, t, rfl, fun _ _ e => e⟩
theorem one_uniq (a a' : Nat) (v : Value) (h : IsOne a v) (h' : IsOne a' v) : a = a' := by
  obtain ⟨t, rfl⟩ := h
  obtain ⟨t', e⟩ := h'
  cases e; rfl
theorem at_signs {S x : Str} {t : Tok} {test : Expr} {pe : Pos} {scope : Scope} {cl : List (Str × Addr)} {K : Addr → Obj → List Value → List Nat → Shared → Prop} (X : In s₀ fs L own l s₂) (hh : A.handled = none) (hS : S.cps.size ≤ 1000)
    (ht : ∀ C c t s₃ m₃ E', c ∈ S.cps.toList → s₃.heap.Ns C m₃ → m₃ x = some (.str ⟨#[c]⟩ t) → (∀ b o, s₂.heap.get? b = some o → s₃.heap.get? b = some o) →
      wpAny (model prog w) A (isTrue test (compEnvC scope cl C env) (eval test (compEnvC scope cl C env))) (fun ok s₄ => ok = p c ∧ Keeps s₃ s₄) E' s₃)
    (hK : ∀ D oD vs s', s'.heap.IsList D vs.toArray → s'.heap.get? D = some oD → s₀.heap.get? D = none → D ≠ L → StrsAre vs ((S.cps.toList.filter p).map one) → K D oD vs S.cps.toList s')
    (hk : ∀ C, (compEnvC scope cl C env).scope.kind = .function := by intro _; rfl) (hx : ∀ C, (compEnvC scope cl C env).kindOf x = some .local := by intro _; rfl) (hd : (x == ("__debug__" : Str)) = false := by decide) :
    wpAny (model prog w) A (pyIter (.str S t)) (fun it s₃ => CompAt Nat prog w A env scope cl x [test] (.Name x pe) (fun a v => a ∈ S.cps.toList ∧ IsOne a v) p id s₀ fs L own l K it s₃) E s₂ := by
  refine iter_str fun o St hW hfr hst => ?_
  have X₃ := X.grow1 (t := s₂.toks) (o := o) (fun b ob e => Heap.get?_push_of_some o e) (Heap.get?_push_size _ hfr) (Nat.le_refl _)
  refine ⟨_, _, _, _, St, S.cps.toList, o, rfl, hW _ hh, hS, hst, (fun b hb => ?_), Array.length_toList, ?_, X₃, ?_, ⟨?_, ?_⟩, ?_⟩
  · simp at hb; subst hb; rw [Heap.size_push]; exact Nat.lt_succ_self _
  · rintro j v ⟨c, u, hc, rfl⟩
    have : S.cps.toList[j]? = some c := by rw [Array.getElem?_toList]; exact hc
    exact ⟨c, this, List.mem_of_getElem? this, u, rfl⟩
  · intro q hq e
    have := Heap.lt_size (X.own q hq).1
    rw [e] at this
    exact Nat.lt_irrefl _ this
  · rintro C a v s₃ m₃ E' ⟨hm, t, rfl⟩ hns hv hk'
    exact wpAny_tests_one (ht C a t s₃ m₃ E' hm hns hv fun b ob e => hk' b ob (Nat.ne_of_lt (Heap.lt_size e)) (Heap.get?_push_of_some _ e))
  · rintro C a v s₃ m₃ E' ⟨hm, t, rfl⟩ hpa hns hv hk'
    exact ldNs hns hv ⟨⟨t, rfl⟩, keeps_toks s₃ s₃.toks⟩ rfl (hk C) (hx C) hd
  · intro D oD vs s' h1 h2 h3 h4 _ h6
    rw [List.map_id] at h6
    exact hK D oD vs s' h1 h2 h3 h4 h6
end

theorem join_text (x msg : Str) (p : Nat) : errText x p msg = msg ++ Str.ofString " " ++ atText x p := by
  unfold errText atText
  have e : Str.ofString " (at " = Str.ofString " " ++ Str.ofString "(at " := by decide
  rw [e]
  simp only [Str.append_assoc]

abbrev ev9 (L : Addr) (cd : Value) : Env := ev 9 L 74 cd [("barred", L + 1 + 1), ("sought", L + 1)]

section
variable {prog : Program} {w : World} {A : Around} {E : Value → Shared → Prop} {s : Shared} {gr : Heap} {outer : List Env} {Q : Value → Shared → Prop}

set_option maxHeartbeats 4000000 in
theorem law_until_by_chars_spec (G : Gnd gr) (B : Bel A gr outer s.heap) (hA : Amb A 4) {x y z : Str} {tx tp ty tz : Tok} {p y₀ : Nat} {eof : Bool}
    (hx : x.cps.size < 100) (hp : p < 10000) (hyl : y.cps.size < 10) (hy : (reprText y).length < 500) (hc : ∀ c ∈ x.cps.toList, c ∈ signsL) (hz : z.cps.size < 100) (hy0 : y.cps.toList.head? = some y₀)
    (hok : ∀ s' v, Told (untilR x y p (fun c => decide (c ∈ z.cps.toList)) eof) v → Kp (frs outer) s.heap s'.heap → s'.gens = s.gens → s'.os = s.os → Q v s') :
    wpAny (model prog w) A (call (.ref 74) [.str x tx, .int p tp, .str y ty, .str z tz, .bool eof]) Q E s := by
  refine enterC (n := 9) (binds := [("text", .str x tx), ("place", .int p tp), ("sought", .str y ty), ("barred", .str z tz), ("end_is_error", .bool eof)]) G B (by have := hA.room; omega) (by decide) (fun pm cd => rfl) ?_ (fun k x hx => by
    rcases List.mem_cons.mp hx with rfl | hx
    · exact .inl rfl
    rcases List.mem_cons.mp hx with rfl | hx
    · exact .inl rfl
    rcases List.mem_cons.mp hx with rfl | hx
    · exact .inr ⟨rfl, rfl⟩
    rcases List.mem_cons.mp hx with rfl | hx
    · exact .inr ⟨rfl, rfl⟩
    rcases List.mem_cons.mp hx with rfl | hx
    · exact .inl rfl
    nomatch hx)
  intro s₁ cd cells hcells X
  obtain ⟨o1, o2, rfl, hd1, hd2⟩ := CellsAre.two (n := "barred") (n' := "sought") (c := s.heap.objs.size + 1 + 1) (c' := s.heap.objs.size + 1) hcells
  have hd1 : o1.data = .cell (some (.str z tz)) := hd1
  have hd2 : o2.data = .cell (some (.str y ty)) := hd2
  have X : In s (frs outer) s.heap.objs.size [(s.heap.objs.size + 1 + 1, o1), (s.heap.objs.size + 1, o2)] [("text", .str x tx), ("place", .int p tp), ("end_is_error", .bool eof)] s₁ := X
  show wpAny (model prog w) (A.deeper (ev9 s.heap.objs.size cd)) (execs (bodyOf 9) (ev9 s.heap.objs.size cd)) (fun fl s' => Q (match fl with | .ret v => v | _ => .none) s') (fun e s' => wpAny (model prog w) (A.deeper (ev9 s.heap.objs.size cd)) (leaving (ev9 s.heap.objs.size cd) e) (fun _ s'' => E e s'') (fun e' s'' => E e' s'') s') s₁
  have B₁ := bel_deep (env := ev9 s.heap.objs.size cd) B X
  have hA₁ : Amb (A.deeper (ev9 s.heap.objs.size cd)) 3 := hA.deeper _
  have hi0 : Txt.item y 0 = ⟨#[y₀]⟩ := item_nat (q := 0) (by rw [← List.head?_eq_getElem?]; exact hy0)
  have hylen : y.cps.size ≠ 0 := fun e => by
    have : y.cps.toList = [] := by apply List.eq_nil_of_length_eq_zero; simpa using e
    rw [this] at hy0; cases hy0
  -- others
  refine wpAny_execs_cons (comp_asn (fs := frs outer) (own := [(s.heap.objs.size + 1 + 1, o1), (s.heap.objs.size + 1, o2)]) (l := [("text", .str x tx), ("place", .int p tp), ("end_is_error", .bool eof)]) (is := fun a v => a ∈ signsS.cps.toList ∧ IsOne a v) (p := fun c => decide (c ≠ y₀)) (g := id) B.tabok (headP fun c => decide (c ≠ y₀)) (fun a v h => headP_one h.2) (fun a a' v h h' => one_uniq _ _ _ h.2 h'.2) rfl rfl ?_)
  refine Call_Name rfl (ldG G B₁.stays rfl (callWith_F0 (fnAtW G B₁.stays (n := 6) (by decide)) (law_signs_spec (outer := ev9 s.heap.objs.size cd :: outer) G B₁ (hA₁.le (by omega)) fun s₂ t₂ kp₂ g₂ o₂ => ?_)))
  have X₂ := X.ret B kp₂ g₂ o₂
  refine at_signs X₂ hA₁.handled (by decide) ?_ ?_
  · intro C c t s₃ m₃ E' _ hns hv hk
    refine wpAny_isTrue_Compare1 (ldNs hns hv (Subscript_ (ldCell (c := s.heap.objs.size + 1) ⟨o2, hk _ _ (X₂.get (.tail _ (.head _))), hd2⟩ (wpAny_Constant_int (item_str_or hA₁.handled (by decide) (fun q' => ?_) fun _ _ => ?_)))))
    · exfalso
      simp only [Str.length] at q'
      omega
    rw [hi0]
    refine PySem.P.ne_str (wpAny_truthy_bool ⟨?_, keeps_toks _ _⟩)
    by_cases h : c = y₀
    · subst h; simp
    · simp [h]
  intro D oD vs s₃ hl hoD hD0 hDL hvs X₃
  have hlD : ∀ h : Heap, h.get? D = some oD → h.IsList D vs.toArray := fun h e => by
    obtain ⟨o', h1, h2⟩ := hl
    rw [hoD] at h1; cases h1
    exact ⟨_, e, h2⟩
  have hcs : (signsS.cps.toList.filter fun c => decide (c ≠ y₀)) = signsL.filter fun c => decide (c ≠ y₀) := rfl
  have B₃ := bel_deep (env := ev9 s.heap.objs.size cd) B X₃
  have hDf : D ∉ frs (ev9 s.heap.objs.size cd :: outer) := own_not_frame B X₃ (.head _)
  have hroom : (A.deeper (ev9 s.heap.objs.size cd)).depth < recursionLimit := by have := hA₁.room; omega
  refine wpAny_execs_cons (wpAny_Assign_Name (Call_Name rfl (ldG G B₃.stays rfl (callWith_F (fnAtW G B₃.stays (n := 2) (by decide)) (spliced_more (ldE X₃ rfl (spliced_more (ldE X₃ rfl (spliced_more (ldE X₃ rfl (spliced_none ⟨fnAtW G B₃.stays (n := 2) (by decide), ?_⟩)))))))))))
  refine skip_chars_spec (outer := ev9 s.heap.objs.size cd :: outer) G B₃ hA₁.handled hroom (by omega) (by omega) (mem_list (cs := signsL.filter fun c => decide (c ≠ y₀)) (hlD _ hoD) hvs hDf) fun s₄ t₄ kp₄ g₄ o₄ => ?_
  have X₄ := X₃.ret B kp₄ g₄ o₄
  refine stE X₄ fun s₅ X₅ => ?_
  have hso := skip_others (y := y) hc hy0
  -- behind the search
  have fin2 : ∀ (s₆ : Shared) (np : Nat) (tf : Tok), In s (frs outer) s.heap.objs.size [(D, oD), (s.heap.objs.size + 1 + 1, o1), (s.heap.objs.size + 1, o2)] [("text", .str x tx), ("place", .int p tp), ("end_is_error", .bool eof), ("others", .ref D), ("found", .int (np : Nat) tf)] s₆ →
      np = (firstAt x y p).getD x.cps.size → np ≤ x.cps.size → ((firstAt x y p).isNone && eof) = false →
      wpAny (model prog w) (A.deeper (ev9 s.heap.objs.size cd)) (execs ((bodyOf 9).drop 4) (ev9 s.heap.objs.size cd)) (fun fl s' => Q (match fl with | .ret v => v | _ => .none) s')
        (fun e s' => wpAny (model prog w) (A.deeper (ev9 s.heap.objs.size cd)) (leaving (ev9 s.heap.objs.size cd) e) (fun _ s'' => E e s'') (fun e' s'' => E e' s'') s') s₆ := by
    intro s₆ np tf X₆ hnp hle hne
    have B₆ := bel_deep (env := ev9 s.heap.objs.size cd) B X₆
    refine wpAny_execs_cons (wpAny_Assign_Name (Call_Name rfl (ldG G B₆.stays rfl (callWith_F (fnAtW G B₆.stays (n := 2) (by decide)) (spliced_more (ldE X₆ rfl (spliced_more (ldE X₆ rfl (spliced_more ?_)))))))))
    refine comp_eval (fs := frs outer) (L := s.heap.objs.size) (own := [(D, oD), (s.heap.objs.size + 1 + 1, o1), (s.heap.objs.size + 1, o2)]) (l := [("text", .str x tx), ("place", .int p tp), ("end_is_error", .bool eof), ("others", .ref D), ("found", .int (np : Nat) tf)]) (is := fun a v => a ∈ signsS.cps.toList ∧ IsOne a v) (p := fun c => !decide (c ∈ z.cps.toList)) (g := id) B.tabok (headP fun c => !decide (c ∈ z.cps.toList)) (fun a v h => headP_one h.2) (fun a a' v h h' => one_uniq _ _ _ h.2 h'.2) rfl ?_
    refine Call_Name rfl (ldG G B₆.stays rfl (callWith_F0 (fnAtW G B₆.stays (n := 6) (by decide)) (law_signs_spec (outer := ev9 s.heap.objs.size cd :: outer) G B₆ (hA₁.le (by omega)) fun s₇ t₇ kp₇ g₇ o₇ => ?_)))
    have X₇ := X₆.ret B kp₇ g₇ o₇
    refine at_signs X₇ hA₁.handled (by decide) ?_ ?_
    · intro C c t s₃ m₃ E' _ hns hv hk
      refine wpAny_isTrue_Compare1 (ldNs hns hv (ldCell (c := s.heap.objs.size + 1 + 1) ⟨o1, hk _ _ (X₇.get (.tail _ (.head _))), hd1⟩ (PySem.P.notIn_str (wpAny_truthy_bool ⟨?_, keeps_toks _ _⟩))))
      rw [StrLaws.found_one]
    intro D₂ oD₂ vs₂ s₈ hl₂ hoD₂ hD₂ hDL₂ hvs₂ X₈
    have B₈ := bel_deep (env := ev9 s.heap.objs.size cd) B X₈
    have hDf₂ : D₂ ∉ frs (ev9 s.heap.objs.size cd :: outer) := own_not_frame B X₈ (.head _)
    refine spliced_none ⟨fnAtW G B₈.stays (n := 2) (by decide), ?_⟩
    refine skip_chars_spec (outer := ev9 s.heap.objs.size cd :: outer) (p := p) G ?_ hA₁.handled hroom (by omega) (by omega) (mem_list (cs := signsL.filter fun c => !decide (c ∈ z.cps.toList)) hl₂ hvs₂ hDf₂) fun s₉ t₉ kp₉ g₉ o₉ => ?_
    · exact B₈
    have X₉ := X₈.ret B kp₉ g₉ o₉
    have hstop : skipTo x.cps.toList (fun c => decide (c ∈ signsL.filter fun c => !decide (c ∈ z.cps.toList))) p = stopAt x p (fun c => decide (c ∈ z.cps.toList)) := by
      unfold stopAt
      refine skipTo_congr (fun c hcx => ?_) p
      have := hc c hcx
      simp [this]
    rw [hstop]
    generalize hst : stopAt x p (fun c => decide (c ∈ z.cps.toList)) = st
    refine stE X₉ fun s₁₀ X₁₀ => ?_
    have B₁₀ := bel_deep (env := ev9 s.heap.objs.size cd) B X₁₀
    refine wpAny_execs_cons (wpAny_If (wpAny_isTrue_Compare1 (ldE X₁₀ rfl (ldE X₁₀ rfl (PySem.P.lt_int (wpAny_truthy_bool ?_))))))
    by_cases hlt : st < np
    · rw [show decide ((st : Int) < ((np : Nat) : Int)) = true from decide_eq_true (by omega), if_pos rfl]
      obtain ⟨c, hcq⟩ : ∃ c, x.cps.toList[st]? = some c := ⟨_, List.getElem?_eq_getElem (by simp; omega)⟩
      have hc128 : c < 128 := by
        have h8 := hc c (List.mem_of_getElem? hcq)
        have h9 : ∀ d ∈ signsL, d < 128 := by decide
        exact h9 c h8
      have hr1 : (reprText ⟨#[c]⟩).length ≤ 12 := repr_one hc128
      have e9 : (Str.ofString "Found invalid character ").length = 24 := by decide
      have e1 : (Str.ofString " ").length = 1 := by decide
      have eat : (atText x st).length < 200 := by
        have := coordText_len x st (by omega)
        have h1 : (Str.ofString "(at ").length = 4 := by decide
        have h2 : (Str.ofString ")").length = 1 := by decide
        unfold atText
        rw [len_app, len_app]; omega
      refine wpAny_execs_cons (wpAny_Return_some (wpAny_BinOp (wpAny_BinOp (wpAny_BinOp (wpAny_Constant_str (Call_Name1 (ldB G B₁₀.stays rfl (PySem.callWith_builtin1 (Subscript_ (ldE (X₁₀.toks _) rfl (ldE (X₁₀.toks _) rfl (item_str_or hA₁.handled (fits_nat (by omega)) (fun q' => ?_) fun _ _ => ?_))))))))))))
      · exfalso
        simp only [Str.length] at q'
        omega
      rw [item_nat hcq]
      refine PySem.P.repr_of_str ?_ (small_line (by omega))
      refine SB.add (fun t' k => ?_) (small_line (by omega))
      refine wpAny_Constant_str (SB.add (fun t' k => ?_) (small_line (by rw [len_app]; omega)))
      refine Call_Name rfl (ldG G B₁₀.stays rfl (callWith_F (fnAtW G B₁₀.stays (n := 7) (by decide)) (spliced_more (ldE (X₁₀.toks _) rfl (spliced_more (ldE (X₁₀.toks _) rfl (spliced_none ⟨fnAtW G B₁₀.stays (n := 7) (by decide), ?_⟩)))))))
      refine law_at_spec (outer := ev9 s.heap.objs.size cd :: outer) (p := st) G ?_ (hA₁.le (by omega)) hx (by omega) fun s₁₁ t₁₁ kp₁₁ g₁₁ o₁₁ => ?_
      · exact B₁₀
      have X₁₁ : In s (frs outer) s.heap.objs.size _ _ s₁₁ := X₁₀.ret B kp₁₁ g₁₁ o₁₁
      refine SB.add (fun t' k => ?_) (small_line (by rw [len_app, len_app]; omega))
      refine hok _ _ ?_ X₁₁.kp X₁₁.gens X₁₁.os
      have hu : untilR x y p (fun c => decide (c ∈ z.cps.toList)) eof = .inr (foundText x st) := by
        unfold untilR
        rw [hne, if_neg (by decide), ← hnp, hst, if_pos hlt]
      rw [hu]
      refine ⟨t', ?_⟩
      have hj := join_text x (Str.ofString "Found invalid character " ++ reprText ⟨#[c]⟩) st
      unfold foundText
      rw [hcq]
      rw [← hj]
      rfl
    · rw [show decide ((st : Int) < ((np : Nat) : Int)) = false from decide_eq_false (by omega), if_neg (by decide)]
      refine wpAny_execs_nil (wpAny_execs_cons (wpAny_Return_some (ldE X₁₀ rfl ?_)))
      refine hok _ _ ?_ X₁₀.kp X₁₀.gens X₁₀.os
      have hu : untilR x y p (fun c => decide (c ∈ z.cps.toList)) eof = .inl np := by
        unfold untilR
        rw [hne, if_neg (by decide), ← hnp, hst, if_neg hlt]
      rw [hu]
      exact ⟨_, rfl⟩
  -- the end
  have fin : ∀ (s₆ : Shared) (f : Nat) (tf : Tok), In s (frs outer) s.heap.objs.size [(D, oD), (s.heap.objs.size + 1 + 1, o1), (s.heap.objs.size + 1, o2)] [("text", .str x tx), ("place", .int p tp), ("end_is_error", .bool eof), ("others", .ref D), ("found", .int (f : Nat) tf)] s₆ →
      p ≤ f → (∀ k, p ≤ k → k < f → ¬ StrLaws.At x y x.length k) → (x.cps.size ≤ f ∨ StrLaws.At x y x.length f) →
      wpAny (model prog w) (A.deeper (ev9 s.heap.objs.size cd)) (execs ((bodyOf 9).drop 3) (ev9 s.heap.objs.size cd)) (fun fl s' => Q (match fl with | .ret v => v | _ => .none) s')
        (fun e s' => wpAny (model prog w) (A.deeper (ev9 s.heap.objs.size cd)) (leaving (ev9 s.heap.objs.size cd) e) (fun _ s'' => E e s'') (fun e' s'' => E e' s'') s') s₆ := by
    intro s₆ f tf X₆ hpf hno hend
    have B₆ := bel_deep (env := ev9 s.heap.objs.size cd) B X₆
    have hfst := first_of hy0 hpf hno
    refine wpAny_execs_cons (wpAny_If (wpAny_isTrue_Compare1 (ldE X₆ rfl (len_call G B₆.stays (ldE X₆ rfl ⟨x, tx, rfl, by simp only [Str.length]; omega, fun t' k => PySem.P.ge_int (wpAny_truthy_bool ?_)⟩)))))
    by_cases hge : x.cps.size ≤ f
    · rw [show decide ((f : Int) ≥ ((x.length : Nat) : Int)) = true from decide_eq_true (by simp only [Str.length]; omega), if_pos rfl]
      have hnn := hfst.1 hge
      refine wpAny_execs_cons (wpAny_Assign_Name (len_call G B₆.stays (ldE (X₆.toks _) rfl ⟨x, tx, rfl, by simp only [Str.length]; omega, fun t' k => stE (X₆.toks _) fun s₇ X₇ => ?_⟩)))
      have B₇ := bel_deep (env := ev9 s.heap.objs.size cd) B X₇
      refine wpAny_execs_cons (wpAny_If (isTrue_plain (ldE X₇ rfl (wpAny_truthy_bool ?_))))
      cases eof with
      | false =>
        rw [if_neg (by decide)]
        refine wpAny_execs_nil (wpAny_execs_nil ?_)
        exact fin2 _ x.cps.size _ X₇ (by rw [hnn]; rfl) (Nat.le_refl _) (by simp)
      | true =>
        rw [if_pos rfl]
        have e9 : (Str.ofString "Expected ").length = 9 := by decide
        have e1 : (Str.ofString " ").length = 1 := by decide
        have eat : (atText x x.cps.size).length < 200 := by
          have := coordText_len x x.cps.size (by omega)
          have h1 : (Str.ofString "(at ").length = 4 := by decide
          have h2 : (Str.ofString ")").length = 1 := by decide
          unfold atText
          rw [len_app, len_app]; omega
        refine wpAny_execs_cons (wpAny_Return_some (wpAny_BinOp (wpAny_BinOp (wpAny_BinOp (wpAny_Constant_str (Call_Name1 (ldB G B₇.stays rfl (PySem.callWith_builtin1 (ldCell (c := s.heap.objs.size + 1) ⟨o2, X₇.get (.tail _ (.tail _ (.head _))), hd2⟩ (PySem.P.repr_of_str ?_ (small_line (by omega)))))))))))) 
        refine SB.add (fun t' k => ?_) (small_line (by omega))
        refine wpAny_Constant_str (SB.add (fun t' k => ?_) (small_line (by rw [len_app]; omega)))
        refine Call_Name rfl (ldG G B₇.stays rfl (callWith_F (fnAtW G B₇.stays (n := 7) (by decide)) (spliced_more (ldE (X₇.toks _) rfl (spliced_more (ldE (X₇.toks _) rfl (spliced_none ⟨fnAtW G B₇.stays (n := 7) (by decide), ?_⟩)))))))
        refine law_at_spec (outer := ev9 s.heap.objs.size cd :: outer) (p := x.cps.size) G ?_ (hA₁.le (by omega)) hx (by omega) fun s₈ t₈ kp₈ g₈ o₈ => ?_
        · exact B₇
        have X₈ : In s (frs outer) s.heap.objs.size _ _ s₈ := X₇.ret B kp₈ g₈ o₈
        refine SB.add (fun t' k => ?_) (small_line (by rw [len_app, len_app]; omega))
        refine hok _ _ ?_ X₈.kp X₈.gens X₈.os
        have hu : untilR x y p (fun c => decide (c ∈ z.cps.toList)) true = .inr (expectText x y) := by unfold untilR; rw [hnn]; rfl
        rw [hu]
        exact ⟨t', by rw [show expectText x y = _ from join_text _ _ _]⟩
    · rw [show decide ((f : Int) ≥ ((x.length : Nat) : Int)) = false from decide_eq_false (by simp only [Str.length]; omega), if_neg (by decide)]
      have hat := hend.resolve_left hge
      refine wpAny_execs_nil ?_
      exact fin2 _ f _ (X₆.toks _) (by rw [hfst.2 hat]; rfl) (by omega) (by rw [hfst.2 hat]; rfl)
  refine wpAny_execs_cons (wpAny_While (codeAny_whileLoop (fun m s' => ∃ f tf, In s (frs outer) s.heap.objs.size [(D, oD), (s.heap.objs.size + 1 + 1, o1), (s.heap.objs.size + 1, o2)] [("text", .str x tx), ("place", .int p tp), ("end_is_error", .bool eof), ("others", .ref D), ("found", .int (f : Nat) tf)] s' ∧
    p ≤ f ∧ (∀ k, p ≤ k → k < f → ¬ StrLaws.At x y x.length k) ∧ m = x.cps.size - f) ?turn _ ⟨_, _, X₅, skipTo_ge _ _ _, (hso p).1, rfl⟩))
  rintro m s' ⟨f, tf, X', hpf, hno, hm⟩
  have B' := bel_deep (env := ev9 s.heap.objs.size cd) B X'
  refine isTrue_and (wpAny_isTrue_Compare1 (ldE X' rfl (len_call G B'.stays (ldE X' rfl ⟨x, tx, rfl, by simp only [Str.length]; omega, fun t' k => PySem.P.lt_int (wpAny_truthy_bool ?_)⟩))))
  by_cases hlt : f < x.cps.size
  · rw [show decide ((f : Int) < ((x.length : Nat) : Int)) = true from decide_eq_true (by simp only [Str.length]; omega), if_pos rfl]
    refine isTrue_and (wpAny_isTrue_Compare1 (wpAny_Subscript_str_slice (ldE (X'.toks _) rfl (ldE (X'.toks _) rfl (wpAny_BinOp (ldE (X'.toks _) rfl (len_call G B'.stays (ldCell (c := s.heap.objs.size + 1) ⟨o2, X'.get (.tail _ (.tail _ (.head _))), hd2⟩ ⟨y, ty, rfl, by simp only [Str.length]; omega, fun t'' k' => PySem.P.add_int ?_⟩))))))))
    refine ⟨x, tx, some ((f : Int), tf), some (((f + y.length : Nat) : Int), _), rfl, rfl, rfl, slice_post (small_line (by simp only [Str.length]; omega)) fun t3 k3 => ?_⟩
    have X'' : In s (frs outer) s.heap.objs.size [(D, oD), (s.heap.objs.size + 1 + 1, o1), (s.heap.objs.size + 1, o2)] _ { s' with heap := s'.heap.push { cls := .type "slice", data := .fields #[.int (f : Nat) tf, .int ((f + y.length : Nat) : Int) k', .none] }, toks := k3 } := X'.grow fun b ob e => Heap.get?_push_of_some _ e
    refine ldCell (c := s.heap.objs.size + 1) ⟨o2, X''.get (.tail _ (.tail _ (.head _))), hd2⟩ (PySem.P.ne_str (wpAny_truthy_bool ?_))
    by_cases hat : StrLaws.At x y x.length f
    · rw [show ((sub x f (f + y.length)).cps.toList != y.cps.toList) = false from by rw [(at_iff x y f hylen).mp hat]; simp, if_neg (by decide), if_neg (by decide)]
      refine wpAny_execs_nil ?_
      exact fin _ f tf X'' hpf hno (.inr hat)
    · rw [show ((sub x f (f + y.length)).cps.toList != y.cps.toList) = true from by simpa using fun h => hat ((at_iff x y f hylen).mpr h), if_pos rfl]
      refine isTrue_and_nil ?_
      rw [if_pos rfl]
      have B'' := bel_deep (env := ev9 s.heap.objs.size cd) B X''
      refine wpAny_execs_cons (wpAny_Assign_Name (Call_Name rfl (ldG G B''.stays rfl (callWith_F (fnAtW G B''.stays (n := 2) (by decide)) (spliced_more (ldE X'' rfl (spliced_more (wpAny_BinOp (ldE X'' rfl (wpAny_Constant_int (PySem.P.add_int (spliced_more (ldE (X''.toks _) rfl (spliced_none ⟨fnAtW G B''.stays (n := 2) (by decide), ?_⟩))))))))))))))
      refine skip_chars_spec (outer := ev9 s.heap.objs.size cd :: outer) (p := f + 1) G ?_ hA₁.handled hroom (by omega) (by omega) (mem_list (cs := signsL.filter fun c => decide (c ≠ y₀)) (hlD _ ?_) hvs hDf) fun s₇ t₇ kp₇ g₇ o₇ => ?_
      · exact B''
      · exact X''.get (.head _)
      have X₇ := X''.ret B kp₇ g₇ o₇
      refine stE X₇ fun s₈ X₈ => wpAny_execs_nil ?_
      have hge := skipTo_ge x.cps.toList (fun c => decide (c ∈ signsL.filter fun c => decide (c ≠ y₀))) (f + 1)
      refine ⟨_, by omega, _, _, X₈, by omega, fun k h1 h2 => ?_, rfl⟩
      rcases Nat.lt_trichotomy k f with h3 | h3 | h3
      · exact hno k h1 h3
      · rw [h3]; exact hat
      · exact (hso (f + 1)).1 k h3 h2
  · rw [show decide ((f : Int) < ((x.length : Nat) : Int)) = false from decide_eq_false (by simp only [Str.length]; omega), if_neg (by decide), if_neg (by decide)]
    refine wpAny_execs_nil ?_
    exact fin _ f tf (X'.toks _) hpf hno (.inl (by omega))
end
end Mine

end

section -- part 24
open PySem PySem.W PyProof.Rows PySem.Calls
open PySem.Builtin PySem.Builtin.Str
set_option maxRecDepth 100000
set_option linter.unusedVariables false
namespace Mine

/-! ## rules that speak of Fr and News, used within In -/
def allObjs (h : Heap) (L : Addr) : List (Addr × Obj) := (List.range h.objs.size).filterMap fun a => if a = L then none else (h.get? a).map fun o => (a, o)
theorem mem_allObjs {h : Heap} {L : Addr} {p : Addr × Obj} : p ∈ allObjs h L ↔ h.get? p.1 = some p.2 ∧ p.1 ≠ L := by
  unfold allObjs
  rw [List.mem_filterMap]
  constructor
  · rintro ⟨a, _, h2⟩
    by_cases hL : a = L
    · simp [hL] at h2
    · rw [if_neg hL] at h2
      obtain ⟨o, ho, rfl⟩ := Option.map_eq_some_iff.mp h2
      exact ⟨ho, hL⟩
  · rintro ⟨h1, h2⟩
    refine ⟨p.1, List.mem_range.mpr (Heap.lt_size h1), ?_⟩
    rw [if_neg h2, h1]; rfl
abbrev heap0 : Heap := { objs := #[] }
theorem heap0_none (a : Addr) : heap0.get? a = none := Heap.get?_none_of_le (Nat.zero_le _)
theorem all_news (h : Heap) (L : Addr) : News heap0 L h (allObjs h L) := fun p hp => ⟨(mem_allObjs.mp hp).1, (mem_allObjs.mp hp).2, heap0_none _⟩
theorem fr0 {h : Heap} {L : Addr} {m : Str → Option Value} (hn : h.Ns L m) : Fr heap0 L h m := ⟨hn, fun b o e => (by rw [heap0_none] at e; cases e), Nat.zero_le _⟩
theorem In.fr0 {s₀ s : Shared} {fs : List Addr} {L : Addr} {own : List (Addr × Obj)} {l : List (Str × Value)} (X : In s₀ fs L own l s) {h' : Heap} {t : Nat} (F : Fr heap0 L h' (lk l)) (N : News heap0 L h' (allObjs s.heap L)) : In s₀ fs L own l { s with heap := h', toks := t } := by
  have hk : ∀ b o, b ∉ [L] → s.heap.get? b = some o → h'.get? b = some o := fun b o hb e => (N (b, o) (mem_allObjs.mpr ⟨e, by simpa using hb⟩)).1
  exact X.jump (as := [L]) (fun a ha => .inl (by simpa using ha)) hk F.ns fun p hp => ⟨hk _ _ (by simpa using (X.own p hp).2.2) (X.own p hp).1, (X.own p hp).2⟩

section
variable {prog : Program} {w : World} {A : Around} {E : Value → Shared → Prop} {s₀ s : Shared} {env : Env} {fs : List Addr} {L : Addr} {own : List (Addr × Obj)} {l : List (Str × Value)}
theorem min_in {D : Addr} {vs : List Value} {ns : List Int} {Q : Value → Shared → Prop} (X : In s₀ fs L own l s) (hh : A.handled = none) (hl : s.heap.IsList D vs.toArray) (hi : IntsAre vs ns) (hne : 0 < ns.length)
    (h : ∀ s' M t, In s₀ fs L own l s' → M ∈ ns → (∀ a ∈ ns, M ≤ a) → Q (.int M t) s') : wpAny (model prog w) A (call (.builtin "min") [.ref D]) Q E s :=
  min_list_N hh (Mine.fr0 X.ns) (all_news _ _) hl hi hne fun h' M t tk F N h1 h2 => h _ M t (X.fr0 F N) h1 h2
theorem max_in {D : Addr} {vs : List Value} {ns : List Int} {Q : Value → Shared → Prop} (X : In s₀ fs L own l s) (hh : A.handled = none) (hl : s.heap.IsList D vs.toArray) (hi : IntsAre vs ns) (hne : 0 < ns.length)
    (h : ∀ s' M t, In s₀ fs L own l s' → M ∈ ns → (∀ a ∈ ns, a ≤ M) → Q (.int M t) s') : wpAny (model prog w) A (call (.builtin "max") [.ref D]) Q E s :=
  max_list_N hh (Mine.fr0 X.ns) (all_news _ _) hl hi hne fun h' M t tk F N h1 h2 => h _ M t (X.fr0 F N) h1 h2

theorem notCode_list {h : Heap} {a : Addr} {items : Array Value} (hl : h.IsList a items) : NotCode h a := fun o vs q t e hd => by
  obtain ⟨o', h1, _, n, h2⟩ := hl
  rw [e] at h1; cases h1; rw [hd] at h2; cases h2

/-- a comprehension whose element calls own functions -/
theorem comp_calls {elt iter : Expr} {x y : Str} {px py : Pos} {scope : Scope} {cl : List (Str × Addr)} {pos spos : Pos} {Q : Flow → Shared → Prop}
    (hsw : swapsWith (.ListComp elt [⟨.Name x px, iter, [], 0⟩] scope pos) (some (.Name y py)) spos.line env = pure true) (hclos : closureFor scope env = pure cl)
    (h : wpAny (model prog w) A (eval iter env) (fun xv s₁ => wpAny (model prog w) A (pyIter xv) (fun it s₂ => ∃ (I : Addr) (n : Nat) (P : Nat → Value → Prop) (St : Nat → Heap → Prop) (oI : Obj) (F : Nat → Value → Prop), it = .ref I ∧ Wk prog w A I [I] n P St ∧ n ≤ 1000 ∧ St 0 s₂.heap ∧ In s₀ fs L ((I, oI) :: own) l s₂ ∧ (∀ p ∈ own, p.1 ≠ I) ∧
      (∀ C m i v own' s₃ E', i < n → P i v → s₃.heap.Ns C m → m x = some v → In s₀ fs L (own' ++ own) l s₃ → wpAny (model prog w) A (eval elt (compEnvC scope cl C env)) (fun y s₄ => In s₀ fs L (own' ++ own) l s₄ ∧ F i y) E' s₃) ∧
      ∀ D oD ys s', In s₀ fs L ((D, oD) :: own) (put y (.ref D) l) s' → s'.heap.IsList D ys → ys.size = n → (∀ j y, ys[j]? = some y → F j y) → Q .next s') E s₁) E s)
    (hcell : ∀ y ∈ scope.names, y.2 ≠ .cell := by decide) (hkind : scope.kind = .function := by rfl)
    (hnames : ∀ y ∈ scope.names, y.2 = .local → scope.names.lookup y.1 = some .local := by decide) (hx : scope.names.lookup x = some .local := by rfl)
    (hs : ∀ x, foldedSetIterable iter env x = pure x := by intro _; rfl) (hL : env.locals = L := by rfl) (hke : env.scope.kind = .function := by rfl) (hy : env.kindOf y = some .local := by rfl) :
    wpAny (model prog w) A (exec (.Assign [.Name y py] (.ListComp elt [⟨.Name x px, iter, [], 0⟩] scope pos) spos) env) Q E s := by
  subst hL
  rw [exec_Assign_Name_used _ _ _ _ hsw]
  refine wpAny_bind (wpAny_standAt (wpAny_bind ?_))
  show wpAny _ A (do let _ ← comprehension (.ListComp elt [⟨.Name x px, iter, [], 0⟩] scope pos) scope env _ (newList []) false (eval iter env) (some (assign (.Name y py) env))) _ _ s
  refine wpAny_bind (wpAny_mono (wpAny_comprehension_free (use := some (assign (.Name y py) env)) (Q := fun _ s' => Q .next s') rfl hs hclos hkind hnames
    (wpAny_mono h (fun xv s₁ h₁ => wpAny_mono h₁ (fun it s₂ h₂ => ?_) fun _ _ e => e) fun _ _ e => e)) (fun _ s' hq => wpAny_pure (wpAny_pure hq)) fun _ _ e => e)
  obtain ⟨I, n, P, St, oI, F, rfl, W, hn, hst, X, hne, helt, hQ⟩ := h₂
  refine wpAny_newObj_type (wpAny_newFunctionEnv hcell (by intro y hy; simp at hy) (fun h₁ hns₁ hsb₁ => ?_) hkind)
  dsimp only at hns₁ hsb₁ ⊢
  generalize hoD : ({ cls := .type "list", dict := none, data := .seq ([] : List Value).toArray } : Obj) = oD at hns₁ hsb₁ ⊢
  have hfrD : oD.isFreed = false := by rw [← hoD]; rfl
  generalize hH2 : s₂.heap.push oD = H2 at hns₁ hsb₁ ⊢
  generalize hN : s₂.heap.objs.size = N at *
  have hC : H2.objs.size = N + 1 := by rw [← hH2, Heap.size_push, hN]
  have hIlt : I < N := hN ▸ Heap.lt_size (X.get (.head _))
  have hol : ∀ p ∈ own, p.1 < N := fun p hp => hN ▸ Heap.lt_size (X.own p (.tail _ hp)).1
  have old : ∀ b o, s₂.heap.get? b = some o → h₁.get? b = some o := fun b o e => hsb₁.extBut b o (by rw [hC]; exact Nat.ne_of_lt (Nat.lt_succ_of_lt (hN ▸ Heap.lt_size e))) (Heap.get?_push_of_some _ (hH2 ▸ Heap.get?_push_of_some _ e))
  have hDD : h₁.get? N = some oD := hsb₁.extBut _ _ (by rw [hC]; exact Nat.ne_of_lt (Nat.lt_succ_self _)) (Heap.get?_push_of_some _ (hH2 ▸ hN ▸ Heap.get?_push_size _ hfrD))
  have hnone : ∀ a, N ≤ a → s₀.heap.get? a = none := fun a ha => by
    refine Heap.get?_none_of_le (Nat.le_trans X.size ?_)
    rw [hN]; exact ha
  have hLlt : env.locals < N := hN ▸ X.lsize
  generalize hCe : H2.objs.size = C at *
  have hNlC : N < C := by rw [hC]; exact Nat.lt_succ_self _
  have hNC : N ≠ C := Nat.ne_of_lt hNlC
  have hIN : I ≠ N := Nat.ne_of_lt hIlt
  have hIC : I ≠ C := Nat.ne_of_lt (Nat.lt_trans hIlt hNlC)
  have hLN : env.locals ≠ N := Nat.ne_of_lt hLlt
  have hLC : env.locals ≠ C := Nat.ne_of_lt (Nat.lt_trans hLlt hNlC)
  have hLI : env.locals ≠ I := Ne.symm (X.own _ (.head _)).2.2
  have hoN : ∀ p ∈ own, p.1 ≠ N := fun p hp => Nat.ne_of_lt (hol p hp)
  have hoC' : ∀ p ∈ own, p.1 ≠ C := fun p hp => Nat.ne_of_lt (Nat.lt_trans (hol p hp) hNlC)
  obtain ⟨oC, _, _, hoC, _⟩ := id hns₁
  have X₁ : In s₀ fs env.locals ((C, oC) :: (N, oD) :: (I, oI) :: own) l { s₂ with heap := h₁, toks := s₂.toks + ([] : List (Str × Value)).length } := by
    refine X.jump (as := []) (fun a ha => nomatch ha) (fun b o _ e => old b o e) (X.ns.keeps old) fun p hp => ?_
    rcases List.mem_cons.mp hp with rfl | hp
    · exact ⟨hoC, hnone _ (Nat.le_of_lt hNlC), Ne.symm hLC⟩
    rcases List.mem_cons.mp hp with rfl | hp
    · exact ⟨hDD, hnone _ (Nat.le_refl _), Ne.symm hLN⟩
    · exact ⟨old _ _ (X.own p hp).1, (X.own p hp).2⟩
  have hl₁ : h₁.IsList N #[] := ⟨oD, hDD, by rw [← hoD], 0, by rw [← hoD]⟩
  have hxl : (compEnvC scope cl C env).kindOf x = some .local := lookup_relabel_local hx
  have loop : ∀ s₃ : Shared, s₃ = { s₂ with heap := h₁, toks := s₂.toks + ([] : List (Str × Value)).length } →
      codeAny (model prog w) A (.compLoop (.ListComp elt [⟨.Name x px, iter, [], 0⟩] scope pos) 0 (.ref I) (.ref N) (compEnvC scope cl C env))
        (compPost (model prog w) A E (some (assign (.Name y py) env)) (fun _ s' => Q .next s') (.ref N) C) s₃ := by
    rintro s₃ rfl
    refine codeAny_compLoop_list (fun k s' => ∃ i oI oD oC m ys, In s₀ fs env.locals ((C, oC) :: (N, oD) :: (I, oI) :: own) l s' ∧ St i s'.heap ∧ s'.heap.IsList N ys ∧ s'.heap.Ns C m ∧ ys.size = i ∧ (∀ j y, ys[j]? = some y → F j y) ∧ i ≤ n ∧ k = n + 1 - i) ?_ (n + 1)
      ⟨0, oI, oD, oC, _, #[], X₁, W.frame _ _ _ hst fun b _ o e => old b o e, hl₁, hns₁, rfl, fun j y e => by simp at e, Nat.zero_le _, rfl⟩
    rintro k s' ⟨i, oI', oD', oC', m, ys, X', hst', hl', hn', hsz, hF, hi, rfl⟩
    obtain ⟨o, ho, hno⟩ := W.at' i _ hst'
    have hoe : o = oI' := by rw [X'.get (.tail _ (.tail _ (.head _)))] at ho; exact (Option.some.inj ho).symm
    subst hoe
    have hncI : NotCode s'.heap I := fun ob vs q t e hd => by rw [ho] at e; cases e; exact hno vs q t hd
    by_cases hlt : i < n
    · refine W.item i s' _ _ hlt hst' fun v h₂ tk₂ hPv hst₂ hk₂ => ?_
      obtain ⟨o₂, ho₂, hno₂⟩ := W.at' (i + 1) _ hst₂
      have X₂ : In s₀ fs env.locals ((C, oC') :: (N, oD') :: (I, o₂) :: own) l { s' with heap := h₂, toks := tk₂ } := by
        refine X'.jump (as := [I]) (fun a ha => ?_) hk₂ (X'.ns.at' fun o e => hk₂ _ o (by simpa using hLI) e) fun p hp => ?_
        · simp at ha; subst ha; exact .inr ⟨(X'.own _ (.tail _ (.tail _ (.head _)))).2.1, hncI⟩
        rcases List.mem_cons.mp hp with rfl | hp
        · exact ⟨hk₂ _ _ (by simpa using Ne.symm hIC) (X'.get (.head _)), (X'.own _ (.head _)).2⟩
        rcases List.mem_cons.mp hp with rfl | hp
        · exact ⟨hk₂ _ _ (by simpa using Ne.symm hIN) (X'.get (.tail _ (.head _))), (X'.own _ (.tail _ (.head _))).2⟩
        rcases List.mem_cons.mp hp with rfl | hp
        · exact ⟨ho₂, (X'.own _ (.tail _ (.tail _ (.head _)))).2⟩
        · exact ⟨hk₂ _ _ (by simpa using hne p hp) (X'.get (.tail _ (.tail _ (.tail _ hp)))), (X'.own _ (.tail _ (.tail _ (.tail _ hp)))).2⟩
      have hn₂ : h₂.Ns C m := hn'.at' fun o e => hk₂ _ o (by simpa using Ne.symm hIC) e
      refine wpAny_assign_Name (wpAny_storeName_local hxl hn₂ (fun h₃ hn₃ hs₃ => ?_) (by simp [compEnvC, relabel, hkind]))
      have hn₃ : h₃.Ns C (fun y => if y = x then some v else m y) := hn₃
      have hs₃ : Heap.SameBut C h₂ h₃ := hs₃
      obtain ⟨oC₃, _, _, hoC₃, _⟩ := id hn₃
      have X₃ : In s₀ fs env.locals ((C, oC₃) :: (N, oD') :: (I, o₂) :: own) l { s' with heap := h₃, toks := tk₂ + 1 } := by
        refine X₂.jump (as := [C]) (fun a ha => ?_) (fun b o hb e => hs₃.extBut b o (by simpa using hb) e) (X₂.ns.at' fun o e => hs₃.extBut _ o hLC e) fun p hp => ?_
        · simp at ha; subst ha; exact .inr ⟨(X₂.own _ (.head _)).2.1, notCode_ns hn₂⟩
        rcases List.mem_cons.mp hp with rfl | hp
        · exact ⟨hoC₃, (X₂.own _ (.head _)).2⟩
        · refine ⟨hs₃.extBut _ _ ?_ (X₂.own p (.tail _ hp)).1, (X₂.own p (.tail _ hp)).2⟩
          rcases List.mem_cons.mp hp with rfl | hp
          · exact hNC
          rcases List.mem_cons.mp hp with rfl | hp
          · exact hIC
          · exact hoC' p hp
      refine wpAny_mono (helt C _ i v [(C, oC₃), (N, oD'), (I, o₂)] _ _ hlt hPv hn₃ (by simp) X₃) (fun yv s₄ h₄ => ?_) fun _ _ e => e
      obtain ⟨X₄, hFy⟩ := h₄
      have X₄ : In s₀ fs env.locals ((C, oC₃) :: (N, oD') :: (I, o₂) :: own) l s₄ := X₄
      have hl₄ : s₄.heap.IsList N ys := by
        obtain ⟨o', h5, h6⟩ := hl'
        rw [X'.get (.tail _ (.head _))] at h5; cases h5
        exact ⟨_, X₄.get (.tail _ (.head _)), h6⟩
      refine wpAny_list_append hl₄ (fun h₅ hl₅ hs₅ => ?_) (small_line (by omega))
      obtain ⟨oD₅, hoD₅, _⟩ := id hl₅
      have X₅ : In s₀ fs env.locals ((C, oC₃) :: (N, oD₅) :: (I, o₂) :: own) l { s₄ with heap := h₅ } := by
        refine X₄.jump (as := [N]) (t := s₄.toks) (fun a ha => ?_) (fun b o hb e => hs₅.extBut b o (by simpa using hb) e) (X₄.ns.at' fun o e => hs₅.extBut _ o hLN e) fun p hp => ?_
        · simp at ha; subst ha; exact .inr ⟨(X₄.own _ (.tail _ (.head _))).2.1, notCode_list hl₄⟩
        rcases List.mem_cons.mp hp with rfl | hp
        · exact ⟨hs₅.extBut _ _ (Ne.symm hNC) (X₄.get (.head _)), (X₄.own _ (.head _)).2⟩
        rcases List.mem_cons.mp hp with rfl | hp
        · exact ⟨hoD₅, (X₄.own _ (.tail _ (.head _))).2⟩
        · refine ⟨hs₅.extBut _ _ ?_ (X₄.own p (.tail _ (.tail _ hp))).1, (X₄.own p (.tail _ (.tail _ hp))).2⟩
          rcases List.mem_cons.mp hp with rfl | hp
          · exact hIN
          · exact hoN p hp
      refine ⟨n + 1 - (i + 1), by omega, i + 1, o₂, oD₅, oC₃, _, ys.push yv, X₅, W.frame _ _ _ hst₂ fun b hb o e => ?_, hl₅, hn₃.at' fun o e => ?_, by simp [hsz], fun j u hj => ?_, hlt, rfl⟩
      · simp at hb; subst hb
        rw [ho₂] at e; cases e
        exact X₅.get (.tail _ (.tail _ (.head _)))
      · rw [hoC₃] at e; cases e
        exact X₅.get (.head _)
      · rw [Array.getElem?_push] at hj
        split at hj
        · rename_i hje
          cases hj; rw [hje, hsz]; exact hFy
        · exact hF j u hj
    · have hin : i = n := by omega
      subst hin
      refine W.done s' _ _ hst' fun h₂ tk₂ hk₂ => ?_
      have X₂ : In s₀ fs env.locals ((C, oC') :: (N, oD') :: own) l { s' with heap := h₂, toks := tk₂ } := by
        refine X'.jump (as := [I]) (fun a ha => ?_) hk₂ (X'.ns.at' fun o e => hk₂ _ o (by simpa using hLI) e) fun p hp => ?_
        · simp at ha; subst ha; exact .inr ⟨(X'.own _ (.tail _ (.tail _ (.head _)))).2.1, hncI⟩
        rcases List.mem_cons.mp hp with rfl | hp
        · exact ⟨hk₂ _ _ (by simpa using Ne.symm hIC) (X'.get (.head _)), (X'.own _ (.head _)).2⟩
        rcases List.mem_cons.mp hp with rfl | hp
        · exact ⟨hk₂ _ _ (by simpa using Ne.symm hIN) (X'.get (.tail _ (.head _))), (X'.own _ (.tail _ (.head _))).2⟩
        · exact ⟨hk₂ _ _ (by simpa using hne p hp) (X'.get (.tail _ (.tail _ (.tail _ hp)))), (X'.own _ (.tail _ (.tail _ (.tail _ hp)))).2⟩
      show wpAny _ A (assign (.Name y py) env (.ref N)) _ _ _
      refine wpAny_assign_Name (stE X₂ (fun s₃ X₃ => ?_) rfl hke hy)
      have hn₃ : s₃.heap.Ns C m := hn'.at' fun o e => by
        rw [X'.get (.head _)] at e; cases e
        exact X₃.get (.head _)
      refine ⟨m, hn₃, fun h₄ hs₄ => ?_⟩
      have X₄ : In s₀ fs env.locals ((N, oD') :: own) (put y (.ref N) l) { s₃ with heap := h₄ } := by
        refine X₃.jump (as := [C]) (t := s₃.toks) (fun a ha => ?_) (fun b o hb e => hs₄.extBut b o (by simpa using hb) e) (X₃.ns.at' fun o e => hs₄.extBut _ o hLC e) fun p hp => ?_
        · simp at ha; subst ha; exact .inr ⟨(X₃.own _ (.head _)).2.1, notCode_ns hn₃⟩
        · refine ⟨hs₄.extBut _ _ ?_ (X₃.own p (.tail _ hp)).1, (X₃.own p (.tail _ hp)).2⟩
          rcases List.mem_cons.mp hp with rfl | hp
          · exact hNC
          · exact hoC' p hp
      refine hQ N oD' ys _ X₄ ?_ hsz hF
      obtain ⟨o', h5, h6⟩ := hl'
      rw [X'.get (.tail _ (.head _))] at h5; cases h5
      exact ⟨_, X₄.get (.head _), h6⟩
  refine codeAny_compStart_list ?_ (W.self 0 _ _ _ (W.frame _ _ _ hst fun b _ o e => old b o e) ?_)
  · exact loop _ rfl
  · exact loop _ rfl
end
end Mine

end

section -- part 25
open PySem PySem.W PyProof.Rows PySem.Calls
open PySem.Builtin PySem.Builtin.Str
set_option maxRecDepth 100000
set_option linter.unusedVariables false
namespace Mine

section
variable {prog : Program} {w : World} {A : Around} {E : Value → Shared → Prop} {s₀ s : Shared} {env : Env} {fs : List Addr} {L : Addr} {own : List (Addr × Obj)} {l : List (Str × Value)}
theorem add_in {a b : Addr} {vs ws : List Value} {Q : Value → Shared → Prop} (X : In s₀ fs L own l s) (hl : s.heap.IsList a vs.toArray) (hb : s.heap.IsList b ws.toArray) (hsz : vs.length + ws.length ≤ 10000)
    (h : ∀ h' D oD, In s₀ fs L ((D, oD) :: own) l { s with heap := h' } → oD.cls = .type "list" → (∃ n, oD.data = .seq (vs ++ ws).toArray n) → Q (.ref D) { s with heap := h' }) : wpAny (model prog w) A (binaryOp .Add (.ref a) (.ref b)) Q E s := by
  refine add_lists (Mine.fr0 X.ns) (all_news _ _) hl hb (fun h' F N => ?_) (small_line (by omega))
  have X' : In s₀ fs L own l { s with heap := h' } := X.fr0 (t := s.toks) F fun p hp => N p (.tail _ hp)
  have hN := N _ (.head _)
  exact h h' _ _ (X'.hold hN.1 (Heap.get?_none_of_le X.size) hN.2.1) rfl ⟨0, rfl⟩
theorem isList_of {h : Heap} {D : Addr} {oD : Obj} {items : Array Value} (e : h.get? D = some oD) (hc : oD.cls = .type "list") (hd : ∃ n, oD.data = .seq items n) : h.IsList D items := ⟨oD, e, hc, hd⟩
theorem In.mkList (X : In s₀ fs L own l s) (vs : List Value) (t : Nat) : In s₀ fs L ((s.heap.objs.size, ({ cls := .type "list", data := .seq vs.toArray } : Obj)) :: own) l { s with heap := s.heap.push { cls := .type "list", data := .seq vs.toArray }, toks := t } :=
  X.grow1 (fun b ob e => Heap.get?_push_of_some _ e) (Heap.get?_push_size _ rfl) (Nat.le_refl _)
end

/-! ## plain: first places -/
theorem skipTo_true (cs : List Nat) (p : Nat) : skipTo cs (fun _ => true) p = max p cs.length := by
  unfold skipTo
  have : (cs.drop p).takeWhile (fun _ => true) = cs.drop p := by
    generalize cs.drop p = l
    induction l with
    | nil => rfl
    | cons a r ih => rw [List.takeWhile_cons, if_pos rfl, ih]
  rw [this, List.length_drop]
  omega
theorem firstAt_le (x y : Str) (p : Nat) : (firstAt x y p).getD x.cps.size ≤ x.cps.size := by
  rcases firstAt_spec x y p with ⟨h0, _⟩ | ⟨i, h0, _, hAt, _⟩
  · rw [h0]; exact Nat.le_refl _
  · rw [h0]
    have := hAt.1
    simp only [Str.length] at this
    show i ≤ _
    omega
theorem untilR_plain (x y : Str) (p : Nat) : untilR x y p (fun c => decide (c ∈ (Str.ofString "").cps.toList)) false = .inl ((firstAt x y p).getD x.cps.size) := by
  unfold untilR
  rw [Bool.and_false, if_neg (by decide), if_neg]
  unfold stopAt
  have e : (fun c => !decide (c ∈ (Str.ofString "").cps.toList)) = fun _ : Nat => true := by
    funext c
    have : (Str.ofString "").cps.toList = [] := by decide
    rw [this]; simp
  rw [e, skipTo_true]
  have := firstAt_le x y p
  simp only [Array.length_toList]
  omega
theorem firstAt_one (x : Str) (c p : Nat) : (∀ k, p ≤ k → k < (firstAt x ⟨#[c]⟩ p).getD x.cps.size → x.cps.toList[k]? ≠ some c) ∧
    ((firstAt x ⟨#[c]⟩ p = none) ∨ ∃ i, firstAt x ⟨#[c]⟩ p = some i ∧ p ≤ i ∧ x.cps.toList[i]? = some c) := by
  have key : ∀ k, StrLaws.At x ⟨#[c]⟩ x.length k ↔ x.cps.toList[k]? = some c := fun k => StrLaws.subAt_one x c k
  rcases firstAt_spec x ⟨#[c]⟩ p with ⟨h0, h1⟩ | ⟨i, h0, h1, h2, h3⟩
  · exact ⟨fun k hk _ e => h1 k hk ((key k).mpr e), .inl h0⟩
  · refine ⟨fun k hk hlt e => h3 k hk ?_ ((key k).mpr e), .inr ⟨i, h0, h1, (key i).mp h2⟩⟩
    rw [h0] at hlt; exact hlt

/-- the least of the first places -/
theorem least_first {x : Str} {os : List Nat} {p : Nat} {M : Int} (hM : M ∈ os.map (fun c => (((firstAt x ⟨#[c]⟩ p).getD x.cps.size : Nat) : Int)) ++ [(x.cps.size : Int)])
    (hle : ∀ a ∈ os.map (fun c => (((firstAt x ⟨#[c]⟩ p).getD x.cps.size : Nat) : Int)) ++ [(x.cps.size : Int)], M ≤ a) :
    max (p : Int) M = (skipTo x.cps.toList (fun c => !decide (c ∈ os)) p : Nat) := by
  have hlast : M ≤ (x.cps.size : Int) := hle _ (by simp)
  have hnn : ∃ m : Nat, M = (m : Int) ∧ (m = x.cps.size ∨ ∃ c ∈ os, m = (firstAt x ⟨#[c]⟩ p).getD x.cps.size) := by
    rcases List.mem_append.mp hM with h | h
    · obtain ⟨c, hc, rfl⟩ := List.mem_map.mp h
      exact ⟨_, rfl, .inr ⟨c, hc, rfl⟩⟩
    · simp at h; exact ⟨_, h, .inl rfl⟩
  obtain ⟨m, rfl, hm⟩ := hnn
  have hlen : x.cps.toList.length = x.cps.size := Array.length_toList
  by_cases hp : x.cps.size ≤ p
  · rw [skipTo_end (by rw [hlen]; exact hp)]
    omega
  · have hp' : p < x.cps.size := by omega
    have h1 : p ≤ m := by
      rcases hm with rfl | ⟨c, hc, rfl⟩
      · omega
      · rcases (firstAt_one x c p).2 with h | ⟨i, h, hi, _⟩
        · rw [h]; show p ≤ x.cps.size; omega
        · rw [h]; exact hi
    have h2 : ∀ k, p ≤ k → k < m → ∀ c ∈ os, x.cps.toList[k]? ≠ some c := by
      intro k hk1 hk2 c hc
      refine (firstAt_one x c p).1 k hk1 ?_
      have := hle (((firstAt x ⟨#[c]⟩ p).getD x.cps.size : Nat) : Int) (List.mem_append_left _ (List.mem_map.mpr ⟨c, hc, rfl⟩))
      omega
    have hge := skipTo_ge x.cps.toList (fun c => !decide (c ∈ os)) p
    have hsle := skipTo_le (P := fun c => !decide (c ∈ os)) (p := p) (cs := x.cps.toList) (by omega)
    have h3 : m = skipTo x.cps.toList (fun c => !decide (c ∈ os)) p := by
      rcases Nat.lt_trichotomy m (skipTo x.cps.toList (fun c => !decide (c ∈ os)) p) with h | h | h
      · exfalso
        obtain ⟨c, hc1, hc2⟩ := skipTo_mem _ p rfl m h1 h
        rcases hm with rfl | ⟨d, hd, rfl⟩
        · omega
        · rcases (firstAt_one x d p).2 with h4 | ⟨i, h4, hi, h5⟩
          · rw [h4] at h; have h : x.cps.size < _ := h; omega
          · rw [h4] at hc1
            have hc1 : x.cps.toList[i]? = some c := hc1
            rw [h5] at hc1; cases hc1
            simp [hd] at hc2
      · exact h
      · exfalso
        obtain ⟨c, hc⟩ : ∃ c, x.cps.toList[skipTo x.cps.toList (fun c => !decide (c ∈ os)) p]? = some c := ⟨_, List.getElem?_eq_getElem (by omega)⟩
        have h4 := skipTo_stop' _ p rfl c hc
        simp at h4
        exact h2 _ hge h c h4 hc
    rw [← h3]; omega

theorem ints_of {f : Nat → Int} : ∀ {xs : List Nat} {vs : List Value}, vs.length = xs.length → (∀ (j : Nat) v, vs[j]? = some v → ∃ c t, xs[j]? = some c ∧ v = Value.int (f c) t) → IntsAre vs (xs.map f)
  | [], [], _, _ => .nil
  | [], _ :: _, h, _ => by simp at h
  | _ :: _, [], h, _ => by simp at h
  | a :: xs, v :: vs, h, hF => by
    obtain ⟨c, t, h1, rfl⟩ := hF 0 v rfl
    simp at h1; subst h1
    exact .cons _ t (ints_of (by simpa using h) fun j u hu => by simpa using hF (j + 1) u (by simpa using hu))

abbrev ev10 (L : Addr) (cd : Value) : Env := ev 10 L 79 cd [("place", L + 1 + 1), ("text", L + 1)]

section
variable {prog : Program} {w : World} {A : Around} {E : Value → Shared → Prop} {s : Shared} {gr : Heap} {outer : List Env} {Q : Value → Shared → Prop}

theorem law_chars_by_until_spec (G : Gnd gr) (B : Bel A gr outer s.heap) (hA : Amb A 5) {x os : Str} {tx tp to : Tok} {p : Nat}
    (hx : x.cps.size < 100) (hp : p < 10000) (hc : ∀ c ∈ x.cps.toList, c < 128) (hos : os.cps.size < 100) (ho : ∀ c ∈ os.cps.toList, c < 128)
    (hok : ∀ s' t, Kp (frs outer) s.heap s'.heap → s'.gens = s.gens → s'.os = s.os → Q (.int (skipTo x.cps.toList (fun c => !decide (c ∈ os.cps.toList)) p : Nat) t) s') :
    wpAny (model prog w) A (call (.ref 79) [.str x tx, .int p tp, .str os to]) Q E s := by
  refine enterC (n := 10) (binds := [("text", .str x tx), ("place", .int p tp), ("others", .str os to)]) G B (by have := hA.room; omega) (by decide) (fun pm cd => rfl) ?_ (fun k x hx => by
    rcases List.mem_cons.mp hx with rfl | hx
    · exact .inr ⟨rfl, rfl⟩
    rcases List.mem_cons.mp hx with rfl | hx
    · exact .inr ⟨rfl, rfl⟩
    rcases List.mem_cons.mp hx with rfl | hx
    · exact .inl rfl
    nomatch hx)
  intro s₁ cd cells hcells X
  obtain ⟨o1, o2, rfl, hd1, hd2⟩ := CellsAre.two (n := "place") (n' := "text") (c := s.heap.objs.size + 1 + 1) (c' := s.heap.objs.size + 1) hcells
  have hd1 : o1.data = .cell (some (.int p tp)) := hd1
  have hd2 : o2.data = .cell (some (.str x tx)) := hd2
  have X : In s (frs outer) s.heap.objs.size [(s.heap.objs.size + 1 + 1, o1), (s.heap.objs.size + 1, o2)] [("others", .str os to)] s₁ := X
  show wpAny (model prog w) (A.deeper (ev10 s.heap.objs.size cd)) (execs (bodyOf 10) (ev10 s.heap.objs.size cd)) (fun fl s' => Q (match fl with | .ret v => v | _ => .none) s') (fun e s' => wpAny (model prog w) (A.deeper (ev10 s.heap.objs.size cd)) (leaving (ev10 s.heap.objs.size cd) e) (fun _ s'' => E e s'') (fun e' s'' => E e' s'') s') s₁
  have B₁ := bel_deep (env := ev10 s.heap.objs.size cd) B X
  have hA₁ : Amb (A.deeper (ev10 s.heap.objs.size cd)) 4 := hA.deeper _
  refine wpAny_execs_cons (comp_calls (s₀ := s) (fs := frs outer) (own := [(s.heap.objs.size + 1 + 1, o1), (s.heap.objs.size + 1, o2)]) (l := [("others", .str os to)]) rfl rfl ?_)
  refine ldE X rfl (iter_str fun o St hW hfr hst => ?_)
  have X₃ := X.grow1 (t := s₁.toks) (o := o) (fun b ob e => Heap.get?_push_of_some o e) (Heap.get?_push_size _ hfr) (Nat.le_refl _)
  refine ⟨_, _, _, St, o, fun i v => ∃ c t, os.cps[i]? = some c ∧ v = .int (((firstAt x ⟨#[c]⟩ p).getD x.cps.size : Nat) : Int) t, rfl, hW _ hA₁.handled, (by omega), hst, X₃, ?_, ?_, ?_⟩
  · intro q hq e
    have := Heap.lt_size (X.own q hq).1
    rw [e] at this
    exact Nat.lt_irrefl _ this
  · rintro C m i v own' s₃ E' hi ⟨c, u, hci, rfl⟩ hns hv X'
    have B' := bel_deep (env := ev10 s.heap.objs.size cd) B X'
    have hc128 : c < 128 := ho c (by rw [← Array.getElem?_toList] at hci; exact List.mem_of_getElem? hci)
    have hr1 : (reprText ⟨#[c]⟩).length ≤ 12 := repr_one hc128
    refine Call_Name rfl (ldG G B'.stays rfl (callWith_F (fnAtW G B'.stays (n := 8) (by decide)) (spliced_more (ldCell (c := s.heap.objs.size + 1) ⟨o2, X'.get (List.mem_append_right _ (.tail _ (.head _))), hd2⟩ (spliced_more (ldCell (c := s.heap.objs.size + 1 + 1) ⟨o1, X'.get (List.mem_append_right _ (.head _)), hd1⟩ (spliced_more (ldNs hns hv (spliced_more (wpAny_Constant_str (spliced_more (wpAny_Constant_bool (spliced_none ⟨fnAtW G B'.stays (n := 8) (by decide), ?_⟩)))))))))))))
    refine law_until_spec (outer := ev10 s.heap.objs.size cd :: outer) G ?_ hA₁ hx hp (by omega) hc (by decide) fun s₄ v₄ ht₄ kp₄ g₄ o₄ => ?_
    · exact B'
    rw [untilR_plain] at ht₄
    obtain ⟨t₄, rfl⟩ := ht₄
    exact ⟨(X'.toks _).ret B kp₄ g₄ o₄, c, t₄, hci, rfl⟩
  intro D oD ys s₄ X₄ hlD hsz hF
  have B₄ := bel_deep (env := ev10 s.heap.objs.size cd) B X₄
  have hints : IntsAre ys.toList (os.cps.toList.map fun c => (((firstAt x ⟨#[c]⟩ p).getD x.cps.size : Nat) : Int)) := by
    refine ints_of (by simpa using hsz) fun j v hj => ?_
    rw [Array.getElem?_toList] at hj ⊢
    exact hF j v hj
  refine wpAny_execs_cons (wpAny_Return_some (Call_Name1 (ldB G B₄.stays rfl (PySem.callWith_builtin1 (wpAny_List (spliced_more (ldCell (c := s.heap.objs.size + 1 + 1) ⟨o1, X₄.get (.tail _ (.head _)), hd1⟩ (spliced_more ?_))))))))
  refine Call_Name1 (ldB G B₄.stays rfl (PySem.callWith_builtin1 (wpAny_BinOp (ldE X₄ rfl (wpAny_List (spliced_more (len_call G B₄.stays (ldCell (c := s.heap.objs.size + 1) ⟨o2, X₄.get (.tail _ (.tail _ (.head _))), hd2⟩ ⟨x, tx, rfl, by simp only [Str.length]; omega, fun t' k => spliced_none ⟨small_line (by simp), ?_⟩⟩))))))))
  have X₅ := (X₄.toks k).mkList [.int x.length t'] k
  have hl₅ : (s₄.heap.push { cls := .type "list", data := .seq [Value.int x.length t'].toArray }).IsList s₄.heap.objs.size [Value.int x.length t'].toArray := isList_of (X₅.get (.head _)) rfl ⟨0, rfl⟩
  have hlD' : (s₄.heap.push { cls := .type "list", data := .seq [Value.int x.length t'].toArray }).IsList D ys.toList.toArray := by
    have : ys.toList.toArray = ys := by simp
    rw [this]
    exact hlD.push _
  refine add_in X₅ hlD' hl₅ (by simp; omega) fun h₆ D₂ oD₂ X₆ hc₆ hd₆ => ?_
  have hints₂ : IntsAre (ys.toList ++ [Value.int x.length t']) ((os.cps.toList.map fun c => (((firstAt x ⟨#[c]⟩ p).getD x.cps.size : Nat) : Int)) ++ [(x.cps.size : Int)]) := hints.append (.cons _ _ .nil)
  refine min_in X₆ hA₁.handled (isList_of (X₆.get (.head _)) hc₆ hd₆) hints₂ (by simp) fun s₇ M t₇ X₇ hM hMle => spliced_none ⟨small_line (by simp), ?_⟩
  have X₈ := X₇.mkList [.int p tp, .int M t₇] s₇.toks
  refine max_in X₈ hA₁.handled (isList_of (X₈.get (.head _)) rfl ⟨0, rfl⟩) (.cons _ _ (.cons _ _ .nil)) (by simp) fun s₉ M' t₉ X₉ hM' hMge => ?_
  have hmax : M' = max (p : Int) M := by
    have h1 := hMge p (.head _)
    have h2 := hMge M (.tail _ (.head _))
    rcases List.mem_cons.mp hM' with h | h
    · omega
    · simp at h; omega
  rw [hmax, least_first hM hMle]
  exact hok s₉ t₉ X₉.kp X₉.gens X₉.os
end
end Mine

end

section -- part 26
open PySem PySem.W PyProof.Rows PySem.Calls
open PySem.Builtin PySem.Builtin.Str
set_option maxRecDepth 100000
set_option linter.unusedVariables false
namespace Mine

section
variable {prog : Program} {w : World} {A : Around} {E : Value → Shared → Prop} {s₀ s : Shared} {env : Env} {fs : List Addr} {L : Addr} {own : List (Addr × Obj)} {l : List (Str × Value)}
theorem iter_rng {r : Addr} {a b c : Int} {t u v : Tok} {Q : Value → Shared → Prop} (X : In s₀ fs L own l s) (hr : IsRange s.heap r a b c t u v) (hsmall : Builtin.Range.small a b c = true) (n : Nat) (hn : Builtin.Range.rangeSize a b c = n)
    (hQ : ∀ I oI s', In s₀ fs L ((I, oI) :: own) l s' → IsRangeIter s'.heap I (a + (0 : Nat) * c) ((n : Int) - (0 : Nat)) c → (∀ p ∈ own, p.1 ≠ I) → Q (.ref I) s') : wpAny (model prog w) A (pyIter (.ref r)) Q E s := by
  refine wpAny_pyIter_range hr hsmall (hQ _ { cls := .type "range_iterator", data := .fields #[rawInt a, rawInt (Builtin.Range.rangeSize a b c), rawInt c] } _ (X.grow1 (t := s.toks) (fun b ob e => Heap.get?_push_of_some _ e) (Heap.get?_push_size _ rfl) (Nat.le_refl _)) ?_ fun q hq e => ?_)
  · have e1 : a + ((0 : Nat) : Int) * c = a := by simp
    have e2 : (n : Int) - ((0 : Nat) : Int) = n := by simp
    rw [e1, e2, ← hn]
    exact Heap.get?_push_size _ rfl
  · have := Heap.lt_size (X.own q hq).1
    rw [e] at this
    exact Nat.lt_irrefl _ this
theorem In.range (X : In s₀ fs L own l s) (a b c : Int) (t u v : Tok) (tk : Nat) : In s₀ fs L own l { s with heap := s.heap.push { cls := .type "range", data := .fields #[.int a t, .int b u, .int c v] }, toks := tk } :=
  X.grow fun b ob e => Heap.get?_push_of_some _ e
end

theorem repr_apart : ∀ c ∈ signsL, ∀ d ∈ signsL, c ≠ d → (reprText (one c)).cps.toList.take 3 ≠ (reprText (one d)).cps.toList.take 3 := by decide +kernel
theorem repr_three : ∀ c ∈ signsL, 3 ≤ (reprText (one c)).cps.toList.length := by decide +kernel
theorem found_apart {x : Str} {p q c d : Nat} (hp : x.cps.toList[p]? = some c) (hq : x.cps.toList[q]? = some d) (hc : c ∈ signsL) (hd : d ∈ signsL) (hne : c ≠ d) : foundText x p ≠ foundText x q := by
  intro e
  refine repr_apart c hc d hd hne ?_
  have key : ∀ (p c : Nat), x.cps.toList[p]? = some c → c ∈ signsL → ((foundText x p).cps.toList.drop 24).take 3 = (reprText (one c)).cps.toList.take 3 := by
    intro p c hp hc
    unfold foundText errText
    rw [hp]
    simp only [Option.getD_some, Str.append_assoc]
    have e1 : ∀ (a b : Str), (a ++ b).cps.toList = a.cps.toList ++ b.cps.toList := fun a b => by
      show (a.cps ++ b.cps).toList = _
      exact Array.toList_append
    rw [e1, e1]
    have e2 : (Str.ofString "Found invalid character ").cps.toList.length = 24 := by decide
    rw [List.drop_append_of_le_length (by rw [e2]; exact Nat.le_refl _), ← e2, List.drop_length, List.nil_append, List.take_append_of_le_length (repr_three c hc)]
  rw [← key p c hp hc, ← key q d hq hd, e]
end Mine

end

section -- part 27
open PySem PySem.W PyProof.Rows PySem.Calls
open PySem.Builtin PySem.Builtin.Str
set_option maxRecDepth 100000
set_option linter.unusedVariables false
namespace Mine

theorem rangeSize_nat (a b : Nat) : Builtin.Range.rangeSize (a : Int) (b : Int) 1 = ((b - a : Nat) : Int) := by
  rw [rangeSize_one]
  by_cases h : (a : Int) < b
  · rw [if_pos h]; omega
  · rw [if_neg h]; omega
theorem eq_found (x : Str) (q c : Nat) (h : x.cps.toList[q]? = some c) : Str.ofString "Found invalid character " ++ reprText ⟨#[c]⟩ ++ Str.ofString " " ++ atText x q = foundText x q := by
  have hj := join_text x (Str.ofString "Found invalid character " ++ reprText ⟨#[c]⟩) q
  unfold foundText
  rw [h]
  exact hj.symm
theorem untilR_z {x os : Str} {p : Nat} (hc : ∀ c ∈ x.cps.toList, c ∈ signsL) : untilR x (Str.ofString "z") p (fun c => decide (c ∈ os.cps.toList)) false =
    if skipTo x.cps.toList (fun c => !decide (c ∈ os.cps.toList)) p < x.cps.size then .inr (foundText x (skipTo x.cps.toList (fun c => !decide (c ∈ os.cps.toList)) p)) else .inl x.cps.size := by
  have hz : Str.ofString "z" = ⟨#[122]⟩ := by decide
  have hn : firstAt x (Str.ofString "z") p = none := by
    rw [hz]
    rcases (firstAt_one x 122 p).2 with h | ⟨i, _, _, h⟩
    · exact h
    · exact absurd (hc 122 (List.mem_of_getElem? h)) (by decide)
  unfold untilR
  rw [hn, Bool.and_false, if_neg (by decide)]
  rfl

section
variable {prog : Program} {w : World} {A : Around} {E : Value → Shared → Prop} {s : Shared} {gr : Heap} {outer : List Env} {Q : Value → Shared → Prop}

set_option maxHeartbeats 4000000 in
theorem law_chars_by_refusal_spec (G : Gnd gr) (B : Bel A gr outer s.heap) (hA : Amb A 5) {x os : Str} {tx tp to : Tok} {p : Nat}
    (hx : x.cps.size < 100) (hp : p < 10000) (hc : ∀ c ∈ x.cps.toList, c ∈ signsL) (hos : os.cps.size < 100)
    (hok : ∀ s' t, Kp (frs outer) s.heap s'.heap → s'.gens = s.gens → s'.os = s.os → Q (.int (skipTo x.cps.toList (fun c => !decide (c ∈ os.cps.toList)) p : Nat) t) s') :
    wpAny (model prog w) A (call (.ref 86) [.str x tx, .int p tp, .str os to]) Q E s := by
  refine enter (n := 11) (binds := [("text", .str x tx), ("place", .int p tp), ("others", .str os to)]) G B (by have := hA.room; omega) (by decide) (fun pm cd => rfl) ?_
  intro s₁ cd X
  have B₁ := bel_deep (env := ev 11 s.heap.objs.size 86 cd []) B X
  have hA₁ : Amb (A.deeper (ev 11 s.heap.objs.size 86 cd [])) 4 := hA.deeper _
  have h9 : ∀ d ∈ signsL, d < 128 := by decide
  refine wpAny_execs_cons (wpAny_Assign_Name (Call_Name rfl (ldG G B₁.stays rfl (callWith_F (fnAtW G B₁.stays (n := 8) (by decide)) (spliced_more (ldE X rfl (spliced_more (ldE X rfl (spliced_more (wpAny_Constant_str (spliced_more (ldE (X.toks _) rfl (spliced_more (wpAny_Constant_bool (spliced_none ⟨fnAtW G B₁.stays (n := 8) (by decide), ?_⟩)))))))))))))))
  refine law_until_spec (outer := ev 11 s.heap.objs.size 86 cd [] :: outer) G ?_ hA₁ hx hp (by decide +kernel) (fun c h => h9 c (hc c h)) hos fun s₂ v₂ ht₂ kp₂ g₂ o₂ => ?_
  · exact B₁
  rw [untilR_z hc] at ht₂
  have X₂ := (X.toks _).ret B kp₂ g₂ o₂
  refine stE X₂ fun s₃ X₃ => ?_
  have B₃ := bel_deep (env := ev 11 s.heap.objs.size 86 cd []) B X₃
  generalize hst : skipTo x.cps.toList (fun c => !decide (c ∈ os.cps.toList)) p = st at ht₂ hok
  have hlen : x.cps.toList.length = x.cps.size := Array.length_toList
  have hge : p ≤ st := hst ▸ skipTo_ge _ _ _
  refine wpAny_execs_cons (wpAny_For (Call_Name rfl (ldB G B₃.stays rfl (PySem.Pv.callWith_type1 (spliced_more (ldE X₃ rfl (spliced_more (len_call G B₃.stays (ldE X₃ rfl ⟨x, tx, rfl, by simp only [Str.length]; omega, fun t' k => spliced_none (call_range_2 ?_)⟩)))))))))
  have X₄ := (X₃.toks k).range p x.length 1 tp t' k (k + 1)
  refine iter_rng X₄ (IsRange.new _ _ _ _ _ _ _) (small_one (by omega) (by omega) (by simp only [Str.length]; omega) (by simp only [Str.length]; omega)) (x.cps.size - p) (rangeSize_nat _ _) fun I oI s₅ X₅ hit hIo => ?_
  refine loop_in (wk_range hA₁.handled I p 1 (x.cps.size - p)) X₅ hIo hit (fun b hb => .inl (by simpa using hb))
    (fun i own₁ l₁ => own₁ = [] ∧ lk l₁ "text" = some (.str x tx) ∧ lk l₁ "place" = some (.int p tp) ∧ lk l₁ "told" = some v₂ ∧ (st < x.cps.size → p + i ≤ st)) ⟨rfl, rfl, rfl, rfl, fun _ => hge⟩ ?_ ?_
  · rintro i v own₁ l₁ oI₁ s₆ hi ⟨t, hv⟩ ⟨rfl, h1, h2, h3, h4⟩ - - X₆
    have e : (p : Int) + (i : Int) * 1 = ((p + i : Nat) : Int) := by omega
    rw [e] at hv; subst hv
    have B₆ := bel_deep (env := ev 11 s.heap.objs.size 86 cd []) B X₆
    obtain ⟨c, hcq⟩ : ∃ c, x.cps.toList[p + i]? = some c := ⟨_, List.getElem?_eq_getElem (by omega)⟩
    have hcs := hc c (List.mem_of_getElem? hcq)
    have hr1 : (reprText ⟨#[c]⟩).length ≤ 12 := repr_one (h9 c hcs)
    have e9 : (Str.ofString "Found invalid character ").length = 24 := by decide
    have e1 : (Str.ofString " ").length = 1 := by decide
    have eat : (atText x (p + i)).length < 200 := by
      have := coordText_len x (p + i) (by omega)
      have h1 : (Str.ofString "(at ").length = 4 := by decide
      have h2 : (Str.ofString ")").length = 1 := by decide
      unfold atText
      rw [len_app, len_app]; omega
    refine wpAny_execs_cons (wpAny_If (wpAny_isTrue_Compare1 (ldE X₆ (lkp_ne h3) (wpAny_BinOp (wpAny_BinOp (wpAny_BinOp (wpAny_Constant_str (Call_Name1 (ldB G B₆.stays rfl (PySem.callWith_builtin1 (Subscript_ (ldE (X₆.toks _) (lkp_ne h1) (ldE (X₆.toks _) (lkp_same _ _ _) (item_str_or hA₁.handled (fits_nat (by omega)) (fun q' => ?_) fun _ _ => ?_))))))))))))) )
    · exfalso
      simp only [Str.length] at q'
      omega
    rw [item_nat hcq]
    refine PySem.P.repr_of_str ?_ (small_line (by omega))
    refine SB.add (fun t' k => ?_) (small_line (by omega))
    refine wpAny_Constant_str (SB.add (fun t' k => ?_) (small_line (by rw [len_app]; omega)))
    refine Call_Name rfl (ldG G B₆.stays rfl (callWith_F (fnAtW G B₆.stays (n := 7) (by decide)) (spliced_more (ldE (X₆.toks _) (lkp_ne h1) (spliced_more (ldE (X₆.toks _) (lkp_same _ _ _) (spliced_none ⟨fnAtW G B₆.stays (n := 7) (by decide), ?_⟩)))))))
    refine law_at_spec (outer := ev 11 s.heap.objs.size 86 cd [] :: outer) (p := p + i) G ?_ (hA₁.le (by omega)) hx (by omega) fun s₇ t₇ kp₇ g₇ o₇ => ?_
    · exact B₆
    have X₇ := (X₆.toks _).ret B kp₇ g₇ o₇
    refine SB.add (fun t' k => ?_) (small_line (by rw [len_app, len_app]; omega))
    rw [eq_found x (p + i) c hcq]
    by_cases hlt : st < x.cps.size
    · rw [if_pos hlt] at ht₂
      obtain ⟨t₂, rfl⟩ := ht₂
      refine PySem.P.eq_str (wpAny_truthy_bool ?_)
      by_cases hq : p + i = st
      · rw [hq, beq_self_eq_true, if_pos rfl]
        refine wpAny_execs_cons (wpAny_Return_some (ldE (X₇.toks _) (lkp_same _ _ _) ?_))
        rw [hq]
        exact hok _ _ X₇.kp X₇.gens X₇.os
      · have hlt' : p + i < st := by have := h4 hlt; omega
        obtain ⟨d, hd⟩ : ∃ d, x.cps.toList[st]? = some d := ⟨_, List.getElem?_eq_getElem (by omega)⟩
        have hne : c ≠ d := by
          obtain ⟨c', hc1, hc2⟩ := skipTo_mem (P := fun c => !decide (c ∈ os.cps.toList)) _ p rfl (p + i) (by omega) (by rw [hst]; exact hlt')
          rw [hcq] at hc1; cases hc1
          have hd' := skipTo_stop' (P := fun c => !decide (c ∈ os.cps.toList)) _ p rfl d (by rw [hst]; exact hd)
          simp at hc2 hd'
          intro e
          exact hc2 (e ▸ hd')
        have hap := found_apart hd hcq (hc d (List.mem_of_getElem? hd)) hcs (Ne.symm hne)
        rw [show ((foundText x st).cps.toList == (foundText x (p + i)).cps.toList) = false from by
          simp only [beq_eq_false_iff_ne, ne_eq]
          intro e
          exact hap (str_eq_of_lists e), if_neg (by decide)]
        refine wpAny_execs_nil (wpAny_execs_nil ⟨[], _, X₇.toks _, (fun _ h => h), (fun p hp => nomatch hp), rfl, lkp_ne h1, lkp_ne h2, lkp_ne h3, fun _ => by omega⟩)
    · rw [if_neg hlt] at ht₂
      obtain ⟨t₂, rfl⟩ := ht₂
      refine PySem.EqMixed.eq_int_str (wpAny_truthy_bool ?_)
      rw [if_neg (by decide)]
      exact wpAny_execs_nil (wpAny_execs_nil ⟨[], _, X₇.toks _, (fun _ h => h), (fun p hp => nomatch hp), rfl, lkp_ne h1, lkp_ne h2, lkp_ne h3, fun h => absurd h hlt⟩)
  · rintro own₁ l₁ s₆ X₆ - ⟨rfl, h1, h2, h3, h4⟩
    have B₆ := bel_deep (env := ev 11 s.heap.objs.size 86 cd []) B X₆
    by_cases hlt : st < x.cps.size
    · have := h4 hlt
      omega
    rw [if_neg hlt] at ht₂
    obtain ⟨t₂, rfl⟩ := ht₂
    refine wpAny_execs_cons (wpAny_Return_some (wpAny_IfExp (wpAny_isTrue_Compare1 (ldE X₆ h3 (len_call G B₆.stays (ldE X₆ h1 ⟨x, tx, rfl, by simp only [Str.length]; omega, fun t' k => PySem.P.eq_int (wpAny_truthy_bool ?_)⟩))))))
    rw [if_pos (by simp [Str.length])]
    refine Call_Name1 (ldB G B₆.stays rfl (PySem.callWith_builtin1 (wpAny_List (spliced_more (ldE (X₆.toks _) h2 (spliced_more (len_call G B₆.stays (ldE (X₆.toks _) h1 ⟨x, tx, rfl, by simp only [Str.length]; omega, fun t' k => spliced_none ⟨small_line (by simp), ?_⟩⟩))))))))
    have X₈ := (X₆.toks k).mkList [.int p tp, .int x.length t'] k
    refine max_in X₈ hA₁.handled (isList_of (X₈.get (.head _)) rfl ⟨0, rfl⟩) (.cons _ _ (.cons _ _ .nil)) (by simp) fun s₉ M' t₉ X₉ hM' hMge => ?_
    have hmax : M' = (st : Int) := by
      have h1 := hMge p (.head _)
      have h2 := hMge x.length (.tail _ (.head _))
      simp only [Str.length] at h2
      have hle : p ≤ x.cps.size → st ≤ x.cps.size := fun h => by rw [← hst, ← hlen]; exact skipTo_le (by omega)
      have hen : x.cps.size ≤ p → st = p := fun h => by rw [← hst]; exact skipTo_end (by omega)
      rcases List.mem_cons.mp hM' with h | h
      · omega
      · simp [Str.length] at h; omega
    rw [hmax]
    exact hok s₉ t₉ X₉.kp X₉.gens X₉.os
end
end Mine

end

section -- part 28
open PySem PySem.W PyProof.Rows PySem.Calls
open PySem.Builtin PySem.Builtin.Str
set_option maxRecDepth 100000
set_option linter.unusedVariables false
namespace Mine

def tabNums (x : Str) (z : Str) (a n : Nat) : List Int := (List.range' a n).map fun q => ((skipTo x.cps.toList (fun c => decide (c ∈ z.cps.toList)) q : Nat) : Int)
theorem tabNums_cons (x z : Str) (a n : Nat) : tabNums x z a (n + 1) = ((skipTo x.cps.toList (fun c => decide (c ∈ z.cps.toList)) a : Nat) : Int) :: tabNums x z (a + 1) n := by
  unfold tabNums
  rw [List.range'_succ, List.map_cons]
theorem tabNums_length (x z : Str) (a n : Nat) : (tabNums x z a n).length = n := by simp [tabNums]

section
variable {prog : Program} {w : World} {A : Around} {E : Value → Shared → Prop} {s₀ s : Shared} {env : Env} {fs : List Addr} {L : Addr} {own : List (Addr × Obj)} {l : List (Str × Value)}
theorem add_in' {a b : Addr} {vs ws : List Value} {Q : Value → Shared → Prop} (X : In s₀ fs L own l s) (hl : s.heap.IsList a vs.toArray) (hb : s.heap.IsList b ws.toArray) (hsz : vs.length + ws.length ≤ 10000)
    (h : ∀ h' D oD, In s₀ fs L ((D, oD) :: own) l { s with heap := h' } → s.heap.get? D = none → oD.cls = .type "list" → (∃ n, oD.data = .seq (vs ++ ws).toArray n) → Q (.ref D) { s with heap := h' }) : wpAny (model prog w) A (binaryOp .Add (.ref a) (.ref b)) Q E s := by
  refine add_lists (Mine.fr0 X.ns) (all_news _ _) hl hb (fun h' F N => ?_) (small_line (by omega))
  have X' : In s₀ fs L own l { s with heap := h' } := X.fr0 (t := s.toks) F fun p hp => N p (.tail _ hp)
  have hN := N _ (.head _)
  exact h h' _ _ (X'.hold hN.1 (Heap.get?_none_of_le X.size) hN.2.1) (Heap.get?_none_of_le (Nat.le_refl _)) rfl ⟨0, rfl⟩
end

theorem range_down (n : Nat) (h : n < 1000) : Builtin.Range.small ((n : Int) - 1) (-1) (-1) = true ∧ Builtin.Range.rangeSize ((n : Int) - 1) (-1) (-1) = n := by
  have hs : Builtin.Range.rangeSize ((n : Int) - 1) (-1) (-1) = n := by
    unfold Builtin.Range.rangeSize
    simp
    omega
  refine ⟨?_, hs⟩
  unfold Builtin.Range.small
  rw [hs]
  simp only [Builtin.Range.rangeFitsLong, Bool.and_eq_true, Bool.or_eq_true, decide_eq_true_eq, beq_iff_eq]
  rw [if_neg (by decide)]
  simp
  omega

section
variable {prog : Program} {w : World} {A : Around} {E : Value → Shared → Prop} {s : Shared} {gr : Heap} {outer : List Env} {Q : Value → Shared → Prop}

set_option maxHeartbeats 4000000 in
theorem law_table_spec (G : Gnd gr) (B : Bel A gr outer s.heap) (hA : Amb A 3) {x z : Str} {tx tz : Tok}
    (hx : x.cps.size < 100) (hz : z.cps.size < 100)
    (hok : ∀ s' D oD vs, Kp (frs outer) s.heap s'.heap → s'.gens = s.gens → s'.os = s.os → s'.heap.get? D = some oD → s.heap.get? D = none → oD.cls = .type "list" → (∃ n, oD.data = .seq (List.toArray vs) n) → IntsAre vs (tabNums x z 0 (x.cps.size + 2)) → Q (.ref D) s') :
    wpAny (model prog w) A (call (.ref 93) [.str x tx, .str z tz]) Q E s := by
  refine enter (n := 12) (binds := [("text", .str x tx), ("signs", .str z tz)]) G B (by have := hA.room; omega) (by decide) (fun pm cd => rfl) ?_
  intro s₁ cd X
  have B₁ := bel_deep (env := ev 12 s.heap.objs.size 93 cd []) B X
  have hA₁ : Amb (A.deeper (ev 12 s.heap.objs.size 93 cd [])) 2 := hA.deeper _
  have hlen : x.cps.toList.length = x.cps.size := Array.length_toList
  have hxl : x.length = x.cps.size := rfl
  refine wpAny_execs_cons (wpAny_Assign_Name (wpAny_List (spliced_more (len_call G B₁.stays (ldE X rfl ⟨x, tx, rfl, by simp only [Str.length]; omega, fun t' k => ?_⟩)))))
  refine spliced_more (wpAny_BinOp (len_call G B₁.stays (ldE (X.toks _) rfl ⟨x, tx, rfl, by simp only [Str.length]; omega, fun t'' k' => ?_⟩)))
  refine wpAny_Constant_int (PySem.P.add_int (spliced_none ⟨small_line (by simp), ?_⟩))
  have X₂ := X.mkList [.int x.length t', .int ((x.length : Int) + 1) (k' + 1)] (k' + 1 + 1)
  refine stE X₂ fun s₃ X₃ => ?_
  have B₃ := bel_deep (env := ev 12 s.heap.objs.size 93 cd []) B X₃
  refine wpAny_execs_cons (wpAny_For (Call_Name rfl (ldB G B₃.stays rfl (PySem.Pv.callWith_type1 (spliced_more (wpAny_BinOp (len_call G B₃.stays (ldE X₃ rfl ⟨x, tx, rfl, by simp only [Str.length]; omega, fun t₃ k₃ => ?_⟩))))))))
  refine wpAny_Constant_int (PySem.P.sub_int (spliced_more (UnaryOp_ (wpAny_Constant_int (PySem.P.neg_int (spliced_more (UnaryOp_ (wpAny_Constant_int (PySem.P.neg_int (spliced_none ?_))))))))))
  refine call_range_3 (by decide) ?_ (.inl (PyProof.noPylong_small (by decide)))
  have hrd := range_down x.cps.size (by omega)
  refine iter_rng (X₃.range _ _ _ _ _ _ _) (IsRange.new _ _ _ _ _ _ _) hrd.1 x.cps.size hrd.2 fun I oI s₅ X₅ hit hIo => ?_
  refine loop_in (wk_range hA₁.handled I ((x.cps.size : Int) - 1) (-1) x.cps.size) X₅ hIo hit (fun b hb => .inl (by simpa using hb))
    (fun i own₁ l₁ => ∃ D oD vs, (D, oD) ∈ own₁ ∧ oD.cls = .type "list" ∧ (∃ n, oD.data = .seq (List.toArray vs) n) ∧ IntsAre vs (tabNums x z (x.cps.size - i) (i + 2)) ∧ lk l₁ "text" = some (.str x tx) ∧ lk l₁ "signs" = some (.str z tz) ∧ lk l₁ "table" = some (.ref D)) ?_ ?_ ?_
  · refine ⟨_, _, [.int x.length t', .int ((x.length : Int) + 1) (k' + 1)], .head _, rfl, ⟨0, rfl⟩, ?_, rfl, rfl, rfl⟩
    rw [tabNums_cons, tabNums_cons, Nat.sub_zero, skipTo_end (by omega), skipTo_end (by omega)]
    exact .cons _ _ (.cons _ _ .nil)
  · rintro i v own₁ l₁ oI₁ s₆ hi ⟨t, hv⟩ ⟨D, oD, vs, hD, hDc, hDd, hvs, h1, h2, h3⟩ hsub hne X₆
    have e : ((x.cps.size : Int) - 1) + (i : Int) * (-1) = ((x.cps.size - 1 - i : Nat) : Int) := by omega
    rw [e] at hv; subst hv
    generalize hq : x.cps.size - 1 - i = q at X₆
    have hqi : x.cps.size - i = q + 1 := by omega
    rw [hqi] at hvs
    obtain ⟨c, hcq⟩ : ∃ c, x.cps.toList[q]? = some c := ⟨_, List.getElem?_eq_getElem (by omega)⟩
    have hvl : vs.length = i + 2 := by rw [hvs.length, tabNums_length]
    refine wpAny_execs_cons (wpAny_Assign_Name (wpAny_BinOp (wpAny_List (spliced_more (wpAny_mono (show wpAny _ _ _ (fun v s₇ => ∃ tk tv, v = .int ((skipTo x.cps.toList (fun c => decide (c ∈ z.cps.toList)) q : Nat) : Int) tv ∧ s₇ = { s₆ with toks := tk }) _ _ from ?_) (fun v s₇ h₇ => ?_) fun _ _ e => e)))))
    · refine wpAny_IfExp (wpAny_isTrue_Compare1 (Subscript_ (ldE X₆ (lkp_ne h1) (ldE X₆ (lkp_same _ _ _) (item_str_or hA₁.handled (fits_nat (by omega)) (fun q' => ?_) fun _ _ => ?_)))))
      · exfalso
        simp only [Str.length] at q'
        omega
      rw [item_nat hcq]
      refine ldE (X₆.toks _) (lkp_ne h2) (PySem.P.in_str (wpAny_truthy_bool ?_))
      rw [StrLaws.found_one]
      by_cases hcz : c ∈ z.cps.toList
      · rw [decide_eq_true hcz, if_pos rfl]
        refine Subscript_ (ldE (X₆.toks _) (lkp_ne h3) (wpAny_Constant_int (item_list_ints (isList_of (X₆.get (.tail _ hD)) hDc hDd) hvs (by decide) (by rw [tabNums_length]; omega) (by decide) fun t' => ⟨_, t', ?_, rfl⟩)))
        rw [tabNums_cons, skipTo_step (P := fun c => decide (c ∈ z.cps.toList)) hcq (by simpa using hcz)]
        rfl
      · rw [decide_eq_false hcz, if_neg (by decide)]
        refine ldE (X₆.toks _) (lkp_same _ _ _) ⟨_, t, ?_, rfl⟩
        rw [skipTo_stop (P := fun c => decide (c ∈ z.cps.toList)) hcq (by simpa using hcz)]
    · obtain ⟨tk, tv, rfl, rfl⟩ := h₇
      refine spliced_none ⟨small_line (by simp), ?_⟩
      have X₇ := X₆.mkList [.int ((skipTo x.cps.toList (fun c => decide (c ∈ z.cps.toList)) q : Nat) : Int) tv] tk
      have hIat : s₆.heap.get? I = some oI₁ := X₆.get (.head _)
      refine ldE X₇ (lkp_ne h3) (add_in' X₇ (isList_of (X₇.get (.head _)) rfl ⟨0, rfl⟩) (isList_of (X₇.get (.tail _ (.tail _ hD))) hDc hDd) (by simp; omega) fun h₈ D₂ oD₂ X₈ hfr hc₈ hd₈ => ?_)
      refine stE X₈ fun s₉ X₉ => wpAny_execs_nil ?_
      have hD₂I : D₂ ≠ I := fun e => by
        have h9 := X₇.get (.tail _ (.head _))
        rw [e] at hfr
        rw [hfr] at h9; cases h9
      refine ⟨(D₂, oD₂) :: own₁, _, X₉.less fun p hp => ?_, fun p hp => .tail _ (hsub p hp), fun p hp => ?_, D₂, oD₂, _, .head _, hc₈, hd₈, ?_, lkp_ne (lkp_ne h1), lkp_ne (lkp_ne h2), lkp_same _ _ _⟩
      · rcases List.mem_cons.mp hp with rfl | hp
        · exact .tail _ (.tail _ (.head _))
        rcases List.mem_cons.mp hp with rfl | hp
        · exact .head _
        · exact .tail _ (.tail _ (.tail _ hp))
      · rcases List.mem_cons.mp hp with rfl | hp
        · exact hD₂I
        · exact hne p hp
      · have e2 : x.cps.size - (i + 1) = q := by omega
        rw [e2, tabNums_cons]
        exact .cons _ _ hvs
  · rintro own₁ l₁ s₆ X₆ - ⟨D, oD, vs, hD, hDc, hDd, hvs, h1, h2, h3⟩
    refine wpAny_execs_cons (wpAny_Return_some (ldE X₆ h3 ?_))
    have e : x.cps.size - x.cps.size = 0 := by omega
    rw [e] at hvs
    exact hok s₆ D oD vs X₆.kp X₆.gens X₆.os (X₆.get hD) (X₆.own _ hD).2.1 hDc hDd hvs
end
end Mine

end

section -- part 29
open PySem PySem.W PyProof.Rows PySem.Calls
open PySem.Builtin PySem.Builtin.Str
set_option maxRecDepth 100000
set_option linter.unusedVariables false
namespace Mine

section
variable {prog : Program} {w : World} {A : Around} {E : Value → Shared → Prop} {s₀ s : Shared} {fs : List Addr} {env : Env} {L I : Addr} {oI : Obj} {own base : List (Addr × Obj)} {l : List (Str × Value)}

/-- a for loop in which what is held may turn, but for base -/
theorem loop_in2 {x : Str} {px : Pos} {body : List Stmt} {R : Result → Shared → Prop} {fp : List Addr} {n : Nat} {P : Nat → Value → Prop} {St : Nat → Heap → Prop} (W : Wk prog w A I fp n P St)
    (X : In s₀ fs L ((I, oI) :: own) l s) (hI : ∀ p ∈ own, p.1 ≠ I) (hst : St 0 s.heap) (hfp : ∀ b ∈ fp, b = I ∨ ∃ o, (b, o) ∈ base) (hb : ∀ p ∈ base, p ∈ own)
    (J : Nat → List (Addr × Obj) → List (Str × Value) → Prop) (h0 : J 0 own l)
    (step : ∀ i v own₁ l₁ oI₁ s₁, i < n → P i v → J i own₁ l₁ → (∀ p ∈ base, p ∈ own₁) → (∀ p ∈ own₁, p.1 ≠ I) → (∀ vs q t, oI₁.data = .fields vs → vs[1]? ≠ some (.str q t)) → In s₀ fs L ((I, oI₁) :: own₁) (put x v l₁) s₁ →
      wpAny (model prog w) A (execs body env) (fun f s₂ => match f with
        | .next | .cont => ∃ own₂ l₂, In s₀ fs L ((I, oI₁) :: own₂) l₂ s₂ ∧ (∀ p ∈ base, p ∈ own₂) ∧ (∀ p ∈ own₂, p.1 ≠ I) ∧ J (i + 1) own₂ l₂
        | .brk => R (.ok .next) s₂
        | .ret v => R (.ok (.ret v)) s₂) (notedBy (model prog w) A env fun e s' => R (.error e) s') s₁)
    (hR : ∀ own₁ l₁ s₁, In s₀ fs L own₁ l₁ s₁ → (∀ p ∈ base, p ∈ own₁) → J n own₁ l₁ → R (.ok .next) s₁)
    (hL : env.locals = L := by rfl) (hk : env.scope.kind = .function := by rfl) (hx : env.kindOf x = some .local := by rfl) :
    codeAny (model prog w) A (.forLoop (.Name x px) (.ref I) body [] env) R s := by
  refine codeAny_forLoop (fun k s' => ∃ i own₁ l₁ oI₁, In s₀ fs L ((I, oI₁) :: own₁) l₁ s' ∧ St i s'.heap ∧ J i own₁ l₁ ∧ (∀ p ∈ base, p ∈ own₁) ∧ (∀ p ∈ own₁, p.1 ≠ I) ∧ i ≤ n ∧ k = n + 1 - i) ?_ (n + 1) ⟨0, own, l, oI, X, hst, h0, hb, hI, Nat.zero_le _, rfl⟩
  rintro k s' ⟨i, own₁, l₁, oI₁, X', hst', hJ, hsub, hne, hi, rfl⟩
  obtain ⟨o, ho, hno⟩ := W.at' i _ hst'
  have hoe : o = oI₁ := by rw [X'.get (.head _)] at ho; exact (Option.some.inj ho).symm
  subst hoe
  by_cases hlt : i < n
  · refine W.item i s' _ _ hlt hst' fun v h₁ tk₁ hPv hst₁ hk₁ => ?_
    obtain ⟨o₂, ho₂, hno₂⟩ := W.at' (i + 1) _ hst₁
    have X₁ : In s₀ fs L ((I, o₂) :: own₁) l₁ { s' with heap := h₁, toks := tk₁ } := X'.upd hne ho₂ (fun b ob hb e => hk₁ b ob (by simpa using hb) e) hno
    refine wpAny_assign_Name (stE X₁ (fun s₂ X₂ => ?_) hL hk hx)
    refine wpAny_mono (step i v own₁ l₁ o₂ s₂ hlt hPv hJ hsub hne hno₂ X₂) (fun f s₃ h₃ => ?_) fun _ _ e => e
    have fin : (∃ own₂ l₂, In s₀ fs L ((I, o₂) :: own₂) l₂ s₃ ∧ (∀ p ∈ base, p ∈ own₂) ∧ (∀ p ∈ own₂, p.1 ≠ I) ∧ J (i + 1) own₂ l₂) →
        ∃ m, m < n + 1 - i ∧ ∃ i own₁ l₁ oI₁, In s₀ fs L ((I, oI₁) :: own₁) l₁ s₃ ∧ St i s₃.heap ∧ J i own₁ l₁ ∧ (∀ p ∈ base, p ∈ own₁) ∧ (∀ p ∈ own₁, p.1 ≠ I) ∧ i ≤ n ∧ m = n + 1 - i := by
      rintro ⟨own₂, l₂, X₃, hs₂, hn₂, hJ₂⟩
      refine ⟨n + 1 - (i + 1), by omega, i + 1, own₂, l₂, o₂, X₃, W.frame _ _ _ hst₁ fun b hb ob e => ?_, hJ₂, hs₂, hn₂, hlt, rfl⟩
      rcases hfp b hb with rfl | ⟨oo, hoo⟩
      · rw [ho₂] at e; cases e; exact X₃.get (.head _)
      · rw [X₁.get (.tail _ (hsub _ hoo))] at e; cases e; exact X₃.get (.tail _ (hs₂ _ hoo))
    cases f with
    | next => exact fin h₃
    | cont => exact fin h₃
    | brk => exact h₃
    | ret v => exact h₃
  · have hin : i = n := by omega
    subst hin
    refine W.done s' _ _ hst' fun h₁ tk₁ hk₁ => wpAny_execs_nil ?_
    exact hR own₁ l₁ _ (X'.drop hne (fun b ob hb e => hk₁ b ob (by simpa using hb) e) hno) hsub hJ

theorem own_ne {a b : Addr} {o o' : Obj} (X : In s₀ fs L own l s) (h : (a, o) ∈ own) (h' : (b, o') ∈ own) (hd : o.data ≠ o'.data) : a ≠ b := fun e => by
  subst e
  have h1 := X.get h
  rw [X.get h'] at h1; cases h1
  exact hd rfl

/-- a cell is set: the list of what is held, before and behind -/
theorem stCell {pre post : List (Addr × Obj)} {c : Addr} {o : Obj} {v₀ : Option Value} {x : Str} {v : Value} {Q : Unit → Shared → Prop} (X : In s₀ fs L (pre ++ (c, o) :: post) l s) (ho : o.data = .cell v₀) (hne : ∀ p ∈ pre ++ post, p.1 ≠ c)
    (h : ∀ s' o', In s₀ fs L (pre ++ (c, o') :: post) l s' → o'.data = .cell (some v) → Q () s')
    (hcl : env.cells.lookup x = some c := by rfl) (hk : env.scope.kind = .function := by rfl) (hx : env.kindOf x = some .cell := by rfl) : wpAny (model prog w) A (storeName env x v) Q E s := by
  have hm : (c, o) ∈ pre ++ (c, o) :: post := List.mem_append_right _ (.head _)
  refine wpAny_storeName_cell hk hx hcl ⟨o, X.get hm, ho⟩ fun h' hv hs => ?_
  obtain ⟨o', ho', hd'⟩ := hv
  have hcL : c ≠ L := (X.own _ hm).2.2
  refine h _ o' (X.jump (as := [c]) (t := s.toks) (fun a ha => ?_) (fun b ob hb e => hs.extBut b ob (by simpa using hb) e) (X.ns.at' fun ob e => hs.extBut _ ob (Ne.symm hcL) e) fun p hp => ?_) hd'
  · simp at ha; subst ha
    refine .inr ⟨(X.own _ hm).2.1, fun ob vs q t e hd => ?_⟩
    rw [X.get hm] at e; cases e; rw [ho] at hd; cases hd
  · rcases List.mem_append.mp hp with hp' | hp'
    · exact ⟨hs.extBut _ _ (hne p (List.mem_append_left _ hp')) (X.own p (List.mem_append_left _ hp')).1, (X.own p (List.mem_append_left _ hp')).2⟩
    rcases List.mem_cons.mp hp' with rfl | hp'
    · exact ⟨ho', (X.own _ hm).2⟩
    · exact ⟨hs.extBut _ _ (hne p (List.mem_append_right _ hp')) (X.own p (List.mem_append_right _ (.tail _ hp'))).1, (X.own p (List.mem_append_right _ (.tail _ hp'))).2⟩

theorem told_ne {r : Nat ⊕ Str} {v v' : Value} {Q : Value → Shared → Prop} (h : Told r v) (h' : Told r v') (hq : Q (.bool false) s) : wpAny (model prog w) A (compareOp .NotEq v v') Q E s := by
  cases r with
  | inl m =>
    obtain ⟨t, rfl⟩ := h
    obtain ⟨t', rfl⟩ := h'
    refine PySem.P.ne_int ?_
    have : ((m : Int) != (m : Int)) = false := by simp
    rw [this]; exact hq
  | inr m =>
    obtain ⟨t, rfl⟩ := h
    obtain ⟨t', rfl⟩ := h'
    refine PySem.P.ne_str ?_
    have : (m.cps.toList != m.cps.toList) = false := by simp
    rw [this]; exact hq

theorem strs_of {x : Str} {acc : Array Value} (h : ItemsOf (SignAt x) acc x.cps.size) : StrsAre acc.toList (x.cps.toList.map one) := by
  have h1 := signs_paired (x := x) (vs := acc.toList) (by rw [Array.length_toList]; exact h.1) fun j v e => h.2 j v (by rw [Array.getElem?_toList] at e; exact e)
  have h2 : ∀ {cs : List Nat} {vs : List Value}, Paired IsOne cs vs → StrsAre vs (cs.map one) := by
    intro cs vs hp
    induction hp with
    | nil => exact .nil
    | cons hi hr ih => obtain ⟨t, rfl⟩ := hi; exact .cons _ t ih
  exact h2 h1
end
end Mine

end

section -- part 30
open PySem PySem.W PyProof.Rows PySem.Calls
open PySem.Builtin PySem.Builtin.Str
set_option maxRecDepth 100000
set_option linter.unusedVariables false
namespace Mine

abbrev ev13 (L fa : Addr) (cd : Value) : Env := ev 13 L fa cd [("barred", L + 1 + 1 + 1), ("told", L + 1 + 1), ("signs", L + 1)]
abbrev own13 (L : Addr) (ob ot os : Obj) (D : Addr) (oD : Obj) : List (Addr × Obj) := [(L + 1 + 1 + 1, ob), (L + 1 + 1, ot), (L + 1, os), (D, oD)]

/-- the statements within the law's loop -/
def inner (k : Nat) : Stmt := match ((bodyOf 13)[8]?).getD (.Pass ⟨0, 0, 0, 0⟩) with | Stmt.For _ _ body _ _ => (body[k]?).getD (.Pass ⟨0, 0, 0, 0⟩) | _ => .Pass ⟨0, 0, 0, 0⟩

theorem tabNums_get {x z : Str} {n i : Nat} (h : i < n) : (tabNums x z 0 n).getD i 0 = ((skipTo x.cps.toList (fun c => decide (c ∈ z.cps.toList)) i : Nat) : Int) := by
  unfold tabNums
  rw [List.getD_eq_getElem?_getD, List.getElem?_map, List.getElem?_range' h]
  simp

section
variable {s₀ s : Shared} {fs : List Addr} {L : Addr} {own : List (Addr × Obj)} {l : List (Str × Value)}
theorem own_lt (X : In s₀ fs L own l s) : ∀ p ∈ own, p.1 ≠ s.heap.objs.size := fun p hp e => by
  have := Heap.lt_size (X.own p hp).1
  rw [e] at this
  exact Nat.lt_irrefl _ this
theorem In.mkTuple (X : In s₀ fs L own l s) (vs : List Value) (t : Nat) : In s₀ fs L ((s.heap.objs.size, ({ cls := .type "tuple", data := .seq vs.toArray } : Obj)) :: own) l { s with heap := s.heap.push { cls := .type "tuple", data := .seq vs.toArray }, toks := t } :=
  X.grow1 (fun b ob e => Heap.get?_push_of_some _ e) (Heap.get?_push_size _ rfl) (Nat.le_refl _)
theorem In.mkIter (X : In s₀ fs L own l s) (T : Addr) (t : Nat) : In s₀ fs L ((s.heap.objs.size, ({ cls := .type "tuple_iterator", data := .fields #[.ref T, .int 0 0] } : Obj)) :: own) l { s with heap := s.heap.push { cls := .type "tuple_iterator", data := .fields #[.ref T, .int 0 0] }, toks := t } :=
  X.grow1 (fun b ob e => Heap.get?_push_of_some _ e) (Heap.get?_push_size _ rfl) (Nat.le_refl _)
end

section
variable {prog : Program} {w : World} {A : Around} {E E₁ : Value → Shared → Prop} {s : Shared} {gr : Heap} {outer : List Env} {Q : Value → Shared → Prop}

/-- both readings of skip_until, at one place -/
theorem law_untils (G : Gnd gr) (B : Bel A gr outer s.heap) {fa : Addr} {cd : Value} (hA : Amb (A.deeper (ev13 s.heap.objs.size fa cd)) 8) {x y z : Str} {tx ty tz tpl : Tok} {y₀ pl : Nat} {I T D : Addr} {oI oT ob ot os oD : Obj} {v₀ : Option Value}
    (hx : x.cps.size < 100) (hxs : ∀ c ∈ x.cps.toList, c ∈ signsL) (hyl : y.cps.size < 10) (hy : (reprText y).length < 500) (hy0 : y.cps.toList.head? = some y₀) (hz : z.cps.size < 100) (hpl : pl < 10000)
    {l : List (Str × Value)} {s₁ : Shared} (X : In s (frs outer) s.heap.objs.size ((I, oI) :: own13 s.heap.objs.size ob ot os D oD) l s₁)
    (hob : ob.data = .cell (some (.str z tz))) (hot : ot.data = .cell v₀) (hoD : ∃ vs n, oD.data = .seq vs n) (hIne : ∀ p ∈ own13 s.heap.objs.size ob ot os D oD, p.1 ≠ I)
    (h1 : lk l "text" = some (.str x tx)) (h2 : lk l "sought" = some (.str y ty)) (h3 : lk l "place" = some (.int (pl : Nat) tpl))
    {Q' : Flow → Shared → Prop} {it : Expr} {px pos : Pos}
    (hok : ∀ s' l' ot' v', In s (frs outer) s.heap.objs.size ((I, oI) :: own13 s.heap.objs.size ob ot' os D oD) l' s' → ot'.data = .cell v' → (∀ k : Str, k ≠ "end_is_error" → lk l' k = lk l k) → Q' .next s') :
    wpAny (model prog w) (A.deeper (ev13 s.heap.objs.size fa cd)) (exec (inner 0) (ev13 s.heap.objs.size fa cd)) Q' E₁ s₁ := by
  have h9 : ∀ d ∈ signsL, d < 128 := by decide
  refine wpAny_For (wpAny_Tuple (spliced_more (wpAny_Constant_bool (spliced_more (wpAny_Constant_bool (spliced_none ⟨small_line (by simp), ?_⟩))))))
  have X₂ := X.mkTuple [.bool false, .bool true] s₁.toks
  have htup : (s₁.heap.push { cls := .type "tuple", data := .seq [Value.bool false, .bool true].toArray }).IsTuple s₁.heap.objs.size #[.bool false, .bool true] := ⟨_, X₂.get (.head _), rfl, 0, rfl⟩
  refine wpAny_pyIter_tuple htup ?_
  have X₃ := X₂.mkIter s₁.heap.objs.size s₁.toks
  have hI2 : ∀ p ∈ (s₁.heap.objs.size, ({ cls := .type "tuple", data := .seq [Value.bool false, .bool true].toArray } : Obj)) :: (I, oI) :: own13 s.heap.objs.size ob ot os D oD, p.1 ≠ (s₁.heap.push { cls := .type "tuple", data := .seq [Value.bool false, .bool true].toArray }).objs.size := own_lt X₂
  have hTI : s₁.heap.objs.size ≠ (s₁.heap.push { cls := .type "tuple", data := .seq [Value.bool false, .bool true].toArray }).objs.size := hI2 _ (.head _)
  have hst : (({ cls := .type "tuple_iterator", data := .fields #[.ref s₁.heap.objs.size, .int 0 0] } : Obj).isFreed = false) := rfl
  generalize hT : s₁.heap.objs.size = T at *
  generalize hoT : ({ cls := .type "tuple", data := .seq [Value.bool false, .bool true].toArray } : Obj) = oT at *
  have hoTd : oT.data = .seq [Value.bool false, .bool true].toArray 0 := by rw [← hoT]
  have hTc : T ≠ s.heap.objs.size + 1 + 1 := own_ne X₂ (.head _) (.tail _ (.tail _ (.tail _ (.head _)))) (by rw [hoTd, hot]; intro e; cases e)
  have hDc : D ≠ s.heap.objs.size + 1 + 1 := own_ne X (.tail _ (.tail _ (.tail _ (.tail _ (.head _))))) (.tail _ (.tail _ (.head _))) (by obtain ⟨vs, n, e⟩ := hoD; rw [e, hot]; intro e; cases e)
  have hIc : I ≠ s.heap.objs.size + 1 + 1 := Ne.symm (hIne _ (.tail _ (.head _)))
  refine loop_in2 (base := [(T, oT), (I, oI)]) (wk_tuple hA.handled _ T hTI #[.bool false, .bool true]) X₃ hI2 ⟨⟨_, X₃.get (.head _), rfl, rfl⟩, htup.push _⟩ (fun b hb => ?_) (fun p hp => ?_)
    (fun j own₁ l₁ => ∃ ot v₀, own₁ = (T, oT) :: (I, oI) :: own13 s.heap.objs.size ob ot os D oD ∧ ot.data = .cell v₀ ∧ ∀ k : Str, k ≠ "end_is_error" → lk l₁ k = lk l k) ⟨ot, v₀, rfl, hot, fun _ _ => rfl⟩ ?_ ?_
  · rcases List.mem_cons.mp hb with rfl | hb
    · exact .inl rfl
    · simp at hb; subst hb; exact .inr ⟨oT, .head _⟩
  · rcases List.mem_cons.mp hp with rfl | hp
    · exact .head _
    · simp at hp; subst hp; exact .tail _ (.head _)
  · rintro j v own₁ l₁ oI₂ s₄ hj hv ⟨ot₁, v₁, rfl, hot₁, hlk⟩ - hne₂ - X₄
    obtain ⟨eof, rfl⟩ : ∃ b, v = .bool b := by
      have hj2 : j < 2 := hj
      rcases (show j = 0 ∨ j = 1 by omega) with rfl | rfl
      · exact ⟨false, (Option.some.inj hv).symm⟩
      · exact ⟨true, (Option.some.inj hv).symm⟩
    have B₄ := bel_deep (env := ev13 s.heap.objs.size fa cd) B X₄
    have g1 : lk l₁ "text" = some (.str x tx) := (hlk _ (by decide)).trans h1
    have g2 : lk l₁ "sought" = some (.str y ty) := (hlk _ (by decide)).trans h2
    have g3 : lk l₁ "place" = some (.int (pl : Nat) tpl) := (hlk _ (by decide)).trans h3
    have hgB : s₄.heap.get? (s.heap.objs.size + 1 + 1 + 1) = some ob := X₄.get (.tail _ (.tail _ (.tail _ (.head _))))
    refine wpAny_execs_cons (wpAny_Assign_Name (Call_Name rfl (ldG G B₄.stays rfl (callWith_F (fnAtW G B₄.stays (n := 8) (by decide)) (spliced_more (ldE X₄ (lkp_ne g1) (spliced_more (ldE X₄ (lkp_ne g3) (spliced_more (ldE X₄ (lkp_ne g2) (spliced_more (ldCell (c := s.heap.objs.size + 1 + 1 + 1) ⟨ob, hgB, hob⟩ (spliced_more (ldE X₄ (lkp_same _ _ _) (spliced_none ⟨fnAtW G B₄.stays (n := 8) (by decide), ?_⟩)))))))))))))))
    refine law_until_spec (outer := ev13 s.heap.objs.size fa cd :: outer) (p := pl) G B₄ (hA.le (by omega)) hx hpl hy (fun c h => h9 c (hxs c h)) hz fun s₅ v₅ ht₅ kp₅ g₅ o₅ => ?_
    have X₅ := X₄.ret B kp₅ g₅ o₅
    refine stCell (pre := [(_, oI₂), (T, oT), (I, oI), (s.heap.objs.size + 1 + 1 + 1, ob)]) (post := [(s.heap.objs.size + 1, os), (D, oD)]) X₅ hot₁ (fun p hp => ?_) fun s₆ ot₂ X₆ hot₂ => ?_
    · rcases List.mem_cons.mp hp with rfl | hp
      · exact Ne.symm (hne₂ (s.heap.objs.size + 1 + 1, ot₁) (.tail _ (.tail _ (.tail _ (.head _)))))
      rcases List.mem_cons.mp hp with rfl | hp
      · exact hTc
      rcases List.mem_cons.mp hp with rfl | hp
      · exact hIc
      rcases List.mem_cons.mp hp with rfl | hp
      · exact Nat.ne_of_gt (Nat.lt_succ_self _)
      rcases List.mem_cons.mp hp with rfl | hp
      · exact Nat.ne_of_lt (Nat.lt_succ_self _)
      · simp at hp; subst hp; exact hDc
    have X₆ : In s (frs outer) s.heap.objs.size ((_, oI₂) :: (T, oT) :: (I, oI) :: own13 s.heap.objs.size ob ot₂ os D oD) _ s₆ := X₆
    have B₆ := bel_deep (env := ev13 s.heap.objs.size fa cd) B X₆
    have hgB₆ : s₆.heap.get? (s.heap.objs.size + 1 + 1 + 1) = some ob := X₆.get (.tail _ (.tail _ (.tail _ (.head _))))
    refine wpAny_execs_cons (wpAny_If (wpAny_isTrue_Compare1 (ldCell (c := s.heap.objs.size + 1 + 1) ⟨ot₂, X₆.get (.tail _ (.tail _ (.tail _ (.tail _ (.head _))))), hot₂⟩ (Call_Name rfl (ldG G B₆.stays rfl (callWith_F (fnAtW G B₆.stays (n := 9) (by decide)) (spliced_more (ldE X₆ (lkp_ne g1) (spliced_more (ldE X₆ (lkp_ne g3) (spliced_more (ldE X₆ (lkp_ne g2) (spliced_more (ldCell (c := s.heap.objs.size + 1 + 1 + 1) ⟨ob, hgB₆, hob⟩ (spliced_more (ldE X₆ (lkp_same _ _ _) (spliced_none ⟨fnAtW G B₆.stays (n := 9) (by decide), ?_⟩)))))))))))))))))
    refine law_until_by_chars_spec (outer := ev13 s.heap.objs.size fa cd :: outer) (p := pl) G B₆ (hA.le (by omega)) hx hpl hyl hy hxs hz hy0 fun s₇ v₇ ht₇ kp₇ g₇ o₇ => ?_
    have X₇ := X₆.ret B kp₇ g₇ o₇
    refine told_ne ht₅ ht₇ (wpAny_truthy_bool ?_)
    rw [if_neg (by decide)]
    refine wpAny_execs_nil (wpAny_execs_nil ⟨_, _, X₇, fun p hp => ?_, fun p hp => ?_, ot₂, _, rfl, hot₂, fun k hk => lkp_ne (hlk k hk) hk⟩)
    · rcases List.mem_cons.mp hp with rfl | hp
      · exact .head _
      · simp at hp; subst hp; exact .tail _ (.head _)
    · have key : ∀ (q : Addr × Obj), q ∈ (T, oT) :: (I, oI) :: own13 s.heap.objs.size ob ot₂ os D oD → ∃ o', (q.1, o') ∈ (T, oT) :: (I, oI) :: own13 s.heap.objs.size ob ot₁ os D oD := by
        intro q hq
        simp only [List.mem_cons, List.not_mem_nil, or_false] at hq
        rcases hq with rfl | rfl | rfl | rfl | rfl | rfl
        · exact ⟨_, .head _⟩
        · exact ⟨_, .tail _ (.head _)⟩
        · exact ⟨_, .tail _ (.tail _ (.head _))⟩
        · exact ⟨_, .tail _ (.tail _ (.tail _ (.head _)))⟩
        · exact ⟨_, .tail _ (.tail _ (.tail _ (.tail _ (.head _))))⟩
        · exact ⟨_, .tail _ (.tail _ (.tail _ (.tail _ (.tail _ (.head _)))))⟩
      obtain ⟨o', ho'⟩ := key p hp
      exact hne₂ (p.1, o') ho'
  · rintro own₁ l₁ s₄ X₄ - ⟨ot₁, v₁, rfl, hot₁, hlk⟩
    exact hok s₄ l₁ ot₁ v₁ (X₄.less fun p hp => .tail _ hp) hot₁ hlk
end
end Mine

end

section -- part 31
open PySem PySem.W PyProof.Rows PySem.Calls
open PySem.Builtin PySem.Builtin.Str
set_option maxRecDepth 100000
set_option linter.unusedVariables false
namespace Mine

/-- the statements within a loop of the law's loop -/
def innerBody (k : Nat) : List Stmt := match inner k with | Stmt.For _ _ body _ _ => body | _ => []

section
variable {prog : Program} {w : World} {A : Around} {E E₁ : Value → Shared → Prop} {s : Shared} {gr : Heap} {outer : List Env} {Q : Value → Shared → Prop}

theorem givens_walk (G : Gnd gr) (B : Bel A gr outer s.heap) {fa : Addr} {cd : Value} (hA : Amb (A.deeper (ev13 s.heap.objs.size fa cd)) 8) {x z : Str} {tx tpl : Tok} {pl : Nat} {D : Addr} {oD : Obj} {vs items : List Value} {own' : List (Addr × Obj)}
    (hx : x.cps.size < 100) (hpl : pl < x.cps.size + 2)
    {l : List (Str × Value)} {s₅ : Shared} (X : In s (frs outer) s.heap.objs.size own' l s₅) (hDm : (D, oD) ∈ own')
    (hmem : ∀ v ∈ items, ∀ own'' l' s', (∀ p ∈ own', p ∈ own'') → In s (frs outer) s.heap.objs.size own'' l' s' → Member prog w s'.heap (frs (ev13 s.heap.objs.size fa cd :: outer)) v (fun c => decide (c ∈ z.cps.toList)))
    (hoDc : oD.cls = .type "list") (hoD : ∃ n, oD.data = .seq vs.toArray n) (hvs : IntsAre vs (tabNums x z 0 (x.cps.size + 2)))
    (h1 : lk l "text" = some (.str x tx)) (h2 : lk l "table" = some (.ref D)) (h3 : lk l "place" = some (.int (pl : Nat) tpl)) {px : Pos} {R : Result → Shared → Prop}
    (hok : ∀ s' l', In s (frs outer) s.heap.objs.size own' l' s' → (∀ k : Str, k ≠ "given" → lk l' k = lk l k) → R (.ok .next) s') :
    wpAny (model prog w) (A.deeper (ev13 s.heap.objs.size fa cd)) (pyIter (.ref s₅.heap.objs.size)) (fun it s₂ => codeAny (model prog w) (A.deeper (ev13 s.heap.objs.size fa cd)) (.forLoop (.Name "given" px) it (innerBody 1) [] (ev13 s.heap.objs.size fa cd)) R s₂) E₁
      { s₅ with heap := s₅.heap.push { cls := .type "tuple", data := .seq items.toArray } } := by
  have X₂ := X.mkTuple items s₅.toks
  have htup : (s₅.heap.push { cls := .type "tuple", data := .seq items.toArray }).IsTuple s₅.heap.objs.size items.toArray := ⟨_, X₂.get (.head _), rfl, 0, rfl⟩
  refine wpAny_pyIter_tuple htup ?_
  have X₃ := X₂.mkIter s₅.heap.objs.size s₅.toks
  have hI2 := own_lt X₂
  have hTI := hI2 _ (.head _)
  refine loop_in2 (base := (s₅.heap.objs.size, { cls := .type "tuple", data := .seq items.toArray }) :: own') (wk_tuple hA.handled _ s₅.heap.objs.size hTI items.toArray) X₃ hI2 ⟨⟨_, X₃.get (.head _), rfl, rfl⟩, htup.push _⟩ (fun b hb => ?_) (fun p hp => hp)
    (fun j own₁ l₁ => own₁ = (s₅.heap.objs.size, { cls := .type "tuple", data := .seq items.toArray }) :: own' ∧ ∀ k : Str, k ≠ "given" → lk l₁ k = lk l k) ⟨rfl, fun _ _ => rfl⟩ ?_ ?_
  · rcases List.mem_cons.mp hb with rfl | hb
    · exact .inl rfl
    · simp at hb; subst hb; exact .inr ⟨_, .head _⟩
  · rintro j v own₁ l₁ oI₂ s₄ hj hv ⟨rfl, hlk⟩ - hne₂ - X₄
    have hvm : v ∈ items := by
      have : items.toArray[j]? = some v := hv
      rw [List.getElem?_toArray] at this
      exact List.mem_of_getElem? this
    have hM := hmem v hvm _ _ s₄ (fun p hp => .tail _ (.tail _ hp)) X₄
    have B₄ := bel_deep (env := ev13 s.heap.objs.size fa cd) B X₄
    have g1 : lk l₁ "text" = some (.str x tx) := (hlk _ (by decide)).trans h1
    have g2 : lk l₁ "table" = some (.ref D) := (hlk _ (by decide)).trans h2
    have g3 : lk l₁ "place" = some (.int (pl : Nat) tpl) := (hlk _ (by decide)).trans h3
    refine wpAny_execs_cons (wpAny_If (wpAny_isTrue_Compare1 (Call_Name rfl (ldG G B₄.stays rfl (callWith_F (fnAtW G B₄.stays (n := 2) (by decide)) (spliced_more (ldE X₄ (lkp_ne g1) (spliced_more (ldE X₄ (lkp_ne g3) (spliced_more (ldE X₄ (lkp_same _ _ _) (spliced_none ⟨fnAtW G B₄.stays (n := 2) (by decide), ?_⟩))))))))))))
    refine skip_chars_spec (outer := ev13 s.heap.objs.size fa cd :: outer) (p := pl) G B₄ hA.handled (by have := hA.room; omega) (by omega) (by omega) hM fun s₆ t₆ kp₆ g₆ o₆ => ?_
    have X₆ := X₄.ret B kp₆ g₆ o₆
    refine Subscript_ (ldE X₆ (lkp_ne g2) (ldE X₆ (lkp_ne g3) (item_list_ints (isList_of (X₆.get (.tail _ (.tail _ hDm))) hoDc hoD) hvs (by omega) (by rw [tabNums_length]; omega) (by omega) fun t' => ?_)))
    rw [Int.toNat_natCast, tabNums_get hpl]
    refine PySem.P.ne_int (wpAny_truthy_bool ?_)
    rw [if_neg (by simp)]
    exact wpAny_execs_nil (wpAny_execs_nil ⟨_, _, X₆, fun p hp => hp, hne₂, rfl, fun k hk => lkp_ne (hlk k hk) hk⟩)
  · rintro own₁ l₁ s₄ X₄ - ⟨rfl, hlk⟩
    exact hok s₄ l₁ (X₄.less fun p hp => .tail _ hp) hlk
end

section
variable {prog : Program} {w : World} {A : Around} {E E₁ : Value → Shared → Prop} {s : Shared} {gr : Heap} {outer : List Env} {Q : Value → Shared → Prop}

/-- skip_chars at one place, by the four kinds of given -/
theorem law_givens (G : Gnd gr) (B : Bel A gr outer s.heap) {fa : Addr} {cd : Value} (hA : Amb (A.deeper (ev13 s.heap.objs.size fa cd)) 8) {x z : Str} {tx tz tpl : Tok} {pl : Nat} {I D : Addr} {oI ob ot os oD : Obj} {vs : List Value}
    (hx : x.cps.size < 100) (hz : z.cps.size < 100) (hpl : pl < x.cps.size + 2)
    {l : List (Str × Value)} {s₁ : Shared} (X : In s (frs outer) s.heap.objs.size ((I, oI) :: own13 s.heap.objs.size ob ot os D oD) l s₁)
    (hob : ob.data = .cell (some (.str z tz))) (hoDc : oD.cls = .type "list") (hoD : ∃ n, oD.data = .seq vs.toArray n) (hvs : IntsAre vs (tabNums x z 0 (x.cps.size + 2)))
    (h1 : lk l "text" = some (.str x tx)) (h2 : lk l "table" = some (.ref D)) (h3 : lk l "place" = some (.int (pl : Nat) tpl))
    {Q' : Flow → Shared → Prop}
    (hok : ∀ s' l', In s (frs outer) s.heap.objs.size ((I, oI) :: own13 s.heap.objs.size ob ot os D oD) l' s' → (∀ k : Str, k ≠ "given" → lk l' k = lk l k) → Q' .next s') :
    wpAny (model prog w) (A.deeper (ev13 s.heap.objs.size fa cd)) (exec (inner 1) (ev13 s.heap.objs.size fa cd)) Q' E₁ s₁ := by
  have B₁ := bel_deep (env := ev13 s.heap.objs.size fa cd) B X
  have gB : ∀ {own l s'}, In s (frs outer) s.heap.objs.size (own ++ (I, oI) :: own13 s.heap.objs.size ob ot os D oD) l s' → s'.heap.IsCell (s.heap.objs.size + 1 + 1 + 1) (some (.str z tz)) := fun X' => ⟨ob, X'.get (List.mem_append_right _ (.tail _ (.head _))), hob⟩
  refine wpAny_For (wpAny_Tuple (spliced_more (Call_Name1 (ldB G B₁.stays rfl (PySem.callWith_type1 (ldCell (gB (own := []) X) (fz_new hA.handled (by omega) fun h₂ tk₂ hk₂ hF₂ => ?_)))))))
  obtain ⟨oS, hoS⟩ : ∃ oS, h₂.get? s₁.heap.objs.size = some oS := by obtain ⟨o, _, _, _, ho, _⟩ := hF₂; exact ⟨o, ho⟩
  have X₂ := X.grow1 (t := tk₂) hk₂ hoS (Nat.le_refl _)
  generalize s₁.heap.objs.size = S at *
  have B₂ := bel_deep (env := ev13 s.heap.objs.size fa cd) B X₂
  refine spliced_more (ldCell (gB (own := [_]) X₂) (spliced_more (Call_Name1 (ldB G B₂.stays rfl (PySem.callWith_type1 (ldCell (gB (own := [_]) X₂) (call_list_str hA.handled z tz (fun h₃ tk₃ acc₃ c₃ hk₃ hl₃ hi₃ => ?_) (small_line (by omega)))))))))
  have X₃ := X₂.grow1 (t := tk₃) hk₃ hl₃ (Nat.le_refl _)
  generalize ({ s₁ with heap := h₂, toks := tk₂ } : Shared).heap.objs.size = Dl at *
  have B₃ := bel_deep (env := ev13 s.heap.objs.size fa cd) B X₃
  refine spliced_more (Call_Name1 (ldB G B₃.stays rfl (PySem.callWith_type1 (ldCell (gB (own := [_, _]) X₃) (call_tuple_str hA.handled z tz (fun h₄ tk₄ acc₄ hk₄ hi₄ => ?_) (small_line (by omega)))))))
  have X₄ := (X₃.grow (t := tk₄) hk₄).grow1 (t := tk₄) (o := { cls := .type "tuple", data := .seq acc₄ }) (fun b ob e => Heap.get?_push_of_some _ e) (Heap.get?_push_size _ rfl) (Nat.le_refl _)
  generalize hDt : ({ s₁ with heap := h₄, toks := tk₄ } : Shared).heap.objs.size = Dt at *
  refine spliced_none ⟨small_line (by simp), ?_⟩
  refine givens_walk (vs := vs) (z := z) (l := l) (items := [.ref S, .str z tz, .ref Dl, .ref Dt]) G B hA hx hpl X₄ (.tail _ (.tail _ (.tail _ (.tail _ (.tail _ (.tail _ (.tail _ (.head _)))))))) (fun v hv own'' l' s' hsub X' => ?_) hoDc hoD hvs h1 h2 h3 fun s' l' X' hlk => ?_
  · simp only [List.mem_cons, List.not_mem_nil, or_false] at hv
    rcases hv with rfl | rfl | rfl | rfl
    · refine mem_fz (n := z.cps.size) (hF₂.at fun o e => ?_) (by omega) (own_not_frame B X' (hsub _ (.tail _ (.tail _ (.head _)))))
      rw [hoS] at e; cases e
      exact X'.get (hsub _ (.tail _ (.tail _ (.head _))))
    · exact mem_str z tz
    · refine mem_list (vs := acc₃.toList) (isList_of (X'.get (hsub _ (.tail _ (.head _)))) rfl ⟨c₃, by simp⟩) (strs_of hi₃) (own_not_frame B X' (hsub _ (.tail _ (.head _))))
    · exact mem_tuple ⟨_, X'.get (hsub _ (.head _)), rfl, 0, rfl⟩ (strs_of hi₄) (own_not_frame B X' (hsub _ (.head _)))
  · exact hok s' l' (X'.less fun p hp => .tail _ (.tail _ (.tail _ hp))) hlk
end
end Mine

end

section -- part 32
open PySem PySem.W PyProof.Rows PySem.Calls
open PySem.Builtin PySem.Builtin.Str
set_option maxRecDepth 100000
set_option linter.unusedVariables false
namespace Mine

section
variable {prog : Program} {w : World} {A : Around} {E E₁ : Value → Shared → Prop} {s : Shared} {gr : Heap} {outer : List Env} {Q : Value → Shared → Prop}

set_option maxHeartbeats 1000000 in
theorem law_loops (G : Gnd gr) (B : Bel A gr outer s.heap) {fa : Addr} {cd : Value} (hA : Amb (A.deeper (ev13 s.heap.objs.size fa cd)) 8) {x y z os : Str} {tx ty tz to : Tok} {y₀ : Nat} {D : Addr} {ob ot osg oD : Obj} {v₀ : Option Value} {vs : List Value}
    (hx : x.cps.size < 100) (hxs : ∀ c ∈ x.cps.toList, c ∈ signsL) (hyl : y.cps.size < 10) (hy : (reprText y).length < 500) (hy0 : y.cps.toList.head? = some y₀) (hz : z.cps.size < 100) (hos : os.cps.toList = signsL.filter fun c => !decide (c ∈ z.cps.toList))
    {l : List (Str × Value)} {s₁ : Shared} (X : In s (frs outer) s.heap.objs.size (own13 s.heap.objs.size ob ot osg D oD) l s₁)
    (hob : ob.data = .cell (some (.str z tz))) (hot : ot.data = .cell v₀) (hoDc : oD.cls = .type "list") (hoD : ∃ n, oD.data = .seq vs.toArray n) (hvs : IntsAre vs (tabNums x z 0 (x.cps.size + 2)))
    (h1 : lk l "text" = some (.str x tx)) (h2 : lk l "sought" = some (.str y ty)) (h3 : lk l "others" = some (.str os to)) (h4 : lk l "table" = some (.ref D))
    (hok : ∀ s', Kp (frs outer) s.heap s'.heap → s'.gens = s.gens → s'.os = s.os → Q (.bool true) s') :
    wpAny (model prog w) (A.deeper (ev13 s.heap.objs.size fa cd)) (execs ((bodyOf 13).drop 8) (ev13 s.heap.objs.size fa cd)) (fun fl s' => Q (match fl with | .ret v => v | _ => .none) s') E₁ s₁ := by
  have h9 : ∀ d ∈ signsL, d < 128 := by decide
  have B₁ := bel_deep (env := ev13 s.heap.objs.size fa cd) B X
  have hosz : os.cps.size < 100 := by
    rw [← Array.length_toList, hos]
    exact Nat.lt_of_le_of_lt (List.length_filter_le _ _) (by decide)
  have hos128 : ∀ c ∈ os.cps.toList, c < 128 := fun c h => by
    rw [hos] at h
    exact h9 c (List.mem_filter.mp h).1
  have hsk : ∀ p, skipTo x.cps.toList (fun c => !decide (c ∈ os.cps.toList)) p = skipTo x.cps.toList (fun c => decide (c ∈ z.cps.toList)) p := fun p => by
    refine skipTo_congr (fun c hc => ?_) p
    rw [hos]
    have := hxs c hc
    simp [this]
  refine wpAny_execs_cons (wpAny_For (Call_Name rfl (ldB G B₁.stays rfl (PySem.Pv.callWith_type1 (spliced_more (wpAny_BinOp (len_call G B₁.stays (ldE X h1 ⟨x, tx, rfl, by simp only [Str.length]; omega, fun t' k => wpAny_Constant_int (PySem.P.add_int (spliced_none (call_range_1 ?_)))⟩))))))))
  refine iter_rng (X.range _ _ _ _ _ _ _) (IsRange.new _ _ _ _ _ _ _) (small_one (by omega) (by omega) (by simp only [Str.length]; omega) (by simp only [Str.length]; omega)) (x.cps.size + 2) (rangeSize_nat 0 (x.cps.size + 2)) fun I oI s₂ X₂ hit hIo => ?_
  refine loop_in2 (base := []) (wk_range hA.handled I 0 1 (x.cps.size + 2)) X₂ hIo hit (fun b hb => .inl (by simpa using hb)) (fun p hp => nomatch hp)
    (fun i own₁ l₁ => ∃ ot v₀, own₁ = own13 s.heap.objs.size ob ot osg D oD ∧ ot.data = .cell v₀ ∧ lk l₁ "text" = some (.str x tx) ∧ lk l₁ "sought" = some (.str y ty) ∧ lk l₁ "others" = some (.str os to) ∧ lk l₁ "table" = some (.ref D)) ⟨ot, v₀, rfl, hot, h1, h2, h3, h4⟩ ?_ ?_
  · rintro i v own₁ l₁ oI₁ s₃ hi ⟨t, hv⟩ ⟨ot₁, v₁, rfl, hot₁, h1, h2, h3, h4⟩ - hne hnoI X₃
    have e : (0 : Int) + (i : Int) * 1 = ((i : Nat) : Int) := by omega
    rw [e] at hv; subst hv
    obtain ⟨nD, hnD⟩ := id hoD
    refine wpAny_execs_cons (law_untils (I := I) (oI := oI₁) (T := 0) (oT := oD) G B hA hx hxs hyl hy hy0 hz (show i < 10000 by omega) X₃ hob hot₁ ⟨_, _, hnD⟩ hne (lkp_ne h1) (lkp_ne h2) (lkp_same _ _ _) (it := .Name "x" ⟨0, 0, 0, 0⟩) (px := ⟨0, 0, 0, 0⟩) (pos := ⟨0, 0, 0, 0⟩) fun s₄ l₄ ot₄ v₄ X₄ hot₄ hlk₄ => ?_)
    have a1 : lk l₄ "text" = some (.str x tx) := (hlk₄ _ (by decide)).trans (lkp_ne h1)
    have a2 : lk l₄ "sought" = some (.str y ty) := (hlk₄ _ (by decide)).trans (lkp_ne h2)
    have a3 : lk l₄ "others" = some (.str os to) := (hlk₄ _ (by decide)).trans (lkp_ne h3)
    have a4 : lk l₄ "table" = some (.ref D) := (hlk₄ _ (by decide)).trans (lkp_ne h4)
    have a5 : lk l₄ "place" = some (.int (i : Nat) t) := (hlk₄ _ (by decide)).trans (lkp_same _ _ _)
    refine wpAny_execs_cons (law_givens (vs := vs) G B hA hx hz hi X₄ hob hoDc hoD hvs a1 a4 a5 fun s₅ l₅ X₅ hlk₅ => ?_)
    have b1 : lk l₅ "text" = some (.str x tx) := (hlk₅ _ (by decide)).trans a1
    have b2 : lk l₅ "sought" = some (.str y ty) := (hlk₅ _ (by decide)).trans a2
    have b3 : lk l₅ "others" = some (.str os to) := (hlk₅ _ (by decide)).trans a3
    have b4 : lk l₅ "table" = some (.ref D) := (hlk₅ _ (by decide)).trans a4
    have b5 : lk l₅ "place" = some (.int (i : Nat) t) := (hlk₅ _ (by decide)).trans a5
    have B₅ := bel_deep (env := ev13 s.heap.objs.size fa cd) B X₅
    refine wpAny_execs_cons (wpAny_If (wpAny_isTrue_Compare1 (Call_Name rfl (ldG G B₅.stays rfl (callWith_F (fnAtW G B₅.stays (n := 10) (by decide)) (spliced_more (ldE X₅ b1 (spliced_more (ldE X₅ b5 (spliced_more (ldE X₅ b3 (spliced_none ⟨fnAtW G B₅.stays (n := 10) (by decide), ?_⟩))))))))))))
    refine law_chars_by_until_spec (outer := ev13 s.heap.objs.size fa cd :: outer) (p := i) G B₅ (hA.le (by omega)) hx (by omega) (fun c h => h9 c (hxs c h)) hosz hos128 fun s₆ t₆ kp₆ g₆ o₆ => ?_
    have X₆ := X₅.ret B kp₆ g₆ o₆
    refine Subscript_ (ldE X₆ b4 (ldE X₆ b5 (item_list_ints (isList_of (X₆.get (.tail _ (.tail _ (.tail _ (.tail _ (.head _)))))) hoDc hoD) hvs (by omega) (by rw [tabNums_length]; omega) (by omega) fun t' => ?_)))
    rw [Int.toNat_natCast, tabNums_get hi, hsk]
    refine PySem.P.ne_int (wpAny_truthy_bool ?_)
    rw [if_neg (by simp)]
    refine wpAny_execs_nil ?_
    have B₆ := bel_deep (env := ev13 s.heap.objs.size fa cd) B X₆
    refine wpAny_execs_cons (wpAny_If (wpAny_isTrue_Compare1 (Call_Name rfl (ldG G B₆.stays rfl (callWith_F (fnAtW G B₆.stays (n := 11) (by decide)) (spliced_more (ldE X₆ b1 (spliced_more (ldE X₆ b5 (spliced_more (ldE X₆ b3 (spliced_none ⟨fnAtW G B₆.stays (n := 11) (by decide), ?_⟩))))))))))))
    refine law_chars_by_refusal_spec (outer := ev13 s.heap.objs.size fa cd :: outer) (p := i) G B₆ (hA.le (by omega)) hx (by omega) hxs hosz fun s₇ t₇ kp₇ g₇ o₇ => ?_
    have X₇ := X₆.ret B kp₇ g₇ o₇
    refine Subscript_ (ldE X₇ b4 (ldE X₇ b5 (item_list_ints (isList_of (X₇.get (.tail _ (.tail _ (.tail _ (.tail _ (.head _)))))) hoDc hoD) hvs (by omega) (by rw [tabNums_length]; omega) (by omega) fun t' => ?_)))
    rw [Int.toNat_natCast, tabNums_get hi, hsk]
    refine PySem.P.ne_int (wpAny_truthy_bool ?_)
    rw [if_neg (by simp)]
    refine wpAny_execs_nil (wpAny_execs_nil ⟨_, _, X₇, (fun p hp => nomatch hp), (fun p hp => ?_), ot₄, v₄, rfl, hot₄, b1, b2, b3, b4⟩)
    have key : ∀ (q : Addr × Obj), q ∈ own13 s.heap.objs.size ob ot₄ osg D oD → ∃ o', (q.1, o') ∈ own13 s.heap.objs.size ob ot₁ osg D oD := by
      intro q hq
      simp only [List.mem_cons, List.not_mem_nil, or_false] at hq
      rcases hq with rfl | rfl | rfl | rfl
      · exact ⟨_, .head _⟩
      · exact ⟨_, .tail _ (.head _)⟩
      · exact ⟨_, .tail _ (.tail _ (.head _))⟩
      · exact ⟨_, .tail _ (.tail _ (.tail _ (.head _)))⟩
    obtain ⟨o', ho'⟩ := key p hp
    exact hne (p.1, o') ho'
  · rintro own₁ l₁ s₃ X₃ - ⟨ot₁, v₁, rfl, hot₁, h1, h2, h3, h4⟩
    exact wpAny_execs_cons (wpAny_Return_some (wpAny_Constant_bool (hok s₃ X₃.kp X₃.gens X₃.os)))
end
end Mine

end

section -- part 33
open PySem PySem.W PyProof.Rows PySem.Calls
open PySem.Builtin PySem.Builtin.Str
set_option maxRecDepth 100000
set_option linter.unusedVariables false
namespace Mine

theorem join_ones (cs : List Nat) : (Txt.join (Str.ofString "") (cs.map one)).cps.toList = cs := by
  have he : (Str.ofString "").cps = #[] := by decide
  have key : ∀ (ds : List Nat) (acc : Array Nat), ((ds.map one).foldl (fun acc p => acc ++ (Str.ofString "").cps ++ p.cps) acc).toList = acc.toList ++ ds := by
    intro ds
    induction ds with
    | nil => intro acc; simp
    | cons d ds ih =>
      intro acc
      rw [List.map_cons, List.foldl_cons, ih, he]
      simp [one]
  show (glued (Str.ofString "") (cs.map one)).cps.toList = cs
  rw [StrLaws.glued_eq_join]
  cases cs with
  | nil => rfl
  | cons c cs =>
    rw [List.map_cons, ← StrLaws.glued_cons]
    show ((cs.map one).foldl (fun acc p => acc ++ (Str.ofString "").cps ++ p.cps) (one c).cps).toList = c :: cs
    rw [key]
    rfl
theorem join_ok (cs : List Nat) (h : cs.length ≤ 1000) : (((cs.map one).map (·.length)).sum + (cs.map one).length * (Str.ofString "").length ≤ 16777216) := by
  have h1 : ((cs.map one).map (·.length)).sum = cs.length := by
    induction cs with
    | nil => rfl
    | cons c cs ih =>
      have := ih (by simp at h; omega)
      simp only [List.map_cons, List.sum_cons, this]
      show 1 + cs.length = cs.length + 1
      omega
  have h2 : (Str.ofString "").length = 0 := by decide
  rw [h1, h2]
  omega

theorem wk_list {prog : Program} {w : World} {A : Around} (hh : A.handled = none) (I ax : Addr) (hne : ax ≠ I) (items : Array Value) : Wk prog w A I [I, ax] items.size (fun i v => items[i]? = some v) (fun i h => h.IsListIter I ax i ∧ h.IsList ax items) :=
  ⟨Walks.list hh I ax hne items, fun i h hi => by
      obtain ⟨⟨o, ho, hc, hd⟩, _⟩ := hi
      refine ⟨o, ho, fun vs q t e => ?_⟩
      rw [hd] at e; cases e
      simp⟩

section
variable {prog : Program} {w : World} {A : Around} {E : Value → Shared → Prop} {s₀ s : Shared} {env : Env} {fs : List Addr} {L : Addr} {own : List (Addr × Obj)} {l : List (Str × Value)} {Q : Value → Shared → Prop}

/-- ''.join of a list that a comprehension made -/
theorem join_method {o e : Expr} {apos pos : Pos}
    (h : wpAny (model prog w) A (eval o env) (fun ov s₁ => ∃ t, ov = .str (Str.ofString "") t ∧ wpAny (model prog w) A (eval e env) (fun v s₂ => ∃ D vs cs, v = .ref D ∧ s₂.heap.IsList D (List.toArray vs) ∧ StrsAre vs (List.map one cs) ∧ cs.length ≤ 1000 ∧
      ∀ x t' k, x.cps.toList = cs → Q (.str x t') { s₂ with toks := k }) E s₁) E s)
    (hbase : attributeBase o "join" env (eval o env) = eval o env := by rfl)
    (hfew : ((backTo pos (starEach [e] env)).all (fun x => !x.1) && (backToKw pos (keywordEach [] env)).all (fun x => x.1.isSome)
      && decide ([e].length + ([] : List Keyword).length + (if ([] : List Keyword).isEmpty then 0 else 1) < 30)) = true := by rfl)
    (hline : (apos.endLine == pos.line) = true := by rfl) (he : starEach [e] env = [(false, eval e env)] := by rfl) :
    wpAny (model prog w) A (eval (.Call (.Attribute o "join" apos) [e] [] pos) env) Q E s := by
  refine wpAny_Call_method_lateS hbase hfew hline (wpAny_mono h (fun ov s₁ h₁ => ?_) fun _ _ x => x)
  obtain ⟨t, rfl, h₁⟩ := h₁
  refine ⟨"str", "str.join", PySem.F.plainAttrs_str, PySem.F.slot_str_join, PySem.F.type_str_join, typeIs_str _ _ _, (fun _ e => nomatch e), ?_⟩
  rw [he]
  refine Calls.callWith_builtin rfl ?_
  refine evalArgs_plain (spliced_cons (wpAny_mono h₁ (fun v s₂ h₂ => spliced_nil ?_) fun _ _ x => x))
  obtain ⟨D, vs, cs, rfl, hl, hs, hlen, hq⟩ := h₂
  exact join_list hl (by simpa using hs) (join_ok cs hlen) fun t' k => hq _ t' k (join_ones cs)
end
end Mine

end

section -- part 34
open PySem PySem.W PyProof.Rows PySem.Calls
open PySem.Builtin PySem.Builtin.Str
set_option maxRecDepth 100000
set_option linter.unusedVariables false
namespace Mine

theorem cells3 {cm : Str → Option Value} {n n' n'' : Str} {c c' c'' : Addr} {cells : List (Addr × Obj)} (x : CellsAre cm [(n, c), (n', c'), (n'', c'')] cells) :
    ∃ o o' o'', cells = [(c, o), (c', o'), (c'', o'')] ∧ o.data = .cell (cm n) ∧ o'.data = .cell (cm n') ∧ o''.data = .cell (cm n'') := by
  cases x with
  | cons h1 r =>
    cases r with
    | cons h2 r =>
      cases r with
      | cons h3 r => cases r; exact ⟨_, _, _, rfl, h1, h2, h3⟩

section
variable {prog : Program} {w : World} {A : Around} {E : Value → Shared → Prop} {s : Shared} {gr : Heap} {outer : List Env} {Q : Value → Shared → Prop}

/-- the law is entered -/
theorem enter13 {fa : Addr} {o : Obj} {doc pm cd ct : Value} {an : Option Addr} {v : Value} (G : Gnd gr) (B : Bel A gr outer s.heap) (hroom : A.depth < recursionLimit)
    (ho : s.heap.get? fa = some o) (hd : o.data = .func (fnX (nameOf 13) (nameOf 13) (paramsOf 13) (bodyOf 13) (scopeOf 13) [] .none .none doc pm an cd ct)) (hcd : s.heap.CodeRec cd (nameOf 13))
    (h : ∀ s' o1 o2 o3, In s (frs outer) s.heap.objs.size [(s.heap.objs.size + 1 + 1 + 1, o1), (s.heap.objs.size + 1 + 1, o2), (s.heap.objs.size + 1, o3)] [("script", v)] s' → o1.data = .cell none → o2.data = .cell none → o3.data = .cell none →
      wpAny (model prog w) (A.deeper (ev13 s.heap.objs.size fa cd)) (execs (bodyOf 13) (ev13 s.heap.objs.size fa cd)) (fun fl s' => Q (match fl with | .ret v => v | _ => .none) s')
        (fun e s' => wpAny (model prog w) (A.deeper (ev13 s.heap.objs.size fa cd)) (leaving (ev13 s.heap.objs.size fa cd) e) (fun _ s'' => E e s'') (fun e' s'' => E e' s'') s') s') :
    wpAny (model prog w) A (call (.ref fa) [v]) Q E s := by
  have hnd : ((cellsFrom 0 (scopeOf 13).names []).map (·.1)).Nodup := by decide
  refine wpAny_call (codeAny_call_function hroom ho hd rfl rfl rfl hcd ((BindsTo.of_eq (binds := [("script", v)]) rfl) _ _ _ _ ?_))
  refine wpAny_newFunctionEnv_cells rfl (fun x hx => ?_) fun env' he s' x => ?_
  · rcases List.mem_cons.mp hx with rfl | hx
    · exact .inl rfl
    · nomatch hx
  subst he
  refine ⟨(G.nolimit.keeps B.stays).keeps x.toInCall.keep, codeAny_func ?_⟩
  obtain ⟨h₁, tk, rfl, _⟩ := x.done
  have hk₁ := x.toInCall.keep
  obtain ⟨cells, NC, Y⟩ := Cl.news (h₀ := s.heap) (Nat.le_refl _) fun n' c hm => ⟨x.cell n' c (lookup_of_mem_nodup (cellsFrom_names (scopeOf 13).names 0 (s.heap.objs.size + 1) [] [] rfl ▸ hnd) hm), x.above n' c hm⟩
  have hns := x.toInCall.ns
  have e0 : (fun _ : Str => (none : Option Value)) = lk [] := rfl
  rw [e0, bindL_lk] at hns
  obtain ⟨o1, o2, o3, rfl, d1, d2, d3⟩ := cells3 (n := "barred") (n' := "told") (n'' := "signs") (c := s.heap.objs.size + 1 + 1 + 1) (c' := s.heap.objs.size + 1 + 1) (c'' := s.heap.objs.size + 1) Y
  exact h _ o1 o2 o3 ⟨hns, Kp.of_keeps hk₁, Nat.le_refl _, fun p hp => ⟨(NC p hp).1, (NC p hp).2.2, (NC p hp).2.1⟩, rfl, rfl, B.tabok.lt⟩ d1 d2 d3
end
end Mine

end

section -- part 35
open PySem PySem.W PyProof.Rows PySem.Calls
open PySem.Builtin PySem.Builtin.Str
set_option maxRecDepth 100000
set_option linter.unusedVariables false
namespace Mine

abbrev IsInt (a : Int) (v : Value) : Prop := ∃ t, v = .int a t
theorem int_uniq (a a' : Int) (v : Value) (h : IsInt a v) (h' : IsInt a' v) : a = a' := by
  obtain ⟨t, rfl⟩ := h
  obtain ⟨t', e⟩ := h'
  cases e; rfl
def gI (a : Int) : Nat := signsL.getD (a.fmod 8).toNat 0
theorem fmod8 (a : Int) : 0 ≤ a.fmod 8 ∧ a.fmod 8 < 8 := ⟨Int.fmod_nonneg_of_pos a (by decide), Int.fmod_lt_of_pos a (by decide)⟩
theorem signs_at {i : Nat} (h : i < 8) : signsS.cps.toList[i]? = some (signsL.getD i 0) := by
  have : ∀ i, i < 8 → signsS.cps.toList[i]? = some (signsL.getD i 0) := by decide
  exact this i h
theorem signs_mem {i : Nat} (h : i < 8) : signsL.getD i 0 ∈ signsL := by
  have : ∀ i, i < 8 → signsL.getD i 0 ∈ signsL := by decide
  exact this i h
theorem item_signs {a : Int} (h0 : 0 ≤ a) (h8 : a < 8) : Txt.item signsS a = one (signsL.getD a.toNat 0) := by
  have e : a = ((a.toNat : Nat) : Int) := by omega
  rw [e]
  exact item_nat (signs_at (by omega))

section
variable {prog : Program} {w : World} {A : Around} {E : Value → Shared → Prop} {s₀ s₂ : Shared} {env : Env} {fs : List Addr} {L : Addr} {own : List (Addr × Obj)} {l : List (Str × Value)}

theorem ints_index : ∀ {vs : List Value} {ns : List Int}, IntsAre vs ns → ∀ (j : Nat) v, vs[j]? = some v → ∃ a, ns[j]? = some a ∧ IsInt a v := fun h j v e => by
  obtain ⟨n, t, rfl, hn⟩ := h.at j v e
  exact ⟨n, hn, t, rfl⟩

/-- the texts of the signs that the numbers of a list name -/
theorem at_ints {x : Str} {elt : Expr} {scope : Scope} {cl : List (Str × Addr)} {D : Addr} {vs : List Value} {ns : List Int} {K : Addr → Obj → List Value → List Int → Shared → Prop} (X : In s₀ fs L own l s₂) (hh : A.handled = none) (hl : s₂.heap.IsList D vs.toArray) (hi : IntsAre vs ns) (hn : ns.length ≤ 1000)
    (helt : ∀ C a t s₃ m₃ E', s₃.heap.Ns C m₃ → m₃ x = some (.int a t) → (∀ b o, s₂.heap.get? b = some o → s₃.heap.get? b = some o) →
      wpAny (model prog w) A (eval elt (compEnvC scope cl C env)) (fun y s₄ => (∃ t, y = .str (one (gI a)) t) ∧ Keeps s₃ s₄) E' s₃)
    (hK : ∀ D oD vs s', s'.heap.IsList D vs.toArray → s'.heap.get? D = some oD → s₀.heap.get? D = none → D ≠ L → StrsAre vs ((ns.map gI).map one) → K D oD vs ns s') :
    wpAny (model prog w) A (pyIter (.ref D)) (fun it s₃ => CompAt Int prog w A env scope cl x [] elt IsInt (fun _ => true) gI s₀ fs L own l K it s₃) E s₂ := by
  refine wpAny_pyIter_list hl ?_
  have X₃ := X.grow1 (t := s₂.toks) (o := { cls := .type "list_iterator", data := .fields #[.ref D, .int 0 0] }) (fun b ob e => Heap.get?_push_of_some _ e) (Heap.get?_push_size _ rfl) (Nat.le_refl _)
  have hDlt : D < s₂.heap.objs.size := by obtain ⟨o, ho, _⟩ := hl; exact Heap.lt_size ho
  refine ⟨_, _, _, _, _, ns, _, rfl, wk_list hh s₂.heap.objs.size D (Nat.ne_of_lt hDlt) vs.toArray, ?_, ⟨⟨_, X₃.get (.head _), rfl, rfl⟩, hl.push _⟩, (fun b hb => ?_), ?_, ?_, X₃, own_lt X, ⟨?_, ?_⟩, ?_⟩
  · simp [hi.length]; exact hn
  · rw [Heap.size_push]
    rcases List.mem_cons.mp hb with rfl | hb
    · exact Nat.lt_succ_self _
    · simp at hb; subst hb; exact Nat.lt_succ_of_lt hDlt
  · simp [hi.length]
  · intro j v hv
    exact ints_index hi j v (by simpa using hv)
  · rintro C a v s₃ m₃ E' ⟨t, rfl⟩ hns hv hk'
    exact wpAny_tests_nil ⟨rfl, keeps_toks s₃ s₃.toks⟩
  · rintro C a v s₃ m₃ E' ⟨t, rfl⟩ _ hns hv hk'
    exact helt C a t s₃ m₃ E' hns hv fun b ob e => hk' b ob (Nat.ne_of_lt (Heap.lt_size e)) (Heap.get?_push_of_some _ e)
  · intro D' oD vs' s' h1 h2 h3 h4 _ h6
    rw [List.filter_eq_self.mpr (fun _ _ => rfl)] at h6
    exact hK D' oD vs' s' h1 h2 h3 h4 h6

/-- the texts of the signs under the bits that are set -/
theorem at_bits {x : Str} {elt test : Expr} {scope : Scope} {cl : List (Str × Addr)} {r : Addr} {t u v : Tok} {p : Nat → Bool} {K : Addr → Obj → List Value → List Nat → Shared → Prop} (X : In s₀ fs L own l s₂) (hh : A.handled = none) (hr : IsRange s₂.heap r 0 8 1 t u v)
    (ht : ∀ C i t s₃ m₃ E', i < 8 → s₃.heap.Ns C m₃ → m₃ x = some (.int (i : Nat) t) → (∀ b o, s₂.heap.get? b = some o → s₃.heap.get? b = some o) →
      wpAny (model prog w) A (isTrue test (compEnvC scope cl C env) (eval test (compEnvC scope cl C env))) (fun ok s₄ => ok = p i ∧ Keeps s₃ s₄) E' s₃)
    (helt : ∀ C i t s₃ m₃ E', i < 8 → s₃.heap.Ns C m₃ → m₃ x = some (.int (i : Nat) t) → (∀ b o, s₂.heap.get? b = some o → s₃.heap.get? b = some o) →
      wpAny (model prog w) A (eval elt (compEnvC scope cl C env)) (fun y s₄ => (∃ t, y = .str (one (signsL.getD i 0)) t) ∧ Keeps s₃ s₄) E' s₃)
    (hK : ∀ D oD vs s', s'.heap.IsList D vs.toArray → s'.heap.get? D = some oD → s₀.heap.get? D = none → D ≠ L → StrsAre vs ((((List.range 8).filter p).map fun i => signsL.getD i 0).map one) → K D oD vs (List.range 8) s') :
    wpAny (model prog w) A (pyIter (.ref r)) (fun it s₃ => CompAt Nat prog w A env scope cl x [test] elt (fun i v => i < 8 ∧ IsInt (i : Nat) v) p (fun i => signsL.getD i 0) s₀ fs L own l K it s₃) E s₂ := by
  refine wpAny_pyIter_range hr (by decide) ?_
  have X₃ := X.grow1 (t := s₂.toks) (o := { cls := .type "range_iterator", data := .fields #[rawInt 0, rawInt (Builtin.Range.rangeSize 0 8 1), rawInt 1] }) (fun b ob e => Heap.get?_push_of_some _ e) (Heap.get?_push_size _ rfl) (Nat.le_refl _)
  refine ⟨_, _, _, _, _, List.range 8, _, rfl, ⟨(wk_range hh s₂.heap.objs.size 0 1 8).toWalks.bound, (wk_range (prog := prog) (w := w) hh s₂.heap.objs.size 0 1 8).at'⟩, (by decide), ?_, (fun b hb => ?_), (by decide), ?_, X₃, own_lt X, ⟨?_, ?_⟩, ?_⟩
  · exact Heap.get?_push_size _ rfl
  · simp at hb; subst hb; rw [Heap.size_push]; exact Nat.lt_succ_self _
  · rintro j v ⟨hj, t, rfl⟩
    refine ⟨j, by rw [List.getElem?_range hj], hj, t, ?_⟩
    congr 1
    omega
  · rintro C a v s₃ m₃ E' ⟨h8, t, rfl⟩ hns hv hk'
    exact wpAny_tests_one (ht C a t s₃ m₃ E' h8 hns hv fun b ob e => hk' b ob (Nat.ne_of_lt (Heap.lt_size e)) (Heap.get?_push_of_some _ e))
  · rintro C a v s₃ m₃ E' ⟨h8, t, rfl⟩ _ hns hv hk'
    exact helt C a t s₃ m₃ E' h8 hns hv fun b ob e => hk' b ob (Nat.ne_of_lt (Heap.lt_size e)) (Heap.get?_push_of_some _ e)
  · intro D' oD vs' s' h1 h2 h3 h4 _ h6
    exact hK D' oD vs' s' h1 h2 h3 h4 h6
end
end Mine

end

section -- part 37
open PySem PySem.W PyProof.Rows PySem.Calls
open PySem.Builtin PySem.Builtin.Str
set_option maxRecDepth 100000
set_option linter.unusedVariables false
namespace Mine

def bitP (T : Int) (i : Nat) : Bool := decide ((((T.fdiv 128).fdiv (2 ^ i)).fmod 2) = 1)
def bitV (T : Int) : Value → Bool
  | .int a _ => bitP T a.toNat
  | _ => false

section
variable {prog : Program} {w : World} {A : Around} {E E₁ : Value → Shared → Prop} {s : Shared} {gr : Heap} {outer : List Env} {Q : Value → Shared → Prop}

/-- the law from its sixth statement on -/
theorem law_rest (G : Gnd gr) (B : Bel A gr outer s.heap) {fa Df : Addr} {cd : Value} (hA₁ : Amb (A.deeper (ev13 s.heap.objs.size fa cd)) 8) {x y : Str} {tx ty tT tS : Tok} {T : Int} {y₀ : Nat} {oF o1 o2 o3 : Obj} {v₁ : Option Value}
    (hx : x.cps.size < 100) (hxs : ∀ c ∈ x.cps.toList, c ∈ signsL) (hyl : y.cps.size < 10) (hy : (reprText y).length < 500) (hy0 : y.cps.toList.head? = some y₀)
    {l : List (Str × Value)} {s₁ : Shared} (X : In s (frs outer) s.heap.objs.size [(Df, oF), (s.heap.objs.size + 1 + 1 + 1, o1), (s.heap.objs.size + 1 + 1, o2), (s.heap.objs.size + 1, o3)] l s₁)
    (hF : ∃ a n, oF.data = .seq a n) (d1 : o1.data = .cell v₁) (d2 : o2.data = .cell (some (.int T tT))) (d3 : o3.data = .cell (some (.str signsS tS)))
    (h1 : lk l "text" = some (.str x tx)) (h2 : lk l "sought" = some (.str y ty))
    (hok : ∀ s', Kp (frs outer) s.heap s'.heap → s'.gens = s.gens → s'.os = s.os → Q (.bool true) s') :
    wpAny (model prog w) (A.deeper (ev13 s.heap.objs.size fa cd)) (execs ((bodyOf 13).drop 5) (ev13 s.heap.objs.size fa cd)) (fun fl s' => Q (match fl with | .ret v => v | _ => .none) s') E₁ s₁ := by
  have B₁ := bel_deep (env := ev13 s.heap.objs.size fa cd) B X
  refine wpAny_execs_cons (wpAny_Assign_Name (join_method (wpAny_Constant_str ⟨_, rfl, ?_⟩)))
  have X' := X.toks (s₁.toks + 1)
  refine comp_eval (α := Nat) (fs := frs outer) (L := s.heap.objs.size) (own := [(Df, oF), (s.heap.objs.size + 1 + 1 + 1, o1), (s.heap.objs.size + 1 + 1, o2), (s.heap.objs.size + 1, o3)]) (l := l) (is := fun i v => i < 8 ∧ IsInt (i : Nat) v) (p := bitP T) (g := fun i => signsL.getD i 0) B.tabok
    (bitV T) (fun i v h => by obtain ⟨_, t, rfl⟩ := h; simp [bitV]) (fun a a' v h h' => by have := int_uniq _ _ v h.2 h'.2; omega) rfl ?_
  refine Call_Name1 (ldB G B₁.stays rfl (PySem.callWith_type1 (wpAny_Constant_int (call_range_1 ?_))))
  have X₂ := X.range 0 8 1 (s₁.toks + 1 + 1) (s₁.toks + 1) (s₁.toks + 1 + 1 + 1) (s₁.toks + 1 + 1 + 1 + 1)
  refine at_bits X₂ hA₁.handled (IsRange.new _ _ _ _ _ _ _) ?_ ?_ ?_
  · intro C i t s₃ m₃ E' hi hns hv hk
    have hgT : s₃.heap.IsCell (s.heap.objs.size + 1 + 1) (some (.int T tT)) := ⟨o2, hk _ _ (X₂.get (.tail _ (.tail _ (.head _)))), d2⟩
    refine wpAny_isTrue_Compare1 (wpAny_BinOp (wpAny_BinOp (wpAny_BinOp (ldCell hgT (wpAny_Constant_int (floordiv_int (by decide) (wpAny_BinOp (wpAny_Constant_int (ldNs hns hv (pow_int_small (by omega) (by omega) (by decide) ?_)))) (.inl (PyProof.noPylong_small (by decide)))))))))
    have hpow : (2 : Int) ^ ((i : Nat) : Int).toNat ≠ 0 := by
      rw [Int.toNat_natCast]
      have : ∀ i, i < 8 → (2 : Int) ^ i ≠ 0 := by decide
      exact this i hi
    have hsm : ((2 : Int) ^ ((i : Nat) : Int).toNat).natAbs < 1073741824 := by
      rw [Int.toNat_natCast]
      have : ∀ i, i < 8 → ((2 : Int) ^ i).natAbs < 1073741824 := by decide
      exact this i hi
    refine floordiv_int hpow (wpAny_Constant_int (mod_int (by decide) (wpAny_Constant_int (PySem.P.eq_int (wpAny_truthy_bool ⟨?_, ?_⟩))))) (.inl (PyProof.noPylong_small hsm))
    · unfold bitP
      rw [Int.toNat_natCast]
      by_cases h : (((T.fdiv 128).fdiv (2 ^ i)).fmod 2) = 1
      · rw [h]; rfl
      · rw [decide_eq_false h]; simpa using h
    · exact ⟨_, _, rfl, fun _ _ e => e⟩
  · intro C i t s₃ m₃ E' hi hns hv hk
    refine Subscript_ (ldCell (c := s.heap.objs.size + 1) ⟨o3, hk _ _ (X₂.get (.tail _ (.tail _ (.tail _ (.head _))))), d3⟩ (ldNs hns hv (item_str_or hA₁.handled (fits_nat (by omega)) (fun q' => ?_) fun _ _ => ?_)))
    · exfalso
      have : signsS.length = 8 := by decide
      rw [this] at q'
      omega
    rw [item_nat (signs_at hi)]
    exact ⟨⟨_, rfl⟩, ⟨_, _, rfl, fun _ _ e => e⟩⟩
  intro D oD vs s₃ hl₃ hoD₃ hD₃ hDL₃ hvs₃ X₃
  have hlen8 : ((List.range 8).filter (bitP T)).length ≤ 8 := Nat.le_trans (List.length_filter_le _ _) (by decide)
  refine ⟨D, vs, _, rfl, hl₃, hvs₃, by rw [List.length_map]; omega, fun z tz kz hz => ?_⟩
  have hzsz : z.cps.size < 100 := by rw [← Array.length_toList, hz, List.length_map]; omega
  have X₄ : In s (frs outer) s.heap.objs.size ([(Df, oF)] ++ (s.heap.objs.size + 1 + 1 + 1, o1) :: [(s.heap.objs.size + 1 + 1, o2), (s.heap.objs.size + 1, o3)]) _ { s₃ with toks := kz } := (X₃.toks _).less fun p hp => .tail _ hp
  obtain ⟨aF, nF, hFd⟩ := hF
  refine stCell (pre := [(Df, oF)]) (post := [(s.heap.objs.size + 1 + 1, o2), (s.heap.objs.size + 1, o3)]) X₄ d1 (fun p hp => ?_) fun s₅ o1' X₅ d1' => ?_
  · rcases List.mem_cons.mp hp with rfl | hp
    · exact own_ne X₄ (.head _) (.tail _ (.head _)) (by rw [hFd, d1]; intro e; cases e)
    rcases List.mem_cons.mp hp with rfl | hp
    · exact Nat.ne_of_lt (Nat.lt_succ_self _)
    · simp at hp; subst hp; exact Nat.ne_of_lt (Nat.lt_succ_of_lt (Nat.lt_succ_self _))
  have X₅ : In s (frs outer) s.heap.objs.size [(Df, oF), (s.heap.objs.size + 1 + 1 + 1, o1'), (s.heap.objs.size + 1 + 1, o2), (s.heap.objs.size + 1, o3)] _ s₅ := X₅
  -- others
  refine wpAny_execs_cons (wpAny_Assign_Name (join_method (wpAny_Constant_str ⟨_, rfl, ?_⟩)))
  have X₅' := X₅.toks (s₅.toks + 1)
  have hgB : ∀ (h : Heap), (∀ b o, s₅.heap.get? b = some o → h.get? b = some o) → h.IsCell (s.heap.objs.size + 1 + 1 + 1) (some (.str z tz)) := fun h hk => ⟨o1', hk _ _ (X₅.get (.tail _ (.head _))), d1'⟩
  refine comp_eval (α := Nat) (fs := frs outer) (L := s.heap.objs.size) (own := [(Df, oF), (s.heap.objs.size + 1 + 1 + 1, o1'), (s.heap.objs.size + 1 + 1, o2), (s.heap.objs.size + 1, o3)]) (l := l) (is := fun a v => a ∈ signsS.cps.toList ∧ IsOne a v) (p := fun c => !decide (c ∈ z.cps.toList)) (g := id) B.tabok (headP fun c => !decide (c ∈ z.cps.toList)) (fun a v h => headP_one h.2) (fun a a' v h h' => one_uniq _ _ _ h.2 h'.2) rfl ?_
  refine ldCell (c := s.heap.objs.size + 1) ⟨o3, X₅'.get (.tail _ (.tail _ (.tail _ (.head _)))), d3⟩ (at_signs X₅' hA₁.handled (by decide) ?_ ?_)
  · intro C c t s₆ m₆ E' _ hns hv hk
    refine wpAny_isTrue_Compare1 (ldNs hns hv (ldCell (hgB _ hk) (PySem.P.notIn_str (wpAny_truthy_bool ⟨?_, keeps_toks _ _⟩))))
    rw [StrLaws.found_one]
  intro D₂ oD₂ vs₂ s₆ hl₆ hoD₆ hD₆ hDL₆ hvs₆ X₆
  refine ⟨D₂, vs₂, _, rfl, hl₆, hvs₆, Nat.le_trans (List.length_filter_le _ _) (by decide), fun os to ko hos => ?_⟩
  have X₆' : In s (frs outer) s.heap.objs.size [(Df, oF), (s.heap.objs.size + 1 + 1 + 1, o1'), (s.heap.objs.size + 1 + 1, o2), (s.heap.objs.size + 1, o3)] _ { s₆ with toks := ko } := (X₆.toks _).less fun p hp => .tail _ hp
  refine stE X₆' fun s₇ X₇ => ?_
  -- table
  have B₇ := bel_deep (env := ev13 s.heap.objs.size fa cd) B X₇
  have hgB₇ : s₇.heap.IsCell (s.heap.objs.size + 1 + 1 + 1) (some (.str z tz)) := ⟨o1', X₇.get (.tail _ (.head _)), d1'⟩
  refine wpAny_execs_cons (wpAny_Assign_Name (Call_Name rfl (ldG G B₇.stays rfl (callWith_F (fnAtW G B₇.stays (n := 12) (by decide)) (spliced_more (ldE X₇ (lkp_ne h1) (spliced_more (ldCell hgB₇ (spliced_none ⟨fnAtW G B₇.stays (n := 12) (by decide), ?_⟩)))))))))
  refine law_table_spec (outer := ev13 s.heap.objs.size fa cd :: outer) G B₇ (hA₁.le (by omega)) hx hzsz fun s₈ D₈ oD₈ vs₈ kp₈ g₈ o₈ hget₈ hnew₈ hc₈ hd₈ hi₈ => ?_
  obtain ⟨hf1, hf2⟩ := In.fresh B X₇ hnew₈
  have X₈ := (X₇.ret B kp₈ g₈ o₈).hold hget₈ hf1 hf2
  refine stE X₈ fun s₉ X₉ => ?_
  refine law_loops (osg := o3) (ob := o1') (ot := o2) (oD := oD₈) (D := D₈) (vs := vs₈) (z := z) (os := os) G B hA₁ hx hxs hyl hy hy0 hzsz hos (X₉.less fun p hp => ?_) d1' d2 hc₈ hd₈ hi₈ (lkp_ne (lkp_ne h1)) (lkp_ne (lkp_ne h2)) (lkp_ne (lkp_same _ _ _)) (lkp_same _ _ _) hok
  rcases List.mem_cons.mp hp with rfl | hp
  · exact .tail _ (.tail _ (.head _))
  rcases List.mem_cons.mp hp with rfl | hp
  · exact .tail _ (.tail _ (.tail _ (.head _)))
  rcases List.mem_cons.mp hp with rfl | hp
  · exact .tail _ (.tail _ (.tail _ (.tail _ (.head _))))
  · simp at hp; subst hp; exact .head _
end
end Mine

end

section -- part 36
open PySem PySem.W PyProof.Rows PySem.Calls
open PySem.Builtin PySem.Builtin.Str
set_option maxRecDepth 100000
set_option linter.unusedVariables false
namespace Mine

theorem mul_bit {x : Str} {m : Int} (h : m = 0 ∨ m = 1) : MulOk x m ∧ (Txt.mul x m = Str.empty ∨ Txt.mul x m = x) := by
  rcases h with rfl | rfl
  · refine ⟨⟨by decide, fun h => absurd (by decide) h, fun h => absurd (by decide) h⟩, .inl ?_⟩
    unfold Txt.mul
    rw [if_pos (by decide)]
  · refine ⟨⟨by decide, fun _ h => by simp at h, fun _ h => by simp at h⟩, .inr ?_⟩
    unfold Txt.mul
    rw [if_neg (by decide), if_pos (by simp)]
theorem fmod2 (a : Int) : a.fmod 2 = 0 ∨ a.fmod 2 = 1 := by
  have h1 : 0 ≤ a.fmod 2 := Int.fmod_nonneg_of_pos a (by decide)
  have h2 : a.fmod 2 < 2 := Int.fmod_lt_of_pos a (by decide)
  omega
theorem app_list (a b : Str) : (a ++ b).cps.toList = a.cps.toList ++ b.cps.toList := by
  show (a.cps ++ b.cps).toList = _
  exact Array.toList_append
theorem sought_facts {c1 c2 : Nat} {m : Int} (h1 : c1 < 128) (h2 : c2 < 128) (hm : m = 0 ∨ m = 1) : (one c1 ++ Txt.mul (one c2) m).cps.toList.head? = some c1 ∧ (one c1 ++ Txt.mul (one c2) m).cps.size < 10 ∧ (reprText (one c1 ++ Txt.mul (one c2) m)).length < 500 := by
  have hl : (one c1 ++ Txt.mul (one c2) m).cps.toList = [c1] ∨ (one c1 ++ Txt.mul (one c2) m).cps.toList = [c1, c2] := by
    rw [app_list]
    rcases (mul_bit (x := one c2) hm).2 with e | e
    · left; rw [e]; rfl
    · right; rw [e]; rfl
  have hsz : (one c1 ++ Txt.mul (one c2) m).cps.size ≤ 2 := by
    rw [← Array.length_toList]
    rcases hl with e | e <;> rw [e] <;> simp
  refine ⟨by rcases hl with e | e <;> rw [e] <;> rfl, by omega, ?_⟩
  have := StrLaws.reprText_len (one c1 ++ Txt.mul (one c2) m) (fun c hc => by
    rcases hl with e | e <;> rw [e] at hc <;> simp at hc
    · subst hc; omega
    · rcases hc with rfl | rfl <;> omega)
  simp only [Str.length] at this ⊢
  omega

section
variable {prog : Program} {w : World} {A : Around} {E : Value → Shared → Prop} {s : Shared} {gr : Heap} {outer : List Env} {Q : Value → Shared → Prop}

set_option maxHeartbeats 4000000 in
theorem law_spec {fa W : Addr} {o : Obj} {doc pm cd ct : Value} {an : Option Addr} {vs : List Value} {ns : List Int} (G : Gnd gr) (B : Bel A gr outer s.heap) (hA : Amb A 9)
    (ho : s.heap.get? fa = some o) (hd : o.data = .func (fnX (nameOf 13) (nameOf 13) (paramsOf 13) (bodyOf 13) (scopeOf 13) [] .none .none doc pm an cd ct)) (hcd : s.heap.CodeRec cd (nameOf 13))
    (hl : s.heap.IsList W vs.toArray) (hi : IntsAre vs ns) (hlen : ns.length ≤ 1000) (hW : W ∉ frs outer)
    (hok : ∀ s', Kp (frs outer) s.heap s'.heap → s'.gens = s.gens → s'.os = s.os → Q (.bool true) s') :
    wpAny (model prog w) A (call (.ref fa) [.ref W]) Q E s := by
  refine enter13 (v := .ref W) G B (by have := hA.room; omega) ho hd hcd fun s₁ o1 o2 o3 X d1 d2 d3 => ?_
  have hA₁ : Amb (A.deeper (ev13 s.heap.objs.size fa cd)) 8 := hA.deeper _
  have hvl : vs.length = ns.length := hi.length
  have hl₁ : s₁.heap.IsList W vs.toArray := hl.at fun o e => X.old e hW
  -- fresh
  refine wpAny_execs_cons (wpAny_Assign_Name (wpAny_Subscript_list_slice (ldE X rfl (wpAny_pure ?_))))
  rw [evalPart_some]
  refine wpAny_Constant_int ?_
  refine ⟨W, vs.toArray, none, some 5, rfl, hl₁, small_line (by simp; omega), .none, .int 5 _, ?_⟩
  have e2 : (s₁.heap.push { cls := .type "slice", data := .fields #[.none, .int 5 s₁.toks, .none] }).objs.size = s₁.heap.objs.size + 1 := Heap.size_push ..
  have X₂ := (X.grow (t := s₁.toks + 1) (h' := s₁.heap.push { cls := .type "slice", data := .fields #[.none, .int 5 s₁.toks, .none] }) fun b ob e => Heap.get?_push_of_some _ e).grow1 (t := s₁.toks + 1) (a := s₁.heap.objs.size + 1) (o := { cls := .type "list", data := .seq (slicePick vs.toArray none (some 5) none) })
    (h' := (s₁.heap.push { cls := .type "slice", data := .fields #[.none, .int 5 s₁.toks, .none] }).push { cls := .type "list", data := .seq (slicePick vs.toArray none (some 5) none) }) (fun b ob e => Heap.get?_push_of_some _ e) (by rw [← e2]; exact Heap.get?_push_size _ rfl) (Nat.le_of_eq e2)
  have hF : IntsAre (slicePick vs.toArray none (some 5) none).toList (ns.take 5) := slice_ints_uptoW hi (by decide)
  generalize hDf : s₁.heap.objs.size + 1 = Df at X₂
  have hDf0 := hDf
  generalize hvF : (slicePick vs.toArray none (some 5) none).toList = vF at hF
  have hvF' : slicePick vs.toArray none (some 5) none = vF.toArray := by rw [← hvF]
  rw [hvF'] at X₂ ⊢
  refine stE X₂ fun s₃ X₃ => ?_
  have hlF : ∀ {s' : Shared}, s'.heap.get? Df = some ({ cls := .type "list", data := .seq vF.toArray } : Obj) → s'.heap.IsList Df vF.toArray := fun e => ⟨_, e, rfl, 0, rfl⟩
  generalize hoF : ({ cls := .type "list", data := .seq vF.toArray } : Obj) = oF at *
  have hoFd : oF.data = .seq vF.toArray 0 := by rw [← hoF]
  have hnF : (ns.take 5).length ≤ 5 := by rw [List.length_take]; omega
  -- signs
  have B₃ := bel_deep (env := ev13 s.heap.objs.size fa cd) B X₃
  refine wpAny_execs_cons (wpAny_Assign_Name (Call_Name rfl (ldG G B₃.stays rfl (callWith_F0 (fnAtW G B₃.stays (n := 6) (by decide)) (law_signs_spec (outer := ev13 s.heap.objs.size fa cd :: outer) G B₃ (hA₁.le (by omega)) fun s₄ t₄ kp₄ g₄ o₄ => ?_)))))
  have X₄ := X₃.ret B kp₄ g₄ o₄
  refine stCell (pre := [(Df, oF), (s.heap.objs.size + 1 + 1 + 1, o1), (s.heap.objs.size + 1 + 1, o2)]) (post := []) X₄ d3 (fun p hp => ?_) fun s₅ o3' X₅ d3' => ?_
  · rcases List.mem_cons.mp hp with rfl | hp
    · exact own_ne X₄ (.head _) (.tail _ (.tail _ (.tail _ (.head _)))) (by rw [hoFd, d3]; intro e; cases e)
    rcases List.mem_cons.mp hp with rfl | hp
    · exact Nat.ne_of_gt (Nat.lt_succ_of_lt (Nat.lt_succ_self _))
    · simp at hp; subst hp; exact Nat.ne_of_gt (Nat.lt_succ_self _)
  have X₅ : In s (frs outer) s.heap.objs.size [(Df, oF), (s.heap.objs.size + 1 + 1 + 1, o1), (s.heap.objs.size + 1 + 1, o2), (s.heap.objs.size + 1, o3')] _ s₅ := X₅
  -- text
  refine wpAny_execs_cons (wpAny_Assign_Name (wpAny_BinOp (join_method (wpAny_Constant_str ⟨_, rfl, ?_⟩))))
  have X₅' := X₅.toks (s₅.toks + 1)
  refine comp_eval (fs := frs outer) (L := s.heap.objs.size) (own := [(Df, oF), (s.heap.objs.size + 1 + 1 + 1, o1), (s.heap.objs.size + 1 + 1, o2), (s.heap.objs.size + 1, o3')]) (l := put "fresh" (.ref Df) [("script", .ref W)]) (is := IsInt) (p := fun _ => true) (g := gI) B.tabok (fun _ => true) (fun _ _ _ => rfl) int_uniq rfl ?_
  refine ldE X₅' rfl (at_ints X₅' hA₁.handled (hlF (X₅'.get (.head _))) hF (by omega) ?_ ?_)
  · intro C a t s₆ m₆ E' hns hv hk
    have h8 := fmod8 a
    refine Subscript_ (ldCell (c := s.heap.objs.size + 1) ⟨o3', hk _ _ (X₅'.get (.tail _ (.tail _ (.tail _ (.head _))))), d3'⟩ (wpAny_BinOp (ldNs hns hv (wpAny_Constant_int (mod_int (by decide) (item_str_or hA₁.handled ?_ (fun q' => ?_) fun _ _ => ?_))))))
    · have e : a.fmod 8 = (((a.fmod 8).toNat : Nat) : Int) := by omega
      rw [e]; exact fits_nat (by omega)
    · exfalso
      have : signsS.length = 8 := by decide
      rw [this] at q'
      omega
    rw [item_signs h8.1 h8.2]
    exact ⟨⟨_, rfl⟩, ⟨_, _, rfl, fun _ _ e => e⟩⟩
  intro D₁ oD₁ vs₁ s₆ hl₆ hoD₆ hD₆ hDL₆ hvs₆ X₆
  refine ⟨D₁, vs₁, (ns.take 5).map gI, rfl, hl₆, hvs₆, by simp; omega, fun x₀ t₀ k₀ hx₀ => ?_⟩
  have hx₀l : x₀.length ≤ 5 := by
    simp only [Str.length]
    rw [← Array.length_toList, hx₀, List.length_map]; exact hnF
  have hna : (Str.ofString "\na").length = 2 := by decide
  refine wpAny_Constant_str (SB.add (fun t₇ k₇ => ?_) (small_line (by omega)))
  have hxs : ∀ c ∈ (x₀ ++ Str.ofString "\na").cps.toList, c ∈ signsL := fun c hc => by
    rw [app_list, hx₀] at hc
    rcases List.mem_append.mp hc with hc | hc
    · obtain ⟨a, _, rfl⟩ := List.mem_map.mp hc
      exact signs_mem (by have := fmod8 a; omega)
    · have : ∀ c ∈ (Str.ofString "\na").cps.toList, c ∈ signsL := by decide
      exact this c hc
  have hxsz : (x₀ ++ Str.ofString "\na").cps.size < 100 := by
    have := len_app x₀ (Str.ofString "\na")
    simp only [Str.length] at this hx₀l hna
    omega
  generalize (x₀ ++ Str.ofString "\na") = x at hxs hxsz
  have X₆' : In s (frs outer) s.heap.objs.size [(Df, oF), (s.heap.objs.size + 1 + 1 + 1, o1), (s.heap.objs.size + 1 + 1, o2), (s.heap.objs.size + 1, o3')] _ { s₆ with toks := k₇ } := (X₆.toks _).less fun p hp => .tail _ hp
  refine stE X₆' fun s₇ X₇ => ?_
  -- told
  have B₇ := bel_deep (env := ev13 s.heap.objs.size fa cd) B X₇
  refine wpAny_execs_cons (wpAny_Assign_Name (wpAny_BinOp (Call_Name1 (ldB G B₇.stays rfl (PySem.callWith_builtin1 (ldE X₇ rfl ?_))))))
  obtain ⟨xi, hxi⟩ := hF.allInts.items
  refine sum_intListG hA₁.handled (by rw [← hxi]; exact hlF (X₇.get (.head _))) fun h₈ k₈ t₈ hk₈ => wpAny_Constant_int (PySem.P.add_int ?_)
  generalize preSum (numAt xi) xi.size + 1280 = T
  have X₈ : In s (frs outer) s.heap.objs.size ([(Df, oF), (s.heap.objs.size + 1 + 1 + 1, o1)] ++ (s.heap.objs.size + 1 + 1, o2) :: [(s.heap.objs.size + 1, o3')]) _ { s₇ with heap := h₈, toks := k₈ } := X₇.grow hk₈
  refine stCell (pre := [(Df, oF), (s.heap.objs.size + 1 + 1 + 1, o1)]) (post := [(s.heap.objs.size + 1, o3')]) (X₈.toks _) d2 (fun p hp => ?_) fun s₉ o2' X₉ d2' => ?_
  · rcases List.mem_cons.mp hp with rfl | hp
    · exact own_ne X₈ (.head _) (.tail _ (.tail _ (.head _))) (by rw [hoFd, d2]; intro e; cases e)
    rcases List.mem_cons.mp hp with rfl | hp
    · exact Nat.ne_of_gt (Nat.lt_succ_self _)
    · simp at hp; subst hp; exact Nat.ne_of_lt (Nat.lt_succ_self _)
  have X₉ : In s (frs outer) s.heap.objs.size [(Df, oF), (s.heap.objs.size + 1 + 1 + 1, o1), (s.heap.objs.size + 1 + 1, o2'), (s.heap.objs.size + 1, o3')] _ s₉ := X₉
  -- sought
  have h128 : ∀ d ∈ signsL, d < 128 := by decide
  have hs8 : signsS.length = 8 := by decide
  have gS : ∀ {s'' : Shared}, s''.heap = s₉.heap → s''.heap.IsCell (s.heap.objs.size + 1) (some (.str signsS t₄)) := fun e => ⟨o3', e ▸ X₉.get (.tail _ (.tail _ (.tail _ (.head _)))), d3'⟩
  have gT : ∀ {s'' : Shared}, s''.heap = s₉.heap → s''.heap.IsCell (s.heap.objs.size + 1 + 1) (some (.int T _)) := fun e => ⟨o2', e ▸ X₉.get (.tail _ (.tail _ (.head _))), d2'⟩
  have m1 := fmod8 T
  have m2 := fmod8 (T.fdiv 8)
  have m3 := fmod2 (T.fdiv 64)
  have fits8 : ∀ a : Int, 0 ≤ a → a < 8 → fitsSsize a = true := fun a h0 h8 => by
    have e : a = ((a.toNat : Nat) : Int) := by omega
    rw [e]; exact fits_nat (by omega)
  refine wpAny_execs_cons (wpAny_Assign_Name (wpAny_BinOp (Subscript_ (ldCell (gS rfl) (wpAny_BinOp (ldCell (gT rfl) (wpAny_Constant_int (mod_int (by decide) (item_str_or hA₁.handled (fits8 _ m1.1 m1.2) (fun q' => ?_) fun _ _ => ?_)))))))))
  · exfalso; rw [hs8] at q'; omega
  rw [item_signs m1.1 m1.2]
  refine wpAny_BinOp (Subscript_ (ldCell (gS rfl) (wpAny_BinOp (wpAny_BinOp (ldCell (gT rfl) (wpAny_Constant_int (floordiv_int (by decide) (wpAny_Constant_int (mod_int (by decide) (item_str_or hA₁.handled (fits8 _ m2.1 m2.2) (fun q' => ?_) fun _ _ => ?_))) (.inl (PyProof.noPylong_small (by decide))))))))))
  · exfalso; rw [hs8] at q'; omega
  rw [item_signs m2.1 m2.2]
  refine wpAny_BinOp (wpAny_BinOp (ldCell (gT rfl) (wpAny_Constant_int (floordiv_int (by decide) (wpAny_Constant_int (mod_int (by decide) ?_)) (.inl (PyProof.noPylong_small (by decide)))))))
  have hc1 := h128 _ (signs_mem (i := (T.fmod 8).toNat) (by omega))
  have hc2 := h128 _ (signs_mem (i := ((T.fdiv 8).fmod 8).toNat) (by omega))
  have hyf := sought_facts hc1 hc2 m3
  have hysz : (one (signsL.getD (T.fmod 8).toNat 0)).length + (Txt.mul (one (signsL.getD ((T.fdiv 8).fmod 8).toNat 0)) ((T.fdiv 64).fmod 2)).length < 100000 := by
    rw [← len_app]; exact Nat.lt_trans hyf.2.1 (by decide)
  refine SB.mul (mul_bit m3).1 fun t₁₀ k₁₀ => SB.add (fun t₁₁ k₁₁ => ?_) (small_line hysz)
  refine stE (X₉.toks _) fun s₁₂ X₁₂ => ?_
  exact law_rest (T := T) G B hA₁ hxsz hxs hyf.2.1 hyf.2.2 hyf.1 X₁₂ ⟨_, _, hoFd⟩ d1 d2' d3' (lkp_ne (lkp_same _ _ _)) (lkp_same _ _ _) hok
end
end Mine

end

section -- part 38
open PySem PySem.W PyProof.Rows PySem.Calls
set_option maxRecDepth 100000
set_option linter.unusedVariables false
namespace Mine

theorem fnAt_of {K : Frag} {g : Heap} (X : K.In g) {a c : Addr} {n : Nat} {o oc : Obj} {pm : Value} {vs : Array Value} {t : Tok} (h1 : K.lookup a = some o) (h2 : o.data = .func (fd n pm (.ref c))) (h3 : K.lookup c = some oc) (h4 : oc.data = .fields vs)
    (h5 : vs[1]? = some (.str (nameOf n) t)) : FnAt g a n := ⟨o, pm, .ref c, X _ _ h1, h2, c, oc, vs, t, rfl, X _ _ h3, h4, h5⟩

theorem gnames_of {K : Frag} {g : Heap} {mg : Str → Option Value} (X : K.In g) (h : g.Ns mainGlobals mg) : ∀ {l : List (Str × Addr)}, (l.all fun p => match nsIn K mainGlobals p.1 with | some (some (.ref b)) => p.2 == b | _ => false) = true → ∀ p ∈ l.map (fun p => (p.1, Value.ref p.2)), mg p.1 = some p.2
  | [], _, p, hp => by cases hp
  | q :: r, e, p, hp => by
    rw [List.all_cons, Bool.and_eq_true] at e
    rcases List.mem_cons.mp hp with rfl | hp
    · have e1 := e.1
      split at e1
      · rename_i b hb
        have : q.2 = b := eq_of_beq e1
        subst this
        exact mg_of X h hb
      · cases e1
    · exact gnames_of X h e.2 p hp

theorem bnames_of {K : Frag} {g : Heap} {mg : Str → Option Value} (X : K.In g) (h : g.Ns mainGlobals mg) : ∀ {l : List (Str × Value)}, (l.all fun p => match nsIn K mainGlobals p.1 with | some none => true | _ => false) = true → ∀ p ∈ l, mg p.1 = none
  | [], _, p, hp => by cases hp
  | q :: r, e, p, hp => by
    rw [List.all_cons, Bool.and_eq_true] at e
    rcases List.mem_cons.mp hp with rfl | hp
    · have e1 := e.1
      split at e1
      · rename_i hb; exact ns_none_of X h hb
      · cases e1
    · exact bnames_of X h e.2 p hp

theorem boots : ∀ p ∈ bNames, p.1 ≠ "__name__" ∧ bootBuiltins p.1 = some p.2 := by
  unfold bNames
  repeat' (first | (refine List.forall_mem_cons.mpr ⟨⟨by decide, by rfl⟩, ?_⟩) | exact fun _ h => nomatch h)

end Mine

end

section -- part 39
open PySem PySem.W PyProof.Rows PySem.Calls
set_option maxRecDepth 100000
set_option linter.unusedVariables false
namespace Mine

/-- nothing but the table 43 was changed, and True given back -/
theorem good_kp {c : ClaimW} {cl : Str → Option Addr} {mean : ExcName → Option Value} {args : List WData} {s₁ s' : Shared} (hT : TabsAt [(47, 43)] s₁.heap) (ht : TabOk s₁.heap) (K : Kp [43] s₁.heap s'.heap) (hg₁ : s₁.gens = #[]) (hg : s'.gens = s₁.gens) (ho : s'.os = s₁.os)
    (hr : ∀ a x, c.raises a x = false) (hp : c.post args (.bool true) args = true) : GoodWG c cl mean args s₁ (.ok (.ret (.bool true))) s' := by
  obtain ⟨hc, h43⟩ := hT (47, 43) (.head _)
  obtain ⟨ps, hps, _⟩ := K.tab ht
  refine ⟨.inl ⟨_, _, [], rfl, hr args, .bool true, hp, fun _ => ⟨.nil, fun a ha => nomatch ha⟩⟩, ⟨fun b o e => ?_, fun b o e => ?_⟩, ho, .of_eq (hg.trans hg₁)⟩
  · by_cases hb : b = 43
    · subst hb
      rw [h43] at e; cases e
      exact .inr (.inl ⟨(hc.tab h43).isCodeTable, rfl, #[], ps, rfl, by rw [Array.empty_append]; exact hps⟩)
    · exact .inl (K.same b o e (by simpa using hb))
  · by_cases hb : b = 43
    · subst hb; exact ⟨_, hps⟩
    · exact ⟨_, K.same b o e (by simpa using hb)⟩

set_option maxHeartbeats 8000000 in
theorem whole : PySem.Challenge.rw_mq0487_01.Holds := by
  w_on
  o_law
  k_head
  case hw => w_witness2
  k_fill
  intro w s₀ s₁ mg mb G Y fa o pm cd doc dV kV ho hd hcd hD hmg hg args vals as hpre hlay hrd hwl hlo
  have KX := km_in_of Y
  km_tabs Y
  refine Ground.open G ?_
  intro T B D TE TW
  try (refine guard_noD D (by decide +kernel) ?_; clear D)
  km_lay T hmg ho hd cd
  clear hmg
  wrow_args hpre hlay hrd hwl hlo
  rename_i ns _ _ _ _ _ _ _ W vs _ hL _ _ _ hI _ hlen _
  have X := ghost_K hT9 KX (by kernel_rfl)
  have T' := ghost_top hT9 T
  have h43 : (ghostOf s₁.heap [(47, 43)]).get? 43 = none := hideAll_none _ (by simp)
  have Gd : Gnd (ghostOf s₁.heap [(47, 43)]) := {
    globs := ⟨mg, mb, T'.g, T'.b, gnames_of X T'.g (l := [("TOMLDecodeError", 24), ("skip_chars", 34), ("skip_until", 41), ("suffixed_err", 48), ("_law_signs", 55), ("_law_at", 62),
        ("_law_until", 69), ("_law_until_by_chars", 74), ("_law_chars_by_until", 79), ("_law_chars_by_refusal", 86), ("_law_table", 93)]) (by kernel_rfl),
      fun p hp => ⟨bnames_of X T'.g (l := bNames) (by kernel_rfl) p hp, (T'.builtins _ (boots p hp).1).trans (boots p hp).2⟩, T'.bmain⟩
    no43 := h43
    code48 := codeHd_of_K X (by kernel_rfl)
    fn48 := ⟨_, _, X 48 _ rfl, rfl, 47, _, _, _, rfl, X 47 _ rfl, rfl, rfl⟩
    nolimit := T'.nolimit
    nodigits := T'.nodigits
    fns := by
      unfold fnAddrs
      repeat' (first | (refine List.forall_mem_cons.mpr ⟨fnAt_of X rfl rfl rfl rfl rfl, ?_⟩) | exact fun _ h => nomatch h)
    err := ⟨_, _, _, _, _, _, _, _, _, _, _, _, _, _, (ghostOf s₁.heap [(47, 43)]).nsMap 23, X 24 _ rfl, .of_isNs (isNs_of_in X (by kernel_rfl)), nsMap_none_of_in X (by kernel_rfl) (by kernel_rfl), nsMap_none_of_in X (by kernel_rfl) (by kernel_rfl),
      nsMap_none_of_in X (by kernel_rfl) (by kernel_rfl)⟩ }
  have htab : TabOk s₁.heap := ⟨#[], (hT9 (47, 43) (.head _)).2, .inl rfl⟩
  have Bl : Bel callerA (ghostOf s₁.heap [(47, 43)]) [] s₁.heap := ⟨⟨(ghost_below hT9).stack, fun b o e => of_hideAll _ e, trivial⟩, htab, h43⟩
  have hA : Amb callerA 9 := ⟨rfl, by decide, by decide⟩
  have hdV : dV = .none := hD.pos.elim (fun x => x.2) fun x => absurd rfl x.1
  have hkV : kV = .none := hD.kw.elim (fun x => x.2) fun x => absurd rfl x.1
  subst hdV
  subst hkV
  refine law_spec (fa := fa) (W := W) (outer := []) Gd Bl hA ho hd hcd hL hI (by omega) ?_ ?_
  · intro hm
    rw [List.mem_singleton.mp hm] at hL
    obtain ⟨o', e, hc, _⟩ := hL
    rw [(hT9 (47, 43) (.head _)).2] at e
    cases e; cases hc
  · intro s' kp hg' ho'
    exact good_kp hT9 htab kp hg hg' ho' (fun _ _ => rfl) (by wrow_post)
end Mine

end

set_option maxRecDepth 100000 in
set_option maxHeartbeats 8000000 in
theorem PySem.Challenge.cw_mq0487_01_holds : PySem.Challenge.rw_mq0487_01.Holds := by
  exact Mine.whole
