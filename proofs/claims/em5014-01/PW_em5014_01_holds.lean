import PyProof.Rows.All
import Wide.All
import OpenK.AllK
import Wide.FinOn
import PySem.Challenge.RW_em5014_01
open PySem PySem.W PyProof.Rows
set_option Elab.async false
set_option maxRecDepth 100000
set_option maxHeartbeats 4000000
set_option linter.unusedVariables false
set_option linter.unusedSimpArgs false
set_option linter.unusedSectionVars false
namespace Mine
open_top hd for PySem.Challenge.rw_em5014_01
end Mine
open PySem.Calls PySem.Spec
namespace Mine
/-- the written part of a def in the heap at the start -/
def fnOf (l : List (Addr × Obj)) (k : Addr) : Option FuncData := match l.lookup k with
  | some o => match o.data with
    | .func f => some f
    | _ => none
  | none => none
def bodyOf (f : FuncData) : List Stmt := match f.body with | .stmts b => b | _ => []
def forOf (f : List Stmt) (k : Nat) : List Stmt := match f.drop k with | .For _ _ b _ _ :: _ => b | _ => []
def argOf (f : List Stmt) (k : Nat) : Expr := match f.drop k with | .Assign _ (.Call _ (_ :: e :: _) _ _) _ :: _ => e | _ => .Name "none" ⟨0, 0, 0, 0⟩
def convFdS : PSigma fun f : FuncData => ∀ P, fnOf (Mine.hd.heap_39 P) 113 = some f := ⟨_, fun P => by conv => lhs; whnf⟩
def convFd : FuncData := convFdS.1
def convBodyS : PSigma fun f : List Stmt => bodyOf convFd = f := ⟨_, by conv => lhs; whnf⟩
def convBody : List Stmt := convBodyS.1
def convForS : PSigma fun f : List Stmt => forOf convBody 14 = f := ⟨_, by conv => lhs; whnf⟩
def convFor : List Stmt := convForS.1
def countCallS : PSigma fun e : Expr => argOf convBody 11 = e := ⟨_, by conv => lhs; whnf⟩
def countCall : Expr := countCallS.1
def convScopeS : PSigma fun e : Scope => convFd.scope = e := ⟨_, by conv => lhs; whnf⟩
theorem far1 {l : List (Addr × Obj)} {d x : Addr} (h : ∀ p ∈ l, p.1 < d) (h2 : @LT.lt Nat _ d x) : ∀ p ∈ l, p.1 ≠ x := fun p hp => Nat.ne_of_lt (Nat.lt_trans (h p hp) h2)
local macro_rules | `(tactic| k_all) => `(tactic| exact far1 (by assumption) (by assumption))
theorem cnt {envL envT : Env} {base h₀ : Heap} {L a : Addr} {m mg mb : Str → Option Value} {loose : List Str} {mean : ExcName → Option Value} {news : List (Addr × Obj)} {s : Shared} {w : World} {E : Value → Shared → Prop} {Q : Value → Shared → Prop}
   (B : Below ((callerA.deeper envL).deeper envT) base [envT, envL] h₀) (F : Fr h₀ L s.heap m) (N : News h₀ L s.heap news) (X : (Mine.hd.heap_39 w.params).In h₀) (T : Top PySem.W.topProg loose mean mg mb h₀)
   (q : ∀ v h' tk news', Fr h₀ L h' m → News h₀ L h' (news' ++ news) → Q v { s with heap := h', toks := tk }) :
   wpAny (model Challenge.rw_em5014_01.row.toRowW.prog w) (((callerA.deeper envL).deeper envT).deeper (callEnvC convFd L a)) (eval countCall (callEnvC convFd L a))
     (fun v s₁ => wpAny (model Challenge.rw_em5014_01.row.toRowW.prog w) (((callerA.deeper envL).deeper envT).deeper (callEnvC convFd L a)).in1.in1 (pyIter v) Q E s₁) E s := by
  have e1 : callEnvC convFd L a = envOfC (Str.ofString "convert_paramstyle") convScopeS.1 L a (.ref 112) := rfl
  rw [e1, countCall]
  unfold convScopeS countCallS
  dsimp only
  have TR := topRead_of T
  k_steps
  k_dflt (refine' owit_iter ?F ?X ?I ?a ?b ?_; (case F => k_asm); (case X => k_asm); (case I => k_inst); (case a => k_is); (case b => k_is))
  k_steps
  rename News _ _ _ _ => nn
  rename Fr _ _ _ _ => ff
  exact q _ _ _ [_, _] ff nn
end Mine
namespace Mine

/-- what a value is, told apart from the heap -/
inductive D where
  | none | bool (b : Bool) | int (i : Int) | str (x : Str)
  | ints (ns : List Int) | strs (ss : List Str) | bools (bs : List Bool)
  | tstrs (ss : List Str) | idict (ns : List Str) | pair (a b : D)

/-- where we stand: program, world, surroundings, the step relation, the frames, the owned lists -/
structure Cx where
  prog : Program
  w : World
  A : Around
  R : Shared → Shared → Prop
  W : List Addr
  own : List Addr
  chg : List Addr
  tabs : List Addr
  gen : Prop := True

def Cx.av (c : Cx) (b : Bool) : List Addr := if b then c.W ++ c.own else c.W
theorem Cx.av_sub (c : Cx) (b : Bool) : ∀ a ∈ c.W, a ∈ c.av b := fun a ha => by cases b <;> simp [Cx.av, ha]

/-- the names of the codes within others, by their lines -/
def nameOf (p : Pos) : Str := if p.line = 183 then Str.ofString "law.<locals>.<lambda>" else if p.line = 165 then Str.ofString "convert_paramstyle.<locals>.<genexpr>" else Str.ofString "convert_paramstyle.<locals>.<lambda>"
/-- a code's table of the codes within -/
def Tbl (h : Heap) (a : Addr) (ps : Array Value) : Prop := h.get? a = some (tabObj ps) ∧ TriplesOk ps.toList

structure GrowH (W : List Addr) (h h' : Heap) : Prop where
  keep : ∀ b o, h.get? b = some o → b ∉ W → h'.get? b = some o
  ns : ∀ b m, b ∈ W → h.Ns b m → h'.Ns b m
  tab : ∀ b ps, b ∈ W → Tbl h b ps → ∃ ps', Tbl h' b ps' ∧ ∀ pos cv, codeAmong pos ps'.toList = some cv → codeAmong pos ps.toList = some cv ∨ ∃ c', cv = .ref c' ∧ c' ∉ W ∧ h.get? c' = none ∧ h'.CodeRec cv (nameOf pos)
theorem code_keep {h h' : Heap} {c' : Addr} {q : Str} (x : h.CodeRec (.ref c') q) (k : ∀ o, h.get? c' = some o → h'.get? c' = some o) : h'.CodeRec (.ref c') q := by
  obtain ⟨c, o, vs, t, e, ho, hd, hv⟩ := x
  cases e
  exact ⟨c', o, vs, t, rfl, k _ ho, hd, hv⟩
theorem code_some {h : Heap} {c' : Addr} {q : Str} (x : h.CodeRec (.ref c') q) : ∃ o, h.get? c' = some o := by
  obtain ⟨c, o, vs, t, e, ho, hd, hv⟩ := x
  cases e
  exact ⟨o, ho⟩

theorem GrowH.refl (W : List Addr) (h : Heap) : GrowH W h h := ⟨fun _ _ e _ => e, fun _ _ _ e => e, fun _ ps _ e => ⟨ps, e, fun _ _ q => .inl q⟩⟩
theorem GrowH.trans {W : List Addr} {h₁ h₂ h₃ : Heap} (x : GrowH W h₁ h₂) (y : GrowH W h₂ h₃) : GrowH W h₁ h₃ :=
  ⟨fun b o e n => y.keep b o (x.keep b o e n) n, fun b m hb e => y.ns b m hb (x.ns b m hb e), fun b ps hb e => by
    obtain ⟨ps₁, e₁, q₁⟩ := x.tab b ps hb e
    obtain ⟨ps₂, e₂, q₂⟩ := y.tab b ps₁ hb e₁
    refine ⟨ps₂, e₂, fun pos cv q => ?_⟩
    rcases q₂ pos cv q with q | ⟨c', rfl, n, z, r⟩
    · rcases q₁ pos cv q with q | ⟨c', rfl, n, z, r⟩
      · exact .inl q
      · exact .inr ⟨c', rfl, n, z, code_keep r fun o ho => y.keep c' o ho n⟩
    · refine .inr ⟨c', rfl, n, ?_, r⟩
      cases w : h₁.get? c' with
      | none => rfl
      | some o => rw [x.keep c' o w n] at z; cases z⟩
theorem GrowH.allNs {W : List Addr} {h h' : Heap} (x : GrowH W h h') {b : Addr} {m : Str → Option Value} (e : h.Ns b m) : h'.Ns b m := by
  by_cases hb : b ∈ W
  · exact x.ns b m hb e
  · exact e.at' fun o ho => x.keep b o ho hb
theorem grow_of_keeps {h h' : Heap} (hk : ∀ b o, h.get? b = some o → h'.get? b = some o) (W : List Addr) : GrowH W h h' :=
  ⟨fun b o e _ => hk b o e, fun _ _ _ e => e.keeps hk, fun b ps _ e => ⟨ps, ⟨hk _ _ e.1, e.2⟩, fun _ _ q => .inl q⟩⟩

/-- a plain list -/
def Ls (h : Heap) (a : Addr) (items : Array Value) : Prop := ∃ n, h.get? a = some { cls := .type "list", data := .seq items n }
theorem Ls.isList {h : Heap} {a : Addr} {items : Array Value} (x : Ls h a items) : h.IsList a items := let ⟨n, e⟩ := x; ⟨_, e, rfl, n, rfl⟩
theorem Ls.at {h h' : Heap} {a : Addr} {items : Array Value} (x : Ls h a items) (g : ∀ o, h.get? a = some o → h'.get? a = some o) : Ls h' a items := let ⟨n, e⟩ := x; ⟨n, g _ e⟩
theorem Ls.new (h : Heap) (items : Array Value) : Ls (h.push { cls := .type "list", data := .seq items }) h.objs.size items := ⟨_, Heap.get?_push_size _ rfl⟩
theorem Ls.noDict {h : Heap} {a : Addr} {items : Array Value} (x : Ls h a items) : ∀ b, Value.ref a = .ref b → ∃ o, h.get? b = some o ∧ o.dict = Option.none := fun b e => by cases e; obtain ⟨n, e⟩ := x; exact ⟨_, e, rfl⟩

def VR (c : Cx) (av : List Addr) (h : Heap) : D → Value → Prop
  | .none, v => v = .none
  | .bool b, v => v = .bool b
  | .int i, v => ∃ t, v = .int i t
  | .str x, v => ∃ t, v = .str x t
  | .ints ns, v => ∃ a vs, v = .ref a ∧ a ∉ av ∧ Ls h a (List.toArray vs) ∧ IntsAre vs ns
  | .strs ss, v => ∃ a vs, v = .ref a ∧ a ∉ av ∧ Ls h a (List.toArray vs) ∧ StrsAre vs ss
  | .bools bs, v => ∃ a, v = .ref a ∧ a ∉ av ∧ Ls h a (List.toArray (bs.map Value.bool))
  | .tstrs ss, v => ∃ a vs, v = .ref a ∧ a ∉ av ∧ IsTup h a (List.toArray vs) ∧ StrsAre vs ss
  | .idict ns, v => ∃ a m, v = .ref a ∧ a ∉ av ∧ h.MapOf (PySem.strKind c.prog c.w) a m ∧ ∀ x ∈ ns, ∃ t, m x = some (.str x t)
  | .pair x y, v => ∃ a vx vy, v = .ref a ∧ a ∉ av ∧ IsTup h a (List.toArray [vx, vy]) ∧ VR c av h x vx ∧ VR c av h y vy

theorem VR.grow {c : Cx} {av : List Addr} {W : List Addr} {h h' : Heap} (hs : ∀ a ∈ W, a ∈ av) (g : ∀ b o, h.get? b = some o → b ∉ W → h'.get? b = some o) : ∀ {d : D} {v : Value}, VR c av h d v → VR c av h' d v
  | .none, _, x => x
  | .bool _, _, x => x
  | .int _, _, x => x
  | .str _, _, x => x
  | .ints _, _, ⟨a, vs, e, n, l, r⟩ => ⟨a, vs, e, n, l.at fun o ho => g a o ho fun q => n (hs _ q), r⟩
  | .strs _, _, ⟨a, vs, e, n, l, r⟩ => ⟨a, vs, e, n, l.at fun o ho => g a o ho fun q => n (hs _ q), r⟩
  | .bools _, _, ⟨a, e, n, l⟩ => ⟨a, e, n, l.at fun o ho => g a o ho fun q => n (hs _ q)⟩
  | .tstrs _, _, ⟨a, vs, e, n, ⟨o, ho, t⟩, r⟩ => ⟨a, vs, e, n, ⟨o, g a o ho fun q => n (hs _ q), t⟩, r⟩
  | .idict _, _, ⟨a, m, e, n, ⟨o, es, ep, ho, t⟩, r⟩ => ⟨a, m, e, n, ⟨o, es, ep, g a o ho fun q => n (hs _ q), t⟩, r⟩
  | .pair _ _, _, ⟨a, vx, vy, e, n, ⟨o, ho, t⟩, p, q⟩ => ⟨a, vx, vy, e, n, ⟨o, g a o ho fun q => n (hs _ q), t⟩, VR.grow hs g p, VR.grow hs g q⟩
theorem VR.mono {c : Cx} {av av' : List Addr} {h : Heap} (hs : ∀ a ∈ av', a ∈ av) : ∀ {d : D} {v : Value}, VR c av h d v → VR c av' h d v
  | .none, _, x => x
  | .bool _, _, x => x
  | .int _, _, x => x
  | .str _, _, x => x
  | .ints _, _, ⟨a, vs, e, n, l, r⟩ => ⟨a, vs, e, fun q => n (hs _ q), l, r⟩
  | .strs _, _, ⟨a, vs, e, n, l, r⟩ => ⟨a, vs, e, fun q => n (hs _ q), l, r⟩
  | .bools _, _, ⟨a, e, n, l⟩ => ⟨a, e, fun q => n (hs _ q), l⟩
  | .tstrs _, _, ⟨a, vs, e, n, t, r⟩ => ⟨a, vs, e, fun q => n (hs _ q), t, r⟩
  | .idict _, _, ⟨a, m, e, n, t, r⟩ => ⟨a, m, e, fun q => n (hs _ q), t, r⟩
  | .pair _ _, _, ⟨a, vx, vy, e, n, t, p, q⟩ => ⟨a, vx, vy, e, fun q => n (hs _ q), t, VR.mono hs p, VR.mono hs q⟩

structure Cx.Ok (c : Cx) : Prop where
  refl : ∀ s, c.R s s
  trans : ∀ {s s' s''}, c.R s s' → c.R s' s'' → c.R s s''
  keeps : ∀ {s s' : Shared}, Keeps s s' → c.R s s'
  grow : ∀ {s s'}, c.R s s' → GrowH c.W s.heap s'.heap
  bare : ∀ {s s'}, c.R s s' → c.gen → AllBare s.gens → AllBare s'.gens
  room : c.A.depth ≤ 560
  tabs : ∀ a ∈ c.tabs, a ∈ c.W
  units : c.A.units ≤ 200

/-- the frames and the owned lists are there -/
structure Low (c : Cx) (h : Heap) : Prop where
  frames : ∀ a ∈ c.W, a ∉ c.tabs → ∃ m, h.Ns a m
  tabsAt : ∀ a ∈ c.tabs, a ∈ c.W ∧ ∃ ps, Tbl h a ps ∧ ∀ pos cv, codeAmong pos ps.toList = some cv → ∃ c', cv = .ref c' ∧ c' ∉ c.W ++ c.own ∧ h.CodeRec cv (nameOf pos)
  owned : ∀ a ∈ c.own, ∃ o, h.get? a = some o
theorem Low.grow {c : Cx} {h h' : Heap} (x : Low c h) (g : GrowH c.W h h') : Low c h' where
  frames a ha hn := let ⟨m, e⟩ := x.frames a ha hn; ⟨m, g.ns a m ha e⟩
  tabsAt a ha := by
    obtain ⟨hw, ps, e, q⟩ := x.tabsAt a ha
    obtain ⟨ps', e', q'⟩ := g.tab a ps hw e
    refine ⟨hw, ps', e', fun pos cv z => ?_⟩
    rcases q' pos cv z with z | ⟨c', rfl, n, z, r⟩
    · obtain ⟨c', rfl, n, r⟩ := q pos cv z
      exact ⟨c', rfl, n, code_keep r fun o ho => g.keep c' o ho fun w => n (List.mem_append_left _ w)⟩
    · refine ⟨c', rfl, fun w => ?_, r⟩
      rcases List.mem_append.mp w with w | w
      · exact n w
      · obtain ⟨o, ho⟩ := x.owned c' w
        rw [z] at ho; cases ho
  owned a ha := by
    by_cases hw : a ∈ c.W
    · by_cases ht : a ∈ c.tabs
      · obtain ⟨_, ps, e, _⟩ := x.tabsAt a ht
        obtain ⟨ps', e', _⟩ := g.tab a ps hw e
        exact ⟨_, e'.1⟩
      · obtain ⟨m, e⟩ := x.frames a hw ht
        obtain ⟨o, es, ep, ho, _⟩ := g.ns a m hw e
        exact ⟨o, ho⟩
    · obtain ⟨o, e⟩ := x.owned a ha
      exact ⟨o, g.keep a o e hw⟩
theorem Low.there {c : Cx} {h : Heap} (x : Low c h) {a : Addr} (ha : a ∈ c.W) : ∃ o, h.get? a = some o := by
  by_cases ht : a ∈ c.tabs
  · obtain ⟨_, ps, e, _⟩ := x.tabsAt a ht; exact ⟨_, e.1⟩
  · obtain ⟨m, o, es, ep, ho, _⟩ := x.frames a ha ht; exact ⟨o, ho⟩
theorem Low.code {c : Cx} {h : Heap} (x : Low c h) {b : Addr} {ps : Array Value} (hb : b ∈ c.W) (e : h.get? b = some (tabObj ps)) {pos : Pos} {cv : Value} (q : codeAmong pos ps.toList = some cv) : ∃ c', cv = .ref c' ∧ c' ∉ c.W ++ c.own ∧ h.CodeRec cv (nameOf pos) := by
  by_cases ht : b ∈ c.tabs
  · obtain ⟨_, ps', e', k⟩ := x.tabsAt b ht
    have : tabObj ps' = tabObj ps := Option.some.inj (e'.1.symm.trans e)
    have : ps' = ps := by injection this with _ _ d; injection d
    subst this
    exact k pos cv q
  · obtain ⟨m, o, es, ep, ho, hd, _⟩ := x.frames b hb ht
    rw [ho] at e; cases e; cases hd
/-- the heap turns at objects of ours alone -/
theorem Low.turn {c : Cx} {h h' : Heap} (x : Low c h) {ch : List Addr} (hch : ∀ a ∈ ch, a ∈ c.W ++ c.own) (ht : ∀ a ∈ ch, a ∉ c.tabs) (hk : ∀ b o, b ∉ ch → h.get? b = some o → h'.get? b = some o)
    (hfr : ∀ a ∈ ch, a ∈ c.W → ∃ m, h'.Ns a m) (hown : ∀ a ∈ ch, a ∈ c.own → ∃ o, h'.get? a = some o) : Low c h' where
  frames a ha hn := by
    by_cases z : a ∈ ch
    · exact hfr a z ha
    · obtain ⟨m, e⟩ := x.frames a ha hn
      exact ⟨m, e.at' fun o ho => hk a o z ho⟩
  tabsAt a ha := by
    obtain ⟨hw, ps, e, q⟩ := x.tabsAt a ha
    refine ⟨hw, ps, ⟨hk a _ (fun z => ht a z ha) e.1, e.2⟩, fun pos cv z => ?_⟩
    obtain ⟨c', rfl, n, r⟩ := q pos cv z
    exact ⟨c', rfl, n, code_keep r fun o ho => hk c' o (fun w => n (hch c' w)) ho⟩
  owned a ha := by
    by_cases z : a ∈ ch
    · exact hown a z ha
    · obtain ⟨o, ho⟩ := x.owned a ha
      exact ⟨o, hk a o z ho⟩
theorem Low.fresh {c : Cx} {h : Heap} (x : Low c h) (b : Bool) {a : Addr} (ha : h.get? a = none) : a ∉ c.av b := fun q => by
  have : a ∈ c.W ∨ a ∈ c.own := by
    cases b
    · exact .inl q
    · exact List.mem_append.mp q
  rcases this with w | w
  · obtain ⟨o, ho⟩ := x.there w
    rw [ha] at ho; cases ho
  · obtain ⟨o, ho⟩ := x.owned a w
    rw [ha] at ho; cases ho

/-- at a heap that has grown from h: the state is good -/
structure At (c : Cx) (h : Heap) (s : Shared) : Prop where
  grow : GrowH c.W h s.heap
  bare : c.gen → AllBare s.gens
  low : Low c h

theorem At.next {c : Cx} {h : Heap} {s s' : Shared} (k : c.Ok) (x : At c h s) (r : c.R s s') : At c h s' := ⟨x.grow.trans (k.grow r), fun g => k.bare r g (x.bare g), x.low⟩
theorem At.here {c : Cx} {h : Heap} {s : Shared} (a : At c h s) : At c s.heap s := ⟨GrowH.refl _ _, a.bare, a.low.grow a.grow⟩
theorem At.fresh' {c : Cx} {h : Heap} {s : Shared} (x : At c h s) (b : Bool) {a : Addr} (ha : s.heap.get? a = none) : a ∉ c.av b := (x.low.grow x.grow).fresh b ha
theorem At.fresh {c : Cx} {h : Heap} {s : Shared} (x : At c h s) (b : Bool) : ∀ a, s.heap.objs.size ≤ a → a ∉ c.av b := fun a ha => x.fresh' b (Heap.get?_none_of_le ha)

theorem VR.step {c : Cx} (k : c.Ok) {b : Bool} {s s' : Shared} (r : c.R s s') {d : D} {v : Value} (x : VR c (c.av b) s.heap d v) : VR c (c.av b) s'.heap d v :=
  x.grow (c.av_sub b) (k.grow r).keep
theorem VR.weak {c : Cx} {h : Heap} {d : D} {v : Value} (b : Bool) (x : VR c (c.av true) h d v) : VR c (c.av b) h d v :=
  x.mono fun a ha => by cases b <;> simp_all [Cx.av]

/-- a pure piece of the machine that hands back a d -/
def Gives (c : Cx) (b : Bool) (h : Heap) (t : Sem Value) (d : D) : Prop :=
  ∀ (s : Shared) (Q : Value → Shared → Prop) (E : Value → Shared → Prop), At c h s →
    (∀ v s', c.R s s' → VR c (c.av b) s'.heap d v → Q v s') → wpAny (model c.prog c.w) c.A t Q E s
abbrev Ev (c : Cx) (b : Bool) (env : Env) (h : Heap) (e : Expr) (d : D) : Prop := Gives c b h (eval e env) d

theorem Gives.weak {c : Cx} {b : Bool} {h : Heap} {t : Sem Value} {d : D} (x : Gives c true h t d) : Gives c b h t d :=
  fun s Q E a q => x s Q E a fun v s' r y => q v s' r (y.weak b)
theorem Gives.at {c : Cx} (_k : c.Ok) {b : Bool} {h h' : Heap} {t : Sem Value} {d : D} (x : Gives c b h t d) (g : GrowH c.W h h') (low : Low c h) : Gives c b h' t d :=
  fun s Q E a q => x s Q E ⟨g.trans a.grow, a.bare, low⟩ q

/-- step that turns tokens alone, or adds objects -/
theorem R_toks {c : Cx} (k : c.Ok) (s : Shared) (t : Nat) : c.R s { s with toks := t } := k.keeps ⟨s.heap, t, rfl, fun _ _ e => e⟩
theorem R_heap {c : Cx} (k : c.Ok) (s : Shared) {h' : Heap} (t : Nat) (hk : ∀ b o, s.heap.get? b = some o → h'.get? b = some o) : c.R s { s with heap := h', toks := t } := k.keeps ⟨h', t, rfl, hk⟩
theorem R_push {c : Cx} (k : c.Ok) (s : Shared) (o : Obj) (t : Nat) : c.R s { s with heap := s.heap.push o, toks := t } :=
  R_heap k s t (fun _ _ e => Heap.get?_push_of_some _ e)

section
variable {c : Cx} {b : Bool} {env : Env} {h : Heap}

theorem Ev.cInt (k : c.Ok) {i : Int} {kk pos} : Ev c b env h (.Constant (.int i) kk pos) (.int i) :=
  fun s _ _ _ q => wpAny_Constant_int (q _ _ (R_toks k s _) ⟨_, rfl⟩)
theorem Ev.cNone (k : c.Ok) {kk pos} : Ev c b env h (.Constant .none kk pos) .none :=
  fun s _ _ _ q => wpAny_Constant_none (q _ _ (k.refl s) rfl)
theorem Ev.cBool (k : c.Ok) {x : Bool} {kk pos} : Ev c b env h (.Constant (.bool x) kk pos) (.bool x) :=
  fun s _ _ _ q => wpAny_Constant_bool (q _ _ (k.refl s) rfl)
theorem Ev.cStr (k : c.Ok) {x : Str} {kk pos} : Ev c b env h (.Constant (.str x) kk pos) (.str x) :=
  fun s _ _ _ q => wpAny_Constant_str (q _ _ (R_toks k s _) ⟨_, rfl⟩)

/-- a name's value -/
def Lk (c : Cx) (env : Env) (h : Heap) (x : Str) (v : Value) : Prop :=
  env.scope.kind = .function ∧ ((env.kindOf x = some .local ∧ ∃ m, h.Ns env.locals m ∧ m x = some v) ∨
    ((env.kindOf x = some .cell ∨ (env.kindOf x = some .free ∧ (x == ("__classdict__" : Str)) = false)) ∧ ∃ a, env.cells.lookup x = some a ∧ a ∉ c.W ∧ h.IsCell a (some v)))

theorem Lk.load {x : Str} {v : Value} (l : Lk c env h x v) {s : Shared} (a : At c h s) {M : Model} {A : Around} {E} {Q : Value → Shared → Prop} (q : Q v s) : wpAny M A (loadName env x) Q E s := by
  obtain ⟨hk, ⟨hl, m, hn, hm⟩ | ⟨hl, ca, hc, hw, o, ho, hd⟩⟩ := l
  · exact wpAny_loadName_local hk hl (a.grow.allNs hn) hm q
  · rcases hl with hl | ⟨hl, hcd⟩
    · exact wpAny_loadName_cell hk hl hc ⟨o, a.grow.keep _ _ ho hw, hd⟩ q
    · exact wpAny_loadName_free hk hl hc ⟨o, a.grow.keep _ _ ho hw, hd⟩ q (hn := hcd)

theorem Ev.name (k : c.Ok) {x : Str} {pos : Pos} {v : Value} {d : D} (l : Lk c env h x v) (hv : VR c (c.av b) h d v) (hd : (x == ("__debug__" : Str)) = false := by decide) : Ev c b env h (.Name x pos) d :=
  fun s _ _ a q => wpAny_Name (l.load a (q _ _ (k.refl s) (hv.grow (c.av_sub b) a.grow.keep))) hd

theorem Gives.mono {t : Sem Value} {d : D} {s : Shared} {E : Value → Shared → Prop} (x : Gives c b h t d) (a : At c h s) {Q : Value → Shared → Prop} (q : ∀ v s', c.R s s' → VR c (c.av b) s'.heap d v → Q v s') : wpAny (model c.prog c.w) c.A t Q E s := x s Q E a q

theorem Ev.bin (k : c.Ok) {l r : Expr} {op : Operator} {pos : Pos} {d₁ d₂ d : D} (h1 : Ev c false env h l d₁) (h2 : Ev c false env h r d₂)
    (hop : ∀ v₁ v₂ h', GrowH c.W h h' → VR c (c.av false) h' d₁ v₁ → VR c (c.av false) h' d₂ v₂ → Gives c b h' (binaryOp op v₁ v₂) d) : Ev c b env h (.BinOp l op r pos) d :=
  fun s Q E a q => wpAny_BinOp (h1.mono a fun v₁ s₁ r₁ x₁ => h2.mono (a.next k r₁) fun v₂ s₂ r₂ x₂ => by
    have a₂ := (a.next k r₁).next k r₂
    exact (hop v₁ v₂ s₂.heap a₂.grow (x₁.step k r₂) x₂).mono a₂.here fun v s' r x => q v s' (k.trans (k.trans r₁ r₂) r) x)

theorem Ev.addInt (k : c.Ok) {l r : Expr} {pos : Pos} {x y : Int} (h1 : Ev c false env h l (.int x)) (h2 : Ev c false env h r (.int y)) : Ev c b env h (.BinOp l .Add r pos) (.int (x + y)) :=
  Ev.bin k h1 h2 fun _ _ _ _ ⟨_, e₁⟩ ⟨_, e₂⟩ => by subst e₁ e₂; exact fun s _ _ _ q => add_int (q _ _ (R_toks k s _) ⟨_, rfl⟩)
theorem Ev.subInt (k : c.Ok) {l r : Expr} {pos : Pos} {x y : Int} (h1 : Ev c false env h l (.int x)) (h2 : Ev c false env h r (.int y)) : Ev c b env h (.BinOp l .Sub r pos) (.int (x - y)) :=
  Ev.bin k h1 h2 fun _ _ _ _ ⟨_, e₁⟩ ⟨_, e₂⟩ => by subst e₁ e₂; exact fun s _ _ _ q => sub_int (q _ _ (R_toks k s _) ⟨_, rfl⟩)
theorem Ev.modInt (k : c.Ok) {l r : Expr} {pos : Pos} {x y : Int} (hy : 0 < y) (h1 : Ev c false env h l (.int x)) (h2 : Ev c false env h r (.int y)) : Ev c b env h (.BinOp l .Mod r pos) (.int (x % y)) :=
  Ev.bin k h1 h2 fun _ _ _ _ ⟨_, e₁⟩ ⟨_, e₂⟩ => by
    subst e₁ e₂
    exact fun s _ _ _ q => mod_int' (Int.ne_of_gt hy) (q _ _ (R_toks k s _) ⟨_, by rw [Int.fmod_eq_emod_of_nonneg _ (Int.le_of_lt hy)]⟩)
theorem Ev.mulInt (k : c.Ok) {l r : Expr} {pos : Pos} {x y : Int} (hxy : IntMulOk x y) (h1 : Ev c false env h l (.int x)) (h2 : Ev c false env h r (.int y)) : Ev c b env h (.BinOp l .Mult r pos) (.int (x * y)) :=
  Ev.bin k h1 h2 fun _ _ _ _ ⟨_, e₁⟩ ⟨_, e₂⟩ => by subst e₁ e₂; exact fun s _ _ _ q => mul_int (q _ _ (R_toks k s _) ⟨_, rfl⟩) hxy
theorem Ev.addStr (k : c.Ok) {l r : Expr} {pos : Pos} {x y : Str} (hz : x.length + y.length ≤ sizeLine) (h1 : Ev c false env h l (.str x)) (h2 : Ev c false env h r (.str y)) : Ev c b env h (.BinOp l .Add r pos) (.str (x ++ y)) :=
  Ev.bin k h1 h2 fun _ _ _ _ ⟨_, e₁⟩ ⟨_, e₂⟩ => by subst e₁ e₂; exact fun s _ _ _ q => add_str (fun _ _ => q _ _ (R_toks k s _) ⟨_, rfl⟩) hz
end
end Mine

namespace Mine
section
variable {c : Cx} {b : Bool} {env : Env} {h : Heap}

/-- a comparison's answer -/
def Cm (c : Cx) (h : Heap) (op : CmpOp) (d₁ d₂ : D) (β : Bool) : Prop :=
  ∀ (v₁ v₂ : Value) (s : Shared) (Q : Value → Shared → Prop) (E : Value → Shared → Prop), At c h s → VR c (c.av false) s.heap d₁ v₁ → VR c (c.av false) s.heap d₂ v₂ →
    (∀ s', c.R s s' → Q (.bool β) s') → wpAny (model c.prog c.w) c.A (compareOp op v₁ v₂) Q E s

theorem Cm.eqInt (k : c.Ok) {x y : Int} : Cm c h .Eq (.int x) (.int y) (x == y) := fun _ _ s _ _ _ ⟨_, e₁⟩ ⟨_, e₂⟩ q => by subst e₁ e₂; exact eq_int (q _ (k.refl s))
theorem Cm.neInt (k : c.Ok) {x y : Int} : Cm c h .NotEq (.int x) (.int y) (x != y) := fun _ _ s _ _ _ ⟨_, e₁⟩ ⟨_, e₂⟩ q => by subst e₁ e₂; exact ne_int (q _ (k.refl s))
theorem Cm.ltInt (k : c.Ok) {x y : Int} : Cm c h .Lt (.int x) (.int y) (decide (x < y)) := fun _ _ s _ _ _ ⟨_, e₁⟩ ⟨_, e₂⟩ q => by subst e₁ e₂; exact lt_int (q _ (k.refl s))
theorem Cm.leInt (k : c.Ok) {x y : Int} : Cm c h .LtE (.int x) (.int y) (decide (x ≤ y)) := fun _ _ s _ _ _ ⟨_, e₁⟩ ⟨_, e₂⟩ q => by subst e₁ e₂; exact le_int (q _ (k.refl s))
theorem Cm.gtInt (k : c.Ok) {x y : Int} : Cm c h .Gt (.int x) (.int y) (decide (y < x)) := fun _ _ s _ _ _ ⟨_, e₁⟩ ⟨_, e₂⟩ q => by subst e₁ e₂; exact gt_int (q _ (k.refl s))
theorem Cm.eqStr (k : c.Ok) {x y : Str} : Cm c h .Eq (.str x) (.str y) (x == y) := fun _ _ s _ _ _ ⟨_, e₁⟩ ⟨_, e₂⟩ q => by subst e₁ e₂; exact eq_str (q _ (k.refl s))
theorem Cm.neStr (k : c.Ok) {x y : Str} : Cm c h .NotEq (.str x) (.str y) (x != y) := fun _ _ s _ _ _ ⟨_, e₁⟩ ⟨_, e₂⟩ q => by subst e₁ e₂; exact ne_str (q _ (k.refl s))
theorem Cm.eqBool (k : c.Ok) {x y : Bool} : Cm c h .Eq (.bool x) (.bool y) (x == y) := fun _ _ s _ _ _ e₁ e₂ q => by cases e₁; cases e₂; exact eq_bool (q _ (k.refl s))
theorem Cm.neBool (k : c.Ok) {x y : Bool} : Cm c h .NotEq (.bool x) (.bool y) (x != y) := fun _ _ s _ _ _ e₁ e₂ q => by cases e₁; cases e₂; exact ne_bool (q _ (k.refl s))
theorem Cm.inStrs (k : c.Ok) {x : Str} {ss : List Str} : Cm c h .In (.str x) (.strs ss) (ss.any (· == x)) := fun _ _ s _ _ _ ⟨_, e₁⟩ ⟨_, _, e₂, _, hl, hi⟩ q => by subst e₁ e₂; exact in_list_strs hl.isList hi (q _ (k.refl s))
theorem Cm.notinStrs (k : c.Ok) {x : Str} {ss : List Str} : Cm c h .NotIn (.str x) (.strs ss) (!ss.any (· == x)) := fun _ _ s _ _ _ ⟨_, e₁⟩ ⟨_, _, e₂, _, hl, hi⟩ q => by subst e₁ e₂; exact notin_list_strs hl.isList hi (q _ (k.refl s))
theorem Cm.inTstrs (k : c.Ok) {x : Str} {ss : List Str} : Cm c h .In (.str x) (.tstrs ss) (ss.any (· == x)) := fun _ _ s _ _ _ ⟨_, e₁⟩ ⟨_, vs, e₂, _, hl, hi⟩ q => by
  subst e₁ e₂; exact in_tuple_strs hl (by simpa using hi) (q _ (k.refl s))

theorem Ev.cmp (k : c.Ok) {l r : Expr} {op : CmpOp} {pos : Pos} {d₁ d₂ : D} {β : Bool} (h1 : Ev c false env h l d₁) (h2 : Ev c false env h r d₂) (hc : Cm c h op d₁ d₂ β)
    (hm : behindInMarks op r = false := by rfl) : Ev c b env h (.Compare l [op] [r] pos) (.bool β) :=
  fun s Q E a q => wpAny_Compare1 (h1.mono a fun v₁ s₁ r₁ x₁ => h2.mono (a.next k r₁) fun v₂ s₂ r₂ x₂ =>
    hc v₁ v₂ s₂ _ _ ((a.next k r₁).next k r₂) (x₁.step k r₂) x₂ fun s' r => q _ s' (k.trans (k.trans r₁ r₂) r) rfl) hm

/-- a test's answer -/
def TrW (c : Cx) (env : Env) (h : Heap) (e : Expr) (whole : Sem Value) (β : Bool) : Prop :=
  ∀ (s : Shared) (Q : Bool → Shared → Prop) (E : Value → Shared → Prop), At c h s → (∀ s', c.R s s' → Q β s') → wpAny (model c.prog c.w) c.A (isTrue e env whole) Q E s
abbrev Tr (c : Cx) (env : Env) (h : Heap) (e : Expr) (β : Bool) : Prop := TrW c env h e (eval e env) β

theorem Tr.cmp (k : c.Ok) {l r : Expr} {op : CmpOp} {pos : Pos} {d₁ d₂ : D} {β : Bool} (h1 : Ev c false env h l d₁) (h2 : Ev c false env h r d₂) (hc : Cm c h op d₁ d₂ β)
    (hm : behindInMarks op r = false := by rfl) : Tr c env h (.Compare l [op] [r] pos) β :=
  fun s Q E a q => wpAny_isTrue_Compare1 (h1.mono a fun v₁ s₁ r₁ x₁ => h2.mono (a.next k r₁) fun v₂ s₂ r₂ x₂ =>
    hc v₁ v₂ s₂ _ _ ((a.next k r₁).next k r₂) (x₁.step k r₂) x₂ fun s' r => wpAny_truthy_bool (q s' (k.trans (k.trans r₁ r₂) r))) hm

theorem Tr.plain (_k : c.Ok) {e : Expr} {β : Bool} (h1 : Ev c false env h e (.bool β))
    (he : isTrue e env (eval e env) = (do let v ← eval e env; standAt e.pos; holding [v] (truthy v)) := by rfl) : Tr c env h e β :=
  fun s Q E a q => isTrue_plain (h1.mono a fun v s' r x => by cases x; exact wpAny_truthy_bool (q s' r)) he
theorem Tr.not (_k : c.Ok) {e : Expr} {pos : Pos} {β : Bool} {w : Sem Value} (h1 : Tr c env h e β) : TrW c env h (.UnaryOp .Not e pos) w (!β) :=
  fun s Q E a q => isTrue_not (h1 s _ _ a fun s' r => q s' r)
theorem Tr.andNil (k : c.Ok) {pos : Pos} {w : Sem Value} : TrW c env h (.BoolOp .And [] pos) w true := fun s _ _ _ q => isTrue_and_nil (q _ (k.refl s))
theorem Tr.orNil (k : c.Ok) {pos : Pos} {w : Sem Value} : TrW c env h (.BoolOp .Or [] pos) w false := fun s _ _ _ q => isTrue_or_nil (q _ (k.refl s))
theorem Tr.and (k : c.Ok) {e : Expr} {rest : List Expr} {pos : Pos} {w : Sem Value} {β γ : Bool} (h1 : Tr c env h e β) (h2 : β = true → TrW c env h (.BoolOp .And rest pos) w γ) : TrW c env h (.BoolOp .And (e :: rest) pos) w (β && γ) :=
  fun s Q E a q => isTrue_and (h1 s _ _ a fun s' r => by
    cases β
    · exact q s' r
    · exact h2 rfl s' _ _ (a.next k r) fun s'' r' => q s'' (k.trans r r'))
theorem Tr.andF (_k : c.Ok) {e : Expr} {rest : List Expr} {pos : Pos} {w : Sem Value} (h1 : Tr c env h e false) : TrW c env h (.BoolOp .And (e :: rest) pos) w false :=
  fun s Q E a q => isTrue_and (h1 s _ _ a fun s' r => q s' r)
theorem Tr.or (k : c.Ok) {e : Expr} {rest : List Expr} {pos : Pos} {w : Sem Value} {β γ : Bool} (h1 : Tr c env h e β) (h2 : β = false → TrW c env h (.BoolOp .Or rest pos) w γ) : TrW c env h (.BoolOp .Or (e :: rest) pos) w (β || γ) :=
  fun s Q E a q => isTrue_or (h1 s _ _ a fun s' r => by
    cases β
    · exact h2 rfl s' _ _ (a.next k r) fun s'' r' => q s'' (k.trans r r')
    · exact q s' r)
/-- the value forms -/
theorem Ev.one (_k : c.Ok) {op : BoolOp} {e : Expr} {pos : Pos} {d : D} (h1 : Ev c b env h e d) : Ev c b env h (.BoolOp op [e] pos) d := fun s Q E a q => BoolOp_one (h1 s Q E a q)
theorem Ev.and (k : c.Ok) {e₁ e₂ : Expr} {rest : List Expr} {pos : Pos} {β γ : Bool} (h1 : Ev c false env h e₁ (.bool β)) (h2 : β = true → Ev c b env h (.BoolOp .And (e₂ :: rest) pos) (.bool γ)) : Ev c b env h (.BoolOp .And (e₁ :: e₂ :: rest) pos) (.bool (β && γ)) :=
  fun s Q E a q => BoolOp_and (h1.mono a fun v s' r x => by
    cases x
    refine wpAny_truthy_bool ?_
    cases β
    · exact q _ s' r rfl
    · exact h2 rfl s' _ _ (a.next k r) fun v s'' r' x => q v s'' (k.trans r r') x)
theorem Ev.or (k : c.Ok) {e₁ e₂ : Expr} {rest : List Expr} {pos : Pos} {β γ : Bool} (h1 : Ev c false env h e₁ (.bool β)) (h2 : β = false → Ev c b env h (.BoolOp .Or (e₂ :: rest) pos) (.bool γ)) : Ev c b env h (.BoolOp .Or (e₁ :: e₂ :: rest) pos) (.bool (β || γ)) :=
  fun s Q E a q => BoolOp_or (h1.mono a fun v s' r x => by
    cases x
    refine wpAny_truthy_bool ?_
    cases β
    · exact h2 rfl s' _ _ (a.next k r) fun v s'' r' x => q v s'' (k.trans r r') x
    · exact q _ s' r rfl)
theorem Ev.orInts (k : c.Ok) {e₁ e₂ : Expr} {rest : List Expr} {pos : Pos} {xs ys : List Int} (hz : xs.length < 2 ^ 62) (h1 : Ev c b env h e₁ (.ints xs)) (h2 : xs = [] → Ev c b env h (.BoolOp .Or (e₂ :: rest) pos) (.ints ys)) :
    Ev c b env h (.BoolOp .Or (e₁ :: e₂ :: rest) pos) (.ints (if xs = [] then ys else xs)) :=
  fun s Q E a q => BoolOp_or (h1.mono a fun v s' r x => by
    obtain ⟨p, vs, rfl, hp, hl, hi⟩ := x
    have hlen := hi.length
    refine wpAny_truthy_list hl.isList (by simp only [List.size_toArray]; omega) ?_
    have r₂ := R_toks k s' (s'.toks + 1 + 1)
    cases vs with
    | nil =>
      have e : xs = [] := by cases xs with
        | nil => rfl
        | cons _ _ => simp at hlen
      subst e
      simp only [List.isEmpty_toArray, List.isEmpty_nil, Bool.not_true, Bool.false_eq_true, if_false]
      exact h2 rfl _ _ _ ((a.next k r).next k r₂) fun v s'' r' x => q v s'' (k.trans (k.trans r r₂) r') (by simpa using x)
    | cons v₀ vs =>
      have e : xs ≠ [] := by rintro rfl; simp at hlen
      simp only [List.isEmpty_toArray, List.isEmpty_cons, Bool.not_false, if_true]
      exact q _ _ (k.trans r r₂) (by rw [if_neg e]; exact ⟨p, _, rfl, hp, hl, hi⟩))

theorem Ev.ifexp (k : c.Ok) {t x y : Expr} {pos : Pos} {β : Bool} {d : D} (h1 : Tr c env h t β) (h2 : β = true → Ev c b env h x d) (h3 : β = false → Ev c b env h y d) : Ev c b env h (.IfExp t x y pos) d :=
  fun s Q E a q => wpAny_IfExp (h1 s _ _ a fun s' r => by
    cases β
    · exact h3 rfl s' _ _ (a.next k r) fun v s'' r' x => q v s'' (k.trans r r') x
    · exact h2 rfl s' _ _ (a.next k r) fun v s'' r' x => q v s'' (k.trans r r') x)

/-- chains -/
theorem Tr.chain2 (k : c.Ok) {l r₁ r₂ : Expr} {o₁ o₂ : CmpOp} {pos : Pos} {w : Sem Value} {d₀ d₁ d₂ : D} {β γ : Bool} (h0 : Ev c false env h l d₀) (h1 : Ev c false env h r₁ d₁) (h2 : Ev c false env h r₂ d₂)
    (c1 : Cm c h o₁ d₀ d₁ β) (c2 : Cm c h o₂ d₁ d₂ γ) (hm : lastMarks [o₁, o₂] [r₁, r₂] = false := by rfl) : TrW c env h (.Compare l [o₁, o₂] [r₁, r₂] pos) w (β && γ) :=
  fun s Q E a q => isTrue_chain (h0.mono a fun v₀ s₀ r₀ x₀ => test_link (h1.mono (a.next k r₀) fun v₁ s₁ r₁ x₁ =>
    c1 v₀ v₁ s₁ _ _ ((a.next k r₀).next k r₁) (x₀.step k r₁) x₁ fun s₂ r₂ => wpAny_truthy_bool (by
      have a₂ := ((a.next k r₀).next k r₁).next k r₂
      cases β
      · exact q s₂ (k.trans (k.trans r₀ r₁) r₂)
      · exact test_last (h2.mono a₂ fun v₂ s₃ r₃ x₂ => c2 v₁ v₂ s₃ _ _ (a₂.next k r₃) ((x₁.step k r₂).step k r₃) x₂ fun s₄ r₄ => wpAny_truthy_bool (q s₄ (k.trans (k.trans (k.trans (k.trans r₀ r₁) r₂) r₃) r₄)))))) hm
theorem Tr.chain3 (k : c.Ok) {l r₁ r₂ r₃ : Expr} {o₁ o₂ o₃ : CmpOp} {pos : Pos} {w : Sem Value} {d₀ d₁ d₂ d₃ : D} {β γ δ : Bool} (h0 : Ev c false env h l d₀) (h1 : Ev c false env h r₁ d₁) (h2 : Ev c false env h r₂ d₂) (h3 : Ev c false env h r₃ d₃)
    (c1 : Cm c h o₁ d₀ d₁ β) (c2 : Cm c h o₂ d₁ d₂ γ) (c3 : Cm c h o₃ d₂ d₃ δ) (hm : lastMarks [o₁, o₂, o₃] [r₁, r₂, r₃] = false := by rfl) : TrW c env h (.Compare l [o₁, o₂, o₃] [r₁, r₂, r₃] pos) w (β && (γ && δ)) :=
  fun s Q E a q => isTrue_chain (h0.mono a fun v₀ s₀ r₀ x₀ => test_link (h1.mono (a.next k r₀) fun v₁ s₁ r₁ x₁ =>
    c1 v₀ v₁ s₁ _ _ ((a.next k r₀).next k r₁) (x₀.step k r₁) x₁ fun s₂ r₂ => wpAny_truthy_bool (by
      have a₂ := ((a.next k r₀).next k r₁).next k r₂
      cases β
      · exact q s₂ (k.trans (k.trans r₀ r₁) r₂)
      · exact test_link (h2.mono a₂ fun v₂ s₃ r₃ x₂ => c2 v₁ v₂ s₃ _ _ (a₂.next k r₃) ((x₁.step k r₂).step k r₃) x₂ fun s₄ r₄ => wpAny_truthy_bool (by
          have a₄ := (a₂.next k r₃).next k r₄
          have t₄ := k.trans (k.trans (k.trans (k.trans r₀ r₁) r₂) r₃) r₄
          cases γ
          · exact q s₄ t₄
          · exact test_last (h3.mono a₄ fun v₃ s₅ r₅ x₃ => c3 v₂ v₃ s₅ _ _ (a₄.next k r₅) ((x₂.step k r₄).step k r₅) x₃ fun s₆ r₆ => wpAny_truthy_bool (q s₆ (k.trans (k.trans t₄ r₅) r₆)))))))) hm
end
end Mine

namespace Mine
section
variable {c : Cx} {b : Bool} {env : Env} {h : Heap}

/-- items -/
def SubOk (slice : Expr) : Prop := ∀ o i, subscripted slice false o i = operate [o, i] (getItem o i)

theorem Ev.itemStrs (k : c.Ok) {value slice : Expr} {pos : Pos} {ss : List Str} {i : Int} {x : Str} (h1 : Ev c false env h value (.strs ss)) (h2 : Ev c false env h slice (.int i))
    (h0 : 0 ≤ i) (hi : i < 2 ^ 63) (hx : ss[i.toNat]? = some x) (hs : SubOk slice := by intro _ _; rfl) : Ev c b env h (.Subscript value slice pos) (.str x) :=
  fun s Q E a q => Subscript_ (h1.mono a fun v₁ s₁ r₁ x₁ => h2.mono (a.next k r₁) fun v₂ s₂ r₂ x₂ => by
    obtain ⟨p, vs, rfl, _, hl, hv⟩ := x₁.step k r₂
    obtain ⟨u, rfl⟩ := x₂
    obtain ⟨t, ht⟩ := hv.get _ _ hx
    exact tail_any hl.isList.typeIs slot_list_getitem.lookup (wpAny_getItem_list hl.isList h0 hi (by simpa using ht) (q _ _ (k.trans r₁ r₂) ⟨t, rfl⟩)) (hs _ _))
theorem Ev.itemInts (k : c.Ok) {value slice : Expr} {pos : Pos} {ss : List Int} {i : Int} {x : Int} (h1 : Ev c false env h value (.ints ss)) (h2 : Ev c false env h slice (.int i))
    (h0 : 0 ≤ i) (hi : i < 2 ^ 63) (hx : ss[i.toNat]? = some x) (hs : SubOk slice := by intro _ _; rfl) : Ev c b env h (.Subscript value slice pos) (.int x) :=
  fun s Q E a q => Subscript_ (h1.mono a fun v₁ s₁ r₁ x₁ => h2.mono (a.next k r₁) fun v₂ s₂ r₂ x₂ => by
    obtain ⟨p, vs, rfl, _, hl, hv⟩ := x₁.step k r₂
    obtain ⟨u, rfl⟩ := x₂
    obtain ⟨t, ht⟩ := hv.get _ _ hx
    exact tail_any hl.isList.typeIs slot_list_getitem.lookup (wpAny_getItem_list hl.isList h0 hi (by simpa using ht) (q _ _ (k.trans r₁ r₂) ⟨t, rfl⟩)) (hs _ _))
theorem Ev.itemBools (k : c.Ok) {value slice : Expr} {pos : Pos} {ss : List Bool} {i : Int} {x : Bool} (h1 : Ev c false env h value (.bools ss)) (h2 : Ev c false env h slice (.int i))
    (h0 : 0 ≤ i) (hi : i < 2 ^ 63) (hx : ss[i.toNat]? = some x) (hs : SubOk slice := by intro _ _; rfl) : Ev c b env h (.Subscript value slice pos) (.bool x) :=
  fun s Q E a q => Subscript_ (h1.mono a fun v₁ s₁ r₁ x₁ => h2.mono (a.next k r₁) fun v₂ s₂ r₂ x₂ => by
    obtain ⟨p, rfl, _, hl⟩ := x₁.step k r₂
    obtain ⟨u, rfl⟩ := x₂
    exact tail_any hl.isList.typeIs slot_list_getitem.lookup (wpAny_getItem_list hl.isList h0 hi (x := .bool x) (by simp [hx]) (q _ _ (k.trans r₁ r₂) rfl)) (hs _ _))
/-- the last item of a list of texts -/
theorem Ev.lastStrs (k : c.Ok) {value slice : Expr} {pos : Pos} {ss : List Str} {x : Str} (h1 : Ev c false env h value (.strs (ss ++ [x]))) (h2 : Ev c false env h slice (.int (-1)))
    (hs : SubOk slice := by intro _ _; rfl) : Ev c b env h (.Subscript value slice pos) (.str x) :=
  fun s Q E a q => Subscript_ (h1.mono a fun v₁ s₁ r₁ x₁ => h2.mono (a.next k r₁) fun v₂ s₂ r₂ x₂ => by
    obtain ⟨p, vs, rfl, _, hl, hv⟩ := x₁.step k r₂
    obtain ⟨u, rfl⟩ := x₂
    obtain ⟨t, ht⟩ := hv.get ss.length x (by simp)
    have hlen := hv.length
    rw [List.length_append, List.length_singleton] at hlen
    refine tail_any hl.isList.typeIs slot_list_getitem.lookup (wpAny_getItem_list_neg hl.isList (by decide) (by simp only [List.size_toArray]; omega) (by decide) (x := .str x t) ?_ (q _ _ (k.trans r₁ r₂) ⟨t, rfl⟩)) (hs _ _)
    have : (-1 + ((List.toArray vs).size : Int)).toNat = ss.length := by simp only [List.size_toArray]; omega
    rw [this]; simpa using ht)
theorem Ev.fst (k : c.Ok) {value : Expr} {kk} {p₁ pos : Pos} {x y : D} (h1 : Ev c b env h value (.pair x y)) : Ev c b env h (.Subscript value (.Constant (.int 0) kk p₁) pos) x :=
  fun s Q E a q => Subscript_ (h1.mono a fun v₁ s₁ r₁ x₁ => by
    refine (Ev.cInt (b := b) k).mono (a.next k r₁) fun v₂ s₂ r₂ x₂ => ?_
    obtain ⟨p, vx, vy, rfl, _, ht, hx, hy⟩ := x₁.step k r₂
    obtain ⟨u, rfl⟩ := x₂
    exact item_tupleT ht (by decide) (by decide) (j := 0) rfl rfl (q _ _ (k.trans r₁ r₂) hx))
theorem Ev.snd (k : c.Ok) {value : Expr} {kk} {p₁ pos : Pos} {x y : D} (h1 : Ev c b env h value (.pair x y)) : Ev c b env h (.Subscript value (.Constant (.int 1) kk p₁) pos) y :=
  fun s Q E a q => Subscript_ (h1.mono a fun v₁ s₁ r₁ x₁ => by
    refine (Ev.cInt (b := b) k).mono (a.next k r₁) fun v₂ s₂ r₂ x₂ => ?_
    obtain ⟨p, vx, vy, rfl, _, ht, hx, hy⟩ := x₁.step k r₂
    obtain ⟨u, rfl⟩ := x₂
    exact item_tupleT ht (by decide) (by decide) (j := 1) rfl rfl (q _ _ (k.trans r₁ r₂) hy))
theorem Ev.itemDict (k : c.Ok) {value slice : Expr} {pos : Pos} {ns : List Str} {x : Str} (h1 : Ev c false env h value (.idict ns)) (h2 : Ev c false env h slice (.str x)) (hx : x ∈ ns)
    (hs : SubOk slice := by intro _ _; rfl) : Ev c b env h (.Subscript value slice pos) (.str x) :=
  fun s Q E a q => Subscript_ (h1.mono a fun v₁ s₁ r₁ x₁ => h2.mono (a.next k r₁) fun v₂ s₂ r₂ x₂ => by
    obtain ⟨p, m, rfl, _, hm, hn⟩ := x₁.step k r₂
    obtain ⟨u, rfl⟩ := x₂
    obtain ⟨t, ht⟩ := hn x hx
    exact tail_any hm.typeIs slot_dict_getitem.lookup (wpAny_getItem_of (PySem.strKind_is c.prog c.w x u) hm ht (q _ _ (k.trans (k.trans r₁ r₂) (R_toks k s₂ _)) ⟨t, rfl⟩)) (hs _ _))
theorem Ev.char (k : c.Ok) {value slice : Expr} {pos : Pos} {x : Str} {i : Int} (h1 : Ev c false env h value (.str x)) (h2 : Ev c false env h slice (.int i))
    (h0 : 0 ≤ i) (hi : i < 2 ^ 60) (hx : i < x.length) (hs : SubOk slice := by intro _ _; rfl) (hv : ∀ (y : Str) (t : Tok) r, letTemporaryGo value (.str y t) r = pure () := by intro _ _ _; rfl) : Ev c b env h (.Subscript value slice pos) (.str (Txt.item x i)) :=
  fun s Q E a q => Subscript_ (h1.mono a fun v₁ s₁ r₁ x₁ => h2.mono (a.next k r₁) fun v₂ s₂ r₂ x₂ => by
    obtain ⟨t, rfl⟩ := x₁
    obtain ⟨u, rfl⟩ := x₂
    exact item_str (fitsSsize_of (N := 9223372036854775808) (by omega) (by omega) (Int.le_refl _)) (by omega) hx (fun _ => q _ _ (k.trans (k.trans r₁ r₂) (R_toks k s₂ _)) ⟨_, rfl⟩) (hs _ _) (hv _ _))

/-- slices: a part that is an int or absent -/
def Pt (c : Cx) (env : Env) (h : Heap) (e : Option Expr) (p : Option Int) : Prop := match e, p with
  | none, none => True
  | some e, some i => Ev c false env h e (.int i)
  | _, _ => False
theorem Pt.none : Pt c env h none none := trivial
theorem Pt.some {e : Expr} {i : Int} (x : Ev c false env h e (.int i)) : Pt c env h (some e) (some i) := x
theorem Pt.ev (k : c.Ok) {e : Option Expr} {p : Option Int} (x : Pt c env h e p) {s : Shared} {E} (a : At c h s) {Q : Value → Shared → Prop} (q : ∀ v s', c.R s s' → IsPart v p → Q v s') : wpAny (model c.prog c.w) c.A (evalPart e env) Q E s := by
  match e, p, x with
  | .none, .none, _ => exact wpAny_pure (q _ _ (k.refl s) .none)
  | .some e, .some i, x => exact x.mono a fun v s' r ⟨t, e⟩ => q v s' r (by subst e; exact .int _ _)

theorem sliceWalk (k : c.Ok) {value : Expr} {lo hi st : Option Expr} {p₁ pos : Pos} {l u m : Option Int} {d d₁ : D} (h1 : Ev c false env h value d₁) (hl : Pt c env h lo l) (hu : Pt c env h hi u) (hm : Pt c env h st m)
    (hop : ∀ v₁ (sl : Addr) vl vu vm (s : Shared) (Q : Value → Shared → Prop) E, At c h s → VR c (c.av false) s.heap d₁ v₁ → s.heap.IsSliceOf sl vl vu vm → IsPart vl l → IsPart vu u → IsPart vm m →
      (∀ v s', c.R s s' → VR c (c.av b) s'.heap d v → Q v s') → wpAny (model c.prog c.w) c.A (subscriptTail value (.Slice lo hi st p₁) v₁ (.ref sl)) Q E s) :
    Ev c b env h (.Subscript value (.Slice lo hi st p₁) pos) d :=
  fun s Q E a q => Subscript_ (h1.mono a fun v₁ s₁ r₁ x₁ => wpAny_Slice (hl.ev k (a.next k r₁) fun vl s₂ r₂ pl => hu.ev k ((a.next k r₁).next k r₂) fun vu s₃ r₃ pu => hm.ev k (((a.next k r₁).next k r₂).next k r₃) fun vm s₄ r₄ pm => by
    have r₅ := R_push k s₄ { cls := .type "slice", data := .fields #[vl, vu, vm] } s₄.toks
    have rr := k.trans (k.trans (k.trans r₁ r₂) r₃) r₄
    exact hop v₁ _ vl vu vm _ Q E (((((a.next k r₁).next k r₂).next k r₃).next k r₄).next k r₅) ((((x₁.step k r₂).step k r₃).step k r₄).step k r₅) (Heap.IsSliceOf.new _ _ _ _) pl pu pm fun v s' r x => q v s' (k.trans (k.trans rr r₅) r) x))

theorem StrsAre.rev : ∀ {vs : List Value} {ss : List Str}, StrsAre vs ss → StrsAre vs.reverse ss.reverse
  | _, _, .nil => .nil
  | _, _, .cons x t r => by
    rw [List.reverse_cons, List.reverse_cons]
    exact (StrsAre.rev r).append' (.cons x t .nil)

theorem getSlice (k : c.Ok) {value : Expr} {lo hi st : Option Expr} {p₁ : Pos} {l u m : Option Int} {vl vu vm : Value} {p sl : Addr} {its : Array Value} {s : Shared} {Q : Value → Shared → Prop} {E}
    (hl : s.heap.IsList p its) (hsl : s.heap.IsSliceOf sl vl vu vm) (pl : IsPart vl l) (pu : IsPart vu u) (pm : IsPart vm m) (hm : m ≠ some 0) (hz : its.size ≤ sizeLine)
    (ho : ∃ ops, subscripted (.Slice lo hi st p₁) false (.ref p) (.ref sl) = operate ops (getItem (.ref p) (.ref sl)))
    (q : Q (.ref s.heap.objs.size) { s with heap := s.heap.push { cls := .type "list", data := .seq (slicePick its l u m) } }) :
    wpAny (model c.prog c.w) c.A (subscriptTail value (.Slice lo hi st p₁) (.ref p) (.ref sl)) Q E s := by
  obtain ⟨ops, ho⟩ := ho
  exact tail_any hl.typeIs slot_list_getitem.lookup (wpAny_getItem_list_slice hl hsl pl pu pm hm q hz) ho

theorem sliceStrs (k : c.Ok) {value : Expr} {lo hi st : Option Expr} {p₁ pos : Pos} {l u m : Option Int} {ss ts : List Str} (h1 : Ev c false env h value (.strs ss)) (hl : Pt c env h lo l) (hu : Pt c env h hi u) (hst : Pt c env h st m)
    (hm : m ≠ some 0) (hz : ss.length ≤ sizeLine) (ho : ∀ p sl : Addr, ∃ ops, subscripted (.Slice lo hi st p₁) false (.ref p) (.ref sl) = operate ops (getItem (.ref p) (.ref sl)))
    (he : ∀ vs, StrsAre vs ss → StrsAre (slicePick vs.toArray l u m).toList ts) : Ev c b env h (.Subscript value (.Slice lo hi st p₁) pos) (.strs ts) :=
  sliceWalk k h1 hl hu hst fun v₁ sl vl vu vm s Q E a x hs pl pu pm q => by
    obtain ⟨p, vs, rfl, _, hl, hv⟩ := x
    refine getSlice k hl.isList hs pl pu pm hm (by simp only [List.size_toArray, hv.length]; exact hz) (ho _ _) (q _ _ (R_push k s _ s.toks) ⟨_, _, rfl, a.fresh b _ (Nat.le_refl _), ?_, he vs hv⟩)
    simpa using Ls.new s.heap (slicePick vs.toArray l u m)
theorem sliceInts (k : c.Ok) {value : Expr} {lo hi st : Option Expr} {p₁ pos : Pos} {l u m : Option Int} {ss ts : List Int} (h1 : Ev c false env h value (.ints ss)) (hl : Pt c env h lo l) (hu : Pt c env h hi u) (hst : Pt c env h st m)
    (hm : m ≠ some 0) (hz : ss.length ≤ sizeLine) (ho : ∀ p sl : Addr, ∃ ops, subscripted (.Slice lo hi st p₁) false (.ref p) (.ref sl) = operate ops (getItem (.ref p) (.ref sl)))
    (he : ∀ vs, IntsAre vs ss → IntsAre (slicePick vs.toArray l u m).toList ts) : Ev c b env h (.Subscript value (.Slice lo hi st p₁) pos) (.ints ts) :=
  sliceWalk k h1 hl hu hst fun v₁ sl vl vu vm s Q E a x hs pl pu pm q => by
    obtain ⟨p, vs, rfl, _, hl, hv⟩ := x
    refine getSlice k hl.isList hs pl pu pm hm (by simp only [List.size_toArray, hv.length]; exact hz) (ho _ _) (q _ _ (R_push k s _ s.toks) ⟨_, _, rfl, a.fresh b _ (Nat.le_refl _), ?_, he vs hv⟩)
    simpa using Ls.new s.heap (slicePick vs.toArray l u m)

theorem Ev.takeStrs (k : c.Ok) {value hi : Expr} {p₁ pos : Pos} {ss : List Str} {i : Int} (h1 : Ev c false env h value (.strs ss)) (h2 : Ev c false env h hi (.int i)) (h0 : 0 ≤ i) (hz : ss.length ≤ sizeLine) :
    Ev c b env h (.Subscript value (.Slice none (some hi) none p₁) pos) (.strs (ss.take i.toNat)) :=
  sliceStrs k h1 (l := none) (u := some i) (m := none) trivial h2 trivial (by simp) hz (fun _ _ => ⟨_, rfl⟩) fun vs hv => by
    obtain ⟨n, rfl⟩ := Int.eq_ofNat_of_zero_le h0
    have := slicePick_upto' vs.toArray n
    simp only [Int.ofNat_eq_natCast] at *
    rw [this]; simpa using hv.take' n
theorem Ev.dropStrs (k : c.Ok) {value lo : Expr} {p₁ pos : Pos} {ss : List Str} {i : Int} (h1 : Ev c false env h value (.strs ss)) (h2 : Ev c false env h lo (.int i)) (h0 : 0 ≤ i) (hz : ss.length ≤ sizeLine) :
    Ev c b env h (.Subscript value (.Slice (some lo) none none p₁) pos) (.strs (ss.drop i.toNat)) :=
  sliceStrs k h1 (l := some i) (u := none) (m := none) h2 trivial trivial (by simp) hz (fun _ _ => ⟨_, rfl⟩) fun vs hv => by
    obtain ⟨n, rfl⟩ := Int.eq_ofNat_of_zero_le h0
    have := slicePick_from' vs.toArray n
    simp only [Int.ofNat_eq_natCast] at *
    rw [this]; simpa using hv.drop' n
theorem Ev.butLastStrs (k : c.Ok) {value hi : Expr} {p₁ pos : Pos} {ss : List Str} {x : Str} (h1 : Ev c false env h value (.strs (ss ++ [x]))) (h2 : Ev c false env h hi (.int (-1))) (hz : ss.length + 1 ≤ sizeLine) :
    Ev c b env h (.Subscript value (.Slice none (some hi) none p₁) pos) (.strs ss) :=
  sliceStrs k h1 (l := none) (u := some (-1)) (m := none) trivial h2 trivial (by simp) (by simpa using hz) (fun _ _ => ⟨_, rfl⟩) fun vs hv => by
    have := slicePick_butLast vs.toArray 1 (Nat.le_refl _)
    have e : (-((1 : Nat) : Int)) = -1 := rfl
    rw [e] at this
    rw [this]
    have hl := hv.length
    have := hv.take' ss.length
    rw [List.take_left] at this
    simpa [hl] using this
theorem Ev.revStrs (k : c.Ok) {value st : Expr} {p₁ pos : Pos} {ss : List Str} (h1 : Ev c false env h value (.strs ss)) (h2 : Ev c false env h st (.int (-1))) (hz : ss.length ≤ sizeLine) :
    Ev c b env h (.Subscript value (.Slice none none (some st) p₁) pos) (.strs ss.reverse) :=
  sliceStrs k h1 (l := none) (u := none) (m := some (-1)) trivial trivial h2 (by simp) hz (fun _ _ => ⟨_, rfl⟩) fun vs hv => by
    rw [krv_pick]; simpa using StrsAre.rev hv
theorem Ev.cutInts (k : c.Ok) {value lo hi : Expr} {p₁ pos : Pos} {ss : List Int} {i j : Int} (h1 : Ev c false env h value (.ints ss)) (h2 : Ev c false env h lo (.int i)) (h3 : Ev c false env h hi (.int j)) (h0 : 0 ≤ i) (hij : i ≤ j) (hj : j ≤ ss.length) (hz : ss.length ≤ sizeLine) :
    Ev c b env h (.Subscript value (.Slice (some lo) (some hi) none p₁) pos) (.ints ((ss.drop i.toNat).take (j.toNat - i.toNat))) :=
  sliceInts k h1 (l := some i) (u := some j) (m := none) h2 h3 trivial (by simp) hz (fun _ _ => ⟨_, rfl⟩) fun vs hv => by
    obtain ⟨n, rfl⟩ := Int.eq_ofNat_of_zero_le h0
    obtain ⟨n', rfl⟩ := Int.eq_ofNat_of_zero_le (Int.le_trans h0 hij)
    have hl := hv.length
    have := slicePick_run vs.toArray n n' (by simp only [List.size_toArray]; omega) (by omega)
    simp only [Int.ofNat_eq_natCast] at *
    rw [this]; simpa using (hv.drop n).take (n' - n)
end
end Mine

namespace Mine
section
variable {c : Cx} {b : Bool} {env : Env} {h : Heap}

/-- a global's value -/
def Gl (c : Cx) (env : Env) (h : Heap) (x : Str) (v : Value) : Prop :=
  ∀ (pos : Pos) (s : Shared) (Q : Value → Shared → Prop) (E : Value → Shared → Prop), At c h s → Q v s → wpAny (model c.prog c.w) c.A (eval (.Name x pos) env) Q E s

def Op1 (c : Cx) (b b₁ : Bool) (h : Heap) (t : Value → Sem Value) (d₁ d : D) : Prop :=
  ∀ (v : Value) (s : Shared) (Q : Value → Shared → Prop) (E : Value → Shared → Prop), At c h s → VR c (c.av b₁) s.heap d₁ v → (∀ v' s', c.R s s' → VR c (c.av b) s'.heap d v' → Q v' s') → wpAny (model c.prog c.w) c.A (t v) Q E s
def Op2 (c : Cx) (b b₁ b₂ : Bool) (h : Heap) (t : Value → Value → Sem Value) (d₁ d₂ d : D) : Prop :=
  ∀ (v₁ v₂ : Value) (s : Shared) (Q : Value → Shared → Prop) (E : Value → Shared → Prop), At c h s → VR c (c.av b₁) s.heap d₁ v₁ → VR c (c.av b₂) s.heap d₂ v₂ → (∀ v' s', c.R s s' → VR c (c.av b) s'.heap d v' → Q v' s') → wpAny (model c.prog c.w) c.A (t v₁ v₂) Q E s

theorem Ev.call1 (k : c.Ok) {f : Str} {id : String} {p pos : Pos} {e : Expr} {b₁ : Bool} {d₁ d : D} (g : Gl c env h f (.builtin id)) (h1 : Ev c b₁ env h e d₁) (hop : Op1 c b b₁ h (fun v => call (.builtin id) [v]) d₁ d)
    (he : starEach [e] env = [(false, eval e env)] := by rfl) (hq : ∀ env : Env, eval (Expr.Call (.Name f p) [e] [] pos) env = (do let x ← eval (.Name f p) env; callWith pos x [] (backTo pos (starEach [e] env)) (backToKw pos (keywordEach [] env))) := by intro _; rfl) :
    Ev c b env h (.Call (.Name f p) [e] [] pos) d := fun s Q E a q => by
  refine Call_ (g p s _ E a (callWith_method1 (wpAny_items_cons (h1.mono a fun v s₁ r₁ x₁ => wpAny_items_nil ?_) he) he)) (hq env)
  exact hop v s₁ Q E (a.next k r₁) x₁ fun v' s' r x => q v' s' (k.trans r₁ r) x
theorem Ev.type1 (k : c.Ok) {f : Str} {T : String} {p pos : Pos} {e : Expr} {b₁ : Bool} {d₁ d : D} (g : Gl c env h f (.type T)) (h1 : Ev c b₁ env h e d₁) (hop : Op1 c b b₁ h (fun v => call (.type T) [v]) d₁ d)
    (he : starEach [e] env = [(false, eval e env)] := by rfl) (hq : ∀ env : Env, eval (Expr.Call (.Name f p) [e] [] pos) env = (do let x ← eval (.Name f p) env; callWith pos x [] (backTo pos (starEach [e] env)) (backToKw pos (keywordEach [] env))) := by intro _; rfl) :
    Ev c b env h (.Call (.Name f p) [e] [] pos) d := fun s Q E a q => by
  refine Call_ (g p s _ E a (PyProof.Rows.callWith_type1 (wpAny_items_cons (h1.mono a fun v s₁ r₁ x₁ => wpAny_items_nil ?_) he) he)) (hq env)
  exact hop v s₁ Q E (a.next k r₁) x₁ fun v' s' r x => q v' s' (k.trans r₁ r) x

def MethOk (env : Env) (o : Expr) (name : Str) (apos : Pos) (args : List Expr) (pos : Pos) : Prop := ∃ pl, eval (.Call (.Attribute o name apos) args [] pos) env = (do
      let ov ← eval o env
      standAt apos.atName
      let (f, first) ← holding [ov] (getMethod ov name pl)
      callWith pos f first (backTo pos (starEach args env)) [])
theorem Ev.meth1 (k : c.Ok) {o e : Expr} {name : Str} {T id : String} {apos pos : Pos} {b₀ b₁ : Bool} {d₀ d₁ d : D} (h0 : Ev c b₀ env h o d₀) (h1 : Ev c b₁ env h e d₁)
    (hT : ∀ v (s : Shared), VR c (c.av b₀) s.heap d₀ v → s.TypeIs v T ∧ ∀ a, v = .ref a → ∃ ob, s.heap.get? a = some ob ∧ ob.dict = none) (pa : PlainAttrs T) (slot : Slot T name id) (hty : typeOf (.builtin id) = pure (.type "method_descriptor"))
    (hop : Op2 c b b₀ b₁ h (fun v w => call (.builtin id) [v, w]) d₀ d₁ d) (hM : MethOk env o name apos [e] pos) (he : starEach [e] env = [(false, eval e env)] := by rfl) :
    Ev c b env h (.Call (.Attribute o name apos) [e] [] pos) d := fun s Q E a q => by
  obtain ⟨pl, hM⟩ := hM
  refine MethodCall_ (pl := pl) (h0.mono a fun v₀ s₀ r₀ x₀ => getMethod_builtin (hT v₀ s₀ x₀).1 pa slot hty (hT v₀ s₀ x₀).2 (callWith_method1 (wpAny_items_cons (h1.mono (a.next k r₀) fun v₁ s₁ r₁ x₁ => wpAny_items_nil ?_) he) he)) hM
  exact hop v₀ v₁ s₁ Q E ((a.next k r₀).next k r₁) (x₀.step k r₁) x₁ fun v' s' r x => q v' s' (k.trans (k.trans r₀ r₁) r) x
theorem Ev.meth0 (k : c.Ok) {o : Expr} {name : Str} {T id : String} {apos pos : Pos} {b₀ : Bool} {d₀ d : D} (h0 : Ev c b₀ env h o d₀)
    (hT : ∀ v (s : Shared), VR c (c.av b₀) s.heap d₀ v → s.TypeIs v T ∧ ∀ a, v = .ref a → ∃ ob, s.heap.get? a = some ob ∧ ob.dict = none) (pa : PlainAttrs T) (slot : Slot T name id) (hty : typeOf (.builtin id) = pure (.type "method_descriptor"))
    (hop : Op1 c b b₀ h (fun v => call (.builtin id) [v]) d₀ d) (hM : MethOk env o name apos [] pos) :
    Ev c b env h (.Call (.Attribute o name apos) [] [] pos) d := fun s Q E a q => by
  obtain ⟨pl, hM⟩ := hM
  refine MethodCall_ (pl := pl) (h0.mono a fun v₀ s₀ r₀ x₀ => getMethod_builtin (hT v₀ s₀ x₀).1 pa slot hty (hT v₀ s₀ x₀).2 (callWith_method0 ?_)) hM
  exact hop v₀ s₀ Q E (a.next k r₀) x₀ fun v' s' r x => q v' s' (k.trans r₀ r) x

theorem tyStr {b₀ : Bool} {x : Str} : ∀ v (s : Shared), VR c (c.av b₀) s.heap (.str x) v → s.TypeIs v "str" ∧ ∀ a, v = .ref a → ∃ ob, s.heap.get? a = some ob ∧ ob.dict = none := fun v s ⟨t, e⟩ => by subst e; exact ⟨typeIs_str _ _ _, fun _ q => nomatch q⟩
theorem tyStrs {b₀ : Bool} {ss : List Str} : ∀ v (s : Shared), VR c (c.av b₀) s.heap (.strs ss) v → s.TypeIs v "list" ∧ ∀ a, v = .ref a → ∃ ob, s.heap.get? a = some ob ∧ ob.dict = none := fun v s ⟨a, vs, e, _, l, _⟩ => by subst e; exact ⟨l.isList.typeIs, l.noDict⟩
theorem tyBools {b₀ : Bool} {ss : List Bool} : ∀ v (s : Shared), VR c (c.av b₀) s.heap (.bools ss) v → s.TypeIs v "list" ∧ ∀ a, v = .ref a → ∃ ob, s.heap.get? a = some ob ∧ ob.dict = none := fun v s ⟨a, e, _, l⟩ => by subst e; exact ⟨l.isList.typeIs, l.noDict⟩

/-- the texts' methods -/
theorem Ev.join (k : c.Ok) {o e : Expr} {apos pos : Pos} {x : Str} {ss : List Str} (h0 : Ev c false env h o (.str x)) (h1 : Ev c false env h e (.strs ss)) (hM : MethOk env o "join" apos [e] pos)
    (hz : (ss.map (·.length)).sum + ss.length * x.length ≤ 16777216) (he : starEach [e] env = [(false, eval e env)] := by rfl) : Ev c b env h (.Call (.Attribute o "join" apos) [e] [] pos) (.str (Txt.join x ss)) :=
  Ev.meth1 k h0 h1 tyStr PySem.F.plainAttrs_str PySem.F.slot_str_join PySem.F.type_str_join (fun v₁ v₂ s Q E a x₁ x₂ q => by
    obtain ⟨t, rfl⟩ := x₁
    obtain ⟨p, vs, rfl, _, hl, hi⟩ := x₂
    exact join_list hl.isList (by simpa using hi) hz fun t' j => q _ _ (R_toks k s j) ⟨_, rfl⟩) hM he
theorem Ev.isalnum (k : c.Ok) {o : Expr} {apos pos : Pos} {x : Str} (h0 : Ev c false env h o (.str x)) (hM : MethOk env o "isalnum" apos [] pos) : Ev c b env h (.Call (.Attribute o "isalnum" apos) [] [] pos) (.bool (Txt.isalnum x)) :=
  Ev.meth0 k h0 tyStr PySem.F.plainAttrs_str PySem.F.slot_str_isalnum PySem.F.type_str_isalnum (fun v s Q E a x₁ q => by
    obtain ⟨t, rfl⟩ := x₁
    exact SC.isalnum (q _ _ (k.refl s) rfl)) hM
theorem strsAre_strValues : ∀ l : List (Str × Tok), StrsAre (strValues l) (l.map (·.1))
  | [] => .nil
  | (x, t) :: r => .cons x t (strsAre_strValues r)

theorem splitB {prog : Program} {w : World} {A : Around} {E : Value → Shared → Prop} {s : Shared} {Q : Value → Shared → Prop} {x y : Str} {t u : Tok} (hy : (y.length == 0) = false)
    (h : ∀ (l : List (Str × Tok)) k, l.map (·.1) = Txt.split x y → Q (.ref s.heap.objs.size) { s with heap := s.heap.push { cls := .type "list", data := .seq (strValues l).toArray }, toks := k })
    (hsz : x.length + 2 ≤ sizeLine) : wpAny (model prog w) A (call (.builtin "str.split") [.str x t, .str y u]) Q E s := by
  have hn : (Builtin.Str.partsBetween x (Builtin.Str.occurrences x y 0 x.length (x.length + 1)) y.length).length ≤ sizeLine := by
    have e1 := StrLaws.occ_length_le x y 0 x.length (x.length + 1)
    rw [length_partsBetween]; omega
  cases h1 : (decide (x.length < y.length) || decide (Builtin.Str.strKind x < Builtin.Str.strKind y))
  · cases hf : (Builtin.Str.occurrences x y 0 x.length (x.length + 1)).isEmpty
    · refine call_meets F.slot_str_split (typeIs_str _ _ _) F.entry_str_split (F.args_str_split_2 _ _) (meets_str_split_sep x y t u h1 hy hf (by omega) hn) ?_
      show wants Q E _ { s with toks := _, heap := s.heap.push { cls := .type "list", data := .seq (strsFrom s.toks (Builtin.Str.partsBetween x (Builtin.Str.occurrences x y 0 x.length (x.length + 1)) y.length)).toArray } }
      rw [strsFrom_eq]
      exact h (numbered s.toks _) _ ((numbered_texts _ _).trans ((if_neg (ne_true_of_eq_false h1)).trans (if_neg (ne_true_of_eq_false hf))).symm)
    · exact call_meets F.slot_str_split (typeIs_str _ _ _) F.entry_str_split (F.args_str_split_2 _ _) (meets_str_split_not_found x y t u h1 hy hf)
        (h [(x, t)] s.toks ((if_neg (ne_true_of_eq_false h1)).trans (if_pos hf)).symm)
  · exact call_meets F.slot_str_split (typeIs_str _ _ _) F.entry_str_split (F.args_str_split_2 _ _) (meets_str_split_cannot_occur x y t u h1)
      (h [(x, t)] s.toks (if_pos h1).symm)

theorem Ev.split (k : c.Ok) {o e : Expr} {apos pos : Pos} {x y : Str} (h0 : Ev c false env h o (.str x)) (h1 : Ev c false env h e (.str y)) (hM : MethOk env o "split" apos [e] pos)
    (hy : (y.length == 0) = false) (hz : x.length + 2 ≤ sizeLine) (he : starEach [e] env = [(false, eval e env)] := by rfl) : Ev c b env h (.Call (.Attribute o "split" apos) [e] [] pos) (.strs (Txt.split x y)) :=
  Ev.meth1 k h0 h1 tyStr PySem.F.plainAttrs_str PySem.F.slot_str_split PySem.F.type_str_split (fun v₁ v₂ s Q E a x₁ x₂ q => by
    obtain ⟨t, rfl⟩ := x₁
    obtain ⟨u, rfl⟩ := x₂
    refine splitB hy (fun l j el => q _ _ (R_push k s _ j) ⟨_, _, rfl, a.fresh b _ (Nat.le_refl _), Ls.new _ _, ?_⟩) hz
    have := strsAre_strValues l
    rwa [el] at this) hM he

/-- the first place of a text in a list of texts -/
theorem idxB {prog : Program} {w : World} {A : Around} {E : Value → Shared → Prop} {s : Shared} {Q : Value → Shared → Prop} {l : Addr} {vs : List Value} {ss : List Str} {x : Str} {t : Tok} (hl : s.heap.IsList l vs.toArray) (hi : StrsAre vs ss)
    (hx : x ∈ ss) (hz : ss.length < 2 ^ 62) (h : Q (.int (ss.idxOf x : Nat) s.toks) { s with toks := s.toks + 1 }) : wpAny (model prog w) A (call (.builtin "list.index") [.ref l, .str x t]) Q E s := by
  obtain ⟨⟨cls, dd, data, sl⟩, ho, hc, n, hd⟩ := id hl
  simp only at hc hd
  subst hc hd
  have hlen := hi.length
  have hj : ss.idxOf x < ss.length := List.idxOf_lt_length_iff.mpr hx
  have at_ : ∀ j (hv : j < vs.length) (hs : j < ss.length), isStrOf x vs[j] = (ss[j] == x) := fun j hv hs => by
    obtain ⟨u, hu⟩ := hi.get j ss[j] (by simp [hs])
    have : vs[j] = .str ss[j] u := by
      rw [List.getElem?_eq_getElem hv] at hu; exact Option.some.inj hu
    rw [this]; rfl
  refine call_meets PySem.F.slot_list_index ⟨_, ho, rfl⟩ PySem.F.entry_list_index (PySem.F.args_list_index_2 _ _)
    (PySem.SeqAt.list_indexAt l vs.toArray n dd sl (.str x t) (isStrOf x) (ss.idxOf x) (by simpa [hlen] using hj) (by omega) ?_ ?_) ⟨ho, fun y hy => (eq_isStrOf x t hi y (by simpa using hy)).at _ _, h⟩
  · show isStrOf x vs[ss.idxOf x] = true
    rw [at_ _ (by omega) hj]
    simpa using List.getElem_idxOf hj
  · intro j hjs hlt
    show isStrOf x vs[j] = false
    rw [at_ j (by simpa using hjs) (by omega)]
    have := List.not_of_lt_findIdx (p := fun y => y == x) (xs := ss) hlt
    simpa using this
theorem Ev.index (k : c.Ok) {o e : Expr} {apos pos : Pos} {x : Str} {ss : List Str} (h0 : Ev c false env h o (.strs ss)) (h1 : Ev c false env h e (.str x)) (hM : MethOk env o "index" apos [e] pos)
    (hx : x ∈ ss) (hz : ss.length < 2 ^ 62) (he : starEach [e] env = [(false, eval e env)] := by rfl) : Ev c b env h (.Call (.Attribute o "index" apos) [e] [] pos) (.int (ss.idxOf x : Nat)) :=
  Ev.meth1 k h0 h1 tyStrs PySem.F.plainAttrs_list PySem.F.slot_list_index PySem.F.type_list_index (fun v₁ v₂ s Q E a x₁ x₂ q => by
    obtain ⟨p, vs, rfl, _, hl, hi⟩ := x₁
    obtain ⟨t, rfl⟩ := x₂
    exact idxB hl.isList hi hx hz (q _ _ (R_toks k s _) ⟨_, rfl⟩)) hM he

theorem isBoolOf_eq (kk : Bool) : ∀ bs : List Bool, ((bs.map Value.bool).countP (isBoolOf kk)) = bs.countP (· == kk)
  | [] => rfl
  | x :: r => by
    have ih := isBoolOf_eq kk r
    cases x <;> cases kk <;> simp_all [List.countP_cons, isBoolOf]
theorem Ev.countB (k : c.Ok) {o : Expr} {kk} {p₁ apos pos : Pos} {x : Bool} {bs : List Bool} (h0 : Ev c false env h o (.bools bs)) (hM : MethOk env o "count" apos [.Constant (.bool x) kk p₁] pos) :
    Ev c b env h (.Call (.Attribute o "count" apos) [.Constant (.bool x) kk p₁] [] pos) (.int ((bs.countP (· == x) : Nat) : Int)) :=
  Ev.meth1 k h0 (Ev.cBool (b := b) k) tyBools PySem.F.plainAttrs_list PySem.F.slot_list_count PySem.F.type_list_count (fun v₁ v₂ s Q E a x₁ x₂ q => by
    obtain ⟨p, rfl, _, hl⟩ := x₁
    cases x₂
    obtain ⟨n, ho⟩ := hl
    refine call_meets PySem.F.slot_list_count ⟨_, ho, rfl⟩ PySem.F.entry_list_count (PySem.F.args_list_count_2 _ _) (PySem.SeqAt.list_countAt p _ n none #[] (.bool x) (isBoolOf x)) ⟨ho, fun y hy => ?_, ?_⟩
    · obtain ⟨z, _, rfl⟩ := List.mem_map.mp (List.mem_toArray.mp hy)
      exact PySem.SeqAt.EqAt.bool_bool z x
    · rw [show (bs.map Value.bool).toArray.toList = bs.map Value.bool from rfl, isBoolOf_eq]
      exact q _ _ (R_toks k s _) ⟨_, rfl⟩) hM

/-- functions -/
theorem Ev.lenStrs (k : c.Ok) {f : Str} {p pos : Pos} {e : Expr} {ss : List Str} (g : Gl c env h f (.builtin "len")) (h1 : Ev c false env h e (.strs ss)) (hz : ss.length < 2 ^ 62) (he : starEach [e] env = [(false, eval e env)] := by rfl) :
    Ev c b env h (.Call (.Name f p) [e] [] pos) (.int (ss.length : Nat)) :=
  Ev.call1 k g h1 (fun v s Q E a x q => by
    obtain ⟨p, vs, rfl, _, hl, hi⟩ := x
    refine len_list hl.isList (by simp only [List.size_toArray, hi.length]; omega) (q _ _ (R_toks k s _) ⟨s.toks + 1, ?_⟩)
    simp only [List.size_toArray, hi.length]) he
theorem Ev.lenInts (k : c.Ok) {f : Str} {p pos : Pos} {e : Expr} {ss : List Int} (g : Gl c env h f (.builtin "len")) (h1 : Ev c false env h e (.ints ss)) (hz : ss.length < 2 ^ 62) (he : starEach [e] env = [(false, eval e env)] := by rfl) :
    Ev c b env h (.Call (.Name f p) [e] [] pos) (.int (ss.length : Nat)) :=
  Ev.call1 k g h1 (fun v s Q E a x q => by
    obtain ⟨p, vs, rfl, _, hl, hi⟩ := x
    refine len_list hl.isList (by simp only [List.size_toArray, hi.length]; omega) (q _ _ (R_toks k s _) ⟨s.toks + 1, ?_⟩)
    simp only [List.size_toArray, hi.length]) he
theorem Ev.lenTstrs (k : c.Ok) {f : Str} {p pos : Pos} {e : Expr} {ss : List Str} (g : Gl c env h f (.builtin "len")) (h1 : Ev c false env h e (.tstrs ss)) (hz : ss.length < 2 ^ 62) (he : starEach [e] env = [(false, eval e env)] := by rfl) :
    Ev c b env h (.Call (.Name f p) [e] [] pos) (.int (ss.length : Nat)) :=
  Ev.call1 k g h1 (fun v s Q E a x q => by
    obtain ⟨p, vs, rfl, _, hl, hi⟩ := x
    refine len_tuple hl (by simp only [List.size_toArray, hi.length]; omega) (q _ _ (R_toks k s _) ⟨s.toks + 1, ?_⟩)
    simp only [List.size_toArray, hi.length]) he
theorem Ev.lenStr (k : c.Ok) {f : Str} {p pos : Pos} {e : Expr} {x : Str} (g : Gl c env h f (.builtin "len")) (h1 : Ev c false env h e (.str x)) (hz : x.length < 2 ^ 62) (he : starEach [e] env = [(false, eval e env)] := by rfl) :
    Ev c b env h (.Call (.Name f p) [e] [] pos) (.int (x.length : Nat)) :=
  Ev.call1 k g h1 (fun v s Q E a x₁ q => by
    obtain ⟨t, rfl⟩ := x₁
    exact SBL.len (by omega) (q _ _ (R_toks k s _) ⟨_, rfl⟩)) he
theorem Ev.strInt (k : c.Ok) {f : Str} {p pos : Pos} {e : Expr} {i : Int} (g : Gl c env h f (.type "str")) (h1 : Ev c false env h e (.int i)) (hz : i.natAbs.log2 < 1920) (he : starEach [e] env = [(false, eval e env)] := by rfl) :
    Ev c b env h (.Call (.Name f p) [e] [] pos) (.str (Str.ofString (toString i))) :=
  Ev.type1 k g h1 (fun v s Q E a x₁ q => by
    obtain ⟨t, rfl⟩ := x₁
    exact P.str_of_int hz (q _ _ (R_toks k s _) ⟨_, rfl⟩)) he
theorem Ev.intStr (k : c.Ok) {f : Str} {p pos : Pos} {e : Expr} {x : Str} {i : Int} (g : Gl c env h f (.type "int")) (h1 : Ev c false env h e (.str x)) (hn : PySem.intText? x = some i) (hz : x.length ≤ 640) (he : starEach [e] env = [(false, eval e env)] := by rfl) :
    Ev c b env h (.Call (.Name f p) [e] [] pos) (.int i) :=
  Ev.type1 k g h1 (fun v s Q E a x₁ q => by
    obtain ⟨t, rfl⟩ := x₁
    exact PySem.W.KIN.call_text hn hz (q _ _ (R_toks k s _) ⟨_, rfl⟩)) he
theorem Ev.listTup (k : c.Ok) {f : Str} {p pos : Pos} {e : Expr} {ss : List Str} (g : Gl c env h f (.type "list")) (h1 : Ev c false env h e (.tstrs ss)) (hz : ss.length ≤ sizeLine) (he : starEach [e] env = [(false, eval e env)] := by rfl) :
    Ev c b env h (.Call (.Name f p) [e] [] pos) (.strs ss) :=
  Ev.type1 k g h1 (fun v s Q E a x₁ q => by
    obtain ⟨p, vs, rfl, _, ⟨o, ho, hc, n, hd⟩, hi⟩ := x₁
    exact call_list_seq p (.inr rfl) ho hc hd (fun h' c' hk hn => q _ _ (R_heap k s _ hk) ⟨_, vs, rfl, a.fresh b _ (Nat.le_refl _), ⟨_, hn⟩, hi⟩) (by simp only [List.size_toArray, hi.length]; exact hz)) he
theorem Ev.maxInts (k : c.Ok) (hh : c.A.handled = .none) {f : Str} {p pos : Pos} {e : Expr} {ns : List Int} {M : Int} (g : Gl c env h f (.builtin "max")) (h1 : Ev c false env h e (.ints ns)) (hM : M ∈ ns) (hm : ∀ x ∈ ns, x ≤ M) (he : starEach [e] env = [(false, eval e env)] := by rfl) :
    Ev c b env h (.Call (.Name f p) [e] [] pos) (.int M) :=
  Ev.call1 k g h1 (fun v s Q E a x₁ q => by
    obtain ⟨p, vs, rfl, _, hl, hi⟩ := x₁
    obtain ⟨xs, e⟩ := hi.allInts.items
    have hns : ns = xs.toList.map (·.1) := by rw [← hi.numsOf, ← nums_intItems, ← e]
    have hsz : 0 < xs.size := by
      have h3 := List.length_pos_of_mem hM; rw [hns, List.length_map, Array.length_toList] at h3; exact h3
    have hl := hl.isList
    rw [e] at hl
    refine max_intList hh hl hsz fun v h' tk hv hk => ?_
    obtain ⟨t, rfl⟩ := intItems_at hv
    obtain ⟨h1, h2⟩ := argBest_gt (numAt xs) (xs.size - 1)
    refine q _ _ (R_heap k s tk hk) ⟨t, ?_⟩
    congr 1
    refine Int.le_antisymm (hm _ ?_) ?_
    · rw [hns, numAt_eq]; exact getD_mem (by rw [List.length_map, Array.length_toList]; omega)
    · rw [hns] at hM
      obtain ⟨j, hj, rfl⟩ := mem_getD hM
      rw [List.length_map, Array.length_toList] at hj
      rw [← numAt_eq]; exact h2 j (by omega)) he
theorem Ev.minInts (k : c.Ok) (hh : c.A.handled = .none) {f : Str} {p pos : Pos} {e : Expr} {ns : List Int} {M : Int} (g : Gl c env h f (.builtin "min")) (h1 : Ev c false env h e (.ints ns)) (hM : M ∈ ns) (hm : ∀ x ∈ ns, M ≤ x) (he : starEach [e] env = [(false, eval e env)] := by rfl) :
    Ev c b env h (.Call (.Name f p) [e] [] pos) (.int M) :=
  Ev.call1 k g h1 (fun v s Q E a x₁ q => by
    obtain ⟨p, vs, rfl, _, hl, hi⟩ := x₁
    obtain ⟨xs, e⟩ := hi.allInts.items
    have hns : ns = xs.toList.map (·.1) := by rw [← hi.numsOf, ← nums_intItems, ← e]
    have hsz : 0 < xs.size := by
      have h3 := List.length_pos_of_mem hM; rw [hns, List.length_map, Array.length_toList] at h3; exact h3
    have hl := hl.isList
    rw [e] at hl
    refine min_intList hh hl hsz fun v h' tk hv hk => ?_
    obtain ⟨t, rfl⟩ := intItems_at hv
    obtain ⟨h1, h2⟩ := argBest_lt (numAt xs) (xs.size - 1)
    refine q _ _ (R_heap k s tk hk) ⟨t, ?_⟩
    congr 1
    refine Int.le_antisymm ?_ (hm _ ?_)
    · rw [hns] at hM
      obtain ⟨j, hj, rfl⟩ := mem_getD hM
      rw [List.length_map, Array.length_toList] at hj
      rw [← numAt_eq]; exact h2 j (by omega)
    · rw [hns, numAt_eq]; exact getD_mem (by rw [List.length_map, Array.length_toList]; omega)) he
end
end Mine

namespace Mine

def Atm : D → Value → Prop
  | .none, v => v = .none
  | .bool b, v => v = .bool b
  | .int i, v => ∃ t, v = .int i t
  | .str x, v => ∃ t, v = .str x t
  | _, _ => False
theorem Atm.vr {c : Cx} {av : List Addr} {h : Heap} : ∀ {d : D} {v : Value}, Atm d v → VR c av h d v
  | .none, _, x => x
  | .bool _, _, x => x
  | .int _, _, x => x
  | .str _, _, x => x

/-- kinds of items -/
structure Kd (τ : Type) where
  enc : τ → D
  dec : Value → τ
  ok : ∀ x v, Atm (enc x) v → dec v = x
  at_ : ∀ (c : Cx) av h x v, VR c av h (enc x) v → Atm (enc x) v
  lst : List τ → D
  put : ∀ (c : Cx) (av : List Addr) (h : Heap) (a : Addr) (ys : List Value) (zs : List τ), a ∉ av → Ls h a ys.toArray → Paired (fun z y => Atm (enc z) y) zs ys → VR c av h (lst zs) (.ref a)
  un : ∀ (c : Cx) (av : List Addr) (h : Heap) (zs : List τ) (v : Value), VR c av h (lst zs) v → ∃ a ys, v = .ref a ∧ a ∉ av ∧ Ls h a ys.toArray ∧ Paired (fun z y => Atm (enc z) y) zs ys

theorem strsOfPaired : ∀ {zs : List Str} {ys : List Value}, Paired (fun z y => Atm (.str z) y) zs ys → StrsAre ys zs
  | _, _, .nil => .nil
  | _, _, .cons ⟨t, e⟩ r => by subst e; exact .cons _ t (strsOfPaired r)
theorem pairedOfStrs : ∀ {zs : List Str} {ys : List Value}, StrsAre ys zs → Paired (fun z y => Atm (.str z) y) zs ys
  | _, _, .nil => .nil
  | _, _, .cons y t r => .cons ⟨t, rfl⟩ (pairedOfStrs r)
theorem intsOfPaired : ∀ {zs : List Int} {ys : List Value}, Paired (fun z y => Atm (.int z) y) zs ys → IntsAre ys zs
  | _, _, .nil => .nil
  | _, _, .cons ⟨t, e⟩ r => by subst e; exact .cons _ t (intsOfPaired r)
theorem pairedOfInts : ∀ {zs : List Int} {ys : List Value}, IntsAre ys zs → Paired (fun z y => Atm (.int z) y) zs ys
  | _, _, .nil => .nil
  | _, _, .cons y t r => .cons ⟨t, rfl⟩ (pairedOfInts r)
theorem boolsOfPaired : ∀ {zs : List Bool} {ys : List Value}, Paired (fun z y => Atm (.bool z) y) zs ys → ys = zs.map Value.bool
  | _, _, .nil => rfl
  | _, _, .cons e r => by
    have := boolsOfPaired r
    subst this
    cases e; rfl
theorem pairedOfBools : ∀ (zs : List Bool), Paired (fun z y => Atm (.bool z) y) zs (zs.map Value.bool)
  | [] => .nil
  | z :: r => .cons rfl (pairedOfBools r)

def kStr : Kd Str where
  enc := D.str
  dec := fun | .str x _ => x | _ => Str.empty
  ok := fun x v ⟨t, e⟩ => by subst e; rfl
  at_ := fun _ _ _ _ _ x => x
  lst := D.strs
  put := fun c av h a ys zs ha hl hp => ⟨a, ys, rfl, ha, hl, strsOfPaired hp⟩
  un := fun c av h zs v ⟨a, ys, e, n, l, r⟩ => ⟨a, ys, e, n, l, pairedOfStrs r⟩
def kInt : Kd Int where
  enc := D.int
  dec := fun | .int x _ => x | _ => 0
  ok := fun x v ⟨t, e⟩ => by subst e; rfl
  at_ := fun _ _ _ _ _ x => x
  lst := D.ints
  put := fun c av h a ys zs ha hl hp => ⟨a, ys, rfl, ha, hl, intsOfPaired hp⟩
  un := fun c av h zs v ⟨a, ys, e, n, l, r⟩ => ⟨a, ys, e, n, l, pairedOfInts r⟩
def kBool : Kd Bool where
  enc := D.bool
  dec := fun | .bool x => x | _ => false
  ok := fun x v e => by cases e; rfl
  at_ := fun _ _ _ _ _ x => x
  lst := D.bools
  put := fun c av h a ys zs ha hl hp => ⟨a, rfl, ha, by rw [← boolsOfPaired hp]; exact hl⟩
  un := fun c av h zs v ⟨a, e, n, l⟩ => ⟨a, _, e, n, l, pairedOfBools zs⟩

section
variable {c : Cx} {b : Bool} {env : Env} {h : Heap}

theorem none_before {c : Cx} (k : c.Ok) {h : Heap} {s s' : Shared} (a : At c h s) (r : c.R s s') {x : Addr} (hx : s'.heap.get? x = none) : s.heap.get? x = none := by
  cases e : s.heap.get? x with
  | none => rfl
  | some o =>
    by_cases hw : x ∈ c.W
    · obtain ⟨o', ho⟩ := ((a.low.grow a.grow).grow (k.grow r)).there hw
      rw [hx] at ho; cases ho
    · have := (k.grow r).keep x o e hw
      rw [hx] at this; cases this
theorem lt_of_get {h : Heap} {x : Addr} {o : Obj} (e : h.get? x = some o) : x < h.objs.size := Heap.lt_size e

/-- what a for or a comprehension goes over -/
structure SrcAt (c : Cx) {τ : Type} (K : Kd τ) (xs : List τ) (s mid : Shared) (I : Addr) (fp wr : List Addr) (P : Nat → Value → Prop) (St : Nat → Heap → Prop) (s₂ : Shared) : Prop where
  walks : Walks c.prog c.w c.A I fp wr xs.length P St
  st : St 0 s₂.heap
  fp : ∀ b ∈ fp, b < s₂.heap.objs.size
  from_ : c.R s mid
  up : Keeps mid s₂
  newMid : ∀ b ∈ wr, mid.heap.get? b = none
  alive : ∀ i h, St i h → ∀ b ∈ wr, ∃ o, h.get? b = some o
  item : ∀ i v, i < xs.length → P i v → ∃ x, xs[i]? = some x ∧ Atm (K.enc x) v
def Src (c : Cx) (env : Env) (h : Heap) (iter : Expr) {τ : Type} (K : Kd τ) (xs : List τ) : Prop :=
  ∀ (s : Shared) (Q : Value → Shared → Prop) (E : Value → Shared → Prop), At c h s → (∀ mid I fp wr P St s₂, SrcAt c K xs s mid I fp wr P St s₂ → (∀ b ∈ fp, b ∉ c.W ++ c.own) → Q (.ref I) s₂) → wpAny (model c.prog c.w) c.A (eval iter env) (fun xv s₁ => wpAny (model c.prog c.w) c.A (pyIter xv) Q E s₁) E s

theorem SrcAt.new {c : Cx} (k : c.Ok) {h : Heap} {τ : Type} {K : Kd τ} {xs : List τ} {s mid : Shared} {I : Addr} {fp wr : List Addr} {P : Nat → Value → Prop} {St : Nat → Heap → Prop} {s₂ : Shared} (S : SrcAt c K xs s mid I fp wr P St s₂) (a : At c h s) : ∀ b ∈ wr, s.heap.get? b = none :=
  fun b hb => none_before k a S.from_ (S.newMid b hb)
theorem SrcAt.step {c : Cx} (k : c.Ok) {τ : Type} {K : Kd τ} {xs : List τ} {s mid : Shared} {I : Addr} {fp wr : List Addr} {P : Nat → Value → Prop} {St : Nat → Heap → Prop} {s₂ : Shared} (S : SrcAt c K xs s mid I fp wr P St s₂) : c.R s s₂ := k.trans S.from_ (k.keeps S.up)
/-- behind the source: all that stood before the iterator stands still -/
theorem SrcAt.later {c : Cx} (k : c.Ok) {τ : Type} {K : Kd τ} {xs : List τ} {s mid : Shared} {I : Addr} {fp wr : List Addr} {P : Nat → Value → Prop} {St : Nat → Heap → Prop} {s₂ : Shared} (S : SrcAt c K xs s mid I fp wr P St s₂) {h' : Heap} {t : Nat}
    (hk : ∀ b o, b ∉ wr → s₂.heap.get? b = some o → h'.get? b = some o) : Keeps mid { s₂ with heap := h', toks := t } := by
  obtain ⟨h1, t1, e, k1⟩ := S.up
  subst e
  exact ⟨h', t, rfl, fun b o ho => hk b o (fun q => by rw [S.newMid b q] at ho; cases ho) (k1 b o ho)⟩

theorem Paired.at_ {α β : Type} {F : α → β → Prop} : ∀ {l₁ : List α} {l₂ : List β}, Paired F l₁ l₂ → ∀ (i : Nat) (y : β), l₂[i]? = some y → ∃ x, l₁[i]? = some x ∧ F x y
  | _, _, .nil, i, y, e => by simp at e
  | _, _, .cons f r, 0, y, e => ⟨_, rfl, by simp at e; subst e; exact f⟩
  | _, _, .cons f r, i + 1, y, e => Paired.at_ r i y (by simpa using e)

theorem Src.list (k : c.Ok) (hh : c.A.handled = .none) {iter : Expr} {τ : Type} (K : Kd τ) {xs : List τ} (h1 : Ev c true env h iter (K.lst xs)) : Src c env h iter K xs := fun s Q E a q => h1.mono a fun v s₁ r₁ x => by
  obtain ⟨l, ys, rfl, hn, hl, hp⟩ := K.un _ _ _ _ _ x
  have a₁ := a.next k r₁
  have hIn : s₁.heap.get? s₁.heap.objs.size = none := Heap.get?_none_of_le (Nat.le_refl _)
  obtain ⟨n, hl'⟩ := id hl
  have hll := Heap.lt_size hl'
  refine wpAny_pyIter_list hl.isList ?_
  have W := Walks.list (prog := c.prog) (w := c.w) hh s₁.heap.objs.size l (Nat.ne_of_lt hll) ys.toArray
  have e : ys.toArray.size = xs.length := by simp [hp.length]
  rw [e] at W
  refine q s₁ _ [s₁.heap.objs.size, l] [s₁.heap.objs.size] _ _ _ ⟨W, ⟨⟨_, Heap.get?_push_size _ rfl, rfl, rfl⟩, hl.isList.at fun o e => Heap.get?_push_of_some _ e⟩, ?_, r₁, ⟨_, s₁.toks, rfl, fun b o e => Heap.get?_push_of_some _ e⟩, ?_, ?_, ?_⟩ ?_
  · intro b hb
    rw [Heap.size_push]
    rcases List.mem_cons.mp hb with rfl | hb
    · exact Nat.lt_succ_self _
    · rw [List.mem_singleton.mp hb]; exact Nat.lt_succ_of_lt hll
  · intro b hb
    rw [List.mem_singleton.mp hb]
    exact hIn
  · intro i h st b hb
    rw [List.mem_singleton.mp hb]
    obtain ⟨⟨o, ho, _⟩, _⟩ := st
    exact ⟨o, ho⟩
  · intro i v hi hv
    exact Paired.at_ hp i v (by simpa using hv)
  · intro b hb
    rcases List.mem_cons.mp hb with rfl | hb
    · exact a₁.fresh true _ (Nat.le_refl _)
    · rw [List.mem_singleton.mp hb]; exact hn

theorem Src.range1 (k : c.Ok) (hh : c.A.handled = .none) {f : Str} {p pos : Pos} {e : Expr} {n : Nat} (g : Gl c env h f (.type "range")) (h1 : Ev c false env h e (.int n)) (hn : n < 2 ^ 20) (he : starEach [e] env = [(false, eval e env)] := by rfl) :
    Src c env h (.Call (.Name f p) [e] [] pos) kInt ((List.range n).map Int.ofNat) := fun s Q E a q => by
  refine Call_ (g p s _ E a (PyProof.Rows.callWith_type1 (wpAny_items_cons (h1.mono a fun v s₁ r₁ x₁ => wpAny_items_nil ?_) he) he)) rfl
  obtain ⟨t, rfl⟩ := x₁
  have a₁ := a.next k r₁
  refine call_range_1 ?_
  have r₂ := R_push k s₁ { cls := .type "range", data := .fields #[.int 0 s₁.toks, .int n t, .int 1 (s₁.toks + 1)] } (s₁.toks + 1 + 1)
  have a₂ := a₁.next k r₂
  have hsz : Builtin.Range.rangeSize 0 n 1 = (n : Int) := by rw [rangeSize_nat]; simp
  refine wpAny_pyIter_range (IsRange.new _ _ _ _ _ _ _) (small_one (by omega) (by omega) (by omega) (by omega)) ?_
  have hIn := Heap.get?_none_of_le (h := s₁.heap.push { cls := .type "range", data := .fields #[.int 0 s₁.toks, .int n t, .int 1 (s₁.toks + 1)] }) (Nat.le_refl _)
  refine q { s₁ with heap := s₁.heap.push { cls := .type "range", data := .fields #[.int 0 s₁.toks, .int n t, .int 1 (s₁.toks + 1)] }, toks := s₁.toks + 1 + 1 } _ [_] [_] _ _ _ ⟨by
      have W := Walks.range (prog := c.prog) (w := c.w) hh (s₁.heap.push { cls := .type "range", data := .fields #[.int 0 s₁.toks, .int n t, .int 1 (s₁.toks + 1)] }).objs.size 0 1 n
      have e : ((List.range n).map Int.ofNat).length = n := by simp
      rw [e]
      exact W, ?_, ?_, k.trans r₁ r₂, ⟨_, _, rfl, fun b o e => Heap.get?_push_of_some _ e⟩, ?_, ?_, ?_⟩ ?_
  · show IsRangeIter _ _ _ _ _
    have e := Heap.get?_push_size (s₁.heap.push { cls := .type "range", data := .fields #[.int 0 s₁.toks, .int n t, .int 1 (s₁.toks + 1)] }) (o := { cls := .type "range_iterator", data := .fields #[rawInt 0, rawInt (Builtin.Range.rangeSize 0 n 1), rawInt 1] }) rfl
    rw [hsz] at e ⊢
    simpa using e
  · intro b hb
    rw [List.mem_singleton.mp hb]
    show _ < (Heap.push _ _).objs.size
    exact Nat.lt_of_lt_of_eq (Nat.lt_succ_self _) (Heap.size_push _ _).symm
  · intro b hb
    rw [List.mem_singleton.mp hb]
    exact hIn
  · intro i h st b hb
    rw [List.mem_singleton.mp hb]
    exact ⟨_, st⟩
  · intro i v hi ⟨t, hv⟩
    refine ⟨(i : Int), ?_, t, ?_⟩
    · rw [List.getElem?_map, List.getElem?_range (by simpa using hi)]; rfl
    · rw [hv]; simp
  · intro b hb
    rw [List.mem_singleton.mp hb]
    exact a₂.fresh' true hIn
end
end Mine

namespace Mine

/-- within an element of a comprehension: heap and tokens alone turn -/
def Cx.in (c : Cx) : Cx := { c with R := Keeps, gen := False }
theorem keeps_refl (s : Shared) : Keeps s s := ⟨s.heap, s.toks, rfl, fun _ _ e => e⟩
theorem keeps_trans {s s' s'' : Shared} : Keeps s s' → Keeps s' s'' → Keeps s s'' := fun ⟨h1, t1, e1, k1⟩ ⟨h2, t2, e2, k2⟩ => by
  subst e1; subst e2; exact ⟨h2, t2, rfl, fun b o e => k2 b o (k1 b o e)⟩
theorem keeps_get {s s' : Shared} : Keeps s s' → ∀ b o, s.heap.get? b = some o → s'.heap.get? b = some o := fun ⟨h1, t1, e1, k1⟩ => by subst e1; exact k1
theorem Cx.in_ok {c : Cx} (k : c.Ok) : c.in.Ok where
  refl := keeps_refl
  trans := keeps_trans
  keeps := fun x => x
  grow := fun x => grow_of_keeps (keeps_get x) _
  bare := fun _ g => g.elim
  room := k.room
  tabs := k.tabs
  units := k.units
theorem VR.in {c : Cx} {av : List Addr} {h : Heap} : ∀ {d : D} {v : Value}, VR c av h d v → VR c.in av h d v
  | .none, _, x => x
  | .bool _, _, x => x
  | .int _, _, x => x
  | .str _, _, x => x
  | .ints _, _, x => x
  | .strs _, _, x => x
  | .bools _, _, x => x
  | .tstrs _, _, x => x
  | .idict _, _, x => x
  | .pair _ _, _, ⟨a, vx, vy, e, n, t, p, q⟩ => ⟨a, vx, vy, e, n, t, VR.in p, VR.in q⟩

def Tests (c : Cx) (env : Env) (h : Heap) : List Expr → Bool → Prop
  | [], β => β = true
  | [t], β => Tr c env h t β
  | _, _ => False

structure CompOk (env : Env) (scope : Scope) (x : Str) (cl : List (Str × Addr)) : Prop where
  clos : closureFor scope env = pure cl
  cell : ∀ y ∈ scope.names, y.2 ≠ .cell
  kind : scope.kind = .function
  names : ∀ y ∈ scope.names, y.2 = .local → scope.names.lookup y.1 = some .local
  x : scope.names.lookup x = some .local

section
variable {c : Cx} {b : Bool} {env : Env} {h : Heap}

/-- what the element sees: the item under its name, in a grown heap -/
structure Turn (c : Cx) (h : Heap) (x : Str) (C : Addr) (v : Value) (h' : Heap) : Prop where
  grow : GrowH c.W h h'
  low : Low c h'
  ns : ∃ m, h'.Ns C m ∧ m x = some v

theorem Walks.bound {prog : Program} {w : World} {A : Around} {I : Addr} {fp wr : List Addr} {n : Nat} {P : Nat → Value → Prop} {St : Nat → Heap → Prop} (W : Walks prog w A I fp wr n P St) : Walks prog w A I fp wr n (fun i v => i < n ∧ P i v) St where
  sub := W.sub
  frame := W.frame
  item := fun i s Q E hi st hQ => W.item i s Q E hi st fun v h' tk p st' k => hQ v h' tk ⟨hi, p⟩ st' k
  done := W.done
  self := W.self

theorem quiet (k : c.Ok) {elt : Expr} {x : Str} {ifs : List Expr} {scope : Scope} {cl : List (Str × Addr)} {τ σ : Type} {K : Kd τ} {K' : Kd σ} {xs : List τ} {p : τ → Bool} {g : τ → σ}
    (ht : ∀ C h' v y, y ∈ xs → Atm (K.enc y) v → Turn c h x C v h' → Tests c.in (compEnvC scope cl C env) h' ifs (p y))
    (he : ∀ C h' v y, y ∈ xs → Atm (K.enc y) v → p y = true → Turn c h x C v h' → Ev c.in false (compEnvC scope cl C env) h' elt (K'.enc (g y)))
    {s mid : Shared} (a : At c h s) {I : Addr} {fp wr : List Addr} {P : Nat → Value → Prop} {St : Nat → Heap → Prop} {s₂ : Shared} (S : SrcAt c K xs s mid I fp wr P St s₂) :
    QuietOnC c.prog c.w c.A env scope cl x ifs elt wr (fun i v => i < xs.length ∧ P i v) (fun v => p (K.dec v)) (fun v y => Atm (K'.enc (g (K.dec v))) y) s₂ := by
  have tn : ∀ {C v} {s₃ : Shared} {m₃}, s₃.heap.Ns C m₃ → m₃ x = some v → (∀ b o, b ∉ wr → s₂.heap.get? b = some o → s₃.heap.get? b = some o) → Turn c h x C v s₃.heap ∧ At c.in s₃.heap s₃ := fun {C v s₃ m₃} hn hm hk => by
    have g : GrowH c.W s.heap s₃.heap := (k.grow S.from_).trans (grow_of_keeps (fun b o e => keeps_get (S.later k (h' := s₃.heap) (t := s₃.toks) hk) b o e) _)
    have g' := a.grow.trans g
    have lo := a.low.grow g'
    exact ⟨⟨g', lo, m₃, hn, hm⟩, ⟨GrowH.refl _ _, fun f => f.elim, ⟨lo.frames, lo.tabsAt, lo.owned⟩⟩⟩
  have it : ∀ {i v}, (i < xs.length ∧ P i v) → ∃ y, y ∈ xs ∧ Atm (K.enc y) v ∧ K.dec v = y := fun {i v} hP => by
    obtain ⟨y, hy, hv⟩ := S.item i v hP.1 hP.2
    exact ⟨y, List.mem_of_getElem? hy, hv, K.ok _ _ hv⟩
  refine ⟨?_, ?_⟩
  · intro C i v s₃ m₃ E' _ hP hn hm hk _
    obtain ⟨T, a₃⟩ := tn hn hm hk
    obtain ⟨y, hy, hv, e⟩ := it hP
    have := ht C s₃.heap v y hy hv T
    match ifs, this with
    | [], z => exact wpAny_tests_nil ⟨by rw [e]; exact z.symm, keeps_refl _⟩
    | [t], z => exact wpAny_tests_one (z s₃ _ E' a₃ fun s' r => ⟨by rw [e], r⟩)
  · intro C i v s₃ m₃ E' _ hP hp hn hm hk _
    obtain ⟨T, a₃⟩ := tn hn hm hk
    obtain ⟨y, hy, hv, e⟩ := it hP
    rw [e] at hp
    refine (he C s₃.heap v y hy hv hp T) s₃ _ E' a₃ fun v' s' r z => ⟨?_, r⟩
    rw [e]; exact K'.at_ _ _ _ _ _ z

theorem paired_out {τ σ : Type} {K : Kd τ} {K' : Kd σ} {p : τ → Bool} {g : τ → σ} : ∀ {xs : List τ} {vs : List Value}, Paired (fun x v => Atm (K.enc x) v) xs vs → ∀ {ys : List Value}, Paired (fun v y => Atm (K'.enc (g (K.dec v))) y) (vs.filter fun v => p (K.dec v)) ys →
    Paired (fun z y => Atm (K'.enc z) y) ((xs.filter p).map g) ys
  | _, _, .nil, ys, h => by cases h; exact .nil
  | x :: xs, v :: vs, .cons e r, ys, h => by
    have ed := K.ok _ _ e
    rw [List.filter_cons, ed] at h
    by_cases hp : p x = true
    · rw [if_pos hp] at h
      cases h with
      | cons f h' =>
        rw [ed] at f
        rw [List.filter_cons, if_pos hp, List.map_cons]
        exact .cons f (paired_out r h')
    · rw [if_neg hp] at h
      rw [List.filter_cons, if_neg hp]
      exact paired_out r h

theorem paired_of_places {τ : Type} {K : Kd τ} : ∀ (xs : List τ) (vs : List Value), vs.length = xs.length → (∀ (i : Nat) (v : Value), vs[i]? = some v → ∃ x, xs[i]? = some x ∧ Atm (K.enc x) v) → Paired (fun x v => Atm (K.enc x) v) xs vs
  | [], [], _, _ => .nil
  | x :: xs, v :: vs, hl, h => by
    obtain ⟨y, hy, e⟩ := h 0 v rfl
    cases hy
    exact .cons e (paired_of_places xs vs (by simpa using hl) fun i v hv => h (i + 1) v (by simpa using hv))
  | [], _ :: _, hl, _ => by simp at hl
  | _ :: _, [], hl, _ => by simp at hl

/-- a list comprehension of one clause, one test at most -/
theorem Ev.comp (k : c.Ok) {elt iter : Expr} {x : Str} {px pos : Pos} {ifs : List Expr} {scope : Scope} {cl : List (Str × Addr)} {τ σ : Type} (K : Kd τ) (K' : Kd σ) {xs : List τ} (p : τ → Bool) (g : τ → σ) (ok : CompOk env scope x cl)
    (src : Src c env h iter K xs) (hz : xs.length ≤ sizeLine)
    (ht : ∀ C h' v y, y ∈ xs → Atm (K.enc y) v → Turn c h x C v h' → Tests c.in (compEnvC scope cl C env) h' ifs (p y))
    (he : ∀ C h' v y, y ∈ xs → Atm (K.enc y) v → p y = true → Turn c h x C v h' → Ev c.in false (compEnvC scope cl C env) h' elt (K'.enc (g y)))
    (hs : ∀ x, foldedSetIterable iter env x = pure x := by intro _; rfl) :
    Ev c b env h (.ListComp elt [⟨.Name x px, iter, ifs, 0⟩] scope pos) (K'.lst ((xs.filter p).map g)) := fun s Q E a q => by
  refine wpAny_ListComp_free (fun v => p (K.dec v)) (fun v y => Atm (K'.enc (g (K.dec v))) y) ok.clos ok.cell ok.kind ok.names ok.x ?_ hs
  refine src s _ E a fun mid I fp wr P St s₂ S hfp => ⟨I, fp, wr, xs.length, _, St, rfl, Walks.bound S.walks, hz, S.st, S.fp, quiet k ht he a S, ?_⟩
  intro D h' tk ys vs hD hl hpl hlen hP hF hk
  have r := k.trans S.from_ (k.keeps (S.later k (h' := h') (t := tk) hk))
  obtain ⟨n, hpl⟩ := hpl
  refine q _ _ r (K'.put _ _ _ _ ys.toList _ ?_ ⟨n, by simpa using hpl⟩ (paired_out (K := K) (paired_of_places xs vs hlen fun i v hv => ?_) hF))
  · exact a.fresh' b (none_before k a (S.step k) hD)
  · have := hP i v hv
    exact S.item i v this.1 this.2
end
end Mine

namespace Mine

/-- the step relation of a def's body -/
structure GrowR (W : List Addr) (s s' : Shared) : Prop where
  heap : GrowH W s.heap s'.heap
  os : s'.os = s.os
  bare : AllBare s.gens → AllBare s'.gens
theorem GrowR.refl (W : List Addr) (s : Shared) : GrowR W s s := ⟨GrowH.refl _ _, rfl, id⟩
theorem GrowR.trans {W : List Addr} {s s' s'' : Shared} (x : GrowR W s s') (y : GrowR W s' s'') : GrowR W s s'' := ⟨x.heap.trans y.heap, y.os.trans x.os, fun g => y.bare (x.bare g)⟩
/-- a list of names and what they hold -/
abbrev Tab := List (Str × D)
def setV (x : Str) (d : D) : Tab → Tab
  | [] => [(x, d)]
  | (y, e) :: r => if y = x then (x, d) :: r else (y, e) :: setV x d r
def delV (x : Str) : Tab → Tab
  | [] => []
  | (y, e) :: r => if y = x then delV x r else (y, e) :: delV x r
theorem setV_lookup {x : Str} {d : D} : ∀ {σ : Tab} {y : Str} {e : D}, (setV x d σ).lookup y = some e → (y = x ∧ e = d) ∨ (y ≠ x ∧ σ.lookup y = some e)
  | [], y, e, h => by
    rw [setV, List.lookup_cons] at h
    by_cases q : y = x
    · subst q; simp at h; exact .inl ⟨rfl, h.symm⟩
    · have : (y == x) = false := by simpa using q
      rw [this] at h; simp at h
  | (z, f) :: r, y, e, h => by
    unfold setV at h
    by_cases hz : z = x
    · rw [if_pos hz] at h
      rw [List.lookup_cons] at h
      by_cases q : y = x
      · subst q; simp at h; exact .inl ⟨rfl, h.symm⟩
      · have : (y == x) = false := by simpa using q
        rw [this] at h
        refine .inr ⟨q, ?_⟩
        rw [List.lookup_cons]
        have : (y == z) = false := by rw [hz]; simpa using q
        rw [this]; exact h
    · rw [if_neg hz] at h
      rw [List.lookup_cons] at h
      by_cases q : y = z
      · subst q
        simp at h
        exact .inr ⟨hz, by rw [List.lookup_cons]; simp [h]⟩
      · have q' : (y == z) = false := by simpa using q
        rw [q'] at h
        rcases setV_lookup h with h | ⟨h1, h2⟩
        · exact .inl h
        · exact .inr ⟨h1, by rw [List.lookup_cons, q']; exact h2⟩
theorem delV_lookup {x : Str} : ∀ {σ : Tab} {y : Str} {e : D}, (delV x σ).lookup y = some e → y ≠ x ∧ σ.lookup y = some e
  | [], y, e, h => by simp [delV] at h
  | (z, f) :: r, y, e, h => by
    unfold delV at h
    by_cases hz : z = x
    · rw [if_pos hz] at h
      obtain ⟨h1, h2⟩ := delV_lookup h
      refine ⟨h1, ?_⟩
      have : (y == z) = false := by rw [hz]; simpa using h1
      rw [List.lookup_cons, this]; exact h2
    · rw [if_neg hz, List.lookup_cons] at h
      by_cases q : y = z
      · subst q
        simp at h
        exact ⟨hz, by rw [List.lookup_cons]; simp [h]⟩
      · have q' : (y == z) = false := by simpa using q
        rw [q'] at h
        obtain ⟨h1, h2⟩ := delV_lookup h
        exact ⟨h1, by rw [List.lookup_cons, q']; exact h2⟩

/-- what stands throughout a def's body -/
structure Fn (c : Cx) (env : Env) (e₀ : Shared) (Wc : List Addr) : Prop where
  ok : c.Ok
  rel : c.R = GrowR c.W
  W : c.W = env.locals :: Wc
  kind : env.scope.kind = .function
  notTab : env.locals ∉ c.tabs
  newL : e₀.heap.get? env.locals = none
  newOwn : ∀ a ∈ c.chg, e₀.heap.get? a = none
  sub : ∀ a ∈ c.chg, a ∈ c.own
  cells : ∀ x a, env.cells.lookup x = some a → a ∈ c.chg ∧ a ∉ c.W
  apart : ∀ x y a, env.cells.lookup x = some a → env.cells.lookup y = some a → x = y

theorem delV_ne {x y : Str} (hy : y ≠ x) : ∀ {σ : Tab}, (delV x σ).lookup y = σ.lookup y
  | [] => rfl
  | (z, f) :: r => by
    unfold delV
    by_cases hz : z = x
    · rw [if_pos hz, delV_ne hy, List.lookup_cons]
      have : (y == z) = false := by rw [hz]; simpa using hy
      rw [this]
    · rw [if_neg hz, List.lookup_cons, List.lookup_cons, delV_ne hy]

abbrev Owned := List (Str × Addr × D)
structure Run (c : Cx) (env : Env) (e₀ r : Shared) (Wc : List Addr) (σ : Tab) (ow : Owned) (s : Shared) : Prop where
  at_ : At c s.heap s
  vars : ∀ x d, σ.lookup x = some d → ∃ v, Lk c env s.heap x v ∧ VR c (c.av true) s.heap d v
  owns : ∀ x a d, (x, a, d) ∈ ow → Lk c env s.heap x (.ref a) ∧ a ∈ c.chg ∧ a ∉ c.W ∧ VR c (c.av false) s.heap d (.ref a)
  cellsAt : ∀ x a, env.cells.lookup x = some a → ∃ v, s.heap.IsCell a v
  since : GrowR Wc e₀ s
  kept : ∀ b o, r.heap.get? b = some o → b ∉ c.W ++ c.chg → s.heap.get? b = some o

section
variable {c : Cx} {b : Bool} {env : Env} {h : Heap} {e₀ r s : Shared} {Wc : List Addr} {σ : Tab} {ow : Owned}

theorem Lk.grow {h h' : Heap} {x : Str} {v : Value} (l : Lk c env h x v) (g : GrowH c.W h h') : Lk c env h' x v := by
  obtain ⟨hk, ⟨hl, m, hn, hm⟩ | ⟨hl, ca, hc, hw, o, ho, hd⟩⟩ := l
  · exact ⟨hk, .inl ⟨hl, m, g.allNs hn, hm⟩⟩
  · exact ⟨hk, .inr ⟨hl, ca, hc, hw, o, g.keep _ _ ho hw, hd⟩⟩

theorem since_step (F : Fn c env e₀ Wc) (low : Low c s.heap) (x : GrowR Wc e₀ s) {s' : Shared} (y : GrowR c.W s s') : GrowR Wc e₀ s' := by
  have sub : ∀ b ∈ Wc, b ∈ c.W := fun b hb => by rw [F.W]; exact List.mem_cons_of_mem _ hb
  refine ⟨⟨fun b o e n => ?_, fun b m hb e => ?_, fun b ps hb e => ?_⟩, y.os.trans x.os, fun g => y.bare (x.bare g)⟩
  · refine y.heap.keep b o (x.heap.keep b o e n) ?_
    rw [F.W]
    intro q
    rcases List.mem_cons.mp q with rfl | q
    · rw [F.newL] at e; cases e
    · exact n q
  · exact y.heap.ns b m (sub b hb) (x.heap.ns b m hb e)
  · obtain ⟨ps₁, e₁, q₁⟩ := x.heap.tab b ps hb e
    obtain ⟨ps₂, e₂, q₂⟩ := y.heap.tab b ps₁ (sub b hb) e₁
    refine ⟨ps₂, e₂, fun pos cv q => ?_⟩
    rcases q₂ pos cv q with q | ⟨c', rfl, n, z, r⟩
    · obtain ⟨c', ec, hn, _⟩ := low.code (sub b hb) e₁.1 q
      rcases q₁ pos cv q with q | ⟨c'', ec', n, z, r⟩
      · exact .inl q
      · rw [ec] at ec'
        cases ec'
        subst ec
        exact .inr ⟨c', rfl, n, z, code_keep r fun o ho => y.heap.keep c' o ho fun w => hn (List.mem_append_left _ w)⟩
    · refine .inr ⟨c', rfl, fun w => n (sub _ w), ?_, r⟩
      cases w : e₀.heap.get? c' with
      | none => rfl
      | some o => rw [x.heap.keep c' o w fun w => n (sub _ w)] at z; cases z

theorem Run.step (F : Fn c env e₀ Wc) (X : Run c env e₀ r Wc σ ow s) {s' : Shared} (y : c.R s s') : Run c env e₀ r Wc σ ow s' where
  at_ := (X.at_.next F.ok y).here
  vars x d e := let ⟨v, l, p⟩ := X.vars x d e; ⟨v, l.grow (F.ok.grow y), p.step F.ok y⟩
  owns x a d e := let ⟨l, p, q, t⟩ := X.owns x a d e; ⟨l.grow (F.ok.grow y), p, q, t.step F.ok y⟩
  cellsAt x a e := let ⟨v, o, ho, hd⟩ := X.cellsAt x a e; ⟨v, o, (F.ok.grow y).keep _ _ ho (F.cells x a e).2, hd⟩
  since := since_step F X.at_.low X.since (F.rel ▸ y)
  kept b o e n := (F.ok.grow y).keep b o (X.kept b o e n) fun q => n (List.mem_append_left _ q)

/-- a fresh start of the reference point -/
theorem Run.mark (X : Run c env e₀ r Wc σ ow s) : Run c env e₀ s Wc σ ow s := { X with kept := fun _ _ e _ => e }
theorem Run.name (F : Fn c env e₀ Wc) (X : Run c env e₀ r Wc σ ow s) {x : Str} {d : D} {pos : Pos} (e : σ.lookup x = some d) (hd : (x == ("__debug__" : Str)) = false := by decide) : Ev c true env s.heap (.Name x pos) d :=
  let ⟨_, l, p⟩ := X.vars x d e; Ev.name F.ok l p hd
theorem Run.own (F : Fn c env e₀ Wc) (X : Run c env e₀ r Wc σ ow s) {x : Str} {a : Addr} {d : D} {pos : Pos} (e : (x, a, d) ∈ ow) (hd : (x == ("__debug__" : Str)) = false := by decide) : Ev c false env s.heap (.Name x pos) d :=
  let ⟨l, _, _, p⟩ := X.owns x a d e; Ev.name F.ok l p hd

theorem ns_unique {h : Heap} {a : Addr} {m m' : Str → Option Value} (x : h.Ns a m) (y : h.Ns a m') : m = m' := by
  obtain ⟨o, es, ep, ho, hd, _, e⟩ := x
  obtain ⟨o', es', ep', ho', hd', _, e'⟩ := y
  rw [ho] at ho'; cases ho'
  rw [hd] at hd'; cases hd'
  funext z; rw [← e z, e' z]
theorem cell_not_ns {h : Heap} {a : Addr} {m : Str → Option Value} {v : Option Value} (x : h.Ns a m) (y : h.IsCell a v) : False := by
  obtain ⟨o, es, ep, ho, hd, _, e⟩ := x
  obtain ⟨o', ho', hd'⟩ := y
  rw [ho] at ho'; cases ho'
  rw [hd] at hd'; cases hd'
theorem VR.kinds {av : List Addr} {h h' : Heap} (ne : ∀ a o, h.get? a = some o → (∀ z, o.data ≠ .cell z) → h'.get? a = some o) : ∀ {d : D} {v : Value}, VR c av h d v → VR c av h' d v
  | .none, _, x => x
  | .bool _, _, x => x
  | .int _, _, x => x
  | .str _, _, x => x
  | .ints _, _, ⟨a, vs, e, n, ⟨k, l⟩, r⟩ => ⟨a, vs, e, n, ⟨k, ne _ _ l fun z => by nofun⟩, r⟩
  | .strs _, _, ⟨a, vs, e, n, ⟨k, l⟩, r⟩ => ⟨a, vs, e, n, ⟨k, ne _ _ l fun z => by nofun⟩, r⟩
  | .bools _, _, ⟨a, e, n, ⟨k, l⟩⟩ => ⟨a, e, n, ⟨k, ne _ _ l fun z => by nofun⟩⟩
  | .tstrs _, _, ⟨a, vs, e, n, ⟨o, ho, hc, k, hd⟩, r⟩ => ⟨a, vs, e, n, ⟨o, ne _ _ ho fun z q => (by rw [hd] at q; cases q), hc, k, hd⟩, r⟩
  | .idict _, _, ⟨a, m, e, n, ⟨o, es, ep, ho, hx, hd, t⟩, r⟩ => ⟨a, m, e, n, ⟨o, es, ep, ne _ _ ho fun z q => (by rw [hd] at q; cases q), hx, hd, t⟩, r⟩
  | .pair _ _, _, ⟨a, vx, vy, e, n, ⟨o, ho, hc, k, hd⟩, x, y⟩ => ⟨a, vx, vy, e, n, ⟨o, ne _ _ ho fun z q => (by rw [hd] at q; cases q), hc, k, hd⟩, VR.kinds ne x, VR.kinds ne y⟩
theorem cell_ne {h h' : Heap} {b : Addr} {v : Option Value} (hb : h.IsCell b v) (hs : Heap.SameBut b h h') : ∀ a o, h.get? a = some o → (∀ z, o.data ≠ .cell z) → h'.get? a = some o := fun a o ho hd => by
  refine (hs.2 a ?_).trans ho
  rintro rfl
  obtain ⟨o', ho', hd'⟩ := hb
  rw [ho] at ho'; cases ho'
  exact hd _ hd'
/-- the heap turns at new objects of ours alone -/
theorem Fn.subW (F : Fn c env e₀ Wc) : ∀ b ∈ Wc, b ∈ c.W := fun b hb => by rw [F.W]; exact List.mem_cons_of_mem _ hb
theorem since_turn (sub : ∀ b ∈ Wc, b ∈ c.W) (low : Low c s.heap) (x : GrowR Wc e₀ s) {ch : List Addr} (hch : ∀ a ∈ ch, a ∈ c.W ++ c.own) (hL : ∀ a ∈ ch, e₀.heap.get? a = none) {h' : Heap} {t : Nat}
    (hk : ∀ b o, b ∉ ch → s.heap.get? b = some o → h'.get? b = some o) : GrowR Wc e₀ { s with heap := h', toks := t } := by
  have old : ∀ b o, e₀.heap.get? b = some o → b ∉ ch := fun b o e q => by rw [hL b q] at e; cases e
  refine ⟨⟨fun b o e n => hk b o (old b o e) (x.heap.keep b o e n), fun b m hb e => (x.heap.ns b m hb e).at' fun o ho => hk b o ?_ ho, fun b ps hb e => ?_⟩, x.os, x.bare⟩
  · obtain ⟨o, es, ep, ho, _⟩ := e
    exact old b o ho
  · obtain ⟨ps₁, e₁, q₁⟩ := x.heap.tab b ps hb e
    refine ⟨ps₁, ⟨hk b _ (old b _ e.1) e₁.1, e₁.2⟩, fun pos cv q => ?_⟩
    obtain ⟨c', rfl, hn, _⟩ := low.code (sub b hb) e₁.1 q
    rcases q₁ pos _ q with q | ⟨c'', ec', n, z, r⟩
    · exact .inl q
    · cases ec'
      exact .inr ⟨c', rfl, n, z, code_keep r fun o ho => hk c' o (fun w => hn (hch c' w)) ho⟩

/-- a name can be stored -/
def Stores (env : Env) (x : Str) : Prop := env.kindOf x = some .local ∨ (env.kindOf x = some .cell ∧ ∃ a, env.cells.lookup x = some a)

/-- after a name in the frame has been stored -/
theorem Run.stored (F : Fn c env e₀ Wc) (X : Run c env e₀ r Wc σ ow s) {x : Str} {v : Value} {h' : Heap} {t : Nat} (hx : env.kindOf x = some .local) (hno : ∀ p ∈ ow, p.1 ≠ x)
    (hk : ∀ b o, b ≠ env.locals → s.heap.get? b = some o → h'.get? b = some o)
    (hn : ∀ m, s.heap.Ns env.locals m → h'.Ns env.locals (fun z => if z = x then some v else m z)) :
    Run c env e₀ r Wc (delV x σ) ow { s with heap := h', toks := t } ∧ Lk c env h' x v := by
  have hLW : env.locals ∈ c.W := by rw [F.W]; exact List.mem_cons_self
  obtain ⟨m, hm⟩ := X.at_.low.frames env.locals hLW F.notTab
  have hn := hn m hm
  have hk1 : ∀ b o, s.heap.get? b = some o → b ∉ c.W → h'.get? b = some o := fun b o e n => hk b o (fun z => n (z ▸ hLW)) e
  have hk2 : ∀ b o, b ∉ [env.locals] → s.heap.get? b = some o → h'.get? b = some o := fun b o n e => hk b o (by simpa using n) e
  have lkN : ∀ y w, y ≠ x → Lk c env s.heap y w → Lk c env h' y w := by
    rintro y w hy ⟨hk', ⟨hl, m', hn', hm'⟩ | ⟨hl, ca, hc, hw, o, ho, hd⟩⟩
    · refine ⟨hk', .inl ⟨hl, _, hn, ?_⟩⟩
      have := ns_unique hn' hm
      subst this
      simpa [hy] using hm'
    · exact ⟨hk', .inr ⟨hl, ca, hc, hw, o, hk1 _ _ ho hw, hd⟩⟩
  refine ⟨{
    at_ := ⟨GrowH.refl _ _, X.at_.bare, X.at_.low.turn (ch := [env.locals]) (by simp [hLW]) (by simp [F.notTab]) hk2 (fun a ha _ => by rw [List.mem_singleton.mp ha]; exact ⟨_, hn⟩) (fun a ha _ => by
      rw [List.mem_singleton.mp ha]
      obtain ⟨o, _, _, ho, _⟩ := hn
      exact ⟨o, ho⟩)⟩
    vars := fun y e he => by
      obtain ⟨hy, he⟩ := delV_lookup he
      obtain ⟨w, l, p⟩ := X.vars y e he
      exact ⟨w, lkN y w hy l, p.grow (c.av_sub true) hk1⟩
    owns := fun y a e he => by
      obtain ⟨l, p1, p2, t⟩ := X.owns y a e he
      exact ⟨lkN y _ (hno _ he) l, p1, p2, t.grow (c.av_sub false) hk1⟩
    cellsAt := fun y a e => by
      obtain ⟨w, o, ho, hd⟩ := X.cellsAt y a e
      exact ⟨w, o, hk1 _ _ ho (F.cells y a e).2, hd⟩
    since := since_turn F.subW X.at_.low X.since (ch := [env.locals]) (by simp [hLW]) (by simp [F.newL]) hk2
    kept := fun b o e n => hk1 b o (X.kept b o e n) fun q => n (List.mem_append_left _ q) }, F.kind, .inl ⟨hx, _, hn, by simp⟩⟩

/-- a name is stored, whatever its value -/
theorem Run.put (F : Fn c env e₀ Wc) (X : Run c env e₀ r Wc σ ow s) {x : Str} {v : Value} (hx : Stores env x)
    (hno : ∀ p ∈ ow, p.1 ≠ x) {M : Model} {A : Around} {E : Value → Shared → Prop} {Q : Unit → Shared → Prop} (q : ∀ s', Run c env e₀ r Wc (delV x σ) ow s' → Lk c env s'.heap x v → (∀ b d w, VR c (c.av b) s.heap d w → VR c (c.av b) s'.heap d w) → (∀ a i, IsTup s.heap a i → a ∉ c.W → IsTup s'.heap a i) → Q () s') : wpAny M A (storeName env x v) Q E s := by
  have hLW : env.locals ∈ c.W := by rw [F.W]; exact List.mem_cons_self
  obtain ⟨m, hm⟩ := X.at_.low.frames env.locals hLW F.notTab
  rcases hx with hx | ⟨hx, a, ha⟩
  · refine wpAny_storeName_local hx hm (fun h' hn hs => ?_) (by rw [F.kind]; rfl)
    have hk : ∀ b o, b ≠ env.locals → s.heap.get? b = some o → h'.get? b = some o := fun b o n e => (hs.2 b n).trans e
    have hk1 : ∀ b o, s.heap.get? b = some o → b ∉ c.W → h'.get? b = some o := fun b o e n => hk b o (fun z => n (z ▸ hLW)) e
    obtain ⟨X', l⟩ := X.stored F (h' := h') (t := s.toks + 1) hx hno hk (v := v) (fun m' hm' => by rw [ns_unique hm' hm]; exact hn)
    exact q _ X' l (fun b d w x => x.grow (c.av_sub b) hk1) fun a i ⟨o, ho, t⟩ n => ⟨o, hk1 a o ho n, t⟩
  · obtain ⟨w₀, hc₀⟩ := X.cellsAt x a ha
    obtain ⟨hao, haW⟩ := F.cells x a ha
    have haO : a ∈ c.own := F.sub a hao
    refine wpAny_storeName_cell F.kind hx ha hc₀ fun h' hc hs => ?_
    have ne := cell_ne hc₀ hs
    have hk2 : ∀ b o, b ∉ [a] → s.heap.get? b = some o → h'.get? b = some o := fun b o n e => (hs.2 b (by simpa using n)).trans e
    have lkN : ∀ y w, y ≠ x → Lk c env s.heap y w → Lk c env h' y w := by
      rintro y w hy ⟨hk, ⟨hl, m', hn', hm'⟩ | ⟨hl, ca, hc, hw, o, ho, hd⟩⟩
      · exact ⟨hk, .inl ⟨hl, m', hn'.sameBut hs fun z => haW (z ▸ hLW), hm'⟩⟩
      · refine ⟨hk, .inr ⟨hl, ca, ‹_›, hw, o, (hs.2 ca ?_).trans ho, hd⟩⟩
        rintro rfl; exact hy (F.apart y x ca ‹_› ha)
    refine q _ {
      at_ := ⟨GrowH.refl _ _, X.at_.bare, X.at_.low.turn (ch := [a]) (by simp [haO]) (fun b hb => by rw [List.mem_singleton.mp hb]; exact fun z => haW (F.ok.tabs a z)) hk2 (fun b hb hw => by rw [List.mem_singleton.mp hb] at hw; exact absurd hw haW) (fun b hb _ => by
        rw [List.mem_singleton.mp hb]
        obtain ⟨o, ho, _⟩ := hc
        exact ⟨o, ho⟩)⟩
      vars := fun y e he => by
        obtain ⟨hy, he⟩ := delV_lookup he
        obtain ⟨w, l, p⟩ := X.vars y e he
        exact ⟨w, lkN y w hy l, p.kinds ne⟩
      owns := fun y a' e he => by
        obtain ⟨l, p1, p2, t⟩ := X.owns y a' e he
        exact ⟨lkN y _ (hno _ he) l, p1, p2, t.kinds ne⟩
      cellsAt := fun y a' e => by
        obtain ⟨w, o, ho, hd⟩ := X.cellsAt y a' e
        by_cases z : a' = a
        · subst z; exact ⟨_, hc⟩
        · exact ⟨w, o, (hs.2 a' z).trans ho, hd⟩
      since := since_turn F.subW X.at_.low X.since (ch := [a]) (by simp [haO]) (by simp [F.newOwn a hao]) hk2
      kept := fun b o e n => (hs.2 b fun z => n (by rw [z]; exact List.mem_append_right _ hao)).trans (X.kept b o e n) }
      ⟨F.kind, .inr ⟨.inl hx, a, ha, haW, hc⟩⟩ (fun b d w x => x.kinds ne) fun a i ⟨o, ho, hc, k, hd⟩ n => ⟨o, ne a o ho (fun z q => by rw [hd] at q; cases q), hc, k, hd⟩

theorem Run.add {x : Str} (X : Run c env e₀ r Wc (delV x σ) ow s) {v : Value} {d : D} (l : Lk c env s.heap x v) (hv : VR c (c.av true) s.heap d v) : Run c env e₀ r Wc (setV x d σ) ow s :=
  { X with
    vars := fun y e he => by
      rcases setV_lookup he with ⟨rfl, rfl⟩ | ⟨hy, he⟩
      · exact ⟨v, l, hv⟩
      · exact X.vars y e (by rw [delV_ne hy]; exact he) }
theorem Run.store (F : Fn c env e₀ Wc) (X : Run c env e₀ r Wc σ ow s) {x : Str} {d : D} {v : Value} (hx : Stores env x) (hv : VR c (c.av true) s.heap d v)
    (hno : ∀ p ∈ ow, p.1 ≠ x) {M : Model} {A : Around} {E : Value → Shared → Prop} {Q : Unit → Shared → Prop} (q : ∀ s', Run c env e₀ r Wc (setV x d σ) ow s' → Q () s') : wpAny M A (storeName env x v) Q E s :=
  X.put F hx hno fun s' X' l hk _ => q s' (X'.add l (hk true d v hv))
end
end Mine

namespace Mine

section
variable {c : Cx} {b : Bool} {env : Env} {h : Heap} {e₀ r s : Shared} {Wc : List Addr} {σ : Tab} {ow : Owned} {E : Value → Shared → Prop} {Q : Flow → Shared → Prop}

theorem Run.ev (F : Fn c env e₀ Wc) (X : Run c env e₀ r Wc σ ow s) {b : Bool} {t : Sem Value} {d : D} (e : Gives c b s.heap t d) {Q : Value → Shared → Prop}
    (q : ∀ v s', Run c env e₀ r Wc σ ow s' → c.R s s' → VR c (c.av b) s'.heap d v → Q v s') : wpAny (model c.prog c.w) c.A t Q E s :=
  e.mono X.at_ fun v s' y x => q v s' (X.step F y) y x
theorem Run.tr (F : Fn c env e₀ Wc) (X : Run c env e₀ r Wc σ ow s) {t : Expr} {w : Sem Value} {β : Bool} (e : TrW c env s.heap t w β) {Q : Bool → Shared → Prop}
    (q : ∀ s', Run c env e₀ r Wc σ ow s' → c.R s s' → Q β s') : wpAny (model c.prog c.w) c.A (isTrue t env w) Q E s :=
  e s Q E X.at_ fun s' y => q s' (X.step F y) y

theorem ex_assign (F : Fn c env e₀ Wc) (X : Run c env e₀ r Wc σ ow s) {x : Str} {p pos : Pos} {e : Expr} {d : D} (hx : Stores env x) (he : Ev c true env s.heap e d) (hno : ∀ p ∈ ow, p.1 ≠ x)
    (q : ∀ s', Run c env e₀ r Wc (setV x d σ) ow s' → Q .next s') (hs : swapsWith e (some (.Name x p)) pos.line env = pure false := by rfl) : wpAny (model c.prog c.w) c.A (exec (.Assign [.Name x p] e pos) env) Q E s :=
  wpAny_Assign_Name (X.ev F he fun v s' X' y z => X'.store F hx z hno fun s'' X'' => q s'' X'') hs

theorem ex_if (F : Fn c env e₀ Wc) (X : Run c env e₀ r Wc σ ow s) {t : Expr} {body orelse : List Stmt} {pos : Pos} {β : Bool} (ht : Tr c env s.heap t β)
    (h1 : β = true → ∀ s', Run c env e₀ r Wc σ ow s' → wpAny (model c.prog c.w) c.A (execs body env) Q E s') (h2 : β = false → ∀ s', Run c env e₀ r Wc σ ow s' → wpAny (model c.prog c.w) c.A (execs orelse env) Q E s') :
    wpAny (model c.prog c.w) c.A (exec (.If t body orelse pos) env) Q E s :=
  wpAny_If (X.tr F ht fun s' X' y => by
    cases β
    · exact h2 rfl s' X'
    · exact h1 rfl s' X')
theorem ex_if_true (F : Fn c env e₀ Wc) (X : Run c env e₀ r Wc σ ow s) {t : Expr} {body orelse : List Stmt} {pos : Pos} (ht : Tr c env s.heap t true)
    (h1 : ∀ s', Run c env e₀ r Wc σ ow s' → wpAny (model c.prog c.w) c.A (execs body env) Q E s') : wpAny (model c.prog c.w) c.A (exec (.If t body orelse pos) env) Q E s := ex_if F X ht (fun _ => h1) nofun
theorem ex_if_false (F : Fn c env e₀ Wc) (X : Run c env e₀ r Wc σ ow s) {t : Expr} {body orelse : List Stmt} {pos : Pos} (ht : Tr c env s.heap t false)
    (h2 : ∀ s', Run c env e₀ r Wc σ ow s' → wpAny (model c.prog c.w) c.A (execs orelse env) Q E s') : wpAny (model c.prog c.w) c.A (exec (.If t body orelse pos) env) Q E s := ex_if F X ht nofun (fun _ => h2)

theorem ex_return (F : Fn c env e₀ Wc) (X : Run c env e₀ r Wc σ ow s) {e : Expr} {pos : Pos} {d : D} (he : Ev c b env s.heap e d) (q : ∀ v s', Run c env e₀ r Wc σ ow s' → VR c (c.av b) s'.heap d v → Q (.ret v) s') :
    wpAny (model c.prog c.w) c.A (exec (.Return (some e) pos) env) Q E s := wpAny_Return_some (X.ev F he fun v s' X' _ z => q v s' X' z)

/-- after the heap has turned at one owned list alone -/
theorem Run.owned (F : Fn c env e₀ Wc) (X : Run c env e₀ r Wc σ ow s) {x : Str} {a : Addr} {d : D} (hm : (x, a, d) ∈ ow) {ow' : Owned} {h' : Heap} {t : Nat} (hs : Heap.SameBut a s.heap h') (hin : ∃ o, h'.get? a = some o)
    (how : ∀ y a' e, (y, a', e) ∈ ow' → ((a' = a ∧ VR c (c.av false) h' e (.ref a) ∧ y = x) ∨ (a' ≠ a ∧ (y, a', e) ∈ ow))) (hfar : ∀ y a' e, (y, a', e) ∈ ow → a' ≠ a → VR c (c.av false) s.heap e (.ref a') → VR c (c.av false) h' e (.ref a'))
    (hnc : ∀ v, ¬ s.heap.IsCell a v) : Run c env e₀ r Wc σ ow' { s with heap := h', toks := t } := by
  obtain ⟨hl, hao, haW, hv⟩ := X.owns x a d hm
  have keepN : ∀ b o, s.heap.get? b = some o → b ∉ [a] → h'.get? b = some o := fun b o e n => (hs.2 b (by simpa using n)).trans e
  have lkN : ∀ y w, Lk c env s.heap y w → Lk c env h' y w := by
    rintro y w ⟨hk, ⟨hl, m', hn', hm'⟩ | ⟨hl, ca, hc, hw, o, ho, hd⟩⟩
    · refine ⟨hk, .inl ⟨hl, m', hn'.sameBut hs fun z => haW (z ▸ ?_), hm'⟩⟩
      rw [F.W]; exact List.mem_cons_self
    · exact ⟨hk, .inr ⟨hl, ca, hc, hw, o, (hs.2 ca fun z => hnc _ ⟨o, z ▸ ho, hd⟩).trans ho, hd⟩⟩
  have subT : ∀ y ∈ [a], y ∈ c.av true := fun y hy => by rw [List.mem_singleton.mp hy]; exact List.mem_append_right _ (F.sub a hao)
  exact {
    at_ := ⟨GrowH.refl _ _, X.at_.bare, X.at_.low.turn (ch := [a]) (by simp [F.sub a hao]) (fun b hb => by rw [List.mem_singleton.mp hb]; exact fun z => haW (F.ok.tabs a z)) (fun b o n e => keepN b o e n) (fun b hb hw => by rw [List.mem_singleton.mp hb] at hw; exact absurd hw haW) (fun b hb _ => by rw [List.mem_singleton.mp hb]; exact hin)⟩
    vars := fun y e he => by
      obtain ⟨w, l, p⟩ := X.vars y e he
      exact ⟨w, lkN y w l, p.grow subT keepN⟩
    owns := fun y a' e he => by
      rcases how y a' e he with ⟨rfl, h1, rfl⟩ | ⟨h1, h2⟩
      · exact ⟨lkN _ _ hl, hao, haW, h1⟩
      · obtain ⟨l, p1, p2, t⟩ := X.owns y a' e h2
        exact ⟨lkN _ _ l, p1, p2, hfar y a' e h2 h1 t⟩
    cellsAt := fun y a' e => by
      obtain ⟨w, o, ho, hd⟩ := X.cellsAt y a' e
      exact ⟨w, o, (hs.2 a' fun z => hnc _ ⟨o, z ▸ ho, hd⟩).trans ho, hd⟩
    since := since_turn F.subW X.at_.low X.since (ch := [a]) (by simp [F.sub a hao]) (by simp [F.newOwn a hao]) (fun b o n e => keepN b o e n)
    kept := fun b o e n => (hs.2 b fun z => n (by rw [z]; exact List.mem_append_right _ hao)).trans (X.kept b o e n) }

theorem listNotCell {h : Heap} {a : Addr} {its : Array Value} (x : Ls h a its) : ∀ v, ¬ h.IsCell a v := fun v ⟨o, ho, hd⟩ => by
  obtain ⟨n, e⟩ := x
  rw [e] at ho; cases ho; cases hd
/-- a list's value stands by its address alone -/
theorem VR.far {τ : Type} (K : Kd τ) {av : List Addr} {zs : List τ} {h h' : Heap} {a a' : Addr} (hs : Heap.SameBut a h h') (ne : a' ≠ a) (x : VR c av h (K.lst zs) (.ref a')) : VR c av h' (K.lst zs) (.ref a') := by
  obtain ⟨p, ys, e, n, ⟨k, hl⟩, hp⟩ := K.un _ _ _ _ _ x
  cases e
  exact K.put _ _ _ _ _ _ n ⟨k, (hs.2 _ ne).trans hl⟩ hp

theorem appendB {prog : Program} {w : World} {A : Around} {E : Value → Shared → Prop} {s : Shared} {l : Addr} {its : Array Value} {x : Value} {Q : Value → Shared → Prop} (hl : Ls s.heap l its)
    (hQ : ∀ h', Ls h' l (its.push x) → Heap.SameBut l s.heap h' → Q .none { s with heap := h' }) (hsz : its.size ≤ sizeLine) :
    wpAny (model prog w) A (call (.builtin "list.append") [.ref l, x]) Q E s := by
  obtain ⟨n, ho⟩ := id hl
  refine wpAny_call_entry slot_list_append hl.isList.typeIs entry_list_append ?_ (args_list_append _ _)
  show wpAny _ _ (updateSeq l (·.push x) >>= fun _ => ret .none) _ _ s
  refine wpAny_bind ?_
  refine wpAny_updateSeq ho rfl (wpAny_pure ⟨.none, rfl, hQ _ ?_ (Heap.SameBut.update ..)⟩)
  refine ⟨n + 1, ?_⟩
  rw [Heap.get?_update_self _ ho]
  · simp [Obj.mapSeq]
  · simp [Obj.mapSeq, Obj.isFreed]
end
end Mine

namespace Mine

theorem setItemNeg {prog : Program} {w : World} {A : Around} {E : Value → Shared → Prop} {s : Shared} {l : Addr} {items : Array Value} {k : Int} {t : Tok} {v : Value} {Q : Unit → Shared → Prop} (hl : Ls s.heap l items)
    (h0 : k < 0) (h1 : -(items.size : Int) ≤ k) (hfit : -(2 ^ 63) ≤ k) (hQ : ∀ h', Ls h' l (items.setIfInBounds (k + items.size).toNat v) → Heap.SameBut l s.heap h' → Q () { s with heap := h' }) :
    wpAny (model prog w) A (setItem (.ref l) (.int k t) v) Q E s := by
  obtain ⟨ne, ho⟩ := id hl
  have hT := hl.isList.typeIs
  unfold setItem
  try with_reducible refine wpAny_holding ?_
  first | refine wpAny_bind (wpAny_pure ?_) | skip
  refine wpAny_bind (wpAny_sequenceKey hT (by decide) ?_)
  refine wpAny_bind (wpAny_callSpecial?_slot (name := Str.ofString "__setitem__") hT slot_list_setitem
    (wpAny_call_entry slot_list_setitem hT entry_list_setitem ?_ (args_list_setitem _ _ _)))
  show wpAny _ _ (Builtin.List.listSubscript? (.int k t) >>= _) _ _ s
  refine wpAny_bind (wpAny_listSubscript_int (fitsIndex_neg h0 hfit) ?_)
  clear hfit
  have hidx := seqIndex_neg h0 h1
  have hlt : (k + items.size).toNat < items.size := by omega
  obtain ⟨j, rfl⟩ : ∃ j : Nat, k = Int.negSucc j := by
    cases k with
    | ofNat n => exact absurd h0 (Int.not_lt.mpr (Int.natCast_nonneg n))
    | negSucc n => exact ⟨n, rfl⟩
  have hx : items[(Int.negSucc j + items.size).toNat]? = some items[(Int.negSucc j + items.size).toNat] := Array.getElem?_eq_getElem hlt
  show wpAny _ _ ((Builtin.List.listItems (.ref l) >>= fun xs => pure ((seqIndex? (Int.negSucc j) xs.size).bind fun i => xs[i]?.map (i, ·))) >>= _) _ _ s
  refine wpAny_bind (wpAny_bind ?_)
  show wpAny _ _ (seqItems? (.ref l) >>= _) _ _ s
  refine wpAny_bind (wpAny_seqItems ho rfl (wpAny_pure (wpAny_pure ?_)))
  rw [hidx]
  simp only [Option.bind_some, hx, Option.map_some]
  have hfin : Ls (s.heap.update l (Obj.mapSeq (·.setIfInBounds (Int.negSucc j + items.size).toNat v))) l (items.setIfInBounds (Int.negSucc j + items.size).toNat v) := by
    refine ⟨ne, ?_⟩
    rw [Heap.get?_update_self _ ho]
    · simp [Obj.mapSeq]
    · simp [Obj.mapSeq, Obj.isFreed]
  show wpAny _ _ (setSeqItemAt l _ v >>= _) _ _ s
  refine wpAny_bind (wpAny_setSeqItemAt ho rfl ?_)
  first
    | exact wpAny_bind (wpAny_pure (wpAny_pure ⟨.none, rfl, wpAny_pure (hQ _ hfin (Heap.SameBut.update ..))⟩))
    | exact wpAny_pure ⟨.none, rfl, wpAny_pure (hQ _ hfin (Heap.SameBut.update ..))⟩

section
variable {c : Cx} {b : Bool} {env : Env} {h : Heap} {e₀ r s : Shared} {Wc : List Addr} {σ : Tab} {ow : Owned} {E : Value → Shared → Prop} {Q : Flow → Shared → Prop}

/-- one owned list among others -/
structure Among (pre post : Owned) (x : Str) (a : Addr) : Prop where
  far : ∀ p ∈ pre ++ post, p.2.1 ≠ a
  lists : ∀ p ∈ pre ++ post, ∃ (τ : Type) (K : Kd τ) (zs : List τ), p.2.2 = K.lst zs

theorem Run.turn (F : Fn c env e₀ Wc) {pre post : Owned} {x : Str} {a : Addr} {d d' : D} (X : Run c env e₀ r Wc σ (pre ++ (x, a, d) :: post) s) (am : Among pre post x a) {h' : Heap} {t : Nat} (hs : Heap.SameBut a s.heap h') (hin : ∃ o, h'.get? a = some o)
    (hd : VR c (c.av false) h' d' (.ref a)) (hnc : ∀ v, ¬ s.heap.IsCell a v) : Run c env e₀ r Wc σ (pre ++ (x, a, d') :: post) { s with heap := h', toks := t } := by
  refine X.owned F (x := x) (a := a) (d := d) (by simp) hs hin ?_ ?_ hnc
  · intro y a' e hm
    rcases List.mem_append.mp hm with hm | hm
    · exact .inr ⟨am.far _ (List.mem_append_left _ hm), List.mem_append_left _ hm⟩
    · rcases List.mem_cons.mp hm with hm | hm
      · cases hm; exact .inl ⟨rfl, hd, rfl⟩
      · exact .inr ⟨am.far _ (List.mem_append_right _ hm), List.mem_append_right _ (List.mem_cons_of_mem _ hm)⟩
  · intro y a' e hm hne x
    have hm' : (y, a', e) ∈ pre ++ post := by
      rcases List.mem_append.mp hm with hm | hm
      · exact List.mem_append_left _ hm
      · rcases List.mem_cons.mp hm with hm | hm
        · cases hm; exact absurd rfl hne
        · exact List.mem_append_right _ hm
    obtain ⟨τ, K, zs, e⟩ := am.lists _ hm'
    simp only at e
    subst e
    exact VR.far K hs hne x

theorem paired_snoc {τ : Type} {K : Kd τ} {zs : List τ} {ys : List Value} {z : τ} {y : Value} (h : Paired (fun z y => Atm (K.enc z) y) zs ys) (hy : Atm (K.enc z) y) : Paired (fun z y => Atm (K.enc z) y) (zs ++ [z]) (ys ++ [y]) := h.snoc hy

/-- x.append(e) -/
theorem ex_append (F : Fn c env e₀ Wc) {pre post : Owned} {x : Str} {a : Addr} {τ : Type} (K : Kd τ) {zs : List τ} {z : τ} (X : Run c env e₀ r Wc σ (pre ++ (x, a, K.lst zs) :: post) s) (am : Among pre post x a) {p apos cpos pos : Pos} {e : Expr}
    (he : Ev c false env s.heap e (K.enc z)) (hM : MethOk env (.Name x p) "append" apos [e] cpos) (hz : zs.length ≤ sizeLine) (hT : ∀ av h (zs : List τ) v, VR c av h (K.lst zs) v → ∃ a ys, v = .ref a ∧ a ∉ av ∧ Ls h a (List.toArray ys) ∧ Paired (fun z y => Atm (K.enc z) y) zs ys := by exact fun _ _ _ _ => K.un _ _ _ _ _)
    (q : ∀ s', Run c env e₀ r Wc σ (pre ++ (x, a, K.lst (zs ++ [z])) :: post) s' → Q .next s')
    (hse : starEach [e] env = [(false, eval e env)] := by rfl) (hi : interactive env = false := by rfl) (hs : swapsWith (.Call (.Attribute (.Name x p) "append" apos) [e] [] cpos) none pos.line env = pure false := by rfl) (hdb : (x == ("__debug__" : Str)) = false := by decide) :
    wpAny (model c.prog c.w) c.A (exec (.Expr (.Call (.Attribute (.Name x p) "append" apos) [e] [] cpos) pos) env) Q E s := by
  refine wpAny_Expr_any ?_ hi hs
  obtain ⟨pl, hM⟩ := hM
  obtain ⟨lk, hao, haW, hv⟩ := X.owns x a _ (List.mem_append_right _ List.mem_cons_self)
  refine MethodCall_ (pl := pl) (wpAny_Name (lk.load X.at_ ?_) hdb) hM
  obtain ⟨a', ys, ea, _, hl, hp⟩ := K.un _ _ _ _ _ hv
  cases ea
  refine getMethod_builtin hl.isList.typeIs PySem.F.plainAttrs_list PySem.F.slot_list_append PySem.F.type_list_append hl.noDict (callWith_method1 (wpAny_items_cons (X.ev F he fun v s' X' y z' => wpAny_items_nil ?_) hse) hse)
  obtain ⟨_, _, _, hv'⟩ := X'.owns x a _ (List.mem_append_right _ List.mem_cons_self)
  obtain ⟨a', ys', ea, hav, hl', hp'⟩ := K.un _ _ _ _ _ hv'
  cases ea
  have hlen : ys'.length = zs.length := hp'.length.symm
  refine appendB hl' (fun h' hn hsb => q _ (X'.turn F am (t := s'.toks) hsb (let ⟨n, e⟩ := hn; ⟨_, e⟩) ?_ (listNotCell hl'))) (by simp only [List.size_toArray, hlen]; exact hz)
  exact K.put _ _ _ _ (ys' ++ [v]) _ hav (by simpa using hn) (paired_snoc hp' (K.at_ _ _ _ _ _ z'))

/-- x[-1] += e, of texts -/
theorem ex_addLast (F : Fn c env e₀ Wc) {pre post : Owned} {x : Str} {a : Addr} {zs : List Str} {y z : Str} (X : Run c env e₀ r Wc σ (pre ++ (x, a, .strs (zs ++ [y])) :: post) s) (am : Among pre post x a) {p tpos pos : Pos} {i e : Expr}
    (hi : Ev c false env s.heap i (.int (-1))) (he : Ev c false env s.heap e (.str z)) (hz : y.length + z.length ≤ sizeLine)
    (q : ∀ s', Run c env e₀ r Wc σ (pre ++ (x, a, .strs (zs ++ [y ++ z])) :: post) s' → Q .next s') (hau : ∀ ov iv new, augStore i ov iv new = (do holding [new, ov, iv] (setItem ov iv new); release [new, ov, iv] []; pure .next) := by intros; rfl) (hdb : (x == ("__debug__" : Str)) = false := by decide) :
    wpAny (model c.prog c.w) c.A (exec (.AugAssign (.Subscript (.Name x p) i tpos) .Add e pos) env) Q E s := by
  refine wpAny_AugAssign_SubscriptAny ?_ hau
  obtain ⟨lk, _, _, _⟩ := X.owns x a _ (List.mem_append_right _ List.mem_cons_self)
  refine wpAny_Name (lk.load X.at_ ?_) hdb
  refine hi.mono X.at_ fun iv s₁ y₁ z₁ => ?_
  obtain ⟨ti, rfl⟩ := z₁
  have X₁ := X.step F y₁
  obtain ⟨_, _, _, hv₁⟩ := X₁.owns x a _ (List.mem_append_right _ List.mem_cons_self)
  obtain ⟨a', ys, ea, hav, hl, hp⟩ := hv₁
  cases ea
  have hlen := hp.length
  rw [List.length_append, List.length_singleton] at hlen
  obtain ⟨ty, hy⟩ := hp.get zs.length y (by simp)
  have hk : (-1 + ((List.toArray ys).size : Int)).toNat = zs.length := by simp only [List.size_toArray]; omega
  refine wpAny_getItem_list_neg hl.isList (by decide) (by simp only [List.size_toArray]; omega) (by decide) (x := .str y ty) (by rw [hk]; simpa using hy) ?_
  refine (he.at F.ok (F.ok.grow y₁) X.at_.low).mono X₁.at_ fun v s₂ y₂ z₂ => ?_
  obtain ⟨tz, rfl⟩ := z₂
  have X₂ := X₁.step F y₂
  refine SBL.iadd (fun t' k _ => ?_) hz
  have X₃ := X₂.step F (R_toks F.ok s₂ k)
  obtain ⟨_, _, _, hv₃⟩ := X₃.owns x a _ (List.mem_append_right _ List.mem_cons_self)
  obtain ⟨a', ys', ea, hav', hl', hp'⟩ := hv₃
  cases ea
  have hlen' := hp'.length
  rw [List.length_append, List.length_singleton] at hlen'
  have hk' : (-1 + ((List.toArray ys').size : Int)).toNat = zs.length := by simp only [List.size_toArray]; omega
  refine setItemNeg hl' (by decide) (by simp only [List.size_toArray]; omega) (by decide) fun h' hn hsb => q _ (X₃.turn F am hsb (let ⟨n, e⟩ := hn; ⟨_, e⟩) ?_ (listNotCell hl'))
  rw [hk'] at hn
  refine ⟨a, ys'.set zs.length (.str (y ++ z) t'), rfl, hav', by simpa using hn, ?_⟩
  have e1 : ys' = ys'.take zs.length ++ ys'.drop zs.length := (List.take_append_drop _ _).symm
  have h1 := hp'.take' zs.length
  rw [List.take_left] at h1
  have e2 : ys'.set zs.length (.str (y ++ z) t') = ys'.take zs.length ++ [.str (y ++ z) t'] := by
    rw [List.set_eq_take_append_cons_drop, if_pos (by omega), List.drop_eq_nil_of_le (by omega)]
  rw [e2]
  exact h1.append' (.cons _ _ .nil)

/-- del x[-1] -/
theorem ex_delLast (F : Fn c env e₀ Wc) {pre post : Owned} {x : Str} {a : Addr} {zs : List Str} {y : Str} (X : Run c env e₀ r Wc σ (pre ++ (x, a, .strs (zs ++ [y])) :: post) s) (am : Among pre post x a) {p tpos pos : Pos} {i : Expr}
    (hi : Ev c false env s.heap i (.int (-1))) (hz : zs.length + 1 ≤ sizeLine)
    (q : ∀ s', Run c env e₀ r Wc σ (pre ++ (x, a, .strs zs) :: post) s' → Q .next s') (hdb : (x == ("__debug__" : Str)) = false := by decide) :
    wpAny (model c.prog c.w) c.A (exec (.Delete [.Subscript (.Name x p) i tpos] pos) env) Q E s := by
  refine wpAny_Delete (wpAny_deleteEach_cons (wpAny_delete_Subscript ?_))
  obtain ⟨lk, _, _, _⟩ := X.owns x a _ (List.mem_append_right _ List.mem_cons_self)
  refine wpAny_Name (lk.load X.at_ ?_) hdb
  refine hi.mono X.at_ fun iv s₁ y₁ z₁ => ?_
  obtain ⟨ti, rfl⟩ := z₁
  have X₁ := X.step F y₁
  obtain ⟨_, _, _, hv₁⟩ := X₁.owns x a _ (List.mem_append_right _ List.mem_cons_self)
  obtain ⟨a', ys, ea, hav, hl, hp⟩ := hv₁
  cases ea
  have hlen := hp.length
  rw [List.length_append, List.length_singleton] at hlen
  have hk : (-1 + ((List.toArray ys).size : Int)).toNat = zs.length := by simp only [List.size_toArray]; omega
  refine wpAny_delItem_plain hl (fitsIndex_neg (by decide) (by decide)) (seqIndex_neg (by decide) (by simp only [List.size_toArray]; omega)) (fun h' hn hsb => wpAny_deleteEach_nil (q _ (X₁.turn F am (t := s₁.toks) hsb (let ⟨n, e⟩ := hn; ⟨_, e⟩) ?_ (listNotCell hl)))) (by simp only [List.size_toArray]; omega)
  rw [hk] at hn
  have h1 := hp.take' zs.length
  rw [List.take_left] at h1
  refine ⟨a, ys.take zs.length, rfl, hav, ?_, h1⟩
  have e : ys.eraseIdx zs.length = ys.take zs.length := by
    rw [List.eraseIdx_eq_take_drop_succ, List.drop_eq_nil_of_le (by omega), List.append_nil]
  have e2 : (List.toArray ys).eraseIdxIfInBounds zs.length = (ys.take zs.length).toArray := by
    rw [← e]; simp
  rw [← e2]; exact hn
end
end Mine

namespace Mine

theorem VR.cx {c c' : Cx} (hp : c'.prog = c.prog) (hw : c'.w = c.w) {av : List Addr} {h : Heap} : ∀ {d : D} {v : Value}, VR c av h d v → VR c' av h d v
  | .none, _, x => x
  | .bool _, _, x => x
  | .int _, _, x => x
  | .str _, _, x => x
  | .ints _, _, x => x
  | .strs _, _, x => x
  | .bools _, _, x => x
  | .tstrs _, _, x => x
  | .idict _, _, ⟨a, m, e, n, t, r⟩ => ⟨a, m, e, n, by rw [hp, hw]; exact t, r⟩
  | .pair _ _, _, ⟨a, vx, vy, e, n, t, p, q⟩ => ⟨a, vx, vy, e, n, t, VR.cx hp hw p, VR.cx hp hw q⟩
theorem VR.toPlus {c : Cx} {o g : List Addr} {av : List Addr} {h : Heap} {d : D} {v : Value} (x : VR c av h d v) : VR { c with own := o, chg := g } av h d v := VR.cx (c := c) (c' := { c with own := o, chg := g }) rfl rfl x
theorem VR.ofPlus {c : Cx} {o g : List Addr} {av : List Addr} {h : Heap} {d : D} {v : Value} (x : VR { c with own := o, chg := g } av h d v) : VR c av h d v := VR.cx (c := { c with own := o, chg := g }) (c' := c) rfl rfl x
/-- what stands in the heap avoids what does not -/
theorem VR.apart {c : Cx} {av av' : List Addr} {h : Heap} (hn : ∀ a ∈ av', a ∈ av ∨ h.get? a = none) : ∀ {d : D} {v : Value}, VR c av h d v → VR c av' h d v
  | .none, _, x => x
  | .bool _, _, x => x
  | .int _, _, x => x
  | .str _, _, x => x
  | .ints _, _, ⟨a, vs, e, n, l, r⟩ => ⟨a, vs, e, fun q => (by
      rcases hn a q with z | z
      · exact n z
      · obtain ⟨k, l⟩ := l; rw [z] at l; cases l), l, r⟩
  | .strs _, _, ⟨a, vs, e, n, l, r⟩ => ⟨a, vs, e, fun q => (by
      rcases hn a q with z | z
      · exact n z
      · obtain ⟨k, l⟩ := l; rw [z] at l; cases l), l, r⟩
  | .bools _, _, ⟨a, e, n, l⟩ => ⟨a, e, fun q => (by
      rcases hn a q with z | z
      · exact n z
      · obtain ⟨k, l⟩ := l; rw [z] at l; cases l), l⟩
  | .tstrs _, _, ⟨a, vs, e, n, t, r⟩ => ⟨a, vs, e, fun q => (by
      rcases hn a q with z | z
      · exact n z
      · obtain ⟨o, l, _⟩ := t; rw [z] at l; cases l), t, r⟩
  | .idict _, _, ⟨a, m, e, n, t, r⟩ => ⟨a, m, e, fun q => (by
      rcases hn a q with z | z
      · exact n z
      · obtain ⟨o, es, ep, l, _⟩ := t; rw [z] at l; cases l), t, r⟩
  | .pair _ _, _, ⟨a, vx, vy, e, n, t, p, q⟩ => ⟨a, vx, vy, e, fun q => (by
      rcases hn a q with z | z
      · exact n z
      · obtain ⟨o, l, _⟩ := t; rw [z] at l; cases l), t, VR.apart hn p, VR.apart hn q⟩

section
variable {c : Cx} {b : Bool} {env : Env} {h : Heap} {e₀ r s : Shared} {Wc : List Addr} {σ : Tab} {ow : Owned} {E : Value → Shared → Prop} {Q : Flow → Shared → Prop}

theorem Run.weak {σ' : Tab} (X : Run c env e₀ r Wc σ' ow s) (h : ∀ x d, σ.lookup x = some d → σ'.lookup x = some d) : Run c env e₀ r Wc σ ow s := { X with vars := fun x d e => X.vars x d (h x d e) }
theorem Run.fewer {ow' : Owned} (X : Run c env e₀ r Wc σ ow s) (h : ∀ p ∈ ow', p ∈ ow) : Run c env e₀ r Wc σ ow' s := { X with owns := fun x a d e => X.owns x a d (h _ e) }

theorem Run.newAt (F : Fn c env e₀ Wc) (X : Run c env e₀ r Wc σ ow s) {a : Addr} (ha : s.heap.get? a = none) : e₀.heap.get? a = none := by
  cases e : e₀.heap.get? a with
  | none => rfl
  | some o =>
    by_cases hw : a ∈ Wc
    · obtain ⟨o', ho'⟩ := X.at_.low.there (a := a) (by rw [F.W]; exact List.mem_cons_of_mem _ hw)
      rw [ha] at ho'; cases ho'
    · have := X.since.heap.keep a o e hw
      rw [ha] at this; cases this

/-- other objects are avoided too -/
theorem Run.more (F : Fn c env e₀ Wc) (X : Run c env e₀ r Wc σ ow s) {s' : Shared} (yk : Keeps s s') {own' chg' : List Addr} (ho : ∀ a ∈ own', a ∈ c.own ∨ s.heap.get? a = none) (hin : ∀ a ∈ own', ∃ o, s'.heap.get? a = some o)
    (hsub : ∀ a ∈ c.chg, a ∈ chg') (hchg : ∀ a ∈ chg', a ∈ own') (hnc : ∀ a ∈ chg', a ∈ c.chg ∨ s.heap.get? a = none) :
    Fn { c with own := own', chg := chg' } env e₀ Wc ∧ Run { c with own := own', chg := chg' } env e₀ r Wc σ ow s' := by
  have okc := F.ok
  have y : c.R s s' := F.ok.keeps yk
  have tabs' : ∀ a ∈ c.tabs, a ∈ c.W ∧ ∃ ps, Tbl s'.heap a ps ∧ ∀ pos cv, codeAmong pos ps.toList = some cv → ∃ c', cv = .ref c' ∧ c' ∉ c.W ++ own' ∧ s'.heap.CodeRec cv (nameOf pos) := fun a ha => by
    obtain ⟨hw, ps, e, q⟩ := X.at_.low.tabsAt a ha
    refine ⟨hw, ps, ⟨keeps_get yk _ _ e.1, e.2⟩, fun pos cv z => ?_⟩
    obtain ⟨c', rfl, n, r⟩ := q pos cv z
    refine ⟨c', rfl, fun w => ?_, code_keep r fun o ho => keeps_get yk _ _ ho⟩
    rcases List.mem_append.mp w with w | w
    · exact n (List.mem_append_left _ w)
    · rcases ho c' w with w | w
      · exact n (List.mem_append_right _ w)
      · obtain ⟨o, ho⟩ := code_some r
        rw [w] at ho; cases ho
  have X' := X.step F y
  refine ⟨⟨⟨okc.refl, okc.trans, okc.keeps, okc.grow, okc.bare, okc.room, okc.tabs, okc.units⟩, F.rel, F.W, F.kind, F.notTab, F.newL, fun a ha => ?_, hchg, fun x a e => ⟨hsub _ (F.cells x a e).1, (F.cells x a e).2⟩, F.apart⟩,
    ⟨⟨GrowH.refl _ _, X'.at_.bare, ⟨X'.at_.low.frames, tabs', hin⟩⟩, fun x d e => ?_, fun x a d e => ?_, X'.cellsAt, X'.since, fun b o e n => X'.kept b o e fun q => n ?_⟩⟩
  · rcases hnc a ha with z | z
    · exact F.newOwn a z
    · exact X.newAt F z
  · obtain ⟨v, l, p⟩ := X.vars x d e
    refine ⟨v, l.grow (F.ok.grow y), ?_⟩
    have p' : VR c (c.W ++ own') s.heap d v := p.apart fun a ha => by
      rcases List.mem_append.mp ha with z | z
      · exact .inl (List.mem_append_left _ z)
      · rcases ho a z with z | z
        · exact .inl (List.mem_append_right _ z)
        · exact .inr z
    exact (p'.grow (W := c.W) (fun a ha => List.mem_append_left _ ha) (F.ok.grow y).keep).toPlus
  · obtain ⟨l, p, q, t⟩ := X'.owns x a d e
    exact ⟨l, hsub _ p, q, t.toPlus⟩
  · rcases List.mem_append.mp q with z | z
    · exact List.mem_append_left _ z
    · exact List.mem_append_right _ (hsub _ z)

/-- fewer objects are avoided -/
theorem Run.less {own' chg' : List Addr} (X : Run { c with own := own', chg := chg' } env e₀ r Wc σ ow s) {ow' : Owned} (ho : ∀ a ∈ c.own, a ∈ own') (hr : ∀ a ∈ chg', a ∈ c.chg ∨ r.heap.get? a = none) (how : ∀ p ∈ ow', p ∈ ow ∧ p.2.1 ∈ c.chg) : Run c env e₀ r Wc σ ow' s where
  at_ := ⟨GrowH.refl _ _, X.at_.bare, ⟨X.at_.low.frames, fun a ha => by
    obtain ⟨hw, ps, e, q⟩ := X.at_.low.tabsAt a ha
    refine ⟨hw, ps, e, fun pos cv z => ?_⟩
    obtain ⟨c', e', n, r⟩ := q pos cv z
    refine ⟨c', e', fun w => n ?_, r⟩
    rcases List.mem_append.mp w with w | w
    · exact List.mem_append_left _ w
    · exact List.mem_append_right _ (ho _ w), fun a ha => X.at_.low.owned a (ho a ha)⟩⟩
  vars x d e := by
    obtain ⟨v, l, p⟩ := X.vars x d e
    refine ⟨v, l, (p.mono (av' := c.av true) fun a ha => ?_).ofPlus⟩
    rcases List.mem_append.mp ha with z | z
    · exact List.mem_append_left _ z
    · exact List.mem_append_right _ (ho a z)
  owns x a d e := by
    obtain ⟨l, p, q, t⟩ := X.owns x a d (how _ e).1
    exact ⟨l, (how _ e).2, q, t.ofPlus⟩
  cellsAt := X.cellsAt
  since := X.since
  kept b o e n := X.kept b o e fun q => by
    rcases List.mem_append.mp q with z | z
    · exact n (List.mem_append_left _ z)
    · rcases hr b z with z | z
      · exact n (List.mem_append_right _ z)
      · rw [z] at e; cases e

theorem Run.addOwn {x : Str} (X : Run c env e₀ r Wc σ ow s) {a : Addr} {d : D} (l : Lk c env s.heap x (.ref a)) (ha : a ∈ c.chg) (hw : a ∉ c.W) (hv : VR c (c.av false) s.heap d (.ref a)) : Run c env e₀ r Wc σ ((x, a, d) :: ow) s :=
  { X with
    owns := fun y a' e he => by
      rcases List.mem_cons.mp he with he | he
      · cases he; exact ⟨l, ha, hw, hv⟩
      · exact X.owns y a' e he }
end
end Mine

namespace Mine
theorem paired_append {α β : Type} {F : α → β → Prop} : ∀ {l₁ : List α} {l₂ : List β} {m₁ : List α} {m₂ : List β}, Paired F l₁ l₂ → Paired F m₁ m₂ → Paired F (l₁ ++ m₁) (l₂ ++ m₂)
  | _, _, _, _, .nil, y => y
  | _, _, _, _, .cons f r, y => .cons f (paired_append r y)
section
variable {c : Cx} {b : Bool} {env : Env} {h : Heap} {e₀ r s : Shared} {Wc : List Addr} {σ : Tab} {ow : Owned} {E : Value → Shared → Prop} {Q : Flow → Shared → Prop}

/-- displays -/
theorem Ev.nil (k : c.Ok) {τ : Type} (K : Kd τ) {pos : Pos} : Ev c b env h (.List [] pos) (K.lst []) := fun s Q E a q =>
  List_ (wpAny_items_nil (wpAny_newList (q _ _ (R_push k s _ s.toks) (K.put _ _ _ _ [] [] (a.fresh b _ (Nat.le_refl _)) (Ls.new _ _) .nil))))
theorem Ev.sing (k : c.Ok) {τ : Type} (K : Kd τ) {x : τ} {e : Expr} {pos : Pos} (h1 : Ev c false env h e (K.enc x)) (he : starEach [e] env = [(false, eval e env)] := by rfl) : Ev c b env h (.List [e] pos) (K.lst [x]) := fun s Q E a q =>
  List_ (wpAny_items_cons (h1.mono a fun v s₁ r₁ x₁ => wpAny_items_nil (wpAny_newList (q _ _ (k.trans r₁ (R_push k s₁ _ s₁.toks)) (K.put _ _ _ _ [v] [x] ((a.next k r₁).fresh b _ (Nat.le_refl _)) (Ls.new _ _) (.cons (K.at_ _ _ _ _ _ x₁) .nil))))) he)
theorem Ev.pair (k : c.Ok) {d₁ d₂ : D} {e₁ e₂ : Expr} {n : Nat} {pos : Pos} (h1 : Ev c b env h e₁ d₁) (h2 : Ev c b env h e₂ d₂) (he : starEach [e₁, e₂] env = [(false, eval e₁ env), (false, eval e₂ env)] := by rfl) (he' : starEach [e₂] env = [(false, eval e₂ env)] := by rfl) :
    Ev c b env h (.Tuple [e₁, e₂] n pos) (.pair d₁ d₂) := fun s Q E a q =>
  Tuple_ (wpAny_items_cons (h1.mono a fun v s₁ r₁ x₁ => wpAny_items_cons (h2.mono (a.next k r₁) fun w s₂ r₂ x₂ => wpAny_items_nil (wpAny_newTuple (by
    have r₃ := R_push k s₂ { cls := .type "tuple", data := .seq [v, w].toArray } s₂.toks
    have a₂ := (a.next k r₁).next k r₂
    exact q _ _ (k.trans (k.trans r₁ r₂) r₃) ⟨_, v, w, rfl, a₂.fresh b _ (Nat.le_refl _), ⟨_, Heap.get?_push_size _ rfl, rfl, 0, rfl⟩, (x₁.step k r₂).step k r₃, x₂.step k r₃⟩))) he') (by rw [he, he']))
theorem Ev.addLists (k : c.Ok) {τ : Type} (K : Kd τ) {l r : Expr} {pos : Pos} {xs ys : List τ} (hz : xs.length + ys.length ≤ sizeLine) (h1 : Ev c false env h l (K.lst xs)) (h2 : Ev c false env h r (K.lst ys)) : Ev c b env h (.BinOp l .Add r pos) (K.lst (xs ++ ys)) :=
  fun s Q E a q => wpAny_BinOp (h1.mono a fun v₁ s₁ r₁ x₁ => h2.mono (a.next k r₁) fun v₂ s₂ r₂ x₂ => by
    have a₂ := (a.next k r₁).next k r₂
    obtain ⟨p₁, us, rfl, _, ⟨n₁, hl₁⟩, hp₁⟩ := K.un _ _ _ _ _ (x₁.step k r₂)
    obtain ⟨p₂, vs, rfl, _, ⟨n₂, hl₂⟩, hp₂⟩ := K.un _ _ _ _ _ x₂
    refine PySem.P.add_list hl₁ hl₂ (q _ _ (k.trans (k.trans r₁ r₂) (R_push k s₂ _ s₂.toks)) (K.put _ _ _ _ (us ++ vs) _ (a₂.fresh b _ (Nat.le_refl _)) ?_ (paired_append hp₁ hp₂))) ?_
    · have e : us.toArray ++ vs.toArray = (us ++ vs).toArray := by simp
      rw [e]; exact Ls.new _ _
    · have e1 := hp₁.length
      have e2 := hp₂.length
      simp only [List.size_toArray]; omega)

/-- a display that hands back a list of its own -/
def NewL (c : Cx) (env : Env) (h : Heap) (e : Expr) (d : D) : Prop :=
  ∀ (s : Shared) (Q : Value → Shared → Prop) (E : Value → Shared → Prop), At c h s → (∀ a mid s', c.R s mid → Keeps mid s' → mid.heap.get? a = none → (∃ o, s'.heap.get? a = some o) → VR c (c.av true) s'.heap d (.ref a) → Q (.ref a) s') → wpAny (model c.prog c.w) c.A (eval e env) Q E s
theorem NewL.nil (k : c.Ok) {τ : Type} (K : Kd τ) {pos : Pos} : NewL c env h (.List [] pos) (K.lst []) := fun s Q E a q =>
  List_ (wpAny_items_nil (wpAny_newList (q _ s _ (k.refl s) ⟨_, s.toks, rfl, fun b o e => Heap.get?_push_of_some _ e⟩ (Heap.get?_none_of_le (Nat.le_refl _)) ⟨_, Heap.get?_push_size _ rfl⟩ (K.put _ _ _ _ [] [] (a.fresh true _ (Nat.le_refl _)) (Ls.new _ _) .nil))))
theorem NewL.sing (k : c.Ok) {τ : Type} (K : Kd τ) {x : τ} {e : Expr} {pos : Pos} (h1 : Ev c false env h e (K.enc x)) (he : starEach [e] env = [(false, eval e env)] := by rfl) : NewL c env h (.List [e] pos) (K.lst [x]) := fun s Q E a q =>
  List_ (wpAny_items_cons (h1.mono a fun v s₁ r₁ x₁ => wpAny_items_nil (wpAny_newList (q _ s₁ _ r₁ ⟨_, s₁.toks, rfl, fun b o e => Heap.get?_push_of_some _ e⟩ (Heap.get?_none_of_le (Nat.le_refl _)) ⟨_, Heap.get?_push_size _ rfl⟩
    (K.put _ _ _ _ [v] [x] ((a.next k r₁).fresh true _ (Nat.le_refl _)) (Ls.new _ _) (.cons (K.at_ _ _ _ _ _ x₁) .nil))))) he)

def Cx.plus (c : Cx) (a : Addr) : Cx := { c with own := a :: c.own, chg := a :: c.chg }
theorem VR.sub {c : Cx} {av av' : List Addr} {h : Heap} {d : D} {v : Value} (x : VR c av h d v) (hs : ∀ a ∈ av', a ∈ av) : VR c av' h d v := x.mono hs

theorem Run.chgAt (F : Fn c env e₀ Wc) (X : Run c env e₀ r Wc σ ow s) {a : Addr} (ha : s.heap.get? a = none) : a ∉ c.own ∧ a ∉ c.W ∧ r.heap.get? a = none := by
  have h1 : a ∉ c.own := fun q => by obtain ⟨o, e⟩ := X.at_.low.owned a q; rw [ha] at e; cases e
  have h2 : a ∉ c.W := fun q => by obtain ⟨o, e⟩ := X.at_.low.there q; rw [ha] at e; cases e
  refine ⟨h1, h2, ?_⟩
  cases e : r.heap.get? a with
  | none => rfl
  | some o =>
    have := X.kept a o e fun q => by
      rcases List.mem_append.mp q with z | z
      · exact h2 z
      · exact h1 (F.sub a z)
    rw [ha] at this; cases this

/-- a fresh list becomes one of ours -/
theorem Run.plus (F : Fn c env e₀ Wc) (X : Run c env e₀ r Wc σ ow s) {a : Addr} {s' : Shared} (y : Keeps s s') (ha : s.heap.get? a = none) (hin : ∃ o, s'.heap.get? a = some o) : Fn (c.plus a) env e₀ Wc ∧ Run (c.plus a) env e₀ r Wc σ ow s' := by
  refine X.more F y (own' := a :: c.own) (chg' := a :: c.chg) ?_ ?_ ?_ ?_ ?_
  · intro z hz
    rcases List.mem_cons.mp hz with rfl | hz
    · exact .inr ha
    · exact .inl hz
  · intro z hz
    rcases List.mem_cons.mp hz with rfl | hz
    · exact hin
    · obtain ⟨o, e⟩ := X.at_.low.owned z hz; exact ⟨o, keeps_get y _ _ e⟩
  · intro z hz; exact List.mem_cons_of_mem _ hz
  · intro z hz
    rcases List.mem_cons.mp hz with rfl | hz
    · exact List.mem_cons_self
    · exact List.mem_cons_of_mem _ (F.sub z hz)
  · intro z hz
    rcases List.mem_cons.mp hz with rfl | hz
    · exact .inr ha
    · exact .inl hz

/-- x = [..], a list that will be changed -/
theorem ex_own (F : Fn c env e₀ Wc) (X : Run c env e₀ r Wc σ ow s) {x : Str} {p pos : Pos} {e : Expr} {d : D} (hx : Stores env x) (he : NewL c env s.heap e d) (hno : ∀ p ∈ ow, p.1 ≠ x)
    (q : ∀ a s', Fn (c.plus a) env e₀ Wc → a ∉ c.own → a ∉ c.W → r.heap.get? a = none → Run (c.plus a) env e₀ r Wc (delV x σ) ((x, a, d) :: ow) s' → Q .next s') (hs : swapsWith e (some (.Name x p)) pos.line env = pure false := by rfl) : wpAny (model c.prog c.w) c.A (exec (.Assign [.Name x p] e pos) env) Q E s := by
  refine wpAny_Assign_Name (he s _ _ X.at_ fun a mid s' ym y ha hin hv => ?_) hs
  have X := X.step F ym
  obtain ⟨h1, h2, h3⟩ := X.chgAt F ha
  obtain ⟨F', X'⟩ := X.plus F y ha hin
  refine X'.put F' hx hno fun s'' X'' l hk _ => q a s'' F' h1 h2 h3 (X''.addOwn l List.mem_cons_self h2 (hk false _ _ ?_))
  exact ((VR.sub (av' := c.W) hv fun z hz => List.mem_append_left _ hz)).toPlus

/-- the heap turns at objects that nothing of ours stands on -/
theorem Run.pass {O own' wr : List Addr} (F : Fn c env e₀ Wc) (Y : Run { c with own := O } env e₀ r Wc σ ow s) (hwr : ∀ a ∈ wr, a ∉ c.W ∧ a ∉ c.chg ∧ r.heap.get? a = none ∧ e₀.heap.get? a = none) (hO : ∀ a ∈ wr, a ∈ O)
    (hls : ∀ y a d, (y, a, d) ∈ ow → ∃ (τ : Type) (K : Kd τ) (zs : List τ), d = K.lst zs) {h₁ : Heap} {t₁ : Nat} (live : ∀ b ∈ own', b ∈ wr → ∃ o, h₁.get? b = some o) (hso : ∀ b ∈ own', b ∈ O)
    (hk : ∀ b o, b ∉ wr → s.heap.get? b = some o → h₁.get? b = some o) : Run { c with own := own' } env e₀ r Wc σ ow { s with heap := h₁, toks := t₁ } := by
  have nsN : ∀ b m, b ∈ c.W → s.heap.Ns b m → h₁.Ns b m := fun b m hb e => e.at' fun o ho => hk b o (fun q => (hwr b q).1 hb) ho
  have subT : ∀ b ∈ wr, b ∈ c.W ++ O := fun b hb => List.mem_append_right _ (hO b hb)
  have lkN : ∀ y w, Lk { c with own := O } env s.heap y w → Lk { c with own := own' } env h₁ y w := by
    rintro y w ⟨hk', ⟨hl, m', hn', hm'⟩ | ⟨hl, ca, hc, hw, o, ho, hd⟩⟩
    · exact ⟨hk', .inl ⟨hl, m', nsN _ _ (by rw [F.W]; exact List.mem_cons_self) hn', hm'⟩⟩
    · exact ⟨hk', .inr ⟨hl, ca, hc, hw, o, hk _ _ (fun q => (hwr ca q).2.1 (F.cells y ca hc).1) ho, hd⟩⟩
  exact {
    at_ := ⟨GrowH.refl _ _, Y.at_.bare, ⟨fun b hb ht => let ⟨m, e⟩ := Y.at_.low.frames b hb ht; ⟨m, nsN b m hb e⟩, fun b hb => by
      obtain ⟨hw, ps, e, q⟩ := Y.at_.low.tabsAt b hb
      refine ⟨hw, ps, ⟨hk b _ (fun q => (hwr b q).1 hw) e.1, e.2⟩, fun pos cv z => ?_⟩
      obtain ⟨c', rfl, n, r⟩ := q pos cv z
      refine ⟨c', rfl, fun w => n ?_, code_keep r fun o ho => hk c' o (fun w => n (List.mem_append_right _ (hO c' w))) ho⟩
      rcases List.mem_append.mp w with w | w
      · exact List.mem_append_left _ w
      · exact List.mem_append_right _ (hso _ w), fun b hb => by
      by_cases z : b ∈ wr
      · exact live b hb z
      · obtain ⟨o, ho⟩ := Y.at_.low.owned b (hso b hb)
        exact ⟨o, hk b o z ho⟩⟩⟩
    vars := fun y d e => by
      obtain ⟨v, l, p⟩ := Y.vars y d e
      exact ⟨v, lkN y v l, (VR.sub (av' := c.W ++ own') (VR.ofPlus (p.grow subT fun b o ho n => hk b o n ho)) fun z hz => by
        rcases List.mem_append.mp hz with z | z
        · exact List.mem_append_left _ z
        · exact List.mem_append_right _ (hso _ z)).toPlus⟩
    owns := fun y a d e => by
      obtain ⟨l, p, q, t⟩ := Y.owns y a d e
      refine ⟨lkN y _ l, p, q, ?_⟩
      obtain ⟨τ, K', zs, rfl⟩ := hls y a d e
      obtain ⟨a', ys, ea, n, ⟨k', hl'⟩, hp⟩ := K'.un _ _ _ _ _ t
      cases ea
      exact K'.put _ _ _ _ _ _ n ⟨k', hk _ _ (fun q => (hwr a q).2.1 p) hl'⟩ hp
    cellsAt := fun y a e => by
      obtain ⟨v, o, ho, hd⟩ := Y.cellsAt y a e
      exact ⟨v, o, hk _ _ (fun q => (hwr a q).2.1 (F.cells y a e).1) ho, hd⟩
    since := since_turn (c := { c with own := O }) F.subW Y.at_.low Y.since (ch := wr) (fun a ha => List.mem_append_right _ (hO a ha)) (fun a ha => (hwr a ha).2.2.2) hk
    kept := fun b o e n => hk b o (fun q => by rw [(hwr b q).2.2.1] at e; cases e) (Y.kept b o e n) }

/-- a for over a source -/
theorem ex_for (F : Fn c env e₀ Wc) {τ : Type} {K : Kd τ} {xs : List τ} (σs : Nat → Tab) (ows : Nat → Owned) (X : Run c env e₀ r Wc (σs 0) (ows 0) s) {x : Str} {p pos : Pos} {iter : Expr} {body : List Stmt} (hx : Stores env x) (hno : ∀ i, ∀ p ∈ ows i, p.1 ≠ x) (hls : ∀ i y a d, (y, a, d) ∈ ows i → ∃ (τ : Type) (K : Kd τ) (zs : List τ), d = K.lst zs)
    (src : Src c env s.heap iter K xs)
    (step : ∀ (own' : List Addr) i y s' (E' : Value → Shared → Prop), Fn { c with own := own' } env e₀ Wc → xs[i]? = some y → Run { c with own := own' } env e₀ s' Wc (setV x (K.enc y) (σs i)) (ows i) s' →
      wpAny (model c.prog c.w) c.A (execs body env) (fun f s₂ => f = .next ∧ Run { c with own := own' } env e₀ s' Wc (σs (i + 1)) (ows (i + 1)) s₂) E' s')
    (q : ∀ s', Run c env e₀ r Wc (σs xs.length) (ows xs.length) s' → Q .next s')
    (hs : ∀ x, foldedSetIterable iter env x = pure x := by intro _; rfl) (hg : ∀ it v, letOwnedTupleGo (.Name x p) it v = pure () := by intro _ _; rfl) :
    wpAny (model c.prog c.w) c.A (exec (.For (.Name x p) iter body [] pos) env) Q E s := by
  refine wpAny_For (src s _ _ X.at_ fun mid I fp wr P St s₂ S hfp => ?_) hs
  have live := S.alive 0 _ S.st
  have X := X.step F S.from_
  have subO : ∀ a ∈ c.own, a ∈ wr ++ c.own := fun a h => List.mem_append_right _ h
  obtain ⟨F', X'⟩ := X.more F (own' := wr ++ c.own) (chg' := c.chg) S.up (fun a ha => by
      rcases List.mem_append.mp ha with z | z
      · exact .inr (S.newMid a z)
      · exact .inl z) (fun a ha => by
      rcases List.mem_append.mp ha with z | z
      · exact live a z
      · obtain ⟨o, e⟩ := X.at_.low.owned a z; exact ⟨o, keeps_get S.up _ _ e⟩) (fun a h => h) (fun a h => subO a (F.sub a h)) (fun a h => .inl h)
  have rw_ : ∀ a ∈ wr, a ∉ c.W ∧ a ∉ c.chg ∧ r.heap.get? a = none ∧ e₀.heap.get? a = none := fun a ha => by
    obtain ⟨h1, h2, h3⟩ := X.chgAt F (S.newMid a ha)
    exact ⟨h2, fun q => h1 (F.sub a q), h3, X.newAt F (S.newMid a ha)⟩
  have nown : ∀ a ∈ wr, a ∉ c.own := fun a ha => (X.chgAt F (S.newMid a ha)).1
  refine codeAny_forLoop_any (fun n s' => ∃ i, i ≤ xs.length ∧ n = xs.length + 1 - i ∧ St i s'.heap ∧ Run { c with own := wr ++ c.own, chg := c.chg } env e₀ r Wc (σs i) (ows i) s') ?_ (xs.length + 1) ⟨0, Nat.zero_le _, rfl, S.st, X'⟩
  rintro n s₃ ⟨i, hi, rfl, st, Y⟩
  have back : ∀ {s₄ : Shared}, Run { c with own := wr ++ c.own, chg := c.chg } env e₀ r Wc (σs i) (ows i) s₄ → Run c env e₀ r Wc (σs i) (ows i) s₄ := fun Z =>
    Z.less (own' := wr ++ c.own) (chg' := c.chg) subO (fun a h => .inl h) fun p hp => ⟨hp, (Z.owns p.1 p.2.1 p.2.2 hp).2.1⟩
  by_cases hlt : i < xs.length
  · refine S.walks.item i s₃ _ _ hlt st fun v h₁ t₁ hP st₁ hk₁ => ?_
    obtain ⟨y, hy, hv⟩ := S.item i v hlt hP
    refine wpAny_of_eq (hg (.ref I) v) ?_
    have Y₀ := Run.pass F Y rw_ (fun a ha => List.mem_append_left _ ha) (hls i) (own' := wr ++ c.own) (h₁ := h₁) (t₁ := t₁) (fun b _ hb => S.alive _ _ st₁ b hb) (fun b hb => hb) hk₁
    have Y₁ := Y₀.mark
    refine wpAny_assign_Name (Y₁.put F' hx (hno i) fun s₄ Y₄ l hk _ => ?_)
    have Y₅ := Y₄.add l (hk true (K.enc y) v hv.vr)
    refine wpAny_mono (step (wr ++ c.own) i y s₄ _ F' hy Y₅.mark) (fun f s₅ hf => ?_) fun _ _ e => e
    obtain ⟨rfl, Z⟩ := hf
    refine ⟨xs.length + 1 - (i + 1), by omega, i + 1, hlt, rfl, S.walks.frame _ _ _ st₁ fun b hb o e => ?_, ?_⟩
    · have nb : b ∉ c.W ++ c.chg := fun q => hfp b hb (by
        rcases List.mem_append.mp q with z | z
        · exact List.mem_append_left _ z
        · exact List.mem_append_right _ (F.sub b z))
      exact Z.kept b o (Y₄.kept b o e nb) nb
    · exact { Z with kept := fun b o e n => Z.kept b o (Y₄.kept b o (Y₀.kept b o e n) n) n }
  · have hin : i = xs.length := by omega
    subst hin
    refine S.walks.done s₃ _ _ st fun h₁ t₁ hk₁ => wpAny_execs_nil (q _ ?_)
    have Z := Run.pass F Y rw_ (fun a ha => List.mem_append_left _ ha) (hls xs.length) (own' := c.own) (h₁ := h₁) (t₁ := t₁) (fun b hb hw => absurd hb (nown b hw)) subO hk₁
    exact Z
end
end Mine

namespace Mine
section
variable {c : Cx} {b : Bool} {env : Env} {h : Heap} {e₀ r s : Shared} {Wc : List Addr} {σ : Tab} {ow : Owned} {E : Value → Shared → Prop} {Q : Flow → Shared → Prop}

/-- x = [.. for ..], stored from within -/
theorem ex_assignComp (F : Fn c env e₀ Wc) (X : Run c env e₀ r Wc σ ow s) {y : Str} {py spos : Pos} {elt iter : Expr} {x : Str} {px pos : Pos} {ifs : List Expr} {scope : Scope} {cl : List (Str × Addr)} {τ σ' : Type} (K : Kd τ) (K' : Kd σ') {xs : List τ} (p : τ → Bool) (g : τ → σ') (ok : CompOk env scope x cl)
    (hy : env.kindOf y = some .local) (hno : ∀ p ∈ ow, p.1 ≠ y)
    (src : Src c env s.heap iter K xs) (hz : xs.length ≤ sizeLine)
    (ht : ∀ C h' v y, y ∈ xs → Atm (K.enc y) v → Turn c s.heap x C v h' → Tests c.in (compEnvC scope cl C env) h' ifs (p y))
    (he : ∀ C h' v y, y ∈ xs → Atm (K.enc y) v → p y = true → Turn c s.heap x C v h' → Ev c.in false (compEnvC scope cl C env) h' elt (K'.enc (g y)))
    (q : ∀ s', Run c env e₀ r Wc (setV y (K'.lst ((xs.filter p).map g)) σ) ow s' → Q .next s')
    (hsw : swapsWith (.ListComp elt [⟨.Name x px, iter, ifs, 0⟩] scope pos) (some (.Name y py)) spos.line env = pure true := by rfl)
    (hs : ∀ x, foldedSetIterable iter env x = pure x := by intro _; rfl) :
    wpAny (model c.prog c.w) c.A (exec (.Assign [.Name y py] (.ListComp elt [⟨.Name x px, iter, ifs, 0⟩] scope pos) spos) env) Q E s := by
  have k := F.ok
  have a := X.at_
  refine wpAny_Assign_ListComp_free (fun v => p (K.dec v)) (fun v y => Atm (K'.enc (g (K.dec v))) y) hsw ok.clos ok.cell ok.kind ok.names ok.x hy (by rw [F.kind]; rfl) ?_ hs
  refine src s _ E a fun mid I fp wr P St s₂ S hfp => ?_
  have X₁ := X.step F S.from_
  have hLW : env.locals ∈ c.W := by rw [F.W]; exact List.mem_cons_self
  obtain ⟨m, hm⟩ := X₁.at_.low.frames env.locals hLW F.notTab
  have nw : ∀ b ∈ wr, b ∉ c.W := fun b hb => (X₁.chgAt F (S.newMid b hb)).2.1
  have hm₂ := hm.keeps fun b o e => keeps_get S.up b o e
  refine ⟨I, fp, wr, xs.length, _, St, m, rfl, Walks.bound S.walks, hz, S.st, S.fp, fun q => nw _ q hLW, hm₂, quiet k ht he a S, ?_⟩
  intro D' h' tk ys vs hD hl hpl hlen hP hF hn hk
  obtain ⟨n, hpl⟩ := hpl
  have hD' : s.heap.get? D' = none := none_before k a (S.step k) hD
  obtain ⟨h1, t1, e1, k1⟩ := id S.up
  subst e1
  obtain ⟨X', l⟩ := X₁.stored F (h' := h') (t := tk) (x := y) (v := .ref D') hy hno
    (fun b o hne e => hk b o hne (fun q => by rw [S.newMid b q] at e; cases e) (k1 b o e))
    (fun m' hm' => by rw [ns_unique hm' hm]; exact hn)
  refine q _ (X'.add l (K'.put _ _ _ _ ys.toList _ (a.fresh' true hD') ⟨n, by simpa using hpl⟩ (paired_out (K := K) (paired_of_places xs vs hlen fun i v hv => ?_) hF)))
  have := hP i v hv
  exact S.item i v this.1 this.2
end
end Mine

namespace Mine
section
variable {prog : Program} {w : World} {A : Around} {E : Value → Shared → Prop} {s : Shared}

theorem nextOf_ascii {it : Addr} {x : Str} {t : Tok} {i ch : Nat} {Q : Value → Shared → Prop} (hit : s.heap.IsStrIter it "str_ascii_iterator" x t i) (hx : x.cps[i]? = some ch)
    (hQ : ∀ h', h'.IsStrIter it "str_ascii_iterator" x t (i + 1) → Heap.SameBut it s.heap h' → Q (.str ⟨#[ch]⟩ s.toks) { s with heap := h', toks := s.toks + 1 }) :
    wpAny (model prog w) A (Builtin.SmallTypes.nextOf (.ref it)) Q E s := by
  obtain ⟨o, ho, hc, hd⟩ := id hit
  unfold Builtin.SmallTypes.nextOf
  refine wpAny_bind (wpAny_callSpecial?_slot (name := Str.ofString "__next__") hit.typeIs F.slot_str_ascii_iterator_next
    (wpAny_call_entry F.slot_str_ascii_iterator_next hit.typeIs F.entry_str_ascii_iterator_next ?_ (F.args_str_ascii_iterator_next_1 _)))
  show wpAny _ _ (field (.ref it) 0 >>= _) _ _ s
  refine wpAny_bind (wpAny_field ho hd (x := .str x t) rfl ?_)
  show wpAny _ _ (field (.ref it) 1 >>= _) _ _ s
  refine wpAny_bind (wpAny_field ho hd (x := .int i 0) rfl ?_)
  simp only [Int.toNat_natCast, hx]
  refine wpAny_bind (wpAny_setField ho hd (by simp) (wpAny_bind (wpAny_mkStr (wpAny_pure ⟨_, rfl, wpAny_pure (hQ _ ?_ (Heap.SameBut.update ..))⟩) (by show 1 ≤ sizeLine; decide))))
  exact ⟨_, Heap.get?_update_self _ ho (Obj.isFreed_of_fields (Obj.data_mapFields hd _)), (Obj.cls_mapFields ..).trans hc, by
    rw [Obj.data_mapFields hd]; simp [rawInt]⟩

theorem nextOf_ascii_end {it : Addr} {x : Str} {t : Tok} {i : Nat} {Q : Value → Shared → Prop} (hh : A.handled = none)
    (hit : s.heap.IsStrIter it "str_ascii_iterator" x t i) (hx : x.cps[i]? = none)
    (hE : ∀ h' e, Heap.ExtBut it s.heap h' → (∃ o, h'.get? e = some o ∧ o.cls = .type "StopIteration") → E (.ref e) { s with heap := h' }) :
    wpAny (model prog w) A (Builtin.SmallTypes.nextOf (.ref it)) Q E s := by
  obtain ⟨o, ho, hc, hd⟩ := id hit
  unfold Builtin.SmallTypes.nextOf
  refine wpAny_bind (wpAny_callSpecial?_slot (name := Str.ofString "__next__") hit.typeIs F.slot_str_ascii_iterator_next
    (wpAny_call_entry F.slot_str_ascii_iterator_next hit.typeIs F.entry_str_ascii_iterator_next ?_ (F.args_str_ascii_iterator_next_1 _)))
  show wpAny _ _ (field (.ref it) 0 >>= _) _ _ s
  refine wpAny_bind (wpAny_field ho hd (x := .str x t) rfl ?_)
  show wpAny _ _ (field (.ref it) 1 >>= _) _ _ s
  refine wpAny_bind (wpAny_field ho hd (x := .int i 0) rfl ?_)
  simp only [Int.toNat_natCast, hx]
  refine wpAny_bind (wpAny_rule (wpAny_bind (wpAny_setField ho hd (by simp) (wpAny_bind (wpAny_letGo ?_)))))
  show wpAny _ _ (newExc (.type "StopIteration") [] >>= _) _ _ _
  refine wpAny_bind ?_
  simp only [newExc, newTuple]
  refine wpAny_bind (wpAny_newObj_type ?_ (by size_fits))
  refine wpAny_bind (m := firstArgMember _ _) (wpAny_of_eq (a := Value.none) (by first | rfl | (simp only [firstArgMember]; rfl)) ?_)
  refine wpAny_newObj_type ?_ (by size_fits)
  simp only [raiseNew]
  refine wpAny_bind (wpAny_handled ?_)
  first | rw [show A.in1.handled = none from hh] | rw [hh]
  refine wpAny_bind (wpAny_pure (wpAny_throw ?_))
  exact hE _ _ (((Heap.SameBut.update ..).extBut.push _).push _) ⟨_, Heap.get?_push_size _ rfl, rfl⟩

/-- the next pair of place and letter -/
theorem enumText {e it : Addr} {x : Str} {t : Tok} {i ch : Nat} {old : Value} {Q : Option Value → Shared → Prop}
    (he : IsEnum s.heap e it i old) (hit : s.heap.IsStrIter it "str_ascii_iterator" x t i) (hx : x.cps[i]? = some ch) (hne : e ≠ it)
    (hQ : ∀ h' T t₁ t₂ tk, IsEnumOut h' e it ((i : Int) + 1) (.str ⟨#[ch]⟩ t₂) T → h'.IsStrIter it "str_ascii_iterator" x t (i + 1) →
      h'.get? T = some { cls := .type "tuple", data := .seq #[.int i t₁, .str ⟨#[ch]⟩ t₂] } → s.heap.get? T = none → T ≠ e → T ≠ it →
      (∀ b o, b ≠ e → b ≠ it → s.heap.get? b = some o → h'.get? b = some o) → Q (some (.ref T)) { s with heap := h', toks := tk }) :
    wpAny (model prog w) A (pyNext (.ref e)) Q E s := by
  have hT : s.TypeIs (.ref e) "enumerate" := ⟨_, he, rfl⟩
  unfold pyNext
  refine wpAny_bind (wpAny_attempt (wpAny_callSpecial?_slot (name := Str.ofString "__next__") hT F.slot_enumerate_next
    (wpAny_call_entry F.slot_enumerate_next hT F.entry_enumerate_next ?_ (F.args_enumerate_next_1 _))))
  have hlt : e < s.heap.objs.size := Heap.lt_size he
  have hli : it < s.heap.objs.size := let ⟨_, y, _⟩ := hit; Heap.lt_size y
  show wpAny _ _ (field (.ref e) 2 >>= _) _ _ _
  refine wpAny_bind (wpAny_field he rfl (x := .ref it) rfl ?_)
  refine wpAny_bind (nextOf_ascii hit hx fun h₁ hit₁ hs₁ => ?_)
  have he₁ : IsEnum h₁ e it i old := (hs₁.2 e hne).trans he
  show wpAny _ _ (field (.ref e) 3 >>= _) _ _ _
  refine wpAny_bind (wpAny_field (s := { s with heap := h₁, toks := s.toks + 1 }) he₁ rfl (x := rawInt i) rfl ?_)
  show wpAny _ _ (field (.ref e) 4 >>= _) _ _ _
  refine wpAny_bind (wpAny_field (s := { s with heap := h₁, toks := s.toks + 1 }) he₁ rfl (x := .none) rfl ?_)
  show wpAny _ _ (mkInt i >>= _) _ _ _
  refine wpAny_bind (wpAny_mkInt ?_)
  show wpAny _ _ (setField (.ref e) 3 (rawInt ((i : Int) + 1)) >>= _) _ _ _
  refine wpAny_bind (wpAny_setField_rec (s := { s with heap := h₁, toks := s.toks + 1 + 1 }) he₁ (by simp) fun h₂ he₂ hs₂ => ?_)
  replace he₂ : IsEnum h₂ e it ((i : Int) + 1) old := he₂
  replace hs₂ : Heap.SameBut e h₁ h₂ := hs₂
  show wpAny _ _ (setField (.ref e) 4 .none >>= _) _ _ _
  refine wpAny_bind (wpAny_setField_rec (s := { s with heap := h₂, toks := s.toks + 1 + 1 }) he₂ (by simp) fun h₃ he₃ hs₃ => ?_)
  replace he₃ : IsEnum h₃ e it ((i : Int) + 1) old := he₃
  replace hs₃ : Heap.SameBut e h₂ h₃ := hs₃
  show wpAny _ _ (newTuple [.int i (s.toks + 1), .str ⟨#[ch]⟩ s.toks] >>= _) _ _ _
  refine wpAny_bind (wpAny_newTuple ?_)
  have hsz : h₃.objs.size = s.heap.objs.size := by rw [hs₃.1, hs₂.1, hs₁.1]
  show wpAny _ _ _ _ _ { s with heap := h₃.push { cls := .type "tuple", data := .seq #[.int i (s.toks + 1), .str ⟨#[ch]⟩ s.toks] }, toks := s.toks + 1 + 1 }
  have he₄ : IsEnum (h₃.push { cls := .type "tuple", data := .seq #[.int i (s.toks + 1), .str ⟨#[ch]⟩ s.toks] }) e it ((i : Int) + 1) old := Heap.get?_push_of_some _ he₃
  have hT₄ : (h₃.push { cls := .type "tuple", data := .seq #[.int i (s.toks + 1), .str ⟨#[ch]⟩ s.toks] }).get? s.heap.objs.size = some { cls := .type "tuple", data := .seq #[.int i (s.toks + 1), .str ⟨#[ch]⟩ s.toks] } := by rw [← hsz]; exact Heap.get?_push_size _ rfl
  have hk₄ : ∀ b o, b ≠ e → b ≠ it → s.heap.get? b = some o → (h₃.push { cls := .type "tuple", data := .seq #[.int i (s.toks + 1), .str ⟨#[ch]⟩ s.toks] }).get? b = some o := fun b o hbe hbi hb =>
    Heap.get?_push_of_some _ (hs₃.extBut b o hbe (hs₂.extBut b o hbe (hs₁.extBut b o hbi hb)))
  have hit₄ : (h₃.push { cls := .type "tuple", data := .seq #[.int i (s.toks + 1), .str ⟨#[ch]⟩ s.toks] }).IsStrIter it "str_ascii_iterator" x t (i + 1) := by
    obtain ⟨o, ho, r⟩ := (hit₁.extBut hs₂.extBut (Ne.symm hne)).extBut hs₃.extBut (Ne.symm hne); exact ⟨o, Heap.get?_push_of_some _ ho, r⟩
  generalize (h₃.push { cls := .type "tuple", data := .seq #[.int i (s.toks + 1), .str ⟨#[ch]⟩ s.toks] }) = h₄ at he₄ hT₄ hk₄ hit₄ ⊢
  show wpAny _ _ (Builtin.SmallTypes.ownedTupleIsFree (.ref e) >>= _) _ _ _
  rw [hsz]
  clear hsz he₃ hs₃ he₂ hs₂ he₁ hs₁ hit₁ h₃ h₂ h₁
  refine wpAny_bind ?_
  unfold Builtin.SmallTypes.ownedTupleIsFree
  refine wpAny_bind (wpAny_field (s := { s with heap := h₄, toks := s.toks + 1 + 1 }) he₄ rfl (x := .none) rfl (wpAny_pure ?_))
  simp only [if_true]
  refine wpAny_bind (wpAny_rule ?_)
  refine wpAny_bind (wpAny_field (s := { s with heap := h₄, toks := s.toks + 1 + 1 }) he₄ rfl (x := old) rfl ?_)
  refine wpAny_bind (wpAny_setField_rec (s := { s with heap := h₄, toks := s.toks + 1 + 1 }) he₄ (by simp) fun h₅ he₅ hs₅ => ?_)
  replace he₅ : IsEnum h₅ e it ((i : Int) + 1) (.str ⟨#[ch]⟩ s.toks) := he₅
  replace hs₅ : Heap.SameBut e h₄ h₅ := hs₅
  show wpAny _ _ (Builtin.SmallTypes.ownedTupleHandOut (.ref e) (.ref s.heap.objs.size) >>= _) _ _ _
  refine wpAny_bind ?_
  unfold Builtin.SmallTypes.ownedTupleHandOut
  refine wpAny_bind (wpAny_setField_rec (s := { s with heap := h₅, toks := s.toks + 1 + 1 }) he₅ (by simp) fun h₆ he₆ hs₆ => ?_)
  replace he₆ : IsEnumOut h₆ e it ((i : Int) + 1) (.str ⟨#[ch]⟩ s.toks) s.heap.objs.size := he₆
  replace hs₆ : Heap.SameBut e h₅ h₆ := hs₆
  refine wpAny_setField_rec (s := { s with heap := h₆, toks := s.toks + 1 + 1 }) he₆ (by simp) fun h₇ he₇ hs₇ => ?_
  replace he₇ : IsEnumOut h₇ e it ((i : Int) + 1) (.str ⟨#[ch]⟩ s.toks) s.heap.objs.size := he₇
  replace hs₇ : Heap.SameBut e h₆ h₇ := hs₇
  refine wpAny_bind (wpAny_letGo (wpAny_pure ⟨_, rfl, wpAny_pure (hQ h₇ s.heap.objs.size (s.toks + 1) s.toks (s.toks + 1 + 1) he₇ ?_ ?_ (Heap.get?_none_of_le (Nat.le_refl _)) (Nat.ne_of_gt hlt) (Nat.ne_of_gt hli) ?_)⟩))
  · exact ((hit₄.extBut hs₅.extBut (Ne.symm hne)).extBut hs₆.extBut (Ne.symm hne)).extBut hs₇.extBut (Ne.symm hne)
  · exact hs₇.extBut _ _ (Nat.ne_of_gt hlt) (hs₆.extBut _ _ (Nat.ne_of_gt hlt) (hs₅.extBut _ _ (Nat.ne_of_gt hlt) hT₄))
  · exact fun b o hbe hbi hb => hs₇.extBut b o hbe (hs₆.extBut b o hbe (hs₅.extBut b o hbe (hk₄ b o hbe hbi hb)))

theorem enumText_end {e it : Addr} {x : Str} {t : Tok} {i : Nat} {old : Value} {Q : Option Value → Shared → Prop} (hh : A.handled = none)
    (he : IsEnum s.heap e it i old) (hit : s.heap.IsStrIter it "str_ascii_iterator" x t i) (hx : x.cps[i]? = none)
    (hQ : ∀ h', Heap.ExtBut it s.heap h' → Q none { s with heap := h' }) : wpAny (model prog w) A (pyNext (.ref e)) Q E s := by
  have hT : s.TypeIs (.ref e) "enumerate" := ⟨_, he, rfl⟩
  unfold pyNext
  refine wpAny_bind (wpAny_attempt (wpAny_callSpecial?_slot (name := Str.ofString "__next__") hT F.slot_enumerate_next
    (wpAny_call_entry F.slot_enumerate_next hT F.entry_enumerate_next ?_ (F.args_enumerate_next_1 _))))
  show wpAny _ _ (field (.ref e) 2 >>= _) _ _ _
  refine wpAny_bind (wpAny_field he rfl (x := .ref it) rfl ?_)
  refine wpAny_bind (nextOf_ascii_end hh hit hx fun h' x he' hx' => ?_)
  obtain ⟨o, ho, hc⟩ := hx'
  refine wpAny_bind (wpAny_isInstance (T := "StopIteration") (b := true) ⟨o, ho, hc⟩ isSubtype_stop ?_)
  exact wpAny_pure (hQ _ he')
end
end Mine

namespace Mine
section
variable {c : Cx} {b : Bool} {env : Env} {h : Heap} {e₀ r s : Shared} {Wc : List Addr} {σ : Tab} {ow : Owned} {E : Value → Shared → Prop} {Q : Flow → Shared → Prop}

theorem ex_forEnum (F : Fn c env e₀ Wc) (hh : c.A.handled = none) (σs : Nat → Tab) (ows : Nat → Owned) (X : Run c env e₀ r Wc (σs 0) (ows 0) s) {xi xc f : Str} {pi pc pt p cpos pos : Pos} {x1 : Nat} {q : Expr} {x : Str} {body : List Stmt}
    (hxi : Stores env xi) (hxc : Stores env xc) (hno : ∀ i, ∀ p ∈ ows i, p.1 ≠ xi ∧ p.1 ≠ xc) (hls : ∀ i y a d, (y, a, d) ∈ ows i → ∃ (τ : Type) (K : Kd τ) (zs : List τ), d = K.lst zs)
    (ha : x.cps.all (· < 128) = true) (g : Gl c env s.heap f (.type "enumerate")) (h1 : Ev c true env s.heap q (.str x))
    (step : ∀ (own' : List Addr) (i : Nat) ch s' (E' : Value → Shared → Prop), Fn { c with own := own' } env e₀ Wc → x.cps[i]? = some ch → Run { c with own := own' } env e₀ s' Wc (setV xc (.str ⟨#[ch]⟩) (setV xi (.int i) (σs i))) (ows i) s' →
      wpAny (model c.prog c.w) c.A (execs body env) (fun f s₂ => f = .next ∧ Run { c with own := own' } env e₀ s' Wc (σs (i + 1)) (ows (i + 1)) s₂) E' s')
    (qq : ∀ s', Run c env e₀ r Wc (σs x.cps.size) (ows x.cps.size) s' → Q .next s')
    (he : starEach [q] env = [(false, eval q env)] := by rfl)
    (hs : ∀ y, foldedSetIterable (.Call (.Name f p) [q] [] cpos) env y = pure y := by intro _; rfl)
    (has : (assignEach [.Name xi pi, .Name xc pc] env).map (·.2) = [fun v => (do standAt pi; bindName env xi v), fun v => (do standAt pc; bindName env xc v)] := by rfl)
    (hlen : (assignEach [.Name xi pi, .Name xc pc] env).length = 2 := by rfl) (hstar : (assignEach [.Name xi pi, .Name xc pc] env).findIdx? (·.1) = none := by rfl)
    (hcall : ∀ env : Env, eval (Expr.Call (.Name f p) [q] [] cpos) env = (do let x ← eval (.Name f p) env; callWith cpos x [] (backTo cpos (starEach [q] env)) (backToKw cpos (keywordEach [] env))) := by intro _; rfl) :
    wpAny (model c.prog c.w) c.A (exec (.For (.Tuple [.Name xi pi, .Name xc pc] x1 pt) (.Call (.Name f p) [q] [] cpos) body [] pos) env) Q E s := by
  have k := F.ok
  refine wpAny_For ?_ hs
  refine Call_ (g p s _ _ X.at_ (PyProof.Rows.callWith_type1 (wpAny_items_cons (h1.mono X.at_ fun v s₁ r₁ x₁ => wpAny_items_nil ?_) he) he)) (hcall env)
  obtain ⟨t, rfl⟩ := x₁
  refine call_enumerate_str fun h₂ he₂ hit₂ hz₂ hk₂ => ?_
  have hty : strIterType x = "str_ascii_iterator" := by simp [strIterType, ha]
  rw [hty] at hit₂
  refine wpAny_pyIter_enum he₂ ?_
  have X := X.step F r₁
  have r₂ : Keeps s₁ { s₁ with heap := h₂ } := ⟨h₂, s₁.toks, rfl, hk₂⟩
  have l1 : s₁.heap.get? s₁.heap.objs.size = none := Heap.get?_none_of_le (Nat.le_refl _)
  have l2 : s₁.heap.get? (s₁.heap.objs.size + 1) = none := Heap.get?_none_of_le (Nat.le_succ _)
  have m1 := l1
  have m2 := l2
  have nei : s₁.heap.objs.size + 1 ≠ s₁.heap.objs.size := Nat.succ_ne_self _
  generalize s₁.heap.objs.size + 1 = e at *
  generalize s₁.heap.objs.size = it at *
  have subO : ∀ a ∈ c.own, a ∈ [e, it] ++ c.own := fun a h => List.mem_append_right _ h
  have new : ∀ b ∈ [e, it], s₁.heap.get? b = none := by simp [m1, m2]
  have live0 : ∀ b ∈ [e, it], ∃ o, h₂.get? b = some o := by
    intro b hb
    simp only [List.mem_cons, List.not_mem_nil, or_false] at hb
    rcases hb with rfl | rfl
    · exact ⟨_, he₂⟩
    · obtain ⟨o, ho, _⟩ := hit₂; exact ⟨o, ho⟩
  obtain ⟨F', X'⟩ := X.more F (own' := [e, it] ++ c.own) (chg' := c.chg) r₂ (fun a ha => by
      rcases List.mem_append.mp ha with z | z
      · exact .inr (new a z)
      · exact .inl z) (fun a ha => by
      rcases List.mem_append.mp ha with z | z
      · exact live0 a z
      · obtain ⟨o, e⟩ := X.at_.low.owned a z; exact ⟨o, hk₂ _ _ e⟩) (fun a h => h) (fun a h => subO a (F.sub a h)) (fun a h => .inl h)
  have rw_ : ∀ a ∈ [e, it], a ∉ c.W ∧ a ∉ c.chg ∧ r.heap.get? a = none ∧ e₀.heap.get? a = none := fun a ha => by
    obtain ⟨h1, h2, h3⟩ := X.chgAt F (new a ha)
    exact ⟨h2, fun q => h1 (F.sub a q), h3, X.newAt F (new a ha)⟩
  have nown : ∀ a ∈ [e, it], a ∉ c.own := fun a ha => (X.chgAt F (new a ha)).1
  refine codeAny_forLoop_any (fun n s' => ∃ i, i ≤ x.cps.size ∧ n = x.cps.size + 1 - i ∧ (∃ old, IsEnum s'.heap e it i old) ∧ s'.heap.IsStrIter it "str_ascii_iterator" x t i ∧ Run { c with own := [e, it] ++ c.own } env e₀ r Wc (σs i) (ows i) s') ?_ (x.cps.size + 1) ⟨0, Nat.zero_le _, rfl, ⟨_, he₂⟩, hit₂, X'⟩
  rintro n s₃ ⟨i, hi, rfl, ⟨old, hen⟩, hit, Y⟩
  by_cases hlt : i < x.cps.size
  · have hx : x.cps[i]? = some x.cps[i] := Array.getElem?_eq_getElem hlt
    refine enumText hen hit hx nei fun h₁ T t₁ t₂ tk heo hit₁ hT hTn hTe hTi hk => ?_
    have hk' : ∀ b o, b ∉ [e, it] → s₃.heap.get? b = some o → h₁.get? b = some o := fun b o hb ho => hk b o (fun z => hb (by simp [z])) (fun z => hb (by simp [z])) ho
    have Y₁ := Y.pass F rw_ (fun a ha => List.mem_append_left _ ha) (hls i) (own' := [e, it] ++ c.own) (t₁ := tk) (fun b _ hb => by
      simp only [List.mem_cons, List.not_mem_nil, or_false] at hb
      rcases hb with rfl | rfl
      · exact ⟨_, heo⟩
      · obtain ⟨o, ho, _⟩ := hit₁; exact ⟨o, ho⟩) (fun b hb => hb) hk'
    refine wpAny_letOwnedTupleGo_enum heo fun h₃ he₃ hs₃ => ?_
    replace hs₃ : Heap.SameBut e h₁ h₃ := hs₃
    have hit₃ : h₃.IsStrIter it "str_ascii_iterator" x t (i + 1) := hit₁.extBut hs₃.extBut (Ne.symm nei)
    have hT₃ : h₃.IsTuple T #[.int i t₁, .str ⟨#[x.cps[i]]⟩ t₂] := ⟨_, (hs₃.2 T hTe).trans hT, rfl, _, rfl⟩
    have Y₂ := Y₁.pass F rw_ (fun a ha => List.mem_append_left _ ha) (hls i) (own' := [e, it] ++ c.own) (t₁ := tk) (h₁ := h₃) (fun b _ hb => by
      simp only [List.mem_cons, List.not_mem_nil, or_false] at hb
      rcases hb with rfl | rfl
      · exact ⟨_, he₃⟩
      · obtain ⟨o, ho, _⟩ := hit₃; exact ⟨o, ho⟩) (fun b hb => hb) (fun b o hb ho => (hs₃.2 b fun z => hb (by simp [z])).trans ho)
    refine wpAny_assign_Tuple hh (s := { s₃ with heap := h₃, toks := tk }) hT₃ hlen hstar fun h₄ hx₄ => ?_
    have Y₃ := (Y₂.step F' (s' := { s₃ with heap := h₄, toks := tk }) (F'.ok.keeps ⟨h₄, tk, rfl, fun b o ho => hx₄ b o (Nat.ne_of_lt (Heap.lt_size ho)) ho⟩)).mark
    have he₄ : IsEnum h₄ e it ((i : Int) + 1) (.str ⟨#[x.cps[i]]⟩ t₂) := hx₄ _ _ (Nat.ne_of_lt (Heap.lt_size he₃)) he₃
    have hit₄ : h₄.IsStrIter it "str_ascii_iterator" x t (i + 1) := by obtain ⟨o, ho, z⟩ := hit₃; exact ⟨o, hx₄ _ _ (Nat.ne_of_lt (Heap.lt_size ho)) ho, z⟩
    rw [has]
    show wpAny _ _ (do holding [.str ⟨#[x.cps[i]]⟩ t₂] (do standAt pi; bindName env xi (.int i t₁)); do holding [] (do standAt pc; bindName env xc (.str ⟨#[x.cps[i]]⟩ t₂)); pure ()) _ _ _
    refine wpAny_bind (wpAny_holding (wpAny_bind (wpAny_standAt (wpAny_bindName (Y₃.put F' hxi (fun p hp => (hno i p hp).1) fun s₄ Y₄ l₄ hk₄ _ => ?_)))))
    have Z₄ := Y₄.add l₄ (d := .int i) ⟨t₁, rfl⟩
    refine wpAny_bind (wpAny_holding (wpAny_bind (wpAny_standAt (wpAny_bindName (Z₄.put F' hxc (fun p hp => (hno i p hp).2) fun s₅ Y₅ l₅ hk₅ _ => wpAny_pure ?_)))))
    have Z₅ := Y₅.add l₅ (d := .str ⟨#[x.cps[i]]⟩) ⟨t₂, rfl⟩
    refine wpAny_mono (step ([e, it] ++ c.own) i x.cps[i] s₅ _ F' hx Z₅.mark) (fun f s₆ hf => ?_) fun _ _ e => e
    obtain ⟨rfl, Z⟩ := hf
    have nc : ∀ b ∈ [e, it], b ∉ c.W ++ c.chg := fun b hb q => by
      rcases List.mem_append.mp q with z | z
      · exact (rw_ b hb).1 z
      · exact (rw_ b hb).2.1 z
    have up : ∀ b o, b ∉ c.W ++ c.chg → h₄.get? b = some o → s₆.heap.get? b = some o := fun b o n e => Z.kept b o (Z₅.kept b o e n) n
    refine ⟨x.cps.size + 1 - (i + 1), by omega, i + 1, hlt, rfl, ⟨_, up _ _ (nc e (by simp)) he₄⟩, ?_, ?_⟩
    · obtain ⟨o, ho, z⟩ := hit₄
      exact ⟨o, up _ _ (nc it (by simp)) ho, z⟩
    · exact { Z with kept := fun b o e n => up b o n (hx₄ b o (by
        intro z
        have := Y₂.kept b o e n
        exact absurd (Heap.lt_size this) (by rw [z]; exact Nat.lt_irrefl _)) (Y₂.kept b o e n)) }
  · have hin : i = x.cps.size := by omega
    subst hin
    refine enumText_end hh hen hit (by simp) fun h₁ hx₁ => wpAny_execs_nil (qq _ ?_)
    exact Y.pass F rw_ (fun a ha => List.mem_append_left _ ha) (hls x.cps.size) (own' := c.own) (t₁ := s₃.toks) (fun b hb hw => absurd hb (nown b hw)) (fun b hb => List.mem_append_right _ hb) fun b o hb ho => hx₁ b o (fun z => hb (by simp [z])) ho
end
end Mine

open PySem PySem.W PyProof.Rows PySem.Calls PySem.Spec PySem.MeetsSeq
namespace Mine

theorem repr_text {prog : Program} {w : World} {A : Around} {E : Value → Shared → Prop} {s : Shared} {x : Str} {t : Tok} {Q : Str → Shared → Prop} (h : ∀ s', Keeps s s' → s'.heap = s.heap → Q (reprText x) s') (hz : (reprText x).length ≤ sizeLine) :
    wpAny (model prog w) A (pyRepr (.str x t)) Q E s := by
  unfold pyRepr
  exact wpAny_bind (wpAny_pyReprObj_gives (typeIs_str s x t) PySem.F.slot_str_repr PySem.F.entry_str_repr (PySem.F.args_str_repr_1 _) (PySem.gives_str_repr x t)
    (wpAny_pure (h { s with toks := s.toks + 1 } ⟨s.heap, s.toks + 1, rfl, fun _ _ e => e⟩ rfl)) rfl hz)

theorem len15 : (Str.ofString " is not in list").length = 15 := by decide +kernel

theorem index_miss_loop (l : Addr) (items : Array Value) (n : Nat) (dd : Option Addr) (sl : Array (Option Value)) (x : Str) (t : Tok) (e : Value → Bool) (upto : Int) (hup : (items.size : Int) ≤ upto) (hz : (reprText x).length + 15 ≤ sizeLine)
    (k : Nat) : ∀ i : Nat, items.size - i = k → i ≤ items.size → (∀ m (hm : m < items.size), e items[m] = false) → Meets (Builtin.«list.index.loop» ⟨[.ref l, .str x t, rawInt i, rawInt upto], []⟩)
      (fun A R s => A.handled = none ∧ s.heap.get? l = some { cls := .type "list", dict := dd, data := .seq items n, slots := sl } ∧ (∀ y, y ∈ items → EqGives y (.str x t) (e y)) ∧
        (∀ h' a args tk, Heap.MadeExcOf s.heap h' a (.type "ValueError") args → R (.error (.ref a)) { s with heap := h', toks := tk })) := by
  induction k with
  | zero =>
    intro i hk hi hno prog w A R s h
    obtain ⟨hp, g, d, tk, os⟩ := s; obtain ⟨hh, hl, he, h⟩ := h
    have hi' : i = items.size := by omega
    subst hi'
    wp_walk using wpAny_loadPart' hl
    have hi : (if ((items.size : Nat) : Int) < upto then items[((items.size : Nat) : Int).toNat]? else none) = none := by simp
    rw [hi]
    dsimp only
    refine wpAny_bind ?_
    refine wpAny_rule ?_
    refine wpAny_bind ?_
    refine repr_text (fun s' ks hs => ?_) (Nat.le_trans (Nat.le_add_right _ 15) hz)
    obtain ⟨h1, t1, rfl, _⟩ := ks
    cases hs
    unfold Builtin.List.listRaiseStr
    have hy : (reprText x ++ Str.ofString " is not in list").length ≤ sizeLine := by rw [Str.length_append, len15]; exact hz
    generalize reprText x ++ Str.ofString " is not in list" = y at hy
    refine wpAny_bind ?_
    refine wpAny_mkStr' ?_ hy
    simp only [newExc, newTuple]
    refine wpAny_bind (wpAny_bind (wpAny_newObj_type ?_ (by size_fits)))
    refine wpAny_bind (m := firstArgMember _ _) (wpAny_of_eq (a := Value.none) (by first | rfl | (simp only [firstArgMember]; rfl)) ?_)
    refine wpAny_newObj_type ?_ (by size_fits)
    simp only [raiseNew]
    refine wpAny_bind (wpAny_handled ?_)
    rw [show A.in1.handled = none from hh]
    refine wpAny_bind (wpAny_pure (wpAny_throw ?_))
    refine h _ _ [.str y t1] _ ⟨fun b o e => Heap.get?_push_of_some _ (Heap.get?_push_of_some _ e), Heap.get?_none_of_le ?_, hp.objs.size, Heap.get?_push_size _ rfl, Heap.get?_none_of_le (Nat.le_refl _), Heap.get?_push_of_some _ (Heap.get?_push_size _ rfl)⟩
    rw [Heap.size_push]; exact Nat.le_succ _
  | succ k ih =>
    intro i hk hi hno prog w A R s h
    obtain ⟨hp, g, d, tk, os⟩ := s; obtain ⟨hh, hl, he, h⟩ := h
    have hlt : i < items.size := by omega
    have hst : (i : Int) < upto := by omega
    wp_walk using wpAny_loadPart' hl
    have hi : (if (i : Int) < upto then items[((i : Nat) : Int).toNat]? else none) = some items[i] := by simp [hst, hlt]
    have hc : ((i : Int) + 1) = ((i + 1 : Nat) : Int) := by push_cast; rfl
    rw [hi]
    refine wpAny_bind ((he _ (Array.getElem_mem hlt)).at _ _ prog w _ _ ?_)
    rw [hno i hlt]
    wp_walk
    rw [hc]
    exact ⟨plainId_quiet plain_index_loop _, codeAny_builtin entry_index_loop (by
      rw [Around.under_plainId plain_index_loop _]
      exact ih (i + 1) (by omega) (by omega) hno prog w A R _ ⟨hh, hl, he, h⟩)⟩

theorem idxMissB {prog : Program} {w : World} {A : Around} {E : Value → Shared → Prop} {s : Shared} {Q : Value → Shared → Prop} {l : Addr} {vs : List Value} {ss : List Str} {x : Str} {t : Tok} (hh : A.handled = none) (hl : s.heap.IsList l vs.toArray) (hi : StrsAre vs ss)
    (hx : x ∉ ss) (hz : ss.length < 2 ^ 62) (hzx : (reprText x).length + 15 ≤ sizeLine) (h : ∀ h' a args tk, Heap.MadeExcOf s.heap h' a (.type "ValueError") args → E (.ref a) { s with heap := h', toks := tk }) : wpAny (model prog w) A (call (.builtin "list.index") [.ref l, .str x t]) Q E s := by
  obtain ⟨⟨cls, dd, data, sl⟩, ho, hc, n, hd⟩ := id hl
  simp only at hc hd
  subst hc hd
  have hlen := hi.length
  have meets : Meets (Builtin.«list.index» ⟨[.ref l, .str x t], []⟩) (fun A R s => A.handled = none ∧ s.heap.get? l = some { cls := .type "list", dict := dd, data := .seq vs.toArray n, slots := sl } ∧ (∀ y, y ∈ vs.toArray → EqGives y (.str x t) (isStrOf x y)) ∧
        (∀ h' a args tk, Heap.MadeExcOf s.heap h' a (.type "ValueError") args → R (.error (.ref a)) { s with heap := h', toks := tk })) := by
    intro prog w A R s h
    obtain ⟨hp, g, d, tk, os⟩ := s; obtain ⟨hh, hl, he, h⟩ := h
    wp_walk using wpAny_loadPart' hl
    have a1 : ((fun i : Int => if i < 0 then max 0 (i + (vs.toArray.size : Int)) else i) ((none : Option Int).getD 0)) = ((0 : Nat) : Int) := by simp
    have a2 : ((fun i : Int => if i < 0 then max 0 (i + (vs.toArray.size : Int)) else i) ((none : Option Int).getD (2 ^ 63 - 1))) = 2 ^ 63 - 1 := by simp
    rw [a1, a2]
    exact ⟨plainId_quiet plain_index_loop _, codeAny_builtin entry_index_loop (by
      rw [Around.under_plainId plain_index_loop _]
      refine index_miss_loop l vs.toArray n dd sl x t (isStrOf x) (2 ^ 63 - 1) (by simp only [List.size_toArray]; omega) hzx _ 0 rfl (Nat.zero_le _) (fun m hm => ?_) prog w A R _ ⟨hh, hl, he, h⟩
      have hv : m < vs.length := by simpa using hm
      obtain ⟨u, hu⟩ := hi.get m ss[m] (by simp [← hlen, hv])
      rw [List.getElem?_eq_getElem hv] at hu
      show isStrOf x vs[m] = false
      rw [Option.some.inj hu]
      show (ss[m] == x) = false
      simp only [beq_eq_false_iff_ne, ne_eq]
      intro e
      exact hx (e ▸ List.getElem_mem _))⟩
  exact call_meets PySem.F.slot_list_index ⟨_, ho, rfl⟩ PySem.F.entry_list_index (PySem.F.args_list_index_2 _ _) meets ⟨hh, ho, fun y hy => eq_isStrOf x t hi y (by simpa using hy), h⟩
end Mine

namespace Mine

theorem noteMade {M : Model} {A : Around} {E : Value → Shared → Prop} {s : Shared} {base : Heap} {env : Env} {outer : List Env} {L e : Addr} {oe : Obj} {vs : Array Value} {a0 : Value} {Q : Unit → Shared → Prop}
    (hfr : A.frames = some (env :: outer)) (hl : s.heap.FunFrames base (env :: outer)) (hf : env.frame = some L)
    (he : s.heap.get? e = some oe) (hkb : base.StaysIn s.heap) (hen : base.get? e = none) (hd : oe.data = .fields vs) (h1 : vs[1]? = some .none) (h0 : vs[0]? = some a0)
    (h : ∀ h', Heap.NotedW base (env :: outer) e oe.cls a0 (rawInt L) s.heap h' → Q () { s with heap := h' }) : wpAny M A (noteFrame (.ref e) env) Q E s := by
  unfold noteFrame
  simp only [hf]
  refine wpAny_bind (wpAny_field he hd h1 ?_)
  rw [if_neg (by decide)]
  exact wpAny_entryW hfr hl hf he hkb hen hd (Array.getElem?_eq_some_iff.mp h1).1 h0 h

/-- the frames that stand around -/
structure Around₀ (A : Around) (env : Env) (W T : List Addr) : Prop where
  all : ∃ outer, A.frames = some (env :: outer) ∧ ∀ e ∈ env :: outer, e.scope.kind ≠ .module ∧ ∃ L ∈ W, L ∉ T ∧ e.frame = some L
  here : env.frame = some env.locals

theorem funFrames_hidden {W T : List Addr} {h : Heap} (hns : ∀ a ∈ W, a ∉ T → ∃ m, h.Ns a m) : ∀ {l : List Env}, (∀ e ∈ l, e.scope.kind ≠ .module ∧ ∃ L ∈ W, L ∉ T ∧ e.frame = some L) → h.FunFrames (hideAll h (W.filter fun a => !T.contains a)) l
  | [], _ => trivial
  | e :: l, H => by
    obtain ⟨hk, L, hL, hT, hf⟩ := H e List.mem_cons_self
    obtain ⟨m, o, es, ep, ho, hd, _⟩ := hns L hL hT
    exact ⟨hk, ⟨L, o, hf, hideAll_none _ (List.mem_filter.mpr ⟨hL, by simpa using hT⟩), ho, fun vs q => by rw [hd] at q; cases q⟩, funFrames_hidden hns fun e' he' => H e' (List.mem_cons_of_mem _ he')⟩

/-- what the raise and the catch do to the heap: the frames' slots alone -/
theorem grow_hidden {W T : List Addr} {h h' h₁ : Heap} (hns : ∀ a ∈ W, a ∉ T → ∃ m, h.Ns a m) (h1 : ∀ b o, h.get? b = some o → h₁.get? b = some o) (st : (hideAll h (W.filter fun a => !T.contains a)).StaysIn h') (up : h₁.UpToSlots h') : GrowH W h h' where
  keep b o e n := st b o (hideAll_get _ e fun q => n (List.mem_filter.mp q).1)
  ns b m hb e := up.ns (e.at' fun o ho => h1 b o ho)
  tab b ps hb e := by
    by_cases hT : b ∈ T
    · exact ⟨ps, ⟨st b _ (hideAll_get _ e.1 fun q => by have := (List.mem_filter.mp q).2; simp [hT] at this), e.2⟩, fun _ _ q => .inl q⟩
    · obtain ⟨m, o, es, ep, ho, hd, _⟩ := hns b hb hT
      have ho' := e.1
      rw [ho] at ho'; cases ho'; cases hd

section
variable {c : Cx} {b : Bool} {env : Env} {h : Heap} {e₀ r s : Shared} {Wc : List Addr} {σ : Tab} {ow : Owned} {E : Value → Shared → Prop} {Q : Flow → Shared → Prop}

def Cx.on (c : Cx) (A' : Around) : Cx := { c with A := A' }
theorem VR.on {A' : Around} {av : List Addr} {h : Heap} {d : D} {v : Value} (x : VR c av h d v) : VR (c.on A') av h d v := VR.cx (c := c) (c' := c.on A') rfl rfl x
theorem VR.off {A' : Around} {av : List Addr} {h : Heap} {d : D} {v : Value} (x : VR (c.on A') av h d v) : VR c av h d v := VR.cx (c := c.on A') (c' := c) rfl rfl x
theorem Run.on {A' : Around} (X : Run c env e₀ r Wc σ ow s) : Run (c.on A') env e₀ r Wc σ ow s where
  at_ := ⟨X.at_.grow, X.at_.bare, X.at_.low.frames, X.at_.low.tabsAt, X.at_.low.owned⟩
  vars x d e := let ⟨v, l, p⟩ := X.vars x d e; ⟨v, l, VR.on p⟩
  owns x a d e := let ⟨l, p, q, t⟩ := X.owns x a d e; ⟨l, p, q, VR.on t⟩
  cellsAt := X.cellsAt
  since := X.since
  kept := X.kept
theorem Run.off {A' : Around} (X : Run (c.on A') env e₀ r Wc σ ow s) : Run c env e₀ r Wc σ ow s where
  at_ := ⟨X.at_.grow, X.at_.bare, X.at_.low.frames, X.at_.low.tabsAt, X.at_.low.owned⟩
  vars x d e := let ⟨v, l, p⟩ := X.vars x d e; ⟨v, l, VR.off p⟩
  owns x a d e := let ⟨l, p, q, t⟩ := X.owns x a d e; ⟨l, p, q, VR.off t⟩
  cellsAt := X.cellsAt
  since := X.since
  kept := X.kept
theorem Fn.on {A' : Around} (F : Fn c env e₀ Wc) (h1 : A'.depth ≤ 560) (h2 : A'.units ≤ 200) : Fn (c.on A') env e₀ Wc where
  ok := ⟨F.ok.refl, F.ok.trans, F.ok.keeps, F.ok.grow, F.ok.bare, h1, F.ok.tabs, h2⟩
  rel := F.rel
  W := F.W
  kind := F.kind
  notTab := F.notTab
  newL := F.newL
  newOwn := F.newOwn
  sub := F.sub
  cells := F.cells
  apart := F.apart

theorem ex_tryOk {body suite : List Stmt} {t : Expr} {pos hpos : Pos}
    (h : ∀ E', wpAny (model c.prog c.w) c.A (execs body env) (fun f s₁ => f = .next ∧ Q .next s₁) E' s) : wpAny (model c.prog c.w) c.A (exec (.Try body [.ExceptHandler (some t) none suite hpos] [] [] pos) env) Q E s := by
  refine wpAny_Try_except (wpAny_mono (h _) (fun f s₁ hf => ?_) fun _ _ e => e)
  obtain ⟨rfl, hq⟩ := hf
  exact wpAny_execs_nil hq

theorem ex_tryMiss (F : Fn c env e₀ Wc) (X : Run c env e₀ r Wc σ ow s) (hA : Around₀ c.A env c.W c.tabs) {body suite : List Stmt} {b₀ : Stmt} {t : Expr} {pos hpos : Pos}
    (raise : ∀ (Q' : Flow → Shared → Prop) (E' : Value → Shared → Prop), (∀ s₁ a args h' tk, Run c env e₀ r Wc σ ow s₁ → Heap.MadeExcOf s₁.heap h' a (.type "ValueError") args → E' (.ref a) { s₁ with heap := h', toks := tk }) → wpAny (model c.prog c.w) c.A (execs body env) Q' E' s)
    (g : ∀ a s₁ E' (Q' : Value → Shared → Prop), Run c env e₀ r Wc σ ow s₁ → Q' (.type "ValueError") s₁ → wpAny (model c.prog c.w) (c.A.mark (some (.ref a))) (eval t env) Q' E' s₁)
    (k : ∀ a s₁ E', Fn (c.on (c.A.mark (some (.ref a)))) env e₀ Wc → Run (c.on (c.A.mark (some (.ref a)))) env e₀ r Wc σ ow s₁ → wpAny (model c.prog c.w) (c.A.mark (some (.ref a))) (execs (b₀ :: suite) env) Q E' s₁) :
    wpAny (model c.prog c.w) c.A (exec (.Try body [.ExceptHandler (some t) none (b₀ :: suite) hpos] [] [] pos) env) Q E s := by
  obtain ⟨⟨outer, hfr, hall⟩, hf⟩ := hA
  refine wpAny_Try_except (raise _ _ fun s₁ a args h' tk X₁ hx => ?_)
  obtain ⟨t', he, htn, ht⟩ := hx.there
  have hns : ∀ a ∈ c.W, a ∉ c.tabs → ∃ m, s₁.heap.Ns a m := X₁.at_.low.frames
  have fr := funFrames_hidden hns hall
  have hkb : (hideAll s₁.heap (c.W.filter fun a => !c.tabs.contains a)).StaysIn h' := fun b o e => hx.keeps b o (of_hideAll _ e)
  have hen : (hideAll s₁.heap (c.W.filter fun a => !c.tabs.contains a)).get? a = none := by
    cases q : (hideAll s₁.heap (c.W.filter fun a => !c.tabs.contains a)).get? a with
    | none => rfl
    | some o => have := of_hideAll _ q; rw [hx.new] at this; cases this
  refine noteMade (s := { s₁ with heap := h', toks := tk }) hfr (fr.of_keeps fun b o hb _ => ⟨o, hx.keeps b o hb, rfl⟩) hf he hkb hen rfl rfl rfl fun h₂ hN => ?_
  obtain ⟨n1, n2, n3, n4⟩ := hN
  refine wpAny_landsW (s := { s₁ with heap := h₂, toks := tk }) (⟨n1, hen, n2, n3⟩ : Heap.HeldW _ _ _ _ _ _ _) fun h₃ hfl up₃ => ?_
  obtain ⟨f1, f2, f3, f4⟩ := id hfl
  have up : h'.UpToSlots h₃ := Heap.UpToSlots.trans n4 up₃
  have step : ∀ h₄, (hideAll s₁.heap (c.W.filter fun a => !c.tabs.contains a)).StaysIn h₄ → h'.UpToSlots h₄ → Run c env e₀ r Wc σ ow { s₁ with heap := h₄, toks := tk } := fun h₄ st u =>
    X₁.step F (s' := { s₁ with heap := h₄, toks := tk }) (by rw [F.rel]; exact ⟨grow_hidden hns hx.keeps st u, rfl, id⟩)
  obtain ⟨oe, ho, hc⟩ := hfl.there
  refine wpAny_handleBy_builtin (X := "ValueError") (T := "ValueError") (b := true) ?_ ?_ ?_ (g a _ _ _ (step h₃ f1 up) ⟨rfl, ⟨oe, ho, hc⟩, ?_⟩)
  · rw [isSubtype_type]; kernel_rfl
  · rw [isSubtype_type]; kernel_rfl
  · rw [isSubtype_type]; kernel_rfl
  simp only [if_true]
  refine wpAny_setFlight_noneW (s := { s₁ with heap := h₃, toks := tk }) f1 f3 f4.at fun h₄ k1 k2 k3 k4 => ?_
  exact k a _ _ (F.on F.ok.room F.ok.units) (step h₄ k1 (up.trans fun b o hb hn => ⟨o.slots, k4 b o hb hn⟩)).on
end
end Mine

namespace Mine

/-- the ground: what stood before all and stands still -/
def Fixed (c : Cx) (g₀ h : Heap) : Prop := ∀ b o, g₀.get? b = some o → h.get? b = some o ∧ b ∉ c.W
theorem Fixed.grow {c : Cx} {g₀ h h' : Heap} (x : Fixed c g₀ h) (g : GrowH c.W h h') : Fixed c g₀ h' := fun b o e => ⟨g.keep b o (x b o e).1 (x b o e).2, (x b o e).2⟩
theorem Fixed.stays {c : Cx} {g₀ h : Heap} (x : Fixed c g₀ h) : ∀ b o, g₀.get? b = some o → h.get? b = some o := fun b o e => (x b o e).1

section
variable {c : Cx} {b : Bool} {env : Env} {h g₀ : Heap} {e₀ r s : Shared} {Wc : List Addr} {σ : Tab} {ow : Owned} {mg mb : Str → Option Value}

theorem Run.fixed (F : Fn c env e₀ Wc) (G : ∀ b o, g₀.get? b = some o → e₀.heap.get? b = some o ∧ b ∉ Wc) (X : Run c env e₀ r Wc σ ow s) : Fixed c g₀ s.heap := fun b o e => by
  obtain ⟨h1, h2⟩ := G b o e
  refine ⟨X.since.heap.keep b o h1 h2, fun q => ?_⟩
  rw [F.W] at q
  rcases List.mem_cons.mp q with rfl | q
  · rw [F.newL] at h1; cases h1
  · exact h2 q

theorem gl_global (x : Fixed c g₀ h) (g : g₀.Ns mainGlobals mg) {n : Str} {v : Value} (e : mg n = some v) (hk : env.scope.kind = .function := by rfl) (hx : env.kindOf n = some .globalImplicit := by rfl) (hg : env.globals = mainGlobals := by rfl) (hd : (n == ("__debug__" : Str)) = false := by decide) : Gl c env h n v :=
  fun pos s Q E a q => Name_function_global hk hx (loadGlobal_global (hg ▸ (g.keeps (x.grow a.grow).stays)) e q) hd
theorem gl_builtin (x : Fixed c g₀ h) (g : g₀.Ns mainGlobals mg) (gb : g₀.Ns builtinsNs mb) {n : Str} {v : Value} (e : mg n = none) (e' : mb n = some v) (hk : env.scope.kind = .function := by rfl) (hx : env.kindOf n = some .globalImplicit := by rfl) (hg : env.globals = mainGlobals := by rfl) (hb : env.builtins = builtinsNs := by rfl) (hd : (n == ("__debug__" : Str)) = false := by decide) : Gl c env h n v :=
  fun pos s Q E a q => Name_function_global hk hx (loadGlobal_builtin (hg ▸ (g.keeps (x.grow a.grow).stays)) e (hb ▸ (gb.keeps (x.grow a.grow).stays)) e' q) hd

/-- a def's call -/
def Cx.call (c : Cx) (env : Env) (L : Addr) : Cx :=
  { prog := c.prog, w := c.w, A := c.A.deeper env, R := GrowR (L :: c.W), W := L :: c.W, own := env.cells.map (·.2) ++ c.own, chg := env.cells.map (·.2), tabs := c.tabs }

theorem keepsR {W : List Addr} {s s' : Shared} (x : Keeps s s') : GrowR W s s' := by
  obtain ⟨h, t, rfl, k⟩ := x
  exact ⟨grow_of_keeps k _, rfl, id⟩
theorem mem_of_lookup {x : Str} {a : Addr} : ∀ {l : List (Str × Addr)}, l.lookup x = some a → (x, a) ∈ l
  | [], e => by cases e
  | (y, b) :: r, e => by
    rw [List.lookup_cons] at e
    by_cases q : x = y
    · subst q; simp at e; rw [e]; exact List.mem_cons_self
    · have : (x == y) = false := by simpa using q
      rw [this] at e
      exact List.mem_cons_of_mem _ (mem_of_lookup e)
theorem same_of_apart {l : List (Str × Addr)} (h : l.Pairwise fun x y => x.2 ≠ y.2) {x y : Str} {a : Addr} (hx : (x, a) ∈ l) (hy : (y, a) ∈ l) : x = y := by
  induction l with
  | nil => cases hx
  | cons p r ih =>
    rw [List.pairwise_cons] at h
    rcases List.mem_cons.mp hx with hx | hx
    · rcases List.mem_cons.mp hy with hy | hy
      · rw [← hx] at hy; injection hy with e; exact e.symm
      · have := h.1 _ hy; rw [← hx] at this; exact absurd rfl this
    · rcases List.mem_cons.mp hy with hy | hy
      · have := h.1 _ hx; rw [← hy] at this; exact absurd rfl this
      · exact ih h.2 hx hy

theorem call_fn (k : c.Ok) (hR : c.R = GrowR c.W) (hgen : c.gen) (hdep : c.A.depth ≤ 540) (huni : c.A.units ≤ 190) (a : At c h s) {f : Addr} {o : Obj} {fd : FuncData} {body : List Stmt} {vals : List Value} {binds : List (Str × Value)} {σ₀ : Tab} {d : D} {E : Value → Shared → Prop} {Q : Value → Shared → Prop}
    (ho : s.heap.get? f = some o) (hdata : o.data = .func fd) (hlim : s.heap.NoLimit) (hcd : s.heap.CodeRec fd.code fd.qualname) (hbody : fd.body = .stmts body) (hbind : bindArgs fd ⟨vals, []⟩ = pure binds) (hclo : fd.closure = [])
    (hkind : ∀ x ∈ binds, fd.scope.names.lookup x.1 = some .local ∨ (fd.scope.names.lookup x.1 = some .cell ∧ ((cellsFrom (s.heap.objs.size + 1) fd.scope.names []).lookup x.1).isSome = true))
    (hp : ∀ x d, σ₀.lookup x = some d → ∃ v, VR c (c.av true) s.heap d v ∧ ((callEnvC fd s.heap.objs.size f).kindOf x = some .local ∧ bindL (callEnvC fd s.heap.objs.size f).kindOf binds (fun _ => none) x = some v ∨
      ((callEnvC fd s.heap.objs.size f).kindOf x = some .cell ∧ ∃ ca, (callEnvC fd s.heap.objs.size f).cells.lookup x = some ca ∧ bindC (callEnvC fd s.heap.objs.size f).kindOf binds (fun _ => none) x = some v)))
    (run : ∀ s₁ E', Fn (c.call (callEnvC fd s.heap.objs.size f) s.heap.objs.size) (callEnvC fd s.heap.objs.size f) s c.W → Run (c.call (callEnvC fd s.heap.objs.size f) s.heap.objs.size) (callEnvC fd s.heap.objs.size f) s s c.W σ₀ [] s₁ →
      wpAny (model c.prog c.w) (c.A.deeper (callEnvC fd s.heap.objs.size f)) (execs body (callEnvC fd s.heap.objs.size f)) (fun fl s' => ∃ v, fl = .ret v ∧ GrowR c.W s s' ∧ VR c (c.av true) s'.heap d v) E' s₁)
    (q : ∀ v s', c.R s s' → VR c (c.av true) s'.heap d v → Q v s')
    (hcells : ∀ p ∈ (callEnvC fd s.heap.objs.size f).cells, (callEnvC fd s.heap.objs.size f).cells.lookup p.1 = some p.2)
    (hco : fd.scope.isCoroutine = false := by rfl) (hge : fd.scope.isGenerator = false := by rfl) (hk : fd.scope.kind = .function := by rfl) (hL : (callEnvC fd s.heap.objs.size f).locals = s.heap.objs.size := by rfl) (hk' : (callEnvC fd s.heap.objs.size f).scope.kind = .function := by rfl) :
    wpAny (model c.prog c.w) c.A (call (.ref f) vals) Q E s := by
  refine wpAny_call (codeAny_call_cells (by have : recursionLimit = 1000 := rfl; omega) ho hdata hlim hcd hbody hbind hclo hkind (fun s₁ I => ?_) hco hge hk)
  generalize hE : callEnvC fd s.heap.objs.size f = env at *
  rw [hL] at I
  have low := a.low.grow a.grow
  have hn : ∀ z, s.heap.objs.size ≤ z → s.heap.get? z = none := fun z hz => Heap.get?_none_of_le hz
  have cn : ∀ z ∈ env.cells.map (·.2), s.heap.objs.size < z := fun z hz => by
    obtain ⟨p, hp, rfl⟩ := List.mem_map.mp hz
    exact I.above p.1 p.2 hp
  have cf : ∀ z ∈ env.cells.map (·.2), s.heap.get? z = none := fun z hz => hn z (Nat.le_of_lt (cn z hz))
  have LW : s.heap.objs.size ∉ c.W := fun q => by obtain ⟨o, e⟩ := low.there q; rw [hn _ (Nat.le_refl _)] at e; cases e
  have ks : Keeps s s₁ := I.done
  have kg := keeps_get ks
  have F : Fn (c.call env s.heap.objs.size) env s c.W := by
    refine ⟨⟨GrowR.refl _, GrowR.trans, keepsR, fun x => x.heap, fun x _ => x.bare, ?_, fun z hz => List.mem_cons_of_mem _ (k.tabs z hz), ?_⟩, rfl, ?_, hk', ?_, ?_, cf, fun z hz => List.mem_append_left _ hz, ?_, ?_⟩
    · show c.A.depth + 1 ≤ 560; omega
    · show c.A.units + 3 ≤ 200; omega
    · rw [hL]; rfl
    · rw [hL]; exact fun q => LW (k.tabs _ q)
    · rw [hL]; exact hn _ (Nat.le_refl _)
    · intro x ca e
      have hm : ca ∈ env.cells.map (·.2) := List.mem_map.mpr ⟨_, mem_of_lookup e, rfl⟩
      refine ⟨hm, fun q => ?_⟩
      rcases List.mem_cons.mp q with q | q
      · exact absurd (cn ca hm) (by rw [q]; exact Nat.lt_irrefl _)
      · obtain ⟨o, e⟩ := low.there q; rw [cf ca hm] at e; cases e
    · intro x y ca e1 e2
      exact same_of_apart I.apart (mem_of_lookup e1) (mem_of_lookup e2)
  have av' : ∀ z ∈ (c.call env s.heap.objs.size).av true, z ∈ c.av true ∨ s.heap.get? z = none := fun z hz => by
    rcases List.mem_append.mp hz with hz | hz
    · rcases List.mem_cons.mp hz with rfl | hz
      · exact .inr (hn _ (Nat.le_refl _))
      · exact .inl (List.mem_append_left _ hz)
    · rcases List.mem_append.mp hz with hz | hz
      · exact .inr (cf z hz)
      · exact .inl (List.mem_append_right _ hz)
  have X : Run (c.call env s.heap.objs.size) env s s c.W σ₀ [] s₁ := by
    refine ⟨⟨GrowH.refl _ _, fun _ => (keepsR (W := []) ks).bare (a.bare hgen), ⟨fun z hz ht => ?_, fun z hz => ?_, fun z hz => ?_⟩⟩, fun x d e => ?_, fun x z d e => (by cases e), fun x z e => ⟨_, I.cell x z e⟩, keepsR ks, fun z o e _ => kg z o e⟩
    · rcases List.mem_cons.mp hz with rfl | hz
      · exact ⟨_, I.toInCall.ns⟩
      · obtain ⟨m, e⟩ := low.frames z hz ht
        exact ⟨m, e.keeps kg⟩
    · obtain ⟨hw, ps, e, q⟩ := low.tabsAt z hz
      refine ⟨List.mem_cons_of_mem _ hw, ps, ⟨kg _ _ e.1, e.2⟩, fun pos cv y => ?_⟩
      obtain ⟨c', rfl, n, r⟩ := q pos cv y
      refine ⟨c', rfl, fun w => ?_, code_keep r fun o ho => kg _ _ ho⟩
      obtain ⟨o, ho⟩ := code_some r
      rcases av' c' w with w | w
      · exact n w
      · rw [w] at ho; cases ho
    · rcases List.mem_append.mp hz with hz | hz
      · obtain ⟨p, hp, rfl⟩ := List.mem_map.mp hz
        obtain ⟨o, e, _⟩ := I.cell p.1 p.2 (hcells p hp)
        exact ⟨o, e⟩
      · obtain ⟨o, e⟩ := low.owned z hz
        exact ⟨o, kg _ _ e⟩
    · obtain ⟨v, hv, hb⟩ := hp x d e
      refine ⟨v, ?_, ?_⟩
      · rcases hb with ⟨h1, h2⟩ | ⟨h1, ca, h2, h3⟩
        · exact ⟨hk', .inl ⟨h1, _, by rw [hL]; exact I.toInCall.ns, h2⟩⟩
        · exact ⟨hk', .inr ⟨.inl h1, ca, h2, (F.cells x ca h2).2, by have := I.cell x ca h2; rw [h3] at this; exact this⟩⟩
      · have h1 := hv.apart av'
        have h2 := h1.grow (W := []) (h' := s₁.heap) (by simp) (fun z o e _ => kg z o e)
        exact VR.cx (c := c) (c' := c.call env s.heap.objs.size) rfl rfl h2
  refine wpAny_mono (run s₁ _ F X) (fun fl s' hf => ?_) fun _ _ e => e
  obtain ⟨v, rfl, g, hv⟩ := hf
  exact q v s' (hR ▸ g) hv
end
end Mine

namespace Mine

theorem triples_snoc {i j : Int} {t u : Tok} {v : Value} : ∀ {l : List Value}, TriplesOk l → TriplesOk (l ++ [.int i t, .int j u, v])
  | [], _ => trivial
  | .int _ _ :: .int _ _ :: _ :: rest, h => triples_snoc (l := rest) h
theorem among_snoc {i j : Int} {t u : Tok} {v cv : Value} {pos : Pos} : ∀ {l : List Value}, TriplesOk l → codeAmong pos (l ++ [.int i t, .int j u, v]) = some cv → codeAmong pos l = some cv ∨ (i = pos.line ∧ cv = v)
  | [], _, h => by
    simp only [List.nil_append, codeAmong] at h
    split at h
    · rename_i hh
      simp only [Bool.and_eq_true, beq_iff_eq] at hh
      cases h
      exact .inr ⟨hh.1, rfl⟩
    · cases h
  | .int a _ :: .int b _ :: x :: rest, hl, h => by
    simp only [List.cons_append, codeAmong] at h ⊢
    split at h
    · rename_i hh
      rw [if_pos hh]; exact .inl h
    · rename_i hh
      rw [if_neg hh]; exact among_snoc (l := rest) hl h

section
variable {c : Cx} {b : Bool} {env : Env} {h g₀ : Heap} {mg mb : Str → Option Value}

/-- what the ground tells of makers of functions -/
structure Maker (c : Cx) (g₀ : Heap) (env : Env) (mg : Str → Option Value) (cc P : Addr) : Prop where
  ns : g₀.Ns mainGlobals mg
  glob : env.globals = mainGlobals
  code : env.code = .ref cc
  hd : CodeHd g₀ cc P
  tab : P ∈ c.tabs
  main : ∃ bm ob, mg "__builtins__" = some (.ref bm) ∧ bm ≠ builtinsNs ∧ g₀.get? bm = some ob ∧ ob.cls = .type "module" ∧ ob.dict = some builtinsNs ∧ ob.data = .plain

/-- a lambda makes a new function -/
theorem ev_lambda (k : c.Ok) (hR : c.R = GrowR c.W) {s : Shared} (a : At c h s) (Fx : Fixed c g₀ s.heap) {cc P : Addr} (M : Maker c g₀ env mg cc P) {params : Arguments} {body : Expr} {scope : Scope} {pos : Pos} {clos : List (Str × Addr)} {E : Value → Shared → Prop} {Q : Value → Shared → Prop}
    (hdef : defaultsOf params env = ([], [])) (hcl : closureFor scope env = pure clos) (hnm : nameOf pos = env.qual ++ "<lambda>")
    (q : ∀ f cv ctv s', c.R s s' → s.heap.get? f = none → s'.heap.get? f = some { cls := .type "function", data := .func (kla_fn "<lambda>" (env.qual ++ "<lambda>") params body scope clos ((mg "__name__").getD .none) cv ctv) } → s'.heap.CodeRec cv (env.qual ++ "<lambda>") → Q (.ref f) s') :
    wpAny (model c.prog c.w) c.A (eval (.Lambda params body scope pos) env) Q E s := by
  have low := a.low.grow a.grow
  obtain ⟨hPW, ps, htb, hcodes⟩ := low.tabsAt P M.tab
  have hg : s.heap.Ns mainGlobals mg := M.ns.keeps Fx.stays
  obtain ⟨bm, ob, b1, b2, b3, b4, b5, b6⟩ := M.main
  have hgP : mainGlobals ≠ P := fun q => by
    obtain ⟨o, es, ep, e, hd, _⟩ := hg
    rw [q, htb.1] at e; cases e; cases hd
  have hbP : bm ≠ P := fun q => by
    have e := Fx.stays _ _ b3
    rw [q, htb.1] at e; cases e; cases b4
  have hbG : bm ≠ mainGlobals := fun q => by
    obtain ⟨o, es, ep, e, hd, _⟩ := M.ns
    rw [q, e] at b3; cases b3; rw [hd] at b6; cases b6
  have BA : s.heap.BuiltinsAt mg P := ⟨bm, ob, b1, b2, hbG, hbP, Fx.stays _ _ b3, b4, b5, b6⟩
  have C : CodeHd s.heap cc P := M.hd.keeps Fx.stays
  refine kla_eval hdef ?_
  cases hc : codeAmong pos ps.toList with
  | some cv =>
    obtain ⟨c', rfl, n, r⟩ := hcodes pos cv hc
    rw [hnm] at r
    refine kla_makeFunctionHit hcl M.glob hg M.code C htb.1 htb.2 hc BA fun ctv h' tk hk hsz => ?_
    have kk : ∀ b o, s.heap.get? b = some o → (h'.push { cls := .type "function", data := .func (kla_fn "<lambda>" (env.qual ++ "<lambda>") params body scope clos ((mg "__name__").getD .none) (.ref c') ctv) }).get? b = some o := fun b o e => Heap.get?_push_of_some _ (hk b o e)
    refine q _ _ ctv _ (R_heap k s tk kk) (Heap.get?_none_of_le hsz) (Heap.get?_push_size _ rfl) (code_keep r fun o ho => kk _ _ ho)
  | none =>
    refine kla_makeFunction hcl M.glob hg M.code C htb.1 htb.2 hc hgP BA fun c' ctv h' tk hx hge hlt hrec htb' => ?_
    have hcn : s.heap.get? c' = none := Heap.get?_none_of_le hge
    have hcW : c' ∉ c.W := fun w => by obtain ⟨o, e⟩ := low.there w; rw [hcn] at e; cases e
    have hrec' : (h'.push (kla_obj "<lambda>" (env.qual ++ "<lambda>") params body scope clos ((mg "__name__").getD .none) c' ctv)).CodeRec (.ref c') (env.qual ++ "<lambda>") := code_keep hrec fun o ho => Heap.get?_push_of_some _ ho
    refine q _ (.ref c') ctv _ ?_ (Heap.get?_none_of_le (Nat.le_of_lt (Nat.lt_of_le_of_lt hge hlt))) (Heap.get?_push_size _ rfl) hrec'
    rw [hR]
    refine ⟨⟨fun b o e n => Heap.get?_push_of_some _ (hx b o (fun z => n (z ▸ hPW)) e), fun b m hb e => ?_, fun b ps₁ hb e => ?_⟩, rfl, id⟩
    · have hne : b ≠ P := fun z => by
        obtain ⟨o, es, ep, e, hd, _⟩ := e
        rw [z, htb.1] at e; cases e; cases hd
      exact e.at' fun o ho => Heap.get?_push_of_some _ (hx b o hne ho)
    · by_cases z : b = P
      · subst z
        have : tabObj ps = tabObj ps₁ := Option.some.inj (htb.1.symm.trans e.1)
        have : ps = ps₁ := by injection this with _ _ d; injection d
        subst this
        have el : (ps ++ #[rawInt pos.line, rawInt pos.col, .ref c']).toList = ps.toList ++ [rawInt pos.line, rawInt pos.col, .ref c'] := by simp
        refine ⟨_, ⟨Heap.get?_push_of_some _ htb', ?_⟩, fun pos' cv' y => ?_⟩
        · rw [el]; exact triples_snoc e.2
        · rw [el] at y
          rcases among_snoc e.2 y with y | ⟨yl, rfl⟩
          · exact .inl y
          · refine .inr ⟨c', rfl, hcW, hcn, ?_⟩
            have : nameOf pos' = nameOf pos := by
              have : pos.line = pos'.line := by exact_mod_cast yl
              simp only [nameOf, this]
            rw [this, hnm]; exact hrec'
      · exact ⟨ps₁, ⟨Heap.get?_push_of_some _ (hx b _ z e.1), e.2⟩, fun _ _ q => .inl q⟩
end
end Mine

namespace Mine

/-- what stood before an address -/
def cut (h : Heap) (L : Addr) : Heap := ⟨h.objs.extract 0 L, h.life⟩
theorem cut_lt {h : Heap} {L b : Nat} (hb : b < L) : (cut h L).get? b = h.get? b := by
  have e : (h.objs.extract 0 L)[b]? = h.objs[b]? := by
    rw [Array.getElem?_extract]
    by_cases hs : b < h.objs.size
    · have : b < min L h.objs.size - 0 := by rw [Nat.sub_zero, Nat.lt_min]; exact ⟨hb, hs⟩
      rw [if_pos this, Nat.zero_add]
    · have h1 : ¬ b < min L h.objs.size - 0 := by rw [Nat.sub_zero, Nat.lt_min]; exact fun q => hs q.2
      have h2 : h.objs[b]? = none := Array.getElem?_eq_none (Nat.le_of_not_lt hs)
      rw [if_neg h1, h2]
  show (match (h.objs.extract 0 L)[b]? with | some ⟨_, _, .freed, _⟩ => none | o => o) = _
  rw [e]; rfl
theorem cut_size (h : Heap) (L : Nat) : (cut h L).objs.size ≤ L := by
  show (h.objs.extract 0 L).size ≤ L
  rw [Array.size_extract]; exact Nat.le_trans (Nat.sub_le _ _) (Nat.min_le_left _ _)
theorem cut_ge {h : Heap} {L b : Addr} (hb : L ≤ b) : (cut h L).get? b = none := Heap.get?_none_of_le (Nat.le_trans (cut_size h L) hb)
theorem cut_sub {h : Heap} {L b : Addr} {o : Obj} (e : (cut h L).get? b = some o) : h.get? b = some o := by
  by_cases hb : b < L
  · rwa [cut_lt hb] at e
  · rw [cut_ge (Nat.le_of_not_lt hb)] at e; cases e

def newsAbove (h : Heap) (L : Addr) : List (Addr × Obj) := (List.range h.objs.size).filterMap fun b => if b ≤ L then none else (h.get? b).map fun o => (b, o)
theorem mem_above {h : Heap} {L b : Addr} {o : Obj} : (b, o) ∈ newsAbove h L ↔ L < b ∧ h.get? b = some o := by
  simp only [newsAbove, List.mem_filterMap, List.mem_range]
  constructor
  · rintro ⟨z, hz, e⟩
    by_cases q : z ≤ L
    · rw [if_pos q] at e; cases e
    · rw [if_neg q] at e
      cases w : h.get? z with
      | none => rw [w] at e; cases e
      | some o' => rw [w] at e; cases e; exact ⟨Nat.lt_of_not_le q, w⟩
  · rintro ⟨h1, h2⟩
    refine ⟨b, Heap.lt_size h2, ?_⟩
    rw [if_neg (Nat.not_le_of_lt h1), h2]; rfl

theorem island_fr {h : Heap} {L : Addr} {m : Str → Option Value} (hn : h.Ns L m) : Fr (cut h L) L h m := ⟨hn, fun _ _ e => cut_sub e, cut_size _ _⟩
theorem island_news (h : Heap) (L : Addr) : News (cut h L) L h (newsAbove h L) := fun p hp => by
  obtain ⟨b, o⟩ := p
  obtain ⟨h1, h2⟩ := mem_above.mp hp
  exact ⟨h2, Nat.ne_of_gt h1, cut_ge (Nat.le_of_lt h1)⟩
theorem island_keep {h h' : Heap} {L : Addr} {m : Str → Option Value} {news' : List (Addr × Obj)} (F : Fr (cut h L) L h' m) (N : News (cut h L) L h' (news' ++ newsAbove h L)) : ∀ b o, b ≠ L → h.get? b = some o → h'.get? b = some o := fun b o hb e => by
  by_cases q : b < L
  · exact F.keep b o ((cut_lt q).trans e)
  · exact (N _ (List.mem_append_right _ (mem_above.mpr ⟨Nat.lt_of_le_of_ne (Nat.le_of_not_lt q) (Ne.symm hb), e⟩))).1

section
variable {c : Cx} {b : Bool} {env : Env} {h g₀ : Heap} {e₀ r s : Shared} {Wc : List Addr} {σ : Tab} {ow : Owned}

theorem island_step {W : List Addr} {s : Shared} {h' : Heap} {tk : Nat} {L : Addr} {m : Str → Option Value} (hL : L ∈ W) (hn : s.heap.Ns L m) (hk : ∀ b o, b ≠ L → s.heap.get? b = some o → h'.get? b = some o) (hn' : h'.Ns L m) : GrowR W s { s with heap := h', toks := tk } := by
  refine ⟨⟨fun b o e n => hk b o (fun z => n (z ▸ hL)) e, fun b m' hb e => ?_, fun b ps hb e => ?_⟩, rfl, id⟩
  · by_cases z : b = L
    · subst z; rw [ns_unique e hn]; exact hn'
    · exact e.at' fun o ho => hk b o z ho
  · refine ⟨ps, ⟨hk b _ (fun z => ?_) e.1, e.2⟩, fun _ _ q => .inl q⟩
    obtain ⟨o, es, ep, ho, hd, _⟩ := hn
    have := e.1
    rw [z, ho] at this; cases this; cases hd

/-- what stands before the frame, for the kit's own steps -/
theorem island_ground (F : Fn c env e₀ Wc) (X : Run c env e₀ r Wc σ ow s) (hL : e₀.heap.objs.size ≤ env.locals) (G : ∀ b o, g₀.get? b = some o → e₀.heap.get? b = some o ∧ b ∉ Wc) : g₀.StaysIn (cut s.heap env.locals) := fun b o e => by
  obtain ⟨h1, h2⟩ := G b o e
  have hb : b < env.locals := Nat.lt_of_lt_of_le (Heap.lt_size h1) hL
  rw [cut_lt hb]
  exact X.since.heap.keep b o h1 h2
theorem island_frames {A₀ : Around} (F : Fn c env e₀ Wc) (X : Run c env e₀ r Wc σ ow s) (hL : e₀.heap.objs.size ≤ env.locals) (G : ∀ b o, g₀.get? b = some o → e₀.heap.get? b = some o ∧ b ∉ Wc) {outer : List Env} (hA : A₀.frames = some outer)
    (hf : ∀ e ∈ outer, e.scope.kind ≠ .module ∧ ∃ L ∈ Wc, L ∉ c.tabs ∧ L < env.locals ∧ e.frame = some L) : Below A₀ g₀ outer (cut s.heap env.locals) := by
  refine ⟨hA, island_ground F X hL G, ?_⟩
  clear hA
  induction outer with
  | nil => trivial
  | cons e l ih =>
    obtain ⟨hk, L, hLW, hT, hlt, hf'⟩ := hf e List.mem_cons_self
    obtain ⟨m, o, es, ep, ho, hd, _⟩ := X.at_.low.frames L (F.subW L hLW) hT
    refine ⟨hk, ⟨L, o, hf', ?_, (cut_lt hlt).trans ho, fun vs q => by rw [hd] at q; cases q⟩, ih fun e' he' => hf e' (List.mem_cons_of_mem _ he')⟩
    cases q : g₀.get? L with
    | none => rfl
    | some o' => exact absurd hLW (G L o' q).2
end
end Mine

namespace Mine
namespace MapF
theorem mro_map : mroOf (.type "map") = pure [.type "map", .type "object"] := by rw [mroOf_type]; kernel_rfl
theorem lookup_map_new : typeLookup (.type "map") "__new__" = pure (some (.builtin "map.__new__")) := by rw [typeLookup_type, builtinLookup_eq_fast]; kernel_rfl
theorem slot_map_init : Slot "map" "__init__" "object.__init__" :=
  Slot.of (T := "map") (name := "__init__") (owner := "object") (n := "__init__") (by rw [typeLookup_type, builtinLookup_eq_fast]; kernel_rfl) (by decide +kernel) (by decide +kernel) (by decide +kernel)
    (.inl (by decide +kernel)) (by rw [isSubtype_type]; kernel_rfl)
theorem called_map : TypeCalled "map" "map.__new__" "object.__init__" :=
  ⟨by decide +kernel, by decide +kernel, ⟨_, _, mro_map⟩, madeBy_type mro_map lookup_map_new (by decide +kernel), by decide +kernel, by rw [isSubtype_type]; kernel_rfl, slot_map_init⟩
theorem typeCall_map_2 (a b : Value) : checkTypeCall "map" ⟨[a, b], []⟩ = pure () := by kernel_rfl
theorem newCall_map_2 (a b : Value) : checkBuiltinCall "map.__new__" ⟨[.type "map", a, b], []⟩ = pure () := by kernel_rfl
theorem args_object_init_3 (obj a b : Value) : argsOk "object.__init__" ⟨[obj, a, b], []⟩ := by unfold argsOk; kernel_rfl
theorem entry_map_new : entryFor table "map.__new__" = some Builtin.«map.__new__» := entryFor_of_tree (by kernel_rfl)
theorem sub_map : isSubtype (.type "map") (.type "map") = pure true := by rw [isSubtype_type]; kernel_rfl
end MapF
open Builtin.SmallTypes in
theorem meets_map_new {prog : Program} {w : World} (f v : Value) : MeetsIn prog w (Builtin.«map.__new__» ⟨[.type "map", f, v], []⟩) (fun A R s =>
    wpAny (model prog w) A.in1 (pyIter v) (fun it s₁ => R (.ok (.ret (.ref (s₁.heap.objs.size + 1)))) { s₁ with heap := (s₁.heap.push { cls := .type "tuple", data := .seq #[it] }).push { cls := .type "map", data := .fields #[.ref s₁.heap.objs.size, f] } }) (fun e s' => R (.error e) s') s) := by
  intro A R s h
  have hsub := MapF.sub_map
  obtain ⟨hp, g, d, tk, os⟩ := s
  have hit : ∀ {Q : Value → Shared → Prop}, (∀ it s₁, R (.ok (.ret (.ref (s₁.heap.objs.size + 1)))) { s₁ with heap := (s₁.heap.push { cls := .type "tuple", data := .seq #[it] }).push { cls := .type "map", data := .fields #[.ref s₁.heap.objs.size, f] } } → Q it s₁) → wpAny (model prog w) A.in1 (pyIter v) Q (fun e s' => R (.error e) s') ⟨hp, g, d, tk, os⟩ := fun k => wpAny_mono h k fun _ _ e => e
  wp_walk using hit
  intro it s₁ hr
  refine wpAny_pure ?_
  refine wpAny_pure ?_
  refine wpAny_pure ?_
  refine wpAny_bind (wpAny_newTuple ?_ (by show 1 ≤ sizeLine; decide))
  show wpAny _ _ (newObj (.type "map") (.fields #[.ref s₁.heap.objs.size, f]) >>= _) _ _ _
  refine wpAny_bind (wpAny_newObj_type ?_ (by size_fits))
  refine wpAny_pure ?_
  have e : (s₁.heap.push { cls := Value.type "tuple", data := Data.seq [it].toArray }).objs.size = s₁.heap.objs.size + 1 := Heap.size_push _ _
  show R (.ok (.ret (.ref (s₁.heap.push { cls := Value.type "tuple", data := Data.seq [it].toArray }).objs.size))) { s₁ with heap := (s₁.heap.push { cls := Value.type "tuple", data := Data.seq [it].toArray }).push { cls := .type "map", data := .fields #[.ref s₁.heap.objs.size, f] } }
  rw [e]
  exact hr
theorem call_map {prog : Program} {w : World} {A : Around} {E : Value → Shared → Prop} {s : Shared} {f v : Value} {Q : Value → Shared → Prop}
    (h : wpAny (model prog w) A.in1.in1 (pyIter v) (fun it s₁ => Q (.ref (s₁.heap.objs.size + 1)) { s₁ with heap := (s₁.heap.push { cls := .type "tuple", data := .seq #[it] }).push { cls := .type "map", data := .fields #[.ref s₁.heap.objs.size, f] } }) E s) :
    wpAny (model prog w) A (call (.type "map") [f, v]) Q E s := by
  refine callType_newIn MapF.called_map (by decide) (MapF.typeCall_map_2 _ _) (MapF.newCall_map_2 _ _) (fun obj => MapF.args_object_init_3 obj _ _) MapF.entry_map_new (meets_map_new f v) ?_
  refine wpAny_mono h (fun it s₁ hq => ?_) fun _ _ e => e
  have e := Heap.get?_push_size (s₁.heap.push { cls := .type "tuple", data := .seq #[it] }) (o := { cls := .type "map", data := .fields #[.ref s₁.heap.objs.size, f] }) rfl
  rw [Heap.size_push] at e
  exact ⟨⟨_, e, rfl⟩, hq⟩
end Mine

namespace Mine
section
variable {c : Cx} {b : Bool} {env : Env} {h g₀ : Heap} {e₀ r s : Shared} {Wc : List Addr} {σ : Tab} {ow : Owned} {mg mb : Str → Option Value} {E : Value → Shared → Prop} {Q : Flow → Shared → Prop}

/-- what the kit's own steps show of an expression whose value is then walked -/
def Island (c : Cx) (env : Env) (g₀ : Heap) (e : Expr) : Prop :=
  ∀ (s : Shared) (m : Str → Option Value) (Q : Value → Shared → Prop) (E : Value → Shared → Prop), s.heap.Ns env.locals m → g₀.StaysIn (cut s.heap env.locals) → (∃ outer A₀, c.A = A₀.deeper env ∧ Below A₀ g₀ outer (cut s.heap env.locals)) →
    (∀ v h' tk, (∀ b o, b ≠ env.locals → s.heap.get? b = some o → h'.get? b = some o) → h'.Ns env.locals m → Q v { s with heap := h', toks := tk }) →
    wpAny (model c.prog c.w) c.A (eval e env) (fun v s₁ => wpAny (model c.prog c.w) c.A.in1.in1 (pyIter v) Q E s₁) E s

theorem ex_mapCount (F : Fn c env e₀ Wc) (X : Run c env e₀ r Wc σ ow s) (G : ∀ b o, g₀.get? b = some o → e₀.heap.get? b = some o ∧ b ∉ Wc) (hL : e₀.heap.objs.size ≤ env.locals) {A₀ : Around} {outer : List Env} (hA : c.A = A₀.deeper env) (hA₀ : A₀.frames = some outer)
    (hf : ∀ e ∈ outer, e.scope.kind ≠ .module ∧ ∃ L ∈ Wc, L ∉ c.tabs ∧ L < env.locals ∧ e.frame = some L) {cc P : Addr} (M : Maker c g₀ env mg cc P)
    {x f : Str} {p p1 p3 lpos pos : Pos} {params : Arguments} {body e : Expr} {scope : Scope} {clos : List (Str × Addr)} (hx : Stores env x) (hno : ∀ p ∈ ow, p.1 ≠ x) (g : Gl c env s.heap f (.type "map")) (isl : Island c env g₀ e)
    (hdef : defaultsOf params env = ([], [])) (hcl : closureFor scope env = pure clos) (hnm : nameOf lpos = env.qual ++ "<lambda>")
    (q : ∀ s', Run c env e₀ r Wc (delV x σ) ow s' → Q .next s')
    (he : starEach [.Lambda params body scope lpos, e] env = (false, eval (.Lambda params body scope lpos) env) :: starEach [e] env := by rfl) (he' : starEach [e] env = [(false, eval e env)] := by rfl)
    (hs : swapsWith (.Call (.Name f p1) [.Lambda params body scope lpos, e] [] p3) (some (.Name x p)) pos.line env = pure false := by rfl) :
    wpAny (model c.prog c.w) c.A (exec (.Assign [.Name x p] (.Call (.Name f p1) [.Lambda params body scope lpos, e] [] p3) pos) env) Q E s := by
  have k := F.ok
  refine wpAny_Assign_Name ?_ hs
  refine Call_ (g p1 s _ _ X.at_ (PyProof.Rows.callWith_type1 (wpAny_items_cons (ev_lambda k F.rel X.at_ (Run.fixed F G X) M hdef hcl hnm fun fa cv ctv s₁ y hn ho hr => wpAny_items_cons ?_ he') he) he (by rw [he']; rfl))) rfl
  have X₁ := X.step F y
  have hLW : env.locals ∈ c.W := by rw [F.W]; exact List.mem_cons_self
  obtain ⟨m, hm⟩ := X₁.at_.low.frames env.locals hLW F.notTab
  refine wpAny_mono (isl s₁ m (fun it s₂ => _) _ hm (island_ground F X₁ hL G) ⟨outer, A₀, hA, island_frames F X₁ hL G hA₀ hf⟩ fun it h' tk hk hn' => ?_) (fun v s₂ hv => wpAny_items_nil (call_map hv)) fun _ _ e => e
  have X₂ := X₁.step F (s' := { s₁ with heap := h', toks := tk }) (by rw [F.rel]; exact island_step hLW hm hk hn')
  have X₃ := X₂.step F (R_heap k { s₁ with heap := h', toks := tk } (h' := (h'.push { cls := .type "tuple", data := .seq #[it] }).push { cls := .type "map", data := .fields #[.ref h'.objs.size, .ref fa] }) tk fun b o e => Heap.get?_push_of_some _ (Heap.get?_push_of_some _ e))
  exact X₃.put F hx hno fun s₄ X₄ _ _ _ => q s₄ X₄
end
end Mine

namespace Mine
section
variable {c : Cx} {b : Bool} {env : Env} {h : Heap}

/-- a text or nothing -/
def opt : Option Str → D
  | none => .none
  | some x => .str x
theorem Cm.eqOpt (k : c.Ok) {x : Option Str} {y : Str} : Cm c h .Eq (opt x) (.str y) (x == some y) := by
  cases x with
  | none => exact fun _ _ s _ _ _ e₁ ⟨_, e₂⟩ q => by cases e₁; subst e₂; exact PySem.EqNone.eq_none_str (q _ (k.refl s))
  | some x =>
    intro v₁ v₂ s Q E a x₁ x₂ q
    obtain ⟨_, rfl⟩ := x₁
    obtain ⟨_, rfl⟩ := x₂
    refine eq_str ?_
    have : (some x == some y) = (x == y) := by simp
    rw [← this]; exact q _ (k.refl s)
theorem Cm.neOpt (k : c.Ok) {x : Option Str} {y : Str} : Cm c h .NotEq (opt x) (.str y) (x != some y) := by
  cases x with
  | none => exact fun _ _ s _ _ _ e₁ ⟨_, e₂⟩ q => by cases e₁; subst e₂; exact PySem.EqNone.ne_none_str (q _ (k.refl s))
  | some x =>
    intro v₁ v₂ s Q E a x₁ x₂ q
    obtain ⟨_, rfl⟩ := x₁
    obtain ⟨_, rfl⟩ := x₂
    refine ne_str ?_
    have : (some x != some y) = (x != y) := by simp [bne]
    rw [← this]; exact q _ (k.refl s)
theorem Cm.isOpt (k : c.Ok) {x : Option Str} : Cm c h .Is (opt x) .none x.isNone := by
  cases x with
  | none => exact fun _ _ s _ _ _ e₁ e₂ q => by cases e₁; cases e₂; exact wpAny_is_self (by rfl) (q _ (k.refl s))
  | some x => exact fun _ _ s _ _ _ ⟨_, e₁⟩ e₂ q => by subst e₁; cases e₂; exact wpAny_is_other (by rfl) (by nofun) (q _ (k.refl s))
theorem Cm.inStr (k : c.Ok) {x y : Str} : Cm c h .In (.str y) (.str x) (Txt.contains x y) := fun _ _ s _ _ _ ⟨_, e₁⟩ ⟨_, e₂⟩ q => by subst e₁ e₂; exact SB.contains (q _ (k.refl s))
theorem Cm.notinStr (k : c.Ok) {x y : Str} : Cm c h .NotIn (.str y) (.str x) (!Txt.contains x y) := fun _ _ s _ _ _ ⟨_, e₁⟩ ⟨_, e₂⟩ q => by subst e₁ e₂; exact SB.notContains (q _ (k.refl s))

/-- (x, y), of texts -/
theorem Ev.tup2 (k : c.Ok) {x y : Str} {e₁ e₂ : Expr} {n : Nat} {pos : Pos} (h1 : Ev c false env h e₁ (.str x)) (h2 : Ev c false env h e₂ (.str y)) (he : starEach [e₁, e₂] env = [(false, eval e₁ env), (false, eval e₂ env)] := by rfl) (he' : starEach [e₂] env = [(false, eval e₂ env)] := by rfl) :
    Ev c b env h (.Tuple [e₁, e₂] n pos) (.tstrs [x, y]) := fun s Q E a q =>
  Tuple_ (wpAny_items_cons (h1.mono a fun v s₁ r₁ x₁ => wpAny_items_cons (h2.mono (a.next k r₁) fun w s₂ r₂ x₂ => wpAny_items_nil (wpAny_newTuple (by
    have r₃ := R_push k s₂ { cls := .type "tuple", data := .seq [v, w].toArray } s₂.toks
    have a₂ := (a.next k r₁).next k r₂
    obtain ⟨t, rfl⟩ := x₁
    obtain ⟨u, rfl⟩ := x₂
    exact q _ _ (k.trans (k.trans r₁ r₂) r₃) ⟨_, [.str x t, .str y u], rfl, a₂.fresh b _ (Nat.le_refl _), ⟨_, Heap.get?_push_size _ rfl, rfl, 0, rfl⟩, .cons _ _ (.cons _ _ .nil)⟩))) he') (by rw [he, he']))
theorem Ev.tup3 (k : c.Ok) {x y z : Str} {e₁ e₂ e₃ : Expr} {n : Nat} {pos : Pos} (h1 : Ev c false env h e₁ (.str x)) (h2 : Ev c false env h e₂ (.str y)) (h3 : Ev c false env h e₃ (.str z)) (he : starEach [e₁, e₂, e₃] env = [(false, eval e₁ env), (false, eval e₂ env), (false, eval e₃ env)] := by rfl) (he' : starEach [e₂, e₃] env = [(false, eval e₂ env), (false, eval e₃ env)] := by rfl) (he'' : starEach [e₃] env = [(false, eval e₃ env)] := by rfl) :
    Ev c b env h (.Tuple [e₁, e₂, e₃] n pos) (.tstrs [x, y, z]) := fun s Q E a q =>
  Tuple_ (wpAny_items_cons (h1.mono a fun v s₁ r₁ x₁ => wpAny_items_cons (h2.mono (a.next k r₁) fun w s₂ r₂ x₂ => wpAny_items_cons (h3.mono ((a.next k r₁).next k r₂) fun w' s₃ r₃ x₃ => wpAny_items_nil (wpAny_newTuple (by
    have r₄ := R_push k s₃ { cls := .type "tuple", data := .seq [v, w, w'].toArray } s₃.toks
    have a₃ := ((a.next k r₁).next k r₂).next k r₃
    obtain ⟨t, rfl⟩ := x₁
    obtain ⟨u, rfl⟩ := x₂
    obtain ⟨u', rfl⟩ := x₃
    exact q _ _ (k.trans (k.trans (k.trans r₁ r₂) r₃) r₄) ⟨_, [.str x t, .str y u, .str z u'], rfl, a₃.fresh b _ (Nat.le_refl _), ⟨_, Heap.get?_push_size _ rfl, rfl, 0, rfl⟩, .cons _ _ (.cons _ _ (.cons _ _ .nil))⟩))) he'') (by rw [he', he''])) (by rw [he, he']))
end
end Mine

namespace Mine

/-- a step, then one that leaves all but an iterator -/
theorem GrowH.but {W : List Addr} {h₀ h h₁ t : Heap} {I : Addr} (sub : ∀ b o, h₀.get? b = some o → h.get? b = some o) (n0 : h₀.get? I = none) (hI : ∃ o, h.get? I = some o) (hW : I ∉ W) (g : GrowH W h h₁)
    (k : ∀ b o, b ≠ I → h₁.get? b = some o → t.get? b = some o) : GrowH W h₀ t := by
  refine ⟨fun b o e n => k b o (fun q => by rw [q, n0] at e; cases e) (g.keep b o (sub b o e) n), fun b m hb e => (g.ns b m hb (e.keeps sub)).at' fun o ho => k b o (fun q => hW (q ▸ hb)) ho, fun b ps hb e => ?_⟩
  obtain ⟨ps', e', q⟩ := g.tab b ps hb ⟨sub _ _ e.1, e.2⟩
  refine ⟨ps', ⟨k b _ (fun q => hW (q ▸ hb)) e'.1, e'.2⟩, fun pos cv z => ?_⟩
  rcases q pos cv z with z | ⟨c', rfl, n, z, r⟩
  · exact .inl z
  · refine .inr ⟨c', rfl, n, ?_, code_keep r fun o ho => k c' o (fun q => ?_) ho⟩
    · cases w : h₀.get? c' with
      | none => rfl
      | some o => rw [sub _ _ w] at z; cases z
    · obtain ⟨o', ho'⟩ := hI
      rw [q, ho'] at z; cases z

section
variable {c : Cx} {b : Bool} {env : Env} {h g₀ : Heap} {mg mb : Str → Option Value}

theorem tab_step {low : Low c h} {P : Addr} {ps : Array Value} {h' : Heap} {c' : Addr} {pos : Pos} {qual : Str} (hPW : P ∈ c.W) (htb : Tbl h P ps) (hnm : nameOf pos = qual) (hx : Heap.ExtBut P h h') (hge : h.objs.size ≤ c') (hrec : h'.CodeRec (.ref c') qual)
    (htb' : h'.get? P = some (tabObj (ps ++ #[rawInt pos.line, rawInt pos.col, .ref c']))) : GrowH c.W h h' := by
  have hcn : h.get? c' = none := Heap.get?_none_of_le hge
  have hcW : c' ∉ c.W := fun w => by obtain ⟨o, e⟩ := low.there w; rw [hcn] at e; cases e
  refine ⟨fun b o e n => hx b o (fun z => n (z ▸ hPW)) e, fun b m hb e => ?_, fun b ps₁ hb e => ?_⟩
  · have hne : b ≠ P := fun z => by
      obtain ⟨o, es, ep, e, hd, _⟩ := e
      rw [z, htb.1] at e; cases e; cases hd
    exact e.at' fun o ho => hx b o hne ho
  · by_cases z : b = P
    · subst z
      have : tabObj ps = tabObj ps₁ := Option.some.inj (htb.1.symm.trans e.1)
      have : ps = ps₁ := by injection this with _ _ d; injection d
      subst this
      have el : (ps ++ #[rawInt pos.line, rawInt pos.col, .ref c']).toList = ps.toList ++ [rawInt pos.line, rawInt pos.col, .ref c'] := by simp
      refine ⟨_, ⟨htb', ?_⟩, fun pos' cv' y => ?_⟩
      · rw [el]; exact triples_snoc e.2
      · rw [el] at y
        rcases among_snoc e.2 y with y | ⟨yl, rfl⟩
        · exact .inl y
        · refine .inr ⟨c', rfl, hcW, hcn, ?_⟩
          have : nameOf pos' = nameOf pos := by
            have : pos.line = pos'.line := by exact_mod_cast yl
            simp only [nameOf, this]
          rw [this, hnm]; exact hrec
    · exact ⟨ps₁, ⟨hx b _ z e.1, e.2⟩, fun _ _ q => .inl q⟩

/-- the code of a generator expression: there already, or new -/
theorem gen_code {s : Shared} (low : Low c s.heap) (Fx : Fixed c g₀ s.heap) {cc P : Addr} (M : Maker c g₀ env mg cc P) {scope : Scope} {pos : Pos} {qual : Str} {E : Value → Shared → Prop} {Q : Value → Shared → Prop} (hnm : nameOf pos = qual)
    (q : ∀ cv h' tk, GrowH c.W s.heap h' → s.heap.objs.size ≤ h'.objs.size → Q cv { s with heap := h', toks := tk }) : wpAny (model c.prog c.w) c.A (genexprCode env pos qual scope) Q E s := by
  obtain ⟨hPW, ps, htb, hcodes⟩ := low.tabsAt P M.tab
  have C : CodeHd s.heap cc P := M.hd.keeps Fx.stays
  cases hc : codeAmong pos ps.toList with
  | some cv => exact wpAny_genexprCode_hit M.code (C.code htb.1 htb.2) hc (q cv s.heap s.toks (GrowH.refl _ _) (Nat.le_refl _))
  | none => exact wpAny_genexprCodeX M.code (C.code htb.1 htb.2) (C.tab htb.1) hc fun c' h' tk hx hge hlt _ hrec htb' _ => q _ _ _ (tab_step (low := low) hPW htb hnm hx hge hrec htb'.2) (Nat.le_trans hge (Nat.le_of_lt hlt))

/-- tuple(elt for x in texts) -/
theorem Ev.tupGen (k : c.Ok) (hR : c.R = GrowR c.W) (hgen : c.gen) (hh : c.A.handled = none) (hdep : c.A.depth ≤ 550) (huni : c.A.units ≤ 180) (Fx : Fixed c g₀ h) (hlim : g₀.NoLimit) {cc P : Addr} (M : Maker c g₀ env mg cc P)
    {f : Str} {p pos gpos px : Pos} (gt : Gl c env h f (.type "tuple")) {elt iter : Expr} {x : Str} {scope : Scope} {cl : List (Str × Addr)} (hco : scope.isCoroutine = false) (hclos : closureFor scope env = pure cl) (hcell : ∀ y ∈ scope.names, y.2 ≠ .cell) (h0 : scope.names.lookup (".0" : Str) = some NameKind.local)
    (hx : scope.names.lookup x = some .local) (hkind : scope.kind = .function) (hnm : nameOf gpos = env.qual ++ "<genexpr>") {xs : List Str} (g : Str → Str) (h1 : Ev c false env h iter (.strs xs)) (hsz : xs.length ≤ sizeLine)
    (hel : ∀ (A' : Around) (C : Addr) code h' v y, A'.depth ≤ 560 → A'.units ≤ 200 → y ∈ xs → Atm (.str y) v → Turn c h x C v h' → Ev { c.in with A := A' } false (genEnv scope cl C code builtinsNs env) h' elt (.str (g y)))
    (he : starEach [.GeneratorExp elt [⟨.Name x px, iter, [], 0⟩] scope gpos] env = [(false, eval (.GeneratorExp elt [⟨.Name x px, iter, [], 0⟩] scope gpos) env)] := by rfl) (hs : ∀ x, genFold iter env x = pure x := by intro _; rfl)
    (hq : ∀ env : Env, eval (Expr.Call (.Name f p) [.GeneratorExp elt [⟨.Name x px, iter, [], 0⟩] scope gpos] [] pos) env = (do let y ← eval (.Name f p) env; callWith pos y [] (backTo pos (starEach [.GeneratorExp elt [⟨.Name x px, iter, [], 0⟩] scope gpos] env)) (backToKw pos (keywordEach [] env))) := by intro _; rfl) :
    Ev c b env h (.Call (.Name f p) [.GeneratorExp elt [⟨.Name x px, iter, [], 0⟩] scope gpos] [] pos) (.tstrs (xs.map g)) := fun s Q E a q => by
  refine Call_ (gt p s _ E a (PyProof.Rows.callWith_type1 (wpAny_items_cons ?_ he) he)) (hq env)
  refine wpAny_GeneratorExp_walksQD hh hco hclos hcell h0 hx hkind (by have : recursionLimit = 1000 := rfl; omega) (h1.mono a fun lv s₁ r₁ x₁ => ?_) hs
  obtain ⟨l, vs, rfl, hlav, hl, hvs⟩ := x₁
  have a₁ := a.next k r₁
  refine wpAny_pyIter_list hl.isList ?_
  have hI0 : s₁.heap.get? s₁.heap.objs.size = none := Heap.get?_none_of_le (Nat.le_refl _)
  have hIW : s₁.heap.objs.size ∉ c.W := fun w => (a₁.fresh false _ (Nat.le_refl _)) (c.av_sub false _ w)
  have low₁ := a₁.low.grow a₁.grow
  have Fx₁ : Fixed c g₀ s₁.heap := Fx.grow a₁.grow
  generalize hio : ({ cls := .type "list_iterator", data := .fields #[.ref l, .int 0 0] } : Obj) = io
  have kp : ∀ b o, s₁.heap.get? b = some o → (s₁.heap.push io).get? b = some o := fun b o e => Heap.get?_push_of_some _ e
  have hIo : (s₁.heap.push io).get? s₁.heap.objs.size = some io := Heap.get?_push_size _ (by rw [← hio]; rfl)
  have low₂ : Low c (s₁.heap.push io) := low₁.grow (grow_of_keeps kp _)
  have Fx₂ : Fixed c g₀ (s₁.heap.push io) := Fx₁.grow (grow_of_keeps kp _)
  have hlim₂ : (s₁.heap.push io).NoLimit := by obtain ⟨mc, hm, hn⟩ := hlim; exact ⟨mc, hm.keeps Fx₂.stays, hn⟩
  refine ⟨hlim₂, gen_code (s := { s₁ with heap := s₁.heap.push io }) low₂ Fx₂ M hnm fun cv h₃ tk₃ g₃ hsz₃ => ?_⟩
  have Fx₃ : Fixed c g₀ h₃ := Fx₂.grow g₃
  have hlim₃ : h₃.NoLimit := by obtain ⟨mc, hm, hn⟩ := hlim; exact ⟨mc, hm.keeps Fx₃.stays, hn⟩
  have hcs : cStatics ≠ s₁.heap.objs.size := fun q => by
    obtain ⟨mc, ⟨o, es, ep, e, _⟩, hn⟩ := hlim
    have := Fx₁.stays _ _ e
    rw [q, hI0] at this; cases this
  obtain ⟨bm, ob, b1, b2, b3, b4, b5, b6⟩ := M.main
  have hbf : h₃.Ns env.globals mg := by rw [M.glob]; exact M.ns.keeps Fx₃.stays
  refine wpAny_builtinsFor (s := { s₁ with heap := h₃, toks := tk₃ }) hbf b1 b2 (Fx₃.stays _ _ b3) b4 b5 b6 ?_
  have hlI : l ≠ s₁.heap.objs.size := fun q => by obtain ⟨n, e⟩ := hl; rw [q, hI0] at e; cases e
  have hlW : l ∉ c.W := fun w => hlav (c.av_sub false _ w)
  have hI₃ : h₃.get? s₁.heap.objs.size = some io := g₃.keep _ _ hIo hIW
  have hl₃ : Ls h₃ l vs.toArray := hl.at fun o ho => g₃.keep _ _ (kp _ _ ho) hlW
  have hlen : vs.length = xs.length := hvs.length
  have itv : ∀ {i : Nat} {v : Value}, vs.toArray[i]? = some v → ∃ y, xs[i]? = some y ∧ y ∈ xs ∧ Atm (.str y) v := fun {i v} hv => by
    have hi : i < xs.length := by
      have := (Array.getElem?_eq_some_iff.mp hv).1
      simp at this; omega
    obtain ⟨u, hu⟩ := hvs.get i xs[i] (by simp [hi])
    have : vs[i]? = some v := by simpa using hv
    rw [this] at hu
    exact ⟨xs[i], by simp [hi], List.getElem_mem hi, u, Option.some.inj hu⟩
  have grow_t : ∀ t : Heap, (∀ b o, b ≠ s₁.heap.objs.size → h₃.get? b = some o → t.get? b = some o) → GrowH c.W s₁.heap t := fun t kt => GrowH.but kp hI0 ⟨_, hIo⟩ hIW g₃ kt
  refine ⟨s₁.heap.objs.size, [s₁.heap.objs.size, l], [s₁.heap.objs.size], vs.toArray.size, fun i v => vs.toArray[i]? = some v, fun i h => h.IsListIter s₁.heap.objs.size l i ∧ h.IsList l vs.toArray, fun _ => true, fun i y => ∃ z, xs[i]? = some z ∧ ∃ t, y = .str (g z) t, rfl,
    fun A' hA => Walks.list hA _ _ hlI _, ⟨⟨_, hI₃, by rw [← hio], by rw [← hio]; rfl⟩, hl₃.isList⟩, ?_, hlim₃, ?_, fun href hhref => ⟨?_, ?_⟩, ?_⟩
  · intro z hz
    have hlt : s₁.heap.objs.size < h₃.objs.size := Heap.lt_size hI₃
    rcases List.mem_cons.mp hz with rfl | hz
    · exact hlt
    · rw [List.mem_singleton.mp hz]
      obtain ⟨n, e⟩ := hl₃
      exact Heap.lt_size e
  · simpa using hcs
  · intro A' E' i v s₂ m₂ hA hd hu hP hn hm hk
    exact wpAny_tests_nil ⟨rfl, keeps_refl _⟩
  · intro A' E' i v s₂ m₂ hA hd hu hP _ hn hm hk
    obtain ⟨y, hy, hyx, hv⟩ := itv hP
    have gt : GrowH c.W s₁.heap s₂.heap := grow_t s₂.heap fun b o hb e => hk b (List.mem_range.mpr (Heap.lt_size e)) (by simpa using hb) o (hhref b o e)
    have g' := a₁.grow.trans gt
    have lo := a.low.grow g'
    refine hel A' _ cv s₂.heap v y (by omega) (by omega) hyx hv ⟨g', lo, m₂, hn, hm⟩ s₂ _ E' ⟨GrowH.refl _ _, fun f => f.elim, ⟨lo.frames, lo.tabsAt, lo.owned⟩⟩ fun v' s' r z => ⟨⟨y, hy, z⟩, r⟩
  · intro ga h₅ tk gs hbare hga hsz₅ hk₅ W hat
    refine wpAny_items_nil ?_
    have hpass : passing (fun _ => true) vs.toArray.size 0 = List.range xs.length := by simp [passing, hlen]
    rw [hpass] at W
    refine call_tuple_gen (hsz := by simpa using hsz) W.in4_3 (fun i s' st => st.1.typeIs) hat (fun z hz => ?_) List.mem_cons_self fun s' acc hm hacc => ?_
    · show z < h₅.objs.size
      rw [hsz₅]
      rcases List.mem_cons.mp hz with rfl | hz
      · exact Nat.lt_succ_self _
      · rcases List.mem_cons.mp hz with rfl | hz
        · exact Nat.lt_succ_of_lt hga
        · exact Nat.lt_succ_of_lt (Nat.lt_trans (List.mem_range.mp hz) hga)
    · have kk : ∀ b o, b ≠ s₁.heap.objs.size → h₃.get? b = some o → (s'.heap.push { cls := .type "tuple", data := .seq acc }).get? b = some o := fun b o hb e => Heap.get?_push_of_some _ (hm.heap b o (fun w => by
        rcases List.mem_cons.mp w with rfl | w
        · exact Nat.lt_irrefl _ (Heap.lt_size e)
        · exact hb (List.mem_singleton.mp w)) (hk₅ b o e))
      have gr : c.R s₁ { s' with heap := s'.heap.push { cls := .type "tuple", data := .seq acc } } := by
        rw [hR]
        exact ⟨grow_t _ kk, hm.os, fun ab => AllBare.moved (ab.push hbare) hm.gens⟩
      refine q _ _ (k.trans r₁ gr) ⟨_, acc.toList, rfl, ?_, ⟨_, Heap.get?_push_size _ rfl, rfl, 0, by simp⟩, ?_⟩
      · have kk' : ∀ b o, b ≠ s₁.heap.objs.size → h₃.get? b = some o → s'.heap.get? b = some o := fun b o hb e => hm.heap b o (fun w => by
          rcases List.mem_cons.mp w with rfl | w
          · exact Nat.lt_irrefl _ (Heap.lt_size e)
          · exact hb (List.mem_singleton.mp w)) (hk₅ b o e)
        have gr' : c.R s₁ s' := by
          rw [hR]
          exact ⟨grow_t _ kk', hm.os, fun ab => AllBare.moved (ab.push hbare) hm.gens⟩
        exact a.fresh' b (none_before k a (k.trans r₁ gr') (Heap.get?_none_of_le (Nat.le_refl _)))
      · refine strsOfPaired (paired_of_places (K := kStr) _ _ (by simp [hacc.1]) fun i v hv => ?_)
        obtain ⟨j, hj, y, hy, z⟩ := hacc.2 i v (by simpa using hv)
        obtain ⟨_, ej⟩ := List.getElem?_eq_some_iff.mp hj
        rw [List.getElem_range] at ej
        subst ej
        exact ⟨_, by rw [List.getElem?_map, hy]; rfl, z⟩
end
end Mine

namespace Mine
section
variable {c : Cx} {b : Bool} {env : Env} {h g₀ : Heap} {e₀ r s : Shared} {Wc : List Addr} {σ : Tab} {ow : Owned} {E : Value → Shared → Prop} {Q : Flow → Shared → Prop}

/-- a loop whose state is not told by its place alone -/
theorem ex_forR (F : Fn c env e₀ Wc) {Z τ : Type} {K : Kd τ} {xs : List τ} (σs : Nat → Z → Tab) (ows : Nat → Owned) (I₀ : Nat → Z → Prop) (z₀ : Z) (hz₀ : I₀ 0 z₀) (X : Run c env e₀ r Wc (σs 0 z₀) (ows 0) s) {x : Str} {p pos : Pos} {iter : Expr} {body : List Stmt} (hx : Stores env x) (hno : ∀ i, ∀ p ∈ ows i, p.1 ≠ x) (hls : ∀ i y a d, (y, a, d) ∈ ows i → ∃ (τ : Type) (K : Kd τ) (zs : List τ), d = K.lst zs)
    (src : Src c env s.heap iter K xs)
    (step : ∀ (own' : List Addr) i y z s' (E' : Value → Shared → Prop), Fn { c with own := own' } env e₀ Wc → xs[i]? = some y → I₀ i z → Run { c with own := own' } env e₀ s' Wc (setV x (K.enc y) (σs i z)) (ows i) s' →
      wpAny (model c.prog c.w) c.A (execs body env) (fun f s₂ => f = .next ∧ ∃ z', I₀ (i + 1) z' ∧ Run { c with own := own' } env e₀ s' Wc (σs (i + 1) z') (ows (i + 1)) s₂) E' s')
    (q : ∀ z s', I₀ xs.length z → Run c env e₀ r Wc (σs xs.length z) (ows xs.length) s' → Q .next s')
    (hs : ∀ x, foldedSetIterable iter env x = pure x := by intro _; rfl) (hg : ∀ it v, letOwnedTupleGo (.Name x p) it v = pure () := by intro _ _; rfl) :
    wpAny (model c.prog c.w) c.A (exec (.For (.Name x p) iter body [] pos) env) Q E s := by
  refine wpAny_For (src s _ _ X.at_ fun mid I fp wr P St s₂ S hfp => ?_) hs
  have live := S.alive 0 _ S.st
  have X := X.step F S.from_
  have subO : ∀ a ∈ c.own, a ∈ wr ++ c.own := fun a h => List.mem_append_right _ h
  obtain ⟨F', X'⟩ := X.more F (own' := wr ++ c.own) (chg' := c.chg) S.up (fun a ha => by
      rcases List.mem_append.mp ha with z | z
      · exact .inr (S.newMid a z)
      · exact .inl z) (fun a ha => by
      rcases List.mem_append.mp ha with z | z
      · exact live a z
      · obtain ⟨o, e⟩ := X.at_.low.owned a z; exact ⟨o, keeps_get S.up _ _ e⟩) (fun a h => h) (fun a h => subO a (F.sub a h)) (fun a h => .inl h)
  have rw_ : ∀ a ∈ wr, a ∉ c.W ∧ a ∉ c.chg ∧ r.heap.get? a = none ∧ e₀.heap.get? a = none := fun a ha => by
    obtain ⟨h1, h2, h3⟩ := X.chgAt F (S.newMid a ha)
    exact ⟨h2, fun q => h1 (F.sub a q), h3, X.newAt F (S.newMid a ha)⟩
  have nown : ∀ a ∈ wr, a ∉ c.own := fun a ha => (X.chgAt F (S.newMid a ha)).1
  refine codeAny_forLoop_any (fun n s' => ∃ i, i ≤ xs.length ∧ n = xs.length + 1 - i ∧ St i s'.heap ∧ ∃ z, I₀ i z ∧ Run { c with own := wr ++ c.own, chg := c.chg } env e₀ r Wc (σs i z) (ows i) s') ?_ (xs.length + 1) ⟨0, Nat.zero_le _, rfl, S.st, z₀, hz₀, X'⟩
  rintro n s₃ ⟨i, hi, rfl, st, z, hz, Y⟩
  by_cases hlt : i < xs.length
  · refine S.walks.item i s₃ _ _ hlt st fun v h₁ t₁ hP st₁ hk₁ => ?_
    obtain ⟨y, hy, hv⟩ := S.item i v hlt hP
    refine wpAny_of_eq (hg (.ref I) v) ?_
    have Y₀ := Run.pass F Y rw_ (fun a ha => List.mem_append_left _ ha) (hls i) (own' := wr ++ c.own) (h₁ := h₁) (t₁ := t₁) (fun b _ hb => S.alive _ _ st₁ b hb) (fun b hb => hb) hk₁
    have Y₁ := Y₀.mark
    refine wpAny_assign_Name (Y₁.put F' hx (hno i) fun s₄ Y₄ l hk _ => ?_)
    have Y₅ := Y₄.add l (hk true (K.enc y) v hv.vr)
    refine wpAny_mono (step (wr ++ c.own) i y z s₄ _ F' hy hz Y₅.mark) (fun f s₅ hf => ?_) fun _ _ e => e
    obtain ⟨rfl, z', hz', Z⟩ := hf
    refine ⟨xs.length + 1 - (i + 1), by omega, i + 1, hlt, rfl, S.walks.frame _ _ _ st₁ fun b hb o e => ?_, z', hz', ?_⟩
    · have nb : b ∉ c.W ++ c.chg := fun q => hfp b hb (by
        rcases List.mem_append.mp q with z | z
        · exact List.mem_append_left _ z
        · exact List.mem_append_right _ (F.sub b z))
      exact Z.kept b o (Y₄.kept b o e nb) nb
    · exact { Z with kept := fun b o e n => Z.kept b o (Y₄.kept b o (Y₀.kept b o e n) n) n }
  · have hin : i = xs.length := by omega
    subst hin
    refine S.walks.done s₃ _ _ st fun h₁ t₁ hk₁ => wpAny_execs_nil (q z _ hz ?_)
    have Z := Run.pass F Y rw_ (fun a ha => List.mem_append_left _ ha) (hls xs.length) (own' := c.own) (h₁ := h₁) (t₁ := t₁) (fun b hb hw => absurd hb (nown b hw)) subO hk₁
    exact Z

/-- a text from a place on -/
theorem Ev.dropStr (k : c.Ok) {value lo : Expr} {p₁ pos : Pos} {x : Str} {i : Int} (h1 : Ev c false env h value (.str x)) (h2 : Ev c false env h lo (.int i)) (hz : x.length ≤ sizeLine)
    (hs : ∀ o i, subscripted (.Slice (some lo) none none p₁) false o i = operate [i, o] (getItem o i) := by intro _ _; rfl) :
    Ev c b env h (.Subscript value (.Slice (some lo) none none p₁) pos) (.str (Txt.slice x (some i) none)) :=
  sliceWalk k h1 (l := some i) (u := none) (m := none) h2 trivial trivial fun v₁ sl vl vu vm s Q E a x₁ hsl pl pu pm q => by
    obtain ⟨t, rfl⟩ := x₁
    cases pl with
    | int _ u =>
    cases pu
    cases pm
    refine tail_any (typeIs_str _ _ _) F.slot_str_getitem.lookup (wpAny_getItem_str_slice (l := some (i, u)) (u := none) (st := none) hsl rfl ?_) (hs _ _)
    exact post_val_or_str ⟨Nat.le_trans (Txt.slice_le x _ _) hz, fun t' j => q _ _ (R_toks k s j) ⟨_, rfl⟩⟩

/-- range with a start -/
theorem Src.range2 (k : c.Ok) (hh : c.A.handled = .none) {f : Str} {p pos : Pos} {e₁ e₂ : Expr} {m n : Nat} (g : Gl c env h f (.type "range")) (h1 : Ev c false env h e₁ (.int m)) (h2 : Ev c false env h e₂ (.int ((m + n : Nat) : Int))) (hm : m < 2 ^ 20) (hn : n < 2 ^ 20)
    (he : starEach [e₁, e₂] env = [(false, eval e₁ env), (false, eval e₂ env)] := by rfl) (he' : starEach [e₂] env = [(false, eval e₂ env)] := by rfl) :
    Src c env h (.Call (.Name f p) [e₁, e₂] [] pos) kInt ((List.range n).map fun i => ((m + i : Nat) : Int)) := fun s Q E a q => by
  refine Call_ (g p s _ E a (PyProof.Rows.callWith_type1 (wpAny_items_cons (h1.mono a fun v s₁ r₁ x₁ => wpAny_items_cons (h2.mono (a.next k r₁) fun v₂ s₂ r₂ x₂ => wpAny_items_nil ?_) he') (by rw [he, he'])) (by rw [he, he']) (by rw [he']; rfl))) rfl
  obtain ⟨t, rfl⟩ := x₁
  obtain ⟨u, rfl⟩ := x₂
  have a₂ := (a.next k r₁).next k r₂
  refine call_range_2 ?_
  generalize hO : ({ cls := .type "range", data := .fields #[.int m t, .int ((m + n : Nat) : Int) u, .int 1 s₂.toks] } : Obj) = ob
  have r₃ := R_push k s₂ ob (s₂.toks + 1)
  have a₃ := a₂.next k r₃
  have hsz : Builtin.Range.rangeSize m ((m + n : Nat) : Int) 1 = (n : Int) := by
    rw [rangeSize_one]
    split <;> omega
  refine wpAny_pyIter_range (by rw [← hO]; exact IsRange.new _ _ _ _ _ _ _) (small_one (by omega) (by omega) (by omega) (by omega)) ?_
  have hIn := Heap.get?_none_of_le (h := s₂.heap.push ob) (Nat.le_refl _)
  have hlen : ((List.range n).map fun i => ((m + i : Nat) : Int)).length = n := by simp
  refine q { s₂ with heap := s₂.heap.push ob, toks := s₂.toks + 1 } _ [_] [_] _ _ _ ⟨by
      rw [hlen]
      exact Walks.range (prog := c.prog) (w := c.w) hh (s₂.heap.push ob).objs.size m 1 n, ?_, ?_, k.trans (k.trans r₁ r₂) r₃, ⟨_, _, rfl, fun b o e => Heap.get?_push_of_some _ e⟩, ?_, ?_, ?_⟩ ?_
  · show IsRangeIter _ _ _ _ _
    have e := Heap.get?_push_size (s₂.heap.push ob) (o := { cls := .type "range_iterator", data := .fields #[rawInt m, rawInt (Builtin.Range.rangeSize m ((m + n : Nat) : Int) 1), rawInt 1] }) rfl
    rw [hsz] at e ⊢
    simpa using e
  · intro b hb
    rw [List.mem_singleton.mp hb]
    show _ < (Heap.push _ _).objs.size
    exact Nat.lt_of_lt_of_eq (Nat.lt_succ_self _) (Heap.size_push _ _).symm
  · intro b hb
    rw [List.mem_singleton.mp hb]
    exact hIn
  · rintro i h st b hb
    rw [List.mem_singleton.mp hb]
    exact ⟨_, st⟩
  · rintro i v hi ⟨t', rfl⟩
    rw [hlen] at hi
    exact ⟨((m + i : Nat) : Int), by simp [hi], t', by simp⟩
  · intro b hb
    rw [List.mem_singleton.mp hb]
    exact fun q => (a₃.fresh true _ (Nat.le_refl _)) q
end
end Mine

namespace Mine
section
variable {c : Cx} {b : Bool} {env : Env} {h g₀ : Heap} {e₀ r s : Shared} {Wc : List Addr} {σ : Tab} {ow : Owned} {E : Value → Shared → Prop} {Q : Flow → Shared → Prop}

theorem ext_keeps {h h' : Heap} (he : Heap.ExtBut h.objs.size h h') : ∀ b o, h.get? b = some o → h'.get? b = some o := fun b o e => he b o (Nat.ne_of_lt (Heap.lt_size e)) e

/-- x, y = (e₁, e₂), locals -/
theorem ex_tup2s (F : Fn c env e₀ Wc) (hh : c.A.handled = none) (X : Run c env e₀ r Wc σ ow s) {x y : Str} {px py tpos pos : Pos} {kk : Nat} {value : Expr} {d₁ d₂ : D} (hx : Stores env x) (hy : Stores env y) (hnx : ∀ p ∈ ow, p.1 ≠ x) (hny : ∀ p ∈ ow, p.1 ≠ y)
    (he : Ev c true env s.heap value (.pair d₁ d₂)) (q : ∀ s', Run c env e₀ r Wc (setV x d₁ (setV y d₂ σ)) ow s' → Q .next s')
    (hs : swapsWithSole [.Tuple [.Name x px, .Name y py] kk tpos] value pos.line env = pure false := by rfl) (hw : swappedStores [.Tuple [.Name x px, .Name y py] kk tpos] value env = pure (some [x, y]) := by rfl) :
    wpAny (model c.prog c.w) c.A (exec (.Assign [.Tuple [.Name x px, .Name y py] kk tpos] value pos) env) Q E s := by
  refine Assign_Tuple_swapped (X.ev F he fun v s₁ X₁ _ hv => ?_) hs hw
  obtain ⟨a, v₁, v₂, rfl, _, ht, h1, h2⟩ := hv
  refine unpackItems_tuple (items := #[v₁, v₂]) hh ht fun h' hx' => ?_
  have kp := ext_keeps hx'
  have r₂ := R_heap F.ok s₁ s₁.toks kp
  have X₂ := X₁.step F r₂
  have h1' := h1.step F.ok r₂
  have h2' := h2.step F.ok r₂
  refine assignInOrder_cons (bindName_ (X₂.put F hy hny fun s₃ X₃ l₃ hk₃ _ => ?_))
  have X₃' := X₃.add l₃ (hk₃ true _ _ h2')
  refine assignInOrder_cons (bindName_ (X₃'.store F hx (hk₃ true _ _ h1') hnx fun s₄ X₄ => assignInOrder_nil (q s₄ X₄)))

/-- x, y, z = (e₁, e₂, e₃), locals -/
theorem ex_tup3s (F : Fn c env e₀ Wc) (hh : c.A.handled = none) (X : Run c env e₀ r Wc σ ow s) {x y z : Str} {px py pz tpos pos vpos : Pos} {kk vk : Nat} {e₁ e₂ e₃ : Expr} {d₁ d₂ d₃ : D} (hx : Stores env x) (hy : Stores env y) (hz : Stores env z) (hnx : ∀ p ∈ ow, p.1 ≠ x) (hny : ∀ p ∈ ow, p.1 ≠ y) (hnz : ∀ p ∈ ow, p.1 ≠ z)
    (he₁ : Ev c true env s.heap e₁ d₁) (he₂ : Ev c true env s.heap e₂ d₂) (he₃ : Ev c true env s.heap e₃ d₃) (q : ∀ s', Run c env e₀ r Wc (setV x d₁ (setV y d₂ (setV z d₃ σ))) ow s' → Q .next s')
    (he : starEach [e₁, e₂, e₃] env = [(false, eval e₁ env), (false, eval e₂ env), (false, eval e₃ env)] := by rfl) (he' : starEach [e₂, e₃] env = [(false, eval e₂ env), (false, eval e₃ env)] := by rfl) (he'' : starEach [e₃] env = [(false, eval e₃ env)] := by rfl)
    (hs : swapsWithSole [.Tuple [.Name x px, .Name y py, .Name z pz] kk tpos] (.Tuple [e₁, e₂, e₃] vk vpos) pos.line env = pure false := by rfl) (hw : swappedStores [.Tuple [.Name x px, .Name y py, .Name z pz] kk tpos] (.Tuple [e₁, e₂, e₃] vk vpos) env = pure (some [x, y, z]) := by rfl) :
    wpAny (model c.prog c.w) c.A (exec (.Assign [.Tuple [.Name x px, .Name y py, .Name z pz] kk tpos] (.Tuple [e₁, e₂, e₃] vk vpos) pos) env) Q E s := by
  have k := F.ok
  refine Assign_Tuple_swapped (Tuple_ (wpAny_items_cons (he₁.mono X.at_ fun v₁ s₁ r₁ x₁ => wpAny_items_cons (he₂.mono (X.at_.next k r₁) fun v₂ s₂ r₂ x₂ => wpAny_items_cons (he₃.mono ((X.at_.next k r₁).next k r₂) fun v₃ s₃ r₃ x₃ => wpAny_items_nil (wpAny_newTuple ?_)) he'') (by rw [he', he''])) (by rw [he, he']))) hs hw
  have r₄ := R_push k s₃ { cls := .type "tuple", data := .seq [v₁, v₂, v₃].toArray } s₃.toks
  refine unpackItems_tuple (items := #[v₁, v₂, v₃]) hh ⟨_, Heap.get?_push_size _ rfl, rfl, 0, rfl⟩ fun h' hx' => ?_
  have r₅ := R_heap k { s₃ with heap := s₃.heap.push { cls := .type "tuple", data := .seq [v₁, v₂, v₃].toArray } } s₃.toks (ext_keeps hx')
  have rr := k.trans r₄ r₅
  have X₅ := ((((X.step F r₁).step F r₂).step F r₃)).step F rr
  have y₁ := ((x₁.step k r₂).step k r₃).step k rr
  have y₂ := (x₂.step k r₃).step k rr
  have y₃ := x₃.step k rr
  refine assignInOrder_cons (bindName_ (X₅.put F hz hnz fun s₆ X₆ l₆ hk₆ _ => ?_))
  have X₆' := X₆.add l₆ (hk₆ true _ _ y₃)
  refine assignInOrder_cons (bindName_ (X₆'.put F hy hny fun s₇ X₇ l₇ hk₇ _ => ?_))
  have X₇' := X₇.add l₇ (hk₇ true _ _ (hk₆ true _ _ y₂))
  exact assignInOrder_cons (bindName_ (X₇'.store F hx (hk₇ true _ _ (hk₆ true _ _ y₁)) hnx fun s₈ X₈ => assignInOrder_nil (q s₈ X₈)))

/-- x, y = (e, []) where y will be changed -/
theorem ex_tup2own (F : Fn c env e₀ Wc) (hh : c.A.handled = none) (X : Run c env e₀ r Wc σ ow s) {x y : Str} {px py tpos pos vpos : Pos} {kk vk : Nat} {e₁ e₂ : Expr} {d₁ d₂ : D} (hx : Stores env x) (hy : Stores env y) (hxy : x ≠ y) (hnx : ∀ p ∈ ow, p.1 ≠ x) (hny : ∀ p ∈ ow, p.1 ≠ y)
    (he₁ : Ev c true env s.heap e₁ d₁) (he₂ : NewL c env s.heap e₂ d₂)
    (q : ∀ a s', Fn (c.plus a) env e₀ Wc → a ∉ c.own → a ∉ c.W → r.heap.get? a = none → Run (c.plus a) env e₀ r Wc (delV y (setV x d₁ σ)) ((y, a, d₂) :: ow) s' → Q .next s')
    (he : starEach [e₁, e₂] env = [(false, eval e₁ env), (false, eval e₂ env)] := by rfl) (he' : starEach [e₂] env = [(false, eval e₂ env)] := by rfl)
    (hs : swapsWithSole [.Tuple [.Name x px, .Name y py] kk tpos] (.Tuple [e₁, e₂] vk vpos) pos.line env = pure false := by rfl) (hw : swappedStores [.Tuple [.Name x px, .Name y py] kk tpos] (.Tuple [e₁, e₂] vk vpos) env = pure none := by rfl) :
    wpAny (model c.prog c.w) c.A (exec (.Assign [.Tuple [.Name x px, .Name y py] kk tpos] (.Tuple [e₁, e₂] vk vpos) pos) env) Q E s := by
  have k := F.ok
  refine Assign_Tuple (Tuple_ (wpAny_items_cons (he₁.mono X.at_ fun v₁ s₁ r₁ x₁ => wpAny_items_cons (he₂ s₁ _ _ (X.at_.next k r₁) fun a mid s₂ rm y ha hin hv => wpAny_items_nil (wpAny_newTuple ?_)) he') (by rw [he, he']))) hs hw
  have X₁ := (X.step F r₁).step F rm
  have x₁m := x₁.step k rm
  obtain ⟨h1, h2, h3⟩ := X₁.chgAt F ha
  obtain ⟨F', X₂⟩ := X₁.plus F y ha hin
  have k' := F'.ok
  have y₁ : VR (c.plus a) ((c.plus a).av true) s₂.heap d₁ v₁ := by
    have z := (x₁m.apart (av' := (c.plus a).av true) fun z hz => by
      rcases List.mem_append.mp hz with q | q
      · exact .inl (List.mem_append_left _ q)
      · rcases List.mem_cons.mp q with rfl | q
        · exact .inr ha
        · exact .inl (List.mem_append_right _ q))
    exact VR.cx (c := c) (c' := c.plus a) rfl rfl (z.grow (W := []) (by simp) fun b o e _ => keeps_get y b o e)
  have y₂ : VR (c.plus a) ((c.plus a).av false) s₂.heap d₂ (.ref a) := ((VR.sub (av' := c.W) hv fun z hz => List.mem_append_left _ hz)).toPlus
  have r₄ : (c.plus a).R s₂ _ := R_push k' s₂ { cls := .type "tuple", data := .seq [v₁, .ref a].toArray } s₂.toks
  refine wpAny_assign_Tuple (items := #[v₁, .ref a]) hh ⟨_, Heap.get?_push_size _ rfl, rfl, 0, rfl⟩ rfl rfl fun h' hx' => ?_
  have r₅ : (c.plus a).R _ _ := R_heap k' { s₂ with heap := s₂.heap.push { cls := .type "tuple", data := .seq [v₁, .ref a].toArray } } s₂.toks (ext_keeps hx')
  have rr := k'.trans r₄ r₅
  have X₅ := X₂.step F' rr
  refine assignInOrder_cons (assign_Name (X₅.put F' hx hnx fun s₆ X₆ l₆ hk₆ _ => ?_))
  have X₆' := X₆.add l₆ (hk₆ true _ _ (y₁.step k' rr))
  refine assignInOrder_cons (assign_Name (X₆'.put F' hy hny fun s₇ X₇ l₇ hk₇ _ => assignInOrder_nil (q a s₇ F' h1 h2 h3 (X₇.addOwn l₇ List.mem_cons_self h2 (hk₇ false _ _ (hk₆ false _ _ (y₂.step k' rr)))))))

theorem valueAt_stored {kvs : List (Str × Value)} {k k' : Str} {v : Value} : valueAt (stored kvs k v) k' = if k' = k then some v else valueAt kvs k' := by
  by_cases h : kvs.any (fun kv => kv.1 = k) = true
  · rw [stored, if_pos h]
    induction kvs with
    | nil => simp at h
    | cons p r ih =>
      by_cases hp : p.1 = k
      · by_cases hk : k' = k
        · subst hk; simp [valueAt, hp]
        · have : p.1 ≠ k' := fun q => hk (by rw [← q, hp])
          simp only [List.map_cons, hp, if_true, valueAt, List.find?_cons, hk, if_false]
          have e1 : decide (k = k') = false := by simpa using fun q => hk q.symm
          simp only [e1]
          by_cases hr : r.any (fun kv => kv.1 = k) = true
          · have := ih hr
            rw [if_neg hk] at this
            exact this
          · have e2 : (r.map fun kv => if kv.1 = k then (k, v) else kv) = r := by
              conv => rhs; rw [← List.map_id r]
              refine List.map_congr_left fun q hq => ?_
              have : ¬ q.1 = k := fun z => hr (List.any_eq_true.mpr ⟨q, hq, by simpa using z⟩)
              simp [this]
            have e3 : (r.map fun kv => if kv.1 = k then (kv.1, v) else kv) = r := by
              conv => rhs; rw [← List.map_id r]
              refine List.map_congr_left fun q hq => ?_
              have : ¬ q.1 = k := fun z => hr (List.any_eq_true.mpr ⟨q, hq, by simpa using z⟩)
              simp [this]
            rw [e3]
      · have hr : r.any (fun kv => kv.1 = k) = true := by simpa [hp] using h
        have := ih hr
        simp only [List.map_cons, hp, if_false, valueAt, List.find?_cons]
        by_cases hk' : p.1 = k'
        · have : k' ≠ k := fun q => hp (by rw [hk', q])
          simp [hk', this]
        · simp only [hk', decide_false]
          exact this
  · rw [stored, if_neg h]
    have h' : ∀ p ∈ kvs, p.1 ≠ k := fun p hp q => h (List.any_eq_true.mpr ⟨p, hp, by simpa using q⟩)
    unfold valueAt
    rw [List.find?_append]
    by_cases hk : k' = k
    · subst hk
      have : kvs.find? (fun kv => decide (kv.1 = k')) = none := by
        rw [List.find?_eq_none]; intro p hp; simpa using h' p hp
      rw [this]; simp
    · have e1 : decide (k = k') = false := by simpa using fun q => hk q.symm
      rw [if_neg hk]
      simp [List.find?_cons, e1]

theorem stored_same {vs : List Value} {kvs : List (Str × Value)} (h : StoredAll (fun v k => ∃ t, v = .str k t) (fun v y => ∃ x t t', v = .str x t ∧ y = .str x t') vs kvs) : ∀ {x : Str} {t : Tok}, Value.str x t ∈ vs → ∃ t', valueAt kvs x = some (.str x t') := by
  induction h with
  | nil => intro x t hm; cases hm
  | @snoc l kvs v k y _ hk hy ih =>
    intro x t hm
    rw [valueAt_stored]
    obtain ⟨t₁, rfl⟩ := hk
    obtain ⟨x', t₂, t₃, e, rfl⟩ := hy
    cases e
    by_cases e : x = k
    · subst e; exact ⟨t₃, by simp⟩
    · rw [if_neg e]
      rcases List.mem_append.mp hm with hm | hm
      · exact ih hm
      · have := List.mem_singleton.mp hm
        cases this
        exact absurd rfl e

/-- {x: x for x in texts} -/
theorem Ev.dictSame (k : c.Ok) {iter : Expr} {x : Str} {px pos p₁ p₂ : Pos} {scope : Scope} {cl : List (Str × Addr)} {xs : List Str} (ok : CompOk env scope x cl) (hd : (x == ("__debug__" : Str)) = false)
    (src : Src c env h iter kStr xs) (hz : xs.length ≤ sizeLine) (hkx : ∀ C, (compEnvC scope cl C env).kindOf x = some .local ∧ (compEnvC scope cl C env).scope.kind = .function ∧ (compEnvC scope cl C env).locals = C)
    (hs : ∀ x, foldedSetIterable iter env x = pure x := by intro _; rfl) :
    Ev c b env h (.DictComp (.Name x p₁) (.Name x p₂) [⟨.Name x px, iter, [], 0⟩] scope pos) (.idict xs) := fun s Q E a q => by
  refine wpAny_DictComp_free (PySem.strKind c.prog c.w) (fun _ => true) (fun v k => ∃ t, v = .str k t) (fun v y => ∃ x t t', v = .str x t ∧ y = .str x t') ok.clos ok.cell ok.kind ok.names ok.x ?_ hs
  refine src s _ E a fun mid I fp wr P St s₂ S hfp => ⟨I, fp, wr, xs.length, _, St, rfl, Walks.bound S.walks, hz, S.st, S.fp, ?_, ?_⟩
  · have nm : ∀ {C : Addr} {v : Value} {s₃ : Shared} {m₃ : Str → Option Value} {E' : Value → Shared → Prop} {p : Pos} {Q' : Value → Shared → Prop}, s₃.heap.Ns C m₃ → m₃ x = some v → Q' v s₃ → wpAny (model c.prog c.w) c.A (eval (.Name x p) (compEnvC scope cl C env)) Q' E' s₃ := fun {C v s₃ m₃ E' p Q'} hn hm q' => by
      obtain ⟨h1, h2, h3⟩ := hkx C
      refine wpAny_Name (wpAny_loadName_local h2 h1 (by rw [h3]; exact hn) hm q') hd
    have it : ∀ {i v}, (i < xs.length ∧ P i v) → ∃ y t, v = .str y t := fun {i v} hP => by
      obtain ⟨y, hy, t, e⟩ := S.item i v hP.1 hP.2
      exact ⟨y, t, e⟩
    refine ⟨?_, ?_, ?_⟩
    · intro C i v s₃ m₃ E' hP hn hm hk
      exact wpAny_tests_nil ⟨rfl, keeps_refl _⟩
    · intro C i v s₃ m₃ E' hP _ hn hm hk
      obtain ⟨y, t, rfl⟩ := it hP
      exact nm hn hm ⟨⟨y, PySem.strKind_is c.prog c.w y t, t, rfl⟩, keeps_refl _⟩
    · intro C i v s₃ m₃ E' hP _ hn hm hk
      obtain ⟨y, t, rfl⟩ := it hP
      exact nm hn hm ⟨⟨y, t, t, rfl, rfl⟩, keeps_refl _⟩
  · intro D h' tk kvs vs hD hl hlen hP hF hk
    have r := k.trans S.from_ (k.keeps (S.later k (h' := h') (t := tk) hk))
    refine q _ _ r ⟨D, valueAt kvs, rfl, a.fresh' b (none_before k a (S.step k) hD), hl.mapOf, fun y hy => ?_⟩
    obtain ⟨i, hi, e⟩ := List.getElem_of_mem hy
    have hv : vs[i]? = some vs[i] := List.getElem?_eq_getElem (by omega)
    obtain ⟨z, hz', t, et⟩ := S.item i _ (hP i _ hv).1 (hP i _ hv).2
    rw [List.getElem?_eq_getElem hi] at hz'
    cases hz'
    rw [e] at et
    rw [List.filter_eq_self.mpr (by simp)] at hF
    exact stored_same hF (x := y) (t := t) (et ▸ List.mem_of_getElem? hv)
end
end Mine

namespace Mine
section
variable {c : Cx} {b : Bool} {env : Env} {h g₀ : Heap} {e₀ r s : Shared} {Wc : List Addr} {σ : Tab} {ow : Owned} {mg mb : Str → Option Value}

/-- a call of a lambda of one name -/
theorem call_lam (k : c.Ok) {A' : Around} (hd : A'.depth ≤ 550) (hu : A'.units ≤ 190) {E : Value → Shared → Prop} {Q : Value → Shared → Prop} {f : Addr} {qual : Str} {params : Arguments} {body : Expr} {scope : Scope} {clos : List (Str × Addr)} {pm cv ctv : Value} {x : Str} {v : Value} {d : D}
    (low : Low c s.heap) (ho : s.heap.get? f = some { cls := .type "function", data := .func (kla_fn "<lambda>" qual params body scope clos pm cv ctv) }) (hcd : s.heap.CodeRec cv qual) (hlim : s.heap.NoLimit)
    (hbind : bindArgs (kla_fn "<lambda>" qual params body scope clos pm cv ctv) ⟨[v], []⟩ = pure [(x, v)]) (hx : scope.names.lookup x = some .local) (hco : scope.isCoroutine = false) (hgen : scope.isGenerator = false) (hk : scope.kind = .function) (hcell : ∀ x ∈ scope.names, x.2 ≠ .cell)
    (hel : ∀ (A'' : Around) C h', A''.depth ≤ 560 → A''.units ≤ 200 → (∀ b o, s.heap.get? b = some o → h'.get? b = some o) → h'.Ns C (fun y => [(x, v)].reverse.lookup y) → Ev { c.in with A := A'' } false (newEnv scope C mainGlobals clos (qual ++ ".<locals>.") (some f) cv none builtinsNs) h' body d)
    (q : ∀ v s', Keeps s s' → VR c (c.av false) s'.heap d v → Q v s') : wpAny (model c.prog c.w) A' (call (.ref f) [v]) Q E s := by
  refine wpAny_call (kla_callFunE (by have : recursionLimit = 1000 := rfl; omega) ho rfl hco hgen rfl hcd ?_)
  rw [hbind]
  refine wpAny_pure (wpAny_newFunctionEnv hcell (by intro y hy; rw [List.mem_singleton.mp hy]; exact hx) (fun h₁ hns hsb => ⟨hlim.fresh _ hsb, ?_⟩) hk)
  have hk₁ : ∀ b o, s.heap.get? b = some o → h₁.get? b = some o := fun b o e => hsb.extBut b o (Nat.ne_of_lt (Heap.lt_size e)) (Heap.get?_push_of_some _ e)
  have lo := low.grow (grow_of_keeps hk₁ _)
  refine kla_codeExpr (hel _ _ h₁ ?_ ?_ hk₁ hns _ _ _ ⟨GrowH.refl _ _, fun f => f.elim, ⟨lo.frames, lo.tabsAt, lo.owned⟩⟩ fun v s' r x => q v s' ?_ (VR.cx (c := { c.in with A := _ }) (c' := c) rfl rfl x))
  · show A'.depth + 1 ≤ 560; omega
  · show A'.units + 3 ≤ 200; omega
  · exact keeps_trans ⟨h₁, _, rfl, hk₁⟩ r

def textOf : Value → Str
  | .str x _ => x
  | _ => Str.ofString ""
theorem strs_text : ∀ {vs : List Value}, (∀ v ∈ vs, ∃ x t, v = .str x t) → StrsAre vs (vs.map textOf)
  | [], _ => .nil
  | v :: vs, h => by
    obtain ⟨x, t, rfl⟩ := h v List.mem_cons_self
    exact .cons x t (strs_text fun w hw => h w (List.mem_cons_of_mem _ hw))
theorem text_strs : ∀ {vs : List Value} {xs : List Str}, StrsAre vs xs → vs.map textOf = xs
  | _, _, .nil => rfl
  | _, _, .cons x t r => by rw [List.map_cons, text_strs r]; rfl
theorem all_strs : ∀ {vs : List Value} {xs : List Str}, StrsAre vs xs → ∀ v ∈ vs, ∃ x t, v = .str x t ∧ x ∈ xs
  | _, _, .nil, v, hv => by cases hv
  | _, _, .cons x t r, v, hv => by
    rcases List.mem_cons.mp hv with rfl | hv
    · exact ⟨x, t, rfl, List.mem_cons_self⟩
    · obtain ⟨y, u, e, hm⟩ := all_strs r v hv
      exact ⟨y, u, e, List.mem_cons_of_mem _ hm⟩
theorem zip_rel (key : Str → Int) : ∀ {vs : List Value} {xs : List Str}, StrsAre vs xs → ∀ p ∈ (xs.map key).zip vs, p.1 = key (textOf p.2) ∧ p.2 ∈ vs
  | _, _, .nil, p, hp => by cases hp
  | _, _, .cons x t r, p, hp => by
    rw [List.map_cons, List.zip_cons_cons] at hp
    rcases List.mem_cons.mp hp with rfl | hp
    · exact ⟨rfl, List.mem_cons_self⟩
    · obtain ⟨h1, h2⟩ := zip_rel key r p hp
      exact ⟨h1, List.mem_cons_of_mem _ h2⟩

/-- what came out of a sort is the texts in another order -/
theorem sorted_texts {key : Str → Int} {vs out : List Value} {xs : List Str} (hv : StrsAre vs xs) (h : KskOut false (xs.map key) vs out) : ∃ ys, StrsAre out ys ∧ ys.Perm xs ∧ ys.Pairwise fun x y => key x ≤ key y := by
  obtain ⟨ps, hp, rfl, ho⟩ := h
  have hlen := hv.length
  have rel : ∀ p ∈ ps, p.1 = key (textOf p.2) ∧ p.2 ∈ vs := fun p hm => zip_rel key hv p (hp.mem_iff.mp hm)
  refine ⟨(ps.map Prod.snd).map textOf, strs_text fun v hm => ?_, ?_, ?_⟩
  · obtain ⟨p, hp', rfl⟩ := List.mem_map.mp hm
    obtain ⟨x, t, e, _⟩ := all_strs hv _ (rel p hp').2
    exact ⟨x, t, e⟩
  · have h1 := (hp.map Prod.snd).map textOf
    rw [List.map_snd_zip (by rw [List.length_map]; omega), text_strs hv] at h1
    exact h1
  · rw [List.pairwise_map, List.pairwise_map]
    refine ho.imp_of_mem fun {p q} hp' hq' hr => ?_
    have hr' : p.1 ≤ q.1 := by simpa using hr
    rwa [(rel p hp').1, (rel q hq').1] at hr'

theorem above_stay {h h' : Heap} {L : Addr} {m : Str → Option Value} {own : List (Addr × Obj)} (F : Fr (cut h L) L h' m) (N : News (cut h L) L h' (newsAbove h L ++ own)) : ∀ b o, b ≠ L → h.get? b = some o → h'.get? b = some o :=
  island_keep (news' := own) F fun p hp => N p (List.mem_append.mpr ((List.mem_append.mp hp).symm))

/-- y = sorted(texts, key=lambda ..) -/
theorem ex_sortLam (F : Fn c env e₀ Wc) (hdep : c.A.depth ≤ 545) (huni : c.A.units ≤ 180) (X : Run c env e₀ r Wc σ ow s) (G : ∀ b o, g₀.get? b = some o → e₀.heap.get? b = some o ∧ b ∉ Wc) (hlim : g₀.NoLimit) {cc P : Addr} (M : Maker c g₀ env mg cc P) {E : Value → Shared → Prop} {Q : Flow → Shared → Prop}
    {y f : Str} {py p pos apos lpos kpos : Pos} (hy : Stores env y) (hno : ∀ p ∈ ow, p.1 ≠ y) (gs : Gl c env s.heap f (.builtin "sorted")) {e : Expr} {xs : List Str} (he : Ev c false env s.heap e (.strs xs)) (h64 : xs.length < 64) (key : Str → Int)
    {params : Arguments} {body : Expr} {scope : Scope} {clos : List (Str × Addr)} {x : Str} (hdef : defaultsOf params env = ([], [])) (hcl : closureFor scope env = pure clos) (hnm : nameOf lpos = env.qual ++ "<lambda>")
    (hbind : ∀ cv ctv v, bindArgs (kla_fn "<lambda>" (env.qual ++ "<lambda>") params body scope clos ((mg "__name__").getD .none) cv ctv) ⟨[v], []⟩ = pure [(x, v)]) (hx : scope.names.lookup x = some .local) (hco : scope.isCoroutine = false) (hgen : scope.isGenerator = false) (hk : scope.kind = .function) (hcell : ∀ x ∈ scope.names, x.2 ≠ .cell)
    (hel : ∀ (A'' : Around) fa cv C h' v z, A''.depth ≤ 560 → A''.units ≤ 200 → z ∈ xs → Atm (.str z) v → GrowH c.W s.heap h' → h'.Ns C (fun y => [(x, v)].reverse.lookup y) → Ev { c.in with A := A'' } false (newEnv scope C mainGlobals clos (env.qual ++ "<lambda>" ++ ".<locals>.") (some fa) cv none builtinsNs) h' body (.int (key z)))
    (q : ∀ ys s', ys.Perm xs → ys.Pairwise (fun a b => key a ≤ key b) → Run c env e₀ r Wc (setV y (.strs ys) σ) ow s' → Q .next s')
    (hse : starEach [e] env = [(false, eval e env)] := by rfl)
    (hq : eval (.Call (.Name f p) [e] [⟨some "key", .Lambda params body scope lpos, kpos⟩] pos) env = (do let g ← eval (.Name f p) env; callWith pos g [] (backTo pos (starEach [e] env)) (backToKw pos (keywordEach [⟨some "key", .Lambda params body scope lpos, kpos⟩] env))) := by rfl)
    (hs : swapsWith (.Call (.Name f p) [e] [⟨some "key", .Lambda params body scope lpos, kpos⟩] pos) (some (.Name y py)) apos.line env = pure false := by rfl) :
    wpAny (model c.prog c.w) c.A (exec (.Assign [.Name y py] (.Call (.Name f p) [e] [⟨some "key", .Lambda params body scope lpos, kpos⟩] pos) apos) env) Q E s := by
  have k := F.ok
  have Fx := Run.fixed F G X
  refine wpAny_Assign_Name ?_ hs
  rw [hq]
  refine wpAny_bind (gs p s _ _ X.at_ (callWith_kw (wpAny_items_cons (he.mono X.at_ fun lv s₁ r₁ x₁ => wpAny_items_nil (kws_cons ?_)) hse) (by rw [hse]; rfl) (by rw [hse]; rfl)))
  have X₁ := X.step F r₁
  refine ev_lambda k F.rel X₁.at_ (Fx.grow (k.grow r₁)) M hdef hcl hnm fun fa cv ctv s₂ r₂ hfn hfo hfr => kws_nil ?_
  have X₂ := X₁.step F r₂
  have x₂ := x₁.step k r₂
  obtain ⟨l, vs, rfl, _, hl, hv⟩ := x₂
  have hLW : env.locals ∈ c.W := by rw [F.W]; exact List.mem_cons_self
  obtain ⟨m, hm⟩ := X₂.at_.low.frames env.locals hLW F.notTab
  have hlen := hv.length
  have hfL : fa ≠ env.locals := fun z => by
    obtain ⟨o, e⟩ := X₁.at_.low.there hLW
    rw [z, e] at hfn; cases hfn
  show wpAny (model c.prog c.w) c.A (call (.builtin "sorted") [.ref l] [(Str.ofString "key", .ref fa)]) _ _ s₂
  refine ksk_sorted (b := false) (kz := xs.map key) (f := .ref fa) (island_fr hm) (island_news s₂.heap env.locals) hl.isList (by rw [List.length_map, hlen]) (by omega) (ksk_s1 _ _) (fun x => ksk_l1 _ _) (fun x => ksk_t1 _ _) (fun i v kk hvi hki h' tk own F' N' => ?_) fun D h' tk out cc' F' N' l1 ko => ?_
  · have kp := above_stay F' N'
    have st := island_step (tk := tk) hLW hm kp F'.ns
    obtain ⟨z, hz⟩ : ∃ z, xs[i]? = some z := by
      cases e : xs[i]? with
      | none => rw [List.getElem?_map, e] at hki; cases hki
      | some z => exact ⟨z, rfl⟩
    have ekk : kk = key z := by
      rw [List.getElem?_map, hz] at hki
      exact (Option.some.inj hki).symm
    obtain ⟨t, ht⟩ := hv.get i z hz
    rw [hvi] at ht
    have ev := Option.some.inj ht
    subst ekk
    have lowh : Low c h' := X₂.at_.low.grow st.heap
    have Fx₂ := (Fx.grow (k.grow r₁)).grow (k.grow r₂)
    have Fxh := Fx₂.grow st.heap
    have hrec : h'.CodeRec cv (env.qual ++ "<lambda>") := by
      obtain ⟨c₁, o, vs₁, t₁, e1, e2, e3, e4⟩ := hfr
      refine ⟨c₁, o, vs₁, t₁, e1, kp _ _ (fun z => ?_) e2, e3, e4⟩
      obtain ⟨o', es, ep, ho', hd', _⟩ := hm
      rw [z, ho'] at e2; cases e2; rw [hd'] at e3; cases e3
    have hlim' : h'.NoLimit := by obtain ⟨mc, hm, hn⟩ := hlim; exact ⟨mc, hm.keeps Fxh.stays, hn⟩
    refine call_lam (s := { s₂ with heap := h', toks := tk }) k (by show c.A.depth ≤ 550; omega) (by show c.A.units + 1 + 1 ≤ 190; omega) lowh (kp _ _ hfL hfo) hrec hlim' (hbind cv ctv v) hx hco hgen hk hcell (fun A'' C h'' h1 h2 h3 h4 => hel A'' fa cv C h'' v z h1 h2 (List.mem_of_getElem? hz) ⟨t, ev⟩ ?_ h4) fun v' s' ks hv' => ?_
    · exact (((k.grow r₁).trans (k.grow r₂)).trans st.heap).trans (grow_of_keeps h3 _)
    · obtain ⟨h₅, t₅, rfl, k₅⟩ := ks
      obtain ⟨t', rfl⟩ := hv'
      exact ⟨h₅, t₅, t', rfl, rfl, ⟨F'.ns.keeps k₅, fun b o e => k₅ _ _ (F'.keep b o e), F'.above⟩, fun p hp => ⟨k₅ _ _ (N' p hp).1, (N' p hp).2⟩⟩
  · have N'' : News (cut s₂.heap env.locals) env.locals h' ([(D, seqObj "list" out cc')] ++ newsAbove s₂.heap env.locals) := N'
    have kp := island_keep F' N''
    have st := island_step (tk := tk) hLW hm kp F'.ns
    have hD := N' _ (List.mem_cons_self)
    have hDn : s₂.heap.get? D = none := by
      cases e : s₂.heap.get? D with
      | none => rfl
      | some o =>
        rcases Nat.lt_trichotomy D env.locals with q | q | q
        · have := hD.2.2
          rw [show (cut s₂.heap env.locals).get? D = s₂.heap.get? D from cut_lt q, e] at this; cases this
        · exact absurd q hD.2.1
        · exact absurd (l1 (D, o) (mem_above.mpr ⟨q, e⟩)) (Nat.lt_irrefl _)
    obtain ⟨ys, h1, h2, h3⟩ := sorted_texts hv ko
    have X₃ := X₂.step F (s' := { s₂ with heap := h', toks := tk }) (F.rel ▸ st)
    refine X₃.store F hy (d := .strs ys) ⟨D, out.toList, rfl, X₂.at_.fresh' true hDn, ⟨cc', by simpa using hD.1⟩, h1⟩ hno fun s₄ X₄ => q ys s₄ h2 h3 X₄
end
end Mine

namespace Mine

theorem turn_more {elt : Expr} {gens : List Comprehension} {scope : Scope} {pos px px' : Pos} {d : Nat} {x x' : Str} {iter iter' : Expr} {ifs ifs' : List Expr} (hg : gens[d]? = some ⟨.Name x px, iter, ifs, 0⟩) (hg' : gens[d + 1]? = some ⟨.Name x' px', iter', ifs', 0⟩) (it acc : Value) (env : Env) :
    compTurn (.ListComp elt gens scope pos) d it acc env = (do
      standAt iter.pos
      match ← pyNext it with
      | none => pure (.done .next)
      | some v =>
        letOwnedTupleGo (.Name x px) it v
        assign (.Name x px) env v
        let mut ok := true
        for c in ifs do
          if ok then ok ← isTrue c env (eval c env)
        if ok then
          let y ← eval iter' env
          standAt iter'.pos
          let y ← foldedSetIterable iter' env y
          let it' ← holding [y] (pyIter y)
          let _ ← runOwn (.compStart (.ListComp elt gens scope pos) (d + 1) it' acc env) env
          again (.compLoop (.ListComp elt gens scope pos) d it acc env)
        else
          again (.compLoop (.ListComp elt gens scope pos) d it acc env)) := by
  unfold compTurn
  simp only [hg, hg']
  rfl
theorem turn_last {elt : Expr} {gens : List Comprehension} {scope : Scope} {pos px : Pos} {d : Nat} {x : Str} {iter : Expr} {ifs : List Expr} (hg : gens[d]? = some ⟨.Name x px, iter, ifs, 0⟩) (hg' : gens[d + 1]? = none) (it acc : Value) (env : Env) :
    compTurn (.ListComp elt gens scope pos) d it acc env = (do
      standAt iter.pos
      match ← pyNext it with
      | none => pure (.done .next)
      | some v =>
        letOwnedTupleGo (.Name x px) it v
        assign (.Name x px) env v
        let mut ok := true
        for c in ifs do
          if ok then ok ← isTrue c env (eval c env)
        if ok then
          (do let _ ← call (.builtin "list.append") [acc, ← eval elt env])
        again (.compLoop (.ListComp elt gens scope pos) d it acc env)) := by
  unfold compTurn
  simp only [hg, hg']
  rfl
theorem start_at {prog : Program} {w : World} {A : Around} {R : Result → Shared → Prop} {s : Shared} {elt : Expr} {gens : List Comprehension} {scope : Scope} {pos px : Pos} {d : Nat} {x : Str} {iter : Expr} {ifs : List Expr} (hg : gens[d]? = some ⟨.Name x px, iter, ifs, 0⟩) {it acc : Value} {env : Env}
    (h0 : codeAny (model prog w) A (.compLoop (.ListComp elt gens scope pos) d it acc env) R s)
    (h : wpAny (model prog w) A (pyIter it) (fun it' s' => codeAny (model prog w) A (.compLoop (.ListComp elt gens scope pos) d it' acc env) R s')
      (notedBy (model prog w) A env fun x s' => R (.error x) s') s) :
    codeAny (model prog w) A (.compStart (.ListComp elt gens scope pos) d it acc env) R s := by
  refine codeAny_of_tree ?_
  show wpAny _ _ ((compStart (.ListComp elt gens scope pos) d it acc env).onRaise (fun x => do noteFrame x env; standAt theWindowsPlace)) _ _ s
  refine wpAny_notedAt ?_
  have e : compStart (.ListComp elt gens scope pos) d it acc env = (do
      if (← ask).params.followText "comprehension-iter-twice" then return ← again (.compLoop (.ListComp elt gens scope pos) d it acc env)
      rule "comprehension.iter-twice"
      standAt iter.pos
      again (.compLoop (.ListComp elt gens scope pos) d (← pyIter it) acc env)) := by
    unfold compStart
    simp only [clausesOf, hg]
    rfl
  rw [e]
  refine wpAny_bind (wpAny_askSetting (wpAny_ite ?_))
  split
  · first
      | exact wpAny_bind (wpAny_pure (wpAny_pure (And.intro rfl h0)))
      | exact wpAny_pure (And.intro rfl h0)
  · first
      | exact wpAny_bind (wpAny_rule (wpAny_bind (wpAny_standAt (wpAny_bind (wpAny_mono h (fun it' s' h' => wpAny_pure (And.intro rfl h')) fun _ _ x => x)))))
      | (refine wpAny_bind (wpAny_rule ?_); show wpAny _ _ (standAt iter.pos >>= _) _ _ s; exact wpAny_bind (wpAny_standAt (wpAny_bind (wpAny_mono h (fun it' s' h' => wpAny_pure (And.intro rfl h')) fun _ _ x => x))))

section
variable {prog : Program} {w : World} {A : Around} {R : Result → Shared → Prop} {s : Shared}
/-- the tests of a clause -/
abbrev testsOf (ifs : List Expr) (env : Env) : Sem Bool := forIn ifs true fun c r => if r = true then do let ok ← isTrue c env (eval c env); pure (ForInStep.yield ok) else pure (ForInStep.yield r)
abbrev noted (prog : Program) (w : World) (A : Around) (env : Env) (R : Result → Shared → Prop) : Value → Shared → Prop := notedBy (model prog w) A env fun e s' => R (.error e) s'

/-- one turn of a clause: what is done with an item that passed is told apart -/
def Turns (prog : Program) (w : World) (A : Around) (env : Env) (R : Result → Shared → Prop) (it : Value) (x : Str) (px : Pos) (ifs : List Expr) (Inner : Shared → (Shared → Prop) → Prop) (I : Nat → Shared → Prop) : Prop :=
  ∀ n s, I n s → wpAny (model prog w) A (pyNext it) (fun r s₁ => match r with
    | none => R (.ok .next) s₁
    | some v => wpAny (model prog w) A (assign (.Name x px) env v) (fun _ s₂ => wpAny (model prog w) A (testsOf ifs env) (fun ok s₃ => if ok = true then Inner s₃ (fun s₅ => ∃ m, m < n ∧ I m s₅) else ∃ m, m < n ∧ I m s₃) (noted prog w A env R) s₂) (noted prog w A env R) s₁) (noted prog w A env R) s
def InnerLast (prog : Program) (w : World) (A : Around) (env : Env) (R : Result → Shared → Prop) (elt : Expr) (acc : Value) (s : Shared) (P : Shared → Prop) : Prop :=
  wpAny (model prog w) A (eval elt env) (fun y s₅ => wpAny (model prog w) A (call (.builtin "list.append") [acc, y]) (fun _ s₆ => P s₆) (noted prog w A env R) s₅) (noted prog w A env R) s
def InnerMore (prog : Program) (w : World) (A : Around) (env : Env) (R : Result → Shared → Prop) (e : Expr) (d : Nat) (iter : Expr) (acc : Value) (s : Shared) (P : Shared → Prop) : Prop :=
  wpAny (model prog w) A (eval iter env) (fun y s₅ => wpAny (model prog w) A (pyIter y) (fun it s₆ => codeAny (model prog w) A (.compStart e d it acc env) (fun r s₇ => match r with | .ok _ => P s₇ | .error x => cameBackBy (model prog w) A env (noted prog w A env R) x s₇) s₆) (noted prog w A env R) s₅) (noted prog w A env R) s

theorem comp_last {elt : Expr} {gens : List Comprehension} {scope : Scope} {pos px : Pos} {d : Nat} {x : Str} {iter : Expr} {ifs : List Expr} (hg : gens[d]? = some ⟨.Name x px, iter, ifs, 0⟩) (hg' : gens[d + 1]? = none) {it acc : Value} {env : Env} (I : Nat → Shared → Prop)
    (turn : Turns prog w A env R it x px ifs (InnerLast prog w A env R elt acc) I) (n : Nat) (h : I n s) (ht : ∀ v, letOwnedTupleGo (.Name x px) it v = pure () := by intro _; rfl) : codeAny (model prog w) A (.compLoop (.ListComp elt gens scope pos) d it acc env) R s := by
  refine codeAny_loop rfl I (fun n s hI => ?_) n h
  show wpAny _ A ((compTurn (.ListComp elt gens scope pos) d it acc env).onRaise (fun x => do noteFrame x env; theTreesLotGoes x)) _ _ s
  refine wpAny_noted ?_
  rw [turn_last hg hg']
  refine wpAny_bind (wpAny_standAt (wpAny_bind (wpAny_mono (turn n s hI) (fun r s₁ h₁ => ?_) fun _ _ h' => h')))
  cases r with
  | none => exact wpAny_pure h₁
  | some v =>
    refine wpAny_bind (wpAny_of_eq (ht v) ?_)
    refine wpAny_bind (wpAny_mono h₁ (fun _ s₂ h₂ => wpAny_bind (wpAny_mono h₂ (fun ok s₃ h₃ => ?_) fun _ _ h' => h')) fun _ _ h' => h')
    cases ok with
    | false => exact wpAny_pure ⟨rfl, h₃⟩
    | true => exact wpAny_bind (wpAny_bind (wpAny_mono h₃ (fun x s₄ h₄ => wpAny_bind (wpAny_mono h₄ (fun _ s₅ h₅ => wpAny_pure (wpAny_pure ⟨rfl, h₅⟩)) fun _ _ h' => h')) fun _ _ h' => h'))
theorem comp_more (hh : A.handled = none) {elt : Expr} {gens : List Comprehension} {scope : Scope} {pos px px' : Pos} {d : Nat} {x x' : Str} {iter iter' : Expr} {ifs ifs' : List Expr} (hg : gens[d]? = some ⟨.Name x px, iter, ifs, 0⟩) (hg' : gens[d + 1]? = some ⟨.Name x' px', iter', ifs', 0⟩) {it acc : Value} {env : Env} (I : Nat → Shared → Prop)
    (turn : Turns prog w A env R it x px ifs (InnerMore prog w A env R (.ListComp elt gens scope pos) (d + 1) iter' acc) I) (n : Nat) (h : I n s) (ht : ∀ v, letOwnedTupleGo (.Name x px) it v = pure () := by intro _; rfl) (hs : ∀ x, foldedSetIterable iter' env x = pure x := by intro _; rfl) : codeAny (model prog w) A (.compLoop (.ListComp elt gens scope pos) d it acc env) R s := by
  have hA : A.mark none = A := by
    cases A
    simp only [Around.mark] at hh ⊢
    rw [hh]; rfl
  refine codeAny_loop rfl I (fun n s hI => ?_) n h
  show wpAny _ A ((compTurn (.ListComp elt gens scope pos) d it acc env).onRaise (fun x => do noteFrame x env; theTreesLotGoes x)) _ _ s
  refine wpAny_noted ?_
  rw [turn_more hg hg']
  refine wpAny_bind (wpAny_standAt (wpAny_bind (wpAny_mono (turn n s hI) (fun r s₁ h₁ => ?_) fun _ _ h' => h')))
  cases r with
  | none => exact wpAny_pure h₁
  | some v =>
    refine wpAny_bind (wpAny_of_eq (ht v) ?_)
    refine wpAny_bind (wpAny_mono h₁ (fun _ s₂ h₂ => wpAny_bind (wpAny_mono h₂ (fun ok s₃ h₃ => ?_) fun _ _ h' => h')) fun _ _ h' => h')
    cases ok with
    | false => exact wpAny_pure ⟨rfl, h₃⟩
    | true =>
      refine wpAny_bind (wpAny_mono h₃ (fun y s₄ h₄ => ?_) fun _ _ h' => h')
      refine wpAny_bind (wpAny_standAt (wpAny_bind (wpAny_of_eq (hs y) (wpAny_bind ?_))))
      refine wpAny_holding (wpAny_mono h₄ (fun it' s₅ h₅ => ?_) fun _ _ h' => h')
      refine wpAny_bind (wpAny_runOwn ?_)
      rw [hA]
      refine codeAny_mono h₅ fun r s₆ h₆ => ?_
      cases r with
      | ok f => exact wpAny_pure ⟨rfl, h₆⟩
      | error x => exact h₆
end
end Mine

namespace Mine
/-- where a comprehension of many clauses stands: the old heap, the names' frame, the list -/
structure CS4 (H : Heap) (C D : Addr) (s : Shared) (m : Str → Option Value) (zs : List Int) : Prop where
  keep : ∀ b o, H.get? b = some o → s.heap.get? b = some o
  ns : s.heap.Ns C m
  acc : ∃ ys : Array Value, s.heap.PlainList D ys ∧ IntsAre ys.toList zs
def StpW (wr : List Addr) (C D : Addr) (s s' : Shared) : Prop := ∃ h' tk, s' = { s with heap := h', toks := tk } ∧ ∀ b o, b ∉ wr → b ≠ C → b ≠ D → s.heap.get? b = some o → h'.get? b = some o
theorem StpW.refl {wr : List Addr} {C D : Addr} (s : Shared) : StpW wr C D s s := ⟨s.heap, s.toks, rfl, fun _ _ _ _ _ e => e⟩
theorem StpW.trans {wr : List Addr} {C D : Addr} {s s' s'' : Shared} : StpW wr C D s s' → StpW wr C D s' s'' → StpW wr C D s s'' := fun ⟨h1, t1, e1, k1⟩ ⟨h2, t2, e2, k2⟩ => by
  subst e1; subst e2; exact ⟨h2, t2, rfl, fun b o a b' c e => k2 b o a b' c (k1 b o a b' c e)⟩
theorem StpW.get {wr : List Addr} {C D : Addr} {s s' : Shared} (x : StpW wr C D s s') {b : Addr} {o : Obj} (h1 : b ∉ wr) (h2 : b ≠ C) (h3 : b ≠ D) (e : s.heap.get? b = some o) : s'.heap.get? b = some o := by
  obtain ⟨h, t, rfl, k⟩ := x; exact k b o h1 h2 h3 e
theorem StpW.wider {wr wr' : List Addr} {C D : Addr} {s s' : Shared} (x : StpW wr C D s s') (h : ∀ b ∈ wr, b ∈ wr') : StpW wr' C D s s' := by
  obtain ⟨h1, t, rfl, k⟩ := x; exact ⟨h1, t, rfl, fun b o n1 n2 n3 e => k b o (fun q => n1 (h b q)) n2 n3 e⟩
theorem StpW.keeps {wr : List Addr} {C D : Addr} {s s' : Shared} (x : Keeps s s') : StpW wr C D s s' := by
  obtain ⟨h1, t, rfl, k⟩ := x; exact ⟨h1, t, rfl, fun b o _ _ _ e => k b o e⟩

section
variable {prog : Program} {w : World} {A : Around} {R : Result → Shared → Prop}
theorem comp_level {env : Env} {code : Code} {s₀ : Shared} {J : Addr} {x : Str} {px : Pos} {ifs : List Expr} {Inner : Shared → (Shared → Prop) → Prop}
    (rule : ∀ I : Nat → Shared → Prop, Turns prog w A env R (.ref J) x px ifs Inner I → ∀ n, I n s₀ → codeAny (model prog w) A code R s₀)
    {H : Heap} {C D : Addr} (hCD : C ≠ D) {fp wr : List Addr} {k : Nat} {P : Nat → Value → Prop} {St : Nat → Heap → Prop} (W : Walks prog w A J fp wr k P St) (hst : St 0 s₀.heap) (hCf : C ∉ fp) (hDf : D ∉ fp) (hnew : ∀ b ∈ wr, H.get? b = none) (hHC : H.get? C = none) (hC : env.locals = C)
    (hx : env.kindOf x = some .local) (hp : (env.scope.kind == .class || (env.scope.kind == .module && env.locals != env.globals)) = false) (item : ∀ (i : Nat) v, i < k → P i v → ∃ t, v = .int ((i : Nat) : Int) t)
    (Bd : (Str → Option Value) → Prop) (f : Nat → List Int) {m₀ : Str → Option Value} {zs : List Int} (hm : Bd m₀) (S₀ : CS4 H C D s₀ m₀ zs)
    (body : ∀ (i : Nat) (v : Value) m zs' s₃ (Post : Shared → Prop), i < k → (∃ t, v = .int ((i : Nat) : Int) t) → Bd m → zs'.length ≤ zs.length + ((List.range i).flatMap f).length → CS4 H C D s₃ (fun z => if z = x then some v else m z) zs' →
      (∀ s₅ m', StpW [] C D s₃ s₅ → Bd m' → CS4 H C D s₅ m' (zs' ++ f i) → Post s₅) → wpAny (model prog w) A (testsOf ifs env) (fun ok s₄ => if ok = true then Inner s₄ Post else Post s₄) (noted prog w A env R) s₃)
    (done : ∀ s' m', StpW wr C D s₀ s' → Bd m' → CS4 H C D s' m' (zs ++ (List.range k).flatMap f) → R (.ok .next) s') : codeAny (model prog w) A code R s₀ := by
  have hCw : C ∉ wr := fun q => hCf (W.sub _ q)
  have hDw : D ∉ wr := fun q => hDf (W.sub _ q)
  refine rule (fun n s' => ∃ j m, n = k + 1 - j ∧ j ≤ k ∧ StpW wr C D s₀ s' ∧ St j s'.heap ∧ Bd m ∧ CS4 H C D s' m (zs ++ (List.range j).flatMap f)) ?_ (k + 1) ⟨0, m₀, rfl, Nat.zero_le _, StpW.refl _, hst, hm, by simpa using S₀⟩
  rintro n s ⟨j, m, rfl, hj, hs, st, hb, cs⟩
  have keepH : ∀ {h₁ : Heap}, (∀ b o, b ∉ wr → s.heap.get? b = some o → h₁.get? b = some o) → ∀ b o, H.get? b = some o → h₁.get? b = some o := fun {h₁} hk b o e => hk b o (fun q => by rw [hnew b q] at e; cases e) (cs.keep b o e)
  by_cases hlt : j < k
  · refine W.item j s _ _ hlt st fun v h₁ tk hP st₁ hk₁ => ?_
    have hn₁ : h₁.Ns C m := cs.ns.at' fun o e => hk₁ C o hCw e
    subst hC
    refine wpAny_assign_Name (wpAny_storeName_local hx hn₁ (fun h₂ hn₂ hs₂ => ?_) hp)
    have hk₂ : ∀ b o, b ∉ wr → b ≠ env.locals → s.heap.get? b = some o → h₂.get? b = some o := fun b o h1 h2 e => (hs₂.2 b h2).trans (hk₁ b o h1 e)
    obtain ⟨ys, hy, hi⟩ := cs.acc
    have kH : ∀ b o, H.get? b = some o → h₂.get? b = some o := fun b o e => (hs₂.2 b (fun q => by rw [q, hHC] at e; cases e)).trans (keepH hk₁ b o e)
    refine body j v m (zs ++ (List.range j).flatMap f) _ _ hlt (item j v hlt hP) hb (by simp) ⟨kH, hn₂, ys, ?_, hi⟩ fun s₅ m' hstp hb' cs' => ⟨k + 1 - (j + 1), by omega, j + 1, m', rfl, hlt, ?_, ?_, hb', ?_⟩
    · obtain ⟨n, e⟩ := hy
      exact ⟨n, hk₂ D _ hDw (fun q => hCD q.symm) e⟩
    · refine hs.trans (StpW.trans ?_ (hstp.wider (by simp)))
      exact ⟨h₂, _, rfl, fun b o n1 n2 _ e => hk₂ b o n1 n2 e⟩
    · refine W.frame _ _ _ st₁ fun b hb o e => hstp.get (by simp) (fun q => hCf (q ▸ hb)) (fun q => hDf (q ▸ hb)) ((hs₂.2 b (fun q => hCf (q ▸ hb))).trans e)
    · have e : (List.range (j + 1)).flatMap f = (List.range j).flatMap f ++ f j := by simp [List.range_succ, List.flatMap_append]
      rw [e, ← List.append_assoc]; exact cs'
  · have hjk : j = k := by omega
    subst hjk
    refine W.done s _ _ st fun h₁ tk hk₁ => done _ m (hs.trans ⟨h₁, tk, rfl, fun b o n1 _ _ e => hk₁ b o n1 e⟩) hb ⟨keepH hk₁, cs.ns.at' fun o e => hk₁ C o hCw e, ?_⟩
    obtain ⟨ys, ⟨n, e⟩, hi⟩ := cs.acc
    exact ⟨ys, ⟨n, hk₁ D _ hDw e⟩, hi⟩
end

def Cx.four (c : Cx) (C D : Addr) : Cx := { c.in with own := C :: D :: c.own }
theorem four_ok {c : Cx} (k : c.Ok) (C D : Addr) : (c.four C D).Ok :=
  let kin := Cx.in_ok k
  ⟨kin.refl, kin.trans, kin.keeps, kin.grow, kin.bare, k.room, k.tabs, k.units⟩
theorem four_at {c : Cx} {H : Heap} {C D : Addr} {s : Shared} {m : Str → Option Value} {zs : List Int} (low : Low c H) (hC : H.get? C = none) (hD : H.get? D = none) (x : CS4 H C D s m zs) : At (c.four C D) s.heap s := by
  refine ⟨GrowH.refl _ _, fun f => f.elim, ⟨fun a ha ht => ?_, fun a ha => ?_, fun a ha => ?_⟩⟩
  · obtain ⟨mm, e⟩ := low.frames a ha ht
    exact ⟨mm, e.keeps x.keep⟩
  · obtain ⟨hw, ps, e, q⟩ := low.tabsAt a ha
    refine ⟨hw, ps, ⟨x.keep _ _ e.1, e.2⟩, fun pos cv z => ?_⟩
    obtain ⟨c', rfl, n, r⟩ := q pos cv z
    obtain ⟨o, ho⟩ := code_some r
    refine ⟨c', rfl, fun w => ?_, code_keep r fun o ho => x.keep _ _ ho⟩
    rcases List.mem_append.mp w with w | w
    · exact n (List.mem_append_left _ w)
    · rcases List.mem_cons.mp w with rfl | w
      · rw [hC] at ho; cases ho
      · rcases List.mem_cons.mp w with rfl | w
        · rw [hD] at ho; cases ho
        · exact n (List.mem_append_right _ w)
  · rcases List.mem_cons.mp ha with rfl | ha
    · obtain ⟨o, es, ep, e, _⟩ := x.ns
      exact ⟨o, e⟩
    · rcases List.mem_cons.mp ha with rfl | ha
      · obtain ⟨ys, ⟨n, e⟩, _⟩ := x.acc
        exact ⟨_, e⟩
      · obtain ⟨o, e⟩ := low.owned a ha
        exact ⟨o, x.keep _ _ e⟩

section
variable {c : Cx} {R : Result → Shared → Prop}
/-- what a later clause does -/
theorem comp_enter (k : c.Ok) {env : Env} {H : Heap} {C D : Addr} (hCD : C ≠ D) (low : Low c H) (hHC : H.get? C = none) (hHD : H.get? D = none) (hC : env.locals = C) {elt : Expr} {gens : List Comprehension} {scope : Scope} {pos px : Pos} {d : Nat} {x : Str} {iter : Expr} {ifs : List Expr} (hg : gens[d]? = some ⟨.Name x px, iter, ifs, 0⟩)
    (hx : env.kindOf x = some .local) (hp : (env.scope.kind == .class || (env.scope.kind == .module && env.locals != env.globals)) = false)
    {Inner : (Result → Shared → Prop) → Shared → (Shared → Prop) → Prop} (rule : ∀ (R' : Result → Shared → Prop) s₀ (J : Addr) (I : Nat → Shared → Prop), Turns c.prog c.w c.A env R' (.ref J) x px ifs (Inner R') I → ∀ n, I n s₀ → codeAny (model c.prog c.w) c.A (.compLoop (.ListComp elt gens scope pos) d (.ref J) (.ref D) env) R' s₀)
    (Bd : (Str → Option Value) → Prop) (f : Nat → List Int) {n : Nat} {m₀ : Str → Option Value} {zs : List Int} {s : Shared} (hm : Bd m₀) (S₀ : CS4 H C D s m₀ zs) (src : Src (c.four C D) env s.heap iter kInt ((List.range n).map Int.ofNat))
    (body : ∀ (R' : Result → Shared → Prop) (i : Nat) (v : Value) m zs' s₃ (Post : Shared → Prop), i < n → (∃ t, v = .int ((i : Nat) : Int) t) → Bd m → zs'.length ≤ zs.length + ((List.range i).flatMap f).length → CS4 H C D s₃ (fun z => if z = x then some v else m z) zs' →
      (∀ s₅ m', StpW [] C D s₃ s₅ → Bd m' → CS4 H C D s₅ m' (zs' ++ f i) → Post s₅) → wpAny (model c.prog c.w) c.A (testsOf ifs env) (fun ok s₄ => if ok = true then Inner R' s₄ Post else Post s₄) (noted c.prog c.w c.A env R') s₃)
    (Post : Shared → Prop) (done : ∀ s₅ m', StpW [] C D s s₅ → Bd m' → CS4 H C D s₅ m' (zs ++ (List.range n).flatMap f) → Post s₅) :
    InnerMore c.prog c.w c.A env R (.ListComp elt gens scope pos) d iter (.ref D) s Post := by
  have a := four_at low hHC hHD S₀
  refine src s _ _ a fun mid J fp wr P St s₂ S hfp => ?_
  have km : ∀ b o, s.heap.get? b = some o → mid.heap.get? b = some o := fun b o e => keeps_get (S.from_ : Keeps s mid) b o e
  have k2 : ∀ b o, s.heap.get? b = some o → s₂.heap.get? b = some o := fun b o e => keeps_get S.up b o (km b o e)
  have len : ((List.range n).map Int.ofNat).length = n := by simp
  have W := S.walks
  rw [len] at W
  have S₂ : CS4 H C D s₂ m₀ zs := by
    obtain ⟨ys, ⟨nn, e⟩, hi⟩ := S₀.acc
    exact ⟨fun b o e => k2 b o (S₀.keep b o e), S₀.ns.keeps k2, ys, ⟨nn, k2 _ _ e⟩, hi⟩
  have loop : codeAny (model c.prog c.w) c.A (.compLoop (.ListComp elt gens scope pos) d (.ref J) (.ref D) env) (fun r s₇ => match r with | .ok _ => Post s₇ | .error x => cameBackBy (model c.prog c.w) c.A env (noted c.prog c.w c.A env R) x s₇) s₂ := by
    refine comp_level (fun I t n h => rule _ s₂ J I t n h) hCD W S.st (fun q => hfp C q (List.mem_append_right _ List.mem_cons_self)) (fun q => hfp D q (List.mem_append_right _ (List.mem_cons_of_mem _ List.mem_cons_self))) (fun b hb => ?_) hHC hC hx hp (fun i v hi hP => ?_) Bd f hm S₂ (body _) fun s' m' hs hb cs => done s' m' ?_ hb cs
    · cases e : H.get? b with
      | none => rfl
      | some o => have := km b o (S₀.keep b o e); rw [S.newMid b hb] at this; cases this
    · obtain ⟨y, hy, t, e⟩ := S.item i v (by rw [len]; exact hi) hP
      have ey : y = ((i : Nat) : Int) := by
        rw [List.getElem?_map, List.getElem?_range hi] at hy
        exact (Option.some.inj hy).symm
      exact ⟨t, by rw [← ey]; exact e⟩
    · obtain ⟨h1, t1, e1, j1⟩ := (keeps_trans (S.from_ : Keeps s mid) S.up : Keeps s s₂)
      obtain ⟨h2, t2, e2, j2⟩ := hs
      subst e1
      subst e2
      refine ⟨h2, t2, rfl, fun b o _ n2 n3 e => j2 b o (fun q => ?_) n2 n3 (j1 b o e)⟩
      have := km b o e
      rw [S.newMid b q] at this; cases this
  exact start_at hg loop (W.self 0 _ _ _ S.st loop)
end
end Mine

namespace Mine
section
variable {c : Cx} {b : Bool} {env : Env} {h g₀ : Heap} {e₀ r s : Shared} {Wc : List Addr} {σ : Tab} {ow : Owned} {E : Value → Shared → Prop} {Q : Flow → Shared → Prop}

/-- an int as a test -/
theorem Tr.int (_k : c.Ok) {e : Expr} {i : Int} (h1 : Ev c false env h e (.int i))
    (he : isTrue e env (eval e env) = (do let v ← eval e env; standAt e.pos; holding [v] (truthy v)) := by rfl) : Tr c env h e (i != 0) :=
  fun s Q E a q => isTrue_plain (h1.mono a fun v s' r x => by obtain ⟨t, rfl⟩ := x; exact truthy_int (q s' r)) he

/-- x, y = e, where e hands back a pair -/
theorem ex_unpack2 (F : Fn c env e₀ Wc) (hh : c.A.handled = none) (X : Run c env e₀ r Wc σ ow s) {x y : Str} {px py tpos pos : Pos} {kk : Nat} {value : Expr} {d₁ d₂ : D} (hx : Stores env x) (hy : Stores env y) (hnx : ∀ p ∈ ow, p.1 ≠ x) (hny : ∀ p ∈ ow, p.1 ≠ y)
    (he : Ev c true env s.heap value (.pair d₁ d₂)) (q : ∀ s', Run c env e₀ r Wc (setV y d₂ (setV x d₁ σ)) ow s' → Q .next s')
    (hs : swapsWithSole [.Tuple [.Name x px, .Name y py] kk tpos] value pos.line env = pure false := by rfl) (hw : swappedStores [.Tuple [.Name x px, .Name y py] kk tpos] value env = pure none := by rfl) :
    wpAny (model c.prog c.w) c.A (exec (.Assign [.Tuple [.Name x px, .Name y py] kk tpos] value pos) env) Q E s := by
  refine Assign_Tuple (X.ev F he fun v s₁ X₁ _ hv => ?_) hs hw
  obtain ⟨a, v₁, v₂, rfl, _, ht, h1, h2⟩ := hv
  refine wpAny_assign_Tuple (items := #[v₁, v₂]) hh ht rfl rfl fun h' hx' => ?_
  have r₂ := R_heap F.ok s₁ s₁.toks (ext_keeps hx')
  have X₂ := X₁.step F r₂
  refine assignInOrder_cons (assign_Name (X₂.put F hx hnx fun s₃ X₃ l₃ hk₃ _ => ?_))
  have X₃' := X₃.add l₃ (hk₃ true _ _ (h1.step F.ok r₂))
  exact assignInOrder_cons (assign_Name (X₃'.store F hy (hk₃ true _ _ (h2.step F.ok r₂)) hny fun s₄ X₄ => assignInOrder_nil (q s₄ X₄)))

/-- x, y, z = (e, [], []) where y and z will be changed -/
theorem ex_tup3own (F : Fn c env e₀ Wc) (hh : c.A.handled = none) (X : Run c env e₀ r Wc σ ow s) {x y z : Str} {px py pz tpos pos vpos : Pos} {kk vk : Nat} {e₁ e₂ e₃ : Expr} {d₁ d₂ d₃ : D} (hx : Stores env x) (hy : Stores env y) (hz : Stores env z) (hyz : z ≠ y) (hnx : ∀ p ∈ ow, p.1 ≠ x) (hny : ∀ p ∈ ow, p.1 ≠ y) (hnz : ∀ p ∈ ow, p.1 ≠ z) (hxy : y ≠ x) (hxz : z ≠ x)
    (he₁ : Ev c true env s.heap e₁ d₁) (he₂ : NewL c env s.heap e₂ d₂) (he₃ : NewL c env s.heap e₃ d₃)
    (q : ∀ a₂ a₃ s', Fn ((c.plus a₂).plus a₃) env e₀ Wc → a₂ ≠ a₃ → a₂ ∉ c.own → a₂ ∉ c.W → a₃ ∉ c.own → a₃ ∉ c.W → Run ((c.plus a₂).plus a₃) env e₀ r Wc (setV x d₁ (delV y (delV z σ))) ((y, a₂, d₂) :: (z, a₃, d₃) :: ow) s' → Q .next s')
    (he : starEach [e₁, e₂, e₃] env = [(false, eval e₁ env), (false, eval e₂ env), (false, eval e₃ env)] := by rfl) (he' : starEach [e₂, e₃] env = [(false, eval e₂ env), (false, eval e₃ env)] := by rfl) (he'' : starEach [e₃] env = [(false, eval e₃ env)] := by rfl)
    (hs : swapsWithSole [.Tuple [.Name x px, .Name y py, .Name z pz] kk tpos] (.Tuple [e₁, e₂, e₃] vk vpos) pos.line env = pure false := by rfl) (hw : swappedStores [.Tuple [.Name x px, .Name y py, .Name z pz] kk tpos] (.Tuple [e₁, e₂, e₃] vk vpos) env = pure (some [x, y, z]) := by rfl) :
    wpAny (model c.prog c.w) c.A (exec (.Assign [.Tuple [.Name x px, .Name y py, .Name z pz] kk tpos] (.Tuple [e₁, e₂, e₃] vk vpos) pos) env) Q E s := by
  have k := F.ok
  refine Assign_Tuple_swapped (Tuple_ (wpAny_items_cons (he₁.mono X.at_ fun v₁ s₁ r₁ x₁ => wpAny_items_cons (he₂ s₁ _ _ (X.at_.next k r₁) fun a₂ mid₂ s₂ rm₂ y₂ ha₂ hin₂ hv₂ => wpAny_items_cons (he₃ s₂ _ _ (((X.at_.next k r₁).next k rm₂).next k (k.keeps y₂)) fun a₃ mid₃ s₃ rm₃ y₃ ha₃ hin₃ hv₃ => wpAny_items_nil (wpAny_newTuple ?_)) he'') (by rw [he', he''])) (by rw [he, he']))) hs hw
  have X₁ := (X.step F r₁).step F rm₂
  have x₁m := x₁.step k rm₂
  obtain ⟨p1, p2, p3⟩ := X₁.chgAt F ha₂
  obtain ⟨F₂, X₂⟩ := X₁.plus F y₂ ha₂ hin₂
  have k₂ := F₂.ok
  have rm₃' : (c.plus a₂).R s₂ mid₃ := rm₃
  have X₃ := X₂.step F₂ rm₃'
  obtain ⟨q1, q2, q3⟩ := X₃.chgAt F₂ ha₃
  obtain ⟨F₃, X₄⟩ := X₃.plus F₂ y₃ ha₃ hin₃
  have k₃ := F₃.ok
  have hne : a₂ ≠ a₃ := fun e => q1 (by rw [← e]; exact List.mem_cons_self)
  have q1' : a₃ ∉ c.own := fun e => q1 (List.mem_cons_of_mem _ e)
  -- the values behind both lists
  have z₁ : VR ((c.plus a₂).plus a₃) (((c.plus a₂).plus a₃).av true) s₃.heap d₁ v₁ := by
    have w1 := (x₁m.apart (av' := (c.plus a₂).av true) fun z hz => by
      rcases List.mem_append.mp hz with q | q
      · exact .inl (List.mem_append_left _ q)
      · rcases List.mem_cons.mp q with rfl | q
        · exact .inr ha₂
        · exact .inl (List.mem_append_right _ q))
    have w2 : VR (c.plus a₂) ((c.plus a₂).av true) s₂.heap d₁ v₁ := VR.cx (c := c) (c' := c.plus a₂) rfl rfl (w1.grow (W := []) (by simp) fun b o e _ => keeps_get y₂ b o e)
    have w3 := w2.step k₂ rm₃'
    have w4 := (w3.apart (av' := ((c.plus a₂).plus a₃).av true) fun z hz => by
      rcases List.mem_append.mp hz with q | q
      · exact .inl (List.mem_append_left _ q)
      · rcases List.mem_cons.mp q with rfl | q
        · exact .inr ha₃
        · exact .inl (List.mem_append_right _ q))
    exact VR.cx (c := c.plus a₂) (c' := (c.plus a₂).plus a₃) rfl rfl (w4.grow (W := []) (by simp) fun b o e _ => keeps_get y₃ b o e)
  have z₂ : VR ((c.plus a₂).plus a₃) (((c.plus a₂).plus a₃).av false) s₃.heap d₂ (.ref a₂) := by
    have w1 : VR (c.plus a₂) ((c.plus a₂).av false) s₂.heap d₂ (.ref a₂) := ((VR.sub (av' := c.W) hv₂ fun z hz => List.mem_append_left _ hz)).toPlus
    have w2 := w1.step k₂ rm₃'
    exact VR.cx (c := c.plus a₂) (c' := (c.plus a₂).plus a₃) rfl rfl (w2.grow (W := []) (by simp) fun b o e _ => keeps_get y₃ b o e)
  have z₃ : VR ((c.plus a₂).plus a₃) (((c.plus a₂).plus a₃).av false) s₃.heap d₃ (.ref a₃) :=
    VR.cx (c := c) (c' := (c.plus a₂).plus a₃) rfl rfl (VR.sub (av' := c.W) hv₃ fun z hz => List.mem_append_left _ hz)
  have r₄ : ((c.plus a₂).plus a₃).R s₃ _ := R_push k₃ s₃ { cls := .type "tuple", data := .seq [v₁, .ref a₂, .ref a₃].toArray } s₃.toks
  refine unpackItems_tuple (items := #[v₁, .ref a₂, .ref a₃]) hh ⟨_, Heap.get?_push_size _ rfl, rfl, 0, rfl⟩ fun h' hx' => ?_
  have r₅ : ((c.plus a₂).plus a₃).R _ _ := R_heap k₃ { s₃ with heap := s₃.heap.push { cls := .type "tuple", data := .seq [v₁, .ref a₂, .ref a₃].toArray } } s₃.toks (ext_keeps hx')
  have rr := k₃.trans r₄ r₅
  have X₅ := X₄.step F₃ rr
  refine assignInOrder_cons (bindName_ (X₅.put F₃ hz hnz fun s₆ X₆ l₆ hk₆ _ => ?_))
  have X₆' := X₆.addOwn l₆ List.mem_cons_self q2 (hk₆ false _ _ (z₃.step k₃ rr))
  have hny' : ∀ p ∈ ((z, a₃, d₃) :: ow : Owned), p.1 ≠ y := fun p hp => by
    rcases List.mem_cons.mp hp with rfl | hp
    · exact hyz
    · exact hny p hp
  refine assignInOrder_cons (bindName_ (X₆'.put F₃ hy hny' fun s₇ X₇ l₇ hk₇ _ => ?_))
  have X₇' := X₇.addOwn l₇ (List.mem_cons_of_mem _ List.mem_cons_self) p2 (hk₇ false _ _ (hk₆ false _ _ (z₂.step k₃ rr)))
  have hnx' : ∀ p ∈ ((y, a₂, d₂) :: (z, a₃, d₃) :: ow : Owned), p.1 ≠ x := fun p hp => by
    rcases List.mem_cons.mp hp with rfl | hp
    · exact hxy
    · rcases List.mem_cons.mp hp with rfl | hp
      · exact hxz
      · exact hnx p hp
  exact assignInOrder_cons (bindName_ (X₇'.store F₃ hx (hk₇ true _ _ (hk₆ true _ _ (z₁.step k₃ rr))) hnx' fun s₈ X₈ => assignInOrder_nil (q a₂ a₃ s₈ F₃ hne p1 p2 q1' q2 X₈)))
end
end Mine

namespace Mine
def IntAt (m : Str → Option Value) (x : Str) (i : Nat) : Prop := ∃ t, m x = some (.int ((i : Nat) : Int) t)
theorem IntAt.upd {m : Str → Option Value} {x y : Str} {i : Nat} {v : Value} (h : IntAt m x i) (n : x ≠ y) : IntAt (fun z => if z = y then some v else m z) x i := by
  obtain ⟨t, e⟩ := h
  exact ⟨t, (if_neg n).trans e⟩
theorem IntAt.new {m : Str → Option Value} {x : Str} {i : Nat} {v : Value} (h : ∃ t, v = .int ((i : Nat) : Int) t) : IntAt (fun z => if z = x then some v else m z) x i := by
  obtain ⟨t, e⟩ := h
  exact ⟨t, (if_pos rfl).trans (congrArg some e)⟩
/-- the values of a comprehension of four clauses -/
def four3 (t : Nat → Nat → Nat → Nat → Bool) (i j k l : Nat) : List Int := if t i j k l = true then [((i : Nat) : Int)] else []
def four2 (t : Nat → Nat → Nat → Nat → Bool) (i j k : Nat) : List Int := (List.range k).flatMap (four3 t i j k)
def four1 (t : Nat → Nat → Nat → Nat → Bool) (i j : Nat) : List Int := (List.range j).flatMap (four2 t i j)
def four0 (t : Nat → Nat → Nat → Nat → Bool) (i : Nat) : List Int := (List.range i).flatMap (four1 t i)
def fourAll (t : Nat → Nat → Nat → Nat → Bool) (n : Nat) : List Int := (List.range n).flatMap (four0 t)
theorem flat_le {f : Nat → List Int} {b : Nat} (h : ∀ i, (f i).length ≤ b) : ∀ n, ((List.range n).flatMap f).length ≤ n * b
  | 0 => by simp
  | n + 1 => by
    have ih := flat_le h n
    have := h n
    have e : [n].flatMap f = f n := by simp
    rw [List.range_succ, List.flatMap_append, List.length_append, e, Nat.succ_mul]
    omega

/-- the clauses of such a comprehension -/
structure Four where
  a : Str
  b : Str
  c : Str
  d : Str
  pa : Pos
  pb : Pos
  pc : Pos
  pd : Pos
  ia : Expr
  test : Expr
  scope : Scope
  cl : List (Str × Addr)
  pos : Pos
  elt : Expr
  r1 : Pos
  r2 : Pos
  r3 : Pos
  n1 : Pos
  n2 : Pos
  n3 : Pos
  t1 : Pos
  t2 : Pos
  t3 : Pos
def Four.ib (q : Four) : Expr := .Call (.Name "range" q.r1) [.Name q.a q.n1] [] q.t1
def Four.ic (q : Four) : Expr := .Call (.Name "range" q.r2) [.Name q.b q.n2] [] q.t2
def Four.id_ (q : Four) : Expr := .Call (.Name "range" q.r3) [.Name q.c q.n3] [] q.t3
def Four.gens (q : Four) : List Comprehension := [⟨.Name q.a q.pa, q.ia, [], 0⟩, ⟨.Name q.b q.pb, q.ib, [], 0⟩, ⟨.Name q.c q.pc, q.ic, [], 0⟩, ⟨.Name q.d q.pd, q.id_, [q.test], 0⟩]
structure Four.Ok (q : Four) (env : Env) : Prop where
  kind : q.scope.kind = .function
  la : ∀ C, (compEnvC q.scope q.cl C env).kindOf q.a = some .local
  lb : ∀ C, (compEnvC q.scope q.cl C env).kindOf q.b = some .local
  lc : ∀ C, (compEnvC q.scope q.cl C env).kindOf q.c = some .local
  ld : ∀ C, (compEnvC q.scope q.cl C env).kindOf q.d = some .local
  rng : ∀ C, (compEnvC q.scope q.cl C env).kindOf "range" = some .globalImplicit
  glob : env.globals = mainGlobals
  bi : env.builtins = builtinsNs
  ab : q.a ≠ q.b
  ac : q.a ≠ q.c
  ad : q.a ≠ q.d
  bc : q.b ≠ q.c
  bd : q.b ≠ q.d
  cd : q.c ≠ q.d
  da : (q.a == ("__debug__" : Str)) = false
  db : (q.b == ("__debug__" : Str)) = false
  dc : (q.c == ("__debug__" : Str)) = false

section
variable {c : Cx} {env : Env} {g₀ H : Heap} {mg mb : Str → Option Value} {q : Four} {C D : Addr} {t : Nat → Nat → Nat → Nat → Bool} {n : Nat}

/-- what stays true while the clauses run -/
structure FourAt (c : Cx) (env : Env) (g₀ H : Heap) (mg mb : Str → Option Value) (q : Four) (C D : Addr) (t : Nat → Nat → Nat → Nat → Bool) (n : Nat) : Prop where
  k : c.Ok
  hh : c.A.handled = none
  ok : q.Ok env
  hCD : C ≠ D
  low : Low c H
  hHC : H.get? C = none
  hHD : H.get? D = none
  fix : Fixed c g₀ H
  g : g₀.Ns mainGlobals mg
  b : g₀.Ns builtinsNs mb
  range : mg "range" = none ∧ mb "range" = some (.type "range")
  n20 : n ≤ 12
  elt : ∀ (h' : Heap) m i, i < n → (∀ b o, H.get? b = some o → h'.get? b = some o) → h'.Ns C m → IntAt m q.a i → Ev (c.four C D) false (compEnvC q.scope q.cl C env) h' q.elt (.int ((i : Nat) : Int))
  test : ∀ (h' : Heap) m i j k l, i < n → j < i → k < j → l < k → (∀ b o, H.get? b = some o → h'.get? b = some o) → h'.Ns C m → IntAt m q.a i → IntAt m q.b j → IntAt m q.c k → IntAt m q.d l → Tr (c.four C D) (compEnvC q.scope q.cl C env) h' q.test (t i j k l)

theorem FourAt.src (x : FourAt c env g₀ H mg mb q C D t n) {s : Shared} {m : Str → Option Value} {zs : List Int} (S : CS4 H C D s m zs) {y : Str} {p₁ p₂ p₃ : Pos} {i : Nat} (hi : i ≤ 12) (hy : IntAt m y i) (hl : (compEnvC q.scope q.cl C env).kindOf y = some .local) (hd : (y == ("__debug__" : Str)) = false) :
    Src (c.four C D) (compEnvC q.scope q.cl C env) s.heap (.Call (.Name "range" p₁) [.Name y p₂] [] p₃) kInt ((List.range i).map Int.ofNat) := by
  have k4 := four_ok x.k C D
  have Fx : Fixed (c.four C D) g₀ s.heap := fun b o e => ⟨S.keep _ _ (x.fix b o e).1, (x.fix b o e).2⟩
  refine Src.range1 k4 x.hh (gl_builtin Fx x.g x.b x.range.1 x.range.2 x.ok.kind (x.ok.rng C) x.ok.glob x.ok.bi (by decide)) ?_ (by omega)
  obtain ⟨tk, e⟩ := hy
  exact Ev.name (c := c.four C D) k4 (v := .int ((i : Nat) : Int) tk) ⟨x.ok.kind, .inl ⟨hl, m, S.ns, e⟩⟩ ⟨tk, rfl⟩ hd

theorem noClass (x : FourAt c env g₀ H mg mb q C D t n) : ((compEnvC q.scope q.cl C env).scope.kind == .class || ((compEnvC q.scope q.cl C env).scope.kind == .module && (compEnvC q.scope q.cl C env).locals != (compEnvC q.scope q.cl C env).globals)) = false := by
  have : (compEnvC q.scope q.cl C env).scope.kind = .function := x.ok.kind
  rw [this]; rfl

/-- the fourth clause -/
theorem four_d (x : FourAt c env g₀ H mg mb q C D t n) {R : Result → Shared → Prop} {i j k : Nat} (hi : i < n) (hj : j < i) (hk : k < j) {s : Shared} {m : Str → Option Value} {zs : List Int} (hz : zs.length ≤ 60000) (ha : IntAt m q.a i) (hb : IntAt m q.b j) (hc : IntAt m q.c k) (S : CS4 H C D s m zs)
    (Post : Shared → Prop) (done : ∀ s₅ m', StpW [] C D s s₅ → IntAt m' q.a i ∧ IntAt m' q.b j ∧ IntAt m' q.c k → CS4 H C D s₅ m' (zs ++ four2 t i j k) → Post s₅) :
    InnerMore c.prog c.w c.A (compEnvC q.scope q.cl C env) R (.ListComp q.elt q.gens q.scope q.pos) 3 q.id_ (.ref D) s Post := by
  have hs1 := sizeLine_eq
  have n20 := x.n20
  refine comp_enter x.k x.hCD x.low x.hHC x.hHD rfl (hg := by rfl) (ifs := [q.test]) (px := q.pd) (x.ok.ld C) (noClass x) (Inner := fun R' => InnerLast c.prog c.w c.A (compEnvC q.scope q.cl C env) R' q.elt (.ref D)) (fun R' s₀ J I tn nn h => comp_last (by rfl) (by rfl) I tn nn h) (fun m => IntAt m q.a i ∧ IntAt m q.b j ∧ IntAt m q.c k) (four3 t i j k) (n := k) ⟨ha, hb, hc⟩ S (x.src S (by omega) hc (x.ok.lc C) x.ok.dc) (fun R' l v m' zs' s₃ Post' hl hv hB hlen S₃ fin => ?_) Post done
  have f3 : ∀ l, (four3 t i j k l).length ≤ 1 := fun l => by unfold four3; split <;> simp
  have hz' : zs'.length ≤ 65000 := by
    have := flat_le f3 l
    omega
  obtain ⟨ba, bb, bc⟩ := hB
  have a₃ := four_at x.low x.hHC x.hHD S₃
  refine wpAny_tests_one (x.test s₃.heap _ i j k l hi hj hk hl S₃.keep S₃.ns (ba.upd x.ok.ad) (bb.upd x.ok.bd) (bc.upd x.ok.cd) (IntAt.new hv) s₃ _ _ a₃ fun s₄ r₄ => ?_)
  have r₄' : Keeps s₃ s₄ := r₄
  have kp := keeps_get r₄'
  obtain ⟨ys, ⟨nn, hy⟩, hi'⟩ := S₃.acc
  have S₄ : CS4 H C D s₄ (fun z => if z = q.d then some v else m' z) zs' := ⟨fun b o e => kp b o (S₃.keep b o e), S₃.ns.keeps kp, ys, ⟨nn, kp _ _ hy⟩, hi'⟩
  cases ht : t i j k l with
  | false =>
    refine fin s₄ (fun z => if z = q.d then some v else m' z) (StpW.keeps r₄') ⟨ba.upd x.ok.ad, bb.upd x.ok.bd, bc.upd x.ok.cd⟩ ?_
    have e : four3 t i j k l = [] := by unfold four3; rw [ht]; rfl
    rw [e, List.append_nil]; exact S₄
  | true =>
    show InnerLast _ _ _ _ _ _ _ _ _
    unfold InnerLast
    refine x.elt s₄.heap _ i hi S₄.keep S₄.ns (ba.upd x.ok.ad) s₄ _ _ (four_at x.low x.hHC x.hHD S₄) fun y s₅ r₅ hy5 => ?_
    have r₅' : Keeps s₄ s₅ := r₅
    have kp5 := keeps_get r₅'
    obtain ⟨tk, rfl⟩ := hy5
    have hlen5 : ys.size = zs'.length := by have := hi'.length; simpa using this
    refine wpAny_list_append_plain (hsz := by omega) ⟨nn, kp5 _ _ (kp _ _ hy)⟩ fun h₆ hl₆ hs₆ => ?_
    refine fin _ (fun z => if z = q.d then some v else m' z) ((StpW.keeps (keeps_trans r₄' r₅')).trans ⟨h₆, s₅.toks, rfl, fun b o _ _ n3 e => (hs₆.2 b n3).trans e⟩) ⟨ba.upd x.ok.ad, bb.upd x.ok.bd, bc.upd x.ok.cd⟩ ⟨fun b o e => (hs₆.2 b (fun z => by rw [z, x.hHD] at e; cases e)).trans (kp5 b o (S₄.keep b o e)), (S₄.ns.keeps kp5).sameBut hs₆ (fun z => x.hCD z), _, hl₆, ?_⟩
    have e : four3 t i j k l = [((i : Nat) : Int)] := by unfold four3; rw [ht]; rfl
    rw [e, Array.toList_push]
    exact ksk_snoc hi'

/-- the third clause -/
theorem four_c (x : FourAt c env g₀ H mg mb q C D t n) {R : Result → Shared → Prop} {i j : Nat} (hi : i < n) (hj : j < i) {s : Shared} {m : Str → Option Value} {zs : List Int} (hz : zs.length ≤ 50000) (ha : IntAt m q.a i) (hb : IntAt m q.b j) (S : CS4 H C D s m zs)
    (Post : Shared → Prop) (done : ∀ s₅ m', StpW [] C D s s₅ → IntAt m' q.a i ∧ IntAt m' q.b j → CS4 H C D s₅ m' (zs ++ four1 t i j) → Post s₅) :
    InnerMore c.prog c.w c.A (compEnvC q.scope q.cl C env) R (.ListComp q.elt q.gens q.scope q.pos) 2 q.ic (.ref D) s Post := by
  have n20 := x.n20
  refine comp_enter x.k x.hCD x.low x.hHC x.hHD rfl (hg := by rfl) (ifs := []) (px := q.pc) (x.ok.lc C) (noClass x) (Inner := fun R' => InnerMore c.prog c.w c.A (compEnvC q.scope q.cl C env) R' (.ListComp q.elt q.gens q.scope q.pos) 3 q.id_ (.ref D)) (fun R' s₀ J I tn nn h => comp_more x.hh (by rfl) (by rfl) I tn nn h) (fun m => IntAt m q.a i ∧ IntAt m q.b j) (four2 t i j) (n := j) ⟨ha, hb⟩ S (x.src S (by omega) hb (x.ok.lb C) x.ok.db) (fun R' l v m' zs' s₃ Post' hl hv hB hlen S₃ fin => ?_) Post done
  have f2 : ∀ l, (four2 t i j l).length ≤ l * 1 := fun l => flat_le (fun l' => by unfold four3; split <;> simp) l
  have hz' : zs'.length ≤ 60000 := by
    have : ∀ l ≤ 12, ((List.range l).flatMap (four2 t i j)).length ≤ l * 12 := fun l hl12 => by
      induction l with
      | zero => simp
      | succ l ih =>
        have := ih (by omega)
        have h2 := f2 l
        have e : [l].flatMap (four2 t i j) = four2 t i j l := by simp
        rw [List.range_succ, List.flatMap_append, List.length_append, e]
        omega
    have := this l (by omega)
    omega
  refine wpAny_tests_nil ?_
  show InnerMore _ _ _ _ _ _ _ _ _ _ _
  exact four_d x hi hj hl hz' (hB.1.upd x.ok.ac) (hB.2.upd x.ok.bc) (IntAt.new hv) S₃ Post' fun s₅ m₅ h1 h2 h3 => fin s₅ m₅ h1 ⟨h2.1, h2.2.1⟩ h3
/-- the second clause -/
theorem four_b (x : FourAt c env g₀ H mg mb q C D t n) {R : Result → Shared → Prop} {i : Nat} (hi : i < n) {s : Shared} {m : Str → Option Value} {zs : List Int} (hz : zs.length ≤ 40000) (ha : IntAt m q.a i) (S : CS4 H C D s m zs)
    (Post : Shared → Prop) (done : ∀ s₅ m', StpW [] C D s s₅ → IntAt m' q.a i → CS4 H C D s₅ m' (zs ++ four0 t i) → Post s₅) :
    InnerMore c.prog c.w c.A (compEnvC q.scope q.cl C env) R (.ListComp q.elt q.gens q.scope q.pos) 1 q.ib (.ref D) s Post := by
  have n20 := x.n20
  refine comp_enter x.k x.hCD x.low x.hHC x.hHD rfl (hg := by rfl) (ifs := []) (px := q.pb) (x.ok.lb C) (noClass x) (Inner := fun R' => InnerMore c.prog c.w c.A (compEnvC q.scope q.cl C env) R' (.ListComp q.elt q.gens q.scope q.pos) 2 q.ic (.ref D)) (fun R' s₀ J I tn nn h => comp_more x.hh (by rfl) (by rfl) I tn nn h) (fun m => IntAt m q.a i) (four1 t i) (n := i) ha S (x.src S (by omega) ha (x.ok.la C) x.ok.da) (fun R' l v m' zs' s₃ Post' hl hv hB hlen S₃ fin => ?_) Post done
  have f3 : ∀ i j k l, (four3 t i j k l).length ≤ 1 := fun i j k l => by unfold four3; split <;> simp
  have f2 : ∀ i j k, k ≤ 12 → (four2 t i j k).length ≤ 12 := fun i j k h => by
    have := flat_le (f3 i j k) k
    unfold four2; omega
  have f1 : ∀ i j, j ≤ 12 → (four1 t i j).length ≤ 200 := fun i j h => by
    have : ∀ l ≤ 12, ((List.range l).flatMap (four2 t i j)).length ≤ l * 12 := fun l hl12 => by
      induction l with
      | zero => simp
      | succ l ih =>
        have := ih (by omega)
        have h2 := f2 i j l (by omega)
        have e : [l].flatMap (four2 t i j) = four2 t i j l := by simp
        rw [List.range_succ, List.flatMap_append, List.length_append, e]
        omega
    have := this j h
    unfold four1; omega
  have hz' : zs'.length ≤ 50000 := by
    have : ∀ l ≤ 12, ((List.range l).flatMap (four1 t i)).length ≤ l * 200 := fun l hl12 => by
      induction l with
      | zero => simp
      | succ l ih =>
        have := ih (by omega)
        have h2 := f1 i l (by omega)
        have e : [l].flatMap (four1 t i) = four1 t i l := by simp
        rw [List.range_succ, List.flatMap_append, List.length_append, e]
        omega
    have := this l (by omega)
    omega
  refine wpAny_tests_nil ?_
  show InnerMore _ _ _ _ _ _ _ _ _ _ _
  exact four_c x hi hl hz' (hB.upd x.ok.ab) (IntAt.new hv) S₃ Post' fun s₅ m₅ h1 h2 h3 => fin s₅ m₅ h1 h2.1 h3
theorem four0_len (t : Nat → Nat → Nat → Nat → Bool) : ∀ i ≤ 12, (four0 t i).length ≤ 3000 := fun i hi => by
  have f3 : ∀ i j k l, (four3 t i j k l).length ≤ 1 := fun i j k l => by unfold four3; split <;> simp
  have f2 : ∀ i j k, k ≤ 12 → (four2 t i j k).length ≤ 12 := fun i j k h => by
    have := flat_le (f3 i j k) k
    unfold four2; omega
  have f1 : ∀ i j, j ≤ 12 → (four1 t i j).length ≤ 200 := fun i j h => by
    have : ∀ l ≤ 12, ((List.range l).flatMap (four2 t i j)).length ≤ l * 12 := fun l hl12 => by
      induction l with
      | zero => simp
      | succ l ih =>
        have := ih (by omega)
        have h2 := f2 i j l (by omega)
        have e : [l].flatMap (four2 t i j) = four2 t i j l := by simp
        rw [List.range_succ, List.flatMap_append, List.length_append, e]
        omega
    have := this j h
    unfold four1; omega
  have : ∀ l ≤ 12, ((List.range l).flatMap (four1 t i)).length ≤ l * 200 := fun l hl12 => by
    induction l with
    | zero => simp
    | succ l ih =>
      have := ih (by omega)
      have h2 := f1 i l (by omega)
      have e : [l].flatMap (four1 t i) = four1 t i l := by simp
      rw [List.range_succ, List.flatMap_append, List.length_append, e]
      omega
  have := this i hi
  unfold four0; omega
/-- the first clause's loop -/
theorem four_a (x : FourAt c env g₀ H mg mb q C D t n) {R : Result → Shared → Prop} {s : Shared} {m : Str → Option Value} (S : CS4 H C D s m []) {J : Addr} {fp wr : List Addr} {P : Nat → Value → Prop} {St : Nat → Heap → Prop} (W : Walks c.prog c.w c.A J fp wr n P St) (hst : St 0 s.heap) (hCf : C ∉ fp) (hDf : D ∉ fp) (hnew : ∀ b ∈ wr, H.get? b = none)
    (item : ∀ (i : Nat) v, i < n → P i v → ∃ tk, v = .int ((i : Nat) : Int) tk) (done : ∀ s' m', StpW wr C D s s' → CS4 H C D s' m' (fourAll t n) → R (.ok .next) s') :
    codeAny (model c.prog c.w) c.A (.compStart (.ListComp q.elt q.gens q.scope q.pos) 0 (.ref J) (.ref D) (compEnvC q.scope q.cl C env)) R s := by
  have n20 := x.n20
  have loop : codeAny (model c.prog c.w) c.A (.compLoop (.ListComp q.elt q.gens q.scope q.pos) 0 (.ref J) (.ref D) (compEnvC q.scope q.cl C env)) R s := by
    refine comp_level (x := q.a) (px := q.pa) (ifs := []) (Inner := InnerMore c.prog c.w c.A (compEnvC q.scope q.cl C env) R (.ListComp q.elt q.gens q.scope q.pos) 1 q.ib (.ref D)) (fun I tn nn h => comp_more x.hh (by rfl) (by rfl) I tn nn h) x.hCD W hst hCf hDf hnew x.hHC rfl (x.ok.la C) (noClass x) item (fun _ => True) (four0 t) trivial S (fun i v m' zs' s₃ Post' hi hv hB hlen S₃ fin => ?_) fun s' m' h1 _ h3 => done s' m' h1 (by simpa [fourAll] using h3)
    have hz' : zs'.length ≤ 40000 := by
      have : ∀ l ≤ 12, ((List.range l).flatMap (four0 t)).length ≤ l * 3000 := fun l hl12 => by
        induction l with
        | zero => simp
        | succ l ih =>
          have := ih (by omega)
          have h2 := four0_len t l (by omega)
          have e : [l].flatMap (four0 t) = four0 t l := by simp
          rw [List.range_succ, List.flatMap_append, List.length_append, e]
          omega
      have := this i (by omega)
      simp only [List.length_nil, Nat.zero_add] at hlen
      omega
    refine wpAny_tests_nil ?_
    show InnerMore _ _ _ _ _ _ _ _ _ _ _
    exact four_b x hi hz' (IntAt.new hv) S₃ Post' fun s₅ m₅ h1 h2 h3 => fin s₅ m₅ h1 trivial h3
  exact start_at (by rfl) loop (W.self 0 _ _ _ hst loop)
end
end Mine

namespace Mine
section
variable {c : Cx} {env : Env} {g₀ : Heap} {mg mb : Str → Option Value} {e₀ r s : Shared} {Wc : List Addr} {σ : Tab} {ow : Owned} {E : Value → Shared → Prop} {Q : Flow → Shared → Prop} {t : Nat → Nat → Nat → Nat → Bool} {n : Nat}
/-- y = [.. for a in .. for b in range(a) for c in range(b) for d in range(c) if ..] -/
theorem ex_comp4 (F : Fn c env e₀ Wc) (hh : c.A.handled = none) (X : Run c env e₀ r Wc σ ow s) (q : Four) (ok : q.Ok env) {y : Str} {py spos : Pos} (hy : env.kindOf y = some .local) (hno : ∀ p ∈ ow, p.1 ≠ y) (Fx : Fixed c g₀ s.heap) (hg : g₀.Ns mainGlobals mg) (hb : g₀.Ns builtinsNs mb) (hrange : mg "range" = none ∧ mb "range" = some (.type "range")) (hn : n ≤ 12)
    (src : Src c env s.heap q.ia kInt ((List.range n).map Int.ofNat)) (hclos : closureFor q.scope env = pure q.cl) (hcell : ∀ z ∈ q.scope.names, z.2 ≠ .cell) (hnames : ∀ z ∈ q.scope.names, z.2 = .local → q.scope.names.lookup z.1 = some .local)
    (elt : ∀ C D (h' : Heap) m i, i < n → GrowH c.W s.heap h' → h'.Ns C m → IntAt m q.a i → Ev (c.four C D) false (compEnvC q.scope q.cl C env) h' q.elt (.int ((i : Nat) : Int)))
    (test : ∀ C D (h' : Heap) m i j k l, i < n → j < i → k < j → l < k → GrowH c.W s.heap h' → h'.Ns C m → IntAt m q.a i → IntAt m q.b j → IntAt m q.c k → IntAt m q.d l → Tr (c.four C D) (compEnvC q.scope q.cl C env) h' q.test (t i j k l))
    (qq : ∀ s', Run c env e₀ r Wc (setV y (.ints (fourAll t n)) σ) ow s' → Q .next s')
    (hsw : swapsWith (.ListComp q.elt q.gens q.scope q.pos) (some (.Name y py)) spos.line env = pure true := by rfl) (hs : ∀ x, foldedSetIterable q.ia env x = pure x := by intro _; rfl) :
    wpAny (model c.prog c.w) c.A (exec (.Assign [.Name y py] (.ListComp q.elt q.gens q.scope q.pos) spos) env) Q E s := by
  have k := F.ok
  have a := X.at_
  rw [exec_Assign_Name_used _ _ _ _ hsw]
  refine wpAny_bind (wpAny_standAt (wpAny_bind ?_))
  show wpAny _ c.A (do let _ ← comprehension (.ListComp q.elt q.gens q.scope q.pos) q.scope env _ (newList []) false (eval q.ia env) (some (assign (.Name y py) env))) _ _ s
  refine wpAny_bind (wpAny_mono (wpAny_comprehension_free (use := some (assign (.Name y py) env)) (Q := fun _ s' => Q .next s') rfl hs hclos ok.kind hnames
    (src s _ E a fun mid J fp wr P St s₂ S hfp => ?_)) (fun _ s' hq => wpAny_pure (wpAny_pure hq)) fun _ _ e => e)
  have X₁ := X.step F S.from_
  have hLW : env.locals ∈ c.W := by rw [F.W]; exact List.mem_cons_self
  obtain ⟨m, hm⟩ := X₁.at_.low.frames env.locals hLW F.notTab
  have nw : ∀ b ∈ wr, b ∉ c.W := fun b hb => (X₁.chgAt F (S.newMid b hb)).2.1
  obtain ⟨h2, t2, e2, k2⟩ := id S.up
  refine wpAny_newObj_type (wpAny_newFunctionEnv hcell (by intro y hy; simp at hy) (fun h₁ hns₁ hsb₁ => ?_) ok.kind)
  dsimp only at hns₁ hsb₁ ⊢
  generalize hH2 : s₂.heap.push { cls := .type "list", dict := none, data := .seq ([] : List Value).toArray } = H2 at hns₁ hsb₁ ⊢
  have hC : H2.objs.size = s₂.heap.objs.size + 1 := by rw [← hH2, Heap.size_push]
  have hCD : H2.objs.size ≠ s₂.heap.objs.size := by rw [hC]; exact Nat.succ_ne_self _
  have below : ∀ b, b < s₂.heap.objs.size → b ≠ H2.objs.size := fun b hb => by rw [hC]; exact Nat.ne_of_lt (Nat.lt_succ_of_lt hb)
  have old : ∀ b o, s₂.heap.get? b = some o → h₁.get? b = some o := fun b o e => hsb₁.extBut b o (below b (Heap.lt_size e)) (Heap.get?_push_of_some _ (hH2 ▸ Heap.get?_push_of_some _ e))
  have km : ∀ b o, mid.heap.get? b = some o → s₂.heap.get? b = some o := fun b o e => keeps_get S.up b o e
  have fresh : ∀ x, s₂.heap.objs.size ≤ x → mid.heap.get? x = none := fun x hx => by
    cases e : mid.heap.get? x with
    | none => rfl
    | some o' => exact absurd (Heap.lt_size (km _ _ e)) (Nat.not_lt.mpr hx)
  have hHC := fresh H2.objs.size (by rw [hC]; exact Nat.le_succ _)
  have hHD := fresh s₂.heap.objs.size (Nat.le_refl _)
  have hDl : h₁.get? s₂.heap.objs.size = some { cls := .type "list", data := .seq #[] } := hsb₁.extBut _ _ hCD.symm (Heap.get?_push_of_some _ (hH2 ▸ Heap.get?_push_size _ rfl))
  have len : ((List.range n).map Int.ofNat).length = n := by simp
  have W := S.walks
  rw [len] at W
  have grow : ∀ {h' : Heap}, (∀ b o, mid.heap.get? b = some o → h'.get? b = some o) → GrowH c.W s.heap h' := fun {h'} hk => (k.grow S.from_).trans (grow_of_keeps hk _)
  have FA : FourAt c env g₀ mid.heap mg mb q H2.objs.size s₂.heap.objs.size t n := {
    k := k
    hh := hh
    ok := ok
    hCD := hCD
    low := X₁.at_.low
    hHC := hHC
    hHD := hHD
    fix := Fx.grow (k.grow S.from_)
    g := hg
    b := hb
    range := hrange
    n20 := hn
    elt := fun h' m i hi hk => elt _ _ h' m i hi (grow hk)
    test := fun h' m i j k l a1 a2 a3 a4 hk => test _ _ h' m i j k l a1 a2 a3 a4 (grow hk) }
  refine four_a FA (m := fun x => [].reverse.lookup x) ⟨fun b o e => old b o (km b o e), hns₁, #[], ⟨0, hDl⟩, .nil⟩ W (W.frame _ _ _ S.st fun b _ o e => old b o e) (fun z => ?_) (fun z => ?_) (fun b hb => S.newMid b hb) (fun i v hi hP => ?_) fun s' m' hst cs => ?_
  · have := S.fp _ z
    rw [hC] at this; exact absurd this (Nat.not_lt.mpr (Nat.le_succ _))
  · exact absurd (S.fp _ z) (Nat.lt_irrefl _)
  · obtain ⟨y', hy', tk, e⟩ := S.item i v (by rw [len]; exact hi) hP
    have ey : y' = ((i : Nat) : Int) := by
      rw [List.getElem?_map, List.getElem?_range hi] at hy'
      exact (Option.some.inj hy').symm
    exact ⟨tk, by rw [← ey]; exact e⟩
  · obtain ⟨hx, tx, ex, kx⟩ := hst
    subst ex
    have hLmid : ∃ o, mid.heap.get? env.locals = some o := by obtain ⟨o, es, ep, e, _⟩ := hm; exact ⟨o, e⟩
    obtain ⟨oL, heL⟩ := hLmid
    have hLC : env.locals ≠ H2.objs.size := fun z => by rw [z, hHC] at heL; cases heL
    have hLD : env.locals ≠ s₂.heap.objs.size := fun z => by rw [z, hHD] at heL; cases heL
    have hmx : hx.Ns env.locals m := hm.at' fun o e => kx _ o (fun z => nw _ z hLW) hLC hLD (old _ _ (km _ _ e))
    show wpAny _ c.A (assign (.Name y py) env (.ref s₂.heap.objs.size)) _ _ _
    refine wpAny_assign_Name (wpAny_storeName_local hy hmx (fun h₃ hn₃ hs₃ => ?_) (by rw [F.kind]; rfl))
    refine ⟨m', cs.ns.sameBut hs₃ (fun z => hLC z.symm), fun h₄ hs₄ => ?_⟩
    obtain ⟨ys, ⟨nn, hys⟩, hi⟩ := cs.acc
    have keep4 : ∀ b o, b ≠ env.locals → mid.heap.get? b = some o → h₄.get? b = some o := fun b o n1 e => by
      have nC : b ≠ H2.objs.size := fun z => by rw [z, hHC] at e; cases e
      have nD : b ≠ s₂.heap.objs.size := fun z => by rw [z, hHD] at e; cases e
      have nr : b ∉ wr := fun z => by rw [S.newMid b z] at e; cases e
      exact (hs₄.2 b nC).trans ((hs₃.2 b n1).trans (kx b o nr nC nD (old _ _ (km _ _ e))))
    have ns4 : ∀ m0, mid.heap.Ns env.locals m0 → h₄.Ns env.locals (fun z => if z = y then some (.ref s₂.heap.objs.size) else m0 z) := fun m0 hm0 => by
      rw [ns_unique hm0 hm]
      exact hn₃.sameBut hs₄ hLC
    subst e2
    obtain ⟨X', l⟩ := X₁.stored F (h' := h₄) (t := tx + 1) (x := y) (v := .ref _) hy hno keep4 ns4
    refine qq _ (X'.add l ⟨_, ys.toList, rfl, ?_, ⟨nn, ?_⟩, hi⟩)
    · exact X₁.at_.fresh' true hHD
    · exact (hs₄.2 _ hCD.symm).trans ((hs₃.2 _ (fun z => hLD z.symm)).trans (by simpa using hys))
end
end Mine

namespace Mine
theorem setV_cons {y x : Str} {e : D} : ∀ {σ : Tab}, (setV y e σ).lookup x = ((y, e) :: σ).lookup x
  | [] => rfl
  | (z, f) :: r => by
    unfold setV
    by_cases hz : z = y
    · rw [if_pos hz, List.lookup_cons, List.lookup_cons]
      cases h : x == y
      · simp only [List.lookup_cons]
        rw [hz, h]
      · rfl
    · rw [if_neg hz, List.lookup_cons, setV_cons]
      simp only [List.lookup_cons]
      by_cases e1 : x = z
      · subst e1
        have : (x == y) = false := by simpa using hz
        simp [this]
      · have : (x == z) = false := by simpa using e1
        simp [this]
theorem lookup_in {α : Type} {x : Str} {d : α} : ∀ {l : List (Str × α)}, l.lookup x = some d → (x, d) ∈ l
  | [], e => by cases e
  | (y, b) :: r, e => by
    rw [List.lookup_cons] at e
    by_cases q : x = y
    · subst q; simp at e; rw [e]; exact List.mem_cons_self
    · have : (x == y) = false := by simpa using q
      rw [this] at e
      exact List.mem_cons_of_mem _ (lookup_in e)
section
variable {c : Cx} {b : Bool} {env : Env} {h : Heap} {e₀ r s : Shared} {Wc : List Addr} {σ : Tab} {ow : Owned} {E : Value → Shared → Prop} {Q : Flow → Shared → Prop}
theorem Run.cons {x : Str} {d : D} (X : Run c env e₀ r Wc (setV x d σ) ow s) : Run c env e₀ r Wc ((x, d) :: σ) ow s := X.weak fun y e h => by rw [setV_cons]; exact h
theorem Run.known {σ' : Tab} (X : Run c env e₀ r Wc σ' ow s) (h : ∀ p ∈ σ, σ'.lookup p.1 = some p.2) : Run c env e₀ r Wc σ ow s := X.weak fun x d e => h _ (lookup_in e)
theorem as_ (F : Fn c env e₀ Wc) (X : Run c env e₀ r Wc σ ow s) {x : Str} {p pos : Pos} {e : Expr} {d : D} {rest : List Stmt} (hx : Stores env x) (he : Ev c true env s.heap e d) (hno : ∀ p ∈ ow, p.1 ≠ x)
    (q : ∀ s', Run c env e₀ r Wc ((x, d) :: σ) ow s' → wpAny (model c.prog c.w) c.A (execs rest env) Q E s') (hs : swapsWith e (some (.Name x p)) pos.line env = pure false := by rfl) : wpAny (model c.prog c.w) c.A (execs (.Assign [.Name x p] e pos :: rest) env) Q E s :=
  wpAny_execs_cons (ex_assign F X hx he hno (fun s' X' => q s' X'.cons) hs)

def thenDo (M : Model) (A : Around) (env : Env) (rest : List Stmt) (Q : Flow → Shared → Prop) (E : Value → Shared → Prop) (f : Flow) (s' : Shared) : Prop := match f with
  | .next => wpAny M A (execs rest env) Q E s'
  | f => Q f s'
theorem if_F (F : Fn c env e₀ Wc) (X : Run c env e₀ r Wc σ ow s) {t : Expr} {body orelse rest : List Stmt} {pos : Pos} (ht : Tr c env s.heap t false)
    (q : ∀ s', Run c env e₀ r Wc σ ow s' → wpAny (model c.prog c.w) c.A (execs orelse env) (thenDo (model c.prog c.w) c.A env rest Q E) E s') : wpAny (model c.prog c.w) c.A (execs (.If t body orelse pos :: rest) env) Q E s :=
  wpAny_execs_cons (ex_if_false F X ht fun s' X' => wpAny_mono (q s' X') (fun f s'' h => by cases f <;> exact h) fun _ _ e => e)
theorem if_T (F : Fn c env e₀ Wc) (X : Run c env e₀ r Wc σ ow s) {t : Expr} {body orelse rest : List Stmt} {pos : Pos} (ht : Tr c env s.heap t true)
    (q : ∀ s', Run c env e₀ r Wc σ ow s' → wpAny (model c.prog c.w) c.A (execs body env) (thenDo (model c.prog c.w) c.A env rest Q E) E s') : wpAny (model c.prog c.w) c.A (execs (.If t body orelse pos :: rest) env) Q E s :=
  wpAny_execs_cons (ex_if_true F X ht fun s' X' => wpAny_mono (q s' X') (fun f s'' h => by cases f <;> exact h) fun _ _ e => e)
theorem nx_ {M : Model} {A : Around} {rest : List Stmt} {env : Env} (h : wpAny M A (execs rest env) Q E s) : wpAny M A (execs [] env) (thenDo M A env rest Q E) E s := wpAny_execs_nil h
theorem Tr.of {t : Expr} {β β' : Bool} (e : β = β') (x : Tr c env h t β) : Tr c env h t β' := e ▸ x
theorem TrW.of {t : Expr} {w : Sem Value} {β β' : Bool} (e : β = β') (x : TrW c env h t w β) : TrW c env h t w β' := e ▸ x
theorem ap_ (F : Fn c env e₀ Wc) {pre post : Owned} {x : Str} {a : Addr} {τ : Type} (K : Kd τ) {zs : List τ} {z : τ} (X : Run c env e₀ r Wc σ (pre ++ (x, a, K.lst zs) :: post) s) (am : Among pre post x a) {p apos cpos pos : Pos} {e : Expr} {rest : List Stmt}
    (he : Ev c false env s.heap e (K.enc z)) (hM : MethOk env (.Name x p) "append" apos [e] cpos) (hz : zs.length ≤ sizeLine)
    (q : ∀ s', Run c env e₀ r Wc σ (pre ++ (x, a, K.lst (zs ++ [z])) :: post) s' → wpAny (model c.prog c.w) c.A (execs rest env) Q E s')
    (hse : starEach [e] env = [(false, eval e env)] := by rfl) (hi : interactive env = false := by rfl) (hs : swapsWith (.Call (.Attribute (.Name x p) "append" apos) [e] [] cpos) none pos.line env = pure false := by rfl) (hdb : (x == ("__debug__" : Str)) = false := by decide) :
    wpAny (model c.prog c.w) c.A (execs (.Expr (.Call (.Attribute (.Name x p) "append" apos) [e] [] cpos) pos :: rest) env) Q E s :=
  wpAny_execs_cons (ex_append F K X am he hM hz (by exact fun _ _ _ _ => K.un _ _ _ _ _) (fun s' X' => q s' X') hse hi hs hdb)
end

def convTab (st : Int) (pv : Option Str) (style q : Str) (args : D) : Tab := [("style", .str style), ("query", .str q), ("args", args), ("OUTSIDE", .int 0), ("INSIDE_SQ", .int 1), ("INSIDE_QI", .int 2), ("INSIDE_ES", .int 3), ("INSIDE_PN", .int 4), ("INSIDE_CO", .int 5), ("INSIDE_DQ", .int 6), ("state", .int st), ("prev_c", opt pv)]
def nextOf (q : Str) (i : Nat) : Option Str := (q.cps[i + 1]?).map fun ch => ⟨#[ch]⟩

section
variable {c : Cx} {L a : Addr} {e₀ r s : Shared} {Wc : List Addr} {ow : Owned} {E : Value → Shared → Prop} {Q : Flow → Shared → Prop} {q style : Str} {args : D} {i : Nat} {pv : Option Str} {pl ol : Addr} {ph out : List Str} {st : Int} {ch : Str}
abbrev cEnv (L a : Addr) : Env := callEnvC convFd L a
theorem convNext (F : Fn c (cEnv L a) e₀ Wc) (X : Run c (cEnv L a) e₀ r Wc (("c", .str ch) :: ("i", .int i) :: convTab st pv style q args) ow s) (gl : Gl c (cEnv L a) s.heap "len" (.builtin "len")) (hq : q.length < 2 ^ 40) (hi : i < 2 ^ 40) (hno : ∀ p ∈ ow, p.1 ≠ ("next_c" : Str))
    (k : ∀ s', Run c (cEnv L a) e₀ r Wc (("next_c", opt (nextOf q i)) :: ("c", .str ch) :: ("i", .int i) :: convTab st pv style q args) ow s' → wpAny (model c.prog c.w) c.A (execs (convFor.drop 1) (cEnv L a)) Q E s') : wpAny (model c.prog c.w) c.A (execs convFor (cEnv L a)) Q E s := by
  have kk := F.ok
  unfold convFor
  refine as_ F X (.inl rfl) (d := opt (nextOf q i)) ?_ hno k
  refine Ev.ifexp (β := decide ((i : Int) + 1 < q.length)) kk (Tr.cmp kk (Ev.addInt kk (X.name F rfl).weak (Ev.cInt kk)) (Ev.lenStr kk gl (X.name F rfl).weak (by omega)) (Cm.ltInt kk)) (fun hb => ?_) (fun hb => ?_)
  · have hlt : i + 1 < q.cps.size := by
      have := of_decide_eq_true hb
      have e : q.length = q.cps.size := rfl
      omega
    have e : nextOf q i = some (Txt.item q (i + 1)) := by
      unfold nextOf
      rw [Array.getElem?_eq_getElem hlt]
      have h2 : seqIndex? ((i : Int) + 1) q.length = some (i + 1) := by
        have e : q.length = q.cps.size := rfl
        have e2 : ((i : Int) + 1).toNat = i + 1 := by omega
        rw [seqIndex_of (by omega) (by omega), e2]
      simp [Txt.item, Txt.charAt, h2, hlt]
    rw [e]
    exact Ev.char kk (X.name F rfl).weak (Ev.addInt kk (X.name F rfl).weak (Ev.cInt kk)) (by omega) (by omega) (of_decide_eq_true hb)
  · have hlt : ¬ i + 1 < q.cps.size := by
      have := of_decide_eq_false hb
      have e : q.length = q.cps.size := rfl
      omega
    have e : nextOf q i = none := by
      unfold nextOf
      rw [Array.getElem?_eq_none (by omega)]; rfl
    rw [e]
    exact Ev.cNone kk

theorem two_no {x n₁ n₂ : Str} {a₁ a₂ : Addr} {d₁ d₂ : D} (h1 : n₁ ≠ x) (h2 : n₂ ≠ x) : ∀ p ∈ [(n₁, a₁, d₁), (n₂, a₂, d₂)], p.1 ≠ x := by
  intro p hp
  rcases List.mem_cons.mp hp with rfl | hp
  · exact h1
  · rcases List.mem_cons.mp hp with rfl | hp
    · exact h2
    · cases hp
/-- the state behind one letter -/
theorem convEnd (F : Fn c (cEnv L a) e₀ Wc) {σ : Tab} (X : Run c (cEnv L a) e₀ r Wc (("next_c", opt (nextOf q i)) :: ("c", .str ch) :: ("i", .int i) :: convTab st pv style q args) ow s) (hno : ∀ p ∈ ow, p.1 ≠ ("prev_c" : Str))
    (k : ∀ s', Run c (cEnv L a) e₀ r Wc (convTab st (some ch) style q args) ow s' → Q .next s') : wpAny (model c.prog c.w) c.A (execs (convFor.drop 2) (cEnv L a)) Q E s := by
  have kk := F.ok
  unfold convFor
  refine as_ F X (.inl rfl) (d := opt (some ch)) (X.name F rfl) hno fun s₁ X₁ => wpAny_execs_nil (k s₁ (X₁.known ?_))
  unfold convTab
  repeat' (first | exact List.forall_mem_nil _ | refine List.forall_mem_cons.mpr ⟨rfl, ?_⟩)

theorem among2a {x y : Str} {a b : Addr} {zs : List Str} (h : b ≠ a) : Among [] [(y, b, .strs zs)] x a := ⟨by simpa using h, fun p hp => by
  simp at hp; subst hp; exact ⟨Str, kStr, zs, rfl⟩⟩
theorem among2b {x y : Str} {a b : Addr} {zs : List Str} (h : b ≠ a) : Among [(y, b, .strs zs)] [] x a := ⟨by simpa using h, fun p hp => by
  simp at hp; subst hp; exact ⟨Str, kStr, zs, rfl⟩⟩

/-- outside: a letter that means nothing, in pyformat -/
theorem convPlainP (F : Fn c (cEnv L a) e₀ Wc) (X : Run c (cEnv L a) e₀ r Wc (("next_c", opt (nextOf q i)) :: ("c", .str ch) :: ("i", .int i) :: convTab 0 pv (Str.ofString "pyformat") q args) [("placeholders", pl, .strs ph), ("output_query", ol, .strs out)] s) (hpo : pl ≠ ol) (hout : out.length ≤ sizeLine)
    (h1 : (ch == Str.ofString "'") = false) (h2 : (ch == Str.ofString "\"") = false) (h3 : (ch == Str.ofString "-") = false) (h4 : (ch == Str.ofString "$") = false) (h5 : (ch == Str.ofString "%") = false)
    (k : ∀ s', Run c (cEnv L a) e₀ r Wc (convTab 0 (some ch) (Str.ofString "pyformat") q args) [("placeholders", pl, .strs ph), ("output_query", ol, .strs (out ++ [ch]))] s' → Q .next s') : wpAny (model c.prog c.w) c.A (execs (convFor.drop 1) (cEnv L a)) Q E s := by
  have kk := F.ok
  unfold convFor
  refine if_T F X (Tr.cmp kk (X.name F rfl).weak (X.name F rfl).weak (Cm.eqInt kk)) fun s₁ X₁ => ?_
  refine if_F F X₁ (Tr.of h1 (Tr.cmp kk (X₁.name F rfl).weak (Ev.cStr kk) (Cm.eqStr kk))) fun s₂ X₂ => ?_
  refine if_F F X₂ (Tr.of h2 (Tr.cmp kk (X₂.name F rfl).weak (Ev.cStr kk) (Cm.eqStr kk))) fun s₃ X₃ => ?_
  refine if_F F X₃ (Tr.of h3 (Tr.cmp kk (X₃.name F rfl).weak (Ev.cStr kk) (Cm.eqStr kk))) fun s₄ X₄ => ?_
  refine if_F F X₄ (Tr.of h4 (Tr.cmp kk (X₄.name F rfl).weak (Ev.cStr kk) (Cm.eqStr kk))) fun s₅ X₅ => ?_
  refine if_F F X₅ (Tr.andF kk (Tr.cmp kk (X₅.name F rfl).weak (Ev.cStr kk) (Cm.eqStr kk))) fun s₆ X₆ => ?_
  refine if_F F X₆ (Tr.andF kk (Tr.cmp kk (X₆.name F rfl).weak (Ev.cStr kk) (Cm.eqStr kk))) fun s₇ X₇ => ?_
  refine if_F F X₇ (Tr.andF kk (Tr.cmp kk (X₇.name F rfl).weak (Ev.cStr kk) (Cm.eqStr kk))) fun s₈ X₈ => ?_
  refine if_F F X₈ (TrW.of (by rfl) (Tr.and (β := true) (γ := false) kk (Tr.cmp kk (X₈.name F rfl).weak (Ev.cStr kk) (Cm.eqStr kk)) fun _ => Tr.andF kk (Tr.of h5 (Tr.cmp kk (X₈.name F rfl).weak (Ev.cStr kk) (Cm.eqStr kk))))) fun s₉ X₉ => ?_
  refine if_F F X₉ (TrW.of (by rfl) (Tr.and (β := true) (γ := false) kk (Tr.cmp kk (X₉.name F rfl).weak (Ev.tup2 kk (Ev.cStr kk) (Ev.cStr kk)) (Cm.inTstrs kk)) fun _ => Tr.andF kk (Tr.of h5 (Tr.cmp kk (X₉.name F rfl).weak (Ev.cStr kk) (Cm.eqStr kk))))) fun s₁₀ X₁₀ => ?_
  refine ap_ F (pre := [("placeholders", pl, .strs ph)]) (post := []) kStr X₁₀ (among2b hpo) (X₁₀.name F rfl).weak ⟨_, rfl⟩ hout fun s₁₁ X₁₁ => ?_
  refine nx_ (nx_ (nx_ (nx_ (nx_ (nx_ (nx_ (nx_ (nx_ (nx_ ?_)))))))))
  exact convEnd F (σ := []) X₁₁ (by exact two_no (by decide) (by decide)) k

/-- outside: a name begins, in pyformat -/
theorem convOpenP (F : Fn c (cEnv L a) e₀ Wc) (X : Run c (cEnv L a) e₀ r Wc (("next_c", opt (nextOf q i)) :: ("c", .str ch) :: ("i", .int i) :: convTab 0 pv (Str.ofString "pyformat") q args) [("placeholders", pl, .strs ph), ("output_query", ol, .strs out)] s) (hpo : pl ≠ ol) (hph : ph.length ≤ sizeLine)
    (h5 : ch = Str.ofString "%") (h6 : nextOf q i = some (Str.ofString "("))
    (k : ∀ s', Run c (cEnv L a) e₀ r Wc (convTab 4 (some ch) (Str.ofString "pyformat") q args) [("placeholders", pl, .strs (ph ++ [Str.ofString ""])), ("output_query", ol, .strs out)] s' → Q .next s') : wpAny (model c.prog c.w) c.A (execs (convFor.drop 1) (cEnv L a)) Q E s := by
  have kk := F.ok
  subst h5
  unfold convFor
  refine if_T F X (Tr.cmp kk (X.name F rfl).weak (X.name F rfl).weak (Cm.eqInt kk)) fun s₁ X₁ => ?_
  refine if_F F X₁ (Tr.of (by decide) (Tr.cmp kk (X₁.name F rfl).weak (Ev.cStr kk) (Cm.eqStr kk))) fun s₂ X₂ => ?_
  refine if_F F X₂ (Tr.of (by decide) (Tr.cmp kk (X₂.name F rfl).weak (Ev.cStr kk) (Cm.eqStr kk))) fun s₃ X₃ => ?_
  refine if_F F X₃ (Tr.of (by decide) (Tr.cmp kk (X₃.name F rfl).weak (Ev.cStr kk) (Cm.eqStr kk))) fun s₄ X₄ => ?_
  refine if_F F X₄ (Tr.of (by decide) (Tr.cmp kk (X₄.name F rfl).weak (Ev.cStr kk) (Cm.eqStr kk))) fun s₅ X₅ => ?_
  refine if_F F X₅ (Tr.andF kk (Tr.cmp kk (X₅.name F rfl).weak (Ev.cStr kk) (Cm.eqStr kk))) fun s₆ X₆ => ?_
  refine if_F F X₆ (Tr.andF kk (Tr.cmp kk (X₆.name F rfl).weak (Ev.cStr kk) (Cm.eqStr kk))) fun s₇ X₇ => ?_
  refine if_F F X₇ (Tr.andF kk (Tr.cmp kk (X₇.name F rfl).weak (Ev.cStr kk) (Cm.eqStr kk))) fun s₈ X₈ => ?_
  refine if_T F X₈ (TrW.of (by rfl) (Tr.and (β := true) (γ := true) kk (Tr.cmp kk (X₈.name F rfl).weak (Ev.cStr kk) (Cm.eqStr kk)) fun _ => TrW.of (by rfl) (Tr.and (β := true) (γ := true) kk (Tr.cmp kk (X₈.name F rfl).weak (Ev.cStr kk) (Cm.eqStr kk)) fun _ => TrW.of (by rfl) (Tr.and (β := true) (γ := true) kk (Tr.of (by rw [h6]; decide) (Tr.cmp kk (X₈.name F rfl).weak (Ev.cStr kk) (Cm.eqOpt kk))) fun _ => Tr.andNil kk)))) fun s₉ X₉ => ?_
  refine as_ F X₉ (.inl rfl) (X₉.name F rfl) (by exact two_no (by decide) (by decide)) fun s₁₀ X₁₀ => ?_
  refine ap_ F (pre := []) (post := [("output_query", ol, .strs out)]) kStr X₁₀ (among2a hpo.symm) (Ev.cStr kk) ⟨_, rfl⟩ hph fun s₁₁ X₁₁ => ?_
  refine nx_ (nx_ (nx_ (nx_ (nx_ (nx_ (nx_ (nx_ (nx_ ?_))))))))
  exact convEnd F (σ := []) (X₁₁.known (by unfold convTab; repeat' (first | exact List.forall_mem_nil _ | refine List.forall_mem_cons.mpr ⟨rfl, ?_⟩))) (by exact two_no (by decide) (by decide)) k
end
end Mine

namespace Mine
section
variable {c : Cx} {L a : Addr} {e₀ r s : Shared} {Wc : List Addr} {σ : Tab} {ow : Owned} {E : Value → Shared → Prop} {Q : Flow → Shared → Prop} {q style : Str} {args : D} {i : Nat} {pv : Option Str} {pl ol : Addr} {ph out : List Str} {st : Int} {ch y : Str}

theorem ad_ (F : Fn c (cEnv L a) e₀ Wc) {pre post : Owned} {x : Str} {al : Addr} {zs : List Str} {y z : Str} {rest : List Stmt} (X : Run c (cEnv L a) e₀ r Wc σ (pre ++ (x, al, .strs (zs ++ [y])) :: post) s) (am : Among pre post x al) {p tpos pos : Pos} {i e : Expr}
    (hi : Ev c false (cEnv L a) s.heap i (.int (-1))) (he : Ev c false (cEnv L a) s.heap e (.str z)) (hz : y.length + z.length ≤ sizeLine)
    (q : ∀ s', Run c (cEnv L a) e₀ r Wc σ (pre ++ (x, al, .strs (zs ++ [y ++ z])) :: post) s' → wpAny (model c.prog c.w) c.A (execs rest (cEnv L a)) Q E s') (hau : ∀ ov iv new, augStore i ov iv new = (do holding [new, ov, iv] (setItem ov iv new); release [new, ov, iv] []; pure .next) := by intros; rfl) (hdb : (x == ("__debug__" : Str)) = false := by decide) :
    wpAny (model c.prog c.w) c.A (execs (.AugAssign (.Subscript (.Name x p) i tpos) .Add e pos :: rest) (cEnv L a)) Q E s :=
  wpAny_execs_cons (ex_addLast F X am hi he hz (fun s' X' => q s' X') hau hdb)
theorem Ev.neg1 {c : Cx} {b : Bool} {env : Env} {h : Heap} (k : c.Ok) {kk} {p pos : Pos} : Ev c b env h (.UnaryOp .USub (.Constant (.int 1) kk p) pos) (.int (-1)) := fun s Q E a q => UnaryOp_ ((Ev.cInt (b := b) k).mono a fun v s₁ r₁ x₁ => by
    obtain ⟨t, rfl⟩ := x₁
    exact neg_int (q _ _ (k.trans r₁ (R_toks k s₁ _)) ⟨_, rfl⟩))

/-- within a name: a letter of it, in pyformat -/
theorem convLetterP (F : Fn c (cEnv L a) e₀ Wc) (X : Run c (cEnv L a) e₀ r Wc (("next_c", opt (nextOf q i)) :: ("c", .str ch) :: ("i", .int i) :: convTab 4 pv (Str.ofString "pyformat") q args) [("placeholders", pl, .strs (ph ++ [y])), ("output_query", ol, .strs out)] s) (hpo : pl ≠ ol) (hy : y.length + ch.length ≤ sizeLine)
    (h1 : (pv == some (Str.ofString ")") && ch == Str.ofString "s") = false) (h2 : Txt.contains (Str.ofString "()") ch = false)
    (k : ∀ s', Run c (cEnv L a) e₀ r Wc (convTab 4 (some ch) (Str.ofString "pyformat") q args) [("placeholders", pl, .strs (ph ++ [y ++ ch])), ("output_query", ol, .strs out)] s' → Q .next s') : wpAny (model c.prog c.w) c.A (execs (convFor.drop 1) (cEnv L a)) Q E s := by
  have kk := F.ok
  unfold convFor
  refine if_F F X (Tr.of (by decide) (Tr.cmp kk (X.name F rfl).weak (X.name F rfl).weak (Cm.eqInt kk))) fun s₁ X₁ => ?_
  refine if_F F X₁ (Tr.of (by decide) (Tr.cmp kk (X₁.name F rfl).weak (X₁.name F rfl).weak (Cm.eqInt kk))) fun s₂ X₂ => ?_
  refine if_F F X₂ (Tr.of (by decide) (Tr.cmp kk (X₂.name F rfl).weak (X₂.name F rfl).weak (Cm.eqInt kk))) fun s₃ X₃ => ?_
  refine if_F F X₃ (Tr.of (by decide) (Tr.cmp kk (X₃.name F rfl).weak (X₃.name F rfl).weak (Cm.eqInt kk))) fun s₄ X₄ => ?_
  refine if_F F X₄ (Tr.of (by decide) (Tr.cmp kk (X₄.name F rfl).weak (X₄.name F rfl).weak (Cm.eqInt kk))) fun s₅ X₅ => ?_
  refine if_T F X₅ (Tr.of (by decide) (Tr.cmp kk (X₅.name F rfl).weak (X₅.name F rfl).weak (Cm.eqInt kk))) fun s₆ X₆ => ?_
  refine if_F F X₆ (Tr.of (by decide) (Tr.cmp kk (X₆.name F rfl).weak (Ev.cStr kk) (Cm.eqStr kk))) fun s₇ X₇ => ?_
  refine if_T F X₇ (Tr.of (by decide) (Tr.cmp kk (X₇.name F rfl).weak (Ev.cStr kk) (Cm.eqStr kk))) fun s₈ X₈ => ?_
  refine if_F F X₈ (TrW.of h1 (Tr.and kk (Tr.cmp kk (X₈.name F rfl).weak (Ev.cStr kk) (Cm.eqOpt kk)) fun _ => TrW.of (by simp) (Tr.and kk (Tr.cmp kk (X₈.name F rfl).weak (Ev.cStr kk) (Cm.eqStr kk)) fun _ => Tr.andNil kk))) fun s₉ X₉ => ?_
  refine if_F F X₉ (Tr.of h2 (Tr.cmp kk (X₉.name F rfl).weak (Ev.cStr kk) (Cm.inStr kk))) fun s₁₀ X₁₀ => ?_
  refine ad_ F (pre := []) (post := [("output_query", ol, .strs out)]) X₁₀ (among2a hpo.symm) (Ev.neg1 kk) (X₁₀.name F rfl).weak hy fun s₁₁ X₁₁ => ?_
  refine nx_ (nx_ (nx_ (nx_ (nx_ (nx_ (nx_ (nx_ (nx_ (nx_ ?_)))))))))
  exact convEnd F (σ := []) X₁₁ (by exact two_no (by decide) (by decide)) k

/-- within a name: a bracket, in pyformat -/
theorem convBracketP (F : Fn c (cEnv L a) e₀ Wc) (X : Run c (cEnv L a) e₀ r Wc (("next_c", opt (nextOf q i)) :: ("c", .str ch) :: ("i", .int i) :: convTab 4 pv (Str.ofString "pyformat") q args) [("placeholders", pl, .strs ph), ("output_query", ol, .strs out)] s)
    (h1 : (pv == some (Str.ofString ")") && ch == Str.ofString "s") = false) (h2 : Txt.contains (Str.ofString "()") ch = true)
    (k : ∀ s', Run c (cEnv L a) e₀ r Wc (convTab 4 (some ch) (Str.ofString "pyformat") q args) [("placeholders", pl, .strs ph), ("output_query", ol, .strs out)] s' → Q .next s') : wpAny (model c.prog c.w) c.A (execs (convFor.drop 1) (cEnv L a)) Q E s := by
  have kk := F.ok
  unfold convFor
  refine if_F F X (Tr.of (by decide) (Tr.cmp kk (X.name F rfl).weak (X.name F rfl).weak (Cm.eqInt kk))) fun s₁ X₁ => ?_
  refine if_F F X₁ (Tr.of (by decide) (Tr.cmp kk (X₁.name F rfl).weak (X₁.name F rfl).weak (Cm.eqInt kk))) fun s₂ X₂ => ?_
  refine if_F F X₂ (Tr.of (by decide) (Tr.cmp kk (X₂.name F rfl).weak (X₂.name F rfl).weak (Cm.eqInt kk))) fun s₃ X₃ => ?_
  refine if_F F X₃ (Tr.of (by decide) (Tr.cmp kk (X₃.name F rfl).weak (X₃.name F rfl).weak (Cm.eqInt kk))) fun s₄ X₄ => ?_
  refine if_F F X₄ (Tr.of (by decide) (Tr.cmp kk (X₄.name F rfl).weak (X₄.name F rfl).weak (Cm.eqInt kk))) fun s₅ X₅ => ?_
  refine if_T F X₅ (Tr.of (by decide) (Tr.cmp kk (X₅.name F rfl).weak (X₅.name F rfl).weak (Cm.eqInt kk))) fun s₆ X₆ => ?_
  refine if_F F X₆ (Tr.of (by decide) (Tr.cmp kk (X₆.name F rfl).weak (Ev.cStr kk) (Cm.eqStr kk))) fun s₇ X₇ => ?_
  refine if_T F X₇ (Tr.of (by decide) (Tr.cmp kk (X₇.name F rfl).weak (Ev.cStr kk) (Cm.eqStr kk))) fun s₈ X₈ => ?_
  refine if_F F X₈ (TrW.of h1 (Tr.and kk (Tr.cmp kk (X₈.name F rfl).weak (Ev.cStr kk) (Cm.eqOpt kk)) fun _ => TrW.of (by simp) (Tr.and kk (Tr.cmp kk (X₈.name F rfl).weak (Ev.cStr kk) (Cm.eqStr kk)) fun _ => Tr.andNil kk))) fun s₉ X₉ => ?_
  refine if_T F X₉ (Tr.of h2 (Tr.cmp kk (X₉.name F rfl).weak (Ev.cStr kk) (Cm.inStr kk))) fun s₁₀ X₁₀ => ?_
  refine wpAny_execs_cons (wpAny_Pass ?_)
  refine nx_ (nx_ (nx_ (nx_ (nx_ (nx_ (nx_ (nx_ (nx_ (nx_ ?_)))))))))
  exact convEnd F (σ := []) X₁₀ (by exact two_no (by decide) (by decide)) k
end
end Mine

namespace Mine
/-- the names of the module and of Python that are asked for -/
structure Names (g₀ : Heap) (mg mb : Str → Option Value) : Prop where
  g : g₀.Ns mainGlobals mg
  b : g₀.Ns builtinsNs mb
  len : mg "len" = none ∧ mb "len" = some (.builtin "len")
  str : mg "str" = none ∧ mb "str" = some (.type "str")
  ve : mg "ValueError" = none ∧ mb "ValueError" = some (.type "ValueError")
  map : mg "map" = none ∧ mb "map" = some (.type "map")
  enum : mg "enumerate" = none ∧ mb "enumerate" = some (.type "enumerate")
  tup : mg "tuple" = none ∧ mb "tuple" = some (.type "tuple")

section
variable {c : Cx} {L a : Addr} {g₀ : Heap} {mg mb : Str → Option Value} {e₀ r s : Shared} {Wc : List Addr} {σ : Tab} {ow : Owned} {E : Value → Shared → Prop} {Q : Flow → Shared → Prop} {q style : Str} {args : D} {i : Nat} {pv : Option Str} {pl ol : Addr} {ph out : List Str} {st : Int} {ch y : Str}

theorem dl_ (F : Fn c (cEnv L a) e₀ Wc) {pre post : Owned} {x : Str} {al : Addr} {zs : List Str} {y : Str} {rest : List Stmt} (X : Run c (cEnv L a) e₀ r Wc σ (pre ++ (x, al, .strs (zs ++ [y])) :: post) s) (am : Among pre post x al) {p tpos pos : Pos} {i : Expr}
    (hi : Ev c false (cEnv L a) s.heap i (.int (-1))) (hz : zs.length + 1 ≤ sizeLine)
    (q : ∀ s', Run c (cEnv L a) e₀ r Wc σ (pre ++ (x, al, .strs zs) :: post) s' → wpAny (model c.prog c.w) c.A (execs rest (cEnv L a)) Q E s') (hdb : (x == ("__debug__" : Str)) = false := by decide) :
    wpAny (model c.prog c.w) c.A (execs (.Delete [.Subscript (.Name x p) i tpos] pos :: rest) (cEnv L a)) Q E s :=
  wpAny_execs_cons (ex_delLast F X am hi hz (fun s' X' => q s' X') hdb)

theorem rz_ {env : Env} (k : c.Ok) (F : Fn c env e₀ Wc) (hh : c.A.handled = none) (X : Run c env e₀ r Wc σ ow s) {x : Str} {p apos cpos pos : Pos} {o e : Expr} {ss : List Str} {rest : List Stmt} (h0 : Ev c false env s.heap o (.strs ss)) (h1 : Ev c false env s.heap e (.str y)) (hM : MethOk env o "index" apos [e] cpos)
    (hy : y ∉ ss) (hz : ss.length < 2 ^ 62) (hzx : (reprText y).length + 15 ≤ sizeLine) {Q' : Flow → Shared → Prop} {E' : Value → Shared → Prop}
    (q : ∀ s₁ a args h' tk, Run c env e₀ r Wc σ ow s₁ → Heap.MadeExcOf s₁.heap h' a (.type "ValueError") args → E' (.ref a) { s₁ with heap := h', toks := tk })
    (he : starEach [e] env = [(false, eval e env)] := by rfl) (hs : swapsWith (.Call (.Attribute o "index" apos) [e] [] cpos) (some (.Name x p)) pos.line env = pure false := by rfl) :
    wpAny (model c.prog c.w) c.A (execs (.Assign [.Name x p] (.Call (.Attribute o "index" apos) [e] [] cpos) pos :: rest) env) Q' E' s := by
  obtain ⟨pl, hM⟩ := hM
  refine wpAny_execs_cons (wpAny_Assign_Name (MethodCall_ (pl := pl) (h0.mono X.at_ fun v₀ s₀ r₀ x₀ => getMethod_builtin (tyStrs v₀ s₀ x₀).1 PySem.F.plainAttrs_list PySem.F.slot_list_index PySem.F.type_list_index (tyStrs v₀ s₀ x₀).2 (callWith_method1 (wpAny_items_cons (h1.mono (X.at_.next k r₀) fun v₁ s₁ r₁ x₁ => wpAny_items_nil ?_) he) he)) hM) hs)
  obtain ⟨pa, vs, rfl, _, hl, hv⟩ := x₀.step k r₁
  obtain ⟨t, rfl⟩ := x₁
  exact idxMissB hh hl.isList hv hy hz hzx fun h' a args tk hx => q s₁ a args h' tk (X.step F (k.trans r₀ r₁)) hx

def told (n : Nat) : Str := Str.ofString "$" ++ Str.ofString (toString (n : Int))
theorem told_short : ∀ n < 64, (Str.ofString (toString ((n : Nat) : Int))).length ≤ 8 := by decide +kernel
theorem told_log {n : Nat} (h : n < 64) : ((n : Nat) : Int).natAbs.log2 < 1920 := by
  have : ((n : Nat) : Int).natAbs = n := by simp
  rw [this]
  exact Nat.lt_of_le_of_lt (Nat.log2_le_self n) (by omega)

/-- a name of a query ends: told already, or new -/
def tellPh (ph : List Str) (y : Str) : List Str := if y ∈ ph then ph else ph ++ [y]
def tellNo (ph : List Str) (y : Str) : Nat := if y ∈ ph then ph.idxOf y + 1 else ph.length + 1

theorem gl_len {c : Cx} {env : Env} {h : Heap} (x : Fixed c g₀ h) (N : Names g₀ mg mb) (hk : env.scope.kind = .function := by rfl) (hx : env.kindOf "len" = some .globalImplicit := by rfl) (hg : env.globals = mainGlobals := by rfl) (hb : env.builtins = builtinsNs := by rfl) : Gl c env h "len" (.builtin "len") := gl_builtin x N.g N.b N.len.1 N.len.2 hk hx hg hb
theorem gl_str {c : Cx} {env : Env} {h : Heap} (x : Fixed c g₀ h) (N : Names g₀ mg mb) (hk : env.scope.kind = .function := by rfl) (hx : env.kindOf "str" = some .globalImplicit := by rfl) (hg : env.globals = mainGlobals := by rfl) (hb : env.builtins = builtinsNs := by rfl) : Gl c env h "str" (.type "str") := gl_builtin x N.g N.b N.str.1 N.str.2 hk hx hg hb
theorem gl_ve {c : Cx} {env : Env} {h : Heap} (x : Fixed c g₀ h) (N : Names g₀ mg mb) (hk : env.scope.kind = .function := by rfl) (hx : env.kindOf "ValueError" = some .globalImplicit := by rfl) (hg : env.globals = mainGlobals := by rfl) (hb : env.builtins = builtinsNs := by rfl) : Gl c env h "ValueError" (.type "ValueError") := gl_builtin x N.g N.b N.ve.1 N.ve.2 hk hx hg hb

/-- '$' + str(n) -/
theorem ev_told {c : Cx} {b : Bool} {env : Env} {h : Heap} (k : c.Ok) {n : Nat} (hn : n < 64) {e : Expr} {kk p₁ p₂ p₃ pos} (g : Gl c env h "str" (.type "str")) (h1 : Ev c false env h e (.int n)) (he : starEach [e] env = [(false, eval e env)] := by rfl) :
    Ev c b env h (.BinOp (.Constant (.str "$") kk p₁) .Add (.Call (.Name "str" p₂) [e] [] p₃) pos) (.str (told n)) :=
  Ev.addStr k (by have := told_short n hn; have : (Str.ofString "$").length = 1 := by decide
                  have := sizeLine_eq
                  omega) (Ev.cStr k) (Ev.strInt k g h1 (told_log hn) he)

/-- a name ends, in pyformat -/
theorem convCloseP (F : Fn c (cEnv L a) e₀ Wc) (hh : c.A.handled = none) (hA : Around₀ c.A (cEnv L a) c.W c.tabs) (G : ∀ b o, g₀.get? b = some o → e₀.heap.get? b = some o ∧ b ∉ Wc) (N : Names g₀ mg mb) (hpo : pl ≠ ol) (hph : ph.length < 60) (hout : out.length ≤ sizeLine) (hy : (reprText y).length + 15 ≤ sizeLine)
    (X : Run c (cEnv L a) e₀ r Wc (("next_c", opt (nextOf q i)) :: ("c", .str ch) :: ("i", .int i) :: convTab 4 pv (Str.ofString "pyformat") q args) [("placeholders", pl, .strs (ph ++ [y])), ("output_query", ol, .strs out)] s)
    (h1 : pv = some (Str.ofString ")")) (h2 : ch = Str.ofString "s")
    (k : ∀ s', Run c (cEnv L a) e₀ r Wc (convTab 0 (some ch) (Str.ofString "pyformat") q args) [("placeholders", pl, .strs (if y ∈ ph then ph else ph ++ [y])), ("output_query", ol, .strs (out ++ [told (if y ∈ ph then ph.idxOf y + 1 else ph.length + 1)]))] s' → Q .next s') : wpAny (model c.prog c.w) c.A (execs (convFor.drop 1) (cEnv L a)) Q E s := by
  have kk := F.ok
  have hs1 := sizeLine_eq
  subst h2
  unfold convFor
  refine if_F F X (Tr.of (by decide) (Tr.cmp kk (X.name F rfl).weak (X.name F rfl).weak (Cm.eqInt kk))) fun s₁ X₁ => ?_
  refine if_F F X₁ (Tr.of (by decide) (Tr.cmp kk (X₁.name F rfl).weak (X₁.name F rfl).weak (Cm.eqInt kk))) fun s₂ X₂ => ?_
  refine if_F F X₂ (Tr.of (by decide) (Tr.cmp kk (X₂.name F rfl).weak (X₂.name F rfl).weak (Cm.eqInt kk))) fun s₃ X₃ => ?_
  refine if_F F X₃ (Tr.of (by decide) (Tr.cmp kk (X₃.name F rfl).weak (X₃.name F rfl).weak (Cm.eqInt kk))) fun s₄ X₄ => ?_
  refine if_F F X₄ (Tr.of (by decide) (Tr.cmp kk (X₄.name F rfl).weak (X₄.name F rfl).weak (Cm.eqInt kk))) fun s₅ X₅ => ?_
  refine if_T F X₅ (Tr.of (by decide) (Tr.cmp kk (X₅.name F rfl).weak (X₅.name F rfl).weak (Cm.eqInt kk))) fun s₆ X₆ => ?_
  refine if_F F X₆ (Tr.of (by decide) (Tr.cmp kk (X₆.name F rfl).weak (Ev.cStr kk) (Cm.eqStr kk))) fun s₇ X₇ => ?_
  refine if_T F X₇ (Tr.of (by decide) (Tr.cmp kk (X₇.name F rfl).weak (Ev.cStr kk) (Cm.eqStr kk))) fun s₈ X₈ => ?_
  refine if_T F X₈ (TrW.of (by rw [h1]; decide) (Tr.and kk (Tr.cmp kk (X₈.name F rfl).weak (Ev.cStr kk) (Cm.eqOpt kk)) fun _ => Tr.and kk (Tr.cmp kk (X₈.name F rfl).weak (Ev.cStr kk) (Cm.eqStr kk)) fun _ => Tr.andNil kk)) fun s₉ X₉ => ?_
  refine as_ F X₉ (.inl rfl) (X₉.name F rfl) (by exact two_no (by decide) (by decide)) fun s₁₀ X₁₀ => ?_
  have fin : ∀ {s'} {ph' : List Str} {n : Nat} {σ' : Tab}, Run c (cEnv L a) e₀ r Wc σ' [("placeholders", pl, .strs ph'), ("output_query", ol, .strs (out ++ [told n]))] s' → (∀ p ∈ ((("next_c", opt (nextOf q i)) :: ("c", .str (Str.ofString "s")) :: ("i", .int i) :: convTab 0 pv (Str.ofString "pyformat") q args) : Tab), σ'.lookup p.1 = some p.2) → ph' = (if y ∈ ph then ph else ph ++ [y]) → n = (if y ∈ ph then ph.idxOf y + 1 else ph.length + 1) →
      wpAny (model c.prog c.w) c.A (execs (convFor.drop 2) (cEnv L a)) Q E s' := fun Y hk e1 e2 => by
    subst e1 e2
    exact convEnd F (σ := []) (Y.known hk) (by exact two_no (by decide) (by decide)) k
  unfold convFor at fin
  by_cases hm : y ∈ ph
  · refine wpAny_execs_cons (ex_tryOk fun E' => ?_)
    have own₁ : ∀ {s'} {σ'} {out'}, Run c (cEnv L a) e₀ r Wc σ' [("placeholders", pl, .strs (ph ++ [y])), ("output_query", ol, .strs out')] s' → ∀ p, Ev c false (cEnv L a) s'.heap (.Name "placeholders" p) (.strs (ph ++ [y])) := fun Y p => Y.own F List.mem_cons_self
    refine as_ F X₁₀ (.inl rfl) (Ev.index kk (Ev.butLastStrs kk (own₁ X₁₀ _) (Ev.neg1 kk) (by omega)) (Ev.lastStrs kk (own₁ X₁₀ _) (Ev.neg1 kk)) ⟨_, rfl⟩ hm (by omega)) (by exact two_no (by decide) (by decide)) fun s₁₁ X₁₁ => ?_
    have hidx : ph.idxOf y < ph.length := List.idxOf_lt_length_iff.mpr hm
    refine ap_ F (pre := [("placeholders", pl, .strs (ph ++ [y]))]) (post := []) kStr (z := told (ph.idxOf y + 1)) X₁₁ (among2b hpo) (ev_told kk (by omega) (gl_str (Run.fixed F G X₁₁) N) (Ev.addInt kk (X₁₁.name F (x := "pidx") (d := .int (ph.idxOf y : Nat)) rfl).weak (Ev.cInt kk))) ⟨_, rfl⟩ hout fun s₁₂ X₁₂ => ?_
    refine dl_ F (pre := []) (post := [("output_query", ol, .strs (out ++ [told (ph.idxOf y + 1)]))]) X₁₂ (among2a hpo.symm) (Ev.neg1 kk) (by omega) fun s₁₃ X₁₃ => wpAny_execs_nil ⟨rfl, ?_⟩
    refine nx_ (nx_ (nx_ (nx_ (nx_ (nx_ (nx_ (nx_ (nx_ ?_))))))))
    exact fin X₁₃ (by unfold convTab; repeat' (first | exact List.forall_mem_nil _ | refine List.forall_mem_cons.mpr ⟨rfl, ?_⟩)) (by rw [if_pos hm]) (by rw [if_pos hm])
  · have own₁ : ∀ p, Ev c false (cEnv L a) s₁₀.heap (.Name "placeholders" p) (.strs (ph ++ [y])) := fun p => X₁₀.own F List.mem_cons_self
    refine wpAny_execs_cons (ex_tryMiss F X₁₀ hA (fun Q' E' q' => rz_ kk F hh X₁₀ (Ev.butLastStrs kk (own₁ _) (Ev.neg1 kk) (by omega)) (Ev.lastStrs kk (own₁ _) (Ev.neg1 kk)) ⟨_, rfl⟩ hm (by omega) hy q') (fun ea s₁ E' Q' Y hq => ?_) (fun ea s₁ E' F' Y => ?_))
    · have g := gl_ve (c := c.on (c.A.mark (some (.ref ea)))) (env := cEnv L a) (Run.fixed (Fn.on F (A' := c.A.mark (some (.ref ea))) F.ok.room F.ok.units) G (Run.on Y)) N
      exact g _ s₁ Q' E' (Run.on Y).at_ hq
    · have hl : ∀ p₁ p₂ p₃, Ev (c.on (c.A.mark (some (.ref ea)))) false (cEnv L a) s₁.heap (.Call (.Name "len" p₁) [.Name "placeholders" p₂] [] p₃) (.int ((ph.length + 1 : Nat) : Int)) := fun p₁ p₂ p₃ => by
        have e : (ph ++ [y]).length = ph.length + 1 := by simp
        have := Ev.lenStrs (b := false) (p := p₁) (pos := p₃) F'.ok (gl_len (Run.fixed F' G Y) N) (Y.own F' (pos := p₂) List.mem_cons_self) (by simp; omega)
        rwa [e] at this
      refine ap_ F' (pre := [("placeholders", pl, .strs (ph ++ [y]))]) (post := []) kStr (z := told (ph.length + 1)) Y (among2b hpo) (ev_told F'.ok (by omega) (gl_str (Run.fixed F' G Y) N) (hl _ _ _)) ⟨_, rfl⟩ hout fun s₁₂ X₁₂ => wpAny_execs_nil ?_
      refine nx_ (nx_ (nx_ (nx_ (nx_ (nx_ (nx_ (nx_ (nx_ ?_))))))))
      exact fin (Run.off X₁₂) (by unfold convTab; repeat' (first | exact List.forall_mem_nil _ | refine List.forall_mem_cons.mpr ⟨rfl, ?_⟩)) (by rw [if_neg hm]) (by rw [if_neg hm])
end
end Mine

namespace Mine
/-- where the reading of a query stands -/
structure CS where
  st : Int
  ph : List Str
  out : List Str
  pv : Option Str
/-- one letter, in pyformat -/
inductive StepP (nx : Option Str) : CS → Str → CS → Prop where
  | plain {ph out pv ch} : (ch == Str.ofString "'") = false → (ch == Str.ofString "\"") = false → (ch == Str.ofString "-") = false → (ch == Str.ofString "$") = false → (ch == Str.ofString "%") = false → out.length ≤ 65536 →
      StepP nx ⟨0, ph, out, pv⟩ ch ⟨0, ph, out ++ [ch], some ch⟩
  | opens {ph out pv} : nx = some (Str.ofString "(") → ph.length ≤ 60 → StepP nx ⟨0, ph, out, pv⟩ (Str.ofString "%") ⟨4, ph ++ [Str.ofString ""], out, some (Str.ofString "%")⟩
  | letter {ph y out pv ch} : (pv == some (Str.ofString ")") && ch == Str.ofString "s") = false → Txt.contains (Str.ofString "()") ch = false → y.length + ch.length ≤ 65536 → StepP nx ⟨4, ph ++ [y], out, pv⟩ ch ⟨4, ph ++ [y ++ ch], out, some ch⟩
  | bracket {ph out pv ch} : (pv == some (Str.ofString ")") && ch == Str.ofString "s") = false → Txt.contains (Str.ofString "()") ch = true → StepP nx ⟨4, ph, out, pv⟩ ch ⟨4, ph, out, some ch⟩
  | closes {ph y out} : ph.length < 60 → out.length ≤ 65536 → (reprText y).length ≤ 65536 → StepP nx ⟨4, ph ++ [y], out, some (Str.ofString ")")⟩ (Str.ofString "s") ⟨0, if y ∈ ph then ph else ph ++ [y], out ++ [told (if y ∈ ph then ph.idxOf y + 1 else ph.length + 1)], some (Str.ofString "s")⟩

section
variable {c : Cx} {L a : Addr} {g₀ : Heap} {mg mb : Str → Option Value} {e₀ r s : Shared} {Wc : List Addr} {σ : Tab} {ow : Owned} {E : Value → Shared → Prop} {Q : Flow → Shared → Prop} {q style : Str} {args : D} {i : Nat} {pv : Option Str} {pl ol : Addr} {ph out : List Str} {st : Int} {ch y : Str}

theorem gl_enum {c : Cx} {env : Env} {h : Heap} (x : Fixed c g₀ h) (N : Names g₀ mg mb) (hk : env.scope.kind = .function := by rfl) (hx : env.kindOf "enumerate" = some .globalImplicit := by rfl) (hg : env.globals = mainGlobals := by rfl) (hb : env.builtins = builtinsNs := by rfl) : Gl c env h "enumerate" (.type "enumerate") := gl_builtin x N.g N.b N.enum.1 N.enum.2 hk hx hg hb

theorem convLoopP (F : Fn c (cEnv L a) e₀ Wc) (hh : c.A.handled = none) (hA : Around₀ c.A (cEnv L a) c.W c.tabs) (G : ∀ b o, g₀.get? b = some o → e₀.heap.get? b = some o ∧ b ∉ Wc) (N : Names g₀ mg mb) (hpo : pl ≠ ol) (hq : q.length < 2 ^ 40) (ha : q.cps.all (· < 128) = true)
    (cs : Nat → CS) (hcs : ∀ i ch, q.cps[i]? = some ch → StepP (nextOf q i) (cs i) ⟨#[ch]⟩ (cs (i + 1)))
    (X : Run c (cEnv L a) e₀ r Wc (convTab (cs 0).st (cs 0).pv (Str.ofString "pyformat") q args) [("placeholders", pl, .strs (cs 0).ph), ("output_query", ol, .strs (cs 0).out)] s)
    (k : ∀ s', Run c (cEnv L a) e₀ r Wc (convTab (cs q.cps.size).st (cs q.cps.size).pv (Str.ofString "pyformat") q args) [("placeholders", pl, .strs (cs q.cps.size).ph), ("output_query", ol, .strs (cs q.cps.size).out)] s' → wpAny (model c.prog c.w) c.A (execs (convBody.drop 15) (cEnv L a)) Q E s') : wpAny (model c.prog c.w) c.A (execs (convBody.drop 14) (cEnv L a)) Q E s := by
  have kk := F.ok
  have hs1 := sizeLine_eq
  have hbig : 65536 ≤ sizeLine := by omega
  have h60 : 60 ≤ sizeLine := by omega
  conv in (List.drop 14 convBody) => whnf
  refine wpAny_execs_cons (ex_forEnum F hh (fun i => convTab (cs i).st (cs i).pv (Str.ofString "pyformat") q args) (fun i => [("placeholders", pl, .strs (cs i).ph), ("output_query", ol, .strs (cs i).out)]) X (.inl rfl) (.inl rfl) (fun i p hp => ⟨?_, ?_⟩) (fun i y a d hm => ?_) ha (gl_enum (Run.fixed F G X) N) (X.name F rfl) (fun own' i ch s' E' F' hx Y => ?_) (fun s' Y => k s' Y))
  · revert p hp; exact two_no (by decide) (by decide)
  · revert p hp; exact two_no (by decide) (by decide)
  · simp only [List.mem_cons, List.not_mem_nil, or_false, Prod.mk.injEq] at hm
    rcases hm with ⟨_, _, rfl⟩ | ⟨_, _, rfl⟩
    · exact ⟨Str, kStr, _, rfl⟩
    · exact ⟨Str, kStr, _, rfl⟩
  · have hi : i < q.cps.size := (Array.getElem?_eq_some_iff.mp hx).1
    have hq' : q.length = q.cps.size := rfl
    have S := hcs i ch hx
    have Y₁ := Y.cons.weak (σ := ("c", .str ⟨#[ch]⟩) :: ("i", .int i) :: convTab (cs i).st (cs i).pv (Str.ofString "pyformat") q args) (fun x d h => by
      rw [List.lookup_cons] at h ⊢
      cases hb : x == "c" <;> rw [hb] at h
      · rw [setV_cons]; exact h
      · exact h)
    have hA' : Around₀ ({ c with own := own' } : Cx).A (cEnv L a) c.W c.tabs := hA
    refine convNext (c := { c with own := own' }) F' Y₁ (gl_len (c := { c with own := own' }) (Run.fixed F' G Y₁) N) hq (by omega) (two_no (by decide) (by decide)) fun s₁ Y₂ => ?_
    generalize hz : (⟨#[ch]⟩ : Str) = z at S Y₂
    generalize hc : cs i = x at S Y₂
    generalize hc' : cs (i + 1) = x' at S
    cases S with
    | plain h1 h2 h3 h4 h5 h6 => exact convPlainP (c := { c with own := own' }) F' Y₂ hpo (Nat.le_trans h6 hbig) h1 h2 h3 h4 h5 fun s' Z => ⟨rfl, Z⟩
    | opens h1 h2 => exact convOpenP (c := { c with own := own' }) F' Y₂ hpo (Nat.le_trans h2 h60) rfl h1 fun s' Z => ⟨rfl, Z⟩
    | letter h1 h2 h3 => exact convLetterP (c := { c with own := own' }) F' Y₂ hpo (Nat.le_trans h3 hbig) h1 h2 fun s' Z => ⟨rfl, Z⟩
    | bracket h1 h2 => exact convBracketP (c := { c with own := own' }) F' Y₂ h1 h2 fun s' Z => ⟨rfl, Z⟩
    | closes h1 h2 h3 => exact convCloseP (c := { c with own := own' }) F' hh hA' G N hpo h1 (Nat.le_trans h2 hbig) (by omega) Y₂ rfl rfl fun s' Z => ⟨rfl, Z⟩
end
end Mine

namespace Mine
example : (match countCall with | .Call .. => true | _ => false) = true := rfl
section
variable {c : Cx} {L a : Addr} {g₀ : Heap} {mg mb : Str → Option Value} {e₀ r s : Shared} {Wc : List Addr} {σ : Tab} {ow : Owned} {E : Value → Shared → Prop} {Q : Flow → Shared → Prop} {q style : Str} {args : D} {i : Nat} {pv : Option Str} {pl ol : Addr} {ph out : List Str} {st : Int} {ch y : Str}

theorem own_ (F : Fn c (cEnv L a) e₀ Wc) (X : Run c (cEnv L a) e₀ r Wc σ ow s) {x : Str} {p pos : Pos} {e : Expr} {d : D} {rest : List Stmt} (hx : Stores (cEnv L a) x) (he : NewL c (cEnv L a) s.heap e d) (hno : ∀ p ∈ ow, p.1 ≠ x)
    (q : ∀ al s', Fn (c.plus al) (cEnv L a) e₀ Wc → al ∉ c.own → al ∉ c.W → Run (c.plus al) (cEnv L a) e₀ r Wc (delV x σ) ((x, al, d) :: ow) s' → wpAny (model c.prog c.w) c.A (execs rest (cEnv L a)) Q E s') (hs : swapsWith e (some (.Name x p)) pos.line (cEnv L a) = pure false := by rfl) : wpAny (model c.prog c.w) c.A (execs (.Assign [.Name x p] e pos :: rest) (cEnv L a)) Q E s :=
  wpAny_execs_cons (ex_own F X hx he hno (fun al s' F' h1 h2 _ X' => q al s' F' h1 h2 X') hs)

theorem convHead (F : Fn c (cEnv L a) e₀ Wc) (G : ∀ b o, g₀.get? b = some o → e₀.heap.get? b = some o ∧ b ∉ Wc) (N : Names g₀ mg mb) (hL : e₀.heap.objs.size ≤ L) {A₀ : Around} {outer : List Env} (hA : c.A = A₀.deeper (cEnv L a)) (hA₀ : A₀.frames = some outer)
    (hf : ∀ e ∈ outer, e.scope.kind ≠ .module ∧ ∃ L' ∈ Wc, L' ∉ c.tabs ∧ L' < L ∧ e.frame = some L') {P : Addr} (M : Maker c g₀ (cEnv L a) mg 112 P)
    (isl : ∀ (c' : Cx), c'.prog = c.prog → c'.w = c.w → c'.A = c.A → Island c' (cEnv L a) g₀ countCall)
    (X : Run c (cEnv L a) e₀ r Wc [("style", .str style), ("query", .str q), ("args", args)] [] s)
    (k : ∀ pl ol s', Fn ((c.plus pl).plus ol) (cEnv L a) e₀ Wc → pl ≠ ol → Run ((c.plus pl).plus ol) (cEnv L a) e₀ r Wc (convTab 0 none style q args) [("placeholders", pl, .strs []), ("output_query", ol, .strs [])] s' → wpAny (model c.prog c.w) c.A (execs (convBody.drop 14) (cEnv L a)) Q E s') :
    wpAny (model c.prog c.w) c.A (execs convBody (cEnv L a)) Q E s := by
  have kk := F.ok
  unfold convBody
  refine as_ F X (.inl rfl) (Ev.cInt kk) nofun fun s₁ X₁ => ?_
  refine as_ F X₁ (.inl rfl) (Ev.cInt kk) nofun fun s₂ X₂ => ?_
  refine as_ F X₂ (.inl rfl) (Ev.cInt kk) nofun fun s₃ X₃ => ?_
  refine as_ F X₃ (.inl rfl) (Ev.cInt kk) nofun fun s₄ X₄ => ?_
  refine as_ F X₄ (.inl rfl) (Ev.cInt kk) nofun fun s₅ X₅ => ?_
  refine as_ F X₅ (.inl rfl) (Ev.cInt kk) nofun fun s₆ X₆ => ?_
  refine as_ F X₆ (.inl rfl) (Ev.cInt kk) nofun fun s₇ X₇ => ?_
  refine as_ F X₇ (.inl rfl) (Ev.cBool kk) nofun fun s₈ X₈ => ?_
  refine as_ F X₈ (.inl rfl) (Ev.cBool kk) nofun fun s₉ X₉ => ?_
  refine own_ F X₉ (.inl rfl) (NewL.nil kk kStr) nofun fun pl s₁₀ F₁ h1 h2 X₁₀ => ?_
  refine own_ (c := c.plus pl) F₁ X₁₀ (.inl rfl) (NewL.nil F₁.ok kStr) (by intro p hp; rw [List.mem_singleton.mp hp]; exact (by decide : ("placeholders" : Str) ≠ "output_query")) fun ol s₁₁ F₂ h3 h4 X₁₁ => ?_
  have hpo : pl ≠ ol := fun z => h3 (by rw [← z]; exact List.mem_cons_self)
  have Y : Run ((c.plus pl).plus ol) (cEnv L a) e₀ r Wc [("style", .str style), ("query", .str q), ("args", args), ("OUTSIDE", .int 0), ("INSIDE_SQ", .int 1), ("INSIDE_QI", .int 2), ("INSIDE_ES", .int 3), ("INSIDE_PN", .int 4), ("INSIDE_CO", .int 5), ("INSIDE_DQ", .int 6)] [("placeholders", pl, .strs []), ("output_query", ol, .strs [])] s₁₁ :=
    (X₁₁.known (by repeat' (first | exact List.forall_mem_nil _ | refine List.forall_mem_cons.mpr ⟨rfl, ?_⟩))).fewer (by
      intro p hp
      rcases List.mem_cons.mp hp with rfl | hp
      · exact List.mem_cons_of_mem _ List.mem_cons_self
      · rw [List.mem_singleton.mp hp]; exact List.mem_cons_self)
  clear X X₁ X₂ X₃ X₄ X₅ X₆ X₇ X₈ X₉ X₁₀ X₁₁
  refine wpAny_execs_cons (ex_mapCount (c := (c.plus pl).plus ol) F₂ Y G hL hA hA₀ hf ⟨M.ns, M.glob, M.code, M.hd, M.tab, M.main⟩ (.inl rfl) (two_no (by decide) (by decide)) (gl_builtin (Run.fixed F₂ G Y) N.g N.b N.map.1 N.map.2) (isl _ rfl rfl rfl) rfl rfl (by show nameOf _ = (convFd.qualname ++ Str.ofString ".<locals>.") ++ Str.ofString "<lambda>"; decide +kernel) fun s₁₂ X₁₂ => ?_)
  refine as_ (c := (c.plus pl).plus ol) F₂ X₁₂ (.inl rfl) (X₁₂.name F₂ (x := "OUTSIDE") (d := .int 0) rfl) (two_no (by decide) (by decide)) fun s₁₃ X₁₃ => ?_
  refine as_ (c := (c.plus pl).plus ol) F₂ X₁₃ (.inl rfl) (Ev.cNone F₂.ok) (two_no (by decide) (by decide)) fun s₁₄ X₁₄ => ?_
  exact k pl ol s₁₄ F₂ hpo (X₁₄.known (by unfold convTab; repeat' (first | exact List.forall_mem_nil _ | refine List.forall_mem_cons.mpr ⟨rfl, ?_⟩)))
end
end Mine

namespace Mine
/-- from the kit's own steps to an island -/
theorem island_of {c : Cx} {env : Env} {g₀ : Heap} {e : Expr}
    (h : ∀ (s : Shared) (h₀ : Heap) (m : Str → Option Value) (news : List (Addr × Obj)) (Q : Value → Shared → Prop) (E : Value → Shared → Prop), g₀.StaysIn h₀ → (∃ outer A₀, c.A = A₀.deeper env ∧ Below A₀ g₀ outer h₀) → Fr h₀ env.locals s.heap m → News h₀ env.locals s.heap news →
      (∀ v h' tk news', Fr h₀ env.locals h' m → News h₀ env.locals h' (news' ++ news) → Q v { s with heap := h', toks := tk }) →
      wpAny (model c.prog c.w) c.A (eval e env) (fun v s₁ => wpAny (model c.prog c.w) c.A.in1.in1 (pyIter v) Q E s₁) E s) : Island c env g₀ e := fun s m Q E hn hst hb q =>
  h s _ m _ Q E hst hb (island_fr hn) (island_news _ _) fun v h' tk news' F' N' => q v h' tk (island_keep F' N') F'.ns
end Mine

namespace Mine
section
variable {c : Cx} {L a : Addr} {g₀ : Heap} {mg mb : Str → Option Value} {e₀ r s : Shared} {Wc : List Addr} {σ : Tab} {ow : Owned} {E : Value → Shared → Prop} {Q : Flow → Shared → Prop} {q style : Str} {args : D} {i : Nat} {pv : Option Str} {pl ol : Addr} {ph out : List Str} {st : Int} {ch y : Str}

theorem re_ {env : Env} (F : Fn c env e₀ Wc) (X : Run c env e₀ r Wc σ ow s) {b : Bool} {e : Expr} {pos : Pos} {d : D} {rest : List Stmt} (he : Ev c b env s.heap e d) (q : ∀ v s', Run c env e₀ r Wc σ ow s' → VR c (c.av b) s'.heap d v → Q (.ret v) s') :
    wpAny (model c.prog c.w) c.A (execs (.Return (some e) pos :: rest) env) Q E s := wpAny_execs_cons (ex_return F X he q)
theorem gl_tup {c : Cx} {env : Env} {h : Heap} (x : Fixed c g₀ h) (N : Names g₀ mg mb) (hk : env.scope.kind = .function := by rfl) (hx : env.kindOf "tuple" = some .globalImplicit := by rfl) (hg : env.globals = mainGlobals := by rfl) (hb : env.builtins = builtinsNs := by rfl) : Gl c env h "tuple" (.type "tuple") := gl_builtin x N.g N.b N.tup.1 N.tup.2 hk hx hg hb

/-- behind the loop: the values, and the end -/
theorem convTail (F : Fn c (cEnv L a) e₀ Wc) (hgen : c.gen) (hh : c.A.handled = none) (hdep : c.A.depth ≤ 550) (huni : c.A.units ≤ 180) (G : ∀ b o, g₀.get? b = some o → e₀.heap.get? b = some o ∧ b ∉ Wc) (N : Names g₀ mg mb) (hlim : g₀.NoLimit) {P : Addr} (M : Maker c g₀ (cEnv L a) mg 112 P)
    (h1 : (style == Str.ofString "numeric") = false) (h2 : (style == Str.ofString "qmark") = false) (h3 : (style == Str.ofString "format") = false) {ns : List Str} (hns : ∀ p ∈ ph, p ∈ ns) (hph : ph.length ≤ sizeLine) (hout : (out.map (·.length)).sum ≤ 16777216)
    (X : Run c (cEnv L a) e₀ r Wc (convTab st pv style q (.idict ns)) [("placeholders", pl, .strs ph), ("output_query", ol, .strs out)] s)
    (k : ∀ v s', Run c (cEnv L a) e₀ r Wc [] [] s' → VR c (c.av true) s'.heap (.pair (.str (Txt.join (Str.ofString "") out)) (.tstrs ph)) v → Q (.ret v) s') : wpAny (model c.prog c.w) c.A (execs (convBody.drop 15) (cEnv L a)) Q E s := by
  have kk := F.ok
  conv in (List.drop 15 convBody) => whnf
  refine if_F F X (Tr.of (β := [Str.ofString "numeric", Str.ofString "qmark", Str.ofString "format"].any (· == style)) ?_ (Tr.cmp kk (X.name F (x := "style") (d := .str style) rfl).weak (Ev.tup3 kk (Ev.cStr kk) (Ev.cStr kk) (Ev.cStr kk)) (Cm.inTstrs kk))) fun s₁ X₁ => ?_
  · have f : ∀ {x : Str}, (style == x) = false → (x == style) = false := fun {x} h => by
      have : style ≠ x := by simpa using h
      simpa using this.symm
    simp only [List.any_cons, List.any_nil, f h1, f h2, f h3, Bool.or_false]
  have Fx := Run.fixed F G X₁
  refine as_ F X₁ (.inl rfl) (d := .tstrs ph) ?ev (by exact two_no (by decide) (by decide)) fun s₂ X₂ => ?rest
  case ev =>
   have e : ph = ph.map fun x => x := by simp
   rw [e]
   refine Ev.tupGen (cl := [("args", L + 1)]) (g := fun x => x) (xs := ph) kk F.rel hgen hh hdep huni Fx hlim M (gl_tup Fx N) rfl rfl ?hcell rfl rfl rfl ?hnm (X₁.own F List.mem_cons_self) hph ?_
   case hcell => decide
   case hnm =>
    show nameOf _ = (convFd.qualname ++ Str.ofString ".<locals>.") ++ Str.ofString "<genexpr>"
    decide +kernel
   intro A' C code h' v y hd hu hy hv T
   have kin := Cx.in_ok kk
   have kk' : ({ c.in with A := A' } : Cx).Ok := ⟨kin.refl, kin.trans, kin.keeps, kin.grow, kin.bare, hd, kin.tabs, hu⟩
   obtain ⟨va, la, ha⟩ := X₁.vars "args" (.idict ns) rfl
   have ha' : VR { c.in with A := A' } (c.av false) h' (.idict ns) va := VR.cx (c := c) (c' := { c.in with A := A' }) rfl rfl ((ha.weak false).grow (c.av_sub false) T.grow.keep)
   obtain ⟨hk, ⟨hl, _⟩ | ⟨hl, ca, hc, hw, o, ho, hd'⟩⟩ := la
   · exact absurd hl (by show ¬ ((some NameKind.cell : Option NameKind) = some NameKind.local); decide)
   have eca : ca = L + 1 := by
     have : some (L + 1) = some ca := hc
     exact (Option.some.inj this).symm
   subst eca
   refine Ev.itemDict (c := { c.in with A := A' }) kk' (Ev.name (c := { c.in with A := A' }) kk' (v := va) ⟨rfl, .inr ⟨.inr ⟨rfl, by decide⟩, L + 1, rfl, hw, o, T.grow.keep _ _ ho hw, hd'⟩⟩ ha') ?_ (hns y hy)
   obtain ⟨m, hm, hmx⟩ := T.ns
   exact Ev.name (c := { c.in with A := A' }) kk' (v := v) ⟨rfl, .inl ⟨rfl, m, hm, hmx⟩⟩ hv
  refine nx_ ?_
  refine re_ F X₂ (b := true) (Ev.pair kk (Ev.join kk (Ev.cStr kk) (X₂.own F (List.mem_cons_of_mem _ List.mem_cons_self)) ⟨_, rfl⟩ ?_) (X₂.name F (x := "vals") rfl)) fun v s₃ X₃ hv => ?_
  · have : (Str.ofString "").length = 0 := rfl
    rw [this]; omega
  · refine k v s₃ (X₃.known (by simp)|>.fewer (by simp)) ?_
    exact hv
end
end Mine

namespace Mine

theorem count_isl {g₀ : Heap} {mg mb : Str → Option Value} {loose : List Str} {mean : ExcName → Option Value} {envL envT : Env} {c : Cx} {L a : Addr} (hp : c.prog = Challenge.rw_em5014_01.row.toRowW.prog) (hA : c.A = ((callerA.deeper envL).deeper envT).deeper (cEnv L a)) (X : (Mine.hd.heap_39 c.w.params).In g₀) (T : Top PySem.W.topProg loose mean mg mb g₀) :
    Island c (cEnv L a) g₀ countCall := island_of fun s h₀ m news Q E st hb F N q => by
  obtain ⟨outer, A₀, e, B⟩ := hb
  have e1 : (A₀.deeper (cEnv L a)).frames = (((callerA.deeper envL).deeper envT).deeper (cEnv L a)).frames := by rw [← e, hA]
  have e2 : A₀.frames.map (cEnv L a :: ·) = some [cEnv L a, envT, envL] := e1
  rw [B.stack] at e2
  have e3 : outer = [envT, envL] := by
    have := Option.some.inj e2
    injection this
  subst e3
  rw [hp, hA]
  exact cnt ⟨rfl, B.stays, B.frames⟩ F N (fun x o e => st _ _ (X x o e)) (T.keeps st) fun v h' tk news' => q v h' tk news'

section
variable {c : Cx} {L a : Addr} {g₀ h : Heap} {mg mb : Str → Option Value} {e₀ r s : Shared} {Wc : List Addr} {σ : Tab} {ow : Owned}

/-- the ground as conv needs it -/
structure ConvG (g₀ : Heap) (mg mb : Str → Option Value) : Prop where
  names : Names g₀ mg mb
  hlim : g₀.NoLimit
  hd : CodeHd g₀ 112 108
  main : ∃ bm ob, mg "__builtins__" = some (.ref bm) ∧ bm ≠ builtinsNs ∧ g₀.get? bm = some ob ∧ ob.cls = .type "module" ∧ ob.dict = some builtinsNs ∧ ob.data = .plain
  fn : ∃ o, g₀.get? 113 = some o ∧ o.data = .func convFd
  rec_ : g₀.CodeRec convFd.code convFd.qualname

/-- conv's body in pyformat -/
theorem convBodyP {E : Value → Shared → Prop} {Q : Flow → Shared → Prop} {q : Str} (F : Fn c (cEnv L a) e₀ Wc) (hgen : c.gen) (hh : c.A.handled = none) (hdep : c.A.depth ≤ 550) (huni : c.A.units ≤ 180) (hfr : Around₀ c.A (cEnv L a) c.W c.tabs) (G : ∀ b o, g₀.get? b = some o → e₀.heap.get? b = some o ∧ b ∉ Wc) (C : ConvG g₀ mg mb) (ht : 108 ∈ c.tabs) (hL : e₀.heap.objs.size ≤ L) {A₀ : Around} {outer : List Env} (hA : c.A = A₀.deeper (cEnv L a)) (hA₀ : A₀.frames = some outer)
    (hf : ∀ e ∈ outer, e.scope.kind ≠ .module ∧ ∃ L' ∈ Wc, L' ∉ c.tabs ∧ L' < L ∧ e.frame = some L')
    (isl : ∀ (c' : Cx), c'.prog = c.prog → c'.w = c.w → c'.A = c.A → Island c' (cEnv L a) g₀ countCall)
    (hq : q.length < 2 ^ 40) (hasc : q.cps.all (· < 128) = true) (cs : Nat → CS) (h0 : cs 0 = ⟨0, [], [], none⟩) (hcs : ∀ i ch, q.cps[i]? = some ch → StepP (nextOf q i) (cs i) ⟨#[ch]⟩ (cs (i + 1)))
    {ns : List Str} (hns : ∀ p ∈ (cs q.cps.size).ph, p ∈ ns) (hph : (cs q.cps.size).ph.length ≤ 60) (hout : ((cs q.cps.size).out.map (·.length)).sum ≤ 65536)
    (X : Run c (cEnv L a) e₀ r Wc [("style", .str (Str.ofString "pyformat")), ("query", .str q), ("args", .idict ns)] [] s)
    (k : ∀ v s' (c' : Cx), GrowR Wc e₀ s' → c'.prog = c.prog → c'.w = c.w → (∀ x ∈ c.av true, x ∈ c'.av true) → VR c' (c'.av true) s'.heap (.pair (.str (Txt.join (Str.ofString "") (cs q.cps.size).out)) (.tstrs (cs q.cps.size).ph)) v → Q (.ret v) s') : wpAny (model c.prog c.w) c.A (execs convBody (cEnv L a)) Q E s := by
  have hs1 := sizeLine_eq
  have M : Maker c g₀ (cEnv L a) mg 112 108 := ⟨C.names.g, rfl, rfl, C.hd, ht, C.main⟩
  refine convHead F G C.names hL hA hA₀ hf M isl X fun pl ol s₁ F₁ hpo X₁ => ?_
  have M₁ : Maker ((c.plus pl).plus ol) g₀ (cEnv L a) mg 112 108 := ⟨C.names.g, rfl, rfl, C.hd, ht, C.main⟩
  refine convLoopP (c := (c.plus pl).plus ol) F₁ hh hfr G C.names hpo hq hasc cs hcs (by rw [h0]; exact X₁) fun s₂ X₂ => ?_
  refine convTail (c := (c.plus pl).plus ol) F₁ hgen hh hdep huni G C.names C.hlim M₁ (by decide) (by decide) (by decide) hns (by omega) (by omega) X₂ fun v s₃ X₃ hv => ?_
  refine k v s₃ ((c.plus pl).plus ol) X₃.since rfl rfl (fun x hx => ?_) hv
  rcases List.mem_append.mp hx with z | z
  · exact List.mem_append_left _ z
  · exact List.mem_append_right _ (List.mem_cons_of_mem _ (List.mem_cons_of_mem _ z))

/-- a call of conv in pyformat -/
theorem call_conv {E : Value → Shared → Prop} {Q : Value → Shared → Prop} {q : Str} (k : c.Ok) (hR : c.R = GrowR c.W) (hgen : c.gen) (hh : c.A.handled = none) (hdep : c.A.depth ≤ 540) (huni : c.A.units ≤ 170) (at_ : At c h s) (Fx : Fixed c g₀ h) (C : ConvG g₀ mg mb) (ht : 108 ∈ c.tabs) {outer : List Env} (hA₀ : c.A.frames = some outer)
    (hf : ∀ e ∈ outer, e.scope.kind ≠ .module ∧ ∃ L' ∈ c.W, L' ∉ c.tabs ∧ e.frame = some L')
    (isl : ∀ (c' : Cx) L a, c'.prog = c.prog → c'.w = c.w → c'.A = c.A.deeper (cEnv L a) → Island c' (cEnv L a) g₀ countCall)
    (hq : q.length < 2 ^ 40) (hasc : q.cps.all (· < 128) = true) (cs : Nat → CS) (h0 : cs 0 = ⟨0, [], [], none⟩) (hcs : ∀ i ch, q.cps[i]? = some ch → StepP (nextOf q i) (cs i) ⟨#[ch]⟩ (cs (i + 1)))
    {ns : List Str} (hns : ∀ p ∈ (cs q.cps.size).ph, p ∈ ns) (hph : (cs q.cps.size).ph.length ≤ 60) (hout : ((cs q.cps.size).out.map (·.length)).sum ≤ 65536)
    {vs vq va : Value} (hvs : VR c (c.av true) s.heap (.str (Str.ofString "pyformat")) vs) (hvq : VR c (c.av true) s.heap (.str q) vq) (hva : VR c (c.av true) s.heap (.idict ns) va)
    (kk : ∀ v s', c.R s s' → VR c (c.av true) s'.heap (.pair (.str (Txt.join (Str.ofString "") (cs q.cps.size).out)) (.tstrs (cs q.cps.size).ph)) v → Q v s') :
    wpAny (model c.prog c.w) c.A (call (.ref 113) [vs, vq, va]) Q E s := by
  have Fx' : Fixed c g₀ s.heap := Fx.grow at_.grow
  obtain ⟨o, ho, hd⟩ := C.fn
  have hlim' : s.heap.NoLimit := by obtain ⟨mc, hm, hn⟩ := C.hlim; exact ⟨mc, hm.keeps Fx'.stays, hn⟩
  have hrec : s.heap.CodeRec convFd.code convFd.qualname := by
    obtain ⟨c₁, o₁, vs₁, t₁, e1, e2, e3⟩ := C.rec_
    exact ⟨c₁, o₁, vs₁, t₁, e1, Fx'.stays _ _ e2, e3⟩
  have low := at_.low.grow at_.grow
  refine call_fn (σ₀ := [("style", .str (Str.ofString "pyformat")), ("query", .str q), ("args", .idict ns)]) (body := convBody) (binds := [("style", vs), ("query", vq), ("args", va)]) k hR hgen hdep (by omega) at_ (Fx'.stays _ _ ho) hd hlim' hrec rfl rfl rfl ?_ ?_ (fun s₁ E' F X => ?_) kk ?_
  · intro x hx
    rcases List.mem_cons.mp hx with rfl | hx
    · exact .inl rfl
    · rcases List.mem_cons.mp hx with rfl | hx
      · exact .inl rfl
      · rw [List.mem_singleton.mp hx]; exact .inr ⟨rfl, rfl⟩
  · intro x d e
    rw [List.lookup_cons] at e
    by_cases h1 : x = "style"
    · subst h1
      simp only [beq_self_eq_true] at e
      cases e
      exact ⟨vs, hvs, .inl ⟨rfl, rfl⟩⟩
    · have : (x == "style") = false := by simpa using h1
      rw [this] at e
      simp only [List.lookup_cons] at e
      by_cases h2 : x = "query"
      · subst h2
        simp only [beq_self_eq_true] at e
        cases e
        exact ⟨vq, hvq, .inl ⟨rfl, rfl⟩⟩
      · have : (x == "query") = false := by simpa using h2
        rw [this] at e
        simp only at e
        by_cases h3 : x = "args"
        · subst h3
          simp only [beq_self_eq_true] at e
          cases e
          exact ⟨va, hva, .inr ⟨rfl, s.heap.objs.size + 1, rfl, rfl⟩⟩
        · have : (x == "args") = false := by simpa using h3
          rw [this] at e
          cases e
  · refine convBodyP (c := c.call (cEnv s.heap.objs.size 113) s.heap.objs.size) F trivial hh ?_ ?_ ?_ (fun b o e => Fx' b o e) C ht (Nat.le_refl _) rfl hA₀ ?_ (fun c' h1 h2 h3 => isl c' _ _ h1 h2 h3) hq hasc cs h0 hcs hns hph hout X fun v s₂ c' g hp hw hav hv => ⟨v, rfl, g, ?_⟩
    · show c.A.depth + 1 ≤ 550; omega
    · show c.A.units + 3 ≤ 180; omega
    · refine ⟨⟨outer, by show c.A.frames.map _ = _; rw [hA₀]; rfl, fun e he => ?_⟩, rfl⟩
      rcases List.mem_cons.mp he with rfl | he
      · refine ⟨by show convFd.scope.kind ≠ _; decide, s.heap.objs.size, List.mem_cons_self, fun q => ?_, rfl⟩
        obtain ⟨o, e⟩ := low.there (k.tabs _ q)
        rw [Heap.get?_none_of_le (Nat.le_refl _)] at e; cases e
      · obtain ⟨h1, L', h2, h3, h4⟩ := hf e he
        exact ⟨h1, L', List.mem_cons_of_mem _ h2, h3, h4⟩
    · intro e he
      obtain ⟨h1, L', h2, h3, h4⟩ := hf e he
      obtain ⟨o, ho⟩ := low.there h2
      exact ⟨h1, L', h2, h3, Heap.lt_size ho, h4⟩
    · refine VR.cx (c := c') (c' := c) hp.symm hw.symm (hv.mono fun x hx => hav x ?_)
      rcases List.mem_append.mp hx with z | z
      · exact List.mem_append_left _ (List.mem_cons_of_mem _ z)
      · exact List.mem_append_right _ (List.mem_append_right _ z)
  · intro p hp
    rw [List.mem_singleton.mp (show p ∈ [(("args" : Str), (s.heap.objs.size + 1 : Addr))] from hp)]
    rfl
end
end Mine

namespace Mine
/-- does a name end before this letter? -/
def endsB : Option Str → Bool
  | none => true
  | some z => !Txt.isalnum z && z != Str.ofString "_"

section
variable {c : Cx} {L a : Addr} {g₀ : Heap} {mg mb : Str → Option Value} {e₀ r s : Shared} {Wc : List Addr} {σ : Tab} {ow : Owned} {E : Value → Shared → Prop} {Q : Flow → Shared → Prop} {q style : Str} {args : D} {i : Nat} {pv : Option Str} {pl ol : Addr} {ph out : List Str} {st : Int} {ch y z : Str}

/-- outside: a letter that means nothing, in named -/
theorem convPlainN (F : Fn c (cEnv L a) e₀ Wc) (X : Run c (cEnv L a) e₀ r Wc (("next_c", opt (nextOf q i)) :: ("c", .str ch) :: ("i", .int i) :: convTab 0 pv (Str.ofString "named") q args) [("placeholders", pl, .strs ph), ("output_query", ol, .strs out)] s) (hpo : pl ≠ ol) (hout : out.length ≤ sizeLine)
    (h1 : (ch == Str.ofString "'") = false) (h2 : (ch == Str.ofString "\"") = false) (h3 : (ch == Str.ofString "-") = false) (h4 : (ch == Str.ofString "$") = false) (h5 : (ch == Str.ofString ":") = false)
    (k : ∀ s', Run c (cEnv L a) e₀ r Wc (convTab 0 (some ch) (Str.ofString "named") q args) [("placeholders", pl, .strs ph), ("output_query", ol, .strs (out ++ [ch]))] s' → Q .next s') : wpAny (model c.prog c.w) c.A (execs (convFor.drop 1) (cEnv L a)) Q E s := by
  have kk := F.ok
  unfold convFor
  refine if_T F X (Tr.cmp kk (X.name F rfl).weak (X.name F rfl).weak (Cm.eqInt kk)) fun s₁ X₁ => ?_
  refine if_F F X₁ (Tr.of h1 (Tr.cmp kk (X₁.name F rfl).weak (Ev.cStr kk) (Cm.eqStr kk))) fun s₂ X₂ => ?_
  refine if_F F X₂ (Tr.of h2 (Tr.cmp kk (X₂.name F rfl).weak (Ev.cStr kk) (Cm.eqStr kk))) fun s₃ X₃ => ?_
  refine if_F F X₃ (Tr.of h3 (Tr.cmp kk (X₃.name F rfl).weak (Ev.cStr kk) (Cm.eqStr kk))) fun s₄ X₄ => ?_
  refine if_F F X₄ (Tr.of h4 (Tr.cmp kk (X₄.name F rfl).weak (Ev.cStr kk) (Cm.eqStr kk))) fun s₅ X₅ => ?_
  refine if_F F X₅ (Tr.andF kk (Tr.cmp kk (X₅.name F rfl).weak (Ev.cStr kk) (Cm.eqStr kk))) fun s₆ X₆ => ?_
  refine if_F F X₆ (Tr.andF kk (Tr.cmp kk (X₆.name F rfl).weak (Ev.cStr kk) (Cm.eqStr kk))) fun s₇ X₇ => ?_
  refine if_F F X₇ (TrW.of (by rfl) (Tr.and (β := true) (γ := false) kk (Tr.cmp kk (X₇.name F rfl).weak (Ev.cStr kk) (Cm.eqStr kk)) fun _ => Tr.andF kk (Tr.of h5 (Tr.cmp kk (X₇.name F rfl).weak (Ev.cStr kk) (Cm.eqStr kk))))) fun s₈ X₈ => ?_
  refine if_F F X₈ (Tr.andF kk (Tr.cmp kk (X₈.name F rfl).weak (Ev.cStr kk) (Cm.eqStr kk))) fun s₉ X₉ => ?_
  refine if_F F X₉ (Tr.andF kk (Tr.of (by decide) (Tr.cmp kk (X₉.name F rfl).weak (Ev.tup2 kk (Ev.cStr kk) (Ev.cStr kk)) (Cm.inTstrs kk)))) fun s₁₀ X₁₀ => ?_
  refine ap_ F (pre := [("placeholders", pl, .strs ph)]) (post := []) kStr X₁₀ (among2b hpo) (X₁₀.name F rfl).weak ⟨_, rfl⟩ hout fun s₁₁ X₁₁ => ?_
  refine nx_ (nx_ (nx_ (nx_ (nx_ (nx_ (nx_ (nx_ (nx_ (nx_ ?_)))))))))
  exact convEnd F (σ := []) X₁₁ (by exact two_no (by decide) (by decide)) k

/-- outside: a name begins, in named -/
theorem convOpenN (F : Fn c (cEnv L a) e₀ Wc) (X : Run c (cEnv L a) e₀ r Wc (("next_c", opt (nextOf q i)) :: ("c", .str ch) :: ("i", .int i) :: convTab 0 pv (Str.ofString "named") q args) [("placeholders", pl, .strs ph), ("output_query", ol, .strs out)] s) (hpo : pl ≠ ol) (hph : ph.length ≤ sizeLine)
    (h5 : ch = Str.ofString ":") (h6 : nextOf q i = some z) (h7 : Txt.contains (Str.ofString ":=") z = false) (h8 : (pv != some (Str.ofString ":")) = true)
    (k : ∀ s', Run c (cEnv L a) e₀ r Wc (convTab 4 (some ch) (Str.ofString "named") q args) [("placeholders", pl, .strs (ph ++ [Str.ofString ""])), ("output_query", ol, .strs out)] s' → Q .next s') : wpAny (model c.prog c.w) c.A (execs (convFor.drop 1) (cEnv L a)) Q E s := by
  have kk := F.ok
  subst h5
  unfold convFor
  refine if_T F X (Tr.cmp kk (X.name F rfl).weak (X.name F rfl).weak (Cm.eqInt kk)) fun s₁ X₁ => ?_
  refine if_F F X₁ (Tr.of (by decide) (Tr.cmp kk (X₁.name F rfl).weak (Ev.cStr kk) (Cm.eqStr kk))) fun s₂ X₂ => ?_
  refine if_F F X₂ (Tr.of (by decide) (Tr.cmp kk (X₂.name F rfl).weak (Ev.cStr kk) (Cm.eqStr kk))) fun s₃ X₃ => ?_
  refine if_F F X₃ (Tr.of (by decide) (Tr.cmp kk (X₃.name F rfl).weak (Ev.cStr kk) (Cm.eqStr kk))) fun s₄ X₄ => ?_
  refine if_F F X₄ (Tr.of (by decide) (Tr.cmp kk (X₄.name F rfl).weak (Ev.cStr kk) (Cm.eqStr kk))) fun s₅ X₅ => ?_
  refine if_F F X₅ (Tr.andF kk (Tr.cmp kk (X₅.name F rfl).weak (Ev.cStr kk) (Cm.eqStr kk))) fun s₆ X₆ => ?_
  refine if_F F X₆ (Tr.andF kk (Tr.cmp kk (X₆.name F rfl).weak (Ev.cStr kk) (Cm.eqStr kk))) fun s₇ X₇ => ?_
  have nx : ∀ p, Ev c false (cEnv L a) s₇.heap (.Name "next_c" p) (.str z) := fun p => by
    have : Ev c true (cEnv L a) s₇.heap (.Name "next_c" p) (opt (nextOf q i)) := X₇.name F rfl
    rw [h6] at this
    exact this.weak
  refine if_T F X₇ (TrW.of (by rfl) (Tr.and (β := true) (γ := true) kk (Tr.cmp kk (X₇.name F rfl).weak (Ev.cStr kk) (Cm.eqStr kk)) fun _ => TrW.of (by rfl) (Tr.and (β := true) (γ := true) kk (Tr.cmp kk (X₇.name F rfl).weak (Ev.cStr kk) (Cm.eqStr kk)) fun _ => TrW.of (by rfl) (Tr.and (β := true) (γ := true) kk (Tr.of (by rw [h7]; rfl) (Tr.cmp kk (nx _) (Ev.cStr kk) (Cm.notinStr kk))) fun _ => TrW.of (by rfl) (Tr.and (β := true) (γ := true) kk (Tr.of h8 (Tr.cmp kk (X₇.name F rfl).weak (Ev.cStr kk) (Cm.neOpt kk))) fun _ => Tr.andNil kk))))) fun s₈ X₈ => ?_
  refine as_ F X₈ (.inl rfl) (X₈.name F rfl) (by exact two_no (by decide) (by decide)) fun s₁₀ X₁₀ => ?_
  refine ap_ F (pre := []) (post := [("output_query", ol, .strs out)]) kStr X₁₀ (among2a hpo.symm) (Ev.cStr kk) ⟨_, rfl⟩ hph fun s₁₁ X₁₁ => ?_
  refine nx_ (nx_ (nx_ (nx_ (nx_ (nx_ (nx_ (nx_ ?_)))))))
  exact convEnd F (σ := []) (X₁₁.known (by unfold convTab; repeat' (first | exact List.forall_mem_nil _ | refine List.forall_mem_cons.mpr ⟨rfl, ?_⟩))) (by exact two_no (by decide) (by decide)) k
end
end Mine

namespace Mine
section
variable {c : Cx} {L a : Addr} {g₀ : Heap} {mg mb : Str → Option Value} {e₀ r s : Shared} {Wc : List Addr} {σ : Tab} {ow : Owned} {E : Value → Shared → Prop} {Q : Flow → Shared → Prop} {q style : Str} {args : D} {i : Nat} {pv : Option Str} {pl ol : Addr} {ph out : List Str} {st : Int} {ch y z : Str}

/-- `next_c is None or (not next_c.isalnum() and next_c != '_')` -/
theorem endsT {env : Env} {h : Heap} (kk : c.Ok) {nx : Option Str} {p₁ p₂ p₃ p₄ p₅ p₆ p₇ p₈ p₉ p₁₀ p₁₁ p₁₂ : Pos} {k₁ k₂ : Nat} (hn : ∀ p, Ev c false env h (.Name "next_c" p) (opt nx)) (hM : MethOk env (.Name "next_c" p₅) "isalnum" p₆ [] p₇) :
    Tr c env h (.BoolOp .Or [.Compare (.Name "next_c" p₁) [.Is] [.Constant .none k₁ p₂] p₃, .BoolOp .And [.UnaryOp .Not (.Call (.Attribute (.Name "next_c" p₅) "isalnum" p₆) [] [] p₇) p₄, .Compare (.Name "next_c" p₈) [.NotEq] [.Constant (.str "_") k₂ p₉] p₁₀] p₁₁] p₁₂) (endsB nx) := by
  cases nx with
  | none => exact TrW.of (by rfl) (Tr.or (β := true) (γ := false) kk (Tr.cmp kk (hn _) (Ev.cNone kk) (Cm.isOpt kk)) nofun)
  | some z =>
    refine TrW.of ?_ (Tr.or (β := false) (γ := endsB (some z) || false) kk (Tr.cmp kk (hn _) (Ev.cNone kk) (Cm.isOpt kk)) fun _ => Tr.or kk ?_ fun _ => Tr.orNil kk)
    · simp
    · refine TrW.of ?_ (Tr.and kk (Tr.not kk (Tr.plain kk (Ev.isalnum kk (x := z) (hn _) hM))) fun _ => Tr.and kk (Tr.cmp kk (d₁ := .str z) (hn _) (Ev.cStr kk) (Cm.neStr kk)) fun _ => Tr.andNil kk)
      simp [endsB]

/-- within a name: a letter that is not the last, in named -/
theorem convLetterN (F : Fn c (cEnv L a) e₀ Wc) (X : Run c (cEnv L a) e₀ r Wc (("next_c", opt (nextOf q i)) :: ("c", .str ch) :: ("i", .int i) :: convTab 4 pv (Str.ofString "named") q args) [("placeholders", pl, .strs (ph ++ [y])), ("output_query", ol, .strs out)] s) (hpo : pl ≠ ol) (hy : y.length + ch.length ≤ sizeLine)
    (h1 : endsB (nextOf q i) = false)
    (k : ∀ s', Run c (cEnv L a) e₀ r Wc (convTab 4 (some ch) (Str.ofString "named") q args) [("placeholders", pl, .strs (ph ++ [y ++ ch])), ("output_query", ol, .strs out)] s' → Q .next s') : wpAny (model c.prog c.w) c.A (execs (convFor.drop 1) (cEnv L a)) Q E s := by
  have kk := F.ok
  unfold convFor
  refine if_F F X (Tr.of (by decide) (Tr.cmp kk (X.name F rfl).weak (X.name F rfl).weak (Cm.eqInt kk))) fun s₁ X₁ => ?_
  refine if_F F X₁ (Tr.of (by decide) (Tr.cmp kk (X₁.name F rfl).weak (X₁.name F rfl).weak (Cm.eqInt kk))) fun s₂ X₂ => ?_
  refine if_F F X₂ (Tr.of (by decide) (Tr.cmp kk (X₂.name F rfl).weak (X₂.name F rfl).weak (Cm.eqInt kk))) fun s₃ X₃ => ?_
  refine if_F F X₃ (Tr.of (by decide) (Tr.cmp kk (X₃.name F rfl).weak (X₃.name F rfl).weak (Cm.eqInt kk))) fun s₄ X₄ => ?_
  refine if_F F X₄ (Tr.of (by decide) (Tr.cmp kk (X₄.name F rfl).weak (X₄.name F rfl).weak (Cm.eqInt kk))) fun s₅ X₅ => ?_
  refine if_T F X₅ (Tr.of (by decide) (Tr.cmp kk (X₅.name F rfl).weak (X₅.name F rfl).weak (Cm.eqInt kk))) fun s₆ X₆ => ?_
  refine if_T F X₆ (Tr.of (by decide) (Tr.cmp kk (X₆.name F rfl).weak (Ev.cStr kk) (Cm.eqStr kk))) fun s₇ X₇ => ?_
  refine ad_ F (pre := []) (post := [("output_query", ol, .strs out)]) X₇ (among2a hpo.symm) (Ev.neg1 kk) (X₇.name F rfl).weak hy fun s₈ X₈ => ?_
  refine if_F F X₈ (Tr.of h1 (endsT kk (fun p => (X₈.name F rfl).weak) ⟨_, rfl⟩)) fun s₉ X₉ => ?_
  refine nx_ (nx_ (nx_ (nx_ (nx_ (nx_ (nx_ (nx_ ?_)))))))
  exact convEnd F (σ := []) X₉ (by exact two_no (by decide) (by decide)) k

/-- a name ends, in named -/
theorem convCloseN (F : Fn c (cEnv L a) e₀ Wc) (hh : c.A.handled = none) (hA : Around₀ c.A (cEnv L a) c.W c.tabs) (G : ∀ b o, g₀.get? b = some o → e₀.heap.get? b = some o ∧ b ∉ Wc) (N : Names g₀ mg mb) (hpo : pl ≠ ol) (hph : ph.length < 60) (hout : out.length ≤ sizeLine) {y' : Str} (hyl : y'.length + ch.length ≤ sizeLine) (ey : y' ++ ch = y) (hy : (reprText y).length + 15 ≤ sizeLine)
    (X : Run c (cEnv L a) e₀ r Wc (("next_c", opt (nextOf q i)) :: ("c", .str ch) :: ("i", .int i) :: convTab 4 pv (Str.ofString "named") q args) [("placeholders", pl, .strs (ph ++ [y'])), ("output_query", ol, .strs out)] s)
    (h1 : endsB (nextOf q i) = true)
    (k : ∀ s', Run c (cEnv L a) e₀ r Wc (convTab 0 (some ch) (Str.ofString "named") q args) [("placeholders", pl, .strs (tellPh ph y)), ("output_query", ol, .strs (out ++ [told (tellNo ph y)]))] s' → Q .next s') : wpAny (model c.prog c.w) c.A (execs (convFor.drop 1) (cEnv L a)) Q E s := by
  have kk := F.ok
  have hs1 := sizeLine_eq
  unfold convFor
  refine if_F F X (Tr.of (by decide) (Tr.cmp kk (X.name F rfl).weak (X.name F rfl).weak (Cm.eqInt kk))) fun s₁ X₁ => ?_
  refine if_F F X₁ (Tr.of (by decide) (Tr.cmp kk (X₁.name F rfl).weak (X₁.name F rfl).weak (Cm.eqInt kk))) fun s₂ X₂ => ?_
  refine if_F F X₂ (Tr.of (by decide) (Tr.cmp kk (X₂.name F rfl).weak (X₂.name F rfl).weak (Cm.eqInt kk))) fun s₃ X₃ => ?_
  refine if_F F X₃ (Tr.of (by decide) (Tr.cmp kk (X₃.name F rfl).weak (X₃.name F rfl).weak (Cm.eqInt kk))) fun s₄ X₄ => ?_
  refine if_F F X₄ (Tr.of (by decide) (Tr.cmp kk (X₄.name F rfl).weak (X₄.name F rfl).weak (Cm.eqInt kk))) fun s₅ X₅ => ?_
  refine if_T F X₅ (Tr.of (by decide) (Tr.cmp kk (X₅.name F rfl).weak (X₅.name F rfl).weak (Cm.eqInt kk))) fun s₆ X₆ => ?_
  refine if_T F X₆ (Tr.of (by decide) (Tr.cmp kk (X₆.name F rfl).weak (Ev.cStr kk) (Cm.eqStr kk))) fun s₇ X₇ => ?_
  refine ad_ F (pre := []) (post := [("output_query", ol, .strs out)]) X₇ (among2a hpo.symm) (Ev.neg1 kk) (X₇.name F rfl).weak hyl fun s₈ X₈ => ?_
  rw [ey] at X₈
  refine if_T F X₈ (Tr.of h1 (endsT kk (fun p => (X₈.name F rfl).weak) ⟨_, rfl⟩)) fun s₉ X₉ => ?_
  refine as_ F X₉ (.inl rfl) (X₉.name F rfl) (by exact two_no (by decide) (by decide)) fun s₁₀ X₁₀ => ?_
  have fin : ∀ {s'} {ph' : List Str} {n : Nat} {σ' : Tab}, Run c (cEnv L a) e₀ r Wc σ' [("placeholders", pl, .strs ph'), ("output_query", ol, .strs (out ++ [told n]))] s' → (∀ p ∈ ((("next_c", opt (nextOf q i)) :: ("c", .str ch) :: ("i", .int i) :: convTab 0 pv (Str.ofString "named") q args) : Tab), σ'.lookup p.1 = some p.2) → ph' = tellPh ph y → n = tellNo ph y →
      wpAny (model c.prog c.w) c.A (execs (convFor.drop 2) (cEnv L a)) Q E s' := fun Y hk e1 e2 => by
    subst e1 e2
    exact convEnd F (σ := []) (Y.known hk) (by exact two_no (by decide) (by decide)) k
  unfold convFor at fin
  by_cases hm : y ∈ ph
  · refine wpAny_execs_cons (ex_tryOk fun E' => ?_)
    have own₁ : ∀ {s'} {σ'} {out'}, Run c (cEnv L a) e₀ r Wc σ' [("placeholders", pl, .strs (ph ++ [y])), ("output_query", ol, .strs out')] s' → ∀ p, Ev c false (cEnv L a) s'.heap (.Name "placeholders" p) (.strs (ph ++ [y])) := fun Y p => Y.own F List.mem_cons_self
    refine as_ F X₁₀ (.inl rfl) (Ev.index kk (Ev.butLastStrs kk (own₁ X₁₀ _) (Ev.neg1 kk) (by omega)) (Ev.lastStrs kk (own₁ X₁₀ _) (Ev.neg1 kk)) ⟨_, rfl⟩ hm (by omega)) (by exact two_no (by decide) (by decide)) fun s₁₁ X₁₁ => ?_
    have hidx : ph.idxOf y < ph.length := List.idxOf_lt_length_iff.mpr hm
    refine ap_ F (pre := [("placeholders", pl, .strs (ph ++ [y]))]) (post := []) kStr (z := told (ph.idxOf y + 1)) X₁₁ (among2b hpo) (ev_told kk (by omega) (gl_str (Run.fixed F G X₁₁) N) (Ev.addInt kk (X₁₁.name F (x := "pidx") (d := .int (ph.idxOf y : Nat)) rfl).weak (Ev.cInt kk))) ⟨_, rfl⟩ hout fun s₁₂ X₁₂ => ?_
    refine dl_ F (pre := []) (post := [("output_query", ol, .strs (out ++ [told (ph.idxOf y + 1)]))]) X₁₂ (among2a hpo.symm) (Ev.neg1 kk) (by omega) fun s₁₃ X₁₃ => wpAny_execs_nil ⟨rfl, ?_⟩
    refine nx_ (nx_ (nx_ (nx_ (nx_ (nx_ (nx_ (nx_ ?_)))))))
    exact fin X₁₃ (by unfold convTab; repeat' (first | exact List.forall_mem_nil _ | refine List.forall_mem_cons.mpr ⟨rfl, ?_⟩)) (by unfold tellPh; rw [if_pos hm]) (by unfold tellNo; rw [if_pos hm])
  · have own₁ : ∀ p, Ev c false (cEnv L a) s₁₀.heap (.Name "placeholders" p) (.strs (ph ++ [y])) := fun p => X₁₀.own F List.mem_cons_self
    refine wpAny_execs_cons (ex_tryMiss F X₁₀ hA (fun Q' E' q' => rz_ kk F hh X₁₀ (Ev.butLastStrs kk (own₁ _) (Ev.neg1 kk) (by omega)) (Ev.lastStrs kk (own₁ _) (Ev.neg1 kk)) ⟨_, rfl⟩ hm (by omega) hy q') (fun ea s₁ E' Q' Y hq => ?_) (fun ea s₁ E' F' Y => ?_))
    · have g := gl_ve (c := c.on (c.A.mark (some (.ref ea)))) (env := cEnv L a) (Run.fixed (Fn.on F (A' := c.A.mark (some (.ref ea))) F.ok.room F.ok.units) G (Run.on Y)) N
      exact g _ s₁ Q' E' (Run.on Y).at_ hq
    · have hl : ∀ p₁ p₂ p₃, Ev (c.on (c.A.mark (some (.ref ea)))) false (cEnv L a) s₁.heap (.Call (.Name "len" p₁) [.Name "placeholders" p₂] [] p₃) (.int ((ph.length + 1 : Nat) : Int)) := fun p₁ p₂ p₃ => by
        have e : (ph ++ [y]).length = ph.length + 1 := by simp
        have := Ev.lenStrs (b := false) (p := p₁) (pos := p₃) F'.ok (gl_len (Run.fixed F' G Y) N) (Y.own F' (pos := p₂) List.mem_cons_self) (by simp; omega)
        rwa [e] at this
      refine ap_ F' (pre := [("placeholders", pl, .strs (ph ++ [y]))]) (post := []) kStr (z := told (ph.length + 1)) Y (among2b hpo) (ev_told F'.ok (by omega) (gl_str (Run.fixed F' G Y) N) (hl _ _ _)) ⟨_, rfl⟩ hout fun s₁₂ X₁₂ => wpAny_execs_nil ?_
      refine nx_ (nx_ (nx_ (nx_ (nx_ (nx_ (nx_ (nx_ ?_)))))))
      exact fin (Run.off X₁₂) (by unfold convTab; repeat' (first | exact List.forall_mem_nil _ | refine List.forall_mem_cons.mpr ⟨rfl, ?_⟩)) (by unfold tellPh; rw [if_neg hm]) (by unfold tellNo; rw [if_neg hm])
end
end Mine

namespace Mine
/-- one letter, in named -/
inductive StepN (nx : Option Str) : CS → Str → CS → Prop where
  | plain {ph out pv ch} : (ch == Str.ofString "'") = false → (ch == Str.ofString "\"") = false → (ch == Str.ofString "-") = false → (ch == Str.ofString "$") = false → (ch == Str.ofString ":") = false → out.length ≤ 65536 →
      StepN nx ⟨0, ph, out, pv⟩ ch ⟨0, ph, out ++ [ch], some ch⟩
  | opens {ph out pv z} : nx = some z → Txt.contains (Str.ofString ":=") z = false → (pv != some (Str.ofString ":")) = true → ph.length ≤ 60 → StepN nx ⟨0, ph, out, pv⟩ (Str.ofString ":") ⟨4, ph ++ [Str.ofString ""], out, some (Str.ofString ":")⟩
  | letter {ph y out pv ch} : endsB nx = false → y.length + ch.length ≤ 65536 → StepN nx ⟨4, ph ++ [y], out, pv⟩ ch ⟨4, ph ++ [y ++ ch], out, some ch⟩
  | closes {ph y out pv ch} : endsB nx = true → ph.length < 60 → out.length ≤ 65536 → y.length + ch.length ≤ 65536 → (reprText (y ++ ch)).length ≤ 65536 → StepN nx ⟨4, ph ++ [y], out, pv⟩ ch ⟨0, tellPh ph (y ++ ch), out ++ [told (tellNo ph (y ++ ch))], some ch⟩

section
variable {c : Cx} {L a : Addr} {g₀ : Heap} {mg mb : Str → Option Value} {e₀ r s : Shared} {Wc : List Addr} {σ : Tab} {ow : Owned} {E : Value → Shared → Prop} {Q : Flow → Shared → Prop} {q style : Str} {args : D} {i : Nat} {pv : Option Str} {pl ol : Addr} {ph out : List Str} {st : Int} {ch y : Str}
theorem convLoopN (F : Fn c (cEnv L a) e₀ Wc) (hh : c.A.handled = none) (hA : Around₀ c.A (cEnv L a) c.W c.tabs) (G : ∀ b o, g₀.get? b = some o → e₀.heap.get? b = some o ∧ b ∉ Wc) (N : Names g₀ mg mb) (hpo : pl ≠ ol) (hq : q.length < 2 ^ 40) (ha : q.cps.all (· < 128) = true)
    (cs : Nat → CS) (hcs : ∀ i ch, q.cps[i]? = some ch → StepN (nextOf q i) (cs i) ⟨#[ch]⟩ (cs (i + 1)))
    (X : Run c (cEnv L a) e₀ r Wc (convTab (cs 0).st (cs 0).pv (Str.ofString "named") q args) [("placeholders", pl, .strs (cs 0).ph), ("output_query", ol, .strs (cs 0).out)] s)
    (k : ∀ s', Run c (cEnv L a) e₀ r Wc (convTab (cs q.cps.size).st (cs q.cps.size).pv (Str.ofString "named") q args) [("placeholders", pl, .strs (cs q.cps.size).ph), ("output_query", ol, .strs (cs q.cps.size).out)] s' → wpAny (model c.prog c.w) c.A (execs (convBody.drop 15) (cEnv L a)) Q E s') : wpAny (model c.prog c.w) c.A (execs (convBody.drop 14) (cEnv L a)) Q E s := by
  have kk := F.ok
  have hs1 := sizeLine_eq
  have hbig : 65536 ≤ sizeLine := by omega
  have h60 : 60 ≤ sizeLine := by omega
  conv in (List.drop 14 convBody) => whnf
  refine wpAny_execs_cons (ex_forEnum F hh (fun i => convTab (cs i).st (cs i).pv (Str.ofString "named") q args) (fun i => [("placeholders", pl, .strs (cs i).ph), ("output_query", ol, .strs (cs i).out)]) X (.inl rfl) (.inl rfl) (fun i p hp => ⟨?_, ?_⟩) (fun i y a d hm => ?_) ha (gl_enum (Run.fixed F G X) N) (X.name F rfl) (fun own' i ch s' E' F' hx Y => ?_) (fun s' Y => k s' Y))
  · revert p hp; exact two_no (by decide) (by decide)
  · revert p hp; exact two_no (by decide) (by decide)
  · simp only [List.mem_cons, List.not_mem_nil, or_false, Prod.mk.injEq] at hm
    rcases hm with ⟨_, _, rfl⟩ | ⟨_, _, rfl⟩
    · exact ⟨Str, kStr, _, rfl⟩
    · exact ⟨Str, kStr, _, rfl⟩
  · have hi : i < q.cps.size := (Array.getElem?_eq_some_iff.mp hx).1
    have hq' : q.length = q.cps.size := rfl
    have S := hcs i ch hx
    have Y₁ := Y.cons.weak (σ := ("c", .str ⟨#[ch]⟩) :: ("i", .int i) :: convTab (cs i).st (cs i).pv (Str.ofString "named") q args) (fun x d h => by
      rw [List.lookup_cons] at h ⊢
      cases hb : x == "c" <;> rw [hb] at h
      · rw [setV_cons]; exact h
      · exact h)
    have hA' : Around₀ ({ c with own := own' } : Cx).A (cEnv L a) c.W c.tabs := hA
    refine convNext (c := { c with own := own' }) F' Y₁ (gl_len (c := { c with own := own' }) (Run.fixed F' G Y₁) N) hq (by omega) (two_no (by decide) (by decide)) fun s₁ Y₂ => ?_
    generalize hz : (⟨#[ch]⟩ : Str) = z at S Y₂
    generalize hc : cs i = x at S Y₂
    generalize hc' : cs (i + 1) = x' at S
    cases S with
    | plain h1 h2 h3 h4 h5 h6 => exact convPlainN (c := { c with own := own' }) F' Y₂ hpo (Nat.le_trans h6 hbig) h1 h2 h3 h4 h5 fun s' Z => ⟨rfl, Z⟩
    | opens h1 h2 h3 h4 => exact convOpenN (c := { c with own := own' }) F' Y₂ hpo (Nat.le_trans h4 h60) rfl h1 h2 h3 fun s' Z => ⟨rfl, Z⟩
    | letter h1 h2 => exact convLetterN (c := { c with own := own' }) F' Y₂ hpo (Nat.le_trans h2 hbig) h1 fun s' Z => ⟨rfl, Z⟩
    | closes h1 h2 h3 h4 h5 => exact convCloseN (c := { c with own := own' }) F' hh hA' G N hpo h2 (Nat.le_trans h3 hbig) (Nat.le_trans h4 hbig) rfl (by omega) Y₂ h1 fun s' Z => ⟨rfl, Z⟩
end
section
variable {c : Cx} {L a : Addr} {g₀ h : Heap} {mg mb : Str → Option Value} {e₀ r s : Shared} {Wc : List Addr} {σ : Tab} {ow : Owned}
/-- conv's body in named -/
theorem convBodyN {E : Value → Shared → Prop} {Q : Flow → Shared → Prop} {q : Str} (F : Fn c (cEnv L a) e₀ Wc) (hgen : c.gen) (hh : c.A.handled = none) (hdep : c.A.depth ≤ 550) (huni : c.A.units ≤ 180) (hfr : Around₀ c.A (cEnv L a) c.W c.tabs) (G : ∀ b o, g₀.get? b = some o → e₀.heap.get? b = some o ∧ b ∉ Wc) (C : ConvG g₀ mg mb) (ht : 108 ∈ c.tabs) (hL : e₀.heap.objs.size ≤ L) {A₀ : Around} {outer : List Env} (hA : c.A = A₀.deeper (cEnv L a)) (hA₀ : A₀.frames = some outer)
    (hf : ∀ e ∈ outer, e.scope.kind ≠ .module ∧ ∃ L' ∈ Wc, L' ∉ c.tabs ∧ L' < L ∧ e.frame = some L')
    (isl : ∀ (c' : Cx), c'.prog = c.prog → c'.w = c.w → c'.A = c.A → Island c' (cEnv L a) g₀ countCall)
    (hq : q.length < 2 ^ 40) (hasc : q.cps.all (· < 128) = true) (cs : Nat → CS) (h0 : cs 0 = ⟨0, [], [], none⟩) (hcs : ∀ i ch, q.cps[i]? = some ch → StepN (nextOf q i) (cs i) ⟨#[ch]⟩ (cs (i + 1)))
    {ns : List Str} (hns : ∀ p ∈ (cs q.cps.size).ph, p ∈ ns) (hph : (cs q.cps.size).ph.length ≤ 60) (hout : ((cs q.cps.size).out.map (·.length)).sum ≤ 65536)
    (X : Run c (cEnv L a) e₀ r Wc [("style", .str (Str.ofString "named")), ("query", .str q), ("args", .idict ns)] [] s)
    (k : ∀ v s' (c' : Cx), GrowR Wc e₀ s' → c'.prog = c.prog → c'.w = c.w → (∀ x ∈ c.av true, x ∈ c'.av true) → VR c' (c'.av true) s'.heap (.pair (.str (Txt.join (Str.ofString "") (cs q.cps.size).out)) (.tstrs (cs q.cps.size).ph)) v → Q (.ret v) s') : wpAny (model c.prog c.w) c.A (execs convBody (cEnv L a)) Q E s := by
  have hs1 := sizeLine_eq
  have M : Maker c g₀ (cEnv L a) mg 112 108 := ⟨C.names.g, rfl, rfl, C.hd, ht, C.main⟩
  refine convHead F G C.names hL hA hA₀ hf M isl X fun pl ol s₁ F₁ hpo X₁ => ?_
  have M₁ : Maker ((c.plus pl).plus ol) g₀ (cEnv L a) mg 112 108 := ⟨C.names.g, rfl, rfl, C.hd, ht, C.main⟩
  refine convLoopN (c := (c.plus pl).plus ol) F₁ hh hfr G C.names hpo hq hasc cs hcs (by rw [h0]; exact X₁) fun s₂ X₂ => ?_
  refine convTail (c := (c.plus pl).plus ol) F₁ hgen hh hdep huni G C.names C.hlim M₁ (by decide) (by decide) (by decide) hns (by omega) (by omega) X₂ fun v s₃ X₃ hv => ?_
  refine k v s₃ ((c.plus pl).plus ol) X₃.since rfl rfl (fun x hx => ?_) hv
  rcases List.mem_append.mp hx with z | z
  · exact List.mem_append_left _ z
  · exact List.mem_append_right _ (List.mem_cons_of_mem _ (List.mem_cons_of_mem _ z))

/-- a call of conv in named -/
theorem call_convN {E : Value → Shared → Prop} {Q : Value → Shared → Prop} {q : Str} (k : c.Ok) (hR : c.R = GrowR c.W) (hgen : c.gen) (hh : c.A.handled = none) (hdep : c.A.depth ≤ 540) (huni : c.A.units ≤ 170) (at_ : At c h s) (Fx : Fixed c g₀ h) (C : ConvG g₀ mg mb) (ht : 108 ∈ c.tabs) {outer : List Env} (hA₀ : c.A.frames = some outer)
    (hf : ∀ e ∈ outer, e.scope.kind ≠ .module ∧ ∃ L' ∈ c.W, L' ∉ c.tabs ∧ e.frame = some L')
    (isl : ∀ (c' : Cx) L a, c'.prog = c.prog → c'.w = c.w → c'.A = c.A.deeper (cEnv L a) → Island c' (cEnv L a) g₀ countCall)
    (hq : q.length < 2 ^ 40) (hasc : q.cps.all (· < 128) = true) (cs : Nat → CS) (h0 : cs 0 = ⟨0, [], [], none⟩) (hcs : ∀ i ch, q.cps[i]? = some ch → StepN (nextOf q i) (cs i) ⟨#[ch]⟩ (cs (i + 1)))
    {ns : List Str} (hns : ∀ p ∈ (cs q.cps.size).ph, p ∈ ns) (hph : (cs q.cps.size).ph.length ≤ 60) (hout : ((cs q.cps.size).out.map (·.length)).sum ≤ 65536)
    {vs vq va : Value} (hvs : VR c (c.av true) s.heap (.str (Str.ofString "named")) vs) (hvq : VR c (c.av true) s.heap (.str q) vq) (hva : VR c (c.av true) s.heap (.idict ns) va)
    (kk : ∀ v s', c.R s s' → VR c (c.av true) s'.heap (.pair (.str (Txt.join (Str.ofString "") (cs q.cps.size).out)) (.tstrs (cs q.cps.size).ph)) v → Q v s') :
    wpAny (model c.prog c.w) c.A (call (.ref 113) [vs, vq, va]) Q E s := by
  have Fx' : Fixed c g₀ s.heap := Fx.grow at_.grow
  obtain ⟨o, ho, hd⟩ := C.fn
  have hlim' : s.heap.NoLimit := by obtain ⟨mc, hm, hn⟩ := C.hlim; exact ⟨mc, hm.keeps Fx'.stays, hn⟩
  have hrec : s.heap.CodeRec convFd.code convFd.qualname := by
    obtain ⟨c₁, o₁, vs₁, t₁, e1, e2, e3⟩ := C.rec_
    exact ⟨c₁, o₁, vs₁, t₁, e1, Fx'.stays _ _ e2, e3⟩
  have low := at_.low.grow at_.grow
  refine call_fn (σ₀ := [("style", .str (Str.ofString "named")), ("query", .str q), ("args", .idict ns)]) (body := convBody) (binds := [("style", vs), ("query", vq), ("args", va)]) k hR hgen hdep (by omega) at_ (Fx'.stays _ _ ho) hd hlim' hrec rfl rfl rfl ?_ ?_ (fun s₁ E' F X => ?_) kk ?_
  · intro x hx
    rcases List.mem_cons.mp hx with rfl | hx
    · exact .inl rfl
    · rcases List.mem_cons.mp hx with rfl | hx
      · exact .inl rfl
      · rw [List.mem_singleton.mp hx]; exact .inr ⟨rfl, rfl⟩
  · intro x d e
    rw [List.lookup_cons] at e
    by_cases h1 : x = "style"
    · subst h1
      simp only [beq_self_eq_true] at e
      cases e
      exact ⟨vs, hvs, .inl ⟨rfl, rfl⟩⟩
    · have : (x == "style") = false := by simpa using h1
      rw [this] at e
      simp only [List.lookup_cons] at e
      by_cases h2 : x = "query"
      · subst h2
        simp only [beq_self_eq_true] at e
        cases e
        exact ⟨vq, hvq, .inl ⟨rfl, rfl⟩⟩
      · have : (x == "query") = false := by simpa using h2
        rw [this] at e
        simp only at e
        by_cases h3 : x = "args"
        · subst h3
          simp only [beq_self_eq_true] at e
          cases e
          exact ⟨va, hva, .inr ⟨rfl, s.heap.objs.size + 1, rfl, rfl⟩⟩
        · have : (x == "args") = false := by simpa using h3
          rw [this] at e
          cases e
  · refine convBodyN (c := c.call (cEnv s.heap.objs.size 113) s.heap.objs.size) F trivial hh ?_ ?_ ?_ (fun b o e => Fx' b o e) C ht (Nat.le_refl _) rfl hA₀ ?_ (fun c' h1 h2 h3 => isl c' _ _ h1 h2 h3) hq hasc cs h0 hcs hns hph hout X fun v s₂ c' g hp hw hav hv => ⟨v, rfl, g, ?_⟩
    · show c.A.depth + 1 ≤ 550; omega
    · show c.A.units + 3 ≤ 180; omega
    · refine ⟨⟨outer, by show c.A.frames.map _ = _; rw [hA₀]; rfl, fun e he => ?_⟩, rfl⟩
      rcases List.mem_cons.mp he with rfl | he
      · refine ⟨by show convFd.scope.kind ≠ _; decide, s.heap.objs.size, List.mem_cons_self, fun q => ?_, rfl⟩
        obtain ⟨o, e⟩ := low.there (k.tabs _ q)
        rw [Heap.get?_none_of_le (Nat.le_refl _)] at e; cases e
      · obtain ⟨h1, L', h2, h3, h4⟩ := hf e he
        exact ⟨h1, L', List.mem_cons_of_mem _ h2, h3, h4⟩
    · intro e he
      obtain ⟨h1, L', h2, h3, h4⟩ := hf e he
      obtain ⟨o, ho⟩ := low.there h2
      exact ⟨h1, L', h2, h3, Heap.lt_size ho, h4⟩
    · refine VR.cx (c := c') (c' := c) hp.symm hw.symm (hv.mono fun x hx => hav x ?_)
      rcases List.mem_append.mp hx with z | z
      · exact List.mem_append_left _ (List.mem_cons_of_mem _ z)
      · exact List.mem_append_right _ (List.mem_append_right _ z)
  · intro p hp
    rw [List.mem_singleton.mp (show p ∈ [(("args" : Str), (s.heap.objs.size + 1 : Addr))] from hp)]
    rfl
end
end Mine

namespace Mine

/-! texts as lists of numbers -/
def cl (x : Str) : List Nat := x.cps.toList
theorem cl_inj {x y : Str} (h : cl x = cl y) : x = y := Str.ext' (Array.toList_inj.mp h)
theorem cl_append (x y : Str) : cl (x ++ y) = cl x ++ cl y := by show (x.cps ++ y.cps).toList = _; simp [cl]
/-- lists with one between -/
def jn (y : List Nat) : List (List Nat) → List Nat
  | [] => []
  | [x] => x
  | x :: z :: r => x ++ y ++ jn y (z :: r)
theorem cl_join (y : Str) : ∀ l : List Str, cl (Txt.join y l) = jn (cl y) (l.map cl) := by
  have h : ∀ l : List Str, cl (Str.join y l) = jn (cl y) (l.map cl) := by
    intro l
    induction l with
    | nil => rfl
    | cons x r ih =>
      cases r with
      | nil => rfl
      | cons z r =>
        show cl (x ++ y ++ Str.join y (z :: r)) = cl x ++ cl y ++ jn (cl y) ((z :: r).map cl)
        rw [cl_append, cl_append, ih]
  intro l
  show cl (Builtin.Str.glued y l) = _
  rw [StrLaws.glued_eq_join, h]
theorem cut_unique {c : Nat} : ∀ {x z t u : List Nat}, c ∉ x → c ∉ z → x ++ c :: t = z ++ c :: u → x = z ∧ t = u
  | [], [], t, u, _, _, h => by simpa using h
  | [], b :: z, t, u, _, h2, h => by
    simp at h
    exact absurd h.1 (by rintro rfl; exact h2 List.mem_cons_self)
  | a :: x, [], t, u, h1, _, h => by
    simp at h
    exact absurd h.1 (by rintro rfl; exact h1 List.mem_cons_self)
  | a :: x, b :: z, t, u, h1, h2, h => by
    simp only [List.cons_append, List.cons.injEq] at h
    obtain ⟨rfl, h⟩ := h
    obtain ⟨rfl, rfl⟩ := cut_unique (fun q => h1 (List.mem_cons_of_mem _ q)) (fun q => h2 (List.mem_cons_of_mem _ q)) h
    exact ⟨rfl, rfl⟩
theorem jn_inj {c : Nat} : ∀ {A B : List (List Nat)}, A ≠ [] → B ≠ [] → (∀ p ∈ A, c ∉ p) → (∀ p ∈ B, c ∉ p) → jn [c] A = jn [c] B → A = B
  | [], _, h, _, _, _, _ => absurd rfl h
  | _, [], _, h, _, _, _ => absurd rfl h
  | [x], [z], _, _, _, _, h => by rw [show x = z from h]
  | [x], z :: z' :: r, _, _, ha, _, h => by
    exfalso
    refine ha x List.mem_cons_self ?_
    rw [show x = z ++ [c] ++ jn [c] (z' :: r) from h]; simp
  | x :: x' :: r, [z], _, _, _, hb, h => by
    exfalso
    refine hb z List.mem_cons_self ?_
    rw [show z = x ++ [c] ++ jn [c] (x' :: r) from h.symm]; simp
  | x :: x' :: r, z :: z' :: r', _, _, ha, hb, h => by
    have h' : x ++ c :: jn [c] (x' :: r) = z ++ c :: jn [c] (z' :: r') := by
      have : x ++ [c] ++ jn [c] (x' :: r) = z ++ [c] ++ jn [c] (z' :: r') := h
      simpa using this
    obtain ⟨rfl, h2⟩ := cut_unique (ha x List.mem_cons_self) (hb z List.mem_cons_self) h'
    rw [jn_inj (by simp) (by simp) (fun p hp => ha p (List.mem_cons_of_mem _ hp)) (fun p hp => hb p (List.mem_cons_of_mem _ hp)) h2]
theorem map_cl_inj : ∀ {A B : List Str}, A.map cl = B.map cl → A = B
  | [], [], _ => rfl
  | [], _ :: _, h => by cases h
  | _ :: _, [], h => by cases h
  | x :: A, y :: B, h => by
    simp only [List.map_cons, List.cons.injEq] at h
    rw [cl_inj h.1, map_cl_inj h.2]
/-- a text that was put together is taken apart again -/
theorem split_back {c : Nat} {A : List Str} (hA : A ≠ []) (hf : ∀ p ∈ A, c ∉ cl p) (hne : ∀ p ∈ A, cl p ≠ []) : Txt.split (Txt.join ⟨#[c]⟩ A) ⟨#[c]⟩ = A := by
  have h1 := StrLaws.join_split (Txt.join ⟨#[c]⟩ A) ⟨#[c]⟩
  have h2 := StrLaws.split_free (Txt.join ⟨#[c]⟩ A) c
  generalize Txt.split (Txt.join ⟨#[c]⟩ A) ⟨#[c]⟩ = B at h1 h2 ⊢
  have e : Txt.join ⟨#[c]⟩ B = Txt.join ⟨#[c]⟩ A := by
    show Builtin.Str.glued _ B = _
    rw [StrLaws.glued_eq_join]; exact h1
  have e' := congrArg cl e
  rw [cl_join, cl_join] at e'
  have e'' : jn [c] (B.map cl) = jn [c] (A.map cl) := e'
  by_cases hB : B = []
  · exfalso
    subst hB
    have : jn [c] (A.map cl) = [] := e''.symm
    match A, hA, hne, this with
    | [x], _, hne, h => exact hne x List.mem_cons_self h
    | x :: y :: r, _, _, h => simp [jn] at h
  · exact map_cl_inj (jn_inj (by simpa using hB) (by simpa using hA) (fun p hp => by
      obtain ⟨q, hq, rfl⟩ := List.mem_map.mp hp
      exact h2 q hq) (fun p hp => by
      obtain ⟨q, hq, rfl⟩ := List.mem_map.mp hp
      exact hf q hq) e'')
end Mine

namespace Mine

/-- letter by letter -/
inductive Runs : List Nat → CS → CS → Prop
  | nil {s : CS} : Runs [] s s
  | cons {ch : Nat} {r : List Nat} {s s' s'' : CS} : StepP (r.head?.map fun c => ⟨#[c]⟩) s ⟨#[ch]⟩ s' → Runs r s' s'' → Runs (ch :: r) s s''
theorem Runs.states {l : List Nat} {s s' : CS} (R : Runs l s s') : ∃ cs : Nat → CS, cs 0 = s ∧ cs l.length = s' ∧ ∀ (i ch : Nat), l[i]? = some ch → StepP ((l[i + 1]?).map fun c => ⟨#[c]⟩) (cs i) ⟨#[ch]⟩ (cs (i + 1)) := by
  induction R with
  | @nil s => exact ⟨fun _ => s, rfl, rfl, fun i ch h => by simp at h⟩
  | @cons ch r s s' s'' h R ih =>
    obtain ⟨cs, h0, h1, h2⟩ := ih
    refine ⟨fun i => match i with | 0 => s | i + 1 => cs i, rfl, h1, fun i c hc => ?_⟩
    cases i with
    | zero =>
      simp only [List.getElem?_cons_zero, Option.some.injEq] at hc
      subst hc
      show StepP _ s _ (cs 0)
      rw [h0, show (ch :: r)[0 + 1]? = r.head? by cases r <;> rfl]
      exact h
    | succ i => exact h2 i c (by simpa using hc)

def letters : List Nat := [97, 98, 99, 100, 101]
def let_ (a : Nat) : Str := ⟨#[a]⟩
def pieceCl (a : Nat) : List Nat := [37, 40, a, 41, 115]
theorem s37 : Str.ofString "%" = let_ 37 := by decide +kernel
theorem s40 : Str.ofString "(" = let_ 40 := by decide +kernel
theorem s41 : Str.ofString ")" = let_ 41 := by decide +kernel
theorem s115 : Str.ofString "s" = let_ 115 := by decide +kernel
theorem s32 : Str.ofString " " = let_ 32 := by decide +kernel
theorem s0 : Str.ofString "" = ⟨#[]⟩ := by decide +kernel

theorem letter_facts : ∀ a ∈ letters, Txt.contains (Str.ofString "()") (let_ a) = false ∧ (let_ a).length = 1 ∧ (reprText (let_ a)).length ≤ 65536 := by decide +kernel
theorem bracket_facts : Txt.contains (Str.ofString "()") (let_ 40) = true ∧ Txt.contains (Str.ofString "()") (let_ 41) = true := by decide +kernel

theorem runs_piece {a : Nat} (ha : a ∈ letters) {ph out : List Str} {pv : Option Str} {rest : List Nat} {s : CS} (hph : ph.length < 60) (hout : out.length ≤ 65536)
    (R : Runs rest ⟨0, tellPh ph (let_ a), out ++ [told (tellNo ph (let_ a))], some (Str.ofString "s")⟩ s) : Runs (pieceCl a ++ rest) ⟨0, ph, out, pv⟩ s := by
  obtain ⟨l1, l2, l3⟩ := letter_facts a ha
  obtain ⟨b1, b2⟩ := bracket_facts
  have k1 : StepP (some (let_ 40)) ⟨0, ph, out, pv⟩ (let_ 37) ⟨4, ph ++ [Str.ofString ""], out, some (let_ 37)⟩ := by
    have := StepP.opens (nx := some (Str.ofString "(")) (ph := ph) (out := out) (pv := pv) rfl (by omega)
    rwa [s37, s40] at this
  have k2 : ∀ nx, StepP nx ⟨4, ph ++ [Str.ofString ""], out, some (let_ 37)⟩ (let_ 40) ⟨4, ph ++ [Str.ofString ""], out, some (let_ 40)⟩ := fun nx => StepP.bracket (by decide +kernel) b1
  have k3 : ∀ nx, StepP nx ⟨4, ph ++ [Str.ofString ""], out, some (let_ 40)⟩ (let_ a) ⟨4, ph ++ [Str.ofString "" ++ let_ a], out, some (let_ a)⟩ := fun nx => StepP.letter (by
    have : (some (let_ 40) == some (Str.ofString ")")) = false := by decide +kernel
    rw [this]; rfl) l1 (by rw [l2]; decide +kernel)
  have e : Str.ofString "" ++ let_ a = let_ a := cl_inj (by rw [cl_append, s0]; rfl)
  rw [e] at k3
  have k4 : ∀ nx, StepP nx ⟨4, ph ++ [let_ a], out, some (let_ a)⟩ (let_ 41) ⟨4, ph ++ [let_ a], out, some (let_ 41)⟩ := fun nx => StepP.bracket (by
    have : (let_ 41 == Str.ofString "s") = false := by decide +kernel
    rw [this, Bool.and_false]) b2
  have k5 : ∀ nx, StepP nx ⟨4, ph ++ [let_ a], out, some (let_ 41)⟩ (let_ 115) ⟨0, tellPh ph (let_ a), out ++ [told (tellNo ph (let_ a))], some (Str.ofString "s")⟩ := fun nx => by
    have := StepP.closes (nx := nx) (ph := ph) (y := let_ a) (out := out) hph hout l3
    rw [s41] at this
    rw [← s115]
    exact this
  exact .cons k1 (.cons (k2 _) (.cons (k3 _) (.cons (k4 _) (.cons (k5 _) R))))

def phs (ph : List Str) (l : List Str) : List Str := l.foldl tellPh ph
def tells : List Str → List Str → List Nat
  | _, [] => []
  | ph, x :: r => tellNo ph x :: tells (tellPh ph x) r
def inter : List Str → List Str
  | [] => []
  | [x] => [x]
  | x :: y :: r => x :: Str.ofString " " :: inter (y :: r)
theorem tellPh_length (ph : List Str) (y : Str) : (tellPh ph y).length ≤ ph.length + 1 := by
  unfold tellPh; split <;> simp

theorem runs_names : ∀ (hs : List Nat) (ph out : List Str) (pv : Option Str), hs ≠ [] → (∀ a ∈ hs, a ∈ letters) → ph.length + hs.length < 60 → out.length + 2 * hs.length ≤ 60000 →
    Runs (jn [32] (hs.map pieceCl)) ⟨0, ph, out, pv⟩ ⟨0, phs ph (hs.map let_), out ++ inter ((tells ph (hs.map let_)).map told), some (Str.ofString "s")⟩
  | [], _, _, _, h, _, _, _ => absurd rfl h
  | [a], ph, out, pv, _, hl, h1, h2 => by
    have := runs_piece (rest := []) (pv := pv) (hl a List.mem_cons_self) (ph := ph) (out := out) (by simp at h1; omega) (by simp at h2; omega) .nil
    simpa [jn, phs, tells, inter] using this
  | a :: b :: r, ph, out, pv, _, hl, h1, h2 => by
    have hlen := tellPh_length ph (let_ a)
    have ih := runs_names (b :: r) (tellPh ph (let_ a)) (out ++ [told (tellNo ph (let_ a))] ++ [let_ 32]) (some (let_ 32)) (by simp) (fun c hc => hl c (List.mem_cons_of_mem _ hc)) (by simp at h1 ⊢; omega) (by simp at h2 ⊢; omega)
    have k : ∀ nx, StepP nx ⟨0, tellPh ph (let_ a), out ++ [told (tellNo ph (let_ a))], some (Str.ofString "s")⟩ (let_ 32) ⟨0, tellPh ph (let_ a), out ++ [told (tellNo ph (let_ a))] ++ [let_ 32], some (let_ 32)⟩ := fun nx =>
      StepP.plain (by decide +kernel) (by decide +kernel) (by decide +kernel) (by decide +kernel) (by decide +kernel) (by simp at h2 ⊢; omega)
    have R := runs_piece (rest := 32 :: jn [32] ((b :: r).map pieceCl)) (pv := pv) (hl a List.mem_cons_self) (ph := ph) (out := out) (by simp at h1; omega) (by simp at h2; omega) (.cons (k _) ih)
    have e1 : jn [32] ((a :: b :: r).map pieceCl) = pieceCl a ++ 32 :: jn [32] ((b :: r).map pieceCl) := by
      show pieceCl a ++ [32] ++ jn [32] ((b :: r).map pieceCl) = _
      simp
    have e2 : out ++ inter ((tells ph ((a :: b :: r).map let_)).map told) = out ++ [told (tellNo ph (let_ a))] ++ [let_ 32] ++ inter ((tells (tellPh ph (let_ a)) ((b :: r).map let_)).map told) := by
      simp [tells, inter, s32]
    rw [e1, e2]
    exact R

def piece (x : Str) : Str := Str.ofString "%(" ++ x ++ Str.ofString ")s"
theorem cl_piece (a : Nat) : cl (piece (let_ a)) = pieceCl a := by
  have h1 : cl (Str.ofString "%(") = [37, 40] := by decide +kernel
  have h2 : cl (Str.ofString ")s") = [41, 115] := by decide +kernel
  unfold piece
  rw [cl_append, cl_append, h1, h2]; rfl
def queryOf (hs : List Nat) : Str := Txt.join (Str.ofString " ") ((hs.map let_).map piece)
theorem cl_query (hs : List Nat) : cl (queryOf hs) = jn [32] (hs.map pieceCl) := by
  unfold queryOf
  rw [cl_join, s32, List.map_map, List.map_map]
  congr 1
theorem jn_all {P : Nat → Prop} {y : List Nat} (hy : ∀ c ∈ y, P c) : ∀ {l : List (List Nat)}, (∀ x ∈ l, ∀ c ∈ x, P c) → ∀ c ∈ jn y l, P c
  | [], _, c, hc => by cases hc
  | [x], h, c, hc => h x List.mem_cons_self c hc
  | x :: z :: r, h, c, hc => by
    rcases List.mem_append.mp hc with hc | hc
    · rcases List.mem_append.mp hc with hc | hc
      · exact h x List.mem_cons_self c hc
      · exact hy c hc
    · exact jn_all hy (fun x hx => h x (List.mem_cons_of_mem _ hx)) c hc
theorem jn_length {y : List Nat} {n : Nat} : ∀ {l : List (List Nat)}, (∀ x ∈ l, x.length ≤ n) → (jn y l).length ≤ l.length * (n + y.length)
  | [], _ => Nat.zero_le _
  | [x], h => by have := h x List.mem_cons_self; simp [jn]; omega
  | x :: z :: r, h => by
    have h1 := h x List.mem_cons_self
    have h2 := jn_length (y := y) (n := n) (l := z :: r) fun x hx => h x (List.mem_cons_of_mem _ hx)
    have e : (jn y (x :: z :: r)).length = x.length + y.length + (jn y (z :: r)).length := by simp [jn]; omega
    rw [e, List.length_cons, Nat.add_mul]; omega
theorem query_small {hs : List Nat} (hl : ∀ a ∈ hs, a ∈ letters) : (queryOf hs).length ≤ hs.length * 6 ∧ (queryOf hs).cps.all (· < 128) = true := by
  have e := cl_query hs
  constructor
  · have := jn_length (y := [32]) (n := 5) (l := hs.map pieceCl) (by
      intro x hx
      obtain ⟨a, _, rfl⟩ := List.mem_map.mp hx
      exact Nat.le_refl 5)
    rw [← e] at this
    simpa [cl, Str.length] using this
  · have : ∀ c ∈ cl (queryOf hs), c < 128 := by
      rw [e]
      refine jn_all (by simp) fun x hx c hc => ?_
      obtain ⟨a, ha, rfl⟩ := List.mem_map.mp hx
      have := hl a ha
      simp only [letters, List.mem_cons, List.not_mem_nil, or_false] at this
      simp only [pieceCl, List.mem_cons, List.not_mem_nil, or_false] at hc
      omega
    rw [Array.all_eq_true_iff_forall_mem]
    intro c hc
    simpa using this c (by simpa [cl] using hc)

/-- the reading of a query of the law -/
theorem conv_states {hs : List Nat} (h0 : hs ≠ []) (hl : ∀ a ∈ hs, a ∈ letters) (hn : hs.length ≤ 20) : ∃ cs : Nat → CS, cs 0 = ⟨0, [], [], none⟩ ∧ (∀ (i ch : Nat), (queryOf hs).cps[i]? = some ch → StepP (nextOf (queryOf hs) i) (cs i) ⟨#[ch]⟩ (cs (i + 1))) ∧
    (cs (queryOf hs).cps.size).ph = phs [] (hs.map let_) ∧ (cs (queryOf hs).cps.size).out = inter ((tells [] (hs.map let_)).map told) := by
  obtain ⟨cs, h1, h2, h3⟩ := (runs_names hs [] [] none h0 hl (by simp; omega) (by simp; omega)).states
  rw [← cl_query] at h2 h3
  have e : (cl (queryOf hs)).length = (queryOf hs).cps.size := by simp [cl]
  rw [e] at h2
  refine ⟨cs, h1, fun i ch hc => ?_, by rw [h2], by rw [h2]; simp⟩
  have := h3 i ch (by simpa [cl] using hc)
  unfold nextOf
  simpa [cl] using this

theorem jn_nil : ∀ l : List (List Nat), jn [] l = l.flatten
  | [] => rfl
  | [x] => by simp [jn]
  | x :: z :: r => by simp [jn, jn_nil (z :: r)]
theorem inter_flat : ∀ l : List Str, ((inter l).map cl).flatten = jn [32] (l.map cl)
  | [] => rfl
  | [x] => by simp [inter, jn]
  | x :: y :: r => by
    have ih := inter_flat (y :: r)
    have e : cl (Str.ofString " ") = [32] := by rw [s32]; rfl
    simp only [inter, List.map_cons, List.flatten_cons, e, jn] at ih ⊢
    rw [ih]; simp
theorem join_inter (l : List Str) : Txt.join (Str.ofString "") (inter l) = Txt.join (Str.ofString " ") l := by
  apply cl_inj
  rw [cl_join, cl_join, s0, s32]
  show jn [] ((inter l).map cl) = jn [32] (l.map cl)
  rw [jn_nil, inter_flat]

theorem told_facts : ∀ n < 64, 32 ∉ cl (told n) ∧ cl (told n) ≠ [] ∧ (told n).length ≤ 3 ∧ PySem.intText? (Txt.slice (told n) (some 1) none) = some ((n : Nat) : Int) := by decide +kernel

theorem tells_length (l : List Str) : ∀ ph, (tells ph l).length = l.length := by
  induction l with
  | nil => intro _; rfl
  | cons x r ih => intro ph; simp [tells, ih]
theorem tells_small (l : List Str) : ∀ ph, ∀ n ∈ tells ph l, n ≤ ph.length + l.length := by
  induction l with
  | nil => intro ph n hn; cases hn
  | cons x r ih =>
    intro ph n hn
    rcases List.mem_cons.mp hn with rfl | hn
    · unfold tellNo
      split
      · rename_i h
        have := List.idxOf_lt_length_iff.mpr h
        simp; omega
      · simp
    · have h1 := ih _ n hn
      have h2 := tellPh_length ph x
      simp; omega
theorem tells_snoc (l : List Str) (x : Str) : ∀ ph, tells ph (l ++ [x]) = tells ph l ++ [tellNo (phs ph l) x] := by
  induction l with
  | nil => intro ph; rfl
  | cons y r ih => intro ph; simp [tells, ih, phs]

theorem split_tells {hs : List Nat} (h0 : hs ≠ []) (hn : hs.length ≤ 20) : Txt.split (Txt.join (Str.ofString "") (inter ((tells [] (hs.map let_)).map told))) (Str.ofString " ") = (tells [] (hs.map let_)).map told := by
  have hlen := tells_length (hs.map let_) []
  rw [join_inter, s32]
  refine split_back ?_ ?_ ?_
  · intro q
    have := congrArg List.length q
    simp [hlen] at this
    exact h0 this
  · intro p hp
    obtain ⟨n, hm, rfl⟩ := List.mem_map.mp hp
    have := tells_small _ _ n hm
    exact (told_facts n (by simp at this; omega)).1
  · intro p hp
    obtain ⟨n, hm, rfl⟩ := List.mem_map.mp hp
    have := tells_small _ _ n hm
    exact (told_facts n (by simp at this; omega)).2.1
theorem inter_sum : ∀ (l : List Nat), (∀ n ∈ l, n < 64) → ((inter (l.map told)).map (·.length)).sum ≤ 4 * l.length
  | [], _ => by simp [inter]
  | [n], h => by
    have := (told_facts n (h n List.mem_cons_self)).2.2.1
    simp [inter]; omega
  | n :: m :: r, h => by
    have h1 := (told_facts n (h n List.mem_cons_self)).2.2.1
    have ih := inter_sum (m :: r) fun x hx => h x (List.mem_cons_of_mem _ hx)
    have e : (Str.ofString " ").length = 1 := by decide +kernel
    simp only [List.map_cons, inter, List.sum_cons, e, List.length_cons] at ih ⊢
    omega
end Mine

namespace Mine
def rng (n : Nat) : List Int := (List.range n).map Int.ofNat
theorem mem_rng {n : Nat} {i : Int} (h : i ∈ rng n) : ∃ j : Nat, i = j ∧ j < n := by
  unfold rng at h
  obtain ⟨j, hj, rfl⟩ := List.mem_map.mp h
  exact ⟨j, rfl, List.mem_range.mp hj⟩

theorem rng_get {n i : Nat} {y : Int} (h : (rng n)[i]? = some y) : y = ((i : Nat) : Int) ∧ i < n := by
  obtain ⟨hi, e⟩ := List.getElem?_eq_some_iff.mp h
  have hi' : i < n := by simpa [rng] using hi
  refine ⟨?_, hi'⟩
  rw [← e]; simp [rng]
theorem phs_length (l : List Str) : ∀ ph : List Str, (phs ph l).length ≤ ph.length + l.length := by
  induction l with
  | nil => intro ph; simp [phs]
  | cons x r ih =>
    intro ph
    have h1 := ih (tellPh ph x)
    have h2 := tellPh_length ph x
    show (phs (tellPh ph x) r).length ≤ _
    simp; omega

theorem Ev.of {c : Cx} {b : Bool} {env : Env} {h : Heap} {e : Expr} {d d' : D} (q : d = d') (x : Ev c b env h e d) : Ev c b env h e d' := q ▸ x
theorem mem_phs {y : Str} : ∀ {l ph : List Str}, y ∈ phs ph l ↔ y ∈ ph ∨ y ∈ l
  | [], ph => by simp [phs]
  | z :: r, ph => by
    show y ∈ phs (tellPh ph z) r ↔ _
    rw [mem_phs]
    unfold tellPh
    split
    · rename_i h
      constructor
      · rintro (q | q)
        · exact .inl q
        · exact .inr (List.mem_cons_of_mem _ q)
      · rintro (q | q)
        · exact .inl q
        · rcases List.mem_cons.mp q with rfl | q
          · exact .inl h
          · exact .inr q
    · simp [or_assoc]

def at_ (a : List Str) (k : Nat) : Str := a.getD k (Str.ofString "")
theorem at_get {a : List Str} {k : Nat} (h : k < a.length) : a[k]? = some (at_ a k) := by
  unfold at_
  rw [List.getElem?_eq_getElem h]; simp [h]
section
variable {c : Cx} {env : Env} {g₀ : Heap} {mg mb : Str → Option Value} {e₀ r s : Shared} {Wc : List Addr} {σ : Tab} {ow : Owned} {E : Value → Shared → Prop} {Q : Flow → Shared → Prop}
/-- a name of the frame, from within a comprehension -/
theorem Run.inComp (F : Fn c env e₀ Wc) (X : Run c env e₀ r Wc σ ow s) {x y : Str} {d : D} {scope : Scope} {cl : List (Str × Addr)} {C : Addr} {v : Value} {h' : Heap} {p : Pos} (T : Turn c s.heap y C v h') (e : σ.lookup x = some d) (hx : env.kindOf x = some .cell := by rfl)
    (hc : (compEnvC scope cl C env).kindOf x = some .cell := by rfl) (hl : cl.lookup x = env.cells.lookup x := by rfl) (hk : scope.kind = .function := by rfl) (hd : (x == ("__debug__" : Str)) = false := by decide) : Ev c.in false (compEnvC scope cl C env) h' (.Name x p) d := by
  obtain ⟨v, ⟨_, ⟨hl', _⟩ | ⟨_, ca, hc', hw, o, ho, hd'⟩⟩, hv⟩ := X.vars x d e
  · rw [hx] at hl'; cases hl'
  · exact Ev.name (c := c.in) (Cx.in_ok F.ok) ⟨hk, .inr ⟨.inl hc, ca, by show cl.lookup x = _; rw [hl]; exact hc', hw, o, T.grow.keep _ _ ho hw, hd'⟩⟩ ((hv.weak false).grow (c.av_sub false) T.grow.keep).in hd
theorem Run.inCompOwn (F : Fn c env e₀ Wc) (X : Run c env e₀ r Wc σ ow s) {x y : Str} {al : Addr} {d : D} {scope : Scope} {cl : List (Str × Addr)} {C : Addr} {v : Value} {h' : Heap} {p : Pos} (T : Turn c s.heap y C v h') (e : (x, al, d) ∈ ow) (hx : env.kindOf x = some .cell := by rfl)
    (hc : (compEnvC scope cl C env).kindOf x = some .cell := by rfl) (hl : cl.lookup x = env.cells.lookup x := by rfl) (hk : scope.kind = .function := by rfl) (hd : (x == ("__debug__" : Str)) = false := by decide) : Ev c.in false (compEnvC scope cl C env) h' (.Name x p) d := by
  obtain ⟨⟨_, ⟨hl', _⟩ | ⟨_, ca, hc', hw, o, ho, hd'⟩⟩, _, _, hv⟩ := X.owns x al d e
  · rw [hx] at hl'; cases hl'
  · exact Ev.name (c := c.in) (Cx.in_ok F.ok) ⟨hk, .inr ⟨.inl hc, ca, by show cl.lookup x = _; rw [hl]; exact hc', hw, o, T.grow.keep _ _ ho hw, hd'⟩⟩ (hv.grow (c.av_sub false) T.grow.keep).in hd
/-- the item of a comprehension -/
theorem turnItem (k : c.Ok) {h : Heap} {y : Str} {d : D} {scope : Scope} {cl : List (Str × Addr)} {C : Addr} {v : Value} {h' : Heap} {p : Pos} (T : Turn c h y C v h') (hv : Atm d v) (hc : (compEnvC scope cl C env).kindOf y = some .local := by rfl) (hk : scope.kind = .function := by rfl) (hd : (y == ("__debug__" : Str)) = false := by decide) :
    Ev c.in false (compEnvC scope cl C env) h' (.Name y p) d := by
  obtain ⟨m, hm, hmx⟩ := T.ns
  exact Ev.name (c := c.in) (Cx.in_ok k) ⟨hk, .inl ⟨hc, m, hm, hmx⟩⟩ hv.vr hd
theorem filter_all {α : Type} (l : List α) : (l.filter fun _ => true) = l := List.filter_eq_self.mpr fun _ _ => rfl

theorem gl_of {c : Cx} {env : Env} {h : Heap} {n : Str} {v : Value} (x : Fixed c g₀ h) (N : Names g₀ mg mb) (e : mg n = none ∧ mb n = some v) (hk : env.scope.kind = .function := by rfl) (hx : env.kindOf n = some .globalImplicit := by rfl) (hg : env.globals = mainGlobals := by rfl) (hb : env.builtins = builtinsNs := by rfl) (hd : (n == ("__debug__" : Str)) = false := by decide) : Gl c env h n v := gl_builtin x N.g N.b e.1 e.2 hk hx hg hb hd
end
theorem fnOf_in {K : Frag} {h : Heap} {k : Addr} {f : FuncData} (X : K.In h) (e : fnOf K k = some f) : ∃ o, h.get? k = some o ∧ o.data = .func f := by
  unfold fnOf at e
  split at e
  · rename_i o ho
    split at e
    · rename_i g hg
      cases e
      exact ⟨o, X _ _ ho, hg⟩
    · cases e
  · cases e

/-- the end of a law: True comes back, the old things stand, generators may have been made -/
structure LawEnd (c : ClaimW) (args : List WData) (s₁ : Shared) (res : Result) (s' : Shared) : Prop where
  ret : ∃ b, res = .ok (.ret (.bool b)) ∧ c.post args (.bool b) args = true
  calm : ∀ cls, c.raises args cls = false
  keep : ∀ b o, s₁.heap.get? b = some o → s'.heap.get? b = some o
  os : s'.os = s₁.os
  bare : AllBare s'.gens

theorem law_post {M : Model} {A : Around} {cd : Code} {s s₁ : Shared} {cw : ClaimW} {cl : Str → Option Addr} {mean : ExcName → Option Value} {args : List WData} {tabs : List (Addr × Addr)} (hT : TabsAt tabs s₁.heap)
    (h : codeAny M A cd (fun r s' => LawEnd cw args { s₁ with heap := ghostOf s₁.heap tabs } r s' ∧ GrownAll tabs s'.heap) s) : codeAny M A cd (GoodWG cw cl mean args s₁) s := by
  refine codeAny_mono h fun r s' hr => ?_
  obtain ⟨⟨⟨b, rfl, hp⟩, hc, hk, hos, hb⟩, hg⟩ := hr
  have two : ∀ x o, s₁.heap.get? x = some o → s'.heap.get? x = some o ∨ ∃ q ∈ tabs, q.2 = x ∧ o = tabObj #[] ∧ ∃ ps, s'.heap.get? x = some (tabObj ps) := fun x o e => by
    by_cases q : x ∈ tabs.map (·.2)
    · obtain ⟨t, ht, rfl⟩ := List.mem_map.mp q
      have e1 := (hT t ht).2
      rw [e] at e1
      exact .inr ⟨t, ht, rfl, Option.some.inj e1, hg.get t ht⟩
    · exact .inl (hk x o (ghost_ne e q))
  refine ⟨.inl ⟨_, .bool b, [], rfl, hc, .bool b, hp, fun _ => ⟨.nil, nofun⟩⟩, ⟨fun x o e => ?_, fun x o e => ?_⟩, hos, hb⟩
  · rcases two x o e with z | ⟨t, ht, rfl, rfl, ps, z⟩
    · exact .inl z
    · refine .inr (.inl ⟨((hT t ht).1.tab (hT t ht).2).isCodeTable, rfl, #[], ps, rfl, ?_⟩)
      rw [z]; simp
  · rcases two x o e with z | ⟨t, ht, rfl, rfl, ps, z⟩
    · exact ⟨o, z⟩
    · exact ⟨_, z⟩

theorem well_list {P : Params} {h : Heap} {la : Addr} {xs : List WData} {vs : List Value} (x : Well P h (.ref la) (.list xs)) (y : h.IsList la vs.toArray) : h.get? la = some { cls := .type "list", data := .seq vs.toArray } := by
  cases x with
  | list e _ =>
    obtain ⟨o, ho, hc, n, hd⟩ := y
    rw [e] at ho
    cases ho
    injection hd with h1 h2
    rw [e, h1]

end Mine

namespace Mine
inductive RunsN : List Nat → CS → CS → Prop
  | nil {s : CS} : RunsN [] s s
  | cons {ch : Nat} {r : List Nat} {s s' s'' : CS} : StepN (r.head?.map fun c => ⟨#[c]⟩) s ⟨#[ch]⟩ s' → RunsN r s' s'' → RunsN (ch :: r) s s''
theorem RunsN.states {l : List Nat} {s s' : CS} (R : RunsN l s s') : ∃ cs : Nat → CS, cs 0 = s ∧ cs l.length = s' ∧ ∀ (i ch : Nat), l[i]? = some ch → StepN ((l[i + 1]?).map fun c => ⟨#[c]⟩) (cs i) ⟨#[ch]⟩ (cs (i + 1)) := by
  induction R with
  | @nil s => exact ⟨fun _ => s, rfl, rfl, fun i ch h => by simp at h⟩
  | @cons ch r s s' s'' h R ih =>
    obtain ⟨cs, h0, h1, h2⟩ := ih
    refine ⟨fun i => match i with | 0 => s | i + 1 => cs i, rfl, h1, fun i c hc => ?_⟩
    cases i with
    | zero =>
      simp only [List.getElem?_cons_zero, Option.some.injEq] at hc
      subst hc
      show StepN _ s _ (cs 0)
      rw [h0, show (ch :: r)[0 + 1]? = r.head? by cases r <;> rfl]
      exact h
    | succ i => exact h2 i c (by simpa using hc)

/-- the names of the law, as numbers -/
def names1 : List (List Nat) := [[97], [98], [99], [100], [114, 48], [114, 49], [114, 50], [114, 51], [114, 52], [114, 53], [114, 54]]
def toStr (x : List Nat) : Str := ⟨x.toArray⟩
theorem cl_toStr (x : List Nat) : cl (toStr x) = x := by simp [cl, toStr]
theorem s58 : Str.ofString ":" = let_ 58 := by decide +kernel
theorem ends_none : endsB none = true := rfl
theorem ends_space : endsB (some (let_ 32)) = true := by decide +kernel
theorem ends_digit : ∀ d ∈ [48, 49, 50, 51, 52, 53, 54], endsB (some (let_ d)) = false := by decide +kernel
theorem one_facts : ∀ a ∈ [97, 98, 99, 100], Txt.contains (Str.ofString ":=") (let_ a) = false ∧ (reprText (Str.ofString "" ++ let_ a)).length ≤ 65536 ∧ Str.ofString "" ++ let_ a = toStr [a] := by decide +kernel
theorem two_facts : Txt.contains (Str.ofString ":=") (let_ 114) = false ∧ ∀ d ∈ [48, 49, 50, 51, 52, 53, 54], (reprText (Str.ofString "" ++ let_ 114 ++ let_ d)).length ≤ 65536 ∧ Str.ofString "" ++ let_ 114 ++ let_ d = toStr [114, d] := by decide +kernel
theorem names1_shape : ∀ x ∈ names1, (∃ a ∈ [97, 98, 99, 100], x = [a]) ∨ ∃ d ∈ [48, 49, 50, 51, 52, 53, 54], x = [114, d] := by
  intro x hx
  simp only [names1, List.mem_cons, List.not_mem_nil, or_false] at hx
  rcases hx with rfl | rfl | rfl | rfl | rfl | rfl | rfl | rfl | rfl | rfl | rfl
  · exact .inl ⟨97, by simp, rfl⟩
  · exact .inl ⟨98, by simp, rfl⟩
  · exact .inl ⟨99, by simp, rfl⟩
  · exact .inl ⟨100, by simp, rfl⟩
  · exact .inr ⟨48, by simp, rfl⟩
  · exact .inr ⟨49, by simp, rfl⟩
  · exact .inr ⟨50, by simp, rfl⟩
  · exact .inr ⟨51, by simp, rfl⟩
  · exact .inr ⟨52, by simp, rfl⟩
  · exact .inr ⟨53, by simp, rfl⟩
  · exact .inr ⟨54, by simp, rfl⟩

def lastOf1 (x : List Nat) : Option Str := x.getLast?.map let_
theorem runsN_piece {x : List Nat} (hx : x ∈ names1) {ph out : List Str} {pv : Option Str} {rest : List Nat} {s : CS} (hpv : (pv != some (Str.ofString ":")) = true) (hr : endsB (rest.head?.map fun c => ⟨#[c]⟩) = true) (hph : ph.length < 60) (hout : out.length ≤ 65536)
    (R : RunsN rest ⟨0, tellPh ph (toStr x), out ++ [told (tellNo ph (toStr x))], lastOf1 x⟩ s) : RunsN (58 :: x ++ rest) ⟨0, ph, out, pv⟩ s := by
  rcases names1_shape x hx with ⟨a, ha, rfl⟩ | ⟨d, hd, rfl⟩
  · obtain ⟨f1, f2, f3⟩ := one_facts a ha
    have k1 : StepN (some (let_ a)) ⟨0, ph, out, pv⟩ (let_ 58) ⟨4, ph ++ [Str.ofString ""], out, some (let_ 58)⟩ := by
      have := StepN.opens (nx := some (let_ a)) (ph := ph) (out := out) (pv := pv) rfl f1 hpv (by omega)
      rwa [s58] at this
    have k2 : StepN (rest.head?.map fun c => ⟨#[c]⟩) ⟨4, ph ++ [Str.ofString ""], out, some (let_ 58)⟩ (let_ a) ⟨0, tellPh ph (toStr [a]), out ++ [told (tellNo ph (toStr [a]))], some (let_ a)⟩ := by
      have := StepN.closes (nx := rest.head?.map fun c => ⟨#[c]⟩) (ph := ph) (y := Str.ofString "") (out := out) (pv := some (let_ 58)) (ch := let_ a) hr hph hout (by show 0 + 1 ≤ 65536; omega) f2
      rwa [f3] at this
    exact .cons k1 (.cons k2 R)
  · obtain ⟨f1, f2⟩ := two_facts
    obtain ⟨f3, f4⟩ := f2 d hd
    have k1 : StepN (some (let_ 114)) ⟨0, ph, out, pv⟩ (let_ 58) ⟨4, ph ++ [Str.ofString ""], out, some (let_ 58)⟩ := by
      have := StepN.opens (nx := some (let_ 114)) (ph := ph) (out := out) (pv := pv) rfl f1 hpv (by omega)
      rwa [s58] at this
    have k2 : StepN (some (let_ d)) ⟨4, ph ++ [Str.ofString ""], out, some (let_ 58)⟩ (let_ 114) ⟨4, ph ++ [Str.ofString "" ++ let_ 114], out, some (let_ 114)⟩ :=
      StepN.letter (ends_digit d hd) (by show 0 + 1 ≤ 65536; omega)
    have e1 : (Str.ofString "" ++ let_ 114).length = 1 := by decide +kernel
    have k3 : StepN (rest.head?.map fun c => ⟨#[c]⟩) ⟨4, ph ++ [Str.ofString "" ++ let_ 114], out, some (let_ 114)⟩ (let_ d) ⟨0, tellPh ph (toStr [114, d]), out ++ [told (tellNo ph (toStr [114, d]))], some (let_ d)⟩ := by
      have := StepN.closes (nx := rest.head?.map fun c => ⟨#[c]⟩) (ph := ph) (y := Str.ofString "" ++ let_ 114) (out := out) (pv := some (let_ 114)) (ch := let_ d) hr hph hout (by rw [e1]; show 1 + 1 ≤ 65536; omega) f3
      rwa [f4] at this
    exact .cons k1 (.cons k2 (.cons k3 R))

theorem runsN_names : ∀ (hs : List (List Nat)) (ph out : List Str) (pv : Option Str), hs ≠ [] → (∀ a ∈ hs, a ∈ names1) → (pv != some (Str.ofString ":")) = true → ph.length + hs.length < 60 → out.length + 2 * hs.length ≤ 60000 →
    ∃ pv', RunsN (jn [32] (hs.map fun x => 58 :: x)) ⟨0, ph, out, pv⟩ ⟨0, phs ph (hs.map toStr), out ++ inter ((tells ph (hs.map toStr)).map told), pv'⟩
  | [], _, _, _, h, _, _, _, _ => absurd rfl h
  | [a], ph, out, pv, _, hl, hp, h1, h2 => by
    have := runsN_piece (rest := []) (hl a List.mem_cons_self) hp (by decide) (ph := ph) (out := out) (by simp at h1; omega) (by simp at h2; omega) .nil
    exact ⟨lastOf1 a, by simpa [jn, phs, tells, inter] using this⟩
  | a :: b :: r, ph, out, pv, _, hl, hp, h1, h2 => by
    have hlen := tellPh_length ph (toStr a)
    obtain ⟨pv', ih⟩ := runsN_names (b :: r) (tellPh ph (toStr a)) (out ++ [told (tellNo ph (toStr a))] ++ [let_ 32]) (some (let_ 32)) (by simp) (fun c hc => hl c (List.mem_cons_of_mem _ hc)) (by decide +kernel) (by simp at h1 ⊢; omega) (by simp at h2 ⊢; omega)
    have k : ∀ nx pv'', StepN nx ⟨0, tellPh ph (toStr a), out ++ [told (tellNo ph (toStr a))], pv''⟩ (let_ 32) ⟨0, tellPh ph (toStr a), out ++ [told (tellNo ph (toStr a))] ++ [let_ 32], some (let_ 32)⟩ := fun nx pv'' =>
      StepN.plain (by decide +kernel) (by decide +kernel) (by decide +kernel) (by decide +kernel) (by decide +kernel) (by simp at h2 ⊢; omega)
    have R := runsN_piece (rest := 32 :: jn [32] ((b :: r).map fun x => 58 :: x)) (hl a List.mem_cons_self) hp ends_space (ph := ph) (out := out) (by simp at h1; omega) (by simp at h2; omega) (.cons (k _ _) ih)
    have e1 : jn [32] ((a :: b :: r).map fun x => 58 :: x) = 58 :: a ++ 32 :: jn [32] ((b :: r).map fun x => 58 :: x) := by
      show 58 :: a ++ [32] ++ jn [32] ((b :: r).map fun x => 58 :: x) = _
      simp
    have e2 : out ++ inter ((tells ph ((a :: b :: r).map toStr)).map told) = out ++ [told (tellNo ph (toStr a))] ++ [let_ 32] ++ inter ((tells (tellPh ph (toStr a)) ((b :: r).map toStr)).map told) := by
      simp [tells, inter, s32]
    rw [e1, e2]
    exact ⟨pv', R⟩

def queryN (ns : List Str) : Str := Txt.join (Str.ofString " ") (ns.map fun x => Str.ofString ":" ++ x)
theorem cl_queryN (hs : List (List Nat)) : cl (queryN (hs.map toStr)) = jn [32] (hs.map fun x => 58 :: x) := by
  unfold queryN
  rw [cl_join, s32, List.map_map, List.map_map, s58]
  refine congrArg (jn [32]) (List.map_congr_left fun x _ => ?_)
  show cl (let_ 58 ++ toStr x) = _
  rw [cl_append, cl_toStr]; rfl
theorem names1_small : ∀ x ∈ names1, x.length ≤ 2 ∧ ∀ c ∈ x, c < 128 := by decide
theorem queryN_small {hs : List (List Nat)} (hl : ∀ a ∈ hs, a ∈ names1) : (queryN (hs.map toStr)).length ≤ hs.length * 4 ∧ (queryN (hs.map toStr)).cps.all (· < 128) = true := by
  have e := cl_queryN hs
  constructor
  · have := jn_length (y := [32]) (n := 3) (l := hs.map fun x => 58 :: x) (by
      intro x hx
      obtain ⟨a, ha, rfl⟩ := List.mem_map.mp hx
      have := (names1_small a (hl a ha)).1
      simp; omega)
    rw [← e] at this
    simpa [cl, Str.length] using this
  · have : ∀ c ∈ cl (queryN (hs.map toStr)), c < 128 := by
      rw [e]
      refine jn_all (by simp) fun x hx c hc => ?_
      obtain ⟨a, ha, rfl⟩ := List.mem_map.mp hx
      rcases List.mem_cons.mp hc with rfl | hc
      · omega
      · exact (names1_small a (hl a ha)).2 c hc
    rw [Array.all_eq_true_iff_forall_mem]
    intro c hc
    simpa using this c (by simpa [cl] using hc)

/-- the reading of a query of the law -/
theorem conv_statesN {hs : List (List Nat)} (h0 : hs ≠ []) (hl : ∀ a ∈ hs, a ∈ names1) (hn : hs.length ≤ 20) : ∃ cs : Nat → CS, cs 0 = ⟨0, [], [], none⟩ ∧ (∀ (i ch : Nat), (queryN (hs.map toStr)).cps[i]? = some ch → StepN (nextOf (queryN (hs.map toStr)) i) (cs i) ⟨#[ch]⟩ (cs (i + 1))) ∧
    (cs (queryN (hs.map toStr)).cps.size).ph = phs [] (hs.map toStr) ∧ (cs (queryN (hs.map toStr)).cps.size).out = inter ((tells [] (hs.map toStr)).map told) := by
  obtain ⟨pv', R⟩ := runsN_names hs [] [] none h0 hl (by decide +kernel) (by simp; omega) (by simp; omega)
  obtain ⟨cs, h1, h2, h3⟩ := R.states
  rw [← cl_queryN] at h2 h3
  have e : (cl (queryN (hs.map toStr))).length = (queryN (hs.map toStr)).cps.size := by simp [cl]
  rw [e] at h2
  refine ⟨cs, h1, fun i ch hc => ?_, by rw [h2], by rw [h2]; simp⟩
  have := h3 i ch (by simpa [cl] using hc)
  unfold nextOf
  simpa [cl] using this
end Mine

namespace Mine
def zs (l : List Nat) : List Int := l.map Int.ofNat
def maxN : List Nat → Nat
  | [] => 0
  | x :: r => max x (maxN r)
def minN : List Nat → Nat
  | [] => 0
  | [x] => x
  | x :: y :: r => min x (minN (y :: r))
theorem maxN_le : ∀ {l : List Nat}, ∀ x ∈ l, x ≤ maxN l
  | y :: r, x, h => by
    rcases List.mem_cons.mp h with rfl | h
    · exact Nat.le_max_left _ _
    · exact Nat.le_trans (maxN_le x h) (Nat.le_max_right _ _)
theorem maxN_mem : ∀ {l : List Nat}, l ≠ [] → maxN l ∈ l
  | [x], _ => by simp [maxN]
  | x :: y :: r, _ => by
    have ih := maxN_mem (l := y :: r) (by simp)
    show max x (maxN (y :: r)) ∈ x :: y :: r
    by_cases h : x ≤ maxN (y :: r)
    · rw [Nat.max_eq_right h]; exact List.mem_cons_of_mem _ ih
    · rw [Nat.max_eq_left (by omega)]; exact List.mem_cons_self
theorem minN_le : ∀ {l : List Nat}, ∀ x ∈ l, minN l ≤ x
  | [y], x, h => by simp at h; simp [minN, h]
  | y :: z :: r, x, h => by
    show min y (minN (z :: r)) ≤ x
    rcases List.mem_cons.mp h with rfl | h
    · exact Nat.min_le_left _ _
    · exact Nat.le_trans (Nat.min_le_right _ _) (minN_le x h)
theorem minN_mem : ∀ {l : List Nat}, l ≠ [] → minN l ∈ l
  | [x], _ => by simp [minN]
  | x :: y :: r, _ => by
    have ih := minN_mem (l := y :: r) (by simp)
    show min x (minN (y :: r)) ∈ x :: y :: r
    by_cases h : x ≤ minN (y :: r)
    · rw [Nat.min_eq_left h]; exact List.mem_cons_self
    · rw [Nat.min_eq_right (by omega)]; exact List.mem_cons_of_mem _ ih
theorem zs_mem {l : List Nat} {z : Int} (h : z ∈ zs l) : ∃ x ∈ l, z = ((x : Nat) : Int) := by
  obtain ⟨x, hx, rfl⟩ := List.mem_map.mp h
  exact ⟨x, hx, rfl⟩
theorem zs_filter (l : List Nat) (p : Int → Bool) : (zs l).filter p = zs (l.filter fun (x : Nat) => p (x : Int)) := by
  unfold zs
  rw [List.filter_map]; rfl
theorem zs_nil {l : List Nat} : zs l = [] ↔ l = [] := by simp [zs]

/-- the row's complement, by an equality of places -/
def alikeN (e : Nat → Nat → Bool) (n p : Nat) : List Nat := (List.range n).filter fun k => e k p
def lowN (e : Nat → Nat → Bool) (n p : Nat) : List Nat := (alikeN e n p).filter fun k => decide (((k : Nat) : Int) < ((p : Nat) : Int))
def backN (e : Nat → Nat → Bool) (n p : Nat) : Nat := maxN (if lowN e n p = [] then alikeN e n p else lowN e n p)
def itN (e : Nat → Nat → Bool) (n p : Nat) : Nat → Nat
  | 0 => p
  | k + 1 => backN e n ((itN e n p k + 1) % n)
def ringN (e : Nat → Nat → Bool) (n p k : Nat) : List Nat := (List.range (k + 1)).map (itN e n p)
def ringMin (e : Nat → Nat → Bool) (n p : Nat) : Nat := minN (ringN e n p n)

theorem alike_ne {e : Nat → Nat → Bool} {n p : Nat} (hp : p < n) (he : e p p = true) : alikeN e n p ≠ [] := fun q => by
  have : p ∈ alikeN e n p := List.mem_filter.mpr ⟨List.mem_range.mpr hp, he⟩
  rw [q] at this; cases this
theorem back_mem {e : Nat → Nat → Bool} {n p : Nat} (hp : p < n) (he : e p p = true) : backN e n p ∈ (if lowN e n p = [] then alikeN e n p else lowN e n p) := by
  refine maxN_mem ?_
  split
  · exact alike_ne hp he
  · assumption
theorem back_lt {e : Nat → Nat → Bool} {n p : Nat} (hp : p < n) (he : e p p = true) : backN e n p < n := by
  have h := back_mem hp he
  have h2 : backN e n p ∈ alikeN e n p := by
    split at h
    · exact h
    · exact (List.mem_filter.mp h).1
  exact List.mem_range.mp (List.mem_filter.mp h2).1
theorem it_lt {e : Nat → Nat → Bool} {n p : Nat} (hp : p < n) (he : ∀ k, k < n → e k k = true) : ∀ k, itN e n p k < n
  | 0 => hp
  | k + 1 => by
    have : (itN e n p k + 1) % n < n := Nat.mod_lt _ (by omega)
    exact back_lt this (he _ this)
theorem ringN_length (e : Nat → Nat → Bool) (n p k : Nat) : (ringN e n p k).length = k + 1 := by simp [ringN]
theorem ringMin_lt {e : Nat → Nat → Bool} {n p : Nat} (hp : p < n) (he : ∀ k, k < n → e k k = true) : ringMin e n p < n := by
  have h := minN_mem (l := ringN e n p n) (by simp [ringN])
  obtain ⟨k, _, hk⟩ := List.mem_map.mp h
  show minN (ringN e n p n) < n
  rw [← hk]
  exact it_lt hp he k
def eqAt (ns : List Str) (k p : Nat) : Bool := at_ ns k == at_ ns p
theorem eqAt_refl (ns : List Str) (k : Nat) : eqAt ns k k = true := by simp [eqAt]
/-- the names of the complement -/
def besideL (ns : List Str) : List (List Nat) := (List.range ns.length).map fun p => [114, 48 + ringMin (eqAt ns) ns.length p]
theorem ring_name : ∀ m < 7, Str.ofString "r" ++ Str.ofString (toString ((m : Nat) : Int)) = toStr [114, 48 + m] ∧ [114, 48 + m] ∈ names1 := by decide +kernel
end Mine

namespace Mine
def toldFdS : PSigma fun f : FuncData => ∀ P, fnOf (Mine.hd.heap_39 P) 119 = some f := ⟨_, fun P => by conv => lhs; whnf⟩
def toldFd : FuncData := toldFdS.1
def toldBodyS : PSigma fun f : List Stmt => bodyOf toldFd = f := ⟨_, by conv => lhs; whnf⟩
def toldBody : List Stmt := toldBodyS.1
abbrev tEnv (L a : Addr) : Env := callEnvC toldFd L a
def compFdS : PSigma fun f : FuncData => ∀ P, fnOf (Mine.hd.heap_39 P) 124 = some f := ⟨_, fun P => by conv => lhs; whnf⟩
def compFd : FuncData := compFdS.1
def compBodyS : PSigma fun f : List Stmt => bodyOf compFd = f := ⟨_, by conv => lhs; whnf⟩
def compBody : List Stmt := compBodyS.1
abbrev pEnv (L a : Addr) : Env := callEnvC compFd L a
def lawFdS : PSigma fun f : FuncData => ∀ P, fnOf (Mine.hd.heap_39 P) 129 = some f := ⟨_, fun P => by conv => lhs; whnf⟩
def lawFd : FuncData := lawFdS.1
def lawBodyS : PSigma fun f : List Stmt => bodyOf lawFd = f := ⟨_, by conv => lhs; whnf⟩
def lawBody : List Stmt := lawBodyS.1
abbrev lEnv (cd : Value) (L a : Addr) : Env := { callEnvC lawFd L a with code := cd }
def restL : List Int := [3, 0, 1, 1, 0, 2, 3, 2]

/-- the ground as the law needs it -/
structure LawG (g₀ : Heap) (mg mb : Str → Option Value) : Prop where
  conv : ConvG g₀ mg mb
  range : mg "range" = none ∧ mb "range" = some (.type "range")
  max : mg "max" = none ∧ mb "max" = some (.builtin "max")
  min : mg "min" = none ∧ mb "min" = some (.builtin "min")
  list : mg "list" = none ∧ mb "list" = some (.type "list")
  cv : mg "convert_paramstyle" = some (.ref 113)
  told : mg "_law_told" = some (.ref 119)
  comp : mg "_law_complement" = some (.ref 124)
  fnT : ∃ o, g₀.get? 119 = some o ∧ o.data = .func toldFd
  recT : g₀.CodeRec toldFd.code toldFd.qualname
  fnP : ∃ o, g₀.get? 124 = some o ∧ o.data = .func compFd
  recP : g₀.CodeRec compFd.code compFd.qualname
  rest : ∃ ra vs, mg "_law_rest" = some (.ref ra) ∧ IsTup g₀ ra (List.toArray vs) ∧ IntsAre vs restL

def stmtOf (ns : List Str) : Str := Txt.join (Str.ofString "") (inter ((tells [] ns).map told))

section
variable {c : Cx} {L a : Addr} {g₀ h : Heap} {mg mb : Str → Option Value} {e₀ r s : Shared} {Wc : List Addr} {σ : Tab} {ow : Owned} {E : Value → Shared → Prop} {Q : Flow → Shared → Prop}

/-- a call of conv in named, as an expression -/
theorem Ev.convN {c : Cx} {env : Env} {h : Heap} {q : Str} (k : c.Ok) (hR : c.R = GrowR c.W) (hgen : c.gen) (hh : c.A.handled = none) (hdep : c.A.depth ≤ 540) (huni : c.A.units ≤ 170) (Fx : Fixed c g₀ h) (LG : LawG g₀ mg mb) (ht : 108 ∈ c.tabs) {outer : List Env} (hA₀ : c.A.frames = some outer)
    (hf : ∀ e ∈ outer, e.scope.kind ≠ .module ∧ ∃ L' ∈ c.W, L' ∉ c.tabs ∧ e.frame = some L')
    (isl : ∀ (c' : Cx) L a, c'.prog = c.prog → c'.w = c.w → c'.A = c.A.deeper (cEnv L a) → Island c' (cEnv L a) g₀ countCall)
    (hq : q.length < 2 ^ 40) (hasc : q.cps.all (· < 128) = true) (cs : Nat → CS) (h0 : cs 0 = ⟨0, [], [], none⟩) (hcs : ∀ i ch, q.cps[i]? = some ch → StepN (nextOf q i) (cs i) ⟨#[ch]⟩ (cs (i + 1)))
    {ns : List Str} (hns : ∀ p ∈ (cs q.cps.size).ph, p ∈ ns) (hph : (cs q.cps.size).ph.length ≤ 60) (hout : ((cs q.cps.size).out.map (·.length)).sum ≤ 65536)
    {p pos : Pos} {e₁ e₂ e₃ : Expr} (h1 : Ev c true env h e₁ (.str (Str.ofString "named"))) (h2 : Ev c true env h e₂ (.str q)) (h3 : Ev c true env h e₃ (.idict ns))
    (hk : env.scope.kind = .function := by rfl) (hx : env.kindOf "convert_paramstyle" = some .globalImplicit := by rfl) (hg : env.globals = mainGlobals := by rfl)
    (he : starEach [e₁, e₂, e₃] env = (false, eval e₁ env) :: starEach [e₂, e₃] env := by rfl) (he' : starEach [e₂, e₃] env = (false, eval e₂ env) :: starEach [e₃] env := by rfl) (he'' : starEach [e₃] env = [(false, eval e₃ env)] := by rfl)
    (hcall : eval (.Call (.Name "convert_paramstyle" p) [e₁, e₂, e₃] [] pos) env = (do callWith pos (← eval (.Name "convert_paramstyle" p) env) [] (backTo pos (starEach [e₁, e₂, e₃] env)) (backToKw pos (keywordEach [] env))) := by rfl) :
    Ev c true env h (.Call (.Name "convert_paramstyle" p) [e₁, e₂, e₃] [] pos) (.pair (.str (Txt.join (Str.ofString "") (cs q.cps.size).out)) (.tstrs (cs q.cps.size).ph)) := fun s Q E a qq => by
  obtain ⟨o, ho, hd⟩ := LG.conv.fn
  refine Call_ (gl_global Fx LG.conv.names.g LG.cv hk hx hg (by decide) p s _ E a (callWith_def hd (wpAny_items_cons (h1.mono a fun v₁ s₁ r₁ x₁ => wpAny_items_cons (h2.mono (a.next k r₁) fun v₂ s₂ r₂ x₂ => wpAny_items_cons (h3.mono ((a.next k r₁).next k r₂) fun v₃ s₃ r₃ x₃ => wpAny_items_nil ⟨?_, ?_⟩) he'') he') he) he)) hcall
  · have Fx₃ := (((Fx.grow a.grow).grow (k.grow r₁)).grow (k.grow r₂)).grow (k.grow r₃)
    exact Fx₃.stays _ _ ho
  · exact call_convN k hR hgen hh hdep huni (((a.next k r₁).next k r₂).next k r₃) Fx LG.conv ht hA₀ hf isl hq hasc cs h0 hcs hns hph hout ((x₁.step k r₂).step k r₃) (x₂.step k r₃) x₃ fun v s' r' x' => qq v s' (k.trans (k.trans (k.trans r₁ r₂) r₃) r') x'

theorem piece1_sum : ∀ {hs : List (List Nat)}, (∀ a ∈ hs, a ∈ names1) → (((hs.map toStr).map fun x => Str.ofString ":" ++ x).map (·.length)).sum ≤ hs.length * 3
  | [], _ => by simp
  | a :: r, h => by
    have ih := piece1_sum (hs := r) fun x hx => h x (List.mem_cons_of_mem _ hx)
    have e : (Str.ofString ":" ++ toStr a).length ≤ 3 := by
      have e1 : (cl (Str.ofString ":" ++ toStr a)).length = (Str.ofString ":" ++ toStr a).length := by simp [cl, Str.length]
      rw [← e1, cl_append, cl_toStr, s58]
      have := (names1_small a (h a List.mem_cons_self)).1
      simp [cl, let_]; omega
    simp only [List.map_cons, List.sum_cons, List.length_cons] at ih ⊢
    omega

/-- what is told of a row of names -/
theorem toldWalk (F : Fn c (tEnv L a) e₀ Wc) (hgen : c.gen) (hh : c.A.handled = none) (hdep : c.A.depth ≤ 540) (huni : c.A.units ≤ 170) (G : ∀ b o, g₀.get? b = some o → e₀.heap.get? b = some o ∧ b ∉ Wc) (LG : LawG g₀ mg mb) (ht : 108 ∈ c.tabs) {outer : List Env} (hA₀ : c.A.frames = some outer)
    (hf : ∀ e ∈ outer, e.scope.kind ≠ .module ∧ ∃ L' ∈ c.W, L' ∉ c.tabs ∧ e.frame = some L')
    (isl : ∀ (c' : Cx) L a, c'.prog = c.prog → c'.w = c.w → c'.A = c.A.deeper (cEnv L a) → Island c' (cEnv L a) g₀ countCall)
    {hs : List (List Nat)} (h0 : hs ≠ []) (hl : ∀ a ∈ hs, a ∈ names1) (hn : hs.length ≤ 20)
    (X : Run c (tEnv L a) e₀ r Wc [("names", .strs (hs.map toStr))] [] s)
    (k : ∀ v s', Run c (tEnv L a) e₀ r Wc [("names", .strs (hs.map toStr))] [] s' → VR c (c.av true) s'.heap (.pair (.str (stmtOf (hs.map toStr))) (.tstrs (phs [] (hs.map toStr)))) v → Q (.ret v) s') : wpAny (model c.prog c.w) c.A (execs toldBody (tEnv L a)) Q E s := by
  have kk := F.ok
  have hs1 := sizeLine_eq
  obtain ⟨cs, hc0, hcs, hcp, hco⟩ := conv_statesN h0 hl hn
  obtain ⟨hq1, hq2⟩ := queryN_small hl
  have hsm := tells_small (hs.map toStr) []
  have hout := inter_sum (tells [] (hs.map toStr)) fun n hn' => by
    have := hsm n hn'
    simp at this; omega
  rw [tells_length] at hout
  simp only [List.length_map] at hout
  have nN : ∀ p, Ev c true (tEnv L a) s.heap (.Name "names" p) (.strs (hs.map toStr)) := fun p => X.name F rfl
  unfold toldBody
  refine re_ F X (b := true) (d := .pair (.str (stmtOf (hs.map toStr))) (.tstrs (phs [] (hs.map toStr)))) ?_ fun v s' X' hv => k v s' X' hv
  unfold stmtOf
  rw [← hco, ← hcp]
  refine Ev.convN (ns := hs.map toStr) kk F.rel hgen hh hdep huni (Run.fixed F G X) LG ht hA₀ hf isl (q := queryN (hs.map toStr)) (by omega) hq2 cs hc0 hcs ?_ ?_ ?_ (Ev.cStr kk) ?_ (Ev.dictSame kk (cl := []) ⟨rfl, by decide, rfl, by decide, rfl⟩ (by decide) (Src.list kk hh kStr (nN _)) (by simp; omega) fun C => ⟨rfl, rfl, rfl⟩)
  · rw [hcp]
    intro p hp
    have := mem_phs.mp hp
    simpa using this
  · rw [hcp]
    have := phs_length (hs.map toStr) []
    simp at this; omega
  · rw [hco]; omega
  · refine Ev.of (d := .str (Txt.join (Str.ofString " ") (((hs.map toStr).filter fun _ => true).map fun x => Str.ofString ":" ++ x))) (by rw [filter_all]; rfl) (Ev.join kk (Ev.cStr kk) (Ev.comp kk kStr kStr (fun _ => true) (fun x => Str.ofString ":" ++ x) (cl := []) ⟨rfl, by decide, rfl, by decide, rfl⟩ (Src.list kk hh kStr (nN _)) (by simp; omega) (fun C h' v y hy hv T => rfl) fun C h' v y hy hv _ T => ?_) ⟨_, rfl⟩ ?_)
    · have ki := Cx.in_ok kk
      obtain ⟨z, hz, rfl⟩ := List.mem_map.mp hy
      have e1 : (Str.ofString ":").length = 1 := by decide +kernel
      have e2 : (toStr z).length = z.length := by simp [toStr, Str.length]
      have := (names1_small z (hl z hz)).1
      exact Ev.addStr ki (by omega) (Ev.cStr ki) (turnItem kk T hv)
    · rw [filter_all]
      have e1 : (Str.ofString " ").length = 1 := by decide +kernel
      have := piece1_sum hl
      rw [e1]
      simp only [List.length_map] at this ⊢
      omega
end
end Mine

namespace Mine
section
variable {c : Cx} {L a : Addr} {g₀ h : Heap} {mg mb : Str → Option Value} {env : Env}

/-- a call of _law_told, as an expression -/
theorem Ev.told (k : c.Ok) (hR : c.R = GrowR c.W) (hgen : c.gen) (hh : c.A.handled = none) (hdep : c.A.depth ≤ 530) (huni : c.A.units ≤ 160) (Fx : Fixed c g₀ h) (LG : LawG g₀ mg mb) (ht : 108 ∈ c.tabs) {outer : List Env} (hA₀ : c.A.frames = some outer)
    (hf : ∀ e ∈ outer, e.scope.kind ≠ .module ∧ ∃ L' ∈ c.W, L' ∉ c.tabs ∧ e.frame = some L')
    (isl : ∀ (c' : Cx) (eT : Env) L a, c'.prog = c.prog → c'.w = c.w → c'.A = (c.A.deeper eT).deeper (cEnv L a) → Island c' (cEnv L a) g₀ countCall)
    {hs : List (List Nat)} (h0 : hs ≠ []) (hl : ∀ a ∈ hs, a ∈ names1) (hn : hs.length ≤ 20) {p pos : Pos} {e : Expr} (h1 : Ev c true env h e (.strs (hs.map toStr)))
    (hk : env.scope.kind = .function := by rfl) (hx : env.kindOf "_law_told" = some .globalImplicit := by rfl) (hg : env.globals = mainGlobals := by rfl) (he : starEach [e] env = [(false, eval e env)] := by rfl)
    (hcall : eval (.Call (.Name "_law_told" p) [e] [] pos) env = (do callWith pos (← eval (.Name "_law_told" p) env) [] (backTo pos (starEach [e] env)) (backToKw pos (keywordEach [] env))) := by rfl) :
    Ev c true env h (.Call (.Name "_law_told" p) [e] [] pos) (.pair (.str (stmtOf (hs.map toStr))) (.tstrs (phs [] (hs.map toStr)))) := fun s Q E a qq => by
  obtain ⟨o, ho, hd⟩ := LG.fnT
  refine Call_ (gl_global Fx LG.conv.names.g LG.told hk hx hg (by decide) p s _ E a (callWith_def hd (wpAny_items_cons (h1.mono a fun v₁ s₁ r₁ x₁ => wpAny_items_nil ⟨?_, ?_⟩) he) he)) hcall
  · exact ((Fx.grow a.grow).grow (k.grow r₁)).stays _ _ ho
  · have a₁ := a.next k r₁
    have Fx' : Fixed c g₀ s₁.heap := (Fx.grow a.grow).grow (k.grow r₁)
    have hlim' : s₁.heap.NoLimit := by obtain ⟨mc, hm, hn⟩ := LG.conv.hlim; exact ⟨mc, hm.keeps Fx'.stays, hn⟩
    have hrec : s₁.heap.CodeRec toldFd.code toldFd.qualname := by
      obtain ⟨c₁, o₁, vs₁, t₁, e1, e2, e3⟩ := LG.recT
      exact ⟨c₁, o₁, vs₁, t₁, e1, Fx'.stays _ _ e2, e3⟩
    have low := a₁.low.grow a₁.grow
    refine call_fn (σ₀ := [("names", .strs (hs.map toStr))]) (body := toldBody) (binds := [("names", v₁)]) k hR hgen (by omega) (by omega) a₁ (Fx'.stays _ _ ho) hd hlim' hrec rfl rfl rfl ?_ ?_ (fun s₂ E' F X => ?_) (fun v s' r x => qq v s' (k.trans r₁ r) x) ?_
    · intro x hx
      rw [List.mem_singleton.mp hx]; exact .inl rfl
    · intro x d e
      rw [List.lookup_cons] at e
      by_cases h1 : x = "names"
      · subst h1
        simp only [beq_self_eq_true] at e
        cases e
        exact ⟨v₁, x₁, .inl ⟨rfl, rfl⟩⟩
      · have : (x == "names") = false := by simpa using h1
        rw [this] at e
        cases e
    · refine toldWalk (c := c.call (tEnv s₁.heap.objs.size 119) s₁.heap.objs.size) (outer := tEnv s₁.heap.objs.size 119 :: outer) F trivial hh ?_ ?_ (fun b o e => Fx' b o e) LG ht (by show c.A.frames.map _ = _; rw [hA₀]; rfl) ?_ (fun c' L' a' p1 p2 p3 => isl c' _ L' a' p1 p2 p3) h0 hl hn X fun v s₃ X₃ hv => ⟨v, rfl, X₃.since, ?_⟩
      · show c.A.depth + 1 ≤ 540; omega
      · show c.A.units + 3 ≤ 170; omega
      · intro e he
        rcases List.mem_cons.mp he with rfl | he
        · refine ⟨by show toldFd.scope.kind ≠ _; decide, s₁.heap.objs.size, List.mem_cons_self, fun q => ?_, rfl⟩
          obtain ⟨o, e⟩ := low.there (k.tabs _ q)
          rw [Heap.get?_none_of_le (Nat.le_refl _)] at e; cases e
        · obtain ⟨q1, L', q2, q3, q4⟩ := hf e he
          exact ⟨q1, L', List.mem_cons_of_mem _ q2, q3, q4⟩
      · refine VR.cx (c := c.call (tEnv s₁.heap.objs.size 119) s₁.heap.objs.size) (c' := c) rfl rfl (hv.mono fun x hx => ?_)
        rcases List.mem_append.mp hx with z | z
        · exact List.mem_append_left _ (List.mem_cons_of_mem _ z)
        · exact List.mem_append_right _ (List.mem_append_right _ z)
    · intro p hp
      cases hp
end
end Mine

namespace Mine
def backForS : PSigma fun f : List Stmt => forOf compBody 1 = f := ⟨_, by conv => lhs; whnf⟩
def backFor : List Stmt := backForS.1
def ringForS : PSigma fun f : List Stmt => forOf compBody 2 = f := ⟨_, by conv => lhs; whnf⟩
def ringFor : List Stmt := ringForS.1
def stepForS : PSigma fun f : List Stmt => forOf ringFor 1 = f := ⟨_, by conv => lhs; whnf⟩
def stepFor : List Stmt := stepForS.1

section
variable {c : Cx} {L a : Addr} {g₀ h : Heap} {mg mb : Str → Option Value} {e₀ r s : Shared} {Wc : List Addr} {σ : Tab} {ow : Owned} {E : Value → Shared → Prop} {Q : Flow → Shared → Prop} {ns : List Str} {al bl rl : Addr}

abbrev pTab (ns : List Str) : Tab := [("names", .strs ns), ("many", .int ((ns.length : Nat) : Int))]
theorem own2_no {x y z : Str} {a₁ a₂ : Addr} {d₁ d₂ : D} (h1 : x ≠ z) (h2 : y ≠ z) : ∀ p ∈ ([(x, a₁, d₁), (y, a₂, d₂)] : Owned), p.1 ≠ z := fun p hp => by
  rcases List.mem_cons.mp hp with rfl | hp
  · exact h1
  · rw [List.mem_singleton.mp hp]; exact h2

/-- one place: the step back -/
theorem backStep (F : Fn c (pEnv L a) e₀ Wc) (hh : c.A.handled = none) (G : ∀ b o, g₀.get? b = some o → e₀.heap.get? b = some o ∧ b ∉ Wc) (LG : LawG g₀ mg mb) (hn : ns.length ≤ 20) (hbr : bl ≠ rl) {i : Nat} (hi : i < ns.length) {rs : List Str}
    (X : Run c (pEnv L a) e₀ r Wc (("place", .int ((i : Nat) : Int)) :: pTab ns) [("back", bl, .ints (zs ((List.range i).map (backN (eqAt ns) ns.length)))), ("rings", rl, .strs rs)] s)
    (k : ∀ s', Run c (pEnv L a) e₀ r Wc (pTab ns) [("back", bl, .ints (zs ((List.range (i + 1)).map (backN (eqAt ns) ns.length)))), ("rings", rl, .strs rs)] s' → Q .next s') : wpAny (model c.prog c.w) c.A (execs backFor (pEnv L a)) Q E s := by
  have kk := F.ok
  have hs1 := sizeLine_eq
  have hAi := at_get (a := ns) hi
  unfold backFor
  refine wpAny_execs_cons (ex_assignComp F X kInt kInt (xs := rng ns.length) (fun z => at_ ns z.toNat == at_ ns i) (fun z => z) (cl := [("place", L + 2), ("names", L + 1)]) ⟨rfl, by decide, rfl, by decide, rfl⟩ rfl (own2_no (by decide) (by decide)) (Src.range1 (n := ns.length) kk hh (gl_of (Run.fixed F G X) LG.conv.names LG.range) (X.name F (x := "many") (d := .int ((ns.length : Nat) : Int)) rfl).weak (by omega)) (by simp [rng]; omega) (fun C h' v y hy hv T => ?_) (fun C h' v y hy hv _ T => turnItem kk T hv) fun s₁ X₁ => ?_)
  · obtain ⟨j, rfl, hj⟩ := mem_rng hy
    have ki := Cx.in_ok kk
    exact Tr.cmp ki (Ev.itemStrs ki (X.inComp F T (d := .strs ns) rfl) (turnItem kk T hv) (by omega) (by omega) (at_get hj)) (Ev.itemStrs ki (X.inComp F T (d := .strs ns) rfl) (X.inComp F T (d := .int ((i : Nat) : Int)) rfl) (by omega) (by omega) hAi) (Cm.eqStr ki)
  have ea : ((rng ns.length).filter fun z => at_ ns z.toNat == at_ ns i).map (fun z => z) = zs (alikeN (eqAt ns) ns.length i) := by
    rw [List.map_id']
    show (zs (List.range ns.length)).filter _ = _
    rw [zs_filter]; rfl
  rw [ea] at X₁
  have hal : (alikeN (eqAt ns) ns.length i).length ≤ 20 := by
    have := List.length_filter_le (fun k => eqAt ns k i) (List.range ns.length)
    show (List.filter _ _).length ≤ 20
    simp at this; omega
  have nA : ∀ b' p, Ev c b' (pEnv L a) s₁.heap (.Name "alike" p) (.ints (zs (alikeN (eqAt ns) ns.length i))) := fun b' p => (X₁.name F rfl).weak
  have hbm := back_mem (e := eqAt ns) hi (eqAt_refl ns i)
  refine ap_ F (pre := []) (post := [("rings", rl, .strs rs)]) kInt (z := ((backN (eqAt ns) ns.length i : Nat) : Int)) X₁ ⟨by simpa using hbr.symm, fun p hp => ⟨Str, kStr, rs, by simp at hp; rw [hp]; rfl⟩⟩ ?_ ⟨_, rfl⟩ (by simp [zs]; omega) fun s₂ X₂ => wpAny_execs_nil (k s₂ ?_)
  · refine Ev.maxInts kk hh (ns := if zs (lowN (eqAt ns) ns.length i) = [] then zs (alikeN (eqAt ns) ns.length i) else zs (lowN (eqAt ns) ns.length i)) (gl_of (Run.fixed F G X₁) LG.conv.names LG.max) (Ev.orInts kk ?_ ?_ fun _ => Ev.one kk (nA _ _)) ?_ ?_
    · have := List.length_filter_le (fun k => decide (((k : Nat) : Int) < ((i : Nat) : Int))) (alikeN (eqAt ns) ns.length i)
      simp only [zs, List.length_map]
      show (List.filter _ _).length < _
      omega
    · refine Ev.of (d := .ints (((zs (alikeN (eqAt ns) ns.length i)).filter fun z => decide (z < ((i : Nat) : Int))).map fun z => z)) (by rw [List.map_id', zs_filter]; rfl) (Ev.comp kk kInt kInt (fun z => decide (z < ((i : Nat) : Int))) (fun z => z) (cl := [("place", L + 2)]) ⟨rfl, by decide, rfl, by decide, rfl⟩ (Src.list kk hh kInt (nA true _)) (by simp [zs]; omega) (fun C h' v y hy hv T => ?_) fun C h' v y hy hv _ T => turnItem kk T hv)
      have ki := Cx.in_ok kk
      exact Tr.cmp ki (turnItem kk T hv) (X₁.inComp F T (d := .int ((i : Nat) : Int)) rfl) (Cm.ltInt ki)
    · simp only [zs_nil]
      have e : (if lowN (eqAt ns) ns.length i = [] then zs (alikeN (eqAt ns) ns.length i) else zs (lowN (eqAt ns) ns.length i)) = zs (if lowN (eqAt ns) ns.length i = [] then alikeN (eqAt ns) ns.length i else lowN (eqAt ns) ns.length i) := by split <;> rfl
      rw [e]
      exact List.mem_map.mpr ⟨_, hbm, rfl⟩
    · intro x hx
      simp only [zs_nil] at hx
      have e : (if lowN (eqAt ns) ns.length i = [] then zs (alikeN (eqAt ns) ns.length i) else zs (lowN (eqAt ns) ns.length i)) = zs (if lowN (eqAt ns) ns.length i = [] then alikeN (eqAt ns) ns.length i else lowN (eqAt ns) ns.length i) := by split <;> rfl
      rw [e] at hx
      obtain ⟨y, hy, rfl⟩ := zs_mem hx
      have := maxN_le y hy
      show ((y : Nat) : Int) ≤ ((backN (eqAt ns) ns.length i : Nat) : Int)
      unfold backN
      omega
  · have e : zs ((List.range (i + 1)).map (backN (eqAt ns) ns.length)) = zs ((List.range i).map (backN (eqAt ns) ns.length)) ++ [((backN (eqAt ns) ns.length i : Nat) : Int)] := by simp [zs, List.range_succ]
    rw [e]
    exact X₂.known (by repeat' (first | exact List.forall_mem_nil _ | refine List.forall_mem_cons.mpr ⟨rfl, ?_⟩))
end
end Mine

namespace Mine
section
variable {c : Cx} {L a : Addr} {g₀ h : Heap} {mg mb : Str → Option Value} {e₀ r s : Shared} {Wc : List Addr} {σ : Tab} {ow : Owned} {E : Value → Shared → Prop} {Q : Flow → Shared → Prop} {ns : List Str} {al bl rl : Addr}

def backsL (ns : List Str) : List Int := zs ((List.range ns.length).map (backN (eqAt ns) ns.length))
def ringStr (ns : List Str) (p : Nat) : Str := toStr [114, 48 + ringMin (eqAt ns) ns.length p]

/-- one step round a ring -/
theorem ringTurn (F : Fn c (pEnv L a) e₀ Wc) (hn : ns.length ≤ 20) {i j : Nat} (hi : i < ns.length) (hj : j < ns.length) (h1 : bl ≠ al) (h2 : rl ≠ al) {rs : List Str}
    (X : Run c (pEnv L a) e₀ r Wc (("k", .int ((j : Nat) : Int)) :: ("place", .int ((i : Nat) : Int)) :: pTab ns) [("ring", al, .ints (zs (ringN (eqAt ns) ns.length i j))), ("back", bl, .ints (backsL ns)), ("rings", rl, .strs rs)] s)
    (k : ∀ s', Run c (pEnv L a) e₀ r Wc (("place", .int ((i : Nat) : Int)) :: pTab ns) [("ring", al, .ints (zs (ringN (eqAt ns) ns.length i (j + 1)))), ("back", bl, .ints (backsL ns)), ("rings", rl, .strs rs)] s' → Q .next s') : wpAny (model c.prog c.w) c.A (execs stepFor (pEnv L a)) Q E s := by
  have kk := F.ok
  have hs1 := sizeLine_eq
  have hlen := ringN_length (eqAt ns) ns.length i j
  have hit := it_lt (e := eqAt ns) hi (fun k _ => eqAt_refl ns k) j
  have hidx : (itN (eqAt ns) ns.length i j + 1) % ns.length < ns.length := Nat.mod_lt _ (by omega)
  unfold stepFor
  refine ap_ F (pre := []) (post := [("back", bl, .ints (backsL ns)), ("rings", rl, .strs rs)]) kInt (z := ((itN (eqAt ns) ns.length i (j + 1) : Nat) : Int)) X ⟨?_, ?_⟩ ?_ ⟨_, rfl⟩ (by simp [zs]; omega) fun s₂ X₂ => wpAny_execs_nil (k s₂ ?_)
  · intro p hp
    simp at hp
    rcases hp with rfl | rfl
    · exact h1
    · exact h2
  · intro p hp
    simp at hp
    rcases hp with rfl | rfl
    · exact ⟨Int, kInt, _, rfl⟩
    · exact ⟨Str, kStr, _, rfl⟩
  · refine Ev.itemInts kk (X.own F (List.mem_cons_of_mem _ List.mem_cons_self)) (Ev.modInt kk (by omega) (Ev.addInt kk (Ev.itemInts kk (x := ((itN (eqAt ns) ns.length i j : Nat) : Int)) (X.own F List.mem_cons_self) (X.name F (x := "k") (d := .int ((j : Nat) : Int)) rfl).weak (by omega) (by omega) ?_) (Ev.cInt kk)) (X.name F (x := "many") (d := .int ((ns.length : Nat) : Int)) rfl).weak) ?_ ?_ ?_
    · simp [zs, ringN, hlen]
    · exact Int.emod_nonneg _ (by omega)
    · have := Int.emod_lt_of_pos (((itN (eqAt ns) ns.length i j : Nat) : Int) + 1) (show (0 : Int) < ((ns.length : Nat) : Int) by omega)
      omega
    · have e : ((((itN (eqAt ns) ns.length i j : Nat) : Int) + 1) % ((ns.length : Nat) : Int)).toNat = (itN (eqAt ns) ns.length i j + 1) % ns.length := by
        have : (((itN (eqAt ns) ns.length i j + 1) % ns.length : Nat) : Int) = (((itN (eqAt ns) ns.length i j : Nat) : Int) + 1) % ((ns.length : Nat) : Int) := by push_cast; rfl
        omega
      rw [e]
      simp [backsL, zs, hidx, itN]
  · have e : zs (ringN (eqAt ns) ns.length i (j + 1)) = zs (ringN (eqAt ns) ns.length i j) ++ [((itN (eqAt ns) ns.length i (j + 1) : Nat) : Int)] := by simp [zs, ringN, List.range_succ]
    rw [e]
    exact X₂.known (by repeat' (first | exact List.forall_mem_nil _ | refine List.forall_mem_cons.mpr ⟨rfl, ?_⟩))

/-- one ring -/
theorem ringStep (F : Fn c (pEnv L a) e₀ Wc) (hh : c.A.handled = none) (G : ∀ b o, g₀.get? b = some o → e₀.heap.get? b = some o ∧ b ∉ Wc) (LG : LawG g₀ mg mb) (hn : ns.length ≤ 7) (hbr : rl ≠ bl) {i : Nat} (hi : i < ns.length)
    (X : Run c (pEnv L a) e₀ s Wc (("place", .int ((i : Nat) : Int)) :: pTab ns) [("back", bl, .ints (backsL ns)), ("rings", rl, .strs ((List.range i).map (ringStr ns)))] s)
    (k : ∀ s', Run c (pEnv L a) e₀ s Wc (pTab ns) [("back", bl, .ints (backsL ns)), ("rings", rl, .strs ((List.range (i + 1)).map (ringStr ns)))] s' → Q .next s') : wpAny (model c.prog c.w) c.A (execs ringFor (pEnv L a)) Q E s := by
  have kk := F.ok
  have hs1 := sizeLine_eq
  unfold ringFor
  refine wpAny_execs_cons (ex_own F X (.inl rfl) (NewL.sing kk kInt (X.name F (x := "place") (d := .int ((i : Nat) : Int)) rfl).weak) (own2_no (by decide) (by decide)) fun al s₁ F₁ n1 n2 n3 X₁ => ?_)
  have hb1 : bl ≠ al := fun q => n1 (by rw [← q]; exact F.sub _ (X.owns "back" bl _ List.mem_cons_self).2.1)
  have hb2 : rl ≠ al := fun q => n1 (by rw [← q]; exact F.sub _ (X.owns "rings" rl _ (List.mem_cons_of_mem _ List.mem_cons_self)).2.1)
  have hno : ∀ (k' : Nat) (x : Str), ("ring" : Str) ≠ x → ("back" : Str) ≠ x → ("rings" : Str) ≠ x → ∀ p ∈ ([("ring", al, .ints (zs (ringN (eqAt ns) ns.length i k'))), ("back", bl, .ints (backsL ns)), ("rings", rl, .strs ((List.range i).map (ringStr ns)))] : Owned), p.1 ≠ x := fun k' x a1 a2 a3 p hp => by
    rcases List.mem_cons.mp hp with rfl | hp
    · exact a1
    · exact own2_no a2 a3 p hp
  have X₁' : Run (c.plus al) (pEnv L a) e₀ s Wc (("place", .int ((i : Nat) : Int)) :: pTab ns) [("ring", al, .ints (zs (ringN (eqAt ns) ns.length i 0))), ("back", bl, .ints (backsL ns)), ("rings", rl, .strs ((List.range i).map (ringStr ns)))] s₁ :=
    X₁.known (by repeat' (first | exact List.forall_mem_nil _ | refine List.forall_mem_cons.mpr ⟨rfl, ?_⟩))
  refine wpAny_execs_cons (ex_for (c := c.plus al) F₁ (K := kInt) (xs := rng ns.length) (fun _ => ("place", .int ((i : Nat) : Int)) :: pTab ns) (fun j => [("ring", al, .ints (zs (ringN (eqAt ns) ns.length i j))), ("back", bl, .ints (backsL ns)), ("rings", rl, .strs ((List.range i).map (ringStr ns)))]) X₁' (.inl rfl) (fun j => hno j _ (by decide) (by decide) (by decide)) (fun j y a' d hm => ?_) (Src.range1 (n := ns.length) F₁.ok hh (gl_of (Run.fixed F₁ G X₁') LG.conv.names LG.range) (X₁'.name F₁ (x := "many") (d := .int ((ns.length : Nat) : Int)) rfl).weak (by omega)) (fun own' j y s' E' F' hy Y => ?_) fun s₂ X₂ => ?_)
  · simp only [List.mem_cons, List.not_mem_nil, or_false, Prod.mk.injEq] at hm
    rcases hm with ⟨_, _, rfl⟩ | ⟨_, _, rfl⟩ | ⟨_, _, rfl⟩
    · exact ⟨Int, kInt, _, rfl⟩
    · exact ⟨Int, kInt, _, rfl⟩
    · exact ⟨Str, kStr, _, rfl⟩
  · obtain ⟨rfl, hj⟩ := rng_get hy
    exact ringTurn (c := { c.plus al with own := own' }) F' (by omega) hi hj hb1 hb2 (Y.known (by repeat' (first | exact List.forall_mem_nil _ | refine List.forall_mem_cons.mpr ⟨rfl, ?_⟩))) fun s'' Z => ⟨rfl, Z⟩
  have el : (rng ns.length).length = ns.length := by simp [rng]
  rw [el] at X₂
  have k₁ := F₁.ok
  have hm := ringMin_lt (e := eqAt ns) hi fun k _ => eqAt_refl ns k
  obtain ⟨g1, g2⟩ := ring_name (ringMin (eqAt ns) ns.length i) (by omega)
  have er : (Str.ofString "r").length = 1 := by decide +kernel
  have hsh : ∀ m < 7, (Str.ofString (toString ((m : Nat) : Int))).length ≤ 8 := fun m hm => told_short m (by omega)
  refine ap_ (c := c.plus al) F₁ (pre := [("ring", al, .ints (zs (ringN (eqAt ns) ns.length i ns.length))), ("back", bl, .ints (backsL ns))]) (post := []) kStr (z := ringStr ns i) X₂ ⟨?_, ?_⟩ ?_ ⟨_, rfl⟩ (by simp; omega) fun s₃ X₃ => wpAny_execs_nil (k s₃ ?_)
  · intro p hp
    simp at hp
    rcases hp with rfl | rfl
    · exact hb2.symm
    · exact hbr.symm
  · intro p hp
    simp at hp
    rcases hp with rfl | rfl
    · exact ⟨Int, kInt, _, rfl⟩
    · exact ⟨Int, kInt, _, rfl⟩
  · refine Ev.of (d := .str (Str.ofString "r" ++ Str.ofString (toString ((ringMin (eqAt ns) ns.length i : Nat) : Int)))) (by rw [g1]; rfl) (Ev.addStr k₁ ?_ (Ev.cStr k₁) (Ev.strInt k₁ (gl_str (Run.fixed F₁ G X₂) LG.conv.names) (Ev.minInts k₁ hh (gl_of (Run.fixed F₁ G X₂) LG.conv.names LG.min) (X₂.own F₁ List.mem_cons_self) ?_ ?_) (told_log (by omega))))
    · have := hsh _ (show ringMin (eqAt ns) ns.length i < 7 by omega)
      omega
    · exact List.mem_map.mpr ⟨_, minN_mem (by simp [ringN]), rfl⟩
    · intro x hx
      obtain ⟨y, hy, rfl⟩ := zs_mem hx
      have := minN_le y hy
      show ((ringMin (eqAt ns) ns.length i : Nat) : Int) ≤ ((y : Nat) : Int)
      unfold ringMin
      omega
  · have e : (List.range (i + 1)).map (ringStr ns) = (List.range i).map (ringStr ns) ++ [ringStr ns i] := by simp [List.range_succ]
    rw [e]
    have Z : Run c (pEnv L a) e₀ s Wc _ [("back", bl, .ints (backsL ns)), ("rings", rl, .strs ((List.range i).map (ringStr ns) ++ [ringStr ns i]))] s₃ :=
      Run.less (own' := al :: c.own) (chg' := al :: c.chg) X₃ (fun a h => List.mem_cons_of_mem _ h) (fun a h => by
        rcases List.mem_cons.mp h with rfl | h
        · exact .inr n3
        · exact .inl h) (fun p hp => ⟨List.mem_cons_of_mem _ hp, by
          rcases List.mem_cons.mp hp with rfl | hp
          · exact (X.owns "back" bl _ List.mem_cons_self).2.1
          · rw [List.mem_singleton.mp hp]
            exact (X.owns "rings" rl _ (List.mem_cons_of_mem _ List.mem_cons_self)).2.1⟩)
    exact Z.known (by repeat' (first | exact List.forall_mem_nil _ | refine List.forall_mem_cons.mpr ⟨rfl, ?_⟩))
end
end Mine

namespace Mine
section
variable {c : Cx} {L a : Addr} {g₀ h : Heap} {mg mb : Str → Option Value} {e₀ r s : Shared} {Wc : List Addr} {σ : Tab} {ow : Owned} {E : Value → Shared → Prop} {Q : Flow → Shared → Prop} {ns : List Str} {al bl rl : Addr}

theorem own2_list {x y : Str} {a₁ a₂ : Addr} {zs₁ : List Int} {zs₂ : List Str} : ∀ z a' d, (z, a', d) ∈ ([(x, a₁, .ints zs₁), (y, a₂, .strs zs₂)] : Owned) → ∃ (τ : Type) (K : Kd τ) (zs : List τ), d = K.lst zs := fun z a' d hm => by
  simp only [List.mem_cons, List.not_mem_nil, or_false, Prod.mk.injEq] at hm
  rcases hm with ⟨_, _, rfl⟩ | ⟨_, _, rfl⟩
  · exact ⟨Int, kInt, _, rfl⟩
  · exact ⟨Str, kStr, _, rfl⟩

theorem compWalk (F : Fn c (pEnv L a) e₀ Wc) (hh : c.A.handled = none) (G : ∀ b o, g₀.get? b = some o → e₀.heap.get? b = some o ∧ b ∉ Wc) (LG : LawG g₀ mg mb) (hn : ns.length ≤ 7)
    (X : Run c (pEnv L a) e₀ r Wc [("names", .strs ns)] [] s)
    (k : ∀ rl s', rl ∉ c.own → rl ∉ c.W → GrowR Wc e₀ s' → VR c c.W s'.heap (.strs ((besideL ns).map toStr)) (.ref rl) → Q (.ret (.ref rl)) s') : wpAny (model c.prog c.w) c.A (execs compBody (pEnv L a)) Q E s := by
  have kk := F.ok
  have hs1 := sizeLine_eq
  unfold compBody
  refine wpAny_execs_cons (ex_tup3own F hh X (.inl rfl) (.inl rfl) (.inl rfl) (by decide) nofun nofun nofun (by decide) (by decide) (d₁ := .int ((ns.length : Nat) : Int)) (d₂ := .ints []) (d₃ := .strs []) (Ev.lenStrs kk (gl_len (Run.fixed F G X) LG.conv.names) (X.name F rfl).weak (by omega)) (NewL.nil kk kInt) (NewL.nil kk kStr) fun bl rl s₁ F₁ hne b1 b2 r1 r2 X₁ => ?_)
  have X₁' : Run ((c.plus bl).plus rl) (pEnv L a) e₀ r Wc (pTab ns) [("back", bl, .ints (zs ((List.range 0).map (backN (eqAt ns) ns.length)))), ("rings", rl, .strs [])] s₁ := X₁.known (by repeat' (first | exact List.forall_mem_nil _ | refine List.forall_mem_cons.mpr ⟨rfl, ?_⟩))
  refine wpAny_execs_cons (ex_for (c := (c.plus bl).plus rl) F₁ (K := kInt) (xs := rng ns.length) (fun _ => pTab ns) (fun i => [("back", bl, .ints (zs ((List.range i).map (backN (eqAt ns) ns.length)))), ("rings", rl, .strs [])]) X₁' (.inr ⟨rfl, L + 2, rfl⟩) (fun i => own2_no (by decide) (by decide)) (fun i => own2_list) (Src.range1 (n := ns.length) F₁.ok hh (gl_of (Run.fixed F₁ G X₁') LG.conv.names LG.range) (X₁'.name F₁ (x := "many") (d := .int ((ns.length : Nat) : Int)) rfl).weak (by omega)) (fun own' i y s' E' F' hy Y => ?_) fun s₂ X₂ => ?_)
  · obtain ⟨rfl, hi⟩ := rng_get hy
    exact backStep (c := { (c.plus bl).plus rl with own := own' }) F' hh G LG (by omega) hne hi (Y.known (by repeat' (first | exact List.forall_mem_nil _ | refine List.forall_mem_cons.mpr ⟨rfl, ?_⟩))) fun s'' Z => ⟨rfl, Z⟩
  have el : (rng ns.length).length = ns.length := by simp [rng]
  rw [el] at X₂
  have X₂' : Run ((c.plus bl).plus rl) (pEnv L a) e₀ r Wc (pTab ns) [("back", bl, .ints (backsL ns)), ("rings", rl, .strs ((List.range 0).map (ringStr ns)))] s₂ := X₂
  refine wpAny_execs_cons (ex_for (c := (c.plus bl).plus rl) F₁ (K := kInt) (xs := rng ns.length) (fun _ => pTab ns) (fun i => [("back", bl, .ints (backsL ns)), ("rings", rl, .strs ((List.range i).map (ringStr ns)))]) X₂' (.inr ⟨rfl, L + 2, rfl⟩) (fun i => own2_no (by decide) (by decide)) (fun i => own2_list) (Src.range1 (n := ns.length) F₁.ok hh (gl_of (Run.fixed F₁ G X₂') LG.conv.names LG.range) (X₂'.name F₁ (x := "many") (d := .int ((ns.length : Nat) : Int)) rfl).weak (by omega)) (fun own' i y s' E' F' hy Y => ?_) fun s₃ X₃ => ?_)
  · obtain ⟨rfl, hi⟩ := rng_get hy
    exact ringStep (c := { (c.plus bl).plus rl with own := own' }) F' hh G LG hn hne.symm hi (Y.known (by repeat' (first | exact List.forall_mem_nil _ | refine List.forall_mem_cons.mpr ⟨rfl, ?_⟩))) fun s'' Z => ⟨rfl, Z⟩
  rw [el] at X₃
  obtain ⟨lk, _, hW, hv⟩ := X₃.owns "rings" rl _ (List.mem_cons_of_mem _ List.mem_cons_self)
  refine wpAny_execs_cons (wpAny_Return_some (wpAny_Name (lk.load X₃.at_ (k rl s₃ r1 r2 X₃.since ?_)) (by decide)))
  have e : (List.range ns.length).map (ringStr ns) = (besideL ns).map toStr := by simp [besideL, ringStr]
  rw [e] at hv
  exact VR.cx (c := (c.plus bl).plus rl) (c' := c) rfl rfl hv

/-- a call of _law_complement, as an expression -/
theorem Ev.comp1 {env : Env} (k : c.Ok) (hR : c.R = GrowR c.W) (hgen : c.gen) (hh : c.A.handled = none) (hdep : c.A.depth ≤ 530) (huni : c.A.units ≤ 160) (Fx : Fixed c g₀ h) (LG : LawG g₀ mg mb)
    (hn : ns.length ≤ 7) {p pos : Pos} {e : Expr} (h1 : Ev c true env h e (.strs ns))
    (hk : env.scope.kind = .function := by rfl) (hx : env.kindOf "_law_complement" = some .globalImplicit := by rfl) (hg : env.globals = mainGlobals := by rfl) (he : starEach [e] env = [(false, eval e env)] := by rfl)
    (hcall : eval (.Call (.Name "_law_complement" p) [e] [] pos) env = (do callWith pos (← eval (.Name "_law_complement" p) env) [] (backTo pos (starEach [e] env)) (backToKw pos (keywordEach [] env))) := by rfl) :
    Ev c true env h (.Call (.Name "_law_complement" p) [e] [] pos) (.strs ((besideL ns).map toStr)) := fun s Q E a qq => by
  obtain ⟨o, ho, hd⟩ := LG.fnP
  refine Call_ (gl_global Fx LG.conv.names.g LG.comp hk hx hg (by decide) p s _ E a (callWith_def hd (wpAny_items_cons (h1.mono a fun v₁ s₁ r₁ x₁ => wpAny_items_nil ⟨?_, ?_⟩) he) he)) hcall
  · exact ((Fx.grow a.grow).grow (k.grow r₁)).stays _ _ ho
  · have a₁ := a.next k r₁
    have Fx' : Fixed c g₀ s₁.heap := (Fx.grow a.grow).grow (k.grow r₁)
    have hlim' : s₁.heap.NoLimit := by obtain ⟨mc, hm, hn⟩ := LG.conv.hlim; exact ⟨mc, hm.keeps Fx'.stays, hn⟩
    have hrec : s₁.heap.CodeRec compFd.code compFd.qualname := by
      obtain ⟨c₁, o₁, vs₁, t₁, e1, e2, e3⟩ := LG.recP
      exact ⟨c₁, o₁, vs₁, t₁, e1, Fx'.stays _ _ e2, e3⟩
    refine call_fn (σ₀ := [("names", .strs ns)]) (body := compBody) (binds := [("names", v₁)]) k hR hgen (by omega) (by omega) a₁ (Fx'.stays _ _ ho) hd hlim' hrec rfl rfl rfl ?_ ?_ (fun s₂ E' F X => ?_) (fun v s' r x => qq v s' (k.trans r₁ r) x) ?_
    · intro x hx
      rw [List.mem_singleton.mp hx]; exact .inr ⟨rfl, rfl⟩
    · intro x d e
      rw [List.lookup_cons] at e
      by_cases h1 : x = "names"
      · subst h1
        simp only [beq_self_eq_true] at e
        cases e
        exact ⟨v₁, x₁, .inr ⟨rfl, s₁.heap.objs.size + 1, rfl, rfl⟩⟩
      · have : (x == "names") = false := by simpa using h1
        rw [this] at e
        cases e
    · refine compWalk (c := c.call (pEnv s₁.heap.objs.size 124) s₁.heap.objs.size) F hh (fun b o e => Fx' b o e) LG hn X fun rl s₃ n1 n2 g hv => ⟨.ref rl, rfl, g, ?_⟩
      obtain ⟨ra, vs, e, _, l, hi⟩ := hv
      cases e
      refine ⟨rl, vs, rfl, fun q => ?_, l, hi⟩
      rcases List.mem_append.mp q with z | z
      · exact n2 (List.mem_cons_of_mem _ z)
      · exact n1 (List.mem_append_right _ z)
    · intro p hp
      have hp' : p ∈ ([("place", (s₁.heap.objs.size + 2 : Addr)), ("names", (s₁.heap.objs.size + 1 : Addr))] : List (Str × Addr)) := hp
      rcases List.mem_cons.mp hp' with rfl | hp'
      · rfl
      · rw [List.mem_singleton.mp hp']; rfl
end
end Mine

namespace Mine
def drawAt (sc : List Int) (i : Int) : Int := if i < sc.length then sc.getD i.toNat 0 else restL.getD i.toNat 0
def drawL (sc : List Int) : List Int := (rng 8).map (drawAt sc)
def manyZ (sc : List Int) : Int := 4 + (drawL sc).getD 0 0 % 4
def codeOf1 (n : Int) : List Nat := [97 + (n % 4).toNat]
def hsOf (sc : List Int) : List (List Nat) := (((drawL sc).drop (1 : Int).toNat).take ((manyZ sc + 1).toNat - (1 : Int).toNat)).map codeOf1
def namesOf (sc : List Int) : List Str := (hsOf sc).map toStr
theorem draw_length (sc : List Int) : (drawL sc).length = 8 := by simp [drawL, rng]
theorem many_between (sc : List Int) : 4 ≤ manyZ sc ∧ manyZ sc ≤ 7 := by
  have h1 := Int.emod_nonneg ((drawL sc).getD 0 0) (show (4 : Int) ≠ 0 by decide)
  have h2 := Int.emod_lt_of_pos ((drawL sc).getD 0 0) (show (0 : Int) < 4 by decide)
  unfold manyZ
  omega
theorem hs_length (sc : List Int) : (((hsOf sc).length : Nat) : Int) = manyZ sc := by
  obtain ⟨h1, h2⟩ := many_between sc
  have h3 := draw_length sc
  have e : (1 : Int).toNat = 1 := rfl
  simp only [hsOf, List.length_map, List.length_take, List.length_drop, h3, e]
  omega
theorem names_length (sc : List Int) : (((namesOf sc).length : Nat) : Int) = manyZ sc := by
  rw [← hs_length]; simp [namesOf]
theorem code1_in (n : Int) : codeOf1 n ∈ [[97], [98], [99], [100]] := by
  have h1 := Int.emod_nonneg n (show (4 : Int) ≠ 0 by decide)
  have h2 := Int.emod_lt_of_pos n (show (0 : Int) < 4 by decide)
  have h : (n % 4).toNat = 0 ∨ (n % 4).toNat = 1 ∨ (n % 4).toNat = 2 ∨ (n % 4).toNat = 3 := by omega
  unfold codeOf1
  rcases h with h | h | h | h <;> rw [h] <;> decide
theorem hs_abcd (sc : List Int) : ∀ a ∈ hsOf sc, a ∈ [[97], [98], [99], [100]] := fun a ha => by
  obtain ⟨n, _, rfl⟩ := List.mem_map.mp ha
  exact code1_in n
theorem abcd_names1 : ∀ a ∈ [[97], [98], [99], [100]], a ∈ names1 := by decide
theorem hs_names1 (sc : List Int) : ∀ a ∈ hsOf sc, a ∈ names1 := fun a ha => abcd_names1 a (hs_abcd sc a ha)
theorem abcd : ∀ j < 4, Txt.item (Str.ofString "abcd") ((j : Nat) : Int) = toStr [97 + j] := by decide +kernel
theorem abcd_len : (Str.ofString "abcd").length = 4 := by decide +kernel
theorem beside_names1 {A : List Str} (h : A.length ≤ 7) : ∀ a ∈ besideL A, a ∈ names1 := fun a ha => by
  obtain ⟨p, hp, rfl⟩ := List.mem_map.mp ha
  have hp' := List.mem_range.mp hp
  exact (ring_name _ (by have := ringMin_lt (e := eqAt A) hp' (fun k _ => eqAt_refl A k); omega)).2
theorem beside_length (A : List Str) : (besideL A).length = A.length := by simp [besideL]
def besideS (A : List Str) : List Str := (besideL A).map toStr
def crossT (A : List Str) (i j k l : Nat) : Bool := (at_ A i == at_ A k) && ((at_ A k != at_ A j) && (at_ A j == at_ A l))
def kindsN (A : List Str) : Nat := (phs [] A).length
theorem kinds_le (A : List Str) : kindsN A ≤ A.length := by
  have := phs_length A []
  simpa [kindsN] using this
/-- what is asked of a row -/
structure Holds1 (A : List Str) : Prop where
  txt : stmtOf A = Txt.join (Str.ofString " ") (A.map fun x => told ((phs [] A).idxOf x + 1))
  le : kindsN A + kindsN (besideS A) ≤ A.length + 1
  even : (A.length + 1 - (kindsN A + kindsN (besideS A))) % 2 = 0
  cross : kindsN A + kindsN (besideS A) = A.length + 1 ↔ fourAll (crossT A) A.length = []
  again : kindsN A + kindsN (besideS A) = A.length + 1 → stmtOf (besideS (besideS A)) = stmtOf (A.drop 1 ++ A.take 1)

section
variable {c : Cx} {env : Env} {g₀ h : Heap} {mg mb : Str → Option Value} {e₀ r s : Shared} {Wc : List Addr} {σ : Tab} {ow : Owned} {E : Value → Shared → Prop} {Q : Flow → Shared → Prop}
theorem Ev.restItem {b : Bool} {h : Heap} (k : c.Ok) (Fx : Fixed c g₀ h) (L : LawG g₀ mg mb) {p pos : Pos} {slice : Expr} {i : Nat} (hi : i < 8) (h2 : Ev c false env h slice (.int i)) (hk : env.scope.kind = .function := by rfl) (hx : env.kindOf "_law_rest" = some .globalImplicit := by rfl) (hg : env.globals = mainGlobals := by rfl)
    (hs : SubOk slice := by intro _ _; rfl) : Ev c b env h (.Subscript (.Name "_law_rest" p) slice pos) (.int (restL.getD i 0)) := fun s Q E a q => by
  obtain ⟨ra, vs, e, ht, hv⟩ := L.rest
  refine Subscript_ (gl_global Fx L.conv.names.g e hk hx hg (by decide) p s _ E a (h2.mono a fun v₂ s₂ r₂ x₂ => ?_))
  obtain ⟨u, rfl⟩ := x₂
  have hlen := hv.length
  have hget : restL[i]? = some (restL.getD i 0) := by
    rw [List.getElem?_eq_getElem (by exact hi)]
    simp [List.getD, show restL[i]? = _ from List.getElem?_eq_getElem (by exact hi)]
  obtain ⟨t, hvi⟩ := hv.get _ _ hget
  have e12 : vs.length = 8 := hlen
  refine item_tupleT (ht.keeps ((Fx.grow a.grow).grow (k.grow r₂)).stays) (by omega) (by omega) (j := i) ?_ hvi (q _ _ r₂ ⟨t, rfl⟩) (hs _ _)
  rw [e12, seqIndex_of (by omega) (by omega)]; simp
end

section
variable {c : Cx} {cd : Value} {L a : Addr} {g₀ : Heap} {mg mb : Str → Option Value} {e₀ r s : Shared} {Wc : List Addr} {σ : Tab} {ow : Owned} {E : Value → Shared → Prop} {Q : Flow → Shared → Prop} {sc : List Int}
theorem law1 (F : Fn c (lEnv cd L a) e₀ Wc) (hh : c.A.handled = none) (G : ∀ b o, g₀.get? b = some o → e₀.heap.get? b = some o ∧ b ∉ Wc) (LG : LawG g₀ mg mb) (hsc : sc.length ≤ 100) (X : Run c (lEnv cd L a) e₀ r Wc [("script", .ints sc)] [] s)
    (k : ∀ s', Run c (lEnv cd L a) e₀ r Wc [("draw", .ints (drawL sc))] [] s' → wpAny (model c.prog c.w) c.A (execs (lawBody.drop 1) (lEnv cd L a)) Q E s') : wpAny (model c.prog c.w) c.A (execs lawBody (lEnv cd L a)) Q E s := by
  have kk := F.ok
  have hs1 := sizeLine_eq
  have Fx := Run.fixed F G X
  unfold lawBody
  refine wpAny_execs_cons (ex_assignComp F X kInt kInt (xs := rng 8) (fun _ => true) (drawAt sc) (cl := [("script", L + 1)]) ⟨rfl, by decide, rfl, by decide, rfl⟩ rfl nofun (Src.range1 (n := 8) kk hh (gl_of Fx LG.conv.names LG.range) (Ev.cInt kk) (by omega)) (by simp [rng]; omega) (fun C h' v y hy hv T => rfl) (fun C h' v y hy hv _ T => ?_) fun s' X' => k s' ?_)
  · obtain ⟨j, rfl, hj⟩ := mem_rng hy
    have ki := Cx.in_ok kk
    have FxC : Fixed c.in g₀ h' := fun b o e => (Fx.grow T.grow) b o e
    refine Ev.ifexp (β := decide (((j : Nat) : Int) < sc.length)) ki (Tr.cmp ki (turnItem kk T hv) (Ev.lenInts ki (gl_of FxC LG.conv.names LG.conv.names.len) (X.inComp F T (d := .ints sc) rfl) (by omega)) (Cm.ltInt ki)) (fun hb => ?_) (fun hb => ?_)
    · have hlt : j < sc.length := by have := of_decide_eq_true hb; omega
      have e : drawAt sc ((j : Nat) : Int) = sc.getD j 0 := by
        unfold drawAt
        rw [if_pos (by omega)]; rfl
      rw [e]
      exact Ev.itemInts ki (X.inComp F T (d := .ints sc) rfl) (turnItem kk T hv) (by omega) (by omega) (by simp [hlt])
    · have hlt : ¬ j < sc.length := by have := of_decide_eq_false hb; omega
      have e : drawAt sc ((j : Nat) : Int) = restL.getD j 0 := by
        unfold drawAt
        rw [if_neg (by omega)]; rfl
      rw [e]
      exact Ev.restItem ki FxC LG hj (turnItem kk T hv)
  · rw [filter_all] at X'
    exact X'.known (by repeat' (first | exact List.forall_mem_nil _ | refine List.forall_mem_cons.mpr ⟨rfl, ?_⟩))

abbrev lTab (A : List Str) : Tab := [("names", .strs A), ("many", .int ((A.length : Nat) : Int))]
theorem law2 (F : Fn c (lEnv cd L a) e₀ Wc) (hh : c.A.handled = none) (X : Run c (lEnv cd L a) e₀ r Wc [("draw", .ints (drawL sc))] [] s)
    (k : ∀ s', Run c (lEnv cd L a) e₀ r Wc (lTab (namesOf sc)) [] s' → wpAny (model c.prog c.w) c.A (execs (lawBody.drop 3) (lEnv cd L a)) Q E s') : wpAny (model c.prog c.w) c.A (execs (lawBody.drop 1) (lEnv cd L a)) Q E s := by
  have kk := F.ok
  have hs1 := sizeLine_eq
  have hlen := draw_length sc
  obtain ⟨m1, m2⟩ := many_between sc
  have hg : (drawL sc)[(0 : Int).toNat]? = some ((drawL sc).getD 0 0) := by
    show (drawL sc)[0]? = _
    simp [List.getD, List.getElem?_eq_getElem (show 0 < (drawL sc).length by omega)]
  conv in (List.drop 1 lawBody) => whnf
  refine as_ F X (.inl rfl) (d := .int (manyZ sc)) (Ev.addInt kk (Ev.cInt kk) (Ev.modInt kk (by decide) (Ev.itemInts kk (x := (drawL sc).getD 0 0) (X.name F (x := "draw") (d := .ints (drawL sc)) rfl).weak (Ev.cInt kk) (by omega) (by omega) hg) (Ev.cInt kk))) nofun fun s₁ X₁ => ?_
  refine as_ F X₁ (.inr ⟨rfl, L + 2, rfl⟩) (d := .strs (namesOf sc)) ?_ nofun fun s₂ X₂ => k s₂ (X₂.known ?_)
  · refine Ev.of (d := kStr.lst ((((((drawL sc).drop (1 : Int).toNat).take ((manyZ sc + 1).toNat - (1 : Int).toNat))).filter fun _ => true).map fun n => toStr (codeOf1 n))) (by rw [filter_all]; show D.strs _ = D.strs _; exact congrArg D.strs (List.map_map (f := codeOf1) (g := toStr)).symm) (Ev.comp kk kInt kStr (fun _ => true) (fun n => toStr (codeOf1 n)) (cl := []) ⟨rfl, by decide, rfl, by decide, rfl⟩ (Src.list kk hh kInt (Ev.cutInts kk (X₁.name F (x := "draw") (d := .ints (drawL sc)) rfl).weak (Ev.cInt kk) (Ev.addInt kk (X₁.name F (x := "many") (d := .int (manyZ sc)) rfl).weak (Ev.cInt kk)) (by omega) (by omega) (by omega) (by omega))) (by simp; omega) (fun C h' v y hy hv T => rfl) fun C h' v y hy hv _ T => ?_)
    have ki := Cx.in_ok kk
    have h1 := Int.emod_nonneg y (show (4 : Int) ≠ 0 by decide)
    have h2 := Int.emod_lt_of_pos y (show (0 : Int) < 4 by decide)
    refine Ev.of (d := .str (Txt.item (Str.ofString "abcd") (y % 4))) ?_ (Ev.char ki (Ev.cStr ki) (Ev.modInt ki (by decide) (turnItem kk T hv) (Ev.cInt ki)) h1 (by omega) (by rw [abcd_len]; exact h2))
    have := abcd (y % 4).toNat (by omega)
    have e : (((y % 4).toNat : Nat) : Int) = y % 4 := by omega
    rw [e] at this
    rw [this]; rfl
  · unfold lTab
    rw [names_length]
    repeat' (first | exact List.forall_mem_nil _ | refine List.forall_mem_cons.mpr ⟨rfl, ?_⟩)
end
end Mine

namespace Mine
theorem told_sum : ∀ {l : List Str} (f : Str → Nat), (∀ x ∈ l, f x < 64) → ((l.map fun x => told (f x)).map (·.length)).sum ≤ 4 * l.length
  | [], _, _ => by simp
  | x :: r, f, h => by
    have ih := told_sum (l := r) f fun y hy => h y (List.mem_cons_of_mem _ hy)
    have := (told_facts _ (h x List.mem_cons_self)).2.2.1
    simp only [List.map_cons, List.sum_cons, List.length_cons] at ih ⊢
    omega
section
variable {c : Cx} {cd : Value} {L a : Addr} {g₀ : Heap} {mg mb : Str → Option Value} {e₀ r s : Shared} {Wc : List Addr} {σ : Tab} {ow : Owned} {E : Value → Shared → Prop} {Q : Flow → Shared → Prop} {hs : List (List Nat)}
abbrev tellTab (A : List Str) : Tab := [("kinds", .tstrs (phs [] A)), ("beside", .strs (besideS A)), ("names", .strs A), ("many", .int ((A.length : Nat) : Int))]
theorem law3 (F : Fn c (lEnv cd L a) e₀ Wc) (hgen : c.gen) (hh : c.A.handled = none) (hdep : c.A.depth ≤ 530) (huni : c.A.units ≤ 160) (G : ∀ b o, g₀.get? b = some o → e₀.heap.get? b = some o ∧ b ∉ Wc) (LG : LawG g₀ mg mb) (ht : 108 ∈ c.tabs) (hA₀ : c.A.frames = some [lEnv cd L a])
    (isl : ∀ (c' : Cx) (eT : Env) L a, c'.prog = c.prog → c'.w = c.w → c'.A = (c.A.deeper eT).deeper (cEnv L a) → Island c' (cEnv L a) g₀ countCall)
    (h0 : hs ≠ []) (hl : ∀ a ∈ hs, a ∈ names1) (hn : hs.length ≤ 7) (H : Holds1 (hs.map toStr))
    (X : Run c (lEnv cd L a) e₀ r Wc (lTab (hs.map toStr)) [] s)
    (k : ∀ s', Run c (lEnv cd L a) e₀ r Wc (tellTab (hs.map toStr)) [] s' → wpAny (model c.prog c.w) c.A (execs (lawBody.drop 6) (lEnv cd L a)) Q E s') : wpAny (model c.prog c.w) c.A (execs (lawBody.drop 3) (lEnv cd L a)) Q E s := by
  have kk := F.ok
  have hs1 := sizeLine_eq
  have hlen : (hs.map toStr).length = hs.length := by simp
  have hf : ∀ e ∈ [lEnv cd L a], e.scope.kind ≠ .module ∧ ∃ L' ∈ c.W, L' ∉ c.tabs ∧ e.frame = some L' := fun e he => by
    rw [List.mem_singleton.mp he]
    exact ⟨by show lawFd.scope.kind ≠ _; decide, L, by rw [F.W]; exact List.mem_cons_self, F.notTab, rfl⟩
  have hidx : ∀ x ∈ hs.map toStr, (phs [] (hs.map toStr)).idxOf x + 1 < 64 := fun x hx => by
    have := List.idxOf_lt_length_of_mem (mem_phs.mpr (.inr hx) : x ∈ phs [] (hs.map toStr))
    have h2 := phs_length (hs.map toStr) []
    simp at h2; omega
  conv in (List.drop 3 lawBody) => whnf
  refine as_ F X (.inl rfl) (d := .strs (besideS (hs.map toStr))) (Ev.comp1 kk F.rel hgen hh hdep huni (Run.fixed F G X) LG (by omega) (X.name F rfl)) nofun fun s₁ X₁ => ?_
  refine wpAny_execs_cons (ex_unpack2 F hh X₁ (.inl rfl) (.inr ⟨rfl, L + 3, rfl⟩) nofun nofun (Ev.told kk F.rel hgen hh hdep huni (Run.fixed F G X₁) LG ht hA₀ hf isl h0 hl (by omega) (X₁.name F rfl)) fun s₂ X₂' => ?_)
  have X₂ : Run c (lEnv cd L a) e₀ r Wc [("statement", .str (stmtOf (hs.map toStr))), ("kinds", .tstrs (phs [] (hs.map toStr))), ("beside", .strs (besideS (hs.map toStr))), ("names", .strs (hs.map toStr)), ("many", .int (((hs.map toStr).length : Nat) : Int))] [] s₂ := X₂'.known (by repeat' (first | exact List.forall_mem_nil _ | refine List.forall_mem_cons.mpr ⟨rfl, ?_⟩))
  refine if_F F X₂ (Tr.of (β := stmtOf (hs.map toStr) != Txt.join (Str.ofString " ") ((hs.map toStr).map fun x => told ((phs [] (hs.map toStr)).idxOf x + 1))) (by rw [H.txt]; simp) (Tr.cmp kk (X₂.name F rfl).weak (Ev.join kk (Ev.cStr kk) (Ev.of (d := .strs (((hs.map toStr).filter fun _ => true).map fun x => told ((phs [] (hs.map toStr)).idxOf x + 1))) (by rw [filter_all]) (Ev.comp kk kStr kStr (fun _ => true) (fun x => told ((phs [] (hs.map toStr)).idxOf x + 1)) (cl := [("kinds", L + 3)]) ⟨rfl, by decide, rfl, by decide, rfl⟩ (Src.list kk hh kStr (X₂.name F rfl)) (by omega) (fun C h' v y hy hv T => rfl) fun C h' v y hy hv _ T => ?_)) ⟨_, rfl⟩ ?_) (Cm.neStr kk))) fun s₃ X₃ => nx_ (k s₃ ?_)
  · have ki := Cx.in_ok kk
    have FxC : Fixed c.in g₀ h' := fun b o e => ((Run.fixed F G X₂).grow T.grow) b o e
    have hm : y ∈ phs [] (hs.map toStr) := mem_phs.mpr (.inr hy)
    have h2 := phs_length (hs.map toStr) []
    simp at h2
    refine ev_told ki (hidx y hy) (gl_str FxC LG.conv.names) (Ev.of (d := .int ((((phs [] (hs.map toStr)).idxOf y : Nat) : Int) + 1)) (by push_cast; rfl) (Ev.addInt ki (Ev.index ki (Ev.listTup ki (gl_of FxC LG.conv.names LG.list) (X₂.inComp F T (d := .tstrs (phs [] (hs.map toStr))) rfl) (by omega)) (turnItem kk T hv) ⟨_, rfl⟩ hm (by omega)) (Ev.cInt ki)))
  · have := told_sum (l := hs.map toStr) (fun x => (phs [] (hs.map toStr)).idxOf x + 1) hidx
    have e1 : (Str.ofString " ").length = 1 := by decide +kernel
    rw [e1]
    simp only [List.length_map] at this ⊢
    omega
  · exact X₃.known (by repeat' (first | exact List.forall_mem_nil _ | refine List.forall_mem_cons.mpr ⟨rfl, ?_⟩))
end
end Mine

namespace Mine
theorem VR.four {c : Cx} {C C' : Addr} {av : List Addr} {h : Heap} {d : D} {v : Value} (x : VR c av h d v) : VR (c.four C C') av h d v := VR.cx (c := c) (c' := c.four C C') rfl rfl x
def lackZ (A : List Str) : Int := ((A.length : Nat) : Int) + 1 - ((kindsN A : Nat) : Int) - ((kindsN (besideS A) : Nat) : Int)
section
variable {c : Cx} {cd : Value} {L a : Addr} {env : Env} {g₀ : Heap} {mg mb : Str → Option Value} {e₀ r s : Shared} {Wc : List Addr} {σ : Tab} {ow : Owned} {E : Value → Shared → Prop} {Q : Flow → Shared → Prop} {hs : List (List Nat)}
/-- a name of the frame, from within the four clauses -/
theorem Run.inFour (F : Fn c env e₀ Wc) (X : Run c env e₀ r Wc σ ow s) {x : Str} {d : D} {scope : Scope} {cl : List (Str × Addr)} {C C' : Addr} {h' : Heap} {p : Pos} (g : GrowH c.W s.heap h') (e : σ.lookup x = some d) (hx : env.kindOf x = some .cell := by rfl)
    (hc : (compEnvC scope cl C env).kindOf x = some .cell := by rfl) (hl : cl.lookup x = env.cells.lookup x := by rfl) (hk : scope.kind = .function := by rfl) (hd : (x == ("__debug__" : Str)) = false := by decide) : Ev (c.four C C') false (compEnvC scope cl C env) h' (.Name x p) d := by
  obtain ⟨v, ⟨_, ⟨hl', _⟩ | ⟨_, ca, hc', hw, o, ho, hd'⟩⟩, hv⟩ := X.vars x d e
  · rw [hx] at hl'; cases hl'
  · exact Ev.name (c := c.four C C') (four_ok F.ok C C') ⟨hk, .inr ⟨.inl hc, ca, by show cl.lookup x = _; rw [hl]; exact hc', hw, o, g.keep _ _ ho hw, hd'⟩⟩ ((hv.weak false).grow (c.av_sub false) g.keep).four hd
theorem fourItem (k : c.Ok) {x : Str} {i : Nat} {m : Str → Option Value} {scope : Scope} {cl : List (Str × Addr)} {C C' : Addr} {h' : Heap} {p : Pos} (hm : h'.Ns C m) (hi : IntAt m x i) (hc : (compEnvC scope cl C env).kindOf x = some .local := by rfl) (hk : scope.kind = .function := by rfl) (hd : (x == ("__debug__" : Str)) = false := by decide) :
    Ev (c.four C C') false (compEnvC scope cl C env) h' (.Name x p) (.int ((i : Nat) : Int)) := by
  obtain ⟨t, e⟩ := hi
  exact Ev.name (c := c.four C C') (four_ok k C C') ⟨hk, .inl ⟨hc, m, hm, e⟩⟩ ⟨t, rfl⟩ hd
theorem law4 (F : Fn c (lEnv cd L a) e₀ Wc) (hgen : c.gen) (hh : c.A.handled = none) (hdep : c.A.depth ≤ 530) (huni : c.A.units ≤ 160) (G : ∀ b o, g₀.get? b = some o → e₀.heap.get? b = some o ∧ b ∉ Wc) (LG : LawG g₀ mg mb) (ht : 108 ∈ c.tabs) (hA₀ : c.A.frames = some [lEnv cd L a])
    (isl : ∀ (c' : Cx) (eT : Env) L a, c'.prog = c.prog → c'.w = c.w → c'.A = (c.A.deeper eT).deeper (cEnv L a) → Island c' (cEnv L a) g₀ countCall)
    (h0 : hs ≠ []) (hn : hs.length ≤ 7)
    (X : Run c (lEnv cd L a) e₀ r Wc (tellTab (hs.map toStr)) [] s)
    (k : ∀ s', Run c (lEnv cd L a) e₀ r Wc (("crossing", .ints (fourAll (crossT (hs.map toStr)) (hs.map toStr).length)) :: ("lacking", .int (lackZ (hs.map toStr))) :: tellTab (hs.map toStr)) [] s' → wpAny (model c.prog c.w) c.A (execs (lawBody.drop 8) (lEnv cd L a)) Q E s') : wpAny (model c.prog c.w) c.A (execs (lawBody.drop 6) (lEnv cd L a)) Q E s := by
  have kk := F.ok
  have hs1 := sizeLine_eq
  have hlen : (hs.map toStr).length = hs.length := by simp
  have hf : ∀ e ∈ [lEnv cd L a], e.scope.kind ≠ .module ∧ ∃ L' ∈ c.W, L' ∉ c.tabs ∧ e.frame = some L' := fun e he => by
    rw [List.mem_singleton.mp he]
    exact ⟨by show lawFd.scope.kind ≠ _; decide, L, by rw [F.W]; exact List.mem_cons_self, F.notTab, rfl⟩
  have hbl : (besideL (hs.map toStr)).length = hs.length := by rw [beside_length, hlen]
  have hb0 : besideL (hs.map toStr) ≠ [] := fun q => by rw [q] at hbl; exact h0 (List.length_eq_zero_iff.mp hbl.symm)
  have hk1 := kinds_le (hs.map toStr)
  have hk2 := kinds_le (besideS (hs.map toStr))
  have hk3 : (besideS (hs.map toStr)).length = hs.length := by simp [besideS, hbl]
  conv in (List.drop 6 lawBody) => whnf
  refine as_ F X (.inl rfl) (d := .int (lackZ (hs.map toStr))) (Ev.subInt kk (Ev.subInt kk (Ev.addInt kk (X.name F (x := "many") (d := .int (((hs.map toStr).length : Nat) : Int)) rfl).weak (Ev.cInt kk)) (Ev.lenTstrs kk (ss := phs [] (hs.map toStr)) (gl_of (Run.fixed F G X) LG.conv.names LG.conv.names.len) (X.name F rfl).weak ?_)) (Ev.lenTstrs kk (ss := phs [] (besideS (hs.map toStr))) (gl_of (Run.fixed F G X) LG.conv.names LG.conv.names.len) (Ev.snd kk (Ev.told kk F.rel hgen hh hdep huni (Run.fixed F G X) LG ht hA₀ hf isl hb0 (beside_names1 (by omega)) (by omega) (X.name F rfl))).weak ?_)) nofun fun s₁ X₁ => ?_
  · show kindsN _ < _; omega
  · show kindsN _ < _; omega
  refine wpAny_execs_cons (ex_comp4 (n := (hs.map toStr).length) (t := crossT (hs.map toStr)) F hh X₁ (Four.mk "a" "b" "c" "d" _ _ _ _ _ _ _ [("names", L + 2)] _ _ _ _ _ _ _ _ _ _ _) ⟨rfl, fun _ => rfl, fun _ => rfl, fun _ => rfl, fun _ => rfl, fun _ => rfl, rfl, rfl, by dsimp only; decide, by dsimp only; decide, by dsimp only; decide, by dsimp only; decide, by dsimp only; decide, by dsimp only; decide, by dsimp only; decide, by dsimp only; decide, by dsimp only; decide⟩ rfl nofun (Run.fixed F G X₁) LG.conv.names.g LG.conv.names.b LG.range (by omega)
    (Src.range1 (n := (hs.map toStr).length) kk hh (gl_of (Run.fixed F G X₁) LG.conv.names LG.range) (X₁.name F (x := "many") (d := .int (((hs.map toStr).length : Nat) : Int)) rfl).weak (by omega)) rfl (by dsimp only; decide) (by dsimp only; decide) (fun C C' h' m i hi g hm ha => fourItem kk hm ha) (fun C C' h' m i j k l hi hj hk hl g hm ma mb mc md => ?_) fun s₂ X₂ => k s₂ (X₂.known ?_))
  · have k4 := four_ok kk C C'
    have hk' : k < (hs.map toStr).length := by omega
    have hj' : j < (hs.map toStr).length := by omega
    have hl' : l < (hs.map toStr).length := by omega
    exact Tr.chain3 k4 (Ev.itemStrs k4 (X₁.inFour F (x := "names") (d := .strs (hs.map toStr)) g rfl) (fourItem kk hm ma) (by omega) (by omega) (at_get hi)) (Ev.itemStrs k4 (X₁.inFour F (x := "names") (d := .strs (hs.map toStr)) g rfl) (fourItem kk hm mc) (by omega) (by omega) (at_get hk')) (Ev.itemStrs k4 (X₁.inFour F (x := "names") (d := .strs (hs.map toStr)) g rfl) (fourItem kk hm mb) (by omega) (by omega) (at_get hj')) (Ev.itemStrs k4 (X₁.inFour F (x := "names") (d := .strs (hs.map toStr)) g rfl) (fourItem kk hm md) (by omega) (by omega) (at_get hl')) (Cm.eqStr k4) (Cm.neStr k4) (Cm.eqStr k4)
  · repeat' (first | exact List.forall_mem_nil _ | refine List.forall_mem_cons.mpr ⟨rfl, ?_⟩)
end
end Mine

namespace Mine
section
variable {c : Cx} {cd : Value} {L a : Addr} {env : Env} {g₀ : Heap} {mg mb : Str → Option Value} {e₀ r s : Shared} {Wc : List Addr} {σ : Tab} {ow : Owned} {E : Value → Shared → Prop} {Q : Flow → Shared → Prop} {hs : List (List Nat)} {sc : List Int}
theorem law5 (F : Fn c (lEnv cd L a) e₀ Wc) (hgen : c.gen) (hh : c.A.handled = none) (hdep : c.A.depth ≤ 530) (huni : c.A.units ≤ 160) (G : ∀ b o, g₀.get? b = some o → e₀.heap.get? b = some o ∧ b ∉ Wc) (LG : LawG g₀ mg mb) (ht : 108 ∈ c.tabs) (hA₀ : c.A.frames = some [lEnv cd L a])
    (isl : ∀ (c' : Cx) (eT : Env) L a, c'.prog = c.prog → c'.w = c.w → c'.A = (c.A.deeper eT).deeper (cEnv L a) → Island c' (cEnv L a) g₀ countCall)
    (h0 : hs ≠ []) (hl : ∀ a ∈ hs, a ∈ names1) (hn : hs.length ≤ 7) (H : Holds1 (hs.map toStr)) (hx : (fourAll (crossT (hs.map toStr)) (hs.map toStr).length).length < 2 ^ 62)
    (X : Run c (lEnv cd L a) e₀ r Wc (("crossing", .ints (fourAll (crossT (hs.map toStr)) (hs.map toStr).length)) :: ("lacking", .int (lackZ (hs.map toStr))) :: tellTab (hs.map toStr)) [] s)
    (k : ∀ s', GrowR Wc e₀ s' → Q (.ret (.bool true)) s') : wpAny (model c.prog c.w) c.A (execs (lawBody.drop 8) (lEnv cd L a)) Q E s := by
  have kk := F.ok
  have hs1 := sizeLine_eq
  have hlen : (hs.map toStr).length = hs.length := by simp
  have hf : ∀ e ∈ [lEnv cd L a], e.scope.kind ≠ .module ∧ ∃ L' ∈ c.W, L' ∉ c.tabs ∧ e.frame = some L' := fun e he => by
    rw [List.mem_singleton.mp he]
    exact ⟨by show lawFd.scope.kind ≠ _; decide, L, by rw [F.W]; exact List.mem_cons_self, F.notTab, rfl⟩
  have hbl : (besideS (hs.map toStr)).length = hs.length := by simp [besideS, beside_length]
  have hb0 : besideL (besideS (hs.map toStr)) ≠ [] := fun q => by
    have := beside_length (besideS (hs.map toStr))
    rw [q, hbl] at this; exact h0 (List.length_eq_zero_iff.mp this.symm)
  obtain ⟨hle, hev, hcr, hag⟩ := (⟨H.le, H.even, H.cross, H.again⟩ : _ ∧ _ ∧ _ ∧ _)
  have hz : lackZ (hs.map toStr) = (((hs.map toStr).length + 1 - (kindsN (hs.map toStr) + kindsN (besideS (hs.map toStr))) : Nat) : Int) := by
    unfold lackZ; omega
  have hb : ((lackZ (hs.map toStr) == 0) == decide ((0 : Int) < (((fourAll (crossT (hs.map toStr)) (hs.map toStr).length).length : Nat) : Int))) = false := by
    by_cases h : kindsN (hs.map toStr) + kindsN (besideS (hs.map toStr)) = (hs.map toStr).length + 1
    · have e1 : lackZ (hs.map toStr) = 0 := by rw [hz]; omega
      rw [e1, hcr.mp h]; rfl
    · have e1 : (lackZ (hs.map toStr) == 0) = false := by
        have : lackZ (hs.map toStr) ≠ 0 := by rw [hz]; omega
        simpa using this
      have e2 : decide ((0 : Int) < (((fourAll (crossT (hs.map toStr)) (hs.map toStr).length).length : Nat) : Int)) = true := by
        have : fourAll (crossT (hs.map toStr)) (hs.map toStr).length ≠ [] := fun q => h (hcr.mpr q)
        have := List.length_pos_iff.mpr this
        exact decide_eq_true (by omega)
      rw [e1, e2]; rfl
  have nl : ∀ {s'} (X : Run c (lEnv cd L a) e₀ r Wc (("crossing", .ints (fourAll (crossT (hs.map toStr)) (hs.map toStr).length)) :: ("lacking", .int (lackZ (hs.map toStr))) :: tellTab (hs.map toStr)) [] s') p, Ev c false (lEnv cd L a) s'.heap (.Name "lacking" p) (.int (lackZ (hs.map toStr))) := fun {s'} X p => (X.name F rfl).weak
  conv in (List.drop 8 lawBody) => whnf
  refine if_F F X (Tr.of (β := decide (lackZ (hs.map toStr) < 0) || ((lackZ (hs.map toStr) % 2 != 0) || (((lackZ (hs.map toStr) == 0) == decide ((0 : Int) < (((fourAll (crossT (hs.map toStr)) (hs.map toStr).length).length : Nat) : Int))) || false))) ?_
    (Tr.or kk (Tr.cmp kk (nl X _) (Ev.cInt kk) (Cm.ltInt kk)) fun _ => Tr.or kk (Tr.int kk (Ev.modInt kk (by decide) (nl X _) (Ev.cInt kk))) fun _ => Tr.or kk (Tr.cmp kk (Ev.cmp kk (nl X _) (Ev.cInt kk) (Cm.eqInt kk)) (Ev.cmp kk (Ev.lenInts kk (ss := fourAll (crossT (hs.map toStr)) (hs.map toStr).length) (gl_of (Run.fixed F G X) LG.conv.names LG.conv.names.len) (X.name F rfl).weak hx) (Ev.cInt kk) (Cm.gtInt kk)) (Cm.eqBool kk)) fun _ => Tr.orNil kk)) fun s₁ X₁ => nx_ ?_
  · rw [hb]
    have e1 : decide (lackZ (hs.map toStr) < 0) = false := decide_eq_false (by omega)
    have e2 : (lackZ (hs.map toStr) % 2 != 0) = false := by
      have : lackZ (hs.map toStr) % 2 = 0 := by omega
      rw [this]; rfl
    rw [e1, e2]; rfl
  · have hdt : ((hs.drop (1 : Int).toNat ++ hs.take (1 : Int).toNat)).map toStr = (hs.map toStr).drop 1 ++ (hs.map toStr).take 1 := by simp [List.map_drop, List.map_take]
    have hd0 : hs.drop (1 : Int).toNat ++ hs.take (1 : Int).toNat ≠ [] := fun q => by
      obtain ⟨_, h2⟩ := List.append_eq_nil_iff.mp q
      cases hs with
      | nil => exact h0 rfl
      | cons x r => simp at h2
    have hdl : (hs.drop (1 : Int).toNat ++ hs.take (1 : Int).toNat).length ≤ 20 := by simp; omega
    refine re_ F X₁ (b := true) (d := .bool (decide ((0 : Int) < lackZ (hs.map toStr)) || (stmtOf (besideS (besideS (hs.map toStr))) == stmtOf ((hs.drop (1 : Int).toNat ++ hs.take (1 : Int).toNat).map toStr)))) (Ev.or kk (Ev.cmp kk (nl X₁ _) (Ev.cInt kk) (Cm.gtInt kk)) fun _ => Ev.one kk (Ev.cmp kk (Ev.fst kk (Ev.told kk F.rel hgen hh hdep huni (Run.fixed F G X₁) LG ht hA₀ hf isl hb0 (beside_names1 (by omega)) (by rw [beside_length]; omega) (Ev.comp1 kk F.rel hgen hh hdep huni (Run.fixed F G X₁) LG (by omega) (X₁.name F rfl)))).weak
      (Ev.fst kk (Ev.told kk F.rel hgen hh hdep huni (Run.fixed F G X₁) LG ht hA₀ hf isl (hs := hs.drop (1 : Int).toNat ++ hs.take (1 : Int).toNat) hd0 (fun z hz => ?_) hdl ?_)).weak (Cm.eqStr kk))) fun v s' X' hv => ?_
    · rcases List.mem_append.mp hz with q | q
      · exact hl z (List.mem_of_mem_drop q)
      · exact hl z (List.mem_of_mem_take q)
    · refine Ev.of (d := kStr.lst ((hs.map toStr).drop (1 : Int).toNat ++ (hs.map toStr).take (1 : Int).toNat)) (by rw [hdt]; rfl) (Ev.addLists kk kStr (by simp; omega) (Ev.dropStrs kk (X₁.name F rfl).weak (Ev.cInt kk) (by omega) (by omega)) (Ev.takeStrs kk (X₁.name F rfl).weak (Ev.cInt kk) (by omega) (by omega)))
    · have e : (decide ((0 : Int) < lackZ (hs.map toStr)) || (stmtOf (besideS (besideS (hs.map toStr))) == stmtOf ((hs.drop (1 : Int).toNat ++ hs.take (1 : Int).toNat).map toStr))) = true := by
        by_cases h : kindsN (hs.map toStr) + kindsN (besideS (hs.map toStr)) = (hs.map toStr).length + 1
        · rw [hdt, hag h]; simp
        · have : decide ((0 : Int) < lackZ (hs.map toStr)) = true := decide_eq_true (by omega)
          rw [this]; rfl
      rw [e] at hv
      cases hv
      exact k s' X'.since
theorem four_small {t : Nat → Nat → Nat → Nat → Bool} {n : Nat} (hn : n ≤ 12) : (fourAll t n).length < 2 ^ 62 := by
  have : ∀ l ≤ 12, ((List.range l).flatMap (four0 t)).length ≤ l * 3000 := fun l hl12 => by
    induction l with
    | zero => simp
    | succ l ih =>
      have := ih (by omega)
      have h2 := four0_len t l (by omega)
      have e : [l].flatMap (four0 t) = four0 t l := by simp
      rw [List.range_succ, List.flatMap_append, List.length_append, e]
      omega
  have := this n hn
  unfold fourAll; omega
theorem lawAll (F : Fn c (lEnv cd L a) e₀ Wc) (hgen : c.gen) (hh : c.A.handled = none) (hdep : c.A.depth ≤ 530) (huni : c.A.units ≤ 160) (G : ∀ b o, g₀.get? b = some o → e₀.heap.get? b = some o ∧ b ∉ Wc) (LG : LawG g₀ mg mb) (ht : 108 ∈ c.tabs) (hA₀ : c.A.frames = some [lEnv cd L a])
    (isl : ∀ (c' : Cx) (eT : Env) L a, c'.prog = c.prog → c'.w = c.w → c'.A = (c.A.deeper eT).deeper (cEnv L a) → Island c' (cEnv L a) g₀ countCall) (hsc : sc.length ≤ 100) (H : Holds1 (namesOf sc))
    (X : Run c (lEnv cd L a) e₀ r Wc [("script", .ints sc)] [] s) (k : ∀ s', GrowR Wc e₀ s' → Q (.ret (.bool true)) s') : wpAny (model c.prog c.w) c.A (execs lawBody (lEnv cd L a)) Q E s := by
  obtain ⟨m1, m2⟩ := many_between sc
  have hlen := hs_length sc
  have h0 : hsOf sc ≠ [] := fun q => by
    rw [q] at hlen
    have : (((([] : List (List Nat))).length : Nat) : Int) = 0 := rfl
    omega
  exact law1 F hh G LG hsc X fun s₁ X₁ => law2 F hh X₁ fun s₂ X₂ => law3 F hgen hh hdep huni G LG ht hA₀ isl h0 (hs_names1 sc) (by omega) H X₂ fun s₃ X₃ => law4 F hgen hh hdep huni G LG ht hA₀ isl h0 (by omega) X₃ fun s₄ X₄ => law5 F hgen hh hdep huni G LG ht hA₀ isl h0 (hs_names1 sc) (by omega) H (four_small (by simp; omega)) X₄ k
end
end Mine

namespace Mine
/-! rows of kinds as numbers: three bits for each place -/
def force {α : Type} (x : Nat) (f : Nat → α) : α := Nat.rec (f 0) (fun m _ => f (Nat.succ m)) x
theorem force_eq {α : Type} (x : Nat) (f : Nat → α) : force x f = f x := by cases x <;> rfl
def getP (P j : Nat) : Nat := Nat.mod (Nat.div P (Nat.pow 8 j)) 8
noncomputable def sk (R v k : Nat) : Nat := Nat.rec 0 (fun k ih => cond (Nat.beq (getP R k) v) (Nat.succ k) ih) k
noncomputable def backP (R n p : Nat) : Nat := force (getP R p) fun v => force (sk R v p) fun a => cond (Nat.beq a 0) (Nat.pred (sk R v n)) (Nat.pred a)
noncomputable def packF (f : Nat → Nat) (n : Nat) : Nat := Nat.rec 0 (fun k ih => force (f k) fun x => force ih fun acc => Nat.add acc (Nat.mul x (Nat.pow 8 k))) n
noncomputable def ringP (B n : Nat) (fuel : Nat) : Nat → Nat → Nat := Nat.rec (fun _ best => best) (fun _ ih cur best => force (getP B (Nat.mod (Nat.succ cur) n)) fun c => force (cond (Nat.ble best c) best c) fun b => ih c b) fuel
noncomputable def compP (R n : Nat) : Nat := force (packF (backP R n) n) fun B => packF (fun p => ringP B n n p p) n
noncomputable def distP (R n : Nat) : Nat := Nat.rec 0 (fun k ih => cond (Nat.beq (sk R (getP R k) k) 0) (Nat.succ ih) ih) n
noncomputable def anyP (f : Nat → Bool) (n : Nat) : Bool := Nat.rec false (fun k ih => cond (f k) true ih) n
noncomputable def eP (R k p : Nat) : Bool := Nat.beq (getP R k) (getP R p)
noncomputable def crossP (R n : Nat) : Bool := anyP (fun i => anyP (fun j => cond (eP R i j) false (anyP (fun k => cond (eP R i k) (anyP (fun l => eP R j l) k) false) j)) i) n
noncomputable def samePat (R S n : Nat) : Bool := Nat.rec true (fun i ih => cond (anyP (fun j => cond (eP R j i) (cond (eP S j i) false true) (eP S j i)) i) false ih) n
noncomputable def chkP (R n : Nat) : Bool :=
  force (compP R n) fun C => force (Nat.add (distP R n) (distP C n)) fun K =>
    cond (Nat.ble K (Nat.succ n)) (force (Nat.sub (Nat.succ n) K) fun lack =>
      cond (Nat.beq (Nat.mod lack 2) 0) (cond (Nat.beq lack 0) (cond (crossP R n) false (force (compP C n) fun D => samePat D (Nat.add (Nat.div R 8) (Nat.mul (Nat.mod R 8) (Nat.pow 8 (Nat.pred n)))) n)) (crossP R n)) false) false
def packL : List Nat → Nat
  | [] => 0
  | x :: r => x + packL r * 8
/-- every row of kinds, up to names: run through -/
noncomputable def allP (n fuel : Nat) : Nat → Nat → Nat → Bool := Nat.rec (fun _ _ R => chkP R n) (fun _ ih m k R => Nat.rec true (fun v ih2 => cond (force (Nat.add R (Nat.mul (Nat.succ v) (Nat.pow 8 k))) fun R' => force (cond (Nat.ble (Nat.succ v) m) m (Nat.succ v)) fun m' => ih m' (Nat.succ k) R') ih2 false) (cond (Nat.ble m 3) (Nat.succ m) 4)) fuel

theorem beq_dec (a b : Nat) : Nat.beq a b = (a == b) := by
  rw [Bool.eq_iff_iff, Nat.beq_eq]; simp
theorem eP_eq (R k p : Nat) : eP R k p = (getP R k == getP R p) := beq_dec _ _
theorem anyP_iff (f : Nat → Bool) : ∀ n, anyP f n = true ↔ ∃ i, i < n ∧ f i = true
  | 0 => by simp [anyP]
  | n + 1 => by
    have ih := anyP_iff f n
    show (cond (f n) true (anyP f n)) = true ↔ _
    cases h : f n with
    | true => simp only [cond_true, true_iff]; exact ⟨n, Nat.lt_succ_self n, h⟩
    | false =>
      simp only [cond_false, ih]
      constructor
      · rintro ⟨i, hi, e⟩; exact ⟨i, by omega, e⟩
      · rintro ⟨i, hi, e⟩
        refine ⟨i, ?_, e⟩
        by_cases q : i = n
        · subst q; rw [h] at e; cases e
        · omega
theorem anyP_false {f : Nat → Bool} {n : Nat} (h : anyP f n = false) : ∀ i < n, f i = false := fun i hi => by
  cases e : f i with
  | false => rfl
  | true => rw [(anyP_iff f n).mpr ⟨i, hi, e⟩] at h; cases h
/-- the last place with this kind -/
theorem sk_spec (R v : Nat) : ∀ k, (sk R v k = 0 ↔ (List.range k).filter (fun j => getP R j == v) = []) ∧ (sk R v k).pred = maxN ((List.range k).filter fun j => getP R j == v)
  | 0 => ⟨⟨fun _ => rfl, fun _ => rfl⟩, rfl⟩
  | k + 1 => by
    obtain ⟨h1, h2⟩ := sk_spec R v k
    have e : sk R v (k + 1) = cond (getP R k == v) (k + 1) (sk R v k) := by rw [← beq_dec]; rfl
    rw [e, List.range_succ, List.filter_append]
    cases h : getP R k == v with
    | false =>
      have hf : [k].filter (fun j => getP R j == v) = [] := by simp only [List.filter_cons, h, List.filter_nil]; rfl
      rw [hf, List.append_nil]
      exact ⟨h1, h2⟩
    | true =>
      have hm : ∀ l : List Nat, (∀ x ∈ l, x < k) → maxN (l ++ [k]) = k := fun l hl => by
        induction l with
        | nil => simp [maxN]
        | cons x r ih =>
          have := ih fun y hy => hl y (List.mem_cons_of_mem _ hy)
          have h3 := hl x List.mem_cons_self
          show max x (maxN (r ++ [k])) = k
          rw [this]; omega
      have hf : [k].filter (fun j => getP R j == v) = [k] := by simp [h]
      rw [hf, hm _ fun x hx => List.mem_range.mp (List.mem_filter.mp hx).1]
      simp
theorem packF_lt {f : Nat → Nat} : ∀ n, (∀ k, k < n → f k < 8) → packF f n < 8 ^ n
  | 0, _ => by show 0 < 1; omega
  | n + 1, h => by
    have ih := packF_lt n fun k hk => h k (by omega)
    have e : packF f (n + 1) = packF f n + f n * 8 ^ n := by
      have e1 : packF f (n + 1) = force (f n) fun x => force (packF f n) fun acc => Nat.add acc (Nat.mul x (Nat.pow 8 n)) := rfl
      rw [e1, force_eq, force_eq]; rfl
    have h2 := Nat.mul_le_mul_right (8 ^ n) (show f n + 1 ≤ 8 from h n (by omega))
    rw [e, Nat.pow_succ]
    rw [Nat.add_mul] at h2
    omega
theorem getP_add {P x n k : Nat} (hP : P < 8 ^ n) (hx : x < 8) : getP (P + x * 8 ^ n) k = if k = n then x else getP P k + (if k < n then 0 else 0) := by
  have hn : 0 < 8 ^ n := Nat.pow_pos (by omega)
  show (P + x * 8 ^ n) / 8 ^ k % 8 = _
  by_cases h : k = n
  · subst h
    rw [if_pos rfl, Nat.add_mul_div_right _ _ hn, Nat.div_eq_of_lt hP, Nat.zero_add, Nat.mod_eq_of_lt hx]
  · rw [if_neg h]
    by_cases h2 : k < n
    · obtain ⟨d, rfl⟩ : ∃ d, n = k + (d + 1) := ⟨n - k - 1, by omega⟩
      have e : x * 8 ^ (k + (d + 1)) = (x * 8 ^ d * 8) * 8 ^ k := by
        rw [Nat.pow_add, Nat.pow_succ]; 
        rw [Nat.mul_comm (8 ^ k), Nat.mul_assoc, Nat.mul_assoc, Nat.mul_assoc]
      rw [e, Nat.add_mul_div_right _ _ (Nat.pow_pos (by omega)), Nat.add_mul_mod_self_right]
      simp [getP]; rfl
    · have h3 : n + 1 ≤ k := by omega
      have h4 : (8 : Nat) ^ (n + 1) ≤ 8 ^ k := Nat.pow_le_pow_right (by omega) h3
      have h5 : P + x * 8 ^ n < 8 ^ (n + 1) := by
        have h2 := Nat.mul_le_mul_right (8 ^ n) (show x + 1 ≤ 8 from hx)
        rw [Nat.add_mul] at h2
        rw [Nat.pow_succ]; omega
      have h6 : P < 8 ^ k := by
        have : (8 : Nat) ^ n ≤ 8 ^ k := Nat.pow_le_pow_right (by omega) (by omega)
        omega
      rw [Nat.div_eq_of_lt (by omega)]
      show 0 % 8 = P / 8 ^ k % 8 + _
      rw [Nat.div_eq_of_lt h6]; simp
theorem packF_get {f : Nat → Nat} : ∀ n, (∀ k, k < n → f k < 8) → ∀ k, k < n → getP (packF f n) k = f k
  | 0, _, k, hk => by omega
  | n + 1, h, k, hk => by
    have e : packF f (n + 1) = packF f n + f n * 8 ^ n := by
      have e1 : packF f (n + 1) = force (f n) fun x => force (packF f n) fun acc => Nat.add acc (Nat.mul x (Nat.pow 8 n)) := rfl
      rw [e1, force_eq, force_eq]; rfl
    rw [e, getP_add (packF_lt n fun k hk => h k (by omega)) (h n (by omega))]
    by_cases q : k = n
    · rw [if_pos q, q]
    · rw [if_neg q, packF_get n (fun k hk => h k (by omega)) k (by omega)]; simp
theorem packL_get : ∀ {t : List Nat} {i : Nat}, (∀ x ∈ t, x < 8) → getP (packL t) i = t.getD i 0
  | [], i, _ => by show 0 / 8 ^ i % 8 = 0; rw [Nat.zero_div]
  | x :: r, 0, h => by
    have := h x List.mem_cons_self
    show (x + packL r * 8) / 1 % 8 = x
    rw [Nat.div_one]; omega
  | x :: r, i + 1, h => by
    have hx := h x List.mem_cons_self
    have ih := packL_get (t := r) (i := i) fun y hy => h y (List.mem_cons_of_mem _ hy)
    show (x + packL r * 8) / 8 ^ (i + 1) % 8 = r.getD i 0
    rw [← ih, Nat.pow_succ, Nat.mul_comm (8 ^ i), ← Nat.div_div_eq_div_mul]
    have : (x + packL r * 8) / 8 = packL r := by omega
    rw [this]; rfl
theorem packL_snoc (x : Nat) : ∀ r : List Nat, packL (r ++ [x]) = packL r + x * 8 ^ r.length
  | [] => by simp [packL]
  | y :: r => by
    have := packL_snoc x r
    show y + packL (r ++ [x]) * 8 = y + packL r * 8 + x * 8 ^ (r.length + 1)
    rw [this, Nat.add_mul, Nat.pow_succ, Nat.mul_assoc]; omega
theorem packL_rot {t : List Nat} (h0 : t ≠ []) (h : ∀ x ∈ t, x < 8) : packL t / 8 + packL t % 8 * 8 ^ (t.length - 1) = packL (t.drop 1 ++ t.take 1) := by
  cases t with
  | nil => exact absurd rfl h0
  | cons x r =>
    have hx := h x List.mem_cons_self
    have e1 : packL (x :: r) / 8 = packL r := by show (x + packL r * 8) / 8 = _; omega
    have e2 : packL (x :: r) % 8 = x := by show (x + packL r * 8) % 8 = _; omega
    rw [e1, e2]
    exact (packL_snoc x r).symm
end Mine

namespace Mine
/-- the number R tells of the row A which places are alike -/
structure Rep (A : List Str) (R n : Nat) : Prop where
  len : A.length = n
  eq : ∀ i j, i < n → j < n → eqAt A i j = (getP R i == getP R j)
variable {A : List Str} {R n : Nat}
theorem alike_rep (x : Rep A R n) {p : Nat} (hp : p < n) : alikeN (eqAt A) n p = (List.range n).filter fun k => getP R k == getP R p :=
  List.filter_congr fun k hk => x.eq k p (List.mem_range.mp hk) hp
theorem filter_low {P : Nat → Bool} {p : Nat} : ∀ d, ((List.range (p + d)).filter fun k => decide (((k : Nat) : Int) < ((p : Nat) : Int)) && P k) = (List.range p).filter P
  | 0 => List.filter_congr fun k hk => by
    have := List.mem_range.mp hk
    have e : decide (((k : Nat) : Int) < ((p : Nat) : Int)) = true := decide_eq_true (by omega)
    rw [e]; rfl
  | d + 1 => by
    have e : decide ((((p + d) : Nat) : Int) < ((p : Nat) : Int)) = false := decide_eq_false (by omega)
    have e2 : [p + d].filter (fun k => decide (((k : Nat) : Int) < ((p : Nat) : Int)) && P k) = [] := by
      simp only [List.filter_cons, e, List.filter_nil]; rfl
    rw [← Nat.add_assoc, List.range_succ, List.filter_append, filter_low d, e2, List.append_nil]
theorem low_rep (x : Rep A R n) {p : Nat} (hp : p < n) : lowN (eqAt A) n p = (List.range p).filter fun k => getP R k == getP R p := by
  obtain ⟨d, rfl⟩ : ∃ d, n = p + d := ⟨n - p, by omega⟩
  unfold lowN
  rw [alike_rep x hp, List.filter_filter, filter_low d]
theorem backP_eq (x : Rep A R n) {p : Nat} (hp : p < n) : backP R n p = backN (eqAt A) n p := by
  unfold backP backN
  rw [force_eq, force_eq, alike_rep x hp, low_rep x hp, beq_dec]
  obtain ⟨h1, h2⟩ := sk_spec R (getP R p) p
  obtain ⟨_, h4⟩ := sk_spec R (getP R p) n
  by_cases h : sk R (getP R p) p = 0
  · rw [if_pos (h1.mp h), ← h4, h]; rfl
  · have e : (sk R (getP R p) p == 0) = false := by simpa using h
    rw [if_neg fun q => h (h1.mpr q), ← h2, e]; rfl
theorem minN_snoc (y : Nat) : ∀ l : List Nat, l ≠ [] → minN (l ++ [y]) = min (minN l) y
  | [x], _ => rfl
  | x :: z :: r, _ => by
    have := minN_snoc y (z :: r) (by simp)
    show min x (minN (z :: r ++ [y])) = min (min x (minN (z :: r))) y
    rw [this, Nat.min_assoc]
theorem ringP_eq {B : Nat} {e : Nat → Nat → Bool} (h0 : 0 < n) (hB : ∀ q, q < n → getP B q = backN e n q) (p : Nat) : ∀ m k, ringP B n m (itN e n p k) (minN (ringN e n p k)) = minN (ringN e n p (k + m))
  | 0, k => rfl
  | m + 1, k => by
    have e1 : ringP B n (m + 1) (itN e n p k) (minN (ringN e n p k)) = force (getP B (Nat.mod (Nat.succ (itN e n p k)) n)) fun c => force (cond (Nat.ble (minN (ringN e n p k)) c) (minN (ringN e n p k)) c) fun b => ringP B n m c b := rfl
    have e2 : getP B (Nat.mod (Nat.succ (itN e n p k)) n) = itN e n p (k + 1) := hB _ (Nat.mod_lt _ h0)
    have e3 : ringN e n p (k + 1) = ringN e n p k ++ [itN e n p (k + 1)] := by simp [ringN, List.range_succ]
    have e4 : (cond (Nat.ble (minN (ringN e n p k)) (itN e n p (k + 1))) (minN (ringN e n p k)) (itN e n p (k + 1))) = minN (ringN e n p (k + 1)) := by
      rw [e3, minN_snoc _ _ (by simp [ringN])]
      by_cases h : minN (ringN e n p k) ≤ itN e n p (k + 1)
      · rw [Nat.ble_eq.mpr h, Nat.min_eq_left h]; rfl
      · have : Nat.ble (minN (ringN e n p k)) (itN e n p (k + 1)) = false := by
          cases q : Nat.ble (minN (ringN e n p k)) (itN e n p (k + 1)) with
          | false => rfl
          | true => exact absurd (Nat.ble_eq.mp q) h
        rw [this, Nat.min_eq_right (by omega)]; rfl
    rw [e1, force_eq, force_eq, e2, e4, ringP_eq h0 hB p m (k + 1), Nat.add_assoc, Nat.add_comm 1 m]
theorem compP_get (x : Rep A R n) (h7 : n ≤ 7) {p : Nat} (hp : p < n) : getP (compP R n) p = ringMin (eqAt A) n p := by
  have h0 : 0 < n := by omega
  have hb : ∀ k, k < n → backP R n k < 8 := fun k hk => by
    rw [backP_eq x hk]
    have := back_lt (e := eqAt A) hk (eqAt_refl A k)
    omega
  have hB : ∀ q, q < n → getP (packF (backP R n) n) q = backN (eqAt A) n q := fun q hq => by rw [packF_get n hb q hq, backP_eq x hq]
  have hr : ∀ k, ringP (packF (backP R n) n) n n k k = ringMin (eqAt A) n k := fun k => by
    have := ringP_eq h0 hB k n 0
    rw [Nat.zero_add] at this
    exact this
  unfold compP
  rw [force_eq, packF_get n (fun k hk => ?_) p hp, hr]
  rw [hr]
  have := ringMin_lt (e := eqAt A) hk fun k _ => eqAt_refl A k
  omega
theorem toStr_inj {x y : List Nat} (h : toStr x = toStr y) : x = y := by
  have := congrArg cl h
  rwa [cl_toStr, cl_toStr] at this
theorem at_map_range {f : Nat → Str} {m i : Nat} (h : i < m) : at_ ((List.range m).map f) i = f i := by
  simp [at_, List.getD, h]
theorem beside_rep (x : Rep A R n) (h7 : n ≤ 7) : Rep (besideS A) (compP R n) n where
  len := by rw [← x.len]; simp [besideS, beside_length]
  eq := fun i j hi hj => by
    have e : besideS A = (List.range n).map fun p => toStr [114, 48 + ringMin (eqAt A) n p] := by
      unfold besideS besideL
      rw [x.len]; simp
    rw [compP_get x h7 hi, compP_get x h7 hj]
    show (at_ (besideS A) i == at_ (besideS A) j) = _
    rw [e, at_map_range hi, at_map_range hj]
    rw [Bool.eq_iff_iff, beq_iff_eq, beq_iff_eq]
    constructor
    · intro q
      have := toStr_inj q
      simp at this
      exact this
    · intro q
      show toStr [114, 48 + ringMin (eqAt A) n i] = toStr [114, 48 + ringMin (eqAt A) n j]
      rw [q]
theorem phs_snoc (l : List Str) (y : Str) : phs [] (l ++ [y]) = tellPh (phs [] l) y := by simp [phs]
theorem take_snoc {k : Nat} (h : k < A.length) : A.take (k + 1) = A.take k ++ [at_ A k] := by
  rw [List.take_succ, at_get h]; rfl
theorem distP_eq (x : Rep A R n) : ∀ k, k ≤ n → distP R k = kindsN (A.take k)
  | 0, _ => by simp [kindsN, phs]; rfl
  | k + 1, hk => by
    have ih := distP_eq x k (by omega)
    have e1 : distP R (k + 1) = cond (Nat.beq (sk R (getP R k) k) 0) (Nat.succ (distP R k)) (distP R k) := rfl
    have hl := x.len
    obtain ⟨h1, _⟩ := sk_spec R (getP R k) k
    have hmem : at_ A k ∈ A.take k ↔ ¬ sk R (getP R k) k = 0 := by
      rw [h1]
      constructor
      · intro q z
        obtain ⟨j, hj, e⟩ := List.mem_iff_getElem.mp q
        have hj' : j < k := by simp at hj; omega
        have hj2 : A[j]'(by omega) = at_ A k := by rw [← e]; simp
        have : j ∈ (List.range k).filter (fun j => getP R j == getP R k) := by
          refine List.mem_filter.mpr ⟨List.mem_range.mpr hj', ?_⟩
          rw [← x.eq j k (by omega) (by omega)]
          have h3 := at_get (a := A) (k := j) (by omega)
          rw [List.getElem?_eq_getElem (by omega), hj2] at h3
          unfold eqAt
          rw [← Option.some.inj h3]; simp
        rw [z] at this; cases this
      · intro q
        cases hf : (List.range k).filter (fun j => getP R j == getP R k) with
        | nil => exact absurd hf q
        | cons j r =>
          have hm : j ∈ (List.range k).filter (fun j => getP R j == getP R k) := by rw [hf]; exact List.mem_cons_self
          obtain ⟨hm1, hm2⟩ := List.mem_filter.mp hm
          have hj := List.mem_range.mp hm1
          rw [← x.eq j k (by omega) (by omega)] at hm2
          have e : at_ A j = at_ A k := by simpa [eqAt] using hm2
          rw [← e]
          have h3 := at_get (a := A) (k := j) (by omega)
          exact List.mem_of_getElem? (i := j) (by rw [List.getElem?_take_of_lt hj]; exact h3)
    rw [e1, ih, beq_dec, take_snoc (by omega)]
    unfold kindsN
    rw [phs_snoc]
    unfold tellPh
    by_cases h : sk R (getP R k) k = 0
    · rw [if_neg fun q => (hmem.mp (by simpa using mem_phs.mp q)) h, h]; simp
    · rw [if_pos (mem_phs.mpr (.inr (hmem.mpr h)))]
      have e : (sk R (getP R k) k == 0) = false := by simpa using h
      rw [e]; rfl
theorem kinds_rep (x : Rep A R n) : kindsN A = distP R n := by
  rw [distP_eq x n (Nat.le_refl _), List.take_of_length_le (by rw [x.len]; exact Nat.le_refl _)]
theorem four_nil {t : Nat → Nat → Nat → Nat → Bool} : fourAll t n = [] ↔ ∀ i j k l, i < n → j < i → k < j → l < k → t i j k l = false := by
  unfold fourAll
  simp only [List.flatMap_eq_nil_iff, four0, four1, four2, four3, List.mem_range]
  constructor
  · intro h i j k l hi hj hk hl
    have := h i hi j hj k hk l hl
    cases e : t i j k l with
    | false => rfl
    | true => rw [if_pos e] at this; cases this
  · intro h i hi j hj k hk l hl
    rw [h i j k l hi hj hk hl]; rfl
theorem cross_rep (x : Rep A R n) : crossP R n = false ↔ fourAll (crossT A) n = [] := by
  rw [four_nil]
  have key : ∀ i j k l, i < n → j < i → k < j → l < k → (crossT A i j k l = true ↔ eP R i j = false ∧ eP R i k = true ∧ eP R j l = true) := fun i j k l hi hj hk hl => by
    have a1 : eqAt A i j = eP R i j := by rw [eP_eq]; exact x.eq i j hi (by omega)
    have a2 : eqAt A i k = eP R i k := by rw [eP_eq]; exact x.eq i k hi (by omega)
    have a3 : eqAt A j l = eP R j l := by rw [eP_eq]; exact x.eq j l (by omega) (by omega)
    rw [← a1, ← a2, ← a3]
    unfold crossT eqAt
    simp only [Bool.and_eq_true, beq_iff_eq, bne_iff_ne, beq_eq_false_iff_ne]
    constructor
    · rintro ⟨h1, h2, h3⟩
      exact ⟨fun q => h2 (h1.symm.trans q), h1, h3⟩
    · rintro ⟨h1, h2, h3⟩
      exact ⟨h2, fun q => h1 (h2.trans q), h3⟩
  constructor
  · intro h i j k l hi hj hk hl
    cases e : crossT A i j k l with
    | false => rfl
    | true =>
      obtain ⟨b1, b2, b3⟩ := (key i j k l hi hj hk hl).mp e
      have : crossP R n = true := by
        refine (anyP_iff _ n).mpr ⟨i, hi, (anyP_iff _ i).mpr ⟨j, hj, ?_⟩⟩
        rw [b1]
        refine (anyP_iff _ j).mpr ⟨k, hk, ?_⟩
        rw [b2]
        exact (anyP_iff _ k).mpr ⟨l, hl, b3⟩
      rw [h] at this; cases this
  · intro h
    cases e : crossP R n with
    | false => rfl
    | true =>
      obtain ⟨i, hi, e⟩ := (anyP_iff _ n).mp e
      obtain ⟨j, hj, e⟩ := (anyP_iff _ i).mp e
      cases b1 : eP R i j with
      | true => rw [b1] at e; cases e
      | false =>
        rw [b1] at e
        obtain ⟨k, hk, e⟩ := (anyP_iff _ j).mp e
        cases b2 : eP R i k with
        | false => rw [b2] at e; cases e
        | true =>
          rw [b2] at e
          obtain ⟨l, hl, e⟩ := (anyP_iff _ k).mp e
          have := (key i j k l hi hj hk hl).mpr ⟨b1, b2, e⟩
          rw [h i j k l hi hj hk hl] at this; cases this
theorem same_low {S : Nat} : ∀ n, samePat R S n = true → ∀ i j, i < n → j < i → eP R j i = eP S j i
  | 0, _, i, j, hi, _ => by omega
  | n + 1, h, i, j, hi, hj => by
    have e : samePat R S (n + 1) = cond (anyP (fun j => cond (eP R j n) (cond (eP S j n) false true) (eP S j n)) n) false (samePat R S n) := rfl
    rw [e] at h
    cases q : anyP (fun j => cond (eP R j n) (cond (eP S j n) false true) (eP S j n)) n with
    | true => rw [q] at h; cases h
    | false =>
      rw [q] at h
      by_cases hin : i = n
      · subst hin
        have := anyP_false q j hj
        cases h1 : eP R j i <;> cases h2 : eP S j i <;> rw [h1, h2] at this <;> first | rfl | cases this
      · exact same_low n h i j (by omega) hj
theorem same_all {S : Nat} (h : samePat R S n = true) {i j : Nat} (hi : i < n) (hj : j < n) : (getP R i == getP R j) = (getP S i == getP S j) := by
  have sym : ∀ P a b, eP P a b = eP P b a := fun P a b => by rw [eP_eq, eP_eq]; exact BEq.comm
  rw [← eP_eq, ← eP_eq]
  by_cases h1 : i < j
  · exact same_low n h j i hj h1
  · by_cases h2 : j < i
    · rw [sym R, sym S]; exact same_low n h i j hi h2
    · have : i = j := by omega
      subst this; rw [eP_eq, eP_eq]; simp
theorem chkP_spec (h : chkP R n = true) : distP R n + distP (compP R n) n ≤ n + 1 ∧ (n + 1 - (distP R n + distP (compP R n) n)) % 2 = 0 ∧ (distP R n + distP (compP R n) n = n + 1 ↔ crossP R n = false) ∧
    (distP R n + distP (compP R n) n = n + 1 → samePat (compP (compP R n) n) (R / 8 + R % 8 * 8 ^ (n - 1)) n = true) := by
  unfold chkP at h
  rw [force_eq, force_eq] at h
  have h' : cond (Nat.ble (distP R n + distP (compP R n) n) (n + 1)) (force (n + 1 - (distP R n + distP (compP R n) n)) fun lack =>
      cond (Nat.beq (Nat.mod lack 2) 0) (cond (Nat.beq lack 0) (cond (crossP R n) false (force (compP (compP R n) n) fun D => samePat D (R / 8 + R % 8 * 8 ^ (n - 1)) n)) (crossP R n)) false) false = true := h
  cases h1 : Nat.ble (distP R n + distP (compP R n) n) (n + 1) with
  | false => rw [h1] at h'; cases h'
  | true =>
    rw [h1, force_eq, force_eq] at h'
    have hle := Nat.ble_eq.mp h1
    cases h2 : Nat.beq (Nat.mod (n + 1 - (distP R n + distP (compP R n) n)) 2) 0 with
    | false => rw [h2] at h'; cases h'
    | true =>
      rw [h2] at h'
      have hm : (n + 1 - (distP R n + distP (compP R n) n)) % 2 = 0 := Nat.eq_of_beq_eq_true h2
      refine ⟨hle, hm, ?_⟩
      cases h3 : Nat.beq (n + 1 - (distP R n + distP (compP R n) n)) 0 with
      | true =>
        rw [h3] at h'
        have h0 := Nat.eq_of_beq_eq_true h3
        have he : distP R n + distP (compP R n) n = n + 1 := by omega
        cases h4 : crossP R n with
        | true => rw [h4] at h'; cases h'
        | false =>
          rw [h4] at h'
          exact ⟨⟨fun _ => rfl, fun _ => he⟩, fun _ => h'⟩
      | false =>
        rw [h3] at h'
        have h0 : ¬ (n + 1 - (distP R n + distP (compP R n) n)) = 0 := fun q => by rw [q] at h3; cases h3
        have hc : crossP R n = true := h'
        rw [hc]
        exact ⟨⟨fun q => absurd q (by omega), fun q => by cases q⟩, fun q => absurd q (by omega)⟩
end Mine

namespace Mine
/-! the numbers told -/
theorem phs_prefix (l : List Str) : ∀ ph, ∃ m, phs ph l = ph ++ m := by
  induction l with
  | nil => exact fun ph => ⟨[], by simp [phs]⟩
  | cons x r ih =>
    intro ph
    obtain ⟨m, e⟩ := ih (tellPh ph x)
    have e1 : phs ph (x :: r) = phs (tellPh ph x) r := rfl
    rw [e1, e]
    unfold tellPh
    split
    · exact ⟨m, rfl⟩
    · exact ⟨x :: m, by simp⟩
theorem tells_idx (l : List Str) : ∀ ph, tells ph l = l.map fun x => (phs ph l).idxOf x + 1 := by
  induction l with
  | nil => exact fun _ => rfl
  | cons x r ih =>
    intro ph
    have e1 : phs ph (x :: r) = phs (tellPh ph x) r := rfl
    show tellNo ph x :: tells (tellPh ph x) r = _
    rw [List.map_cons, e1, ih]
    refine congrArg (· :: _) ?_
    obtain ⟨m, e⟩ := phs_prefix r (tellPh ph x)
    rw [e]
    unfold tellNo tellPh
    split
    · rename_i h
      rw [List.idxOf_append, if_pos h]
    · rename_i h
      rw [List.idxOf_append, if_pos (by simp), List.idxOf_append, if_neg h]
      simp
theorem txt_all (A : List Str) : stmtOf A = Txt.join (Str.ofString " ") (A.map fun x => told ((phs [] A).idxOf x + 1)) := by
  unfold stmtOf
  rw [join_inter, tells_idx, List.map_map]; rfl
theorem idx_inj {l : List Str} {x y : Str} (hx : x ∈ l) (hy : y ∈ l) (h : l.idxOf x = l.idxOf y) : x = y := by
  have h1 := List.getElem_idxOf (List.idxOf_lt_length_of_mem hx)
  have h2 := List.getElem_idxOf (List.idxOf_lt_length_of_mem hy)
  rw [← h1, ← h2]
  simp [h]
theorem rep_map {X : List Str} (g : Str → Nat) (h8 : ∀ x ∈ X, g x < 8) (inj : ∀ x ∈ X, ∀ y ∈ X, g x = g y → x = y) : Rep X (packL (X.map g)) X.length where
  len := rfl
  eq := fun i j hi hj => by
    have h : ∀ t ∈ X.map g, t < 8 := fun t ht => by
      obtain ⟨x, hx, rfl⟩ := List.mem_map.mp ht
      exact h8 x hx
    have gt : ∀ k, k < X.length → getP (packL (X.map g)) k = g (at_ X k) := fun k hk => by
      rw [packL_get h, List.getD, List.getElem?_map, at_get hk]; rfl
    rw [gt i hi, gt j hj]
    have mi : at_ X i ∈ X := List.mem_of_getElem? (at_get hi)
    have mj : at_ X j ∈ X := List.mem_of_getElem? (at_get hj)
    unfold eqAt
    rw [Bool.eq_iff_iff, beq_iff_eq, beq_iff_eq]
    exact ⟨fun q => by rw [q], fun q => inj _ mi _ mj q⟩
theorem idxOf_map {f : Str → Str} {x : Str} : ∀ {ph : List Str}, (∀ b ∈ ph, f b = f x → b = x) → (ph.map f).idxOf (f x) = ph.idxOf x
  | [], _ => rfl
  | b :: r, h => by
    have ih := idxOf_map (f := f) (x := x) (ph := r) fun c hc => h c (List.mem_cons_of_mem _ hc)
    rw [List.map_cons, List.idxOf_cons, List.idxOf_cons, ih]
    have : (f b == f x) = (b == x) := by
      rw [Bool.eq_iff_iff, beq_iff_eq, beq_iff_eq]
      exact ⟨h b List.mem_cons_self, fun q => by rw [q]⟩
    rw [this]
theorem mem_map_inj {f : Str → Str} {x : Str} {ph : List Str} (h : ∀ b ∈ ph, f b = f x → b = x) : f x ∈ ph.map f ↔ x ∈ ph := by
  constructor
  · intro q
    obtain ⟨b, hb, e⟩ := List.mem_map.mp q
    rw [← h b hb e]; exact hb
  · exact List.mem_map_of_mem
theorem tells_map (f : Str → Str) (l : List Str) : ∀ ph, (∀ x ∈ ph ++ l, ∀ y ∈ ph ++ l, f x = f y → x = y) → tells (ph.map f) (l.map f) = tells ph l := by
  induction l with
  | nil => exact fun _ _ => rfl
  | cons x r ih =>
    intro ph h
    have hx : ∀ b ∈ ph, f b = f x → b = x := fun b hb => h b (List.mem_append_left _ hb) x (List.mem_append_right _ List.mem_cons_self)
    have e1 : tellNo (ph.map f) (f x) = tellNo ph x := by
      unfold tellNo
      rw [idxOf_map hx, List.length_map]
      by_cases q : x ∈ ph
      · rw [if_pos q, if_pos ((mem_map_inj hx).mpr q)]
      · rw [if_neg q, if_neg fun z => q ((mem_map_inj hx).mp z)]
    have e2 : tellPh (ph.map f) (f x) = (tellPh ph x).map f := by
      unfold tellPh
      by_cases q : x ∈ ph
      · rw [if_pos q, if_pos ((mem_map_inj hx).mpr q)]
      · rw [if_neg q, if_neg fun z => q ((mem_map_inj hx).mp z)]; simp
    show tellNo (ph.map f) (f x) :: tells (tellPh (ph.map f) (f x)) (r.map f) = tellNo ph x :: tells (tellPh ph x) r
    rw [e1, e2, ih]
    have sub : ∀ z ∈ tellPh ph x ++ r, z ∈ ph ++ x :: r := fun z hz => by
      rcases List.mem_append.mp hz with q | q
      · unfold tellPh at q
        split at q
        · exact List.mem_append_left _ q
        · rcases List.mem_append.mp q with q | q
          · exact List.mem_append_left _ q
          · rw [List.mem_singleton.mp q]; exact List.mem_append_right _ List.mem_cons_self
      · exact List.mem_append_right _ (List.mem_cons_of_mem _ q)
    exact fun y hy z hz => h y (sub y hy) z (sub z hz)
/-- rows with the same pattern are told with the same numbers -/
theorem tells_pat {X Y : List Str} (hl : X.length = Y.length) (h : ∀ i j, i < X.length → j < X.length → eqAt X i j = eqAt Y i j) : tells [] X = tells [] Y := by
  have hx : ∀ i, i < X.length → X.idxOf (at_ X i) < X.length ∧ at_ Y (X.idxOf (at_ X i)) = at_ Y i := fun i hi => by
    have hm : at_ X i ∈ X := List.mem_of_getElem? (at_get hi)
    have h1 := List.idxOf_lt_length_of_mem hm
    have h2 := List.getElem_idxOf h1
    have h3 : at_ X (X.idxOf (at_ X i)) = at_ X i := by
      have := at_get h1
      rw [List.getElem?_eq_getElem h1, h2] at this
      exact (Option.some.inj this).symm
    refine ⟨h1, ?_⟩
    have := h _ _ h1 hi
    unfold eqAt at this
    rw [h3] at this
    simpa using this.symm
  have e : Y = X.map fun x => at_ Y (X.idxOf x) := by
    refine List.ext_getElem? fun i => ?_
    rw [List.getElem?_map]
    by_cases hi : i < X.length
    · rw [at_get hi, at_get (by omega)]
      exact congrArg some (hx i hi).2.symm
    · rw [List.getElem?_eq_none (by omega), List.getElem?_eq_none (by omega)]; rfl
  have := tells_map (fun x => at_ Y (X.idxOf x)) X [] fun x hx' y hy' q => ?_
  · rw [← e] at this
    exact this.symm
  · obtain ⟨i, hi, ei⟩ := List.mem_iff_getElem.mp (show x ∈ X by simpa using hx')
    obtain ⟨j, hj, ej⟩ := List.mem_iff_getElem.mp (show y ∈ X by simpa using hy')
    have gi : at_ X i = x := by
      have := at_get hi
      rw [List.getElem?_eq_getElem hi, ei] at this
      exact (Option.some.inj this).symm
    have gj : at_ X j = y := by
      have := at_get hj
      rw [List.getElem?_eq_getElem hj, ej] at this
      exact (Option.some.inj this).symm
    have q' : at_ Y (X.idxOf x) = at_ Y (X.idxOf y) := q
    rw [← gi, ← gj, (hx i hi).2, (hx j hj).2] at q'
    have := h i j hi hj
    unfold eqAt at this
    rw [q', gi, gj] at this
    simpa using this
/-! all rows -/
def Valid : Nat → List Nat → Prop
  | _, [] => True
  | m, x :: r => 1 ≤ x ∧ x ≤ m + 1 ∧ x ≤ 4 ∧ Valid (if x ≤ m then m else x) r
theorem rec_all {g : Nat → Bool} : ∀ N, (Nat.rec true (fun v ih => cond (g v) ih false) N : Bool) = true → ∀ v, v < N → g v = true
  | 0, _, v, hv => by omega
  | N + 1, h, v, hv => by
    have h' : cond (g N) (Nat.rec true (fun v ih => cond (g v) ih false) N : Bool) false = true := h
    cases e : g N with
    | false => rw [e] at h'; cases h'
    | true =>
      rw [e] at h'
      by_cases q : v = N
      · rw [q]; exact e
      · exact rec_all N h' v (by omega)
theorem allP_sound {n : Nat} : ∀ (t : List Nat) (m k R : Nat), Valid m t → m ≤ 4 → allP n t.length m k R = true → chkP (R + packL t * 8 ^ k) n = true
  | [], m, k, R, _, _, h => by
    have : chkP R n = true := h
    simpa [packL] using this
  | x :: r, m, k, R, hv, hm, h => by
    obtain ⟨h1, h2, h3, h4⟩ := hv
    have h' : (Nat.rec true (fun v ih2 => cond (force (Nat.add R (Nat.mul (Nat.succ v) (Nat.pow 8 k))) fun R' => force (cond (Nat.ble (Nat.succ v) m) m (Nat.succ v)) fun m' => allP n r.length m' (Nat.succ k) R') ih2 false) (cond (Nat.ble m 3) (Nat.succ m) 4) : Bool) = true := h
    have hN : x - 1 < cond (Nat.ble m 3) (Nat.succ m) 4 := by
      cases q : Nat.ble m 3 with
      | true => show x - 1 < m + 1; omega
      | false => show x - 1 < 4; omega
    have := rec_all _ h' (x - 1) hN
    rw [force_eq, force_eq] at this
    have ex : Nat.succ (x - 1) = x := by show x - 1 + 1 = x; omega
    rw [ex] at this
    have em : cond (Nat.ble x m) m x = if x ≤ m then m else x := by
      by_cases q : x ≤ m
      · rw [if_pos q, Nat.ble_eq.mpr q]; rfl
      · rw [if_neg q]
        cases z : Nat.ble x m with
        | false => rfl
        | true => exact absurd (Nat.ble_eq.mp z) q
    rw [em] at this
    have ih := allP_sound r (if x ≤ m then m else x) (k + 1) (R + x * 8 ^ k) h4 (by split <;> omega) this
    have e : R + packL (x :: r) * 8 ^ k = R + x * 8 ^ k + packL r * 8 ^ (k + 1) := by
      show R + (x + packL r * 8) * 8 ^ k = _
      rw [Nat.add_mul, Nat.pow_succ, Nat.mul_assoc, Nat.mul_comm 8 (8 ^ k), Nat.add_assoc]
    rw [e]; exact ih
/-! the check, in small parts -/
def pre : Nat → Nat → Nat → Nat → List (Nat × Nat)
  | 0, m, _, R => [(m, R)]
  | d + 1, m, k, R => (List.range (if m ≤ 3 then m + 1 else 4)).flatMap fun v => pre d (if v + 1 ≤ m then m else v + 1) (k + 1) (R + (v + 1) * 8 ^ k)
theorem all_rec {g : Nat → Bool} : ∀ N, (∀ v, v < N → g v = true) → (Nat.rec true (fun v ih => cond (g v) ih false) N : Bool) = true
  | 0, _ => rfl
  | N + 1, h => by
    show cond (g N) (Nat.rec true (fun v ih => cond (g v) ih false) N : Bool) false = true
    rw [h N (by omega)]
    exact all_rec N fun v hv => h v (by omega)
theorem allP_pre {n : Nat} : ∀ (d f m k R : Nat), (∀ q ∈ pre d m k R, allP n f q.1 (k + d) q.2 = true) → allP n (d + f) m k R = true
  | 0, f, m, k, R, h => by
    have := h (m, R) (by simp [pre])
    rw [Nat.zero_add]; exact this
  | d + 1, f, m, k, R, h => by
    rw [show d + 1 + f = (d + f) + 1 by omega]
    show (Nat.rec true (fun v ih2 => cond (force (Nat.add R (Nat.mul (Nat.succ v) (Nat.pow 8 k))) fun R' => force (cond (Nat.ble (Nat.succ v) m) m (Nat.succ v)) fun m' => allP n (d + f) m' (Nat.succ k) R') ih2 false) (cond (Nat.ble m 3) (Nat.succ m) 4) : Bool) = true
    refine all_rec _ fun v hv => ?_
    rw [force_eq, force_eq]
    have hN : cond (Nat.ble m 3) (Nat.succ m) 4 = if m ≤ 3 then m + 1 else 4 := by
      by_cases q : m ≤ 3
      · rw [if_pos q, Nat.ble_eq.mpr q]; rfl
      · rw [if_neg q]
        cases z : Nat.ble m 3 with
        | false => rfl
        | true => exact absurd (Nat.ble_eq.mp z) q
    have em : cond (Nat.ble (Nat.succ v) m) m (Nat.succ v) = if v + 1 ≤ m then m else v + 1 := by
      by_cases q : v + 1 ≤ m
      · rw [if_pos q, Nat.ble_eq.mpr q]; rfl
      · rw [if_neg q]
        cases z : Nat.ble (Nat.succ v) m with
        | false => rfl
        | true => exact absurd (Nat.ble_eq.mp z) q
    rw [hN] at hv
    rw [em]
    refine allP_pre d f _ (k + 1) (R + (v + 1) * 8 ^ k) fun q hq => ?_
    have := h q (by
      unfold pre
      exact List.mem_flatMap.mpr ⟨v, List.mem_range.mpr hv, hq⟩)
    rw [show k + 1 + d = k + (d + 1) by omega]; exact this
theorem c4 : allP 4 4 0 0 0 = true := by decide +kernel
theorem c5 : allP 5 5 0 0 0 = true := by decide +kernel
theorem c6_0 : allP 6 3 1 3 73 = true := by decide +kernel
theorem c6_1 : allP 6 3 2 3 137 = true := by decide +kernel
theorem c6_2 : allP 6 3 2 3 81 = true := by decide +kernel
theorem c6_3 : allP 6 3 2 3 145 = true := by decide +kernel
theorem c6_4 : allP 6 3 3 3 209 = true := by decide +kernel
theorem c6 : allP 6 6 0 0 0 = true := allP_pre 3 3 0 0 0 fun q hq => by
  rw [show pre 3 0 0 0 = [(1, 73), (2, 137), (2, 81), (2, 145), (3, 209)] by decide +kernel] at hq
  simp only [List.mem_cons, List.not_mem_nil, or_false] at hq
  rcases hq with rfl | rfl | rfl | rfl | rfl
  · exact c6_0
  · exact c6_1
  · exact c6_2
  · exact c6_3
  · exact c6_4
theorem c7_0 : allP 7 3 1 4 585 = true := by decide +kernel
theorem c7_1 : allP 7 3 2 4 1097 = true := by decide +kernel
theorem c7_2 : allP 7 3 2 4 649 = true := by decide +kernel
theorem c7_3 : allP 7 3 2 4 1161 = true := by decide +kernel
theorem c7_4 : allP 7 3 3 4 1673 = true := by decide +kernel
theorem c7_5 : allP 7 3 2 4 593 = true := by decide +kernel
theorem c7_6 : allP 7 3 2 4 1105 = true := by decide +kernel
theorem c7_7 : allP 7 3 3 4 1617 = true := by decide +kernel
theorem c7_8 : allP 7 3 2 4 657 = true := by decide +kernel
theorem c7_9 : allP 7 3 2 4 1169 = true := by decide +kernel
theorem c7_10 : allP 7 3 3 4 1681 = true := by decide +kernel
theorem c7_11 : allP 7 3 3 4 721 = true := by decide +kernel
theorem c7_12 : allP 7 3 3 4 1233 = true := by decide +kernel
theorem c7_13 : allP 7 3 3 4 1745 = true := by decide +kernel
theorem c7_14 : allP 7 3 4 4 2257 = true := by decide +kernel
theorem c7 : allP 7 7 0 0 0 = true := allP_pre 4 3 0 0 0 fun q hq => by
  rw [show pre 4 0 0 0 = [(1, 585), (2, 1097), (2, 649), (2, 1161), (3, 1673), (2, 593), (2, 1105), (3, 1617), (2, 657), (2, 1169), (3, 1681), (3, 721), (3, 1233), (3, 1745), (4, 2257)] by decide +kernel] at hq
  simp only [List.mem_cons, List.not_mem_nil, or_false] at hq
  rcases hq with rfl | rfl | rfl | rfl | rfl | rfl | rfl | rfl | rfl | rfl | rfl | rfl | rfl | rfl | rfl
  · exact c7_0
  · exact c7_1
  · exact c7_2
  · exact c7_3
  · exact c7_4
  · exact c7_5
  · exact c7_6
  · exact c7_7
  · exact c7_8
  · exact c7_9
  · exact c7_10
  · exact c7_11
  · exact c7_12
  · exact c7_13
  · exact c7_14
theorem chk_all {t : List Nat} (h1 : 4 ≤ t.length) (h2 : t.length ≤ 7) (hv : Valid 0 t) : chkP (packL t) t.length = true := by
  have h : allP t.length t.length 0 0 0 = true := by
    have : t.length = 4 ∨ t.length = 5 ∨ t.length = 6 ∨ t.length = 7 := by omega
    rcases this with e | e | e | e <;> rw [e]
    · exact c4
    · exact c5
    · exact c6
    · exact c7
  have := allP_sound t 0 0 0 hv (by omega) h
  simpa using this
theorem nodup_le {α : Type} [BEq α] [LawfulBEq α] : ∀ (l m : List α), l.Nodup → (∀ x ∈ l, x ∈ m) → l.length ≤ m.length
  | [], m, _, _ => Nat.zero_le _
  | x :: r, m, hd, hs => by
    obtain ⟨h1, h2⟩ := List.nodup_cons.mp hd
    have hx := hs x List.mem_cons_self
    have ih := nodup_le r (m.erase x) h2 fun y hy => (List.mem_erase_of_ne (fun q : y = x => h1 (by rw [← q]; exact hy))).mpr (hs y (List.mem_cons_of_mem _ hy))
    have := List.length_erase_of_mem hx
    have : 0 < m.length := List.length_pos_of_mem hx
    simp only [List.length_cons]; omega
theorem tellPh_nodup {ph : List Str} {x : Str} (h : ph.Nodup) : (tellPh ph x).Nodup := by
  unfold tellPh
  split
  · exact h
  · rename_i q
    rw [List.nodup_append]
    exact ⟨h, by simp, fun a ha b hb => by rw [List.mem_singleton.mp hb]; rintro rfl; exact q ha⟩
theorem tells_valid {m : List Str} (hm : m.length ≤ 4) : ∀ (l ph : List Str), ph.Nodup → (∀ x ∈ ph ++ l, x ∈ m) → Valid ph.length (tells ph l)
  | [], _, _, _ => trivial
  | x :: r, ph, hd, hs => by
    have hd2 := tellPh_nodup (x := x) hd
    have hs2 : ∀ y ∈ tellPh ph x ++ r, y ∈ m := fun y hy => by
      refine hs y ?_
      rcases List.mem_append.mp hy with q | q
      · unfold tellPh at q
        split at q
        · exact List.mem_append_left _ q
        · rcases List.mem_append.mp q with q | q
          · exact List.mem_append_left _ q
          · rw [List.mem_singleton.mp q]; exact List.mem_append_right _ List.mem_cons_self
      · exact List.mem_append_right _ (List.mem_cons_of_mem _ q)
    have ih := tells_valid hm r (tellPh ph x) hd2 hs2
    have hl := nodup_le (tellPh ph x) m hd2 fun y hy => hs2 y (List.mem_append_left _ hy)
    have hlen : (tellPh ph x).length = if tellNo ph x ≤ ph.length then ph.length else tellNo ph x := by
      unfold tellPh tellNo
      by_cases q : x ∈ ph
      · have := List.idxOf_lt_length_of_mem q
        rw [if_pos q, if_pos q, if_pos (by omega)]
      · rw [if_neg q, if_neg q, if_neg (by omega)]; simp
    have hno : 1 ≤ tellNo ph x ∧ tellNo ph x ≤ ph.length + 1 ∧ tellNo ph x ≤ (tellPh ph x).length := by
      unfold tellPh tellNo
      by_cases q : x ∈ ph
      · have := List.idxOf_lt_length_of_mem q
        rw [if_pos q, if_pos q]; omega
      · rw [if_neg q, if_neg q]; simp
    refine ⟨hno.1, hno.2.1, by omega, ?_⟩
    rw [← hlen]; exact ih
theorem holds1 {A : List Str} {m : List Str} (hm : m.length ≤ 4) (hA : ∀ x ∈ A, x ∈ m) (h4 : 4 ≤ A.length) (h7 : A.length ≤ 7) : Holds1 A := by
  have hlen := tells_length A []
  have hval := tells_valid hm A [] (by simp) (by simpa using hA)
  have hchk := chk_all (by omega) (by omega) hval
  rw [hlen] at hchk
  have hg8 : ∀ x ∈ A, (phs [] A).idxOf x + 1 < 8 + 1 := fun x hx => by
    have h1 := List.idxOf_lt_length_of_mem (mem_phs.mpr (.inr hx) : x ∈ phs [] A)
    have h2 := kinds_le A
    unfold kindsN at h2; omega
  have htl : ∀ t ∈ tells [] A, t < 8 := by
    have hvs : ∀ (t : List Nat) k, Valid k t → ∀ x ∈ t, x < 8 := fun t => by
      induction t with
      | nil => intro _ _ x hx; cases hx
      | cons y r ih =>
        intro k hv x hx
        obtain ⟨_, _, h3, h4⟩ := hv
        rcases List.mem_cons.mp hx with rfl | hx
        · omega
        · exact ih _ h4 x hx
    exact hvs _ _ hval
  have hinj : ∀ x ∈ A, ∀ y ∈ A, (phs [] A).idxOf x + 1 = (phs [] A).idxOf y + 1 → x = y := fun x hx y hy q =>
    idx_inj (mem_phs.mpr (.inr hx)) (mem_phs.mpr (.inr hy)) (Nat.succ.inj q)
  have hg : ∀ x ∈ A, (phs [] A).idxOf x + 1 < 8 := fun x hx => htl _ (by rw [tells_idx]; exact List.mem_map.mpr ⟨x, hx, rfl⟩)
  have rep : Rep A (packL (tells [] A)) A.length := by
    rw [tells_idx]; exact rep_map _ hg hinj
  have repB := beside_rep rep h7
  have repD := beside_rep repB h7
  obtain ⟨s1, s2, s3, s4⟩ := chkP_spec hchk
  rw [← kinds_rep rep, ← kinds_rep repB] at s1 s2 s3 s4
  refine ⟨txt_all A, s1, s2, s3.trans (cross_rep rep), fun q => ?_⟩
  have sp := s4 q
  have h0 : tells [] A ≠ [] := fun z => by rw [z] at hlen; simp at hlen; omega
  have e := packL_rot h0 htl
  rw [hlen] at e
  rw [e] at sp
  have mrot : ∀ x ∈ A.drop 1 ++ A.take 1, x ∈ A := fun x hx => by
    rcases List.mem_append.mp hx with z | z
    · exact List.mem_of_mem_drop z
    · exact List.mem_of_mem_take z
  have repR := rep_map (X := A.drop 1 ++ A.take 1) (fun x => (phs [] A).idxOf x + 1) (fun x hx => hg x (mrot x hx)) fun x hx y hy => hinj x (mrot x hx) y (mrot y hy)
  have el : (A.drop 1 ++ A.take 1).length = A.length := by simp; omega
  have et : (A.drop 1 ++ A.take 1).map (fun x => (phs [] A).idxOf x + 1) = (tells [] A).drop 1 ++ (tells [] A).take 1 := by
    rw [tells_idx]; simp [List.map_drop, List.map_take]
  rw [et, el] at repR
  have : tells [] (besideS (besideS A)) = tells [] (A.drop 1 ++ A.take 1) := by
    refine tells_pat (by rw [el, repD.len]) fun i j hi hj => ?_
    rw [repD.len] at hi hj
    rw [repD.eq i j hi hj, repR.eq i j hi hj]
    exact same_all sp hi hj
  unfold stmtOf
  rw [this]
theorem holds_all (sc : List Int) : Holds1 (namesOf sc) := by
  obtain ⟨m1, m2⟩ := many_between sc
  have hl := names_length sc
  refine holds1 (m := [[97], [98], [99], [100]].map toStr) (by simp) (fun x hx => ?_) (by omega) (by omega)
  obtain ⟨a, ha, rfl⟩ := List.mem_map.mp hx
  exact List.mem_map.mpr ⟨a, hs_abcd sc a ha, rfl⟩
end Mine

namespace Mine
abbrev tabs1 : List (Addr × Addr) := [(112, 108)]
section
variable {w : World} {g : Heap} {mg mb : Str → Option Value} {loose : List Str} {mean : ExcName → Option Value}
theorem law_ground (X : (Mine.hd.heap_39 w.params).In g) (T : Top topProg loose mean mg mb g) (c1 : CodeHd g 112 108) : LawG g mg mb where
  conv := {
    names := {
      g := T.g
      b := T.b
      len := ⟨mg_none_of X T.g (by rfl), (T.builtins _ (by decide +kernel)).trans (by rfl)⟩
      str := ⟨mg_none_of X T.g (by rfl), (T.builtins _ (by decide +kernel)).trans (by rfl)⟩
      ve := ⟨mg_none_of X T.g (by rfl), (T.builtins _ (by decide +kernel)).trans (by rfl)⟩
      map := ⟨mg_none_of X T.g (by rfl), (T.builtins _ (by decide +kernel)).trans (by rfl)⟩
      enum := ⟨mg_none_of X T.g (by rfl), (T.builtins _ (by decide +kernel)).trans (by rfl)⟩
      tup := ⟨mg_none_of X T.g (by rfl), (T.builtins _ (by decide +kernel)).trans (by rfl)⟩ }
    hlim := T.nolimit
    hd := c1
    main := T.bmain
    fn := fnOf_in X (convFdS.2 _)
    rec_ := ⟨112, _, _, _, rfl, X _ _ rfl, rfl, rfl⟩ }
  range := ⟨mg_none_of X T.g (by rfl), (T.builtins _ (by decide +kernel)).trans (by rfl)⟩
  max := ⟨mg_none_of X T.g (by rfl), (T.builtins _ (by decide +kernel)).trans (by rfl)⟩
  min := ⟨mg_none_of X T.g (by rfl), (T.builtins _ (by decide +kernel)).trans (by rfl)⟩
  list := ⟨mg_none_of X T.g (by rfl), (T.builtins _ (by decide +kernel)).trans (by rfl)⟩
  cv := mg_of X T.g (by rfl)
  told := mg_of X T.g (by rfl)
  comp := mg_of X T.g (by rfl)
  fnT := fnOf_in X (toldFdS.2 _)
  recT := ⟨118, _, _, _, rfl, X _ _ rfl, rfl, rfl⟩
  fnP := fnOf_in X (compFdS.2 _)
  recP := ⟨123, _, _, _, rfl, X _ _ rfl, rfl, rfl⟩
  rest := ⟨_, _, mg_of X T.g (by rfl), ⟨_, X _ _ rfl, rfl, _, rfl⟩, by repeat' (first | exact .nil | refine .cons _ _ ?_)⟩
end

/-- the surroundings of the law -/
def lawCx (cd : Value) (w : World) (L fa : Addr) : Cx :=
  { prog := Challenge.rw_em5014_01.row.toRowW.prog, w := w, A := callerA.deeper (lEnv cd L fa), R := GrowR [L, 108], W := [L, 108], own := (lEnv cd L fa).cells.map (·.2), chg := (lEnv cd L fa).cells.map (·.2), tabs := [108] }
theorem l_cells (cd : Value) (L fa : Addr) : (lEnv cd L fa).cells = ([("kinds", L + 3), ("names", L + 2), ("script", L + 1)] : List (Str × Addr)) := rfl

section
variable {cd : Value} {w : World} {s₁ : Shared} {h₁ : Heap} {tk₁ : Nat} {fa la : Addr} {sc : List Int} {vs : List Value} {xs : List WData} {mg mb m : Str → Option Value} {loose : List Str} {mean : ExcName → Option Value} {E : Value → Shared → Prop} {Q : Flow → Shared → Prop}
theorem law_run (hT : TabsAt tabs1 s₁.heap) (hg : s₁.gens = #[]) (X' : (Mine.hd.heap_39 w.params).In (ghostOf s₁.heap tabs1)) (T' : Top topProg loose mean mg mb (ghostOf s₁.heap tabs1))
    (F' : Fr (ghostOf s₁.heap tabs1) s₁.heap.objs.size h₁ m) (c1 : CodeHd (ghostOf s₁.heap tabs1) 112 108)
    (cs : ∀ i : Nat, 1 ≤ i → i ≤ 3 → ∃ v, h₁.IsCell (s₁.heap.objs.size + i) v) (script : h₁.IsCell (s₁.heap.objs.size + 1) (some (.ref la))) (t1 : h₁.get? 108 = some (tabObj #[]))
    (hw : Well w.params s₁.heap (.ref la) (.list xs)) (hL : s₁.heap.IsList la vs.toArray) (hI : IntsAre vs sc) (hsc : sc.length ≤ 100)
    (q : ∀ s', (∀ b o, (ghostOf s₁.heap tabs1).get? b = some o → s'.heap.get? b = some o) → s'.os = s₁.os → AllBare s'.gens → GrownAll tabs1 s'.heap → Q (.ret (.bool true)) s') :
    wpAny (model Challenge.rw_em5014_01.row.toRowW.prog w) (callerA.deeper (lEnv cd s₁.heap.objs.size fa)) (execs lawBody (lEnv cd s₁.heap.objs.size fa)) Q E { s₁ with heap := h₁, toks := tk₁ } := by
  have e1 := (hT _ List.mem_cons_self).2
  have l1 : 108 < s₁.heap.objs.size := Heap.lt_size e1
  have ghost : ∀ {b o}, s₁.heap.get? b = some o → b ≠ 108 → (ghostOf s₁.heap tabs1).get? b = some o := fun {b o} e h1 => ghost_ne e (by simp [h1])
  have under : ∀ {b o}, (ghostOf s₁.heap tabs1).get? b = some o → s₁.heap.get? b = some o ∧ b ≠ 108 := fun {b o} e => by
    refine ⟨of_hideAll _ e, ?_⟩
    rintro rfl
    rw [show (ghostOf s₁.heap tabs1).get? 108 = none from hideAll_none _ (by simp)] at e; cases e
  have k1 : ∀ b o, s₁.heap.get? b = some o → b ≠ 108 → h₁.get? b = some o := fun b o e n1 => F'.keep b o (ghost e n1)
  have hla := well_list hw hL
  have hlal := Heap.lt_size hla
  have hla1 : la ≠ 108 := by rintro rfl; rw [e1] at hla; cases hla
  have cl : ∀ x ca, (lEnv cd s₁.heap.objs.size fa).cells.lookup x = some ca → ∃ i : Nat, 1 ≤ i ∧ i ≤ 3 ∧ ca = s₁.heap.objs.size + i := fun x ca e => by
    have hm := mem_of_lookup e
    rw [l_cells] at hm
    simp only [List.mem_cons, Prod.mk.injEq, List.not_mem_nil, or_false] at hm
    rcases hm with h | h | h
    · exact ⟨3, by omega, by omega, h.2⟩
    · exact ⟨2, by omega, by omega, h.2⟩
    · exact ⟨1, by omega, by omega, h.2⟩
  have own : ∀ a ∈ (lawCx cd w s₁.heap.objs.size fa).own, ∃ i : Nat, 1 ≤ i ∧ i ≤ 3 ∧ a = s₁.heap.objs.size + i := fun a ha => by
    have : a ∈ (lEnv cd s₁.heap.objs.size fa).cells.map (·.2) := ha
    rw [l_cells] at this
    simp only [List.map_cons, List.map_nil, List.mem_cons, List.not_mem_nil, or_false] at this
    rcases this with h | h | h
    · exact ⟨3, by omega, by omega, h⟩
    · exact ⟨2, by omega, by omega, h⟩
    · exact ⟨1, by omega, by omega, h⟩
  have mW : ∀ a, a ∈ (lawCx cd w s₁.heap.objs.size fa).W ↔ a = s₁.heap.objs.size ∨ a = 108 := fun a => by
    show a ∈ [s₁.heap.objs.size, 108] ↔ _
    simp
  have mT : ∀ a, a ∈ (lawCx cd w s₁.heap.objs.size fa).tabs ↔ a = 108 := fun a => by
    show a ∈ [(108 : Addr)] ↔ _
    simp
  have F : Fn (lawCx cd w s₁.heap.objs.size fa) (lEnv cd s₁.heap.objs.size fa) s₁ [108] := {
    ok := ⟨GrowR.refl _, GrowR.trans, keepsR, fun x => x.heap, fun x _ => x.bare, by show callerA.depth + 1 ≤ 560; decide, fun a ha => (mW a).mpr (.inr ((mT a).mp ha)), by show callerA.units + 3 ≤ 200; decide⟩
    rel := rfl
    W := rfl
    kind := rfl
    notTab := fun h => by
      have : s₁.heap.objs.size = 108 := (mT _).mp h
      omega
    newL := Heap.get?_none_of_le (Nat.le_refl _)
    newOwn := fun a ha => by
      obtain ⟨i, h1, h2, rfl⟩ := own a ha
      exact Heap.get?_none_of_le (Nat.le_add_right _ _)
    sub := fun _ h => h
    cells := fun x a e => by
      refine ⟨List.mem_map.mpr ⟨_, mem_of_lookup e, rfl⟩, fun h => ?_⟩
      obtain ⟨i, h1, h2, rfl⟩ := cl x a e
      rcases (mW _).mp h with h | h
      · have : s₁.heap.objs.size + i = s₁.heap.objs.size := h
        omega
      · have : s₁.heap.objs.size + i = 108 := h
        omega
    apart := fun x y a ex ey => by
      refine same_of_apart ?_ (mem_of_lookup ex) (mem_of_lookup ey)
      rw [l_cells]
      simp only [List.pairwise_cons, List.mem_cons, List.not_mem_nil, or_false, forall_eq_or_imp, forall_eq, List.Pairwise.nil, and_true]
      refine ⟨⟨?_, ?_⟩, ?_⟩ <;> (first | omega | (intro q; exact absurd q (by omega)) | simp) }
  have low : Low (lawCx cd w s₁.heap.objs.size fa) h₁ := {
    frames := fun a ha hn => by
      rcases (mW a).mp ha with rfl | h
      · exact ⟨m, F'.ns⟩
      · exact absurd ((mT a).mpr h) hn
    tabsAt := fun a ha => by
      refine ⟨(mW a).mpr (.inr ((mT a).mp ha)), #[], ⟨?_, trivial⟩, fun pos cv z => by cases z⟩
      rw [(mT a).mp ha]
      exact t1
    owned := fun a ha => by
      obtain ⟨i, h1, h2, rfl⟩ := own a ha
      obtain ⟨v, o, ho, _⟩ := cs i h1 h2
      exact ⟨o, ho⟩ }
  have ground := law_ground X' T' c1
  have X : Run (lawCx cd w s₁.heap.objs.size fa) (lEnv cd s₁.heap.objs.size fa) s₁ { s₁ with heap := h₁, toks := tk₁ } [108] [("script", .ints sc)] [] { s₁ with heap := h₁, toks := tk₁ } := {
    at_ := ⟨GrowH.refl _ _, fun _ => .of_eq hg, low⟩
    vars := fun x d e => by
      rw [List.lookup_cons] at e
      by_cases h : x = "script"
      · subst h
        simp only [beq_self_eq_true] at e
        cases e
        refine ⟨.ref la, ⟨rfl, .inr ⟨.inl rfl, (s₁.heap.objs.size + 1 : Nat), rfl, fun h => ?_, script⟩⟩, la, vs, rfl, fun h => ?_, ⟨0, k1 _ _ hla hla1⟩, hI⟩
        · rcases (mW _).mp h with h | h
          · have : s₁.heap.objs.size + 1 = s₁.heap.objs.size := h
            omega
          · have : s₁.heap.objs.size + 1 = 108 := h
            omega
        · rcases List.mem_append.mp h with h | h
          · rcases (mW _).mp h with h | h
            · exact Nat.lt_irrefl _ (h ▸ hlal)
            · exact hla1 h
          · obtain ⟨i, h1, h2, h3⟩ := own _ h
            have h4 : la = s₁.heap.objs.size + i := h3
            rw [h4] at hlal
            exact absurd hlal (Nat.not_lt.mpr (Nat.le_add_right _ _))
      · have : (x == ("script" : Str)) = false := by simpa using h
        rw [this] at e
        cases e
    owns := fun x a d e => by cases e
    cellsAt := fun x ca e => by
      obtain ⟨i, h1, h2, rfl⟩ := cl x ca e
      obtain ⟨v, hv⟩ := cs i h1 h2
      exact ⟨v, hv⟩
    since := ⟨⟨fun b o e n => k1 b o e (fun z => n (by simp [z])), (fun b mm hb e => by
        obtain ⟨o, es, ep, ho, hd, _⟩ := e
        rw [List.mem_singleton.mp hb, e1] at ho; cases ho; cases hd), (fun b ps hb e => by
        refine ⟨ps, ⟨?_, e.2⟩, fun pos cv z => .inl z⟩
        have e0 := e.1
        rw [List.mem_singleton.mp hb] at e0 ⊢; rw [e1] at e0; rw [t1]; exact e0)⟩, rfl, id⟩
    kept := fun b o e _ => e }
  refine lawAll F trivial rfl (by show callerA.depth + 1 ≤ 530; decide) (by show callerA.units + 3 ≤ 160; decide) (g₀ := ghostOf s₁.heap tabs1) (fun b o e => ?_) ground ((mT _).mpr rfl) rfl (fun c' eT L a hp hw' hA => ?_) hsc (holds_all sc) X fun s' g => ?_
  · obtain ⟨h1, h2⟩ := under e
    exact ⟨h1, by simp [h2]⟩
  · have hw2 : c'.w = w := hw'
    exact count_isl (c := c') (envL := lEnv cd s₁.heap.objs.size fa) (envT := eT) hp hA (by rw [hw2]; exact X') T'
  · have gt : s₁.heap.get? 108 = some (tabObj #[]) → GrownAt 108 s'.heap := fun e => by
      obtain ⟨ps, h1, _⟩ := g.heap.tab 108 #[] (by simp) ⟨e, trivial⟩
      exact ⟨ps, h1.1⟩
    refine q s' (fun b o e => ?_) g.os (g.bare (.of_eq hg)) ⟨gt e1, trivial⟩
    obtain ⟨h1, h2⟩ := under e
    exact g.heap.keep b o h1 (by simp [h2])
end
end Mine

namespace Mine
local macro_rules | `(tactic| kn_posts) => `(tactic| refine law_post (by assumption) ?_)
theorem headed : PySem.Challenge.rw_em5014_01.Holds := by
  refine Mine.hd ?_
  w_on
  w_strict (k_go0; (all_goals try k_fold))
  rename News _ _ _ _ => nn
  rename Frag.In _ _ => xx
  rename Fr _ _ _ _ => ff
  rename Below _ _ _ _ => bb
  rename IntsAre _ _ => ii
  rename TabsAt _ _ => tt
  have big : List.length ‹List Int› ≤ 100 := by omega
  refine law_run tt ‹_› xx ‹_› ff ‹_› ?cs ?script ?t1 ‹Well _ _ _ _› ‹_› ii big ?q
  case t1 => exact (nn _ (.tail _ (.tail _ (.tail _ (.head _))))).1
  case script => exact ⟨_, (nn _ (.tail _ (.tail _ (.head _)))).1, by assumption⟩
  case cs =>
    intro i h1 h2
    have h : i = 1 ∨ i = 2 ∨ i = 3 := by omega
    rcases h with rfl | rfl | rfl
    · exact ⟨_, _, (nn _ (.tail _ (.tail _ (.head _)))).1, by assumption⟩
    · exact ⟨_, _, (nn _ (.tail _ (.head _))).1, by assumption⟩
    · exact ⟨_, _, (nn _ (.head _)).1, by assumption⟩
  case q =>
    intro s' hk hos hb hgr
    exact ⟨⟨⟨true, rfl, by wrow_post⟩, fun _ => rfl, hk, hos, hb⟩, hgr⟩
end Mine

theorem PySem.Challenge.cw_em5014_01_holds : PySem.Challenge.rw_em5014_01.Holds := by
  exact Mine.headed
