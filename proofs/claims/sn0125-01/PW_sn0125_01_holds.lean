import PyProof.Rows.All
import Wide.All
import OpenK.AllK
import KE.KDictOf
import KE.KDictList
import KE.KFromBytes
import KE.KSortTup
import KE.KRevSl
import Wide.FinOn
import PySem.Challenge.RW_sn0125_01
open PySem PySem.W PyProof.Rows
set_option Elab.async false
set_option linter.unusedVariables false
set_option maxRecDepth 100000
set_option maxHeartbeats 8000000
namespace Mine
open_top hd for PySem.Challenge.rw_sn0125_01
end Mine

namespace Mine

/-- what lies at an address, of a part of the heap -/
abbrev Zp := Addr → Option Obj
def Sub (Z Z' : Zp) : Prop := ∀ b o, Z b = some o → Z' b = some o
theorem Sub.refl (Z : Zp) : Sub Z Z := fun _ _ e => e
theorem Sub.trans {Z Z' Z'' : Zp} (x : Sub Z Z') (y : Sub Z' Z'') : Sub Z Z'' := fun b o e => y b o (x b o e)
def put (Z : Zp) (a : Addr) (o : Obj) : Zp := fun b => if b = a then some o else Z b
theorem put_self (Z : Zp) (a : Addr) (o : Obj) : put Z a o a = some o := by simp [put]
theorem put_ne {Z : Zp} {a b : Addr} (o : Obj) (h : b ≠ a) : put Z a o b = Z b := by simp [put, h]
theorem Sub.put {Z : Zp} {a : Addr} {o : Obj} (h : Z a = none) : Sub Z (Mine.put Z a o) := fun b x e => by
  have : b ≠ a := fun q => by rw [q, h] at e; cases e
  rw [put_ne o this]; exact e

/-- from the start (Z, s) to (Z', s'): what stood stands; what is laid new in Z' is new -/
structure Step (Z : Zp) (s : Shared) (Z' : Zp) (s' : Shared) : Prop where
  zz : Sub Z Z'
  zh : Sub Z' s'.heap.get?
  hh : Sub s.heap.get? s'.heap.get?
  old : ∀ b, b < s.heap.objs.size → Z b = none → Z' b = none
  sz : s.heap.objs.size ≤ s'.heap.objs.size
  gens : AllBare s.gens → AllBare s'.gens
  os : s'.os = s.os

namespace Step
variable {Z Z' Z'' : Zp} {s s' s'' : Shared}
theorem refl (h : Sub Z s.heap.get?) : Step Z s Z s := ⟨Sub.refl _, h, Sub.refl _, fun _ _ e => e, Nat.le_refl _, id, rfl⟩
theorem trans (x : Step Z s Z' s') (y : Step Z' s' Z'' s'') : Step Z s Z'' s'' :=
  ⟨x.zz.trans y.zz, y.zh, x.hh.trans y.hh, fun b hb e => y.old b (Nat.lt_of_lt_of_le hb x.sz) (x.old b hb e), Nat.le_trans x.sz y.sz, fun g => y.gens (x.gens g), y.os.trans x.os⟩
/-- a new object that stays as it is -/
theorem push (x : Step Z s Z' s') {o : Obj} {tk : Nat} (ho : o.isFreed = false := by rfl) :
    Step Z s (put Z' s'.heap.objs.size o) { s' with heap := s'.heap.push o, toks := tk } := by
  have hn : Z' s'.heap.objs.size = none := by
    cases e : Z' s'.heap.objs.size with
    | none => rfl
    | some o' => exact absurd (Heap.lt_size (x.zh _ _ e)) (Nat.lt_irrefl _)
  refine ⟨x.zz.trans (Sub.put hn), fun b o' e => ?_, fun b o' e => Heap.get?_push_of_some _ (x.hh b o' e), fun b hb e => ?_, by simp only [Heap.size_push]; exact Nat.le_succ_of_le x.sz, x.gens, x.os⟩
  · by_cases h : b = s'.heap.objs.size
    · subst h; rw [put_self] at e; cases e; exact Heap.get?_push_size _ ho
    · rw [put_ne o h] at e; exact Heap.get?_push_of_some _ (x.zh b o' e)
  · rw [put_ne o (Nat.ne_of_lt (Nat.lt_of_lt_of_le hb x.sz))]; exact x.old b hb e
/-- a new object that may be turned later -/
theorem pushM (x : Step Z s Z' s') {o : Obj} {tk : Nat} : Step Z s Z' { s' with heap := s'.heap.push o, toks := tk } :=
  ⟨x.zz, fun b o' e => Heap.get?_push_of_some _ (x.zh b o' e), fun b o' e => Heap.get?_push_of_some _ (x.hh b o' e), x.old, by simp only [Heap.size_push]; exact Nat.le_succ_of_le x.sz, x.gens, x.os⟩
theorem tk (x : Step Z s Z' s') {t : Nat} : Step Z s Z' { s' with toks := t } := ⟨x.zz, x.zh, x.hh, x.old, x.sz, x.gens, x.os⟩
/-- a new object is turned -/
theorem upd (x : Step Z s Z' s') {h' : Heap} {a : Addr} {t : Nat} (ha : s.heap.objs.size ≤ a) (hz : Z' a = none) (hs : Heap.SameBut a s'.heap h') : Step Z s Z' { s' with heap := h', toks := t } :=
  ⟨x.zz, fun b o e => (hs.2 b fun q => by rw [q, hz] at e; cases e).trans (x.zh b o e), fun b o e => (hs.2 b (Nat.ne_of_lt (Nat.lt_of_lt_of_le (Heap.lt_size e) ha))).trans (x.hh b o e), x.old,
    by show _ ≤ h'.objs.size; rw [hs.1]; exact x.sz, x.gens, x.os⟩
/-- the heap grows in a way that is not told -/
theorem keeps (x : Step Z s Z' s') {h' : Heap} {t : Nat} (hk : ∀ b o, s'.heap.get? b = some o → h'.get? b = some o) (hz : s'.heap.objs.size ≤ h'.objs.size) : Step Z s Z' { s' with heap := h', toks := t } :=
  ⟨x.zz, fun b o e => hk b o (x.zh b o e), fun b o e => hk b o (x.hh b o e), x.old, Nat.le_trans x.sz hz, x.gens, x.os⟩
/-- what was turned stays from now on -/
theorem freeze (x : Step Z s Z' s') {a : Addr} {o : Obj} (ha : s.heap.objs.size ≤ a) (ho : s'.heap.get? a = some o) (hz : Z' a = none) : Step Z s (Mine.put Z' a o) s' :=
  ⟨x.zz.trans (Sub.put hz), fun b o' e => by
    by_cases h : b = a
    · subst h; rw [put_self] at e; cases e; exact ho
    · rw [put_ne o h] at e; exact x.zh b o' e, x.hh, fun b hb e => by
    rw [put_ne o (Nat.ne_of_lt (Nat.lt_of_lt_of_le hb ha))]; exact x.old b hb e, x.sz, x.gens, x.os⟩
theorem none_of_new (x : Step Z s Z' s') : Z' s'.heap.objs.size = none := by
  cases e : Z' s'.heap.objs.size with
  | none => rfl
  | some o' => exact absurd (Heap.lt_size (x.zh _ _ e)) (Nat.lt_irrefl _)
end Step

noncomputable abbrev KP := hd.heap_39

/-- the world behind the top -/
structure Wd (w : World) (h : Heap) : Prop where
  nolimit : h.NoLimit
  kin : (KP w.params).In h
  g : ∃ mg, h.Ns mainGlobals mg
  b : ∃ mb, h.Ns builtinsNs mb ∧ ∀ x : Str, x ≠ "__name__" → mb x = bootBuiltins x
  bm : ∃ mg bm ob, BMod h mainGlobals mg bm ob
theorem Wd.keeps {w : World} {h h' : Heap} (W : Wd w h) (hk : ∀ b o, h.get? b = some o → h'.get? b = some o) : Wd w h' :=
  ⟨W.nolimit.keeps hk, W.kin.keeps hk, let ⟨mg, a⟩ := W.g; ⟨mg, a.keeps hk⟩, let ⟨mb, a, b⟩ := W.b; ⟨mb, a.keeps hk, b⟩, let ⟨mg, bm, ob, a⟩ := W.bm; ⟨mg, bm, ob, a.keeps hk⟩⟩

theorem Wd.big {w : World} {h : Heap} (W : Wd w h) : sysModules < h.objs.size := Nat.lt_trans (by decide) (Heap.lt_size (W.kin 22 _ rfl))

theorem name_of_ns {K : Frag} {h : Heap} {a : Addr} {mg : Str → Option Value} {x : Str} {r : Option Value} (X : K.In h) (N : h.Ns a mg) (e : nsIn K a x = some r) : mg x = r := by
  unfold nsIn at e
  split at e
  · rename_i c d es n sl hl
    obtain ⟨o, es', ep, ho, hd, hk, hm⟩ := N
    rw [X _ _ hl] at ho
    cases ho
    cases hd
    rw [← hm x]
    unfold nsFind findBy
    obtain ⟨l⟩ := es
    rw [List.find?_toArray]
    split at e
    · rename_i e' he'
      cases e
      simp only [he', Option.map_some]
    · rename_i he'
      split at e
      · cases e
      · cases e
        simp only [he', Option.map_none]
  · cases e

section
variable {w : World} {M : Model} {A : Around} {E : Value → Shared → Prop} {s : Shared} {env : Env} {Q : Value → Shared → Prop}
theorem ld_fn {x : Str} {pos : Pos} {v : Value} (W : Wd w s.heap) (e : nsIn (KP w.params) mainGlobals x = some (some v)) (h : Q v s)
    (hk : env.scope.kind = .function := by rfl) (hx : env.kindOf x = some .globalImplicit := by rfl) (hg : env.globals = mainGlobals := by rfl)
    (hd : (x == ("__debug__" : Str)) = false := by decide) : wpAny M A (eval (.Name x pos) env) Q E s := by
  obtain ⟨mg, N⟩ := W.g
  exact Calls.Name_function_global hk hx (Calls.loadGlobal_global (hg ▸ N) (name_of_ns W.kin N e) h) hd
theorem ld_bi {x : Str} {pos : Pos} {v : Value} (W : Wd w s.heap) (e : nsIn (KP w.params) mainGlobals x = some none) (hv : bootBuiltins x = some v) (h : Q v s)
    (hn : x ≠ "__name__" := by decide)
    (hk : env.scope.kind = .function := by rfl) (hx : env.kindOf x = some .globalImplicit := by rfl) (hg : env.globals = mainGlobals := by rfl) (hb : env.builtins = builtinsNs := by rfl)
    (hd : (x == ("__debug__" : Str)) = false := by decide) : wpAny M A (eval (.Name x pos) env) Q E s := by
  obtain ⟨mg, N⟩ := W.g
  obtain ⟨mb, B, hB⟩ := W.b
  exact Calls.Name_function_global hk hx (Calls.loadGlobal_builtin (hg ▸ N) (name_of_ns W.kin N e) (hb ▸ B) ((hB x hn).trans hv) h) hd
theorem ld_loc {x : Str} {pos : Pos} {v : Value} {m : Str → Option Value} (N : s.heap.Ns env.locals m) (hv : m x = some v) (h : Q v s)
    (hk : env.scope.kind = .function := by rfl) (hl : env.kindOf x = some .local := by rfl)
    (hd : (x == ("__debug__" : Str)) = false := by decide) : wpAny M A (eval (.Name x pos) env) Q E s := wpAny_Name (wpAny_loadName_local hk hl N hv h) hd
theorem st_loc {x : Str} {v : Value} {m : Str → Option Value} {Q : Unit → Shared → Prop} (N : s.heap.Ns env.locals m)
    (h : ∀ h', h'.Ns env.locals (fun y => if y = x then some v else m y) → Heap.SameBut env.locals s.heap h' → Q () { s with heap := h', toks := s.toks + 1 })
    (hk : env.scope.kind = .function := by rfl) (hl : env.kindOf x = some .local := by rfl) : wpAny M A (storeName env x v) Q E s :=
  wpAny_storeName_local hl N h (by rw [hk]; rfl)
end

section
variable {w : World} {prog : Program} {A : Around} {E : Value → Shared → Prop} {s : Shared} {Q : Value → Shared → Prop}
/-- a def of the text is called; no exception leaves it -/
theorem call_fn {f : Addr} {args : List Value} {kw : List (Str × Value)} {name qual : Str} {params : Arguments} {body : List Stmt} {scope : Scope} {dV kV doc pm cdv ct oc : Value} {an od : Option Addr} {osl : Array (Option Value)} {binds : List (Str × Value)}
    (W : Wd w s.heap) (hroom : A.depth < recursionLimit)
    (ho : (KP w.params).lookup f = some ⟨oc, od, .func (fnOf name qual params body scope dV kV doc pm an cdv ct), osl⟩)
    (hcd : codeIn (KP w.params) cdv qual = true)
    (hbind : BindsTo s (fnOf name qual params body scope dV kV doc pm an cdv ct) ⟨args, kw⟩ binds)
    (h : ∀ h', h'.Ns s.heap.objs.size (fun x => binds.reverse.lookup x) → (∀ b o, s.heap.get? b = some o → h'.get? b = some o) → s.heap.objs.size < h'.objs.size →
      wpAny (model prog w) (A.deeper (envOf qual scope s.heap.objs.size f cdv)) (execs body (envOf qual scope s.heap.objs.size f cdv)) (fun fl s' => Q (match fl with | .ret v => v | _ => .none) s') (fun _ _ => False)
        { s with heap := h', toks := s.toks + binds.length })
    (hloc : ∀ x ∈ binds, scope.names.lookup x.1 = some .local)
    (hcell : ∀ x ∈ scope.names, x.2 ≠ .cell := by decide)
    (hco : scope.isCoroutine = false := by rfl) (hgen : scope.isGenerator = false := by rfl) (hk : scope.kind = .function := by rfl) :
    wpAny (model prog w) A (call (.ref f) args kw) Q E s := by
  refine wpAny_call (codeAny_call_def hroom (W.kin _ _ ho) rfl W.nolimit (codeRec_of W.kin hcd) rfl hbind hcell hloc (fun h₀ hns hk => ?_) hco hgen hk)
  exact wpAny_mono (h h₀ hns hk hns.lt) (fun _ _ q => q) fun _ _ q => q.elim
end
end Mine

namespace Mine

def tupZ (Z : Zp) (a : Addr) (xs : List Value) : Prop := ∃ n, Z a = some { cls := .type "tuple", data := .seq xs.toArray n }
def lstZ (Z : Zp) (a : Addr) (xs : List Value) : Prop := ∃ n, Z a = some { cls := .type "list", data := .seq xs.toArray n }
def dicZ (Z : Zp) (a : Addr) (es : List DictEntry) : Prop := ∃ n, Z a = some { cls := .type "dict", data := .dict es.toArray n } ∧ sysModules < a
theorem tupZ.mono {Z Z' : Zp} {a xs} (h : tupZ Z a xs) (k : Sub Z Z') : tupZ Z' a xs := let ⟨n, e⟩ := h; ⟨n, k _ _ e⟩
theorem lstZ.mono {Z Z' : Zp} {a xs} (h : lstZ Z a xs) (k : Sub Z Z') : lstZ Z' a xs := let ⟨n, e⟩ := h; ⟨n, k _ _ e⟩
theorem dicZ.mono {Z Z' : Zp} {a xs} (h : dicZ Z a xs) (k : Sub Z Z') : dicZ Z' a xs := let ⟨n, e, l⟩ := h; ⟨n, k _ _ e, l⟩

/-- the value of a place -/
inductive IsVal (Z : Zp) : Nat → Value → Prop
  | i0 (t) : IsVal Z 0 (.int 0 t)
  | bf : IsVal Z 1 (.bool false)
  | i1 (t) : IsVal Z 2 (.int 1 t)
  | bt : IsVal Z 3 (.bool true)
  | s0 (t) : IsVal Z 4 (.str (Str.ofString "") t)
  | s1 (t) : IsVal Z 5 (.str (Str.ofString "0") t)
  | s2 (t) : IsVal Z 6 (.str (Str.ofString "True") t)
  | non : IsVal Z 7 .none
  | t0 {a} : tupZ Z a [] → IsVal Z 8 (.ref a)
  | t1 {a t} : tupZ Z a [.int 0 t] → IsVal Z 9 (.ref a)
  | t2 {a} : tupZ Z a [.bool false] → IsVal Z 10 (.ref a)
  | l0 {a} : lstZ Z a [] → IsVal Z 11 (.ref a)
  | l1 {a t} : lstZ Z a [.int 0 t] → IsVal Z 12 (.ref a)
  | l2 {a} : lstZ Z a [.bool false] → IsVal Z 13 (.ref a)
  | d0 {a} : dicZ Z a [] → IsVal Z 14 (.ref a)
  | d1 {a t} : dicZ Z a [⟨0, .int 0 t, .bool true⟩] → IsVal Z 15 (.ref a)
  | d2 {a t} : dicZ Z a [⟨0, .bool false, .int 1 t⟩] → IsVal Z 16 (.ref a)
  | m1 (t) : IsVal Z 17 (.int (-1) t)
theorem IsVal.mono {Z Z' : Zp} {p : Nat} {v : Value} (h : IsVal Z p v) (k : Sub Z Z') : IsVal Z' p v := by
  cases h with
  | i0 t => exact .i0 t
  | bf => exact .bf
  | i1 t => exact .i1 t
  | bt => exact .bt
  | s0 t => exact .s0 t
  | s1 t => exact .s1 t
  | s2 t => exact .s2 t
  | non => exact .non
  | t0 h => exact .t0 (h.mono k)
  | t1 h => exact .t1 (h.mono k)
  | t2 h => exact .t2 (h.mono k)
  | l0 h => exact .l0 (h.mono k)
  | l1 h => exact .l1 (h.mono k)
  | l2 h => exact .l2 (h.mono k)
  | d0 h => exact .d0 (h.mono k)
  | d1 h => exact .d1 (h.mono k)
  | d2 h => exact .d2 (h.mono k)
  | m1 t => exact .m1 t
theorem IsVal.lt {Z : Zp} {p : Nat} {v : Value} (h : IsVal Z p v) : p < 18 := by cases h <;> decide

def worth (p : Nat) : Nat := [0, 0, 1, 1, 2, 3, 4, 5, 6, 7, 7, 8, 9, 9, 10, 11, 11, 12].getD p 0
def kind (p : Nat) : Nat := [0, 1, 0, 1, 2, 2, 2, 3, 4, 4, 4, 5, 5, 5, 6, 6, 6, 0].getD p 0

def IsRow (Z : Zp) (p : Nat) (v : Value) : Prop := ∃ t x k1 k2, v = .ref t ∧ tupZ Z t [x, .int (worth p) k1, .int (kind p) k2] ∧ IsVal Z p x
theorem IsRow.mono {Z Z' : Zp} {p : Nat} {v : Value} (h : IsRow Z p v) (k : Sub Z Z') : IsRow Z' p v :=
  let ⟨t, x, k1, k2, e, h1, h2⟩ := h; ⟨t, x, k1, k2, e, h1.mono k, h2.mono k⟩
inductive Rows2 {α β : Type} (R : α → β → Prop) : List α → List β → Prop
  | nil : Rows2 R [] []
  | cons {a b as bs} : R a b → Rows2 R as bs → Rows2 R (a :: as) (b :: bs)
namespace Rows2
variable {α β : Type} {R R' : α → β → Prop}
theorem length : ∀ {as : List α} {bs : List β}, Rows2 R as bs → as.length = bs.length
  | _, _, .nil => rfl
  | _, _, .cons _ t => by simp [t.length]
theorem mono (h : ∀ a b, R a b → R' a b) : ∀ {as : List α} {bs : List β}, Rows2 R as bs → Rows2 R' as bs
  | _, _, .nil => .nil
  | _, _, .cons x t => .cons (h _ _ x) (t.mono h)
theorem append : ∀ {as as' : List α} {bs bs' : List β}, Rows2 R as bs → Rows2 R as' bs' → Rows2 R (as ++ as') (bs ++ bs')
  | _, _, _, _, .nil, y => y
  | _, _, _, _, .cons x t, y => .cons x (t.append y)
theorem snoc {as : List α} {bs : List β} {a : α} {b : β} (h : Rows2 R as bs) (x : R a b) : Rows2 R (as ++ [a]) (bs ++ [b]) := h.append (.cons x .nil)
theorem get : ∀ {as : List α} {bs : List β} (i : Nat) (a : α), Rows2 R as bs → as[i]? = some a → ∃ b, bs[i]? = some b ∧ R a b
  | _, _, _, _, .nil, e => by cases e
  | _, _, 0, _, .cons x _, e => by cases e; exact ⟨_, rfl, x⟩
  | _, _, i + 1, a, .cons _ t, e => t.get i a e
theorem get' : ∀ {as : List α} {bs : List β} (i : Nat) (b : β), Rows2 R as bs → bs[i]? = some b → ∃ a, as[i]? = some a ∧ R a b
  | _, _, _, _, .nil, e => by cases e
  | _, _, 0, _, .cons x _, e => by cases e; exact ⟨_, rfl, x⟩
  | _, _, i + 1, b, .cons _ t, e => t.get' i b e
theorem mem : ∀ {as : List α} {bs : List β} {a : α}, Rows2 R as bs → a ∈ as → ∃ b, b ∈ bs ∧ R a b
  | _, _, _, .cons x _, .head _ => ⟨_, .head _, x⟩
  | _, _, _, .cons _ t, .tail _ m => let ⟨b, hb, r⟩ := t.mem m; ⟨b, .tail _ hb, r⟩
theorem mem' : ∀ {as : List α} {bs : List β} {b : β}, Rows2 R as bs → b ∈ bs → ∃ a, a ∈ as ∧ R a b
  | _, _, _, .cons x _, .head _ => ⟨_, .head _, x⟩
  | _, _, _, .cons _ t, .tail _ m => let ⟨a, ha, r⟩ := t.mem' m; ⟨a, .tail _ ha, r⟩
theorem reverse : ∀ {as : List α} {bs : List β}, Rows2 R as bs → Rows2 R as.reverse bs.reverse
  | _, _, .nil => .nil
  | _, _, .cons x t => by rw [List.reverse_cons, List.reverse_cons]; exact t.reverse.snoc x
end Rows2

def IsTable (Z : Zp) (v : Value) : Prop := ∃ a items, v = .ref a ∧ lstZ Z a items ∧ Rows2 (fun x p => IsRow Z p x) items (List.range 18)

section
variable {prog : Program} {w : World} {A : Around} {E : Value → Shared → Prop} {env : Env}
/-- an expression that gives what P says, and turns nothing -/
def Yields (prog : Program) (w : World) (A : Around) (E : Value → Shared → Prop) (env : Env) (e : Expr) (P : Zp → Value → Prop) : Prop :=
  ∀ (s : Shared) (Z : Zp) (Q : Value → Shared → Prop), sysModules < s.heap.objs.size → Sub Z s.heap.get? → (∀ s' Z' v, Step Z s Z' s' → P Z' v → Q v s') → wpAny (model prog w) A (eval e env) Q E s
def Mono (P : Zp → Value → Prop) : Prop := ∀ Z Z' v, Sub Z Z' → P Z v → P Z' v

structure Elt (prog : Program) (w : World) (A : Around) (E : Value → Shared → Prop) (env : Env) (e : Expr) (P : Zp → Value → Prop) : Prop where
  yields : Yields prog w A E env e P
  mono : Mono P
  plain : ∀ rest, starEach (e :: rest) env = (false, eval e env) :: starEach rest env

theorem items_yield {pos : Pos} : ∀ {es : List Expr} {Ps : List (Zp → Value → Prop)}, Rows2 (Elt prog w A E env) es Ps → ∀ (s : Shared) (Z : Zp) (Q : List Value → Shared → Prop), sysModules < s.heap.objs.size → Sub Z s.heap.get? →
    (∀ s' Z' vs, Step Z s Z' s' → Rows2 (fun v P => P Z' v) vs Ps → Q vs s') → wpAny (model prog w) A (spliced (backTo pos (starEach es env))) Q E s
  | _, _, .nil, s, Z, Q, _, hz, h => wpAny_items_nil (h s Z [] (.refl hz) .nil)
  | _, _, .cons x t, s, Z, Q, hb, hz, h => by
    refine wpAny_items_cons ?_ (x.plain _)
    refine x.yields s Z _ hb hz fun s₁ Z₁ v S₁ p₁ => ?_
    refine items_yield t s₁ Z₁ _ (Nat.lt_of_lt_of_le hb S₁.sz) S₁.zh fun s₂ Z₂ vs S₂ p₂ => ?_
    exact h s₂ Z₂ (v :: vs) (S₁.trans S₂) (.cons (x.mono _ _ _ S₂.zz p₁) p₂)

theorem const_int {i : Int} {k : Nat} {pos : Pos} : Elt prog w A E env (.Constant (.int i) k pos) (fun _ v => ∃ t, v = .int i t) :=
  ⟨fun s Z Q _ hz h => wpAny_Constant_int (h _ Z _ (Step.refl hz).tk ⟨_, rfl⟩), fun _ _ _ _ h => h, fun _ => rfl⟩
theorem const_bool {b : Bool} {k : Nat} {pos : Pos} : Elt prog w A E env (.Constant (.bool b) k pos) (fun _ v => v = .bool b) :=
  ⟨fun s Z Q _ hz h => wpAny_Constant_bool (h _ Z _ (Step.refl hz) rfl), fun _ _ _ _ h => h, fun _ => rfl⟩
theorem const_str {x : Str} {k : Nat} {pos : Pos} : Elt prog w A E env (.Constant (.str x) k pos) (fun _ v => ∃ t, v = .str x t) :=
  ⟨fun s Z Q _ hz h => wpAny_Constant_str (h _ Z _ (Step.refl hz).tk ⟨_, rfl⟩), fun _ _ _ _ h => h, fun _ => rfl⟩
theorem const_none {k : Nat} {pos : Pos} : Elt prog w A E env (.Constant .none k pos) (fun _ v => v = .none) :=
  ⟨fun s Z Q _ hz h => wpAny_Constant_none (h _ Z _ (Step.refl hz) rfl), fun _ _ _ _ h => h, fun _ => rfl⟩
theorem const_neg {i : Int} {k : Nat} {pos pos' : Pos} : Elt prog w A E env (.UnaryOp .USub (.Constant (.int i) k pos) pos') (fun _ v => ∃ t, v = .int (-i) t) :=
  ⟨fun s Z Q _ hz h => wpAny_UnaryOp (wpAny_Constant_int (neg_int (h _ Z _ ((Step.refl hz).tk) ⟨_, rfl⟩))), fun _ _ _ _ h => h, fun _ => rfl⟩
theorem tuple_of {es : List Expr} {Ps : List (Zp → Value → Prop)} (x : Rows2 (Elt prog w A E env) es Ps) {k : Nat} {pos : Pos} (hl : Ps.length ≤ 100) :
    Elt prog w A E env (.Tuple es k pos) (fun Z v => ∃ a vs, v = .ref a ∧ tupZ Z a vs ∧ Rows2 (fun v P => P Z v) vs Ps) := by
  have mono : ∀ {es : List Expr} {Ps : List (Zp → Value → Prop)}, Rows2 (Elt prog w A E env) es Ps → ∀ {Z Z' : Zp} {vs : List Value}, Sub Z Z' → Rows2 (fun v P => P Z v) vs Ps → Rows2 (fun v P => P Z' v) vs Ps := by
    intro es Ps x
    induction x with
    | nil => intro Z Z' vs k h; cases h; exact .nil
    | cons y t ih => intro Z Z' vs k h; cases h with | cons a b => exact .cons (y.mono _ _ _ k a) (ih k b)
  refine ⟨fun s Z Q hb hz h => ?_, fun Z Z' v hk ⟨a, vs, e, h1, h2⟩ => ⟨a, vs, e, h1.mono hk, mono x hk h2⟩, fun _ => rfl⟩
  refine wpAny_Tuple (items_yield x s Z _ hb hz fun s' Z' vs S R => ⟨by rw [R.length]; exact Nat.le_trans hl (by rw [sizeLine_eq]; decide), ?_⟩)
  exact h _ _ _ (S.push (tk := s'.toks)) ⟨_, vs, rfl, ⟨0, put_self _ _ _⟩, mono x (Sub.put S.none_of_new) R⟩
theorem list_of {es : List Expr} {Ps : List (Zp → Value → Prop)} (x : Rows2 (Elt prog w A E env) es Ps) {pos : Pos} (hl : Ps.length ≤ 100) :
    Elt prog w A E env (.List es pos) (fun Z v => ∃ a vs, v = .ref a ∧ lstZ Z a vs ∧ Rows2 (fun v P => P Z v) vs Ps) := by
  have mono : ∀ {es : List Expr} {Ps : List (Zp → Value → Prop)}, Rows2 (Elt prog w A E env) es Ps → ∀ {Z Z' : Zp} {vs : List Value}, Sub Z Z' → Rows2 (fun v P => P Z v) vs Ps → Rows2 (fun v P => P Z' v) vs Ps := by
    intro es Ps x
    induction x with
    | nil => intro Z Z' vs k h; cases h; exact .nil
    | cons y t ih => intro Z Z' vs k h; cases h with | cons a b => exact .cons (y.mono _ _ _ k a) (ih k b)
  refine ⟨fun s Z Q hb hz h => ?_, fun Z Z' v hk ⟨a, vs, e, h1, h2⟩ => ⟨a, vs, e, h1.mono hk, mono x hk h2⟩, fun _ => rfl⟩
  refine wpAny_List (items_yield x s Z _ hb hz fun s' Z' vs S R => ⟨by rw [R.length]; exact Nat.le_trans hl (by rw [sizeLine_eq]; decide), ?_⟩)
  exact h _ _ _ (S.push (tk := s'.toks)) ⟨_, vs, rfl, ⟨0, put_self _ _ _⟩, mono x (Sub.put S.none_of_new) R⟩
theorem Elt.imp {e : Expr} {P P' : Zp → Value → Prop} (x : Elt prog w A E env e P) (h : ∀ Z v, P Z v → P' Z v) (m : Mono P') : Elt prog w A E env e P' :=
  ⟨fun s Z Q hb hz k => x.yields s Z Q hb hz fun s' Z' v S p => k s' Z' v S (h _ _ p), m, x.plain⟩

/-- the hash of a bool -/
theorem pyHash_bool {s : Shared} {b : Bool} {Q : Int → Shared → Prop} (h : Q (if b then 1 else 0) { s with toks := s.toks + 1 }) : wpAny (model prog w) A (pyHash (.bool b)) Q E s := by
  have hT : s.TypeIs (.bool b) "bool" := rfl
  unfold pyHash
  show wpAny _ _ (pyHashByItsType (.bool b)) _ _ _
  unfold pyHashByItsType
  refine wpAny_bind (wpAny_cRoomFor_byValue rfl ?_)
  refine wpAny_bind (wpAny_specialOf hT F.slot_bool_hash.lookup ?_)
  show wpAny _ _ (if (some (Value.builtin "int.__hash__") == some Value.none) = true then _ else _) Q E s
  rw [if_neg (by rw [beq_builtin_none]; exact Bool.false_ne_true)]
  refine wpAny_bind (wpAny_specialOf hT F.slot_bool_hash.lookup ?_)
  show wpAny _ _ (callSpecialIfBoundUnlessNone? (.bool b) "__hash__" _ >>= _) Q E s
  refine wpAny_bind (wpAny_callSpecialIfBoundUnlessNone?_slot hT F.slot_bool_hash
    (wpAny_call_entry F.slot_bool_hash hT F.entry_int_hash
      (show wpAny _ _ (do ret (← mkInt (rawHash (if b then 1 else 0)))) _ _ s from wpAny_ret_mkInt ?_) (F.args_int_hash_1 _)))
  cases b <;> exact wpAny_pure h
/-- the hash of None -/
theorem pyHash_none {s : Shared} {Q : Int → Shared → Prop} (h : Q 0xFCA86420 { s with toks := s.toks + 1 }) : wpAny (model prog w) A (pyHash .none) Q E s := by
  have hT : s.TypeIs .none "NoneType" := rfl
  unfold pyHash
  show wpAny _ _ (pyHashByItsType .none) _ _ _
  unfold pyHashByItsType
  refine wpAny_bind (wpAny_cRoomFor_byValue rfl ?_)
  refine wpAny_bind (wpAny_specialOf hT F.slot_NoneType_hash.lookup ?_)
  show wpAny _ _ (if (some (Value.builtin "NoneType.__hash__") == some Value.none) = true then _ else _) Q E s
  rw [if_neg (by rw [beq_builtin_none]; exact Bool.false_ne_true)]
  refine wpAny_bind (wpAny_specialOf hT F.slot_NoneType_hash.lookup ?_)
  show wpAny _ _ (callSpecialIfBoundUnlessNone? .none "__hash__" _ >>= _) Q E s
  refine wpAny_bind (wpAny_callSpecialIfBoundUnlessNone?_slot hT F.slot_NoneType_hash
    (wpAny_call_entry F.slot_NoneType_hash hT F.entry_NoneType_hash
      (show wpAny _ _ (do ret (← mkInt 0xFCA86420)) _ _ s from wpAny_ret_mkInt ?_) (F.args_NoneType_hash_1 _)))
  exact wpAny_pure h

/-- the first entry of a dict, by a key that is no heap object and no str -/
theorem dictSet_first {s : Shared} {d : Addr} {n : Nat} {key v : Value} {hash : Int} {Q : Unit → Shared → Prop} (ho : s.heap.get? d = some { cls := .type "dict", data := .dict #[] n })
    (hk : carriedByValue key = true) (hs : ∀ x t, key ≠ .str x t)
    (hh : ∀ {Q' : Int → Shared → Prop}, Q' hash { s with toks := s.toks + 1 } → wpAny (model prog w) A (pyHash key) Q' E s)
    (h : ∀ h' m, h'.get? d = some { cls := .type "dict", data := .dict #[⟨hash, key, v⟩] m } → Heap.SameBut d s.heap h' → Q () { s with heap := h', toks := s.toks + 1 }) : wpAny (model prog w) A (dictSet d key v) Q E s := by
  unfold dictSet
  refine wpAny_holding (wpAny_bind (hh ?_))
  unfold dictSetHashed
  refine wpAny_holding (wpAny_bind ?_)
  unfold dictFind
  refine wpAny_holding (wpAny_bind (wpAny_dictEntries (s := { s with toks := s.toks + 1 }) ho rfl ?_))
  have e0 : placesWithHash (#[] : Array DictEntry).size (fun i => (#[] : Array DictEntry)[i]?.map (·.hash)) hash = [] := by simp [placesWithHash]
  have fin : wpAny (model prog w) A (rule "dict.set.new-key-at-the-end" >>= fun _ => updateDictKeys d (fun x => x.push ⟨hash, key, v⟩) (keyPart key)) Q E { s with toks := s.toks + 1 } := by
    refine wpAny_bind (wpAny_rule (wpAny_updateDictKeys (s := { s with toks := s.toks + 1 }) ho rfl (h _ (n + 1) ?_ (Heap.SameBut.update ..)) (Nat.zero_le _)))
    exact Heap.get?_update_self _ ho rfl
  cases key with
  | str x t => exact absurd rfl (hs x t)
  | ref a => cases hk
  | _ =>
    dsimp only
    rw [e0]
    simp only [List.filterMap_nil, List.all_cons, List.all_nil, Bool.and_true, carriedByValue, if_true]
    exact wpAny_of_eq (a := none) rfl fin
end
end Mine

namespace Mine

section
variable {prog : Program} {w : World} {A : Around} {E : Value → Shared → Prop} {env : Env}
theorem Elt.run {e : Expr} {P : Zp → Value → Prop} (x : Elt prog w A E env e P) {s : Shared} {Z : Zp} {Q : Value → Shared → Prop} (hb : sysModules < s.heap.objs.size) (hz : Sub Z s.heap.get?) (h : ∀ s' Z' v, Step Z s Z' s' → P Z' v → Q v s') : wpAny (model prog w) A (eval e env) Q E s := x.yields s Z Q hb hz h
theorem dict0_of {pos : Pos} : Elt prog w A E env (.Dict [] [] pos) (fun Z v => ∃ a, v = .ref a ∧ dicZ Z a []) :=
  ⟨fun s Z Q hb hz h => by
    rw [eval_Dict_empty]
    refine wpAny_bind (wpAny_standAt ?_)
    exact wpAny_newObj_type (h _ _ _ ((Step.refl hz).push (tk := s.toks)) ⟨_, rfl, 0, put_self _ _ _, hb⟩) (by size_fits),
   fun Z Z' v hk ⟨a, e, h⟩ => ⟨a, e, h.mono hk⟩, fun _ => rfl⟩

structure KeyOk (prog : Program) (w : World) (hash : Int) (k : Value) : Prop where
  byValue : carriedByValue k = true
  noStr : ∀ x t, k ≠ .str x t
  hash : ∀ {A : Around} {E : Value → Shared → Prop} {s : Shared} {Q : Int → Shared → Prop}, Q hash { s with toks := s.toks + 1 } → wpAny (model prog w) A (pyHash k) Q E s

theorem dict1_of {ke ve : Expr} {hash : Int} {Pk Pv : Value → Prop} {pos : Pos} (hk : Elt prog w A E env ke (fun _ k => Pk k)) (hv : Elt prog w A E env ve (fun _ v => Pv v)) (ok : ∀ k, Pk k → KeyOk prog w hash k) :
    Elt prog w A E env (.Dict [some ke] [ve] pos) (fun Z v => ∃ a k x, v = .ref a ∧ dicZ Z a [⟨hash, k, x⟩] ∧ Pk k ∧ Pv x) := by
  refine ⟨fun s Z Q hb hz h => ?_, fun Z Z' v hk ⟨a, k, x, e, h1, h2⟩ => ⟨a, k, x, e, h1.mono hk, h2⟩, fun _ => rfl⟩
  rw [arm_eval_Dict]
  refine wpAny_bind (wpAny_standAt ?_)
  have shp : (evalEachOpt [some ke] env).zip ((evalEach [ve] env).map fun v => do let x ← v; standAt pos; pure x) = [(eval ke env, do let x ← eval ve env; standAt pos; pure x)].map fun p => (some p.1, p.2) := by rfl
  rw [shp, dictDisplay_pairs _ (by simp) (by simp)]
  refine wpAny_bind ?_
  unfold subDict
  refine wpAny_bind (wpAny_alloc (wpAny_bind (wpAny_holding ?_)))
  rw [if_pos (by simp)]
  have S0 : Step Z s Z { s with heap := s.heap.push { cls := .type "dict", data := .dict #[] } } := (Step.refl hz).pushM (tk := s.toks)
  have hd0 : Z s.heap.objs.size = none := (Step.refl hz).none_of_new
  refine wpAny_bind (evalPairs_cons ?_)
  refine hk.yields _ Z _ (Nat.lt_of_lt_of_le hb S0.sz) S0.zh fun s1 Z1 k S1 pk => ?_
  refine wpAny_bind ?_
  refine hv.yields _ Z1 _ (Nat.lt_of_lt_of_le hb (S0.trans S1).sz) S1.zh fun s2 Z2 x S2 pv => ?_
  refine wpAny_bind (wpAny_standAt (wpAny_pure (evalPairs_nil ?_)))
  have S := S0.trans (S1.trans S2)
  have S12 := S1.trans S2
  have ho : s2.heap.get? s.heap.objs.size = some { cls := .type "dict", data := .dict #[] } := S12.hh _ _ (Heap.get?_push_size _ rfl)
  have hz2 : Z2 s.heap.objs.size = none := S12.old _ (by simp) hd0
  have K := ok k pk
  refine wpAny_holding ?_
  rw [List.forIn_cons]
  dsimp only
  refine wpAny_bind (wpAny_bind (wpAny_bind (dictSet_first ho K.byValue K.noStr K.hash fun h' m hd hs => wpAny_pure ?_)))
  dsimp only
  rw [List.forIn_nil]
  refine wpAny_pure (wpAny_pure (wpAny_pure ?_))
  have S3 := S.upd (t := s2.toks + 1) (Nat.le_refl _) hz2 hs
  exact wpAny_pure <| h _ _ _ (S3.freeze (Nat.le_refl _) hd hz2) ⟨_, k, x, rfl, ⟨m, put_self _ _ _, hb⟩, pk, pv⟩

theorem key_int (i : Int) (hash : Int) (hh : hashInt i = hash) (t : Tok) : KeyOk prog w hash (.int i t) := ⟨rfl, fun _ _ e => (by cases e), fun h => wpAny_pyHash_int (by rw [hh]; exact h)⟩
theorem key_bool (b : Bool) (hash : Int) (hh : (if b then 1 else 0) = hash) : KeyOk prog w hash (.bool b) := ⟨rfl, fun _ _ e => (by cases e), fun h => pyHash_bool (by rw [hh]; exact h)⟩

theorem isVal_mono {p : Nat} : Mono (fun Z v => IsVal Z p v) := fun _ _ _ k h => h.mono k

theorem row_of {e : Expr} {p : Nat} {x y : Int} {k1 k2 k : Nat} {p1 p2 pos : Pos} (h : Elt prog w A E env e (fun Z v => IsVal Z p v)) (hx : x = worth p) (hy : y = kind p) :
    Elt prog w A E env (.Tuple [e, .Constant (.int x) k1 p1, .Constant (.int y) k2 p2] k pos) (fun Z v => IsRow Z p v) :=
  (tuple_of (.cons h (.cons const_int (.cons const_int .nil))) (by simp)).imp (fun Z v ⟨a, vs, e, t, R⟩ => by
    cases R with
    | cons r1 R => cases R with
      | cons r2 R => cases R with
        | cons r3 R =>
          cases R
          obtain ⟨t1, rfl⟩ := r2
          obtain ⟨t2, rfl⟩ := r3
          subst hx hy
          exact ⟨_, _, t1, t2, e, t, r1⟩) (fun _ _ _ k h => h.mono k)
end

section
variable {w : World} {prog : Program} {A : Around} {E : Value → Shared → Prop} {s : Shared} {Q : Value → Shared → Prop}

theorem law_table (W : Wd w s.heap) {Z : Zp} (hz : Sub Z s.heap.get?) (hroom : A.depth < recursionLimit) (h : ∀ s' Z' v, Step Z s Z' s' → IsTable Z' v → Q v s') :
    wpAny (model prog w) A (call (.ref 50) [] []) Q E s := by
  refine' call_fn (binds := []) W hroom ?ho ?hcd (BindsTo.of_eq ?hb) ?_ ?hloc ?hcell ?hco ?hgen ?hk
  case ho => exact rfl
  case hcd => exact rfl
  case hb => exact rfl
  case hloc => exact fun _ h => nomatch h
  case hcell => decide
  case hco => rfl
  case hgen => rfl
  case hk => rfl
  intro h' hns hk hsz
  refine wpAny_execs_cons ?_
  refine wpAny_Return_some ?_
  have hz' : Sub Z h'.get? := hz.trans hk
  refine Elt.run (P := fun Z v => ∃ a vs, v = .ref a ∧ lstZ Z a vs ∧ Rows2 (fun v P => P Z v) vs ((List.range 18).map fun p Z v => IsRow Z p v)) ?tab (Z := Z) ?hbig ?hz ?h
  case hz => exact hz'
  case hbig => exact Nat.lt_trans W.big hsz
  case tab =>
    refine list_of ?_ (by decide)
    refine Rows2.cons ?_ ?_
    · refine row_of (p := 0) ?_ rfl rfl
      exact const_int.imp (fun Z v ⟨t, e⟩ => e ▸ .i0 t) isVal_mono
    refine Rows2.cons ?_ ?_
    · refine row_of (p := 1) ?_ rfl rfl
      exact const_bool.imp (fun Z v e => e ▸ .bf) isVal_mono
    refine Rows2.cons ?_ ?_
    · refine row_of (p := 2) ?_ rfl rfl
      exact const_int.imp (fun Z v ⟨t, e⟩ => e ▸ .i1 t) isVal_mono
    refine Rows2.cons ?_ ?_
    · refine row_of (p := 3) ?_ rfl rfl
      exact const_bool.imp (fun Z v e => e ▸ .bt) isVal_mono
    refine Rows2.cons ?_ ?_
    · refine row_of (p := 4) ?_ rfl rfl
      exact const_str.imp (fun Z v ⟨t, e⟩ => e ▸ .s0 t) isVal_mono
    refine Rows2.cons ?_ ?_
    · refine row_of (p := 5) ?_ rfl rfl
      exact const_str.imp (fun Z v ⟨t, e⟩ => e ▸ .s1 t) isVal_mono
    refine Rows2.cons ?_ ?_
    · refine row_of (p := 6) ?_ rfl rfl
      exact const_str.imp (fun Z v ⟨t, e⟩ => e ▸ .s2 t) isVal_mono
    refine Rows2.cons ?_ ?_
    · refine row_of (p := 7) ?_ rfl rfl
      exact const_none.imp (fun Z v e => e ▸ .non) isVal_mono
    refine Rows2.cons ?_ ?_
    · refine row_of (p := 8) ?_ rfl rfl
      exact (tuple_of (Ps := []) .nil (by simp)).imp (fun Z v ⟨a, vs, e, t, R⟩ => by cases R; exact e ▸ .t0 t) isVal_mono
    refine Rows2.cons ?_ ?_
    · refine row_of (p := 9) ?_ rfl rfl
      exact (tuple_of (.cons const_int .nil) (by simp)).imp (fun Z v ⟨a, vs, e, t, R⟩ => by cases R with | cons r R => cases R; obtain ⟨k, rfl⟩ := r; exact e ▸ .t1 t) isVal_mono
    refine Rows2.cons ?_ ?_
    · refine row_of (p := 10) ?_ rfl rfl
      exact (tuple_of (.cons const_bool .nil) (by simp)).imp (fun Z v ⟨a, vs, e, t, R⟩ => by cases R with | cons r R => cases R; cases r; exact e ▸ .t2 t) isVal_mono
    refine Rows2.cons ?_ ?_
    · refine row_of (p := 11) ?_ rfl rfl
      exact (list_of (Ps := []) .nil (by simp)).imp (fun Z v ⟨a, vs, e, t, R⟩ => by cases R; exact e ▸ .l0 t) isVal_mono
    refine Rows2.cons ?_ ?_
    · refine row_of (p := 12) ?_ rfl rfl
      exact (list_of (.cons const_int .nil) (by simp)).imp (fun Z v ⟨a, vs, e, t, R⟩ => by cases R with | cons r R => cases R; obtain ⟨k, rfl⟩ := r; exact e ▸ .l1 t) isVal_mono
    refine Rows2.cons ?_ ?_
    · refine row_of (p := 13) ?_ rfl rfl
      exact (list_of (.cons const_bool .nil) (by simp)).imp (fun Z v ⟨a, vs, e, t, R⟩ => by cases R with | cons r R => cases R; cases r; exact e ▸ .l2 t) isVal_mono
    refine Rows2.cons ?_ ?_
    · refine row_of (p := 14) ?_ rfl rfl
      exact dict0_of.imp (fun Z v ⟨a, e, t⟩ => e ▸ .d0 t) isVal_mono
    refine Rows2.cons ?_ ?_
    · refine row_of (p := 15) ?_ rfl rfl
      exact (dict1_of (hash := 0) const_int const_bool fun k ⟨t, e⟩ => e ▸ key_int 0 0 (by decide) t).imp (fun Z v ⟨a, k, x, e, t, ⟨t1, e1⟩, e2⟩ => by subst e1; subst e2; exact e ▸ .d1 t) isVal_mono
    refine Rows2.cons ?_ ?_
    · refine row_of (p := 16) ?_ rfl rfl
      exact (dict1_of (hash := 0) const_bool const_int fun k e => e ▸ key_bool false 0 rfl).imp (fun Z v ⟨a, k, x, e, t, e1, ⟨t2, e2⟩⟩ => by subst e1; subst e2; exact e ▸ .d2 t) isVal_mono
    refine Rows2.cons ?_ ?_
    · refine row_of (p := 17) ?_ rfl rfl
      exact const_neg.imp (fun Z v ⟨t, e⟩ => e ▸ .m1 t) isVal_mono
    exact .nil
  case h =>
  intro s' Z' v S P
  obtain ⟨a, vs, e, l, R⟩ := P
  refine h s' Z' v (((Step.refl hz).keeps hk (Nat.le_of_lt hsz)).trans S) ⟨a, vs, e, l, ?_⟩
  have : ∀ {vs : List Value} {ps : List Nat}, Rows2 (fun v P => P Z' v) vs (ps.map fun p Z v => IsRow Z p v) → Rows2 (fun x p => IsRow Z' p x) vs ps := by
    intro vs ps R
    induction ps generalizing vs with
    | nil => cases R; exact .nil
    | cons p ps ih => cases R with | cons r R => exact .cons r (ih R)
  exact this R

/-- an item of a list that stays, by an int -/
theorem item_lst {value slice : Expr} {Z : Zp} {a : Addr} {xs : List Value} {i : Int} {t : Tok} {v : Value} (hz : Sub Z s.heap.get?) (hl : lstZ Z a xs) (h0 : 0 ≤ i) (hi : i < 2 ^ 63) (hx : xs[i.toNat]? = some v) (h : Q v s)
    (hs : subscripted slice false (.ref a) (.int i t) = operate [.ref a, .int i t] (getItem (.ref a) (.int i t)) := by with_unfolding_all rfl) :
    wpAny (model prog w) A (subscriptTail value slice (.ref a) (.int i t)) Q E s := by
  obtain ⟨n, e⟩ := hl
  have hL : s.heap.IsList a xs.toArray := ⟨_, hz _ _ e, rfl, n, rfl⟩
  exact tail_any hL.typeIs slot_list_getitem.lookup (wpAny_getItem_list hL h0 hi (by simpa using hx) h) hs
theorem item_tup {value slice : Expr} {Z : Zp} {a : Addr} {xs : List Value} {i : Int} {t : Tok} {v : Value} (hz : Sub Z s.heap.get?) (hl : tupZ Z a xs) (h0 : 0 ≤ i) (hi : i < 2 ^ 63) (hx : xs[i.toNat]? = some v) (h : Q v s)
    (hs : subscripted slice false (.ref a) (.int i t) = operate [.ref a, .int i t] (getItem (.ref a) (.int i t)) := by with_unfolding_all rfl) :
    wpAny (model prog w) A (subscriptTail value slice (.ref a) (.int i t)) Q E s := by
  obtain ⟨n, e⟩ := hl
  have hlt : i.toNat < xs.length := by
    rcases Nat.lt_or_ge i.toNat xs.length with h | h
    · exact h
    · rw [List.getElem?_eq_none h] at hx; cases hx
  refine item_tupleT (l := xs) (j := i.toNat) ⟨_, hz _ _ e, rfl, n, rfl⟩ (by omega) hi ?_ hx h hs
  unfold seqIndex?
  have h1 : ¬ i < 0 := by omega
  simp only [h1, if_false]
  simp only [Bool.and_eq_true, decide_eq_true_eq] at *
  rw [if_pos (by omega)]

theorem cw_fn0 {pos : Pos} {f : Addr} {oc : Value} {od : Option Addr} {fd : FuncData} {osl : Array (Option Value)} (W : Wd w s.heap) (ho : (KP w.params).lookup f = some ⟨oc, od, .func fd, osl⟩)
    (h : wpAny (model prog w) A (call (.ref f) [] []) Q E s) : wpAny (model prog w) A (callWith pos (.ref f) [] [] []) Q E s :=
  Calls.callWith_function (fd := fd) (evalArgs_nil3 ⟨⟨W.kin _ _ ho, rfl⟩, h⟩)
theorem cw_fn1 {pos : Pos} {f : Addr} {x : Sem Value} {oc : Value} {od : Option Addr} {fd : FuncData} {osl : Array (Option Value)} (ho : (KP w.params).lookup f = some ⟨oc, od, .func fd, osl⟩)
    (h : wpAny (model prog w) A x (fun v s₁ => Wd w s₁.heap ∧ wpAny (model prog w) A (call (.ref f) [v] []) Q E s₁) E s) : wpAny (model prog w) A (callWith pos (.ref f) [] [(false, x)] []) Q E s :=
  Calls.callWith_function (fd := fd) (Calls.evalArgs_plain (Calls.spliced_cons (wpAny_mono h (fun v s₁ h₁ => Calls.spliced_nil ⟨⟨h₁.1.kin _ _ ho, rfl⟩, h₁.2⟩) fun _ _ e => e)))
theorem cw_fn2 {pos : Pos} {f : Addr} {x y : Sem Value} {oc : Value} {od : Option Addr} {fd : FuncData} {osl : Array (Option Value)} (ho : (KP w.params).lookup f = some ⟨oc, od, .func fd, osl⟩)
    (h : wpAny (model prog w) A x (fun v s₁ => wpAny (model prog w) A y (fun u s₂ => Wd w s₂.heap ∧ wpAny (model prog w) A (call (.ref f) [v, u] []) Q E s₂) E s₁) E s) : wpAny (model prog w) A (callWith pos (.ref f) [] [(false, x), (false, y)] []) Q E s :=
  Calls.callWith_function (fd := fd) (Calls.evalArgs_plain (Calls.spliced_cons (wpAny_mono h (fun v s₁ h₁ => Calls.spliced_cons (wpAny_mono h₁ (fun u s₂ h₂ => Calls.spliced_nil ⟨⟨h₂.1.kin _ _ ho, rfl⟩, h₂.2⟩) fun _ _ e => e)) fun _ _ e => e)))

theorem law_value (W : Wd w s.heap) {Z : Zp} (hz : Sub Z s.heap.get?) (hroom : A.depth + 1 < recursionLimit) {p : Nat} {t : Tok} (hp : p < 18) (h : ∀ s' Z' v, Step Z s Z' s' → IsVal Z' p v → Q v s') :
    wpAny (model prog w) A (call (.ref 57) [.int p t] []) Q E s := by
  refine' call_fn (binds := [(Str.ofString "place", .int p t)]) W (by omega) ?ho ?hcd (BindsTo.of_eq ?hb) ?_ ?hloc ?hcell ?hco ?hgen ?hk
  case ho => exact rfl
  case hcd => exact rfl
  case hb => exact rfl
  case hloc => exact locs rfl
  case hcell => decide
  case hco => rfl
  case hgen => rfl
  case hk => rfl
  intro h' hns hk hsz
  have S0 : Step Z s Z { s with heap := h', toks := s.toks + 1 } := (Step.refl hz).keeps hk (Nat.le_of_lt hsz)
  refine wpAny_execs_cons ?_
  refine wpAny_Return_some ?_
  refine Subscript_ ?_
  refine Subscript_ ?_
  refine Call_Name0 ?_
  refine ld_fn (v := .ref 50) (W.keeps hk) rfl ?_
  refine cw_fn0 (W.keeps hk) rfl ?_
  refine law_table (Z := Z) (W.keeps hk) S0.zh hroom fun s1 Z1 T S1 hT => ?_
  obtain ⟨a, items, rfl, hl, R⟩ := hT
  refine ld_loc (v := .int p t) (hns.keeps S1.hh) rfl ?_
  obtain ⟨x, hx, r⟩ := R.get' p p (by simp [hp])
  refine item_lst S1.zh hl (by omega) (by omega) (by simpa using hx) ?_
  obtain ⟨tp, v, k1, k2, rfl, ht, hv⟩ := r
  refine wpAny_Constant_int ?_
  refine item_tup (Z := Z1) S1.zh ht (by decide) (by decide) rfl ?_
  exact h _ Z1 v (S0.trans S1.tk) hv
end
end Mine

namespace Mine
open SeqAt MeetsSeq AutoSeq1

def isNum (k : Int) : Value → Bool
  | .int i _ => i == k
  | .bool b => (if b then 1 else 0) == k
  | _ => false
/-- ints and bools as keys -/
def numKind (prog : Program) (w : World) : KeyKind prog w Int where
  is := isNum
  hash := hashInt
  inj := fun v a b ha hb => by cases v <;> simp_all [isNum]
  byValue := fun k v h => by cases v <;> simp_all [isNum, carriedByValue]
  pyHash := fun {A E s k v Q} h hq => by
    cases v <;> first | cases h | skip
    · rename_i b
      have e : (if b then (1 : Int) else 0) = k := by simpa [isNum] using h
      refine pyHash_bool ?_
      subst e
      cases b
      · exact hq
      · exact hq
    · rename_i i t
      have e : i = k := by simpa [isNum] using h
      subst e
      exact wpAny_pyHash_int hq
  eqBool := fun {A E s a b u v Q} ha hb hq => by
    cases u <;> first | cases ha | skip
    · rename_i x
      have e : (if x then (1 : Int) else 0) = a := by simpa [isNum] using ha
      subst e
      cases v <;> first | cases hb | skip
      · rename_i y
        have e : (if y then (1 : Int) else 0) = b := by simpa [isNum] using hb
        subst e
        refine EqAt.bool_bool x y prog w E Q ?_
        cases x <;> cases y <;> exact hq
      · rename_i j t
        have e : j = b := by simpa [isNum] using hb
        subst e
        refine EqAt.bool_int x j t prog w E Q ?_
        exact hq
    · rename_i i t
      have e : i = a := by simpa [isNum] using ha
      subst e
      cases v <;> first | cases hb | skip
      · rename_i y
        have e : (if y then (1 : Int) else 0) = b := by simpa [isNum] using hb
        subst e
        refine EqAt.int_bool i t y prog w E Q ?_
        exact hq
      · rename_i j u
        have e : j = b := by simpa [isNum] using hb
        subst e
        refine EqAt.int_int i t j u prog w E Q ?_
        exact hq
  «strs» := fun k x t v h => by cases h

def valD (p : Nat) : PyData :=
  [.int 0, .bool false, .int 1, .bool true, .str (Str.ofString ""), .str (Str.ofString "0"), .str (Str.ofString "True"), .none, .tuple [], .tuple [.int 0], .tuple [.bool false],
    .list [], .list [.int 0], .list [.bool false], .dict [], .dict [(.int 0, .bool true)], .dict [(.bool false, .int 1)], .int (-1)].getD p .none
def isDic (p : Nat) : Bool := p == 14 || p == 15 || p == 16
theorem IsVal.readsAs {Z : Zp} {h : Heap} {p : Nat} {v : Value} (x : IsVal Z p v) (hz : Sub Z h.get?) : ∃ as, Reads h v (valD p) as ∧ sysModules ∉ as ∨ Reads h v (valD p) as ∧ isDic p = false := by
  cases x with
  | i0 t => exact ⟨_, .inr ⟨.int _ _, rfl⟩⟩
  | bf => exact ⟨_, .inr ⟨.bool _, rfl⟩⟩
  | i1 t => exact ⟨_, .inr ⟨.int _ _, rfl⟩⟩
  | bt => exact ⟨_, .inr ⟨.bool _, rfl⟩⟩
  | s0 t => exact ⟨_, .inr ⟨.str _ _, rfl⟩⟩
  | s1 t => exact ⟨_, .inr ⟨.str _ _, rfl⟩⟩
  | s2 t => exact ⟨_, .inr ⟨.str _ _, rfl⟩⟩
  | non => exact ⟨_, .inr ⟨.none, rfl⟩⟩
  | t0 h => obtain ⟨n, e⟩ := h; exact ⟨_, .inr ⟨.tuple (hz _ _ e) rfl rfl .nil, rfl⟩⟩
  | t1 h => obtain ⟨n, e⟩ := h; exact ⟨_, .inr ⟨.tuple (hz _ _ e) rfl rfl (.cons (.int _ _) .nil), rfl⟩⟩
  | t2 h => obtain ⟨n, e⟩ := h; exact ⟨_, .inr ⟨.tuple (hz _ _ e) rfl rfl (.cons (.bool _) .nil), rfl⟩⟩
  | l0 h => obtain ⟨n, e⟩ := h; exact ⟨_, .inr ⟨.list (hz _ _ e) rfl rfl .nil, rfl⟩⟩
  | l1 h => obtain ⟨n, e⟩ := h; exact ⟨_, .inr ⟨.list (hz _ _ e) rfl rfl (.cons (.int _ _) .nil), rfl⟩⟩
  | l2 h => obtain ⟨n, e⟩ := h; exact ⟨_, .inr ⟨.list (hz _ _ e) rfl rfl (.cons (.bool _) .nil), rfl⟩⟩
  | d0 h => obtain ⟨n, e, l⟩ := h; exact ⟨_, .inl ⟨.dict (kvs := []) (hz _ _ e) rfl rfl .nil .nil, by simp; exact Nat.ne_of_lt l⟩⟩
  | d1 h => obtain ⟨n, e, l⟩ := h; exact ⟨_, .inl ⟨.dict (kvs := [(.int 0, .bool true)]) (hz _ _ e) rfl rfl (.cons (.int _ _) .nil) (.cons (.bool _) .nil), by simp; exact Nat.ne_of_lt l⟩⟩
  | d2 h => obtain ⟨n, e, l⟩ := h; exact ⟨_, .inl ⟨.dict (kvs := [(.bool false, .int 1)]) (hz _ _ e) rfl rfl (.cons (.bool _) .nil) (.cons (.int _ _) .nil), by simp; exact Nat.ne_of_lt l⟩⟩
  | m1 t => exact ⟨_, .inr ⟨.int _ _, rfl⟩⟩
theorem IsVal.readsN {Z : Zp} {h : Heap} {p : Nat} {v : Value} (x : IsVal Z p v) (hz : Sub Z h.get?) (hp : isDic p = false) : ∃ as, Reads h v (valD p) as := by
  obtain ⟨as, r | r⟩ := x.readsAs hz
  · exact ⟨as, r.1⟩
  · exact ⟨as, r.1⟩
theorem valD_lay {p : Nat} (h : p < 18) (hp : isDic p = false) : (valD p).canLay0 = true ∧ (valD p).depth ≤ 4 := by
  have : ∀ p, p < 18 → isDic p = false → (valD p).canLay0 = true ∧ (valD p).depth ≤ 4 := by decide +kernel
  exact this p h hp
theorem valD_eqv {p q : Nat} (hp : p < 18) (hq : q < 18) (dp : isDic p = false) (dq : isDic q = false) : PyData.eqv (valD p) (valD q) = (worth p == worth q) := by
  have : ∀ p, p < 18 → ∀ q, q < 18 → isDic p = false → isDic q = false → PyData.eqv (valD p) (valD q) = (worth p == worth q) := by decide +kernel
  exact this p hp q hq dp dq

section
variable {A : Around} {s : Shared} {Z : Zp}
def kvsOf : Nat → Value → List (Int × Value)
  | 15, _ => [(0, .bool true)]
  | 16, v => [(0, v)]
  | _, _ => []
theorem IsVal.dict {h : Heap} {p : Nat} {v : Value} (x : IsVal Z p v) (hz : Sub Z h.get?) (hp : isDic p = true) (prog : Program) (w : World) :
    ∃ a t, v = .ref a ∧ h.DictOf (numKind prog w) a (kvsOf p (.int 1 t)) ∧ (a == sysModules) = false ∧ ∃ es n, h.get? a = some { cls := .type "dict", data := .dict es n } := by
  have lem : ∀ {a : Addr}, sysModules < a → (a == sysModules) = false := fun l => by simpa using Nat.ne_of_gt l
  cases x <;> first | cases hp | skip
  · rename_i a h; obtain ⟨n, e, l⟩ := h
    exact ⟨a, 0, rfl, ⟨_, _, n, hz _ _ e, ⟨rfl, rfl, rfl⟩, rfl, (fun _ h => by simp at h), .nil, .nil⟩, lem l, _, _, hz _ _ e⟩
  · rename_i a t h; obtain ⟨n, e, l⟩ := h
    exact ⟨a, 0, rfl, ⟨_, _, n, hz _ _ e, ⟨rfl, rfl, rfl⟩, rfl, (fun x h => by simp at h; subst h; exact ⟨0, rfl, by show (0 : Int) = hashInt 0; decide⟩), .cons rfl rfl .nil, by simp [kvsOf]⟩, lem l, _, _, hz _ _ e⟩
  · rename_i a t h; obtain ⟨n, e, l⟩ := h
    exact ⟨a, t, rfl, ⟨_, _, n, hz _ _ e, ⟨rfl, rfl, rfl⟩, rfl, (fun x h => by simp at h; subst h; exact ⟨0, rfl, by show (0 : Int) = hashInt 0; decide⟩), .cons rfl rfl .nil, by simp [kvsOf]⟩, lem l, _, _, hz _ _ e⟩

theorem dict_rc {p q : Nat} {v u : Value} (x : IsVal Z p v) (y : IsVal Z q u) (hz : Sub Z s.heap.get?) (hp : isDic p = true) (hq : isDic q = true) (hu : A.units + 10 < cLine) : RcAt A s v u (worth p == worth q) := by
  intro prog w E Q h
  obtain ⟨a, t, rfl, da, na, _⟩ := x.dict hz hp prog w
  obtain ⟨b, t', rfl, db, nb, _⟩ := y.dict hz hq prog w
  have hu' : A.units < cLine := by omega
  have e1 : (p = 14 ∨ p = 15) ∨ p = 16 := by simpa [isDic] using hp
  have e2 : (q = 14 ∨ q = 15) ∨ q = 16 := by simpa [isDic] using hq
  rcases e1 with (rfl | rfl) | rfl <;> rcases e2 with (rfl | rfl) | rfl
  · exact keq_eq (r := true) na nb da db hu' (fun _ => .nil) h
  · exact keq_eq (r := true) na nb da db hu' (fun e => by simp [kvsOf] at e) h
  · exact keq_eq (r := true) na nb da db hu' (fun e => by simp [kvsOf] at e) h
  · exact keq_eq (r := true) na nb da db hu' (fun e => by simp [kvsOf] at e) h
  · exact keq_eq (r := true && true) na nb da db hu' (fun e => .hit (y := .bool true) rfl (EqAt.same _) .nil) h
  · exact keq_eq (r := true && true) na nb da db hu' (fun e => .hit (y := .int 1 t') rfl (EqAt.bool_int true 1 t') .nil) h
  · exact keq_eq (r := true) na nb da db hu' (fun e => by simp [kvsOf] at e) h
  · exact keq_eq (r := true && true) na nb da db hu' (fun e => .hit (y := .bool true) rfl (EqAt.int_bool 1 t true) .nil) h
  · exact keq_eq (r := true && true) na nb da db hu' (fun e => .hit (y := .int 1 t') rfl (EqAt.int_int 1 t 1 t') .nil) h

theorem dict_declines {a : Addr} {es : Array DictEntry} {n : Nat} {x : Value} {T : String} (ha : s.heap.get? a = some { cls := .type "dict", data := .dict es n }) (hT : s.TypeIs x T) (hs : isSubtype (.type T) (.type "dict") = pure false)
    {prog : Program} {w : World} {E : Value → Shared → Prop} (Q : Value → Shared → Prop) (h : Q .notImplemented s) : wpAny (model prog w) A (call (.builtin "dict.__eq__") [.ref a, x]) Q E s := by
  have hd : s.TypeIs (.ref a) "dict" := ⟨_, ha, rfl⟩
  refine wpAny_call_entry F.slot_dict_eq hd F.entry_dict_eq ?_ (F.args_dict_eq_2 _ _)
  show wpAny _ _ (Builtin.Dict.dictSlotArgs "__eq__" ⟨[.ref a, x], []⟩ >>= _) _ _ s
  refine wpAny_bind ?_
  unfold Builtin.Dict.dictSlotArgs
  refine wpAny_bind (wpAny_notOrdered_dict hd ?_)
  show wpAny _ _ (pure (Value.ref a, x)) _ _ s
  refine wpAny_pure ?_
  refine wpAny_bind (wpAny_isInstance (T := T) hT hs ?_)
  simp only [Bool.not_false, if_true]
  exact wpAny_bind (wpAny_rule (wpAny_pure ⟨_, rfl, h⟩))

/-- a value that is no dict, beside a dict -/
theorem dict_other {a : Addr} {es : Array DictEntry} {n : Nat} {x : Value} {T id : String} (ha : s.heap.get? a = some { cls := .type "dict", data := .dict es n }) (hT : s.TypeIs x T) (hu : A.units < cLine)
    (hne : (Value.type "dict" != Value.type T) = true) (hne' : (Value.type T != Value.type "dict") = true) (hs : isSubtype (.type T) (.type "dict") = pure false) (hs' : isSubtype (.type "dict") (.type T) = pure false)
    (h1 : Slot T (cmpInfo .Eq).2.1 id) (h2 : Slot T (cmpInfo .Eq).2.2 id)
    (hx : ∀ (prog : Program) (w : World) (E : Value → Shared → Prop) (Q : Value → Shared → Prop), Q .notImplemented s → wpAny (model prog w) A (call (.builtin id) [x, .ref a]) Q E s)
    (hk : (∃ b o, x = .ref b ∧ b ≠ a ∧ s.heap.get? b = some o) ∨ (isSame (.ref a) x = pure false ∧ isSame x (.ref a) = pure false)) :
    RcAt A s (.ref a) x false ∧ RcAt A s x (.ref a) false := by
  have hd : s.TypeIs (.ref a) "dict" := ⟨_, ha, rfl⟩
  have same1 : ∀ (prog : Program) (w : World) (E : Value → Shared → Prop) (Q' : Bool → Shared → Prop), Q' false s → wpAny (model prog w) A (isSame (.ref a) x) Q' E s := fun prog w E Q' hq => by
    rcases hk with ⟨b, o, rfl, h, ho⟩ | ⟨e, _⟩
    · exact wpAny_isSame_ref_other (Ne.symm h) ha ho (by simp) hq
    · exact wpAny_of_eq e hq
  have same2 : ∀ (prog : Program) (w : World) (E : Value → Shared → Prop) (Q' : Bool → Shared → Prop), Q' false s → wpAny (model prog w) A (isSame x (.ref a)) Q' E s := fun prog w E Q' hq => by
    rcases hk with ⟨b, o, rfl, h, ho⟩ | ⟨_, e⟩
    · exact wpAny_isSame_ref_other' h ho ha (by simp) hq
    · exact wpAny_of_eq e hq
  exact ⟨fun prog w E Q h => rc_eq_decline_or (k := false) hd hT hne hs F.slot_dict_eq h2 (fun Q' hq => dict_declines ha hT hs Q' hq) (fun Q' hq => hx prog w E Q' hq) (fun Q' hq => same1 prog w E Q' hq) (.inr hu) h,
    fun prog w E Q h => rc_eq_decline_or (k := false) hT hd hne' hs' h1 F.slot_dict_eq_refl (fun Q' hq => hx prog w E Q' hq) (fun Q' hq => dict_declines ha hT hs Q' hq) (fun Q' hq => same2 prog w E Q' hq) (.inr hu) h⟩

theorem eqAt_of_rc {v u : Value} {b : Bool} (h : RcAt A s v u b) (hne : v ≠ u) (hv : ∀ x t, v ≠ .float x t) : EqAt A s v u b := fun prog w E Q hq => by
  unfold eqBool
  refine wpAny_holding ?_
  refine wpAny_ite_split (fun hab => absurd (eq_of_beq hab) hne) (fun _ => ?_)
  cases v with
  | float x t => exact absurd rfl (hv x t)
  | _ => exact wpAny_bind (h prog w E _ (wpAny_truthy_bool hq))
end
theorem int_eq_dict (b : Int) (u : Tok) (l : Addr) (es : Array DictEntry) (n : Nat) :
    Meets (Builtin.«int.__eq__» ⟨[.int b u, .ref l], []⟩) (fun _ R s => s.heap.get? l = some { cls := .type "dict", data := .dict es n } ∧ R (.ok (.ret .notImplemented)) s) :=
  .of_wp fun prog w A R s h => by obtain ⟨hp, g, d, tk, os⟩ := s; obtain ⟨hl, h⟩ := h; wp_walk using wpAny_loadPart' hl, wpAny_load hl; exact ⟨_, rfl, h⟩
theorem bool_eq_dict (b : Bool) (l : Addr) (es : Array DictEntry) (n : Nat) :
    Meets (Builtin.«int.__eq__» ⟨[.bool b, .ref l], []⟩) (fun _ R s => s.heap.get? l = some { cls := .type "dict", data := .dict es n } ∧ R (.ok (.ret .notImplemented)) s) :=
  .of_wp fun prog w A R s h => by obtain ⟨hp, g, d, tk, os⟩ := s; obtain ⟨hl, h⟩ := h; wp_walk using wpAny_loadPart' hl, wpAny_load hl; exact ⟨_, rfl, h⟩
theorem str_eq_dict (b : Str) (u : Tok) (l : Addr) (es : Array DictEntry) (n : Nat) :
    Meets (Builtin.«str.__eq__» ⟨[.str b u, .ref l], []⟩) (fun _ R s => s.heap.get? l = some { cls := .type "dict", data := .dict es n } ∧ R (.ok (.ret .notImplemented)) s) :=
  .of_wp fun prog w A R s h => by obtain ⟨hp, g, d, tk, os⟩ := s; obtain ⟨hl, h⟩ := h; wp_walk using wpAny_loadPart' hl, wpAny_load hl; exact ⟨_, rfl, h⟩
theorem list_eq_dict (a l : Addr) (items : Array Value) (m : Nat) (es : Array DictEntry) (n : Nat) :
    Meets (Builtin.«list.__eq__» ⟨[.ref a, .ref l], []⟩) (fun _ R s => s.heap.get? a = some { cls := .type "list", data := .seq items m } ∧ s.heap.get? l = some { cls := .type "dict", data := .dict es n } ∧ R (.ok (.ret .notImplemented)) s) :=
  .of_wp fun prog w A R s h => by obtain ⟨hp, g, d, tk, os⟩ := s; obtain ⟨ha, hl, h⟩ := h; have f1 := F.sub_dict_list; wp_walk using wpAny_loadPart' ha, wpAny_loadPart' hl; exact ⟨_, rfl, h⟩
theorem tuple_eq_dict (a l : Addr) (items : Array Value) (m : Nat) (es : Array DictEntry) (n : Nat) :
    Meets (Builtin.«tuple.__eq__» ⟨[.ref a, .ref l], []⟩) (fun _ R s => s.heap.get? a = some { cls := .type "tuple", data := .seq items m } ∧ s.heap.get? l = some { cls := .type "dict", data := .dict es n } ∧ R (.ok (.ret .notImplemented)) s) :=
  .of_wp fun prog w A R s h => by obtain ⟨hp, g, d, tk, os⟩ := s; obtain ⟨ha, hl, h⟩ := h; have f1 := F.sub_dict_tuple; wp_walk using wpAny_loadPart' ha, wpAny_loadPart' hl; exact ⟨_, rfl, h⟩

section
variable {A : Around} {s : Shared} {Z : Zp}
/-- a dict, beside a value that is none: both ways -/
theorem dict_val {p : Nat} {v : Value} {a : Addr} {es : Array DictEntry} {n : Nat} (x : IsVal Z p v) (hz : Sub Z s.heap.get?) (hp : isDic p = false) (ha : s.heap.get? a = some { cls := .type "dict", data := .dict es n }) (hu : A.units < cLine) :
    (RcAt A s (.ref a) v false ∧ RcAt A s v (.ref a) false) ∧ v ≠ .ref a ∧ ∀ b t, v ≠ .float b t := by
  have hInt : ∀ (i : Int) (t : Tok), (RcAt A s (.ref a) (.int i t) false ∧ RcAt A s (.int i t) (.ref a) false) ∧ Value.int i t ≠ .ref a ∧ ∀ b u, Value.int i t ≠ .float b u := fun i t =>
    ⟨dict_other (T := "int") ha rfl hu (by decide) (by decide) F.sub_int_dict F.sub_dict_int F.slot_int_eq F.slot_int_eq_refl
      (fun prog w E Q hq => call_meets F.slot_int_eq rfl F.entry_int_eq (F.args_int_eq_2 _ _) (int_eq_dict i t a es n) ⟨ha, hq⟩) (.inr ⟨rfl, rfl⟩), by simp, by simp⟩
  have hBool : ∀ (b : Bool), (RcAt A s (.ref a) (.bool b) false ∧ RcAt A s (.bool b) (.ref a) false) ∧ Value.bool b ≠ .ref a ∧ ∀ x u, Value.bool b ≠ .float x u := fun b =>
    ⟨dict_other (T := "bool") ha rfl hu (by decide) (by decide) F.sub_bool_dict F.sub_dict_bool F.slot_bool_eq F.slot_bool_eq_refl
      (fun prog w E Q hq => call_meets F.slot_bool_eq rfl F.entry_int_eq (F.args_int_eq_2 _ _) (bool_eq_dict b a es n) ⟨ha, hq⟩) (.inr ⟨rfl, rfl⟩), by simp, by simp⟩
  have hStr : ∀ (b : Str) (t : Tok), (RcAt A s (.ref a) (.str b t) false ∧ RcAt A s (.str b t) (.ref a) false) ∧ Value.str b t ≠ .ref a ∧ ∀ x u, Value.str b t ≠ .float x u := fun b t =>
    ⟨dict_other (T := "str") ha rfl hu (by decide) (by decide) F.sub_str_dict F.sub_dict_str F.slot_str_eq F.slot_str_eq_refl
      (fun prog w E Q hq => call_meets F.slot_str_eq rfl F.entry_str_eq (F.args_str_eq_2 _ _) (str_eq_dict b t a es n) ⟨ha, hq⟩) (.inr ⟨rfl, rfl⟩), by simp, by simp⟩
  have hList : ∀ {l : Addr} {xs : List Value}, lstZ Z l xs → (RcAt A s (.ref a) (.ref l) false ∧ RcAt A s (.ref l) (.ref a) false) ∧ Value.ref l ≠ .ref a ∧ ∀ x u, Value.ref l ≠ .float x u := fun {l xs} h => by
    obtain ⟨m, e⟩ := h
    have hl := hz _ _ e
    have hne : l ≠ a := fun q => by subst q; rw [ha] at hl; simp at hl
    exact ⟨dict_other (T := "list") ha ⟨_, hl, rfl⟩ hu (by decide) (by decide) F.sub_list_dict F.sub_dict_list F.slot_list_eq F.slot_list_eq_refl
      (fun prog w E Q hq => call_meets F.slot_list_eq ⟨_, hl, rfl⟩ F.entry_list_eq (F.args_list_eq_2 _ _) (list_eq_dict l a _ m es n) ⟨hl, ha, hq⟩) (.inl ⟨l, _, rfl, hne, hl⟩), by simpa using hne, by simp⟩
  have hTup : ∀ {l : Addr} {xs : List Value}, tupZ Z l xs → (RcAt A s (.ref a) (.ref l) false ∧ RcAt A s (.ref l) (.ref a) false) ∧ Value.ref l ≠ .ref a ∧ ∀ x u, Value.ref l ≠ .float x u := fun {l xs} h => by
    obtain ⟨m, e⟩ := h
    have hl := hz _ _ e
    have hne : l ≠ a := fun q => by subst q; rw [ha] at hl; simp at hl
    exact ⟨dict_other (T := "tuple") ha ⟨_, hl, rfl⟩ hu (by decide) (by decide) F.sub_tuple_dict F.sub_dict_tuple F.slot_tuple_eq F.slot_tuple_eq_refl
      (fun prog w E Q hq => call_meets F.slot_tuple_eq ⟨_, hl, rfl⟩ F.entry_tuple_eq (F.args_tuple_eq_2 _ _) (tuple_eq_dict l a _ m es n) ⟨hl, ha, hq⟩) (.inl ⟨l, _, rfl, hne, hl⟩), by simpa using hne, by simp⟩
  cases x <;> first | exact hInt _ _ | exact hBool _ | exact hStr _ _ | exact hList (by assumption) | exact hTup (by assumption) | cases hp | skip
  exact ⟨dict_other (T := "NoneType") ha rfl hu (by decide) (by decide) F.sub_NoneType_dict F.sub_dict_NoneType F.slot_NoneType_eq F.slot_NoneType_eq_refl
      (fun prog w E Q hq => call_gives F.slot_NoneType_eq rfl F.entry_NoneType_eq (F.args_NoneType_eq_2 _ _) (NoneType___eq___none_ref_0 a) hq) (.inr ⟨rfl, rfl⟩), by simp, by simp⟩

theorem dic_worth {p q : Nat} (hp : p < 18) (hq : q < 18) (dp : isDic p = true) (dq : isDic q = false) : (worth p == worth q) = false ∧ (worth q == worth p) = false := by
  have : ∀ p, p < 18 → ∀ q, q < 18 → isDic p = true → isDic q = false → (worth p == worth q) = false ∧ (worth q == worth p) = false := by decide +kernel
  exact this p hp q hq dp dq

def objCode (o : Obj) : Nat := match o.cls, o.data with
  | .type c, .seq xs _ => (match xs.toList with
    | [] => if c = "tuple" then 8 else 11
    | .int _ _ :: _ => if c = "tuple" then 9 else 12
    | _ => if c = "tuple" then 10 else 13)
  | _, .dict es _ => (match es.toList with
    | [] => 14
    | ⟨_, .int _ _, _⟩ :: _ => 15
    | _ => 16)
  | _, _ => 99
def codeOf (Z : Zp) : Value → Nat
  | .int i _ => if i = 0 then 0 else if i = 1 then 2 else 17
  | .bool b => if b then 3 else 1
  | .str x _ => if x = Str.ofString "" then 4 else if x = Str.ofString "0" then 5 else 6
  | .none => 7
  | .ref a => (Z a).elim 99 objCode
  | _ => 99
theorem IsVal.code {p : Nat} {v : Value} (x : IsVal Z p v) : codeOf Z v = p := by
  cases x with
  | i0 t => rfl
  | bf => rfl
  | i1 t => rfl
  | bt => rfl
  | s0 t => rfl
  | s1 t => unfold codeOf; dsimp only; rw [if_neg (show ¬ Str.ofString "0" = Str.ofString "" by decide +kernel), if_pos rfl]
  | s2 t => unfold codeOf; dsimp only; rw [if_neg (show ¬ Str.ofString "True" = Str.ofString "" by decide +kernel), if_neg (show ¬ Str.ofString "True" = Str.ofString "0" by decide +kernel)]
  | non => rfl
  | t0 h => obtain ⟨n, e⟩ := h; simp [codeOf, e, objCode]
  | t1 h => obtain ⟨n, e⟩ := h; simp [codeOf, e, objCode]
  | t2 h => obtain ⟨n, e⟩ := h; simp [codeOf, e, objCode]
  | l0 h => obtain ⟨n, e⟩ := h; simp [codeOf, e, objCode]
  | l1 h => obtain ⟨n, e⟩ := h; simp [codeOf, e, objCode]
  | l2 h => obtain ⟨n, e⟩ := h; simp [codeOf, e, objCode]
  | d0 h => obtain ⟨n, e, _⟩ := h; simp [codeOf, e, objCode]
  | d1 h => obtain ⟨n, e, _⟩ := h; simp [codeOf, e, objCode]
  | d2 h => obtain ⟨n, e, _⟩ := h; simp [codeOf, e, objCode]
  | m1 t => rfl
theorem val_same {p q : Nat} {v : Value} (x : IsVal Z p v) (y : IsVal Z q v) : p = q := x.code.symm.trans y.code
theorem vals_eq {p q : Nat} {v u : Value} (x : IsVal Z p v) (y : IsVal Z q u) (hz : Sub Z s.heap.get?) (hu : A.units + 10 < cLine) : EqAt A s v u (worth p == worth q) := by
  have hu' : A.units < cLine := by omega
  cases dp : isDic p with
  | false =>
    obtain ⟨as, ra⟩ := x.readsN hz dp
    cases dq : isDic q with
    | false =>
      obtain ⟨bs, rb⟩ := y.readsN hz dq
      have a1 := valD_lay x.lt dp
      have b1 := valD_lay y.lt dq
      rw [← valD_eqv x.lt y.lt dp dq]
      exact eqAt_reads _ _ A s v u as bs ra rb a1.1 b1.1 (by have := Nat.min_le_left (valD p).depth (valD q).depth; omega)
    | true =>
      intro prog w E Q hq
      obtain ⟨b, t, rfl, _, _, es, n, hb⟩ := y.dict hz dq prog w
      obtain ⟨⟨_, r⟩, h1, h2⟩ := dict_val (A := A) x hz dp hb hu'
      rw [(dic_worth y.lt x.lt dq dp).2] at hq
      exact eqAt_of_rc r h1 h2 prog w E Q hq
  | true =>
    intro prog w E Q hQ
    obtain ⟨b, t, rfl, _, _, es, n, hb⟩ := x.dict hz dp prog w
    cases dq : isDic q with
    | false =>
      obtain ⟨⟨r, _⟩, h1, h2⟩ := dict_val (A := A) y hz dq hb hu'
      rw [(dic_worth x.lt y.lt dp dq).1] at hQ
      exact eqAt_of_rc r (Ne.symm h1) (by simp) prog w E Q hQ
    | true =>
      obtain ⟨c, t', rfl, _, _, es', n', hc⟩ := y.dict hz dq prog w
      by_cases e : b = c
      · subst e
        obtain rfl := val_same x y
        rw [beq_self_eq_true] at hQ
        exact EqAt.same _ prog w E Q hQ
      · exact EqAt.of_refs e (dict_rc x y hz dp dq hu) prog w E Q hQ

def tyName (p : Nat) : String := ["int", "bool", "str", "NoneType", "tuple", "list", "dict"].getD (kind p) ""
def IsPair (Z : Zp) (p : Nat) (v : Value) : Prop := ∃ a x, v = .ref a ∧ tupZ Z a [x, .type (tyName p)] ∧ IsVal Z p x
theorem IsPair.mono {Z Z' : Zp} {p : Nat} {v : Value} (h : IsPair Z p v) (k : Sub Z Z') : IsPair Z' p v := let ⟨a, x, e, h1, h2⟩ := h; ⟨a, x, e, h1.mono k, h2.mono k⟩
def IsElem (Z : Zp) (typed : Bool) (p : Nat) (v : Value) : Prop := match typed with
  | true => IsPair Z p v
  | false => IsVal Z p v
theorem IsElem.mono {Z Z' : Zp} {typed : Bool} {p : Nat} {v : Value} (h : IsElem Z typed p v) (k : Sub Z Z') : IsElem Z' typed p v := by
  cases typed
  · exact IsVal.mono h k
  · exact IsPair.mono h k
theorem IsElem.lt {Z : Zp} {typed : Bool} {p : Nat} {v : Value} (h : IsElem Z typed p v) : p < 18 := by
  cases typed
  · exact IsVal.lt h
  · obtain ⟨_, _, _, _, h⟩ := h; exact h.lt
/-- worth and, typed, kind -/
def cls (typed : Bool) (p : Nat) : Nat × Nat := (worth p, if typed then kind p else 0)

theorem tyName_meta {p : Nat} (h : p < 18) (s' : Shared) : s'.TypeIs (.type (tyName p)) "type" := by
  have e : tyName p = "int" ∨ tyName p = "bool" ∨ tyName p = "str" ∨ tyName p = "NoneType" ∨ tyName p = "tuple" ∨ tyName p = "list" ∨ tyName p = "dict" := by
    have : ∀ p, p < 18 → tyName p = "int" ∨ tyName p = "bool" ∨ tyName p = "str" ∨ tyName p = "NoneType" ∨ tyName p = "tuple" ∨ tyName p = "list" ∨ tyName p = "dict" := by decide +kernel
    exact this p h
  rcases e with e | e | e | e | e | e | e <;> rw [e]
  · show typeOf _ = _; exact meta_int
  · show typeOf _ = _; exact meta_bool
  · show typeOf _ = _; exact meta_str
  · show typeOf _ = _; exact meta_NoneType
  · show typeOf _ = _; exact meta_tuple
  · show typeOf _ = _; exact meta_list
  · show typeOf _ = _; exact meta_dict
theorem tyName_eq {p q : Nat} (hp : p < 18) (hq : q < 18) : (Value.type (tyName p) == Value.type (tyName q)) = (kind p == kind q) := by
  have : ∀ p, p < 18 → ∀ q, q < 18 → (Value.type (tyName p) == Value.type (tyName q)) = (kind p == kind q) := by decide +kernel
  exact this p hp q hq
theorem types_eq {p q : Nat} (hp : p < 18) (hq : q < 18) : EqAt A s (.type (tyName p)) (.type (tyName q)) (kind p == kind q) := fun prog w E Q h => by
  rw [← tyName_eq hp hq] at h
  cases e : (Value.type (tyName p) == Value.type (tyName q)) with
  | true =>
    rw [e] at h
    have := eq_of_beq e
    rw [this]
    exact EqAt.same _ prog w E Q h
  | false =>
    rw [e] at h
    have r : RcAt A s (.type (tyName p)) (.type (tyName q)) false := fun prog w E Q h => TypeEq.eq_type_other (fun s' => tyName_meta hp s') (fun s' => tyName_meta hq s') e h
    exact eqAt_of_rc r (fun q => by rw [q, beq_self_eq_true] at e; cases e) (by simp) prog w E Q h

theorem tup_same {a : Addr} {xs ys : List Value} (h : tupZ Z a xs) (h' : tupZ Z a ys) : xs = ys := by
  obtain ⟨n, e⟩ := h
  obtain ⟨m, e'⟩ := h'
  rw [e] at e'
  have := congrArg Array.toList (Data.seq.inj (Obj.mk.inj (Option.some.inj e')).2.2.1).1
  simpa using this
theorem elems_eq {typed : Bool} {p q : Nat} {v u : Value} (x : IsElem Z typed p v) (y : IsElem Z typed q u) (hz : Sub Z s.heap.get?) (hu : A.units + 20 < cLine) : EqAt A s v u (cls typed p == cls typed q) := by
  cases typed with
  | false =>
    have e : (cls false p == cls false q) = (worth p == worth q) := by
      have h1 := IsElem.lt x
      have h2 := IsElem.lt y
      have : ∀ p, p < 18 → ∀ q, q < 18 → (cls false p == cls false q) = (worth p == worth q) := by decide +kernel
      exact this p h1 q h2
    rw [e]
    exact vals_eq x y hz (by omega)
  | true =>
    have e : (cls true p == cls true q) = ((worth p == worth q) && (kind p == kind q)) := by
      have h1 := IsElem.lt x
      have h2 := IsElem.lt y
      have : ∀ p, p < 18 → ∀ q, q < 18 → (cls true p == cls true q) = ((worth p == worth q) && (kind p == kind q)) := by decide +kernel
      exact this p h1 q h2
    rw [e]
    obtain ⟨a, x', rfl, ha, hx⟩ := x
    obtain ⟨b, y', rfl, hb, hy⟩ := y
    obtain ⟨n, ea⟩ := ha
    obtain ⟨m, eb⟩ := hb
    by_cases hab : a = b
    · subst hab
      have := tup_same (Z := Z) ⟨n, ea⟩ ⟨m, eb⟩
      have e1 : x' = y' := by simpa using congrArg (fun l => l.getD 0 Value.none) this
      have e2 : tyName p = tyName q := by simpa using congrArg (fun l => l.getD 1 Value.none) this
      have e3 : (kind p == kind q) = true := by rw [← tyName_eq hx.lt hy.lt, e2, beq_self_eq_true]
      subst e1
      have e4 : (worth p == worth q) = true := by rw [val_same hx hy, beq_self_eq_true]
      rw [e3, e4]
      exact EqAt.same _
    · have := RcAt.tuples (A := A) (s := s) (l := a) (b := b) (items := #[x', .type (tyName p)]) (items2 := #[y', .type (tyName q)]) (e := fun j => if j = 0 then worth p == worth q else kind p == kind q) ⟨_, hz _ _ ea, rfl, n, rfl⟩ ⟨_, hz _ _ eb, rfl, m, rfl⟩ (by omega) (fun j h1 h2 => by
        have hj : j = 0 ∨ j = 1 := by simp at h1; omega
        rcases hj with rfl | rfl
        · exact vals_eq hx hy hz (by simp; omega)
        · exact types_eq hx.lt hy.lt)
      have e5 : ((List.range (min (#[x', Value.type (tyName p)] : Array Value).size (#[y', Value.type (tyName q)] : Array Value).size)).all (fun j => if j = 0 then worth p == worth q else kind p == kind q) && (#[x', Value.type (tyName p)] : Array Value).size == (#[y', Value.type (tyName q)] : Array Value).size) = ((worth p == worth q) && (kind p == kind q)) := by
        show ([0, 1].all (fun j => if j = 0 then worth p == worth q else kind p == kind q) && true) = _
        simp
      rw [e5] at this
      exact EqAt.of_refs hab this
end
end Mine

namespace Mine
open SeqAt MeetsSeq AutoSeq1

abbrev tabO (ps : Array Value) : Obj := { cls := .none, data := .fields ps }
/-- what lies in h lies in h'; a dict's slots may be others (a frame that an exception passes), a table of codes may grow -/
def UpTo (W : Addr → Prop) (h h' : Heap) : Prop :=
  ∀ b o, ¬ W b → h.get? b = some o → (∀ es n, o.data = .dict es n → ∃ sl, h'.get? b = some { o with slots := sl }) ∧ (o.cls ≠ .none → (∀ es n, o.data ≠ .dict es n) → h'.get? b = some o) ∧
    (∀ ps, o = tabO ps → ∃ more, (TriplesOk ps.toList → TriplesOk (ps ++ more).toList) ∧ h'.get? b = some (tabO (ps ++ more)))
theorem UpTo.of_keeps {W : Addr → Prop} {h h' : Heap} (k : ∀ b o, ¬ W b → h.get? b = some o → h'.get? b = some o) : UpTo W h h' := fun b o w e =>
  ⟨fun _ _ _ => ⟨o.slots, k b o w e⟩, fun _ _ => k b o w e, fun ps q => ⟨#[], fun t => by simpa using t, by rw [k b o w e, q]; simp⟩⟩
theorem UpTo.trans {W : Addr → Prop} {h h' h'' : Heap} (x : UpTo W h h') (y : UpTo W h' h'') : UpTo W h h'' := fun b o w e => by
  obtain ⟨c1, c2, c3⟩ := x b o w e
  refine ⟨fun es n hd => ?_, fun hc hd => (y b o w (c2 hc hd)).2.1 hc hd, fun ps q => ?_⟩
  · obtain ⟨sl, e1⟩ := c1 es n hd
    exact (y b _ w e1).1 es n hd
  · obtain ⟨more, t1, e1⟩ := c3 ps q
    obtain ⟨more', t2, e2⟩ := (y b _ w e1).2.2 _ rfl
    exact ⟨more ++ more', fun t => by rw [← Array.append_assoc]; exact t2 (t1 t), by rw [← Array.append_assoc]; exact e2⟩

/-- as Step, but the addresses of W may be turned, and the slots of dicts -/
structure StepW (W : Addr → Prop) (Z : Zp) (s : Shared) (Z' : Zp) (s' : Shared) : Prop where
  zz : Sub Z Z'
  zh : Sub Z' s'.heap.get?
  up : UpTo W s.heap s'.heap
  old : ∀ b, b < s.heap.objs.size → Z b = none → Z' b = none
  sz : s.heap.objs.size ≤ s'.heap.objs.size
  gens : AllBare s.gens → AllBare s'.gens
  os : s'.os = s.os
abbrev StepU := StepW (fun _ => False)
theorem Step.toW {W : Addr → Prop} {Z Z' : Zp} {s s' : Shared} (x : Step Z s Z' s') : StepW W Z s Z' s' := ⟨x.zz, x.zh, UpTo.of_keeps fun b o _ e => x.hh b o e, x.old, x.sz, x.gens, x.os⟩
namespace StepW
variable {W : Addr → Prop} {Z Z' Z'' : Zp} {s s' s'' : Shared}
theorem hh (x : StepW W Z s Z' s') {b : Addr} {o : Obj} (w : ¬ W b) (hd : ∀ es n, o.data ≠ .dict es n) (e : s.heap.get? b = some o) (hc : o.cls ≠ .none := by (intro q; cases q)) : s'.heap.get? b = some o := (x.up b o w e).2.1 hc hd
theorem ns (x : StepW W Z s Z' s') {L : Addr} {m : Str → Option Value} (w : ¬ W L) (n : s.heap.Ns L m) : s'.heap.Ns L m := by
  obtain ⟨o, es, ep, ho, hd, r⟩ := n
  obtain ⟨sl, e⟩ := (x.up L o w ho).1 es ep hd
  exact ⟨_, es, ep, e, hd, r⟩
theorem refl (h : Sub Z s.heap.get?) : StepW W Z s Z s := (Step.refl h).toW
theorem trans (x : StepW W Z s Z' s') (y : StepW W Z' s' Z'' s'') : StepW W Z s Z'' s'' :=
  ⟨x.zz.trans y.zz, y.zh, x.up.trans y.up, fun b hb e => y.old b (Nat.lt_of_lt_of_le hb x.sz) (x.old b hb e), Nat.le_trans x.sz y.sz, fun g => y.gens (x.gens g), y.os.trans x.os⟩
theorem upd (x : StepW W Z s Z' s') {h' : Heap} {a : Addr} {t : Nat} (ha : W a) (hz : Z' a = none) (hs : Heap.SameBut a s'.heap h') : StepW W Z s Z' { s' with heap := h', toks := t } :=
  ⟨x.zz, fun b o e => (hs.2 b fun q => by rw [q, hz] at e; cases e).trans (x.zh b o e), x.up.trans (UpTo.of_keeps fun b o w e => (hs.2 b fun q => w (q ▸ ha)).trans e), x.old,
    by show _ ≤ h'.objs.size; rw [hs.1]; exact x.sz, x.gens, x.os⟩
theorem tk (x : StepW W Z s Z' s') {t : Nat} : StepW W Z s Z' { s' with toks := t } := ⟨x.zz, x.zh, x.up, x.old, x.sz, x.gens, x.os⟩
theorem mono {W' : Addr → Prop} (x : StepW W Z s Z' s') (h : ∀ a, W a → W' a) : StepW W' Z s Z' s' := ⟨x.zz, x.zh, fun b o w e => x.up b o (fun q => w (h b q)) e, x.old, x.sz, x.gens, x.os⟩
theorem of_U (x : StepU Z s Z' s') : StepW W Z s Z' s' := x.mono fun _ q => q.elim
/-- what lies new may be turned: it is none of what lay -/
theorem wide {W' : Addr → Prop} (x : StepW W' Z s Z' s') (h : ∀ a, W' a → W a ∨ s.heap.objs.size ≤ a) : StepW W Z s Z' s' :=
  ⟨x.zz, x.zh, fun b o w e => x.up b o (fun q => (h b q).elim w fun l => absurd (Heap.lt_size e) (Nat.not_lt.mpr l)) e, x.old, x.sz, x.gens, x.os⟩
theorem toU (x : StepW W Z s Z' s') (h : ∀ a, W a → s.heap.objs.size ≤ a) : StepU Z s Z' s' := x.wide fun a q => .inr (h a q)
theorem none_of_new (x : StepW W Z s Z' s') : Z' s'.heap.objs.size = none := by
  cases e : Z' s'.heap.objs.size with
  | none => rfl
  | some o' => exact absurd (Heap.lt_size (x.zh _ _ e)) (Nat.lt_irrefl _)
theorem freeze (x : StepW W Z s Z' s') {a : Addr} {o : Obj} (ha : s.heap.objs.size ≤ a) (ho : s'.heap.get? a = some o) (hz : Z' a = none) : StepW W Z s (Mine.put Z' a o) s' :=
  ⟨x.zz.trans (Sub.put hz), fun b o' e => by
    by_cases h : b = a
    · subst h; rw [put_self] at e; cases e; exact ho
    · rw [put_ne o h] at e; exact x.zh b o' e, x.up, fun b hb e => by
    rw [put_ne o (Nat.ne_of_lt (Nat.lt_of_lt_of_le hb ha))]; exact x.old b hb e, x.sz, x.gens, x.os⟩
theorem push (x : StepW W Z s Z' s') {o : Obj} {tk : Nat} (ho : o.isFreed = false := by rfl) :
    StepW W Z s (put Z' s'.heap.objs.size o) { s' with heap := s'.heap.push o, toks := tk } := x.trans ((Step.refl x.zh).push (tk := tk) ho).toW
theorem keeps' (x : StepW W Z s Z' s') {h' : Heap} {t : Nat} (kz : ∀ b o, Z' b = some o → s'.heap.get? b = some o → h'.get? b = some o)
    (k : ∀ b o, ¬ W b → b < s.heap.objs.size → s'.heap.get? b = some o → h'.get? b = some o) (hz : s'.heap.objs.size ≤ h'.objs.size) : StepW W Z s Z' { s' with heap := h', toks := t } :=
  ⟨x.zz, fun b o e => kz b o e (x.zh b o e), fun b o w e => by
    obtain ⟨c1, c2, c3⟩ := x.up b o w e
    exact ⟨fun es n hd => let ⟨sl, e1⟩ := c1 es n hd; ⟨sl, k b _ w (Heap.lt_size e) e1⟩, fun hc hd => k b o w (Heap.lt_size e) (c2 hc hd), fun ps q => let ⟨more, t, e1⟩ := c3 ps q; ⟨more, t, k b _ w (Heap.lt_size e) e1⟩⟩, x.old, Nat.le_trans x.sz hz, x.gens, x.os⟩
theorem pushM (x : StepW W Z s Z' s') {o : Obj} {tk : Nat} : StepW W Z s Z' { s' with heap := s'.heap.push o, toks := tk } := x.trans ((Step.refl x.zh).pushM (tk := tk)).toW
theorem keeps (x : StepW W Z s Z' s') {h' : Heap} {t : Nat} (hk : ∀ b o, s'.heap.get? b = some o → h'.get? b = some o) (hz : s'.heap.objs.size ≤ h'.objs.size) : StepW W Z s Z' { s' with heap := h', toks := t } := x.trans ((Step.refl x.zh).keeps (t := t) hk hz).toW
end StepW

/-- the world, as a part of what stays -/
def WZ (w : World) (Z : Zp) : Prop := ∃ h : Heap, Wd w h ∧ Sub h.get? Z
theorem WZ.mono {w : World} {Z Z' : Zp} (h : WZ w Z) (k : Sub Z Z') : WZ w Z' := let ⟨h0, a, b⟩ := h; ⟨h0, a, b.trans k⟩
theorem WZ.at {w : World} {Z : Zp} {h : Heap} (x : WZ w Z) (hz : Sub Z h.get?) : Wd w h := let ⟨_, a, b⟩ := x; a.keeps (b.trans hz)

/-- the frames on the stack -/
def Frs (A : Around) (Z : Zp) (h : Heap) : Prop :=
  ∃ l, A.frames = some l ∧ ∀ env ∈ l, env.scope.kind ≠ .module ∧ ∃ L o es n, env.frame = some L ∧ h.get? L = some o ∧ o.data = .dict es n ∧ Z L = none
theorem Frs.step {A : Around} {W : Addr → Prop} {Z Z' : Zp} {s s' : Shared} (x : Frs A Z s.heap) (S : StepW W Z s Z' s') (hW : ∀ a, W a → s.heap.objs.size ≤ a) : Frs A Z' s'.heap := by
  obtain ⟨l, e, h⟩ := x
  refine ⟨l, e, fun env he => ?_⟩
  obtain ⟨hk, L, o, es, n, hf, ho, hd, hz⟩ := h env he
  obtain ⟨sl, e1⟩ := (S.up L o (fun w => absurd (Heap.lt_size ho) (Nat.not_lt.mpr (hW L w))) ho).1 es n hd
  exact ⟨hk, L, _, es, n, hf, e1, hd, S.old _ (Heap.lt_size ho) hz⟩
theorem Frs.stepU {A : Around} {Z Z' : Zp} {s s' : Shared} (x : Frs A Z s.heap) (S : StepU Z s Z' s') : Frs A Z' s'.heap := x.step S fun _ q => q.elim
theorem Frs.deeper {A : Around} {Z : Zp} {h : Heap} {name : Str} {scope : Scope} {L a : Addr} {cd : Value} {m : Str → Option Value} (x : Frs A Z h) (n : h.Ns L m) (hz : Z L = none) (hk : scope.kind = .function := by rfl) : Frs (A.deeper (envOf name scope L a cd)) Z h := by
  obtain ⟨l, e, h'⟩ := x
  refine ⟨envOf name scope L a cd :: l, Around.frames_deeper e, fun env he => ?_⟩
  cases he with
  | head =>
    obtain ⟨o, es, ep, ho, hd, _⟩ := n
    exact ⟨by show scope.kind ≠ _; rw [hk]; decide, L, o, es, ep, rfl, ho, hd, hz⟩
  | tail _ he => exact h' env he

/-- no exception is being handled, or one whose context is None -/
def HOk (A : Around) (Z : Zp) : Prop := A.handled = none ∨ ∃ e o vs, A.handled = some (.ref e) ∧ Z e = some o ∧ o.data = .fields vs ∧ vs[2]? = some .none
theorem HOk.mono {A : Around} {Z Z' : Zp} (h : HOk A Z) (k : Sub Z Z') : HOk A Z' := h.imp id fun ⟨e, o, vs, a, b, c⟩ => ⟨e, o, vs, a, k _ _ b, c⟩
theorem HOk.in1 {A : Around} {Z : Zp} (h : HOk A Z) : HOk A.in1 Z := h
theorem HOk.deeper {A : Around} {Z : Zp} (h : HOk A Z) (env : Env) : HOk (A.deeper env) Z := h

theorem entry_unchain : entryFor table "proto.unchain" = some Builtin.«proto.unchain» := entryFor_of_fast (by kernel_rfl)

section
variable {prog : Program} {w : World} {A : Around} {E : Value → Shared → Prop} {s : Shared} {Z : Zp}

/-- a new exception is raised -/
theorem raiseNew_ok {α : Type} {e : Addr} {c : Value} {t x : Value} {Q : α → Shared → Prop} (hok : HOk A Z) (hz : Sub Z s.heap.get?) (he : s.heap.get? e = some { cls := c, data := .fields #[t, .none, .none, .none, .bool false, x] }) (hze : Z e = none)
    (h : ∀ h' k, Heap.SameBut e s.heap h' → h'.get? e = some { cls := c, data := .fields #[t, .none, k, .none, .bool false, x] } → (A.handled = none → k = .none) → E (.ref e) { s with heap := h' }) :
    wpAny (model prog w) A (raiseNew (.ref e) : Sem α) Q E s := by
  unfold raiseNew
  refine wpAny_bind (wpAny_handled ?_)
  rcases hok with hn | ⟨a, o, vs, ha, hzo, hd, h2⟩
  · rw [hn]
    exact wpAny_bind (wpAny_pure (wpAny_throw (h s.heap .none (Heap.SameBut.refl _ _) he fun _ => rfl)))
  · rw [ha]
    dsimp only
    have hne : a ≠ e := fun q => by rw [q, hze] at hzo; cases hzo
    rw [if_pos (by simpa using hne)]
    refine wpAny_bind (wpAny_holding (wpAny_runValue (codeAny_builtin entry_unchain ?_)))
    show wpAny _ _ (field (.ref a) 2 >>= _) _ _ s
    refine wpAny_bind (wpAny_field (hz _ _ hzo) hd h2 ?_)
    show wpAny _ _ (if (Value.none == Value.none) = true then _ else _) _ _ s
    rw [if_pos (by decide)]
    refine wpAny_pure ?_
    show wpAny _ _ (updateField e 2 (.ref a) >>= _) _ _ s
    refine wpAny_bind ?_
    unfold updateField
    refine wpAny_bind (wpAny_load he ?_)
    dsimp only
    rw [if_pos (by simp)]
    refine wpAny_update he ?_
    refine wpAny_throw (h _ (.ref a) (Heap.SameBut.update ..) ?_ fun q => by rw [ha] at q; cases q)
    exact Heap.get?_update_self _ he rfl

/-- the end of a list's iterator -/
theorem next_end' {it l : Addr} {i : Nat} {items : Array Value} {Q : Option Value → Shared → Prop} (hok : HOk A Z) (hz : Sub Z s.heap.get?) (hzi : Z it = none)
    (hit : s.heap.IsListIter it l i) (hl : s.heap.IsList l items) (hx : items[i]? = none)
    (hQ : ∀ h', Heap.ExtBut it s.heap h' → s.heap.objs.size ≤ h'.objs.size → (∃ o, h'.get? (h'.objs.size - 1) = some o) → Q none { s with heap := h' }) : wpAny (model prog w) A (pyNext (.ref it)) Q E s := by
  obtain ⟨o, ho, hc, hd⟩ := id hit
  obtain ⟨ol, hol, _, nl, hdl⟩ := hl
  unfold pyNext
  refine wpAny_bind (wpAny_attempt (wpAny_callSpecial?_slot (name := Str.ofString "__next__") hit.typeIs slot_listiter_next
    (wpAny_call_entry slot_listiter_next hit.typeIs entry_listiter_next ?_ (args_listiter_next _))))
  show wpAny _ _ (field (.ref it) 0 >>= _) _ _ s
  refine wpAny_bind (wpAny_field ho hd (x := .ref l) rfl ?_)
  show wpAny _ _ (if (Value.ref l == Value.none) = true then _ else _) _ _ s
  rw [if_neg (show ¬ ((Value.ref l == Value.none) = true) from Bool.false_ne_true)]
  show wpAny _ _ (field (.ref it) 1 >>= _) _ _ s
  refine wpAny_bind (wpAny_field ho hd (x := .int i 0) rfl ?_)
  show wpAny _ _ (seqItems? (.ref l) >>= _) _ _ s
  refine wpAny_bind (wpAny_seqItems hol hdl ?_)
  simp only [Int.toNat_natCast, hx]
  refine wpAny_bind (wpAny_rule (wpAny_bind (wpAny_setField ho hd (by simp) ?_)))
  show wpAny _ _ (newExc (.type "StopIteration") [] >>= _) _ _ _
  refine wpAny_bind ?_
  simp only [newExc, newTuple]
  refine wpAny_bind (wpAny_newObj_type ?_ (by size_fits))
  refine wpAny_bind (m := firstArgMember _ _) (wpAny_of_eq (a := Value.none) (by first | rfl | (simp only [firstArgMember]; rfl)) ?_)
  refine wpAny_newObj_type ?_ (by size_fits)
  have e1 : Heap.ExtBut it s.heap (((s.heap.update it (Obj.mapFields fun x => x.setIfInBounds 0 Value.none)).push { cls := .type "tuple", data := .seq #[] }).push { cls := .type "StopIteration", data := .fields (#[.ref (s.heap.update it (Obj.mapFields fun x => x.setIfInBounds 0 Value.none)).objs.size, .none, .none, .none, .bool false, .none] ++ #[]) }) :=
    ((Heap.SameBut.update ..).extBut.push _).push _
  refine raiseNew_ok (Z := Z) (c := .type "StopIteration") (t := .ref (s.heap.update it (Obj.mapFields fun x => x.setIfInBounds 0 Value.none)).objs.size) (x := .none) hok.in1 (fun b o e => ?_) (Heap.get?_push_size _ rfl) ?_ fun h' k hs he _ => ?_
  · exact e1 b o (fun q => by rw [q, hzi] at e; cases e) (hz b o e)
  · cases q : Z ((s.heap.update it (Obj.mapFields fun x => x.setIfInBounds 0 Value.none)).push { cls := .type "tuple", data := .seq #[] }).objs.size with
    | none => rfl
    | some o' =>
      have := Heap.lt_size (hz _ _ q)
      rw [Heap.size_push, Heap.size_after_update] at this
      exact absurd (Nat.lt_of_succ_lt this) (Nat.lt_irrefl _)
  · refine wpAny_bind (wpAny_isInstance (T := "StopIteration") (b := true) ⟨_, he, rfl⟩ isSubtype_stop ?_)
    refine wpAny_pure (hQ _ (fun b o hb e => ?_) ?_ ⟨_, by rw [hs.1, Heap.size_push]; exact he⟩)
    · refine (hs.2 b fun q => ?_).trans (e1 b o hb e)
      have := Heap.lt_size e
      rw [q, Heap.size_push, Heap.size_after_update] at this
      exact absurd (Nat.lt_of_succ_lt this) (Nat.lt_irrefl _)
    · have := hs.1
      rw [Heap.size_push, Heap.size_push, Heap.size_after_update] at this
      rw [this]
      exact Nat.le_succ_of_le (Nat.le_succ _)

theorem next_end {it l : Addr} {i : Nat} {items : Array Value} {Q : Option Value → Shared → Prop} (hok : HOk A Z) (hz : Sub Z s.heap.get?) (hzi : Z it = none)
    (hit : s.heap.IsListIter it l i) (hl : s.heap.IsList l items) (hx : items[i]? = none)
    (hQ : ∀ h', Heap.ExtBut it s.heap h' → s.heap.objs.size ≤ h'.objs.size → Q none { s with heap := h' }) : wpAny (model prog w) A (pyNext (.ref it)) Q E s :=
  next_end' hok hz hzi hit hl hx fun h' a b _ => hQ h' a b

/-- a for over a list that stays: R tells what holds after i items, of what stays and of what the loop turns -/
theorem loop_list {W : Addr → Prop} {X : List Str} {x : Str} {px : Pos} {body : List Stmt} {env : Env} {a : Addr} {its : List Value} {m : Str → Option Value} {Q : Flow → Shared → Prop} (R : Nat → Zp → Zp → Prop)
    (hok : HOk A Z) (hz : Sub Z s.heap.get?) (hl : lstZ Z a its) (hns : s.heap.Ns env.locals m) (hW : ∀ b, W b → b < s.heap.objs.size ∧ Z b = none) (hWL : W env.locals)
    (mono : ∀ i Z1 g g', (∀ b o, W b → b ≠ env.locals → g b = some o → g' b = some o) → R i Z1 g → R i Z1 g') (h0 : R 0 Z s.heap.get?)
    (turn : ∀ i v Z1 (s1 : Shared) m1, its[i]? = some v → StepW W Z s Z1 s1 → s1.heap.Ns env.locals m1 → m1 x = some v → (∀ y, y ∉ x :: X → m1 y = m y) → R i Z1 s1.heap.get? →
      wpAny (model prog w) A (execs body env) (fun f s2 => (f = .next ∨ f = .cont) ∧ ∃ Z2 m2, StepW W Z1 s1 Z2 s2 ∧ s2.heap.Ns env.locals m2 ∧ (∀ y, y ∉ x :: X → m2 y = m y) ∧ R (i + 1) Z2 s2.heap.get?)
        (notedBy (model prog w) A env fun e s' => cameBackBy (model prog w) A env E e s') s1)
    (fin : ∀ Z1 (s1 : Shared) m1, StepW W Z s Z1 s1 → s1.heap.Ns env.locals m1 → (∀ y, y ∉ x :: X → m1 y = m y) → R its.length Z1 s1.heap.get? → Q .next s1)
    (hk : env.scope.kind = .function := by rfl) (hx : env.kindOf x = some .local := by rfl) :
    wpAny (model prog w) A (pyIter (.ref a)) (fun it s₂ => codeAny (model prog w) A (.forLoop (.Name x px) it body [] env)
      (fun r s' => match r with | .ok f => Q f s' | .error e => cameBackBy (model prog w) A env E e s') s₂) E s := by
  obtain ⟨nn, el⟩ := hl
  have hl0 : s.heap.IsList a its.toArray := ⟨_, hz _ _ el, rfl, nn, rfl⟩
  refine wpAny_pyIter_list hl0 ?_
  have hI : Z s.heap.objs.size = none := (Step.refl hz).none_of_new
  have hIW : ¬ W s.heap.objs.size := fun q => Nat.lt_irrefl _ (hW _ q).1
  refine codeAny_forLoop (fun n s1 => ∃ i Z1 m1, i + n = its.length ∧ StepW W Z s Z1 s1 ∧ s1.heap.objs.size > s.heap.objs.size ∧ s1.heap.IsListIter s.heap.objs.size a i ∧ Z1 s.heap.objs.size = none ∧ s1.heap.Ns env.locals m1 ∧ (∀ y, y ∉ x :: X → m1 y = m y) ∧ R i Z1 s1.heap.get?) ?_ its.length ?_
  · rintro n s1 ⟨i, Z1, m1, hn, S, hsz, hit, hzi, hn1, hm1, hR⟩
    have hl1 : s1.heap.IsList a its.toArray := ⟨_, S.zh _ _ (S.zz _ _ el), rfl, nn, rfl⟩
    have hne : env.locals ≠ s.heap.objs.size := fun q => hIW (q ▸ hWL)
    have hLz : Z1 env.locals = none := S.old _ (hW _ hWL).1 (hW _ hWL).2
    cases hx1 : its[i]? with
    | none =>
      have hlen : i = its.length := by
        have := List.getElem?_eq_none_iff.mp hx1
        omega
      refine next_end (hok.mono S.zz) S.zh hzi hit hl1 (by simpa using hx1) fun h' hext hsz' => ?_
      refine wpAny_execs_nil ?_
      subst hlen
      refine fin Z1 _ m1 (S.keeps' (t := s1.toks) (fun b o e => hext b o (fun q => by rw [q, hzi] at e; cases e)) (fun b o hw hb => hext b o (Nat.ne_of_lt hb)) hsz') (hn1.extBut hext hne) hm1 ?_
      exact mono _ _ _ _ (fun b o hb _ e => hext b o (fun q => hIW (q ▸ hb)) e) hR
    | some v =>
      refine wpAny_pyNext_list_item hit hl1 (by simpa using hx1) fun h2 hit2 hs2 => ?_
      have up2 : ∀ b o, b ≠ s.heap.objs.size → s1.heap.get? b = some o → h2.get? b = some o := fun b o hb e => (hs2.2 b hb).trans e
      refine wpAny_assign_Name (st_loc (hn1.sameBut hs2 hne) (fun h3 hn3 hs3 => ?_) hk hx)
      have up3 : ∀ b o, b ≠ env.locals → b ≠ s.heap.objs.size → s1.heap.get? b = some o → h3.get? b = some o := fun b o h1 h2' e => (hs3.2 b h1).trans (up2 b o h2' e)
      have S3 : StepW W Z s Z1 { s1 with heap := h3, toks := s1.toks + 1 } :=
        S.keeps' (fun b o e => up3 b o (fun q => by rw [q, hLz] at e; cases e) (fun q => by rw [q, hzi] at e; cases e))
          (fun b o hw hb => up3 b o (fun q => hw (q ▸ hWL)) (Nat.ne_of_lt hb)) (by show _ ≤ h3.objs.size; rw [hs3.1, hs2.1]; exact Nat.le_refl _)
      refine wpAny_mono (turn i v Z1 _ (fun y => if y = x then some v else m1 y) hx1 S3 hn3 (by simp) (fun y hy => ?_) ?_) (fun f s2 h2' => ?_) fun _ _ e => e
      · have : y ≠ x := fun q => hy (by simp [q])
        simp only [this, if_false]
        exact hm1 y hy
      · exact mono _ _ _ _ (fun b o hb hbl e => up3 b o hbl (fun q => hIW (q ▸ hb)) e) hR
      · obtain ⟨hf, Z2, m2, S2, hn2, hm2, hR2⟩ := h2'
        have key : ∃ mm, mm < n ∧ ∃ i' Z1' m1', i' + mm = its.length ∧ StepW W Z s Z1' s2 ∧ s2.heap.objs.size > s.heap.objs.size ∧ s2.heap.IsListIter s.heap.objs.size a i' ∧ Z1' s.heap.objs.size = none ∧ s2.heap.Ns env.locals m1' ∧ (∀ y, y ∉ x :: X → m1' y = m y) ∧ R i' Z1' s2.heap.get? := by
          have hlt : i < its.length := by
            rcases Nat.lt_or_ge i its.length with h | h
            · exact h
            · rw [List.getElem?_eq_none h] at hx1; cases hx1
          have hs3sz : h3.objs.size = s1.heap.objs.size := hs3.1.trans hs2.1
          refine ⟨n - 1, by omega, i + 1, Z2, m2, by omega, S3.trans S2, ?_, ?_, ?_, hn2, hm2, hR2⟩
          · have := S2.sz; show _ < _; exact Nat.lt_of_lt_of_le (by show _ < h3.objs.size; rw [hs3sz]; exact hsz) this
          · obtain ⟨o, ho, r, hd⟩ := hit2
            exact ⟨o, S2.hh hIW (fun es n q => by rw [hd] at q; cases q) ((hs3.2 _ (Ne.symm hne)).trans ho) (by rw [r]; intro q; cases q), r, hd⟩
          · exact S2.old _ (by show _ < h3.objs.size; rw [hs3sz]; exact hsz) hzi
        rcases hf with rfl | rfl
        · exact key
        · exact key
  · refine ⟨0, Z, m, by omega, ((Step.refl hz).pushM (tk := s.toks)).toW, by simp, ⟨_, Heap.get?_push_size _ rfl, rfl, rfl⟩, hI, hns.push _, fun _ _ => rfl, ?_⟩
    exact mono _ _ _ _ (fun b o _ _ e => Heap.get?_push_of_some _ e) h0
end
end Mine

namespace Mine
open SeqAt MeetsSeq AutoSeq1

abbrev lobj (xs : List Value) (n : Nat) : Obj := { cls := .type "list", data := .seq xs.toArray n }

/-- keep the first of each class, behind acc -/
def dd (c : Nat → Nat × Nat) : List Nat → List Nat → List Nat
  | acc, [] => acc
  | acc, p :: ps => if acc.any (fun q => c q == c p) then dd c acc ps else dd c (acc ++ [p]) ps
theorem dd_append (c : Nat → Nat × Nat) : ∀ (ps acc qs : List Nat), dd c acc (ps ++ qs) = dd c (dd c acc ps) qs
  | [], _, _ => rfl
  | p :: ps, acc, qs => by
    rw [List.cons_append, dd, dd]
    split
    · exact dd_append c ps acc qs
    · exact dd_append c ps (acc ++ [p]) qs
theorem dd_length (c : Nat → Nat × Nat) : ∀ (ps acc : List Nat), (dd c acc ps).length ≤ acc.length + ps.length
  | [], _ => Nat.le_refl _
  | p :: ps, acc => by
    rw [dd]
    split
    · have := dd_length c ps acc; simp; omega
    · have := dd_length c ps (acc ++ [p]); simp at this ⊢; omega
abbrev dedup (c : Nat → Nat × Nat) (ps : List Nat) : List Nat := dd c [] ps

section
variable {prog : Program} {w : World} {A : Around} {E : Value → Shared → Prop} {s : Shared} {Z : Zp}
theorem append_at {c : Addr} {xs : List Value} {n : Nat} {x : Value} {Q : Value → Shared → Prop} (ho : s.heap.get? c = some (lobj xs n)) (hsz : xs.length ≤ sizeLine)
    (h : ∀ h' n', h'.get? c = some (lobj (xs ++ [x]) n') → Heap.SameBut c s.heap h' → Q .none { s with heap := h' }) : wpAny (model prog w) A (call (.builtin "list.append") [.ref c, x]) Q E s := by
  refine wpAny_call_entry slot_list_append ⟨_, ho, rfl⟩ entry_list_append ?_ (args_list_append _ _)
  show wpAny _ _ (updateSeq c (·.push x) >>= fun _ => ret .none) _ _ s
  refine wpAny_bind ?_
  refine wpAny_updateSeq ho rfl (wpAny_pure ⟨.none, rfl, h _ (n + 1) ?_ (Heap.SameBut.update ..)⟩) (by simpa using hsz)
  rw [Heap.get?_update_self _ ho rfl]
  simp [Obj.mapSeq]

theorem pair_same {p q : Nat} {v : Value} (x : IsPair Z p v) (y : IsPair Z q v) : p = q := by
  obtain ⟨a, x', rfl, ha, hx⟩ := x
  obtain ⟨b, y', e, hb, hy⟩ := y
  cases e
  have := tup_same ha hb
  have e1 : x' = y' := by simpa using congrArg (fun l => l.getD 0 Value.none) this
  subst e1
  exact val_same hx hy
theorem elem_same {typed : Bool} {p q : Nat} {v : Value} (x : IsElem Z typed p v) (y : IsElem Z typed q v) : p = q := by
  cases typed
  · exact val_same x y
  · exact pair_same x y

open Classical in
noncomputable def hits (Z : Zp) (typed : Bool) (p : Nat) (y : Value) : Bool := decide (∃ q, IsElem Z typed q y ∧ (cls typed q == cls typed p) = true)
open Classical in
theorem hits_eq {typed : Bool} {p q : Nat} {y : Value} (h : IsElem Z typed q y) : hits Z typed p y = (cls typed q == cls typed p) := by
  unfold hits
  cases e : (cls typed q == cls typed p) with
  | true => exact decide_eq_true ⟨q, h, e⟩
  | false => exact decide_eq_false fun ⟨q', h', e'⟩ => by rw [elem_same h' h, e] at e'; cases e'
theorem hits_any {typed : Bool} {p : Nat} {vs : List Value} {ps : List Nat} (R : Rows2 (fun v p => IsElem Z typed p v) vs ps) : vs.any (hits Z typed p) = ps.any (fun q => cls typed q == cls typed p) := by
  induction R with
  | nil => rfl
  | cons x _ ih => rw [List.any_cons, List.any_cons, ih, hits_eq x]

/-- not in, over a list of elements -/
theorem notIn_elems {typed : Bool} {c : Addr} {vs : List Value} {ps : List Nat} {n : Nat} {x : Value} {p : Nat} {Q : Value → Shared → Prop} (hz : Sub Z s.heap.get?) (ho : s.heap.get? c = some (lobj vs n))
    (R : Rows2 (fun v p => IsElem Z typed p v) vs ps) (hx : IsElem Z typed p x) (hu : A.units + 30 < cLine) (h : Q (.bool (!ps.any (fun q => cls typed q == cls typed p))) s) : wpAny (model prog w) A (compareOp .NotIn x (.ref c)) Q E s := by
  refine notIn_listAt (hits Z typed p) ⟨_, ho, rfl, n, rfl⟩ (fun y hy => ?_) ?_
  · obtain ⟨q, _, hq⟩ := R.mem (by simpa using hy)
    rw [hits_eq hq]
    exact elems_eq hq hx hz (by simp; omega)
  · rw [List.any_toArray, hits_any R]
    exact h

/-- _deduplicate_unhashable -/
theorem dedup_un {typed : Bool} {a : Addr} {vs : List Value} {ps : List Nat} {Q : Value → Shared → Prop} (W : WZ w Z) (hz : Sub Z s.heap.get?) (hok : HOk A Z) (hd : A.depth + 2 < recursionLimit) (hu : A.units + 60 < cLine)
    (hl : lstZ Z a vs) (R : Rows2 (fun v p => IsElem Z typed p v) vs ps) (hsz : vs.length ≤ 1000000)
    (h : ∀ s' Z' c us, StepU Z s Z' s' → lstZ Z' c us → Rows2 (fun v p => IsElem Z' typed p v) us (dedup (cls typed) ps) → Q (.ref c) s') : wpAny (model prog w) A (call (.ref 29) [.ref a] []) Q E s := by
  refine' call_fn (binds := [(Str.ofString "unhashable_params", .ref a)]) (W.at hz) (by omega) ?ho ?hcd (BindsTo.of_eq ?hb) ?_ ?hloc ?hcell ?hco ?hgen ?hk
  case ho => exact rfl
  case hcd => exact rfl
  case hb => exact rfl
  case hloc => exact locs rfl
  case hcell => decide
  case hco => rfl
  case hgen => rfl
  case hk => rfl
  intro h' hns hk hsz'
  have S0 : Step Z s Z { s with heap := h', toks := s.toks + 1 } := (Step.refl hz).keeps hk (Nat.le_of_lt hsz')
  -- new_unhashable = []
  refine wpAny_execs_cons ?_
  refine wpAny_Assign_Name ?_
  refine wpAny_List ?_
  refine wpAny_items_nil ?_
  refine ⟨Nat.zero_le _, ?_⟩
  refine st_loc (hns.push _) (fun h2 hn2 hs2 => ?_) rfl rfl
  have hc0 : h2.get? h'.objs.size = some (lobj [] 0) := (hs2.2 _ (Nat.ne_of_gt hsz')).trans (Heap.get?_push_size _ rfl)
  have S1 : StepW (fun b => b = s.heap.objs.size ∨ b = h'.objs.size) Z s Z { s with heap := h2, toks := s.toks + 1 + 1 } := by
    refine StepW.upd (a := s.heap.objs.size) (S0.pushM (tk := s.toks + 1)).toW (.inl rfl) ?_ hs2
    exact (Step.refl hz).none_of_new
  have hzc : Z h'.objs.size = none := S0.none_of_new
  have sz2 : h2.objs.size = h'.objs.size + 1 := hs2.1.trans (Heap.size_push _ _)
  -- the loop
  refine wpAny_execs_cons ?_
  refine wpAny_For ?_
  refine ld_loc (v := .ref a) hn2 rfl ?_
  have hne : (s.heap.objs.size = h'.objs.size) = False := by simp; exact Nat.ne_of_lt hsz'
  refine loop_list (W := fun b => b = s.heap.objs.size ∨ b = h'.objs.size) (X := []) (Z := Z) (its := vs)
    (fun i Z1 g => ∃ us n, g h'.objs.size = some (lobj us n) ∧ Rows2 (fun v p => IsElem Z1 typed p v) us (dedup (cls typed) (ps.take i))) (hok.deeper _) S1.zh hl hn2 ?hW (.inl rfl) ?mono ?h0 ?turn ?fin
  case hW =>
    rintro b (rfl | rfl)
    · exact ⟨by show _ < h2.objs.size; rw [sz2]; exact Nat.lt_succ_of_lt hsz', (Step.refl hz).none_of_new⟩
    · exact ⟨by show _ < h2.objs.size; rw [sz2]; exact Nat.lt_succ_self _, hzc⟩
  case mono =>
    rintro i Z1 g g' hg ⟨us, n, e, r⟩
    exact ⟨us, n, hg _ _ (.inr rfl) (Nat.ne_of_gt hsz') e, r⟩
  case h0 => exact ⟨[], 0, hc0, .nil⟩
  case turn =>
    rintro i v Z1 s1 m1 hv S hn hmx hm ⟨us, n, hc, r⟩
    obtain ⟨p, hp, hpv⟩ := R.get i v hv
    have hpv1 : IsElem Z1 typed p v := hpv.mono S.zz
    have et : ps.take (i + 1) = ps.take i ++ [p] := by rw [List.take_add_one, hp]; rfl
    have hlen : us.length ≤ 1000000 := by
      have h1 : us.length = (dd (cls typed) [] (ps.take i)).length := r.length
      have h2 := dd_length (cls typed) (ps.take i) []
      have h3 := R.length
      simp at h2
      omega
    refine wpAny_execs_cons ?_
    refine wpAny_If ?_
    refine wpAny_isTrue_Compare1 ?_
    refine ld_loc (v := v) hn hmx ?_
    refine ld_loc (v := .ref h'.objs.size) hn ((hm _ (by decide)).trans rfl) ?_
    refine notIn_elems S.zh hc r hpv1 (by simp; omega) ?_
    refine wpAny_truthy_bool ?_
    cases hany : (dedup (cls typed) (ps.take i)).any (fun q => cls typed q == cls typed p) with
    | true =>
      refine wpAny_execs_nil ?_
      refine wpAny_execs_nil ?_
      refine ⟨.inl rfl, Z1, m1, StepW.refl S.zh, hn, hm, us, n, hc, ?_⟩
      rw [et]; show Rows2 _ us (dd _ [] _); rw [dd_append, dd, if_pos hany]; exact r
    | false =>
      refine wpAny_execs_cons ?_
      refine wpAny_Expr ?_
      refine wpAny_Call_append rfl rfl rfl rfl ?_
      refine ld_loc (v := .ref h'.objs.size) hn ((hm _ (by decide)).trans rfl) ?_
      refine ⟨_, us.toArray, rfl, ⟨_, n, hc, rfl, rfl, rfl⟩, ?_⟩
      refine ld_loc (v := v) hn hmx ?_
      refine append_at hc (by rw [sizeLine_eq]; omega) fun h3 n3 hc3 hs3 => ?_
      refine wpAny_execs_nil ?_
      refine wpAny_execs_nil ?_
      have hz1 : Z1 h'.objs.size = none := S.old _ (by show _ < h2.objs.size; rw [sz2]; exact Nat.lt_succ_self _) hzc
      refine ⟨.inl rfl, Z1, m1, (StepW.refl S.zh).upd (t := s1.toks) (.inr rfl) hz1 hs3, hn.sameBut hs3 (Nat.ne_of_lt hsz'), hm, us ++ [v], n3, hc3, ?_⟩
      rw [et]; show Rows2 _ _ (dd _ [] _); rw [dd_append, dd, if_neg (by rw [hany]; simp)]; exact r.snoc hpv1
  case fin =>
    rintro Z1 s1 m1 S hn hm ⟨us, n, hc, r⟩
    refine wpAny_execs_cons ?_
    refine wpAny_Return_some ?_
    refine ld_loc (v := .ref h'.objs.size) hn ((hm _ (by decide)).trans rfl) ?_
    have hz1 : Z1 h'.objs.size = none := S.old _ (by show _ < h2.objs.size; rw [sz2]; exact Nat.lt_succ_self _) hzc
    have S2 : StepU Z s Z1 s1 := (S1.trans S).toU (by rintro b (rfl | rfl); exact Nat.le_refl _; exact Nat.le_of_lt hsz')
    have S3 := S2.freeze (Nat.le_of_lt hsz') hc hz1
    rw [List.take_of_length_le (by rw [R.length]; exact Nat.le_refl _)] at r
    exact h s1 _ h'.objs.size us S3 ⟨n, put_self _ _ _⟩ (r.mono fun v p x => x.mono (Sub.put hz1))
end
end Mine

namespace Mine
open SeqAt MeetsSeq AutoSeq1

/-- the frames on the stack, of which env's is the top -/
def FrsE (env : Env) (A : Around) (Z : Zp) (h : Heap) : Prop :=
  ∃ l, A.frames = some (env :: l) ∧ ∀ e ∈ env :: l, e.scope.kind ≠ .module ∧ ∃ L o es n, e.frame = some L ∧ h.get? L = some o ∧ o.data = .dict es n ∧ Z L = none
theorem FrsE.step {env : Env} {A : Around} {W : Addr → Prop} {Z Z' : Zp} {s s' : Shared} (x : FrsE env A Z s.heap) (S : StepU Z s Z' s') : FrsE env A Z' s'.heap := by
  obtain ⟨l, e, h⟩ := x
  refine ⟨l, e, fun env he => ?_⟩
  obtain ⟨hk, L, o, es, n, hf, ho, hd, hz⟩ := h env he
  obtain ⟨sl, e1⟩ := (S.up L o (fun q => q) ho).1 es n hd
  exact ⟨hk, L, _, es, n, hf, e1, hd, S.old _ (Heap.lt_size ho) hz⟩
theorem Frs.top {A : Around} {Z : Zp} {h : Heap} {name : Str} {scope : Scope} {L a : Addr} {cd : Value} {m : Str → Option Value} (x : Frs A Z h) (n : h.Ns L m) (hz : Z L = none) (hk : scope.kind = .function := by rfl) :
    FrsE (envOf name scope L a cd) (A.deeper (envOf name scope L a cd)) Z h := by
  obtain ⟨l, e, h'⟩ := x
  refine ⟨l, Around.frames_deeper e, fun env he => ?_⟩
  cases he with
  | head =>
    obtain ⟨o, es, ep, ho, hd, _⟩ := n
    exact ⟨by show scope.kind ≠ _; rw [hk]; decide, L, o, es, ep, rfl, ho, hd, hz⟩
  | tail _ he => exact h' env he
theorem frs_fun {h : Heap} {Z : Zp} : ∀ {l : List Env}, (∀ e ∈ l, e.scope.kind ≠ .module ∧ ∃ L o es n, e.frame = some L ∧ h.get? L = some o ∧ o.data = .dict es n ∧ Z L = none) → h.FunFrames { objs := #[] } l
  | [], _ => trivial
  | e :: l, h' => by
    obtain ⟨hk, L, o, es, n, hf, ho, hd, _⟩ := h' e (.head _)
    exact ⟨hk, ⟨L, o, hf, rfl, ho, fun vs q => by rw [hd] at q; cases q⟩, frs_fun fun e he => h' e (.tail _ he)⟩
theorem frs_mem {h : Heap} {Z : Zp} {l : List Env} (h' : ∀ e ∈ l, e.scope.kind ≠ .module ∧ ∃ L o es n, e.frame = some L ∧ h.get? L = some o ∧ o.data = .dict es n ∧ Z L = none) {b : Addr}
    (hb : b ∈ l.filterMap (·.frame)) : Z b = none ∧ ∃ o es n, h.get? b = some o ∧ o.data = .dict es n := by
  obtain ⟨e, he, hf⟩ := List.mem_filterMap.mp hb
  obtain ⟨_, L, o, es, n, hf', ho, hd, hz⟩ := h' e he
  rw [hf'] at hf
  cases hf
  exact ⟨hz, o, es, n, ho, hd⟩

/-- a new exception, raised after s0, nowhere noted -/
structure Fresh (Z : Zp) (s0 : Shared) (X : String) (e : Addr) (s : Shared) : Prop where
  st : StepU Z s0 Z s
  new : s0.heap.objs.size ≤ e
  there : ∃ o t, s.heap.get? e = some o ∧ o.cls = .type X ∧ o.data = .fields #[t, .none, .none, .none, .bool false, .none]
  zn : Z e = none

/-- the exception, noted -/
structure Cat (Z : Zp) (s0 : Shared) (X : String) (e : Addr) (fl : Value) (s : Shared) : Prop where
  st : StepU Z s0 Z s
  there : ∃ o vs T oT ts, s0.heap.objs.size ≤ e ∧ s0.heap.objs.size ≤ T ∧ s.heap.get? e = some o ∧ o.cls = .type X ∧ o.data = .fields vs ∧ vs[1]? = some (.ref T) ∧ vs[2]? = some .none ∧ Z e = none ∧ Z T = none ∧ T ≠ e ∧
    s.heap.get? T = some oT ∧ oT.data = .fields ts ∧ ts[3]? = some fl

section
variable {M : Model} {A : Around} {E : Value → Shared → Prop} {s s0 : Shared} {Z : Zp} {X : String} {e : Addr} {env : Env} {L : Addr}

theorem note_new {Q : Unit → Shared → Prop} (F : FrsE env A Z s0.heap) (hf : env.frame = some L) (x : Fresh Z s0 X e s) (h : ∀ s', Cat Z s0 X e (rawInt L) s' → Q () s') : wpAny M A (noteFrame (.ref e) env) Q E s := by
  obtain ⟨st, new, ⟨oe, t, he, hc, hd⟩, zn⟩ := x
  obtain ⟨l, hfr, hall⟩ := F.step (W := fun _ => False) st
  have hl := frs_fun hall
  have hene : e ∉ (env :: l).filterMap (·.frame) := fun hm => by
    obtain ⟨_, o, es, n, ho, hdd⟩ := frs_mem hall hm
    rw [he] at ho; cases ho; rw [hd] at hdd; cases hdd
  unfold noteFrame
  simp only [hf]
  refine wpAny_bind (wpAny_field he hd (x := .none) rfl ?_)
  rw [if_neg (by decide)]
  refine wpAny_bind (wpAny_frameOf_fun hfr hl hf fun h₁ hs₁ => ?_)
  refine wpAny_bind (wpAny_entryPlaceOf fun pl hpl => ?_)
  unfold EntryCells.newEntry newFields
  refine wpAny_bind (wpAny_newObj_type ?_ (hpl.sizeOk5 _ _ _ _ _))
  have he₁ : h₁.get? e = some oe := (hs₁.2.1 e hene).trans he
  have he₂ := Heap.get?_push_of_some (h := h₁) { cls := .type "traceback", dict := none, data := .fields ([Value.none, .ref L, .none, rawInt L, .none] ++ (if pl.isEmpty then List.replicate 6 Value.none else pl)).toArray } he₁
  refine wpAny_setField he₂ hd (by simp) (h _ ?_)
  have hTe : h₁.objs.size ≠ e := Nat.ne_of_gt (Heap.lt_size he₁)
  have hd₃ := Obj.data_mapFields hd (·.setIfInBounds 1 (Value.ref h₁.objs.size))
  have he₃ := Heap.get?_update_self (Obj.mapFields (·.setIfInBounds 1 (Value.ref h₁.objs.size))) he₂ (Obj.isFreed_of_fields hd₃)
  have hT₃ := (Heap.get?_update_other (h₁.push { cls := .type "traceback", dict := none, data := .fields ([Value.none, .ref L, .none, rawInt L, .none] ++ (if pl.isEmpty then List.replicate 6 Value.none else pl)).toArray })
    (Obj.mapFields (·.setIfInBounds 1 (Value.ref h₁.objs.size))) (Ne.symm hTe)).trans (Heap.get?_push_size h₁ rfl)
  have keep : ∀ b o, b ≠ e → h₁.get? b = some o →
      ((h₁.push { cls := .type "traceback", dict := none, data := .fields ([Value.none, .ref L, .none, rawInt L, .none] ++ (if pl.isEmpty then List.replicate 6 Value.none else pl)).toArray }).update e (Obj.mapFields (·.setIfInBounds 1 (Value.ref h₁.objs.size)))).get? b = some o :=
    fun b o hbe hb => by
      rw [Heap.get?_update_other _ _ (Ne.symm hbe)]
      exact Heap.get?_push_of_some _ hb
  have szz : s.heap.objs.size ≤ ((h₁.push { cls := .type "traceback", dict := none, data := .fields ([Value.none, .ref L, .none, rawInt L, .none] ++ (if pl.isEmpty then List.replicate 6 Value.none else pl)).toArray }).update e (Obj.mapFields (·.setIfInBounds 1 (Value.ref h₁.objs.size)))).objs.size := by
    rw [Heap.size_after_update, Heap.size_push, hs₁.1]; exact Nat.le_succ _
  refine ⟨⟨st.zz, fun b o hz => ?_, fun b o w hb => ?_, st.old, Nat.le_trans st.sz szz, st.gens, st.os⟩, _, _, h₁.objs.size, _, _, new, ?_, he₃, (Obj.cls_mapFields _ _).trans hc, hd₃, rfl, rfl, zn, ?_, hTe, hT₃, rfl, by first | (simp; done) | (rcases hpl with rfl | ⟨_, _, _, _, _, _, _, rfl⟩ <;> simp)⟩
  · refine keep b o (fun q => by rw [q, zn] at hz; cases hz) ((hs₁.2.1 b fun hm => ?_).trans (st.zh b o hz))
    rw [(frs_mem hall hm).1] at hz; cases hz
  · have hbe : b ≠ e := fun q => absurd (q ▸ Heap.lt_size hb) (Nat.not_lt.mpr new)
    obtain ⟨c1, c2, c3⟩ := st.up b o w hb
    refine ⟨fun es n hdd => ?_, fun hcc hnd => keep b o hbe ((hs₁.2.1 b fun hm => ?_).trans (c2 hcc hnd)), fun ps q => ?_⟩
    · obtain ⟨sl, e1⟩ := c1 es n hdd
      obtain ⟨sl', e2⟩ := hs₁.2.2 b _ e1
      exact ⟨sl', keep b _ hbe e2⟩
    · obtain ⟨_, o', es, n, ho', hd'⟩ := frs_mem hall hm
      rw [c2 hcc hnd] at ho'; cases ho'
      exact hnd _ _ hd'
    · obtain ⟨more, t, e1⟩ := c3 ps q
      refine ⟨more, t, keep b _ hbe ((hs₁.2.1 b fun hm => ?_).trans e1)⟩
      obtain ⟨_, o', es, n, ho', hd'⟩ := frs_mem hall hm
      rw [e1] at ho'; cases ho'; cases hd'
  · rw [hs₁.1]; exact st.sz
  · rw [hs₁.1]; exact st.none_of_new

theorem note_again {Q : Unit → Shared → Prop} (hf : env.frame = some L) (x : Cat Z s0 X e (rawInt L) s) (h : Q () s) : wpAny M A (noteFrame (.ref e) env) Q E s := by
  obtain ⟨st, oe, vs, T, oT, ts, _, _, he, hc, hd, h1, _, _, _, hTe, hT, hdT, h3⟩ := x
  exact wpAny_noteFrame_inFlight hf he hd h1 hT hdT h3 h

theorem flight {Q : Unit → Shared → Prop} {fl : Value} {f : Option Addr} (x : Cat Z s0 X e fl s) (h : ∀ s', Cat Z s0 X e (f.elim .none fun f => rawInt f) s' → Q () s') : wpAny M A (setFlight (.ref e) f) Q E s := by
  obtain ⟨st, oe, vs, T, oT, ts, ne, nT, he, hc, hd, h1, h2, ze, zT, hTe, hT, hdT, h3⟩ := x
  have hsz : 3 < ts.size := (Array.getElem?_eq_some_iff.mp h3).1
  unfold setFlight
  refine wpAny_bind (wpAny_field he hd h1 ?_)
  rw [if_pos (show (Value.ref T != Value.none) = true from by simp)]
  refine wpAny_setField hT hdT hsz (h _ ?_)
  have keep : ∀ b o, b ≠ T → s.heap.get? b = some o → (s.heap.update T (Obj.mapFields (·.setIfInBounds 3 (f.elim .none fun f => rawInt f)))).get? b = some o := fun b o hb q => (Heap.get?_update_other _ _ (Ne.symm hb)).trans q
  refine ⟨⟨st.zz, fun b o hz => keep b o (fun q => by rw [q, zT] at hz; cases hz) (st.zh b o hz), fun b o w hb => ?_, st.old, by show _ ≤ (Heap.update ..).objs.size; rw [Heap.size_after_update]; exact st.sz, st.gens, st.os⟩,
    oe, vs, T, _, _, ne, nT, keep e _ (Ne.symm hTe) he, hc, hd, h1, h2, ze, zT, hTe, Heap.get?_update_self _ hT (Obj.isFreed_of_fields (Obj.data_mapFields hdT _)), Obj.data_mapFields hdT _, by simp [hsz]⟩
  have hbT : b ≠ T := fun q => absurd (q ▸ Heap.lt_size hb) (Nat.not_lt.mpr nT)
  obtain ⟨c1, c2, c3⟩ := st.up b o w hb
  exact ⟨fun es n hdd => let ⟨sl, e1⟩ := c1 es n hdd; ⟨sl, keep b _ hbT e1⟩, fun hcc hnd => keep b o hbT (c2 hcc hnd), fun ps q => let ⟨more, t, e1⟩ := c3 ps q; ⟨more, t, keep b _ hbT e1⟩⟩

theorem came_back {fl : Value} (hf : env.frame = some L) (x : Cat Z s0 X e fl s) (h : ∀ s', Cat Z s0 X e (rawInt L) s' → E (.ref e) s') : cameBackBy M A env E (.ref e) s := by
  have x' := x
  obtain ⟨st, oe, vs, T, oT, ts, ne, nT, he, hc, hd, h1, h2, ze, zT, hTe, hT, hdT, h3⟩ := x'
  unfold cameBackBy
  refine wpAny_bind (wpAny_field he hd h1 ?_)
  rw [if_neg (show ¬ ((Value.ref T == Value.none) = true) from by simp)]
  rw [hf]
  exact flight x h

theorem Cat.typeIs {fl : Value} (x : Cat Z s0 X e fl s) : s.TypeIs (.ref e) X := by
  obtain ⟨st, oe, vs, T, oT, ts, ne, nT, he, hc, _⟩ := x
  exact ⟨oe, he, hc⟩
end

section
variable {prog : Program} {w : World} {A : Around} {s s0 : Shared} {Z : Zp} {X T : String} {e : Addr} {env : Env} {t : Expr} {b₀ : Stmt} {suite : List Stmt} {pos : Pos} {rest : List ExceptHandler} {fl : Value}
theorem handle {Q : Flow → Shared → Prop} (x : Cat Z s0 X e fl s) (hb : byPass ≠ .ref e)
    (hexc : isSubtype (.type T) (.type "BaseException") = pure true) (hnt : isSubtype (.type ((Manifest.find? T).elim "type" fun y => y.metatype)) (.type "tuple") = pure false) (hsub : isSubtype (.type X) (.type T) = pure true)
    (hname : ∀ (Q' : Value → Shared → Prop) E', Q' (.type T) s → wpAny (model prog w) (A.mark (some (.ref e))) (eval t env) Q' E' s)
    (k : ∀ s' Z', StepU Z s0 Z' s' → HOk (A.mark (some (.ref e))) Z' → wpAny (model prog w) (A.mark (some (.ref e))) (execs (b₀ :: suite) env) Q (fun _ _ => False) s') :
    wpAny (model prog w) A (handleBy (.ref e) env (.ExceptHandler (some t) none (b₀ :: suite) pos :: rest)) Q (fun _ _ => False) s := by
  refine wpAny_handleBy_builtin (X := X) (T := T) (b := true) hexc hnt hsub (hname _ _ ⟨rfl, x.typeIs, ?_⟩)
  rw [if_pos rfl]
  refine flight x fun s' x' => ?_
  obtain ⟨st, oe, vs, T, oT, ts, ne, nT, he, hc, hd, h1, h2, ze, zT, hTe, hT, hdT, h3⟩ := x'
  have hne : ¬ e < s0.heap.objs.size := Nat.not_lt.mpr ne
  refine wpAny_mono (k s' (put Z e oe) (st.freeze ne he ze) (.inr ⟨e, oe, vs, rfl, put_self _ _ _, hd, h2⟩)) (fun _ _ q => q) fun _ _ q => q.elim
end
end Mine

namespace Mine
open SeqAt MeetsSeq AutoSeq1

theorem StepW.updNew {W : Addr → Prop} {Z Z' : Zp} {s s' : Shared} (x : StepW W Z s Z' s') {h' : Heap} {a : Addr} {t : Nat} (ha : s.heap.objs.size ≤ a) (hz : Z' a = none) (hs : Heap.SameBut a s'.heap h') : StepW W Z s Z' { s' with heap := h', toks := t } :=
  x.keeps' (fun b o e e2 => (hs.2 b fun q => by rw [q, hz] at e; cases e).trans e2) (fun b o w hb e => (hs.2 b (Nat.ne_of_lt (Nat.lt_of_lt_of_le hb ha))).trans e) (by rw [hs.1]; exact Nat.le_refl _)

/-- within a call that began at (Z0, s0): locals m at L -/
structure At (Z0 : Zp) (s0 : Shared) (L : Addr) (m : Str → Option Value) (Z : Zp) (s : Shared) : Prop where
  st : StepU Z0 s0 Z s
  ns : s.heap.Ns L m
  zl : Z L = none
  above : s0.heap.objs.size ≤ L
namespace At
variable {Z0 Z Z' : Zp} {s0 s s' : Shared} {L : Addr} {m : Str → Option Value}
theorem lt (x : At Z0 s0 L m Z s) : L < s.heap.objs.size := x.ns.lt
theorem enter {h' : Heap} {t : Nat} (hz : Sub Z0 s0.heap.get?) (ns : h'.Ns s0.heap.objs.size m) (hk : ∀ b o, s0.heap.get? b = some o → h'.get? b = some o) (hsz : s0.heap.objs.size < h'.objs.size) :
    At Z0 s0 s0.heap.objs.size m Z0 { s0 with heap := h', toks := t } :=
  ⟨((Step.refl hz).keeps hk (Nat.le_of_lt hsz)).toW, ns, (Step.refl hz).none_of_new, Nat.le_refl _⟩
theorem call (x : At Z0 s0 L m Z s) (S : StepU Z s Z' s') : At Z0 s0 L m Z' s' := ⟨x.st.trans S, S.ns (fun q => q) x.ns, S.old _ x.lt x.zl, x.above⟩
theorem step (x : At Z0 s0 L m Z s) (S : Step Z s Z' s') : At Z0 s0 L m Z' s' := x.call S.toW
theorem tk (x : At Z0 s0 L m Z s) {t : Nat} : At Z0 s0 L m Z { s with toks := t } := x.step (Step.refl x.st.zh).tk
theorem store (x : At Z0 s0 L m Z s) {h' : Heap} {t : Nat} {m' : Str → Option Value} (ns : h'.Ns L m') (hs : Heap.SameBut L s.heap h') : At Z0 s0 L m' Z { s with heap := h', toks := t } :=
  ⟨x.st.updNew x.above x.zl hs, ns, x.zl, x.above⟩
theorem turn (x : At Z0 s0 L m Z s) {h' : Heap} {t : Nat} {a : Addr} (ha : s0.heap.objs.size ≤ a) (hz : Z a = none) (hL : L ≠ a) (hs : Heap.SameBut a s.heap h') : At Z0 s0 L m Z { s with heap := h', toks := t } :=
  ⟨x.st.updNew ha hz hs, x.ns.sameBut hs hL, x.zl, x.above⟩
theorem freeze (x : At Z0 s0 L m Z s) {a : Addr} {o : Obj} (ha : s0.heap.objs.size ≤ a) (ho : s.heap.get? a = some o) (hz : Z a = none) (hL : L ≠ a) : At Z0 s0 L m (put Z a o) s :=
  ⟨x.st.freeze ha ho hz, x.ns, by rw [put_ne o hL]; exact x.zl, x.above⟩
end At

section
variable {M : Model} {A : Around} {E : Value → Shared → Prop} {s : Shared} {Z : Zp}
theorem raise_fresh {α : Type} {X msg : String} {Q : α → Shared → Prop} (hp : PlainExc X) (hh : A.handled = none) (hz : Sub Z s.heap.get?) (h : ∀ e s', Fresh Z s X e s' → E (.ref e) s') : wpAny M A (raiseErrorWords X msg : Sem α) Q E s := by
  unfold raiseErrorWords
  refine wpAny_bind (wpAny_mkText (wpAny_bind ?_))
  unfold newExc newTuple
  refine wpAny_bind (wpAny_newObj_type ?_)
  refine wpAny_bind (m := firstArgMember _ _) (wpAny_of_eq (a := Value.none) (by simp only [firstArgMember, hp.first]; rfl) ?_)
  rw [hp.own]
  refine wpAny_newObj_type ?_
  unfold raiseNew
  refine wpAny_bind (wpAny_handled ?_)
  rw [hh]
  refine wpAny_bind (wpAny_pure (wpAny_throw (h _ _ ?_)))
  have S1 := ((Step.refl hz).pushM (o := { cls := .type "tuple", data := .seq #[Value.str (msg : Str) s.toks] }) (tk := s.toks + 1)).toW (W := fun _ => False)
  have hn : Z (s.heap.push { cls := .type "tuple", data := .seq #[Value.str (msg : Str) s.toks] }).objs.size = none := S1.none_of_new
  exact ⟨S1.pushM, by rw [Heap.size_push]; exact Nat.le_succ _, ⟨_, .ref s.heap.objs.size, Heap.get?_push_size _ rfl, rfl, by simp⟩, hn⟩
end

section
variable {prog : Program} {w : World} {A : Around} {E : Value → Shared → Prop} {s : Shared} {Z : Zp}

theorem remove_loopAt (l : Addr) (items : Array Value) (n : Nat) (x : Value) (e : Value → Bool) (j : Nat) (hj : j < items.size) (hit : e items[j] = true) (k : Nat) (hs1 : items.size ≤ sizeLine) :
    ∀ i : Nat, j - i = k → i ≤ j → (∀ m (hm : m < items.size), i ≤ m → m < j → e items[m] = false) → Meets (Builtin.«list.remove.loop» ⟨[.ref l, x, rawInt i], []⟩)
      (fun A R s => s.heap.get? l = some { cls := .type "list", dict := none, data := .seq items n, slots := #[] } ∧ (∀ y, y ∈ items → EqAt A.in1 s y x (e y)) ∧ R (.ok (.ret .none)) { s with heap := s.heap.update l (Obj.mapSeq fun xs => xs.eraseIdxIfInBounds j) }) := by
  induction k with
  | zero =>
    intro i hk hij hno prog w A R s h
    obtain ⟨hp, g, d, tk, os⟩ := s; obtain ⟨hl, he, h⟩ := h
    have hij' : i = j := by omega
    subst hij'
    wp_walk using wpAny_loadPart' hl
    have hi : items[((i : Nat) : Int).toNat]? = some items[i] := by simp [hj]
    rw [hi]
    refine wpAny_bind (he _ (Array.getElem_mem hj) prog w _ _ ?_)
    rw [hit]
    have hz' : (items.eraseIdxIfInBounds i).size ≤ sizeLine + 1 := Nat.le_trans (size_erased items _) (Nat.le_succ_of_le hs1)
    wp_walk using (wpAny_updateSeq hl rfl (hz := hs1) (_hz' := hz')), wpAny_loadPart' hl
    simpa using h
  | succ k ih =>
    intro i hk hij hno prog w A R s h
    obtain ⟨hp, g, d, tk, os⟩ := s; obtain ⟨hl, he, h⟩ := h
    have hlt : i < items.size := by omega
    wp_walk using wpAny_loadPart' hl
    have hi : items[((i : Nat) : Int).toNat]? = some items[i] := by simp [hlt]
    have hc : ((i : Int) + 1) = ((i + 1 : Nat) : Int) := by push_cast; rfl
    rw [hi]
    refine wpAny_bind (he _ (Array.getElem_mem hlt) prog w _ _ ?_)
    rw [hno i hlt (Nat.le_refl _) (by omega)]
    wp_walk
    rw [hc]
    exact ⟨plainId_quiet plain_remove_loop _, codeAny_builtin entry_remove_loop (by
      rw [Around.under_plainId plain_remove_loop _]
      exact ih (i + 1) (by omega) (by omega) (fun m hm h1 h2 => hno m hm (by omega) h2) prog w A R _ ⟨hl, he, h⟩)⟩

theorem remove_loop_noneAt (Z : Zp) (l : Addr) (items : Array Value) (n : Nat) (x : Value) (e : Value → Bool) (hno : ∀ m (hm : m < items.size), e items[m] = false) (k : Nat) :
    ∀ i : Nat, items.size - i = k → Meets (Builtin.«list.remove.loop» ⟨[.ref l, x, rawInt i], []⟩)
      (fun A R s => A.handled = none ∧ Sub Z s.heap.get? ∧ s.heap.get? l = some { cls := .type "list", dict := none, data := .seq items n, slots := #[] } ∧ (∀ y, y ∈ items → EqAt A.in1 s y x (e y)) ∧ ∀ e s', Fresh Z s "ValueError" e s' → R (.error (.ref e)) s') := by
  induction k with
  | zero =>
    intro i hk prog w A R s h
    obtain ⟨hp, g, d, tk, os⟩ := s; obtain ⟨hh, hz, hl, he, h⟩ := h
    wp_walk using wpAny_loadPart' hl
    have hi : items[((i : Nat) : Int).toNat]? = none := by simp; omega
    rw [hi]
    wp_walk
    exact raise_fresh plainExc_ValueError hh hz h
  | succ k ih =>
    intro i hk prog w A R s h
    obtain ⟨hp, g, d, tk, os⟩ := s; obtain ⟨hh, hz, hl, he, h⟩ := h
    have hlt : i < items.size := by omega
    wp_walk using wpAny_loadPart' hl
    have hi : items[((i : Nat) : Int).toNat]? = some items[i] := by simp [hlt]
    have hc : ((i : Int) + 1) = ((i + 1 : Nat) : Int) := by push_cast; rfl
    rw [hi]
    refine wpAny_bind (he _ (Array.getElem_mem hlt) prog w _ _ ?_)
    rw [hno i hlt]
    wp_walk
    rw [hc]
    exact ⟨plainId_quiet plain_remove_loop _, codeAny_builtin entry_remove_loop (by
      rw [Around.under_plainId plain_remove_loop _]
      exact ih (i + 1) (by omega) prog w A R _ ⟨hh, hz, hl, he, h⟩)⟩

theorem list_removeAt (l : Addr) (items : Array Value) (n : Nat) (x : Value) (e : Value → Bool) (j : Nat) (hj : j < items.size)
    (hit : e items[j] = true) (hno : ∀ m (hm : m < items.size), m < j → e items[m] = false) (hs1 : items.size ≤ sizeLine) :
    Meets (Builtin.«list.remove» ⟨[.ref l, x], []⟩)
      (fun A R s => s.heap.get? l = some { cls := .type "list", dict := none, data := .seq items n, slots := #[] } ∧ (∀ y, y ∈ items → EqAt A.in1 s y x (e y)) ∧ R (.ok (.ret .none)) { s with heap := s.heap.update l (Obj.mapSeq fun xs => xs.eraseIdxIfInBounds j) }) := by
  intro prog w A R s h
  obtain ⟨hp, g, d, tk, os⟩ := s; obtain ⟨hl, he, h⟩ := h
  wp_walk using wpAny_loadPart' hl
  exact ⟨plainId_quiet plain_remove_loop _, codeAny_builtin entry_remove_loop (by
    rw [Around.under_plainId plain_remove_loop _]
    exact remove_loopAt l items n x e j hj hit _ hs1 0 rfl (Nat.zero_le _) (fun m hm _ h2 => hno m hm h2) prog w A R _ ⟨hl, he, h⟩)⟩

theorem list_remove_noneAt (Z : Zp) (l : Addr) (items : Array Value) (n : Nat) (x : Value) (e : Value → Bool) (hno : ∀ m (hm : m < items.size), e items[m] = false) :
    Meets (Builtin.«list.remove» ⟨[.ref l, x], []⟩)
      (fun A R s => A.handled = none ∧ Sub Z s.heap.get? ∧ s.heap.get? l = some { cls := .type "list", dict := none, data := .seq items n, slots := #[] } ∧ (∀ y, y ∈ items → EqAt A.in1 s y x (e y)) ∧ ∀ e s', Fresh Z s "ValueError" e s' → R (.error (.ref e)) s') := by
  intro prog w A R s h
  obtain ⟨hp, g, d, tk, os⟩ := s; obtain ⟨hh, hz, hl, he, h⟩ := h
  wp_walk using wpAny_loadPart' hl
  exact ⟨plainId_quiet plain_remove_loop _, codeAny_builtin entry_remove_loop (by
    rw [Around.under_plainId plain_remove_loop _]
    exact remove_loop_noneAt Z l items n x e hno _ 0 rfl prog w A R _ ⟨hh, hz, hl, he, h⟩)⟩
end

/-! the plain law of the removals -/
theorem dd_any (c : Nat → Nat × Nat) (k : Nat × Nat) : ∀ (ps acc : List Nat), (dd c acc ps).any (fun q => c q == k) = (acc.any (fun q => c q == k) || ps.any (fun q => c q == k))
  | [], acc => by simp [dd]
  | p :: ps, acc => by
    rw [dd]
    split
    · rename_i h
      rw [dd_any c k ps acc, List.any_cons]
      cases e : c p == k with
      | false => simp
      | true =>
        have e' : c p = k := by simpa using e
        subst e'
        rw [h]; simp
    · rw [dd_any c k ps (acc ++ [p])]
      simp [Bool.or_assoc]
theorem dedup_any (c : Nat → Nat × Nat) (k : Nat × Nat) (ps : List Nat) : (dedup c ps).any (fun q => c q == k) = ps.any (fun q => c q == k) := by
  show (dd c [] ps).any _ = _
  rw [dd_any]; rfl
theorem dd_distinct (c : Nat → Nat × Nat) : ∀ (ps acc : List Nat), acc.Pairwise (fun a b => c a ≠ c b) → (dd c acc ps).Pairwise (fun a b => c a ≠ c b)
  | [], _, h => h
  | p :: ps, acc, h => by
    rw [dd]
    split
    · exact dd_distinct c ps acc h
    · rename_i hn
      refine dd_distinct c ps _ (List.pairwise_append.mpr ⟨h, List.pairwise_singleton _ _, fun a ha b hb => ?_⟩)
      simp at hb
      subst hb
      intro e
      exact hn (List.any_eq_true.mpr ⟨a, ha, by simp [e]⟩)
theorem dedup_distinct (c : Nat → Nat × Nat) (ps : List Nat) : (dedup c ps).Pairwise (fun a b => c a ≠ c b) := dd_distinct c ps [] .nil

theorem erase_filter (c : Nat → Nat × Nat) (k : Nat × Nat) : ∀ (qs : List Nat) (j : Nat) (q : Nat), qs.Pairwise (fun a b => c a ≠ c b) → qs[j]? = some q → c q = k → qs.eraseIdx j = qs.filter (fun q => !(c q == k))
  | [], _, _, _, e, _ => by cases e
  | a :: qs, 0, q, h, e, hk => by
    cases e
    have h1 := (List.pairwise_cons.mp h).1
    rw [List.eraseIdx_cons_zero, List.filter_cons_of_neg (by simp [hk])]
    refine (List.filter_eq_self.mpr fun b hb => ?_).symm
    have := h1 b hb
    rw [hk] at this
    simp
    exact fun e => this e.symm
  | a :: qs, j + 1, q, h, e, hk => by
    have h1 := (List.pairwise_cons.mp h).1
    have hm : q ∈ qs := List.mem_of_getElem? (by simpa using e)
    have hne : c a ≠ k := hk ▸ h1 q hm
    rw [List.eraseIdx_cons_succ, List.filter_cons_of_pos (by simp [hne]), erase_filter c k qs j q (List.pairwise_cons.mp h).2 (by simpa using e) hk]

def same (c : Nat → Nat × Nat) (ps qs : List Nat) : Bool := ps.all (fun p => qs.any (fun q => c q == c p)) && qs.all (fun q => ps.any (fun p => c p == c q))

/-- what is left behind the removals of ps -/
def left (c : Nat → Nat × Nat) (ps qs : List Nat) : List Nat := qs.filter (fun q => !ps.any (fun p => c p == c q))
theorem left_snoc (c : Nat → Nat × Nat) (ps qs : List Nat) (p : Nat) : left c (ps ++ [p]) qs = (left c ps qs).filter (fun q => !(c q == c p)) := by
  unfold left
  rw [List.filter_filter]
  congr 1
  funext q
  rw [List.any_append]
  have h1 : (c p == c q) = (c q == c p) := BEq.comm
  simp [Bool.and_comm, h1]
theorem left_nil (c : Nat → Nat × Nat) (qs : List Nat) : left c [] qs = qs := by simp [left]
theorem left_any (c : Nat → Nat × Nat) (ps qs : List Nat) (p : Nat) (h : ps.any (fun q => c q == c p) = false) : (left c ps qs).any (fun q => c q == c p) = qs.any (fun q => c q == c p) := by
  unfold left
  rw [List.any_filter]
  congr 1
  funext q
  cases e : c q == c p with
  | false => simp
  | true =>
    have e' : c q = c p := by simpa using e
    rw [e']
    simp only [Bool.and_true, h, Bool.not_false]
theorem same_end (c : Nat → Nat × Nat) (ps qs : List Nat) (h : ∀ p, p ∈ dedup c ps → (dedup c qs).any (fun q => c q == c p) = true) : (left c (dedup c ps) (dedup c qs)).isEmpty = same c ps qs := by
  have h1 : ps.all (fun p => qs.any (fun q => c q == c p)) = true := List.all_eq_true.mpr fun p hp => by
    have : (dedup c ps).any (fun q => c q == c p) = true := by rw [dedup_any]; exact List.any_eq_true.mpr ⟨p, hp, by simp⟩
    obtain ⟨p', hp', e⟩ := List.any_eq_true.mp this
    have e' : c p' = c p := by simpa using e
    have := h p' hp'
    rw [dedup_any, e'] at this
    exact this
  unfold same left
  rw [h1, Bool.true_and, Bool.eq_iff_iff, List.isEmpty_iff, List.filter_eq_nil_iff, List.all_eq_true]
  constructor
  · intro hh q hq
    have : (dedup c qs).any (fun q' => c q' == c q) = true := by rw [dedup_any]; exact List.any_eq_true.mpr ⟨q, hq, by simp⟩
    obtain ⟨q', hq', e⟩ := List.any_eq_true.mp this
    have e' : c q' = c q := by simpa using e
    have := hh q' hq'
    rw [dedup_any, e'] at this
    simpa using this
  · intro hh q hq
    have : (qs).any (fun q' => c q' == c q) = true := by rw [← dedup_any]; exact List.any_eq_true.mpr ⟨q, hq, by simp⟩
    obtain ⟨q', hq', e⟩ := List.any_eq_true.mp this
    have e' : c q' = c q := by simpa using e
    have := hh q' hq'
    rw [e'] at this
    rw [dedup_any, this]
    simp
theorem same_miss (c : Nat → Nat × Nat) (ps qs : List Nat) (p : Nat) (hp : p ∈ dedup c ps) (h : (dedup c qs).any (fun q => c q == c p) = false) : same c ps qs = false := by
  have : ps.any (fun q => c q == c p) = true := by rw [← dedup_any]; exact List.any_eq_true.mpr ⟨p, hp, by simp⟩
  obtain ⟨p', hp', e⟩ := List.any_eq_true.mp this
  have e' : c p' = c p := by simpa using e
  unfold same
  rw [Bool.and_eq_false_iff]
  refine .inl ?_
  rw [List.all_eq_false]
  refine ⟨p', hp', ?_⟩
  rw [e', ← dedup_any, h]
  simp
end Mine

namespace Mine
open SeqAt MeetsSeq AutoSeq1

section
variable {prog : Program} {w : World} {A : Around} {E : Value → Shared → Prop} {s : Shared} {Z : Zp}

theorem rows_erase {α β : Type} {R : α → β → Prop} : ∀ {as : List α} {bs : List β} (j : Nat), Rows2 R as bs → Rows2 R (as.eraseIdx j) (bs.eraseIdx j)
  | _, _, _, .nil => .nil
  | _, _, 0, .cons _ t => t
  | _, _, j + 1, .cons x t => .cons x (rows_erase j t)

/-- t.remove(x), found -/
theorem remove_hit {typed : Bool} {pos : Pos} {c : Addr} {us : List Value} {qs : List Nat} {n : Nat} {x : Sem Value} {v : Value} {p : Nat} {Q : Value → Shared → Prop} (hz : Sub Z s.heap.get?) (ho : s.heap.get? c = some (lobj us n))
    (R : Rows2 (fun v p => IsElem Z typed p v) us qs) (hD : qs.Pairwise (fun a b => cls typed a ≠ cls typed b)) (hx : IsElem Z typed p v) (hu : A.units + 30 < cLine) (hany : qs.any (fun q => cls typed q == cls typed p) = true) (hsz : us.length ≤ sizeLine)
    (hev : ∀ Q' : Value → Shared → Prop, Q' v s → wpAny (model prog w) A x Q' E s)
    (h : ∀ h' us' n', h'.get? c = some (lobj us' n') → Rows2 (fun v p => IsElem Z typed p v) us' (qs.filter (fun q => !(cls typed q == cls typed p))) → Heap.SameBut c s.heap h' → Q .none { s with heap := h' }) :
    wpAny (model prog w) A (callWith pos (.builtin "list.remove") [.ref c] [(false, x)] []) Q E s := by
  have hj : qs.findIdx (fun q => cls typed q == cls typed p) < qs.length := List.findIdx_lt_length_of_exists (by simpa using hany)
  have hjl : qs.findIdx (fun q => cls typed q == cls typed p) < us.length := by rw [R.length]; exact hj
  refine seqMethod1_meets F.slot_list_remove F.entry_list_remove (hev _ ⟨⟨_, ho, rfl⟩, F.args_list_remove_2 _ _, _, list_removeAt c us.toArray n v (hits Z typed p) (qs.findIdx (fun q => cls typed q == cls typed p)) (by simpa using hjl) ?_ ?_ (by simpa using hsz), ho, fun y hy => ?_, ?_⟩)
  · obtain ⟨q, hq, r⟩ := R.get _ _ (List.getElem?_eq_getElem hjl)
    rw [List.getElem?_eq_getElem hj] at hq
    cases hq
    have := List.findIdx_getElem (w := hj)
    simp only [List.getElem_toArray]
    rw [hits_eq r]
    exact this
  · intro m hm hlt
    have hm' : m < us.length := by simpa using hm
    obtain ⟨q, hq, r⟩ := R.get _ _ (List.getElem?_eq_getElem hm')
    have hmq : m < qs.length := by rw [← R.length]; exact hm'
    rw [List.getElem?_eq_getElem hmq] at hq
    cases hq
    have := List.not_of_lt_findIdx hlt
    simp only [List.getElem_toArray]
    rw [hits_eq r]
    simpa using this
  · obtain ⟨q, _, hq⟩ := R.mem (by simpa using hy)
    rw [hits_eq hq]
    exact elems_eq hq hx hz (by simp; omega)
  · have ea : us.toArray.eraseIdxIfInBounds (qs.findIdx (fun q => cls typed q == cls typed p)) = (us.eraseIdx (qs.findIdx (fun q => cls typed q == cls typed p))).toArray := by
      rw [Array.eraseIdxIfInBounds_eq]
      simp [hjl]
    have e1 := IsL.update (h := s.heap) (l := c) (items := us.toArray) (n := n) ho (fun xs => xs.eraseIdxIfInBounds (qs.findIdx (fun q => cls typed q == cls typed p)))
    simp only [ea] at e1
    refine h _ (us.eraseIdx (qs.findIdx (fun q => cls typed q == cls typed p))) _ e1 ?_ (Heap.SameBut.update ..)
    rw [← erase_filter (cls typed) (cls typed p) qs _ qs[qs.findIdx (fun q => cls typed q == cls typed p)] hD (List.getElem?_eq_getElem hj) (by simpa using List.findIdx_getElem (w := hj))]
    exact rows_erase _ R

/-- t.remove(x), not found -/
theorem remove_miss {typed : Bool} {pos : Pos} {c : Addr} {us : List Value} {qs : List Nat} {n : Nat} {x : Sem Value} {v : Value} {p : Nat} {Q : Value → Shared → Prop} (hn : A.handled = none) (hz : Sub Z s.heap.get?) (ho : s.heap.get? c = some (lobj us n))
    (R : Rows2 (fun v p => IsElem Z typed p v) us qs) (hx : IsElem Z typed p v) (hu : A.units + 30 < cLine) (hany : qs.any (fun q => cls typed q == cls typed p) = false)
    (hev : ∀ Q' : Value → Shared → Prop, Q' v s → wpAny (model prog w) A x Q' E s)
    (h : ∀ e s', Fresh Z s "ValueError" e s' → E (.ref e) s') :
    wpAny (model prog w) A (callWith pos (.builtin "list.remove") [.ref c] [(false, x)] []) Q E s := by
  refine seqMethod1_meets F.slot_list_remove F.entry_list_remove (hev _ ⟨⟨_, ho, rfl⟩, F.args_list_remove_2 _ _, _, list_remove_noneAt Z c us.toArray n v (hits Z typed p) ?_, hn, hz, ho, fun y hy => ?_, h⟩)
  · intro m hm
    have hm' : m < us.length := by simpa using hm
    obtain ⟨q, hq, r⟩ := R.get _ _ (List.getElem?_eq_getElem hm')
    simp only [List.getElem_toArray]
    rw [hits_eq r]
    rw [List.any_eq_false] at hany
    simpa using hany q (List.mem_of_getElem? hq)
  · obtain ⟨q, _, hq⟩ := R.mem (by simpa using hy)
    rw [hits_eq hq]
    exact elems_eq hq hx hz (by simp; omega)

/-- list(x) of a list -/
theorem copy_list {a : Addr} {vs : List Value} {Q : Value → Shared → Prop} (hz : Sub Z s.heap.get?) (hl : lstZ Z a vs) (hsz : vs.length ≤ sizeLine)
    (h : ∀ h' n, (∀ b o, s.heap.get? b = some o → h'.get? b = some o) → h'.get? s.heap.objs.size = some (lobj vs n) → Q (.ref s.heap.objs.size) { s with heap := h' }) : wpAny (model prog w) A (call (.type "list") [.ref a]) Q E s := by
  obtain ⟨n, e⟩ := hl
  exact call_list_seq a (.inl rfl) (hz _ _ e) rfl rfl (fun h' c' hk hD => h h' c' hk hD) (by simpa using hsz)
end
end Mine

namespace Mine
open SeqAt MeetsSeq AutoSeq1

theorem At.loop {Z0 Z Z' : Zp} {s0 s s' : Shared} {L : Addr} {m m' : Str → Option Value} {W : Addr → Prop} (x : At Z0 s0 L m Z s) (hW : ∀ a, W a → s0.heap.objs.size ≤ a) (S : StepW W Z s Z' s') (ns : s'.heap.Ns L m') : At Z0 s0 L m' Z' s' :=
  ⟨((StepW.of_U x.st).trans S).toU hW, ns, S.old _ x.lt x.zl, x.above⟩

section
variable {prog : Program} {w : World} {A : Around} {E : Value → Shared → Prop} {s : Shared} {Z : Zp}

/-- _compare_args_orderless -/
theorem compare {typed : Bool} {a b : Addr} {vs us : List Value} {ps qs : List Nat} {Q : Value → Shared → Prop} (W : WZ w Z) (hz : Sub Z s.heap.get?) (hfr : Frs A Z s.heap) (hn : A.handled = none) (hd : A.depth + 3 < recursionLimit) (hu : A.units + 100 < cLine)
    (ha : lstZ Z a vs) (Ra : Rows2 (fun v p => IsElem Z typed p v) vs ps) (hsa : vs.length ≤ 1000000) (hb : lstZ Z b us) (Rb : Rows2 (fun v p => IsElem Z typed p v) us qs) (hsb : us.length ≤ 1000000)
    (h : ∀ s' Z', StepU Z s Z' s' → Q (.bool (same (cls typed) ps qs)) s') : wpAny (model prog w) A (call (.ref 36) [.ref a, .ref b] []) Q E s := by
  refine' call_fn (binds := [(Str.ofString "first_args", .ref a), (Str.ofString "second_args", .ref b)]) (W.at hz) (by omega) ?ho ?hcd (BindsTo.of_eq ?hb) ?_ ?hloc ?hcell ?hco ?hgen ?hk
  case ho => exact rfl
  case hcd => exact rfl
  case hb => exact rfl
  case hloc => exact locs rfl
  case hcell => decide
  case hco => rfl
  case hgen => rfl
  case hk => rfl
  intro h' hns hk hsz'
  have x0 := At.enter (t := s.toks + 2) hz hns hk hsz'
  -- first_unhashable = _deduplicate_unhashable(first_args)
  refine wpAny_execs_cons ?_
  refine wpAny_Assign_Name ?_
  refine Call_Name rfl ?_
  refine ld_fn (v := .ref 29) (W.at x0.st.zh) rfl ?_
  refine cw_fn1 rfl ?_
  refine ld_loc (v := .ref a) x0.ns rfl ?_
  refine ⟨W.at x0.st.zh, ?_⟩
  refine dedup_un W x0.st.zh (.inl hn) (by show A.depth + 1 + 2 < _; omega) (by show A.units + 3 + 60 < _; omega) ha Ra hsa ?_
  intro s1 Z1 c1 vs1 S1 hc1 R1
  have x1 := x0.call S1
  refine st_loc x1.ns (fun h2 hn2 hs2 => ?_) rfl rfl
  have x2 := x1.store (t := s1.toks + 1) hn2 hs2
  -- second_unhashable = _deduplicate_unhashable(second_args)
  refine wpAny_execs_cons ?_
  refine wpAny_Assign_Name ?_
  refine Call_Name rfl ?_
  refine ld_fn (v := .ref 29) ((W.mono S1.zz).at x2.st.zh) rfl ?_
  refine cw_fn1 rfl ?_
  refine ld_loc (v := .ref b) x2.ns rfl ?_
  refine ⟨(W.mono S1.zz).at x2.st.zh, ?_⟩
  refine dedup_un (W.mono S1.zz) x2.st.zh (.inl hn) (by show A.depth + 1 + 2 < _; omega) (by show A.units + 3 + 60 < _; omega) (hb.mono S1.zz) (Rb.mono fun _ _ x => x.mono S1.zz) hsb ?_
  intro s3 Z3 c3 us3 S3 hc3 R3
  have x3 := x2.call S3
  refine st_loc x3.ns (fun h4 hn4 hs4 => ?_) rfl rfl
  have x4 := x3.store (t := s3.toks + 1) hn4 hs4
  have W4 : WZ w Z3 := W.mono x4.st.zz
  have hus3 : us3.length ≤ 1000000 := by
    have e1 : us3.length = (dd (cls typed) [] qs).length := R3.length
    have e2 := dd_length (cls typed) qs []
    have e3 := Rb.length
    simp at e2
    omega
  -- t = list(second_unhashable)
  refine wpAny_execs_cons ?_
  refine wpAny_Assign_Name ?_
  refine Call_Name rfl ?_
  refine ld_bi (v := .type "list") (W4.at x4.st.zh) rfl Boot.«list» ?_
  refine callWith_type1 (Calls.spliced_cons ?_)
  refine ld_loc (v := .ref c3) x4.ns rfl ?_
  refine Calls.spliced_nil ?_
  refine copy_list x4.st.zh hc3 (by rw [sizeLine_eq]; omega) fun h5 n5 hk5 ht5 => ?_
  have hsz5 : h4.objs.size < h5.objs.size := Heap.lt_size ht5
  have x5 : At Z s s.heap.objs.size _ Z3 { s3 with heap := h5, toks := s3.toks + 1 } := x4.step ((Step.refl x4.st.zh).keeps (t := s3.toks + 1) hk5 (Nat.le_of_lt hsz5))
  refine st_loc x5.ns (fun h6 hn6 hs6 => ?_) rfl rfl
  have x6 := x5.store (t := s3.toks + 1 + 1) hn6 hs6
  have hzt : Z3 h4.objs.size = none := x4.st.none_of_new
  have hLt : s.heap.objs.size ≠ h4.objs.size := Nat.ne_of_lt x4.lt
  have ht6 : h6.get? h4.objs.size = some (lobj us3 n5) := (hs6.2 _ (Ne.symm hLt)).trans ht5
  have sz6 : h4.objs.size < h6.objs.size := Heap.lt_size ht6
  -- try
  refine wpAny_execs_cons ?_
  refine wpAny_Try_except ?_
  refine wpAny_execs_cons ?_
  refine wpAny_For ?_
  refine ld_loc (v := .ref c1) x6.ns rfl ?_
  have hW : ∀ b, (b = s.heap.objs.size ∨ b = h4.objs.size) → s.heap.objs.size ≤ b := by
    rintro b (rfl | rfl)
    · exact Nat.le_refl _
    · exact x4.st.sz
  have hus1 : vs1.length = (dedup (cls typed) ps).length := R1.length
  refine loop_list (W := fun b => b = s.heap.objs.size ∨ b = h4.objs.size) (X := []) (Z := Z3) (its := vs1)
    (fun i Z1' g => ∃ us n, g h4.objs.size = some (lobj us n) ∧ Rows2 (fun v p => IsElem Z1' typed p v) us (left (cls typed) ((dedup (cls typed) ps).take i) (dedup (cls typed) qs)) ∧
      ∀ p, p ∈ (dedup (cls typed) ps).take i → (dedup (cls typed) qs).any (fun q => cls typed q == cls typed p) = true) (.inl hn) x6.st.zh (hc1.mono S3.zz) x6.ns ?hW (.inl rfl) ?mono ?h0 ?turn ?fin
  case hW =>
    rintro b (rfl | rfl)
    · exact ⟨x6.lt, x6.zl⟩
    · exact ⟨sz6, hzt⟩
  case mono =>
    rintro i Z1 g g' hg ⟨us, n, e, r⟩
    exact ⟨us, n, hg _ _ (.inr rfl) (Ne.symm hLt) e, r⟩
  case h0 =>
    refine ⟨us3, n5, ht6, ?_, fun p hp => by simp at hp⟩
    rw [List.take_zero, left_nil]
    exact R3
  case turn =>
    rintro i v Z7 s7 m7 hv S7 hn7 hm7 hm ⟨ws, n, ht, r, hall⟩
    have x7 := x6.loop hW S7 hn7
    obtain ⟨p, hp, hpv⟩ := R1.get i v hv
    have hpv7 : IsElem Z7 typed p v := (hpv.mono S3.zz).mono S7.zz
    have et : (dedup (cls typed) ps).take (i + 1) = (dedup (cls typed) ps).take i ++ [p] := by rw [List.take_add_one, hp]; rfl
    have hwl : ws.length ≤ 1000000 := by
      have h1 : ws.length = _ := r.length
      have h2 : (left (cls typed) ((dedup (cls typed) ps).take i) (dedup (cls typed) qs)).length ≤ (dedup (cls typed) qs).length := List.length_filter_le _ _
      have h3 : us3.length = (dedup (cls typed) qs).length := R3.length
      omega
    have hnot : ((dedup (cls typed) ps).take i).any (fun q => cls typed q == cls typed p) = false := by
      rw [List.any_eq_false]
      intro q hq e
      have e' : cls typed q = cls typed p := by simpa using e
      have hD := dedup_distinct (cls typed) ps
      have hlt : i < (dedup (cls typed) ps).length := by
        rcases Nat.lt_or_ge i (dedup (cls typed) ps).length with h | h
        · exact h
        · rw [List.getElem?_eq_none h] at hp; cases hp
      rw [← List.take_append_drop i (dedup (cls typed) ps)] at hD
      refine (List.pairwise_append.mp hD).2.2 q hq p ?_ e'
      rw [List.drop_eq_getElem_cons hlt]
      rw [List.getElem?_eq_getElem hlt] at hp
      cases hp
      exact .head _
    have hDl : (left (cls typed) ((dedup (cls typed) ps).take i) (dedup (cls typed) qs)).Pairwise (fun a b => cls typed a ≠ cls typed b) := (dedup_distinct _ _).sublist List.filter_sublist
    refine wpAny_execs_cons ?_
    refine wpAny_Expr ?_
    refine wpAny_Call_method1_late rfl rfl rfl ?_
    refine ld_loc (v := .ref h4.objs.size) x7.ns ((hm _ (by decide)).trans rfl) ?_
    refine ⟨"list", "list.remove", F.plainAttrs_list, F.slot_list_remove, F.type_list_remove, ⟨_, ht, rfl⟩, fun a ea => ⟨_, by cases ea; exact ht, rfl⟩, ?_⟩
    cases hany : (dedup (cls typed) qs).any (fun q => cls typed q == cls typed p) with
    | true =>
      refine remove_hit x7.st.zh ht r hDl hpv7 (by show A.units + 3 + 30 < _; omega) ((left_any _ _ _ _ hnot).trans hany) (by rw [sizeLine_eq]; omega) (fun Q' hq => ld_loc (v := v) x7.ns hm7 hq) ?_
      intro h8 ws8 n8 ht8 r8 hs8
      refine wpAny_execs_nil ?_
      have hz7 : Z7 h4.objs.size = none := S7.old _ sz6 hzt
      refine ⟨.inl rfl, Z7, m7, (StepW.refl x7.st.zh).upd (t := s7.toks) (.inr rfl) hz7 hs8, x7.ns.sameBut hs8 hLt, hm, ws8, n8, ht8, ?_, ?_⟩
      · rw [et, left_snoc]; exact r8
      · intro q hq
        rw [et, List.mem_append] at hq
        rcases hq with hq | hq
        · exact hall q hq
        · simp at hq; subst hq; exact hany
    | false =>
      refine remove_miss hn x7.st.zh ht r hpv7 (by show A.units + 3 + 30 < _; omega) ((left_any _ _ _ _ hnot).trans hany) (fun Q' hq => ld_loc (v := v) x7.ns hm7 hq) ?_
      intro e s8 hf8
      refine note_new ((hfr.stepU x7.st).top x7.ns x7.zl (by rfl)) rfl hf8 fun s9 c9 => ?_
      refine came_back rfl c9 fun s10 c10 => ?_
      refine note_again rfl c10 ?_
      refine flight c10 fun s11 c11 => ?_
      refine handle (T := "ValueError") c11 ?_ F.isExc_ValueError F.notTuple_ValueError (by rw [isSubtype_type]; kernel_rfl) (fun Q' E' hq => ld_bi ((W4.mono (S7.zz)).at c11.st.zh) rfl Boot.«ValueError» hq) ?_
      · intro q; cases q
      intro s12 Z12 S12 hok
      refine wpAny_execs_cons ?_
      refine wpAny_Return_some ?_
      refine wpAny_Constant_bool ?_
      have hp' : p ∈ dedup (cls typed) ps := List.mem_of_getElem? hp
      have := h s12 Z12 (x7.st.trans S12)
      rw [same_miss _ _ _ _ hp' hany] at this
      exact this
  case fin =>
    rintro Z7 s7 m7 S7 hn7 hm ⟨ws, n, ht, r, hall⟩
    have x7 := x6.loop hW S7 hn7
    rw [List.take_of_length_le (by omega)] at r hall
    refine wpAny_execs_nil ?_
    refine wpAny_execs_nil ?_
    refine wpAny_execs_cons ?_
    refine wpAny_Return_some ?_
    refine wpAny_UnaryOp ?_
    refine ld_loc (v := .ref h4.objs.size) x7.ns ((hm _ (by decide)).trans rfl) ?_
    refine not_of ?_
    refine wpAny_truthy_list (l := h4.objs.size) (items := ws.toArray) ⟨_, ht, rfl, n, rfl⟩ ?_ ?_
    · have h1 : ws.length = _ := r.length
      have h2 : (left (cls typed) (dedup (cls typed) ps) (dedup (cls typed) qs)).length ≤ (dedup (cls typed) qs).length := List.length_filter_le _ _
      have h3 : us3.length = (dedup (cls typed) qs).length := R3.length
      simp
      omega
    · have e : (!!ws.toArray.isEmpty) = same (cls typed) ps qs := by
        rw [← same_end _ _ _ hall]
        have h1 : ws.length = _ := r.length
        cases ws with
        | nil =>
          have : left (cls typed) (dedup (cls typed) ps) (dedup (cls typed) qs) = [] := List.length_eq_zero_iff.mp h1.symm
          rw [this]; rfl
        | cons _ _ => cases hl : left (cls typed) (dedup (cls typed) ps) (dedup (cls typed) qs) with
          | nil => rw [hl] at h1; simp at h1
          | cons _ _ => simp
      rw [e]
      exact h _ Z7 x7.tk.st
end
end Mine

namespace Mine
open SeqAt MeetsSeq AutoSeq1

namespace FK
def bound : Obj := { cls := .type "builtin_function_or_method", data := .fields #[.builtin "dict.fromkeys", .type "dict"] }
theorem type_fk : typeOf (.builtin "dict.fromkeys") = pure (.type "classmethod_descriptor") := by show builtinType _ = _; rw [builtinType_eq_fast]; kernel_rfl
theorem entry_fk : entryFor table "dict.fromkeys" = some Builtin.«dict.fromkeys» := entryFor_of_tree (by kernel_rfl)
theorem entry_loop : entryFor table "dict.fromkeys.loop" = some Builtin.«dict.fromkeys.loop» := entryFor_of_tree (by kernel_rfl)
theorem plain_loop : plainId "dict.fromkeys.loop" = true := by decide +kernel
theorem plain_fk : plainId "dict.fromkeys" = true := by decide +kernel
theorem quiet_fk {as : Args} : (Code.builtin "dict.fromkeys" as).quiet = true := Code.quiet_builtin _ (by decide +kernel)
theorem owner_fk : (kfb_private% "ownerAndName") "dict.fromkeys" = ("dict", "fromkeys") := by first | decide +kernel | kernel_rfl
theorem type_dict : isType (.type "dict") = pure true := by first | rfl | kernel_rfl | (unfold isType; rw [isSubtype_type]; kernel_rfl)
theorem sub_dict : isSubtype (.type "dict") (.type "dict") = pure true := by rw [isSubtype_type]; kernel_rfl
theorem check_fk {a : Addr} : checkBoundCall "dict.fromkeys" ⟨[.type "dict", .ref a], []⟩ = pure () := by first | kernel_rfl | rfl

section
variable {prog : Program} {w : World} {M : Model} {A : Around} {E : Value → Shared → Prop} {s : Shared}
theorem run_get {P : Fin → Shared → Prop} (h : P (.done (.ret (.ref s.heap.objs.size))) { s with heap := s.heap.push bound }) :
    wpAny M A (Builtin.«classmethod_descriptor.__get__» ⟨[.builtin "dict.fromkeys", .none, .type "dict"], []⟩) P E s := by
  unfold Builtin.«classmethod_descriptor.__get__»
  refine wpAny_bind (wpAny_of_eq (a := (.builtin "dict.fromkeys", none, some (.type "dict"))) (by first | rfl | kernel_rfl) ?_)
  simp only [owner_fk]
  refine wpAny_bind (wpAny_of_eq (a := .type "dict") rfl ?_)
  refine wpAny_bind (wpAny_of_eq (a := true) type_dict ?_)
  refine KFB.if_not rfl ?_
  refine wpAny_bind (wpAny_of_eq (a := true) sub_dict ?_)
  refine KFB.if_not rfl ?_
  exact wpAny_bind (wpAny_newObj_type (wpAny_pure h))

theorem getm {pl : Sem Bool} {Q : Value × List Value → Shared → Prop} (W : Wd w s.heap)
    (h : Q (.ref s.heap.objs.size, []) { s with heap := s.heap.push bound, toks := s.toks + 1 }) :
    wpAny (model prog w) A (getMethod (.type "dict") (PySem.Str.ofString "fromkeys") pl) Q E s := by
  have X := W.kin
  have e : findCls (KP w.params) (.type "dict") (.type "type") (PySem.Str.ofString "fromkeys") = some (.get (.builtin "classmethod_descriptor.__get__") (.builtin "dict.fromkeys") .none (.type "dict")) := rfl
  have hstub : opaqueClassAbove (.type "dict") = pure none := by unfold opaqueClassAbove; dsimp only; rw [show Manifest.isStub "dict" = false by decide +kernel]; rfl
  have ht : typeOf (.type "dict") = pure (.type "type") := by first | rfl | kernel_rfl
  have L0 : Looks (model prog w) s.heap (typeOf (.type "dict")) (.type "type") := Looks.of_pure ht
  have hg : findIn (KP w.params) (.type "type") "__getattribute__" = some (some (.builtin "type.__getattribute__")) := type_tga
  unfold getMethod specialOf
  refine wpAny_bind (wpAny_bind (L0.here ((looks_findIn X hg).here ?_)))
  dsimp only
  rw [if_pos canon_tga]
  refine wpAny_bind (wpAny_mono (Q := fun v => Q (v, [])) (E := E) ?_ (fun _ _ z => wpAny_pure z) fun _ _ z => z)
  have LO : Looks (model prog w) s.heap (opaqueClassAbove (.type "dict")) none := Looks.of_pure hstub
  refine cls_open X LO L0 hg (looks_hook X (r := none) (by rfl)) (by show subIn (KP w.params) _ _ = _; rfl) e ?_
  show wpAny _ _ (holding [.builtin "dict.fromkeys"] (call (.builtin "classmethod_descriptor.__get__") [.builtin "dict.fromkeys", .none, .type "dict"]) >>= fun v => ret v) _ _ _
  exact wpAny_bind (wpAny_holding (wpAny_call_entry KFB.slot_get type_fk KFB.entry_get (run_get ⟨_, rfl, wpAny_pure (wpAny_pure h)⟩) (KFB.args_get _ _ _)))

theorem callWith_fields {pos : Pos} {u : Addr} {args : List (Bool × Sem Value)} {Q : Value → Shared → Prop} (hplain : args.any (·.1) = false)
    (h : wpAny M A (evalArgs (.ref u) true args []) (fun x s₁ => s₁.heap.get? u = some bound ∧ wpAny M A (call (.ref u) x.pos x.kw) Q E s₁) E s) : wpAny M A (callWith pos (.ref u) [] args []) Q E s := by
  unfold callWith
  refine wpAny_bind (wpAny_holding (wpAny_mono h (fun x s₁ h₁ => wpAny_bind (wpAny_standAt ?_)) fun _ _ x => x))
  obtain ⟨ho, hcall⟩ := h₁
  simp only [hplain, List.any_nil, Bool.or_false]
  refine wpAny_bind (m := keeperOf (.ref u)) ?_
  unfold keeperOf
  refine wpAny_bind (wpAny_load ho ?_)
  simp only [bound, show (Value.type "builtin_function_or_method" != Value.type "method") = true by decide, show (Value.type "builtin_function_or_method" == Value.type "builtin_function_or_method" || Value.type "builtin_function_or_method" == Value.type "method-wrapper") = true by decide, if_true]
  refine wpAny_pure ?_
  exact wpAny_bind (wpAny_mono hcall (fun r s₂ hr => wpAny_bind (wpAny_holding (wpAny_point (wpAny_pure hr)))) fun _ _ x => x)

theorem call_bound {x a : Addr} {Q : Value → Shared → Prop} (ho : s.heap.get? x = some bound)
    (h : codeAny (model prog w) A (.builtin "dict.fromkeys" ⟨[.type "dict", .ref a], []⟩) (fun r s' => match r with | .ok (.ret v) => Q v s' | .ok _ => False | .error e => E e s') s) : wpAny (model prog w) A (call (.ref x) [.ref a]) Q E s := by
  refine wpAny_call (codeAny_of_tree ?_)
  show wpAny _ A.in1 (callAny (.ref x) ⟨[.ref a], []⟩) _ _ s
  simp only [callAny]
  refine wpAny_bind (wpAny_load ho ?_)
  simp only [bound, show (Value.type "builtin_function_or_method" == Value.type "method" || Value.type "builtin_function_or_method" == Value.type "builtin_function_or_method" || Value.type "builtin_function_or_method" == Value.type "method-wrapper") = true by decide, if_true]
  refine KFB.if_so (by decide) ?_
  refine wpAny_bind (wpAny_of_eq (a := ()) check_fk ?_)
  refine wpAny_bind (wpAny_pure (wpAny_pure ?_))
  exact ⟨quiet_fk, h⟩
end
end FK
end Mine

namespace Mine
open SeqAt MeetsSeq AutoSeq1

def Quiet (A : Around) (s : Shared) (v : Value) : Prop := ∀ (prog : Program) (w : World) (E : Value → Shared → Prop) (Q : Bool → Shared → Prop), Q true s → wpAny (model prog w) A (eqIsQuiet 8 v) Q E s

section
variable {prog : Program} {w : World} {A : Around} {E : Value → Shared → Prop} {s : Shared}

theorem tells_not {key : Value} {stored : List Value} {Q : Bool → Shared → Prop} (hk : Quiet A s key) (hst : ∀ v ∈ stored, Quiet A s v) (h : Q false s) : wpAny (model prog w) A (tableMayTell key stored) Q E s := by
  unfold tableMayTell
  split
  · exact wpAny_pure h
  · refine wpAny_bind (hk _ _ _ _ ?_)
    simp only [Bool.not_true, Bool.false_eq_true, if_false]
    refine wpAny_bind ?_
    refine wpAny_forIn_list _ (fun rest r s' => s' = s ∧ r = (none, ()) ∧ ∀ v ∈ rest, Quiet A s v) _ ?_ ?_ _ _ ⟨rfl, rfl, hst⟩
    · rintro x rest r s' ⟨rfl, rfl, hr⟩
      refine wpAny_bind (hr x List.mem_cons_self _ _ _ _ ?_)
      simp only [Bool.not_true, Bool.false_eq_true, if_false]
      exact wpAny_pure ⟨rfl, rfl, fun v hv => hr v (List.mem_cons_of_mem _ hv)⟩
    · rintro r s' ⟨rfl, rfl, _⟩
      exact wpAny_pure h

theorem find_key {d : Addr} {o : Obj} {es : Array DictEntry} {ep : Nat} {key : Value} {hsh : Int} {hit : Nat → Bool} {Q : Option Nat → Shared → Prop} (ho : s.heap.get? d = some o) (hd : o.data = .dict es ep)
    (hE : ∀ (i : Nat) (e : DictEntry), es[i]? = some e → EqAt A s e.key key (hit i)) (hH : ∀ (i : Nat) (e : DictEntry), es[i]? = some e → hit i = true → e.hash = hsh) (uniq : ∀ i j, i < es.size → j < es.size → hit i = true → hit j = true → i = j)
    (hq : Quiet A s key) (hqs : ∀ (i : Nat) (e : DictEntry), es[i]? = some e → Quiet A s e.key) (href : ∀ a, key = .ref a → ∀ (i : Nat) (e : DictEntry), es[i]? = some e → e.key = key → e.hash = hsh)
    (hstr : ∀ x t, key = .str x t → ∀ (i : Nat) (e : DictEntry), es[i]? = some e → e.key.isStr x = hit i)
    (hkind : (∃ x t, key = .str x t) ∨ (∃ a, key = .ref a) ∨ (∃ i t, key = .int i t) ∨ (∃ b, key = .bool b) ∨ key = .none)
    (hnone : (∀ i, i < es.size → hit i = false) → Q none s) (hsome : ∀ i, i < es.size → hit i = true → Q (some i) s) :
    wpAny (model prog w) A (dictFind d key hsh) Q E s := by
  have hP : ∀ i, i < es.size → hit i = true → ((es[i]?.map (·.hash)) == some hsh) = true := by
    intro i hi hh
    rw [Array.getElem?_eq_getElem hi]
    simp [hH i _ (Array.getElem?_eq_getElem hi) hh]
  have fin : ∀ i, i ≤ es.size → (∀ j, j < i → hit j = false) → ([] : List Nat) = (List.range' i (es.size - i)).filter (fun i => (es[i]?.map (·.hash)) == some hsh) → ∀ j, j < es.size → hit j = false := by
    intro i hi hno hr j hj
    rcases Nat.lt_or_ge j i with h | h
    · exact hno j h
    · cases e : hit j with
      | false => rfl
      | true =>
        have := List.filter_eq_nil_iff.mp hr.symm j (List.mem_range'_1.mpr ⟨h, by omega⟩)
        exact absurd (hP j hj e) this
  have skip : ∀ i x, (∀ j, j < i → hit j = false) → x < es.size → (∀ j, i ≤ j → j < x → ((es[j]?.map (·.hash)) == some hsh) = false) → ∀ j, j < x → hit j = false := by
    intro i x hno hx hsk j hj
    rcases Nat.lt_or_ge j i with h | h
    · exact hno j h
    · cases e : hit j with
      | false => rfl
      | true =>
        have := hsk j h hj
        rw [hP j (by omega) e] at this
        cases this
  have walk : wpAny (model prog w) A (dictWalkPlain d key hsh es (placesWithHash es.size (fun i => es[i]?.map (·.hash)) hsh)) Q E s := by
    unfold dictWalkPlain
    refine wpAny_bind ?_
    refine wpAny_forIn_list _
      (fun rest b s' => s' = s ∧ b.1 = none ∧ ∃ i, rest = (List.range' i (es.size - i)).filter (fun i => (es[i]?.map (·.hash)) == some hsh) ∧ i ≤ es.size ∧ ∀ j, j < i → hit j = false) _ ?_ ?_ _ _
      ⟨rfl, rfl, 0, by rw [placesWithHash, List.range_eq_range', Nat.sub_zero], Nat.zero_le _, fun _ h => absurd h (Nat.not_lt_zero _)⟩
    · rintro x rest b s' ⟨rfl, hb, i, hr, hi, hno⟩
      obtain ⟨hix, hxn, hpx, hskip, hrest⟩ := filter_range'_cons _ _ _ _ _ hr.symm
      have hlt : x < es.size := by omega
      have hrest' : rest = (List.range' (x + 1) (es.size - (x + 1))).filter (fun i => (es[i]?.map (·.hash)) == some hsh) := by rw [hrest]; congr 2; omega
      have hnox := skip i x hno hlt hskip
      have hex : es[x]? = some es[x] := Array.getElem?_eq_getElem hlt
      rw [hex] at hpx ⊢
      dsimp only
      have hh : (es[x].hash == hsh) = true := by simpa using hpx
      rw [if_pos hh]
      refine wpAny_bind (wpAny_dictEpoch ho hd (wpAny_bind (hE x _ hex _ _ _ _ (wpAny_bind (wpAny_dictEpoch ho hd ?_)))))
      show wpAny _ _ (if (ep != ep) = true then _ else _) _ E _
      rw [if_neg (by simp)]
      cases hx : hit x with
      | true =>
        first
          | exact wpAny_bind (wpAny_rule (wpAny_pure (wpAny_pure (hsome x hlt hx))))
          | (simp only [if_true]; exact wpAny_bind (wpAny_rule (wpAny_pure (wpAny_pure (hsome x hlt hx)))))
      | false =>
        simp only [Bool.false_eq_true, if_false]
        have hn' : ∀ j, j < x + 1 → hit j = false := fun j hj => by
          rcases Nat.lt_or_ge j x with h | h
          · exact hnox j h
          · have : j = x := by omega
            subst this; exact hx
        first
          | exact wpAny_bind (wpAny_rule (wpAny_pure ⟨rfl, rfl, x + 1, hrest', hlt, hn'⟩))
          | exact wpAny_bind (wpAny_pure (wpAny_bind (wpAny_rule (wpAny_pure ⟨rfl, rfl, x + 1, hrest', hlt, hn'⟩))))
    · rintro ⟨b1, b2⟩ s' ⟨rfl, hb, i, hr, hi, hno⟩
      simp only at hb
      subst hb
      exact wpAny_pure (hnone (fin i hi hno hr))
  have hst : ∀ v ∈ (placesWithHash es.size (fun i => es[i]?.map (·.hash)) hsh).filterMap (fun i => es[i]?.map (·.key)), Quiet A s v := by
    intro v hv
    obtain ⟨i, _, hi⟩ := List.mem_filterMap.mp hv
    cases hei : es[i]? with
    | none => rw [hei] at hi; cases hi
    | some e =>
      rw [hei] at hi
      obtain rfl : e.key = v := by simpa using hi
      exact hqs i e hei
  unfold dictFind
  try with_reducible refine wpAny_holding ?_
  refine wpAny_bind (wpAny_dictEntries ho hd ?_)
  rcases hkind with ⟨x, t, rfl⟩ | ⟨a, rfl⟩ | ⟨i0, t, rfl⟩ | ⟨b0, rfl⟩ | rfl
  · dsimp only
    by_cases hall : (es.all fun e => isExactStrKey e.key) = true
    · rw [if_pos hall]
      unfold foundByValue
      cases hf : es.findIdx? (fun e => e.key.isStr x) with
      | none =>
        refine wpAny_pure (hnone fun i hi => ?_)
        have := Array.findIdx?_eq_none_iff.mp hf es[i] (Array.getElem_mem hi)
        rw [← hstr x t rfl i _ (Array.getElem?_eq_getElem hi)]
        simpa using this
      | some i =>
        obtain ⟨hi, hix, _⟩ := Array.findIdx?_eq_some_iff_getElem.mp hf
        have hex : es[i]? = some es[i] := Array.getElem?_eq_getElem hi
        have hh : hit i = true := by rw [← hstr x t rfl i _ hex]; exact hix
        dsimp only
        rw [hex]
        dsimp only
        refine wpAny_bind (wpAny_dictEpoch ho hd (wpAny_bind (hE i _ hex _ _ _ _ (wpAny_bind (wpAny_dictEpoch ho hd ?_)))))
        show wpAny _ _ (if (ep != ep) = true then _ else _) _ E _
        rw [if_neg (by simp), hh]
        first
          | exact wpAny_bind (wpAny_rule (wpAny_pure (hsome i hi hh)))
          | (simp only [if_true]; exact wpAny_bind (wpAny_rule (wpAny_pure (hsome i hi hh))))
    rw [if_neg hall]

    by_cases hc : (Value.str x t :: (placesWithHash es.size (fun i => es[i]?.map (·.hash)) hsh).filterMap (fun i => es[i]?.map (·.key))).all carriedByValue = true
    · rw [if_pos hc]
      first | exact wpAny_bind (wpAny_mono walk (fun _ _ q => wpAny_pure q) fun _ _ q => q) | exact walk
    rw [if_neg hc]

    by_cases hone : (((placesWithHash es.size (fun i => es[i]?.map (·.hash)) hsh).filterMap (fun i => es[i]?.map (·.key))) == [Value.str x t]) = true <;>
    (first | rw [if_pos hone] | rw [if_neg hone]) <;> (first | refine wpAny_bind (wpAny_pure ?_) | refine wpAny_bind (tells_not hq hst ?_)) <;> (
      rw [if_neg (by simp)]
      refine wpAny_bind ?_
      refine wpAny_forIn_list _
        (fun rest b s' => s' = s ∧ ∃ i ht, b = (none, ht) ∧ rest = (List.range' i (es.size - i)).filter (fun i => (es[i]?.map (·.hash)) == some hsh) ∧ i ≤ es.size ∧
          ((ht = none ∧ ∀ j, j < i → hit j = false) ∨ ∃ j, ht = some j ∧ j < i ∧ hit j = true)) _ ?_ ?_ _ _
        ⟨rfl, 0, none, rfl, by rw [placesWithHash, List.range_eq_range', Nat.sub_zero], Nat.zero_le _, .inl ⟨rfl, fun _ h => absurd h (Nat.not_lt_zero _)⟩⟩
      · rintro x rest b s' ⟨rfl, i, ht, rfl, hr, hi, hT⟩
        obtain ⟨hix, hxn, hpx, hskip, hrest⟩ := filter_range'_cons _ _ _ _ _ hr.symm
        have hlt : x < es.size := by omega
        have hrest' : rest = (List.range' (x + 1) (es.size - (x + 1))).filter (fun i => (es[i]?.map (·.hash)) == some hsh) := by rw [hrest]; congr 2; omega
        have hex : es[x]? = some es[x] := Array.getElem?_eq_getElem hlt
        rw [hex] at hpx ⊢
        dsimp only
        have hh : (es[x].hash == hsh) = true := by simpa using hpx
        rw [if_pos hh]
        refine wpAny_bind (wpAny_dictEpoch ho hd (wpAny_bind (hE x _ hex _ _ _ _ (wpAny_bind (wpAny_dictEpoch ho hd ?_)))))
        show wpAny _ _ (if (ep != ep) = true then _ else _) _ E _
        rw [if_neg (by simp)]
        cases hx : hit x with
        | true =>
          rcases hT with ⟨rfl, hno⟩ | ⟨j, rfl, hji, hj⟩
          · first | rw [if_pos rfl] | skip
            simp only [Option.isSome_none, Bool.false_eq_true, if_false]
            first | refine wpAny_bind (wpAny_pure ?_) | skip
            refine wpAny_bind (wpAny_rule ?_)
            split
            · exact wpAny_pure (wpAny_pure (hsome x hlt hx))
            · exact wpAny_pure ⟨rfl, x + 1, some x, rfl, hrest', hlt, .inr ⟨x, rfl, Nat.lt_succ_self x, hx⟩⟩
          · exact absurd (uniq j x (by omega) hlt hj hx) (by omega)
        | false =>
          simp only [Bool.false_eq_true, if_false]
          have hT' : (ht = none ∧ ∀ j, j < x + 1 → hit j = false) ∨ ∃ j, ht = some j ∧ j < x + 1 ∧ hit j = true := by
            rcases hT with ⟨h0, hno⟩ | ⟨j, h1, hji, hj⟩
            · refine .inl ⟨h0, fun j hj => ?_⟩
              rcases Nat.lt_or_ge j x with h | h
              · exact skip i x hno hlt hskip j h
              · have : j = x := by omega
                subst this; exact hx
            · exact .inr ⟨j, h1, by omega, hj⟩
          refine wpAny_bind (wpAny_rule ?_)
          first | rw [if_neg (by simp)] | skip
          first
            | exact wpAny_pure ⟨rfl, x + 1, ht, rfl, hrest', hlt, hT'⟩
            | exact wpAny_bind (wpAny_pure (wpAny_pure ⟨rfl, x + 1, ht, rfl, hrest', hlt, hT'⟩))
      · rintro b s' ⟨rfl, i, ht, rfl, hr, hi, hT⟩
        rcases hT with ⟨rfl, hno⟩ | ⟨j, rfl, hji, hj⟩
        · exact wpAny_pure (hnone (fin i hi hno hr))
        · exact wpAny_pure (hsome j (by omega) hj))
  · dsimp only
    rw [if_neg (show ¬ ((Value.ref a :: (placesWithHash es.size (fun i => es[i]?.map (·.hash)) hsh).filterMap (fun i => es[i]?.map (·.key))).all carriedByValue) = true by simp [carriedByValue])]
    have hany : ¬ (es.any fun e => e.key == Value.ref a && e.hash != hsh) = true := by
      rw [Array.any_eq_true]
      rintro ⟨i, hi, hc⟩
      simp only [Bool.and_eq_true, beq_iff_eq, bne_iff_ne, ne_eq] at hc
      exact hc.2 (href a rfl i _ (Array.getElem?_eq_getElem hi) hc.1)
    rw [if_neg hany]

    by_cases hone : (((placesWithHash es.size (fun i => es[i]?.map (·.hash)) hsh).filterMap (fun i => es[i]?.map (·.key))) == [Value.ref a]) = true <;>
    (first | rw [if_pos hone] | rw [if_neg hone]) <;> (first | refine wpAny_bind (wpAny_pure ?_) | refine wpAny_bind (tells_not hq hst ?_)) <;> (
      rw [if_neg (by simp)]
      refine wpAny_bind ?_
      refine wpAny_forIn_list _
        (fun rest b s' => s' = s ∧ ∃ i ht, b = (none, ht) ∧ rest = (List.range' i (es.size - i)).filter (fun i => (es[i]?.map (·.hash)) == some hsh) ∧ i ≤ es.size ∧
          ((ht = none ∧ ∀ j, j < i → hit j = false) ∨ ∃ j, ht = some j ∧ j < i ∧ hit j = true)) _ ?_ ?_ _ _
        ⟨rfl, 0, none, rfl, by rw [placesWithHash, List.range_eq_range', Nat.sub_zero], Nat.zero_le _, .inl ⟨rfl, fun _ h => absurd h (Nat.not_lt_zero _)⟩⟩
      · rintro x rest b s' ⟨rfl, i, ht, rfl, hr, hi, hT⟩
        obtain ⟨hix, hxn, hpx, hskip, hrest⟩ := filter_range'_cons _ _ _ _ _ hr.symm
        have hlt : x < es.size := by omega
        have hrest' : rest = (List.range' (x + 1) (es.size - (x + 1))).filter (fun i => (es[i]?.map (·.hash)) == some hsh) := by rw [hrest]; congr 2; omega
        have hex : es[x]? = some es[x] := Array.getElem?_eq_getElem hlt
        rw [hex] at hpx ⊢
        dsimp only
        have hh : (es[x].hash == hsh) = true := by simpa using hpx
        rw [if_pos hh]
        refine wpAny_bind (wpAny_dictEpoch ho hd (wpAny_bind (hE x _ hex _ _ _ _ (wpAny_bind (wpAny_dictEpoch ho hd ?_)))))
        show wpAny _ _ (if (ep != ep) = true then _ else _) _ E _
        rw [if_neg (by simp)]
        cases hx : hit x with
        | true =>
          rcases hT with ⟨rfl, hno⟩ | ⟨j, rfl, hji, hj⟩
          · first | rw [if_pos rfl] | skip
            simp only [Option.isSome_none, Bool.false_eq_true, if_false]
            first | refine wpAny_bind (wpAny_pure ?_) | skip
            refine wpAny_bind (wpAny_rule ?_)
            split
            · exact wpAny_pure (wpAny_pure (hsome x hlt hx))
            · exact wpAny_pure ⟨rfl, x + 1, some x, rfl, hrest', hlt, .inr ⟨x, rfl, Nat.lt_succ_self x, hx⟩⟩
          · exact absurd (uniq j x (by omega) hlt hj hx) (by omega)
        | false =>
          simp only [Bool.false_eq_true, if_false]
          have hT' : (ht = none ∧ ∀ j, j < x + 1 → hit j = false) ∨ ∃ j, ht = some j ∧ j < x + 1 ∧ hit j = true := by
            rcases hT with ⟨h0, hno⟩ | ⟨j, h1, hji, hj⟩
            · refine .inl ⟨h0, fun j hj => ?_⟩
              rcases Nat.lt_or_ge j x with h | h
              · exact skip i x hno hlt hskip j h
              · have : j = x := by omega
                subst this; exact hx
            · exact .inr ⟨j, h1, by omega, hj⟩
          refine wpAny_bind (wpAny_rule ?_)
          first | rw [if_neg (by simp)] | skip
          first
            | exact wpAny_pure ⟨rfl, x + 1, ht, rfl, hrest', hlt, hT'⟩
            | exact wpAny_bind (wpAny_pure (wpAny_pure ⟨rfl, x + 1, ht, rfl, hrest', hlt, hT'⟩))
      · rintro b s' ⟨rfl, i, ht, rfl, hr, hi, hT⟩
        rcases hT with ⟨rfl, hno⟩ | ⟨j, rfl, hji, hj⟩
        · exact wpAny_pure (hnone (fin i hi hno hr))
        · exact wpAny_pure (hsome j (by omega) hj))
  · dsimp only

    by_cases hc : (Value.int i0 t :: (placesWithHash es.size (fun i => es[i]?.map (·.hash)) hsh).filterMap (fun i => es[i]?.map (·.key))).all carriedByValue = true
    · rw [if_pos hc]
      first | exact wpAny_bind (wpAny_mono walk (fun _ _ q => wpAny_pure q) fun _ _ q => q) | exact walk
    rw [if_neg hc]

    by_cases hone : (((placesWithHash es.size (fun i => es[i]?.map (·.hash)) hsh).filterMap (fun i => es[i]?.map (·.key))) == [Value.int i0 t]) = true <;>
    (first | rw [if_pos hone] | rw [if_neg hone]) <;> (first | refine wpAny_bind (wpAny_pure ?_) | refine wpAny_bind (tells_not hq hst ?_)) <;> (
      rw [if_neg (by simp)]
      refine wpAny_bind ?_
      refine wpAny_forIn_list _
        (fun rest b s' => s' = s ∧ ∃ i ht, b = (none, ht) ∧ rest = (List.range' i (es.size - i)).filter (fun i => (es[i]?.map (·.hash)) == some hsh) ∧ i ≤ es.size ∧
          ((ht = none ∧ ∀ j, j < i → hit j = false) ∨ ∃ j, ht = some j ∧ j < i ∧ hit j = true)) _ ?_ ?_ _ _
        ⟨rfl, 0, none, rfl, by rw [placesWithHash, List.range_eq_range', Nat.sub_zero], Nat.zero_le _, .inl ⟨rfl, fun _ h => absurd h (Nat.not_lt_zero _)⟩⟩
      · rintro x rest b s' ⟨rfl, i, ht, rfl, hr, hi, hT⟩
        obtain ⟨hix, hxn, hpx, hskip, hrest⟩ := filter_range'_cons _ _ _ _ _ hr.symm
        have hlt : x < es.size := by omega
        have hrest' : rest = (List.range' (x + 1) (es.size - (x + 1))).filter (fun i => (es[i]?.map (·.hash)) == some hsh) := by rw [hrest]; congr 2; omega
        have hex : es[x]? = some es[x] := Array.getElem?_eq_getElem hlt
        rw [hex] at hpx ⊢
        dsimp only
        have hh : (es[x].hash == hsh) = true := by simpa using hpx
        rw [if_pos hh]
        refine wpAny_bind (wpAny_dictEpoch ho hd (wpAny_bind (hE x _ hex _ _ _ _ (wpAny_bind (wpAny_dictEpoch ho hd ?_)))))
        show wpAny _ _ (if (ep != ep) = true then _ else _) _ E _
        rw [if_neg (by simp)]
        cases hx : hit x with
        | true =>
          rcases hT with ⟨rfl, hno⟩ | ⟨j, rfl, hji, hj⟩
          · first | rw [if_pos rfl] | skip
            simp only [Option.isSome_none, Bool.false_eq_true, if_false]
            first | refine wpAny_bind (wpAny_pure ?_) | skip
            refine wpAny_bind (wpAny_rule ?_)
            split
            · exact wpAny_pure (wpAny_pure (hsome x hlt hx))
            · exact wpAny_pure ⟨rfl, x + 1, some x, rfl, hrest', hlt, .inr ⟨x, rfl, Nat.lt_succ_self x, hx⟩⟩
          · exact absurd (uniq j x (by omega) hlt hj hx) (by omega)
        | false =>
          simp only [Bool.false_eq_true, if_false]
          have hT' : (ht = none ∧ ∀ j, j < x + 1 → hit j = false) ∨ ∃ j, ht = some j ∧ j < x + 1 ∧ hit j = true := by
            rcases hT with ⟨h0, hno⟩ | ⟨j, h1, hji, hj⟩
            · refine .inl ⟨h0, fun j hj => ?_⟩
              rcases Nat.lt_or_ge j x with h | h
              · exact skip i x hno hlt hskip j h
              · have : j = x := by omega
                subst this; exact hx
            · exact .inr ⟨j, h1, by omega, hj⟩
          refine wpAny_bind (wpAny_rule ?_)
          first | rw [if_neg (by simp)] | skip
          first
            | exact wpAny_pure ⟨rfl, x + 1, ht, rfl, hrest', hlt, hT'⟩
            | exact wpAny_bind (wpAny_pure (wpAny_pure ⟨rfl, x + 1, ht, rfl, hrest', hlt, hT'⟩))
      · rintro b s' ⟨rfl, i, ht, rfl, hr, hi, hT⟩
        rcases hT with ⟨rfl, hno⟩ | ⟨j, rfl, hji, hj⟩
        · exact wpAny_pure (hnone (fin i hi hno hr))
        · exact wpAny_pure (hsome j (by omega) hj))
  · dsimp only

    by_cases hc : (Value.bool b0 :: (placesWithHash es.size (fun i => es[i]?.map (·.hash)) hsh).filterMap (fun i => es[i]?.map (·.key))).all carriedByValue = true
    · rw [if_pos hc]
      first | exact wpAny_bind (wpAny_mono walk (fun _ _ q => wpAny_pure q) fun _ _ q => q) | exact walk
    rw [if_neg hc]

    by_cases hone : (((placesWithHash es.size (fun i => es[i]?.map (·.hash)) hsh).filterMap (fun i => es[i]?.map (·.key))) == [Value.bool b0]) = true <;>
    (first | rw [if_pos hone] | rw [if_neg hone]) <;> (first | refine wpAny_bind (wpAny_pure ?_) | refine wpAny_bind (tells_not hq hst ?_)) <;> (
      rw [if_neg (by simp)]
      refine wpAny_bind ?_
      refine wpAny_forIn_list _
        (fun rest b s' => s' = s ∧ ∃ i ht, b = (none, ht) ∧ rest = (List.range' i (es.size - i)).filter (fun i => (es[i]?.map (·.hash)) == some hsh) ∧ i ≤ es.size ∧
          ((ht = none ∧ ∀ j, j < i → hit j = false) ∨ ∃ j, ht = some j ∧ j < i ∧ hit j = true)) _ ?_ ?_ _ _
        ⟨rfl, 0, none, rfl, by rw [placesWithHash, List.range_eq_range', Nat.sub_zero], Nat.zero_le _, .inl ⟨rfl, fun _ h => absurd h (Nat.not_lt_zero _)⟩⟩
      · rintro x rest b s' ⟨rfl, i, ht, rfl, hr, hi, hT⟩
        obtain ⟨hix, hxn, hpx, hskip, hrest⟩ := filter_range'_cons _ _ _ _ _ hr.symm
        have hlt : x < es.size := by omega
        have hrest' : rest = (List.range' (x + 1) (es.size - (x + 1))).filter (fun i => (es[i]?.map (·.hash)) == some hsh) := by rw [hrest]; congr 2; omega
        have hex : es[x]? = some es[x] := Array.getElem?_eq_getElem hlt
        rw [hex] at hpx ⊢
        dsimp only
        have hh : (es[x].hash == hsh) = true := by simpa using hpx
        rw [if_pos hh]
        refine wpAny_bind (wpAny_dictEpoch ho hd (wpAny_bind (hE x _ hex _ _ _ _ (wpAny_bind (wpAny_dictEpoch ho hd ?_)))))
        show wpAny _ _ (if (ep != ep) = true then _ else _) _ E _
        rw [if_neg (by simp)]
        cases hx : hit x with
        | true =>
          rcases hT with ⟨rfl, hno⟩ | ⟨j, rfl, hji, hj⟩
          · first | rw [if_pos rfl] | skip
            simp only [Option.isSome_none, Bool.false_eq_true, if_false]
            first | refine wpAny_bind (wpAny_pure ?_) | skip
            refine wpAny_bind (wpAny_rule ?_)
            split
            · exact wpAny_pure (wpAny_pure (hsome x hlt hx))
            · exact wpAny_pure ⟨rfl, x + 1, some x, rfl, hrest', hlt, .inr ⟨x, rfl, Nat.lt_succ_self x, hx⟩⟩
          · exact absurd (uniq j x (by omega) hlt hj hx) (by omega)
        | false =>
          simp only [Bool.false_eq_true, if_false]
          have hT' : (ht = none ∧ ∀ j, j < x + 1 → hit j = false) ∨ ∃ j, ht = some j ∧ j < x + 1 ∧ hit j = true := by
            rcases hT with ⟨h0, hno⟩ | ⟨j, h1, hji, hj⟩
            · refine .inl ⟨h0, fun j hj => ?_⟩
              rcases Nat.lt_or_ge j x with h | h
              · exact skip i x hno hlt hskip j h
              · have : j = x := by omega
                subst this; exact hx
            · exact .inr ⟨j, h1, by omega, hj⟩
          refine wpAny_bind (wpAny_rule ?_)
          first | rw [if_neg (by simp)] | skip
          first
            | exact wpAny_pure ⟨rfl, x + 1, ht, rfl, hrest', hlt, hT'⟩
            | exact wpAny_bind (wpAny_pure (wpAny_pure ⟨rfl, x + 1, ht, rfl, hrest', hlt, hT'⟩))
      · rintro b s' ⟨rfl, i, ht, rfl, hr, hi, hT⟩
        rcases hT with ⟨rfl, hno⟩ | ⟨j, rfl, hji, hj⟩
        · exact wpAny_pure (hnone (fin i hi hno hr))
        · exact wpAny_pure (hsome j (by omega) hj))
  · dsimp only

    by_cases hc : (Value.none :: (placesWithHash es.size (fun i => es[i]?.map (·.hash)) hsh).filterMap (fun i => es[i]?.map (·.key))).all carriedByValue = true
    · rw [if_pos hc]
      first | exact wpAny_bind (wpAny_mono walk (fun _ _ q => wpAny_pure q) fun _ _ q => q) | exact walk
    rw [if_neg hc]

    by_cases hone : (((placesWithHash es.size (fun i => es[i]?.map (·.hash)) hsh).filterMap (fun i => es[i]?.map (·.key))) == [Value.none]) = true <;>
    (first | rw [if_pos hone] | rw [if_neg hone]) <;> (first | refine wpAny_bind (wpAny_pure ?_) | refine wpAny_bind (tells_not hq hst ?_)) <;> (
      rw [if_neg (by simp)]
      refine wpAny_bind ?_
      refine wpAny_forIn_list _
        (fun rest b s' => s' = s ∧ ∃ i ht, b = (none, ht) ∧ rest = (List.range' i (es.size - i)).filter (fun i => (es[i]?.map (·.hash)) == some hsh) ∧ i ≤ es.size ∧
          ((ht = none ∧ ∀ j, j < i → hit j = false) ∨ ∃ j, ht = some j ∧ j < i ∧ hit j = true)) _ ?_ ?_ _ _
        ⟨rfl, 0, none, rfl, by rw [placesWithHash, List.range_eq_range', Nat.sub_zero], Nat.zero_le _, .inl ⟨rfl, fun _ h => absurd h (Nat.not_lt_zero _)⟩⟩
      · rintro x rest b s' ⟨rfl, i, ht, rfl, hr, hi, hT⟩
        obtain ⟨hix, hxn, hpx, hskip, hrest⟩ := filter_range'_cons _ _ _ _ _ hr.symm
        have hlt : x < es.size := by omega
        have hrest' : rest = (List.range' (x + 1) (es.size - (x + 1))).filter (fun i => (es[i]?.map (·.hash)) == some hsh) := by rw [hrest]; congr 2; omega
        have hex : es[x]? = some es[x] := Array.getElem?_eq_getElem hlt
        rw [hex] at hpx ⊢
        dsimp only
        have hh : (es[x].hash == hsh) = true := by simpa using hpx
        rw [if_pos hh]
        refine wpAny_bind (wpAny_dictEpoch ho hd (wpAny_bind (hE x _ hex _ _ _ _ (wpAny_bind (wpAny_dictEpoch ho hd ?_)))))
        show wpAny _ _ (if (ep != ep) = true then _ else _) _ E _
        rw [if_neg (by simp)]
        cases hx : hit x with
        | true =>
          rcases hT with ⟨rfl, hno⟩ | ⟨j, rfl, hji, hj⟩
          · first | rw [if_pos rfl] | skip
            simp only [Option.isSome_none, Bool.false_eq_true, if_false]
            first | refine wpAny_bind (wpAny_pure ?_) | skip
            refine wpAny_bind (wpAny_rule ?_)
            split
            · exact wpAny_pure (wpAny_pure (hsome x hlt hx))
            · exact wpAny_pure ⟨rfl, x + 1, some x, rfl, hrest', hlt, .inr ⟨x, rfl, Nat.lt_succ_self x, hx⟩⟩
          · exact absurd (uniq j x (by omega) hlt hj hx) (by omega)
        | false =>
          simp only [Bool.false_eq_true, if_false]
          have hT' : (ht = none ∧ ∀ j, j < x + 1 → hit j = false) ∨ ∃ j, ht = some j ∧ j < x + 1 ∧ hit j = true := by
            rcases hT with ⟨h0, hno⟩ | ⟨j, h1, hji, hj⟩
            · refine .inl ⟨h0, fun j hj => ?_⟩
              rcases Nat.lt_or_ge j x with h | h
              · exact skip i x hno hlt hskip j h
              · have : j = x := by omega
                subst this; exact hx
            · exact .inr ⟨j, h1, by omega, hj⟩
          refine wpAny_bind (wpAny_rule ?_)
          first | rw [if_neg (by simp)] | skip
          first
            | exact wpAny_pure ⟨rfl, x + 1, ht, rfl, hrest', hlt, hT'⟩
            | exact wpAny_bind (wpAny_pure (wpAny_pure ⟨rfl, x + 1, ht, rfl, hrest', hlt, hT'⟩))
      · rintro b s' ⟨rfl, i, ht, rfl, hr, hi, hT⟩
        rcases hT with ⟨rfl, hno⟩ | ⟨j, rfl, hji, hj⟩
        · exact wpAny_pure (hnone (fin i hi hno hr))
        · exact wpAny_pure (hsome j (by omega) hj))
end
end Mine

namespace Mine
open SeqAt MeetsSeq AutoSeq1

def hashable (p : Nat) : Bool := p < 11 || p == 17
def hcode (w : World) (k : Nat) : Int :=
  match k with
  | 0 => hashInt 0
  | 1 => hashInt 1
  | 2 => hashStr w (Str.ofString "")
  | 3 => hashStr w (Str.ofString "0")
  | 4 => hashStr w (Str.ofString "True")
  | 5 => 0xFCA86420
  | 6 => reduceHash (Builtin.Tuple.tupleHashOf [])
  | 7 => reduceHash (Builtin.Tuple.tupleHashOf [hashInt 0])
  | _ => hashInt (-1)

abbrev dobj (es : Array DictEntry) (n : Nat) : Obj := { cls := .type "dict", data := .dict es n }

section
variable {prog : Program} {w : World} {A : Around} {E : Value → Shared → Prop} {s : Shared} {Z : Zp}
theorem tupKey {a : Addr} {xs : List Value} {ks : List Int} (h : tupZ Z a xs) (hz : Sub Z s.heap.get?) (i : ItemsAre (numKind prog w) ks xs) : IsTupleKey (numKind prog w) s.heap ks a := by
  obtain ⟨n, e⟩ := h
  exact ⟨_, _, n, hz _ _ e, rfl, rfl, by simpa using i⟩

theorem h6 (prog : Program) : hcode w 6 = tupleKeyHash (numKind prog w) [] := by simp only [hcode, tupleKeyHash, List.map_nil]
theorem h7 (prog : Program) : hcode w 7 = tupleKeyHash (numKind prog w) [0] := by simp only [hcode, tupleKeyHash, List.map_cons, List.map_nil, numKind]
theorem hash_val {p : Nat} {v : Value} {Q : Int → Shared → Prop} (x : IsVal Z p v) (hp : hashable p = true) (hz : Sub Z s.heap.get?) (hu : A.units < cLine) (h : ∀ t, Q (hcode w (worth p)) { s with toks := t }) :
    wpAny (model prog w) A (pyHash v) Q E s := by
  cases x with
  | i0 t => exact wpAny_pyHash_int (h _)
  | bf => exact pyHash_bool (by have := h (s.toks + 1); exact this)
  | i1 t => exact wpAny_pyHash_int (h _)
  | bt => exact pyHash_bool (by have := h (s.toks + 1); exact this)
  | s0 t => exact wpAny_pyHash_str (h _)
  | s1 t => exact wpAny_pyHash_str (h _)
  | s2 t => exact wpAny_pyHash_str (h _)
  | non => exact pyHash_none (h _)
  | t0 l =>
    rw [show worth 8 = 6 from rfl, h6 prog] at h
    exact wpAny_pyHash_tuple hu (tupKey (prog := prog) (w := w) l hz .nil) (h _)
  | t1 l =>
    rw [show worth 9 = 7 from rfl, h7 prog] at h
    exact wpAny_pyHash_tuple hu (tupKey (prog := prog) (w := w) l hz (.cons (k := 0) rfl .nil)) (h _)
  | t2 l =>
    rw [show worth 10 = 7 from rfl, h7 prog] at h
    exact wpAny_pyHash_tuple hu (tupKey (prog := prog) (w := w) l hz (.cons (k := 0) rfl .nil)) (h _)
  | l0 l => cases hp
  | l1 l => cases hp
  | l2 l => cases hp
  | d0 l => cases hp
  | d1 l => cases hp
  | d2 l => cases hp
  | m1 t => exact wpAny_pyHash_int (h _)

theorem quiet_val {p : Nat} {v : Value} (x : IsVal Z p v) (hp : hashable p = true) (hz : Sub Z s.heap.get?) : Quiet A s v := by
  intro prog w E Q h
  cases x with
  | t0 l => exact wpAny_eqIsQuiet_tuple (tupKey (prog := prog) (w := w) l hz .nil) h
  | t1 l => exact wpAny_eqIsQuiet_tuple (tupKey (prog := prog) (w := w) l hz (.cons (k := 0) rfl .nil)) h
  | t2 l => exact wpAny_eqIsQuiet_tuple (tupKey (prog := prog) (w := w) l hz (.cons (k := 0) rfl .nil)) h
  | l0 l => cases hp
  | l1 l => cases hp
  | l2 l => cases hp
  | d0 l => cases hp
  | d1 l => cases hp
  | d2 l => cases hp
  | _ => exact wpAny_pure h

theorem str_hit {p q : Nat} {x : Str} {t : Tok} {v : Value} (hx : IsVal Z p (.str x t)) (hv : IsVal Z q v) : v.isStr x = (cls false q == cls false p) := by
  cases hx <;> cases hv <;> (first | rfl | kernel_rfl)
theorem kind_of {p : Nat} {key : Value} (x : IsVal Z p key) (hp : hashable p = true) : (∃ x t, key = .str x t) ∨ (∃ a, key = .ref a) ∨ (∃ i t, key = .int i t) ∨ (∃ b, key = .bool b) ∨ key = .none := by
  cases x <;> simp

def KeyRel (Z : Zp) (w : World) (e : DictEntry) (q : Nat) : Prop := e.hash = hcode w (worth q) ∧ IsVal Z q e.key ∧ hashable q = true

theorem KeyRel.mono {Z Z' : Zp} {w : World} {e : DictEntry} {q : Nat} (h : KeyRel Z w e q) (k : Sub Z Z') : KeyRel Z' w e q := ⟨h.1, h.2.1.mono k, h.2.2⟩

theorem rows_modify {R : DictEntry → Nat → Prop} {f : DictEntry → DictEntry} (hf : ∀ e q, R e q → R (f e) q) : ∀ {es : List DictEntry} {qs : List Nat} (i : Nat), Rows2 R es qs → Rows2 R (es.modify i f) qs
  | _, _, i, .nil => by simpa using Rows2.nil
  | _, _, 0, .cons x t => by simpa [List.modify] using Rows2.cons (hf _ _ x) t
  | _, _, i + 1, .cons x t => by
    have := rows_modify hf i t
    simpa using Rows2.cons x this

/-- d[v] = None, for a key of the table -/
theorem set_key {d : Addr} {es : Array DictEntry} {n : Nat} {qs : List Nat} {p : Nat} {v val : Value} {Q : Unit → Shared → Prop} (hz : Sub Z s.heap.get?) (ho : s.heap.get? d = some (dobj es n)) (R : Rows2 (KeyRel Z w) es.toList qs)
    (hD : qs.Pairwise (fun a b => cls false a ≠ cls false b)) (x : IsVal Z p v) (hp : hashable p = true) (hu : A.units + 30 < cLine) (hsz : es.size ≤ 1000000)
    (h : ∀ h' es' n' t, h'.get? d = some (dobj es' n') → Rows2 (KeyRel Z w) es'.toList (if qs.any (fun q => cls false q == cls false p) then qs else qs ++ [p]) → Heap.SameBut d s.heap h' → Q () { s with heap := h', toks := t }) :
    wpAny (model prog w) A (dictSet d v val) Q E s := by
  have hlen : es.size = qs.length := by rw [← Array.length_toList]; exact R.length
  have at_ : ∀ (i : Nat) (e : DictEntry), es[i]? = some e → ∃ q, qs[i]? = some q ∧ KeyRel Z w e q := fun i e he => R.get i e (by simpa using he)
  unfold dictSet
  refine wpAny_holding (wpAny_bind (hash_val x hp hz (by omega) fun t => ?_))
  unfold dictSetHashed
  refine wpAny_holding (wpAny_bind ?_)
  refine find_key (s := { s with toks := t }) (hit := fun i => match qs[i]? with | some q => cls false q == cls false p | none => false) ho rfl ?_ ?_ ?_ (quiet_val (s := { s with toks := t }) x hp hz) ?_ ?_ ?_ (kind_of x hp) ?_ ?_
  · intro i e he
    obtain ⟨q, hq, r⟩ := at_ i e he
    simp only [hq]
    exact elems_eq (typed := false) (s := { s with toks := t }) r.2.1 x hz (by omega)
  · intro i e he hh
    obtain ⟨q, hq, r⟩ := at_ i e he
    simp only [hq] at hh
    have : worth q = worth p := by simpa [cls] using hh
    rw [r.1, this]
  · intro i j hi hj h1 h2
    rw [hlen] at hi hj
    simp only [List.getElem?_eq_getElem hi] at h1
    simp only [List.getElem?_eq_getElem hj] at h2
    have e1 : cls false qs[i] = cls false p := by simpa using h1
    have e2 : cls false qs[j] = cls false p := by simpa using h2
    rcases Nat.lt_trichotomy i j with hl | hl | hl
    · exact absurd (e1.trans e2.symm) (List.pairwise_iff_getElem.mp hD i j hi hj hl)
    · exact hl
    · exact absurd (e2.trans e1.symm) (List.pairwise_iff_getElem.mp hD j i hj hi hl)
  · intro i e he
    obtain ⟨q, hq, r⟩ := at_ i e he
    exact quiet_val (s := { s with toks := t }) r.2.1 r.2.2 hz
  · intro a ha i e he hk
    obtain ⟨q, hq, r⟩ := at_ i e he
    have := val_same (hk ▸ r.2.1) x
    rw [r.1, this]
  · intro y t' hy i e he
    obtain ⟨q, hq, r⟩ := at_ i e he
    simp only [hq]
    subst hy
    exact str_hit x r.2.1
  · intro hno
    have hany : qs.any (fun q => cls false q == cls false p) = false := by
      rw [List.any_eq_false]
      intro q hq
      obtain ⟨i, hi, rfl⟩ := List.mem_iff_getElem.mp hq
      have := hno i (by rw [hlen]; exact hi)
      simp only [List.getElem?_eq_getElem hi] at this
      simpa using this
    rw [hany] at h
    refine wpAny_bind (wpAny_rule (wpAny_updateDictKeys (s := { s with toks := t }) ho rfl (h _ (es.push ⟨hcode w (worth p), v, val⟩) (n + 1) t (Heap.get?_update_self _ ho rfl) ?_ (Heap.SameBut.update ..)) (by rw [sizeLine_eq]; omega)))
    rw [Array.toList_push]
    exact R.snoc ⟨rfl, x, hp⟩
  · intro i hi hh
    have hi' : i < qs.length := by rw [← hlen]; exact hi
    simp only [List.getElem?_eq_getElem hi'] at hh
    have hany : qs.any (fun q => cls false q == cls false p) = true := List.any_eq_true.mpr ⟨qs[i], List.getElem_mem hi', hh⟩
    rw [hany] at h
    refine wpAny_bind (wpAny_rule ?_)
    refine wpAny_bind (wpAny_updateDict (s := { s with toks := t }) ho rfl ?_ (by simp))
    refine wpAny_point (h _ (es.modify i fun e => { e with val := val }) n t (Heap.get?_update_self _ ho rfl) ?_ (Heap.SameBut.update ..))
    rw [Array.toList_modify]
    rw [if_pos rfl]
    exact rows_modify (f := fun e => { e with val := val }) (fun e q r => r) i R
end
end Mine

namespace Mine
open SeqAt MeetsSeq AutoSeq1

theorem Fresh.base {Z : Zp} {s0 s1 s : Shared} {X : String} {e : Addr} (x : Fresh Z s1 X e s) (S : StepU Z s0 Z s1) : Fresh Z s0 X e s := ⟨S.trans x.st, Nat.le_trans S.sz x.new, x.there, x.zn⟩

theorem typeName_list : typeName (.type "list") = pure "list" := by unfold typeName; rw [find?_eq_fast]; kernel_rfl
theorem typeName_dict : typeName (.type "dict") = pure "dict" := by unfold typeName; rw [find?_eq_fast]; kernel_rfl
theorem hash_of_list : typeLookup (.type "list") "__hash__" = pure (some .none) := by rw [typeLookup_type, builtinLookup_eq_fast]; kernel_rfl
theorem hash_of_dict : typeLookup (.type "dict") "__hash__" = pure (some .none) := by rw [typeLookup_type, builtinLookup_eq_fast]; kernel_rfl

section
variable {M : Model} {A : Around} {E : Value → Shared → Prop} {s : Shared} {Z : Zp}
theorem raise_freshMade {α : Type} {X msg : String} {Q : α → Shared → Prop} (hp : PlainExc X) (hh : A.handled = none) (hz : Sub Z s.heap.get?) (hm : (msg : Str).length ≤ sizeLine) (h : ∀ e s', Fresh Z s X e s' → E (.ref e) s') : wpAny M A (raiseErrorMade X msg : Sem α) Q E s := by
  unfold raiseErrorMade
  refine wpAny_bind (wpAny_mkStr (wpAny_bind ?_) hm)
  unfold newExc newTuple
  refine wpAny_bind (wpAny_newObj_type ?_)
  refine wpAny_bind (m := firstArgMember _ _) (wpAny_of_eq (a := Value.none) (by simp only [firstArgMember, hp.first]; rfl) ?_)
  rw [hp.own]
  refine wpAny_newObj_type ?_
  unfold raiseNew
  refine wpAny_bind (wpAny_handled ?_)
  rw [hh]
  refine wpAny_bind (wpAny_pure (wpAny_throw (h _ _ ?_)))
  have S1 := ((Step.refl hz).pushM (o := { cls := .type "tuple", data := .seq #[Value.str (msg : Str) s.toks] }) (tk := s.toks + 1)).toW (W := fun _ => False)
  have hn : Z (s.heap.push { cls := .type "tuple", data := .seq #[Value.str (msg : Str) s.toks] }).objs.size = none := S1.none_of_new
  exact ⟨S1.pushM, by rw [Heap.size_push]; exact Nat.le_succ _, ⟨_, .ref s.heap.objs.size, Heap.get?_push_size _ rfl, rfl, by simp⟩, hn⟩

/-- hash of a list or a dict -/
theorem hash_no {a : Addr} {T : String} {Q : Int → Shared → Prop} (hT : s.TypeIs (.ref a) T) (hl : T = "list" ∨ T = "dict") (hn : A.handled = none) (hz : Sub Z s.heap.get?) (hu : A.units < cLine) (h : ∀ e s', Fresh Z s "TypeError" e s' → E (.ref e) s') :
    wpAny M A (pyHash (.ref a)) Q E s := by
  unfold pyHash
  show wpAny _ _ (pyHashByItsType (.ref a)) _ _ _
  unfold pyHashByItsType
  refine wpAny_bind (wpAny_cRoomFor_or (.inr hu) ?_)
  have hlook : typeLookup (.type T) "__hash__" = pure (some .none) := by
    rcases hl with rfl | rfl
    · exact hash_of_list
    · exact hash_of_dict
  refine wpAny_bind (wpAny_specialOf hT hlook ?_)
  show wpAny _ _ (if (some Value.none == some Value.none) = true then _ else _) Q E s
  rw [if_pos (by decide)]
  refine wpAny_bind (wpAny_rule ?_)
  refine wpAny_bind ?_
  unfold PySem.typeNameOf shownTypeOf
  refine wpAny_bind (wpAny_bind (wpAny_typeOf hT ?_))
  rcases hl with rfl | rfl
  · simp only [show (Value.type "list" == Value.type "builtin_function_or_method") = false by decide, Bool.false_eq_true, if_false]
    refine wpAny_pure ?_
    rw [typeName_list]
    refine wpAny_pure ?_
    refine wpAny_bind ?_
    refine raise_freshMade plainExc_TypeError hn hz ?_ h
    first | size_fits | (rw [sizeLine_eq]; decide +kernel)
  · simp only [show (Value.type "dict" == Value.type "builtin_function_or_method") = false by decide, Bool.false_eq_true, if_false]
    refine wpAny_pure ?_
    rw [typeName_dict]
    refine wpAny_pure ?_
    refine wpAny_bind ?_
    refine raise_freshMade plainExc_TypeError hn hz ?_ h
    first | size_fits | (rw [sizeLine_eq]; decide +kernel)

theorem hash_fail {p : Nat} {v : Value} {Q : Int → Shared → Prop} (x : IsVal Z p v) (hp : hashable p = false) (hn : A.handled = none) (hz : Sub Z s.heap.get?) (hu : A.units < cLine) (h : ∀ e s', Fresh Z s "TypeError" e s' → E (.ref e) s') :
    wpAny M A (pyHash v) Q E s := by
  cases x with
  | l0 l => obtain ⟨n, e⟩ := l; exact hash_no ⟨_, hz _ _ e, rfl⟩ (.inl rfl) hn hz hu h
  | l1 l => obtain ⟨n, e⟩ := l; exact hash_no ⟨_, hz _ _ e, rfl⟩ (.inl rfl) hn hz hu h
  | l2 l => obtain ⟨n, e⟩ := l; exact hash_no ⟨_, hz _ _ e, rfl⟩ (.inl rfl) hn hz hu h
  | d0 l => obtain ⟨n, e, _⟩ := l; exact hash_no ⟨_, hz _ _ e, rfl⟩ (.inr rfl) hn hz hu h
  | d1 l => obtain ⟨n, e, _⟩ := l; exact hash_no ⟨_, hz _ _ e, rfl⟩ (.inr rfl) hn hz hu h
  | d2 l => obtain ⟨n, e, _⟩ := l; exact hash_no ⟨_, hz _ _ e, rfl⟩ (.inr rfl) hn hz hu h
  | _ => cases hp
end

namespace FK
theorem typeCall_dict_0 : checkTypeCall "dict" ⟨[], []⟩ = pure () := by kernel_rfl
theorem newCall_dict_0 : checkBuiltinCall "dict.__new__" ⟨[.type "dict"], []⟩ = pure () := by kernel_rfl
section
variable {prog : Program} {w : World} {A : Around} {E : Value → Shared → Prop} {s : Shared} {Z : Zp}
theorem code_new {Q₁ : Value → Shared → Prop} (h : Q₁ (.ref s.heap.objs.size) { s with heap := s.heap.push { cls := .type "dict", data := .dict #[] } }) :
    codeAny (model prog w) A (.call (.builtin "dict.__new__") ⟨[.type "dict"], []⟩) (wants Q₁ E) s := by
  refine codeAny_call_builtin F.kt_plain_dict_new F.kt_entry_dict_new (wpAny_of_eq newCall_dict_0 ?_)
  have hsub := F.kt_sub_dict
  have hmro := F.kt_mro_dict
  obtain ⟨hp, g, d, tk, os⟩ := s
  unfold Builtin.«dict.__new__»
  wp_walk
  exact h
theorem call_dict0 {Q : Value → Shared → Prop} (h : Q (.ref s.heap.objs.size) { s with heap := s.heap.push (dobj #[] 0) }) : wpAny (model prog w) A (call (.type "dict") []) Q E s := by
  refine callType_codes (Q₁ := fun obj s₁ => obj = .ref s.heap.objs.size ∧ s₁ = { s with heap := s.heap.push { cls := .type "dict", data := .dict #[] } }) F.kt_called_dict typeCall_dict_0 F.entry_dict_init (code_new ⟨rfl, rfl⟩) ?_
  rintro obj s₁ ⟨rfl, rfl⟩
  have hT : ({ s with heap := s.heap.push { cls := .type "dict", data := .dict #[] } } : Shared).TypeIs (.ref s.heap.objs.size) "dict" := ⟨_, Heap.get?_push_size _ rfl, rfl⟩
  refine ⟨hT, F.args_dict_init_1 _, ?_⟩
  unfold Builtin.«dict.__init__»
  refine wpAny_bind ?_
  unfold Builtin.Dict.selfAndRest
  refine wpAny_bind (wpAny_notOrdered_dict hT ?_)
  show wpAny _ _ (pure (s.heap.objs.size, [])) _ _ _
  refine wpAny_pure ?_
  show wpAny _ _ (Builtin.Dict.addKeywords s.heap.objs.size [] >>= _) _ _ _
  exact wpAny_bind (wpAny_pure (wpAny_pure ⟨rfl, h⟩))

theorem loop {d it l : Addr} {vs : List Value} {ps : List Nat} {R : Result → Shared → Prop} {s0 : Shared} (hn : A.handled = none) (hu : A.units + 60 < cLine) (hl : lstZ Z l vs) (Rv : Rows2 (fun v p => IsVal Z p v) vs ps) (hlen : vs.length ≤ 1000000)
    (hd0 : s0.heap.objs.size ≤ d) (hi0 : s0.heap.objs.size ≤ it) (hzd : Z d = none) (hzi : Z it = none) (hdi : d ≠ it)
    (good : (∀ p, p ∈ ps → hashable p = true) → ∀ s' es n, StepU Z s0 Z s' → s'.heap.get? d = some (dobj es n) → Rows2 (KeyRel Z w) es.toList (dedup (cls false) ps) → R (.ok (.ret (.ref d))) s')
    (bad : ∀ e s', Fresh Z s0 "TypeError" e s' → R (.error (.ref e)) s') (k : Nat) :
    ∀ (i : Nat) (s : Shared) (es : Array DictEntry) (n : Nat), vs.length - i = k → i ≤ vs.length → StepU Z s0 Z s → s.heap.get? d = some (dobj es n) → s.heap.IsListIter it l i → Rows2 (KeyRel Z w) es.toList (dedup (cls false) (ps.take i)) →
      (∀ p, p ∈ ps.take i → hashable p = true) → codeAny (model prog w) A (.builtin "dict.fromkeys.loop" ⟨[.ref d, .ref it, .none], []⟩) R s := by
  induction k with
  | zero =>
    intro i s es n hk hi S ho hit hR hall
    obtain ⟨nn, el⟩ := hl
    have hl0 : s.heap.IsList l vs.toArray := ⟨_, S.zh _ _ el, rfl, nn, rfl⟩
    have htake : ps.take i = ps := List.take_of_length_le (by rw [← Rv.length]; omega)
    rw [htake] at hR hall
    refine codeAny_builtin entry_loop ?_
    rw [Around.under_plainId plain_loop _]
    unfold Builtin.«dict.fromkeys.loop»
    dsimp only
    refine wpAny_bind ?_
    refine next_end (Z := Z) (.inl hn) S.zh hzi hit hl0 (by simp; omega) fun h' hext hsz => ?_
    refine wpAny_pure ?_
    refine good hall _ es n (S.keeps' (t := s.toks) (fun b o e => hext b o (fun q => by rw [q, hzi] at e; cases e)) (fun b o _ hb => hext b o (Nat.ne_of_lt (Nat.lt_of_lt_of_le hb hi0))) hsz) (hext _ _ hdi ho) hR
  | succ k ih =>
    intro i s es n hk hi S ho hit hR hall
    have hl' := hl
    obtain ⟨nn, el⟩ := hl'
    have hl0 : s.heap.IsList l vs.toArray := ⟨_, S.zh _ _ el, rfl, nn, rfl⟩
    have hlt : i < vs.length := by omega
    have hx : vs[i]? = some vs[i] := List.getElem?_eq_getElem hlt
    obtain ⟨p, hp, hpv⟩ := Rv.get i _ hx
    have et : ps.take (i + 1) = ps.take i ++ [p] := by rw [List.take_add_one, hp]; rfl
    refine codeAny_builtin entry_loop ?_
    rw [Around.under_plainId plain_loop _]
    unfold Builtin.«dict.fromkeys.loop»
    dsimp only
    refine wpAny_bind ?_
    refine wpAny_pyNext_list_item hit hl0 (x := vs[i]) (by simp [hlt]) fun h2 hit2 hs2 => ?_
    have S2 : StepU Z s0 Z { s with heap := h2, toks := s.toks } := S.updNew hi0 hzi hs2
    have ho2 : h2.get? d = some (dobj es n) := (hs2.2 _ hdi).trans ho
    have hes : es.size ≤ 1000000 := by
      have h1 : es.toList.length = (dd (cls false) [] (ps.take i)).length := hR.length
      have h2 := dd_length (cls false) (ps.take i) []
      have h3 := Rv.length
      simp at h1 h2
      omega
    dsimp only
    refine wpAny_bind (wpAny_typeOf (T := "dict") ⟨_, ho2, rfl⟩ ?_)
    rw [if_pos (by decide)]
    refine wpAny_bind ?_
    show wpAny _ _ (pure d) _ _ _
    refine wpAny_pure ?_
    refine wpAny_bind ?_
    refine wpAny_holding ?_
    cases hp' : hashable p with
    | true =>
      refine set_key (s := { s with heap := h2, toks := s.toks }) S2.zh ho2 hR (dedup_distinct _ _) hpv hp' (by show A.units + 1 + 30 < _; omega) hes ?_
      intro h3 es3 n3 t3 ho3 hR3 hs3
      have S3 : StepU Z s0 Z { s with heap := h3, toks := t3 } := S2.updNew hd0 hzd hs3
      refine wpAny_pure ⟨plainId_quiet plain_loop _, ?_⟩
      refine ih (i + 1) _ es3 n3 (by omega) (by omega) S3 ho3 ?_ ?_ ?_
      · obtain ⟨o, ho', r⟩ := hit2
        exact ⟨o, (hs3.2 _ (Ne.symm hdi)).trans ho', r⟩
      · rw [et]
        show Rows2 _ _ (dd _ [] _)
        rw [dd_append, dd]
        exact hR3
      · intro q hq
        rw [et, List.mem_append] at hq
        rcases hq with hq | hq
        · exact hall q hq
        · simp at hq; subst hq; exact hp'
    | false =>
      unfold dictSet
      refine wpAny_holding (wpAny_bind ?_)
      refine hash_fail (s := { s with heap := h2, toks := s.toks }) hpv hp' hn S2.zh (by show A.units + 1 < _; omega) fun e s' hf => ?_
      exact bad e s' (hf.base S2)

/-- dict.fromkeys of a list -/
theorem code_fk {a : Addr} {vs : List Value} {ps : List Nat} {R : Result → Shared → Prop} (hn : A.handled = none) (hu : A.units + 70 < cLine) (hz : Sub Z s.heap.get?) (hl : lstZ Z a vs) (Rv : Rows2 (fun v p => IsVal Z p v) vs ps) (hlen : vs.length ≤ 1000000)
    (good : (∀ p, p ∈ ps → hashable p = true) → ∀ s' d es n, StepU Z s Z s' → s.heap.objs.size ≤ d → Z d = none → s'.heap.get? d = some (dobj es n) → Rows2 (KeyRel Z w) es.toList (dedup (cls false) ps) → R (.ok (.ret (.ref d))) s')
    (bad : ∀ e s', Fresh Z s "TypeError" e s' → R (.error (.ref e)) s') :
    codeAny (model prog w) A (.builtin "dict.fromkeys" ⟨[.type "dict", .ref a], []⟩) R s := by
  refine codeAny_builtin entry_fk ?_
  rw [Around.under_plainId plain_fk _]
  unfold Builtin.«dict.fromkeys»
  dsimp only
  refine wpAny_bind (wpAny_of_eq type_dict ?_)
  refine KFB.if_not rfl ?_
  refine wpAny_bind (wpAny_of_eq sub_dict ?_)
  refine KFB.if_not rfl ?_
  refine KFB.if_not rfl ?_
  refine wpAny_bind ?_
  refine wpAny_bind (wpAny_rule (wpAny_pure ?_))
  refine wpAny_bind (wpAny_pure ?_)
  refine wpAny_bind ?_
  refine call_dict0 ?_
  refine wpAny_holding ?_
  have S1 : StepU Z s Z { s with heap := s.heap.push (dobj #[] 0) } := ((Step.refl hz).pushM (tk := s.toks)).toW
  obtain ⟨nn, el⟩ := id hl
  have hl1 : (s.heap.push (dobj #[] 0)).IsList a vs.toArray := ⟨_, S1.zh _ _ el, rfl, nn, rfl⟩
  have hT : ({ s with heap := s.heap.push (dobj #[] 0) } : Shared).TypeIs (.ref s.heap.objs.size) "dict" := ⟨_, Heap.get?_push_size _ rfl, rfl⟩
  refine wpAny_bind (wpAny_typeOf (T := "list") hl1.typeIs ?_)
  refine wpAny_bind (wpAny_typeOf (T := "dict") hT ?_)
  refine KFB.if_not (by decide) ?_
  refine wpAny_bind (wpAny_typeOf (T := "dict") hT ?_)
  refine KFB.if_not (by decide) ?_
  refine wpAny_bind ?_
  refine wpAny_pyIter_list hl1 ?_
  refine wpAny_pure ⟨plainId_quiet plain_loop _, ?_⟩
  have hzd : Z s.heap.objs.size = none := (Step.refl hz).none_of_new
  have hzi : Z (s.heap.push (dobj #[] 0)).objs.size = none := S1.none_of_new
  have hdi : s.heap.objs.size ≠ (s.heap.push (dobj #[] 0)).objs.size := by rw [Heap.size_push]; exact Nat.ne_of_lt (Nat.lt_succ_self _)
  refine loop (Z := Z) (s0 := s) hn (by omega) hl Rv hlen (Nat.le_refl _) (by rw [Heap.size_push]; exact Nat.le_succ _) hzd hzi hdi (fun hall s' es n S ho r => good hall s' _ es n S (Nat.le_refl _) hzd ho r) bad _ 0 _ #[] 0 rfl (Nat.zero_le _) (S1.pushM (tk := s.toks))
    (Heap.get?_push_of_some _ (Heap.get?_push_size _ rfl)) ⟨_, Heap.get?_push_size _ rfl, rfl, rfl⟩ .nil (fun p hp => by simp at hp)
end
end FK
end Mine

namespace Mine
open SeqAt MeetsSeq AutoSeq1

section
variable {prog : Program} {w : World} {A : Around} {E : Value → Shared → Prop} {s : Shared} {Z : Zp} {env : Env}

theorem Call_fromkeys {e : Expr} {p apos pos : Pos} {Q : Value → Shared → Prop}
    (hs : starEach [e] env = [(false, eval e env)]) (hline : (apos.endLine == pos.line) = true)
    (hd : ∀ Q' : Value → Shared → Prop, Q' (.type "dict") s → wpAny (model prog w) A (eval (.Name "dict" p) env) Q' E s) (W : Wd w s.heap)
    (h : wpAny (model prog w) A (eval e env) (fun v s₁ => ∃ a, v = .ref a ∧ s₁.heap.get? s.heap.objs.size = some FK.bound ∧ codeAny (model prog w) A (.builtin "dict.fromkeys" ⟨[.type "dict", .ref a], []⟩) (fun r s' => match r with | .ok (.ret v) => Q v s' | .ok _ => False | .error e => E e s') s₁) E
      { s with heap := s.heap.push FK.bound, toks := s.toks + 1 }) :
    wpAny (model prog w) A (eval (.Call (.Attribute (.Name "dict" p) "fromkeys" apos) [e] [] pos) env) Q E s := by
  have hbase : attributeBase (.Name "dict" p) "fromkeys" env (eval (.Name "dict" p) env) = eval (.Name "dict" p) env := rfl
  have hform : methodCallForm (([e] : List Expr).length + ([] : List Keyword).length) (backTo pos (starEach [e] env)) (backToKw pos (keywordEach [] env)) = true := by rw [hs]; rfl
  have hpos : methodCallPos true (.Name "dict" p) env apos pos = pure pos := by unfold methodCallPos; simp [hline]
  rw [arm_eval_Call, hbase]
  refine wpAny_bind (hd _ ?_)
  refine wpAny_bind (wpAny_standAt ?_)
  unfold methodCall
  rw [hform]
  refine wpAny_bind (wpAny_holding ?_)
  show wpAny _ _ (getMethod (.type "dict") (PySem.Str.ofString "fromkeys") _) _ _ _
  refine FK.getm W ?_
  refine wpAny_bind (wpAny_of_eq hpos ?_)
  rw [hs]
  show wpAny _ _ (callWith pos (.ref s.heap.objs.size) [] [(false, eval e env)] []) _ _ _
  refine FK.callWith_fields rfl ?_
  refine Calls.evalArgs_plain (Calls.spliced_cons (wpAny_mono h (fun v s₁ h₁ => Calls.spliced_nil ?_) fun _ _ e => e))
  obtain ⟨a, rfl, ho, hc⟩ := h₁
  exact ⟨ho, FK.call_bound ho hc⟩

/-- _deduplicate(params, unhashable_fallback=True) -/
theorem dedup_fn {a : Addr} {vs : List Value} {ps : List Nat} {Q : Value → Shared → Prop} (W : WZ w Z) (hz : Sub Z s.heap.get?) (hfr : Frs A Z s.heap) (hn : A.handled = none) (hd : A.depth + 4 < recursionLimit) (hu : A.units + 150 < cLine)
    (hl : lstZ Z a vs) (R : Rows2 (fun v p => IsVal Z p v) vs ps) (hsz : vs.length ≤ 1000000)
    (good : ∀ s' d es n, StepU Z s Z s' → s.heap.objs.size ≤ d → Z d = none → s'.heap.get? d = some (dobj es n) → Rows2 (KeyRel Z w) es.toList (dedup (cls false) ps) → Q (.ref d) s')
    (other : ∀ s' Z' c us, StepU Z s Z' s' → lstZ Z' c us → Rows2 (fun v p => IsVal Z' p v) us (dedup (cls false) ps) → Q (.ref c) s') :
    wpAny (model prog w) A (call (.ref 22) [.ref a] [(Str.ofString "unhashable_fallback", .bool true)]) Q E s := by
  refine' call_fn (binds := [(Str.ofString "params", .ref a), (Str.ofString "unhashable_fallback", .bool true)]) (W.at hz) (by omega) ?ho ?hcd (BindsTo.of_eq ?hb) ?_ ?hloc ?hcell ?hco ?hgen ?hk
  case ho => exact rfl
  case hcd => exact rfl
  case hb => exact rfl
  case hloc => exact locs rfl
  case hcell => decide
  case hco => rfl
  case hgen => rfl
  case hk => rfl
  intro h' hns hk hsz'
  have x0 := At.enter (t := s.toks + 2) hz hns hk hsz'
  have hfr0 : Frs A Z h' := hfr.stepU x0.st
  refine wpAny_execs_cons ?_
  refine wpAny_Try_except ?_
  refine wpAny_execs_cons ?_
  refine wpAny_Return_some ?_
  refine Call_fromkeys rfl rfl (fun Q' hq => ld_bi (W.at x0.st.zh) rfl Boot.«dict» hq) (W.at x0.st.zh) ?_
  have x1 : At Z s s.heap.objs.size _ Z { s with heap := h'.push FK.bound, toks := s.toks + 2 + 1 } := x0.step ((Step.refl x0.st.zh).pushM (tk := s.toks + 2 + 1))
  refine ld_loc (v := .ref a) x1.ns rfl ?_
  refine ⟨a, rfl, Heap.get?_push_size _ rfl, ?_⟩
  refine FK.code_fk hn (by show A.units + 3 + 70 < _; omega) x1.st.zh hl R hsz ?_ ?_
  · intro hall s' d es n S hd0 hzd hdo hR
    exact good s' d es n (x1.st.trans S) (Nat.le_trans x1.st.sz hd0) hzd hdo hR
  · intro e s1 hf
    refine note_new ((hfr.stepU x1.st).top x1.ns x1.zl (by rfl)) rfl hf fun s2 c2 => ?_
    refine flight c2 fun s3 c3 => ?_
    refine handle (T := "TypeError") c3 ?_ F.isExc_TypeError F.notTuple_TypeError (by rw [isSubtype_type]; kernel_rfl) (fun Q' E' hq => ld_bi (W.at c3.st.zh) rfl Boot.«TypeError» hq) ?_
    · intro q; cases q
    intro s4 Z4 S4 hok
    have x4 := x1.call S4
    refine wpAny_execs_cons ?_
    refine wpAny_If ?_
    refine wpAny_isTrue_Not ?_
    refine wpAny_isTrue_value ?_
    refine ld_loc (v := .bool true) x4.ns rfl ?_
    refine wpAny_truthy_bool ?_
    refine wpAny_execs_nil ?_
    refine wpAny_execs_cons ?_
    refine wpAny_Return_some ?_
    refine Call_Name rfl ?_
    refine ld_fn (v := .ref 29) ((W.mono S4.zz).at x4.st.zh) rfl ?_
    refine cw_fn1 rfl ?_
    refine ld_loc (v := .ref a) x4.ns rfl ?_
    refine ⟨(W.mono S4.zz).at x4.st.zh, ?_⟩
    refine dedup_un (typed := false) (W.mono S4.zz) x4.st.zh hok (by show A.depth + 1 + 2 < _; omega) (by show A.units + 3 + 60 < _; omega) (hl.mono S4.zz) (R.mono fun _ _ x => x.mono S4.zz) hsz ?_
    intro s5 Z5 c us S5 hc R5
    exact other s5 Z5 c us (x4.st.trans S5) hc R5
end
end Mine

namespace Mine
open SeqAt MeetsSeq AutoSeq1

/-- a dict, as it lies -/
def RawD (d : Addr) (es : Array DictEntry) (n : Nat) (h : Heap) : Prop := h.get? d = some (dobj es n)

section
variable {prog : Program} {w : World} {A : Around} {E : Value → Shared → Prop} {s : Shared} {d it : Addr} {es : Array DictEntry} {ep i : Nat}
theorem RawD.typeIs (h : RawD d es ep s.heap) : s.TypeIs (.ref d) "dict" := ⟨_, h, rfl⟩

theorem raw_iter {Q : Value → Shared → Prop} (hd : (d == sysModules) = false) (hm : RawD d es ep s.heap)
    (hQ : Q (.ref s.heap.objs.size) { s with heap := s.heap.push { cls := .type "dict_keyiterator", data := .fields #[.ref d, .int 0 0, .int es.size 0, .int ep 0] } }) :
    wpAny (model prog w) A (pyIter (.ref d)) Q E s := by
  have hT : s.TypeIs (.ref d) "dict" := hm.typeIs
  refine wpAny_pyIter_slot hT F.slot_dict_iter (wpAny_call_entry F.slot_dict_iter hT F.entry_dict_iter ?_ (F.args_dict_iter_1 _))
  unfold Builtin.«dict.__iter__»
  refine wpAny_bind ?_
  unfold Builtin.Dict.dictSlotNone
  refine wpAny_bind (wpAny_notOrdered_dict hT ?_)
  show wpAny _ _ (pure (Value.ref d)) _ _ s
  refine wpAny_pure ?_
  show wpAny _ _ (Builtin.Dict.showsAll d >>= _) _ _ s
  unfold Builtin.Dict.showsAll
  rw [if_neg (by rw [hd]; exact Bool.false_ne_true)]
  refine wpAny_bind (wpAny_pure ?_)
  refine wpAny_bind (wpAny_dictEntries hm rfl ?_)
  refine wpAny_bind (wpAny_dictEpoch hm rfl ?_)
  refine wpAny_bind (wpAny_newObj_type (wpAny_pure ⟨_, rfl, "dict_keyiterator", _, ⟨_, Heap.get?_push_size _ rfl, rfl⟩, F.slot_dict_keyiterator_next.lookup, ?_⟩))
  simpa [rawInt] using hQ

theorem raw_next {Q : Option Value → Shared → Prop} (hit : s.heap.IsKeyIter it d i es.size ep) (hm : RawD d es ep s.heap) (hlt : i < es.size)
    (hQ : ∀ h', h'.IsKeyIter it d (i + 1) es.size ep → Heap.SameBut it s.heap h' → Q (some es[i].key) { s with heap := h' }) :
    wpAny (model prog w) A (pyNext (.ref it)) Q E s := by
  obtain ⟨o, ho, hc, hd⟩ := id hit
  unfold pyNext
  refine wpAny_bind (wpAny_attempt (wpAny_callSpecial?_slot (name := Str.ofString "__next__") hit.typeIs F.slot_dict_keyiterator_next
    (wpAny_call_entry F.slot_dict_keyiterator_next hit.typeIs F.entry_dict_keyiterator_next ?_ (F.args_dict_keyiterator_next_1 _))))
  refine wpAny_bind (wpAny_pure ?_)
  refine wpAny_bind ?_
  refine wpAny_bind ?_
  first | refine wpAny_bind (wpAny_typeNameOfWhole_keyiter hit.typeIs (wpAny_pure ?_)) | refine wpAny_bind (wpAny_typeNameOf_keyiter hit.typeIs (wpAny_pure ?_))
  refine wpAny_bind (wpAny_fieldsOf ho hd ?_)
  have hown : Builtin.Dict_items.ownsTuple "dict_keyiterator" = false := by decide
  simp only [hown, Bool.false_eq_true, if_false]
  show wpAny _ _ (if (Value.ref d == Value.none) = true then _ else _) _ _ s
  rw [if_neg (show ¬ ((Value.ref d == Value.none) = true) from Bool.false_ne_true)]
  refine wpAny_bind (wpAny_pure ?_)
  refine wpAny_bind (wpAny_dictEntries hm rfl ?_)
  rw [if_neg (by simp)]
  refine wpAny_bind (wpAny_pure ?_)
  refine wpAny_bind (wpAny_dictEpoch hm rfl ?_)
  rw [if_neg (by simp)]
  refine wpAny_pure ?_
  simp only [show ¬ ((i : Int) < 0) from by omega, if_false, Int.toNat_natCast, Array.getElem?_eq_getElem hlt]
  refine wpAny_bind ?_
  first | refine wpAny_bind (wpAny_typeNameOfWhole_keyiter hit.typeIs (wpAny_pure ?_)) | refine wpAny_bind (wpAny_typeNameOf_keyiter hit.typeIs (wpAny_pure ?_))
  refine wpAny_bind (wpAny_isOneOf_keyiter hit.typeIs ?_)
  show wpAny _ _ (setField (.ref it) 1 (rawInt ((i : Int) + 1)) >>= _) _ _ s
  refine wpAny_bind (wpAny_setField ho hd (by simp) ?_)
  have hit' : (s.heap.update it (Obj.mapFields (·.setIfInBounds 1 (rawInt ((i : Int) + 1))))).IsKeyIter it d (i + 1) es.size ep :=
    ⟨_, Heap.get?_update_self _ ho (Obj.isFreed_of_fields (Obj.data_mapFields hd _)), (Obj.cls_mapFields ..).trans hc, by rw [Obj.data_mapFields hd]; simp [rawInt]⟩
  refine wpAny_bind (wpAny_holding ?_)
  refine wpAny_bind (wpAny_isOneOf_keyiter (s := { s with heap := s.heap.update it (Obj.mapFields (·.setIfInBounds 1 (rawInt ((i : Int) + 1)))) }) hit'.typeIs ?_)
  show wpAny _ _ (pure es[i].key) _ _ _
  exact wpAny_pure (wpAny_pure ⟨_, rfl, wpAny_pure (hQ _ hit' (Heap.SameBut.update ..))⟩)

theorem raw_end {Q : Option Value → Shared → Prop} (hh : A.handled = none) (hit : s.heap.IsKeyIter it d i es.size ep) (hm : RawD d es ep s.heap) (hge : es.size ≤ i)
    (hQ : ∀ h', Heap.ExtBut it s.heap h' → Q none { s with heap := h' }) : wpAny (model prog w) A (pyNext (.ref it)) Q E s := by
  obtain ⟨o, ho, hc, hd⟩ := id hit
  unfold pyNext
  refine wpAny_bind (wpAny_attempt (wpAny_callSpecial?_slot (name := Str.ofString "__next__") hit.typeIs F.slot_dict_keyiterator_next
    (wpAny_call_entry F.slot_dict_keyiterator_next hit.typeIs F.entry_dict_keyiterator_next ?_ (F.args_dict_keyiterator_next_1 _))))
  refine wpAny_bind (wpAny_pure ?_)
  refine wpAny_bind ?_
  refine wpAny_bind ?_
  first | refine wpAny_bind (wpAny_typeNameOfWhole_keyiter hit.typeIs (wpAny_pure ?_)) | refine wpAny_bind (wpAny_typeNameOf_keyiter hit.typeIs (wpAny_pure ?_))
  refine wpAny_bind (wpAny_fieldsOf ho hd ?_)
  have hown : Builtin.Dict_items.ownsTuple "dict_keyiterator" = false := by decide
  simp only [hown, Bool.false_eq_true, if_false]
  show wpAny _ _ (if (Value.ref d == Value.none) = true then _ else _) _ _ s
  rw [if_neg (show ¬ ((Value.ref d == Value.none) = true) from Bool.false_ne_true)]
  refine wpAny_bind (wpAny_pure ?_)
  refine wpAny_bind (wpAny_dictEntries hm rfl ?_)
  rw [if_neg (by simp)]
  refine wpAny_bind (wpAny_pure ?_)
  refine wpAny_bind (wpAny_dictEpoch hm rfl ?_)
  rw [if_neg (by simp)]
  refine wpAny_pure ?_
  simp only [show ¬ ((i : Int) < 0) from by omega, if_false, Int.toNat_natCast, Array.getElem?_eq_none hge]
  refine wpAny_bind ?_
  first | refine wpAny_bind (wpAny_typeNameOfWhole_keyiter hit.typeIs (wpAny_pure ?_)) | refine wpAny_bind (wpAny_typeNameOf_keyiter hit.typeIs (wpAny_pure ?_))
  show wpAny _ _ (setField (.ref it) 0 .none >>= _) _ _ s
  refine wpAny_bind (wpAny_setField ho hd (by simp) ?_)
  show wpAny _ _ (newExc (.type "StopIteration") [] >>= _) _ _ _
  refine wpAny_bind ?_
  simp only [newExc, newTuple]
  refine wpAny_bind (wpAny_newObj_type ?_ (by size_fits))
  refine wpAny_bind (m := firstArgMember _ _) (wpAny_of_eq (a := Value.none) (by first | rfl | (simp only [firstArgMember]; rfl)) ?_)
  refine wpAny_newObj_type ?_ (by size_fits)
  simp only [raiseNew]
  refine wpAny_bind (wpAny_handled ?_)
  rw [show A.in1.handled = none from hh]
  refine wpAny_bind (wpAny_pure (wpAny_throw ?_))
  refine wpAny_bind (wpAny_isInstance (T := "StopIteration") (b := true) ⟨_, Heap.get?_push_size _ rfl, rfl⟩ isSubtype_stop ?_)
  exact wpAny_pure (hQ _ (((Heap.SameBut.update ..).extBut.push _).push _))
end

section
variable {prog : Program} {w : World} {A : Around} {d : Addr} {es : Array DictEntry} {ep : Nat}
theorem raw_walks (hh : A.handled = none) (I : Addr) (hne : d ≠ I) : Walks prog w A I [I, d] [I] es.size (fun i v => ∃ e, es[i]? = some e ∧ v = e.key) (fun i h => h.IsKeyIter I d i es.size ep ∧ RawD d es ep h) where
  sub := fun b hb => by simp at hb; simp [hb]
  frame := fun _ _ _ st hk => ⟨st.1.at fun o e => hk I (by simp) o e, hk d (by simp) _ st.2⟩
  item := fun i s Q E hi st hQ => raw_next st.1 st.2 hi fun h' hit' hs' =>
    hQ _ h' s.toks ⟨_, Array.getElem?_eq_getElem hi, rfl⟩ ⟨hit', (hs'.2 _ hne).trans st.2⟩ fun b o hb e => hs'.extBut b o (fun h => hb (by simp [h])) e
  done := fun s Q E st hQ => raw_end hh st.1 st.2 (Nat.le_refl _) fun h' he' => hQ h' s.toks fun b o hb e => he' b o (fun h => hb (by simp [h])) e
  self := fun _ _ _ _ st hQ => wpAny_pyIter_keyiter st.1 hQ
theorem raw_src (lo : (d == sysModules) = false) : KdlSrc prog w "dict" d d es.size (fun i v => ∃ e, es[i]? = some e ∧ v = e.key) (fun h => RawD d es ep h) where
  type := fun _ hm => hm.typeIs
  there := fun _ hm => ⟨Heap.lt_size hm, Heap.lt_size hm⟩
  keep := fun _ _ hm hk => hk _ (.inl rfl) _ hm
  notList := by decide
  notTuple := by decide
  hint := fun _ _ _ _ hm hq => kdl_hint_dict hm.typeIs hq
  iter := fun _ _ hh hm => ⟨_, _, (fun _ _ hq => raw_iter lo hm hq), raw_walks hh _ (Nat.ne_of_lt (Heap.lt_size hm)), ⟨⟨_, Heap.get?_push_size _ rfl, rfl, rfl⟩, Heap.get?_push_of_some _ hm⟩⟩
end

section
variable {prog : Program} {w : World} {A : Around} {E : Value → Shared → Prop} {s : Shared} {Z : Zp}
theorem keys_rows {Z' : Zp} (k : Sub Z Z') {es : List DictEntry} {qs : List Nat} (R : Rows2 (KeyRel Z w) es qs) : Rows2 (fun v p => IsVal Z' p v) (es.map (·.key)) qs := by
  induction R with
  | nil => exact .nil
  | cons x _ ih => exact .cons (x.2.1.mono k) ih
/-- list(d) of a dict over keys of the table -/
theorem list_dict {d : Addr} {es : Array DictEntry} {ep : Nat} {qs : List Nat} {Q : Value → Shared → Prop} (hn : A.handled = none) (hz : Sub Z s.heap.get?) (lo : sysModules < d) (ho : s.heap.get? d = some (dobj es ep)) (R : Rows2 (KeyRel Z w) es.toList qs) (hsz : es.size ≤ 1000000)
    (h : ∀ s' Z' c us, StepU Z s Z' s' → lstZ Z' c us → Rows2 (fun v p => IsVal Z' p v) us qs → Q (.ref c) s') : wpAny (model prog w) A (call (.type "list") [.ref d]) Q E s := by
  refine kdl_call (raw_src (es := es) (ep := ep) (by simpa using Nat.ne_of_gt lo)) hn ho (by rw [sizeLine_eq]; omega) fun h' tk acc' c' hk hD hacc => ?_
  have S : StepU Z s Z { s with heap := h', toks := tk } := ((Step.refl hz).keeps hk (Nat.le_of_lt (Heap.lt_size hD))).toW
  have hzc : Z s.heap.objs.size = none := (Step.refl hz).none_of_new
  have S2 := S.freeze (Nat.le_refl _) hD hzc
  refine h _ _ _ acc'.toList S2 ⟨c', by rw [put_self]⟩ ?_
  have e1 : acc'.toList = es.toList.map (·.key) := by
    refine List.ext_getElem? fun i => ?_
    rcases Nat.lt_or_ge i acc'.size with hl | hl
    · obtain ⟨e, he, hv⟩ := hacc.2 i acc'[i] (Array.getElem?_eq_getElem hl)
      rw [Array.getElem?_toList, Array.getElem?_eq_getElem hl, List.getElem?_map, Array.getElem?_toList, he, hv]
      rfl
    · rw [List.getElem?_eq_none (by simpa using hl), List.getElem?_eq_none (by rw [List.length_map, Array.length_toList, ← hacc.1]; exact hl)]
  rw [e1]
  exact keys_rows (Sub.put hzc) R
end
end Mine

namespace Mine
open SeqAt MeetsSeq AutoSeq1

theorem IsVal.typeIs {Z : Zp} {p : Nat} {v : Value} {s : Shared} (x : IsVal Z p v) (hz : Sub Z s.heap.get?) : s.TypeIs v (tyName p) := by
  cases x with
  | t0 l => obtain ⟨n, e⟩ := l; exact ⟨_, hz _ _ e, rfl⟩
  | t1 l => obtain ⟨n, e⟩ := l; exact ⟨_, hz _ _ e, rfl⟩
  | t2 l => obtain ⟨n, e⟩ := l; exact ⟨_, hz _ _ e, rfl⟩
  | l0 l => obtain ⟨n, e⟩ := l; exact ⟨_, hz _ _ e, rfl⟩
  | l1 l => obtain ⟨n, e⟩ := l; exact ⟨_, hz _ _ e, rfl⟩
  | l2 l => obtain ⟨n, e⟩ := l; exact ⟨_, hz _ _ e, rfl⟩
  | d0 l => obtain ⟨n, e, _⟩ := l; exact ⟨_, hz _ _ e, rfl⟩
  | d1 l => obtain ⟨n, e, _⟩ := l; exact ⟨_, hz _ _ e, rfl⟩
  | d2 l => obtain ⟨n, e, _⟩ := l; exact ⟨_, hz _ _ e, rfl⟩
  | _ => rfl
theorem tyName_not {p : Nat} (h : p < 18) : (Value.type (tyName p) == Value.type "builtin_function_or_method") = false := by
  have : ∀ p, p < 18 → (Value.type (tyName p) == Value.type "builtin_function_or_method") = false := by decide +kernel
  exact this p h

section
variable {prog : Program} {w : World} {A : Around} {E : Value → Shared → Prop} {s : Shared} {Z : Zp} {cenv : Env}
abbrev pairO (v : Value) (p : Nat) : Obj := { cls := .type "tuple", data := .seq #[v, .type (tyName p)] }
/-- (p, type(p)) -/
theorem elt_gen {m : Str → Option Value} {v : Value} {p : Nat} {p1 p2 p3 p4 p5 : Pos} {k : Nat} {Q : Value → Shared → Prop} (W : WZ w Z) (hz : Sub Z s.heap.get?) (N : s.heap.Ns cenv.locals m) (hp : m (Str.ofString "p") = some v) (hv : IsVal Z p v)
    (hk : cenv.scope.kind = .function) (hl : cenv.kindOf (Str.ofString "p") = some .local) (ht : cenv.kindOf (Str.ofString "type") = some .globalImplicit) (hg : cenv.globals = mainGlobals) (hb : cenv.builtins = builtinsNs)
    (h : Q (.ref s.heap.objs.size) { s with heap := s.heap.push (pairO v p) }) :
    wpAny (model prog w) A (eval (.Tuple [.Name (Str.ofString "p") p1, .Call (.Name (Str.ofString "type") p2) [.Name (Str.ofString "p") p3] [] p4] k p5) cenv) Q E s := by
  refine wpAny_Tuple ?_
  refine wpAny_items_cons ?_ rfl
  refine ld_loc (v := v) N hp ?_ hk hl
  refine wpAny_items_cons ?_ rfl
  refine Call_Name rfl ?_
  refine ld_bi (v := .type "type") (W.at hz) rfl Boot.«type» ?_ (by decide) hk ht hg hb
  refine callWith_type1 (Calls.spliced_cons ?_)
  refine ld_loc (v := v) N hp ?_ hk hl
  refine Calls.spliced_nil ?_
  refine call_type_of (hv.typeIs hz) (tyName_not hv.lt) ?_
  refine wpAny_items_nil ?_
  refine ⟨by rw [sizeLine_eq]; simp, ?_⟩
  exact h

abbrev WG (C I : Addr) : Addr → Prop := fun b => b = C ∨ b = I
/-- all but C and I is as it was -/
structure Kept (C I : Addr) (s₀ s : Shared) : Prop where
  keep : ∀ b o, b ≠ C → b ≠ I → s₀.heap.get? b = some o → s.heap.get? b = some o
  sz : s₀.heap.objs.size ≤ s.heap.objs.size
  gens : s.gens = s₀.gens
  os : s.os = s₀.os
theorem Kept.refl (C I : Addr) (s : Shared) : Kept C I s s := ⟨fun _ _ _ _ e => e, Nat.le_refl _, rfl, rfl⟩
theorem Kept.step {C I : Addr} {s₀ s : Shared} (x : Kept C I s₀ s) {h' : Heap} {tk : Nat} (k : ∀ b o, b ≠ C → b ≠ I → s.heap.get? b = some o → h'.get? b = some o) (hsz : s.heap.objs.size ≤ h'.objs.size) : Kept C I s₀ { s with heap := h', toks := tk } :=
  ⟨fun b o h1 h2 e => k b o h1 h2 (x.keep b o h1 h2 e), Nat.le_trans x.sz hsz, x.gens, x.os⟩
/-- what the generator tells with a value, and what it wants before it goes on -/
def vproto (Z : Zp) (C I : Addr) (ps : List Nat) : Protocol := fun m s₀ v s kap =>
  (∃ i p t x, i + m + 1 = ps.length ∧ ps[i]? = some p ∧ v = .ref t ∧ s₀.heap.objs.size ≤ t ∧ s.heap.get? t = some (pairO x p) ∧ IsVal Z p x ∧ Kept C I s₀ s) ∧
    ∀ s'' : Shared, Sub Z s''.heap.get? → (∀ b, b = C ∨ b = I → ∀ o, s.heap.get? b = some o → s''.heap.get? b = some o) → kap (.send .none) s''
abbrev vend (C I : Addr) : GenEnd := fun n s₀ r s₁ => r = .ok .next ∧ (n = 0 ∧ Kept C I s₀ s₁ ∧ ∃ o, s₁.heap.get? (s₁.heap.objs.size - 1) = some o)

theorem seg_loop {p1 p2 p3 p4 p5 px pos : Pos} {k0 : Nat} {iter : Expr} {scope : Scope} {a I : Addr} {vs : List Value} {ps : List Nat} (hh : A.handled = none) (W : WZ w Z) (hl : lstZ Z a vs) (R : Rows2 (fun v p => IsVal Z p v) vs ps)
    (hzC : Z cenv.locals = none) (hzI : Z I = none) (hCI : cenv.locals ≠ I)
    (hk : cenv.scope.kind = .function) (hlo : cenv.kindOf (Str.ofString "p") = some .local) (ht : cenv.kindOf (Str.ofString "type") = some .globalImplicit) (hg : cenv.globals = mainGlobals) (hb : cenv.builtins = builtinsNs) (hco : cenv.scope.isCoroutine = false) :
    ∀ (k i : Nat) (s₀ s : Shared) (m : Str → Option Value), ps.length - i = k → i ≤ ps.length → s.heap.IsListIter I a i → s.heap.Ns cenv.locals m → Sub Z s.heap.get? → Kept cenv.locals I s₀ s →
      Seg (model prog w) A (vend cenv.locals I) (vproto Z cenv.locals I ps) k s₀
        (.compLoop (.GeneratorExp (.Tuple [.Name (Str.ofString "p") p1, .Call (.Name (Str.ofString "type") p2) [.Name (Str.ofString "p") p3] [] p4] k0 p5) [⟨.Name (Str.ofString "p") px, iter, [], 0⟩] scope pos) 0 (.ref I) .none cenv)
        ((model prog w).den (.compLoop (.GeneratorExp (.Tuple [.Name (Str.ofString "p") p1, .Call (.Name (Str.ofString "type") p2) [.Name (Str.ofString "p") p3] [] p4] k0 p5) [⟨.Name (Str.ofString "p") px, iter, [], 0⟩] scope pos) 0 (.ref I) .none cenv)) [] s := by
  have hp : (cenv.scope.kind == .class || (cenv.scope.kind == .module && cenv.locals != cenv.globals)) = false := by rw [hk]; rfl
  intro k
  induction k with
  | zero =>
    intro i s₀ s m hki hi hit hn hz S
    obtain ⟨nn, el⟩ := hl
    have hl0 : s.heap.IsList a vs.toArray := ⟨_, hz _ _ el, rfl, nn, rfl⟩
    show Seg _ A _ _ _ s₀ _ ((compTurn (.GeneratorExp _ [⟨.Name (Str.ofString "p") px, iter, [], 0⟩] scope pos) 0 (.ref I) .none cenv).onRaise (leaving cenv)) [] s
    rw [compTurn_gen, Sem.onRaise_eq_wrap]
    refine seg_bind_wrap (wpAny_standAt ?_)
    refine seg_bind_wrap ?_
    refine next_end' (Z := Z) (.inl hh) hz hzI hit hl0 (by simp; rw [R.length]; omega) fun h' hext hsz hlast => ?_
    exact seg_end (.ok .next) ⟨rfl, rfl, S.step (tk := s.toks) (fun b o _ h2 e => hext b o h2 e) hsz, hlast⟩
  | succ k ih =>
    intro i s₀ s m hki hi hit hn hz S
    obtain ⟨nn, el⟩ := hl
    have hl0 : s.heap.IsList a vs.toArray := ⟨_, hz _ _ el, rfl, nn, rfl⟩
    have hlt : i < vs.length := by rw [R.length]; omega
    obtain ⟨p, hpp, hpv⟩ := R.get i _ (List.getElem?_eq_getElem hlt)
    show Seg _ A _ _ _ s₀ _ ((compTurn (.GeneratorExp _ [⟨.Name (Str.ofString "p") px, iter, [], 0⟩] scope pos) 0 (.ref I) .none cenv).onRaise (leaving cenv)) [] s
    rw [compTurn_gen, Sem.onRaise_eq_wrap]
    refine seg_bind_wrap (wpAny_standAt ?_)
    refine seg_bind_wrap ?_
    refine wpAny_pyNext_list_item hit hl0 (x := vs[i]) (by simp [hlt]) fun h₁ hit₁ hs₁ => ?_
    refine seg_bind_wrap (wpAny_of_eq (rfl : letOwnedTupleGo (.Name (Str.ofString "p") px) (.ref I) vs[i] = pure ()) ?_)
    refine seg_bind_wrap (wpAny_assign_Name (wpAny_storeName_local hlo (hn.sameBut hs₁ hCI) (fun h₂ hn₂ hs₂ => ?_) hp))
    have hit₂ : h₂.IsListIter I a (i + 1) := by
      obtain ⟨o, ho, r⟩ := hit₁
      exact ⟨o, (hs₂.2 _ (Ne.symm hCI)).trans ho, r⟩
    have S2 : Kept cenv.locals I s₀ { s with heap := h₂, toks := s.toks + 1 } := S.step (fun b o h1 h2 e => (hs₂.2 b h1).trans ((hs₁.2 b h2).trans e)) (by rw [hs₂.1]; show _ ≤ h₁.objs.size; rw [hs₁.1]; exact Nat.le_refl _)
    have hz2 : Sub Z h₂.get? := fun b o e => (hs₂.2 b fun q => by rw [q, hzC] at e; cases e).trans ((hs₁.2 b fun q => by rw [q, hzI] at e; cases e).trans (hz b o e))
    refine seg_bind_wrap ?_
    refine wpAny_pure ?_
    simp only [if_true]
    have hy : ∀ v, yieldOut cenv v = yieldValue v := fun v => by simp only [yieldOut, hco, Bool.false_eq_true, if_false]
    simp only [hy]
    rw [Sem.bind_eq_wrap', Sem.bind_eq_wrap', Sem.wrap_wrap, Sem.wrap_wrap]
    refine seg_wrap ?_
    refine elt_gen (s := { s with heap := h₂, toks := s.toks + 1 }) W hz2 hn₂ (by simp) hpv hk hlo ht hg hb ?_
    have hkp : ∀ b o, h₂.get? b = some o → (h₂.push (pairO vs[i] p)).get? b = some o := fun b o e => Heap.get?_push_of_some _ e
    refine seg_at (seg_yield rfl rfl rfl ⟨⟨i, p, _, vs[i], by omega, hpp, rfl, S2.sz, Heap.get?_push_size _ rfl, hpv, S2.step (fun b o _ _ e => hkp b o e) (by rw [Heap.size_push]; exact Nat.le_succ _)⟩, fun s'' hzz hal => ?_⟩)
    refine seg_again rfl (ih (i + 1) s'' s'' (fun x => if x = Str.ofString "p" then some vs[i] else m x) (by omega) (by omega) ?_ ?_ hzz (Kept.refl _ _ _))
    · obtain ⟨o, ho, r⟩ := hit₂
      exact ⟨o, hal _ (.inr rfl) _ (hkp _ _ ho), r⟩
    · exact (hn₂.push _).at' fun o e => hal _ (.inl rfl) o e
end
end Mine

namespace Mine
open SeqAt MeetsSeq AutoSeq1

abbrev tabA : Addr := 38
/-- the table of the codes in _value_and_type_iter -/
def Tb (h : Heap) : Prop := ∃ ps, h.get? tabA = some (tabO ps) ∧ TriplesOk ps.toList
theorem Tb.stepW {W : Addr → Prop} {Z Z' : Zp} {s s' : Shared} (x : Tb s.heap) (S : StepW W Z s Z' s') (w : ¬ W tabA) : Tb s'.heap := by
  obtain ⟨ps, e, t⟩ := x
  obtain ⟨more, t', e'⟩ := (S.up tabA _ w e).2.2 ps rfl
  exact ⟨_, e', t' t⟩
theorem Tb.stepU {Z Z' : Zp} {s s' : Shared} (x : Tb s.heap) (S : StepU Z s Z' s') : Tb s'.heap := x.stepW S fun q => q
theorem Tb.lt {h : Heap} (x : Tb h) : tabA < h.objs.size := let ⟨_, e, _⟩ := x; Heap.lt_size e

section
variable {prog : Program} {w : World} {A : Around} {E : Value → Shared → Prop} {s : Shared} {Z : Zp} {cenv : Env}
theorem seg_start {p1 p2 p3 p4 p5 px pos : Pos} {k0 : Nat} {iter : Expr} {scope : Scope} {a I : Addr} {vs : List Value} {ps : List Nat} (hh : A.handled = none) (W : WZ w Z) (hl : lstZ Z a vs) (R : Rows2 (fun v p => IsVal Z p v) vs ps)
    (hzC : Z cenv.locals = none) (hzI : Z I = none) (hCI : cenv.locals ≠ I)
    (hk : cenv.scope.kind = .function) (hlo : cenv.kindOf (Str.ofString "p") = some .local) (ht : cenv.kindOf (Str.ofString "type") = some .globalImplicit) (hg : cenv.globals = mainGlobals) (hb : cenv.builtins = builtinsNs) (hco : cenv.scope.isCoroutine = false)
    (s : Shared) (m : Str → Option Value) (hz : Sub Z s.heap.get?) (hit : s.heap.IsListIter I a 0) (hn : s.heap.Ns cenv.locals m) :
    Seg (model prog w) A (vend cenv.locals I) (vproto Z cenv.locals I ps) ps.length s
        (.compStart (.GeneratorExp (.Tuple [.Name (Str.ofString "p") p1, .Call (.Name (Str.ofString "type") p2) [.Name (Str.ofString "p") p3] [] p4] k0 p5) [⟨.Name (Str.ofString "p") px, iter, [], 0⟩] scope pos) 0 (.ref I) .none cenv)
        ((model prog w).den (.compStart (.GeneratorExp (.Tuple [.Name (Str.ofString "p") p1, .Call (.Name (Str.ofString "type") p2) [.Name (Str.ofString "p") p3] [] p4] k0 p5) [⟨.Name (Str.ofString "p") px, iter, [], 0⟩] scope pos) 0 (.ref I) .none cenv)) [] s := by
  have loop := seg_loop (prog := prog) (p1 := p1) (p2 := p2) (p3 := p3) (p4 := p4) (p5 := p5) (px := px) (pos := pos) (k0 := k0) (iter := iter) (scope := scope) hh W hl R hzC hzI hCI hk hlo ht hg hb hco ps.length 0 s s m (Nat.sub_zero _) (Nat.zero_le _) hit hn hz (Kept.refl _ _ _)
  show Seg _ A _ _ _ s _ ((compStart (.GeneratorExp _ [⟨.Name (Str.ofString "p") px, iter, [], 0⟩] scope pos) 0 (.ref I) .none cenv).onRaise (leaving cenv)) [] s
  unfold compStart
  rw [Sem.onRaise_eq_wrap]
  show Seg _ A _ _ _ s _ ((ask >>= _).wrap _ _ _ _) [] s
  refine seg_bind_wrap (wpAny_askSetting ?_)
  split
  · exact seg_again rfl loop
  · first
      | exact seg_bind_wrap (wpAny_rule (seg_bind_wrap (wpAny_standAt (seg_bind_wrap (wpAny_pyIter_listiter hit (seg_again rfl loop))))))
      | (refine seg_bind_wrap (wpAny_rule ?_); show Seg _ A _ _ _ s _ ((standAt iter.pos >>= _).wrap _ _ _ _) [] s; exact seg_bind_wrap (wpAny_standAt (seg_bind_wrap (wpAny_pyIter_listiter hit (seg_again rfl loop)))))

/-- a generator of pairs, j of them given -/
def GSt (prog : Program) (w : World) (A : Around) (Z : Zp) (ga : Addr) (g : Nat) (C I : Addr) (ps : List Nat) (j : Nat) (s : Shared) : Prop :=
  s.heap.IsGen ga g ∧ ∃ gs, s.gens[g]? = some gs ∧ ∀ s'' : Shared, Sub Z s''.heap.get? → (∀ b, b = C ∨ b = I → ∀ o, s.heap.get? b = some o → s''.heap.get? b = some o) →
    gs.Goes (model prog w) A (vend C I) (vproto Z C I ps) (ps.length - j) (.send .none) s''

abbrev gsc : Scope := { kind := .function, names := [(Str.ofString ".0", .local), (Str.ofString "p", .local), (Str.ofString "type", .globalImplicit)], isGenerator := true, isCoroutine := false }
abbrev genObj (g : Nat) (t : Nat) (q : Str) : Obj := { cls := .type "generator", data := .fields #[.int g 0, .str (Str.ofString "<genexpr>") (t + 1), .str q (t + 1 + 1)] }
theorem vti_fin {p1 p2 p3 p4 p5 px pos : Pos} {k0 : Nat} {iter : Expr} {a I : Addr} {vs : List Value} {ps : List Nat} {s2 : Shared} {env : Env} {code : Value} {q : Str} {Q : Value → Shared → Prop} (W : WZ w Z) (henv : env.globals = mainGlobals)
    (hl : lstZ Z a vs) (R : Rows2 (fun v p => IsVal Z p v) vs ps) (S : StepU Z s Z s2) (hI0 : s.heap.objs.size ≤ I) (hI1 : I < s2.heap.objs.size) (hzI : Z I = none) (hit : s2.heap.IsListIter I a 0)
    (h : ∀ s' ga g C I, StepU Z s Z s' → s.heap.objs.size ≤ ga → s.heap.objs.size ≤ C → s.heap.objs.size ≤ I → Z ga = none → Z C = none → Z I = none → ga ≠ C → ga ≠ I → ga < s'.heap.objs.size → C < s'.heap.objs.size → I < s'.heap.objs.size →
      (∀ A' : Around, A'.handled = none → GSt prog w A' Z ga g C I ps 0 s') → Q (.ref ga) s') :
    ∀ h', h'.Ns s2.heap.objs.size (fun y => if y = (Str.ofString ".0") then some (.ref I) else none) → Heap.SameBut s2.heap.objs.size (s2.heap.push { cls := .type "frame", data := .dict #[] }) h' →
      Q (.ref h'.objs.size) { s2 with
        gens := s2.gens.push (.fresh (.compStart (.GeneratorExp (.Tuple [.Name (Str.ofString "p") p1, .Call (.Name (Str.ofString "type") p2) [.Name (Str.ofString "p") p3] [] p4] k0 p5) [⟨.Name (Str.ofString "p") px, iter, [], 0⟩] gsc pos) 0 (.ref I) .none (genEnv gsc [] s2.heap.objs.size code builtinsNs env))),
        toks := s2.toks + 1 + 1 + 1,
        heap := h'.push (genObj s2.gens.size s2.toks q) } := by
  intro h' hns hs
  have hsz : h'.objs.size = s2.heap.objs.size + 1 := by rw [hs.1, Heap.size_push]
  have hzC : Z s2.heap.objs.size = none := S.none_of_new
  have hk : ∀ b o, s2.heap.get? b = some o → h'.get? b = some o := fun b o e => hs.extBut b o (Nat.ne_of_lt (Heap.lt_size e)) (Heap.get?_push_of_some _ e)
  have hzg : Z h'.objs.size = none := by
    cases e : Z h'.objs.size with
    | none => rfl
    | some o =>
      have h1 : h'.objs.size < s2.heap.objs.size := Heap.lt_size (S.zh _ _ e)
      rw [hsz] at h1
      exact absurd (Nat.lt_of_succ_lt h1) (Nat.lt_irrefl _)
  have hk2 : ∀ b o, s2.heap.get? b = some o → (h'.push (genObj s2.gens.size s2.toks q)).get? b = some o := fun b o e => Heap.get?_push_of_some _ (hk b o e)
  have S3 : StepU Z s2 Z { s2 with
        gens := s2.gens.push (.fresh (.compStart (.GeneratorExp (.Tuple [.Name (Str.ofString "p") p1, .Call (.Name (Str.ofString "type") p2) [.Name (Str.ofString "p") p3] [] p4] k0 p5) [⟨.Name (Str.ofString "p") px, iter, [], 0⟩] gsc pos) 0 (.ref I) .none (genEnv gsc [] s2.heap.objs.size code builtinsNs env))),
        toks := s2.toks + 1 + 1 + 1,
        heap := h'.push (genObj s2.gens.size s2.toks q) } :=
    ⟨Sub.refl _, fun b o e => hk2 b o (S.zh b o e), UpTo.of_keeps fun b o _ e => hk2 b o e, fun _ _ e => e, by show _ ≤ (h'.push _).objs.size; rw [Heap.size_push, hsz]; omega, fun g => g.push rfl, rfl⟩
  have szs := S.sz
  refine h _ h'.objs.size s2.gens.size s2.heap.objs.size I (S.trans S3) (by omega) szs hI0 hzg hzC hzI (by rw [hsz]; exact Nat.succ_ne_self _) (Nat.ne_of_gt (by rw [hsz]; exact Nat.lt_succ_of_lt hI1)) (by show _ < (h'.push _).objs.size; rw [Heap.size_push]; exact Nat.lt_succ_self _) (by show _ < (h'.push _).objs.size; rw [Heap.size_push, hsz]; exact Nat.lt_succ_of_lt (Nat.lt_succ_self _))
    (by show I < (h'.push _).objs.size; rw [Heap.size_push, hsz]; exact Nat.lt_succ_of_lt (Nat.lt_succ_of_lt hI1)) fun A' hA' => ?_
  refine ⟨⟨_, _, _, Heap.get?_push_size _ rfl, rfl, rfl, rfl⟩, _, Array.getElem?_push_size, fun s'' hzz hal => ⟨rfl, ?_⟩⟩
  refine seg_start (prog := prog) (cenv := genEnv gsc [] s2.heap.objs.size code builtinsNs env) hA' W hl R hzC hzI (Nat.ne_of_gt hI1) rfl rfl rfl henv rfl rfl s'' (fun y => if y = (Str.ofString ".0") then some (.ref I) else none) hzz ?_ ?_
  · obtain ⟨o, ho, r⟩ := hit
    exact ⟨o, hal _ (.inr rfl) _ (hk2 _ _ ho), r⟩
  · exact (hns.push _).at' fun o e => hal _ (.inl rfl) o e

/-- _value_and_type_iter -/
theorem vti {a : Addr} {vs : List Value} {ps : List Nat} {Q : Value → Shared → Prop} (W : WZ w Z) (hz : Sub Z s.heap.get?) (hn : A.handled = none) (hd : A.depth + 2 < recursionLimit)
    (zt : Z tabA = none) (tb : Tb s.heap) (hl : lstZ Z a vs) (R : Rows2 (fun v p => IsVal Z p v) vs ps)
    (h : ∀ s' ga g C I, StepU Z s Z s' → s.heap.objs.size ≤ ga → s.heap.objs.size ≤ C → s.heap.objs.size ≤ I → Z ga = none → Z C = none → Z I = none → ga ≠ C → ga ≠ I → ga < s'.heap.objs.size → C < s'.heap.objs.size → I < s'.heap.objs.size →
      (∀ A' : Around, A'.handled = none → GSt prog w A' Z ga g C I ps 0 s') → Q (.ref ga) s') :
    wpAny (model prog w) A (call (.ref 43) [.ref a] []) Q E s := by
  refine' call_fn (binds := [(Str.ofString "parameters", .ref a)]) (W.at hz) (by omega) ?ho ?hcd (BindsTo.of_eq ?hb) ?_ ?hloc ?hcell ?hco ?hgen ?hk
  case ho => exact rfl
  case hcd => exact rfl
  case hb => exact rfl
  case hloc => exact locs rfl
  case hcell => decide
  case hco => rfl
  case hgen => rfl
  case hk => rfl
  intro h' hns hk hsz'
  have x0 := At.enter (t := s.toks + 1) hz hns hk hsz'
  have tb0 : Tb h' := tb.stepU x0.st
  refine wpAny_execs_cons ?_
  refine wpAny_Return_some ?_
  refine wpAny_GeneratorExp_make (cl := []) rfl rfl (by decide) rfl rfl (by show A.depth + 1 < _; omega) ?_ (fun x => rfl)
  refine ld_loc (v := .ref a) x0.ns rfl ?_
  obtain ⟨nn, el⟩ := id hl
  refine wpAny_pyIter_list (items := vs.toArray) ⟨_, x0.st.zh _ _ el, rfl, nn, rfl⟩ ?_
  have hzI : Z h'.objs.size = none := x0.st.none_of_new
  have x1 : At Z s s.heap.objs.size _ Z { s with heap := h'.push { cls := .type "list_iterator", data := .fields #[.ref a, .int 0 0] }, toks := s.toks + 1 } := x0.step ((Step.refl x0.st.zh).pushM (tk := s.toks + 1))
  refine ⟨(W.at x1.st.zh).nolimit, ?_⟩
  have tb1 : Tb (h'.push { cls := .type "list_iterator", data := .fields #[.ref a, .int 0 0] }) := tb.stepU x1.st
  obtain ⟨cs, hcs, htr⟩ := tb1
  have hcode : (h'.push { cls := .type "list_iterator", data := .fields #[.ref a, .int 0 0] }).IsCode 42 tabA cs :=
    ⟨_, _, _, _, _, _, _, _, _, _, (W.at x1.st.zh).kin 42 _ rfl, rfl, rfl, rfl, rfl, rfl, rfl, hcs, rfl, htr, by decide⟩
  have htab : (h'.push { cls := .type "list_iterator", data := .fields #[.ref a, .int 0 0] }).TableAt 42 tabA cs := ⟨⟨_, _, (W.at x1.st.zh).kin 42 _ rfl, rfl, rfl, rfl⟩, hcs⟩
  have hI1 : h'.objs.size < (h'.push { cls := .type "list_iterator", data := .fields #[.ref a, .int 0 0] }).objs.size := by rw [Heap.size_push]; exact Nat.lt_succ_self _
  have hit1 : (h'.push { cls := .type "list_iterator", data := .fields #[.ref a, .int 0 0] }).IsListIter h'.objs.size a 0 := ⟨_, Heap.get?_push_size _ rfl, rfl, rfl⟩
  cases hf : codeAmong (⟨26, 11, 26, 45⟩ : Pos) cs.toList with
  | none =>
    refine wpAny_genexprCodeX (c := 42) (P := tabA) rfl hcode htab hf fun c' h2 tk hext hge hlt hcode2 _ htab2 _ => ?_
    have hsz2 : (h'.push { cls := .type "list_iterator", data := .fields #[.ref a, .int 0 0] }).objs.size ≤ h2.objs.size := Nat.le_trans hge (Nat.le_of_lt hlt)
    have S2 : StepU Z { s with heap := h'.push { cls := .type "list_iterator", data := .fields #[.ref a, .int 0 0] }, toks := s.toks + 1 } Z { s with heap := h2, toks := tk } := by
      refine ⟨Sub.refl _, fun b o e => hext b o (fun q => by rw [q, zt] at e; cases e) (x1.st.zh b o e), fun b o _ e => ?_, fun _ _ e => e, hsz2, id, rfl⟩
      by_cases hb : b = tabA
      · subst hb
        have eo : o = tabO cs := Option.some.inj (e.symm.trans hcs)
        subst eo
        refine ⟨fun es n hd => (by cases hd), fun hc => absurd rfl hc, fun ps hp => ?_⟩
        have hp' : cs = ps := by simpa using hp
        subst hp'
        refine ⟨_, fun _ => ?_, htab2.2⟩
        obtain ⟨_, _, _, _, _, _, _, _, _, op, _, _, _, _, _, _, _, hop, hpd, ht, _⟩ := hcode2
        rw [htab2.2] at hop
        cases hop
        cases hpd
        exact ht
      · exact ⟨fun _ _ _ => ⟨o.slots, hext b o hb e⟩, fun _ _ => hext b o hb e, fun ps hp => ⟨#[], fun t => by simpa using t, by rw [hext b o hb e, hp]; simp⟩⟩
    have S3 := x1.st.trans S2
    obtain ⟨mg, bm, ob, B⟩ := (W.at S3.zh).bm
    refine wpAny_builtinsFor (s := { s with heap := h2, toks := tk }) B.ns B.name B.ne B.obj B.cls B.dict B.data ?_
    refine vti_fin (s := s) (s2 := { s with heap := h2, toks := tk }) W rfl hl R S3 (Nat.le_of_lt hsz') (Nat.lt_of_lt_of_le hI1 hsz2) hzI ?_ h
    obtain ⟨o, ho, r⟩ := hit1
    refine ⟨o, hext _ _ (fun q => ?_) ho, r⟩
    have h1 : tabA < h'.objs.size := tb0.lt
    exact absurd (q ▸ h1) (Nat.lt_irrefl _)
  | some c' =>
    refine wpAny_genexprCode_hit (c := 42) (P := tabA) rfl hcode hf ?_
    obtain ⟨mg, bm, ob, B⟩ := (W.at x1.st.zh).bm
    refine wpAny_builtinsFor B.ns B.name B.ne B.obj B.cls B.dict B.data ?_
    exact vti_fin (s := s) (s2 := { s with heap := h'.push { cls := .type "list_iterator", data := .fields #[.ref a, .int 0 0] }, toks := s.toks + 1 }) W rfl hl R x1.st (Nat.le_of_lt hsz') hI1 hzI hit1 h
end
end Mine

namespace Mine
open SeqAt MeetsSeq AutoSeq1

theorem bare_set {s : Shared} {g : Nat} {x : GenState} (h : AllBare s.gens) (hx : x.bare = true) : AllBare (s.setGen g x).gens := by
  intro y hy
  rcases Array.mem_or_eq_of_mem_setIfInBounds hy with h' | h'
  · exact h y h'
  · rw [h']; exact hx

section
variable {prog : Program} {w : World} {A : Around} {E : Value → Shared → Prop} {s : Shared} {Z : Zp}

theorem gen_loop {ga C I S : Addr} {g : Nat} {ps : List Nat} {s0 : Shared} {res : Value} {R : Result → Shared → Prop} (W : WZ w Z) (hn : A.handled = none) (hd : A.depth < recursionLimit)
    (hga : Z ga = none) (hC : Z C = none) (hI : Z I = none) (hgC : ga ≠ C) (hgI : ga ≠ I) (hga0 : ga < s0.heap.objs.size) (hC0 : C < s0.heap.objs.size) (hI0 : I < s0.heap.objs.size) (hS0 : s0.heap.objs.size ≤ S) (hzS : Z S = none) (hlen : ps.length ≤ 1000000)
    (fin : ∀ s' Z' acc c, StepW (WG C I) Z s0 Z' s' → Z' S = none → s'.heap.get? S = some (lobj acc c) → Rows2 (fun v p => IsPair Z' p v) acc ps → R (.ok (.ret res)) s') (k : Nat) :
    ∀ (j : Nat) (s : Shared) (Zc : Zp) (acc : List Value) (c : Nat), ps.length - j = k → j ≤ ps.length → StepW (WG C I) Z s0 Zc s → Zc S = none → S < s.heap.objs.size → GSt prog w A.in1.in1 Z ga g C I ps j s →
      s.heap.get? S = some (lobj acc c) → Rows2 (fun v p => IsPair Zc p v) acc (ps.take j) → codeAny (model prog w) A (.builtin "list.extend.loop" ⟨[.ref S, .ref ga, res], []⟩) R s := by
  have hSC : S ≠ C := Nat.ne_of_gt (Nat.lt_of_lt_of_le hC0 hS0)
  have hSI : S ≠ I := Nat.ne_of_gt (Nat.lt_of_lt_of_le hI0 hS0)
  have hSg : S ≠ ga := Nat.ne_of_gt (Nat.lt_of_lt_of_le hga0 hS0)
  induction k with
  | zero =>
    intro j s Zc acc c hk hj St hzs hSlt G hS hR
    obtain ⟨hgen, gs, hgs, hgo⟩ := G
    refine codeAny_builtin F.entry_extend_loop ?_
    rw [Around.under_plainId F.plain_extend_loop _]
    show wpAny _ A.in1 (pyNext (.ref ga) >>= _) _ _ s
    refine wpAny_bind ?_
    have hj' : ps.length - j = 0 := hk
    rw [hj'] at hgo
    refine wpAny_pyNext_genexpQ (n := 0) (P := fun n s₀ s₁ => n = 0 ∧ Kept C I s₀ s₁ ∧ ∃ o, s₁.heap.get? (s₁.heap.objs.size - 1) = some o) (Y := vproto Z C I ps) hn ((W.mono St.zz).at St.zh).nolimit hd hgen hgs (hgo (s.setGen g .running) (fun b o e => St.zh b o (St.zz b o e)) fun b _ o e => e) (fun v s₁ gs' hb hv => ?_) (fun s₁ hp h' hk' => ?_)
    · obtain ⟨⟨i, p, t, x, _, _, _, _, _, _, K⟩, hkap⟩ := hv
      exact False.elim (hkap s₁ (fun b o e => K.keep b o (fun q => by rw [q, hC] at e; cases e) (fun q => by rw [q, hI] at e; cases e) (St.zh b o (St.zz b o e))) fun _ _ _ e => e)
    · obtain ⟨_, K, o', ho'⟩ := hp
      refine wpAny_pure ?_
      have hkk : ∀ b o, b ≠ C → b ≠ I → s.heap.get? b = some o → h'.get? b = some o := fun b o h1 h2 e => hk' b o (K.keep b o h1 h2 e)
      have hsz : s.heap.objs.size ≤ h'.objs.size := by
        have h1 : s₁.heap.objs.size - 1 < h'.objs.size := Heap.lt_size (hk' _ _ ho')
        have h2 : s.heap.objs.size ≤ s₁.heap.objs.size := K.sz
        omega
      have hg1 : s₁.gens = (s.setGen g .running).gens := K.gens
      have ho1 : s₁.os = s.os := K.os
      have hzc : ∀ b, (b = C ∨ b = I) → Zc b = none := fun b hb => hb.elim (fun q => q ▸ St.old _ hC0 hC) fun q => q ▸ St.old _ hI0 hI
      have S' : StepW (WG C I) Zc s Zc { s₁.setGen g .finished with heap := h' } :=
        ⟨Sub.refl _, fun b o e => hkk b o (fun q => by rw [hzc b (.inl q)] at e; cases e) (fun q => by rw [hzc b (.inr q)] at e; cases e) (St.zh b o e),
          UpTo.of_keeps fun b o hw e => hkk b o (fun q => hw (.inl q)) (fun q => hw (.inr q)) e, fun _ _ e => e, hsz,
          fun gb => bare_set (by rw [hg1]; exact bare_set gb rfl) rfl, ho1⟩
      rw [List.take_of_length_le (by omega)] at hR
      exact fin _ Zc acc c (St.trans S') hzs (hkk _ _ hSC hSI hS) hR
  | succ k ih =>
    intro j s Zc acc c hk hj St hzs hSlt G hS hR
    obtain ⟨hgen, gs, hgs, hgo⟩ := G
    refine codeAny_builtin F.entry_extend_loop ?_
    rw [Around.under_plainId F.plain_extend_loop _]
    show wpAny _ A.in1 (pyNext (.ref ga) >>= _) _ _ s
    refine wpAny_bind ?_
    rw [hk] at hgo
    refine wpAny_pyNext_genexpQ (n := k + 1) (P := fun n s₀ s₁ => n = 0 ∧ Kept C I s₀ s₁ ∧ ∃ o, s₁.heap.get? (s₁.heap.objs.size - 1) = some o) (Y := vproto Z C I ps) hn ((W.mono St.zz).at St.zh).nolimit hd hgen hgs (hgo (s.setGen g .running) (fun b o e => St.zh b o (St.zz b o e)) fun b _ o e => e) (fun v s₁ gs' hb hv => ?_) (fun s₁ hp h' hk' => absurd hp.1 (Nat.succ_ne_zero k))
    obtain ⟨⟨i, p, t, x, hi, hp, rfl, ht, hto, hx, K⟩, hkap⟩ := hv
    have hij : i = j := by omega
    subst hij
    have hzc : ∀ b, (b = C ∨ b = I) → Zc b = none := fun b hb => hb.elim (fun q => q ▸ St.old _ hC0 hC) fun q => q ▸ St.old _ hI0 hI
    have hg1 : s₁.gens = (s.setGen g .running).gens := K.gens
    have ho1 : s₁.os = s.os := K.os
    have hkk : ∀ b o, b ≠ C → b ≠ I → s.heap.get? b = some o → s₁.heap.get? b = some o := fun b o h1 h2 e => K.keep b o h1 h2 e
    have S1 : StepW (WG C I) Zc s Zc (s₁.setGen g gs') :=
      ⟨Sub.refl _, fun b o e => hkk b o (fun q => by rw [hzc b (.inl q)] at e; cases e) (fun q => by rw [hzc b (.inr q)] at e; cases e) (St.zh b o e),
        UpTo.of_keeps fun b o hw e => hkk b o (fun q => hw (.inl q)) (fun q => hw (.inr q)) e, fun _ _ e => e, K.sz,
        fun gb => bare_set (by rw [hg1]; exact bare_set gb rfl) hb, ho1⟩
    have ht' : s.heap.objs.size ≤ t := ht
    have hzt : Zc t = none := by
      cases e : Zc t with
      | none => rfl
      | some o' => exact absurd (Heap.lt_size (St.zh _ _ e)) (Nat.not_lt.mpr ht')
    have S2 : StepW (WG C I) Zc s (put Zc t (pairO x p)) (s₁.setGen g gs') := S1.freeze ht' hto hzt
    have hS1 : s₁.heap.get? S = some (lobj acc c) := hkk _ _ hSC hSI hS
    have hal : acc.length ≤ 1000000 := by
      have h1 := hR.length
      simp at h1
      omega
    have tS : t ≠ S := Nat.ne_of_gt (Nat.lt_of_lt_of_le hSlt ht')
    show wpAny _ A.in1 (updateSeq S (·.push (.ref t)) >>= _) _ _ _
    refine wpAny_bind ?_
    refine wpAny_updateSeq (s := s₁.setGen g gs') hS1 rfl ?_ (by rw [sizeLine_eq]; simp; omega) (by rw [sizeLine_eq]; simp; omega)
    have hS2 : (s₁.heap.update S (Obj.mapSeq (·.push (.ref t)))).get? S = some (lobj (acc ++ [.ref t]) (c + 1)) := by
      rw [Heap.get?_update_self _ hS1 rfl]
      simp [Obj.mapSeq]
    have hzs' : (put Zc t (pairO x p)) S = none := by rw [put_ne _ (Ne.symm tS)]; exact hzs
    have St3 : StepW (WG C I) Z s0 (put Zc t (pairO x p)) { s₁.setGen g gs' with heap := s₁.heap.update S (Obj.mapSeq (·.push (.ref t))), toks := s₁.toks } := (St.trans S2).updNew (t := s₁.toks) hS0 hzs' (Heap.SameBut.update ..)
    refine wpAny_pure ⟨plainId_quiet F.plain_extend_loop _, ih (i + 1) _ (put Zc t (pairO x p)) (acc ++ [Value.ref t]) (c + 1) (by omega) (by omega) St3 hzs' ?_ ?_ hS2 ?_⟩
    · show S < (Heap.update ..).objs.size
      rw [Heap.size_after_update]
      exact Heap.lt_size hS1
    · have hu : ∀ b o, b ≠ S → s₁.heap.get? b = some o → (s₁.heap.update S (Obj.mapSeq (·.push (Value.ref t)))).get? b = some o := fun b o hb e => (Heap.get?_update_other _ _ (Ne.symm hb)).trans e
      refine ⟨?_, gs', ?_, fun s'' hzz hal' => ?_⟩
      · obtain ⟨o, nm, qn, ho, r⟩ := hgen
        exact ⟨o, nm, qn, hu _ _ (Ne.symm hSg) (hkk _ _ hgC hgI ho), r⟩
      · have : s₁.gens[g]? = some .running := by rw [hg1]; exact setGen_self hgs
        exact setGen_self this
      · have e : ps.length - (i + 1) = k := by omega
        rw [e]
        exact hkap s'' hzz fun b hb o e => hal' b hb o (hu b o (fun q => hb.elim (fun r => hSC (q ▸ r)) fun r => hSI (q ▸ r)) e)
    · have et : ps.take (i + 1) = ps.take i ++ [p] := by rw [List.take_add_one, hp]; rfl
      rw [et]
      exact (hR.mono fun _ _ y => y.mono (Sub.put hzt)).snoc ⟨t, x, rfl, ⟨0, put_self _ _ _⟩, (hx.mono St.zz).mono (Sub.put hzt)⟩

/-- list of the generator -/
theorem list_gen {ga C I : Addr} {g : Nat} {ps : List Nat} {Q : Value → Shared → Prop} (W : WZ w Z) (hz : Sub Z s.heap.get?) (hn : A.handled = none) (hd : A.depth < recursionLimit)
    (hga : Z ga = none) (hC : Z C = none) (hI : Z I = none) (hgC : ga ≠ C) (hgI : ga ≠ I) (hga0 : ga < s.heap.objs.size) (hC0 : C < s.heap.objs.size) (hI0 : I < s.heap.objs.size) (hlen : ps.length ≤ 1000000)
    (G : ∀ A' : Around, A'.handled = none → GSt prog w A' Z ga g C I ps 0 s)
    (h : ∀ s' Z' c us, StepW (WG C I) Z s Z' s' → lstZ Z' c us → Rows2 (fun v p => IsPair Z' p v) us ps → Q (.ref c) s') : wpAny (model prog w) A (call (.type "list") [.ref ga]) Q E s := by
  have hne : ga ≠ s.heap.objs.size := Nat.ne_of_lt hga0
  have hzS : Z s.heap.objs.size = none := (Step.refl hz).none_of_new
  refine callType_codes (Q₁ := fun obj s₁ => obj = .ref s.heap.objs.size ∧ s₁ = { s with heap := s.heap.push { cls := .type "list", data := .seq #[] } }) F.called_list (F.typeCall_list_1 _) F.entry_list_init
    (code_list_new _ ⟨rfl, rfl⟩) fun obj s₁ h₁ => ?_
  obtain ⟨rfl, rfl⟩ := h₁
  have hS : (s.heap.push { cls := .type "list", data := .seq #[] }).get? s.heap.objs.size = some { cls := .type "list", data := .seq #[] } := Heap.get?_push_size _ rfl
  have S1 : StepW (WG C I) Z s Z { s with heap := s.heap.push { cls := .type "list", data := .seq #[] }, toks := s.toks } := ((Step.refl hz).pushM (tk := s.toks)).toW
  refine ⟨⟨_, hS, rfl⟩, F.args_list_init_2 _ _, ?_⟩
  show wpAny _ _ (do let old ← Builtin.List.listItems (.ref s.heap.objs.size); Builtin.List.listUpdate (.ref s.heap.objs.size) (fun _ => #[]); letGo old.toList.reverse; Builtin.List.listExtendWith (.ref s.heap.objs.size) (.ref ga) .none) _ _ _
  refine wpAny_bind ?_
  unfold Builtin.List.listItems
  refine wpAny_bind (wpAny_seqItems hS rfl (wpAny_pure ?_))
  show wpAny _ _ (updateSeq s.heap.objs.size (fun _ => #[]) >>= fun _ => letGo (#[] : Array Value).toList.reverse >>= fun _ => Builtin.List.listExtendWith (.ref s.heap.objs.size) (.ref ga) .none) _ _ _
  refine wpAny_bind (wpAny_updateSeq hS rfl ?_)
  have hS₂ := Heap.get?_update_self (Obj.mapSeq (fun _ => (#[] : Array Value))) hS rfl
  refine wpAny_bind (wpAny_letGo ?_)
  have S2 := S1.updNew (t := s.toks) (Nat.le_refl _) hzS (Heap.SameBut.update (s.heap.push { cls := .type "list", data := .seq #[] }) s.heap.objs.size (Obj.mapSeq (fun _ => (#[] : Array Value))))
  obtain ⟨hgen, gs, hgs, hgo⟩ := G A.in1.in1.in1 hn
  have hT : ∀ h' : Heap, (∀ b o, b ≠ s.heap.objs.size → s.heap.get? b = some o → h'.get? b = some o) → h'.IsGen ga g := fun h' hk => by
    obtain ⟨o, nm, qn, ho, r⟩ := hgen
    exact ⟨o, nm, qn, hk _ _ hne ho, r⟩
  have oth2 : ∀ b o, b ≠ s.heap.objs.size → s.heap.get? b = some o → ((s.heap.push { cls := .type "list", data := .seq #[] }).update s.heap.objs.size (Obj.mapSeq (fun _ => (#[] : Array Value)))).get? b = some o :=
    fun b o hb e => (Heap.get?_update_other _ _ (Ne.symm hb)).trans (Heap.get?_push_of_some _ e)
  unfold Builtin.List.listExtendWith
  refine wpAny_bind (wpAny_typeOf (hT _ oth2).typeIs ?_)
  have h1 : Builtin.List.listSameRef (.ref s.heap.objs.size) (.ref ga) = false := by simp [Builtin.List.listSameRef, Ne.symm hne]
  have h2 : (Value.type "generator" == Value.type "list") = false := by decide
  have h3 : (Value.type "generator" == Value.type "tuple") = false := by decide
  simp only [h1, h2, h3, Bool.or_false, Bool.false_eq_true, if_false]
  refine wpAny_bind (wpAny_pyIter_gen (hT _ oth2) ?_)
  refine wpAny_bind (wpAny_holding ?_)
  unfold Builtin.List.listLengthHint
  refine wpAny_bind (wpAny_specialOf (hT _ oth2).typeIs F.gen_no_len ?_)
  show wpAny _ _ (specialOf (Value.ref ga) (Str.ofString "__length_hint__") >>= _) _ _ _
  refine wpAny_bind (wpAny_specialOf (hT _ oth2).typeIs F.gen_no_hint ?_)
  refine wpAny_pure ?_
  show wpAny _ _ (rule "list.extend.makes-room" >>= fun _ => Builtin.List.listTouch (.ref s.heap.objs.size) >>= fun _ =>
    again (.builtin "list.extend.loop" ⟨[.ref s.heap.objs.size, .ref ga, .none], []⟩)) _ _ _
  refine wpAny_bind (wpAny_rule ?_)
  refine wpAny_bind ?_
  show wpAny _ _ (updateSeq s.heap.objs.size (·.push .none) >>= fun _ => updateSeq s.heap.objs.size (·.pop)) _ _ _
  refine wpAny_bind (wpAny_updateSeq hS₂ rfl ?_)
  have hS₃ := Heap.get?_update_self (Obj.mapSeq (·.push Value.none)) hS₂ rfl
  refine wpAny_updateSeq (hz := by seq_fits) hS₃ rfl ?_
  have hS₄ := Heap.get?_update_self (Obj.mapSeq (·.pop)) hS₃ rfl
  have S3 := S2.updNew (t := s.toks) (Nat.le_refl _) hzS (Heap.SameBut.update ((s.heap.push { cls := .type "list", data := .seq #[] }).update s.heap.objs.size (Obj.mapSeq (fun _ => (#[] : Array Value)))) s.heap.objs.size (Obj.mapSeq (·.push Value.none)))
  have S4 := S3.updNew (t := s.toks) (Nat.le_refl _) hzS (Heap.SameBut.update (((s.heap.push { cls := .type "list", data := .seq #[] }).update s.heap.objs.size (Obj.mapSeq (fun _ => (#[] : Array Value)))).update s.heap.objs.size (Obj.mapSeq (·.push Value.none))) s.heap.objs.size (Obj.mapSeq (·.pop)))
  have oth4 : ∀ b o, b ≠ s.heap.objs.size → s.heap.get? b = some o → ((((s.heap.push { cls := .type "list", data := .seq #[] }).update s.heap.objs.size (Obj.mapSeq (fun _ => (#[] : Array Value)))).update s.heap.objs.size (Obj.mapSeq (·.push Value.none))).update s.heap.objs.size (Obj.mapSeq (·.pop))).get? b = some o :=
    fun b o hb e => (Heap.get?_update_other _ _ (Ne.symm hb)).trans ((Heap.get?_update_other _ _ (Ne.symm hb)).trans (oth2 b o hb e))
  refine wpAny_pure ⟨plainId_quiet F.plain_extend_loop _, gen_loop (A := A.in1) (g := g) (Z := Z) (s0 := s) W hn hd hga hC hI hgC hgI hga0 hC0 hI0 (Nat.le_refl _) hzS hlen (fun s' Z' acc c S' hzS' ho r => ?_) ps.length 0 _ Z [] _ (by omega) (Nat.zero_le _) S4 hzS (Heap.lt_size hS₄) ?_ hS₄ .nil⟩
  · refine ⟨rfl, h s' (put Z' s.heap.objs.size (lobj acc c)) s.heap.objs.size acc (S'.freeze (Nat.le_refl _) ho hzS') ⟨c, put_self _ _ _⟩ (r.mono fun _ _ y => y.mono (Sub.put hzS'))⟩
  · exact ⟨hT _ oth4, gs, hgs, fun s'' hzz hal => hgo s'' hzz fun b hb o e => hal b hb o (oth4 b o (hb.elim (fun q => q ▸ Nat.ne_of_lt hC0) fun q => q ▸ Nat.ne_of_lt hI0) e)⟩
end
end Mine

namespace Mine
open SeqAt MeetsSeq AutoSeq1

section
variable {prog : Program} {w : World} {A : Around} {E : Value → Shared → Prop} {s : Shared} {Z : Zp} {env : Env}

/-- the block of a list comprehension over a list that stays -/
theorem comp_block {elt iter : Expr} {x : Str} {px : Pos} {scope : Scope} {pos : Pos} {ax : Addr} {vs : List Value} {RR : Value → Env → Result → Shared → Prop} (P : Nat → Zp → Value → Prop) (mono : ∀ i Z Z' y, Sub Z Z' → P i Z y → P i Z' y)
    (hok : HOk A Z) (hz : Sub Z s.heap.get?) (hl : lstZ Z ax vs) (hlen : vs.length ≤ 1000000)
    (hcell : ∀ y ∈ scope.names, y.2 ≠ .cell) (hkind : scope.kind = .function) (hx : scope.names.lookup x = some .local)
    (turn : ∀ i v Z1 (s1 : Shared) m1 C (E' : Value → Shared → Prop), vs[i]? = some v → StepU Z s Z1 s1 → s1.heap.Ns C m1 → m1 x = some v → ∀ Q' : Value → Shared → Prop, (∀ s2 Z2 y, StepU Z1 s1 Z2 s2 → P i Z2 y → Q' y s2) → wpAny (model prog w) A (eval elt (compEnv scope C env)) Q' E' s1)
    (fin : ∀ s' Z' D C m' us, StepU Z s Z' s' → lstZ Z' D us → us.length = vs.length → (∀ i y, us[i]? = some y → P i Z' y) → s'.heap.Ns C m' → Z' C = none → s.heap.objs.size ≤ C → RR (.ref D) (compEnv scope C env) (.ok .next) s') :
    wpAny (model prog w) A (pyIter (.ref ax)) (fun it s₂ => wpAny (model prog w) A (newList []) (fun acc s₃ =>
      wpAny (model prog w) A (newFunctionEnv scope env.globals [] [] env.qual none .none (some env)) (fun cenv s₄ =>
        codeAny (model prog w) A (.compStart (.ListComp elt [⟨.Name x px, iter, [], 0⟩] scope pos) 0 it acc { cenv with scope := scope }) (RR acc { cenv with scope := scope }) s₄) E s₃) E s₂) E s := by
  obtain ⟨nn, el⟩ := hl
  refine wpAny_pyIter_list (items := vs.toArray) ⟨_, hz _ _ el, rfl, nn, rfl⟩ (wpAny_newObj_type (hd := by size_fits) (wpAny_newFunctionEnv hcell (by intro y hy; simp at hy) (fun h₁ hns₁ hsb₁ => ?_) hkind))
  dsimp only at hns₁ hsb₁ ⊢
  generalize hH1 : s.heap.push { cls := .type "list_iterator", data := .fields #[.ref ax, .int 0 0] } = H1 at hns₁ hsb₁ ⊢
  have hD : H1.objs.size = s.heap.objs.size + 1 := by rw [← hH1, Heap.size_push]
  generalize hH2 : H1.push { cls := .type "list", dict := none, data := .seq ([] : List Value).toArray } = H2 at hns₁ hsb₁ ⊢
  have hC : H2.objs.size = s.heap.objs.size + 2 := by rw [← hH2, Heap.size_push, hD]
  have hDI : H1.objs.size ≠ s.heap.objs.size := by rw [hD]; exact Nat.succ_ne_self _
  have hDC : H1.objs.size ≠ H2.objs.size := by rw [hD, hC]; exact Nat.ne_of_lt (Nat.lt_succ_self _)
  have hIC : s.heap.objs.size ≠ H2.objs.size := by rw [hC]; exact Nat.ne_of_lt (Nat.lt_succ_of_lt (Nat.lt_succ_self _))
  have hsz1 : h₁.objs.size = s.heap.objs.size + 3 := by rw [hsb₁.1, Heap.size_push, hC]
  have old : ∀ b o, s.heap.get? b = some o → h₁.get? b = some o := fun b o e =>
    hsb₁.extBut b o (by have := Heap.lt_size e; rw [hC]; exact Nat.ne_of_lt (Nat.lt_succ_of_lt (Nat.lt_succ_of_lt this))) (Heap.get?_push_of_some _ (hH2 ▸ Heap.get?_push_of_some _ (hH1 ▸ Heap.get?_push_of_some _ e)))
  have hit : h₁.IsListIter s.heap.objs.size ax 0 :=
    ⟨_, hsb₁.extBut _ _ hIC (Heap.get?_push_of_some _ (hH2 ▸ Heap.get?_push_of_some _ (hH1 ▸ Heap.get?_push_size _ rfl))), rfl, rfl⟩
  have hacc : h₁.get? H1.objs.size = some (lobj [] 0) := hsb₁.extBut _ _ hDC (Heap.get?_push_of_some _ (hH2 ▸ Heap.get?_push_size _ rfl))
  have S0 : StepU Z s Z { s with heap := h₁, toks := s.toks + ([] : List (Str × Value)).length } := ((Step.refl hz).keeps old (by rw [hsz1]; omega)).toW
  have znew : ∀ b, s.heap.objs.size ≤ b → Z b = none := fun b hb => by
    cases e : Z b with
    | none => rfl
    | some o => exact absurd (Heap.lt_size (hz _ _ e)) (Nat.not_lt.mpr hb)
  have hI0 : s.heap.objs.size ≤ s.heap.objs.size := Nat.le_refl _
  have hD0 : s.heap.objs.size ≤ H1.objs.size := by rw [hD]; exact Nat.le_succ _
  have hC0 : s.heap.objs.size ≤ H2.objs.size := by rw [hC]; exact Nat.le_add_right _ _
  have loop : ∀ s₂ : Shared, s₂ = { s with heap := h₁, toks := s.toks + ([] : List (Str × Value)).length } →
      codeAny (model prog w) A (.compLoop (.ListComp elt [⟨.Name x px, iter, [], 0⟩] scope pos) 0 (.ref s.heap.objs.size) (.ref H1.objs.size) (compEnv scope H2.objs.size env))
        (RR (.ref H1.objs.size) (compEnv scope H2.objs.size env)) s₂ := by
    rintro s₂ rfl
    refine codeAny_compLoop_list (fun n s1 => ∃ i Z1 us c m1, i + n = vs.length ∧ StepU Z s Z1 s1 ∧ s1.heap.IsListIter s.heap.objs.size ax i ∧ s1.heap.Ns H2.objs.size m1 ∧ s1.heap.get? H1.objs.size = some (lobj us c) ∧ us.length = i ∧ (∀ i y, us[i]? = some y → P i Z1 y) ∧
      Z1 s.heap.objs.size = none ∧ Z1 H1.objs.size = none ∧ Z1 H2.objs.size = none) ?_ vs.length ⟨0, Z, [], 0, _, by omega, S0, hit, hns₁, hacc, rfl, (fun i y h => by simp at h), znew _ hI0, znew _ hD0, znew _ hC0⟩
    rintro n s1 ⟨i, Z1, us, c, m1, hn, S, hit1, hns1, hacc1, hul, hP, hzI, hzD, hzC⟩
    have hl1 : s1.heap.IsList ax vs.toArray := ⟨_, S.zh _ _ (S.zz _ _ el), rfl, nn, rfl⟩
    cases hv : vs[i]? with
    | none =>
      have hge : vs.length ≤ i := List.getElem?_eq_none_iff.mp hv
      refine next_end (Z := Z1) (hok.mono S.zz) S.zh hzI hit1 hl1 (by simpa using hv) fun h' hext hsz' => ?_
      have S' : StepU Z s Z1 { s1 with heap := h', toks := s1.toks } := S.keeps' (fun b o e => hext b o (fun q => by rw [q, hzI] at e; cases e)) (fun b o _ hb => hext b o (Nat.ne_of_lt hb)) hsz'
      have S'' := S'.freeze hD0 (hext _ _ hDI hacc1) hzD
      exact fin _ _ _ _ m1 us S'' ⟨c, put_self _ _ _⟩ (by omega) (fun i y h => mono _ _ _ _ (Sub.put hzD) (hP i y h)) (hns1.extBut hext (Ne.symm hIC)) (by rw [put_ne _ (Ne.symm hDC)]; exact hzC) hC0
    | some v =>
      refine wpAny_pyNext_list_item hit1 hl1 (by simpa using hv) fun h2 hit2 hs2 => ?_
      refine wpAny_assign_Name (wpAny_storeName_local hx (hns1.sameBut hs2 (Ne.symm hIC)) (fun h3 hn3 hs3 => ?_) (by simp [compEnv, hkind]))
      have S2 : StepU Z s Z1 { s1 with heap := h2, toks := s1.toks } := S.updNew hI0 hzI hs2
      have S3 : StepU Z s Z1 { s1 with heap := h3, toks := s1.toks + 1 } := S2.updNew hC0 hzC hs3
      have hit3 : h3.IsListIter s.heap.objs.size ax (i + 1) := by
        obtain ⟨o, ho, r⟩ := hit2
        exact ⟨o, (hs3.2 _ hIC).trans ho, r⟩
      have hacc3 : h3.get? H1.objs.size = some (lobj us c) := (hs3.2 _ hDC).trans ((hs2.2 _ hDI).trans hacc1)
      refine turn i v Z1 { s1 with heap := h3, toks := s1.toks + 1 } _ _ _ hv S3 hn3 (by simp) _ fun s4 Z4 y S4 hy => ?_
      have hit4 : s4.heap.IsListIter s.heap.objs.size ax (i + 1) := by
        obtain ⟨o, ho, r, hd⟩ := hit3
        exact ⟨o, S4.hh (fun q => q) (fun es n q => by rw [hd] at q; cases q) ho (by rw [r]; intro q; cases q), r, hd⟩
      have hacc4 : s4.heap.get? H1.objs.size = some (lobj us c) := S4.hh (fun q => q) (fun es n q => by cases q) hacc3
      have hlt : ∀ b, b = s.heap.objs.size ∨ b = H1.objs.size ∨ b = H2.objs.size → b < h3.objs.size := fun b hb => by
        have h1 : h₁.objs.size ≤ h3.objs.size := by
          have e1 : h3.objs.size = s1.heap.objs.size := hs3.1.trans hs2.1
          have h2 := hns1.lt
          have h3 : s.heap.objs.size + 2 < s1.heap.objs.size := by rw [← hC]; exact h2
          omega
        have h2 : s.heap.objs.size + 3 ≤ h3.objs.size := by rw [← hsz1]; exact h1
        rcases hb with rfl | rfl | rfl
        · exact Nat.lt_of_lt_of_le (by omega) h2
        · rw [hD]; exact Nat.lt_of_lt_of_le (by omega) h2
        · rw [hC]; exact Nat.lt_of_lt_of_le (by omega) h2
      have hzI4 : Z4 s.heap.objs.size = none := S4.old _ (hlt _ (.inl rfl)) hzI
      have hzD4 : Z4 H1.objs.size = none := S4.old _ (hlt _ (.inr (.inl rfl))) hzD
      have hzC4 : Z4 H2.objs.size = none := S4.old _ (hlt _ (.inr (.inr rfl))) hzC
      have hil : i < vs.length := by
        rcases Nat.lt_or_ge i vs.length with h | h
        · exact h
        · rw [List.getElem?_eq_none h] at hv; cases hv
      refine append_at hacc4 (by rw [sizeLine_eq]; omega) fun h5 n5 hacc5 hs5 => ?_
      have S5 : StepU Z s Z4 { s4 with heap := h5, toks := s4.toks } := (S3.trans S4).updNew hD0 hzD4 hs5
      refine ⟨n - 1, by omega, i + 1, Z4, us ++ [y], n5, _, by omega, S5, ?_, (S4.ns (fun q => q) hn3).sameBut hs5 (Ne.symm hDC), hacc5, by simp [hul], ?_, hzI4, hzD4, hzC4⟩
      · obtain ⟨o, ho, r⟩ := hit4
        exact ⟨o, (hs5.2 _ (Ne.symm hDI)).trans ho, r⟩
      · intro j y' hj
        rcases Nat.lt_or_ge j us.length with h | h
        · rw [List.getElem?_append_left h] at hj
          exact mono _ _ _ _ S4.zz (hP j y' hj)
        · rw [List.getElem?_append_right h] at hj
          have hj0 : j = us.length := by
            rcases Nat.lt_or_ge (j - us.length) 1 with h' | h'
            · omega
            · rw [List.getElem?_eq_none (by simpa using h')] at hj; cases hj
          subst hj0
          simp at hj
          subst hj
          rw [hul]
          exact hy
  exact codeAny_compStart_list (loop _ rfl) (wpAny_pyIter_listiter hit (loop _ rfl))

/-- [elt for x in l] as a value -/
theorem comp_val {elt iter : Expr} {x : Str} {px : Pos} {scope : Scope} {pos : Pos} {Q : Value → Shared → Prop} (P : Nat → Zp → Value → Prop) (mono : ∀ i Z Z' y, Sub Z Z' → P i Z y → P i Z' y)
    (hfree : ∀ z ∈ scope.names, z.2 ≠ .free) (hcell : ∀ y ∈ scope.names, y.2 ≠ .cell) (hkind : scope.kind = .function) (hnames : ∀ z ∈ scope.names, z.2 = .local → scope.names.lookup z.1 = some .local) (hx : scope.names.lookup x = some .local)
    (h : wpAny (model prog w) A (eval iter env) (fun xv s₁ => ∃ ax vs Z₁, xv = .ref ax ∧ HOk A Z₁ ∧ Sub Z₁ s₁.heap.get? ∧ lstZ Z₁ ax vs ∧ vs.length ≤ 1000000 ∧
      (∀ i v Z1 (s1 : Shared) m1 C (E' : Value → Shared → Prop), vs[i]? = some v → StepU Z₁ s₁ Z1 s1 → s1.heap.Ns C m1 → m1 x = some v → ∀ Q' : Value → Shared → Prop, (∀ s2 Z2 y, StepU Z1 s1 Z2 s2 → P i Z2 y → Q' y s2) → wpAny (model prog w) A (eval elt (compEnv scope C env)) Q' E' s1) ∧
      (∀ s' Z' D us, StepU Z₁ s₁ Z' s' → lstZ Z' D us → us.length = vs.length → (∀ i y, us[i]? = some y → P i Z' y) → Q (.ref D) s')) E s)
    (hs : ∀ x, foldedSetIterable iter env x = pure x := by intro _; rfl) :
    wpAny (model prog w) A (eval (.ListComp elt [⟨.Name x px, iter, [], 0⟩] scope pos) env) Q E s := by
  refine wpAny_ListComp hfree hkind hnames (wpAny_mono h (fun xv s₁ h₁ => ?_) fun _ _ e => e) hs
  obtain ⟨ax, vs, Z₁, rfl, hok, hz, hl, hlen, turn, fin⟩ := h₁
  refine comp_block (RR := fun acc cenv r s' => ∃ m, s'.heap.Ns cenv.locals m ∧ ∀ h', Heap.SameBut cenv.locals s'.heap h' →
            match r with | .ok _ => Q acc { s' with heap := h' } | .error x => wpAny (model prog w) A (passOn "comprehension.variables-let-go" x cenv) Q E { s' with heap := h' }) P mono hok hz hl hlen hcell hkind hx turn fun s' Z' D C m' us S hD hul hP hns hzC hC0 => ?_
  refine ⟨m', hns, fun h' hs' => ?_⟩
  exact fin _ Z' D us (S.updNew (t := s'.toks) hC0 hzC hs') hD hul hP

/-- y = [elt for x in l], where the stores are exchanged -/
theorem comp_assign {elt iter : Expr} {x y : Str} {px py : Pos} {scope : Scope} {pos spos : Pos} {Q : Flow → Shared → Prop} (P : Nat → Zp → Value → Prop) (mono : ∀ i Z Z' y, Sub Z Z' → P i Z y → P i Z' y)
    (hsw : swapsWith (.ListComp elt [⟨.Name x px, iter, [], 0⟩] scope pos) (some (.Name y py)) spos.line env = pure true)
    (hfree : ∀ z ∈ scope.names, z.2 ≠ .free) (hcell : ∀ y ∈ scope.names, y.2 ≠ .cell) (hkind : scope.kind = .function) (hnames : ∀ z ∈ scope.names, z.2 = .local → scope.names.lookup z.1 = some .local) (hx : scope.names.lookup x = some .local)
    (hek : env.scope.kind = .function) (hy : env.kindOf y = some .local)
    (h : wpAny (model prog w) A (eval iter env) (fun xv s₁ => ∃ ax vs Z₁ m, xv = .ref ax ∧ HOk A Z₁ ∧ Sub Z₁ s₁.heap.get? ∧ lstZ Z₁ ax vs ∧ vs.length ≤ 1000000 ∧ s₁.heap.Ns env.locals m ∧ Z₁ env.locals = none ∧
      (∀ i v Z1 (s1 : Shared) m1 C (E' : Value → Shared → Prop), vs[i]? = some v → StepU Z₁ s₁ Z1 s1 → s1.heap.Ns C m1 → m1 x = some v → ∀ Q' : Value → Shared → Prop, (∀ s2 Z2 y, StepU Z1 s1 Z2 s2 → P i Z2 y → Q' y s2) → wpAny (model prog w) A (eval elt (compEnv scope C env)) Q' E' s1) ∧
      (∀ s' Z' D us, StepW (fun b => b = env.locals) Z₁ s₁ Z' s' → lstZ Z' D us → us.length = vs.length → (∀ i y, us[i]? = some y → P i Z' y) → s'.heap.Ns env.locals (fun z => if z = y then some (.ref D) else m z) → Q .next s')) E s)
    (hs : ∀ x, foldedSetIterable iter env x = pure x := by intro _; rfl) :
    wpAny (model prog w) A (exec (.Assign [.Name y py] (.ListComp elt [⟨.Name x px, iter, [], 0⟩] scope pos) spos) env) Q E s := by
  rw [exec_Assign_Name_used _ _ _ _ hsw]
  refine wpAny_bind (wpAny_standAt (wpAny_bind ?_))
  show wpAny _ A (do let _ ← comprehension (.ListComp elt [⟨.Name x px, iter, [], 0⟩] scope pos) scope env _ (newList []) false (eval iter env) (some (assign (.Name y py) env))) _ _ s
  refine wpAny_bind (wpAny_mono (wpAny_comprehension_use (Q := fun _ s' => Q .next s') rfl hs hfree hkind hnames (wpAny_mono h (fun xv s₁ h₁ => ?_) fun _ _ e => e))
    (fun _ s' hq => wpAny_pure (wpAny_pure hq)) fun _ _ e => e)
  obtain ⟨ax, vs, Z₁, m, rfl, hok, hz, hl, hlen, hn, hzL, turn, fin⟩ := h₁
  refine comp_block (RR := fun acc cenv r s' => match r with
      | .ok _ => wpAny (model prog w) A (assign (.Name y py) env acc) (fun _ s'' => ∃ m, s''.heap.Ns cenv.locals m ∧ ∀ h', Heap.SameBut cenv.locals s''.heap h' → Q .next { s'' with heap := h' }) E s'
      | .error x => ∃ m, s'.heap.Ns cenv.locals m ∧ ∀ h', Heap.SameBut cenv.locals s'.heap h' → wpAny (model prog w) A (passOn "comprehension.variables-let-go" x cenv) (fun _ s' => Q .next s') E { s' with heap := h' }) P mono hok hz hl hlen hcell hkind hx turn fun s' Z' D C m' us S hD hul hP hns hzC hC0 => ?_
  have hLlt := hn.lt
  have hLC : env.locals ≠ C := Nat.ne_of_lt (Nat.lt_of_lt_of_le hLlt hC0)
  have hzL' : Z' env.locals = none := S.old _ hLlt hzL
  refine wpAny_assign_Name (wpAny_storeName_local hy (S.ns (fun q => q) hn) (fun h₂ hn₂ hs₂ => ?_) (by rw [hek]; rfl))
  refine ⟨m', hns.sameBut hs₂ (Ne.symm hLC), fun h₃ hs₃ => ?_⟩
  have S2 : StepW (fun b => b = env.locals) Z₁ s₁ Z' { s' with heap := h₂, toks := s'.toks + 1 } := (StepW.of_U S).upd rfl hzL' hs₂
  exact fin _ Z' D us (S2.updNew (t := s'.toks + 1) hC0 hzC hs₃) hD hul hP (hn₂.sameBut hs₃ hLC)
end
end Mine

namespace Mine
open SeqAt MeetsSeq AutoSeq1

section
variable {prog : Program} {w : World} {A : Around} {E : Value → Shared → Prop} {s : Shared} {Z : Zp}
/-- a for over a list that stays: R tells what holds after i items, of what stays and of what the loop turns -/
theorem loop_listM {W : Addr → Prop} {X : List Str} {x : Str} {px : Pos} {body : List Stmt} {env : Env} {a : Addr} {its : List Value} {m : Str → Option Value} {Q : Flow → Shared → Prop} (R : Nat → Zp → Zp → (Str → Option Value) → Prop)
    (hok : HOk A Z) (hz : Sub Z s.heap.get?) (hl : lstZ Z a its) (hns : s.heap.Ns env.locals m) (hW : ∀ b, W b → b < s.heap.objs.size ∧ Z b = none) (hWL : W env.locals)
    (mono : ∀ i Z1 g g' m m', (∀ b o, W b → b ≠ env.locals → g b = some o → g' b = some o) → (∀ y, y ≠ x → m' y = m y) → R i Z1 g m → R i Z1 g' m') (h0 : R 0 Z s.heap.get? m)
    (turn : ∀ i v Z1 (s1 : Shared) m1, its[i]? = some v → StepW W Z s Z1 s1 → s1.heap.Ns env.locals m1 → m1 x = some v → (∀ y, y ∉ x :: X → m1 y = m y) → R i Z1 s1.heap.get? m1 →
      wpAny (model prog w) A (execs body env) (fun f s2 => (f = .next ∨ f = .cont) ∧ ∃ Z2 m2, StepW W Z1 s1 Z2 s2 ∧ s2.heap.Ns env.locals m2 ∧ (∀ y, y ∉ x :: X → m2 y = m y) ∧ R (i + 1) Z2 s2.heap.get? m2)
        (notedBy (model prog w) A env fun e s' => cameBackBy (model prog w) A env E e s') s1)
    (fin : ∀ Z1 (s1 : Shared) m1, StepW W Z s Z1 s1 → s1.heap.Ns env.locals m1 → (∀ y, y ∉ x :: X → m1 y = m y) → R its.length Z1 s1.heap.get? m1 → Q .next s1)
    (hk : env.scope.kind = .function := by rfl) (hx : env.kindOf x = some .local := by rfl) :
    wpAny (model prog w) A (pyIter (.ref a)) (fun it s₂ => codeAny (model prog w) A (.forLoop (.Name x px) it body [] env)
      (fun r s' => match r with | .ok f => Q f s' | .error e => cameBackBy (model prog w) A env E e s') s₂) E s := by
  obtain ⟨nn, el⟩ := hl
  have hl0 : s.heap.IsList a its.toArray := ⟨_, hz _ _ el, rfl, nn, rfl⟩
  refine wpAny_pyIter_list hl0 ?_
  have hI : Z s.heap.objs.size = none := (Step.refl hz).none_of_new
  have hIW : ¬ W s.heap.objs.size := fun q => Nat.lt_irrefl _ (hW _ q).1
  refine codeAny_forLoop (fun n s1 => ∃ i Z1 m1, i + n = its.length ∧ StepW W Z s Z1 s1 ∧ s1.heap.objs.size > s.heap.objs.size ∧ s1.heap.IsListIter s.heap.objs.size a i ∧ Z1 s.heap.objs.size = none ∧ s1.heap.Ns env.locals m1 ∧ (∀ y, y ∉ x :: X → m1 y = m y) ∧ R i Z1 s1.heap.get? m1) ?_ its.length ?_
  · rintro n s1 ⟨i, Z1, m1, hn, S, hsz, hit, hzi, hn1, hm1, hR⟩
    have hl1 : s1.heap.IsList a its.toArray := ⟨_, S.zh _ _ (S.zz _ _ el), rfl, nn, rfl⟩
    have hne : env.locals ≠ s.heap.objs.size := fun q => hIW (q ▸ hWL)
    have hLz : Z1 env.locals = none := S.old _ (hW _ hWL).1 (hW _ hWL).2
    cases hx1 : its[i]? with
    | none =>
      have hlen : i = its.length := by
        have := List.getElem?_eq_none_iff.mp hx1
        omega
      refine next_end (hok.mono S.zz) S.zh hzi hit hl1 (by simpa using hx1) fun h' hext hsz' => ?_
      refine wpAny_execs_nil ?_
      subst hlen
      refine fin Z1 _ m1 (S.keeps' (t := s1.toks) (fun b o e => hext b o (fun q => by rw [q, hzi] at e; cases e)) (fun b o hw hb => hext b o (Nat.ne_of_lt hb)) hsz') (hn1.extBut hext hne) hm1 ?_
      exact mono _ _ _ _ _ _ (fun b o hb _ e => hext b o (fun q => hIW (q ▸ hb)) e) (fun _ _ => rfl) hR
    | some v =>
      refine wpAny_pyNext_list_item hit hl1 (by simpa using hx1) fun h2 hit2 hs2 => ?_
      have up2 : ∀ b o, b ≠ s.heap.objs.size → s1.heap.get? b = some o → h2.get? b = some o := fun b o hb e => (hs2.2 b hb).trans e
      refine wpAny_assign_Name (st_loc (hn1.sameBut hs2 hne) (fun h3 hn3 hs3 => ?_) hk hx)
      have up3 : ∀ b o, b ≠ env.locals → b ≠ s.heap.objs.size → s1.heap.get? b = some o → h3.get? b = some o := fun b o h1 h2' e => (hs3.2 b h1).trans (up2 b o h2' e)
      have S3 : StepW W Z s Z1 { s1 with heap := h3, toks := s1.toks + 1 } :=
        S.keeps' (fun b o e => up3 b o (fun q => by rw [q, hLz] at e; cases e) (fun q => by rw [q, hzi] at e; cases e))
          (fun b o hw hb => up3 b o (fun q => hw (q ▸ hWL)) (Nat.ne_of_lt hb)) (by show _ ≤ h3.objs.size; rw [hs3.1, hs2.1]; exact Nat.le_refl _)
      refine wpAny_mono (turn i v Z1 _ (fun y => if y = x then some v else m1 y) hx1 S3 hn3 (by simp) (fun y hy => ?_) ?_) (fun f s2 h2' => ?_) fun _ _ e => e
      · have : y ≠ x := fun q => hy (by simp [q])
        simp only [this, if_false]
        exact hm1 y hy
      · exact mono _ _ _ _ _ _ (fun b o hb hbl e => up3 b o hbl (fun q => hIW (q ▸ hb)) e) (fun y hy => by simp [hy]) hR
      · obtain ⟨hf, Z2, m2, S2, hn2, hm2, hR2⟩ := h2'
        have key : ∃ mm, mm < n ∧ ∃ i' Z1' m1', i' + mm = its.length ∧ StepW W Z s Z1' s2 ∧ s2.heap.objs.size > s.heap.objs.size ∧ s2.heap.IsListIter s.heap.objs.size a i' ∧ Z1' s.heap.objs.size = none ∧ s2.heap.Ns env.locals m1' ∧ (∀ y, y ∉ x :: X → m1' y = m y) ∧ R i' Z1' s2.heap.get? m1' := by
          have hlt : i < its.length := by
            rcases Nat.lt_or_ge i its.length with h | h
            · exact h
            · rw [List.getElem?_eq_none h] at hx1; cases hx1
          have hs3sz : h3.objs.size = s1.heap.objs.size := hs3.1.trans hs2.1
          refine ⟨n - 1, by omega, i + 1, Z2, m2, by omega, S3.trans S2, ?_, ?_, ?_, hn2, hm2, hR2⟩
          · have := S2.sz; show _ < _; exact Nat.lt_of_lt_of_le (by show _ < h3.objs.size; rw [hs3sz]; exact hsz) this
          · obtain ⟨o, ho, r, hd⟩ := hit2
            exact ⟨o, S2.hh hIW (fun es n q => by rw [hd] at q; cases q) ((hs3.2 _ (Ne.symm hne)).trans ho) (by rw [r]; intro q; cases q), r, hd⟩
          · exact S2.old _ (by show _ < h3.objs.size; rw [hs3sz]; exact hsz) hzi
        rcases hf with rfl | rfl
        · exact key
        · exact key
  · refine ⟨0, Z, m, by omega, ((Step.refl hz).pushM (tk := s.toks)).toW, by simp, ⟨_, Heap.get?_push_size _ rfl, rfl, rfl⟩, hI, hns.push _, fun _ _ => rfl, ?_⟩
    exact mono _ _ _ _ _ _ (fun b o _ _ e => Heap.get?_push_of_some _ e) (fun _ _ => rfl) h0
end

/-! the plain law of keeping -/
theorem dd_eq (c : Nat → Nat × Nat) : ∀ (ps acc : List Nat), dd c acc ps = acc ++ (dd c [] ps).filter (fun p => !acc.any (fun q => c q == c p))
  | [], acc => by simp [dd]
  | p :: ps, acc => by
    have e0 : dd c [] (p :: ps) = p :: (dd c [] ps).filter (fun q => !(c p == c q)) := by
      rw [dd]
      simp only [List.any_nil, Bool.false_eq_true, if_false, List.nil_append]
      rw [dd_eq c ps [p]]
      simp
    rw [dd, e0]
    split
    · rename_i h
      rw [List.filter_cons_of_neg (by simp [h]), List.filter_filter, dd_eq c ps acc]
      congr 1
      apply List.filter_congr
      intro q _
      cases e : c p == c q with
      | false => simp
      | true =>
        have e' : c p = c q := by simpa using e
        rw [← e', h]; rfl
    · rename_i h
      rw [List.filter_cons_of_pos (by simpa using h), List.filter_filter, dd_eq c ps (acc ++ [p]), List.append_assoc]
      congr 1
      rw [List.singleton_append]
      congr 1
      apply List.filter_congr
      intro q _
      rw [List.any_append]
      simp
theorem dd_new (c : Nat → Nat × Nat) : ∀ (qs acc : List Nat), qs.Pairwise (fun a b => c a ≠ c b) → (∀ q, q ∈ qs → acc.any (fun p => c p == c q) = false) → dd c acc qs = acc ++ qs
  | [], acc, _, _ => by simp [dd]
  | q :: qs, acc, h, hn => by
    have h' := List.pairwise_cons.mp h
    rw [dd, if_neg (by rw [hn q (.head _)]; simp), dd_new c qs (acc ++ [q]) h'.2 (fun p hp => ?_)]
    · simp
    · rw [List.any_append, hn p (.tail _ hp)]
      simpa using h'.1 p hp
theorem dd_dd (c : Nat → Nat × Nat) (acc ps : List Nat) : dd c acc (dedup c ps) = dd c acc ps := by
  have e : dd c [] (dd c [] ps) = dd c [] ps := by rw [dd_new c _ [] (dd_distinct c ps [] .nil) (fun _ _ => rfl)]; rfl
  show dd c acc (dd c [] ps) = _
  rw [dd_eq c (dd c [] ps) acc, e, ← dd_eq]
theorem dd_flatten (c : Nat → Nat × Nat) : ∀ (rows : List (List Nat)) (acc : List Nat), dd c acc (rows.map (dedup c)).flatten = dd c acc rows.flatten
  | [], _ => rfl
  | r :: rows, acc => by
    rw [List.map_cons, List.flatten_cons, List.flatten_cons, dd_append, dd_append, dd_dd, dd_flatten]
theorem dedup_flatten (c : Nat → Nat × Nat) (rows : List (List Nat)) : dedup c (rows.map (dedup c)).flatten = dedup c rows.flatten := dd_flatten c rows []
theorem dedup_one (c : Nat → Nat × Nat) (p : Nat) : dedup c [p] = [p] := by simp [dedup, dd]
theorem dedup_length (c : Nat → Nat × Nat) (ps : List Nat) : (dedup c ps).length ≤ ps.length := by
  have := dd_length c ps []
  simpa using this

/-! trees -/
def IntIs (v : Value) (p : Nat) : Prop := ∃ t, v = .int p t
/-- v is a node, at most d deep, whose places are row -/
def Node : Nat → Zp → Value → List Nat → Prop
  | 0, _, _, _ => False
  | d + 1, Z, v, row => ∃ a kids rows, v = .ref a ∧ lstZ Z a kids ∧ Rows2 (fun kid r => (∃ p, IntIs kid p ∧ p < 18 ∧ r = [p]) ∨ Node d Z kid r) kids rows ∧ row = rows.flatten
theorem Node.mono {Z Z' : Zp} (k : Sub Z Z') : ∀ {d : Nat} {v : Value} {row : List Nat}, Node d Z v row → Node d Z' v row
  | 0, _, _, h => h
  | d + 1, _, _, ⟨a, kids, rows, e, h1, h2, h3⟩ => ⟨a, kids, rows, e, h1.mono k, h2.mono fun _ _ x => x.imp id fun y => Node.mono k y, h3⟩
theorem Node.isRef {Z : Zp} : ∀ {d : Nat} {v : Value} {row : List Nat}, Node d Z v row → ∃ a kids, v = .ref a ∧ lstZ Z a kids
  | d + 1, _, _, ⟨a, kids, rows, e, h1, h2, h3⟩ => ⟨a, kids, e, h1⟩
theorem Node.places {Z : Zp} : ∀ {d : Nat} {v : Value} {row : List Nat}, Node d Z v row → ∀ p, p ∈ row → p < 18
  | d + 1, _, _, ⟨a, kids, rows, e, h1, h2, h3⟩, p, hp => by
    subst h3
    obtain ⟨r, hr, hpr⟩ := List.mem_flatten.mp hp
    obtain ⟨kid, _, h⟩ := h2.mem' hr
    rcases h with ⟨q, _, hq, rfl⟩ | h
    · simp at hpr; subst hpr; exact hq
    · exact Node.places h p hpr
theorem flatten_take_succ {α : Type} (rows : List (List α)) (i : Nat) (r : List α) (h : rows[i]? = some r) : (rows.take (i + 1)).flatten = (rows.take i).flatten ++ r := by
  rw [List.take_add_one, h, List.flatten_append]; simp
theorem flatten_take_le {α : Type} (rows : List (List α)) (i : Nat) : (rows.take i).flatten.length ≤ rows.flatten.length := by
  conv => rhs; rw [← List.take_append_drop i rows, List.flatten_append, List.length_append]
  exact Nat.le_add_right _ _

section
variable {prog : Program} {w : World} {A : Around} {E : Value → Shared → Prop} {s : Shared} {Z : Zp} {env : Env}
/-- a + b of lists that stay -/
theorem add_lists {a b : Addr} {xs ys : List Value} {Q : Value → Shared → Prop} (hz : Sub Z s.heap.get?) (ha : lstZ Z a xs) (hb : lstZ Z b ys) (hsz : xs.length + ys.length ≤ 2000000)
    (h : ∀ s' Z' c, Step Z s Z' s' → lstZ Z' c (xs ++ ys) → Q (.ref c) s') : wpAny (model prog w) A (binaryOp .Add (.ref a) (.ref b)) Q E s := by
  obtain ⟨n, e⟩ := ha
  obtain ⟨n2, e2⟩ := hb
  refine P.add_list (hz _ _ e) (hz _ _ e2) ?_ (by rw [sizeLine_eq]; simp; omega)
  exact h _ _ _ ((Step.refl hz).push (tk := s.toks)) ⟨0, by rw [put_self]; simp⟩
/-- type(v) is list -/
theorem is_list {v : Value} {b : Bool} {m : Str → Option Value} {x : Str} {p1 p2 p3 p4 p5 : Pos} {Q : Bool → Shared → Prop} (W : WZ w Z) (hz : Sub Z s.heap.get?) (N : s.heap.Ns env.locals m) (hm : m x = some v)
    (hv : (b = true ∧ ∃ a kids, v = .ref a ∧ lstZ Z a kids) ∨ (b = false ∧ ∃ p, IntIs v p)) (h : Q b s)
    (hk : env.scope.kind = .function := by rfl) (hl : env.kindOf x = some .local := by rfl) (ht : env.kindOf (Str.ofString "type") = some .globalImplicit := by rfl) (hli : env.kindOf (Str.ofString "list") = some .globalImplicit := by rfl)
    (hg : env.globals = mainGlobals := by rfl) (hb : env.builtins = builtinsNs := by rfl) (hd : (x == ("__debug__" : Str)) = false := by decide) :
    wpAny (model prog w) A (isTrue (.Compare (.Call (.Name (Str.ofString "type") p1) [.Name x p2] [] p3) [.Is] [.Name (Str.ofString "list") p4] p5) env (eval (.Compare (.Call (.Name (Str.ofString "type") p1) [.Name x p2] [] p3) [.Is] [.Name (Str.ofString "list") p4] p5) env)) Q E s := by
  refine wpAny_isTrue_Compare1 ?_
  refine Call_Name rfl ?_
  refine ld_bi (v := .type "type") (W.at hz) rfl Boot.«type» ?_ (by decide) hk ht hg hb
  refine callWith_type1 (Calls.spliced_cons ?_)
  refine ld_loc (v := v) N hm ?_ hk hl hd
  refine Calls.spliced_nil ?_
  rcases hv with ⟨rfl, a, kids, rfl, n, e⟩ | ⟨rfl, p, t, rfl⟩
  · refine call_type_of (Tx := "list") ⟨_, hz _ _ e, rfl⟩ (by decide) ?_
    refine ld_bi (v := .type "list") (W.at hz) rfl Boot.«list» ?_ (by decide) hk hli hg hb
    exact wpAny_is_plain rfl (wpAny_truthy_bool (by rw [beq_self_eq_true]; exact h))
  · refine call_type_of (Tx := "int") rfl (by decide) ?_
    refine ld_bi (v := .type "list") (W.at hz) rfl Boot.«list» ?_ (by decide) hk hli hg hb
    exact wpAny_is_plain rfl (wpAny_truthy_bool h)

/-- _law_flat -/
theorem law_flat : ∀ (d : Nat) {A : Around} {E : Value → Shared → Prop} {s : Shared} {Z : Zp} {v : Value} {row : List Nat} {Q : Value → Shared → Prop}, WZ w Z → Sub Z s.heap.get? → A.handled = none → A.depth + d + 2 < recursionLimit → Node d Z v row → row.length ≤ 1000000 →
    (∀ s' Z' c us, StepU Z s Z' s' → lstZ Z' c us → Rows2 IntIs us row → Q (.ref c) s') → wpAny (model prog w) A (call (.ref 71) [v] []) Q E s
  | 0, _, _, _, _, _, _, _, _, _, _, _, hv, _, _ => hv.elim
  | d + 1, A, E, s, Z, v, row, Q, W, hz, hn, hd, hv, hlen, h => by
    obtain ⟨a, kids, rows, rfl, hl, R, rfl⟩ := hv
    refine' call_fn (binds := [(Str.ofString "node", .ref a)]) (W.at hz) (by omega) ?ho ?hcd (BindsTo.of_eq ?hb) ?_ ?hloc ?hcell ?hco ?hgen ?hk
    case ho => exact rfl
    case hcd => exact rfl
    case hb => exact rfl
    case hloc => exact locs rfl
    case hcell => decide
    case hco => rfl
    case hgen => rfl
    case hk => rfl
    intro h' hns hk hsz'
    have x0 := At.enter (t := s.toks + 1) hz hns hk hsz'
    refine wpAny_execs_cons ?_
    refine wpAny_Assign_Name ?_
    refine wpAny_List ?_
    refine wpAny_items_nil ?_
    refine ⟨Nat.zero_le _, ?_⟩
    have x1 : At Z s s.heap.objs.size _ (put Z h'.objs.size (lobj [] 0)) { s with heap := h'.push (lobj [] 0), toks := s.toks + 1 } := x0.step ((Step.refl x0.st.zh).push (tk := s.toks + 1))
    refine st_loc x1.ns (fun h2 hn2 hs2 => ?_) rfl rfl
    have x2 := x1.store (t := s.toks + 1 + 1) hn2 hs2
    refine wpAny_execs_cons ?_
    refine wpAny_For ?_
    refine ld_loc (v := .ref a) x2.ns rfl ?_
    have hW : ∀ b, b = s.heap.objs.size → s.heap.objs.size ≤ b := fun b q => by rw [q]; exact Nat.le_refl _
    have hl2 := hl.mono x2.st.zz
    have W2 := W.mono x2.st.zz
    refine loop_listM (W := fun b => b = s.heap.objs.size) (X := [Str.ofString "row"]) (Z := put Z h'.objs.size (lobj [] 0)) (its := kids)
      (fun i Z1 g m => ∃ c us, m (Str.ofString "row") = some (.ref c) ∧ lstZ Z1 c us ∧ Rows2 IntIs us (rows.take i).flatten) (.inl hn) x2.st.zh hl2 x2.ns ?hW rfl ?mono ?h0 ?turn ?fin
    case hW => rintro b rfl; exact ⟨x2.lt, x2.zl⟩
    case mono =>
      rintro i Z1 g g' m m' _ hm ⟨c, us, e, r⟩
      exact ⟨c, us, (hm _ (by decide)).trans e, r⟩
    case h0 => exact ⟨h'.objs.size, [], rfl, ⟨0, put_self _ _ _⟩, .nil⟩
    case turn =>
      rintro i v Z3 s3 m3 hv S3 hn3 hm3 hm ⟨c, us, hrow, hc, r⟩
      have x3 := x2.loop hW S3 hn3
      obtain ⟨rw_, hr, hkid⟩ := R.get i v hv
      have W3 := W2.mono S3.zz
      have hul : us.length ≤ 1000000 := by
        have h1 := r.length
        have h2 := flatten_take_le rows i
        omega
      have et := flatten_take_succ rows i rw_ hr
      have hrl : rw_.length ≤ 1000000 := by
        have h2 := flatten_take_le rows (i + 1)
        rw [et, List.length_append] at h2
        omega
      refine wpAny_execs_cons ?_
      refine wpAny_Assign_Name ?_
      refine wpAny_BinOp ?_
      refine ld_loc (v := .ref c) x3.ns hrow ?_
      refine wpAny_mono (Q := fun v s4 => ∃ Z4 c4 us4, v = .ref c4 ∧ StepU Z3 s3 Z4 s4 ∧ lstZ Z4 c4 us4 ∧ Rows2 IntIs us4 rw_) (E := fun _ _ => False) ?_ ?_ (fun _ _ q => q.elim)
      · refine wpAny_IfExp ?_
        rcases hkid with ⟨p, hp, _, rfl⟩ | hnode
        · refine is_list (b := false) W3 x3.st.zh x3.ns hm3 (.inr ⟨rfl, p, hp⟩) ?_
          show wpAny _ _ (eval _ _) _ _ _
          refine wpAny_List ?_
          refine wpAny_items_cons ?_ rfl
          refine ld_loc (v := v) x3.ns hm3 ?_
          refine wpAny_items_nil ?_
          refine ⟨by rw [sizeLine_eq]; simp, ?_⟩
          exact ⟨_, _, [v], rfl, ((Step.refl x3.st.zh).push (tk := s3.toks)).toW, ⟨0, put_self _ _ _⟩, .cons hp .nil⟩
        · obtain ⟨ak, kk, ek, hlk⟩ := (Node.mono (x2.st.zz.trans S3.zz) hnode).isRef
          refine is_list (b := true) W3 x3.st.zh x3.ns hm3 (.inl ⟨rfl, ak, kk, ek, hlk⟩) ?_
          show wpAny _ _ (eval _ _) _ _ _
          refine Call_Name rfl ?_
          refine ld_fn (v := .ref 71) (W3.at x3.st.zh) rfl ?_
          refine cw_fn1 rfl ?_
          refine ld_loc (v := v) x3.ns hm3 ?_
          refine ⟨W3.at x3.st.zh, ?_⟩
          exact law_flat d W3 x3.st.zh hn (by show A.depth + 1 + d + 2 < _; omega) (Node.mono (x2.st.zz.trans S3.zz) hnode) hrl fun s4 Z4 c4 us4 S4 hc4 r4 => ⟨Z4, c4, us4, rfl, S4, hc4, r4⟩
      · rintro v4 s4 ⟨Z4, c4, us4, rfl, S4, hc4, r4⟩
        have x4 := x3.call S4
        refine add_lists x4.st.zh (hc.mono S4.zz) hc4 (by have := r4.length; omega) fun s5 Z5 c5 S5 hc5 => ?_
        have x5 := x4.step S5
        refine st_loc x5.ns (fun h6 hn6 hs6 => ?_) rfl rfl
        refine wpAny_execs_nil ?_
        refine ⟨.inl rfl, Z5, _, ((StepW.of_U S4).trans S5.toW).upd (t := s5.toks + 1) rfl x5.zl hs6, hn6, fun y hy => ?_, c5, us ++ us4, rfl, hc5, ?_⟩
        · have h1 : y ≠ Str.ofString "row" := fun q => hy (by simp [q])
          show (if y = Str.ofString "row" then _ else m3 y) = _
          rw [if_neg h1]
          exact hm y hy
        · rw [et]
          exact r.append r4
    case fin =>
      rintro Z3 s3 m3 S3 hn3 hm ⟨c, us, hrow, hc, r⟩
      have x3 := x2.loop hW S3 hn3
      rw [List.take_of_length_le (by rw [R.length]; exact Nat.le_refl _)] at r
      refine wpAny_execs_cons ?_
      refine wpAny_Return_some ?_
      refine ld_loc (v := .ref c) x3.ns hrow ?_
      exact h s3 Z3 c us x3.st hc r
end
end Mine

namespace Mine
open SeqAt MeetsSeq AutoSeq1

theorem map_take_succ (c : Nat → Nat × Nat) (rows : List (List Nat)) (i : Nat) (r : List Nat) (h : rows[i]? = some r) : ((rows.take (i + 1)).map (dedup c)).flatten = ((rows.take i).map (dedup c)).flatten ++ dedup c r := by
  rw [List.take_add_one, h, List.map_append, List.flatten_append]; simp
theorem map_length_le (c : Nat → Nat × Nat) : ∀ (rows : List (List Nat)), (rows.map (dedup c)).flatten.length ≤ rows.flatten.length
  | [] => Nat.le_refl _
  | r :: rows => by
    rw [List.map_cons, List.flatten_cons, List.flatten_cons, List.length_append, List.length_append]
    exact Nat.add_le_add (dedup_length c r) (map_length_le c rows)
theorem map_take_le (c : Nat → Nat × Nat) (rows : List (List Nat)) (i : Nat) : ((rows.take i).map (dedup c)).flatten.length ≤ rows.flatten.length := Nat.le_trans (map_length_le c _) (flatten_take_le rows i)

theorem rows_of_get {α β : Type} {R : α → β → Prop} : ∀ {as : List α} {bs : List β}, as.length = bs.length → (∀ (i : Nat) (a : α), as[i]? = some a → ∃ b, bs[i]? = some b ∧ R a b) → Rows2 R as bs
  | [], [], _, _ => .nil
  | [], _ :: _, h, _ => by simp at h
  | _ :: _, [], h, _ => by simp at h
  | a :: as, b :: bs, h, g => by
    obtain ⟨b', e, r⟩ := g 0 a rfl
    have e' : b = b' := by simpa using e
    subst e'
    exact .cons r (rows_of_get (by simpa using h) fun i x hx => by simpa using g (i + 1) x (by simpa using hx))

section
variable {prog : Program} {w : World} {A : Around} {E : Value → Shared → Prop} {s : Shared} {Z : Zp} {env : Env}

theorem cw_kw1 {pos : Pos} {f : Addr} {x : Sem Value} {keywords : List (Option Str × Sem Value)} {oc : Value} {od : Option Addr} {fd : FuncData} {osl : Array (Option Value)} {Q : Value → Shared → Prop} (ho : (KP w.params).lookup f = some ⟨oc, od, .func fd, osl⟩) (hall : keywords.all (·.1.isSome) = true)
    (h : wpAny (model prog w) A x (fun v s₁ => wpAny (model prog w) A (evalAll (keywords.map (·.2))) (fun ks s₂ => Wd w s₂.heap ∧ wpAny (model prog w) A (call (.ref f) [v] ((keywords.filterMap (·.1)).zip ks)) Q E s₂) E s₁) E s) :
    wpAny (model prog w) A (callWith pos (.ref f) [] [(false, x)] keywords) Q E s :=
  callWith_function_kw (fd := fd) (first := []) (evalArgs_kw hall (Calls.spliced_cons (wpAny_mono h (fun v s₁ h₁ => Calls.spliced_nil (wpAny_mono h₁ (fun ks s₂ h₂ => ⟨⟨h₂.1.kin _ _ ho, rfl⟩, h₂.2⟩) fun _ _ e => e)) fun _ _ e => e)))

/-- [pair[0] for pair in _deduplicate_unhashable(list(_value_and_type_iter(row)))] and list(_deduplicate(row, unhashable_fallback=True)) are told below, in _law_kept -/
theorem law_kept (typed : Bool) : ∀ (d : Nat) {A : Around} {E : Value → Shared → Prop} {s : Shared} {Z : Zp} {v : Value} {row : List Nat} {Q : Value → Shared → Prop}, WZ w Z → Sub Z s.heap.get? → Frs A Z s.heap → A.handled = none →
    A.depth + d + 8 < recursionLimit → A.units + 3 * d + 200 < cLine → Z tabA = none → Tb s.heap → Node d Z v row → row.length ≤ 1000000 →
    (∀ s' Z' c us, StepU Z s Z' s' → lstZ Z' c us → Rows2 (fun v p => IsVal Z' p v) us (dedup (cls typed) row) → Q (.ref c) s') → wpAny (model prog w) A (call (.ref 76) [v, .bool typed] []) Q E s
  | 0, _, _, _, _, _, _, _, _, _, _, _, _, _, _, _, hv, _, _ => hv.elim
  | d + 1, A, E, s, Z, v, row, Q, W, hz, hfr, hn, hd, hu, zt, tb, hv, hlen, h => by
    obtain ⟨a, kids, rows, rfl, hl, R, rfl⟩ := hv
    refine' call_fn (binds := [(Str.ofString "node", .ref a), (Str.ofString "typed", .bool typed)]) (W.at hz) (by omega) ?ho ?hcd (BindsTo.of_eq ?hb) ?_ ?hloc ?hcell ?hco ?hgen ?hk
    case ho => exact rfl
    case hcd => exact rfl
    case hb => exact rfl
    case hloc => exact locs rfl
    case hcell => decide
    case hco => rfl
    case hgen => rfl
    case hk => rfl
    intro h' hns hk hsz'
    have x0 := At.enter (t := s.toks + 2) hz hns hk hsz'
    refine wpAny_execs_cons ?_
    refine wpAny_Assign_Name ?_
    refine wpAny_List ?_
    refine wpAny_items_nil ?_
    refine ⟨Nat.zero_le _, ?_⟩
    have x1 : At Z s s.heap.objs.size _ (put Z h'.objs.size (lobj [] 0)) { s with heap := h'.push (lobj [] 0), toks := s.toks + 2 } := x0.step ((Step.refl x0.st.zh).push (tk := s.toks + 2))
    refine st_loc x1.ns (fun h2 hn2 hs2 => ?_) rfl rfl
    have x2 := x1.store (t := s.toks + 2 + 1) hn2 hs2
    refine wpAny_execs_cons ?_
    refine wpAny_For ?_
    refine ld_loc (v := .ref a) x2.ns rfl ?_
    have hW : ∀ b, b = s.heap.objs.size → s.heap.objs.size ≤ b := fun b q => by rw [q]; exact Nat.le_refl _
    have hl2 := hl.mono x2.st.zz
    have W2 := W.mono x2.st.zz
    refine loop_listM (W := fun b => b = s.heap.objs.size) (X := [Str.ofString "row"]) (Z := put Z h'.objs.size (lobj [] 0)) (its := kids)
      (fun i Z1 g m => ∃ c us, m (Str.ofString "row") = some (.ref c) ∧ lstZ Z1 c us ∧ Rows2 (fun v p => IsVal Z1 p v) us ((rows.take i).map (dedup (cls typed))).flatten) (.inl hn) x2.st.zh hl2 x2.ns ?hW rfl ?mono ?h0 ?turn ?fin
    case hW => rintro b rfl; exact ⟨x2.lt, x2.zl⟩
    case mono =>
      rintro i Z1 g g' m m' _ hm ⟨c, us, e, r⟩
      exact ⟨c, us, (hm _ (by decide)).trans e, r⟩
    case h0 => exact ⟨h'.objs.size, [], rfl, ⟨0, put_self _ _ _⟩, .nil⟩
    case turn =>
      rintro i v Z3 s3 m3 hv S3 hn3 hm3 hm ⟨c, us, hrow, hc, r⟩
      have x3 := x2.loop hW S3 hn3
      obtain ⟨rw_, hr, hkid⟩ := R.get i v hv
      have W3 := W2.mono S3.zz
      have hul : us.length ≤ 1000000 := by
        have h1 := r.length
        have h2 := map_take_le (cls typed) rows i
        omega
      have et := map_take_succ (cls typed) rows i rw_ hr
      have hrl : rw_.length ≤ 1000000 := by
        have h2 := flatten_take_le rows (i + 1)
        rw [flatten_take_succ rows i rw_ hr, List.length_append] at h2
        omega
      have hdl := dedup_length (cls typed) rw_
      refine wpAny_execs_cons ?_
      refine wpAny_Assign_Name ?_
      refine wpAny_BinOp ?_
      refine ld_loc (v := .ref c) x3.ns hrow ?_
      refine wpAny_mono (Q := fun v s4 => ∃ Z4 c4 us4, v = .ref c4 ∧ StepU Z3 s3 Z4 s4 ∧ lstZ Z4 c4 us4 ∧ Rows2 (fun v p => IsVal Z4 p v) us4 (dedup (cls typed) rw_)) (E := fun _ _ => False) ?_ ?_ (fun _ _ q => q.elim)
      · refine wpAny_IfExp ?_
        rcases hkid with ⟨p, hp, hp18, rfl⟩ | hnode
        · refine is_list (b := false) W3 x3.st.zh x3.ns hm3 (.inr ⟨rfl, p, hp⟩) ?_
          show wpAny _ _ (eval _ _) _ _ _
          obtain ⟨t, rfl⟩ := hp
          refine wpAny_List ?_
          refine wpAny_items_cons ?_ rfl
          refine Call_Name rfl ?_
          refine ld_fn (v := .ref 57) (W3.at x3.st.zh) rfl ?_
          refine cw_fn1 rfl ?_
          refine ld_loc (v := .int p t) x3.ns hm3 ?_
          refine ⟨W3.at x3.st.zh, ?_⟩
          refine law_value (Z := Z3) (W3.at x3.st.zh) x3.st.zh (by show A.depth + 1 + 1 < _; omega) hp18 fun s4 Z4 y S4 hy => ?_
          refine wpAny_items_nil ?_
          refine ⟨by rw [sizeLine_eq]; simp, ?_⟩
          have S5 := (S4.trans ((Step.refl S4.zh).push (o := lobj [y] 0) (tk := s4.toks))).toW (W := fun _ => False)
          refine ⟨_, _, [y], rfl, S5, ⟨0, put_self _ _ _⟩, ?_⟩
          rw [dedup_one]
          exact .cons (hy.mono (Sub.put S4.none_of_new)) .nil
        · obtain ⟨ak, kk, ek, hlk⟩ := (Node.mono (x2.st.zz.trans S3.zz) hnode).isRef
          refine is_list (b := true) W3 x3.st.zh x3.ns hm3 (.inl ⟨rfl, ak, kk, ek, hlk⟩) ?_
          show wpAny _ _ (eval _ _) _ _ _
          refine Call_Name rfl ?_
          refine ld_fn (v := .ref 76) (W3.at x3.st.zh) rfl ?_
          refine cw_fn2 rfl ?_
          refine ld_loc (v := v) x3.ns hm3 ?_
          refine ld_loc (v := .bool typed) x3.ns ((hm _ (by decide)).trans rfl) ?_
          refine ⟨W3.at x3.st.zh, ?_⟩
          exact law_kept typed d W3 x3.st.zh ((hfr.stepU x3.st).deeper x3.ns x3.zl (by rfl)) hn (by show A.depth + 1 + d + 8 < _; omega) (by show A.units + 3 + 3 * d + 200 < _; omega) (x3.st.old _ tb.lt zt) (tb.stepU x3.st) (Node.mono (x2.st.zz.trans S3.zz) hnode) hrl
            fun s4 Z4 c4 us4 S4 hc4 r4 => ⟨Z4, c4, us4, rfl, S4, hc4, r4⟩
      · rintro v4 s4 ⟨Z4, c4, us4, rfl, S4, hc4, r4⟩
        have x4 := x3.call S4
        refine add_lists x4.st.zh (hc.mono S4.zz) hc4 (by have := r4.length; omega) fun s5 Z5 c5 S5 hc5 => ?_
        have x5 := x4.step S5
        refine st_loc x5.ns (fun h6 hn6 hs6 => ?_) rfl rfl
        refine wpAny_execs_nil ?_
        refine ⟨.inl rfl, Z5, _, ((StepW.of_U S4).trans S5.toW).upd (t := s5.toks + 1) rfl x5.zl hs6, hn6, fun y hy => ?_, c5, us ++ us4, rfl, hc5, ?_⟩
        · have h1 : y ≠ Str.ofString "row" := fun q => hy (by simp [q])
          show (if y = Str.ofString "row" then _ else m3 y) = _
          rw [if_neg h1]
          exact hm y hy
        · rw [et]
          exact (r.mono fun _ _ x => x.mono (S4.zz.trans S5.zz)).append (r4.mono fun _ _ x => x.mono S5.zz)
    case fin =>
      rintro Z3 s3 m3 S3 hn3 hm ⟨c, us, hrow, hc, r⟩
      have x3 := x2.loop hW S3 hn3
      have W3 := W2.mono S3.zz
      rw [List.take_of_length_le (by rw [R.length]; exact Nat.le_refl _)] at r
      have hul : us.length ≤ 1000000 := by
        have h1 := r.length
        have h2 := map_length_le (cls typed) rows
        omega
      have zt3 := x3.st.old _ tb.lt zt
      have tb3 := tb.stepU x3.st
      refine wpAny_execs_cons ?_
      refine wpAny_If ?_
      refine wpAny_isTrue_value ?_
      refine ld_loc (v := .bool typed) x3.ns ((hm _ (by decide)).trans rfl) ?_
      refine wpAny_truthy_bool ?_
      cases typed with
      | true =>
        refine wpAny_execs_cons ?_
        refine wpAny_Return_some ?_
        refine comp_val (fun i Z y => ∃ p, (dedup (cls true) rows.flatten)[i]? = some p ∧ IsVal Z p y) (fun i Z Z' y k ⟨p, e, x⟩ => ⟨p, e, x.mono k⟩) (by decide) (by decide) rfl (by decide) rfl ?_ (fun x => rfl)
        refine Call_Name rfl ?_
        refine ld_fn (v := .ref 29) (W3.at x3.st.zh) rfl ?_
        refine cw_fn1 rfl ?_
        refine Call_Name rfl ?_
        refine ld_bi (v := .type "list") (W3.at x3.st.zh) rfl Boot.«list» ?_
        refine callWith_type1 (Calls.spliced_cons ?_)
        refine Call_Name rfl ?_
        refine ld_fn (v := .ref 43) (W3.at x3.st.zh) rfl ?_
        refine cw_fn1 rfl ?_
        refine ld_loc (v := .ref c) x3.ns hrow ?_
        refine ⟨W3.at x3.st.zh, ?_⟩
        refine vti W3 x3.st.zh hn (by show A.depth + 1 + 2 < _; omega) zt3 tb3 hc r ?_
        intro s4 ga g C I S4 hga0 hC0 hI0 hzga hzC hzI hgC hgI hga1 hC1 hI1 G
        have x4 := x3.call S4
        refine Calls.spliced_nil ?_
        have hrl : ((rows.map (dedup (cls true))).flatten).length ≤ 1000000 := by rw [← r.length]; exact hul
        refine list_gen W3 x4.st.zh hn (by show A.depth + 1 < _; omega) hzga hzC hzI hgC hgI hga1 hC1 hI1 hrl G ?_
        intro s5 Z5 c5 us5 S5 hc5 r5
        have S45 : StepU Z3 s3 Z5 s5 := ((StepW.of_U S4).trans S5).toU (by rintro b (rfl | rfl); exact hC0; exact hI0)
        have x5 := x3.call S45
        have W5 := W3.mono S45.zz
        refine ⟨W5.at x5.st.zh, ?_⟩
        have hus5 : us5.length ≤ 1000000 := by rw [r5.length]; exact hrl
        refine dedup_un (typed := true) W5 x5.st.zh (.inl hn) (by show A.depth + 1 + 2 < _; omega) (by show A.units + 3 + 60 < _; omega) hc5 r5 hus5 ?_
        intro s6 Z6 c6 us6 S6 hc6 r6
        have x6 := x5.call S6
        rw [dedup_flatten] at r6
        have hus6 : us6.length ≤ 1000000 := by
          have h1 : us6.length = (dedup (cls true) rows.flatten).length := r6.length
          have h2 := dedup_length (cls true) rows.flatten
          omega
        refine ⟨c6, us6, Z6, rfl, .inl hn, x6.st.zh, hc6, hus6, ?_, ?_⟩
        · intro i v Z1 s1 m1 C E' hv S1 hns1 hm1 Q' hQ'
          obtain ⟨p, hp, hpair⟩ := r6.get i v hv
          obtain ⟨tp, x, rfl, ht, hx⟩ := (show IsPair Z6 p v from hpair)
          refine Subscript_ ?_
          refine ld_loc (v := .ref tp) (env := compEnv _ C _) hns1 hm1 ?_
          refine wpAny_Constant_int ?_
          refine item_tup (Z := Z1) S1.zh (ht.mono S1.zz) (by decide) (by decide) rfl ?_
          exact hQ' _ Z1 x (StepW.refl S1.zh).tk ⟨p, hp, hx.mono S1.zz⟩
        · intro s7 Z7 D us7 S7 hD hul7 hP
          refine h s7 Z7 D us7 (x6.st.trans S7) hD (rows_of_get ?_ fun i a ha => ?_)
          · rw [hul7]; exact r6.length
          · obtain ⟨p, e, x⟩ := hP i a ha
            exact ⟨p, e, x⟩
      | false =>
        refine wpAny_execs_nil ?_
        refine wpAny_execs_cons ?_
        refine wpAny_Return_some ?_
        refine Call_Name rfl ?_
        refine ld_bi (v := .type "list") (W3.at x3.st.zh) rfl Boot.«list» ?_
        refine callWith_type1 (Calls.spliced_cons ?_)
        refine wpAny_Call_Name_kw ?_
        refine ld_fn (v := .ref 22) (W3.at x3.st.zh) rfl ?_
        refine cw_kw1 rfl rfl ?_
        refine ld_loc (v := .ref c) x3.ns hrow ?_
        refine wpAny_evalAll_cons ?_
        refine wpAny_bind ?_
        refine wpAny_Constant_bool ?_
        refine wpAny_bind (wpAny_standAt (wpAny_pure ?_))
        refine wpAny_evalAll_nil ?_
        refine ⟨W3.at x3.st.zh, ?_⟩
        have big3 : sysModules < s3.heap.objs.size := (W3.at x3.st.zh).big
        refine dedup_fn W3 x3.st.zh ((hfr.stepU x3.st).deeper x3.ns x3.zl (by rfl)) hn (by show A.depth + 1 + 4 < _; omega) (by show A.units + 3 + 150 < _; omega) hc r hul ?_ ?_
        · intro s4 dd_ es n S4 hd0 hzd hdo hR
          refine Calls.spliced_nil ?_
          rw [dedup_flatten] at hR
          have hes : es.size ≤ 1000000 := by
            have h1 : es.toList.length = (dedup (cls false) rows.flatten).length := hR.length
            have h2 := dedup_length (cls false) rows.flatten
            simp at h1
            omega
          have x4 := x3.call S4
          refine list_dict hn x4.st.zh (Nat.lt_of_lt_of_le big3 hd0) hdo hR hes ?_
          intro s5 Z5 c5 us5 S5 hc5 r5
          exact h s5 Z5 c5 us5 (x4.st.trans S5) hc5 r5
        · intro s4 Z4 c4 us4 S4 hc4 r4
          refine Calls.spliced_nil ?_
          rw [dedup_flatten] at r4
          have x4 := x3.call S4
          have hus4 : us4.length ≤ 1000000 := by
            have h1 : us4.length = (dedup (cls false) rows.flatten).length := r4.length
            have h2 := dedup_length (cls false) rows.flatten
            omega
          refine copy_list x4.st.zh hc4 (by rw [sizeLine_eq]; omega) fun h5 n5 hk5 ht5 => ?_
          have S5 : StepU Z4 s4 Z4 { s4 with heap := h5, toks := s4.toks } := ((Step.refl x4.st.zh).keeps hk5 (Nat.le_of_lt (Heap.lt_size ht5))).toW
          have hz5 : Z4 s4.heap.objs.size = none := x4.st.none_of_new
          exact h _ _ _ us4 ((x4.st.trans S5).freeze x4.st.sz ht5 hz5) ⟨n5, put_self _ _ _⟩ (r4.mono fun _ _ x => x.mono (Sub.put hz5))
end
end Mine

namespace Mine
open SeqAt MeetsSeq AutoSeq1

/-! the plain law of the sort, for keys that are all other -/
def Sp (n : Nat) (lt : Nat → Nat → Bool) {α : Type} : KasT α → (α → Prop) → Prop
  | .ret a, Q => Q a
  | .ask i j k, Q => i < n ∧ j < n ∧ Sp n lt (k (lt i j)) Q
theorem Sp.mono {n : Nat} {lt : Nat → Nat → Bool} {α : Type} {Q Q' : α → Prop} (h : ∀ a, Q a → Q' a) : ∀ {t : KasT α}, Sp n lt t Q → Sp n lt t Q'
  | .ret a, x => h a x
  | .ask i j k, ⟨a, b, x⟩ => ⟨a, b, Sp.mono h x⟩
theorem Sp.bind {n : Nat} {lt : Nat → Nat → Bool} {α β : Type} {f : α → KasT β} {Q : β → Prop} : ∀ {t : KasT α}, Sp n lt t (fun a => Sp n lt (f a) Q) → Sp n lt (t.bind f) Q
  | .ret a, x => x
  | .ask i j k, ⟨a, b, x⟩ => ⟨a, b, Sp.bind x⟩
theorem Sp.wp {n : Nat} {lt : Nat → Nat → Bool} {α : Type} {cmp : Nat → Nat → (Bool → Shared → Prop) → Shared → Prop} {s : Shared} (hc : ∀ i j (C : Bool → Shared → Prop), i < n → j < n → C (lt i j) s → cmp i j C s) {Q : α → Prop} {G : α → Shared → Prop} (h : ∀ a, Q a → G a s) :
    ∀ {t : KasT α}, Sp n lt t Q → t.kasWp cmp G s
  | .ret a, x => h a x
  | .ask i j k, ⟨a, b, x⟩ => hc i j _ a b (Sp.wp hc h x)

section
variable {n : Nat} {c : Nat → Nat}
abbrev K (c : Nat → Nat) (p : Array Nat) (i : Nat) : Nat := c (p.getD i 0)
def Ok (n : Nat) (p : Array Nat) : Prop := p.toList.Perm (List.range n)
theorem Ok.size {p : Array Nat} (h : Ok n p) : p.size = n := by have := h.length_eq; simpa using this
theorem Ok.at {p : Array Nat} (h : Ok n p) {i : Nat} (hi : i < n) : p.getD i 0 < n := by
  have hs := h.size
  have hi' : i < p.size := by omega
  have e : p.getD i 0 = p[i] := by simp [Array.getD, hi']
  rw [e]
  have := h.mem_iff.mp (show p[i] ∈ p.toList by simp)
  simpa using this
theorem Ok.inj {p : Array Nat} (h : Ok n p) {i j : Nat} (hi : i < n) (hj : j < n) (e : p.getD i 0 = p.getD j 0) : i = j := by
  have hs := h.size
  have hi' : i < p.size := by omega
  have hj' : j < p.size := by omega
  have hnd : p.toList.Nodup := h.nodup_iff.mpr List.nodup_range
  have e1 : p.getD i 0 = p.toList[i] := by simp [Array.getD, hi']
  have e2 : p.getD j 0 = p.toList[j] := by simp [Array.getD, hj']
  rw [e1, e2] at e
  exact (List.getElem_inj hnd).mp e
def Asc (c : Nat → Nat) (p : Array Nat) (m : Nat) : Prop := ∀ i j, i ≤ j → j < m → K c p i ≤ K c p j
def Des (c : Nat → Nat) (p : Array Nat) (m : Nat) : Prop := ∀ i j, i < j → j < m → K c p j < K c p i
abbrev clt (c : Nat → Nat) : Nat → Nat → Bool := fun i j => decide (c i < c j)

theorem Asc.snoc {p : Array Nat} {m : Nat} (h : Asc c p m) (hm : 1 ≤ m) (e : K c p (m - 1) ≤ K c p m) : Asc c p (m + 1) := by
  intro i j hij hj
  rcases Nat.lt_or_ge j m with hj' | hj'
  · exact h i j hij hj'
  · have : j = m := by omega
    subst this
    rcases Nat.lt_or_ge i j with hi | hi
    · exact Nat.le_trans (h i (j - 1) (by omega) (by omega)) e
    · have : i = j := by omega
      subst this; exact Nat.le_refl _
theorem Des.snoc {p : Array Nat} {m : Nat} (h : Des c p m) (hm : 1 ≤ m) (e : K c p m < K c p (m - 1)) : Des c p (m + 1) := by
  intro i j hij hj
  rcases Nat.lt_or_ge j m with hj' | hj'
  · exact h i j hij hj'
  · have : j = m := by omega
    subst this
    rcases Nat.lt_or_ge i (j - 1) with hi | hi
    · exact Nat.lt_trans e (h i (j - 1) hi (by omega))
    · have : i = j - 1 := by omega
      subst this; exact e

theorem sp_asc {p : Array Nat} (hp : Ok n p) : ∀ (f m : Nat), 1 ≤ m → m + f = n → Asc c p m → Sp n (clt c) (kas_asc p f m) (fun m' => m ≤ m' ∧ m' ≤ n ∧ Asc c p m' ∧ (m' = n ∨ K c p m' < K c p (m' - 1)))
  | 0, m, h1, hn, ha => ⟨Nat.le_refl _, by omega, ha, .inl (by omega)⟩
  | f + 1, m, h1, hn, ha => by
    refine ⟨hp.at (by omega), hp.at (by omega), ?_⟩
    by_cases hlt : K c p m < K c p (m - 1)
    · rw [show clt c (p.getD m 0) (p.getD (m - 1) 0) = true from decide_eq_true hlt]
      simp only [if_true]
      exact ⟨Nat.le_refl _, by omega, ha, .inr hlt⟩
    · rw [show clt c (p.getD m 0) (p.getD (m - 1) 0) = false from decide_eq_false hlt]
      simp only [Bool.false_eq_true, if_false]
      exact (sp_asc hp f (m + 1) (by omega) (by omega) (ha.snoc h1 (Nat.le_of_not_lt hlt))).mono fun m' ⟨a, b, d⟩ => ⟨by omega, b, d⟩

variable (hinj : ∀ i j, i < n → j < n → c i = c j → i = j)
include hinj
theorem K_ne {p : Array Nat} (hp : Ok n p) {i j : Nat} (hi : i < n) (hj : j < n) (h : i ≠ j) : K c p i ≠ K c p j := fun e => h (hp.inj hi hj (hinj _ _ (hp.at hi) (hp.at hj) e))
theorem sp_desc {p : Array Nat} (hp : Ok n p) : ∀ (f m : Nat), 2 ≤ m → m + f = n → Des c p m → Sp n (clt c) (kas_desc f p m 0) (fun r => r.1 = p ∧ r.2.2 = 0 ∧ 2 ≤ r.2.1 ∧ r.2.1 ≤ n ∧ Des c p r.2.1)
  | 0, m, h1, hn, hd => ⟨rfl, rfl, h1, by show m ≤ n; omega, hd⟩
  | f + 1, m, h1, hn, hd => by
    refine ⟨hp.at (by omega), hp.at (by omega), ?_⟩
    by_cases hlt : K c p m < K c p (m - 1)
    · rw [show clt c (p.getD m 0) (p.getD (m - 1) 0) = true from decide_eq_true hlt]
      simp only [if_true]
      rw [if_neg (by decide)]
      exact sp_desc hp f (m + 1) (by omega) (by omega) (hd.snoc (by omega) hlt)
    · rw [show clt c (p.getD m 0) (p.getD (m - 1) 0) = false from decide_eq_false hlt]
      simp only [Bool.false_eq_true, if_false]
      have hne := K_ne hinj hp (i := m) (j := m - 1) (by omega) (by omega) (by omega)
      have hlt2 : K c p (m - 1) < K c p m := by omega
      refine ⟨hp.at (by omega), hp.at (by omega), ?_⟩
      rw [show clt c (p.getD (m - 1) 0) (p.getD m 0) = true from decide_eq_true hlt2]
      simp only [if_true]
      exact ⟨rfl, rfl, h1, by show m ≤ n; omega, hd⟩
omit hinj in
theorem rev_ok {p : Array Nat} (hp : Ok n p) (i j : Nat) : Ok n (kas_rev p i j) := (Array.perm_iff_toList_perm.mp (mirror_perm p i j _)).trans hp
omit hinj in
theorem rev_asc {p : Array Nat} (hp : Ok n p) {m : Nat} (hm : m ≤ n) (hd : Des c p m) : Asc c (kas_rev p 0 m) m := by
  have hs := hp.size
  have e : ∀ i, i < m → (kas_rev p 0 m).getD i 0 = p.getD (m - 1 - i) 0 := by
    intro i hi
    have h1 := getElem?_mirror_all (xs := p) (i := 0) (j := m) (by omega) i
    rw [if_pos ⟨Nat.zero_le _, hi⟩] at h1
    rw [Array.getD_eq_getD_getElem?, Array.getD_eq_getD_getElem?]
    show ((mirror p 0 m ((m - 0) / 2))[i]?).getD 0 = _
    rw [h1]
    congr 2
    omega
  intro i j hij hj
  show c _ ≤ c _
  rw [e i (by omega), e j hj]
  rcases Nat.lt_or_ge i j with h | h
  · exact Nat.le_of_lt (hd (m - 1 - j) (m - 1 - i) (by omega) (by omega))
  · have : i = j := by omega
    subst this; exact Nat.le_refl _
theorem sp_count {p : Array Nat} (hp : Ok n p) (h2 : 2 ≤ n) : Sp n (clt c) (kas_count n p) (fun r => Ok n r.2 ∧ 1 ≤ r.1 ∧ r.1 ≤ n ∧ Asc c r.2 r.1) := by
  unfold kas_count
  refine Sp.bind ((sp_asc (c := c) hp (n - 1) 1 (Nat.le_refl _) (by omega) (fun i j hij hj => by
    have : i = j := by omega
    subst this; exact Nat.le_refl _)).mono fun m ⟨h1, hm, ha, hend⟩ => ?_)
  by_cases he : (m == n) = true
  · rw [if_pos he]
    exact ⟨hp, h1, hm, ha⟩
  · rw [if_neg he]
    have hmn : m ≠ n := by simpa using he
    have hlt : K c p m < K c p (m - 1) := hend.resolve_left hmn
    by_cases hm1 : m > 1
    · rw [if_pos hm1]
      refine ⟨hp.at (by omega), hp.at (by omega), ?_⟩
      have h01 := ha 0 (m - 1) (by omega) (by omega)
      have hne := K_ne hinj hp (i := 0) (j := m - 1) (by omega) (by omega) (by omega)
      rw [show clt c (p.getD 0 0) (p.getD (m - 1) 0) = true from decide_eq_true (by show K c p 0 < K c p (m - 1); omega)]
      simp only [if_true]
      exact ⟨hp, h1, hm, ha⟩
    · rw [if_neg hm1]
      have hm' : m = 1 := by omega
      subst hm'
      unfold kas_descPart
      refine Sp.bind ((sp_desc hinj hp (n - 2) 2 (Nat.le_refl _) (by omega) (fun i j hij hj => by
        have h1 : i = 0 := by omega
        have h2 : j = 1 := by omega
        subst h1 h2; exact hlt)).mono fun r ⟨e1, e2, h3, h4, hd⟩ => ?_)
      obtain ⟨p', m', q⟩ := r
      simp only at e1 e2 h3 h4 hd
      subst e1 e2
      rw [if_neg (by simp)]
      unfold kas_tail3
      refine Sp.bind ((sp_asc (c := c) (rev_ok hp 0 m') (n - m') m' (by omega) (by omega) (rev_asc hp h4 hd)).mono fun m2 ⟨a1, a2, a3, _⟩ => ?_)
      exact ⟨rev_ok hp 0 m', by show 1 ≤ m2; omega, a2, a3⟩
omit hinj in
theorem sp_place {p : Array Nat} (hp : Ok n p) {k : Nat} (hk : k < n) (ha : Asc c p k) : ∀ (f l r : Nat), r - l ≤ f → l ≤ r → r ≤ k → (∀ i, i < l → K c p i ≤ K c p k) → (∀ i, r ≤ i → i < k → K c p k ≤ K c p i) →
    Sp n (clt c) (kas_place p k f l r) (fun l' => l' ≤ k ∧ (∀ i, i < l' → K c p i ≤ K c p k) ∧ (∀ i, l' ≤ i → i < k → K c p k ≤ K c p i))
  | 0, l, r, hf, hlr, hr, h1, h2 => ⟨by omega, h1, fun i hi => h2 i (by omega)⟩
  | f + 1, l, r, hf, hlr, hr, h1, h2 => by
    rw [kas_place]
    by_cases hge : l ≥ r
    · rw [if_pos hge]
      exact ⟨by show l ≤ k; omega, h1, fun i hi => h2 i (by omega)⟩
    · rw [if_neg hge]
      have hm1 : l ≤ (l + r) / 2 := by omega
      have hm2 : (l + r) / 2 < r := by omega
      refine ⟨hp.at hk, hp.at (by omega), ?_⟩
      by_cases hlt : K c p k < K c p ((l + r) / 2)
      · rw [show clt c (p.getD k 0) (p.getD ((l + r) / 2) 0) = true from decide_eq_true hlt]
        simp only [if_true]
        exact sp_place hp hk ha f l ((l + r) / 2) (by omega) hm1 (by omega) h1 fun i hi hik => Nat.le_trans (Nat.le_of_lt hlt) (ha _ _ hi hik)
      · rw [show clt c (p.getD k 0) (p.getD ((l + r) / 2) 0) = false from decide_eq_false hlt]
        simp only [Bool.false_eq_true, if_false]
        exact sp_place hp hk ha f ((l + r) / 2 + 1) r (by omega) (by omega) hr (fun i hi => Nat.le_trans (ha i ((l + r) / 2) (by omega) (by omega)) (Nat.le_of_not_lt hlt)) h2
omit hinj in
theorem sp_bin : ∀ (f : Nat) (p : Array Nat) (k : Nat), Ok n p → 1 ≤ k → k + f = n → Asc c p k → Sp n (clt c) (kas_bin f p k) (fun p' => Ok n p' ∧ Asc c p' n)
  | 0, p, k, hp, h1, hn, ha => ⟨hp, by have : k = n := by omega
                                       subst this; exact ha⟩
  | f + 1, p, k, hp, h1, hn, ha => by
    rw [kas_bin]
    refine Sp.bind ((sp_place hp (by omega) ha k 0 k (by omega) (Nat.zero_le _) (Nat.le_refl _) (fun i hi => absurd hi (Nat.not_lt_zero _)) (fun i h1 h2 => absurd h2 (by omega))).mono fun l ⟨hl, hlo, hhi⟩ => ?_)
    have hs := hp.size
    have e : ∀ i, (bubble p k (k - l)).getD i 0 = if i = l then p.getD k 0 else if l < i ∧ i ≤ k then p.getD (i - 1) 0 else p.getD i 0 := by
      intro i
      have h1 := getElem?_bubble (xs := p) (src := k) (by omega) (k - l) (by omega) i
      have e1 : k - (k - l) = l := by omega
      rw [e1] at h1
      rw [Array.getD_eq_getD_getElem?, h1]
      split
      · rw [Array.getD_eq_getD_getElem?]
      · split
        · rw [Array.getD_eq_getD_getElem?]
        · rw [Array.getD_eq_getD_getElem?]
    refine sp_bin f _ (k + 1) ((Array.perm_iff_toList_perm.mp (bubble_perm p k (k - l))).trans hp) (by omega) (by omega) ?_
    intro i j hij hj
    show c _ ≤ c _
    rw [e i, e j]
    by_cases hi1 : i = l
    · rw [if_pos hi1]
      by_cases hj1 : j = l
      · rw [if_pos hj1]; exact Nat.le_refl _
      · rw [if_neg hj1, if_pos ⟨by omega, by omega⟩]
        exact hhi (j - 1) (by omega) (by omega)
    · rw [if_neg hi1]
      by_cases hi2 : l < i ∧ i ≤ k
      · rw [if_pos hi2, if_neg (by omega), if_pos ⟨by omega, by omega⟩]
        exact ha (i - 1) (j - 1) (by omega) (by omega)
      · rw [if_neg hi2]
        by_cases hj1 : j = l
        · rw [if_pos hj1]
          exact hlo i (by omega)
        · rw [if_neg hj1]
          by_cases hj2 : l < j ∧ j ≤ k
          · rw [if_pos hj2]
            exact ha i (j - 1) (by omega) (by omega)
          · rw [if_neg hj2]
            exact ha i j hij (by omega)
theorem sp_sort (h2 : 2 ≤ n) : Sp n (clt c) (kas_sort n) (fun p => Ok n p ∧ Asc c p n) := by
  unfold kas_sort
  refine Sp.bind ((sp_count hinj (p := List.toArray (List.range n)) (List.Perm.refl _) h2).mono fun r ⟨hp, h1, hr, ha⟩ => ?_)
  by_cases hlt : r.1 < n
  · rw [if_pos hlt]
    have e : max r.1 1 = r.1 := by omega
    rw [e]
    exact sp_bin (n - r.1) r.2 r.1 hp h1 (by omega) ha
  · rw [if_neg hlt]
    have e : r.1 = n := by omega
    exact ⟨hp, e ▸ ha⟩
end
end Mine

namespace Mine
open SeqAt MeetsSeq AutoSeq1

def IsMark (Z : Zp) (v : Value) (m : Nat × Nat) : Prop := ∃ a t1 t2, v = .ref a ∧ tupZ Z a [.int m.1 t1, .int m.2 t2]
theorem IsMark.mono {Z Z' : Zp} {v : Value} {m : Nat × Nat} (h : IsMark Z v m) (k : Sub Z Z') : IsMark Z' v m := let ⟨a, t1, t2, e, h⟩ := h; ⟨a, t1, t2, e, h.mono k⟩
def mcode (m : Nat × Nat) : Nat := m.1 * 100 + m.2

theorem marks_tups {Z : Zp} {h : Heap} (hz : Sub Z h.get?) {vs : List Value} {ms : List (Nat × Nat)} (R : Rows2 (IsMark Z) vs ms) : ∃ fs, KatTups h vs fs ∧ fs.length = vs.length ∧ ∀ v ∈ fs, ∃ i t, v = .int i t := by
  induction R with
  | nil => exact ⟨[], .nil, rfl, fun _ h => by simp at h⟩
  | @cons v0 m0 _ _ x _ ih =>
    obtain ⟨fs, k, hl, hf⟩ := ih
    obtain ⟨a, t1, t2, rfl, n, e⟩ := x
    refine ⟨.int (m0.1 : Int) t1 :: fs, KatTups.cons (hz _ _ e) rfl rfl (by simp) k, by simp [hl], fun v hv => ?_⟩
    rcases List.mem_cons.mp hv with rfl | hv
    · exact ⟨_, _, rfl⟩
    · exact hf v hv

section
variable {prog : Program} {w : World} {A : Around} {E : Value → Shared → Prop} {s : Shared} {Z : Zp}
theorem mark_lt {m1 m2 : Nat × Nat} {v1 v2 : Value} {Q : Bool → Shared → Prop} (hz : Sub Z s.heap.get?) (h1 : IsMark Z v1 m1) (h2 : IsMark Z v2 m2) (b1 : m1.2 < 100) (b2 : m2.2 < 100) (h : Q (decide (mcode m1 < mcode m2)) s) :
    wpAny (model prog w) A (keyLt' (tuples' true) v1 v2) Q E s := by
  obtain ⟨a, t1, t2, rfl, n, e⟩ := h1
  obtain ⟨a', t1', t2', rfl, n', e'⟩ := h2
  obtain ⟨x1, y1⟩ := m1
  obtain ⟨x2, y2⟩ := m2
  simp only at b1 b2 e e'
  refine kat_lt (hz _ _ e) rfl (hz _ _ e') rfl ?_
  show KatLex prog w A true (decide (2 < 2)) Q [(.int x1 t1, .int x2 t1'), (.int y1 t2, .int y2 t2')] 0 s
  refine kat_cons (wpAny_eqBool_int ?_)
  cases hx : ((x1 : Int) == x2) with
  | true =>
    have ex : x1 = x2 := by have := eq_of_beq hx; omega
    subst ex
    refine kat_yes (kat_cons (wpAny_eqBool_int ?_))
    cases hy : ((y1 : Int) == y2) with
    | true =>
      have ey : y1 = y2 := by have := eq_of_beq hy; omega
      subst ey
      refine kat_yes (kat_nil ?_)
      simpa using h
    | false =>
      refine kat_no (kat_one _ _ (lt_int ?_))
      show Q (decide ((y1 : Int) < y2)) s
      have : decide ((y1 : Int) < y2) = decide (mcode (x1, y1) < mcode (x1, y2)) := by
        rw [decide_eq_decide]; simp only [mcode]; omega
      rw [this]; exact h
  | false =>
    have hne : x1 ≠ x2 := fun q => by subst q; simp at hx
    refine kat_no (oneLt_int ?_)
    have : decide ((x1 : Int) < x2) = decide (mcode (x1, y1) < mcode (x2, y2)) := by
      rw [decide_eq_decide]; simp only [mcode]; omega
    rw [this]; exact h

theorem map_perm_range {α : Type} (ms : List α) (d : α) : (List.range ms.length).map (fun i => ms.getD i d) = ms := by
  refine List.ext_getElem (by simp) fun i h1 h2 => ?_
  simp [List.getD_eq_getElem?_getD, List.getElem?_eq_getElem h2]

/-- list.sort of marks that are all other -/
theorem sort_marks {a : Addr} {vs : List Value} {ms : List (Nat × Nat)} {n : Nat} {P : PySem.Fin → Shared → Prop} (hz : Sub Z s.heap.get?) (ho : s.heap.get? a = some (seqObj "list" vs.toArray n)) (hza : Z a = none) (R : Rows2 (IsMark Z) vs ms) (hnd : ms.Nodup) (hb : ∀ m ∈ ms, m.2 < 100) (h64 : vs.length < 64)
    (h : ∀ (out : List Value) (ms' : List (Nat × Nat)), out.length = vs.length → Rows2 (IsMark Z) out ms' → ms'.Perm ms → ms'.Pairwise (fun a b => mcode a ≤ mcode b) → P (.done (.ret .none)) { s with heap := sortedHeap s.heap a vs out.toArray }) :
    wpAny (model prog w) A (Builtin.«list.sort» ⟨[.ref a], []⟩) P E s := by
  rw [list_sort_plain]
  have ha : a < s.heap.objs.size := Heap.lt_size ho
  refine wpAny_bind (listItems_at ho rfl ?_)
  refine wpAny_bind (listUpdate_at ho rfl ?_ (by rw [List.size_toArray, sizeLine_eq]; omega) (Nat.zero_le _))
  obtain ⟨e1, ho1⟩ : ∃ e1, (s.heap.update a (Obj.mapSeq fun _ => #[])).get? a = some (seqObj "list" #[] e1) := ⟨_, get?_update_seq ho (fun _ => #[])⟩
  refine wpAny_bind (seqEpoch_at ho1 rfl ?_)
  refine wpAny_bind (wpAny_newTuple ?_ (by show vs.length ≤ _; rw [sizeLine_eq]; omega))
  refine wpAny_bind (wpAny_newList ?_ (Nat.zero_le _))
  refine wpAny_holding ?_
  have ho6 : (((s.heap.update a (Obj.mapSeq fun _ => #[])).push (seqObj "tuple" vs.toArray 0)).push (seqObj "list" #[] 0)).get? a = some (seqObj "list" #[] e1) := by
    rw [Heap.get?_push_ne _ _ _ (by rw [size_push', Heap.size_update]; exact Nat.ne_of_lt (Nat.lt_succ_of_lt ha)), Heap.get?_push_ne _ _ _ (by rw [Heap.size_update]; exact Nat.ne_of_lt ha)]
    exact ho1
  show wpAny (model prog w) A _ P E { s with heap := ((s.heap.update a (Obj.mapSeq fun _ => #[])).push (seqObj "tuple" vs.toArray 0)).push (seqObj "list" #[] 0) }
  dsimp only
  have hz6 : Sub Z (((s.heap.update a (Obj.mapSeq fun _ => #[])).push (seqObj "tuple" vs.toArray 0)).push (seqObj "list" #[] 0)).get? := fun b o e =>
    Heap.get?_push_of_some _ (Heap.get?_push_of_some _ ((Heap.get?_update_other _ _ (fun q : a = b => by rw [← q, hza] at e; cases e)).trans (hz b o e)))
  have hlen := R.length
  by_cases h2 : vs.toArray.size < 2
  · rw [if_pos h2, if_pos h2]
    refine wpAny_bind (wpAny_pure ?_)
    rw [StateT.run_pure]
    refine wpAny_bind (wpAny_pure ?_)
    dsimp only
    refine wpAny_bind (seqEpoch_at ho6 rfl ?_)
    refine wpAny_bind (listUpdate_at ho6 rfl ?_ (hsz2 := by rw [Array.size_map]; show (pairsOf vs).size ≤ _; rw [pairsOf_size, sizeLine_eq]; omega))
    simp only [bne_self_eq_false, Bool.false_eq_true, if_false]
    have e : (arrOf (SortSt.mk' general' (vs.toArray.zip vs.toArray) #[] 7 none)).map (·.2) = vs.toArray := by
      show (vs.toArray.zip vs.toArray).map (·.2) = _
      apply Array.ext
      · simp
      · intro i h1 h2; simp
    rw [e]
    refine wpAny_pure (h vs ms rfl R (List.Perm.refl _) ?_)
    rw [List.size_toArray] at h2
    match ms, hlen with
    | [], _ => exact .nil
    | [_], _ => exact List.pairwise_singleton _ _
    | _ :: _ :: _, hl => simp at hl; omega
  · rw [if_neg h2, if_neg h2]
    rw [List.size_toArray] at h2
    obtain ⟨fs, kt, hfl, hfi⟩ := marks_tups hz6 R
    refine wpAny_bind (kat_kind (s := { s with heap := ((s.heap.update a (Obj.mapSeq fun _ => #[])).push (seqObj "tuple" vs.toArray 0)).push (seqObj "list" #[] 0) }) (T := .type "int") kt (by omega) (fun v hv => by obtain ⟨i, t, rfl⟩ := hfi v hv; exact Looks.of_pure rfl) (by decide) ?_)
    have hat : ∀ i, i < vs.length → ∃ m, ms.getD i (0, 0) = m ∧ m ∈ ms ∧ IsMark Z (vs.getD i Value.none) m := by
      intro i hi
      obtain ⟨m, hm, r⟩ := R.get i _ (List.getElem?_eq_getElem hi)
      refine ⟨m, by rw [List.getD_eq_getElem?_getD, hm]; rfl, List.mem_of_getElem? hm, ?_⟩
      rw [List.getD_eq_getElem?_getD, List.getElem?_eq_getElem hi]; exact r
    have hinj : ∀ i j, i < vs.length → j < vs.length → mcode (ms.getD i (0, 0)) = mcode (ms.getD j (0, 0)) → i = j := by
      intro i j hi hj e
      obtain ⟨m1, e1, mm1, _⟩ := hat i hi
      obtain ⟨m2, e2, mm2, _⟩ := hat j hj
      rw [e1, e2] at e
      have b1 := hb _ mm1
      have b2 := hb _ mm2
      have em : m1 = m2 := by
        obtain ⟨x1, y1⟩ := m1
        obtain ⟨x2, y2⟩ := m2
        simp only [mcode] at e b1 b2
        have h1 : x1 = x2 := by omega
        have h2 : y1 = y2 := by omega
        rw [h1, h2]
      have hi' : i < ms.length := by omega
      have hj' : j < ms.length := by omega
      rw [List.getD_eq_getElem?_getD, List.getElem?_eq_getElem hi'] at e1
      rw [List.getD_eq_getElem?_getD, List.getElem?_eq_getElem hj'] at e2
      simp only [Option.getD_some] at e1 e2
      exact (List.getElem_inj hnd).mp (e1.trans (em.trans e2.symm))
    have ask : (kas_sort vs.length).kasWp (kas_ask prog w A (tuples' true) vs) (fun p s' => s' = { s with heap := ((s.heap.update a (Obj.mapSeq fun _ => #[])).push (seqObj "tuple" vs.toArray 0)).push (seqObj "list" #[] 0) } ∧ Ok vs.length p ∧ Asc (fun i => mcode (ms.getD i (0, 0))) p vs.length)
        { s with heap := ((s.heap.update a (Obj.mapSeq fun _ => #[])).push (seqObj "tuple" vs.toArray 0)).push (seqObj "list" #[] 0) } := by
      refine Sp.wp (n := vs.length) (lt := clt fun i => mcode (ms.getD i (0, 0))) ?_ (Q := fun p => Ok vs.length p ∧ Asc (fun i => mcode (ms.getD i (0, 0))) p vs.length) (fun p hp => ⟨rfl, hp⟩) (sp_sort hinj (by omega))
      intro i j C hi hj hC
      obtain ⟨m1, e1, mm1, k1⟩ := hat i hi
      obtain ⟨m2, e2, mm2, k2⟩ := hat j hj
      refine mark_lt (s := { s with heap := ((s.heap.update a (Obj.mapSeq fun _ => #[])).push (seqObj "tuple" vs.toArray 0)).push (seqObj "list" #[] 0) }) hz6 k1 k2 (hb _ mm1) (hb _ mm2) ?_
      have hC' : C (decide (mcode (ms.getD i (0, 0)) < mcode (ms.getD j (0, 0)))) { s with heap := ((s.heap.update a (Obj.mapSeq fun _ => #[])).push (seqObj "tuple" vs.toArray 0)).push (seqObj "list" #[] 0) } := hC
      rw [e1, e2] at hC'
      exact hC'
    refine wpAny_bind (wpAny_mono (kat_run (Q := fun st' s' => ∃ p : Array Nat, p.size = vs.length ∧ arrOf st' = p.map (kas_item (vs.toArray.zip vs.toArray)) ∧ failedOf st' = none ∧ s' = { s with heap := ((s.heap.update a (Obj.mapSeq fun _ => #[])).push (seqObj "tuple" vs.toArray 0)).push (seqObj "list" #[] 0) } ∧ Ok vs.length p ∧ Asc (fun i => mcode (ms.getD i (0, 0))) p vs.length)
      rfl (by omega) h64 (fun p' st' s' a1 a2 a3 a4 => ⟨p', a1, a2, a3, a4⟩) ask) ?_ fun _ _ e => e)
    rintro ⟨⟨⟩, st'⟩ s' ⟨p, hp, har, hf, rfl, hok, hasc⟩
    dsimp only
    have hout := kat_snds rfl har
    rw [hout]
    refine wpAny_bind (seqEpoch_at ho6 rfl ?_)
    refine wpAny_bind (listUpdate_at ho6 rfl ?_ (Nat.zero_le _) (by simp; rw [hp, sizeLine_eq]; omega))
    rw [hf]
    simp only [bne_self_eq_false, Bool.false_eq_true, if_false]
    refine wpAny_pure (h (p.toList.map fun i => vs.getD i Value.none) (p.toList.map fun i => ms.getD i (0, 0)) (by simp [hp]) ?_ ?_ ?_)
    · refine rows_of_get (by simp) fun i v hv => ?_
      rw [List.getElem?_map] at hv
      cases hpi : p.toList[i]? with
      | none => rw [hpi] at hv; cases hv
      | some k =>
        rw [hpi] at hv
        cases hv
        have hk : k < vs.length := by
          have := hok.mem_iff.mp (List.mem_of_getElem? hpi)
          simpa using this
        obtain ⟨m, e, _, r⟩ := hat k hk
        exact ⟨m, by rw [List.getElem?_map, hpi, ← e]; rfl, r⟩
    · have h1 := hok.map (fun i => ms.getD i (0, 0))
      rw [hlen, map_perm_range] at h1
      exact h1
    · rw [List.pairwise_iff_getElem]
      intro i j hi hj hij
      have hi' : i < p.size := by simpa using hi
      have hj' : j < p.size := by simpa using hj
      have h1 := hasc i j (Nat.le_of_lt hij) (by rw [← hp]; exact hj')
      rw [List.getElem_map, List.getElem_map]
      have g : ∀ i (hi : i < p.size), p.getD i 0 = p.toList[i]'(by simpa using hi) := fun i hi => by simp [Array.getD, hi]
      simp only [K] at h1
      rw [g i hi', g j hj'] at h1
      exact h1

/-- sorted(marks) -/
theorem sorted_marks {l : Addr} {vs : List Value} {ms : List (Nat × Nat)} {n : Nat} {Q : Value → Shared → Prop} (hz : Sub Z s.heap.get?) (ho : s.heap.get? l = some (lobj vs n)) (R : Rows2 (IsMark Z) vs ms) (hnd : ms.Nodup) (hb : ∀ m ∈ ms, m.2 < 100) (h64 : vs.length < 64)
    (h : ∀ s' Z' c us ms', Step Z s Z' s' → lstZ Z' c us → Rows2 (IsMark Z') us ms' → ms'.Perm ms → ms'.Pairwise (fun a b => mcode a ≤ mcode b) → Q (.ref c) s') :
    wpAny (model prog w) A (call (.builtin "sorted") [.ref l]) Q E s := by
  refine Calls.call_function_entry kind_sorted plain_sorted entry_sorted (args_sorted1 _) ?_
  unfold Builtin.«sorted»
  refine wpAny_bind (m := checkCount "sorted" 1 1 _) (wpAny_pure ?_)
  refine wpAny_bind (collect_list ⟨_, ho, rfl, n, rfl⟩ ?_ (by rw [sizeLine_eq]; omega))
  refine wpAny_bind (wpAny_newList ?_ (by rw [sizeLine_eq]; omega))
  have hsz : ((s.heap.push (seqObj "list" #[] 0)).update s.heap.objs.size (Obj.mapSeq (· ++ vs.toArray))).objs.size = s.heap.objs.size + 1 := by
    rw [Heap.size_update, size_push']
  have hoL : (((s.heap.push (seqObj "list" #[] 0)).update s.heap.objs.size (Obj.mapSeq (· ++ vs.toArray))).push (seqObj "list" vs.toArray 0)).get? (s.heap.objs.size + 1) = some (seqObj "list" vs.toArray 0) := by
    rw [← hsz]; exact Heap.get?_push_size _ rfl
  have keep : ∀ b o, s.heap.get? b = some o → (((s.heap.push (seqObj "list" #[] 0)).update s.heap.objs.size (Obj.mapSeq (· ++ vs.toArray))).push (seqObj "list" vs.toArray 0)).get? b = some o := fun b o q => by
    have hlt : b < s.heap.objs.size := Heap.lt_size q
    rw [Heap.get?_push_ne _ _ _ (by rw [hsz]; exact Nat.ne_of_lt (Nat.lt_succ_of_lt hlt)), Heap.get?_update_ne _ _ _ _ (Nat.ne_of_lt hlt), Heap.get?_push_ne _ _ _ (Nat.ne_of_lt hlt)]
    exact q
  show wpAny _ _ _ _ _ { s with heap := ((s.heap.push (seqObj "list" #[] 0)).update s.heap.objs.size (Obj.mapSeq (· ++ vs.toArray))).push (seqObj "list" vs.toArray 0) }
  rw [hsz]
  have hz0 : ∀ b, s.heap.objs.size ≤ b → Z b = none := fun b hb => by
    cases e : Z b with
    | none => rfl
    | some o => exact absurd (Heap.lt_size (hz _ _ e)) (Nat.not_lt.mpr hb)
  refine wpAny_bind (wpAny_holding (wpAny_call_entry slot_list_sort ⟨_, hoL, rfl⟩ entry_list_sort (sort_marks (Z := Z) (s := { s with heap := ((s.heap.push (seqObj "list" #[] 0)).update s.heap.objs.size (Obj.mapSeq (· ++ vs.toArray))).push (seqObj "list" vs.toArray 0) })
    (fun b o e => keep b o (hz b o e)) hoL (hz0 _ (Nat.le_succ _)) R hnd hb h64 fun out ms' hol a1 a2 a3 => ⟨_, rfl, ?_⟩) (args_list_sort _)))
  refine wpAny_pure ⟨_, rfl, ?_⟩
  have hoF : ∃ k, (sortedHeap (((s.heap.push (seqObj "list" #[] 0)).update s.heap.objs.size (Obj.mapSeq (· ++ vs.toArray))).push (seqObj "list" vs.toArray 0)) (s.heap.objs.size + 1) vs out.toArray).get? (s.heap.objs.size + 1) = some (lobj out k) := by
    have hlt : s.heap.objs.size + 1 < (((s.heap.push (seqObj "list" #[] 0)).update s.heap.objs.size (Obj.mapSeq (· ++ vs.toArray))).push (seqObj "list" vs.toArray 0)).objs.size := Heap.lt_size hoL
    unfold sortedHeap
    obtain ⟨e1, ho1⟩ : ∃ e1, ((((s.heap.push (seqObj "list" #[] 0)).update s.heap.objs.size (Obj.mapSeq (· ++ vs.toArray))).push (seqObj "list" vs.toArray 0)).update (s.heap.objs.size + 1) (Obj.mapSeq fun _ => #[])).get? (s.heap.objs.size + 1) = some (seqObj "list" #[] e1) := ⟨_, get?_update_seq hoL (fun _ => #[])⟩
    exact ⟨_, get?_update_seq (Heap.get?_push_of_some _ (Heap.get?_push_of_some _ ho1)) (fun _ => out.toArray)⟩
  have keepF : ∀ b o, s.heap.get? b = some o → (sortedHeap (((s.heap.push (seqObj "list" #[] 0)).update s.heap.objs.size (Obj.mapSeq (· ++ vs.toArray))).push (seqObj "list" vs.toArray 0)) (s.heap.objs.size + 1) vs out.toArray).get? b = some o := fun b o q => by
    have hne : s.heap.objs.size + 1 ≠ b := Nat.ne_of_gt (Nat.lt_succ_of_lt (Heap.lt_size q))
    unfold sortedHeap
    exact (Heap.get?_update_other _ _ hne).trans (Heap.get?_push_of_some _ (Heap.get?_push_of_some _ ((Heap.get?_update_other _ _ hne).trans (keep b o q))))
  obtain ⟨k, hk⟩ := hoF
  have S := (Step.refl hz).keeps (t := s.toks) keepF (Nat.le_of_lt (Nat.lt_of_succ_lt (Heap.lt_size hk)))
  have hzc : Z (s.heap.objs.size + 1) = none := hz0 _ (Nat.le_succ _)
  have S2 := S.freeze (Nat.le_succ _) hk hzc
  exact h _ _ _ out ms' S2 ⟨k, put_self _ _ _⟩ (a1.mono fun _ _ x => x.mono (Sub.put hzc)) a2 a3
end
end Mine

namespace Mine
open SeqAt MeetsSeq AutoSeq1

/-! the heap never shrinks -/
theorem runs_size {M : Model} {Γ : Ctx} {p : Pos} {t : Sem PySem.Fin} {fs : List Frame} {s s' : Shared} {e : End} (h : Runs M Γ p t fs s e s') : s.heap.objs.size ≤ s'.heap.objs.size := by
  induction h <;> (try simp only [Shared.setGen, Heap.size_push, Heap.size_after_update] at *) <;> omega
theorem wakes_size {M : Model} {Γ : Ctx} {p : Pos} {g : Nat} {r : Resume} {s s' : Shared} {res : GenResult} (h : Wakes M Γ p g r s res s') : s.heap.objs.size ≤ s'.heap.objs.size := by
  unfold Wakes at h
  split at h
  · exact h.elim
  · split at h
    · obtain ⟨e₁, s₁, hr, _, _, rfl⟩ := h; exact (runs_size hr : (s.setGen g .running).heap.objs.size ≤ s₁.heap.objs.size)
    · rw [h.2]; exact Nat.le_refl _
    · rw [h.2]; exact Nat.le_refl _
  · obtain ⟨e₁, s₁, hr, _, _, rfl⟩ := h; exact (runs_size hr : (s.setGen g .running).heap.objs.size ≤ s₁.heap.objs.size)
  · rw [h.2]; exact Nat.le_refl _
  · rw [h.2]; exact Nat.le_refl _
theorem wp_size {α : Type} (M : Model) (Γ : Ctx) (n : Nat) (t : Sem α) : ∀ (Q : α → Pos → Shared → Prop) (E : Value → Pos → Shared → Prop) (p : Pos) (s : Shared), n ≤ s.heap.objs.size → Sem.wp M Γ t Q E p s →
    Sem.wp M Γ t (fun a p' s' => n ≤ s'.heap.objs.size ∧ Q a p' s') (fun e p' s' => n ≤ s'.heap.objs.size ∧ E e p' s') p s := by
  induction t with
  | pure a => intro Q E p s hn h; exact ⟨hn, h⟩
  | raise e => intro Q E p s hn h; exact ⟨hn, h⟩
  | unsupported _ => intro Q E p s _ h; exact h
  | finish _ => intro Q E p s _ h; exact h
  | rule _ k ih => intro Q E p s hn h; exact ih () Q E p s hn h
  | «at» p' k ih => intro Q E p s hn h; exact ih () Q E p' s hn h
  | load a _ k ih => intro Q E p s hn h; obtain ⟨o, ho, h⟩ := h; exact ⟨o, ho, ih o Q E p s hn h⟩
  | update a _ f k ih => intro Q E p s hn h; exact ⟨h.1, ih () Q E p _ (by show _ ≤ (Heap.update ..).objs.size; rw [Heap.size_after_update]; exact hn) h.2⟩
  | loadIfAlive a k ih => intro Q E p s hn h; exact ih _ Q E p s hn h
  | point _ k ih => intro Q E p s hn h; exact ih () Q E p s hn h
  | register _ _ => intro Q E p s _ h; exact h
  | alloc o k ih => intro Q E p s hn h; exact ih _ Q E p _ (by show _ ≤ (Heap.push ..).objs.size; rw [Heap.size_push]; exact Nat.le_succ_of_le hn) h
  | fresh k ih => intro Q E p s hn h; exact ih _ Q E p _ hn h
  | ask k ih => intro Q E p s hn h; exact ih _ Q E p s hn h
  | choose src m k ih => intro Q E p s hn h; exact ⟨h.1, ih _ Q E p _ hn h.2⟩
  | os q _ k ih => intro Q E p s hn h; exact ih _ Q E p _ hn h
  | call c hd _ _ k ih => intro Q E p s hn h; obtain ⟨r, s', hr, h⟩ := h; exact ⟨r, s', hr, ih r Q E p s' (Nat.le_trans hn (runs_size hr)) h⟩
  | handled own k ih => intro Q E p s hn h; exact ih _ Q E p s hn h
  | genState g k ih => intro Q E p s hn h; obtain ⟨st, hs, h⟩ := h; exact ⟨st, hs, ih _ Q E p s hn h⟩
  | newGen c k ih => intro Q E p s hn h; exact ih _ Q E p _ hn h
  | resume g r _ k ih => intro Q E p s hn h; obtain ⟨res, s', hw, h⟩ := h; exact ⟨res, s', hw, ih res Q E p s' (Nat.le_trans hn (wakes_size hw)) h⟩
  | yield _ _ _ _ => intro Q E p s _ h; exact h
  | stack k ih => intro Q E p s hn h; exact ih _ Q E p s hn h
  | fork _ _ => intro Q E p s _ h; exact h
  | thread k ih => intro Q E p s hn h; exact ih _ Q E p s hn h
  | await _ _ _ _ _ => intro Q E p s _ h; exact h
theorem with_size {α : Type} {M : Model} {A : Around} {s : Shared} {t : Sem α} {Q : α → Shared → Prop} {E : Value → Shared → Prop}
    (h : wpAny M A t (fun a s' => s.heap.objs.size ≤ s'.heap.objs.size → Q a s') (fun e s' => s.heap.objs.size ≤ s'.heap.objs.size → E e s') s) : wpAny M A t Q E s :=
  wpAny_mono (Q := fun a s' => s.heap.objs.size ≤ s'.heap.objs.size ∧ (s.heap.objs.size ≤ s'.heap.objs.size → Q a s')) (E := fun e s' => s.heap.objs.size ≤ s'.heap.objs.size ∧ (s.heap.objs.size ≤ s'.heap.objs.size → E e s'))
    (fun Γ p hΓ => wp_size M Γ s.heap.objs.size t _ _ p s (Nat.le_refl _) (h Γ p hΓ)) (fun _ _ x => x.2 x.1) (fun _ _ x => x.2 x.1)

section
variable {prog : Program} {w : World} {A : Around} {E : Value → Shared → Prop} {s : Shared} {Z : Zp}
def reprOf (p : Nat) : Str := (valD p).shown
theorem valD_show {p : Nat} (h : p < 18) : (valD p).showable = true ∧ (valD p).depth ≤ 4 ∧ (reprOf p).length ≤ 100 := by
  have : ∀ p, p < 18 → (valD p).showable = true ∧ (valD p).depth ≤ 4 ∧ (reprOf p).length ≤ 100 := by decide +kernel
  exact this p h
theorem valD_dict {p : Nat} (h : p < 18) (hp : isDic p = false) : (valD p).hasDict = false := by
  have : ∀ p, p < 18 → isDic p = false → (valD p).hasDict = false := by decide +kernel
  exact this p h hp
theorem repr_ref {p : Nat} {a : Addr} {Q : Value → Shared → Prop} (x : IsVal Z p (.ref a)) (hz : Sub Z s.heap.get?) (hg : A.guards = some []) (hu : A.units + 20 < cLine) (h : ∀ s' t, Step Z s Z s' → Q (.str (reprOf p) t) s') :
    wpAny (model prog w) A (call (.builtin "repr") [.ref a]) Q E s := by
  obtain ⟨h1, h2, h3⟩ := valD_show x.lt
  refine with_size ?_
  have go : ∀ as, Reads s.heap (.ref a) (valD p) as → ((valD p).hasDict = true → sysModules ∉ as) → wpAny (model prog w) A (call (.builtin "repr") [.ref a]) (fun a s' => s.heap.objs.size ≤ s'.heap.objs.size → Q a s') (fun e s' => s.heap.objs.size ≤ s'.heap.objs.size → E e s') s := fun as r hd =>
    repr_of_reads' r h1 hd hg (by omega) (fun _ _ e => e) (fun h' u tk hk hsz => h _ u ((Step.refl hz).keeps (t := tk) hk hsz)) (by rw [sizeLine_eq]; exact Nat.le_trans h3 (by decide))
  obtain ⟨as, ⟨r, hm⟩ | ⟨r, hd⟩⟩ := x.readsAs hz
  · exact go as r fun _ => hm
  · exact go as r fun q => by rw [valD_dict x.lt hd] at q; cases q

theorem repr_val {p : Nat} {v : Value} {Q : Value → Shared → Prop} (x : IsVal Z p v) (hz : Sub Z s.heap.get?) (hg : A.guards = some []) (hu : A.units + 20 < cLine) (h : ∀ s' t, Step Z s Z s' → Q (.str (reprOf p) t) s') :
    wpAny (model prog w) A (call (.builtin "repr") [v]) Q E s := by
  have h' : ∀ (r : Str), r = reprOf p → Q (.str r s.toks) { s with toks := s.toks + 1 } := fun r e => by rw [e]; exact h _ _ (Step.refl hz).tk
  cases x with
  | i0 t => exact P.repr_of_int (by decide) (h' _ (by decide +kernel))
  | bf => exact P.repr_of_bool (h' _ (by decide +kernel))
  | i1 t => exact P.repr_of_int (by decide) (h' _ (by decide +kernel))
  | bt => exact P.repr_of_bool (h' _ (by decide +kernel))
  | s0 t => exact P.repr_of_str (h' _ (by decide +kernel)) (by rw [sizeLine_eq]; decide +kernel)
  | s1 t => exact P.repr_of_str (h' _ (by decide +kernel)) (by rw [sizeLine_eq]; decide +kernel)
  | s2 t => exact P.repr_of_str (h' _ (by decide +kernel)) (by rw [sizeLine_eq]; decide +kernel)
  | non => exact P.repr_of_none (h' _ (by decide +kernel))
  | t0 l => exact repr_ref (.t0 l) hz hg hu h
  | t1 l => exact repr_ref (.t1 l) hz hg hu h
  | t2 l => exact repr_ref (.t2 l) hz hg hu h
  | l0 l => exact repr_ref (.l0 l) hz hg hu h
  | l1 l => exact repr_ref (.l1 l) hz hg hu h
  | l2 l => exact repr_ref (.l2 l) hz hg hu h
  | d0 l => exact repr_ref (.d0 l) hz hg hu h
  | d1 l => exact repr_ref (.d1 l) hz hg hu h
  | d2 l => exact repr_ref (.d2 l) hz hg hu h
  | m1 t => exact P.repr_of_int (by decide) (h' _ (by decide +kernel))
end
end Mine

namespace Mine
open SeqAt MeetsSeq AutoSeq1

section
variable {prog : Program} {w : World} {A : Around} {E : Value → Shared → Prop} {s : Shared} {Z : Zp} {env : Env}
theorem assign2 {x y : Str} {px py pt : Pos} {k : Nat} {t : Addr} {a b : Value} {m : Str → Option Value} {Q : Unit → Shared → Prop} (hh : A.handled = none) (ht : s.heap.IsTuple t #[a, b]) (N : s.heap.Ns env.locals m)
    (h : ∀ h' tk, h'.Ns env.locals (fun z => if z = y then some b else if z = x then some a else m z) → (∀ c o, c ≠ env.locals → s.heap.get? c = some o → h'.get? c = some o) → s.heap.objs.size ≤ h'.objs.size → Q () { s with heap := h', toks := tk })
    (hk : env.scope.kind = .function := by rfl) (hx : env.kindOf x = some .local := by rfl) (hy : env.kindOf y = some .local := by rfl) :
    wpAny (model prog w) A (assign (.Tuple [.Name x px, .Name y py] k pt) env (.ref t)) Q E s := by
  refine with_size ?_
  refine wpAny_assign_Tuple hh ht rfl rfl fun h₁ hx₁ => ?_
  have old₁ : ∀ b o, s.heap.get? b = some o → h₁.get? b = some o := fun b o e => hx₁ b o (Nat.ne_of_lt (Heap.lt_size e)) e
  show wpAny _ _ (do holding [b] (assign (.Name x px) env a); do holding [] (assign (.Name y py) env b); pure ()) _ _ _
  refine wpAny_bind (wpAny_holding (wpAny_assign_Name (wpAny_storeName_local hx (N.keeps old₁) (fun h₂ hn₂ hs₂ => ?_) (by rw [hk]; rfl))))
  refine wpAny_bind (wpAny_holding (wpAny_assign_Name (wpAny_storeName_local hy hn₂ (fun h₃ hn₃ hs₃ => wpAny_pure ?_) (by rw [hk]; rfl))))
  intro hsz
  exact h h₃ _ hn₃ (fun c o hc e => (hs₃.2 c hc).trans ((hs₂.2 c hc).trans (old₁ c o e))) hsz
theorem assign3 {x y z : Str} {px py pz pt : Pos} {k : Nat} {t : Addr} {a b c : Value} {m : Str → Option Value} {Q : Unit → Shared → Prop} (hh : A.handled = none) (ht : s.heap.IsTuple t #[a, b, c]) (N : s.heap.Ns env.locals m)
    (h : ∀ h' tk, h'.Ns env.locals (fun u => if u = z then some c else if u = y then some b else if u = x then some a else m u) → (∀ c o, c ≠ env.locals → s.heap.get? c = some o → h'.get? c = some o) → s.heap.objs.size ≤ h'.objs.size → Q () { s with heap := h', toks := tk })
    (hk : env.scope.kind = .function := by rfl) (hx : env.kindOf x = some .local := by rfl) (hy : env.kindOf y = some .local := by rfl) (hz : env.kindOf z = some .local := by rfl) :
    wpAny (model prog w) A (assign (.Tuple [.Name x px, .Name y py, .Name z pz] k pt) env (.ref t)) Q E s := by
  refine with_size ?_
  refine wpAny_assign_Tuple hh ht rfl rfl fun h₁ hx₁ => ?_
  have old₁ : ∀ b o, s.heap.get? b = some o → h₁.get? b = some o := fun b o e => hx₁ b o (Nat.ne_of_lt (Heap.lt_size e)) e
  show wpAny _ _ (do holding [b, c] (assign (.Name x px) env a); do holding [c] (assign (.Name y py) env b); do holding [] (assign (.Name z pz) env c); pure ()) _ _ _
  refine wpAny_bind (wpAny_holding (wpAny_assign_Name (wpAny_storeName_local hx (N.keeps old₁) (fun h₂ hn₂ hs₂ => ?_) (by rw [hk]; rfl))))
  refine wpAny_bind (wpAny_holding (wpAny_assign_Name (wpAny_storeName_local hy hn₂ (fun h₃ hn₃ hs₃ => ?_) (by rw [hk]; rfl))))
  refine wpAny_bind (wpAny_holding (wpAny_assign_Name (wpAny_storeName_local hz hn₃ (fun h₄ hn₄ hs₄ => wpAny_pure ?_) (by rw [hk]; rfl))))
  intro hsz
  exact h h₄ _ hn₄ (fun d o hc e => (hs₄.2 d hc).trans ((hs₃.2 d hc).trans ((hs₂.2 d hc).trans (old₁ d o e)))) hsz

/-- the locals are turned, the rest stays -/
theorem StepW.locals {W : Addr → Prop} {Z Z' : Zp} {s s' : Shared} (x : StepW W Z s Z' s') {h' : Heap} {L : Addr} {t : Nat} (ha : W L) (hz : Z' L = none) (hk : ∀ c o, c ≠ L → s'.heap.get? c = some o → h'.get? c = some o) (hsz : s'.heap.objs.size ≤ h'.objs.size) : StepW W Z s Z' { s' with heap := h', toks := t } :=
  x.keeps' (fun b o e e2 => hk b o (fun q => by rw [q, hz] at e; cases e) e2) (fun b o w hb e => hk b o (fun q => w (q ▸ ha)) e) hsz
theorem At.locals {Z0 : Zp} {s0 : Shared} {L : Addr} {m m' : Str → Option Value} (x : At Z0 s0 L m Z s) {h' : Heap} {t : Nat} (ns : h'.Ns L m') (hk : ∀ c o, c ≠ L → s.heap.get? c = some o → h'.get? c = some o) (hsz : s.heap.objs.size ≤ h'.objs.size) : At Z0 s0 L m' Z { s with heap := h', toks := t } :=
  ⟨x.st.keeps' (fun b o e e2 => hk b o (fun q => by rw [q, x.zl] at e; cases e) e2) (fun b o w hb e => hk b o (Nat.ne_of_lt (Nat.lt_of_lt_of_le hb x.above)) e) hsz, ns, x.zl, x.above⟩

theorem mark_same {v : Value} {m1 m2 : Nat × Nat} (h1 : IsMark Z v m1) (h2 : IsMark Z v m2) : m1 = m2 := by
  obtain ⟨a, t1, t2, rfl, e⟩ := h1
  obtain ⟨a', t1', t2', e0, e'⟩ := h2
  cases e0
  have := tup_same e e'
  obtain ⟨x1, y1⟩ := m1
  obtain ⟨x2, y2⟩ := m2
  simp at this
  obtain ⟨⟨h1, _⟩, h2, _⟩ := this
  have g1 : x1 = x2 := by omega
  have g2 : y1 = y2 := by omega
  rw [g1, g2]
theorem mark_eq {v u : Value} {m1 m2 : Nat × Nat} (h1 : IsMark Z v m1) (h2 : IsMark Z u m2) (hz : Sub Z s.heap.get?) (hu : A.units + 5 < cLine) : EqAt A s v u (m1 == m2) := by
  by_cases hvu : v = u
  · subst hvu
    have := mark_same h1 h2
    subst this
    rw [beq_self_eq_true]
    exact EqAt.same v
  · obtain ⟨a, t1, t2, rfl, n, e⟩ := h1
    obtain ⟨a', t1', t2', rfl, n', e'⟩ := h2
    have hne : a ≠ a' := fun q => hvu (by rw [q])
    obtain ⟨x1, y1⟩ := m1
    obtain ⟨x2, y2⟩ := m2
    refine EqAt.of_refs hne ?_
    have := RcAt.tuples (A := A) (s := s) (l := a) (b := a') (items := #[.int x1 t1, .int y1 t2]) (items2 := #[.int x2 t1', .int y2 t2']) (e := fun j => if j = 0 then ((x1 : Int) == x2) else ((y1 : Int) == y2)) ⟨_, hz _ _ e, rfl, n, rfl⟩ ⟨_, hz _ _ e', rfl, n', rfl⟩ (by omega) (fun j h1 h2 => by
      match j, h1 with
      | 0, _ => exact EqAt.int_int _ _ _ _
      | 1, _ => exact EqAt.int_int _ _ _ _
      | j + 2, h1 => exact absurd h1 (by simp))
    have e1 : ((x1, y1) == (x2, y2)) = ((List.range (min (#[Value.int x1 t1, .int y1 t2]).size (#[Value.int x2 t1', .int y2 t2']).size)).all (fun j => if j = 0 then ((x1 : Int) == x2) else ((y1 : Int) == y2)) && (#[Value.int x1 t1, .int y1 t2]).size == (#[Value.int x2 t1', .int y2 t2']).size) := by
      show ((x1 == x2) && (y1 == y2)) = ((((x1 : Int) == x2) && (((y1 : Int) == y2) && true)) && true)
      have h1 : ((x1 : Int) == x2) = (x1 == x2) := by rw [Bool.eq_iff_iff]; simp; omega
      have h2 : ((y1 : Int) == y2) = (y1 == y2) := by rw [Bool.eq_iff_iff]; simp; omega
      rw [h1, h2]; simp
    rw [e1]
    exact this
open Classical in
noncomputable def hitsM (Z : Zp) (m : Nat × Nat) (y : Value) : Bool := decide (∃ q, IsMark Z y q ∧ (q == m) = true)
open Classical in
theorem hitsM_eq {m q : Nat × Nat} {y : Value} (h : IsMark Z y q) : hitsM Z m y = (q == m) := by
  unfold hitsM
  cases e : (q == m) with
  | true => exact decide_eq_true ⟨q, h, e⟩
  | false => exact decide_eq_false fun ⟨q', h', e'⟩ => by rw [mark_same h' h, e] at e'; cases e'
theorem hitsM_any {m : Nat × Nat} {vs : List Value} {ms : List (Nat × Nat)} (R : Rows2 (IsMark Z) vs ms) : vs.any (hitsM Z m) = ms.any (fun q => q == m) := by
  induction R with
  | nil => rfl
  | cons x _ ih => rw [List.any_cons, List.any_cons, ih, hitsM_eq x]
theorem notIn_marks {c : Addr} {vs : List Value} {ms : List (Nat × Nat)} {n : Nat} {x : Value} {m : Nat × Nat} {Q : Value → Shared → Prop} (hz : Sub Z s.heap.get?) (ho : s.heap.get? c = some (lobj vs n))
    (R : Rows2 (IsMark Z) vs ms) (hx : IsMark Z x m) (hu : A.units + 10 < cLine) (h : Q (.bool (!ms.any (fun q => q == m))) s) : wpAny (model prog w) A (compareOp .NotIn x (.ref c)) Q E s := by
  refine notIn_listAt (hitsM Z m) ⟨_, ho, rfl, n, rfl⟩ (fun y hy => ?_) ?_
  · obtain ⟨q, _, hq⟩ := R.mem (by simpa using hy)
    rw [hitsM_eq hq]
    exact mark_eq hq hx hz (by show A.units + 1 + 5 < _; omega)
  · rw [List.any_toArray, hitsM_any R]
    exact h
end

def StrIs (v : Value) (x : Str) : Prop := ∃ t, v = .str x t

theorem places_bound : ∀ (n : Nat) (l : List Nat), l.Nodup → (∀ x ∈ l, x < n) → l.length ≤ n
  | 0, l, _, h => by
    cases l with
    | nil => exact Nat.le_refl _
    | cons a _ => exact absurd (h a (.head _)) (Nat.not_lt_zero _)
  | n + 1, l, hn, h => by
    have h1 := places_bound n (l.erase n) (hn.erase _) (fun x hx => by
      have h2 := (List.Nodup.mem_erase_iff hn).mp hx
      have := h x h2.2
      have h3 := h2.1
      omega)
    have h2 := List.length_erase (a := n) (l := l)
    split at h2 <;> omega
theorem dedup_bound {typed : Bool} {ps : List Nat} (h : ∀ p ∈ ps, p < 18) : (dedup (cls typed) ps).length ≤ 18 := by
  refine places_bound 18 _ ((dedup_distinct (cls typed) ps).imp fun hne e => hne (by rw [e])) fun x hx => ?_
  have : ∀ (ps acc : List Nat), (∀ p ∈ ps, p < 18) → (∀ p ∈ acc, p < 18) → ∀ x ∈ dd (cls typed) acc ps, x < 18 := by
    intro ps
    induction ps with
    | nil => intro acc _ ha x hx; exact ha x hx
    | cons p ps ih =>
      intro acc hp ha x hx
      rw [dd] at hx
      split at hx
      · exact ih acc (fun q hq => hp q (.tail _ hq)) ha x hx
      · refine ih (acc ++ [p]) (fun q hq => hp q (.tail _ hq)) (fun q hq => ?_) x hx
        rcases List.mem_append.mp hq with hq | hq
        · exact ha q hq
        · simp at hq; subst hq; exact hp _ (.head _)
  exact this ps [] h (fun _ h => by simp at h) x hx
end Mine

namespace Mine
open SeqAt MeetsSeq AutoSeq1

/-- what _law_marks gives: the sorted marks, the reprs of the firsts -/
def IsTold (Z : Zp) (typed : Bool) (ps : List Nat) (v : Value) : Prop := ∃ t c1 c2 mv ms fv, v = .ref t ∧ tupZ Z t [.ref c1, .ref c2] ∧ lstZ Z c1 mv ∧ Rows2 (IsMark Z) mv ms ∧ ms.Perm ((dedup (cls typed) ps).map (cls typed)) ∧ ms.Pairwise (fun a b => mcode a ≤ mcode b) ∧
  lstZ Z c2 fv ∧ Rows2 StrIs fv ((dedup (cls typed) ps).map reprOf)

theorem cls_small {typed : Bool} {p : Nat} (h : p < 18) : (cls typed p).2 < 100 := by
  have : ∀ typed, ∀ p, p < 18 → (cls typed p).2 < 100 := by decide +kernel
  exact this typed p h
theorem dd_mem {c : Nat → Nat × Nat} : ∀ (ps acc : List Nat) (x : Nat), x ∈ dd c acc ps → x ∈ acc ∨ x ∈ ps
  | [], acc, x, h => .inl h
  | p :: ps, acc, x, h => by
    rw [dd] at h
    split at h
    · exact (dd_mem ps acc x h).imp id fun y => .tail _ y
    · rcases dd_mem ps (acc ++ [p]) x h with h | h
      · rcases List.mem_append.mp h with h | h
        · exact .inl h
        · simp at h; subst h; exact .inr (.head _)
      · exact .inr (.tail _ h)

section
variable {prog : Program} {w : World} {A : Around} {E : Value → Shared → Prop} {s : Shared} {Z : Zp}
theorem law_marks {typed : Bool} {a : Addr} {us : List Value} {ps : List Nat} {Q : Value → Shared → Prop} (W : WZ w Z) (hz : Sub Z s.heap.get?) (hn : A.handled = none) (hg : A.guards = some []) (hd : A.depth + 3 < recursionLimit) (hu : A.units + 100 < cLine)
    (hl : lstZ Z a us) (R : Rows2 IntIs us ps) (h18 : ∀ p ∈ ps, p < 18) (hlen : us.length ≤ 1000000)
    (h : ∀ s' Z' v, StepU Z s Z' s' → IsTold Z' typed ps v → Q v s') : wpAny (model prog w) A (call (.ref 83) [.ref a, .bool typed] []) Q E s := by
  refine' call_fn (binds := [(Str.ofString "row", .ref a), (Str.ofString "typed", .bool typed)]) (W.at hz) (by omega) ?ho ?hcd (BindsTo.of_eq ?hb) ?_ ?hloc ?hcell ?hco ?hgen ?hk
  case ho => exact rfl
  case hcd => exact rfl
  case hb => exact rfl
  case hloc => exact locs rfl
  case hcell => decide
  case hco => rfl
  case hgen => rfl
  case hk => rfl
  intro h' hns hk hsz'
  have x0 := At.enter (t := s.toks + 2) hz hns hk hsz'
  -- table = _law_table()
  refine wpAny_execs_cons ?_
  refine wpAny_Assign_Name ?_
  refine Call_Name0 ?_
  refine ld_fn (v := .ref 50) (W.at x0.st.zh) rfl ?_
  refine cw_fn0 (W.at x0.st.zh) rfl ?_
  refine law_table (Z := Z) (W.at x0.st.zh) x0.st.zh (by show A.depth + 1 < _; omega) fun s1 Z1 T S1 hT => ?_
  have x1 := x0.step S1
  refine st_loc x1.ns (fun h2 hn2 hs2 => ?_) rfl rfl
  have x2 := x1.store (t := s1.toks + 1) hn2 hs2
  obtain ⟨ta, items, rfl, hTl, RT⟩ := hT
  -- marks = []
  refine wpAny_execs_cons ?_
  refine wpAny_Assign_Name ?_
  refine wpAny_List ?_
  refine wpAny_items_nil ?_
  refine ⟨Nat.zero_le _, ?_⟩
  have x3 : At Z s s.heap.objs.size _ Z1 { s1 with heap := h2.push (lobj [] 0), toks := s1.toks + 1 } := x2.step ((Step.refl x2.st.zh).pushM (tk := s1.toks + 1))
  refine st_loc x3.ns (fun h4 hn4 hs4 => ?_) rfl rfl
  have x4 := x3.store (t := s1.toks + 1 + 1) hn4 hs4
  have hLM : s.heap.objs.size ≠ h2.objs.size := Nat.ne_of_lt x2.lt
  have hM4 : h4.get? h2.objs.size = some (lobj [] 0) := (hs4.2 _ (Ne.symm hLM)).trans (Heap.get?_push_size _ rfl)
  have hzM : Z1 h2.objs.size = none := x2.st.none_of_new
  -- firsts = []
  refine wpAny_execs_cons ?_
  refine wpAny_Assign_Name ?_
  refine wpAny_List ?_
  refine wpAny_items_nil ?_
  refine ⟨Nat.zero_le _, ?_⟩
  have x5 : At Z s s.heap.objs.size _ Z1 { s1 with heap := h4.push (lobj [] 0), toks := s1.toks + 1 + 1 } := x4.step ((Step.refl x4.st.zh).pushM (tk := s1.toks + 1 + 1))
  refine st_loc x5.ns (fun h6 hn6 hs6 => ?_) rfl rfl
  have x6 := x5.store (t := s1.toks + 1 + 1 + 1) hn6 hs6
  have hLF : s.heap.objs.size ≠ h4.objs.size := Nat.ne_of_lt x4.lt
  have hMF : h2.objs.size ≠ h4.objs.size := Nat.ne_of_lt (Heap.lt_size hM4)
  have hF6 : h6.get? h4.objs.size = some (lobj [] 0) := (hs6.2 _ (Ne.symm hLF)).trans (Heap.get?_push_size _ rfl)
  have hM6 : h6.get? h2.objs.size = some (lobj [] 0) := (hs6.2 _ (Ne.symm hLM)).trans (Heap.get?_push_of_some _ hM4)
  have hzF : Z1 h4.objs.size = none := x4.st.none_of_new
  refine wpAny_execs_cons ?_
  refine wpAny_For ?_
  refine ld_loc (v := .ref a) x6.ns rfl ?_
  have hW : ∀ b, (b = s.heap.objs.size ∨ b = h2.objs.size ∨ b = h4.objs.size) → s.heap.objs.size ≤ b := by
    rintro b (rfl | rfl | rfl)
    · exact Nat.le_refl _
    · exact x2.st.sz
    · exact x4.st.sz
  have W6 := W.mono x6.st.zz
  refine loop_list (W := fun b => b = s.heap.objs.size ∨ b = h2.objs.size ∨ b = h4.objs.size) (X := [Str.ofString "value", Str.ofString "worth", Str.ofString "kind", Str.ofString "mark"]) (Z := Z1) (its := us)
    (fun i Z' g => ∃ mv n fv k, g h2.objs.size = some (lobj mv n) ∧ Rows2 (IsMark Z') mv ((dedup (cls typed) (ps.take i)).map (cls typed)) ∧ g h4.objs.size = some (lobj fv k) ∧ Rows2 StrIs fv ((dedup (cls typed) (ps.take i)).map reprOf))
    (.inl hn) x6.st.zh (hl.mono S1.zz) x6.ns ?hW (.inl rfl) ?mono ?h0 ?turn ?fin
  case hW =>
    rintro b (rfl | rfl | rfl)
    · exact ⟨x6.lt, x6.zl⟩
    · exact ⟨Heap.lt_size hM6, hzM⟩
    · exact ⟨Heap.lt_size hF6, hzF⟩
  case mono =>
    rintro i Z' g g' hg ⟨mv, n, fv, k, e1, r1, e2, r2⟩
    exact ⟨mv, n, fv, k, hg _ _ (.inr (.inl rfl)) (Ne.symm hLM) e1, r1, hg _ _ (.inr (.inr rfl)) (Ne.symm hLF) e2, r2⟩
  case h0 => exact ⟨[], 0, [], 0, hM6, .nil, hF6, .nil⟩
  case turn =>
    rintro i v Z7 s7 m7 hv S7 hn7 hm7 hm ⟨mv, n, fv, k, hM, rM, hF, rF⟩
    have x7 := x6.loop hW S7 hn7
    obtain ⟨p, hp, t, rfl⟩ := R.get i v hv
    have hp18 : p < 18 := h18 p (List.mem_of_getElem? hp)
    have et : ps.take (i + 1) = ps.take i ++ [p] := by rw [List.take_add_one, hp]; rfl
    obtain ⟨row, hrow, tr, x, k1, k2, rfl, htr, hx⟩ := RT.get' p p (by simp [hp18])
    have htr7 := htr.mono S7.zz
    have hx7 := hx.mono S7.zz
    obtain ⟨nt, etr⟩ := id htr7
    -- value, worth, kind = table[place]
    refine wpAny_execs_cons ?_
    refine Assign_Tuple ?_
    refine Subscript_ ?_
    refine ld_loc (v := .ref ta) x7.ns ((hm _ (by decide)).trans rfl) ?_
    refine ld_loc (v := .int p t) x7.ns hm7 ?_
    refine item_lst (Z := Z7) x7.st.zh (hTl.mono S7.zz) (by omega) (by omega) (by simpa using hrow) ?_
    refine assign3 hn ⟨_, x7.st.zh _ _ etr, rfl, nt, rfl⟩ x7.ns fun h8 tk8 hn8 hk8 hsz8 => ?_
    have hz7M : Z7 h2.objs.size = none := S7.old _ (Heap.lt_size hM6) hzM
    have hz7F : Z7 h4.objs.size = none := S7.old _ (Heap.lt_size hF6) hzF
    have S8 : StepW (fun b => b = s.heap.objs.size ∨ b = h2.objs.size ∨ b = h4.objs.size) Z7 s7 Z7 { s7 with heap := h8, toks := tk8 } := (StepW.refl x7.st.zh).locals (.inl rfl) x7.zl hk8 hsz8
    have x8 := x7.locals (t := tk8) hn8 hk8 hsz8
    have hM8 : h8.get? h2.objs.size = some (lobj mv n) := hk8 _ _ (Ne.symm hLM) hM
    have hF8 : h8.get? h4.objs.size = some (lobj fv k) := hk8 _ _ (Ne.symm hLF) hF
    -- mark = (worth, kind if typed else 0)
    refine wpAny_execs_cons ?_
    refine wpAny_Assign_Name ?_
    refine wpAny_Tuple ?_
    refine wpAny_items_cons ?_ rfl
    refine ld_loc (v := .int (worth p) k1) x8.ns rfl ?_
    refine wpAny_items_cons ?_ rfl
    refine wpAny_mono (Q := fun y s' => ∃ tk k3, s' = { s7 with heap := h8, toks := tk } ∧ y = .int ((cls typed p).2 : Nat) k3) (E := fun _ _ => False) ?_ ?_ (fun _ _ q => q.elim)
    · refine wpAny_IfExp ?_
      refine wpAny_isTrue_value ?_
      refine ld_loc (v := .bool typed) x8.ns ((hm _ (by decide)).trans rfl) ?_
      refine wpAny_truthy_bool ?_
      cases typed with
      | true =>
        show wpAny _ _ (eval _ _) _ _ _
        refine ld_loc (v := .int (kind p) k2) x8.ns rfl ?_
        exact ⟨_, k2, rfl, rfl⟩
      | false =>
        show wpAny _ _ (eval _ _) _ _ _
        refine wpAny_Constant_int ?_
        exact ⟨_, _, rfl, rfl⟩
    rintro y s9 ⟨tk9, k3, rfl, rfl⟩
    refine wpAny_items_nil ?_
    refine ⟨by rw [sizeLine_eq]; simp, ?_⟩
    have x9 : At Z s s.heap.objs.size _ Z7 { s7 with heap := h8, toks := tk9 } := x8.step (Step.refl x8.st.zh).tk
    have S9 : StepW (fun b => b = s.heap.objs.size ∨ b = h2.objs.size ∨ b = h4.objs.size) Z7 s7 Z7 { s7 with heap := h8, toks := tk9 } := S8.trans (Step.refl x8.st.zh).tk.toW
    have SP := (Step.refl x9.st.zh).push (o := { cls := .type "tuple", data := .seq #[.int (worth p) k1, .int ((cls typed p).2 : Nat) k3] }) (tk := tk9)
    have x10 := x9.step SP
    have S10 := S9.trans SP.toW
    have hzP : Z7 h8.objs.size = none := x8.st.none_of_new
    refine st_loc x10.ns (fun h11 hn11 hs11 => ?_) rfl rfl
    have x11 := x10.store (t := tk9 + 1) hn11 hs11
    have S11 : StepW (fun b => b = s.heap.objs.size ∨ b = h2.objs.size ∨ b = h4.objs.size) Z7 s7 _ _ := S10.upd (t := tk9 + 1) (.inl rfl) x10.zl hs11
    have hM11 : h11.get? h2.objs.size = some (lobj mv n) := (hs11.2 _ (Ne.symm hLM)).trans (Heap.get?_push_of_some _ hM8)
    have hF11 : h11.get? h4.objs.size = some (lobj fv k) := (hs11.2 _ (Ne.symm hLF)).trans (Heap.get?_push_of_some _ hF8)
    have hmark : IsMark (put Z7 h8.objs.size { cls := .type "tuple", data := .seq #[.int (worth p) k1, .int ((cls typed p).2 : Nat) k3] }) (.ref h8.objs.size) (cls typed p) := ⟨h8.objs.size, k1, k3, rfl, 0, put_self _ _ _⟩
    have rM11 := rM.mono fun _ _ y => y.mono (Sub.put (o := { cls := .type "tuple", data := .seq #[.int (worth p) k1, .int ((cls typed p).2 : Nat) k3] }) hzP)
    have hz11M : (put Z7 h8.objs.size { cls := .type "tuple", data := .seq #[.int (worth p) k1, .int ((cls typed p).2 : Nat) k3] }) h2.objs.size = none := by rw [put_ne _ (Nat.ne_of_lt (Heap.lt_size hM8))]; exact hz7M
    have hz11F : (put Z7 h8.objs.size { cls := .type "tuple", data := .seq #[.int (worth p) k1, .int ((cls typed p).2 : Nat) k3] }) h4.objs.size = none := by rw [put_ne _ (Nat.ne_of_lt (Heap.lt_size hF8))]; exact hz7F
    have hml : mv.length ≤ 18 := by
      have e1 := rM.length
      rw [List.length_map] at e1
      have e2 : (dedup (cls typed) (ps.take i)).length ≤ 18 := dedup_bound fun q hq => h18 q (List.mem_of_mem_take hq)
      omega
    have hfl : fv.length ≤ 18 := by
      have e1 := rF.length
      rw [List.length_map] at e1
      have e2 : (dedup (cls typed) (ps.take i)).length ≤ 18 := dedup_bound fun q hq => h18 q (List.mem_of_mem_take hq)
      omega
    have hcls : ∀ l : List Nat, (l.map (cls typed)).any (fun q => q == cls typed p) = l.any (fun q => cls typed q == cls typed p) := fun l => by rw [List.any_map]; rfl
    have hdl : (dedup (cls typed) (ps.take i)).length ≤ 18 := dedup_bound fun q hq => h18 q (List.mem_of_mem_take hq)
    refine wpAny_execs_cons ?_
    refine wpAny_If ?_
    refine wpAny_isTrue_Compare1 ?_
    refine ld_loc (v := .ref h8.objs.size) x11.ns rfl ?_
    refine ld_loc (v := .ref h2.objs.size) x11.ns ((hm _ (by decide)).trans rfl) ?_
    refine notIn_marks x11.st.zh hM11 rM11 hmark (by show A.units + 3 + 10 < _; omega) ?_
    refine wpAny_truthy_bool ?_
    rw [hcls]
    cases hany : (dedup (cls typed) (ps.take i)).any (fun q => cls typed q == cls typed p) with
    | true =>
      refine wpAny_execs_nil ?_
      refine wpAny_execs_nil ?_
      have ed : dedup (cls typed) (ps.take (i + 1)) = dedup (cls typed) (ps.take i) := by
        rw [et]; show dd _ [] _ = _; rw [dd_append, dd, if_pos hany]; rfl
      refine ⟨.inl rfl, _, _, S11, x11.ns, ?_, mv, n, fv, k, hM11, by rw [ed]; exact rM11, hF11, by rw [ed]; exact rF⟩
      intro y hy
      simp only [List.mem_cons, List.not_mem_nil, or_false, not_or] at hy
      obtain ⟨g0, g1, g2, g3, g4⟩ := hy
      show (if y = Str.ofString "mark" then _ else if y = Str.ofString "kind" then _ else if y = Str.ofString "worth" then _ else if y = Str.ofString "value" then _ else m7 y) = _
      rw [if_neg g4, if_neg g3, if_neg g2, if_neg g1]
      exact hm y (by simp [g0, g1, g2, g3, g4])
    | false =>
      have ed : dedup (cls typed) (ps.take (i + 1)) = dedup (cls typed) (ps.take i) ++ [p] := by
        rw [et]; show dd _ [] _ = _; rw [dd_append, dd, if_neg (by rw [hany]; simp)]; rfl
      refine wpAny_execs_cons ?_
      refine wpAny_Expr ?_
      refine wpAny_Call_append rfl rfl rfl rfl ?_
      refine ld_loc (v := .ref h2.objs.size) x11.ns ((hm _ (by decide)).trans rfl) ?_
      refine ⟨_, mv.toArray, rfl, ⟨_, n, hM11, rfl, rfl, rfl⟩, ?_⟩
      refine ld_loc (v := .ref h8.objs.size) x11.ns rfl ?_
      refine append_at hM11 (by rw [sizeLine_eq]; omega) fun h12 n12 hM12 hs12 => ?_
      have S12 := S11.upd (t := tk9 + 1) (.inr (.inl rfl)) hz11M hs12
      have x12 := x11.turn (t := tk9 + 1) x2.st.sz hz11M hLM hs12
      have hF12 : h12.get? h4.objs.size = some (lobj fv k) := (hs12.2 _ (Ne.symm hMF)).trans hF11
      refine wpAny_execs_cons ?_
      refine wpAny_Expr ?_
      refine wpAny_Call_append rfl rfl rfl rfl ?_
      refine ld_loc (v := .ref h4.objs.size) x12.ns ((hm _ (by decide)).trans rfl) ?_
      refine ⟨_, fv.toArray, rfl, ⟨_, k, hF12, rfl, rfl, rfl⟩, ?_⟩
      refine Call_Name rfl ?_
      refine ld_bi (v := .builtin "repr") (((W6.mono S7.zz).mono S12.zz).at x12.st.zh) rfl Boot.«repr» ?_
      refine callWith_builtin1 (Calls.spliced_cons ?_)
      refine ld_loc (v := x) x12.ns rfl ?_
      refine Calls.spliced_nil ?_
      refine repr_val (hx7.mono (Sub.put hzP)) x12.st.zh hg (by show A.units + 3 + 20 < _; omega) fun s13 t13 S13 => ?_
      have x13 := x12.step S13
      have S13' := S12.trans S13.toW
      refine append_at (S13.hh _ _ hF12) (by rw [sizeLine_eq]; omega) fun h14 k14 hF14 hs14 => ?_
      have S14 := S13'.upd (t := s13.toks) (.inr (.inr rfl)) hz11F hs14
      have x14 := x13.turn (t := s13.toks) x4.st.sz hz11F hLF hs14
      have hM14 : h14.get? h2.objs.size = some (lobj (mv ++ [.ref h8.objs.size]) n12) := (hs14.2 _ hMF).trans (S13.hh _ _ hM12)
      refine wpAny_execs_nil ?_
      refine wpAny_execs_nil ?_
      refine ⟨.inl rfl, _, _, S14, x14.ns, ?_, mv ++ [.ref h8.objs.size], n12, fv ++ [.str (reprOf p) t13], k14, hM14, ?_, hF14, ?_⟩
      · intro y hy
        simp only [List.mem_cons, List.not_mem_nil, or_false, not_or] at hy
        obtain ⟨g0, g1, g2, g3, g4⟩ := hy
        show (if y = Str.ofString "mark" then _ else if y = Str.ofString "kind" then _ else if y = Str.ofString "worth" then _ else if y = Str.ofString "value" then _ else m7 y) = _
        rw [if_neg g4, if_neg g3, if_neg g2, if_neg g1]
        exact hm y (by simp [g0, g1, g2, g3, g4])
      · rw [ed, List.map_append]
        exact rM11.snoc hmark
      · rw [ed, List.map_append]
        exact rF.snoc ⟨t13, rfl⟩
  case fin =>
    rintro Z7 s7 m7 S7 hn7 hm ⟨mv, n, fv, k, hM, rM, hF, rF⟩
    have x7 := x6.loop hW S7 hn7
    rw [List.take_of_length_le (by rw [R.length]; exact Nat.le_refl _)] at rM rF
    have W7 := W6.mono S7.zz
    have hz7F : Z7 h4.objs.size = none := S7.old _ (Heap.lt_size hF6) hzF
    have hD := dedup_distinct (cls typed) ps
    refine wpAny_execs_cons ?_
    refine wpAny_Return_some ?_
    refine wpAny_Tuple ?_
    refine wpAny_items_cons ?_ rfl
    refine Call_Name rfl ?_
    refine ld_bi (v := .builtin "sorted") (W7.at x7.st.zh) rfl Boot.«sorted» ?_
    refine callWith_builtin1 (Calls.spliced_cons ?_)
    refine ld_loc (v := .ref h2.objs.size) x7.ns ((hm _ (by decide)).trans rfl) ?_
    refine Calls.spliced_nil ?_
    have hml : mv.length < 64 := by
      have e1 := rM.length
      rw [List.length_map] at e1
      have e2 : (dedup (cls typed) ps).length ≤ 18 := dedup_bound h18
      omega
    refine sorted_marks x7.st.zh hM rM ?_ ?_ hml ?_
    · exact List.pairwise_map.mpr hD
    · intro m hm
      obtain ⟨p, hp, rfl⟩ := List.mem_map.mp hm
      rcases dd_mem _ _ _ hp with hp | hp
      · cases hp
      · exact cls_small (h18 p hp)
    · intro s8 Z8 c us8 ms S8 hc r8 hperm hsort
      have x8 := x7.step S8
      refine wpAny_items_cons ?_ rfl
      refine ld_loc (v := .ref h4.objs.size) x8.ns ((hm _ (by decide)).trans rfl) ?_
      refine wpAny_items_nil ?_
      refine ⟨by rw [sizeLine_eq]; simp, ?_⟩
      have hF8 := S8.hh _ _ hF
      have hz8F : Z8 h4.objs.size = none := S8.old _ (Heap.lt_size hF) hz7F
      have S9 := x8.st.freeze x4.st.sz hF8 hz8F
      have S10 := S9.push (o := { cls := .type "tuple", data := .seq #[.ref c, .ref h4.objs.size] }) (tk := s8.toks)
      have hsub := Sub.put (o := lobj fv k) hz8F
      have hsub2 := Sub.put (o := { cls := .type "tuple", data := .seq #[.ref c, .ref h4.objs.size] }) S9.none_of_new
      exact h _ _ _ S10 ⟨_, c, h4.objs.size, us8, ms, fv, rfl, ⟨0, put_self _ _ _⟩, (hc.mono hsub).mono hsub2, (r8.mono fun _ _ y => (y.mono hsub).mono hsub2), hperm, hsort, lstZ.mono ⟨k, put_self _ _ _⟩ hsub2, rF⟩
end
end Mine

namespace Mine
open SeqAt MeetsSeq AutoSeq1

section
variable {prog : Program} {w : World} {A : Around} {E : Value → Shared → Prop} {s : Shared} {Z : Zp}
/-- a for over a list that stays; what is new since the call's start may be turned -/
theorem loop_any {Z0 : Zp} {s0 : Shared} {x : Str} {px : Pos} {body : List Stmt} {env : Env} {a : Addr} {its : List Value} {m : Str → Option Value} {Q : Flow → Shared → Prop} (J : Nat → Shared → (Str → Option Value) → Prop)
    (hok : HOk A Z) (x0 : At Z0 s0 env.locals m Z s) (hl : lstZ Z a its)
    (stab : ∀ i (s1 : Shared) h' tk m1 m2, J i s1 m1 → (∀ b o, b ≠ s.heap.objs.size → b ≠ env.locals → s1.heap.get? b = some o → h'.get? b = some o) → (∀ y, y ≠ x → m2 y = m1 y) → J i { s1 with heap := h', toks := tk } m2) (h0 : J 0 s m)
    (turn : ∀ i v (s1 : Shared) m1, its[i]? = some v → At Z0 s0 env.locals m1 Z s1 → m1 x = some v → s1.heap.IsListIter s.heap.objs.size a (i + 1) → J i s1 m1 →
      wpAny (model prog w) A (execs body env) (fun f s2 => (f = .next ∨ f = .cont) ∧ ∃ m2, At Z0 s0 env.locals m2 Z s2 ∧ s2.heap.IsListIter s.heap.objs.size a (i + 1) ∧ J (i + 1) s2 m2)
        (notedBy (model prog w) A env fun e s' => cameBackBy (model prog w) A env E e s') s1)
    (fin : ∀ (s1 : Shared) m1, At Z0 s0 env.locals m1 Z s1 → J its.length s1 m1 → Q .next s1)
    (hk : env.scope.kind = .function := by rfl) (hx : env.kindOf x = some .local := by rfl) :
    wpAny (model prog w) A (pyIter (.ref a)) (fun it s₂ => codeAny (model prog w) A (.forLoop (.Name x px) it body [] env)
      (fun r s' => match r with | .ok f => Q f s' | .error e => cameBackBy (model prog w) A env E e s') s₂) E s := by
  obtain ⟨nn, el⟩ := hl
  refine wpAny_pyIter_list (items := its.toArray) ⟨_, x0.st.zh _ _ el, rfl, nn, rfl⟩ ?_
  have hI : Z s.heap.objs.size = none := x0.st.none_of_new
  have hI0 : s0.heap.objs.size ≤ s.heap.objs.size := x0.st.sz
  have hne : env.locals ≠ s.heap.objs.size := Nat.ne_of_lt x0.lt
  refine codeAny_forLoop (fun n s1 => ∃ i m1, i + n = its.length ∧ At Z0 s0 env.locals m1 Z s1 ∧ s1.heap.IsListIter s.heap.objs.size a i ∧ J i s1 m1) ?_ its.length ?_
  · rintro n s1 ⟨i, m1, hn, x1, hit, hJ⟩
    have hl1 : s1.heap.IsList a its.toArray := ⟨_, x1.st.zh _ _ el, rfl, nn, rfl⟩
    cases hx1 : its[i]? with
    | none =>
      have hlen : i = its.length := by
        have := List.getElem?_eq_none_iff.mp hx1
        omega
      subst hlen
      refine next_end hok x1.st.zh hI hit hl1 (by simpa using hx1) fun h' hext hsz' => ?_
      refine wpAny_execs_nil ?_
      refine fin { s1 with heap := h', toks := s1.toks } m1 ⟨x1.st.keeps' (fun b o e => hext b o (fun q => by rw [q, hI] at e; cases e)) (fun b o _ hb => hext b o (Nat.ne_of_lt (Nat.lt_of_lt_of_le hb hI0))) hsz', x1.ns.extBut hext hne, x1.zl, x1.above⟩ ?_
      exact stab _ s1 h' s1.toks m1 m1 hJ (fun b o hb _ e => hext b o hb e) fun _ _ => rfl
    | some v =>
      refine wpAny_pyNext_list_item hit hl1 (by simpa using hx1) fun h2 hit2 hs2 => ?_
      refine wpAny_assign_Name (st_loc (x1.ns.sameBut hs2 hne) (fun h3 hn3 hs3 => ?_) hk hx)
      have x2 : At Z0 s0 env.locals m1 Z { s1 with heap := h2, toks := s1.toks } := x1.turn hI0 hI hne hs2
      have x3 := x2.store (t := s1.toks + 1) hn3 hs3
      refine wpAny_mono (turn i v { s1 with heap := h3, toks := s1.toks + 1 } _ hx1 x3 (by simp) ?_ ?_) (fun f s2 h2' => ?_) fun _ _ e => e
      · obtain ⟨o, ho, r⟩ := hit2
        exact ⟨o, (hs3.2 _ (Ne.symm hne)).trans ho, r⟩
      · exact stab i s1 h3 (s1.toks + 1) m1 _ hJ (fun b o hb hL e => (hs3.2 b hL).trans ((hs2.2 b hb).trans e)) fun y hy => by simp [hy]
      · obtain ⟨hf, m2, x4, hit4, hJ4⟩ := h2'
        have hlt : i < its.length := by
          rcases Nat.lt_or_ge i its.length with h | h
          · exact h
          · rw [List.getElem?_eq_none h] at hx1; cases hx1
        have key : ∃ mm, mm < n ∧ ∃ i' m1', i' + mm = its.length ∧ At Z0 s0 env.locals m1' Z s2 ∧ s2.heap.IsListIter s.heap.objs.size a i' ∧ J i' s2 m1' := ⟨n - 1, by omega, i + 1, m2, by omega, x4, hit4, hJ4⟩
        rcases hf with rfl | rfl
        · exact key
        · exact key
  · refine ⟨0, m, by omega, x0.step ((Step.refl x0.st.zh).pushM (tk := s.toks)), ⟨_, Heap.get?_push_size _ rfl, rfl, rfl⟩, ?_⟩
    exact stab 0 s _ s.toks m m h0 (fun b o _ _ e => Heap.get?_push_of_some _ e) fun _ _ => rfl

/-- the graph that grows: lev tells of each node how deep it lies -/
structure Graph (b0 It : Addr) (lev : Addr → Option Nat) (i : Nat) (h : Heap) : Prop where
  node : ∀ a l, lev a = some l → l ≤ 3 ∧ b0 ≤ a ∧ a ≠ It ∧ ∃ items n, h.get? a = some (lobj items n) ∧ items.length ≤ i ∧
    ∀ v, v ∈ items → (∃ p, IntIs v p ∧ p < 18) ∨ ∃ b, v = .ref b ∧ lev b = some (l + 1)

theorem Graph.keeps {b0 It : Addr} {lev : Addr → Option Nat} {i : Nat} {h h' : Heap} (G : Graph b0 It lev i h) (k : ∀ a l, lev a = some l → ∀ o, h.get? a = some o → h'.get? a = some o) : Graph b0 It lev i h' :=
  ⟨fun a l e => let ⟨h1, h2, h3, items, n, ho, h4, h5⟩ := G.node a l e; ⟨h1, h2, h3, items, n, k a l e _ ho, h4, h5⟩⟩
theorem Graph.more {b0 It : Addr} {lev : Addr → Option Nat} {i : Nat} {h : Heap} (G : Graph b0 It lev i h) : Graph b0 It lev (i + 1) h :=
  ⟨fun a l e => let ⟨h1, h2, h3, items, n, ho, h4, h5⟩ := G.node a l e; ⟨h1, h2, h3, items, n, ho, Nat.le_succ_of_le h4, h5⟩⟩

/-- a graph of nodes, frozen, is a tree -/
theorem Graph.tree {b0 It : Addr} {lev : Addr → Option Nat} {i : Nat} {h : Heap} {Z' : Zp} (G : Graph b0 It lev i h) (hi : i ≤ 20) (hz : ∀ a l, lev a = some l → ∀ o, h.get? a = some o → Z' a = some o) :
    ∀ (d l : Nat) (a : Addr), lev a = some l → l + d = 3 → ∃ row, Node (d + 1) Z' (.ref a) row ∧ row.length ≤ 20 ^ (d + 1) := by
  intro d
  induction d with
  | zero =>
    intro l a e hl
    obtain ⟨h1, h2, h3, items, n, ho, h4, h5⟩ := G.node a l e
    have : ∀ items : List Value, (∀ v, v ∈ items → (∃ p, IntIs v p ∧ p < 18) ∨ ∃ b, v = .ref b ∧ lev b = some (l + 1)) → ∃ rows, Rows2 (fun kid r => (∃ p, IntIs kid p ∧ p < 18 ∧ r = [p]) ∨ Node 0 Z' kid r) items rows ∧ rows.flatten.length ≤ items.length := by
      intro items
      induction items with
      | nil => intro _; exact ⟨[], .nil, Nat.le_refl _⟩
      | cons v vs ih =>
        intro hv
        obtain ⟨rows, R, hl'⟩ := ih fun u hu => hv u (.tail _ hu)
        rcases hv v (.head _) with ⟨p, hp, hp18⟩ | ⟨b, rfl, hb⟩
        · exact ⟨[p] :: rows, .cons (.inl ⟨p, hp, hp18, rfl⟩) R, by rw [List.flatten_cons, List.length_append]; simp only [List.length_cons, List.length_nil]; omega⟩
        · have := (G.node b _ hb).1
          omega
    obtain ⟨rows, R, hr⟩ := this items h5
    exact ⟨rows.flatten, ⟨a, items, rows, rfl, ⟨n, hz a l e _ ho⟩, R, rfl⟩, by omega⟩
  | succ d ihd =>
    intro l a e hl
    obtain ⟨h1, h2, h3, items, n, ho, h4, h5⟩ := G.node a l e
    have : ∀ items : List Value, (∀ v, v ∈ items → (∃ p, IntIs v p ∧ p < 18) ∨ ∃ b, v = .ref b ∧ lev b = some (l + 1)) → ∃ rows, Rows2 (fun kid r => (∃ p, IntIs kid p ∧ p < 18 ∧ r = [p]) ∨ Node (d + 1) Z' kid r) items rows ∧ rows.flatten.length ≤ items.length * 20 ^ (d + 1) := by
      intro items
      induction items with
      | nil => intro _; exact ⟨[], .nil, by simp⟩
      | cons v vs ih =>
        intro hv
        obtain ⟨rows, R, hl'⟩ := ih fun u hu => hv u (.tail _ hu)
        have hpos : 1 ≤ 20 ^ (d + 1) := Nat.one_le_iff_ne_zero.mpr (Nat.pos_iff_ne_zero.mp (Nat.pow_pos (by decide)))
        rcases hv v (.head _) with ⟨p, hp, hp18⟩ | ⟨b, rfl, hb⟩
        · refine ⟨[p] :: rows, .cons (.inl ⟨p, hp, hp18, rfl⟩) R, ?_⟩
          rw [List.flatten_cons, List.length_append, List.length_cons (as := vs), Nat.succ_mul]
          simp only [List.length_cons, List.length_nil]
          omega
        · obtain ⟨row, hrow, hrl⟩ := ihd (l + 1) b hb (by omega)
          refine ⟨row :: rows, .cons (.inr hrow) R, ?_⟩
          rw [List.flatten_cons, List.length_append, List.length_cons (as := vs), Nat.succ_mul]
          omega
    obtain ⟨rows, R, hr⟩ := this items h5
    refine ⟨rows.flatten, ⟨a, items, rows, rfl, ⟨n, hz a l e _ ho⟩, R, rfl⟩, Nat.le_trans hr ?_⟩
    rw [Nat.pow_succ 20 (d + 1), Nat.mul_comm (20 ^ (d + 1)) 20]
    exact Nat.mul_le_mul_right _ (by omega)
end
end Mine

namespace Mine
open SeqAt MeetsSeq AutoSeq1

/-- what _law_grown turns: the path at P, from the root R down -/
structure Gr (b0 It L P R : Addr) (lev : Addr → Option Nat) (pl : List Addr) (n i : Nat) (h : Heap) : Prop where
  g : Graph b0 It lev i h
  p : h.get? P = some (lobj (pl.map Value.ref) n)
  l1 : 1 ≤ pl.length
  l4 : pl.length ≤ 4
  on : ∀ j a, pl[j]? = some a → lev a = some j
  r : pl[0]? = some R
  np : lev P = none
  nl : lev L = none
namespace Gr
variable {b0 It L P R : Addr} {lev : Addr → Option Nat} {pl : List Addr} {n i : Nat} {h h' : Heap}
theorem ne {a : Addr} {l : Nat} (x : Gr b0 It L P R lev pl n i h) (e : lev a = some l) : a ≠ P ∧ a ≠ L ∧ a ≠ It :=
  ⟨(fun q => by rw [q, x.np] at e; cases e), (fun q => by rw [q, x.nl] at e; cases e), (x.g.node a l e).2.2.1⟩
theorem keeps (x : Gr b0 It L P R lev pl n i h) (hPI : P ≠ It) (hPL : P ≠ L) (k : ∀ b o, b ≠ It → b ≠ L → h.get? b = some o → h'.get? b = some o) : Gr b0 It L P R lev pl n i h' :=
  ⟨x.g.keeps fun a l e o => k a o (x.ne e).2.2 (x.ne e).2.1, k _ _ hPI hPL x.p, x.l1, x.l4, x.on, x.r, x.np, x.nl⟩
theorem more (x : Gr b0 It L P R lev pl n i h) : Gr b0 It L P R lev pl n (i + 1) h := ⟨x.g.more, x.p, x.l1, x.l4, x.on, x.r, x.np, x.nl⟩
theorem last (x : Gr b0 It L P R lev pl n i h) : ∃ a items k, pl[pl.length - 1]? = some a ∧ lev a = some (pl.length - 1) ∧ b0 ≤ a ∧ h.get? a = some (lobj items k) ∧ items.length ≤ i := by
  have h1 := x.l1
  have hlt : pl.length - 1 < pl.length := by omega
  have e := List.getElem?_eq_getElem hlt
  obtain ⟨_, hb, _, items, k, ho, hi, _⟩ := x.g.node _ _ (x.on _ _ e)
  exact ⟨_, items, k, e, x.on _ _ e, hb, ho, hi⟩
/-- a place is put into the last node -/
theorem leaf {a : Addr} {items : List Value} {k k' p : Nat} {v : Value} (x : Gr b0 It L P R lev pl n i h) (hl : lev a = some (pl.length - 1)) (ho : h.get? a = some (lobj items k)) (hv : IntIs v p) (hp : p < 18)
    (ho' : h'.get? a = some (lobj (items ++ [v]) k')) (hs : Heap.SameBut a h h') : Gr b0 It L P R lev pl n (i + 1) h' := by
  refine ⟨⟨fun b l e => ?_⟩, (hs.2 _ (Ne.symm (x.ne hl).1)).trans x.p, x.l1, x.l4, x.on, x.r, x.np, x.nl⟩
  obtain ⟨h1, h2, h3, its, m, hb, hi, hk⟩ := x.g.node b l e
  refine ⟨h1, h2, h3, ?_⟩
  by_cases q : b = a
  · subst q
    rw [ho] at hb
    have e2 : items = its := by
      have := congrArg (fun o : Option Obj => o.map (·.data)) hb
      simpa using (by simpa using this : items = its ∧ k = m).1
    subst e2
    refine ⟨items ++ [v], k', ho', by simp; exact hi, fun u hu => ?_⟩
    rcases List.mem_append.mp hu with hu | hu
    · exact hk u hu
    · simp at hu; subst hu; exact .inl ⟨p, hv, hp⟩
  · exact ⟨its, m, (hs.2 b q).trans hb, Nat.le_succ_of_le hi, hk⟩
/-- the last node is left -/
theorem pop (x : Gr b0 It L P R lev pl n i h) (h1 : 1 < pl.length) {n' : Nat} (hp : h'.get? P = some (lobj (pl.dropLast.map Value.ref) n')) (hs : Heap.SameBut P h h') : Gr b0 It L P R lev pl.dropLast n' (i + 1) h' := by
  refine ⟨(x.g.keeps fun a l e o ho => (hs.2 a (x.ne e).1).trans ho).more, hp, by rw [List.length_dropLast]; omega, by rw [List.length_dropLast]; have := x.l4; omega, fun j a e => x.on j a ?_, ?_, x.np, x.nl⟩
  · rw [List.getElem?_dropLast] at e
    split at e
    · exact e
    · cases e
  · rw [List.getElem?_dropLast, if_pos (by omega)]; exact x.r
/-- a new node -/
theorem fresh {a fr : Addr} {items : List Value} {k k' n' : Nat} (x : Gr b0 It L P R lev pl n i h) (hlt : pl.length < 4) (hl : lev a = some (pl.length - 1)) (ho : h.get? a = some (lobj items k))
    (hfr : lev fr = none) (hb : b0 ≤ fr) (hI : fr ≠ It) (hL : fr ≠ L) (hP : fr ≠ P) (ho' : h'.get? a = some (lobj (items ++ [.ref fr]) k')) (hof : h'.get? fr = some (lobj [] 0))
    (hp : h'.get? P = some (lobj ((pl ++ [fr]).map Value.ref) n')) (ks : ∀ b o, b ≠ a → b ≠ P → b ≠ L → h.get? b = some o → h'.get? b = some o) :
    Gr b0 It L P R (fun b => if b = fr then some pl.length else lev b) (pl ++ [fr]) n' (i + 1) h' := by
  have haf : a ≠ fr := fun q => by rw [q, hfr] at hl; cases hl
  have h1 := x.l1
  have up : ∀ b l, lev b = some l → (if b = fr then some pl.length else lev b) = some l := fun b l e => by
    rw [if_neg (fun q => by rw [q, hfr] at e; cases e)]; exact e
  refine ⟨⟨fun b l e => ?_⟩, hp, by simp, by simp; omega, fun j b e => ?_, ?_, ?_, ?_⟩
  · by_cases q : b = fr
    · subst q
      rw [if_pos rfl] at e
      cases e
      exact ⟨by omega, hb, hI, [], 0, hof, Nat.zero_le _, fun v hv => by cases hv⟩
    · rw [if_neg q] at e
      obtain ⟨g1, g2, g3, its, m, hb', hi, hk⟩ := x.g.node b l e
      refine ⟨g1, g2, g3, ?_⟩
      by_cases q2 : b = a
      · subst q2
        rw [ho] at hb'
        have e2 : items = its := by
          have := congrArg (fun o : Option Obj => o.map (·.data)) hb'
          simpa using (by simpa using this : items = its ∧ k = m).1
        subst e2
        refine ⟨items ++ [.ref fr], k', ho', by simp; exact hi, fun u hu => ?_⟩
        rcases List.mem_append.mp hu with hu | hu
        · exact (hk u hu).imp id fun ⟨c, ec, hc⟩ => ⟨c, ec, up _ _ hc⟩
        · simp at hu
          subst hu
          rw [hl] at e
          cases e
          refine .inr ⟨fr, rfl, ?_⟩
          rw [if_pos rfl]
          congr 1
          omega
      · exact ⟨its, m, ks b _ q2 (x.ne e).1 (x.ne e).2.1 hb', Nat.le_succ_of_le hi, fun u hu => (hk u hu).imp id fun ⟨c, ec, hc⟩ => ⟨c, ec, up _ _ hc⟩⟩
  · rw [List.getElem?_append] at e
    split at e
    · exact up _ _ (x.on j b e)
    · rename_i hj
      have : j - pl.length = 0 := by
        cases hh : j - pl.length with
        | zero => rfl
        | succ m => rw [hh] at e; simp at e
      rw [this] at e
      cases e
      show (if fr = fr then _ else _) = _
      rw [if_pos rfl]
      congr 1
      omega
  · rw [List.getElem?_append_left (by omega)]; exact x.r
  · show (if P = fr then _ else _) = _
    rw [if_neg (Ne.symm hP)]; exact x.np
  · show (if L = fr then _ else _) = _
    rw [if_neg (Ne.symm hL)]; exact x.nl
end Gr

/-- what was turned, at many places, stays from now on -/
theorem StepW.freezeAll {W : Addr → Prop} {Z Z' : Zp} {s s' : Shared} (x : StepW W Z s Z' s') (F : Addr → Option Nat) (hF : ∀ a l, F a = some l → s.heap.objs.size ≤ a ∧ Z' a = none) : StepW W Z s (fun b => match F b with | some _ => s'.heap.get? b | none => Z' b) s' := by
  have sub : Sub Z' (fun b => match F b with | some _ => s'.heap.get? b | none => Z' b) := fun b o e => by
    show (match F b with | some _ => _ | none => _) = _
    cases q : F b with
    | none => exact e
    | some l => rw [(hF b l q).2] at e; cases e
  refine ⟨x.zz.trans sub, fun b o e => ?_, x.up, fun b hb e => ?_, x.sz, x.gens, x.os⟩
  · revert e
    show (match F b with | some _ => _ | none => _) = _ → _
    cases q : F b with
    | none => exact x.zh b o
    | some l => exact id
  · show (match F b with | some _ => _ | none => _) = _
    cases q : F b with
    | none => exact x.old b hb e
    | some l => exact absurd hb (Nat.not_lt.mpr (hF b l q).1)
end Mine

namespace Mine
open SeqAt MeetsSeq AutoSeq1

section
variable {prog : Program} {w : World} {A : Around} {E : Value → Shared → Prop} {s : Shared} {Z : Zp}
theorem item_neg {value slice : Expr} {a b : Addr} {pl : List Addr} {n : Nat} {t : Tok} {Q : Value → Shared → Prop} (ho : s.heap.get? a = some (lobj (pl.map Value.ref) n)) (hx : pl[pl.length - 1]? = some b) (h1 : 1 ≤ pl.length) (h : Q (.ref b) s)
    (hs : subscripted slice false (.ref a) (.int (-1) t) = operate [.ref a, .int (-1) t] (getItem (.ref a) (.int (-1) t)) := by with_unfolding_all rfl) :
    wpAny (model prog w) A (subscriptTail value slice (.ref a) (.int (-1) t)) Q E s := by
  have hL : s.heap.IsList a (pl.map Value.ref).toArray := ⟨_, ho, rfl, n, rfl⟩
  refine tail_any hL.typeIs slot_list_getitem.lookup (wpAny_getItem_list_neg hL (by decide) ?_ (by decide) ?_ h) hs
  · simp; omega
  · have e : ((-1 : Int) + ((pl.map Value.ref).toArray.size : Nat)).toNat = pl.length - 1 := by simp; omega
    rw [e]
    simp [hx]
theorem item_zero {value slice : Expr} {a b : Addr} {pl : List Addr} {n : Nat} {t : Tok} {Q : Value → Shared → Prop} (ho : s.heap.get? a = some (lobj (pl.map Value.ref) n)) (hx : pl[0]? = some b) (h : Q (.ref b) s)
    (hs : subscripted slice false (.ref a) (.int 0 t) = operate [.ref a, .int 0 t] (getItem (.ref a) (.int 0 t)) := by with_unfolding_all rfl) :
    wpAny (model prog w) A (subscriptTail value slice (.ref a) (.int 0 t)) Q E s := by
  have hL : s.heap.IsList a (pl.map Value.ref).toArray := ⟨_, ho, rfl, n, rfl⟩
  exact tail_any hL.typeIs slot_list_getitem.lookup (wpAny_getItem_list hL (by decide) (by decide) (by simp [hx]) h) hs

theorem grown_place (k : Int) : ∃ p : Nat, ((k.fdiv 4).fmod 18) = (p : Int) ∧ p < 18 := by
  have h0 := Int.fmod_nonneg_of_pos (k.fdiv 4) (show (0 : Int) < 18 by decide)
  have h1 := Int.fmod_lt_of_pos (k.fdiv 4) (show (0 : Int) < 18 by decide)
  exact ⟨((k.fdiv 4).fmod 18).toNat, by omega, by omega⟩

def IsInt (v : Value) : Prop := ∃ k t, v = .int k t

theorem law_grown {a : Addr} {vs : List Value} {Q : Value → Shared → Prop} (W : WZ w Z) (hz : Sub Z s.heap.get?) (hok : HOk A Z) (hd : A.depth + 3 < recursionLimit) (hu : A.units + 100 < cLine)
    (hl : lstZ Z a vs) (hi : ∀ v ∈ vs, IsInt v) (hlen : vs.length ≤ 20)
    (h : ∀ s' Z' r row kids, StepU Z s Z' s' → Node 4 Z' (.ref r) row → row.length ≤ 20 ^ 4 → lstZ Z' r kids → kids.length ≤ 20 → Q (.ref r) s') : wpAny (model prog w) A (call (.ref 64) [.ref a] []) Q E s := by
  refine' call_fn (binds := [(Str.ofString "numbers", .ref a)]) (W.at hz) (by omega) ?ho ?hcd (BindsTo.of_eq ?hb) ?_ ?hloc ?hcell ?hco ?hgen ?hk
  case ho => exact rfl
  case hcd => exact rfl
  case hb => exact rfl
  case hloc => exact locs rfl
  case hcell => decide
  case hco => rfl
  case hgen => rfl
  case hk => rfl
  intro h' hns hk hsz'
  have x0 := At.enter (t := s.toks + 1) hz hns hk hsz'
  have hzb : ∀ b, s.heap.objs.size ≤ b → Z b = none := fun b hb => by
    cases e : Z b with
    | none => rfl
    | some o => exact absurd (Heap.lt_size (hz _ _ e)) (Nat.not_lt.mpr hb)
  -- path = [[]]
  refine wpAny_execs_cons ?_
  refine wpAny_Assign_Name ?_
  refine wpAny_List ?_
  refine wpAny_items_cons ?_ rfl
  refine wpAny_List ?_
  refine wpAny_items_nil ?_
  refine ⟨Nat.zero_le _, ?_⟩
  refine wpAny_items_nil ?_
  refine ⟨by rw [sizeLine_eq]; simp, ?_⟩
  have x1 : At Z s s.heap.objs.size _ Z { s with heap := h'.push (lobj [] 0), toks := s.toks + 1 } := x0.step ((Step.refl x0.st.zh).pushM (tk := s.toks + 1))
  have x2 : At Z s s.heap.objs.size _ Z { s with heap := (h'.push (lobj [] 0)).push (lobj [.ref h'.objs.size] 0), toks := s.toks + 1 } := x1.step ((Step.refl x1.st.zh).pushM (tk := s.toks + 1))
  refine st_loc x2.ns (fun h3 hn3 hs3 => ?_) rfl rfl
  have x3 := x2.store (t := s.toks + 1 + 1) hn3 hs3
  have eP : (h'.push (lobj [] 0)).objs.size = h'.objs.size + 1 := Heap.size_push _ _
  have hLR : s.heap.objs.size ≠ h'.objs.size := Nat.ne_of_lt hsz'
  have hLP : s.heap.objs.size ≠ (h'.push (lobj [] 0)).objs.size := by rw [eP]; exact Nat.ne_of_lt (Nat.lt_succ_of_lt hsz')
  have hRP : h'.objs.size ≠ (h'.push (lobj [] 0)).objs.size := by rw [eP]; exact Nat.ne_of_lt (Nat.lt_succ_self _)
  have hR3 : h3.get? h'.objs.size = some (lobj [] 0) := (hs3.2 _ (Ne.symm hLR)).trans (Heap.get?_push_of_some _ (Heap.get?_push_size _ rfl))
  have hP3 : h3.get? (h'.push (lobj [] 0)).objs.size = some (lobj [.ref h'.objs.size] 0) := (hs3.2 _ (Ne.symm hLP)).trans (Heap.get?_push_size _ rfl)
  have hbP : s.heap.objs.size ≤ (h'.push (lobj [] 0)).objs.size := by rw [eP]; exact Nat.le_succ_of_le (Nat.le_of_lt hsz')
  have hPI : (h'.push (lobj [] 0)).objs.size ≠ h3.objs.size := Nat.ne_of_lt (Heap.lt_size hP3)
  have hRI : h'.objs.size ≠ h3.objs.size := Nat.ne_of_lt (Heap.lt_size hR3)
  generalize eR : h'.objs.size = R at *
  generalize eP' : (h'.push (lobj [] 0)).objs.size = P at *
  refine wpAny_execs_cons ?_
  refine wpAny_For ?_
  refine ld_loc (v := .ref a) x3.ns rfl ?_
  refine loop_any (its := vs) (fun i s1 m1 => m1 (Str.ofString "path") = some (.ref P) ∧ ∃ lev pl n, Gr s.heap.objs.size h3.objs.size s.heap.objs.size P R lev pl n i s1.heap) (hok.deeper _) x3 hl ?stab ?h0 ?turn ?fin
  case stab =>
    rintro i s1 h4 tk m1 m2 ⟨hp, lev, pl, n, G⟩ hk4 hm
    exact ⟨(hm _ (by decide)).trans hp, lev, pl, n, G.keeps hPI (Ne.symm hLP) hk4⟩
  case h0 =>
    refine ⟨rfl, fun b => if b = R then some 0 else none, [R], 0, ⟨fun b l e => ?_⟩, hP3, by simp, by simp, fun j b e => ?_, rfl, if_neg (Ne.symm hRP), if_neg hLR⟩
    · by_cases q : b = R
      · subst q
        rw [if_pos rfl] at e
        cases e
        exact ⟨by omega, Nat.le_of_lt hsz', hRI, [], 0, hR3, Nat.zero_le _, fun v hv => by cases hv⟩
      · rw [if_neg q] at e; cases e
    · cases j with
      | zero => cases e; exact if_pos rfl
      | succ j => simp at e
  case turn =>
    rintro i v s1 m1 hv x4 hmx hit ⟨hp, lev, pl, n, G⟩
    obtain ⟨k, t, rfl⟩ := hi v (List.mem_of_getElem? hv)
    have hi20 : i < 20 := by
      rcases Nat.lt_or_ge i vs.length with q | q
      · omega
      · rw [List.getElem?_eq_none q] at hv; cases hv
    have hll := G.l1
    have hl4 := G.l4
    have W4 := W.at x4.st.zh
    obtain ⟨la, items, ka, hla, hlev, hba, hoa, hitl⟩ := G.last
    -- pick = x % 4
    refine wpAny_execs_cons ?_
    refine wpAny_Assign_Name ?_
    refine wpAny_BinOp ?_
    refine ld_loc (v := .int k t) x4.ns hmx ?_
    refine wpAny_Constant_int ?_
    refine PyProof.Rows.mod_int (by decide) ?_
    refine st_loc x4.ns (fun h5 hn5 hs5 => ?_) rfl rfl
    have hLI : s.heap.objs.size ≠ h3.objs.size := Nat.ne_of_lt x3.lt
    have hIlt : h3.objs.size < s1.heap.objs.size := by obtain ⟨o, ho, _⟩ := hit; exact Heap.lt_size ho
    have x5 := x4.store (t := s1.toks + 1 + 1 + 1) hn5 hs5
    have G5 : Gr s.heap.objs.size h3.objs.size s.heap.objs.size P R lev pl n i h5 := G.keeps hPI (Ne.symm hLP) fun b o _ hb e => (hs5.2 b hb).trans e
    have hit5 : h5.IsListIter h3.objs.size a (i + 1) := by obtain ⟨o, ho, r⟩ := hit; exact ⟨o, (hs5.2 _ (Ne.symm hLI)).trans ho, r⟩
    have hoa5 : h5.get? la = some (lobj items ka) := (hs5.2 _ (G.ne hlev).2.1).trans hoa
    have W5 := W.at x5.st.zh
    have hla' : s.heap.objs.size ≠ la := Ne.symm (G.ne hlev).2.1
    -- if pick == 0
    refine wpAny_execs_cons ?_
    refine wpAny_If ?_
    refine wpAny_isTrue_Compare1 ?_
    refine ld_loc (v := .int (k.fmod 4) (s1.toks + 1)) x5.ns rfl ?_
    refine wpAny_Constant_int ?_
    refine PyProof.Rows.eq_int ?_
    refine wpAny_truthy_bool ?_
    cases q0 : (k.fmod 4 == 0) with
    | true =>
      refine wpAny_execs_cons ?_
      refine wpAny_If ?_
      refine wpAny_isTrue_Compare1 ?_
      refine Call_Name rfl ?_
      refine ld_bi (v := .builtin "len") W5 rfl Boot.«len» ?_
      refine callWith_builtin1 (Calls.spliced_cons ?_)
      refine ld_loc (v := .ref P) x5.ns hp ?_
      refine Calls.spliced_nil ?_
      refine PyProof.Rows.len_list (items := (pl.map Value.ref).toArray) ⟨_, G5.p, rfl, n, rfl⟩ (by simp; omega) ?_
      refine wpAny_Constant_int ?_
      refine PyProof.Rows.lt_int ?_
      refine wpAny_truthy_bool ?_
      cases q1 : decide (((pl.map Value.ref).toArray.size : Int) < 4) with
      | false =>
        refine wpAny_execs_nil ?_
        refine wpAny_execs_nil ?_
        refine wpAny_execs_nil ?_
        exact ⟨.inl rfl, _, x5.tk, hit5, hp, lev, pl, n, G5.more⟩
      | true =>
        have hlt4 : pl.length < 4 := by have := of_decide_eq_true q1; simp at this; omega
        -- fresh = []
        refine wpAny_execs_cons ?_
        refine wpAny_Assign_Name ?_
        refine wpAny_List ?_
        refine wpAny_items_nil ?_
        refine ⟨Nat.zero_le _, ?_⟩
        have x6 := x5.step ((Step.refl x5.st.zh).pushM (o := lobj [] 0) (tk := s1.toks))
        refine st_loc x6.ns (fun h7 hn7 hs7 => ?_) rfl rfl
        have x7 := x6.store (t := s1.toks + 1) hn7 hs7
        have hP5 := Heap.lt_size G5.p
        have hA5 := Heap.lt_size hoa5
        have hI5 : h3.objs.size < h5.objs.size := by obtain ⟨o, ho, _⟩ := hit5; exact Heap.lt_size ho
        have hLF : s.heap.objs.size ≠ h5.objs.size := Nat.ne_of_lt x5.lt
        have hbF : s.heap.objs.size ≤ h5.objs.size := Nat.le_of_lt x5.lt
        have hF7 : h7.get? h5.objs.size = some (lobj [] 0) := (hs7.2 _ (Ne.symm hLF)).trans (Heap.get?_push_size _ rfl)
        have k7 : ∀ b o, b ≠ s.heap.objs.size → h5.get? b = some o → h7.get? b = some o := fun b o hb e => (hs7.2 b hb).trans (Heap.get?_push_of_some _ e)
        have hP7 := k7 _ _ (Ne.symm hLP) G5.p
        have hA7 := k7 _ _ (Ne.symm hla') hoa5
        generalize eF : h5.objs.size = fr at *
        -- path[-1].append(fresh)
        refine wpAny_execs_cons ?_
        refine wpAny_Expr ?_
        refine wpAny_Call_append rfl rfl rfl rfl ?_
        refine Subscript_ ?_
        refine ld_loc (v := .ref P) x7.ns hp ?_
        refine wpAny_UnaryOp ?_
        refine wpAny_Constant_int ?_
        refine PyProof.Rows.neg_int ?_
        refine item_neg hP7 hla hll ?_
        refine ⟨_, items.toArray, rfl, ⟨_, ka, hA7, rfl, rfl, rfl⟩, ?_⟩
        refine ld_loc (v := .ref fr) x7.ns rfl ?_
        refine append_at hA7 (by rw [sizeLine_eq]; omega) fun h8 k8 ho8 hs8 => ?_
        have x8 := x7.turn (t := s1.toks) hba (hzb _ hba) hla' hs8
        have hP8 := (hs8.2 _ (Ne.symm (G.ne hlev).1)).trans hP7
        -- path.append(fresh)
        refine wpAny_execs_cons ?_
        refine wpAny_Expr ?_
        refine wpAny_Call_append rfl rfl rfl rfl ?_
        refine ld_loc (v := .ref P) x8.ns hp ?_
        refine ⟨_, (pl.map Value.ref).toArray, rfl, ⟨_, n, hP8, rfl, rfl, rfl⟩, ?_⟩
        refine ld_loc (v := .ref fr) x8.ns rfl ?_
        refine append_at hP8 (by rw [sizeLine_eq]; simp; omega) fun h9 k9 ho9 hs9 => ?_
        have x9 := x8.turn (t := s1.toks) hbP (hzb _ hbP) hLP hs9
        refine wpAny_execs_nil ?_
        refine wpAny_execs_nil ?_
        refine wpAny_execs_nil ?_
        have hfr : lev fr = none := by
          cases e : lev fr with
          | none => rfl
          | some l =>
            obtain ⟨_, _, _, _, _, ho, _⟩ := G5.g.node _ _ e
            have := Heap.lt_size ho
            rw [eF] at this
            exact absurd this (Nat.lt_irrefl _)
        have haf : la ≠ fr := Nat.ne_of_lt hA5
        have hPf : P ≠ fr := Nat.ne_of_lt hP5
        refine ⟨.inl rfl, _, x9.tk, ?_, hp, _, pl ++ [fr], k9, G5.fresh hlt4 hlev hoa5 hfr hbF (Ne.symm (Nat.ne_of_lt hI5)) (Ne.symm hLF) (Ne.symm hPf) ((hs9.2 _ (G.ne hlev).1).trans ho8) ((hs9.2 _ (Ne.symm hPf)).trans ((hs8.2 _ (Ne.symm haf)).trans hF7)) (by simpa using ho9) fun b o h1 h2 h3 e => (hs9.2 b h2).trans ((hs8.2 b h1).trans (k7 b o h3 e))⟩
        obtain ⟨o, ho, r⟩ := hit5
        exact ⟨o, (hs9.2 _ (Ne.symm hPI)).trans ((hs8.2 _ (Ne.symm (G.ne hlev).2.2)).trans (k7 _ _ (Ne.symm hLI) ho)), r⟩
    | false =>
      refine wpAny_execs_cons ?_
      refine wpAny_If ?_
      refine wpAny_isTrue_Compare1 ?_
      refine ld_loc (v := .int (k.fmod 4) (s1.toks + 1)) x5.ns rfl ?_
      refine wpAny_Constant_int ?_
      refine PyProof.Rows.eq_int ?_
      refine wpAny_truthy_bool ?_
      cases q1 : (k.fmod 4 == 1) with
      | true =>
        refine wpAny_execs_cons ?_
        refine wpAny_If ?_
        refine wpAny_isTrue_Compare1 ?_
        refine Call_Name rfl ?_
        refine ld_bi (v := .builtin "len") W5 rfl Boot.«len» ?_
        refine callWith_builtin1 (Calls.spliced_cons ?_)
        refine ld_loc (v := .ref P) x5.ns hp ?_
        refine Calls.spliced_nil ?_
        refine PyProof.Rows.len_list (items := (pl.map Value.ref).toArray) ⟨_, G5.p, rfl, n, rfl⟩ (by simp; omega) ?_
        refine wpAny_Constant_int ?_
        refine PyProof.Rows.gt_int ?_
        refine wpAny_truthy_bool ?_
        cases q2 : decide ((1 : Int) < ((pl.map Value.ref).toArray.size : Int)) with
        | false =>
          refine wpAny_execs_nil ?_
          refine wpAny_execs_nil ?_
          refine wpAny_execs_nil ?_
          refine wpAny_execs_nil ?_
          exact ⟨.inl rfl, _, x5.tk, hit5, hp, lev, pl, n, G5.more⟩
        | true =>
          have hgt1 : 1 < pl.length := by have := of_decide_eq_true q2; simp at this; omega
          refine wpAny_execs_cons ?_
          refine wpAny_Expr_any ?_
          refine wpAny_Call_method0_late rfl rfl ?_
          refine ld_loc (v := .ref P) x5.ns hp ?_
          refine ⟨"list", "list.pop", PySem.F.plainAttrs_list, PySem.F.slot_list_pop, PySem.F.type_list_pop, ⟨_, G5.p, rfl⟩, (fun b e => by cases e; exact ⟨_, G5.p, rfl⟩), ?_⟩
          refine PySem.P.pop_list (items := (pl.map Value.ref).toArray) G5.p (y := .ref la) (by simp [hla]) ?_ (by rw [sizeLine_eq]; simp; omega)
          have hne : (pl.map Value.ref).toArray.size ≠ 0 := by simp; intro q; rw [q] at hgt1; simp at hgt1
          have ep : (pl.map Value.ref).toArray.pop = (pl.dropLast.map Value.ref).toArray := by simp [List.map_dropLast]
          have ho6 : (h5.update P (Obj.mapSeq fun xs => xs.eraseIdxIfInBounds ((pl.map Value.ref).toArray.size - 1))).get? P = some (lobj (pl.dropLast.map Value.ref) (n + 1)) := by
            rw [Heap.get?_update_self _ G5.p (by rw [Copied.mapSeq_pop _ _ hne]; rfl), Copied.mapSeq_pop _ _ hne, ep]
          have hs6 := Heap.SameBut.update h5 P (Obj.mapSeq fun xs => xs.eraseIdxIfInBounds ((pl.map Value.ref).toArray.size - 1))
          have x6 := x5.turn (t := s1.toks) hbP (hzb _ hbP) hLP hs6
          refine wpAny_execs_nil ?_
          refine wpAny_execs_nil ?_
          refine wpAny_execs_nil ?_
          refine wpAny_execs_nil ?_
          refine ⟨.inl rfl, _, x6.tk, ?_, hp, lev, pl.dropLast, n + 1, G5.pop hgt1 ho6 hs6⟩
          obtain ⟨o, ho, r⟩ := hit5
          exact ⟨o, (hs6.2 _ (Ne.symm hPI)).trans ho, r⟩
      | false =>
        obtain ⟨p, ep, hp18⟩ := grown_place k
        refine wpAny_execs_cons ?_
        refine wpAny_Expr ?_
        refine wpAny_Call_append rfl rfl rfl rfl ?_
        refine Subscript_ ?_
        refine ld_loc (v := .ref P) x5.ns hp ?_
        refine wpAny_UnaryOp ?_
        refine wpAny_Constant_int ?_
        refine PyProof.Rows.neg_int ?_
        refine item_neg G5.p hla hll ?_
        refine ⟨_, items.toArray, rfl, ⟨_, ka, hoa5, rfl, rfl, rfl⟩, ?_⟩
        refine wpAny_BinOp ?_
        refine wpAny_BinOp ?_
        refine ld_loc (v := .int k t) x5.ns hmx ?_
        refine wpAny_Constant_int ?_
        refine PyProof.Rows.floordiv_int (by decide) ?_
        refine wpAny_Constant_int ?_
        refine PyProof.Rows.mod_int (by decide) ?_
        refine append_at hoa5 (by rw [sizeLine_eq]; omega) fun h6 k6 ho6 hs6 => ?_
        refine wpAny_execs_nil ?_
        refine wpAny_execs_nil ?_
        refine wpAny_execs_nil ?_
        have x6 := x5.turn (t := s1.toks) hba (hzb _ hba) hla' hs6
        refine ⟨.inl rfl, _, x6.tk, ?_, hp, lev, pl, n, G5.leaf hlev hoa5 ⟨_, by rw [ep]⟩ hp18 ho6 hs6⟩
        obtain ⟨o, ho, r⟩ := hit5
        exact ⟨o, (hs6.2 _ (Ne.symm (G.ne hlev).2.2)).trans ho, r⟩
  case fin =>
    rintro s1 m1 x4 ⟨hp, lev, pl, n, G⟩
    refine wpAny_execs_cons ?_
    refine wpAny_Return_some ?_
    refine Subscript_ ?_
    refine ld_loc (v := .ref P) x4.ns hp ?_
    refine wpAny_Constant_int ?_
    refine item_zero G.p G.r ?_
    have SF := x4.st.freezeAll lev fun b l e => ⟨(G.g.node b l e).2.1, hzb b (G.g.node b l e).2.1⟩
    obtain ⟨row, hrow, hrl⟩ := G.g.tree (Z' := fun b => match lev b with | some _ => s1.heap.get? b | none => Z b) hlen (fun b l e o ho => by show (match lev b with | some _ => _ | none => _) = _; rw [e]; exact ho) 3 0 R (G.on 0 R G.r) rfl
    obtain ⟨_, _, _, kids, kn, hk1, hk2, _⟩ := G.g.node R 0 (G.on 0 R G.r)
    refine h _ _ R row kids SF.tk hrow hrl ⟨kn, ?_⟩ (Nat.le_trans hk2 hlen)
    show (match lev R with | some _ => _ | none => _) = _
    rw [G.on 0 R G.r]
    exact hk1
end
end Mine

namespace Mine
open SeqAt MeetsSeq AutoSeq1

/-- an iterator that turns only the addresses of I, over n items -/
structure Walk (prog : Program) (w : World) (A : Around) (it : Addr) (target : Expr) (Z0 : Zp) (I : Addr → Prop) (n : Nat) (V : Nat → Value → Heap → Prop) (St : Nat → Heap → Prop) : Prop where
  frame : ∀ i h h', St i h → (∀ b o, (I b ∨ ∃ o', Z0 b = some o') → h.get? b = some o → h'.get? b = some o) → St i h'
  item : ∀ i (s : Shared) (Q : Value → Shared → Prop) (E : Value → Shared → Prop), i < n → Sub Z0 s.heap.get? → St i s.heap →
    (∀ v h' tk, V i v h' → St (i + 1) h' → (∀ b o, ¬ I b → s.heap.get? b = some o → h'.get? b = some o) → s.heap.objs.size ≤ h'.objs.size → Q v { s with heap := h', toks := tk }) →
    wpAny (model prog w) A (pyNext (.ref it)) (fun r s1 => match r with | none => False | some v => wpAny (model prog w) A (letOwnedTupleGo target (.ref it) v) (fun _ s2 => Q v s2) E s1) E s
  done : ∀ (s : Shared) (Q : Option Value → Shared → Prop) (E : Value → Shared → Prop), Sub Z0 s.heap.get? → St n s.heap →
    (∀ h' tk, (∀ b o, ¬ I b → s.heap.get? b = some o → h'.get? b = some o) → Q none { s with heap := h', toks := tk }) → wpAny (model prog w) A (pyNext (.ref it)) Q E s

section
variable {prog : Program} {w : World} {A : Around} {E : Value → Shared → Prop} {s : Shared} {Z : Zp}

theorem loop_walk {s0 : Shared} {W : Addr → Prop} {X xs : List Str} {target : Expr} {body : List Stmt} {env : Env} {it : Addr} {m : Str → Option Value} {Q : Flow → Shared → Prop} {I : Addr → Prop} {n : Nat} {V : Nat → Value → Heap → Prop} {St : Nat → Heap → Prop}
    (T : Nat → (Str → Option Value) → Prop) (R : Nat → Zp → Zp → (Str → Option Value) → Prop)
    (K : Walk prog w A it target Z I n V St) (S0 : StepW W Z s0 Z s) (st0 : St 0 s.heap) (hns : s.heap.Ns env.locals m) (hW : ∀ b, W b → b < s0.heap.objs.size ∧ Z b = none) (hWL : W env.locals)
    (hI : ∀ b, I b → s0.heap.objs.size ≤ b ∧ b < s.heap.objs.size ∧ Z b = none) (hIo : ∀ b o, I b → ∀ h i, St i h → h.get? b = some o → o.cls ≠ .none ∧ ∀ es k, o.data ≠ .dict es k)
    (mono : ∀ i Z1 g g' m m', (∀ b o, W b → b ≠ env.locals → g b = some o → g' b = some o) → (∀ y, y ∉ xs → m' y = m y) → R i Z1 g m → R i Z1 g' m') (h0 : R 0 Z s.heap.get? m)
    (asg : ∀ i v (s1 : Shared) m1 (Q' : Unit → Shared → Prop) (E' : Value → Shared → Prop), i < n → V i v s1.heap → s1.heap.Ns env.locals m1 → Sub Z s1.heap.get? →
      (∀ h' tk m2, h'.Ns env.locals m2 → T i m2 → (∀ y, y ∉ xs → m2 y = m1 y) → (∀ c o, c ≠ env.locals → s1.heap.get? c = some o → h'.get? c = some o) → s1.heap.objs.size ≤ h'.objs.size → Q' () { s1 with heap := h', toks := tk }) →
      wpAny (model prog w) A (assign target env v) Q' E' s1)
    (turn : ∀ i Z1 (s1 : Shared) m1, i < n → StepW W Z s0 Z1 s1 → s1.heap.Ns env.locals m1 → T i m1 → (∀ y, y ∉ xs ++ X → m1 y = m y) → R i Z1 s1.heap.get? m1 →
      wpAny (model prog w) A (execs body env) (fun f s2 => (f = .next ∨ f = .cont) ∧ ∃ Z2 m2, StepW W Z1 s1 Z2 s2 ∧ s2.heap.Ns env.locals m2 ∧ (∀ y, y ∉ xs ++ X → m2 y = m y) ∧ R (i + 1) Z2 s2.heap.get? m2)
        (notedBy (model prog w) A env fun e s' => cameBackBy (model prog w) A env E e s') s1)
    (fin : ∀ Z1 (s1 : Shared) m1, StepW W Z s0 Z1 s1 → s1.heap.Ns env.locals m1 → (∀ y, y ∉ xs ++ X → m1 y = m y) → R n Z1 s1.heap.get? m1 → Q .next s1) :
    codeAny (model prog w) A (.forLoop target (.ref it) body [] env) (fun r s' => match r with | .ok f => Q f s' | .error e => cameBackBy (model prog w) A env E e s') s := by
  have hIW : ∀ b, I b → ¬ W b := fun b hb q => Nat.lt_irrefl _ (Nat.lt_of_lt_of_le (hW b q).1 (hI b hb).1)
  have hIL : ∀ b, I b → b ≠ env.locals := fun b hb q => hIW b hb (q ▸ hWL)
  refine codeAny_forLoop_any (fun k s1 => ∃ i Z1 m1, i + k = n ∧ StepW W Z s0 Z1 s1 ∧ (∀ b, I b → Z1 b = none ∧ b < s1.heap.objs.size) ∧ St i s1.heap ∧ s1.heap.Ns env.locals m1 ∧ (∀ y, y ∉ xs ++ X → m1 y = m y) ∧ R i Z1 s1.heap.get? m1) ?_ n
    ⟨0, Z, m, by omega, S0, fun b hb => ⟨(hI b hb).2.2, (hI b hb).2.1⟩, st0, hns, fun _ _ => rfl, h0⟩
  rintro k s1 ⟨i, Z1, m1, hk, S, hIz, st, hn1, hm1, hR⟩
  have hLz : Z1 env.locals = none := S.old _ (hW _ hWL).1 (hW _ hWL).2
  have hzs : Sub Z s1.heap.get? := S.zz.trans S.zh
  have keep : ∀ {h2 : Heap} {tk2 : Nat}, (∀ b o, ¬ I b → s1.heap.get? b = some o → h2.get? b = some o) → s1.heap.objs.size ≤ h2.objs.size → StepW W Z s0 Z1 { s1 with heap := h2, toks := tk2 } := fun hk2 hsz2 =>
    S.keeps' (fun b o e e2 => hk2 b o (fun q => by rw [(hIz b q).1] at e; cases e) e2) (fun b o hw hb e => hk2 b o (fun q => Nat.lt_irrefl _ (Nat.lt_of_lt_of_le hb (hI b q).1)) e) hsz2
  rcases Nat.lt_or_ge i n with hlt | hge
  · refine wpAny_mono (K.item i s1 (fun v s2 => wpAny (model prog w) A (assign target env v) (fun _ s₂ => wpAny (model prog w) A (execs body env) (fun f s₃ => match f with
          | .next | .cont => ∃ mm, mm < k ∧ ∃ i Z1 m1, i + mm = n ∧ StepW W Z s0 Z1 s₃ ∧ (∀ b, I b → Z1 b = none ∧ b < s₃.heap.objs.size) ∧ St i s₃.heap ∧ s₃.heap.Ns env.locals m1 ∧ (∀ y, y ∉ xs ++ X → m1 y = m y) ∧ R i Z1 s₃.heap.get? m1
          | .brk => Q .next s₃
          | .ret v => Q (.ret v) s₃) (notedBy (model prog w) A env fun e s' => cameBackBy (model prog w) A env E e s') s₂) (notedBy (model prog w) A env fun e s' => cameBackBy (model prog w) A env E e s') s2) _ hlt hzs st fun v h2 tk2 hv st2 hk2 hsz2 => ?_) (fun r s2 h2 => ?_) fun _ _ e => e
    · have S2 := keep (tk2 := tk2) hk2 hsz2
      have hn2 : h2.Ns env.locals m1 := by
        obtain ⟨o, es, ep, ho, r⟩ := hn1
        exact ⟨o, es, ep, hk2 _ _ (fun q => hIL _ q rfl) ho, r⟩
      refine asg i v { s1 with heap := h2, toks := tk2 } m1 _ _ hlt hv hn2 (S2.zz.trans S2.zh) fun h3 tk3 m3 hn3 hT hm3 hk3 hsz3 => ?_
      have S3 : StepW W Z s0 Z1 { s1 with heap := h3, toks := tk3 } := S2.locals hWL hLz hk3 hsz3
      have hm3' : ∀ y, y ∉ xs ++ X → m3 y = m y := fun y hy => (hm3 y fun q => hy (List.mem_append_left _ q)).trans (hm1 y hy)
      have st3 : St i s1.heap := st
      have st3' : St (i + 1) h3 := K.frame _ _ _ st2 fun b o hb e => hk3 b o (fun q => by
        rcases hb with hb | ⟨o', hb⟩
        · exact hIL b hb q
        · rw [q, (hW _ hWL).2] at hb; cases hb) e
      have hR3 : R i Z1 h3.get? m3 := mono _ _ _ _ _ _ (fun b o hb hbl e => hk3 b o hbl (hk2 b o (fun q => hIW b q hb) e)) hm3 hR
      refine wpAny_mono (turn i Z1 _ m3 hlt S3 hn3 hT hm3' hR3) (fun f s4 h4 => ?_) fun _ _ e => e
      obtain ⟨hf, Z4, m4, S4, hn4, hm4, hR4⟩ := h4
      have key : ∃ mm, mm < k ∧ ∃ i Z1 m1, i + mm = n ∧ StepW W Z s0 Z1 s4 ∧ (∀ b, I b → Z1 b = none ∧ b < s4.heap.objs.size) ∧ St i s4.heap ∧ s4.heap.Ns env.locals m1 ∧ (∀ y, y ∉ xs ++ X → m1 y = m y) ∧ R i Z1 s4.heap.get? m1 := by
        refine ⟨k - 1, by omega, i + 1, Z4, m4, by omega, S3.trans S4, fun b hb => ?_, ?_, hn4, hm4, hR4⟩
        · have hlt3 : b < h3.objs.size := Nat.lt_of_lt_of_le (hIz b hb).2 (Nat.le_trans hsz2 hsz3)
          exact ⟨S4.old _ hlt3 (hIz b hb).1, Nat.lt_of_lt_of_le hlt3 S4.sz⟩
        · refine K.frame _ _ _ st3' fun b o hb e => ?_
          rcases hb with hb | ⟨o', hb⟩
          · obtain ⟨hc, hd⟩ := hIo b o hb _ _ st3' e
            exact S4.hh (hIW b hb) hd e hc
          · have e3 := S3.zh _ _ (S.zz _ _ hb)
            have e4 := S4.zh _ _ (S4.zz _ _ (S.zz _ _ hb))
            rw [e] at e3
            cases e3
            exact e4
      rcases hf with rfl | rfl
      · exact key
      · exact key
    · cases r with
      | none => exact h2.elim
      | some v => exact h2
  · have hin : i = n := by omega
    subst hin
    refine with_size ?_
    refine K.done s1 _ _ hzs st fun h' tk hk' hsz => ?_
    refine wpAny_execs_nil ?_
    refine fin Z1 _ m1 (keep hk' hsz) ?_ hm1 ?_
    · obtain ⟨o, es, ep, ho, r⟩ := hn1
      exact ⟨o, es, ep, hk' _ _ (fun q => hIL _ q rfl) ho, r⟩
    · exact mono _ _ _ _ _ _ (fun b o hb _ e => hk' b o (fun q => hIW b q hb) e) (fun _ _ => rfl) hR
end
end Mine

namespace Mine
open SeqAt MeetsSeq AutoSeq1

section
variable {prog : Program} {w : World} {A : Around} {E : Value → Shared → Prop} {s : Shared} {Z : Zp}

theorem walk_tuple {it t : Addr} {target : Expr} {items : List Value} (hn : A.handled = none) (ht : tupZ Z t items) :
    Walk prog w A it target Z (fun b => b = it) items.length (fun i v _ => items[i]? = some v) (fun i h => h.IsTupleIter it t i) where
  frame := fun i h h' ⟨o, ho, r⟩ hk => ⟨o, hk _ _ (.inl rfl) ho, r⟩
  item := fun i s Q E hi hz st hQ => by
    obtain ⟨k, e⟩ := ht
    have hT : s.heap.IsTuple t items.toArray := ⟨_, hz _ _ e, rfl, k, rfl⟩
    have hx : items.toArray[i]? = some items[i] := by simp
    refine wpAny_pyNext_tuple_item st hT hx fun h' st' hs => ?_
    refine letGo_tupleiter st' ?_
    exact hQ _ h' s.toks (by simp) st' (fun b o hb e => (hs.2 b hb).trans e) (Nat.le_of_eq hs.1.symm)
  done := fun s Q E hz st hQ => by
    obtain ⟨k, e⟩ := ht
    have hT : s.heap.IsTuple t items.toArray := ⟨_, hz _ _ e, rfl, k, rfl⟩
    exact wpAny_pyNext_tuple_end hn st hT (by simp) fun h' hs => hQ h' s.toks fun b o hb e => hs b o hb e

theorem walk_zip {z TI TO i1 i2 l1 l2 : Addr} {elts : List Expr} {k : Nat} {pos : Pos} {xs ys : List Value} (hn : A.handled = none) (D : ZipApart z TI TO i1 i2 l1 l2) (h1 : lstZ Z l1 xs) (h2 : lstZ Z l2 ys) (hlen : xs.length = ys.length) :
    Walk prog w A z (.Tuple elts k pos) Z (fun b => b = z ∨ b = TI ∨ b = TO ∨ b = i1 ∨ b = i2) xs.length (fun i v h => ∃ T x y, v = .ref T ∧ h.IsTuple T #[x, y] ∧ xs[i]? = some x ∧ ys[i]? = some y)
      (fun i h => IsZip h z TI TO .none ∧ PySem.IsPair h TI (.ref i1) (.ref i2) ∧ (∃ a b, PySem.IsPair h TO a b) ∧ h.IsListIter i1 l1 i ∧ h.IsListIter i2 l2 i ∧ h.IsList l1 xs.toArray ∧ h.IsList l2 ys.toArray) := by
  have K := WalksT.zip2 (prog := prog) (w := w) hn z TI TO i1 i2 l1 l2 D xs.toArray ys.toArray
  have hmin : min xs.toArray.size ys.toArray.size = xs.length := by simp [hlen]
  rw [hmin] at K
  refine ⟨fun i h h' st hk => K.frame i h h' st fun b hb o e => ?_, fun i s Q E hi hz st hQ => ?_, fun s Q E hz st hQ => ?_⟩
  · simp only [List.mem_cons, List.not_mem_nil, or_false] at hb
    rcases hb with rfl | rfl | rfl | rfl | rfl | rfl | rfl
    · exact hk _ _ (.inl (.inl rfl)) e
    · exact hk _ _ (.inl (.inr (.inl rfl))) e
    · exact hk _ _ (.inl (.inr (.inr (.inl rfl)))) e
    · exact hk _ _ (.inl (.inr (.inr (.inr (.inl rfl))))) e
    · exact hk _ _ (.inl (.inr (.inr (.inr (.inr rfl))))) e
    · obtain ⟨n, q⟩ := h1; exact hk _ _ (.inr ⟨_, q⟩) e
    · obtain ⟨n, q⟩ := h2; exact hk _ _ (.inr ⟨_, q⟩) e
  · have nw : ∀ b, ¬ (b = z ∨ b = TI ∨ b = TO ∨ b = i1 ∨ b = i2) → b ∉ [z, TO, i1, i2] := fun b hb q => by
      simp only [List.mem_cons, List.not_mem_nil, or_false] at q
      rcases q with q | q | q | q
      · exact hb (.inl q)
      · exact hb (.inr (.inr (.inl q)))
      · exact hb (.inr (.inr (.inr (.inl q))))
      · exact hb (.inr (.inr (.inr (.inr q))))
    refine K.item i s _ _ hi st fun T vals h' tk hP hT htup hmid hk' => ?_
    refine with_size ?_
    refine K.go elts k pos i T _ _ _ hmid fun h'' st'' hk'' hsz => ?_
    obtain ⟨x, y, hx, hy, rfl⟩ := hP
    have hap := K.apart i T _ hmid
    obtain ⟨oT, hoT, r⟩ := htup
    refine hQ (.ref T) h'' tk ⟨T, x, y, rfl, ⟨oT, hk'' _ _ hap hoT, r⟩, by simpa using hx, by simpa using hy⟩ st'' (fun b o hb e => hk'' b o (nw b hb) (hk' b o (nw b hb) e)) ?_
    exact Nat.le_trans (Nat.le_trans hT (Nat.le_of_lt (Heap.lt_size hoT))) hsz
  · refine K.done s Q E st fun h' tk hk' => hQ h' tk fun b o hb e => hk' b o (fun q => ?_) e
    simp only [List.mem_cons, List.not_mem_nil, or_false] at q
    rcases q with q | q | q | q
    · exact hb (.inl q)
    · exact hb (.inr (.inr (.inl q)))
    · exact hb (.inr (.inr (.inr (.inl q))))
    · exact hb (.inr (.inr (.inr (.inr q))))
end
end Mine

namespace Mine
open SeqAt MeetsSeq AutoSeq1

/-! the plain law of the marks -/
theorem strict_eq {α : Type} (f : α → Nat) : ∀ (l1 l2 : List α), l1.Pairwise (fun a b => f a < f b) → l2.Pairwise (fun a b => f a < f b) → (∀ x, x ∈ l1 ↔ x ∈ l2) → l1 = l2
  | [], [], _, _, _ => rfl
  | [], b :: _, _, _, h => by have := (h b).mpr (.head _); cases this
  | a :: _, [], _, _, h => by have := (h a).mp (.head _); cases this
  | a :: l1, b :: l2, h1, h2, h => by
    have g1 := List.pairwise_cons.mp h1
    have g2 := List.pairwise_cons.mp h2
    have e : a = b := by
      rcases List.mem_cons.mp ((h a).mp (.head _)) with q | q
      · exact q
      · rcases List.mem_cons.mp ((h b).mpr (.head _)) with q' | q'
        · exact q'.symm
        · have h3 := g2.1 a q
          have h4 := g1.1 b q'
          omega
    subst e
    congr 1
    refine strict_eq f l1 l2 g1.2 g2.2 fun x => ⟨fun hx => ?_, fun hx => ?_⟩
    · rcases List.mem_cons.mp ((h x).mp (.tail _ hx)) with q | q
      · have := g1.1 x hx; rw [q] at this; omega
      · exact q
    · rcases List.mem_cons.mp ((h x).mpr (.tail _ hx)) with q | q
      · have := g2.1 x hx; rw [q] at this; omega
      · exact q

theorem mcode_inj {a b : Nat × Nat} (ha : a.2 < 100) (hb : b.2 < 100) (h : mcode a = mcode b) : a = b := by
  obtain ⟨a1, a2⟩ := a
  obtain ⟨b1, b2⟩ := b
  simp [mcode] at h ha hb
  have h1 : a1 = b1 := by omega
  have h2 : a2 = b2 := by omega
  rw [h1, h2]

theorem marks_strict {typed : Bool} {ps : List Nat} {ms : List (Nat × Nat)} (h18 : ∀ p ∈ ps, p < 18) (hp : ms.Perm ((dedup (cls typed) ps).map (cls typed))) (hs : ms.Pairwise (fun a b => mcode a ≤ mcode b)) : ms.Pairwise (fun a b => mcode a < mcode b) := by
  have hnd : ms.Nodup := hp.symm.nodup (List.pairwise_map.mpr (dedup_distinct (cls typed) ps))
  have hsm : ∀ a ∈ ms, a.2 < 100 := fun a ha => by
    obtain ⟨p, hp', rfl⟩ := List.mem_map.mp (hp.mem_iff.mp ha)
    refine cls_small ?_
    rcases dd_mem ps [] p hp' with q | q
    · cases q
    · exact h18 p q
  have : ∀ ms : List (Nat × Nat), ms.Nodup → (∀ a ∈ ms, a.2 < 100) → ms.Pairwise (fun a b => mcode a ≤ mcode b) → ms.Pairwise (fun a b => mcode a < mcode b) := by
    intro ms
    induction ms with
    | nil => intro _ _ _; exact .nil
    | cons a l ih =>
      intro h1 h2 h3
      have g1 := List.pairwise_cons.mp h1
      have g3 := List.pairwise_cons.mp h3
      refine List.pairwise_cons.mpr ⟨fun b hb => ?_, ih g1.2 (fun c hc => h2 c (.tail _ hc)) g3.2⟩
      rcases Nat.lt_or_ge (mcode a) (mcode b) with q | q
      · exact q
      · exact absurd (mcode_inj (h2 a (.head _)) (h2 b (.tail _ hb)) (Nat.le_antisymm (g3.1 b hb) q)) (g1.1 b hb)
  exact this ms hnd hsm hs

theorem marks_mem {typed : Bool} {ps : List Nat} {ms : List (Nat × Nat)} (hp : ms.Perm ((dedup (cls typed) ps).map (cls typed))) (x : Nat × Nat) : x ∈ ms ↔ ps.any (fun q => cls typed q == x) = true := by
  rw [hp.mem_iff, ← dedup_any, List.any_eq_true, List.mem_map]
  constructor
  · rintro ⟨p, hp, e⟩; exact ⟨p, hp, by simp [e]⟩
  · rintro ⟨p, hp, e⟩; exact ⟨p, hp, by simpa using e⟩

theorem marks_same {typed : Bool} {ps qs : List Nat} {ms1 ms2 : List (Nat × Nat)} (h1 : ∀ p ∈ ps, p < 18) (h2 : ∀ p ∈ qs, p < 18) (p1 : ms1.Perm ((dedup (cls typed) ps).map (cls typed))) (s1 : ms1.Pairwise (fun a b => mcode a ≤ mcode b))
    (p2 : ms2.Perm ((dedup (cls typed) qs).map (cls typed))) (s2 : ms2.Pairwise (fun a b => mcode a ≤ mcode b)) : (ms1 == ms2) = same (cls typed) ps qs := by
  rw [Bool.eq_iff_iff, beq_iff_eq]
  unfold same
  rw [Bool.and_eq_true, List.all_eq_true, List.all_eq_true]
  constructor
  · rintro rfl
    refine ⟨fun p hp => ?_, fun q hq => ?_⟩
    · exact (marks_mem p2 _).mp ((marks_mem p1 _).mpr (List.any_eq_true.mpr ⟨p, hp, by simp⟩))
    · exact (marks_mem p1 _).mp ((marks_mem p2 _).mpr (List.any_eq_true.mpr ⟨q, hq, by simp⟩))
  · rintro ⟨a1, a2⟩
    refine strict_eq mcode ms1 ms2 (marks_strict h1 p1 s1) (marks_strict h2 p2 s2) fun x => ?_
    rw [marks_mem p1, marks_mem p2]
    constructor
    · intro h
      obtain ⟨p, hp, e⟩ := List.any_eq_true.mp h
      have e' : cls typed p = x := by simpa using e
      rw [← e']; exact a1 p hp
    · intro h
      obtain ⟨p, hp, e⟩ := List.any_eq_true.mp h
      have e' : cls typed p = x := by simpa using e
      rw [← e']; exact a2 p hp

section
variable {prog : Program} {w : World} {A : Around} {E : Value → Shared → Prop} {s : Shared} {Z : Zp}
theorem ne_strs {a b : Addr} {vs us : List Value} {fs : List Str} {Q : Value → Shared → Prop} (ha : lstZ Z a vs) (hb : lstZ Z b us) (hz : Sub Z s.heap.get?) (R1 : Rows2 StrIs vs fs) (R2 : Rows2 StrIs us fs) (hu : A.units < cLine) (h : Q (.bool false) s) :
    wpAny (model prog w) A (compareOp .NotEq (.ref a) (.ref b)) Q E s := by
  obtain ⟨n, e⟩ := ha
  obtain ⟨k, e'⟩ := hb
  have hlen : vs.length = us.length := R1.length.trans R2.length.symm
  refine RcNeAt.lists (e := fun _ => true) ⟨_, hz _ _ e, rfl, n, rfl⟩ ⟨_, hz _ _ e', rfl, k, rfl⟩ (by simpa using hlen) hu (fun j h1 h2 => ?_) prog w E Q (by rw [show ((List.range vs.toArray.size).all fun _ => true) = true from List.all_eq_true.mpr fun _ _ => rfl]; exact h)
  have h1' : j < vs.length := by simpa using h1
  have h2' : j < us.length := by simpa using h2
  obtain ⟨f1, g1, t1, q1⟩ := R1.get j _ (List.getElem?_eq_getElem h1')
  obtain ⟨f2, g2, t2, q2⟩ := R2.get j _ (List.getElem?_eq_getElem h2')
  rw [g1] at g2
  cases g2
  simp only [List.getElem_toArray]
  rw [q1, q2]
  have := EqAt.str_str (A := A.in1) (s := s) f1 t1 f1 t2
  rw [beq_self_eq_true] at this
  exact this

theorem eq_marks {a b : Addr} {vs us : List Value} {ms1 ms2 : List (Nat × Nat)} {Q : Value → Shared → Prop} (ha : lstZ Z a vs) (hb : lstZ Z b us) (hz : Sub Z s.heap.get?) (R1 : Rows2 (IsMark Z) vs ms1) (R2 : Rows2 (IsMark Z) us ms2) (hu : A.units + 20 < cLine) (h : Q (.bool (ms1 == ms2)) s) :
    wpAny (model prog w) A (compareOp .Eq (.ref a) (.ref b)) Q E s := by
  obtain ⟨n, e⟩ := ha
  obtain ⟨k, e'⟩ := hb
  by_cases hlen : vs.length = us.length
  · have hm : ms1.length = ms2.length := by rw [← R1.length, ← R2.length, hlen]
    refine RcAt.lists (e := fun j => ms1[j]? == ms2[j]?) ⟨_, hz _ _ e, rfl, n, rfl⟩ ⟨_, hz _ _ e', rfl, k, rfl⟩ (by simpa using hlen) (by omega) (fun j h1 h2 => ?_) prog w E Q ?_
    · have h1' : j < vs.length := by simpa using h1
      have h2' : j < us.length := by simpa using h2
      obtain ⟨f1, g1, q1⟩ := R1.get j _ (List.getElem?_eq_getElem h1')
      obtain ⟨f2, g2, q2⟩ := R2.get j _ (List.getElem?_eq_getElem h2')
      simp only [List.getElem_toArray]
      rw [g1, g2]
      exact mark_eq q1 q2 hz (by show A.units + 1 + 5 < _; omega)
    · have : ((List.range vs.toArray.size).all fun j => ms1[j]? == ms2[j]?) = (ms1 == ms2) := by
        rw [Bool.eq_iff_iff, beq_iff_eq, List.all_eq_true]
        constructor
        · intro h
          refine List.ext_getElem? fun j => ?_
          rcases Nat.lt_or_ge j vs.length with q | q
          · simpa using h j (by simpa using q)
          · rw [List.getElem?_eq_none (by rw [← R1.length]; exact q), List.getElem?_eq_none (by rw [← R2.length, ← hlen]; exact q)]
        · rintro rfl x _; simp
      rw [this]; exact h
  · refine RcAt.lists_lengths ⟨_, hz _ _ e, rfl, n, rfl⟩ ⟨_, hz _ _ e', rfl, k, rfl⟩ (by simpa using hlen) (by omega) prog w E Q ?_
    have : (ms1 == ms2) = false := by
      rw [Bool.eq_false_iff]
      intro q
      have : ms1 = ms2 := by simpa using q
      exact hlen (by rw [R1.length, R2.length, this])
    rw [← this]; exact h
end
end Mine

namespace Mine
open SeqAt MeetsSeq AutoSeq1

theorem pick2_mem {xs : List Value} {a : Int} {v : Value} (h : v ∈ (slicePick xs.toArray (some a) (some 40) (some 2)).toList) : v ∈ xs := by
  unfold slicePick at h
  simp only [List.mem_filterMap] at h
  obtain ⟨j, _, e⟩ := h
  exact List.mem_of_getElem? (by simpa using e)
theorem pick2_len {xs : List Value} {a : Int} (ha : a = 0 ∨ a = 1) : (slicePick xs.toArray (some a) (some 40) (some 2)).toList.length ≤ 20 := by
  unfold slicePick
  refine Nat.le_trans (List.length_filterMap_le _ _) ?_
  unfold sliceRange sliceBounds
  simp only [List.length_map, List.length_range, Option.getD_some]
  rcases ha with rfl | rfl
  · simp only [show ((2 : Int) > 0) = True by simp, if_true]
    simp
    split <;> omega
  · simp only [show ((2 : Int) > 0) = True by simp, if_true]
    simp
    split <;> omega

theorem Node.up {Z : Zp} : ∀ {d : Nat} {v : Value} {row : List Nat}, Node d Z v row → Node (d + 1) Z v row
  | 0, _, _, h => h.elim
  | d + 1, v, row, h => by
    obtain ⟨a, kids, rows, e, hl, R, e2⟩ := h
    exact ⟨a, kids, rows, e, hl, R.mono fun _ _ x => x.imp id Node.up, e2⟩

theorem rows_reverse {α β : Type} {R : α → β → Prop} : ∀ {as : List α} {bs : List β}, Rows2 R as bs → Rows2 R as.reverse bs.reverse
  | _, _, .nil => .nil
  | _, _, .cons x t => by rw [List.reverse_cons, List.reverse_cons]; exact (rows_reverse t).snoc x
theorem flatten_reverse_length : ∀ (rows : List (List Nat)), rows.reverse.flatten.length = rows.flatten.length
  | [] => rfl
  | r :: rows => by
    rw [List.reverse_cons, List.flatten_append, List.length_append, flatten_reverse_length rows, List.flatten_cons, List.flatten_nil, List.append_nil, List.flatten_cons, List.length_append]
    omega

section
variable {prog : Program} {w : World} {A : Around} {E : Value → Shared → Prop} {s : Shared} {Z : Zp}
theorem slice_at {l : Addr} {xs : List Value} {vl vu vs : Value} {lo hi st : Option Int} {Q : Value → Shared → Prop} (hz : Sub Z s.heap.get?) (hl : lstZ Z l xs) (pl : IsPart vl lo) (pu : IsPart vu hi) (ps : IsPart vs st) (h0 : st ≠ some 0) (hlen : xs.length ≤ sizeLine)
    (h : ∀ s' Z' c, Step Z s Z' s' → lstZ Z' c (slicePick xs.toArray lo hi st).toList → Q (.ref c) s') :
    Shared.TypeIs { s with heap := s.heap.push { cls := .type "slice", data := .fields #[vl, vu, vs] } } (.ref l) "list" ∧
      wpAny (model prog w) A (getItem (.ref l) (.ref s.heap.objs.size)) Q E { s with heap := s.heap.push { cls := .type "slice", data := .fields #[vl, vu, vs] } } := by
  obtain ⟨n, e⟩ := hl
  have S1 : Step Z s Z { s with heap := s.heap.push { cls := .type "slice", data := .fields #[vl, vu, vs] }, toks := s.toks } := (Step.refl hz).pushM
  have hL : Heap.IsList (s.heap.push { cls := .type "slice", data := .fields #[vl, vu, vs] }) l xs.toArray := ⟨_, S1.zh _ _ e, rfl, n, rfl⟩
  refine ⟨⟨_, S1.zh _ _ e, rfl⟩, ?_⟩
  refine wpAny_getItem_list_slice hL (Heap.IsSliceOf.new _ _ _ _) pl pu ps h0 ?_ (by simpa using hlen)
  have S2 := S1.push (o := { cls := .type "list", data := .seq (slicePick xs.toArray lo hi st) }) (tk := s.toks)
  exact h _ _ _ S2 ⟨0, by rw [put_self]⟩

/-- one[::-1] -/
theorem node_reverse {a c : Addr} {d : Nat} {row : List Nat} {xs : List Value} (h : Node (d + 1) Z (.ref a) row) (hl : lstZ Z a xs) {Z' : Zp} (k : Sub Z Z') (hc : lstZ Z' c (slicePick xs.toArray none none (some (-1))).toList) : ∃ row', Node (d + 1) Z' (.ref c) row' ∧ row'.length = row.length := by
  obtain ⟨b, kids, rows, e, hk, R, rfl⟩ := h
  cases e
  obtain ⟨n, e1⟩ := hl
  obtain ⟨n', e2⟩ := hk
  have : xs = kids := by
    rw [e1] at e2
    simpa using (by simpa using e2 : xs = kids ∧ n = n').1
  subst this
  rw [krv_pick] at hc
  refine ⟨rows.reverse.flatten, ⟨c, xs.reverse, rows.reverse, rfl, by simpa using hc, (rows_reverse R).mono fun _ _ x => x.imp id (Node.mono k), rfl⟩, flatten_reverse_length rows⟩
end
end Mine

namespace Mine
open SeqAt MeetsSeq AutoSeq1

section
variable {prog : Program} {w : World} {A : Around} {E : Value → Shared → Prop} {s : Shared} {Z : Zp}

/-- the four nodes and their rows; the four flat lists -/
def FourR (Z : Zp) (vs : List Value) (rs : List (List Nat)) : Prop := Rows2 (fun v r => Node 5 Z v r ∧ r.length ≤ 400000) vs rs
def FlatR (Z : Zp) (vs : List Value) (rs : List (List Nat)) : Prop := Rows2 (fun v r => ∃ c us, v = .ref c ∧ lstZ Z c us ∧ Rows2 IntIs us r) vs rs
theorem FourR.mono {Z Z' : Zp} {vs : List Value} {rs : List (List Nat)} (h : FourR Z vs rs) (k : Sub Z Z') : FourR Z' vs rs := Rows2.mono (fun _ _ x => ⟨x.1.mono k, x.2⟩) h
theorem FlatR.mono {Z Z' : Zp} {vs : List Value} {rs : List (List Nat)} (h : FlatR Z vs rs) (k : Sub Z Z') : FlatR Z' vs rs := Rows2.mono (fun _ _ ⟨c, us, e, h1, h2⟩ => ⟨c, us, e, h1.mono k, h2⟩) h

/-- the told marks; the rows -/
def MarksR (Z : Zp) (typed : Bool) (vs : List Value) (rs : List (List Nat)) : Prop := Rows2 (fun v r => ∃ c ms us, v = .ref c ∧ lstZ Z c us ∧ Rows2 (IsMark Z) us ms ∧ ms.Perm ((dedup (cls typed) r).map (cls typed)) ∧ ms.Pairwise (fun a b => mcode a ≤ mcode b)) vs rs
def ValsR (Z : Zp) (typed : Bool) (vs : List Value) (rs : List (List Nat)) : Prop := Rows2 (fun v r => ∃ c us, v = .ref c ∧ lstZ Z c us ∧ Rows2 (fun v p => IsElem Z typed p v) us r) vs rs
theorem MarksR.mono {Z Z' : Zp} {typed : Bool} {vs : List Value} {rs : List (List Nat)} (h : MarksR Z typed vs rs) (k : Sub Z Z') : MarksR Z' typed vs rs := Rows2.mono (fun _ _ ⟨c, ms, us, e, h1, h2, h3⟩ => ⟨c, ms, us, e, h1.mono k, h2.mono fun _ _ x => x.mono k, h3⟩) h
theorem ValsR.mono {Z Z' : Zp} {typed : Bool} {vs : List Value} {rs : List (List Nat)} (h : ValsR Z typed vs rs) (k : Sub Z Z') : ValsR Z' typed vs rs := Rows2.mono (fun _ _ ⟨c, us, e, h1, h2⟩ => ⟨c, us, e, h1.mono k, h2.mono fun _ _ x => x.mono k⟩) h

theorem getB {l : List Value} {j : Nat} (h : j < l.length) : l[j]? = some l[j]! := by
  rw [List.getElem?_eq_getElem h, List.getElem!_eq_getElem?_getD, List.getElem?_eq_getElem h]; rfl

theorem zip_apart (n l1 l2 : Nat) (h1 : l1 < n) (h2 : l2 < n) : ZipApart (n + 4) (n + 2) (n + 3) n (n + 1) l1 l2 := by
  constructor <;> (intro q; have q' : (_ : Nat) = _ := q; omega)

theorem pairs_display {env : Env} {q1 q2 q3 q4 q5 q6 u1 u2 u3 u4 : Pos} {k1 k2 k3 k4 k5 k6 : Nat} {Q : Value → Shared → Prop} (hz : Sub Z s.heap.get?)
    (h : ∀ s' Z' T items, Step Z s Z' s' → tupZ Z' T items → items.length = 3 → (∀ (i : Nat) (v : Value), items[i]? = some v → ∃ (P : Addr) (p q : Nat) (t1 t2 : Tok), v = .ref P ∧ tupZ Z' P [.int (p : Int) t1, .int (q : Int) t2] ∧ p < 4 ∧ q < 4) → s'.heap.IsTuple T items.toArray → Q (.ref T) s') :
    wpAny (model prog w) A (eval (.Tuple [.Tuple [.Constant (.int 0) k1 q1, .Constant (.int 1) k2 q2] 0 u1, .Tuple [.Constant (.int 0) k3 q3, .Constant (.int 2) k4 q4] 0 u2, .Tuple [.Constant (.int 3) k5 q5, .Constant (.int 1) k6 q6] 0 u3] 0 u4) env) Q E s := by
  refine wpAny_Tuple ?_
  refine wpAny_items_cons ?_ rfl
  refine wpAny_Tuple ?_
  refine wpAny_items_cons ?_ rfl
  refine wpAny_Constant_int ?_
  refine wpAny_items_cons ?_ rfl
  refine wpAny_Constant_int ?_
  refine wpAny_items_nil ?_
  refine ⟨by rw [sizeLine_eq]; simp, ?_⟩
  have S1 := (Step.refl hz).push (o := { cls := .type "tuple", data := .seq #[.int 0 s.toks, .int 1 (s.toks + 1)] }) (tk := s.toks + 1 + 1)
  refine wpAny_items_cons ?_ rfl
  refine wpAny_Tuple ?_
  refine wpAny_items_cons ?_ rfl
  refine wpAny_Constant_int ?_
  refine wpAny_items_cons ?_ rfl
  refine wpAny_Constant_int ?_
  refine wpAny_items_nil ?_
  refine ⟨by rw [sizeLine_eq]; simp, ?_⟩
  have S2 := (Step.refl S1.zh).push (o := { cls := .type "tuple", data := .seq #[.int 0 (s.toks + 1 + 1), .int 2 (s.toks + 1 + 1 + 1)] }) (tk := s.toks + 1 + 1 + 1 + 1)
  refine wpAny_items_cons ?_ rfl
  refine wpAny_Tuple ?_
  refine wpAny_items_cons ?_ rfl
  refine wpAny_Constant_int ?_
  refine wpAny_items_cons ?_ rfl
  refine wpAny_Constant_int ?_
  refine wpAny_items_nil ?_
  refine ⟨by rw [sizeLine_eq]; simp, ?_⟩
  have S3 := (Step.refl S2.zh).push (o := { cls := .type "tuple", data := .seq #[.int 3 (s.toks + 1 + 1 + 1 + 1), .int 1 (s.toks + 1 + 1 + 1 + 1 + 1)] }) (tk := s.toks + 1 + 1 + 1 + 1 + 1 + 1)
  refine wpAny_items_nil ?_
  refine ⟨by rw [sizeLine_eq]; simp, ?_⟩
  have S4 := (Step.refl S3.zh).push (o := { cls := .type "tuple", data := .seq #[.ref s.heap.objs.size, .ref (s.heap.push { cls := .type "tuple", data := .seq #[.int 0 s.toks, .int 1 (s.toks + 1)] }).objs.size,
    .ref ((s.heap.push { cls := .type "tuple", data := .seq #[.int 0 s.toks, .int 1 (s.toks + 1)] }).push { cls := .type "tuple", data := .seq #[.int 0 (s.toks + 1 + 1), .int 2 (s.toks + 1 + 1 + 1)] }).objs.size] }) (tk := s.toks + 1 + 1 + 1 + 1 + 1 + 1)
  refine h _ _ _ [_, _, _] (((S1.trans S2).trans S3).trans S4) ⟨0, put_self _ _ _⟩ rfl (fun i v hv => ?_) ⟨_, Heap.get?_push_size _ rfl, rfl, 0, rfl⟩
  match i, hv with
  | 0, hv => cases hv; exact ⟨_, 0, 1, _, _, rfl, (((show tupZ _ _ [.int (0 : Nat) s.toks, .int (1 : Nat) (s.toks + 1)] from ⟨0, put_self _ _ _⟩).mono S2.zz).mono S3.zz).mono S4.zz, by decide, by decide⟩
  | 1, hv => cases hv; exact ⟨_, 0, 2, _, _, rfl, ((show tupZ _ _ [.int (0 : Nat) (s.toks + 1 + 1), .int (2 : Nat) (s.toks + 1 + 1 + 1)] from ⟨0, put_self _ _ _⟩).mono S3.zz).mono S4.zz, by decide, by decide⟩
  | 2, hv => cases hv; exact ⟨_, 3, 1, _, _, rfl, (show tupZ _ _ [.int (3 : Nat) (s.toks + 1 + 1 + 1 + 1), .int (1 : Nat) (s.toks + 1 + 1 + 1 + 1 + 1)] from ⟨0, put_self _ _ _⟩).mono S4.zz, by decide, by decide⟩
  | i + 3, hv => simp at hv

theorem law_body {a : Addr} {vs : List Value} {Q : Value → Shared → Prop} (W : WZ w Z) (hz : Sub Z s.heap.get?) (hfr : Frs A Z s.heap) (hn : A.handled = none) (hg : A.guards = some []) (hd : A.depth + 40 < recursionLimit) (hu : A.units + 600 < cLine)
    (zt : Z tabA = none) (tb : Tb s.heap) (hl : lstZ Z a vs) (hi : ∀ v ∈ vs, IsInt v) (hlen : vs.length ≤ 1000000)
    (h : ∀ s' Z', StepU Z s Z' s' → Q (.bool true) s') : wpAny (model prog w) A (call (.ref 88) [.ref a] []) Q E s := by
  refine' call_fn (binds := [(Str.ofString "script", .ref a)]) (W.at hz) (by omega) ?ho ?hcd (BindsTo.of_eq ?hb) ?_ ?hloc ?hcell ?hco ?hgen ?hk
  case ho => exact rfl
  case hcd => exact rfl
  case hb => exact rfl
  case hloc => exact locs rfl
  case hcell => decide
  case hco => rfl
  case hgen => rfl
  case hk => rfl
  intro h' hns hk hsz'
  have x0 := At.enter (t := s.toks + 1) hz hns hk hsz'
  -- one = _law_grown(script[0:40:2])
  refine wpAny_execs_cons ?_
  refine wpAny_Assign_Name ?_
  refine Call_Name rfl ?_
  refine ld_fn (v := .ref 64) (W.at x0.st.zh) rfl ?_
  refine cw_fn1 rfl ?_
  refine wpAny_Subscript_Slice_step slot_list_getitem.lookup ?_
  refine ld_loc (v := .ref a) x0.ns rfl ?_
  refine wpAny_Slice ?_
  show wpAny _ _ (eval _ _) _ _ _
  refine wpAny_Constant_int ?_
  show wpAny _ _ (eval _ _) _ _ _
  refine wpAny_Constant_int ?_
  show wpAny _ _ (eval _ _) _ _ _
  refine wpAny_Constant_int ?_
  have x0t := x0.tk (t := s.toks + 1 + 1 + 1 + 1)
  refine slice_at (Z := Z) x0t.st.zh hl (.int _ _) (.int _ _) (.int _ _) (by decide) (by rw [sizeLine_eq]; omega) fun s1 Z1 c1 S1 hc1 => ?_
  have x1 := x0t.step S1
  have W1 := W.mono S1.zz
  refine ⟨W1.at x1.st.zh, ?_⟩
  refine law_grown W1 x1.st.zh (.inl hn) (by show A.depth + 1 + 3 < _; omega) (by show A.units + 3 + 100 < _; omega) hc1 (fun v hv => hi v (pick2_mem hv)) (pick2_len (.inl rfl)) ?_
  intro s2 Z2 one row1 kids1 S2 hone hrow1 hk1 hk1l
  have x2 := x1.call S2
  refine st_loc x2.ns (fun h3 hn3 hs3 => ?_) rfl rfl
  have x3 := x2.store (t := s2.toks + 1) hn3 hs3
  have W3 := W1.mono S2.zz
  -- two = _law_grown(script[1:40:2])
  refine wpAny_execs_cons ?_
  refine wpAny_Assign_Name ?_
  refine Call_Name rfl ?_
  refine ld_fn (v := .ref 64) (W3.at x3.st.zh) rfl ?_
  refine cw_fn1 rfl ?_
  refine wpAny_Subscript_Slice_step slot_list_getitem.lookup ?_
  refine ld_loc (v := .ref a) x3.ns rfl ?_
  refine wpAny_Slice ?_
  show wpAny _ _ (eval _ _) _ _ _
  refine wpAny_Constant_int ?_
  show wpAny _ _ (eval _ _) _ _ _
  refine wpAny_Constant_int ?_
  show wpAny _ _ (eval _ _) _ _ _
  refine wpAny_Constant_int ?_
  have x3t := x3.tk (t := s2.toks + 1 + 1 + 1 + 1)
  refine slice_at (Z := Z2) x3t.st.zh (hl.mono x3t.st.zz) (.int _ _) (.int _ _) (.int _ _) (by decide) (by rw [sizeLine_eq]; omega) fun s4 Z4 c4 S4 hc4 => ?_
  have x4 := x3t.step S4
  have W4 := W3.mono S4.zz
  refine ⟨W4.at x4.st.zh, ?_⟩
  refine law_grown W4 x4.st.zh (.inl hn) (by show A.depth + 1 + 3 < _; omega) (by show A.units + 3 + 100 < _; omega) hc4 (fun v hv => hi v (pick2_mem hv)) (pick2_len (.inr rfl)) ?_
  intro s5 Z5 two row2 kids2 S5 htwo hrow2 hk2 hk2l
  have x5 := x4.call S5
  refine st_loc x5.ns (fun h6 hn6 hs6 => ?_) rfl rfl
  have x6 := x5.store (t := s5.toks + 1) hn6 hs6
  have W6 := W4.mono S5.zz
  have hone6 := hone.mono (S4.zz.trans S5.zz)
  -- four = [one, two, one[::-1], [two, one]]
  refine wpAny_execs_cons ?_
  refine wpAny_Assign_Name ?_
  refine wpAny_List ?_
  refine wpAny_items_cons ?_ rfl
  refine ld_loc (v := .ref one) x6.ns rfl ?_
  refine wpAny_items_cons ?_ rfl
  refine ld_loc (v := .ref two) x6.ns rfl ?_
  refine wpAny_items_cons ?_ rfl
  refine wpAny_Subscript_Slice_step slot_list_getitem.lookup ?_
  refine ld_loc (v := .ref one) x6.ns rfl ?_
  refine wpAny_Slice ?_
  refine wpAny_pure ?_
  refine wpAny_pure ?_
  show wpAny _ _ (eval _ _) _ _ _
  refine wpAny_UnaryOp ?_
  refine wpAny_Constant_int ?_
  refine PyProof.Rows.neg_int ?_
  have x6t := x6.tk (t := s5.toks + 1 + 1 + 1)
  have hk16 := hk1.mono (S4.zz.trans S5.zz)
  refine slice_at (Z := Z5) x6t.st.zh hk16 .none .none (.int _ _) (by decide) (by rw [sizeLine_eq]; omega) fun s7 Z7 c7 S7 hc7 => ?_
  have x7 := x6t.step S7
  obtain ⟨row3, hthree, hrow3⟩ := node_reverse hone6 hk16 S7.zz hc7
  refine wpAny_items_cons ?_ rfl
  refine wpAny_List ?_
  refine wpAny_items_cons ?_ rfl
  refine ld_loc (v := .ref two) x7.ns rfl ?_
  refine wpAny_items_cons ?_ rfl
  refine ld_loc (v := .ref one) x7.ns rfl ?_
  refine wpAny_items_nil ?_
  refine ⟨by rw [sizeLine_eq]; simp, ?_⟩
  have S8 := (Step.refl x7.st.zh).push (o := lobj [.ref two, .ref one] 0) (tk := s7.toks)
  have x8 := x7.step S8
  refine wpAny_items_nil ?_
  refine ⟨by rw [sizeLine_eq]; simp, ?_⟩
  have hfour : Node 5 (put Z7 s7.heap.objs.size (lobj [.ref two, .ref one] 0)) (.ref s7.heap.objs.size) [row2, row1].flatten :=
    ⟨s7.heap.objs.size, [.ref two, .ref one], [row2, row1], rfl, ⟨0, put_self _ _ _⟩, .cons (.inr (htwo.mono (S7.zz.trans S8.zz))) (.cons (.inr (hone6.mono (S7.zz.trans S8.zz))) .nil), rfl⟩
  have S9 := (Step.refl x8.st.zh).push (o := lobj [.ref one, .ref two, .ref c7, .ref s7.heap.objs.size] 0) (tk := s7.toks)
  have x9 := x8.step S9
  refine st_loc x9.ns (fun h10 hn10 hs10 => ?_) rfl rfl
  have x10 := x9.store (t := s7.toks + 1) hn10 hs10
  have W10 := ((W6.mono S7.zz).mono S8.zz).mono S9.zz
  have hF10 : FourR (put (put Z7 s7.heap.objs.size (lobj [.ref two, .ref one] 0)) (s7.heap.push (lobj [.ref two, .ref one] 0)).objs.size (lobj [.ref one, .ref two, .ref c7, .ref s7.heap.objs.size] 0)) [.ref one, .ref two, .ref c7, .ref s7.heap.objs.size] [row1, row2, row3, [row2, row1].flatten] := by
    refine FourR.mono (Z := put Z7 s7.heap.objs.size (lobj [.ref two, .ref one] 0)) ?_ S9.zz
    refine .cons ⟨(hone6.mono (S7.zz.trans S8.zz)).up, by omega⟩ (.cons ⟨(htwo.mono (S7.zz.trans S8.zz)).up, by omega⟩ (.cons ⟨(hthree.mono S8.zz).up, by omega⟩ (.cons ⟨hfour, ?_⟩ .nil)))
    simp
    omega
  have hl10 : lstZ (put (put Z7 s7.heap.objs.size (lobj [.ref two, .ref one] 0)) (s7.heap.push (lobj [.ref two, .ref one] 0)).objs.size (lobj [.ref one, .ref two, .ref c7, .ref s7.heap.objs.size] 0)) (s7.heap.push (lobj [.ref two, .ref one] 0)).objs.size [.ref one, .ref two, .ref c7, .ref s7.heap.objs.size] := ⟨0, put_self _ _ _⟩
  have hnodes4 : [Value.ref one, .ref two, .ref c7, .ref s7.heap.objs.size].length = 4 := rfl
  generalize [row1, row2, row3, [row2, row1].flatten] = rs at hF10
  generalize put (put Z7 s7.heap.objs.size (lobj [.ref two, .ref one] 0)) (s7.heap.push (lobj [.ref two, .ref one] 0)).objs.size (lobj [.ref one, .ref two, .ref c7, .ref s7.heap.objs.size] 0) = Z10 at *
  generalize (s7.heap.push (lobj [.ref two, .ref one] 0)).objs.size = four at *
  generalize [Value.ref one, .ref two, .ref c7, .ref s7.heap.objs.size] = nodes at *
  -- flats = [_law_flat(node) for node in four]
  refine wpAny_execs_cons ?_
  refine comp_assign (fun i Z y => ∃ c us r, rs[i]? = some r ∧ y = .ref c ∧ lstZ Z c us ∧ Rows2 IntIs us r) (fun i Z Z' y k ⟨c, us, r, e, e2, h1, h2⟩ => ⟨c, us, r, e, e2, h1.mono k, h2⟩) rfl (by decide) (by decide) rfl (by decide) rfl rfl rfl ?_ (fun x => rfl)
  refine ld_loc (v := .ref four) x10.ns rfl ?_
  have hnl : nodes.length ≤ 1000000 := by
    have e : nodes.length = 4 := hnodes4
    omega
  refine ⟨four, nodes, Z10, _, rfl, .inl hn, x10.st.zh, hl10, hnl, x10.ns, x10.zl, ?_, ?_⟩
  · intro i v Z1 s1 m1 C E' hv S1 hns1 hm1 Q' hQ'
    obtain ⟨r, hr, hnode, hrl⟩ := hF10.get i v hv
    refine Call_Name rfl ?_
    refine ld_fn (env := compEnv _ C _) (v := .ref 71) ((W10.mono S1.zz).at S1.zh) rfl ?_
    refine cw_fn1 rfl ?_
    refine ld_loc (v := v) (env := compEnv _ C _) hns1 hm1 ?_
    refine ⟨(W10.mono S1.zz).at S1.zh, ?_⟩
    refine law_flat 5 (W10.mono S1.zz) S1.zh hn (by show A.depth + 1 + 5 + 2 < _; omega) (hnode.mono S1.zz) (by omega) ?_
    intro s2 Z2 c us S2 hc hus
    exact hQ' s2 Z2 _ S2 ⟨c, us, r, hr, rfl, hc, hus⟩
  intro s11 Z11 flats fl S11 hfl hfll hP hn11
  have hWL : ∀ b, b = s.heap.objs.size → s.heap.objs.size ≤ b := fun b q => by rw [q]; exact Nat.le_refl _
  have x11 := x10.loop hWL S11 hn11
  have W11 := W10.mono S11.zz
  have hF11 := hF10.mono S11.zz
  have hl11 := hl10.mono S11.zz
  have hfl4 : fl.length = 4 := hfll.trans hnodes4
  have hrs4 : rs.length = 4 := (Rows2.length hF10).symm.trans hnodes4
  have hG11 : FlatR Z11 fl rs := rows_of_get (hfl4.trans hrs4.symm) fun i y hy => by
    obtain ⟨c, us, r, hr, e, h1, h2⟩ := hP i y hy
    exact ⟨r, hr, c, us, e, h1, h2⟩
  -- for typed in (True, False)
  refine wpAny_execs_cons ?_
  refine wpAny_For ?_
  refine wpAny_Tuple ?_
  refine wpAny_items_cons ?_ rfl
  refine wpAny_Constant_bool ?_
  refine wpAny_items_cons ?_ rfl
  refine wpAny_Constant_bool ?_
  refine wpAny_items_nil ?_
  refine ⟨by rw [sizeLine_eq]; simp, ?_⟩
  have S12 := (Step.refl x11.st.zh).push (o := { cls := .type "tuple", data := .seq #[.bool true, .bool false] }) (tk := s11.toks)
  have x12 := x11.step S12
  refine wpAny_pyIter_tuple ⟨_, Heap.get?_push_size _ rfl, rfl, 0, rfl⟩ ?_
  have hT12 : tupZ (put Z11 s11.heap.objs.size { cls := .type "tuple", data := .seq #[.bool true, .bool false] }) s11.heap.objs.size [.bool true, .bool false] := ⟨0, put_self _ _ _⟩
  have W12 := W11.mono S12.zz
  have hF12 := hF11.mono S12.zz
  have hG12 := hG11.mono S12.zz
  have hl12 := hl11.mono S12.zz
  have hfl12 := hfl.mono S12.zz
  generalize put Z11 s11.heap.objs.size { cls := .type "tuple", data := .seq #[.bool true, .bool false] } = Z12 at *
  refine loop_walk (s0 := { s11 with heap := s11.heap.push { cls := .type "tuple", data := .seq #[.bool true, .bool false] }, toks := s11.toks }) (W := fun b => b = s.heap.objs.size)
    (X := [Str.ofString "marks", Str.ofString "rows", Str.ofString "node", Str.ofString "flat", Str.ofString "told", Str.ofString "firsts", Str.ofString "values", Str.ofString "i", Str.ofString "j"]) (xs := [Str.ofString "typed"])
    (T := fun i m => m (Str.ofString "typed") = some (.bool (i == 0))) (R := fun i Z g m => True)
    (walk_tuple hn hT12) ((Step.refl x12.st.zh).pushM (tk := s11.toks)).toW ⟨_, Heap.get?_push_size _ rfl, rfl, rfl⟩ (x12.ns.push _) ?hW rfl ?hI ?hIo ?mono trivial ?asg ?turn ?fin
  case hW => rintro b rfl; exact ⟨x12.lt, x12.zl⟩
  case hI => rintro b rfl; exact ⟨Nat.le_refl _, by simp, x12.st.none_of_new⟩
  case hIo =>
    rintro b o rfl h i ⟨o', ho', hc, hd⟩ ho
    rw [ho] at ho'
    cases ho'
    exact ⟨(by rw [hc]; intro q; cases q), (fun es k q => by rw [hd] at q; cases q)⟩
  case mono => intros; trivial
  case asg =>
    intro i v s1 m1 Q' E' hi hv hns1 hz1 hQ'
    refine wpAny_assign_Name (st_loc hns1 (fun h2 hn2 hs2 => ?_) rfl rfl)
    refine hQ' h2 _ _ hn2 ?_ (fun y hy => by
      have : y ≠ Str.ofString "typed" := fun q => hy (by simp [q])
      simp only [this, if_false]) (fun c o hc e => (hs2.2 c hc).trans e) (Nat.le_of_eq hs2.1.symm)
    show (if _ then _ else _) = _
    rw [if_pos rfl]
    match i, hv with
    | 0, hv => cases hv; rfl
    | 1, hv => cases hv; rfl
    | i + 2, hv => simp at hv
  case fin =>
    intro Z13 s13 m13 S13 hn13 hm13 _
    have x13 := x12.loop hWL S13 hn13
    refine wpAny_execs_cons ?_
    refine wpAny_Return_some ?_
    refine wpAny_Constant_bool ?_
    exact h _ _ x13.st
  case turn =>
    intro i Z13 s13 m13 hi13 S13 hn13 hT13 hm13 _
    have x13 := x12.loop hWL S13 hn13
    generalize (i == 0) = typed at hT13
    have W13 := W12.mono S13.zz
    -- marks = []
    refine wpAny_execs_cons ?_
    refine wpAny_Assign_Name ?_
    refine wpAny_List ?_
    refine wpAny_items_nil ?_
    refine ⟨Nat.zero_le _, ?_⟩
    have x14 := x13.step ((Step.refl x13.st.zh).pushM (o := lobj [] 0) (tk := s13.toks))
    refine st_loc x14.ns (fun h15 hn15 hs15 => ?_) rfl rfl
    have x15 := x14.store (t := s13.toks + 1) hn15 hs15
    have hLM : s.heap.objs.size ≠ s13.heap.objs.size := Nat.ne_of_lt x13.lt
    have hM15 : h15.get? s13.heap.objs.size = some (lobj [] 0) := (hs15.2 _ (Ne.symm hLM)).trans (Heap.get?_push_size _ rfl)
    have hzM : Z13 s13.heap.objs.size = none := x13.st.none_of_new
    -- rows = []
    refine wpAny_execs_cons ?_
    refine wpAny_Assign_Name ?_
    refine wpAny_List ?_
    refine wpAny_items_nil ?_
    refine ⟨Nat.zero_le _, ?_⟩
    have x16 := x15.step ((Step.refl x15.st.zh).pushM (o := lobj [] 0) (tk := s13.toks + 1))
    refine st_loc x16.ns (fun h17 hn17 hs17 => ?_) rfl rfl
    have x17 := x16.store (t := s13.toks + 1 + 1) hn17 hs17
    have hLV : s.heap.objs.size ≠ h15.objs.size := Nat.ne_of_lt x15.lt
    have hMV : s13.heap.objs.size ≠ h15.objs.size := Nat.ne_of_lt (Heap.lt_size hM15)
    have hV17 : h17.get? h15.objs.size = some (lobj [] 0) := (hs17.2 _ (Ne.symm hLV)).trans (Heap.get?_push_size _ rfl)
    have hM17 : h17.get? s13.heap.objs.size = some (lobj [] 0) := (hs17.2 _ (Ne.symm hLM)).trans (Heap.get?_push_of_some _ hM15)
    have hzV : Z13 h15.objs.size = none := x15.st.none_of_new
    -- for node, flat in zip(four, flats)
    refine wpAny_execs_cons ?_
    refine wpAny_For ?_
    refine Call_Name rfl ?_
    refine ld_bi (v := .type "zip") (W13.at x17.st.zh) rfl Boot.«zip» ?_
    refine PyProof.Rows.callWith_type rfl ?_
    refine Calls.evalArgs_plain ?_
    refine Calls.spliced_cons ?_
    refine ld_loc (v := .ref four) x17.ns ((hm13 _ (by decide)).trans rfl) ?_
    refine Calls.spliced_cons ?_
    refine ld_loc (v := .ref flats) x17.ns ((hm13 _ (by decide)).trans rfl) ?_
    refine Calls.spliced_nil ?_
    have hl17 := hl12.mono S13.zz
    have hfl17 := hfl12.mono S13.zz
    have hF17 := hF12.mono S13.zz
    have hG17 := hG12.mono S13.zz
    have hLf : lstZ Z13 four nodes := hl17
    obtain ⟨k1, e1⟩ := id hl17
    obtain ⟨k2, e2⟩ := id hfl17
    have b1 : four < h17.objs.size := Heap.lt_size (x17.st.zh _ _ e1)
    have b2 : flats < h17.objs.size := Heap.lt_size (x17.st.zh _ _ e2)
    refine call_zip_2 ⟨_, x17.st.zh _ _ e1, rfl, k1, rfl⟩ ⟨_, x17.st.zh _ _ e2, rfl, k2, rfl⟩ fun h18 hz18 hI18 hO18 h118 h218 hsz18 hk18 => ?_
    refine wpAny_pyIter_zip hz18 ?_
    have hM18 := hk18 _ _ hM17
    have hV18 := hk18 _ _ hV17
    have S18 : Step Z13 { s13 with heap := h17, toks := s13.toks + 1 + 1 } Z13 { s13 with heap := h18, toks := s13.toks + 1 + 1 } := (Step.refl x17.st.zh).keeps hk18 (by rw [hsz18]; exact Nat.le_add_right _ _)
    have x18 := x17.step S18
    have hzz : ∀ b, h17.objs.size ≤ b → Z13 b = none := fun b hb => by
      cases e : Z13 b with
      | none => rfl
      | some o => exact absurd (Heap.lt_size (x17.st.zh _ _ e)) (Nat.not_lt.mpr hb)
    have hW3 : ∀ b, (b = s.heap.objs.size ∨ b = s13.heap.objs.size ∨ b = h15.objs.size) → s.heap.objs.size ≤ b := by
      rintro b (rfl | rfl | rfl)
      · exact Nat.le_refl _
      · exact x13.st.sz
      · exact x15.st.sz
    refine loop_walk (s0 := { s13 with heap := h17, toks := s13.toks + 1 + 1 }) (W := fun b => b = s.heap.objs.size ∨ b = s13.heap.objs.size ∨ b = h15.objs.size)
      (X := [Str.ofString "told", Str.ofString "firsts", Str.ofString "values"]) (xs := [Str.ofString "node", Str.ofString "flat"])
      (T := fun i m => ∃ x y, nodes[i]? = some x ∧ fl[i]? = some y ∧ m (Str.ofString "node") = some x ∧ m (Str.ofString "flat") = some y)
      (R := fun i Z g m => ∃ mv n rv k, g s13.heap.objs.size = some (lobj mv n) ∧ g h15.objs.size = some (lobj rv k) ∧ MarksR Z typed mv (rs.take i) ∧ ValsR Z typed rv (rs.take i))
      (walk_zip hn ?hD hl17 hfl17 ?hln) S18.toW ⟨hz18, hI18, ⟨_, _, hO18⟩, h118, h218, ⟨_, x18.st.zh _ _ e1, rfl, k1, rfl⟩, ⟨_, x18.st.zh _ _ e2, rfl, k2, rfl⟩⟩ x18.ns ?hW (.inl rfl) ?hI ?hIo ?mono ⟨[], 0, [], 0, hM18, hV18, .nil, .nil⟩ ?asg ?turn ?fin
    case hD => exact zip_apart _ _ _ b1 b2
    case hln => rw [hfl4]; exact hnodes4
    case hW =>
      rintro b (rfl | rfl | rfl)
      · exact ⟨x17.lt, x17.zl⟩
      · exact ⟨Heap.lt_size hM17, hzM⟩
      · exact ⟨Heap.lt_size hV17, hzV⟩
    case hI =>
      rintro b hb
      have hb2 : h17.objs.size ≤ b ∧ b < h18.objs.size := by
        rw [hsz18]
        rcases hb with rfl | rfl | rfl | rfl | rfl
        · exact ⟨Nat.le_add_right _ _, Nat.add_lt_add_left (by decide) _⟩
        · exact ⟨Nat.le_add_right _ _, Nat.add_lt_add_left (by decide) _⟩
        · exact ⟨Nat.le_add_right _ _, Nat.add_lt_add_left (by decide) _⟩
        · exact ⟨Nat.le_refl _, Nat.lt_add_of_pos_right (by decide)⟩
        · exact ⟨Nat.le_add_right _ _, Nat.add_lt_add_left (by decide) _⟩
      exact ⟨hb2.1, hb2.2, hzz b hb2.1⟩
    case hIo =>
      rintro b o hb h i ⟨g1, g2, ⟨_, _, g3⟩, ⟨o4, g4, c4, d4⟩, ⟨o5, g5, c5, d5⟩, _, _⟩ ho
      rcases hb with rfl | rfl | rfl | rfl | rfl
      · rw [g1] at ho; cases ho; exact ⟨(fun q => by cases q), (fun _ _ q => by cases q)⟩
      · rw [g2] at ho; cases ho; exact ⟨(fun q => by cases q), (fun _ _ q => by cases q)⟩
      · rw [g3] at ho; cases ho; exact ⟨(fun q => by cases q), (fun _ _ q => by cases q)⟩
      · rw [g4] at ho; cases ho; exact ⟨(by rw [c4]; intro q; cases q), (fun _ _ q => by rw [d4] at q; cases q)⟩
      · rw [g5] at ho; cases ho; exact ⟨(by rw [c5]; intro q; cases q), (fun _ _ q => by rw [d5] at q; cases q)⟩
    case mono =>
      rintro i Z' g g' m m' hg' _ ⟨mv, n, rv, k, e1, e2, r⟩
      exact ⟨mv, n, rv, k, hg' _ _ (.inr (.inl rfl)) (Ne.symm hLM) e1, hg' _ _ (.inr (.inr rfl)) (Ne.symm hLV) e2, r⟩
    case asg =>
      intro i v s1 m1 Q' E' hi hv hns1 hz1 hQ'
      obtain ⟨T, x, y, rfl, hT, hx, hy⟩ := hv
      refine assign2 hn hT hns1 (fun h2 tk2 hn2 hk2 hsz2 => ?_)
      refine hQ' h2 tk2 _ hn2 ⟨x, y, hx, hy, rfl, rfl⟩ (fun z hz => ?_) hk2 hsz2
      have z1 : z ≠ Str.ofString "node" := fun q => hz (by simp [q])
      have z2 : z ≠ Str.ofString "flat" := fun q => hz (by simp [q])
      show (if _ then _ else if _ then _ else _) = _
      rw [if_neg z2, if_neg z1]
    case turn =>
      rintro i Z19 s19 m19 hi19 S19 hn19 ⟨x, y, hx, hy, hmn, hmf⟩ hm19 ⟨mv, n, rv, k, hM, hV, rM, rV⟩
      have x19 := x17.loop hW3 S19 hn19
      have W19 := W13.mono S19.zz
      have hzM19 : Z19 s13.heap.objs.size = none := S19.old _ (Heap.lt_size hM17) hzM
      have hzV19 : Z19 h15.objs.size = none := S19.old _ (Heap.lt_size hV17) hzV
      obtain ⟨r, hr, hnode, hrl⟩ := (hF17.mono S19.zz).get i x hx
      obtain ⟨r', hr', c, us, rfl, hc, hus⟩ := (hG17.mono S19.zz).get i y hy
      rw [hr] at hr'
      cases hr'
      have h18 := hnode.places
      have et : rs.take (i + 1) = rs.take i ++ [r] := by rw [List.take_add_one, hr]; rfl
      have husl : us.length ≤ 1000000 := by
        have := hus.length
        omega
      have hmvl : mv.length ≤ 4 := by
        have := rM.length
        rw [List.length_take] at this
        omega
      have hrvl : rv.length ≤ 4 := by
        have := rV.length
        rw [List.length_take] at this
        omega
      have htyped : m19 (Str.ofString "typed") = some (.bool typed) := (hm19 _ (by decide)).trans hT13
      -- told, firsts = _law_marks(flat, typed)
      refine wpAny_execs_cons ?_
      refine Assign_Tuple ?_
      refine Call_Name rfl ?_
      refine ld_fn (v := .ref 83) (W19.at x19.st.zh) rfl ?_
      refine cw_fn2 rfl ?_
      refine ld_loc (v := .ref c) x19.ns hmf ?_
      refine ld_loc (v := .bool typed) x19.ns htyped ?_
      refine ⟨W19.at x19.st.zh, ?_⟩
      refine law_marks W19 x19.st.zh hn hg (by show A.depth + 1 + 3 < _; omega) (by show A.units + 3 + 100 < _; omega) hc hus h18 husl ?_
      intro s20 Z20 v20 S20 hv20
      have x20 := x19.call S20
      obtain ⟨tt, c1, c2, mv2, ms, fv, rfl, htt, hc1, rms, hperm, hsort, hc2, rfs⟩ := hv20
      obtain ⟨ntt, ett⟩ := id htt
      refine assign2 hn ⟨_, x20.st.zh _ _ ett, rfl, ntt, rfl⟩ x20.ns fun h21 tk21 hn21 hk21 hsz21 => ?_
      have S21 : StepW (fun b => b = s.heap.objs.size ∨ b = s13.heap.objs.size ∨ b = h15.objs.size) Z19 s19 Z20 { s20 with heap := h21, toks := tk21 } := (StepW.of_U S20).locals (.inl rfl) x20.zl hk21 hsz21
      have x21 := x20.locals (t := tk21) hn21 hk21 hsz21
      have W21 := W19.mono S20.zz
      have hM21 : h21.get? s13.heap.objs.size = some (lobj mv n) := hk21 _ _ (Ne.symm hLM) (S20.hh id (fun _ _ q => by cases q) hM)
      have hV21 : h21.get? h15.objs.size = some (lobj rv k) := hk21 _ _ (Ne.symm hLV) (S20.hh id (fun _ _ q => by cases q) hV)
      -- if [repr(value) for value in _law_kept(node, typed)] != firsts
      refine wpAny_execs_cons ?_
      refine wpAny_If ?_
      refine wpAny_isTrue_Compare1 ?_
      refine comp_val (fun i Z y => ∃ p, (dedup (cls typed) r)[i]? = some p ∧ StrIs y (reprOf p)) (fun i Z Z' y k x => x) (by decide) (by decide) rfl (by decide) rfl ?_ (fun x => rfl)
      refine Call_Name rfl ?_
      refine ld_fn (v := .ref 76) (W21.at x21.st.zh) rfl ?_
      refine cw_fn2 rfl ?_
      refine ld_loc (v := x) x21.ns hmn ?_
      refine ld_loc (v := .bool typed) x21.ns htyped ?_
      refine ⟨W21.at x21.st.zh, ?_⟩
      refine law_kept typed 5 W21 x21.st.zh ((hfr.stepU x21.st).deeper x21.ns x21.zl (by rfl)) hn (by show A.depth + 1 + 5 + 8 < _; omega) (by show A.units + 3 + 3 * 5 + 200 < _; omega) (x21.st.old _ tb.lt zt) (tb.stepU x21.st) (hnode.mono S20.zz) (by omega) ?_
      intro s22 Z22 c22 us22 S22 hc22 r22
      have x22 := x21.call S22
      have hu22 : us22.length ≤ 1000000 := by
        have h1 : us22.length = (dedup (cls typed) r).length := r22.length
        have h2 := dedup_length (cls typed) r
        omega
      refine ⟨c22, us22, Z22, rfl, .inl hn, x22.st.zh, hc22, hu22, ?_, ?_⟩
      · intro j v Z1 s1 m1 C E' hv S1 hns1 hm1 Q' hQ'
        obtain ⟨p, hp, hval⟩ := r22.get j v hv
        refine Call_Name rfl ?_
        refine ld_bi (env := compEnv _ C _) (v := .builtin "repr") (((W21.mono S22.zz).mono S1.zz).at S1.zh) rfl Boot.«repr» ?_
        refine callWith_builtin1 (Calls.spliced_cons ?_)
        refine ld_loc (v := v) (env := compEnv _ C _) hns1 hm1 ?_
        refine Calls.spliced_nil ?_
        refine repr_val (hval.mono S1.zz) S1.zh hg (by show A.units + 3 + 20 < _; omega) fun s2 t2 S2 => ?_
        exact hQ' s2 Z1 _ S2.toW ⟨p, hp, t2, rfl⟩
      intro s23 Z23 D us23 S23 hD hul23 hP
      have x23 := x22.call S23
      refine ld_loc (v := .ref c2) x23.ns rfl ?_
      have S223 := S22.trans S23
      refine ne_strs (Z := Z23) (us := fv) (fs := (dedup (cls typed) r).map reprOf) hD (hc2.mono S223.zz) x23.st.zh (rows_of_get ?_ fun j y hy => ?_) rfs (by show A.units + 3 < _; omega) ?_
      · rw [List.length_map, hul23]
        exact r22.length
      · obtain ⟨p, e, hs⟩ := hP j y hy
        exact ⟨reprOf p, by rw [List.getElem?_map, e]; rfl, hs⟩
      refine wpAny_truthy_bool ?_
      refine wpAny_execs_nil ?_
      have W23 := W21.mono S223.zz
      -- values = [_law_value(place) for place in flat]
      refine wpAny_execs_cons ?_
      refine comp_assign (fun i Z y => ∃ p, r[i]? = some p ∧ IsVal Z p y) (fun i Z Z' y k ⟨p, e, h⟩ => ⟨p, e, h.mono k⟩) rfl (by decide) (by decide) rfl (by decide) rfl rfl rfl ?_ (fun x => rfl)
      refine ld_loc (v := .ref c) x23.ns hmf ?_
      refine ⟨c, us, Z23, _, rfl, .inl hn, x23.st.zh, hc.mono (S20.zz.trans S223.zz), husl, x23.ns, x23.zl, ?_, ?_⟩
      · intro j v Z1 s1 m1 C E' hv S1 hns1 hm1 Q' hQ'
        obtain ⟨p, hp, t, rfl⟩ := hus.get j v hv
        refine Call_Name rfl ?_
        refine ld_fn (env := compEnv _ C _) (v := .ref 57) ((W23.mono S1.zz).at S1.zh) rfl ?_
        refine cw_fn1 rfl ?_
        refine ld_loc (v := .int p t) (env := compEnv _ C _) hns1 hm1 ?_
        refine ⟨(W23.mono S1.zz).at S1.zh, ?_⟩
        refine law_value ((W23.mono S1.zz).at S1.zh) S1.zh (by show A.depth + 1 + 1 < _; omega) (h18 p (List.mem_of_getElem? hp)) fun s2 Z2 y2 S2 hy2 => ?_
        exact hQ' s2 Z2 y2 S2.toW ⟨p, hp, hy2⟩
      intro s24 Z24 D24 us24 S24 hD24 hul24 hP24 hn24
      have x24 := x23.loop hWL S24 hn24
      have W24 := W23.mono S24.zz
      have r24 : Rows2 (fun v p => IsVal Z24 p v) us24 r := rows_of_get (hul24.trans hus.length) fun j y hy => by
        obtain ⟨p, e, hv⟩ := hP24 j y hy
        exact ⟨p, e, hv⟩
      have hM23 : s23.heap.get? s13.heap.objs.size = some (lobj mv n) := S223.hh id (fun _ _ q => by cases q) hM21
      have hV23 : s23.heap.get? h15.objs.size = some (lobj rv k) := S223.hh id (fun _ _ q => by cases q) hV21
      have hM24 : s24.heap.get? s13.heap.objs.size = some (lobj mv n) := S24.hh (Ne.symm hLM) (fun _ _ q => by cases q) hM23
      have hV24 : s24.heap.get? h15.objs.size = some (lobj rv k) := S24.hh (Ne.symm hLV) (fun _ _ q => by cases q) hV23
      have hzM24 : Z24 s13.heap.objs.size = none := S24.old _ (Heap.lt_size hM23) (S223.old _ (Heap.lt_size hM21) (S20.old _ (Heap.lt_size hM) hzM19))
      have hzV24 : Z24 h15.objs.size = none := S24.old _ (Heap.lt_size hV23) (S223.old _ (Heap.lt_size hV21) (S20.old _ (Heap.lt_size hV) hzV19))
      -- marks.append(told)
      refine wpAny_execs_cons ?_
      refine wpAny_Expr ?_
      refine wpAny_Call_append rfl rfl rfl rfl ?_
      refine ld_loc (v := .ref s13.heap.objs.size) x24.ns ((hm19 _ (by decide)).trans rfl) ?_
      refine ⟨_, mv.toArray, rfl, ⟨_, n, hM24, rfl, rfl, rfl⟩, ?_⟩
      refine ld_loc (v := .ref c1) x24.ns rfl ?_
      refine append_at hM24 (by rw [sizeLine_eq]; omega) fun h25 n25 hM25 hs25 => ?_
      have x25 := x24.turn (t := s24.toks) x13.st.sz hzM24 hLM hs25
      have S25 := ((S21.trans (StepW.of_U S223)).trans (S24.mono fun _ q => .inl q)).upd (t := s24.toks) (.inr (.inl rfl)) hzM24 hs25
      have hV25 : h25.get? h15.objs.size = some (lobj rv k) := (hs25.2 _ (Ne.symm hMV)).trans hV24
      -- rows.append(list(_value_and_type_iter(values)) if typed else values)
      refine wpAny_execs_cons ?_
      refine wpAny_Expr ?_
      refine wpAny_Call_append rfl rfl rfl rfl ?_
      refine ld_loc (v := .ref h15.objs.size) x25.ns ((hm19 _ (by decide)).trans rfl) ?_
      refine ⟨_, rv.toArray, rfl, ⟨_, k, hV25, rfl, rfl, rfl⟩, ?_⟩
      refine wpAny_mono (Q := fun v s26 => ∃ Z26 c26 us26, v = .ref c26 ∧ StepU Z24 { s24 with heap := h25, toks := s24.toks } Z26 s26 ∧ lstZ Z26 c26 us26 ∧ Rows2 (fun v p => IsElem Z26 typed p v) us26 r) (E := fun _ _ => False) ?_ ?_ (fun _ _ q => q.elim)
      · refine wpAny_IfExp ?_
        refine wpAny_isTrue_value ?_
        refine ld_loc (v := .bool typed) x25.ns htyped ?_
        refine wpAny_truthy_bool ?_
        cases typed with
        | true =>
          show wpAny _ _ (eval _ _) _ _ _
          refine Call_Name rfl ?_
          refine ld_bi (v := .type "list") (W24.at x25.st.zh) rfl Boot.«list» ?_
          refine callWith_type1 (Calls.spliced_cons ?_)
          refine Call_Name rfl ?_
          refine ld_fn (v := .ref 43) (W24.at x25.st.zh) rfl ?_
          refine cw_fn1 rfl ?_
          refine ld_loc (v := .ref D24) x25.ns rfl ?_
          refine ⟨W24.at x25.st.zh, ?_⟩
          refine vti W24 x25.st.zh hn (by show A.depth + 1 + 2 < _; omega) (x25.st.old _ tb.lt zt) (tb.stepU x25.st) hD24 r24 ?_
          intro s4 ga g C I S4 hga0 hC0 hI0 hzga hzC hzI hgC hgI hga1 hC1 hI1 G
          have x4 := x25.call S4
          refine Calls.spliced_nil ?_
          refine list_gen W24 x4.st.zh hn (by show A.depth + 1 < _; omega) hzga hzC hzI hgC hgI hga1 hC1 hI1 (by omega) G ?_
          intro s5 Z5 c5 us5 S5 hc5 r5
          have S45 : StepU Z24 { s24 with heap := h25, toks := s24.toks } Z5 s5 := ((StepW.of_U S4).trans S5).toU (by rintro b (rfl | rfl); exact hC0; exact hI0)
          exact ⟨Z5, c5, us5, rfl, S45, hc5, r5⟩
        | false =>
          show wpAny _ _ (eval _ _) _ _ _
          refine ld_loc (v := .ref D24) x25.ns rfl ?_
          exact ⟨Z24, D24, us24, rfl, StepW.refl x25.st.zh, hD24, r24⟩
      · rintro v26 s26 ⟨Z26, c26, us26, rfl, S26, hc26, r26⟩
        have x26 := x25.call S26
        have hV26 := S26.hh id (fun _ _ q => by cases q) hV25
        have hzV26 : Z26 h15.objs.size = none := S26.old _ (Heap.lt_size hV25) hzV24
        refine append_at hV26 (by rw [sizeLine_eq]; omega) fun h27 k27 hV27 hs27 => ?_
        have S27 := (S25.trans (StepW.of_U S26)).upd (t := s26.toks) (.inr (.inr rfl)) hzV26 hs27
        have x27 := x26.turn (t := s26.toks) x15.st.sz hzV26 hLV hs27
        have hM27 : h27.get? s13.heap.objs.size = some (lobj (mv ++ [.ref c1]) n25) := (hs27.2 _ hMV).trans (S26.hh id (fun _ _ q => by cases q) hM25)
        have hzz26 : Sub Z20 Z26 := (S223.zz.trans S24.zz).trans S26.zz
        refine wpAny_execs_nil ?_
        refine ⟨.inl rfl, _, _, S27, x27.ns, ?_, _, n25, _, k27, hM27, hV27, ?_, ?_⟩
        · intro z hz
          have z1 : z ≠ Str.ofString "values" := fun q => hz (by simp [q])
          have z2 : z ≠ Str.ofString "firsts" := fun q => hz (by simp [q])
          have z3 : z ≠ Str.ofString "told" := fun q => hz (by simp [q])
          show (if _ then _ else if _ then _ else if _ then _ else _) = _
          rw [if_neg z1, if_neg z2, if_neg z3]
          exact hm19 z hz
        · rw [et]
          exact Rows2.snoc (rM.mono (S20.zz.trans hzz26)) ⟨c1, ms, mv2, rfl, hc1.mono hzz26, rms.mono fun _ _ x => x.mono hzz26, hperm, hsort⟩
        · rw [et]
          exact Rows2.snoc (rV.mono (S20.zz.trans hzz26)) ⟨c26, us26, rfl, hc26, r26⟩
    case fin =>
      rintro Z19 s19 m19 S19 hn19 hm19 ⟨mv, n, rv, k, hM, hV, rM, rV⟩
      have x19 := x17.loop hW3 S19 hn19
      have hrsn : rs.length ≤ nodes.length := Nat.le_of_eq (hrs4.trans hnodes4.symm)
      rw [List.take_of_length_le hrsn] at rM rV
      have S17 : StepW (fun b => b = s.heap.objs.size) Z13 s13 Z13 { s13 with heap := h17, toks := s13.toks + 1 + 1 } :=
        (((((StepW.refl (W := fun b => b = s.heap.objs.size) x13.st.zh).pushM (o := lobj [] 0) (tk := s13.toks)).upd (t := s13.toks + 1) rfl x13.zl hs15).pushM (o := lobj [] 0) (tk := s13.toks + 1)).upd (t := s13.toks + 1 + 1) rfl x13.zl hs17)
      have hV13 : s13.heap.objs.size ≤ h15.objs.size := Nat.le_of_lt (Heap.lt_size hM15)
      have S1719 : StepW (fun b => b = s.heap.objs.size) Z13 s13 Z19 s19 := ((S17.mono (W' := fun b => b = s.heap.objs.size ∨ b = s13.heap.objs.size ∨ b = h15.objs.size) fun _ q => .inl q).trans S19).wide fun b hb => by
        rcases hb with rfl | rfl | rfl
        · exact .inl rfl
        · exact .inr (Nat.le_refl _)
        · exact .inr hV13
      have hzM19 : Z19 s13.heap.objs.size = none := S19.old _ (Heap.lt_size hM17) hzM
      have hzV19 : Z19 h15.objs.size = none := S19.old _ (Heap.lt_size hV17) hzV
      have hzV20 : (put Z19 s13.heap.objs.size (lobj mv n)) h15.objs.size = none := by rw [put_ne _ (Ne.symm hMV)]; exact hzV19
      have x20 := x19.freeze x13.st.sz hM hzM19 hLM
      have x21 := x20.freeze x15.st.sz hV hzV20 hLV
      have S21 := (S1719.freeze (Nat.le_refl _) hM hzM19).freeze hV13 hV hzV20
      have hzz21 : Sub Z19 (put (put Z19 s13.heap.objs.size (lobj mv n)) h15.objs.size (lobj rv k)) := (Sub.put hzM19).trans (Sub.put hzV20)
      have hlM21 : lstZ (put (put Z19 s13.heap.objs.size (lobj mv n)) h15.objs.size (lobj rv k)) s13.heap.objs.size mv := lstZ.mono ⟨n, put_self _ _ _⟩ (Sub.put hzV20)
      have hlV21 : lstZ (put (put Z19 s13.heap.objs.size (lobj mv n)) h15.objs.size (lobj rv k)) h15.objs.size rv := ⟨k, put_self _ _ _⟩
      have rM21 := rM.mono hzz21
      have rV21 := rV.mono hzz21
      have hF21 := (hF17.mono S19.zz).mono hzz21
      have W21 := (W13.mono S19.zz).mono hzz21
      clear hzz21
      generalize put (put Z19 s13.heap.objs.size (lobj mv n)) h15.objs.size (lobj rv k) = Z21 at *
      have hmvl : mv.length = 4 := (Rows2.length rM21).trans hrs4
      have hrvl : rv.length = 4 := (Rows2.length rV21).trans hrs4
      -- for i, j in ((0, 1), (0, 2), (3, 1))
      refine wpAny_execs_cons ?_
      refine wpAny_For ?_
      refine pairs_display x21.st.zh fun s25 Z25 T25 items S25 hT25 hit3 hpairs hTi => ?_
      have x25 := x21.step S25
      refine wpAny_pyIter_tuple hTi ?_
      have S1325 := S21.trans S25.toW
      have W25 := W21.mono S25.zz
      have rM25 := rM21.mono S25.zz
      have rV25 := rV21.mono S25.zz
      have hF25 := hF21.mono S25.zz
      have hlM25 := hlM21.mono S25.zz
      have hlV25 := hlV21.mono S25.zz
      refine loop_walk (s0 := s25) (W := fun b => b = s.heap.objs.size) (X := []) (xs := [Str.ofString "i", Str.ofString "j"])
        (T := fun _ m => ∃ (p q : Nat) (t1 t2 : Tok), m (Str.ofString "i") = some (.int (p : Int) t1) ∧ m (Str.ofString "j") = some (.int (q : Int) t2) ∧ p < 4 ∧ q < 4) (R := fun i Z g m => True)
        (walk_tuple hn hT25) ((Step.refl x25.st.zh).pushM (tk := s25.toks)).toW ⟨_, Heap.get?_push_size _ rfl, rfl, rfl⟩ (x25.ns.push _) ?hW rfl ?hI ?hIo ?mono trivial ?asg ?turn ?fin
      case hW => rintro b rfl; exact ⟨x25.lt, x25.zl⟩
      case hI => rintro b rfl; exact ⟨Nat.le_refl _, by simp, x25.st.none_of_new⟩
      case hIo =>
        rintro b o rfl h i ⟨o', ho', hc, hd⟩ ho
        rw [ho] at ho'
        cases ho'
        exact ⟨(by rw [hc]; intro q; cases q), (fun es k q => by rw [hd] at q; cases q)⟩
      case mono => intros; trivial
      case asg =>
        intro i v s1 m1 Q' E' hi hv hns1 hz1 hQ'
        obtain ⟨P, p, q, t1, t2, rfl, hP, hp, hq⟩ := hpairs i v hv
        obtain ⟨nP, eP⟩ := hP
        refine assign2 hn ⟨_, hz1 _ _ eP, rfl, nP, rfl⟩ hns1 (fun h2 tk2 hn2 hk2 hsz2 => ?_)
        refine hQ' h2 tk2 _ hn2 ⟨p, q, t1, t2, rfl, rfl, hp, hq⟩ (fun z hz => ?_) hk2 hsz2
        have z1 : z ≠ Str.ofString "i" := fun q => hz (by simp [q])
        have z2 : z ≠ Str.ofString "j" := fun q => hz (by simp [q])
        show (if _ then _ else if _ then _ else _) = _
        rw [if_neg z2, if_neg z1]
      case turn =>
        rintro iq Z27 s27 m27 hiq S27 hn27 ⟨p, q, t1, t2, hmi, hmj, hp, hq⟩ hm27 _
        have x27 := x25.loop hWL S27 hn27
        have W27 := W25.mono S27.zz
        have rM27 := rM25.mono S27.zz
        have rV27 := rV25.mono S27.zz
        have hlM27 := hlM25.mono S27.zz
        have hlV27 := hlV25.mono S27.zz
        have gM : ∀ j, j < 4 → mv[j]? = some mv[j]! := fun j hj => getB (by omega)
        have gV : ∀ j, j < 4 → rv[j]? = some rv[j]! := fun j hj => getB (by omega)
        have gN : ∀ j, j < 4 → nodes[j]? = some nodes[j]! := fun j hj => getB (by omega)
        obtain ⟨rp, hrp, cp, msp, up, ep, lp, Rp, pp, op⟩ := rM27.get p _ (gM p hp)
        obtain ⟨rq, hrq, cq, msq, uq, eq, lq, Rq, pq, oq⟩ := rM27.get q _ (gM q hq)
        obtain ⟨rp', hrp', vp, wp, ep', lvp, Rvp⟩ := rV27.get p _ (gV p hp)
        obtain ⟨rq', hrq', vq, wq, eq', lvq, Rvq⟩ := rV27.get q _ (gV q hq)
        obtain ⟨rp'', hrp'', hnp, hlp⟩ := hF25.get p _ (gN p hp)
        obtain ⟨rq'', hrq'', hnq, hlq⟩ := hF25.get q _ (gN q hq)
        rw [hrp] at hrp' hrp''
        rw [hrq] at hrq' hrq''
        cases hrp'
        cases hrp''
        cases hrq'
        cases hrq''
        have gMp : mv[p]? = some (.ref cp) := (gM p hp).trans (by rw [ep])
        have gMq : mv[q]? = some (.ref cq) := (gM q hq).trans (by rw [eq])
        have gVp : rv[p]? = some (.ref vp) := (gV p hp).trans (by rw [ep'])
        have gVq : rv[q]? = some (.ref vq) := (gV q hq).trans (by rw [eq'])
        have hrows : m27 (Str.ofString "rows") = some (.ref h15.objs.size) := (hm27 _ (by decide)).trans ((hm19 _ (by decide)).trans rfl)
        have hmarks : m27 (Str.ofString "marks") = some (.ref s13.heap.objs.size) := (hm27 _ (by decide)).trans ((hm19 _ (by decide)).trans rfl)
        refine wpAny_execs_cons ?_
        refine wpAny_If ?_
        refine wpAny_isTrue_Compare1 ?_
        refine Call_Name rfl ?_
        refine ld_fn (v := .ref 36) (W27.at x27.st.zh) rfl ?_
        refine cw_fn2 rfl ?_
        refine Subscript_ ?_
        refine ld_loc (v := .ref h15.objs.size) x27.ns hrows ?_
        refine ld_loc (v := .int p t1) x27.ns hmi ?_
        refine item_lst (Z := Z27) x27.st.zh hlV27 (by omega) (by omega) (by simpa using gVp) ?_
        refine Subscript_ ?_
        refine ld_loc (v := .ref h15.objs.size) x27.ns hrows ?_
        refine ld_loc (v := .int q t2) x27.ns hmj ?_
        refine item_lst (Z := Z27) x27.st.zh hlV27 (by omega) (by omega) (by simpa using gVq) ?_
        refine ⟨W27.at x27.st.zh, ?_⟩
        refine compare (typed := typed) W27 x27.st.zh ((hfr.stepU x27.st).deeper x27.ns x27.zl (by rfl)) hn (by show A.depth + 1 + 3 < _; omega) (by show A.units + 3 + 100 < _; omega) lvp Rvp (by have := Rvp.length; omega) lvq Rvq (by have := Rvq.length; omega) ?_
        intro s28 Z28 S28
        have x28 := x27.call S28
        refine wpAny_Compare1 ?_
        refine Subscript_ ?_
        refine ld_loc (v := .ref s13.heap.objs.size) x28.ns hmarks ?_
        refine ld_loc (v := .int p t1) x28.ns hmi ?_
        refine item_lst (Z := Z28) x28.st.zh (hlM27.mono S28.zz) (by omega) (by omega) (by simpa using gMp) ?_
        refine Subscript_ ?_
        refine ld_loc (v := .ref s13.heap.objs.size) x28.ns hmarks ?_
        refine ld_loc (v := .int q t2) x28.ns hmj ?_
        refine item_lst (Z := Z28) x28.st.zh (hlM27.mono S28.zz) (by omega) (by omega) (by simpa using gMq) ?_
        refine eq_marks (lp.mono S28.zz) (lq.mono S28.zz) x28.st.zh (Rp.mono fun _ _ x => x.mono S28.zz) (Rq.mono fun _ _ x => x.mono S28.zz) (by show A.units + 3 + 20 < _; omega) ?_
        refine wpAny_isNot_plain rfl ?_
        rw [marks_same hnp.places hnq.places pp op pq oq, beq_self_eq_true]
        refine wpAny_truthy_bool ?_
        refine wpAny_execs_nil ?_
        refine wpAny_execs_nil ?_
        exact ⟨.inl rfl, Z28, _, StepW.of_U S28, x28.ns, hm27, trivial⟩
      case fin =>
        rintro Z27 s27 m27 S27 hn27 hm27 _
        refine wpAny_execs_nil ?_
        refine ⟨.inl rfl, _, _, S1325.trans S27, hn27, fun y hy => ?_, trivial⟩
        have hy' : ∀ z, z ∈ [Str.ofString "typed", Str.ofString "marks", Str.ofString "rows", Str.ofString "node", Str.ofString "flat", Str.ofString "told", Str.ofString "firsts", Str.ofString "values", Str.ofString "i", Str.ofString "j"] → y ≠ z := fun z hz q => hy (q ▸ hz)
        rw [hm27 y (fun q => by
          simp only [List.append_nil, List.mem_cons, List.not_mem_nil, or_false] at q
          rcases q with q | q
          · exact hy' _ (by simp) q
          · exact hy' _ (by simp) q)]
        rw [hm19 y (fun q => by
          simp only [List.cons_append, List.nil_append, List.mem_cons, List.not_mem_nil, or_false] at q
          rcases q with q | q | q | q | q
          · exact hy' _ (by simp) q
          · exact hy' _ (by simp) q
          · exact hy' _ (by simp) q
          · exact hy' _ (by simp) q
          · exact hy' _ (by simp) q)]
        show (if _ then _ else if _ then _ else _) = _
        rw [if_neg (hy' (Str.ofString "rows") (by simp)), if_neg (hy' (Str.ofString "marks") (by simp))]
        exact hm13 y hy
end
end Mine

namespace Mine
theorem lk42 {P : Params} : ∃ o vs, (KP P).lookup 42 = some o ∧ o.data = .fields vs ∧ vs[11]? = some (.ref 38) := ⟨_, _, rfl, rfl, rfl⟩
theorem lk38 {P : Params} : (KP P).lookup 38 = none := rfl
theorem kin_hide {P : Params} {h : Heap} (X : (KP P).In h) : (KP P).In (h.hide 38) := fun a o e => by
  by_cases q : a = 38
  · rw [q, lk38] at e; cases e
  · rw [Heap.hide_ne _ q]; exact X _ _ e
theorem ns_hide {h : Heap} {a : Addr} {m : Str → Option Value} (x : h.Ns a m) (q : a ≠ 38) : (h.hide 38).Ns a m := by
  obtain ⟨o, es, ep, ho, r⟩ := x
  exact ⟨o, es, ep, by rw [Heap.hide_ne _ q]; exact ho, r⟩
theorem oldK_of {s s' : Shared} {Z' : Zp} (S : StepU (s.heap.hide 38).get? s Z' s') (hc : isCodeTable s.heap 38) (h38 : s.heap.get? 38 = some (tabO #[])) : OldK s.heap s'.heap := by
  have k : ∀ b o, b ≠ 38 → s.heap.get? b = some o → s'.heap.get? b = some o := fun b o q e => S.zh _ _ (S.zz _ _ (by rw [Heap.hide_ne _ q]; exact e))
  obtain ⟨more, _, e38⟩ := (S.up 38 _ (fun q => q) h38).2.2 _ rfl
  refine ⟨fun b o e => ?_, fun b o e => ?_⟩
  · by_cases q : b = 38
    · subst q
      rw [h38] at e
      cases e
      exact .inr (.inl ⟨hc, rfl, _, more, rfl, e38⟩)
    · exact .inl (k b o q e)
  · by_cases q : b = 38
    · subst q; exact ⟨_, e38⟩
    · exact ⟨o, k b o q e⟩
theorem ints_are : ∀ {vs : List Value} {ns : List Int}, IntsAre vs ns → ∀ v ∈ vs, IsInt v
  | _, _, .nil, _, h => by cases h
  | _, _, .cons n t r, v, h => by
    rcases List.mem_cons.mp h with rfl | h
    · exact ⟨n, t, rfl⟩
    · exact ints_are r v h
end Mine
open Mine in
theorem PySem.Challenge.cw_sn0125_01_holds : PySem.Challenge.rw_sn0125_01.Holds := by
  refine hd ?_
  k_fill
  intro w s₀ s₁ mg mb G Y fa o pm cd doc dV kV ho hod hcd hD hmg hg args vals as hpre hlay hrd hwl hlo
  have KX := kIn_of Y
  refine Ground.open G ?_
  intro T B D TE TW
  wrow_args hpre hlay hrd hwl hlo
  clear hcd hod D TE TW
  rename_i ns hs hlay0 hL1 hr1 hl2 w4 w3 la vs w0 hL ra w1 r0 hI hr hc1 hc2
  have hfa : fa = 88 := by
    have e : mg (Str.ofString "law") = some (.ref 88) := name_of_ns KX T.g rfl
    have e' : mg (Str.ofString "law") = some (.ref fa) := hmg
    rw [e] at e'
    cases e'
    rfl
  subst hfa
  have hvt : mg (Str.ofString "_value_and_type_iter") = some (.ref 43) := name_of_ns KX T.g rfl
  obtain ⟨c, P, hc, BB⟩ := based_of_top T rfl hvt (KX 43 _ rfl) rfl
  have hc' : Value.ref 42 = Value.ref c := hc
  cases hc'
  obtain ⟨⟨oc, vc, e1, e2, e3, e4⟩, e5⟩ := id BB.tab
  obtain ⟨o42, v42, q1, q2, q3⟩ := lk42 (P := w.params)
  rw [KX 42 _ q1] at e1
  cases e1
  rw [q2] at e3
  cases e3
  rw [q3] at e4
  cases e4
  have h38 : s₁.heap.get? 38 = some (tabO #[]) := e5
  obtain ⟨bm, ob, BM⟩ := bmod_of_top T
  have hbm : bm ≠ 38 := by
    rintro rfl
    have e := BM.obj
    rw [h38] at e
    cases e
    have := BM.cls
    cases this
  have W : WZ w (s₁.heap.hide 38).get? := by
    refine ⟨s₁.heap.hide 38, ⟨?_, kin_hide KX, ⟨mg, ns_hide T.g (by decide)⟩, ⟨mb, ns_hide T.b (by decide), ?_⟩, ⟨mg, bm, ob, ?_⟩⟩, Sub.refl _⟩
    · obtain ⟨mc, a, b⟩ := T.nolimit
      exact ⟨mc, ns_hide a (by decide), b⟩
    · exact T.builtins
    · exact ⟨ns_hide BM.ns (by decide), BM.name, BM.ne, by rw [Heap.hide_ne _ hbm]; exact BM.obj, BM.cls, BM.dict, BM.data⟩
  have w1' : Well w.params s₁.heap (Value.ref la) (.list (ofPys (ns.map PyData.int))) := w1
  have hlst : lstZ (s₁.heap.hide 38).get? la vs := by
    cases w1' with
    | list e _ =>
      obtain ⟨o, e', _, n, hd⟩ := hL
      rw [e] at e'
      cases e'
      have q : la ≠ 38 := by
        rintro rfl
        rw [h38] at e
        cases e
      injection hd with h1 h2
      exact ⟨_, by rw [Heap.hide_ne _ q, e, h1]⟩
  have hlen : vs.length ≤ 1000000 := by
    have e : vs.length = ns.length := hI.length
    omega
  show wpAny (model _ w) callerA (call (.ref 88) [.ref la] []) _ _ _
  refine law_body (Z := (s₁.heap.hide 38).get?) W (fun b o e => Heap.of_hide e) ⟨[], rfl, fun _ h => by cases h⟩ rfl rfl (by decide) (by decide) (Heap.hide_self _ _) ⟨#[], h38, trivial⟩ hlst (ints_are hI) hlen fun s' Z' S => ?_
  refine ⟨.inl ⟨.bool true, .bool true, [], rfl, raisesW_false ?_, .bool _, ?_, ?_⟩, oldK_of S BB.tab.isCodeTable h38, S.os, S.gens (.of_eq hg)⟩
  · wrow_none_raised
  · wrow_post
  · exact fun _ => ⟨.nil, fun _ h => by cases h⟩
