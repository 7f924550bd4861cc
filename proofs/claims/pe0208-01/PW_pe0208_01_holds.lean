import PyProof.Rows.All
import Wide.All
import OpenK.AllK
import Wide.FinOn
import Lean
import PySem.Challenge.RW_pe0208_01
open PySem PySem.W PySem.Calls PySem.Spec PyProof.Rows
set_option Elab.async false
set_option maxRecDepth 100000
set_option linter.unusedVariables false
noncomputable section
namespace Mine
abbrev PG : Program := PySem.Challenge.pw_pe0208_01
/-- a def of the text, as its run leaves it -/
def fnOf (st : Option Stmt) (q : Option Str) (md : Str) (t : Tok) (c : Addr) : FuncData := match st with
  | some (.FunctionDef n as b _ _ _ sc _ _ _) => { name := n, qualname := q.getD n, params := as, body := .stmts b, scope := sc, globals := mainGlobals, closure := [], defaults := .none, kwdefaults := .none, pyModule := .str md t, code := .ref c }
  | _ => default
def fnAt (i : Nat) (md : Str) (t : Tok) (c : Addr) : FuncData := fnOf (PG.main.body[i]?) none md t c
/-- a method of TupleComp -/
def methAt (j : Nat) (q : Str) (c : Addr) : FuncData := fnOf (match (PG.main.body[12]? : Option Stmt) with | some (.ClassDef _ _ _ b _ _ _ _ _ _ _) => b[j]? | _ => none) (some q) "cpy313.pstats" 285 c
def fnObj (fd : FuncData) : Obj := { cls := .type "function", data := .func fd }
/-- the part of the heap that the walk reads -/
def kEnt (P : Params) (x : Str) (t : Tok) (v : Value) : DictEntry := { hash := PyData.keyHash P x, key := .str x t, val := v }
def kCode (n q : Str) (t line argc a : Nat) (x y : Value) (b t2 : Nat) : Obj := { cls := .type "code", data := .fields #[.str n t, .str q (t + 1), .str "/claim/cut.py" (t + 2), .int line 0, .int argc 0, .int 0 0, .int 0 0, .int 3 0, .ref a, .bool true, .int 181 0, .ref (a + 1), .none, x, y, .ref b, .int t2 0, .int line 0, .str "/claim/cut.py" (t2 + 1)] }
def kMain (P : Params) : Obj := { cls := .type "dict", data := .dict #[kEnt P "__name__" 165 (.str "law_pe0208_01" 367), kEnt P "__doc__" 166 .none, kEnt P "__package__" 167 .none, kEnt P "__loader__" 168 (.builtin "__main__.__loader__#opaque"), kEnt P "__spec__" 169 .none, kEnt P "__annotations__" 170 (.ref 6), kEnt P "__builtins__" 171 (.ref 4), kEnt P "__file__" 173 (.str "/claim/cut.py" 172), kEnt P "__cached__" 174 .none, kEnt P "_DIV_LIMIT" 190 (.int 4000 189),
  kEnt P "_div2n1n" 207 (.ref 21), kEnt P "_div3n2n" 221 (.ref 28), kEnt P "_int2digits" 232 (.ref 35), kEnt P "_digits2int" 243 (.ref 42), kEnt P "_divmod_pos" 258 (.ref 49), kEnt P "int_divmod" 268 (.ref 56), kEnt P "ELLIPSIS_MARKER" 272 (.str "..." 271), kEnt P "_ellipsis_match" 284 (.ref 63), kEnt P "TupleComp" 328 (.ref 87), kEnt P "add_func_stats" 346 (.ref 98), kEnt P "add_callers" 357 (.ref 105), kEnt P "count_calls" 366 (.ref 112),
  kEnt P "_law_table" 374 (.ref 117), kEnt P "_law_in_order" 380 (.ref 122), kEnt P "_law_grown" 386 (.ref 127), kEnt P "_law_words" 392 (.ref 132), kEnt P "_law_least" 398 (.ref 137), kEnt P "_law_read" 404 (.ref 142), kEnt P "law" 410 (.ref 147)] 29 }
def kCls : Obj := { cls := .type "type", data := .cls { name := "TupleComp", bases := [.type "object"], mro := [.ref 87, .type "object"], ns := 86, qualname := "TupleComp" }, slots := #[none, none, some (.str "TupleComp" 287), some (.str "TupleComp" 295), some (.builtin "object.__new__"), some (.bool true)] }
def kClsD (P : Params) : Obj := { cls := .type "dict", data := .dict #[kEnt P "__module__" 294 (.str "cpy313.pstats" 285), kEnt P "__firstlineno__" 298 (.int 107 297), kEnt P "__init__" 306 (.ref 77), kEnt P "compare" 319 (.ref 84), kEnt P "__static_attributes__" 321 (.ref 85), kEnt P "__dict__" 323 (.ref 88), kEnt P "__weakref__" 325 (.ref 89), kEnt P "__doc__" 326 .none] 4 }
def kF (i : Nat) (c : Addr) (md : Str) (t : Tok) (f : Addr) (r : Frag) : Frag := (f, fnObj (fnAt i md t c)) :: r
def kM (j : Nat) (c : Addr) (q : Str) (f : Addr) (r : Frag) : Frag := (f, fnObj (methAt j q c)) :: r
/-- a code of a plain def -/
def kC (n q : Str) (t line argc a t2 : Nat) (r : Frag) : Frag := (a + 5, kCode n q t line argc a (.ref (a + 2)) (.ref (a + 3)) (a + 4) t2) :: r
/-- a code of a def of the law -/
def kL (n : Str) (t line argc a : Nat) (r : Frag) : Frag := (a + 3, kCode n n t line argc a .none .none (a + 2) (t + 3)) :: r
def KF (P : Params) : Frag := (2, { cls := .none, data := .dict #[] }) :: (3, kMain P) :: (86, kClsD P) :: (87, kCls) ::
  (kF 2 20 "cpy313._pylong" 187 21 <| kF 4 34 "cpy313._pylong" 187 35 <| kF 5 41 "cpy313._pylong" 187 42 <| kF 6 48 "cpy313._pylong" 187 49 <| kF 7 55 "cpy313._pylong" 187 56 <| kF 10 62 "cpy313.doctest" 269 63 <|
  kM 0 76 "TupleComp.__init__" 77 <| kM 1 83 "TupleComp.compare" 84 <| kF 13 97 "cpy313.pstats" 285 98 <| kF 14 104 "cpy313.pstats" 285 105 <| kF 15 111 "cpy313.pstats" 285 112 <|
  kF 17 116 "law_pe0208_01" 367 117 <| kF 18 121 "law_pe0208_01" 367 122 <| kF 19 126 "law_pe0208_01" 367 127 <| kF 20 131 "law_pe0208_01" 367 132 <| kF 21 136 "law_pe0208_01" 367 137 <| kF 22 141 "law_pe0208_01" 367 142 <| kF 23 146 "law_pe0208_01" 367 147 <|
  kC "_div2n1n" "_div2n1n" 191 3 3 15 205 <| kC "_int2digits" "_int2digits" 222 29 2 29 230 <| kC "_digits2int" "_digits2int" 233 45 2 36 241 <| kC "_divmod_pos" "_divmod_pos" 244 54 2 43 256 <| kC "int_divmod" "int_divmod" 259 65 2 50 266 <| kC "_ellipsis_match" "_ellipsis_match" 273 78 2 57 282 <|
  kC "__init__" "TupleComp.__init__" 299 109 2 71 304 <| kC "compare" "TupleComp.compare" 307 112 3 78 317 <| kC "add_func_stats" "add_func_stats" 329 121 2 92 344 <| kC "add_callers" "add_callers" 347 125 2 99 355 <| kC "count_calls" "count_calls" 358 138 1 106 364 <|
  kL "_law_table" 369 144 1 113 <| kL "_law_in_order" 375 149 2 118 <| kL "_law_grown" 381 155 2 123 <| kL "_law_words" 387 163 2 128 <| kL "_law_least" 393 173 1 133 <| kL "_law_read" 399 180 2 138 <| kL "law" 405 190 1 143 [])
def asF : List Addr := [2, 3, 86, 87, 21, 35, 42, 49, 56, 63, 77, 84, 98, 105, 112, 117, 122, 127, 132, 137, 142, 147, 20, 34, 41, 48, 55, 62, 76, 83, 97, 104, 111, 116, 121, 126, 131, 136, 141, 146]
theorem asF_eq (P : Params) : asF = (KF P).map (·.1) := by kernel_rfl


/-- deep values -/
inductive D where
  | none
  | bool (b : Bool)
  | int (i : Int)
  | str (x : Str)
  | lst (l : List D)
  | tup (l : List D)
  | dct (ks : List Int) (l : List D)
  | ord (l : D)
  | own (l : List D)
  | raw (v : Value) (po : List (Addr × Obj))

/-- a list as it is made: no names of its own -/
def Ls (h : Heap) (a : Addr) (items : Array Value) : Prop := ∃ o, h.get? a = some o ∧ ∃ n, o = seqObj "list" items n
theorem Ls.isList {h : Heap} {a : Addr} {items : Array Value} (x : Ls h a items) : h.IsList a items := by
  obtain ⟨o, e, n, rfl⟩ := x
  exact ⟨_, e, rfl, n, rfl⟩

mutual
def Is (w : World) (h : Heap) : D → Value → Prop
  | .none, v => v = .none
  | .bool b, v => v = .bool b
  | .int i, v => ∃ t, v = .int i t
  | .str x, v => ∃ t, v = .str x t
  | .lst l, v => ∃ a vs, v = .ref a ∧ Ls h a (List.toArray vs) ∧ IsL w h l vs
  | .tup l, v => ∃ a vs, v = .ref a ∧ h.IsTuple a (List.toArray vs) ∧ IsL w h l vs
  | .dct ks l, v => ∃ a vs, v = .ref a ∧ h.DictOf (intKind PG w) a (ks.zip vs) ∧ (ks.length = vs.length ∧ (a == sysModules) = false) ∧ IsL w h l vs
  | .own l, v => ∃ a vs, v = .ref a ∧ h.IsTuple a (List.toArray vs) ∧ IsL w h l vs
  | .ord l, v => ∃ a d es n x, v = .ref a ∧ h.get? a = some ⟨.ref 87, some d, .plain, #[]⟩ ∧ h.get? d = some (dictOf es n) ∧ (getL (Str.ofString "comp_select_list") es = some (some x) ∧ getL (Str.ofString "compare") es = some none) ∧ Is w h l x
  | .raw u po, v => v = u ∧ ∀ p ∈ po, h.get? p.1 = some p.2
def IsL (w : World) (h : Heap) : List D → List Value → Prop
  | [], vs => vs = []
  | d :: ds, vs => ∃ v r, vs = v :: r ∧ Is w h d v ∧ IsL w h ds r
end

mutual
theorem Is.mono {w : World} {h h' : Heap} (hk : ∀ b o, h.get? b = some o → h'.get? b = some o) : ∀ {d : D} {v : Value}, Is w h d v → Is w h' d v
  | .none, _, x => by simpa only [Is] using x
  | .bool _, _, x => by simpa only [Is] using x
  | .int _, _, x => by simpa only [Is] using x
  | .str _, _, x => by simpa only [Is] using x
  | .lst l, v, x => by
    simp only [Is] at x ⊢
    obtain ⟨a, vs, e, ⟨o, ho, r⟩, y⟩ := x
    exact ⟨a, vs, e, ⟨o, hk a o ho, r⟩, IsL.mono hk y⟩
  | .tup l, v, x => by
    simp only [Is] at x ⊢
    obtain ⟨a, vs, e, ⟨o, ho, r⟩, y⟩ := x
    exact ⟨a, vs, e, ⟨o, hk a o ho, r⟩, IsL.mono hk y⟩
  | .own l, v, x => by
    simp only [Is] at x ⊢
    obtain ⟨a, vs, e, ⟨o, ho, r⟩, y⟩ := x
    exact ⟨a, vs, e, ⟨o, hk a o ho, r⟩, IsL.mono hk y⟩
  | .dct ks l, v, x => by
    simp only [Is] at x ⊢
    obtain ⟨a, vs, e, q, n, y⟩ := x
    exact ⟨a, vs, e, q.keep hk, n, IsL.mono hk y⟩
  | .ord l, v, x => by
    simp only [Is] at x ⊢
    obtain ⟨a, d, es, m, y, e, q, n, f, z⟩ := x
    exact ⟨a, d, es, m, y, e, hk _ _ q, hk _ _ n, f, Is.mono hk z⟩
  | .raw u po, v, x => by
    simp only [Is] at x ⊢
    exact ⟨x.1, fun p e => hk _ _ (x.2 p e)⟩
theorem IsL.mono {w : World} {h h' : Heap} (hk : ∀ b o, h.get? b = some o → h'.get? b = some o) : ∀ {ds : List D} {vs : List Value}, IsL w h ds vs → IsL w h' ds vs
  | [], _, x => by simpa only [IsL] using x
  | d :: ds, vs, x => by
    simp only [IsL] at x ⊢
    obtain ⟨v, r, e, y, z⟩ := x
    exact ⟨v, r, e, Is.mono hk y, IsL.mono hk z⟩
end

section
variable {w : World} {h : Heap}
theorem is_none {v : Value} : Is w h .none v ↔ v = .none := by simp only [Is]
theorem is_bool {b : Bool} {v : Value} : Is w h (.bool b) v ↔ v = .bool b := by simp only [Is]
theorem is_int {i : Int} {v : Value} : Is w h (.int i) v ↔ ∃ t, v = .int i t := by simp only [Is]
theorem is_str {x : Str} {v : Value} : Is w h (.str x) v ↔ ∃ t, v = .str x t := by simp only [Is]
theorem is_lst {l : List D} {v : Value} : Is w h (.lst l) v ↔ ∃ a vs, v = .ref a ∧ Ls h a (List.toArray vs) ∧ IsL w h l vs := by simp only [Is]
theorem is_tup {l : List D} {v : Value} : Is w h (.tup l) v ↔ ∃ a vs, v = .ref a ∧ h.IsTuple a (List.toArray vs) ∧ IsL w h l vs := by simp only [Is]
theorem is_own {l : List D} {v : Value} : Is w h (.own l) v ↔ Is w h (.tup l) v := by simp only [Is]
theorem is_dct {ks : List Int} {l : List D} {v : Value} : Is w h (.dct ks l) v ↔ ∃ a vs, v = .ref a ∧ h.DictOf (intKind PG w) a (ks.zip vs) ∧ (ks.length = vs.length ∧ (a == sysModules) = false) ∧ IsL w h l vs := by simp only [Is]
theorem is_ord {l : D} {v : Value} : Is w h (.ord l) v ↔ ∃ a d es n x, v = .ref a ∧ h.get? a = some ⟨.ref 87, some d, .plain, #[]⟩ ∧ h.get? d = some (dictOf es n) ∧ (getL (Str.ofString "comp_select_list") es = some (some x) ∧ getL (Str.ofString "compare") es = some none) ∧ Is w h l x := by simp only [Is]
theorem is_raw {u : Value} {po : List (Addr × Obj)} {v : Value} : Is w h (.raw u po) v ↔ v = u ∧ ∀ p ∈ po, h.get? p.1 = some p.2 := by simp only [Is]
theorem isL_nil {vs : List Value} : IsL w h [] vs ↔ vs = [] := by simp only [IsL]
theorem isL_cons {d : D} {ds : List D} {vs : List Value} : IsL w h (d :: ds) vs ↔ ∃ v r, vs = v :: r ∧ Is w h d v ∧ IsL w h ds r := by simp only [IsL]
theorem IsL.length : ∀ {ds : List D} {vs : List Value}, IsL w h ds vs → vs.length = ds.length
  | [], _, x => by rw [isL_nil] at x; subst x; rfl
  | d :: ds, vs, x => by
    rw [isL_cons] at x
    obtain ⟨v, r, rfl, _, z⟩ := x
    rw [List.length_cons, List.length_cons, z.length]
theorem IsL.get : ∀ {ds : List D} {vs : List Value}, IsL w h ds vs → ∀ (i : Nat) (d : D), ds[i]? = some d → ∃ v, vs[i]? = some v ∧ Is w h d v
  | [], _, _, i, d, e => by simp at e
  | d :: ds, vs, x, i, d', e => by
    rw [isL_cons] at x
    obtain ⟨v, r, rfl, y, z⟩ := x
    cases i with
    | zero => simp only [List.getElem?_cons_zero, Option.some.injEq] at e; subst e; exact ⟨v, rfl, y⟩
    | succ i => rw [List.getElem?_cons_succ] at e ⊢; exact z.get i d' e
theorem IsL.append : ∀ {ds : List D} {vs : List Value} {es : List D} {us : List Value}, IsL w h ds vs → IsL w h es us → IsL w h (ds ++ es) (vs ++ us)
  | [], _, _, _, x, y => by rw [isL_nil] at x; subst x; exact y
  | d :: ds, vs, es, us, x, y => by
    rw [isL_cons] at x
    obtain ⟨v, r, rfl, a, z⟩ := x
    rw [List.cons_append, List.cons_append, isL_cons]
    exact ⟨v, _, rfl, a, z.append y⟩
theorem IsL.one {d : D} {v : Value} (x : Is w h d v) : IsL w h [d] [v] := by
  rw [isL_cons]; exact ⟨v, [], rfl, x, isL_nil.mpr rfl⟩
theorem IsL.take : ∀ {ds : List D} {vs : List Value} (n : Nat), IsL w h ds vs → IsL w h (ds.take n) (vs.take n)
  | _, _, 0, _ => by rw [List.take_zero, List.take_zero]; exact isL_nil.mpr rfl
  | [], _, n + 1, x => by rw [isL_nil] at x; subst x; exact isL_nil.mpr rfl
  | d :: ds, vs, n + 1, x => by
    rw [isL_cons] at x
    obtain ⟨v, r, rfl, a, z⟩ := x
    rw [List.take_succ_cons, List.take_succ_cons, isL_cons]
    exact ⟨v, _, rfl, a, z.take n⟩
theorem IsL.drop : ∀ {ds : List D} {vs : List Value} (n : Nat), IsL w h ds vs → IsL w h (ds.drop n) (vs.drop n)
  | _, _, 0, x => x
  | [], _, n + 1, x => by rw [isL_nil] at x; subst x; exact isL_nil.mpr rfl
  | d :: ds, vs, n + 1, x => by
    rw [isL_cons] at x
    obtain ⟨v, r, rfl, a, z⟩ := x
    exact z.drop n
theorem IsL.reverse : ∀ {ds : List D} {vs : List Value}, IsL w h ds vs → IsL w h ds.reverse vs.reverse
  | [], _, x => by rw [isL_nil] at x; subst x; exact isL_nil.mpr rfl
  | d :: ds, vs, x => by
    rw [isL_cons] at x
    obtain ⟨v, r, rfl, a, z⟩ := x
    rw [List.reverse_cons, List.reverse_cons]
    exact z.reverse.append (.one a)
end

/-- what may be seen: the heap without the addresses that still turn -/
abbrev hid (H : List Addr) (h : Heap) : Heap := hideAll h H
theorem hid_get {H : List Addr} {h : Heap} {b : Addr} {o : Obj} : (hid H h).get? b = some o ↔ h.get? b = some o ∧ b ∉ H :=
  ⟨fun e => ⟨of_hideAll H e, fun m => by rw [hideAll_none H m] at e; cases e⟩, fun e => hideAll_get H e.1 e.2⟩
theorem Is.hid_mono {w : World} {H H' : List Addr} {h : Heap} (hs : ∀ a ∈ H', a ∈ H) {d : D} {v : Value} (x : Is w (hid H h) d v) : Is w (hid H' h) d v :=
  x.mono fun b o e => hid_get.mpr ⟨(hid_get.mp e).1, fun m => (hid_get.mp e).2 (hs b m)⟩
theorem Is.seen {w : World} {H : List Addr} {h : Heap} {d : D} {v : Value} (x : Is w (hid H h) d v) : Is w h d v := x.mono fun _ _ e => (hid_get.mp e).1
theorem IsL.seen {w : World} {H : List Addr} {h : Heap} {d : List D} {v : List Value} (x : IsL w (hid H h) d v) : IsL w h d v := x.mono fun _ _ e => (hid_get.mp e).1

/-- the def within a def of the text -/
def innerDef (i : Nat) : Option Stmt := match (PG.main.body[i]? : Option Stmt) with
  | some (.FunctionDef _ _ b _ _ _ _ _ _ _) => b.find? fun | .FunctionDef .. => true | _ => false
  | _ => none
def innerPos (i : Nat) : Pos := match innerDef i with
  | some (.FunctionDef _ _ _ _ _ _ _ _ _ p) => p
  | _ => ⟨0, 0, 0, 0⟩
/-- a code table: where its inner def's code may lie -/
def tabKey (b : Addr) : Nat × Str := if b = 30 then (4, "_int2digits.<locals>.inner") else (5, "_digits2int.<locals>.inner")
def TabAt (b : Addr) (h : Heap) : Prop := ∃ ps, h.get? b = some (tabObj ps) ∧ TriplesOk ps.toList ∧ ∀ v, codeAmong (innerPos (tabKey b).1) ps.toList = some v → h.CodeRec v (tabKey b).2
def NoCode (h : Heap) (a : Addr) : Prop := ∀ q, ¬ h.CodeRec (.ref a) q
theorem TabAt.keep {b : Addr} {h h' : Heap} (x : TabAt b h) (hk : ∀ b o, h.get? b = some o → h'.get? b = some o) : TabAt b h' := by
  obtain ⟨ps, e, t, r⟩ := x
  exact ⟨ps, hk _ _ e, t, fun v hv => (r v hv).keeps hk⟩
theorem TabAt.but {b : Addr} {h h' : Heap} {P : Addr → Prop} (x : TabAt b h) (hb : ¬ P b) (hc : ∀ a, P a → NoCode h a) (hk : ∀ b o, ¬ P b → h.get? b = some o → h'.get? b = some o) : TabAt b h' := by
  obtain ⟨ps, e, t, r⟩ := x
  refine ⟨ps, hk _ _ hb e, t, fun v hv => ?_⟩
  obtain ⟨c, o, vs, tk, rfl, h1, h2, h3⟩ := r v hv
  exact ⟨c, o, vs, tk, rfl, hk _ _ (fun hp => hc c hp _ ⟨c, o, vs, tk, rfl, h1, h2, h3⟩) h1, h2, h3⟩
theorem noCode_of {h : Heap} {a : Addr} {o : Obj} (e : h.get? a = some o) (hf : ∀ vs, o.data = .fields vs → ∀ q t, vs[1]? ≠ some (.str q t)) : NoCode h a := by
  rintro q ⟨c, o', vs, t, e1, h1, h2, h3⟩
  cases e1
  rw [e] at h1; cases h1
  exact hf vs h2 q t h3
theorem noCode_ns {h : Heap} {a : Addr} {m : Str → Option Value} (x : h.Ns a m) : NoCode h a := by
  obtain ⟨o, es, ep, e, d, _⟩ := x
  exact noCode_of e fun vs hv => by rw [d] at hv; cases hv
theorem noCode_cell {h : Heap} {a : Addr} {v : Option Value} (x : h.IsCell a v) : NoCode h a := by
  obtain ⟨o, e, d⟩ := x
  exact noCode_of e fun vs hv => by rw [d] at hv; cases hv
theorem noCode_ls {h : Heap} {a : Addr} {v : Array Value} (x : Ls h a v) : NoCode h a := by
  obtain ⟨o, e, n, rfl⟩ := x
  exact noCode_of e fun vs hv => by cases hv
theorem noCode_dct {w : World} {h : Heap} {a : Addr} {kvs : List (Int × Value)} (x : h.DictOf (intKind PG w) a kvs) : NoCode h a := by
  obtain ⟨o, es, ep, e, _, d, _⟩ := x
  exact noCode_of e fun vs hv => by rw [d] at hv; cases hv

/-- the state grows: all that stood stands (the two code tables aside, which may grow) -/
structure Grow (s s' : Shared) : Prop where
  same : ∃ h' tk, s' = { s with heap := h', toks := tk }
  keep : ∀ b o, b ≠ 30 → b ≠ 37 → s.heap.get? b = some o → s'.heap.get? b = some o
  tab : ∀ b, b = 30 ∨ b = 37 → TabAt b s.heap → TabAt b s'.heap

theorem Grow.refl (s : Shared) : Grow s s := ⟨⟨s.heap, s.toks, rfl⟩, fun _ _ _ _ e => e, fun _ _ x => x⟩
theorem Grow.trans {s s' s'' : Shared} (x : Grow s s') (y : Grow s' s'') : Grow s s'' := by
  obtain ⟨h1, t1, rfl⟩ := x.same
  obtain ⟨h2, t2, rfl⟩ := y.same
  exact ⟨⟨h2, t2, rfl⟩, fun b o e1 e2 e => y.keep b o e1 e2 (x.keep b o e1 e2 e), fun b hb e => y.tab b hb (x.tab b hb e)⟩

theorem Grow.of_keeps {s : Shared} {h' : Heap} {tk : Nat} (hk : ∀ b o, s.heap.get? b = some o → h'.get? b = some o) : Grow s { s with heap := h', toks := tk } :=
  ⟨⟨h', tk, rfl⟩, fun b o _ _ e => hk b o e, fun b _ x => x.keep hk⟩
theorem Grow.of_Keeps {s s' : Shared} (k : Keeps s s') : Grow s s' := by
  obtain ⟨h', tk, rfl, hk⟩ := k
  exact .of_keeps hk

/-- what stands of the top, at every heap of the call -/
structure Base (w : World) (h : Heap) : Prop where
  kin : (KF w.params).In h
  gl : ∃ mg, h.Ns mainGlobals mg ∧ (∀ n v, nsIn (KF w.params) mainGlobals n = some (some v) → mg n = some v) ∧ (∀ n, nsIn (KF w.params) mainGlobals n = some none → mg n = none)
  bi : ∃ mb, h.Ns builtinsNs mb ∧ ∀ n, n ≠ Str.ofString "__name__" → mb n = bootBuiltins n
  lim : h.NoLimit
  t30 : TabAt 30 h
  t37 : TabAt 37 h
  bm : ∃ ob, h.get? 4 = some ob ∧ ob.cls = .type "module" ∧ ob.dict = some builtinsNs ∧ ob.data = .plain

theorem kin_not (w : World) (b : Addr) (hb : b = 30 ∨ b = 37) : (KF w.params).lookup b = none := by
  rcases hb with rfl | rfl <;> kernel_rfl

theorem Base.grow {w : World} {s s' : Shared} (x : Base w s.heap) (g : Grow s s') : Base w s'.heap := by
  have kp : ∀ b m, b ≠ 30 → b ≠ 37 → s.heap.Ns b m → s'.heap.Ns b m := fun b m h1 h2 ⟨o, es, ep, e, r⟩ => ⟨o, es, ep, g.keep b o h1 h2 e, r⟩
  refine ⟨fun a o e => ?_, ?_, ?_, ?_, ?_, ?_, let ⟨ob, e, r⟩ := x.bm; ⟨ob, g.keep 4 ob (by decide) (by decide) e, r⟩⟩
  · refine g.keep a o ?_ ?_ (x.kin a o e)
    · rintro rfl; rw [kin_not w 30 (.inl rfl)] at e; cases e
    · rintro rfl; rw [kin_not w 37 (.inr rfl)] at e; cases e
  · obtain ⟨mg, h, r⟩ := x.gl; exact ⟨mg, kp _ _ (by decide) (by decide) h, r⟩
  · obtain ⟨mb, h, r⟩ := x.bi; exact ⟨mb, kp _ _ (by decide) (by decide) h, r⟩
  · obtain ⟨mc, h, r⟩ := x.lim; exact ⟨mc, kp _ _ (by decide) (by decide) h, r⟩
  · exact g.tab 30 (.inl rfl) x.t30
  · exact g.tab 37 (.inr rfl) x.t37

def Room (k : Nat) (A : Around) : Prop := A.handled = none ∧ A.depth + k < recursionLimit ∧ A.units + 16 * k < cLine
theorem Room.le {k k' : Nat} {A : Around} (r : Room k A) (h : k' ≤ k) : Room k' A := ⟨r.1, by have := r.2.1; omega, by have := r.2.2; omega⟩

structure EnvOk (env : Env) : Prop where
  kind : env.scope.kind = .function
  glob : env.globals = mainGlobals
  blt : env.builtins = builtinsNs

/-- a name's value as the frame bears it -/
def Held (env : Env) (m : Str → Option Value) (h : Heap) (x : Str) (v : Value) : Prop :=
  (env.kindOf x = some .local ∧ m x = some v) ∨
  ((env.kindOf x = some .cell ∨ env.kindOf x = some .free) ∧ (x == (Str.ofString "__classdict__")) = false ∧ ∃ c, env.cells.lookup x = some c ∧ h.IsCell c (some v))

/-- the frame: its names' deep values; H: the addresses that still turn -/
structure St (w : World) (env : Env) (Γ : List (Str × D)) (H : List Addr) (s : Shared) : Prop where
  ok : EnvOk env
  base : Base w s.heap
  tabs : (30 : Addr) ∈ H ∧ (37 : Addr) ∈ H
  dom : ∀ a ∈ H, ∃ o, s.heap.get? a = some o
  loc : env.locals ≠ 30 ∧ env.locals ≠ 37 ∧ env.locals ∈ H
  cel : ∀ x c, (x, c) ∈ env.cells → c ≠ 30 ∧ c ≠ 37 ∧ c ∈ H
  vars : ∃ m, s.heap.Ns env.locals m ∧ ∀ x d, Γ.lookup x = some d → (x == (Str.ofString "__debug__")) = false ∧ ∃ v, Held env m s.heap x v ∧ Is w (hid H s.heap) d v

theorem hid_grow {s s' : Shared} {H : List Addr} (g : Grow s s') (t : (30 : Addr) ∈ H ∧ (37 : Addr) ∈ H) : ∀ b o, (hid H s.heap).get? b = some o → (hid H s'.heap).get? b = some o := fun b o e => by
  obtain ⟨e, n⟩ := hid_get.mp e
  exact hid_get.mpr ⟨g.keep b o (fun q => n (q ▸ t.1)) (fun q => n (q ▸ t.2)) e, n⟩
theorem Is.grow {w : World} {s s' : Shared} {H : List Addr} {d : D} {v : Value} (x : Is w (hid H s.heap) d v) (g : Grow s s') (t : (30 : Addr) ∈ H ∧ (37 : Addr) ∈ H) : Is w (hid H s'.heap) d v := x.mono (hid_grow g t)
theorem IsL.grow {w : World} {s s' : Shared} {H : List Addr} {d : List D} {v : List Value} (x : IsL w (hid H s.heap) d v) (g : Grow s s') (t : (30 : Addr) ∈ H ∧ (37 : Addr) ∈ H) : IsL w (hid H s'.heap) d v := x.mono (hid_grow g t)

theorem St.grow {w : World} {env : Env} {Γ : List (Str × D)} {H : List Addr} {s s' : Shared} (x : St w env Γ H s) (g : Grow s s') : St w env Γ H s' := by
  refine ⟨x.ok, x.base.grow g, x.tabs, fun a ha => ?_, x.loc, x.cel, ?_⟩
  · obtain ⟨o, e⟩ := x.dom a ha
    by_cases h1 : a = 30
    · subst h1; obtain ⟨ps, e, _⟩ := (x.base.grow g).t30; exact ⟨_, e⟩
    · by_cases h2 : a = 37
      · subst h2; obtain ⟨ps, e, _⟩ := (x.base.grow g).t37; exact ⟨_, e⟩
      · exact ⟨o, g.keep a o h1 h2 e⟩
  · obtain ⟨m, n, r⟩ := x.vars
    obtain ⟨o, es, ep, e, q⟩ := n
    refine ⟨m, ⟨o, es, ep, g.keep _ o x.loc.1 x.loc.2.1 e, q⟩, fun y d hy => ?_⟩
    obtain ⟨hdbg, v, hv, hi⟩ := r y d hy
    refine ⟨hdbg, v, ?_, hi.grow g x.tabs⟩
    rcases hv with hv | ⟨hk, hn, c, hc, o', ho', hd'⟩
    · exact .inl hv
    · have := x.cel y c (mem_of_lookup hc)
      exact .inr ⟨hk, hn, c, hc, o', g.keep c o' this.1 this.2.1 ho', hd'⟩

/-- an expression's deep value; it changes nothing that stands -/
def EV (w : World) (k : Nat) (env : Env) (Γ : List (Str × D)) (e : Expr) (d : D) : Prop :=
  ∀ (H : List Addr) (A : Around) (s : Shared) (Q : Value → Shared → Prop) (E : Value → Shared → Prop), Room k A → St w env Γ H s →
    (∀ v s', Grow s s' → Is w (hid H s'.heap) d v → Q v s') → wpAny (model PG w) A (eval e env) Q E s
/-- a test's truth -/
def TV (w : World) (k : Nat) (env : Env) (Γ : List (Str × D)) (e : Expr) (b : Bool) : Prop :=
  ∀ (H : List Addr) (A : Around) (s : Shared) (Q : Bool → Shared → Prop) (E : Value → Shared → Prop), Room k A → St w env Γ H s →
    (∀ s', Grow s s' → Q b s') → wpAny (model PG w) A (isTrue e env (eval e env)) Q E s
/-- an operator upon deep values -/
def BO (w : World) (k : Nat) (op : Operator) (d₁ d₂ d : D) : Prop :=
  ∀ (A : Around) (s : Shared) (H : List Addr) (v₁ v₂ : Value) (Q : Value → Shared → Prop) (E : Value → Shared → Prop), Room k A → Base w s.heap → ((30 : Addr) ∈ H ∧ (37 : Addr) ∈ H) → (∀ a ∈ H, ∃ o, s.heap.get? a = some o) →
    Is w (hid H s.heap) d₁ v₁ → Is w (hid H s.heap) d₂ v₂ → (∀ v s', Grow s s' → Is w (hid H s'.heap) d v → Q v s') → wpAny (model PG w) A (binaryOp op v₁ v₂) Q E s
def CP (w : World) (k : Nat) (op : CmpOp) (d₁ d₂ : D) (b : Bool) : Prop :=
  ∀ (A : Around) (s : Shared) (H : List Addr) (v₁ v₂ : Value) (Q : Value → Shared → Prop) (E : Value → Shared → Prop), Room k A → Base w s.heap → ((30 : Addr) ∈ H ∧ (37 : Addr) ∈ H) → (∀ a ∈ H, ∃ o, s.heap.get? a = some o) →
    Is w (hid H s.heap) d₁ v₁ → Is w (hid H s.heap) d₂ v₂ → (∀ s', Grow s s' → Q (.bool b) s') → wpAny (model PG w) A (compareOp op v₁ v₂) Q E s

section
variable {w : World} {k : Nat} {env : Env} {Γ : List (Str × D)}
theorem EV.le {k' : Nat} {e : Expr} {d : D} (x : EV w k env Γ e d) (h : k ≤ k') : EV w k' env Γ e d := fun H A s Q E r => x H A s Q E (r.le h)
theorem Grow.toks {s : Shared} (t : Nat) : Grow s { s with toks := t } := .of_keeps fun _ _ e => e

theorem ev_name {x : Str} {pos : Pos} {d : D} (h : Γ.lookup x = some d) : EV w k env Γ (.Name x pos) d := by
  intro H A s Q E r st hQ
  obtain ⟨m, n, vr⟩ := st.vars
  obtain ⟨hdbg, v, hv, hi⟩ := vr x d h
  refine wpAny_Name ?_ hdbg
  rcases hv with ⟨hk, hm⟩ | ⟨hk | hk, hn, c, hc, hcell⟩
  · exact wpAny_loadName_local st.ok.kind hk n hm (hQ v s (.refl s) hi)
  · exact wpAny_loadName_cell st.ok.kind hk hc hcell (hQ v s (.refl s) hi)
  · exact wpAny_loadName_free st.ok.kind hk hc hcell (hQ v s (.refl s) hi) hn
theorem ev_int {i : Int} {n : Nat} {pos : Pos} : EV w k env Γ (.Constant (.int i) n pos) (.int i) :=
  fun _ _ _ _ _ _ _ hQ => wpAny_Constant_int (hQ _ _ (.toks _) (is_int.mpr ⟨_, rfl⟩))
theorem ev_str {x : Str} {n : Nat} {pos : Pos} : EV w k env Γ (.Constant (.str x) n pos) (.str x) :=
  fun _ _ _ _ _ _ _ hQ => Constant_str (hQ _ _ (.toks _) (is_str.mpr ⟨_, rfl⟩))
theorem ev_binop {l r : Expr} {op : Operator} {pos : Pos} {d₁ d₂ d : D} (hl : EV w k env Γ l d₁) (hr : EV w k env Γ r d₂) (ho : BO w k op d₁ d₂ d) : EV w k env Γ (.BinOp l op r pos) d := by
  intro H A s Q E rm st hQ
  refine wpAny_BinOp (hl H A s _ E rm st fun v₁ s₁ g₁ i₁ => hr H A s₁ _ E rm (st.grow g₁) fun v₂ s₂ g₂ i₂ => ?_)
  exact ho A s₂ H v₁ v₂ Q E rm ((st.grow g₁).grow g₂).base st.tabs ((st.grow g₁).grow g₂).dom (i₁.grow g₂ st.tabs) i₂ fun v s' g i => hQ v s' ((g₁.trans g₂).trans g) i
theorem ev_cmp {l r : Expr} {op : CmpOp} {pos : Pos} {d₁ d₂ : D} {b : Bool} (hl : EV w k env Γ l d₁) (hr : EV w k env Γ r d₂) (ho : CP w k op d₁ d₂ b) (hm : behindInMarks op r = false := by with_unfolding_all rfl) :
    EV w k env Γ (.Compare l [op] [r] pos) (.bool b) := by
  intro H A s Q E rm st hQ
  refine wpAny_Compare1 (hl H A s _ E rm st fun v₁ s₁ g₁ i₁ => hr H A s₁ _ E rm (st.grow g₁) fun v₂ s₂ g₂ i₂ => ?_) hm
  exact ho A s₂ H v₁ v₂ Q E rm ((st.grow g₁).grow g₂).base st.tabs ((st.grow g₁).grow g₂).dom (i₁.grow g₂ st.tabs) i₂ fun s' g => hQ _ s' ((g₁.trans g₂).trans g) (is_bool.mpr rfl)
theorem tv_cmp {l r : Expr} {op : CmpOp} {pos : Pos} {d₁ d₂ : D} {b : Bool} (hl : EV w k env Γ l d₁) (hr : EV w k env Γ r d₂) (ho : CP w k op d₁ d₂ b) (hm : behindInMarks op r = false := by with_unfolding_all rfl) :
    TV w k env Γ (.Compare l [op] [r] pos) b := by
  intro H A s Q E rm st hQ
  refine wpAny_isTrue_Compare1 (hl H A s _ E rm st fun v₁ s₁ g₁ i₁ => hr H A s₁ _ E rm (st.grow g₁) fun v₂ s₂ g₂ i₂ => ?_) hm
  exact ho A s₂ H v₁ v₂ _ E rm ((st.grow g₁).grow g₂).base st.tabs ((st.grow g₁).grow g₂).dom (i₁.grow g₂ st.tabs) i₂ fun s' g => wpAny_truthy_bool (hQ s' ((g₁.trans g₂).trans g))
end

section
variable {w : World} {k : Nat} {a b : Int}
theorem bo_add : BO w k .Add (.int a) (.int b) (.int (a + b)) := by
  intro A s H v₁ v₂ Q E _ _ _ _ i₁ i₂ hQ
  obtain ⟨t, rfl⟩ := is_int.mp i₁
  obtain ⟨u, rfl⟩ := is_int.mp i₂
  exact PyProof.Rows.add_int (hQ _ _ (.toks _) (is_int.mpr ⟨_, rfl⟩))
theorem bo_sub : BO w k .Sub (.int a) (.int b) (.int (a - b)) := by
  intro A s H v₁ v₂ Q E _ _ _ _ i₁ i₂ hQ
  obtain ⟨t, rfl⟩ := is_int.mp i₁
  obtain ⟨u, rfl⟩ := is_int.mp i₂
  exact PyProof.Rows.sub_int (hQ _ _ (.toks _) (is_int.mpr ⟨_, rfl⟩))
theorem bo_mul (hm : IntMulOk a b) : BO w k .Mult (.int a) (.int b) (.int (a * b)) := by
  intro A s H v₁ v₂ Q E _ _ _ _ i₁ i₂ hQ
  obtain ⟨t, rfl⟩ := is_int.mp i₁
  obtain ⟨u, rfl⟩ := is_int.mp i₂
  exact PyProof.Rows.mul_int (hQ _ _ (.toks _) (is_int.mpr ⟨_, rfl⟩)) hm
theorem bo_mod (hb : b ≠ 0) : BO w k .Mod (.int a) (.int b) (.int (a.fmod b)) := by
  intro A s H v₁ v₂ Q E _ _ _ _ i₁ i₂ hQ
  obtain ⟨t, rfl⟩ := is_int.mp i₁
  obtain ⟨u, rfl⟩ := is_int.mp i₂
  exact PyProof.Rows.mod_int' hb (hQ _ _ (.toks _) (is_int.mpr ⟨_, rfl⟩))
theorem bo_fdiv (hb : b ≠ 0) (hp : Builtin.divisionGoesByPylong a b = false) : BO w k .FloorDiv (.int a) (.int b) (.int (a.fdiv b)) := by
  intro A s H v₁ v₂ Q E _ _ _ _ i₁ i₂ hQ
  obtain ⟨t, rfl⟩ := is_int.mp i₁
  obtain ⟨u, rfl⟩ := is_int.mp i₂
  exact PyProof.Rows.floordiv_int hb (hQ _ _ (.toks _) (is_int.mpr ⟨_, rfl⟩)) (.inl hp)
theorem bo_shr (hb : 0 ≤ b) : BO w k .RShift (.int a) (.int b) (.int (a.fdiv (2 ^ b.toNat))) := by
  intro A s H v₁ v₂ Q E _ _ _ _ i₁ i₂ hQ
  obtain ⟨t, rfl⟩ := is_int.mp i₁
  obtain ⟨u, rfl⟩ := is_int.mp i₂
  exact PyProof.Rows.rshift_int hb (hQ _ _ (.toks _) (is_int.mpr ⟨_, rfl⟩))
theorem bo_shl (hb : 0 ≤ b) (hb2 : b ≤ 1000000) (ha : a.natAbs < 2 ^ 64) : BO w k .LShift (.int a) (.int b) (.int (a * 2 ^ b.toNat)) := by
  intro A s H v₁ v₂ Q E _ _ _ _ i₁ i₂ hQ
  obtain ⟨t, rfl⟩ := is_int.mp i₁
  obtain ⟨u, rfl⟩ := is_int.mp i₂
  exact PyProof.Rows.lshift_int_small hb hb2 ha (hQ _ _ (.toks _) (is_int.mpr ⟨_, rfl⟩))
theorem bo_pow (hb : 0 ≤ b) (hb2 : b ≤ 1000000) (ha : a.natAbs < 2 ^ 64) : BO w k .Pow (.int a) (.int b) (.int (a ^ b.toNat)) := by
  intro A s H v₁ v₂ Q E _ _ _ _ i₁ i₂ hQ
  obtain ⟨t, rfl⟩ := is_int.mp i₁
  obtain ⟨u, rfl⟩ := is_int.mp i₂
  exact PyProof.Rows.pow_int_small hb hb2 ha (hQ _ _ (.toks _) (is_int.mpr ⟨_, rfl⟩))
theorem bo_xor : BO w k .BitXor (.int a) (.int b) (.int (Builtin.bitXor a b)) := by
  intro A s H v₁ v₂ Q E _ _ _ _ i₁ i₂ hQ
  obtain ⟨t, rfl⟩ := is_int.mp i₁
  obtain ⟨u, rfl⟩ := is_int.mp i₂
  exact PyProof.Rows.xor_int (hQ _ _ (.toks _) (is_int.mpr ⟨_, rfl⟩))
theorem cp_lt : CP w k .Lt (.int a) (.int b) (decide (a < b)) := by
  intro A s H v₁ v₂ Q E _ _ _ _ i₁ i₂ hQ
  obtain ⟨t, rfl⟩ := is_int.mp i₁
  obtain ⟨u, rfl⟩ := is_int.mp i₂
  exact PyProof.Rows.lt_int (hQ _ (.refl _))
theorem cp_eq : CP w k .Eq (.int a) (.int b) (a == b) := by
  intro A s H v₁ v₂ Q E _ _ _ _ i₁ i₂ hQ
  obtain ⟨t, rfl⟩ := is_int.mp i₁
  obtain ⟨u, rfl⟩ := is_int.mp i₂
  exact PyProof.Rows.eq_int (hQ _ (.refl _))
end

/-- a call upon deep values -/
def CL (w : World) (k : Nat) (f : Value) (ds : List D) (d : D) : Prop :=
  ∀ (A : Around) (s : Shared) (H : List Addr) (vs : List Value) (Q : Value → Shared → Prop) (E : Value → Shared → Prop), Room k A → Base w s.heap → ((30 : Addr) ∈ H ∧ (37 : Addr) ∈ H) → (∀ a ∈ H, ∃ o, s.heap.get? a = some o) →
    IsL w (hid H s.heap) ds vs → (∀ v s', Grow s s' → Is w (hid H s'.heap) d v → Q v s') → wpAny (model PG w) A (call f vs) Q E s
/-- several expressions -/
def ES (w : World) (k : Nat) (env : Env) (Γ : List (Str × D)) (es : List Expr) (ds : List D) : Prop :=
  ∀ (H : List Addr) (pos : Pos) (A : Around) (s : Shared) (Q : List Value → Shared → Prop) (E : Value → Shared → Prop), Room k A → St w env Γ H s →
    (∀ vs s', Grow s s' → IsL w (hid H s'.heap) ds vs → Q vs s') → wpAny (model PG w) A (spliced (backTo pos (starEach es env))) Q E s

theorem new_ref {H : List Addr} {s : Shared} (dom : ∀ a ∈ H, ∃ o, s.heap.get? a = some o) : s.heap.objs.size ∉ H := fun m => by
  obtain ⟨o, e⟩ := dom _ m
  exact absurd (Heap.lt_size e) (Nat.lt_irrefl _)
theorem hid_push {H : List Addr} {h : Heap} (o : Obj) : ∀ b o', (hid H h).get? b = some o' → (hid H (h.push o)).get? b = some o' := fun b o' e => by
  obtain ⟨e, n⟩ := hid_get.mp e
  exact hid_get.mpr ⟨Heap.get?_push_of_some _ e, n⟩
theorem Grow.push {s : Shared} (o : Obj) : Grow s { s with heap := s.heap.push o } := .of_keeps fun _ _ e => Heap.get?_push_of_some _ e
theorem Grow.keepsAt {s : Shared} {h' : Heap} (hk : ∀ b o, s.heap.get? b = some o → h'.get? b = some o) : Grow s { s with heap := h' } := .of_keeps (tk := s.toks) hk

section
variable {w : World} {k : Nat} {env : Env} {Γ : List (Str × D)} {H : List Addr}
theorem new_lst {s : Shared} {ds : List D} {vs : List Value} (dom : ∀ a ∈ H, ∃ o, s.heap.get? a = some o) (x : IsL w (hid H s.heap) ds vs) :
    Is w (hid H (s.heap.push { cls := .type "list", data := .seq vs.toArray })) (.lst ds) (.ref s.heap.objs.size) :=
  is_lst.mpr ⟨_, vs, rfl, ⟨_, hid_get.mpr ⟨Heap.get?_push_size _ rfl, new_ref dom⟩, _, rfl⟩, x.mono (hid_push _)⟩
theorem new_tup {s : Shared} {ds : List D} {vs : List Value} (dom : ∀ a ∈ H, ∃ o, s.heap.get? a = some o) (x : IsL w (hid H s.heap) ds vs) :
    Is w (hid H (s.heap.push { cls := .type "tuple", data := .seq vs.toArray })) (.tup ds) (.ref s.heap.objs.size) :=
  is_tup.mpr ⟨_, vs, rfl, ⟨_, hid_get.mpr ⟨Heap.get?_push_size _ rfl, new_ref dom⟩, rfl, _, rfl⟩, x.mono (hid_push _)⟩

theorem es_nil : ES w k env Γ [] [] := fun _ _ _ _ _ _ _ _ hQ => spliced_none (hQ [] _ (.refl _) (isL_nil.mpr rfl))
theorem es_cons {e : Expr} {es : List Expr} {d : D} {ds : List D} (he : EV w k env Γ e d) (hs : ES w k env Γ es ds)
    (hst : starEach (e :: es) env = (false, eval e env) :: starEach es env := by rfl) : ES w k env Γ (e :: es) (d :: ds) := by
  intro H pos A s Q E r st hQ
  refine spliced_more (he H A s _ E r st fun v s₁ g₁ i₁ => hs H pos A s₁ _ E r (st.grow g₁) fun vs s₂ g₂ i₂ => ?_) hst
  exact hQ _ _ (g₁.trans g₂) (isL_cons.mpr ⟨v, vs, rfl, i₁.grow g₂ st.tabs, i₂⟩)
theorem ev_list {es : List Expr} {pos : Pos} {ds : List D} (h : ES w k env Γ es ds) (hz : ds.length ≤ 1000000 := by simp) : EV w k env Γ (.List es pos) (.lst ds) := by
  intro H A s Q E r st hQ
  refine wpAny_List_spliced (h H pos A s _ E r st fun vs s₁ g₁ i₁ => ⟨?_, hQ _ _ (g₁.trans (.push _)) (new_lst (st.grow g₁).dom i₁)⟩)
  rw [i₁.length, show sizeLine = 16777216 from rfl]; omega
theorem ev_tuple {es : List Expr} {n : Nat} {pos : Pos} {ds : List D} (h : ES w k env Γ es ds) (hz : ds.length ≤ 1000000 := by simp) : EV w k env Γ (.Tuple es n pos) (.tup ds) := by
  intro H A s Q E r st hQ
  refine wpAny_Tuple_spliced (h H pos A s _ E r st fun vs s₁ g₁ i₁ => ⟨?_, hQ _ _ (g₁.trans (.push _)) (new_tup (st.grow g₁).dom i₁)⟩)
  rw [i₁.length, show sizeLine = 16777216 from rfl]; omega

/-- a global name, as the text binds it -/
theorem wp_global {A : Around} {s : Shared} {Q : Value → Shared → Prop} {E : Value → Shared → Prop} {x : Str} {pos : Pos} {v : Value} (st : St w env Γ H s)
    (hn : nsIn (KF w.params) mainGlobals x = some (some v)) (hk : env.kindOf x = some .globalImplicit) (hd' : (x == (Str.ofString "__debug__")) = false) (h : Q v s) : wpAny (model PG w) A (eval (.Name x pos) env) Q E s := by
  obtain ⟨mg, n, g, _⟩ := st.base.gl
  exact Calls.Name_function_global st.ok.kind hk (Calls.loadGlobal_global (by rw [st.ok.glob]; exact n) (g x v hn) h) hd'
theorem wp_builtin {A : Around} {s : Shared} {Q : Value → Shared → Prop} {E : Value → Shared → Prop} {x : Str} {pos : Pos} {v : Value} (st : St w env Γ H s)
    (hn : nsIn (KF w.params) mainGlobals x = some none) (hb : bootBuiltins x = some v) (hnm : x ≠ Str.ofString "__name__") (hk : env.kindOf x = some .globalImplicit) (hd' : (x == (Str.ofString "__debug__")) = false) (h : Q v s) : wpAny (model PG w) A (eval (.Name x pos) env) Q E s := by
  obtain ⟨mg, n, _, g⟩ := st.base.gl
  obtain ⟨mb, nb, b⟩ := st.base.bi
  exact Calls.Name_function_global st.ok.kind hk (Calls.loadGlobal_builtin (by rw [st.ok.glob]; exact n) (g x hn) (by rw [st.ok.blt]; exact nb) ((b x hnm).trans hb) h) hd'

/-- what a name of the text or of the builtins is, as a callee -/
inductive Callee (w : World) (x : Str) : Value → Prop where
  | fn (a : Addr) (o : Obj) (fd : FuncData) : nsIn (KF w.params) mainGlobals x = some (some (.ref a)) → (KF w.params).lookup a = some o → o.data = .func fd → Callee w x (.ref a)
  | bi (id : String) : nsIn (KF w.params) mainGlobals x = some none → bootBuiltins x = some (.builtin id) → x ≠ Str.ofString "__name__" → Callee w x (.builtin id)
  | ty (T : String) : nsIn (KF w.params) mainGlobals x = some none → bootBuiltins x = some (.type T) → x ≠ Str.ofString "__name__" → Callee w x (.type T)

theorem wp_callee {x : Str} {p pos : Pos} {e : Expr} {es : List Expr} {f : Value} {ds : List D} {A : Around} {s : Shared} {Q E : Value → Shared → Prop} (r : Room k A) (st : St w env Γ H s) (hc : Callee w x f) (hk : env.kindOf x = some .globalImplicit) (hd' : (x == (Str.ofString "__debug__")) = false) (ha : ES w k env Γ (e :: es) ds) (fin : ∀ vs s', Grow s s' → IsL w (hid H s'.heap) ds vs → wpAny (model PG w) A (call f vs) Q E s')
    (hst : starEach (e :: es) env = (false, eval e env) :: starEach es env := by rfl) (hpl : (backTo pos (starEach es env)).any (·.1) = false := by rfl) : wpAny (model PG w) A (eval (.Call (.Name x p) (e :: es) [] pos) env) Q E s := by
  refine Call_Name rfl ?_
  have args : ∀ (P : List Value → Shared → Prop), (∀ vs s', Grow s s' → IsL w (hid H s'.heap) ds vs → P vs s') → wpAny (model PG w) A (evalArgs f true (backTo pos (starEach (e :: es) env)) []) (fun a s₁ => a.kw = [] ∧ P a.pos s₁) E s := by
    intro P hP
    rw [hst]
    refine Calls.evalArgs_plain ?_
    have := ha H pos A s (fun vs s' => (Args.mk vs []).kw = [] ∧ P vs s') E r st fun vs s' g i => ⟨rfl, hP vs s' g i⟩
    rw [hst] at this
    exact this
  have hpl' : (backTo pos (starEach (e :: es) env)).any (·.1) = false := by
    rw [hst]; show (false || (backTo pos (starEach es env)).any (·.1)) = false; rw [hpl]; rfl
  cases hc with
  | fn a o fd h1 h2 h3 =>
    refine wp_global st h1 hk hd' (Calls.callWith_function (o := o) (fd := fd) (wpAny_mono (args (fun vs s₁ => (s₁.heap.get? a = some o ∧ o.data = .func fd) ∧ wpAny (model PG w) A (call (.ref a) vs) Q E s₁) fun vs s' g i => ⟨⟨(st.grow g).base.kin a o h2, h3⟩, fin vs s' g i⟩) (fun a s₁ q => ?_) fun _ _ q => q))
    obtain ⟨ps, kw⟩ := a
    obtain ⟨q1, q2, q3⟩ := q
    cases q1
    exact ⟨q2, q3⟩
  | bi id h1 h2 h3 =>
    refine wp_builtin st h1 h2 h3 hk hd' (Calls.callWith_builtin hpl' (wpAny_mono (args (fun vs s₁ => wpAny (model PG w) A (call (.builtin id) vs) Q E s₁) fin) (fun a s₁ q => ?_) fun _ _ q => q))
    obtain ⟨ps, kw⟩ := a
    obtain ⟨q1, q2⟩ := q
    cases q1
    exact q2
  | ty T h1 h2 h3 =>
    refine wp_builtin st h1 h2 h3 hk hd' (PyProof.Rows.callWith_type hpl' (wpAny_mono (args (fun vs s₁ => wpAny (model PG w) A (call (.type T) vs) Q E s₁) fin) (fun a s₁ q => ?_) fun _ _ q => q))
    obtain ⟨ps, kw⟩ := a
    obtain ⟨q1, q2⟩ := q
    cases q1
    exact q2
theorem ev_call {x : Str} {p pos : Pos} {e : Expr} {es : List Expr} {f : Value} {ds : List D} {d : D} (hc : Callee w x f) (hk : env.kindOf x = some .globalImplicit) (hd' : (x == (Str.ofString "__debug__")) = false) (ha : ES w k env Γ (e :: es) ds) (hf : CL w k f ds d)
    (hst : starEach (e :: es) env = (false, eval e env) :: starEach es env := by rfl) (hpl : (backTo pos (starEach es env)).any (·.1) = false := by rfl) : EV w k env Γ (.Call (.Name x p) (e :: es) [] pos) d := by
  intro H A s Q E r st hQ
  exact wp_callee r st hc hk hd' ha (fun vs s' g i => hf A s' H vs Q E r (st.grow g).base st.tabs (st.grow g).dom i fun v s'' g' i' => hQ v s'' (g.trans g') i') hst hpl
end


def frameAddrs (env : Env) : List Addr := env.locals :: env.cells.map (·.2)

/-- the one object that the frame still turns -/
def OwnIs (w : World) (H : List Addr) (h : Heap) : D → Addr → Prop
  | .lst ds, a => ∃ vs, Ls h a (List.toArray vs) ∧ IsL w (hid H h) ds vs
  | .dct ks ds, a => ∃ vs, h.DictOf (intKind PG w) a (ks.zip vs) ∧ (ks.length = vs.length ∧ (a == sysModules) = false) ∧ IsL w (hid H h) ds vs
  | _, _ => False

def Owned (w : World) (env : Env) (O : Option (Str × D)) (own S : List Addr) (h : Heap) : Prop := match O with
  | none => own = []
  | some (x, d) => (x == (Str.ofString "__debug__")) = false ∧ ∃ a, own = [a] ∧ a ∉ frameAddrs env ++ S ∧ (∃ m, h.Ns env.locals m ∧ Held env m h x (.ref a)) ∧ OwnIs w (own ++ (frameAddrs env ++ S)) h d a

structure Fm (w : World) (env : Env) (Γ : List (Str × D)) (O : Option (Str × D)) (own S : List Addr) (pn : List (Addr × Obj)) (gv : List (D × Value)) (s₀ s : Shared) : Prop where
  base0 : Base w s₀.heap
  grow : Grow s₀ s
  st : St w env Γ (own ++ (frameAddrs env ++ S)) s
  new : ∀ a ∈ own ++ frameAddrs env, s₀.heap.get? a = none
  apart : (frameAddrs env).Nodup
  cells : ∀ x c, (x, c) ∈ env.cells → ∃ v, s.heap.IsCell c v
  owned : Owned w env O own S s.heap
  pin : ∀ p ∈ pn, s.heap.get? p.1 = some p.2 ∧ p.1 ∉ own ++ frameAddrs env ∧ p.1 ≠ 30 ∧ p.1 ≠ 37
  ghost : ∀ p ∈ gv, Is w (hid (own ++ (frameAddrs env ++ S)) s.heap) p.1 p.2

theorem hid_same {H : List Addr} {h h' : Heap} {a : Addr} (hs : Heap.SameBut a h h') (ha : a ∈ H) : ∀ b o, (hid H h).get? b = some o → (hid H h').get? b = some o := fun b o e => by
  obtain ⟨e, n⟩ := hid_get.mp e
  exact hid_get.mpr ⟨(hs.2 b fun q => n (q ▸ ha)).trans e, n⟩
theorem ns_unique {h : Heap} {a : Addr} {m m' : Str → Option Value} (x : h.Ns a m) (y : h.Ns a m') : m = m' := by
  obtain ⟨o, es, ep, e, d, _, f⟩ := x
  obtain ⟨o', es', ep', e', d', _, f'⟩ := y
  rw [e] at e'; cases e'
  rw [d] at d'; cases d'
  funext n; rw [← f n, f' n]

section
variable {w : World} {k : Nat} {env : Env} {Γ Γ' : List (Str × D)} {O O' : Option (Str × D)} {own S : List Addr} {pn : List (Addr × Obj)} {gv : List (D × Value)} {s₀ s : Shared}

theorem Grow.turn {h' : Heap} {tk : Nat} {a : Addr} (g : Grow s₀ s) (hs : Heap.SameBut a s.heap h') (hn : s₀.heap.get? a = none) (b0 : Base w s₀.heap) (hc : NoCode s.heap a) : Grow s₀ { s with heap := h', toks := tk } := by
  obtain ⟨h1, t1, rfl⟩ := g.same
  refine ⟨⟨h', tk, rfl⟩, fun b o e1 e2 e => ?_, fun b hb e => ?_⟩
  · exact (hs.2 b fun q => by rw [q, hn] at e; cases e).trans (g.keep b o e1 e2 e)
  · refine (g.tab b hb e).but (P := fun x => x = a) (fun q => ?_) (fun x hx => by rw [hx]; exact hc) fun b o hb e => (hs.2 b hb).trans e
    obtain ⟨ps, e, _⟩ := e
    rw [q, hn] at e; cases e

theorem mem_turn {a : Addr} (ha : a ∈ own ++ frameAddrs env) : a ∈ own ++ (frameAddrs env ++ S) := by
  rw [← List.append_assoc]; exact List.mem_append_left _ ha
theorem Fm.noCode (F : Fm w env Γ O own S pn gv s₀ s) {a : Addr} (ha : a ∈ own ++ frameAddrs env) : NoCode s.heap a := by
  rcases List.mem_append.mp ha with ha | ha
  · have ow := F.owned
    unfold Owned at ow
    cases O with
    | none => rw [ow] at ha; cases ha
    | some p =>
      obtain ⟨y, dy⟩ := p
      obtain ⟨_, a', h1, _, _, h4⟩ := ow
      rw [h1, List.mem_singleton] at ha
      subst ha
      cases dy with
      | lst ds => obtain ⟨vs, l, _⟩ := h4; exact noCode_ls l
      | dct ks ds => obtain ⟨vs, l, _⟩ := h4; exact noCode_dct l
      | _ => exact h4.elim
  · rcases List.mem_cons.mp ha with rfl | ha
    · obtain ⟨m, n, _⟩ := F.st.vars; exact noCode_ns n
    · obtain ⟨⟨x, c⟩, hm, rfl⟩ := List.mem_map.mp ha
      obtain ⟨v, hc⟩ := F.cells x c hm; exact noCode_cell hc
/-- one address of the frame's has turned -/
theorem Fm.turned (F : Fm w env Γ O own S pn gv s₀ s) {a : Addr} {h' : Heap} {tk : Nat} (ha : a ∈ own ++ frameAddrs env) (hs : Heap.SameBut a s.heap h') (hex : ∃ o, h'.get? a = some o)
    (vars : ∃ m, h'.Ns env.locals m ∧ ∀ x d, Γ'.lookup x = some d → (x == (Str.ofString "__debug__")) = false ∧ ∃ v, Held env m h' x v ∧ Is w (hid (own ++ (frameAddrs env ++ S)) h') d v)
    (cells : ∀ x c, (x, c) ∈ env.cells → ∃ v, h'.IsCell c v) (owned : Owned w env O' own S h') : Fm w env Γ' O' own S pn gv s₀ { s with heap := h', toks := tk } := by
  have hn := F.new a ha
  have g : Grow s₀ { s with heap := h', toks := tk } := F.grow.turn hs hn F.base0 (F.noCode ha)
  refine ⟨F.base0, g, ⟨F.st.ok, F.base0.grow g, F.st.tabs, fun b hb => ?_, F.st.loc, F.st.cel, vars⟩, F.new, F.apart, cells, owned, fun p hp => ⟨(hs.2 p.1 fun q => (F.pin p hp).2.1 (q ▸ ha)).trans (F.pin p hp).1, (F.pin p hp).2⟩, fun p hp => (F.ghost p hp).mono (hid_same hs (mem_turn ha))⟩
  by_cases hba : b = a
  · subst hba; exact hex
  · obtain ⟨o, e⟩ := F.st.dom b hb
    exact ⟨o, (hs.2 b hba).trans e⟩

theorem held_other {m m' : Str → Option Value} {h h' : Heap} {x : Str} {v : Value} (x0 : Held env m h x v) (hm : env.kindOf x = some .local → m' x = m x) (hc : ∀ c, env.cells.lookup x = some c → env.kindOf x ≠ some .local → ∀ u, h.IsCell c u → h'.IsCell c u) : Held env m' h' x v := by
  rcases x0 with ⟨hk, e⟩ | ⟨hk, hn, c, e, q⟩
  · exact .inl ⟨hk, by rw [hm hk]; exact e⟩
  · refine .inr ⟨hk, hn, c, e, hc c e ?_ _ q⟩
    rcases hk with hk | hk <;> rw [hk] <;> decide

theorem own_is_mono {H : List Addr} {h h' : Heap} {d : D} {a : Addr} (hk : ∀ b o, (hid H h).get? b = some o → (hid H h').get? b = some o) (ha : ∀ o, h.get? a = some o → h'.get? a = some o) (x : OwnIs w H h d a) : OwnIs w H h' d a := by
  cases d with
  | lst ds => obtain ⟨vs, ⟨o, e, r⟩, i⟩ := x; exact ⟨vs, ⟨o, ha o e, r⟩, i.mono hk⟩
  | dct ks ds => obtain ⟨vs, ⟨o, es, ep, e, r⟩, n, i⟩ := x; exact ⟨vs, ⟨o, es, ep, ha o e, r⟩, n, i.mono hk⟩
  | _ => exact x.elim

theorem Fm.grew (F : Fm w env Γ O own S pn gv s₀ s) {s' : Shared} (g : Grow s s') : Fm w env Γ O own S pn gv s₀ s' := by
  refine ⟨F.base0, F.grow.trans g, F.st.grow g, F.new, F.apart, fun x c hc => ?_, ?_, fun p hp => ⟨g.keep p.1 p.2 (F.pin p hp).2.2.1 (F.pin p hp).2.2.2 (F.pin p hp).1, (F.pin p hp).2⟩, fun p hp => (F.ghost p hp).grow g F.st.tabs⟩
  · obtain ⟨v, o, e, r⟩ := F.cells x c hc
    have := F.st.cel x c hc
    exact ⟨v, o, g.keep c o this.1 this.2.1 e, r⟩
  · have ow := F.owned
    unfold Owned at ow ⊢
    cases O with
    | none => exact ow
    | some p =>
      obtain ⟨y, dy⟩ := p
      obtain ⟨hdbg, a, h1, h2, ⟨m, n, hv⟩, h4⟩ := ow
      have ha30 : a ≠ 30 := fun q => by
        have n0 := F.new 30 (by rw [h1, ← q]; simp)
        obtain ⟨ps, e, _⟩ := F.base0.t30
        rw [n0] at e; cases e
      have ha37 : a ≠ 37 := fun q => by
        have n0 := F.new 37 (by rw [h1, ← q]; simp)
        obtain ⟨ps, e, _⟩ := F.base0.t37
        rw [n0] at e; cases e
      obtain ⟨o, es, ep, e, r⟩ := n
      refine ⟨hdbg, a, h1, h2, ⟨m, ⟨o, es, ep, g.keep _ o F.st.loc.1 F.st.loc.2.1 e, r⟩, held_other hv (fun _ => rfl) fun c hc _ u hu => ?_⟩, own_is_mono (hid_grow g F.st.tabs) (fun o e => g.keep a o ha30 ha37 e) h4⟩
      obtain ⟨oc, ec, rc⟩ := hu
      have := F.st.cel y c (mem_of_lookup hc)
      exact ⟨oc, g.keep c oc this.1 this.2.1 ec, rc⟩

theorem mem_frame_local : env.locals ∈ frameAddrs env := List.mem_cons_self
theorem mem_frame_cell {x : Str} {c : Addr} (h : (x, c) ∈ env.cells) : c ∈ frameAddrs env := List.mem_cons_of_mem _ (List.mem_map.mpr ⟨_, h, rfl⟩)

/-- a name is stored -/
theorem Fm.store (F : Fm w env Γ O own S pn gv s₀ s) {x : Str} {d : D} {v : Value} {A : Around} {Q : Unit → Shared → Prop} {E : Value → Shared → Prop}
    (hx : env.kindOf x = some .local ∨ (env.kindOf x = some .cell ∧ (env.cells.lookup x).isSome = true ∧ (x == (Str.ofString "__classdict__")) = false)) (hdbg : (x == (Str.ofString "__debug__")) = false) (ho : ∀ d', O ≠ some (x, d'))
    (i : Is w (hid (own ++ (frameAddrs env ++ S)) s.heap) d v) (h : ∀ s', Fm w env ((x, d) :: Γ) O own S pn gv s₀ s' → (∀ b o, (hid (own ++ (frameAddrs env ++ S)) s.heap).get? b = some o → (hid (own ++ (frameAddrs env ++ S)) s'.heap).get? b = some o) → Q () s') : wpAny (model PG w) A (storeName env x v) Q E s := by
  obtain ⟨m, n, vr⟩ := F.st.vars
  have inH : ∀ a, a ∈ frameAddrs env → a ∈ own ++ (frameAddrs env ++ S) := fun a ha => List.mem_append_right _ (List.mem_append_left _ ha)
  have look : ∀ y d', ((x, d) :: Γ).lookup y = some d' → (y = x ∧ d' = d) ∨ (y ≠ x ∧ Γ.lookup y = some d') := fun y d' e => by
    rw [List.lookup_cons] at e
    cases hb : y == x with
    | true => rw [hb] at e; cases e; exact .inl ⟨beq_iff_eq.mp hb, rfl⟩
    | false => rw [hb] at e; exact .inr ⟨fun q => (by rw [q, beq_self_eq_true] at hb; cases hb), e⟩
  rcases hx with hl | ⟨hl, hcs, hcd⟩
  · refine wpAny_storeName_local hl n (fun h' hn' hs' => h _ (F.turned (a := env.locals) (List.mem_append_right _ mem_frame_local) hs' ?_ ⟨_, hn', fun y d' hy => ?_⟩ (fun y c hc => ?_) ?_) (hid_same hs' (inH _ mem_frame_local))) (by rw [F.st.ok.kind]; rfl)
    · obtain ⟨o, _, _, e, _⟩ := hn'; exact ⟨o, e⟩
    · rcases look y d' hy with ⟨rfl, rfl⟩ | ⟨hne, hy'⟩
      · exact ⟨hdbg, v, .inl ⟨hl, by simp⟩, i.mono (hid_same hs' (inH _ mem_frame_local))⟩
      · obtain ⟨h1, u, hu, iu⟩ := vr y d' hy'
        refine ⟨h1, u, held_other hu (fun _ => by simp [hne]) fun c hc hnl q hq => hq.sameBut hs' fun e => ?_, iu.mono (hid_same hs' (inH _ mem_frame_local))⟩
        exact (List.nodup_cons.mp F.apart).1 (e ▸ List.mem_map.mpr ⟨_, mem_of_lookup hc, rfl⟩)
    · obtain ⟨q, hq⟩ := F.cells y c hc
      exact ⟨q, hq.sameBut hs' fun e => (List.nodup_cons.mp F.apart).1 (e ▸ List.mem_map.mpr ⟨_, hc, rfl⟩)⟩
    · have ow := F.owned
      unfold Owned at ow ⊢
      cases O with
      | none => exact ow
      | some p =>
        obtain ⟨y, dy⟩ := p
        obtain ⟨hdb, a, h1, h2, ⟨m', n', hv⟩, h4⟩ := ow
        have em := ns_unique n n'; subst em
        have hyx : y ≠ x := fun q => ho dy (by rw [q])
        refine ⟨hdb, a, h1, h2, ⟨_, hn', held_other hv (fun _ => by simp [hyx]) fun c hc hnl q hq => hq.sameBut hs' fun e => ?_⟩, own_is_mono (hid_same hs' (inH _ mem_frame_local)) (fun o e => (hs'.2 a fun q => h2 (List.mem_append_left _ (q ▸ mem_frame_local))).trans e) h4⟩
        exact (List.nodup_cons.mp F.apart).1 (e ▸ List.mem_map.mpr ⟨_, mem_of_lookup hc, rfl⟩)
  · obtain ⟨c, hc⟩ := Option.isSome_iff_exists.mp hcs
    have hcm := mem_of_lookup hc
    obtain ⟨q₀, hq₀⟩ := F.cells x c hcm
    have hne : c ≠ env.locals := fun e => (List.nodup_cons.mp F.apart).1 (e ▸ List.mem_map.mpr ⟨_, hcm, rfl⟩)
    have uniq : ∀ y c', env.cells.lookup y = some c' → c' = c → y = x := fun y c' hy e => by
      have hp : (env.cells.map (·.2)).Nodup := (List.nodup_cons.mp F.apart).2
      have hp' : env.cells.Pairwise fun a b => a.2 ≠ b.2 := (List.pairwise_map.mp hp)
      exact name_of_addr hp' (mem_of_lookup hy) (e ▸ hcm)
    refine wpAny_storeName_cell F.st.ok.kind hl hc hq₀ fun h' hc' hs' => h _ ?_ (hid_same hs' (inH _ (mem_frame_cell hcm)))
    have key := F.turned (Γ' := (x, d) :: Γ) (O' := O) (tk := s.toks) (a := c) (h' := h') (List.mem_append_right _ (mem_frame_cell hcm)) hs' (let ⟨o, e, _⟩ := hc'; ⟨o, e⟩) ⟨m, n.sameBut hs' hne.symm, fun y d' hy => ?_⟩ (fun y c' hy => ?_) ?_
    · exact key
    · rcases look y d' hy with ⟨rfl, rfl⟩ | ⟨hyx, hy'⟩
      · exact ⟨hdbg, v, .inr ⟨.inl hl, hcd, c, hc, hc'⟩, i.mono (hid_same hs' (inH _ (mem_frame_cell hcm)))⟩
      · obtain ⟨h1, u, hu, iu⟩ := vr y d' hy'
        exact ⟨h1, u, held_other hu (fun _ => rfl) fun c' hc1 _ q hq => hq.sameBut hs' fun e => hyx (uniq y c' hc1 e), iu.mono (hid_same hs' (inH _ (mem_frame_cell hcm)))⟩
    · by_cases e : c' = c
      · subst e; exact ⟨_, hc'⟩
      · obtain ⟨q, hq⟩ := F.cells y c' hy
        exact ⟨q, hq.sameBut hs' e⟩
    · have ow := F.owned
      unfold Owned at ow ⊢
      cases O with
      | none => exact ow
      | some p =>
        obtain ⟨y, dy⟩ := p
        obtain ⟨hdb, a, h1, h2, ⟨m', n', hv⟩, h4⟩ := ow
        have hyx : y ≠ x := fun q => ho dy (by rw [q])
        exact ⟨hdb, a, h1, h2, ⟨m', n'.sameBut hs' hne.symm, held_other hv (fun _ => rfl) fun c' hc1 _ q hq => hq.sameBut hs' fun e => hyx (uniq y c' hc1 e)⟩, own_is_mono (hid_same hs' (inH _ (mem_frame_cell hcm))) (fun o e => (hs'.2 a fun q => h2 (List.mem_append_left _ (q ▸ mem_frame_cell hcm))).trans e) h4⟩
end

inductive Out where
  | next (Γ : List (Str × D)) (O : Option (Str × D))
  | ret (d : D)

def Post (w : World) (env : Env) (S : List Addr) (pn : List (Addr × Obj)) (gv : List (D × Value)) (s₀ : Shared) (Q : Flow → Shared → Prop) : Out → Prop
  | .next Γ O => ∀ own s, Fm w env Γ O own S pn gv s₀ s → Q .next s
  | .ret d => ∀ v s, Grow s₀ s → Is w (hid S s.heap) d v → Q (.ret v) s

def EX (w : World) (k : Nat) (env : Env) (Γ : List (Str × D)) (O : Option (Str × D)) (st : Stmt) (out : Out) : Prop :=
  ∀ (A : Around) (own S : List Addr) (pn : List (Addr × Obj)) (gv : List (D × Value)) (s₀ s : Shared) (Q : Flow → Shared → Prop) (E : Value → Shared → Prop), Room k A → Fm w env Γ O own S pn gv s₀ s → Post w env S pn gv s₀ Q out → wpAny (model PG w) A (exec st env) Q E s
def EXS (w : World) (k : Nat) (env : Env) (Γ : List (Str × D)) (O : Option (Str × D)) (sts : List Stmt) (out : Out) : Prop :=
  ∀ (A : Around) (own S : List Addr) (pn : List (Addr × Obj)) (gv : List (D × Value)) (s₀ s : Shared) (Q : Flow → Shared → Prop) (E : Value → Shared → Prop), Room k A → Fm w env Γ O own S pn gv s₀ s → Post w env S pn gv s₀ Q out → wpAny (model PG w) A (execs sts env) Q E s

def full (Γ : List (Str × D)) : Option (Str × D) → List (Str × D)
  | none => Γ
  | some p => p :: Γ

def D.flat : D → Bool
  | .none | .bool _ | .int _ | .str _ => true
  | _ => false
theorem Is.flat {w : World} {h h' : Heap} {d : D} {v : Value} (hf : d.flat = true) (x : Is w h d v) : Is w h' d v := by
  cases d <;> first | (simp only [Is] at x ⊢; exact x) | cases hf

inductive LoopW (w : World) (k : Nat) (env : Env) (test : Expr) (body : List Stmt) : List (Str × D) → Option (Str × D) → Out → Prop where
  | stop {Γ O} : TV w k env (Mine.full Γ O) test false → LoopW w k env test body Γ O (.next Γ O)
  | turn {Γ O Γ' O' out} : TV w k env (Mine.full Γ O) test true → EXS w k env Γ O body (.next Γ' O') → LoopW w k env test body Γ' O' out → LoopW w k env test body Γ O out
  | ret {Γ O d} : TV w k env (Mine.full Γ O) test true → EXS w k env Γ O body (.ret d) → LoopW w k env test body Γ O (.ret d)

/-- how far a loop is from its end -/
inductive Steps (w : World) (k : Nat) (env : Env) (test : Expr) (body : List Stmt) (out : Out) : Nat → List (Str × D) → Option (Str × D) → Prop where
  | stop {Γ O} : TV w k env (Mine.full Γ O) test false → out = .next Γ O → Steps w k env test body out 0 Γ O
  | turn {n Γ O Γ' O'} : TV w k env (Mine.full Γ O) test true → EXS w k env Γ O body (.next Γ' O') → Steps w k env test body out n Γ' O' → Steps w k env test body out (n + 1) Γ O
  | ret {Γ O d} : TV w k env (Mine.full Γ O) test true → EXS w k env Γ O body (.ret d) → out = .ret d → Steps w k env test body out 0 Γ O

section
variable {w : World} {k : Nat} {env : Env} {Γ Γ' : List (Str × D)} {O O' : Option (Str × D)} {own S : List Addr} {pn : List (Addr × Obj)} {gv : List (D × Value)} {s₀ s : Shared}

theorem Fm.full (F : Fm w env Γ O own S pn gv s₀ s) : St w env (full Γ O) (frameAddrs env ++ S) s := by
  have sub : ∀ a ∈ frameAddrs env ++ S, a ∈ own ++ (frameAddrs env ++ S) := fun a h => List.mem_append_right _ h
  have t : ∀ b, (b = 30 ∨ b = 37) → b ∈ own ++ (frameAddrs env ++ S) → b ∈ frameAddrs env ++ S := fun b hb hm => by
    rcases List.mem_append.mp hm with h | h
    · have n0 := F.new b (List.mem_append_left _ h)
      rcases hb with rfl | rfl
      · obtain ⟨ps, e, _⟩ := F.base0.t30; rw [n0] at e; cases e
      · obtain ⟨ps, e, _⟩ := F.base0.t37; rw [n0] at e; cases e
    · exact h
  obtain ⟨m, n, vr⟩ := F.st.vars
  refine ⟨F.st.ok, F.st.base, ⟨t 30 (.inl rfl) F.st.tabs.1, t 37 (.inr rfl) F.st.tabs.2⟩, fun a h => F.st.dom a (sub a h), ⟨F.st.loc.1, F.st.loc.2.1, List.mem_append_left _ mem_frame_local⟩, fun x c h => ⟨(F.st.cel x c h).1, (F.st.cel x c h).2.1, List.mem_append_left _ (mem_frame_cell h)⟩, m, n, fun x d hx => ?_⟩
  have old : ∀ x d, Γ.lookup x = some d → (x == (Str.ofString "__debug__")) = false ∧ ∃ v, Held env m s.heap x v ∧ Is w (hid (frameAddrs env ++ S) s.heap) d v := fun x d hx => by
    obtain ⟨h1, v, h2, h3⟩ := vr x d hx
    exact ⟨h1, v, h2, h3.hid_mono sub⟩
  have ow := F.owned
  unfold Owned at ow
  cases O with
  | none => exact old x d hx
  | some p =>
    obtain ⟨y, dy⟩ := p
    rw [Mine.full, List.lookup_cons] at hx
    cases hb : x == y with
    | false => rw [hb] at hx; exact old x d hx
    | true =>
      rw [hb] at hx
      cases hx
      have e := beq_iff_eq.mp hb
      subst e
      obtain ⟨hdb, a, h1, h2, ⟨m', n', hv⟩, h4⟩ := ow
      have em := ns_unique n n'; subst em
      refine ⟨hdb, _, hv, ?_⟩
      cases d with
      | lst ds => obtain ⟨vs, ⟨o, e, r⟩, i⟩ := h4; exact is_lst.mpr ⟨a, vs, rfl, ⟨o, hid_get.mpr ⟨e, h2⟩, r⟩, i.mono fun b o e => by obtain ⟨e, n⟩ := hid_get.mp e; exact hid_get.mpr ⟨e, fun q => n (sub b q)⟩⟩
      | dct ks ds => obtain ⟨vs, ⟨o, es, ep, e, r⟩, n, i⟩ := h4; exact is_dct.mpr ⟨a, vs, rfl, ⟨o, es, ep, hid_get.mpr ⟨e, h2⟩, r⟩, n, i.mono fun b o e => by obtain ⟨e, n⟩ := hid_get.mp e; exact hid_get.mpr ⟨e, fun q => n (sub b q)⟩⟩
      | _ => exact h4.elim

/-- how a name may be stored -/
def Stores (env : Env) (O : Option (Str × D)) (x : Str) : Prop :=
  (env.kindOf x = some .local ∨ (env.kindOf x = some .cell ∧ (env.cells.lookup x).isSome = true ∧ (x == (Str.ofString "__classdict__")) = false)) ∧ (x == (Str.ofString "__debug__")) = false ∧ ∀ d', O ≠ some (x, d')

theorem ex_assign {x : Str} {p pos : Pos} {e : Expr} {d : D} (he : EV w k env Γ e d) (hx : Stores env O x) (hs : swapsWith e (some (.Name x p)) pos.line env = pure false := by rfl) :
    EX w k env Γ O (.Assign [.Name x p] e pos) (.next ((x, d) :: Γ) O) := by
  intro A own S pn gv s₀ s Q E r F hQ
  refine wpAny_Assign_Name (he _ A s _ E r F.st fun v s₁ g i => ?_) hs
  exact (F.grew g).store hx.1 hx.2.1 hx.2.2 i fun s' F' _ => hQ own s' F'
theorem ex_assign_flat {x : Str} {p pos : Pos} {e : Expr} {d : D} (he : EV w k env (Mine.full Γ O) e d) (hf : d.flat = true) (hx : Stores env O x) (hs : swapsWith e (some (.Name x p)) pos.line env = pure false := by rfl) :
    EX w k env Γ O (.Assign [.Name x p] e pos) (.next ((x, d) :: Γ) O) := by
  intro A own S pn gv s₀ s Q E r F hQ
  refine wpAny_Assign_Name (he _ A s _ E r F.full fun v s₁ g i => ?_) hs
  exact (F.grew g).store hx.1 hx.2.1 hx.2.2 (i.flat hf) fun s' F' _ => hQ own s' F'
theorem ex_return {e : Expr} {pos : Pos} {d : D} (he : EV w k env (Mine.full Γ O) e d) : EX w k env Γ O (.Return (some e) pos) (.ret d) := by
  intro A own S pn gv s₀ s Q E r F hQ
  refine wpAny_Return_some (he _ A s _ E r F.full fun v s₁ g i => hQ v s₁ (F.grow.trans g) (i.hid_mono fun a h => List.mem_append_right _ h))
theorem ex_if {test : Expr} {body orelse : List Stmt} {pos : Pos} {b : Bool} {out : Out} (ht : TV w k env (Mine.full Γ O) test b) (hb : EXS w k env Γ O (if b then body else orelse) out) : EX w k env Γ O (.If test body orelse pos) out := by
  intro A own S pn gv s₀ s Q E r F hQ
  refine wpAny_If (ht _ A s _ E r F.full fun s₁ g => ?_)
  cases b with
  | true => exact hb A own S pn gv s₀ s₁ Q E r (F.grew g) hQ
  | false => exact hb A own S pn gv s₀ s₁ Q E r (F.grew g) hQ
theorem exs_nil : EXS w k env Γ O [] (.next Γ O) := fun A own S pn gv s₀ s Q E r F hQ => wpAny_execs_nil (hQ own s F)
theorem exs_cons {st : Stmt} {sts : List Stmt} {Γ' : List (Str × D)} {O' : Option (Str × D)} {out : Out} (h1 : EX w k env Γ O st (.next Γ' O')) (h2 : EXS w k env Γ' O' sts out) : EXS w k env Γ O (st :: sts) out := by
  intro A own S pn gv s₀ s Q E r F hQ
  refine wpAny_execs_cons (h1 A own S pn gv s₀ s _ E r F fun own' s' F' => ?_)
  exact h2 A own' S pn gv s₀ s' Q E r F' hQ
theorem exs_ret {st : Stmt} {sts : List Stmt} {d : D} (h1 : EX w k env Γ O st (.ret d)) : EXS w k env Γ O (st :: sts) (.ret d) := by
  intro A own S pn gv s₀ s Q E r F hQ
  refine wpAny_execs_cons (h1 A own S pn gv s₀ s _ E r F fun v s' g i => ?_)
  exact hQ v s' g i

/-- fewer names -/
theorem exs_weaken {Γ' : List (Str × D)} {sts : List Stmt} {out : Out} (hs : ∀ p ∈ Γ', Γ.lookup p.1 = some p.2) (h : EXS w k env Γ' O sts out) : EXS w k env Γ O sts out := by
  intro A own S pn gv s₀ s Q E r F hQ
  refine h A own S pn gv s₀ s Q E r ⟨F.base0, F.grow, ⟨F.st.ok, F.st.base, F.st.tabs, F.st.dom, F.st.loc, F.st.cel, ?_⟩, F.new, F.apart, F.cells, F.owned, F.pin, F.ghost⟩ hQ
  obtain ⟨m, n, vr⟩ := F.st.vars
  exact ⟨m, n, fun x d hx => vr x d (hs (x, d) (mem_of_lookup hx))⟩

theorem LoopW.steps {test : Expr} {body : List Stmt} {out : Out} (l : LoopW w k env test body Γ O out) : ∃ n, Steps w k env test body out n Γ O := by
  induction l with
  | stop h => exact ⟨0, .stop h rfl⟩
  | turn h1 h2 _ ih => obtain ⟨n, h⟩ := ih; exact ⟨n + 1, .turn h1 h2 h⟩
  | ret h1 h2 => exact ⟨0, .ret h1 h2 rfl⟩

theorem ex_while {test : Expr} {body : List Stmt} {pos : Pos} {out : Out} (l : LoopW w k env test body Γ O out) : EX w k env Γ O (.While test body [] pos) out := by
  intro A own S pn gv s₀ s Q E r F hQ
  refine wpAny_While ?_
  obtain ⟨n, hn⟩ := l.steps
  refine codeAny_whileLoop (fun n s => ∃ Γ O own, Steps w k env test body out n Γ O ∧ Fm w env Γ O own S pn gv s₀ s) (fun n s hI => ?_) n ⟨Γ, O, own, hn, F⟩
  obtain ⟨Γ, O, own, hst, F⟩ := hI
  cases hst with
  | stop h e =>
    subst e
    refine h _ A s _ _ r F.full fun s₁ g => ?_
    simp only [Bool.false_eq_true, if_false]
    exact wpAny_execs_nil (hQ own s₁ (F.grew g))
  | turn h1 h2 h3 =>
    refine h1 _ A s _ _ r F.full fun s₁ g => ?_
    simp only [if_true]
    exact h2 A own S pn gv s₀ s₁ _ _ r (F.grew g) fun own' s' F' => ⟨_, Nat.lt_succ_self _, _, _, own', h3, F'⟩
  | ret h1 h2 e =>
    subst e
    refine h1 _ A s _ _ r F.full fun s₁ g => ?_
    simp only [if_true]
    exact h2 A own S pn gv s₀ s₁ _ _ r (F.grew g) fun v s' g i => hQ v s' g i
end

theorem bindL_eq {kd : Str → Option NameKind} {x : Str} : ∀ (binds : List (Str × Value)) (m : Str → Option Value), kd x = some .local → bindL kd binds m x = (binds.reverse.lookup x).or (m x)
  | [], m, _ => by simp [bindL]
  | (n, v) :: r, m, h => by
    rw [bindL, bindL_eq r _ h, List.reverse_cons, List.lookup_append, Option.or_assoc]
    congr 1
    by_cases e : x = n
    · subst e; rw [if_pos h]; simp [List.lookup_cons]
    · have hb : (x == n) = false := beq_eq_false_iff_ne.mpr e
      split <;> simp [List.lookup_cons, hb, e]
theorem bindC_eq {kd : Str → Option NameKind} {x : Str} : ∀ (binds : List (Str × Value)) (m : Str → Option Value), kd x ≠ some .local → bindC kd binds m x = (binds.reverse.lookup x).or (m x)
  | [], m, _ => by simp [bindC]
  | (n, v) :: r, m, h => by
    rw [bindC, bindC_eq r _ h, List.reverse_cons, List.lookup_append, Option.or_assoc]
    congr 1
    by_cases e : x = n
    · subst e; rw [if_neg h]; simp [List.lookup_cons]
    · have hb : (x == n) = false := beq_eq_false_iff_ne.mpr e
      split <;> simp [List.lookup_cons, hb, e]
theorem lookup_zip {w : World} {h : Heap} {x : Str} {d : D} : ∀ {ns : List Str} {ds : List D} {vs : List Value}, IsL w h ds vs → (ns.zip ds).reverse.lookup x = some d → ∃ v, (ns.zip vs).reverse.lookup x = some v ∧ Is w h d v
  | [], ds, vs, _, e => by simp at e
  | n :: ns, [], vs, _, e => by simp at e
  | n :: ns, d' :: ds, vs, i, e => by
    rw [isL_cons] at i
    obtain ⟨v, r, rfl, a, z⟩ := i
    rw [List.zip_cons_cons, List.reverse_cons, List.lookup_append] at e ⊢
    cases q : (ns.zip ds).reverse.lookup x with
    | some d₂ =>
      rw [q] at e
      simp only [Option.some_or, Option.some.injEq] at e
      subst e
      obtain ⟨u, hu, iu⟩ := lookup_zip z q
      exact ⟨u, by rw [hu]; rfl, iu⟩
    | none =>
      have nn : (ns.zip r).reverse.lookup x = none := by
        have hl : r.length = ds.length := z.length
        rw [List.lookup_eq_none_iff] at q ⊢
        intro p hp
        have hp' : p.1 ∈ (ns.zip r).map (·.1) := List.mem_map.mpr ⟨p, List.mem_reverse.mp hp, rfl⟩
        have e1 : (ns.zip r).map (·.1) = (ns.zip ds).map (·.1) := by
          clear q e hp hp' z a
          induction ns generalizing r ds with
          | nil => simp
          | cons a ns ih =>
            cases r with
            | nil => cases ds with
              | nil => rfl
              | cons _ _ => simp at hl
            | cons b r => cases ds with
              | nil => simp at hl
              | cons c ds =>
                simp only [List.length_cons, Nat.add_right_cancel_iff] at hl
                simp only [List.zip_cons_cons, List.map_cons]
                exact congrArg _ (ih _ _ hl)
        rw [e1] at hp'
        obtain ⟨p', hp', e'⟩ := List.mem_map.mp hp'
        have := q p' (List.mem_reverse.mpr hp')
        rw [← e']; exact this
      rw [q] at e
      rw [nn]
      simp only [Option.none_or, List.lookup_cons, List.lookup_nil] at e ⊢
      cases hb : x == n with
      | true => rw [hb] at e; cases e; exact ⟨v, rfl, a⟩
      | false => rw [hb] at e; cases e

theorem cellsFrom_names : ∀ (names : List (Str × NameKind)) (n n' : Nat) (acc acc' : List (Str × Addr)), acc.map (·.1) = acc'.map (·.1) → (cellsFrom n names acc).map (·.1) = (cellsFrom n' names acc').map (·.1)
  | [], _, _, _, _, h => h
  | (x, kd) :: r, n, n', acc, acc', h => by
    unfold cellsFrom
    split
    · exact cellsFrom_names r _ _ _ _ (by simp [h])
    · exact cellsFrom_names r _ _ _ _ h
theorem lookup_isSome_iff {α : Type} {x : Str} : ∀ {l : List (Str × α)}, (l.lookup x).isSome = true ↔ x ∈ l.map (·.1)
  | [] => by simp
  | (y, v) :: r => by
    rw [List.lookup_cons]
    cases hb : x == y with
    | true => simp [beq_iff_eq.mp hb]
    | false =>
      have : x ≠ y := fun e => by rw [e, beq_self_eq_true] at hb; cases hb
      simp only [List.map_cons, List.mem_cons, this, false_or]
      exact lookup_isSome_iff
theorem lookup_of_mem {α : Type} {x : Str} {c : α} : ∀ {l : List (Str × α)}, (l.map (·.1)).Nodup → (x, c) ∈ l → l.lookup x = some c
  | (y, v) :: r, hn, hm => by
    rw [List.map_cons, List.nodup_cons] at hn
    rw [List.lookup_cons]
    rcases List.mem_cons.mp hm with e | hm
    · cases e; simp
    · have : x ≠ y := fun e => hn.1 (e ▸ List.mem_map.mpr ⟨_, hm, rfl⟩)
      have hb : (x == y) = false := beq_eq_false_iff_ne.mpr this
      rw [hb]
      exact lookup_of_mem hn.2 hm

/-- what is asked of a def's parameters and cells (closed facts) -/
def ParamsOk (sc : Scope) (names : List Str) : Bool :=
  names.all (fun x => (sc.names.lookup x == some .local || (sc.names.lookup x == some .cell && ((cellsFrom 0 sc.names []).map (·.1)).contains x && !(x == Str.ofString "__classdict__"))) && !(x == Str.ofString "__debug__")) &&
  decide ((cellsFrom 0 sc.names []).map (·.1)).Nodup && sc.kind == .function && !sc.isCoroutine && !sc.isGenerator

/-- a contract, of the call's code -/
def CLC (w : World) (k : Nat) (f : Value) (ds : List D) (d : D) : Prop :=
  ∀ (A : Around) (s : Shared) (H : List Addr) (vs : List Value) (Q : Value → Shared → Prop) (E : Value → Shared → Prop), Room k A → Base w s.heap → ((30 : Addr) ∈ H ∧ (37 : Addr) ∈ H) → (∀ a ∈ H, ∃ o, s.heap.get? a = some o) →
    IsL w (hid H s.heap) ds vs → (∀ v s', Grow s s' → Is w (hid H s'.heap) d v → Q v s') → codeAny (model PG w) A (.call f ⟨vs, []⟩) (fun r s' => match r with | .ok (.ret v) => Q v s' | .ok _ => False | .error e => E e s') s
theorem CLC.cl {w : World} {k : Nat} {f : Value} {ds : List D} {d : D} (h : CLC w k f ds d) : CL w k f ds d := fun A s H vs Q E r b t dm i hQ => wpAny_call (h A s H vs Q E r b t dm i hQ)
theorem cl_fnC {w : World} {k : Nat} {f : Addr} {o : Obj} {fd : FuncData} {body : List Stmt} {names : List Str} {ds : List D} {d : D}
    (hK : (KF w.params).lookup f = some o) (hdat : o.data = .func fd) (hb : fd.body = .stmts body) (hclo : fd.closure = []) (hgl : fd.globals = mainGlobals) (hbt : fd.builtins = builtinsNs)
    (hcd : codeIn (KF w.params) fd.code fd.qualname = true) (hbind : ∀ vals : List Value, vals.length = ds.length → bindArgs fd ⟨vals, []⟩ = pure (names.zip vals)) (hp : ParamsOk fd.scope names = true)
    (hbody : ∀ L, EXS w k (callEnvC fd L f) (names.zip ds).reverse none body (.ret d)) : CLC w (k + 1) (.ref f) ds d := by
  intro A s S vs Q E r base tabs dom i hQ
  simp only [ParamsOk, Bool.and_eq_true, List.all_eq_true, Bool.or_eq_true, beq_iff_eq, decide_eq_true_eq, Bool.not_eq_true', List.contains_iff_mem] at hp
  obtain ⟨⟨⟨⟨hpn, hpd⟩, hpk⟩, hpc⟩, hpg⟩ := hp
  have cellMem : ∀ n x, x ∈ (cellsFrom 0 fd.scope.names []).map (·.1) → ((cellsFrom n fd.scope.names []).lookup x).isSome = true := fun n x hx =>
    lookup_isSome_iff.mpr (by rw [cellsFrom_names fd.scope.names n 0 [] [] rfl]; exact hx)
  have memOf : ∀ x (v : Value), (x, v) ∈ names.zip vs → x ∈ names := fun x v h => (List.of_mem_zip h).1
  refine codeAny_call_cells (by have := r.2.1; omega) (base.kin f o hK) hdat base.lim (codeRec_of base.kin hcd) hb (hbind vs i.length) hclo (fun x hx => ?_) (fun s₁ C => ?_) hpc hpg hpk
  · have := (hpn x.1 (memOf x.1 x.2 hx)).1
    rcases this with h | ⟨⟨h1, h2⟩, h3⟩
    · exact .inl h
    · exact .inr ⟨h1, cellMem _ _ h2⟩
  · have eok : EnvOk (callEnvC fd s.heap.objs.size f) := ⟨hpk, hgl, hbt⟩
    have hbd := hbody s.heap.objs.size
    have hloc : (callEnvC fd s.heap.objs.size f).locals = s.heap.objs.size := rfl
    have hcells : (callEnvC fd s.heap.objs.size f).cells = cellsFrom (s.heap.objs.size + 1) fd.scope.names [] := rfl
    have hkd : ∀ x, (callEnvC fd s.heap.objs.size f).kindOf x = fd.scope.names.lookup x := fun _ => rfl
    generalize callEnvC fd s.heap.objs.size f = env at *
    have hnd : (env.cells.map (·.1)).Nodup := by rw [hcells, cellsFrom_names fd.scope.names _ 0 [] [] rfl]; exact hpd
    have g : Grow s s₁ := by
      obtain ⟨h', tk, rfl, hk⟩ := C.done
      exact .of_keeps hk
    have keep : ∀ b o, s.heap.get? b = some o → s₁.heap.get? b = some o := C.toInCall.keep
    have lo : ∀ a ∈ frameAddrs env, s.heap.objs.size ≤ a := fun a ha => by
      rcases List.mem_cons.mp ha with rfl | ha
      · exact hloc ▸ Nat.le_refl _
      · obtain ⟨⟨x, c⟩, hm, rfl⟩ := List.mem_map.mp ha
        exact Nat.le_of_lt (hloc ▸ C.above x c hm)
    have new : ∀ a ∈ frameAddrs env, s.heap.get? a = none := fun a ha => by
      cases q : s.heap.get? a with
      | none => rfl
      | some o' => exact absurd (Heap.lt_size q) (Nat.not_lt.mpr (lo a ha))
    have ne : ∀ a ∈ frameAddrs env, a ≠ 30 ∧ a ≠ 37 := fun a ha => by
      have n := new a ha
      refine ⟨?_, ?_⟩
      · rintro rfl; obtain ⟨ps, e, _⟩ := base.t30; rw [n] at e; cases e
      · rintro rfl; obtain ⟨ps, e, _⟩ := base.t37; rw [n] at e; cases e
    have cellAt : ∀ x c, (x, c) ∈ env.cells → s₁.heap.IsCell c (bindC env.kindOf (names.zip vs) (fun _ => none) x) := fun x c hc => C.cell x c (lookup_of_mem hnd hc)
    have iv : IsL w (hid (frameAddrs env ++ S) s₁.heap) ds vs := i.mono fun b o e => by
      obtain ⟨e, n⟩ := hid_get.mp e
      refine hid_get.mpr ⟨keep b o e, fun q => ?_⟩
      rcases List.mem_append.mp q with q | q
      · rw [new b q] at e; cases e
      · exact n q
    have F : Fm w env (names.zip ds).reverse none [] S [] [] s s₁ := by
      refine ⟨base, g, ⟨eok, base.grow g, ⟨List.mem_append_right _ (List.mem_append_right _ tabs.1), List.mem_append_right _ (List.mem_append_right _ tabs.2)⟩, fun a ha => ?_, ⟨(ne _ mem_frame_local).1, (ne _ mem_frame_local).2, List.mem_append_right _ (List.mem_append_left _ mem_frame_local)⟩, fun x c hc => ⟨(ne _ (mem_frame_cell hc)).1, (ne _ (mem_frame_cell hc)).2, List.mem_append_right _ (List.mem_append_left _ (mem_frame_cell hc))⟩, _, C.toInCall.ns, fun x d' hx => ?_⟩, fun a ha => new a ha, ?_, fun x c hc => ⟨_, cellAt x c hc⟩, rfl, fun _ hp => (nomatch hp), fun _ hp => (nomatch hp)⟩
      · rcases List.mem_append.mp (show a ∈ frameAddrs env ++ S from ha) with ha | ha
        · rcases List.mem_cons.mp ha with rfl | ha
          · obtain ⟨o', _, _, e, _⟩ := C.toInCall.ns; exact ⟨o', e⟩
          · obtain ⟨⟨x, c⟩, hm, rfl⟩ := List.mem_map.mp ha
            obtain ⟨o', e, _⟩ := cellAt x c hm; exact ⟨o', e⟩
        · obtain ⟨o', e⟩ := dom a ha; exact ⟨o', keep a o' e⟩
      · obtain ⟨v, hv, hi⟩ := lookup_zip iv hx
        have hxn : x ∈ names := (List.of_mem_zip (List.mem_reverse.mp (mem_of_lookup hx))).1
        obtain ⟨h1, h2⟩ := hpn x hxn
        refine ⟨h2, v, ?_, hi⟩
        by_cases hl : env.kindOf x = some .local
        · exact .inl ⟨hl, by rw [bindL_eq _ _ hl, hv]; rfl⟩
        · rcases h1 with h | ⟨⟨h3, h4⟩, h5⟩
          · exact absurd ((hkd x).trans h) hl
          · have hs : (env.cells.lookup x).isSome = true := by rw [hcells]; exact cellMem _ _ h4
            obtain ⟨c, hc⟩ := Option.isSome_iff_exists.mp hs
            have := C.cell x c hc
            rw [bindC_eq _ _ hl, hv] at this
            exact .inr ⟨.inl ((hkd x).trans h3), h5, c, hc, this⟩
      · refine List.nodup_cons.mpr ⟨fun hm => ?_, List.pairwise_map.mpr C.apart⟩
        obtain ⟨⟨x, c⟩, hm, e⟩ := List.mem_map.mp hm
        have := C.above x c hm
        simp only at e
        rw [e] at this
        exact Nat.lt_irrefl _ this
    refine hbd (A.deeper env) [] S [] [] s s₁ _ _ ⟨r.1, ?_, ?_⟩ F fun v s' g' i' => hQ v s' g' i'
    · show A.depth + 1 + k < recursionLimit
      have := r.2.1; omega
    · show A.units + 3 + 16 * k < cLine
      have := r.2.2; omega
theorem cl_fn {w : World} {k : Nat} {f : Addr} {o : Obj} {fd : FuncData} {body : List Stmt} {names : List Str} {ds : List D} {d : D}
    (hK : (KF w.params).lookup f = some o) (hdat : o.data = .func fd) (hb : fd.body = .stmts body) (hclo : fd.closure = []) (hgl : fd.globals = mainGlobals) (hbt : fd.builtins = builtinsNs)
    (hcd : codeIn (KF w.params) fd.code fd.qualname = true) (hbind : ∀ vals : List Value, vals.length = ds.length → bindArgs fd ⟨vals, []⟩ = pure (names.zip vals)) (hp : ParamsOk fd.scope names = true)
    (hbody : ∀ L, EXS w k (callEnvC fd L f) (names.zip ds).reverse none body (.ret d)) : CL w (k + 1) (.ref f) ds d := (cl_fnC hK hdat hb hclo hgl hbt hcd hbind hp hbody).cl

/-- a kind of state that names may be stored into -/
structure Sto (w : World) (env : Env) (H : List Addr) (ok : Str → Prop) (X : List (Str × D) → Shared → Prop) : Prop where
  st : ∀ {Γ s}, X Γ s → St w env Γ H s
  grew : ∀ {Γ s s'}, X Γ s → Grow s s' → X Γ s'
  store : ∀ {Γ : List (Str × D)} {s : Shared} {x : Str} {d : D} {v : Value} {A : Around} {Q : Unit → Shared → Prop} {E : Value → Shared → Prop}, ok x → X Γ s → Is w (hid H s.heap) d v → (∀ s', X ((x, d) :: Γ) s' → (∀ b o, (hid H s.heap).get? b = some o → (hid H s'.heap).get? b = some o) → Q () s') → wpAny (model PG w) A (storeName env x v) Q E s

theorem sto_fm {w : World} {env : Env} {O : Option (Str × D)} {own S : List Addr} {pn : List (Addr × Obj)} {gv : List (D × Value)} {s₀ : Shared} :
    Sto w env (own ++ (frameAddrs env ++ S)) (Stores env O) (fun Γ s => Fm w env Γ O own S pn gv s₀ s) :=
  ⟨fun F => F.st, fun F g => F.grew g, fun hx F i h => F.store hx.1 hx.2.1 hx.2.2 i h⟩

def nameOf : Expr → Option Str
  | .Name x _ => some x
  | _ => none
def namesOf : List Expr → Option (List Str)
  | [] => some []
  | .Name x _ :: r => (namesOf r).map (x :: ·)
  | _ :: _ => none
/-- what a target binds -/
def binds : Expr → D → Option (List (Str × D))
  | .Name x _, d => some [(x, d)]
  | .Tuple es _ _, .tup ds => match namesOf es with
    | some xs => if xs.length = ds.length then some (xs.zip ds).reverse else none
    | none => none
  | _, _ => none
/-- what a loop's target binds: a tuple that the iterator owns must be unpacked -/
def bindsI (t : Expr) : D → Option (List (Str × D))
  | .own ds => match t with
    | .Tuple .. => binds t (.tup ds)
    | _ => none
  | d => binds t d
theorem bindsI_tup {t : Expr} {ds : List D} {bs : List (Str × D)} (h : bindsI t (.own ds) = some bs) : binds t (.tup ds) = some bs := by
  cases t <;> first | exact h | cases h
def D.seen : D → D
  | .own ds => .tup ds
  | d => d
theorem bindsI_seen {t : Expr} {d : D} {bs : List (Str × D)} (h : bindsI t d = some bs) : binds t d.seen = some bs := by
  cases d <;> first | exact bindsI_tup h | exact h
theorem is_seen {w : World} {h : Heap} {d : D} {v : Value} (x : Is w h d v) : Is w h d.seen v := by
  cases d <;> first | exact is_own.mp x | exact x

theorem zip_snoc_rev {α β : Type} (x : α) (xs : List α) (d : β) (ds : List β) : ((x :: xs).zip (d :: ds)).reverse = (xs.zip ds).reverse ++ [(x, d)] := by simp

section
variable {w : World} {env : Env} {H : List Addr} {ok : Str → Prop} {X : List (Str × D) → Shared → Prop} {A : Around} {Q : Unit → Shared → Prop} {E : Value → Shared → Prop}
theorem wp_assignEach (S : Sto w env H ok X) : ∀ (es : List Expr) (xs : List Str) (ds : List D) (vs : List Value) (Γ : List (Str × D)) (s : Shared), namesOf es = some xs → xs.length = ds.length → (∀ x ∈ xs, ok x) → X Γ s → IsL w (hid H s.heap) ds vs →
    (∀ s', X ((xs.zip ds).reverse ++ Γ) s' → Q () s') → wpAny (model PG w) A (assignInOrder ((assignEach es env).map (·.2)) vs) Q E s
  | [], xs, ds, vs, Γ, s, hn, hl, hok, x, i, h => by
    cases hn
    cases ds with
    | nil => rw [isL_nil] at i; subst i; exact wpAny_pure (h s x)
    | cons _ _ => cases hl
  | e :: es, xs, ds, vs, Γ, s, hn, hl, hok, x, i, h => by
    cases e <;> try (cases hn; done)
    rename_i y py
    simp only [namesOf, Option.map_eq_some_iff] at hn
    obtain ⟨ys, hys, rfl⟩ := hn
    cases ds with
    | nil => cases hl
    | cons d ds =>
      rw [isL_cons] at i
      obtain ⟨v, r, rfl, a, z⟩ := i
      show wpAny _ A (assignInOrder ((assign (.Name y py) env) :: ((assignEach es env).map (·.2))) (v :: r)) Q E s
      refine wpAny_assignInOrder_more (wpAny_assign_Name (S.store (hok y (.head _)) x a fun s' x' hm => ?_))
      refine wp_assignEach S es ys ds r _ s' hys (by simpa using hl) (fun x hx => hok x (.tail _ hx)) x' (z.mono hm) fun s'' x'' => h s'' ?_
      rw [zip_snoc_rev, List.append_assoc]; exact x''
theorem wp_assign (S : Sto w env H ok X) {t : Expr} {d : D} {bs Γ : List (Str × D)} {v : Value} {s : Shared} (hh : A.handled = none) (hb : binds t d = some bs) (hok : ∀ p ∈ bs, ok p.1) (x : X Γ s) (i : Is w (hid H s.heap) d v) (h : ∀ s', X (bs ++ Γ) s' → Q () s') :
    wpAny (model PG w) A (assign t env v) Q E s := by
  cases t <;> try (cases hb; done)
  · cases hb
    exact wpAny_assign_Name (S.store (hok _ (.head _)) x i fun s' x' _ => h s' x')
  · rename_i es n pos
    cases d <;> try (cases hb; done)
    rename_i ds
    simp only [binds] at hb
    cases hn : namesOf es with
    | none => rw [hn] at hb; cases hb
    | some xs =>
      rw [hn] at hb
      simp only at hb
      split at hb
      · rename_i hl
        cases hb
        obtain ⟨a, vs, rfl, ht, il⟩ := is_tup.mp i
        have ht' : s.heap.IsTuple a vs.toArray := by obtain ⟨o, e, r⟩ := ht; exact ⟨o, (hid_get.mp e).1, r⟩
        have hlen : ∀ (es : List Expr) (xs : List Str), namesOf es = some xs → (assignEach es env).length = xs.length ∧ (assignEach es env).findIdx? (·.1) = none := by
          intro es
          induction es with
          | nil => intro xs h; cases h; exact ⟨rfl, rfl⟩
          | cons e es ih =>
            intro xs h
            cases e <;> try (cases h; done)
            simp only [namesOf, Option.map_eq_some_iff] at h
            obtain ⟨ys, hys, rfl⟩ := h
            obtain ⟨h1, h2⟩ := ih ys hys
            refine ⟨by show (assignEach es env).length + 1 = _; rw [h1]; rfl, ?_⟩
            show List.findIdx? (·.1) ((false, _) :: assignEach es env) = none
            rw [List.findIdx?_cons, h2]; rfl
        refine wpAny_assign_Tuple hh ht' (by rw [(hlen es xs hn).1, hl, List.size_toArray, il.length]) (hlen es xs hn).2 fun h' he => ?_
        have g : Grow s { s with heap := h' } := .keepsAt fun b o e => he b o (Nat.ne_of_lt (Heap.lt_size e)) e
        refine wp_assignEach S es xs ds vs Γ _ hn hl (fun x hx => ?_) (S.grew x g) (il.grow g (S.st x).tabs) fun s' x' => h s' x'
        obtain ⟨i, hi, rfl⟩ := List.mem_iff_getElem.mp hx
        have hm : (xs[i], ds[i]) ∈ (xs.zip ds).reverse := List.mem_reverse.mpr (by rw [List.mem_iff_getElem]; exact ⟨i, by rw [List.length_zip]; omega, by simp⟩)
        exact hok _ hm
      · cases hb
theorem wp_assignI (S : Sto w env H ok X) {t : Expr} {d : D} {bs Γ : List (Str × D)} {v : Value} {s : Shared} (hh : A.handled = none) (hb : bindsI t d = some bs) (hok : ∀ p ∈ bs, ok p.1) (x : X Γ s) (i : Is w (hid H s.heap) d v) (h : ∀ s', X (bs ++ Γ) s' → Q () s') :
    wpAny (model PG w) A (assign t env v) Q E s := wp_assign S hh (bindsI_seen hb) hok x (is_seen i) h
end

/-- an iterator over deep values -/
structure Wlk (w : World) (I : Addr) (fp wr : List Addr) (gs : List (D × Value)) (ds : List D) (W : Nat → Heap → Prop) : Prop where
  sub : ∀ b ∈ wr, b ∈ fp
  ex : ∀ i h, W i h → ∀ b ∈ fp, ∃ o, h.get? b = some o
  noCode : ∀ i h, W i h → ∀ b ∈ wr, NoCode h b
  frame : ∀ i h h', W i h → (∀ b ∈ fp, ∀ o, h.get? b = some o → h'.get? b = some o) → W i h'
  item : ∀ {k i : Nat} {d : D} {A : Around} {s : Shared} {H : List Addr} {t : Expr} {Q : Value → Shared → Prop} {E : Value → Shared → Prop}, Room k A → Base w s.heap → ((30 : Addr) ∈ H ∧ (37 : Addr) ∈ H) → (∀ a ∈ H, ∃ o, s.heap.get? a = some o) → (∀ b ∈ wr, b ∈ H) → (∀ p ∈ gs, Is w (hid H s.heap) p.1 p.2) → ds[i]? = some d → bindsI t d ≠ none → W i s.heap →
    (∀ v h' tk, (∀ b o, b ∉ wr → s.heap.get? b = some o → h'.get? b = some o) → (∀ b ∈ wr, ∃ o, h'.get? b = some o) → W (i + 1) h' → Is w (hid H h') d v → Q v { s with heap := h', toks := tk }) →
    wpAny (model PG w) A (pyNext (.ref I)) (fun r s₁ => ∃ v, r = some v ∧ ∀ E', wpAny (model PG w) A (letOwnedTupleGo t (.ref I) v) (fun _ s₂ => Q v s₂) E' s₁) E s
  done : ∀ {k : Nat} {A : Around} {s : Shared} {Q : Option Value → Shared → Prop} {E : Value → Shared → Prop}, Room k A → Base w s.heap → W ds.length s.heap → (∀ h' tk, (∀ b o, b ∉ wr → s.heap.get? b = some o → h'.get? b = some o) → Q none { s with heap := h', toks := tk }) → wpAny (model PG w) A (pyNext (.ref I)) Q E s
  self : ∀ {k i : Nat} {A : Around} {s : Shared} {Q : Value → Shared → Prop} {E : Value → Shared → Prop}, Room k A → W i s.heap → Q (.ref I) s → wpAny (model PG w) A (pyIter (.ref I)) Q E s

theorem wp_letGo_other {A : Around} {s : Shared} {w : World} {Q : Unit → Shared → Prop} {E : Value → Shared → Prop} {t : Expr} {I : Addr} {v : Value} {o : Obj} {n : String} {vs : Array Value} (ho : s.heap.get? I = some o) (hc : o.cls = .type n) (hd : o.data = .fields vs)
    (hn : (["enumerate", "zip", "dict_itemiterator", "dict_reverseitemiterator", "odict_iterator", "itertools.zip_longest", "itertools.pairwise"] : List String).contains n = false) (h : Q () s) : wpAny (model PG w) A (letOwnedTupleGo t (.ref I) v) Q E s := by
  have key : wpAny (model PG w) A (do
    let (.ref r, .ref a) := (Value.ref I, v) | return
    let o ← load r
    match o.cls, o.data with
    | .type n, .fields vs =>
      if ["enumerate", "zip", "dict_itemiterator", "dict_reverseitemiterator", "odict_iterator", "itertools.zip_longest", "itertools.pairwise"].contains n && vs[0]? == some (rawInt a) then
        rule "for.unpacks-the-owned-tuple"
        updateField r 0 .none
    | _, _ => pure ()) Q E s := by
    cases v <;> first | exact wpAny_pure h | skip
    refine wpAny_bind (wpAny_load ho ?_)
    rw [hc, hd]
    simp only [hn, Bool.false_and, Bool.false_eq_true, if_false]
    exact wpAny_pure h
  unfold letOwnedTupleGo
  split
  · exact key
  · exact key
  · exact wpAny_pure h


theorem isList_unique {h : Heap} {a : Addr} {x y : Array Value} (p : h.IsList a x) (q : h.IsList a y) : x = y := by
  obtain ⟨o, e, _, n, d⟩ := p
  obtain ⟨o', e', _, n', d'⟩ := q
  rw [e] at e'; cases e'
  rw [d] at d'; cases d'; rfl
theorem ls_seen {H : List Addr} {h : Heap} {a : Addr} {x : Array Value} (p : Ls (hid H h) a x) : Ls h a x := by
  obtain ⟨o, e, r⟩ := p
  exact ⟨o, (hid_get.mp e).1, r⟩
theorem isList_seen {H : List Addr} {h : Heap} {a : Addr} {x : Array Value} (p : Ls (hid H h) a x) : h.IsList a x ∧ a ∉ H := by
  obtain ⟨o, e, r⟩ := p
  exact ⟨(ls_seen ⟨o, e, r⟩).isList, (hid_get.mp e).2⟩

theorem wlk_list {w : World} {I ax : Addr} (hne : ax ≠ I) {ds : List D} {vs : List Value} (hlen : vs.length = ds.length) :
    Wlk w I [I, ax] [I] [(.lst ds, .ref ax)] ds (fun i h => h.IsListIter I ax i ∧ h.IsList ax (List.toArray vs)) where
  sub := fun b hb => by rw [List.mem_singleton] at hb; rw [hb]; exact .head _
  ex := fun i h W b hb => by
    obtain ⟨⟨o, e, _⟩, ⟨o', e', _⟩⟩ := W
    rcases List.mem_cons.mp hb with rfl | hb
    · exact ⟨o, e⟩
    · rw [List.mem_singleton] at hb; rw [hb]; exact ⟨o', e'⟩
  noCode := fun i h W b hb => by
    rw [List.mem_singleton] at hb; rw [hb]
    obtain ⟨⟨o, e, _, d⟩, _⟩ := W
    exact noCode_of e fun vs hv q t => by rw [d] at hv; cases hv; simp
  frame := fun i h h' W hk => ⟨W.1.at fun o e => hk I (.head _) o e, W.2.at fun o e => hk ax (.tail _ (.head _)) o e⟩
  item := fun {k i d A s H t Q E} r b tb dom wr gs hd _ W hQ => by
    obtain ⟨a, vs', ea, hl, il⟩ := is_lst.mp (gs _ (.head _))
    cases ea
    have ev : vs' = vs := by
      have := isList_unique (isList_seen hl).1 W.2
      simpa using congrArg Array.toList this
    subst ev
    obtain ⟨v, hv, iv⟩ := il.get i d hd
    refine wpAny_pyNext_list_item W.1 W.2 (x := v) (by simpa using hv) fun h' hit' hs' => ⟨v, rfl, fun E' => ?_⟩
    have hit := hit'
    obtain ⟨o, e, c, dt⟩ := hit
    refine wp_letGo_other e c dt (by decide) ?_
    refine hQ v h' s.toks (fun b o hb e => hs'.extBut b o (fun q => hb (q ▸ .head _)) e) (fun b hb => by rw [List.mem_singleton] at hb; rw [hb]; exact ⟨o, e⟩) ⟨hit', W.2.extBut hs'.extBut hne⟩ (iv.mono (hid_same hs' (wr I (.head _))))
  done := fun {k A s Q E} r b W hQ => by
    exact wpAny_pyNext_list_end r.1 W.1 W.2 (by simp [hlen]) fun h' he => hQ h' s.toks fun b o hb e => he b o (fun q => hb (q ▸ .head _)) e
  self := fun r W hQ => wpAny_pyIter_listiter W.1 hQ

/-- an expression that is walked over: its items' deep values -/
def IE (w : World) (k : Nat) (env : Env) (Γ : List (Str × D)) (e : Expr) (ds : List D) : Prop :=
  ∀ (H : List Addr) (A : Around) (s : Shared) (Q : Value → Shared → Prop) (E : Value → Shared → Prop), Room k A → St w env Γ H s →
    (∀ I fp wr gs W s', Grow s s' → Wlk w I fp wr gs ds W → W 0 s'.heap → (∀ b ∈ wr, s.heap.get? b = none ∧ ∃ o, s'.heap.get? b = some o) → (∀ b ∈ fp, b ∈ wr ∨ (b ∉ H ∧ b ≠ 30 ∧ b ≠ 37)) → (∀ p ∈ gs, Is w (hid (wr ++ H) s'.heap) p.1 p.2) → Q (.ref I) s') →
    wpAny (model PG w) A (eval e env) (fun x s₁ => wpAny (model PG w) A (pyIter x) Q E s₁) E s

theorem ie_list {w : World} {k : Nat} {env : Env} {Γ : List (Str × D)} {e : Expr} {ds : List D} (h : EV w k env Γ e (.lst ds)) : IE w k env Γ e ds := by
  intro H A s Q E r st hQ
  refine h H A s _ E r st fun v s₁ g i => ?_
  have st₁ := st.grow g
  obtain ⟨ax, vs, rfl, hl, il⟩ := is_lst.mp i
  obtain ⟨hl', hax⟩ := isList_seen hl
  refine wpAny_pyIter_list hl' ?_
  have hne : ax ≠ s₁.heap.objs.size := by obtain ⟨o, e, _⟩ := hl'; exact Nat.ne_of_lt (Heap.lt_size e)
  have gp : Grow s₁ { s₁ with heap := s₁.heap.push { cls := .type "list_iterator", data := .fields #[.ref ax, .int 0 0] } } := .push _
  have hI : s.heap.get? s₁.heap.objs.size = none := by
    cases q : s.heap.get? s₁.heap.objs.size with
    | none => rfl
    | some o =>
      exfalso
      by_cases h1 : s₁.heap.objs.size = 30
      · obtain ⟨ps, e, _⟩ := st₁.base.t30; rw [← h1] at e; exact absurd (Heap.lt_size e) (Nat.lt_irrefl _)
      · by_cases h2 : s₁.heap.objs.size = 37
        · obtain ⟨ps, e, _⟩ := st₁.base.t37; rw [← h2] at e; exact absurd (Heap.lt_size e) (Nat.lt_irrefl _)
        · exact absurd (Heap.lt_size (g.keep _ o h1 h2 q)) (Nat.lt_irrefl _)
  refine hQ s₁.heap.objs.size [s₁.heap.objs.size, ax] [s₁.heap.objs.size] _ _ _ (g.trans gp) (wlk_list hne il.length) ⟨⟨_, Heap.get?_push_size _ rfl, rfl, rfl⟩, hl'.push _⟩ (fun b hb => ?_) (fun b hb => ?_) (fun p hp => ?_)
  · rw [List.mem_singleton] at hb; rw [hb]; exact ⟨hI, _, Heap.get?_push_size _ rfl⟩
  · rcases List.mem_cons.mp hb with rfl | hb
    · exact .inl (.head _)
    · rw [List.mem_singleton] at hb; rw [hb]
      exact .inr ⟨hax, fun q => hax (q ▸ st.tabs.1), fun q => hax (q ▸ st.tabs.2)⟩
  · rw [List.mem_singleton] at hp; rw [hp]
    refine i.mono fun b o e => ?_
    obtain ⟨e1, n1⟩ := hid_get.mp e
    refine hid_get.mpr ⟨Heap.get?_push_of_some _ e1, fun m => ?_⟩
    rcases List.mem_cons.mp m with m | m
    · exact absurd (Heap.lt_size e1) (by rw [m]; exact Nat.lt_irrefl _)
    · exact n1 m

section
variable {w : World} {k : Nat} {env : Env} {Γ Γ' : List (Str × D)} {O O' : Option (Str × D)} {own S : List Addr} {pn : List (Addr × Obj)} {gv : List (D × Value)} {s₀ s : Shared}

theorem mem_mid {X F S : List Addr} {a : Addr} {own : List Addr} (h : a ∈ own ++ (F ++ S)) : a ∈ own ++ (F ++ (X ++ S)) := by
  simp only [List.mem_append] at h ⊢
  rcases h with h | h | h
  · exact .inl h
  · exact .inr (.inl h)
  · exact .inr (.inr (.inr h))

/-- more is hidden: what did not stand when all was shown -/
theorem Fm.hide (F : Fm w env Γ O own S pn gv s₀ s) {s' : Shared} {X : List Addr} (g : Grow s s') (hx : ∀ a ∈ X, s.heap.get? a = none ∧ ∃ o, s'.heap.get? a = some o) : Fm w env Γ O own (X ++ S) pn gv s₀ s' := by
  have F' := F.grew g
  have up : ∀ b o, (hid (own ++ (frameAddrs env ++ S)) s.heap).get? b = some o → (hid (own ++ (frameAddrs env ++ (X ++ S))) s'.heap).get? b = some o := fun b o e => by
    have e' := hid_grow g F.st.tabs b o e
    obtain ⟨e1, n1⟩ := hid_get.mp e'
    refine hid_get.mpr ⟨e1, fun m => ?_⟩
    simp only [List.mem_append] at m n1
    rcases m with m | m | m | m
    · exact n1 (.inl m)
    · exact n1 (.inr (.inl m))
    · have := (hx b m).1; rw [(hid_get.mp e).1] at this; cases this
    · exact n1 (.inr (.inr m))
  refine ⟨F'.base0, F'.grow, ⟨F'.st.ok, F'.st.base, ⟨mem_mid F.st.tabs.1, mem_mid F.st.tabs.2⟩, fun a ha => ?_, ⟨F'.st.loc.1, F'.st.loc.2.1, mem_mid F'.st.loc.2.2⟩, fun x c hc => ⟨(F'.st.cel x c hc).1, (F'.st.cel x c hc).2.1, mem_mid (F'.st.cel x c hc).2.2⟩, ?_⟩, F'.new, F'.apart, F'.cells, ?_, F'.pin, fun p hp => (F.ghost p hp).mono up⟩
  · simp only [List.mem_append] at ha
    rcases ha with ha | ha | ha | ha
    · exact F'.st.dom a (by simp [ha])
    · exact F'.st.dom a (by simp [ha])
    · exact (hx a ha).2
    · exact F'.st.dom a (by simp [ha])
  · obtain ⟨m, n, vr⟩ := F.st.vars
    obtain ⟨m', n', vr'⟩ := F'.st.vars
    have em : m' = m := by
      obtain ⟨o, es, ep, e, r⟩ := n
      exact ns_unique n' ⟨o, es, ep, g.keep _ o F.st.loc.1 F.st.loc.2.1 e, r⟩
    subst em
    refine ⟨m', n', fun x d hx => ?_⟩
    obtain ⟨h1, v, hv, iv⟩ := vr x d hx
    refine ⟨h1, v, held_other hv (fun _ => rfl) fun c hc _ u hu => ?_, iv.mono up⟩
    obtain ⟨oc, ec, rc⟩ := hu
    have := F.st.cel x c (mem_of_lookup hc)
    exact ⟨oc, g.keep c oc this.1 this.2.1 ec, rc⟩
  · have ow := F.owned
    have ow' := F'.owned
    unfold Owned at ow ow' ⊢
    cases O with
    | none => exact ow
    | some p =>
      obtain ⟨y, dy⟩ := p
      obtain ⟨hdbg, a, h1, h2, h3, h4⟩ := ow
      obtain ⟨_, a', h1', h2', h3', h4'⟩ := ow'
      have : a' = a := by rw [h1] at h1'; exact (List.cons.inj h1').1.symm
      subst this
      have hno : ∀ o, s.heap.get? a' = some o → s'.heap.get? a' = some o := fun o e => by
        have n0 := F.new a' (by rw [h1]; simp)
        refine g.keep a' o ?_ ?_ e
        · rintro rfl; obtain ⟨ps, e', _⟩ := F.base0.t30; rw [n0] at e'; cases e'
        · rintro rfl; obtain ⟨ps, e', _⟩ := F.base0.t37; rw [n0] at e'; cases e'
      refine ⟨hdbg, a', h1, fun m => ?_, h3', ?_⟩
      · simp only [List.mem_append] at m h2
        rcases m with m | m | m
        · exact h2 (.inl m)
        · have q := (hx a' m).1
          cases dy with
          | lst ds => obtain ⟨vs, ⟨o, e, _⟩, _⟩ := h4; rw [q] at e; cases e
          | dct ks ds => obtain ⟨vs, ⟨o, es, ep, e, _⟩, _⟩ := h4; rw [q] at e; cases e
          | _ => exact h4.elim
        · exact h2 (.inr m)
      · cases dy with
        | lst ds => obtain ⟨vs, ⟨o, e, r⟩, i⟩ := h4; exact ⟨vs, ⟨o, hno o e, r⟩, i.mono up⟩
        | dct ks ds => obtain ⟨vs, ⟨o, es, ep, e, r⟩, n, i⟩ := h4; exact ⟨vs, ⟨o, es, ep, hno o e, r⟩, n, i.mono up⟩
        | _ => exact h4.elim

theorem Fm.unpin {pn' : List (Addr × Obj)} (F : Fm w env Γ O own S (pn' ++ pn) gv s₀ s) : Fm w env Γ O own S pn gv s₀ s :=
  ⟨F.base0, F.grow, F.st, F.new, F.apart, F.cells, F.owned, fun p hp => F.pin p (List.mem_append_right _ hp), F.ghost⟩
theorem Fm.repin {pn' : List (Addr × Obj)} (F : Fm w env Γ O own S pn gv s₀ s) (h : ∀ p ∈ pn', s.heap.get? p.1 = some p.2 ∧ p.1 ∉ own ++ frameAddrs env ∧ p.1 ≠ 30 ∧ p.1 ≠ 37) : Fm w env Γ O own S (pn' ++ pn) gv s₀ s :=
  ⟨F.base0, F.grow, F.st, F.new, F.apart, F.cells, F.owned, fun p hp => (List.mem_append.mp hp).elim (h p) (F.pin p), F.ghost⟩
theorem Fm.unghost {gv' : List (D × Value)} (F : Fm w env Γ O own S pn (gv' ++ gv) s₀ s) : Fm w env Γ O own S pn gv s₀ s :=
  ⟨F.base0, F.grow, F.st, F.new, F.apart, F.cells, F.owned, F.pin, fun p hp => F.ghost p (List.mem_append_right _ hp)⟩
theorem Fm.reghost {gv' : List (D × Value)} (F : Fm w env Γ O own S pn gv s₀ s) (h : ∀ p ∈ gv', Is w (hid (own ++ (frameAddrs env ++ S)) s.heap) p.1 p.2) : Fm w env Γ O own S pn (gv' ++ gv) s₀ s :=
  ⟨F.base0, F.grow, F.st, F.new, F.apart, F.cells, F.owned, F.pin, fun p hp => (List.mem_append.mp hp).elim (h p) (F.ghost p)⟩

theorem Grow.but {wr : List Addr} {h' : Heap} {tk : Nat} (g : Grow s₀ s) (hn : ∀ b ∈ wr, s₀.heap.get? b = none) (hk : ∀ b o, b ∉ wr → s.heap.get? b = some o → h'.get? b = some o) (hc : ∀ b ∈ wr, NoCode s.heap b) : Grow s₀ { s with heap := h', toks := tk } := by
  obtain ⟨h1, t1, rfl⟩ := g.same
  refine ⟨⟨h', tk, rfl⟩, fun b o e1 e2 e => hk b o (fun m => by rw [hn b m] at e; cases e) (g.keep b o e1 e2 e), fun b hb e => ?_⟩
  refine (g.tab b hb e).but (P := fun x => x ∈ wr) (fun m => ?_) hc hk
  obtain ⟨ps, e, _⟩ := e
  rw [hn b m] at e; cases e

/-- an iterator has turned: S' is what stays hidden -/
theorem Fm.iter {S S' wr : List Addr} {h' : Heap} {tk : Nat} (F : Fm w env Γ O own S pn gv s₀ s) (hS : ∀ a ∈ S', a ∈ S) (hS2 : ∀ a ∈ S, a ∉ wr → a ∈ S') (hwS : ∀ a ∈ wr, a ∈ S) (hk : ∀ b o, b ∉ wr → s.heap.get? b = some o → h'.get? b = some o) (hex : ∀ b ∈ S', b ∈ wr → ∃ o, h'.get? b = some o)
    (hwr : ∀ b ∈ wr, b ∉ own ++ frameAddrs env ∧ s₀.heap.get? b = none ∧ ∀ p ∈ pn, p.1 ≠ b) (hnc : ∀ b ∈ wr, NoCode s.heap b) : Fm w env Γ O own S' pn gv s₀ { s with heap := h', toks := tk } := by
  have g : Grow s₀ { s with heap := h', toks := tk } := F.grow.but (fun b hb => (hwr b hb).2.1) hk hnc
  have ne30 : ∀ b ∈ wr, b ≠ 30 ∧ b ≠ 37 := fun b hb => by
    have n0 := (hwr b hb).2.1
    refine ⟨?_, ?_⟩
    · rintro rfl; obtain ⟨ps, e, _⟩ := F.base0.t30; rw [n0] at e; cases e
    · rintro rfl; obtain ⟨ps, e, _⟩ := F.base0.t37; rw [n0] at e; cases e
  have sub : ∀ a ∈ own ++ (frameAddrs env ++ S'), a ∈ own ++ (frameAddrs env ++ S) := fun a h => by
    simp only [List.mem_append] at h ⊢
    rcases h with h | h | h
    · exact .inl h
    · exact .inr (.inl h)
    · exact .inr (.inr (hS a h))
  have up : ∀ b o, (hid (own ++ (frameAddrs env ++ S)) s.heap).get? b = some o → (hid (own ++ (frameAddrs env ++ S')) h').get? b = some o := fun b o e => by
    obtain ⟨e1, n1⟩ := hid_get.mp e
    exact hid_get.mpr ⟨hk b o (fun m => n1 (by simp [hwS b m])) e1, fun m => n1 (sub b m)⟩
  have inS : ∀ b, b ∉ wr → b ∈ own ++ (frameAddrs env ++ S) → b ∈ own ++ (frameAddrs env ++ S') := fun b hb h => by
    simp only [List.mem_append] at h ⊢
    rcases h with h | h | h
    · exact .inl h
    · exact .inr (.inl h)
    · exact .inr (.inr (hS2 b h hb))
  have nl : env.locals ∉ wr := fun m => (hwr _ m).1 (List.mem_append_right _ mem_frame_local)
  have nc : ∀ x c, (x, c) ∈ env.cells → c ∉ wr := fun x c hc m => (hwr _ m).1 (List.mem_append_right _ (mem_frame_cell hc))
  have kns : ∀ m, s.heap.Ns env.locals m → h'.Ns env.locals m := fun m ⟨o, es, ep, e, r⟩ => ⟨o, es, ep, hk _ o nl e, r⟩
  have kcell : ∀ x c u, (x, c) ∈ env.cells → s.heap.IsCell c u → h'.IsCell c u := fun x c u hc ⟨o, e, r⟩ => ⟨o, hk c o (nc x c hc) e, r⟩
  refine ⟨F.base0, g, ⟨F.st.ok, F.base0.grow g, ⟨inS 30 (fun m => (ne30 30 m).1 rfl) F.st.tabs.1, inS 37 (fun m => (ne30 37 m).2 rfl) F.st.tabs.2⟩, fun a ha => ?_, ⟨F.st.loc.1, F.st.loc.2.1, inS _ nl F.st.loc.2.2⟩, fun x c hc => ⟨(F.st.cel x c hc).1, (F.st.cel x c hc).2.1, inS _ (nc x c hc) (F.st.cel x c hc).2.2⟩, ?_⟩, F.new, F.apart, fun x c hc => ?_, ?_, fun p hp => ⟨hk p.1 p.2 (fun m => (hwr _ m).2.2 p hp rfl) (F.pin p hp).1, (F.pin p hp).2⟩, fun p hp => (F.ghost p hp).mono up⟩
  · by_cases hm : a ∈ wr
    · have : a ∈ S' := by
        simp only [List.mem_append] at ha
        rcases ha with ha | ha | ha
        · exact absurd (List.mem_append_left _ ha) (hwr a hm).1
        · exact absurd (List.mem_append_right _ ha) (hwr a hm).1
        · exact ha
      exact hex a this hm
    · obtain ⟨o, e⟩ := F.st.dom a (sub a ha)
      exact ⟨o, hk a o hm e⟩
  · obtain ⟨m, n, vr⟩ := F.st.vars
    refine ⟨m, kns m n, fun x d hx => ?_⟩
    obtain ⟨h1, v, hv, iv⟩ := vr x d hx
    exact ⟨h1, v, held_other hv (fun _ => rfl) fun c hc _ u hu => kcell x c u (mem_of_lookup hc) hu, iv.mono up⟩
  · obtain ⟨v, hv⟩ := F.cells x c hc
    exact ⟨v, kcell x c v hc hv⟩
  · have ow := F.owned
    unfold Owned at ow ⊢
    cases O with
    | none => exact ow
    | some p =>
      obtain ⟨y, dy⟩ := p
      obtain ⟨hdbg, a, h1, h2, ⟨m, n, hv⟩, h4⟩ := ow
      have ha : a ∉ wr := fun m => (hwr a m).1 (List.mem_append_left _ (by rw [h1]; exact .head _))
      refine ⟨hdbg, a, h1, fun q => h2 ((List.mem_append.mp q).elim (fun z => List.mem_append_left _ z) fun z => List.mem_append_right _ (hS a z)), ⟨m, kns m n, held_other hv (fun _ => rfl) fun c hc _ u hu => kcell y c u (mem_of_lookup hc) hu⟩, ?_⟩
      cases dy with
      | lst ds => obtain ⟨vs, ⟨o, e, r⟩, i⟩ := h4; exact ⟨vs, ⟨o, hk a o ha e, r⟩, i.mono up⟩
      | dct ks ds => obtain ⟨vs, ⟨o, es, ep, e, r⟩, n, i⟩ := h4; exact ⟨vs, ⟨o, es, ep, hk a o ha e, r⟩, n, i.mono up⟩
      | _ => exact h4.elim
end

inductive LoopF (w : World) (k : Nat) (env : Env) (target : Expr) (body : List Stmt) : List D → List (Str × D) → Option (Str × D) → Out → Prop where
  | nil (Γ : List (Str × D)) (O : Option (Str × D)) : LoopF w k env target body [] Γ O (.next Γ O)
  | turn {d : D} {ds : List D} {Γ : List (Str × D)} {O : Option (Str × D)} {bs Γ' : List (Str × D)} {O' : Option (Str × D)} {out : Out} : bindsI target d = some bs → (∀ p ∈ bs, Stores env O p.1) → EXS w k env (bs ++ Γ) O body (.next Γ' O') → LoopF w k env target body ds Γ' O' out → LoopF w k env target body (d :: ds) Γ O out
  | ret {d : D} {ds : List D} {Γ : List (Str × D)} {O : Option (Str × D)} {bs : List (Str × D)} {r : D} : bindsI target d = some bs → (∀ p ∈ bs, Stores env O p.1) → EXS w k env (bs ++ Γ) O body (.ret r) → LoopF w k env target body (d :: ds) Γ O (.ret r)

theorem ex_for {w : World} {k : Nat} {env : Env} {Γ : List (Str × D)} {O : Option (Str × D)} {target iter : Expr} {body : List Stmt} {pos : Pos} {ds : List D} {out : Out} (hi : IE w k env Γ iter ds) (l : LoopF w k env target body ds Γ O out)
    (hf : ∀ x, foldedSetIterable iter env x = pure x := by intro _; rfl) : EX w k env Γ O (.For target iter body [] pos) out := by
  intro A own S pn gv s₀ s Q E r F hQ
  rw [arm_exec_For]
  refine wpAny_bind (wpAny_standAt (wpAny_bind ?_))
  refine wpAny_mono (hi _ A s (fun it s₂ => wpAny (model PG w) A (runOwn (.forLoop target it body [] env) env) Q E s₂) E r F.st ?_) (fun x s₁ h => wpAny_bind (wpAny_of_eq (hf x) (wpAny_bind (wpAny_standAt (wpAny_bind (wpAny_holding h)))))) fun _ _ h => h
  intro I fp wr gs W s' g wk w0 hwr hfp hgs
  have F1 := F.hide (X := wr) g hwr
  have F2 := F1.reghost (gv' := gs) fun p hp => (hgs p hp).hid_mono fun a ha => by
    simp only [List.mem_append] at ha ⊢
    rcases ha with ha | ha | ha | ha
    · exact .inr (.inl ha)
    · exact .inr (.inr (.inl ha))
    · exact .inl ha
    · exact .inr (.inr (.inr ha))
  have wrNew : ∀ b ∈ wr, s₀.heap.get? b = none := fun b hb => by
    cases q : s₀.heap.get? b with
    | none => rfl
    | some o =>
      have h1 := (hwr b hb).1
      by_cases e1 : b = 30
      · subst e1; obtain ⟨ps, e, _⟩ := F.st.base.t30; rw [h1] at e; cases e
      · by_cases e2 : b = 37
        · subst e2; obtain ⟨ps, e, _⟩ := F.st.base.t37; rw [h1] at e; cases e
        · rw [F.grow.keep b o e1 e2 q] at h1; cases h1
  have wrPin : ∀ b ∈ wr, ∀ p ∈ pn, p.1 ≠ b := fun b hb p hp e => by
    have h1 := (hwr b hb).1; rw [← e, (F.pin p hp).1] at h1; cases h1
  have wrS : ∀ b ∈ wr, b ∉ S := fun b hb m => by
    obtain ⟨o, e⟩ := F.st.dom b (List.mem_append_right _ (List.mem_append_right _ m))
    rw [(hwr b hb).1] at e; cases e
  have fp0 : ∀ b ∈ fp, b ∉ own ++ frameAddrs env ∧ b ≠ 30 ∧ b ≠ 37 := fun b hb => by
    rcases hfp b hb with h | ⟨h, h2⟩
    · have h1 := (hwr b h).1
      refine ⟨fun m => ?_, ?_, ?_⟩
      · obtain ⟨o, e⟩ := F.st.dom b (mem_turn m); rw [h1] at e; cases e
      · rintro rfl; obtain ⟨ps, e, _⟩ := F.st.base.t30; rw [h1] at e; cases e
      · rintro rfl; obtain ⟨ps, e, _⟩ := F.st.base.t37; rw [h1] at e; cases e
    · exact ⟨fun m => h (mem_turn m), h2⟩
  refine wpAny_runOwn ?_
  refine codeAny_forLoop_any (fun n st => ∃ i Γ O own, n = ds.length + 1 - i ∧ i ≤ ds.length ∧ W i st.heap ∧ Fm w env Γ O own (wr ++ S) pn (gs ++ gv) s₀ st ∧ (∀ b ∈ fp, b ∉ own ++ frameAddrs env ∧ b ≠ 30 ∧ b ≠ 37) ∧ LoopF w k env target body (ds.drop i) Γ O out) (fun n st hI => ?_) (ds.length + 1) ⟨0, Γ, O, own, rfl, Nat.zero_le _, w0, F2, fp0, l⟩
  clear F F1 F2 fp0 l w0 g
  obtain ⟨i, Γ, O, own, rfl, hi', Wi, F, fpo, l⟩ := hI
  have tbS := F.st.tabs
  cases hdr : ds.drop i with
  | nil =>
    have hlen : i = ds.length := Nat.le_antisymm hi' (by simpa using hdr)
    subst hlen
    rw [hdr] at l
    cases l
    refine wk.done r F.st.base Wi fun h' tk hk => wpAny_execs_nil (hQ own _ ?_)
    refine (F.iter (S' := S) (wr := wr) (fun a h => List.mem_append_right _ h) (fun a h n => (List.mem_append.mp h).elim (fun z => absurd z n) id) (fun a h => List.mem_append_left _ h) hk (fun b hb hb' => ?_) (fun b hb => ⟨(fpo b (wk.sub b hb)).1, wrNew b hb, wrPin b hb⟩) (wk.noCode _ _ Wi)).unghost
    exact absurd hb (wrS b hb')
  | cons d ds' =>
    have hd : ds[i]? = some d := by
      have : (ds.drop i)[0]? = some d := by rw [hdr]; rfl
      simpa using this
    have hlt : i < ds.length := (List.getElem?_eq_some_iff.mp hd).1
    have hdr' : ds.drop (i + 1) = ds' := by
      have := congrArg List.tail hdr
      simpa using this
    have hbd : bindsI target d ≠ none := by
      rw [hdr] at l
      cases l with
      | turn hb _ _ _ => rw [hb]; exact fun h => nomatch h
      | ret hb _ _ => rw [hb]; exact fun h => nomatch h
    refine wpAny_mono (wk.item (t := target) r F.st.base F.st.tabs F.st.dom (fun b hb => List.mem_append_right _ (List.mem_append_right _ (List.mem_append_left _ hb))) (fun p hp => F.ghost p (List.mem_append_left _ hp)) hd hbd Wi (Q := fun v s₂ => wpAny (model PG w) (A.mark none) (assign target env v) (fun _ s₂ => wpAny (model PG w) (A.mark none) (execs body env) (fun f s₃ => match f with
            | .next | .cont => ∃ m, m < ds.length + 1 - i ∧ ∃ i Γ O own, m = ds.length + 1 - i ∧ i ≤ ds.length ∧ W i s₃.heap ∧ Fm w env Γ O own (wr ++ S) pn (gs ++ gv) s₀ s₃ ∧ (∀ b ∈ fp, b ∉ own ++ frameAddrs env ∧ b ≠ 30 ∧ b ≠ 37) ∧ LoopF w k env target body (ds.drop i) Γ O out
            | .brk => Q .next s₃
            | .ret v => Q (.ret v) s₃) (notedBy (model PG w) (A.mark none) env fun e s' => cameBackBy (model PG w) A env E e s') s₂) (notedBy (model PG w) (A.mark none) env fun e s' => cameBackBy (model PG w) A env E e s') s₂) fun v h' tk hk hex W' iv => ?_) (fun r s₁ q => ?_) fun _ _ q => q
    · have F1 : Fm w env Γ O own (wr ++ S) pn (gs ++ gv) s₀ { st with heap := h', toks := tk } := F.iter (S' := wr ++ S) (wr := wr) (fun a h => h) (fun a h _ => h) (fun a h => List.mem_append_left _ h) hk (fun b _ hb => hex b hb) (fun b hb => ⟨(fpo b (wk.sub b hb)).1, wrNew b hb, wrPin b hb⟩) (wk.noCode _ _ Wi)
      have F2 := F1.repin (pn' := fp.filterMap fun b => (h'.get? b).map fun o => (b, o)) fun p hp => by
        obtain ⟨b, hb, e⟩ := List.mem_filterMap.mp hp
        obtain ⟨o, e1, rfl⟩ := Option.map_eq_some_iff.mp e
        exact ⟨e1, fpo b hb⟩
      rw [hdr] at l
      cases l with
      | turn hb hok hbody hl =>
        refine wp_assignI sto_fm r.1 hb hok F2 iv fun s₂ F3 => hbody _ own _ _ _ s₀ s₂ _ _ r F3 fun own' s₃ F4 => ?_
        have pins : ∀ b ∈ fp, ∀ o, h'.get? b = some o → s₃.heap.get? b = some o ∧ b ∉ own' ++ frameAddrs env ∧ b ≠ 30 ∧ b ≠ 37 := fun b hb o e =>
          F4.pin (b, o) (List.mem_append_left _ (List.mem_filterMap.mpr ⟨b, hb, by rw [e]; rfl⟩))
        refine ⟨ds.length + 1 - (i + 1), by omega, i + 1, _, _, own', rfl, hlt, wk.frame _ _ _ W' fun b hb o e => (pins b hb o e).1, F4.unpin, fun b hb => ?_, hdr' ▸ hl⟩
        obtain ⟨o, e⟩ := wk.ex _ _ W' b hb
        exact (pins b hb o e).2
      | ret hb hok hbody =>
        exact wp_assignI sto_fm r.1 hb hok F2 iv fun s₂ F3 => hbody _ own _ _ _ s₀ s₂ _ _ r F3 fun v s₃ g' i' => hQ v s₃ g' (i'.hid_mono fun a h => List.mem_append_right _ h)
    · obtain ⟨v, rfl, q⟩ := q
      exact q _

/-- inside a comprehension: T turns (the block's names and cells, the accumulator, the iterators) -/
structure Cm (w : World) (env : Env) (H T : List Addr) (pn : List (Addr × Obj)) (gv : List (D × Value)) (s₀ : Shared) (Γ : List (Str × D)) (s : Shared) : Prop where
  base0 : Base w s₀.heap
  grow : Grow s₀ s
  st : St w env Γ H s
  new : ∀ a ∈ T, s₀.heap.get? a = none
  subT : ∀ a ∈ T, a ∈ H
  loc : env.locals ∈ T
  apart : env.locals ∉ env.cells.map (·.2) ∧ ∀ x c, (x, c) ∈ env.cells → c ∈ T → ∀ y c', (y, c') ∈ env.cells → c' = c → y = x
  cells : ∀ x c, (x, c) ∈ env.cells → c ∈ T → ∃ v, s.heap.IsCell c v
  pin : ∀ p ∈ pn, s.heap.get? p.1 = some p.2 ∧ p.1 ∉ frameAddrs env ∧ p.1 ≠ 30 ∧ p.1 ≠ 37
  ghost : ∀ p ∈ gv, Is w (hid H s.heap) p.1 p.2

section
variable {w : World} {k : Nat} {env : Env} {Γ Γ' : List (Str × D)} {H T : List Addr} {pn : List (Addr × Obj)} {gv : List (D × Value)} {s₀ s : Shared}

theorem Cm.grew (F : Cm w env H T pn gv s₀ Γ s) {s' : Shared} (g : Grow s s') : Cm w env H T pn gv s₀ Γ s' := by
  refine ⟨F.base0, F.grow.trans g, F.st.grow g, F.new, F.subT, F.loc, F.apart, fun x c hc hcT => ?_, fun p hp => ⟨g.keep p.1 p.2 (F.pin p hp).2.2.1 (F.pin p hp).2.2.2 (F.pin p hp).1, (F.pin p hp).2⟩, fun p hp => (F.ghost p hp).grow g F.st.tabs⟩
  obtain ⟨v, o, e, r⟩ := F.cells x c hc hcT
  have := F.st.cel x c hc
  exact ⟨v, o, g.keep c o this.1 this.2.1 e, r⟩

/-- addresses of T have turned, the block's names and cells not among them -/
theorem Cm.turned (F : Cm w env H T pn gv s₀ Γ s) {wr : List Addr} {h' : Heap} {tk : Nat} (hw : ∀ a ∈ wr, a ∈ T ∧ a ∉ frameAddrs env ∧ ∀ p ∈ pn, p.1 ≠ a) (hk : ∀ b o, b ∉ wr → s.heap.get? b = some o → h'.get? b = some o) (hex : ∀ b ∈ wr, ∃ o, h'.get? b = some o) (hnc : ∀ b ∈ wr, NoCode s.heap b) :
    Cm w env H T pn gv s₀ Γ { s with heap := h', toks := tk } := by
  have g : Grow s₀ { s with heap := h', toks := tk } := F.grow.but (fun b hb => F.new b (hw b hb).1) hk hnc
  have up : ∀ b o, (hid H s.heap).get? b = some o → (hid H h').get? b = some o := fun b o e => by
    obtain ⟨e1, n1⟩ := hid_get.mp e
    exact hid_get.mpr ⟨hk b o (fun m => n1 (F.subT b (hw b m).1)) e1, n1⟩
  have nl : env.locals ∉ wr := fun m => (hw _ m).2.1 mem_frame_local
  have nc : ∀ x c, (x, c) ∈ env.cells → c ∉ wr := fun x c hc m => (hw _ m).2.1 (mem_frame_cell hc)
  refine ⟨F.base0, g, ⟨F.st.ok, F.base0.grow g, F.st.tabs, fun a ha => ?_, F.st.loc, F.st.cel, ?_⟩, F.new, F.subT, F.loc, F.apart, fun x c hc hcT => ?_, fun p hp => ⟨hk p.1 p.2 (fun m => (hw _ m).2.2 p hp rfl) (F.pin p hp).1, (F.pin p hp).2⟩, fun p hp => (F.ghost p hp).mono up⟩
  · by_cases hm : a ∈ wr
    · exact hex a hm
    · obtain ⟨o, e⟩ := F.st.dom a ha; exact ⟨o, hk a o hm e⟩
  · obtain ⟨m, ⟨o, es, ep, e, r⟩, vr⟩ := F.st.vars
    refine ⟨m, ⟨o, es, ep, hk _ o nl e, r⟩, fun x d hx => ?_⟩
    obtain ⟨h1, v, hv, iv⟩ := vr x d hx
    exact ⟨h1, v, held_other hv (fun _ => rfl) fun c hc _ u ⟨oc, ec, rc⟩ => ⟨oc, hk c oc (nc x c (mem_of_lookup hc)) ec, rc⟩, iv.mono up⟩
  · obtain ⟨v, o, e, r⟩ := F.cells x c hc hcT
    exact ⟨v, o, hk c o (nc x c hc) e, r⟩

def CStores (env : Env) (T : List Addr) (x : Str) : Prop :=
  (env.kindOf x = some .local ∨ (env.kindOf x = some .cell ∧ (∃ c, env.cells.lookup x = some c ∧ c ∈ T) ∧ (x == (Str.ofString "__classdict__")) = false)) ∧ (x == (Str.ofString "__debug__")) = false

theorem sto_cm : Sto w env H (CStores env T) (fun Γ s => Cm w env H T pn gv s₀ Γ s) := by
  refine ⟨fun F => F.st, fun F g => F.grew g, fun {Γ s x d v A Q E} hx F i h => ?_⟩
  obtain ⟨hx, hdbg⟩ := hx
  obtain ⟨m, n, vr⟩ := F.st.vars
  have look : ∀ y d', ((x, d) :: Γ).lookup y = some d' → (y = x ∧ d' = d) ∨ (y ≠ x ∧ Γ.lookup y = some d') := fun y d' e => by
    rw [List.lookup_cons] at e
    cases hb : y == x with
    | true => rw [hb] at e; cases e; exact .inl ⟨beq_iff_eq.mp hb, rfl⟩
    | false => rw [hb] at e; exact .inr ⟨fun q => (by rw [q, beq_self_eq_true] at hb; cases hb), e⟩
  rcases hx with hl | ⟨hl, ⟨c, hc, hcT⟩, hcd⟩
  · have hLH := F.subT _ F.loc
    refine wpAny_storeName_local hl n (fun h' hn' hs' => h _ ?_ (hid_same hs' hLH)) (by rw [F.st.ok.kind]; rfl)
    have g : Grow s₀ { s with heap := h', toks := s.toks + 1 } := F.grow.turn hs' (F.new _ F.loc) F.base0 (noCode_ns n)
    refine ⟨F.base0, g, ⟨F.st.ok, F.base0.grow g, F.st.tabs, fun a ha => ?_, F.st.loc, F.st.cel, _, hn', fun y d' hy => ?_⟩, F.new, F.subT, F.loc, F.apart, fun y c hc hcT => ?_, fun p hp => ⟨(hs'.2 p.1 fun q => (F.pin p hp).2.1 (q ▸ mem_frame_local)).trans (F.pin p hp).1, (F.pin p hp).2⟩, fun p hp => (F.ghost p hp).mono (hid_same hs' hLH)⟩
    · by_cases e : a = env.locals
      · subst e; obtain ⟨o, _, _, e, _⟩ := hn'; exact ⟨o, e⟩
      · obtain ⟨o, e'⟩ := F.st.dom a ha; exact ⟨o, (hs'.2 a e).trans e'⟩
    · rcases look y d' hy with ⟨rfl, rfl⟩ | ⟨hne, hy'⟩
      · exact ⟨hdbg, v, .inl ⟨hl, by simp⟩, i.mono (hid_same hs' hLH)⟩
      · obtain ⟨h1, u, hu, iu⟩ := vr y d' hy'
        refine ⟨h1, u, held_other hu (fun _ => by simp [hne]) fun c hc hnl q hq => hq.sameBut hs' fun e => ?_, iu.mono (hid_same hs' hLH)⟩
        exact F.apart.1 (e ▸ List.mem_map.mpr ⟨_, mem_of_lookup hc, rfl⟩)
    · obtain ⟨q, hq⟩ := F.cells y c hc hcT
      exact ⟨q, hq.sameBut hs' fun e => F.apart.1 (e ▸ List.mem_map.mpr ⟨_, hc, rfl⟩)⟩
  · have hcm := mem_of_lookup hc
    have hcH := F.subT _ hcT
    obtain ⟨q₀, hq₀⟩ := F.cells x c hcm hcT
    have hne : c ≠ env.locals := fun e => F.apart.1 (e ▸ List.mem_map.mpr ⟨_, hcm, rfl⟩)
    have uniq : ∀ y c', env.cells.lookup y = some c' → c' = c → y = x := fun y c' hy e => F.apart.2 x c hcm hcT y c' (mem_of_lookup hy) e
    refine wpAny_storeName_cell F.st.ok.kind hl hc hq₀ fun h' hc' hs' => h _ ?_ (hid_same hs' hcH)
    have g : Grow s₀ { s with heap := h' } := F.grow.turn (tk := s.toks) hs' (F.new _ hcT) F.base0 (noCode_cell hq₀)
    refine ⟨F.base0, g, ⟨F.st.ok, F.base0.grow g, F.st.tabs, fun a ha => ?_, F.st.loc, F.st.cel, m, n.sameBut hs' hne.symm, fun y d' hy => ?_⟩, F.new, F.subT, F.loc, F.apart, fun y c' hy hcT' => ?_, fun p hp => ⟨(hs'.2 p.1 fun q => (F.pin p hp).2.1 (q ▸ mem_frame_cell hcm)).trans (F.pin p hp).1, (F.pin p hp).2⟩, fun p hp => (F.ghost p hp).mono (hid_same hs' hcH)⟩
    · by_cases e : a = c
      · subst e; obtain ⟨o, e, _⟩ := hc'; exact ⟨o, e⟩
      · obtain ⟨o, e'⟩ := F.st.dom a ha; exact ⟨o, (hs'.2 a e).trans e'⟩
    · rcases look y d' hy with ⟨rfl, rfl⟩ | ⟨hyx, hy'⟩
      · exact ⟨hdbg, v, .inr ⟨.inl hl, hcd, c, hc, hc'⟩, i.mono (hid_same hs' hcH)⟩
      · obtain ⟨h1, u, hu, iu⟩ := vr y d' hy'
        exact ⟨h1, u, held_other hu (fun _ => rfl) fun c' hc1 _ q hq => hq.sameBut hs' fun e => hyx (uniq y c' hc1 e), iu.mono (hid_same hs' hcH)⟩
    · by_cases e : c' = c
      · subst e; exact ⟨_, hc'⟩
      · obtain ⟨q, hq⟩ := F.cells y c' hy hcT'
        exact ⟨q, hq.sameBut hs' e⟩

theorem Cm.weaken (F : Cm w env H T pn gv s₀ Γ s) (hs : ∀ x d, Γ'.lookup x = some d → Γ.lookup x = some d) : Cm w env H T pn gv s₀ Γ' s := by
  obtain ⟨m, n, vr⟩ := F.st.vars
  exact ⟨F.base0, F.grow, ⟨F.st.ok, F.st.base, F.st.tabs, F.st.dom, F.st.loc, F.st.cel, m, n, fun x d hx => vr x d (hs x d hx)⟩, F.new, F.subT, F.loc, F.apart, F.cells, F.pin, F.ghost⟩
theorem Cm.unpin {pn' : List (Addr × Obj)} (F : Cm w env H T (pn' ++ pn) gv s₀ Γ s) : Cm w env H T pn gv s₀ Γ s :=
  ⟨F.base0, F.grow, F.st, F.new, F.subT, F.loc, F.apart, F.cells, fun p hp => F.pin p (List.mem_append_right _ hp), F.ghost⟩
theorem Cm.repin {pn' : List (Addr × Obj)} (F : Cm w env H T pn gv s₀ Γ s) (h : ∀ p ∈ pn', s.heap.get? p.1 = some p.2 ∧ p.1 ∉ frameAddrs env ∧ p.1 ≠ 30 ∧ p.1 ≠ 37) : Cm w env H T (pn' ++ pn) gv s₀ Γ s :=
  ⟨F.base0, F.grow, F.st, F.new, F.subT, F.loc, F.apart, F.cells, fun p hp => (List.mem_append.mp hp).elim (h p) (F.pin p), F.ghost⟩
theorem Cm.unghost {gv' : List (D × Value)} (F : Cm w env H T pn (gv' ++ gv) s₀ Γ s) : Cm w env H T pn gv s₀ Γ s :=
  ⟨F.base0, F.grow, F.st, F.new, F.subT, F.loc, F.apart, F.cells, F.pin, fun p hp => F.ghost p (List.mem_append_right _ hp)⟩
theorem Cm.reghost {gv' : List (D × Value)} (F : Cm w env H T pn gv s₀ Γ s) (h : ∀ p ∈ gv', Is w (hid H s.heap) p.1 p.2) : Cm w env H T pn (gv' ++ gv) s₀ Γ s :=
  ⟨F.base0, F.grow, F.st, F.new, F.subT, F.loc, F.apart, F.cells, F.pin, fun p hp => (List.mem_append.mp hp).elim (h p) (F.ghost p)⟩

/-- an iterator has ended: it is hidden no more -/
theorem Cm.drop (F : Cm w env H T pn gv s₀ Γ s) {H' T' wr : List Addr} {h' : Heap} {tk : Nat} (hw : ∀ a ∈ wr, a ∈ T ∧ a ∉ frameAddrs env ∧ ∀ p ∈ pn, p.1 ≠ a) (hk : ∀ b o, b ∉ wr → s.heap.get? b = some o → h'.get? b = some o)
    (hH1 : ∀ a ∈ H', a ∈ H ∧ a ∉ wr) (hH2 : ∀ a ∈ H, a ∉ wr → a ∈ H') (hT1 : ∀ a ∈ T', a ∈ T ∧ a ∉ wr) (hT2 : ∀ a ∈ T, a ∉ wr → a ∈ T') (hnc : ∀ b ∈ wr, NoCode s.heap b) : Cm w env H' T' pn gv s₀ Γ { s with heap := h', toks := tk } := by
  have g : Grow s₀ { s with heap := h', toks := tk } := F.grow.but (fun b hb => F.new b (hw b hb).1) hk hnc
  have up : ∀ b o, (hid H s.heap).get? b = some o → (hid H' h').get? b = some o := fun b o e => by
    obtain ⟨e1, n1⟩ := hid_get.mp e
    exact hid_get.mpr ⟨hk b o (fun m => n1 (F.subT b (hw b m).1)) e1, fun m => n1 (hH1 b m).1⟩
  have nl : env.locals ∉ wr := fun m => (hw _ m).2.1 mem_frame_local
  have nc : ∀ x c, (x, c) ∈ env.cells → c ∉ wr := fun x c hc m => (hw _ m).2.1 (mem_frame_cell hc)
  have n30 : ∀ b, b = 30 ∨ b = 37 → b ∉ wr := fun b hb m => by
    have n0 := F.new b (hw b m).1
    rcases hb with rfl | rfl
    · obtain ⟨ps, e, _⟩ := F.base0.t30; rw [n0] at e; cases e
    · obtain ⟨ps, e, _⟩ := F.base0.t37; rw [n0] at e; cases e
  refine ⟨F.base0, g, ⟨F.st.ok, F.base0.grow g, ⟨hH2 _ F.st.tabs.1 (n30 _ (.inl rfl)), hH2 _ F.st.tabs.2 (n30 _ (.inr rfl))⟩, fun a ha => ?_, ⟨F.st.loc.1, F.st.loc.2.1, hH2 _ F.st.loc.2.2 nl⟩, fun x c hc => ⟨(F.st.cel x c hc).1, (F.st.cel x c hc).2.1, hH2 _ (F.st.cel x c hc).2.2 (nc x c hc)⟩, ?_⟩, fun a ha => F.new a (hT1 a ha).1, fun a ha => hH2 a (F.subT a (hT1 a ha).1) (hT1 a ha).2, hT2 _ F.loc nl, ⟨F.apart.1, fun x c hc hcT y c' => F.apart.2 x c hc (hT1 c hcT).1 y c'⟩, fun x c hc hcT => ?_, fun p hp => ⟨hk p.1 p.2 (fun m => (hw _ m).2.2 p hp rfl) (F.pin p hp).1, (F.pin p hp).2⟩, fun p hp => (F.ghost p hp).mono up⟩
  · obtain ⟨o, e⟩ := F.st.dom a (hH1 a ha).1; exact ⟨o, hk a o (hH1 a ha).2 e⟩
  · obtain ⟨m, ⟨o, es, ep, e, r⟩, vr⟩ := F.st.vars
    refine ⟨m, ⟨o, es, ep, hk _ o nl e, r⟩, fun x d hx => ?_⟩
    obtain ⟨h1, v, hv, iv⟩ := vr x d hx
    exact ⟨h1, v, held_other hv (fun _ => rfl) fun c hc _ u ⟨oc, ec, rc⟩ => ⟨oc, hk c oc (nc x c (mem_of_lookup hc)) ec, rc⟩, iv.mono up⟩
  · obtain ⟨v, o, e, r⟩ := F.cells x c hc (hT1 c hcT).1
    exact ⟨v, o, hk c o (nc x c hc) e, r⟩
theorem isL_zip {h : Heap} : ∀ {ds : List D} {vs : List Value}, IsL w h ds vs ↔ vs.length = ds.length ∧ ∀ p ∈ ds.zip vs, Is w h p.1 p.2
  | [], vs => by rw [isL_nil]; constructor
                 · rintro rfl; exact ⟨rfl, fun p hp => by simp at hp⟩
                 · intro h; exact List.length_eq_zero_iff.mp h.1
  | d :: ds, vs => by
    rw [isL_cons]
    constructor
    · rintro ⟨v, r, rfl, a, z⟩
      have := isL_zip.mp z
      refine ⟨by rw [List.length_cons, List.length_cons, this.1], fun p hp => ?_⟩
      rw [List.zip_cons_cons] at hp
      rcases List.mem_cons.mp hp with rfl | hp
      · exact a
      · exact this.2 p hp
    · rintro ⟨h1, h2⟩
      cases vs with
      | nil => cases h1
      | cons v r =>
        refine ⟨v, r, rfl, h2 (d, v) (by rw [List.zip_cons_cons]; exact .head _), isL_zip.mpr ⟨by simpa using h1, fun p hp => h2 p (by rw [List.zip_cons_cons]; exact .tail _ hp)⟩⟩
end

section
variable {w : World} {A : Around} {E : Value → Shared → Prop} {R : Result → Shared → Prop} {s : Shared}
theorem compTurn_last {elt target iter : Expr} {ifs : List Expr} {gens : List Comprehension} {depth : Nat} {scope : Scope} {pos : Pos} {it acc : Value} {env : Env} (hg : gens[depth]? = some ⟨target, iter, ifs, 0⟩) (hn : gens[depth + 1]? = none) :
    compTurn (.ListComp elt gens scope pos) depth it acc env = (do
      standAt iter.pos
      match ← pyNext it with
      | none => pure (.done .next)
      | some v =>
        letOwnedTupleGo target it v
        assign target env v
        let mut ok := true
        for c in ifs do
          if ok then ok ← isTrue c env (eval c env)
        if ok then
          (do let _ ← call (.builtin "list.append") [acc, ← eval elt env])
        again (.compLoop (.ListComp elt gens scope pos) depth it acc env)) := by
  unfold compTurn
  simp only [hg, hn]
  rfl
theorem codeAny_comp1 {elt target iter : Expr} {ifs : List Expr} {gens : List Comprehension} {depth : Nat} {scope : Scope} {pos : Pos} {it acc : Value} {env : Env} (hg : gens[depth]? = some ⟨target, iter, ifs, 0⟩) (hn : gens[depth + 1]? = none) (I : Nat → Shared → Prop)
    (turn : ∀ n s E, I n s → wpAny (model PG w) A (pyNext it) (fun r s₁ => match r with
      | none => R (.ok .next) s₁
      | some v => wpAny (model PG w) A (letOwnedTupleGo target it v) (fun _ s₁' => wpAny (model PG w) A (assign target env v) (fun _ s₂ =>
          wpAny (model PG w) A (forIn ifs true fun c r => if r = true then do let ok ← isTrue c env (eval c env); pure (ForInStep.yield ok) else pure (ForInStep.yield r)) (fun ok s₃ =>
            if ok = true then wpAny (model PG w) A (eval elt env) (fun x s₄ =>
              wpAny (model PG w) A (call (.builtin "list.append") [acc, x]) (fun _ s₅ => ∃ m, m < n ∧ I m s₅) E s₄) E s₃
            else ∃ m, m < n ∧ I m s₃) E s₂) E s₁') E s₁) E s)
    (n : Nat) (h : I n s) :
    codeAny (model PG w) A (.compLoop (.ListComp elt gens scope pos) depth it acc env) R s := by
  refine codeAny_loop rfl I (fun n s hI => ?_) n h
  show wpAny _ A ((compTurn (.ListComp elt gens scope pos) depth it acc env).onRaise (fun x => do noteFrame x env; theTreesLotGoes x)) _ _ s
  refine wpAny_noted ?_
  rw [compTurn_last hg hn]
  refine wpAny_bind (wpAny_standAt (wpAny_bind (wpAny_mono (turn n s _ hI) (fun r s₁ h₁ => ?_) fun _ _ h' => h')))
  cases r with
  | none => exact wpAny_pure h₁
  | some v =>
    refine wpAny_bind (wpAny_mono h₁ (fun _ s₁' h₁' => ?_) fun _ _ h' => h')
    refine wpAny_bind (wpAny_mono h₁' (fun _ s₂ h₂ => wpAny_bind (wpAny_mono h₂ (fun ok s₃ h₃ => ?_) fun _ _ h' => h')) fun _ _ h' => h')
    cases ok with
    | false => exact wpAny_pure ⟨rfl, h₃⟩
    | true =>
      exact wpAny_bind (wpAny_bind (wpAny_mono h₃ (fun x s₄ h₄ => wpAny_bind (wpAny_mono h₄ (fun _ s₅ h₅ => wpAny_pure (wpAny_pure ⟨rfl, h₅⟩)) fun _ _ h' => h')) fun _ _ h' => h'))
end

/-- a comprehension's tests -/
def TVs (w : World) (k : Nat) (env : Env) (Γ : List (Str × D)) : List Expr → Bool → Prop
  | [], b => b = true
  | [c], b => TV w k env Γ c b
  | _, _ => False
theorem wp_tests {w : World} {k : Nat} {env : Env} {Γ : List (Str × D)} {H : List Addr} {A : Around} {s : Shared} {ifs : List Expr} {b : Bool} {Q : Bool → Shared → Prop} {E : Value → Shared → Prop} (t : TVs w k env Γ ifs b) (r : Room k A) (st : St w env Γ H s) (h : ∀ s', Grow s s' → Q b s') :
    wpAny (model PG w) A (forIn ifs true fun c r => if r = true then do let ok ← isTrue c env (eval c env); pure (ForInStep.yield ok) else pure (ForInStep.yield r)) Q E s := by
  match ifs, t with
  | [], t => cases t; exact wpAny_tests_nil (h s (.refl s))
  | [c], t => exact wpAny_tests_one (t H A s Q E r st h)

/-- what a list comprehension of one clause makes -/
inductive CompL (w : World) (k : Nat) (env : Env) (Γ : List (Str × D)) (target : Expr) (ifs : List Expr) (elt : Expr) : List D → List D → Prop where
  | nil : CompL w k env Γ target ifs elt [] []
  | keep {d : D} {ds : List D} {r : D} {rs : List D} {bs : List (Str × D)} : bindsI target d = some bs → (∀ p ∈ bs, Γ.lookup p.1 = none) → TVs w k env (bs ++ Γ) ifs true → EV w k env (bs ++ Γ) elt r → CompL w k env Γ target ifs elt ds rs → CompL w k env Γ target ifs elt (d :: ds) (r :: rs)
  | skip {d : D} {ds : List D} {rs : List D} {bs : List (Str × D)} : bindsI target d = some bs → (∀ p ∈ bs, Γ.lookup p.1 = none) → TVs w k env (bs ++ Γ) ifs false → CompL w k env Γ target ifs elt ds rs → CompL w k env Γ target ifs elt (d :: ds) rs

theorem lookup_behind {Γ bs : List (Str × D)} (h : ∀ p ∈ bs, Γ.lookup p.1 = none) (x : Str) (d : D) (hx : Γ.lookup x = some d) : (bs ++ Γ).lookup x = some d := by
  rw [List.lookup_append]
  cases q : bs.lookup x with
  | none => rw [hx]; rfl
  | some d' =>
    have := h (x, d') (mem_of_lookup q)
    simp only at this
    rw [this] at hx; cases hx

abbrev CI (w : World) (k : Nat) (env : Env) (Γ : List (Str × D)) (target : Expr) (ifs : List Expr) (elt : Expr) (H T : List Addr) (pn : List (Addr × Obj)) (g : List (D × Value)) (s₀ : Shared) (Dd : Addr) (W : Nat → Heap → Prop) (ds all : List D) (n : Nat) (st : Shared) : Prop :=
  ∃ i qs' us' rs', n = ds.length + 1 - i ∧ i ≤ ds.length ∧ W i st.heap ∧ Cm w env H T pn g s₀ Γ st ∧ Ls st.heap Dd (List.toArray us') ∧ IsL w (hid H st.heap) qs' us' ∧ CompL w k env Γ target ifs elt (ds.drop i) rs' ∧ qs' ++ rs' = all ∧ qs'.length + (ds.length - i) ≤ 1000000
theorem wp_append {w : World} {A : Around} {s : Shared} {a : Addr} {us : List Value} {v : Value} {Q E : Value → Shared → Prop} (hl : Ls s.heap a us.toArray) (hz : us.length ≤ 1000000)
    (h : ∀ h', Ls h' a (us ++ [v]).toArray → Heap.SameBut a s.heap h' → Q .none { s with heap := h' }) : wpAny (model PG w) A (call (.builtin "list.append") [.ref a, v]) Q E s := by
  obtain ⟨o, ho, n, rfl⟩ := hl
  refine call_meets PySem.F.slot_list_append ⟨_, ho, rfl⟩ PySem.F.entry_list_append (PySem.F.args_list_append_2 _ _) (list_append a us.toArray n v (by rw [List.size_toArray, show sizeLine = 16777216 from rfl]; omega)) ⟨ho, h _ ⟨_, get?_update_seq ho _, _, by simp; rfl⟩ (Heap.SameBut.update s.heap a _)⟩
/-- the block's loop, over any walk: the accumulator's items end as they were, with what the comprehension makes behind -/
theorem comp_loop {w : World} {k : Nat} {env : Env} {Γ : List (Str × D)} {target iter elt : Expr} {ifs : List Expr} {gens : List Comprehension} {depth : Nat} {scope : Scope} {pos : Pos} {A : Around} {R : Result → Shared → Prop} {H T : List Addr} {pn : List (Addr × Obj)} {gv : List (D × Value)} {s₀ s : Shared}
    {I Dd : Addr} {fp wr : List Addr} {gs : List (D × Value)} {ds rs qs : List D} {us : List Value} {W : Nat → Heap → Prop} {H' T' : List Addr}
    (r : Room k A) (hg : gens[depth]? = some ⟨target, iter, ifs, 0⟩) (hn : gens[depth + 1]? = none) (hH1 : ∀ a ∈ H', a ∈ H ∧ a ∉ wr) (hH2 : ∀ a ∈ H, a ∉ wr → a ∈ H') (hT1 : ∀ a ∈ T', a ∈ T ∧ a ∉ wr) (hT2 : ∀ a ∈ T, a ∉ wr → a ∈ T') (wk : Wlk w I fp wr gs ds W) (hst : ∀ bs d, d ∈ ds → bindsI target d = some bs → ∀ p ∈ bs, CStores env T p.1) (hl : CompL w k env Γ target ifs elt ds rs)
    (F : Cm w env H T pn (gs ++ gv) s₀ Γ s) (w0 : W 0 s.heap) (hwr : ∀ a ∈ wr, a ∈ T ∧ a ∉ frameAddrs env ∧ ∀ p ∈ pn, p.1 ≠ a) (hfp : ∀ b ∈ fp, b ≠ Dd ∧ b ∉ frameAddrs env ∧ b ≠ 30 ∧ b ≠ 37) (hDT : Dd ∈ T ∧ Dd ∉ frameAddrs env ∧ ∀ p ∈ pn, p.1 ≠ Dd)
    (hD : Ls s.heap Dd (List.toArray us)) (iD : IsL w (hid H s.heap) qs us) (hz : qs.length + ds.length ≤ 1000000)
    (hR : ∀ s' us', Cm w env H' T' pn gv s₀ Γ s' → Ls s'.heap Dd (List.toArray us') → IsL w (hid H' s'.heap) (qs ++ rs) us' → R (.ok .next) s') :
    codeAny (model PG w) A (.compLoop (.ListComp elt gens scope pos) depth (.ref I) (.ref Dd) env) R s := by
  have D30 : Dd ≠ 30 ∧ Dd ≠ 37 := by
    have n0 := F.new Dd hDT.1
    refine ⟨?_, ?_⟩
    · rintro rfl; obtain ⟨ps, e, _⟩ := F.base0.t30; rw [n0] at e; cases e
    · rintro rfl; obtain ⟨ps, e, _⟩ := F.base0.t37; rw [n0] at e; cases e
  refine codeAny_comp1 hg hn (fun n st => CI w k env Γ target ifs elt H T pn (gs ++ gv) s₀ Dd W ds (qs ++ rs) n st) (fun n st E hI => ?_) (ds.length + 1) ⟨0, qs, us, rs, rfl, Nat.zero_le _, w0, F, hD, iD, hl, rfl, hz⟩
  clear F w0 hD iD hl
  obtain ⟨i, qs', us', rs', rfl, hi, Wi, F, hD, iD, hl, hq, hz'⟩ := hI
  cases hdr : ds.drop i with
  | nil =>
    have hlen : i = ds.length := Nat.le_antisymm hi (by simpa using hdr)
    subst hlen
    rw [hdr] at hl
    cases hl
    rw [List.append_nil] at hq
    subst hq
    have hDw : Dd ∉ wr := fun m => (hfp Dd (wk.sub Dd m)).1 rfl
    refine wk.done r F.st.base Wi fun h' tk hk => hR _ us' (F.unghost.drop hwr hk hH1 hH2 hT1 hT2 (wk.noCode _ _ Wi)) (by obtain ⟨o, e, q⟩ := hD; exact ⟨o, hk Dd o hDw e, q⟩) (iD.mono fun b o e => ?_)
    obtain ⟨e1, n1⟩ := hid_get.mp e
    exact hid_get.mpr ⟨hk b o (fun m => n1 (F.subT b (hwr b m).1)) e1, fun m => n1 (hH1 b m).1⟩
  | cons d ds' =>
    have hd : ds[i]? = some d := by
      have : (ds.drop i)[0]? = some d := by rw [hdr]; rfl
      simpa using this
    have hlt : i < ds.length := (List.getElem?_eq_some_iff.mp hd).1
    have hdr' : ds.drop (i + 1) = ds' := by
      have := congrArg List.tail hdr
      simpa using this
    rw [hdr] at hl
    have hmem : d ∈ ds := List.mem_of_getElem? hd
    have hbd : bindsI target d ≠ none := by
      cases hl with
      | skip hb _ _ _ => rw [hb]; exact fun h => nomatch h
      | keep hb _ _ _ _ => rw [hb]; exact fun h => nomatch h
    refine wpAny_mono (wk.item (t := target) r F.st.base F.st.tabs F.st.dom (fun b hb => F.subT b (hwr b hb).1) (fun p hp => F.ghost p (List.mem_append_left _ hp)) hd hbd Wi (Q := fun v s₁ => wpAny (model PG w) A (assign target env v) (fun _ s₂ =>
          wpAny (model PG w) A (forIn ifs true fun c r => if r = true then do let ok ← isTrue c env (eval c env); pure (ForInStep.yield ok) else pure (ForInStep.yield r)) (fun ok s₃ =>
            if ok = true then wpAny (model PG w) A (eval elt env) (fun x s₄ =>
              wpAny (model PG w) A (call (.builtin "list.append") [.ref Dd, x]) (fun _ s₅ => ∃ m, m < ds.length + 1 - i ∧ CI w k env Γ target ifs elt H T pn (gs ++ gv) s₀ Dd W ds (qs ++ rs) m s₅) E s₄) E s₃
            else ∃ m, m < ds.length + 1 - i ∧ CI w k env Γ target ifs elt H T pn (gs ++ gv) s₀ Dd W ds (qs ++ rs) m s₃) E s₂) E s₁) fun v h' tk hk hex W' iv => ?_) (fun r s₁ q => ?_) fun _ _ q => q
    · have F1 : Cm w env H T pn (gs ++ gv) s₀ Γ { st with heap := h', toks := tk } := F.turned (wr := wr) hwr hk hex (wk.noCode _ _ Wi)
      have hDw : Dd ∉ wr := fun m => (hfp Dd (wk.sub Dd m)).1 rfl
      have hD1 : Ls h' Dd (List.toArray us') := by obtain ⟨o, e, q⟩ := hD; exact ⟨o, hk Dd o hDw e, q⟩
      have iD1 : IsL w (hid H h') qs' us' := iD.mono fun b o e => by
        obtain ⟨e1, n1⟩ := hid_get.mp e
        exact hid_get.mpr ⟨hk b o (fun m => n1 (F.subT b (hwr b m).1)) e1, n1⟩
      obtain ⟨oD, eD, qD⟩ := hD1
      have F2 := F1.repin (pn' := (Dd, oD) :: fp.filterMap fun b => (h'.get? b).map fun o => (b, o)) fun p hp => by
        rcases List.mem_cons.mp hp with rfl | hp
        · exact ⟨eD, hDT.2.1, D30⟩
        · obtain ⟨b, hb, e⟩ := List.mem_filterMap.mp hp
          obtain ⟨o, e1, rfl⟩ := Option.map_eq_some_iff.mp e
          exact ⟨e1, (hfp b hb).2⟩
      have F3 := F2.reghost (gv' := qs'.zip us') fun p hp => (isL_zip.mp iD1).2 p hp
      -- what stands behind the assignment and whatever grows upon it
      have stands : ∀ {Γ' : List (Str × D)} {s₂ : Shared}, Cm w env H T (((Dd, oD) :: fp.filterMap fun b => (h'.get? b).map fun o => (b, o)) ++ pn) (qs'.zip us' ++ (gs ++ gv)) s₀ Γ' s₂ →
          W (i + 1) s₂.heap ∧ Ls s₂.heap Dd (List.toArray us') ∧ IsL w (hid H s₂.heap) qs' us' := fun F4 => by
        refine ⟨wk.frame _ _ _ W' fun b hb o e => (F4.pin (b, o) (List.mem_append_left _ (.tail _ (List.mem_filterMap.mpr ⟨b, hb, by rw [e]; rfl⟩)))).1, ⟨oD, (F4.pin (Dd, oD) (List.mem_append_left _ (.head _))).1, qD⟩, isL_zip.mpr ⟨(isL_zip.mp iD1).1, fun p hp => F4.ghost p (List.mem_append_left _ hp)⟩⟩
      have goes : ∀ (s₃ : Shared) (bs : List (Str × D)) (qs₂ : List D) (us₂ : List Value) (rs₂ : List D), (∀ p ∈ bs, Γ.lookup p.1 = none) → Cm w env H T pn (gs ++ gv) s₀ (bs ++ Γ) s₃ → W (i + 1) s₃.heap → Ls s₃.heap Dd (List.toArray us₂) → IsL w (hid H s₃.heap) qs₂ us₂ → CompL w k env Γ target ifs elt ds' rs₂ → qs₂ ++ rs₂ = qs ++ rs → qs₂.length ≤ qs'.length + 1 →
          ∃ m, m < ds.length + 1 - i ∧ CI w k env Γ target ifs elt H T pn (gs ++ gv) s₀ Dd W ds (qs ++ rs) m s₃ := fun s₃ bs qs₂ us₂ rs₂ hb G W2 hD2 iD2 hl2 hq2 hz2 =>
        ⟨ds.length + 1 - (i + 1), by omega, i + 1, qs₂, us₂, rs₂, rfl, hlt, W2, G.weaken (lookup_behind hb), hD2, iD2, hdr' ▸ hl2, hq2, by omega⟩
      cases hl with
      | skip hb hn ht hl2 =>
        refine wp_assignI sto_cm r.1 hb (hst _ d hmem hb) F3 iv fun s₂ F4 => wp_tests ht r F4.st fun s₃ g₃ => ?_
        simp only [Bool.false_eq_true, if_false]
        have F5 := F4.grew g₃
        obtain ⟨W2, hD2, iD2⟩ := stands F5
        exact goes s₃ _ qs' us' rs' hn F5.unpin.unghost W2 hD2 iD2 hl2 hq (by omega)
      | keep hb hn ht he hl2 =>
        rename_i re rs₂ bs
        refine wp_assignI sto_cm r.1 hb (hst _ d hmem hb) F3 iv fun s₂ F4 => wp_tests ht r F4.st fun s₃ g₃ => ?_
        simp only [if_true]
        have F5 := F4.grew g₃
        refine he H A s₃ _ E r F5.st fun y s₄ g₄ iy => ?_
        have F6 := F5.grew g₄
        obtain ⟨W2, hD2, iD2⟩ := stands F6
        refine wp_append hD2 (by rw [iD2.length]; omega) fun h₅ hl₅ hs₅ => ?_
        have hDH := F6.subT Dd hDT.1
        have F7 : Cm w env H T pn (gs ++ gv) s₀ (bs ++ Γ) { s₄ with heap := h₅ } := F6.unpin.unghost.turned (wr := [Dd]) (tk := s₄.toks) (fun a ha => by rw [List.mem_singleton] at ha; rw [ha]; exact hDT) (fun b o hb e => hs₅.extBut b o (fun q => hb (by rw [q]; exact .head _)) e) (fun b hb => by rw [List.mem_singleton] at hb; rw [hb]; obtain ⟨o, e, _⟩ := hl₅; exact ⟨o, e⟩) (fun b hb => by rw [List.mem_singleton] at hb; rw [hb]; exact noCode_ls hD2)
        refine goes _ bs (qs' ++ [re]) (us' ++ [y]) rs₂ hn F7 (wk.frame _ _ _ W2 fun b hb o e => hs₅.extBut b o (hfp b hb).1 e) hl₅ (IsL.append (iD2.mono (hid_same hs₅ hDH)) (.one (iy.mono (hid_same hs₅ hDH)))) hl2 (by rw [List.append_assoc]; exact hq) (by simp)
    · obtain ⟨v, rfl, q⟩ := q
      exact q _

def clOf (env : Env) : List (Str × NameKind) → List (Str × Addr) → Option (List (Str × Addr))
  | [], acc => some acc
  | (n, kd) :: r, acc => if kd == .free then (match env.cells.lookup n with | some c => clOf env r ((n, c) :: acc) | none => none) else clOf env r acc
theorem closureFor_of {scope : Scope} {env : Env} {cl : List (Str × Addr)} (h : clOf env scope.names [] = some cl) : closureFor scope env = pure cl := by
  have key : ∀ (names : List (Str × NameKind)) (acc cl : List (Str × Addr)), clOf env names acc = some cl →
      (forIn names acc (fun x r => match x with | (name, kind) => if (kind == .free) = true then (do let c ← cellOf env name; pure (ForInStep.yield ((name, c) :: r))) else pure (ForInStep.yield r)) : Sem (List (Str × Addr))) = pure cl := by
    intro names
    induction names with
    | nil => intro acc cl h; cases h; rfl
    | cons x r ih =>
      intro acc cl h
      obtain ⟨n, kd⟩ := x
      rw [List.forIn_cons]
      simp only [clOf] at h
      by_cases hk : (kd == NameKind.free) = true
      · rw [if_pos hk] at h
        cases hc : env.cells.lookup n with
        | none => rw [hc] at h; cases h
        | some c =>
          rw [hc] at h
          simp only [hk, if_true, cellOf, hc, pure_bind]
          exact ih _ _ h
      · rw [if_neg hk] at h
        simp only [hk, Bool.false_eq_true, if_false, pure_bind]
        exact ih _ _ h
  unfold closureFor
  have := key scope.names [] cl h
  first
    | (rw [show (forIn scope.names ([] : List (Str × Addr)) _ : Sem (List (Str × Addr))) = pure cl from this]; rfl)
    | (simp only [this, pure_bind])
    | (rw [← this]; rfl)
theorem clOf_mem {env : Env} : ∀ {names : List (Str × NameKind)} {acc cl : List (Str × Addr)}, clOf env names acc = some cl → ∀ x c, (x, c) ∈ cl → (x, c) ∈ acc ∨ env.cells.lookup x = some c
  | [], acc, cl, h, x, c, hm => by cases h; exact .inl hm
  | (n, kd) :: r, acc, cl, h, x, c, hm => by
    simp only [clOf] at h
    split at h
    · split at h
      · rename_i c' hc
        rcases clOf_mem h x c hm with h1 | h1
        · rcases List.mem_cons.mp h1 with e | h1
          · cases e; exact .inr hc
          · exact .inl h1
        · exact .inr h1
      · cases h
    · exact clOf_mem h x c hm
theorem clOf_has {env : Env} : ∀ {names : List (Str × NameKind)} {acc cl : List (Str × Addr)}, clOf env names acc = some cl → (∀ x c, (x, c) ∈ acc → (x, c) ∈ cl) ∧ ∀ x, (x, NameKind.free) ∈ names → ∃ c, (x, c) ∈ cl
  | [], acc, cl, h => by cases h; exact ⟨fun _ _ h => h, fun _ h => nomatch h⟩
  | (n, kd) :: r, acc, cl, h => by
    simp only [clOf] at h
    split at h
    · rename_i hk
      split at h
      · rename_i c' hc
        obtain ⟨h1, h2⟩ := clOf_has h
        refine ⟨fun x c hm => h1 x c (.tail _ hm), fun x hx => ?_⟩
        rcases List.mem_cons.mp hx with e | hx
        · cases e; exact ⟨c', h1 _ _ (.head _)⟩
        · exact h2 x hx
      · cases h
    · rename_i hk
      obtain ⟨h1, h2⟩ := clOf_has h
      refine ⟨h1, fun x hx => ?_⟩
      rcases List.mem_cons.mp hx with e | hx
      · cases e; exact absurd rfl hk
      · exact h2 x hx
theorem cellsFrom_append : ∀ (names : List (Str × NameKind)) (n : Nat) (acc : List (Str × Addr)), cellsFrom n names acc = cellsFrom n names [] ++ acc
  | [], _, acc => rfl
  | (x, kd) :: r, n, acc => by
    unfold cellsFrom
    split
    · rw [cellsFrom_append r (n + 1) ((x, n) :: acc), cellsFrom_append r (n + 1) [(x, n)], List.append_assoc]; rfl
    · exact cellsFrom_append r n acc
theorem cellsFrom_mem : ∀ (names : List (Str × NameKind)) (n : Nat) (x : Str) (c : Addr), (x, c) ∈ cellsFrom n names [] → (x, NameKind.cell) ∈ names
  | [], _, _, _, h => nomatch h
  | (y, kd) :: r, n, x, c, h => by
    unfold cellsFrom at h
    split at h
    · rename_i hk
      rw [cellsFrom_append] at h
      rcases List.mem_append.mp h with h | h
      · exact .tail _ (cellsFrom_mem r _ x c h)
      · rw [List.mem_singleton] at h; cases h
        rw [beq_iff_eq.mp hk]; exact .head _
    · exact .tail _ (cellsFrom_mem r n x c h)
theorem cellsFrom_has : ∀ (names : List (Str × NameKind)) (n : Nat) (x : Str), (x, NameKind.cell) ∈ names → ∃ c, (x, c) ∈ cellsFrom n names []
  | (y, kd) :: r, n, x, h => by
    unfold cellsFrom
    rcases List.mem_cons.mp h with e | h
    · cases e
      rw [if_pos (by rfl), cellsFrom_append]
      exact ⟨n, List.mem_append_right _ (.head _)⟩
    · split
      · obtain ⟨c, hc⟩ := cellsFrom_has r (n + 1) x h
        rw [cellsFrom_append]; exact ⟨c, List.mem_append_left _ hc⟩
      · exact cellsFrom_has r n x h

section
variable {M : Model} {A : Around} {E : Value → Shared → Prop} {s : Shared}
theorem wp_compEnv {scope : Scope} {globals : Addr} {cl : List (Str × Addr)} {qual : Str} {env : Env} {Q : Env → Shared → Prop}
    (h : Q { scope, locals := s.heap.objs.size, globals, cells := cellsFrom (s.heap.objs.size + 1) scope.names cl, qual, func := none, code := env.code, frame := env.frame, builtins := env.builtins } { s with heap := pushCells (s.heap.push { cls := .type "dict", data := .dict #[] }) scope.names }) :
    wpAny M A (newFunctionEnv scope globals cl [] qual none .none (some env)) Q E s := by
  simp only [newFunctionEnv, Option.isSome_some, if_true]
  refine wpAny_bind (wpAny_alloc ?_)
  refine wpAny_bind (wpAny_layCells _ (fun name kind cells => by cases hkc : kind == NameKind.cell <;> simp [hkc]) _ _ _ _ ?_)
  rw [show ({ s with heap := s.heap.push { cls := .type "dict", data := .dict #[] } } : Shared).heap.objs.size = s.heap.objs.size + 1 from Heap.size_push ..]
  exact wpAny_bind (wpAny_pure (wpAny_pure h))
end

/-- what is asked of a comprehension's block: its own names tn, and those that it reads from around -/
structure BlockOk (env : Env) (scope : Scope) (Γ Γc : List (Str × D)) (tn : List Str) : Prop where
  kind : scope.kind = .function
  names : (scope.names.map (·.1)).Nodup
  clo : (clOf env scope.names []).isSome = true
  cap : ∀ p ∈ Γc, Γ.lookup p.1 = some p.2 ∧ (p.1, NameKind.free) ∈ scope.names ∧ (env.kindOf p.1 = some .cell ∨ env.kindOf p.1 = some .free) ∧ (p.1 == (Str.ofString "__classdict__")) = false
  tgt : ∀ x ∈ tn, ((x, NameKind.local) ∈ scope.names ∨ (x, NameKind.cell) ∈ scope.names) ∧ (x == (Str.ofString "__classdict__")) = false ∧ (x == (Str.ofString "__debug__")) = false

theorem lookup_of_mem' {α : Type} {l : List (Str × α)} (hn : (l.map (·.1)).Nodup) {x : Str} {c : α} (h : (x, c) ∈ l) : l.lookup x = some c := lookup_of_mem hn h
theorem relabel_names {scope : Scope} {env : Env} : ((relabel scope env).names.map (·.1)) = scope.names.map (·.1) := by
  simp only [relabel, List.map_map]
  congr 1
  funext p
  obtain ⟨n, kd⟩ := p
  simp only [Function.comp]
  split <;> rfl
theorem relabel_local {scope : Scope} {env : Env} {x : Str} (hn : (scope.names.map (·.1)).Nodup) (h : (x, NameKind.local) ∈ scope.names) : (relabel scope env).names.lookup x = some .local :=
  lookup_of_mem (by rw [relabel_names]; exact hn) (List.mem_map.mpr ⟨_, h, rfl⟩)
theorem relabel_cell {scope : Scope} {env : Env} {x : Str} (hn : (scope.names.map (·.1)).Nodup) (h : (x, NameKind.cell) ∈ scope.names) : (relabel scope env).names.lookup x = some .cell :=
  lookup_of_mem (by rw [relabel_names]; exact hn) (List.mem_map.mpr ⟨_, h, rfl⟩)
theorem relabel_free {scope : Scope} {env : Env} {x : Str} (hn : (scope.names.map (·.1)).Nodup) (h : (x, NameKind.free) ∈ scope.names) : (relabel scope env).names.lookup x = some .cell ∨ (relabel scope env).names.lookup x = some .free := by
  by_cases hc : (NameKind.free == NameKind.free && env.scope.kind == .function && env.kindOf x == some .cell) = true
  · exact .inl (lookup_of_mem (by rw [relabel_names]; exact hn) (List.mem_map.mpr ⟨_, h, by simp only [hc, if_true]⟩))
  · exact .inr (lookup_of_mem (by rw [relabel_names]; exact hn) (List.mem_map.mpr ⟨_, h, by simp only [hc]; rfl⟩))

/-- the block is entered: acc at Dd, its names at C, its own cells behind C -/
theorem comp_enter {w : World} {k : Nat} {env : Env} {Γ Γc : List (Str × D)} {H wr : List Addr} {gs : List (D × Value)} {s s₂ : Shared} {scope : Scope} {tn : List Str} {cl : List (Str × Addr)} {acc : Obj}
    (st : St w env Γ H s) (B : BlockOk env scope Γ Γc tn) (hcl : clOf env scope.names [] = some cl) (g : Grow s s₂) (hwr : ∀ b ∈ wr, s.heap.get? b = none ∧ ∃ o, s₂.heap.get? b = some o) (hgs : ∀ p ∈ gs, Is w (hid (wr ++ H) s₂.heap) p.1 p.2) (hacc : acc.isFreed = false)
    {Dd C : Nat} {h4 : Heap} (hDd : Dd = s₂.heap.objs.size) (hC : C = s₂.heap.objs.size + 1) (hh4 : h4 = pushCells ((s₂.heap.push acc).push { cls := .type "dict", data := .dict #[] }) scope.names) {T : List Addr} (hT : T = wr ++ Dd :: C :: (cellsFrom (C + 1) scope.names []).map (·.2)) :
    let cenv := compEnvC scope (cellsFrom (C + 1) scope.names cl) C env
    Cm w cenv (T ++ H) T [] gs s Γc { s₂ with heap := h4 } ∧ (∀ x ∈ tn, CStores cenv T x) ∧ (∀ b o, s₂.heap.get? b = some o → h4.get? b = some o) ∧ h4.get? Dd = some acc ∧ Dd ∉ frameAddrs cenv ∧ (∀ b o, s₂.heap.get? b = some o → b ≠ Dd) ∧ (∀ b o, s₂.heap.get? b = some o → b ∈ frameAddrs cenv → b ∈ H) := by
  intro cenv
  have size1 : (s₂.heap.push acc).objs.size = C := by rw [Heap.size_push, hC]
  have size2 : ((s₂.heap.push acc).push { cls := .type "dict", data := .dict #[] }).objs.size = C + 1 := by rw [Heap.size_push, size1]
  have keep : ∀ b o, s₂.heap.get? b = some o → h4.get? b = some o := fun b o e => by
    rw [hh4]; exact pushCells_keeps _ _ b o (Heap.get?_push_of_some _ (Heap.get?_push_of_some _ e))
  have eD : h4.get? Dd = some acc := by
    rw [hh4, hDd]; exact pushCells_keeps _ _ _ _ (Heap.get?_push_of_some _ (Heap.get?_push_size _ hacc))
  have nsC : h4.Ns C fun _ => none := by
    rw [hh4, ← size1]; exact (Heap.Ns.new (s₂.heap.push acc) (.type "dict")).keeps (pushCells_keeps _ _)
  have ok := cellsFrom_ok scope.names ((s₂.heap.push acc).push { cls := .type "dict", data := .dict #[] }) (C + 1) [] ⟨fun _ _ hm => (nomatch hm), List.Pairwise.nil⟩ (by rw [size2]; exact Nat.le_refl _)
  rw [size2, ← hh4] at ok
  have gAll : Grow s { s₂ with heap := h4 } := g.trans (.keepsAt keep)
  have old : ∀ a : Nat, (∃ o, s.heap.get? a = some o) → a < s₂.heap.objs.size := fun a ⟨o, e⟩ => by
    by_cases h1 : a = 30
    · subst h1; obtain ⟨ps, e, _⟩ := (st.base.grow g).t30; exact Heap.lt_size e
    · by_cases h2 : a = 37
      · subst h2; obtain ⟨ps, e, _⟩ := (st.base.grow g).t37; exact Heap.lt_size e
      · exact Heap.lt_size (g.keep a o h1 h2 e)
  have newT : ∀ a ∈ T, s.heap.get? a = none := fun a ha => by
    rw [hT] at ha
    rcases List.mem_append.mp ha with ha | ha
    · exact (hwr a ha).1
    · cases q : s.heap.get? a with
      | none => rfl
      | some o =>
        exfalso
        have lt : (a : Nat) < s₂.heap.objs.size := old a ⟨o, q⟩
        rcases List.mem_cons.mp ha with e | ha
        · have e : @Eq Nat a Dd := e
          (dsimp only [PySem.Addr] at *; omega)
        · rcases List.mem_cons.mp ha with e | ha
          · have e : @Eq Nat a C := e
            (dsimp only [PySem.Addr] at *; omega)
          · obtain ⟨⟨x, c⟩, hm, rfl⟩ := List.mem_map.mp ha
            have := (ok.empty x c hm).2
            simp only at lt
            (dsimp only [PySem.Addr] at *; omega)
  have cellsEq : cenv.cells = cellsFrom (C + 1) scope.names [] ++ cl := cellsFrom_append _ _ _
  have clMem : ∀ x c, (x, c) ∈ cl → env.cells.lookup x = some c := fun x c hm => (clOf_mem hcl x c hm).resolve_left (fun h => nomatch h)
  have clH : ∀ x c, (x, c) ∈ cl → c ∈ H ∧ c ≠ 30 ∧ c ≠ 37 ∧ c < s₂.heap.objs.size := fun x c hm => by
    have := st.cel x c (mem_of_lookup (clMem x c hm))
    exact ⟨this.2.2, this.1, this.2.1, old c (st.dom c this.2.2)⟩
  have ne30 : ∀ a ∈ T, a ≠ 30 ∧ a ≠ 37 := fun a ha => by
    have n0 := newT a ha
    refine ⟨?_, ?_⟩
    · rintro rfl; obtain ⟨ps, e, _⟩ := st.base.t30; rw [n0] at e; cases e
    · rintro rfl; obtain ⟨ps, e, _⟩ := st.base.t37; rw [n0] at e; cases e
  have CT : C ∈ T := by rw [hT]; exact List.mem_append_right _ (.tail _ (.head _))
  have ncT : ∀ x c, (x, c) ∈ cellsFrom (C + 1) scope.names [] → c ∈ T := fun x c hm => by rw [hT]; exact List.mem_append_right _ (.tail _ (.tail _ (List.mem_map.mpr ⟨_, hm, rfl⟩)))
  have notBoth : ∀ x c, (x, NameKind.free) ∈ scope.names → (x, c) ∉ cellsFrom (C + 1) scope.names [] := fun x c hf hm => by
    have h1 := lookup_of_mem B.names hf
    have h2 := lookup_of_mem B.names (cellsFrom_mem _ _ _ _ hm)
    rw [h1] at h2; cases h2
  have cellAt : ∀ x c, (x, c) ∈ cenv.cells → ((x, c) ∈ cellsFrom (C + 1) scope.names [] ∧ C + 1 ≤ c ∧ h4.IsCell c none) ∨ ((x, c) ∈ cl ∧ c < s₂.heap.objs.size) := fun x c hm => by
    rw [cellsEq] at hm
    rcases List.mem_append.mp hm with hm | hm
    · exact .inl ⟨hm, (ok.empty x c hm).2, (ok.empty x c hm).1⟩
    · exact .inr ⟨hm, (clH x c hm).2.2.2⟩
  refine ⟨⟨st.base, gAll, ⟨⟨B.kind, st.ok.glob, st.ok.blt⟩, st.base.grow gAll, ⟨List.mem_append_right _ st.tabs.1, List.mem_append_right _ st.tabs.2⟩, fun a ha => ?_, ⟨(ne30 C CT).1, (ne30 C CT).2, List.mem_append_left _ CT⟩, fun x c hc => ?_, _, nsC, fun x d hx => ?_⟩, newT, fun a ha => List.mem_append_left _ ha, CT, ⟨fun hm => ?_, fun x c hc hcT y c' hc' e => ?_⟩, fun x c hc hcT => ?_, fun p hp => (nomatch hp), fun p hp => ?_⟩, fun x hx => ?_, keep, eD, fun hm => ?_, fun b o e q => ?_, fun b o e hb => ?_⟩
  · rcases List.mem_append.mp ha with ha | ha
    · rw [hT] at ha
      rcases List.mem_append.mp ha with ha | ha
      · obtain ⟨o, e⟩ := (hwr a ha).2; exact ⟨o, keep a o e⟩
      · rcases List.mem_cons.mp ha with e | ha
        · exact ⟨_, e ▸ eD⟩
        · rcases List.mem_cons.mp ha with e | ha
          · obtain ⟨o, _, _, e', _⟩ := nsC; exact ⟨o, e ▸ e'⟩
          · obtain ⟨⟨x, c⟩, hm, rfl⟩ := List.mem_map.mp ha
            obtain ⟨o, e, _⟩ := (ok.empty x c hm).1; exact ⟨o, e⟩
    · obtain ⟨o, e⟩ := (st.grow gAll).dom a ha; exact ⟨o, e⟩
  · rcases cellAt x c hc with ⟨h1, h2, _⟩ | ⟨h1, _⟩
    · exact ⟨(ne30 c (ncT x c h1)).1, (ne30 c (ncT x c h1)).2, List.mem_append_left _ (ncT x c h1)⟩
    · exact ⟨(clH x c h1).2.1, (clH x c h1).2.2.1, List.mem_append_right _ (clH x c h1).1⟩
  · obtain ⟨h1, h2, h3, h4'⟩ := B.cap (x, d) (mem_of_lookup hx)
    obtain ⟨m, n, vr⟩ := st.vars
    obtain ⟨hdb, v, hv, iv⟩ := vr x d h1
    refine ⟨hdb, v, .inr ⟨relabel_free B.names h2, h4', ?_⟩, iv.mono fun b o e => ?_⟩
    · rcases hv with ⟨hk, _⟩ | ⟨_, _, c, hc, hcell⟩
      · rcases h3 with h3 | h3 <;> (rw [hk] at h3; cases h3)
      · have hcl' : (x, c) ∈ cl := by
          obtain ⟨c', hc'⟩ := (clOf_has hcl).2 x h2
          have := clMem x c' hc'
          rw [hc] at this; cases this; exact hc'
        refine ⟨c, ?_, ?_⟩
        · show (cellsFrom (C + 1) scope.names cl).lookup x = some c
          have e1 : cellsFrom (C + 1) scope.names cl = cellsFrom (C + 1) scope.names [] ++ cl := cellsFrom_append _ _ _
          rw [e1, List.lookup_append]
          have e2 : (cellsFrom (C + 1) scope.names []).lookup x = none := by
            cases q : (cellsFrom (C + 1) scope.names []).lookup x with
            | none => rfl
            | some c' => exact absurd (mem_of_lookup q) (notBoth x c' h2)
          rw [e2]
          obtain ⟨c', hc'⟩ := Option.isSome_iff_exists.mp (lookup_isSome_iff.mpr (List.mem_map.mpr ⟨(x, c), hcl', rfl⟩))
          have := clMem x c' (mem_of_lookup hc')
          rw [hc] at this; cases this
          rw [hc']; rfl
        · obtain ⟨oc, ec, rc⟩ := hcell
          have := clH x c hcl'
          exact ⟨oc, keep c oc (g.keep c oc this.2.1 this.2.2.1 ec), rc⟩
    · obtain ⟨e1, n1⟩ := hid_get.mp e
      have n30 : b ≠ 30 ∧ b ≠ 37 := ⟨fun q => n1 (q ▸ st.tabs.1), fun q => n1 (q ▸ st.tabs.2)⟩
      refine hid_get.mpr ⟨keep b o (g.keep b o n30.1 n30.2 e1), fun m => ?_⟩
      rcases List.mem_append.mp m with m | m
      · rw [newT b m] at e1; cases e1
      · exact n1 m
  · obtain ⟨⟨x, c⟩, hm, e⟩ := List.mem_map.mp hm
    simp only at e
    have e : c = C := e
    rcases cellAt x c hm with ⟨_, h2, _⟩ | ⟨_, h2⟩ <;> (dsimp only [PySem.Addr] at *; omega)
  · have big : C + 1 ≤ c := by
      rcases cellAt x c hc with ⟨_, h2, _⟩ | ⟨h1, h2⟩
      · exact h2
      · have := newT c hcT
        obtain ⟨o, e'⟩ := st.dom c (clH x c h1).1
        rw [this] at e'; cases e'
    have in1 : (x, c) ∈ cellsFrom (C + 1) scope.names [] := by
      rcases cellAt x c hc with ⟨h1, _, _⟩ | ⟨h1, h2⟩
      · exact h1
      · (dsimp only [PySem.Addr] at *; omega)
    have in2 : (y, c') ∈ cellsFrom (C + 1) scope.names [] := by
      rcases cellAt y c' hc' with ⟨h1, _, _⟩ | ⟨h1, h2⟩
      · exact h1
      · (dsimp only [PySem.Addr] at *; omega)
    exact name_of_addr ok.apart (e ▸ in2) in1
  · rcases cellAt x c hc with ⟨_, _, h3⟩ | ⟨h1, _⟩
    · exact ⟨_, h3⟩
    · have := newT c hcT
      obtain ⟨o, e'⟩ := st.dom c (clH x c h1).1
      rw [this] at e'; cases e'
  · refine (hgs p hp).mono fun b o e => ?_
    obtain ⟨e1, n1⟩ := hid_get.mp e
    refine hid_get.mpr ⟨keep b o e1, fun m => ?_⟩
    have lt := Heap.lt_size e1
    rcases List.mem_append.mp m with m | m
    · rw [hT] at m
      rcases List.mem_append.mp m with m | m
      · exact n1 (List.mem_append_left _ m)
      · rcases List.mem_cons.mp m with e | m
        · have e : @Eq Nat b Dd := e
          (dsimp only [PySem.Addr] at *; omega)
        · rcases List.mem_cons.mp m with e | m
          · have e : @Eq Nat b C := e
            (dsimp only [PySem.Addr] at *; omega)
          · obtain ⟨⟨x, c⟩, hm, rfl⟩ := List.mem_map.mp m
            have := (ok.empty x c hm).2
            simp only at lt
            (dsimp only [PySem.Addr] at *; omega)
    · exact n1 (List.mem_append_right _ m)
  · obtain ⟨h1, h2, h3⟩ := B.tgt x hx
    refine ⟨?_, h3⟩
    rcases h1 with h1 | h1
    · exact .inl (relabel_local B.names h1)
    · refine .inr ⟨relabel_cell B.names h1, ?_, h2⟩
      obtain ⟨c, hc⟩ := cellsFrom_has scope.names (C + 1) x h1
      have hs : ((cellsFrom (C + 1) scope.names []).lookup x).isSome = true := lookup_isSome_iff.mpr (List.mem_map.mpr ⟨_, hc, rfl⟩)
      obtain ⟨c', hc'⟩ := Option.isSome_iff_exists.mp hs
      refine ⟨c', ?_, ncT x c' (mem_of_lookup hc')⟩
      show (cellsFrom (C + 1) scope.names cl).lookup x = some c'
      have e1 : cellsFrom (C + 1) scope.names cl = cellsFrom (C + 1) scope.names [] ++ cl := cellsFrom_append _ _ _
      rw [e1, List.lookup_append, hc']; rfl
  · rcases List.mem_cons.mp hm with e | hm
    · have e : Dd = C := e
      (dsimp only [PySem.Addr] at *; omega)
    · obtain ⟨⟨x, c⟩, hm, e⟩ := List.mem_map.mp hm
      have e : c = Dd := e
      rcases cellAt x c hm with ⟨_, h2, _⟩ | ⟨_, h2⟩ <;> (dsimp only [PySem.Addr] at *; omega)
  · have := Heap.lt_size e; (dsimp only [PySem.Addr] at *; omega)
  · have lt := Heap.lt_size e
    rcases List.mem_cons.mp hb with e' | hb
    · have e' : b = C := e'
      (dsimp only [PySem.Addr] at *; omega)
    · obtain ⟨⟨x, c⟩, hm, rfl⟩ := List.mem_map.mp hb
      rcases cellAt x c hm with ⟨_, h2, _⟩ | ⟨h1, _⟩
      · simp only at lt; (dsimp only [PySem.Addr] at *; omega)
      · exact (clH x c h1).1

theorem comp_core {w : World} {k : Nat} {env : Env} {Γ Γc : List (Str × D)} {H : List Addr} {s : Shared} {elt target iter : Expr} {ifs : List Expr} {scope : Scope} {pos pos' : Pos} {tn : List Str} {ds rs : List D} {A : Around} {E : Value → Shared → Prop} {Q : Value → Shared → Prop} {use : Option (Value → Sem Unit)}
    (r : Room k A) (st : St w env Γ H s) (hi : IE w k env Γ iter ds) (B : BlockOk env scope Γ Γc tn) (hb : ∀ d ∈ ds, ∀ bs, bindsI target d = some bs → ∀ p ∈ bs, p.1 ∈ tn)
    (hl : ∀ C cells, (∃ n cl, clOf env scope.names [] = some cl ∧ cells = cellsFrom n scope.names cl) → CompL w k (compEnvC scope cells C env) Γc target ifs elt ds rs) (hz : ds.length ≤ 1000000) (hs : ∀ x, foldedSetIterable iter env x = pure x)
    (hQ : ∀ D' C s', Grow s s' → s.heap.get? C = none → D' ≠ C → s'.heap.get? C ≠ none → (∃ m, s'.heap.Ns C m) → Is w (hid (C :: H) s'.heap) (.lst rs) (.ref D') → compPost (model PG w) A E use Q (.ref D') C (.ok .next) s') :
    wpAny (model PG w) A (comprehension (.ListComp elt [⟨target, iter, ifs, 0⟩] scope pos) scope env pos' (newList []) false (eval iter env) use) Q E s := by
  obtain ⟨cl, hcl⟩ := Option.isSome_iff_exists.mp B.clo
  refine wpAny_comprehension_free rfl hs (closureFor_of hcl) B.kind (fun x hx hlx => lookup_of_mem B.names (by rw [← hlx]; exact hx)) (hi H A s _ E r st fun I fp wr gs W s₂ g wk w0 hwr hfp hgs => ?_)
  refine wpAny_newList ?_ (by decide)
  refine wp_compEnv ?_
  have size1 : (s₂.heap.push { cls := .type "list", data := .seq ([] : List Value).toArray }).objs.size = s₂.heap.objs.size + 1 := Heap.size_push ..
  dsimp only
  rw [size1]
  obtain ⟨F, hst, keep, eD, hDf, hne, hfr⟩   := comp_enter (k := k) (tn := tn) (acc := { cls := .type "list", data := .seq ([] : List Value).toArray }) st B hcl g hwr hgs rfl (Dd := s₂.heap.objs.size) (C := s₂.heap.objs.size + 1) rfl rfl rfl rfl
  generalize hh4 : pushCells ((s₂.heap.push { cls := .type "list", data := .seq ([] : List Value).toArray }).push { cls := .type "dict", data := .dict #[] }) scope.names = h4 at F hst keep eD ⊢
  have hcells : ∀ x c, (x, c) ∈ cellsFrom (s₂.heap.objs.size + 1 + 1) scope.names [] → s₂.heap.objs.size + 1 + 1 ≤ c := fun x c hm => by
    have ok := cellsFrom_ok scope.names ((s₂.heap.push { cls := .type "list", data := .seq ([] : List Value).toArray }).push { cls := .type "dict", data := .dict #[] }) (s₂.heap.objs.size + 1 + 1) [] ⟨fun _ _ hm => (nomatch hm), List.Pairwise.nil⟩ (by rw [Heap.size_push, size1]; exact Nat.le_refl _)
    rw [Heap.size_push, size1] at ok
    exact (ok.empty x c hm).2
  have wrLt : ∀ a ∈ wr, a < s₂.heap.objs.size := fun a ha => by obtain ⟨o, e⟩ := (hwr a ha).2; exact Heap.lt_size e
  have wrH : ∀ a ∈ wr, a ∉ H := fun a ha m => by obtain ⟨o, e⟩ := st.dom a m; rw [(hwr a ha).1] at e; cases e
  have tailGe : ∀ a ∈ s₂.heap.objs.size :: (s₂.heap.objs.size + 1) :: (cellsFrom (s₂.heap.objs.size + 1 + 1) scope.names []).map (·.2), a ∉ wr := fun a ha m => by
    have lt := wrLt a m
    rcases List.mem_cons.mp ha with e | ha
    · exact absurd lt (by rw [e]; exact Nat.lt_irrefl _)
    · rcases List.mem_cons.mp ha with e | ha
      · exact absurd lt (by rw [e]; exact Nat.not_lt.mpr (Nat.le_succ _))
      · obtain ⟨⟨x, c⟩, hm, rfl⟩ := List.mem_map.mp ha
        exact absurd lt (Nat.not_lt.mpr (Nat.le_trans (Nat.le_trans (Nat.le_succ _) (Nat.le_succ _)) (hcells x c hm)))
  have w4 : W 0 h4 := wk.frame _ _ _ w0 fun b _ o e => keep b o e
  have loop : codeAny (model PG w) A (.compLoop (.ListComp elt [⟨target, iter, ifs, 0⟩] scope pos) 0 (.ref I) (.ref s₂.heap.objs.size) (compEnvC scope (cellsFrom (s₂.heap.objs.size + 1 + 1) scope.names cl) (s₂.heap.objs.size + 1) env))
      (compPost (model PG w) A E use Q (.ref s₂.heap.objs.size) (s₂.heap.objs.size + 1)) { s₂ with heap := h4 } := by
    refine comp_loop (gv := []) (qs := []) (us := []) (H' := (s₂.heap.objs.size :: (s₂.heap.objs.size + 1) :: (cellsFrom (s₂.heap.objs.size + 1 + 1) scope.names []).map (·.2)) ++ H) (T' := s₂.heap.objs.size :: (s₂.heap.objs.size + 1) :: (cellsFrom (s₂.heap.objs.size + 1 + 1) scope.names []).map (·.2)) r rfl rfl ?_ ?_ ?_ ?_ wk (fun bs d hd hbd p hp => hst p.1 (hb d hd bs hbd p hp)) (hl _ _ ⟨_, _, hcl, rfl⟩) (by rw [List.append_nil]; exact F) w4 ?_ ?_ ?_ ⟨_, eD, _, rfl⟩ (isL_nil.mpr rfl) (by simpa using hz) ?_
    · intro a ha
      rcases List.mem_append.mp ha with ha | ha
      · exact ⟨List.mem_append_left _ (List.mem_append_right _ ha), tailGe a ha⟩
      · exact ⟨List.mem_append_right _ ha, fun m => wrH a m ha⟩
    · intro a ha hn
      rcases List.mem_append.mp ha with ha | ha
      · exact List.mem_append_left _ ((List.mem_append.mp ha).resolve_left hn)
      · exact List.mem_append_right _ ha
    · intro a ha; exact ⟨List.mem_append_right _ ha, tailGe a ha⟩
    · intro a ha hn; exact (List.mem_append.mp ha).resolve_left hn
    · intro a ha
      refine ⟨List.mem_append_left _ ha, fun m => ?_, fun p hp => (nomatch hp)⟩
      obtain ⟨o, e⟩ := (hwr a ha).2
      exact wrH a ha (hfr a o e m)
    · intro b hb
      obtain ⟨o, e⟩ := wk.ex _ _ w0 b hb
      refine ⟨hne b o e, fun m => ?_, ?_⟩
      · rcases hfp b hb with h | h
        · exact wrH b h (hfr b o e m)
        · exact h.1 (hfr b o e m)
      · rcases hfp b hb with h | h
        · have n0 := (hwr b h).1
          refine ⟨?_, ?_⟩
          · rintro rfl; obtain ⟨ps, e, _⟩ := st.base.t30; rw [n0] at e; cases e
          · rintro rfl; obtain ⟨ps, e, _⟩ := st.base.t37; rw [n0] at e; cases e
        · exact h.2
    · exact ⟨List.mem_append_right _ (.head _), hDf, fun p hp => (nomatch hp)⟩
    · intro s' us' G hD iD
      rw [List.nil_append] at iD
      have DH : s₂.heap.objs.size ∉ H := fun m => by
        obtain ⟨o, e⟩ := (st.grow g).dom _ m
        exact absurd (Heap.lt_size e) (Nat.lt_irrefl _)
      refine hQ _ _ s' G.grow (G.new _ (.tail _ (.head _))) (Nat.ne_of_lt (Nat.lt_succ_self _)) ?_ (let ⟨m, n, _⟩ := G.st.vars; ⟨m, n⟩) (is_lst.mpr ⟨_, us', rfl, ?_, iD.mono fun b o e => ?_⟩)
      · obtain ⟨m, ⟨o, es, ep, e, _⟩, _⟩ := G.st.vars
        intro q
        have e' : s'.heap.get? (s₂.heap.objs.size + 1) = some o := e
        rw [q] at e'; cases e'
      · obtain ⟨o, e, q⟩ := hD
        refine ⟨o, hid_get.mpr ⟨e, fun m => ?_⟩, q⟩
        rcases List.mem_cons.mp m with m | m
        · exact absurd m (Nat.ne_of_lt (Nat.lt_succ_self _))
        · exact DH m
      · obtain ⟨e1, n1⟩ := hid_get.mp e
        refine hid_get.mpr ⟨e1, fun m => n1 ?_⟩
        rcases List.mem_cons.mp m with m | m
        · rw [m]; exact List.mem_append_left _ (.tail _ (.head _))
        · exact List.mem_append_right _ m
  exact codeAny_compStart_list loop (wk.self r w4 loop)

/-- a comprehension's deep value -/
def CV (w : World) (k : Nat) (env : Env) (Γ : List (Str × D)) (e : Expr) (scope : Scope) (newAcc : Sem Value) (iter : Expr) (d : D) : Prop :=
  ∀ (H : List Addr) (A : Around) (s : Shared) (E : Value → Shared → Prop) (Q : Value → Shared → Prop) (use : Option (Value → Sem Unit)) (pos' : Pos), Room k A → St w env Γ H s →
    (∀ D' C s', Grow s s' → s.heap.get? C = none → D' ≠ C → s'.heap.get? C ≠ none → (∃ m, s'.heap.Ns C m) → Is w (hid (C :: H) s'.heap) d (.ref D') → compPost (model PG w) A E use Q (.ref D') C (.ok .next) s') →
    wpAny (model PG w) A (comprehension e scope env pos' newAcc false (eval iter env) use) Q E s
theorem cv_listK {w : World} {k : Nat} {env : Env} {Γ Γc : List (Str × D)} {elt target iter : Expr} {ifs : List Expr} {scope : Scope} {pos : Pos} {tn : List Str} {ds rs : List D}
    (hi : IE w k env Γ iter ds) (B : BlockOk env scope Γ Γc tn) (hb : ∀ d ∈ ds, ∀ bs, bindsI target d = some bs → ∀ p ∈ bs, p.1 ∈ tn)
    (hl : ∀ C cells, (∃ n cl, clOf env scope.names [] = some cl ∧ cells = cellsFrom n scope.names cl) → CompL w k (compEnvC scope cells C env) Γc target ifs elt ds rs) (hz : ds.length ≤ 1000000) (hs : ∀ x, foldedSetIterable iter env x = pure x := by intro _; rfl) : CV w k env Γ (.ListComp elt [⟨target, iter, ifs, 0⟩] scope pos) scope (newList []) iter (.lst rs) :=
  fun H A s E Q use pos' r st hQ => comp_core r st hi B hb hl hz hs hQ
theorem cv_list {w : World} {k : Nat} {env : Env} {Γ Γc : List (Str × D)} {elt target iter : Expr} {ifs : List Expr} {scope : Scope} {pos : Pos} {tn : List Str} {ds rs : List D}
    (hi : IE w k env Γ iter ds) (B : BlockOk env scope Γ Γc tn) (hb : ∀ d ∈ ds, ∀ bs, bindsI target d = some bs → ∀ p ∈ bs, p.1 ∈ tn)
    (hl : ∀ C cells, CompL w k (compEnvC scope cells C env) Γc target ifs elt ds rs) (hz : ds.length ≤ 1000000) (hs : ∀ x, foldedSetIterable iter env x = pure x := by intro _; rfl) : CV w k env Γ (.ListComp elt [⟨target, iter, ifs, 0⟩] scope pos) scope (newList []) iter (.lst rs) :=
  cv_listK hi B hb (fun C cells _ => hl C cells) hz hs
theorem ev_cv {w : World} {k : Nat} {env : Env} {Γ : List (Str × D)} {e : Expr} {scope : Scope} {newAcc : Sem Value} {iter : Expr} {d : D} {pos' : Pos} (h : CV w k env Γ e scope newAcc iter d) (he : eval e env = comprehension e scope env pos' newAcc false (eval iter env)) : EV w k env Γ e d := by
  intro H A s Q E r st hQ
  rw [he]
  refine h H A s E Q none _ r st fun D' C s' g hC hDC hne hn i => ?_
  obtain ⟨m, n⟩ := hn
  refine ⟨m, n, fun h' hs' => hQ _ _ (g.turn (tk := s'.toks) hs' hC st.base (noCode_ns n)) ?_⟩
  exact (i.mono (hid_same hs' (.head _))).hid_mono fun a h => .tail _ h
theorem ex_cv {w : World} {k : Nat} {env : Env} {Γ : List (Str × D)} {O : Option (Str × D)} {e : Expr} {scope : Scope} {newAcc : Sem Value} {iter : Expr} {d : D} {p spos pos' : Pos} {x : Str} (hcv : CV w k env Γ e scope newAcc iter d) (hx : Stores env O x)
    (he : ∀ u, evalThenUse e env u = (do let _ ← comprehension e scope env pos' newAcc false (eval iter env) (some u))) (hsw : swapsWith e (some (.Name x p)) spos.line env = pure true := by rfl) : EX w k env Γ O (.Assign [.Name x p] e spos) (.next ((x, d) :: Γ) O) := by
  intro A own S pn gv s₀ s Q E r F hQ
  rw [exec_Assign_Name_used _ _ _ _ hsw]
  refine wpAny_bind (wpAny_standAt (wpAny_bind ?_))
  rw [he]
  refine wpAny_bind ?_
  refine hcv _ A s E _ (some (assign (.Name x p) env)) _ r F.st fun D' C s' g hC hDC hne hn i => ?_
  obtain ⟨oC, eC⟩ := Option.ne_none_iff_exists'.mp hne
  have F1 := F.hide (X := [C]) g fun a ha => by rw [List.mem_singleton] at ha; rw [ha]; exact ⟨hC, oC, eC⟩
  have Cn : C ∉ own ++ frameAddrs env := fun m => by obtain ⟨o, e⟩ := F.st.dom C (mem_turn m); rw [hC] at e; cases e
  have C0 : s₀.heap.get? C = none := by
    cases q : s₀.heap.get? C with
    | none => rfl
    | some o =>
      by_cases e1 : C = 30
      · subst e1; obtain ⟨ps, e, _⟩ := F.st.base.t30; rw [hC] at e; cases e
      · by_cases e2 : C = 37
        · subst e2; obtain ⟨ps, e, _⟩ := F.st.base.t37; rw [hC] at e; cases e
        · rw [F.grow.keep C o e1 e2 q] at hC; cases hC
  have C30 : C ≠ 30 ∧ C ≠ 37 := by
    refine ⟨?_, ?_⟩
    · rintro rfl; obtain ⟨ps, e, _⟩ := F.st.base.t30; rw [hC] at e; cases e
    · rintro rfl; obtain ⟨ps, e, _⟩ := F.st.base.t37; rw [hC] at e; cases e
  have F2 := F1.repin (pn' := [(C, oC)]) fun p hp => by rw [List.mem_singleton] at hp; rw [hp]; exact ⟨eC, Cn, C30⟩
  show wpAny _ A (assign (.Name x p) env (.ref D')) _ E s'
  refine wpAny_assign_Name (F2.store hx.1 hx.2.1 hx.2.2 (i.hid_mono fun a ha => ?_) fun s'' F3 _ => ?_)
  · simp only [List.mem_append, List.mem_cons, List.not_mem_nil, or_false] at ha ⊢
    rcases ha with ha | ha | ha | ha
    · exact .inr (.inl ha)
    · exact .inr (.inr (.inl ha))
    · exact .inl ha
    · exact .inr (.inr (.inr ha))
  · obtain ⟨m, n⟩ := hn
    have eC' : s''.heap.get? C = some oC := (F3.pin (C, oC) (.head _)).1
    refine ⟨m, ?_, fun h' hs' => wpAny_pure (wpAny_pure (hQ own _ ?_))⟩
    · obtain ⟨o, es, ep, e, q⟩ := n
      rw [eC] at e; cases e
      exact ⟨_, es, ep, eC', q⟩
    · have nC : NoCode s''.heap C := by
        obtain ⟨o, es, ep, e, q⟩ := n
        rw [eC] at e; cases e
        exact noCode_of eC' fun vs hv => by rw [q.1] at hv; cases hv
      have := (F3.unpin (pn' := [(C, oC)])).iter (S' := S) (wr := [C]) (h' := h') (tk := s''.toks) (fun a h => .tail _ h) (fun a h hn => (List.mem_cons.mp h).elim (fun e => absurd (by rw [e]; exact .head _) hn) id) (fun a h => by rw [List.mem_singleton] at h; rw [h]; exact .head _) (fun b o hb e => hs'.extBut b o (fun q => hb (by rw [q]; exact .head _)) e) (fun b hb hb' => ?_) (fun b hb => ?_) (fun b hb => by rw [List.mem_singleton] at hb; rw [hb]; exact nC)
      · exact this
      · rw [List.mem_singleton] at hb'
        obtain ⟨o, e⟩ := F.st.dom b (List.mem_append_right _ (List.mem_append_right _ hb))
        rw [hb', hC] at e; cases e
      · rw [List.mem_singleton] at hb
        rw [hb]
        exact ⟨Cn, C0, fun p hp e => by have := (F.pin p hp).1; rw [e, hC] at this; cases this⟩

section
variable {w : World} {A : Around} {E : Value → Shared → Prop} {R : Result → Shared → Prop} {s : Shared}
theorem compTurn_more {elt target iter target' iter' : Expr} {ifs ifs' : List Expr} {gens : List Comprehension} {depth : Nat} {scope : Scope} {pos : Pos} {it acc : Value} {env : Env} (hg : gens[depth]? = some ⟨target, iter, ifs, 0⟩) (hn : gens[depth + 1]? = some ⟨target', iter', ifs', 0⟩) :
    compTurn (.ListComp elt gens scope pos) depth it acc env = (do
      standAt iter.pos
      match ← pyNext it with
      | none => pure (.done .next)
      | some v =>
        letOwnedTupleGo target it v
        assign target env v
        let ok ← forIn ifs true fun c r => if r = true then do let ok ← isTrue c env (eval c env); pure (ForInStep.yield ok) else pure (ForInStep.yield r)
        if ok = true then do
          let x ← eval iter' env
          standAt iter'.pos
          let x ← foldedSetIterable iter' env x
          let it' ← holding [x] (pyIter x)
          let _ ← runOwn (.compStart (.ListComp elt gens scope pos) (depth + 1) it' acc env) env
          again (.compLoop (.ListComp elt gens scope pos) depth it acc env)
        else again (.compLoop (.ListComp elt gens scope pos) depth it acc env)) := by
  unfold compTurn
  simp only [hg, hn]
  rfl
theorem codeAny_comp2 {elt target iter target' iter' : Expr} {ifs ifs' : List Expr} {gens : List Comprehension} {depth : Nat} {scope : Scope} {pos : Pos} {it acc : Value} {env : Env} (hg : gens[depth]? = some ⟨target, iter, ifs, 0⟩) (hn : gens[depth + 1]? = some ⟨target', iter', ifs', 0⟩) (hs : ∀ x, foldedSetIterable iter' env x = pure x) (I : Nat → Shared → Prop)
    (turn : ∀ n s E, I n s → wpAny (model PG w) A (pyNext it) (fun r s₁ => match r with
      | none => R (.ok .next) s₁
      | some v => wpAny (model PG w) A (letOwnedTupleGo target it v) (fun _ s₁' => wpAny (model PG w) A (assign target env v) (fun _ s₂ =>
          wpAny (model PG w) A (forIn ifs true fun c r => if r = true then do let ok ← isTrue c env (eval c env); pure (ForInStep.yield ok) else pure (ForInStep.yield r)) (fun ok s₃ =>
            if ok = true then wpAny (model PG w) A (eval iter' env) (fun x s₄ => wpAny (model PG w) A (pyIter x) (fun it' s₅ =>
              codeAny (model PG w) A (.compStart (.ListComp elt gens scope pos) (depth + 1) it' acc env) (fun r s₆ => r = .ok .next ∧ ∃ m, m < n ∧ I m s₆) s₅) E s₄) E s₃
            else ∃ m, m < n ∧ I m s₃) E s₂) E s₁') E s₁) E s)
    (n : Nat) (h : I n s) :
    codeAny (model PG w) A (.compLoop (.ListComp elt gens scope pos) depth it acc env) R s := by
  refine codeAny_loop rfl I (fun n s hI => ?_) n h
  show wpAny _ A ((compTurn (.ListComp elt gens scope pos) depth it acc env).onRaise (fun x => do noteFrame x env; theTreesLotGoes x)) _ _ s
  refine wpAny_noted ?_
  rw [compTurn_more hg hn]
  refine wpAny_bind (wpAny_standAt (wpAny_bind (wpAny_mono (turn n s _ hI) (fun r s₁ h₁ => ?_) fun _ _ h' => h')))
  cases r with
  | none => exact wpAny_pure h₁
  | some v =>
    refine wpAny_bind (wpAny_mono h₁ (fun _ s₁' h₁' => ?_) fun _ _ h' => h')
    refine wpAny_bind (wpAny_mono h₁' (fun _ s₂ h₂ => wpAny_bind (wpAny_mono h₂ (fun ok s₃ h₃ => ?_) fun _ _ h' => h')) fun _ _ h' => h')
    cases ok with
    | false => exact wpAny_pure ⟨rfl, h₃⟩
    | true =>
      refine wpAny_bind (wpAny_mono h₃ (fun x s₄ h₄ => wpAny_bind (wpAny_standAt (wpAny_bind (wpAny_of_eq (hs x) (wpAny_bind (wpAny_holding (wpAny_mono h₄ (fun it' s₅ h₅ => ?_) fun _ _ h' => h'))))))) fun _ _ h' => h')
      refine wpAny_bind (wpAny_runOwn (codeAny_mono h₅ fun r s₆ h₆ => ?_))
      obtain ⟨rfl, h₆⟩ := h₆
      exact wpAny_pure ⟨rfl, h₆⟩
theorem codeAny_compStart_at {elt target iter : Expr} {ifs : List Expr} {gens : List Comprehension} {depth : Nat} {scope : Scope} {pos : Pos} {it acc : Value} {env : Env} (hg : gens[depth]? = some ⟨target, iter, ifs, 0⟩)
    (h0 : codeAny (model PG w) A (.compLoop (.ListComp elt gens scope pos) depth it acc env) R s)
    (h : ∀ E, wpAny (model PG w) A (pyIter it) (fun it' s' => codeAny (model PG w) A (.compLoop (.ListComp elt gens scope pos) depth it' acc env) R s') E s) :
    codeAny (model PG w) A (.compStart (.ListComp elt gens scope pos) depth it acc env) R s := by
  refine codeAny_of_tree ?_
  show wpAny _ _ ((compStart (.ListComp elt gens scope pos) depth it acc env).onRaise (fun x => do noteFrame x env; standAt theWindowsPlace)) _ _ s
  refine wpAny_notedAt ?_
  have hcl : (clausesOf (.ListComp elt gens scope pos))[depth]? = some ⟨target, iter, ifs, 0⟩ := hg
  unfold compStart
  simp only [hcl]
  show wpAny _ _ (ask >>= _) _ _ s
  refine wpAny_bind (wpAny_askSetting (wpAny_ite ?_))
  split
  · first
      | exact wpAny_bind (wpAny_pure (wpAny_pure (And.intro rfl h0)))
      | exact wpAny_pure (And.intro rfl h0)
  · refine wpAny_bind (wpAny_rule ?_)
    first
      | exact wpAny_bind (wpAny_standAt (wpAny_bind (wpAny_mono (h _) (fun it' s' h' => wpAny_pure (And.intro rfl h')) fun _ _ e => e)))
      | exact wpAny_bind (wpAny_standAt (wpAny_bind (wpAny_mono (h _) (fun it' s' h' => wpAny_pure (And.intro rfl h')) fun _ _ e => e)))
end

section
variable {w : World} {k : Nat} {env : Env} {Γ Γ' : List (Str × D)} {H T : List Addr} {pn : List (Addr × Obj)} {gv : List (D × Value)} {s₀ s : Shared}
theorem Cm.hide (F : Cm w env H T pn gv s₀ Γ s) {s' : Shared} {X : List Addr} (g : Grow s s') (hx : ∀ a ∈ X, s.heap.get? a = none ∧ ∃ o, s'.heap.get? a = some o) : Cm w env (X ++ H) (X ++ T) pn gv s₀ Γ s' := by
  have F' := F.grew g
  have X0 : ∀ a ∈ X, s₀.heap.get? a = none := fun a ha => by
    cases q : s₀.heap.get? a with
    | none => rfl
    | some o =>
      have h1 := (hx a ha).1
      by_cases e1 : a = 30
      · subst e1; obtain ⟨ps, e, _⟩ := F.st.base.t30; rw [h1] at e; cases e
      · by_cases e2 : a = 37
        · subst e2; obtain ⟨ps, e, _⟩ := F.st.base.t37; rw [h1] at e; cases e
        · rw [F.grow.keep a o e1 e2 q] at h1; cases h1
  have up : ∀ b o, (hid H s.heap).get? b = some o → (hid (X ++ H) s'.heap).get? b = some o := fun b o e => by
    obtain ⟨e1, n1⟩ := hid_get.mp (hid_grow g F.st.tabs b o e)
    refine hid_get.mpr ⟨e1, fun m => ?_⟩
    rcases List.mem_append.mp m with m | m
    · have := (hx b m).1; rw [(hid_get.mp e).1] at this; cases this
    · exact n1 m
  have cX : ∀ x c, (x, c) ∈ env.cells → c ∉ X := fun x c hc m => by
    obtain ⟨o, e⟩ := F.st.dom c (F.st.cel x c hc).2.2
    rw [(hx c m).1] at e; cases e
  refine ⟨F.base0, F'.grow, ⟨F'.st.ok, F'.st.base, ⟨List.mem_append_right _ F.st.tabs.1, List.mem_append_right _ F.st.tabs.2⟩, fun a ha => ?_, ⟨F.st.loc.1, F.st.loc.2.1, List.mem_append_right _ F.st.loc.2.2⟩, fun x c hc => ⟨(F.st.cel x c hc).1, (F.st.cel x c hc).2.1, List.mem_append_right _ (F.st.cel x c hc).2.2⟩, ?_⟩, fun a ha => ?_, fun a ha => ?_, List.mem_append_right _ F.loc, ⟨F.apart.1, fun x c hc hcT y c' hc' e => F.apart.2 x c hc ((List.mem_append.mp hcT).resolve_left (cX x c hc)) y c' hc' e⟩, fun x c hc hcT => F'.cells x c hc ((List.mem_append.mp hcT).resolve_left (cX x c hc)), F'.pin, fun p hp => (F.ghost p hp).mono up⟩
  · rcases List.mem_append.mp ha with ha | ha
    · exact (hx a ha).2
    · exact F'.st.dom a ha
  · obtain ⟨m, n, vr⟩ := F.st.vars
    obtain ⟨m', n', vr'⟩ := F'.st.vars
    have em : m' = m := by
      obtain ⟨o, es, ep, e, r⟩ := n
      exact ns_unique n' ⟨o, es, ep, g.keep _ o F.st.loc.1 F.st.loc.2.1 e, r⟩
    subst em
    refine ⟨m', n', fun x d hx => ?_⟩
    obtain ⟨h1, v, hv, iv⟩ := vr x d hx
    refine ⟨h1, v, held_other hv (fun _ => rfl) fun c hc _ u hu => ?_, iv.mono up⟩
    obtain ⟨oc, ec, rc⟩ := hu
    have := F.st.cel x c (mem_of_lookup hc)
    exact ⟨oc, g.keep c oc this.1 this.2.1 ec, rc⟩
  · exact (List.mem_append.mp ha).elim (X0 a) (F.new a)
  · exact (List.mem_append.mp ha).elim (fun h => List.mem_append_left _ h) fun h => List.mem_append_right _ (F.subT a h)
end

theorem CompL.length {w : World} {k : Nat} {env : Env} {Γ : List (Str × D)} {target : Expr} {ifs : List Expr} {elt : Expr} {ds rs : List D} (h : CompL w k env Γ target ifs elt ds rs) : rs.length ≤ ds.length := by
  induction h with
  | nil => exact Nat.le_refl _
  | keep _ _ _ _ _ ih => exact Nat.succ_le_succ ih
  | skip _ _ _ _ ih => exact Nat.le_succ_of_le ih

/-- what a list comprehension of two clauses makes -/
inductive CompL2 (w : World) (k : Nat) (env : Env) (Γ : List (Str × D)) (target : Expr) (ifs : List Expr) (iter' target' : Expr) (ifs' : List Expr) (elt : Expr) : List D → List D → Prop where
  | nil : CompL2 w k env Γ target ifs iter' target' ifs' elt [] []
  | turn {d : D} {ds ds₁ rs₁ rs : List D} {bs : List (Str × D)} : bindsI target d = some bs → (∀ p ∈ bs, Γ.lookup p.1 = none) → TVs w k env (bs ++ Γ) ifs true → IE w k env (bs ++ Γ) iter' ds₁ → ds₁.length ≤ 1000 → CompL w k env (bs ++ Γ) target' ifs' elt ds₁ rs₁ →
      CompL2 w k env Γ target ifs iter' target' ifs' elt ds rs → CompL2 w k env Γ target ifs iter' target' ifs' elt (d :: ds) (rs₁ ++ rs)

theorem comp_loop2 {w : World} {k : Nat} {env : Env} {Γ : List (Str × D)} {target iter target' iter' elt : Expr} {ifs ifs' : List Expr} {gens : List Comprehension} {depth : Nat} {scope : Scope} {pos : Pos} {A : Around} {R : Result → Shared → Prop} {H T : List Addr} {gv : List (D × Value)} {s₀ s : Shared}
    {I Dd : Addr} {fp wr : List Addr} {gs : List (D × Value)} {ds rs qs : List D} {us : List Value} {W : Nat → Heap → Prop} {H' T' : List Addr}
    (r : Room k A) (hg : gens[depth]? = some ⟨target, iter, ifs, 0⟩) (hn : gens[depth + 1]? = some ⟨target', iter', ifs', 0⟩) (hn2 : gens[depth + 1 + 1]? = none) (hfold : ∀ x, foldedSetIterable iter' env x = pure x) (hH1 : ∀ a ∈ H', a ∈ H ∧ a ∉ wr) (hH2 : ∀ a ∈ H, a ∉ wr → a ∈ H') (hT1 : ∀ a ∈ T', a ∈ T ∧ a ∉ wr) (hT2 : ∀ a ∈ T, a ∉ wr → a ∈ T') (wk : Wlk w I fp wr gs ds W)
    (hst : ∀ bs d, d ∈ ds → bindsI target d = some bs → ∀ p ∈ bs, CStores env T p.1) (hst' : ∀ bs d, bindsI target' d = some bs → ∀ p ∈ bs, ∀ X, CStores env (X ++ T) p.1) (hl : CompL2 w k env Γ target ifs iter' target' ifs' elt ds rs)
    (F : Cm w env H T [] (gs ++ gv) s₀ Γ s) (w0 : W 0 s.heap) (hwr : ∀ a ∈ wr, a ∈ T ∧ a ∉ frameAddrs env) (hfp : ∀ b ∈ fp, b ≠ Dd ∧ b ∉ frameAddrs env ∧ b ≠ 30 ∧ b ≠ 37) (hDT : Dd ∈ T ∧ Dd ∉ frameAddrs env)
    (hD : Ls s.heap Dd (List.toArray us)) (iD : IsL w (hid H s.heap) qs us) (hz : qs.length + 1000 * ds.length ≤ 900000)
    (hR : ∀ s' us', Cm w env H' T' [] gv s₀ Γ s' → Ls s'.heap Dd (List.toArray us') → IsL w (hid H' s'.heap) (qs ++ rs) us' → R (.ok .next) s') :
    codeAny (model PG w) A (.compLoop (.ListComp elt gens scope pos) depth (.ref I) (.ref Dd) env) R s := by
  have D30 : Dd ≠ 30 ∧ Dd ≠ 37 := by
    have n0 := F.new Dd hDT.1
    refine ⟨?_, ?_⟩
    · rintro rfl; obtain ⟨ps, e, _⟩ := F.base0.t30; rw [n0] at e; cases e
    · rintro rfl; obtain ⟨ps, e, _⟩ := F.base0.t37; rw [n0] at e; cases e
  have hwr' : ∀ a ∈ wr, a ∈ T ∧ a ∉ frameAddrs env ∧ ∀ p ∈ ([] : List (Addr × Obj)), p.1 ≠ a := fun a ha => ⟨(hwr a ha).1, (hwr a ha).2, fun p hp => (nomatch hp)⟩
  refine codeAny_comp2 hg hn hfold (fun n st => ∃ i qs' us' rs', n = ds.length + 1 - i ∧ i ≤ ds.length ∧ W i st.heap ∧ Cm w env H T [] (gs ++ gv) s₀ Γ st ∧ Ls st.heap Dd (List.toArray us') ∧ IsL w (hid H st.heap) qs' us' ∧ CompL2 w k env Γ target ifs iter' target' ifs' elt (ds.drop i) rs' ∧ qs' ++ rs' = qs ++ rs ∧ qs'.length + 1000 * (ds.length - i) ≤ 900000) (fun n st E hI => ?_) (ds.length + 1) ⟨0, qs, us, rs, rfl, Nat.zero_le _, w0, F, hD, iD, hl, rfl, hz⟩
  clear F w0 hD iD hl
  obtain ⟨i, qs', us', rs', rfl, hi, Wi, F, hD, iD, hl, hq, hz'⟩ := hI
  cases hdr : ds.drop i with
  | nil =>
    have hlen : i = ds.length := Nat.le_antisymm hi (by simpa using hdr)
    subst hlen
    rw [hdr] at hl
    cases hl
    rw [List.append_nil] at hq
    subst hq
    have hDw : Dd ∉ wr := fun m => (hfp Dd (wk.sub Dd m)).1 rfl
    refine wk.done r F.st.base Wi fun h' tk hk => hR _ us' (F.unghost.drop hwr' hk hH1 hH2 hT1 hT2 (wk.noCode _ _ Wi)) (by obtain ⟨o, e, q⟩ := hD; exact ⟨o, hk Dd o hDw e, q⟩) (iD.mono fun b o e => ?_)
    obtain ⟨e1, n1⟩ := hid_get.mp e
    exact hid_get.mpr ⟨hk b o (fun m => n1 (F.subT b (hwr b m).1)) e1, fun m => n1 (hH1 b m).1⟩
  | cons d ds' =>
    have hd : ds[i]? = some d := by
      have : (ds.drop i)[0]? = some d := by rw [hdr]; rfl
      simpa using this
    have hlt : i < ds.length := (List.getElem?_eq_some_iff.mp hd).1
    have hdr' : ds.drop (i + 1) = ds' := by
      have := congrArg List.tail hdr
      simpa using this
    rw [hdr] at hl
    have hmem : d ∈ ds := List.mem_of_getElem? hd
    have hbd : bindsI target d ≠ none := by
      cases hl with
      | turn hb _ _ _ _ _ _ => rw [hb]; exact fun h => nomatch h
    refine wpAny_mono (wk.item (t := target) r F.st.base F.st.tabs F.st.dom (fun b hb => F.subT b (hwr b hb).1) (fun p hp => F.ghost p (List.mem_append_left _ hp)) hd hbd Wi (Q := fun v s₁ => wpAny (model PG w) A (assign target env v) (fun _ s₂ =>
          wpAny (model PG w) A (forIn ifs true fun c r => if r = true then do let ok ← isTrue c env (eval c env); pure (ForInStep.yield ok) else pure (ForInStep.yield r)) (fun ok s₃ =>
            if ok = true then wpAny (model PG w) A (eval iter' env) (fun x s₄ => wpAny (model PG w) A (pyIter x) (fun it' s₅ =>
              codeAny (model PG w) A (.compStart (.ListComp elt gens scope pos) (depth + 1) it' (.ref Dd) env) (fun r s₆ => r = .ok .next ∧ ∃ m, m < ds.length + 1 - i ∧ ∃ i qs' us' rs', m = ds.length + 1 - i ∧ i ≤ ds.length ∧ W i s₆.heap ∧ Cm w env H T [] (gs ++ gv) s₀ Γ s₆ ∧ Ls s₆.heap Dd (List.toArray us') ∧ IsL w (hid H s₆.heap) qs' us' ∧ CompL2 w k env Γ target ifs iter' target' ifs' elt (ds.drop i) rs' ∧ qs' ++ rs' = qs ++ rs ∧ qs'.length + 1000 * (ds.length - i) ≤ 900000) s₅) E s₄) E s₃
            else ∃ m, m < ds.length + 1 - i ∧ ∃ i qs' us' rs', m = ds.length + 1 - i ∧ i ≤ ds.length ∧ W i s₃.heap ∧ Cm w env H T [] (gs ++ gv) s₀ Γ s₃ ∧ Ls s₃.heap Dd (List.toArray us') ∧ IsL w (hid H s₃.heap) qs' us' ∧ CompL2 w k env Γ target ifs iter' target' ifs' elt (ds.drop i) rs' ∧ qs' ++ rs' = qs ++ rs ∧ qs'.length + 1000 * (ds.length - i) ≤ 900000) E s₂) E s₁) fun v h' tk hk hex W' iv => ?_) (fun r s₁ q => ?_) fun _ _ q => q
    · have F1 : Cm w env H T [] (gs ++ gv) s₀ Γ { st with heap := h', toks := tk } := F.turned (wr := wr) hwr' hk hex (wk.noCode _ _ Wi)
      have hDw : Dd ∉ wr := fun m => (hfp Dd (wk.sub Dd m)).1 rfl
      have hD1 : Ls h' Dd (List.toArray us') := by obtain ⟨o, e, q⟩ := hD; exact ⟨o, hk Dd o hDw e, q⟩
      have iD1 : IsL w (hid H h') qs' us' := iD.mono fun b o e => by
        obtain ⟨e1, n1⟩ := hid_get.mp e
        exact hid_get.mpr ⟨hk b o (fun m => n1 (F.subT b (hwr b m).1)) e1, n1⟩
      obtain ⟨oD, eD, qD⟩ := hD1
      -- pins: what the outer walk reads; and, for now, the accumulator
      have Fp := F1.repin (pn' := fp.filterMap fun b => (h'.get? b).map fun o => (b, o)) fun p hp => by
        obtain ⟨b, hb, e⟩ := List.mem_filterMap.mp hp
        obtain ⟨o, e1, rfl⟩ := Option.map_eq_some_iff.mp e
        exact ⟨e1, (hfp b hb).2⟩
      have F2 := Fp.repin (pn' := [(Dd, oD)]) fun p hp => by
        rw [List.mem_singleton] at hp; rw [hp]; exact ⟨eD, hDT.2, D30⟩
      have F3 := F2.reghost (gv' := qs'.zip us') fun p hp => (isL_zip.mp iD1).2 p hp
      cases hl with
      | turn hb hnb ht hie hz1 hin hl2 =>
        rename_i ds₁ rs₁ rs₂ bs
        refine wp_assignI sto_cm r.1 hb (hst _ d hmem hb) F3 iv fun s₂ F4 => wp_tests ht r F4.st fun s₃ g₃ => ?_
        simp only [if_true]
        have F5 := F4.grew g₃
        refine hie H A s₃ _ E r F5.st fun I1 fp1 wr1 gs1 W1 s₅ g5 wk1 w1 hwr1 hfp1 hgs1 => ?_
        have eD5 : (F5.grew g5).pin (Dd, oD) (List.mem_append_left _ (.head _)) = (F5.grew g5).pin (Dd, oD) (List.mem_append_left _ (.head _)) := rfl
        have hD5 : s₅.heap.get? Dd = some oD := ((F5.grew g5).pin (Dd, oD) (List.mem_append_left _ (.head _))).1
        have F6 := (F5.hide (X := wr1) g5 hwr1)
        have iD5 : IsL w (hid (wr1 ++ H) s₅.heap) qs' us' := isL_zip.mpr ⟨(isL_zip.mp iD1).1, fun p hp => F6.ghost p (List.mem_append_left _ hp)⟩
        have F7 := (F6.unpin (pn' := [(Dd, oD)])).unghost
        have F8 : Cm w env (wr1 ++ H) (wr1 ++ T) ((fp.filterMap fun b => (h'.get? b).map fun o => (b, o)) ++ []) (gs1 ++ (gs ++ gv)) s₀ (bs ++ Γ) s₅ := F7.reghost (gv' := gs1) hgs1
        have pinNe : ∀ b ∈ wr1, ∀ p ∈ (fp.filterMap fun b => (h'.get? b).map fun o => (b, o)) ++ ([] : List (Addr × Obj)), p.1 ≠ b := fun b hb p hp e => by
          have := (F5.unpin (pn' := [(Dd, oD)])).pin p hp
          rw [e, (hwr1 b hb).1] at this; cases this.1
        have exIn : ∀ b ∈ fp1, b ≠ Dd ∧ b ∉ frameAddrs env ∧ b ≠ 30 ∧ b ≠ 37 := fun b hb => by
          rcases hfp1 b hb with h | h
          · have n0 := (hwr1 b h).1
            refine ⟨?_, fun m => ?_, ?_, ?_⟩
            · rintro rfl; have := (F5.pin (b, oD) (List.mem_append_left _ (.head _))).1; rw [n0] at this; cases this
            · have hm : b ∈ H := by
                rcases List.mem_cons.mp m with m | m
                · rw [m]; exact F5.st.loc.2.2
                · obtain ⟨⟨x, c⟩, hm, rfl⟩ := List.mem_map.mp m; exact (F5.st.cel x c hm).2.2
              obtain ⟨o, e⟩ := F5.st.dom b hm; rw [n0] at e; cases e
            · rintro rfl; obtain ⟨ps, e, _⟩ := F5.st.base.t30; rw [n0] at e; cases e
            · rintro rfl; obtain ⟨ps, e, _⟩ := F5.st.base.t37; rw [n0] at e; cases e
          · refine ⟨?_, fun m => ?_, h.2⟩
            · rintro rfl; exact h.1 (F5.subT b hDT.1)
            · rcases List.mem_cons.mp m with m | m
              · rw [m] at h; exact h.1 F5.st.loc.2.2
              · obtain ⟨⟨x, c⟩, hm, rfl⟩ := List.mem_map.mp m; exact h.1 (F5.st.cel x c hm).2.2
        have wr1fr : ∀ b ∈ wr1, b ∉ frameAddrs env := fun b hb => (exIn b (wk1.sub b hb)).2.1
        have wr1H : ∀ b ∈ wr1, b ∉ H := fun b hb m => by obtain ⟨o, e⟩ := F5.st.dom b m; rw [(hwr1 b hb).1] at e; cases e
        have loop : codeAny (model PG w) A (.compLoop (.ListComp elt gens scope pos) (depth + 1) (.ref I1) (.ref Dd) env) (fun r s₆ => r = .ok .next ∧ ∃ m, m < ds.length + 1 - i ∧ ∃ i qs' us' rs', m = ds.length + 1 - i ∧ i ≤ ds.length ∧ W i s₆.heap ∧ Cm w env H T [] (gs ++ gv) s₀ Γ s₆ ∧ Ls s₆.heap Dd (List.toArray us') ∧ IsL w (hid H s₆.heap) qs' us' ∧ CompL2 w k env Γ target ifs iter' target' ifs' elt (ds.drop i) rs' ∧ qs' ++ rs' = qs ++ rs ∧ qs'.length + 1000 * (ds.length - i) ≤ 900000) s₅ := by
          refine comp_loop (H' := H) (T' := T) r hn hn2 (fun a ha => ⟨List.mem_append_right _ ha, fun m => wr1H a m ha⟩) (fun a ha hna => (List.mem_append.mp ha).resolve_left hna) (fun a ha => ⟨List.mem_append_right _ ha, fun m => wr1H a m (F5.subT a ha)⟩) (fun a ha hna => (List.mem_append.mp ha).resolve_left hna) wk1 (fun bs d _ hbd p hp => hst' bs d hbd p hp wr1) hin F8 w1 (fun a ha => ⟨List.mem_append_left _ ha, wr1fr a ha, pinNe a ha⟩) exIn ⟨List.mem_append_right _ hDT.1, hDT.2, fun p hp => ?_⟩ ⟨oD, hD5, qD⟩ iD5 (by omega) ?_
          · rw [List.append_nil] at hp
            obtain ⟨b, hb, e⟩ := List.mem_filterMap.mp hp
            obtain ⟨o, e1, rfl⟩ := Option.map_eq_some_iff.mp e
            exact (hfp b hb).1
          · intro s' us₂ G hD2 iD2
            have hlr := hin.length
            refine ⟨rfl, ds.length + 1 - (i + 1), by omega, i + 1, qs' ++ rs₁, us₂, rs₂, rfl, hlt, wk.frame _ _ _ W' fun b hb o e => (G.pin (b, o) (by rw [List.append_nil]; exact List.mem_filterMap.mpr ⟨b, hb, by rw [e]; rfl⟩)).1, G.unpin.weaken (lookup_behind hnb), hD2, iD2, hdr' ▸ hl2, by rw [List.append_assoc]; exact hq, by rw [List.length_append]; omega⟩
        exact codeAny_compStart_at hn loop fun E' => wk1.self r w1 loop
    · obtain ⟨v, rfl, q⟩ := q
      exact q _
theorem comp_core2 {w : World} {k : Nat} {env : Env} {Γ Γc : List (Str × D)} {H : List Addr} {s : Shared} {elt target iter target' iter' : Expr} {ifs ifs' : List Expr} {scope : Scope} {pos pos' : Pos} {tn : List Str} {ds rs : List D} {A : Around} {E : Value → Shared → Prop} {Q : Value → Shared → Prop} {use : Option (Value → Sem Unit)}
    (r : Room k A) (st : St w env Γ H s) (hi : IE w k env Γ iter ds) (B : BlockOk env scope Γ Γc tn) (hb : ∀ d ∈ ds, ∀ bs, bindsI target d = some bs → ∀ p ∈ bs, p.1 ∈ tn) (hb' : ∀ d bs, bindsI target' d = some bs → ∀ p ∈ bs, p.1 ∈ tn)
    (hl : ∀ C cells, CompL2 w k (compEnvC scope cells C env) Γc target ifs iter' target' ifs' elt ds rs) (hz : 1000 * ds.length ≤ 900000) (hs : ∀ x, foldedSetIterable iter env x = pure x) (hs' : ∀ cenv x, foldedSetIterable iter' cenv x = pure x)
    (hQ : ∀ D' C s', Grow s s' → s.heap.get? C = none → D' ≠ C → s'.heap.get? C ≠ none → (∃ m, s'.heap.Ns C m) → Is w (hid (C :: H) s'.heap) (.lst rs) (.ref D') → compPost (model PG w) A E use Q (.ref D') C (.ok .next) s') :
    wpAny (model PG w) A (comprehension (.ListComp elt [⟨target, iter, ifs, 0⟩, ⟨target', iter', ifs', 0⟩] scope pos) scope env pos' (newList []) false (eval iter env) use) Q E s := by
  obtain ⟨cl, hcl⟩ := Option.isSome_iff_exists.mp B.clo
  refine wpAny_comprehension_free rfl hs (closureFor_of hcl) B.kind (fun x hx hlx => lookup_of_mem B.names (by rw [← hlx]; exact hx)) (hi H A s _ E r st fun I fp wr gs W s₂ g wk w0 hwr hfp hgs => ?_)
  refine wpAny_newList ?_ (by decide)
  refine wp_compEnv ?_
  have size1 : (s₂.heap.push { cls := .type "list", data := .seq ([] : List Value).toArray }).objs.size = s₂.heap.objs.size + 1 := Heap.size_push ..
  dsimp only
  rw [size1]
  obtain ⟨F, hst, keep, eD, hDf, hne, hfr⟩   := comp_enter (k := k) (tn := tn) (acc := { cls := .type "list", data := .seq ([] : List Value).toArray }) st B hcl g hwr hgs rfl (Dd := s₂.heap.objs.size) (C := s₂.heap.objs.size + 1) rfl rfl rfl rfl
  generalize hh4 : pushCells ((s₂.heap.push { cls := .type "list", data := .seq ([] : List Value).toArray }).push { cls := .type "dict", data := .dict #[] }) scope.names = h4 at F hst keep eD ⊢
  have hcells : ∀ x c, (x, c) ∈ cellsFrom (s₂.heap.objs.size + 1 + 1) scope.names [] → s₂.heap.objs.size + 1 + 1 ≤ c := fun x c hm => by
    have ok := cellsFrom_ok scope.names ((s₂.heap.push { cls := .type "list", data := .seq ([] : List Value).toArray }).push { cls := .type "dict", data := .dict #[] }) (s₂.heap.objs.size + 1 + 1) [] ⟨fun _ _ hm => (nomatch hm), List.Pairwise.nil⟩ (by rw [Heap.size_push, size1]; exact Nat.le_refl _)
    rw [Heap.size_push, size1] at ok
    exact (ok.empty x c hm).2
  have wrLt : ∀ a ∈ wr, a < s₂.heap.objs.size := fun a ha => by obtain ⟨o, e⟩ := (hwr a ha).2; exact Heap.lt_size e
  have wrH : ∀ a ∈ wr, a ∉ H := fun a ha m => by obtain ⟨o, e⟩ := st.dom a m; rw [(hwr a ha).1] at e; cases e
  have tailGe : ∀ a ∈ s₂.heap.objs.size :: (s₂.heap.objs.size + 1) :: (cellsFrom (s₂.heap.objs.size + 1 + 1) scope.names []).map (·.2), a ∉ wr := fun a ha m => by
    have lt := wrLt a m
    rcases List.mem_cons.mp ha with e | ha
    · exact absurd lt (by rw [e]; exact Nat.lt_irrefl _)
    · rcases List.mem_cons.mp ha with e | ha
      · exact absurd lt (by rw [e]; exact Nat.not_lt.mpr (Nat.le_succ _))
      · obtain ⟨⟨x, c⟩, hm, rfl⟩ := List.mem_map.mp ha
        exact absurd lt (Nat.not_lt.mpr (Nat.le_trans (Nat.le_trans (Nat.le_succ _) (Nat.le_succ _)) (hcells x c hm)))
  have w4 : W 0 h4 := wk.frame _ _ _ w0 fun b _ o e => keep b o e
  have loop : codeAny (model PG w) A (.compLoop (.ListComp elt [⟨target, iter, ifs, 0⟩, ⟨target', iter', ifs', 0⟩] scope pos) 0 (.ref I) (.ref s₂.heap.objs.size) (compEnvC scope (cellsFrom (s₂.heap.objs.size + 1 + 1) scope.names cl) (s₂.heap.objs.size + 1) env))
      (compPost (model PG w) A E use Q (.ref s₂.heap.objs.size) (s₂.heap.objs.size + 1)) { s₂ with heap := h4 } := by
    refine comp_loop2 (gv := []) (qs := []) (us := []) (H' := (s₂.heap.objs.size :: (s₂.heap.objs.size + 1) :: (cellsFrom (s₂.heap.objs.size + 1 + 1) scope.names []).map (·.2)) ++ H) (T' := s₂.heap.objs.size :: (s₂.heap.objs.size + 1) :: (cellsFrom (s₂.heap.objs.size + 1 + 1) scope.names []).map (·.2)) r rfl rfl rfl (hs' _) ?_ ?_ ?_ ?_ wk (fun bs d hd hbd p hp => hst p.1 (hb d hd bs hbd p hp)) (fun bs d hbd p hp X => ?hcs) (hl _ _) (by rw [List.append_nil]; exact F) w4 ?_ ?_ ?_ ⟨_, eD, _, rfl⟩ (isL_nil.mpr rfl) (by simpa using hz) ?_
    case hcs =>
      obtain ⟨h1, h2⟩ := hst p.1 (hb' d bs hbd p hp)
      exact ⟨h1.imp id fun ⟨a, ⟨c, hc, hcT⟩, b⟩ => ⟨a, ⟨c, hc, List.mem_append_right _ hcT⟩, b⟩, h2⟩
    · intro a ha
      rcases List.mem_append.mp ha with ha | ha
      · exact ⟨List.mem_append_left _ (List.mem_append_right _ ha), tailGe a ha⟩
      · exact ⟨List.mem_append_right _ ha, fun m => wrH a m ha⟩
    · intro a ha hn
      rcases List.mem_append.mp ha with ha | ha
      · exact List.mem_append_left _ ((List.mem_append.mp ha).resolve_left hn)
      · exact List.mem_append_right _ ha
    · intro a ha; exact ⟨List.mem_append_right _ ha, tailGe a ha⟩
    · intro a ha hn; exact (List.mem_append.mp ha).resolve_left hn
    · intro a ha
      refine ⟨List.mem_append_left _ ha, fun m => ?_⟩
      obtain ⟨o, e⟩ := (hwr a ha).2
      exact wrH a ha (hfr a o e m)
    · intro b hb
      obtain ⟨o, e⟩ := wk.ex _ _ w0 b hb
      refine ⟨hne b o e, fun m => ?_, ?_⟩
      · rcases hfp b hb with h | h
        · exact wrH b h (hfr b o e m)
        · exact h.1 (hfr b o e m)
      · rcases hfp b hb with h | h
        · have n0 := (hwr b h).1
          refine ⟨?_, ?_⟩
          · rintro rfl; obtain ⟨ps, e, _⟩ := st.base.t30; rw [n0] at e; cases e
          · rintro rfl; obtain ⟨ps, e, _⟩ := st.base.t37; rw [n0] at e; cases e
        · exact h.2
    · exact ⟨List.mem_append_right _ (.head _), hDf⟩
    · intro s' us' G hD iD
      rw [List.nil_append] at iD
      have DH : s₂.heap.objs.size ∉ H := fun m => by
        obtain ⟨o, e⟩ := (st.grow g).dom _ m
        exact absurd (Heap.lt_size e) (Nat.lt_irrefl _)
      refine hQ _ _ s' G.grow (G.new _ (.tail _ (.head _))) (Nat.ne_of_lt (Nat.lt_succ_self _)) ?_ (let ⟨m, n, _⟩ := G.st.vars; ⟨m, n⟩) (is_lst.mpr ⟨_, us', rfl, ?_, iD.mono fun b o e => ?_⟩)
      · obtain ⟨m, ⟨o, es, ep, e, _⟩, _⟩ := G.st.vars
        intro q
        have e' : s'.heap.get? (s₂.heap.objs.size + 1) = some o := e
        rw [q] at e'; cases e'
      · obtain ⟨o, e, q⟩ := hD
        refine ⟨o, hid_get.mpr ⟨e, fun m => ?_⟩, q⟩
        rcases List.mem_cons.mp m with m | m
        · exact absurd m (Nat.ne_of_lt (Nat.lt_succ_self _))
        · exact DH m
      · obtain ⟨e1, n1⟩ := hid_get.mp e
        refine hid_get.mpr ⟨e1, fun m => n1 ?_⟩
        rcases List.mem_cons.mp m with m | m
        · rw [m]; exact List.mem_append_left _ (.tail _ (.head _))
        · exact List.mem_append_right _ m
  exact codeAny_compStart_at rfl loop fun E' => wk.self r w4 loop

theorem cv_list2 {w : World} {k : Nat} {env : Env} {Γ Γc : List (Str × D)} {elt target iter target' iter' : Expr} {ifs ifs' : List Expr} {scope : Scope} {pos : Pos} {tn : List Str} {ds rs : List D}
    (hi : IE w k env Γ iter ds) (B : BlockOk env scope Γ Γc tn) (hb : ∀ d ∈ ds, ∀ bs, bindsI target d = some bs → ∀ p ∈ bs, p.1 ∈ tn) (hb' : ∀ d bs, bindsI target' d = some bs → ∀ p ∈ bs, p.1 ∈ tn)
    (hl : ∀ C cells, CompL2 w k (compEnvC scope cells C env) Γc target ifs iter' target' ifs' elt ds rs) (hz : 1000 * ds.length ≤ 900000) (hs : ∀ x, foldedSetIterable iter env x = pure x := by intro _; rfl) (hs' : ∀ cenv x, foldedSetIterable iter' cenv x = pure x := by intro _ _; rfl) :
    CV w k env Γ (.ListComp elt [⟨target, iter, ifs, 0⟩, ⟨target', iter', ifs', 0⟩] scope pos) scope (newList []) iter (.lst rs) :=
  fun H A s E Q use pos' r st hQ => comp_core2 r st hi B hb hb' hl hz hs hs' hQ

theorem stored_new {kvs : List (Int × Value)} {k : Int} {v : Value} (h : k ∉ kvs.map (·.1)) : stored kvs k v = kvs ++ [(k, v)] := by
  unfold stored
  rw [if_neg]
  simp only [List.any_eq_true, decide_eq_true_eq, not_exists, not_and]
  intro p hp e
  exact h (List.mem_map.mpr ⟨p, hp, e⟩)
theorem zip_keys {α β : Type} {ks : List α} {us : List β} (h : ks.length = us.length) : (ks.zip us).map (·.1) = ks := by
  induction ks generalizing us with
  | nil => rfl
  | cons a ks ih => cases us with
    | nil => cases h
    | cons b us => simp only [List.zip_cons_cons, List.map_cons]; rw [ih (by simpa using h)]
section
variable {w : World} {A : Around} {E : Value → Shared → Prop} {R : Result → Shared → Prop} {s : Shared}
theorem codeAny_compD {kx vx target iter : Expr} {ifs : List Expr} {scope : Scope} {pos : Pos} {it : Value} {D : Addr} {env : Env} (I : Nat → Shared → Prop)
    (turn : ∀ n s E, I n s → wpAny (model PG w) A (pyNext it) (fun r s₁ => match r with
      | none => R (.ok .next) s₁
      | some v => wpAny (model PG w) A (letOwnedTupleGo target it v) (fun _ s₁' => wpAny (model PG w) A (assign target env v) (fun _ s₂ =>
          wpAny (model PG w) A (forIn ifs true fun c r => if r = true then do let ok ← isTrue c env (eval c env); pure (ForInStep.yield ok) else pure (ForInStep.yield r)) (fun ok s₃ =>
            if ok = true then wpAny (model PG w) A (eval kx env) (fun kv s₄ => wpAny (model PG w) A (eval vx env) (fun vv s₅ =>
              wpAny (model PG w) A (dictSet D kv vv) (fun _ s₆ => ∃ m, m < n ∧ I m s₆) E s₅) E s₄) E s₃
            else ∃ m, m < n ∧ I m s₃) E s₂) E s₁') E s₁) E s)
    (n : Nat) (h : I n s) :
    codeAny (model PG w) A (.compLoop (.DictComp kx vx [⟨target, iter, ifs, 0⟩] scope pos) 0 it (.ref D) env) R s := by
  refine codeAny_loop rfl I (fun n s hI => ?_) n h
  show wpAny _ A ((compTurn (.DictComp kx vx [⟨target, iter, ifs, 0⟩] scope pos) 0 it (.ref D) env).onRaise (fun x => do noteFrame x env; theTreesLotGoes x)) _ _ s
  refine wpAny_noted ?_
  rw [compTurn_dict]
  refine wpAny_bind (wpAny_standAt (wpAny_bind (wpAny_mono (turn n s _ hI) (fun r s₁ h₁ => ?_) fun _ _ h' => h')))
  cases r with
  | none => exact wpAny_pure h₁
  | some v =>
    refine wpAny_bind (wpAny_mono h₁ (fun _ s₁' h₁' => ?_) fun _ _ h' => h')
    refine wpAny_bind (wpAny_mono h₁' (fun _ s₂ h₂ => wpAny_bind (wpAny_mono h₂ (fun ok s₃ h₃ => ?_) fun _ _ h' => h')) fun _ _ h' => h')
    cases ok with
    | false => exact wpAny_pure ⟨rfl, h₃⟩
    | true =>
      exact wpAny_bind (wpAny_bind (wpAny_mono h₃ (fun kv s₄ h₄ => wpAny_bind (wpAny_holding (wpAny_mono h₄ (fun vv s₅ h₅ => wpAny_bind (wpAny_standAt (wpAny_holding (wpAny_mono h₅ (fun _ s₆ h₆ => wpAny_pure ⟨rfl, h₆⟩) fun _ _ h' => h')))) fun _ _ h' => h'))) fun _ _ h' => h'))
end

/-- what a dict comprehension makes -/
inductive CompD (w : World) (k : Nat) (env : Env) (Γ : List (Str × D)) (target : Expr) (kx vx : Expr) : List D → List (Int × D) → Prop where
  | nil : CompD w k env Γ target kx vx [] []
  | keep {d : D} {ds : List D} {i : Int} {r : D} {rs : List (Int × D)} {bs : List (Str × D)} : bindsI target d = some bs → (∀ p ∈ bs, Γ.lookup p.1 = none) → EV w k env (bs ++ Γ) kx (.int i) → EV w k env (bs ++ Γ) vx r → CompD w k env Γ target kx vx ds rs → CompD w k env Γ target kx vx (d :: ds) ((i, r) :: rs)

theorem comp_loopD {w : World} {k : Nat} {env : Env} {Γ : List (Str × D)} {target iter kx vx : Expr} {scope : Scope} {pos : Pos} {A : Around} {R : Result → Shared → Prop} {H T : List Addr} {gv : List (D × Value)} {s₀ s : Shared}
    {I Dd : Addr} {fp wr : List Addr} {gs : List (D × Value)} {ds : List D} {rs : List (Int × D)} {W : Nat → Heap → Prop} {H' T' : List Addr}
    (r : Room k A) (hH1 : ∀ a ∈ H', a ∈ H ∧ a ∉ wr) (hH2 : ∀ a ∈ H, a ∉ wr → a ∈ H') (hT1 : ∀ a ∈ T', a ∈ T ∧ a ∉ wr) (hT2 : ∀ a ∈ T, a ∉ wr → a ∈ T') (wk : Wlk w I fp wr gs ds W) (hst : ∀ bs d, d ∈ ds → bindsI target d = some bs → ∀ p ∈ bs, CStores env T p.1) (hl : CompD w k env Γ target kx vx ds rs)
    (hnd : (rs.map (·.1)).Nodup)
    (F : Cm w env H T [] (gs ++ gv) s₀ Γ s) (w0 : W 0 s.heap) (hwr : ∀ a ∈ wr, a ∈ T ∧ a ∉ frameAddrs env) (hfp : ∀ b ∈ fp, b ≠ Dd ∧ b ∉ frameAddrs env ∧ b ≠ 30 ∧ b ≠ 37) (hDT : Dd ∈ T ∧ Dd ∉ frameAddrs env)
    (hD : s.heap.DictOf (intKind PG w) Dd []) (hz : ds.length ≤ 1000000)
    (hR : ∀ s' us', Cm w env H' T' [] gv s₀ Γ s' → s'.heap.DictOf (intKind PG w) Dd ((rs.map (·.1)).zip us') → IsL w (hid H' s'.heap) (rs.map (·.2)) us' → R (.ok .next) s') :
    codeAny (model PG w) A (.compLoop (.DictComp kx vx [⟨target, iter, [], 0⟩] scope pos) 0 (.ref I) (.ref Dd) env) R s := by
  have D30 : Dd ≠ 30 ∧ Dd ≠ 37 := by
    have n0 := F.new Dd hDT.1
    refine ⟨?_, ?_⟩
    · rintro rfl; obtain ⟨ps, e, _⟩ := F.base0.t30; rw [n0] at e; cases e
    · rintro rfl; obtain ⟨ps, e, _⟩ := F.base0.t37; rw [n0] at e; cases e
  have hwr' : ∀ a ∈ wr, a ∈ T ∧ a ∉ frameAddrs env ∧ ∀ p ∈ ([] : List (Addr × Obj)), p.1 ≠ a := fun a ha => ⟨(hwr a ha).1, (hwr a ha).2, fun p hp => (nomatch hp)⟩
  refine codeAny_compD (fun n st => ∃ i ks qs us' rs', n = ds.length + 1 - i ∧ i ≤ ds.length ∧ W i st.heap ∧ Cm w env H T [] (gs ++ gv) s₀ Γ st ∧ st.heap.DictOf (intKind PG w) Dd (ks.zip us') ∧ ks.length = us'.length ∧ IsL w (hid H st.heap) qs us' ∧ CompD w k env Γ target kx vx (ds.drop i) rs' ∧ ks ++ rs'.map (·.1) = rs.map (·.1) ∧ qs ++ rs'.map (·.2) = rs.map (·.2) ∧ ks.length ≤ i) (fun n st E hI => ?_) (ds.length + 1) ⟨0, [], [], [], rs, rfl, Nat.zero_le _, w0, F, hD, rfl, isL_nil.mpr rfl, hl, rfl, rfl, Nat.le_refl _⟩
  clear F w0 hD hl
  obtain ⟨i, ks, qs, us, rs', rfl, hi, Wi, F, hD, hks, iD, hl, hq1, hq2, hz'⟩ := hI
  cases hdr : ds.drop i with
  | nil =>
    have hlen : i = ds.length := Nat.le_antisymm hi (by simpa using hdr)
    subst hlen
    rw [hdr] at hl
    cases hl
    rw [List.map_nil, List.append_nil] at hq1 hq2
    subst hq1 hq2
    have hDw : Dd ∉ wr := fun m => (hfp Dd (wk.sub Dd m)).1 rfl
    refine wk.done r F.st.base Wi fun h' tk hk => hR _ us (F.unghost.drop hwr' hk hH1 hH2 hT1 hT2 (wk.noCode _ _ Wi)) (by obtain ⟨o, es, ep, e, q⟩ := hD; exact ⟨o, es, ep, hk Dd o hDw e, q⟩) (iD.mono fun b o e => ?_)
    obtain ⟨e1, n1⟩ := hid_get.mp e
    exact hid_get.mpr ⟨hk b o (fun m => n1 (F.subT b (hwr b m).1)) e1, fun m => n1 (hH1 b m).1⟩
  | cons d ds' =>
    have hd : ds[i]? = some d := by
      have : (ds.drop i)[0]? = some d := by rw [hdr]; rfl
      simpa using this
    have hlt : i < ds.length := (List.getElem?_eq_some_iff.mp hd).1
    have hdr' : ds.drop (i + 1) = ds' := by
      have := congrArg List.tail hdr
      simpa using this
    rw [hdr] at hl
    have hmem : d ∈ ds := List.mem_of_getElem? hd
    have hbd : bindsI target d ≠ none := by
      cases hl with
      | keep hb _ _ _ _ => rw [hb]; exact fun h => nomatch h
    refine wpAny_mono (wk.item (t := target) r F.st.base F.st.tabs F.st.dom (fun b hb => F.subT b (hwr b hb).1) (fun p hp => F.ghost p (List.mem_append_left _ hp)) hd hbd Wi (Q := fun v s₁ => wpAny (model PG w) A (assign target env v) (fun _ s₂ =>
          wpAny (model PG w) A (forIn ([] : List Expr) true fun c r => if r = true then do let ok ← isTrue c env (eval c env); pure (ForInStep.yield ok) else pure (ForInStep.yield r)) (fun ok s₃ =>
            if ok = true then wpAny (model PG w) A (eval kx env) (fun kv s₄ => wpAny (model PG w) A (eval vx env) (fun vv s₅ =>
              wpAny (model PG w) A (dictSet Dd kv vv) (fun _ s₆ => ∃ m, m < ds.length + 1 - i ∧ ∃ i ks qs us' rs', m = ds.length + 1 - i ∧ i ≤ ds.length ∧ W i s₆.heap ∧ Cm w env H T [] (gs ++ gv) s₀ Γ s₆ ∧ s₆.heap.DictOf (intKind PG w) Dd (ks.zip us') ∧ ks.length = us'.length ∧ IsL w (hid H s₆.heap) qs us' ∧ CompD w k env Γ target kx vx (ds.drop i) rs' ∧ ks ++ rs'.map (·.1) = rs.map (·.1) ∧ qs ++ rs'.map (·.2) = rs.map (·.2) ∧ ks.length ≤ i) E s₅) E s₄) E s₃
            else ∃ m, m < ds.length + 1 - i ∧ ∃ i ks qs us' rs', m = ds.length + 1 - i ∧ i ≤ ds.length ∧ W i s₃.heap ∧ Cm w env H T [] (gs ++ gv) s₀ Γ s₃ ∧ s₃.heap.DictOf (intKind PG w) Dd (ks.zip us') ∧ ks.length = us'.length ∧ IsL w (hid H s₃.heap) qs us' ∧ CompD w k env Γ target kx vx (ds.drop i) rs' ∧ ks ++ rs'.map (·.1) = rs.map (·.1) ∧ qs ++ rs'.map (·.2) = rs.map (·.2) ∧ ks.length ≤ i) E s₂) E s₁) fun v h' tk hk hex W' iv => ?_) (fun r s₁ q => ?_) fun _ _ q => q
    · have F1 : Cm w env H T [] (gs ++ gv) s₀ Γ { st with heap := h', toks := tk } := F.turned (wr := wr) hwr' hk hex (wk.noCode _ _ Wi)
      have hDw : Dd ∉ wr := fun m => (hfp Dd (wk.sub Dd m)).1 rfl
      obtain ⟨oD, esD, epD, eD0, qD⟩ := hD
      have eD : h'.get? Dd = some oD := hk Dd oD hDw eD0
      have iD1 : IsL w (hid H h') qs us := iD.mono fun b o e => by
        obtain ⟨e1, n1⟩ := hid_get.mp e
        exact hid_get.mpr ⟨hk b o (fun m => n1 (F.subT b (hwr b m).1)) e1, n1⟩
      have F2 := F1.repin (pn' := (Dd, oD) :: fp.filterMap fun b => (h'.get? b).map fun o => (b, o)) fun p hp => by
        rcases List.mem_cons.mp hp with rfl | hp
        · exact ⟨eD, hDT.2, D30⟩
        · obtain ⟨b, hb, e⟩ := List.mem_filterMap.mp hp
          obtain ⟨o, e1, rfl⟩ := Option.map_eq_some_iff.mp e
          exact ⟨e1, (hfp b hb).2⟩
      have F3 := F2.reghost (gv' := qs.zip us) fun p hp => (isL_zip.mp iD1).2 p hp
      cases hl with
      | keep hb hn hek hev hl2 =>
        rename_i ik rd rs₂ bs
        refine wp_assignI sto_cm r.1 hb (hst _ d hmem hb) F3 iv fun s₂ F4 => wpAny_tests_nil ?_
        simp only [if_true]
        refine hek H A s₂ _ E r F4.st fun kv s₃ g₃ ik' => ?_
        have F5 := F4.grew g₃
        refine hev H A s₃ _ E r F5.st fun y s₄ g₄ iy => ?_
        have F6 := F5.grew g₄
        obtain ⟨tk', rfl⟩ := is_int.mp ik'
        have W2 : W (i + 1) s₄.heap := wk.frame _ _ _ W' fun b hb o e => (F6.pin (b, o) (List.mem_append_left _ (.tail _ (List.mem_filterMap.mpr ⟨b, hb, by rw [e]; rfl⟩)))).1
        have hD2 : s₄.heap.DictOf (intKind PG w) Dd (ks.zip us) := ⟨oD, esD, epD, (F6.pin (Dd, oD) (List.mem_append_left _ (.head _))).1, qD⟩
        have iD2 : IsL w (hid H s₄.heap) qs us := isL_zip.mpr ⟨(isL_zip.mp iD1).1, fun p hp => F6.ghost p (List.mem_append_left _ hp)⟩
        have hnew : ik ∉ (ks.zip us).map (·.1) := by
          rw [zip_keys hks]
          rw [← hq1, List.map_cons] at hnd
          intro hm
          exact (List.nodup_append.mp hnd).2.2 ik hm ik (.head _) rfl
        refine wpAny_dictSet_pairs (intKind_is PG w ik tk') hD2 (fun h₅ hd₅ hs₅ => ?_) (by rw [List.length_zip, show sizeLine = 16777216 from rfl]; omega)
        rw [stored_new hnew] at hd₅
        have hDH := F6.subT Dd hDT.1
        have F7 : Cm w env H T [] (gs ++ gv) s₀ (bs ++ Γ) { s₄ with heap := h₅, toks := s₄.toks + 1 } := F6.unpin.unghost.turned (wr := [Dd]) (fun a ha => by rw [List.mem_singleton] at ha; rw [ha]; exact ⟨hDT.1, hDT.2, fun p hp => (nomatch hp)⟩) (fun b o hb e => hs₅.extBut b o (fun q => hb (by rw [q]; exact .head _)) e) (fun b hb => by rw [List.mem_singleton] at hb; rw [hb]; obtain ⟨o, _, _, e, _⟩ := hd₅; exact ⟨o, e⟩) (fun b hb => by rw [List.mem_singleton] at hb; rw [hb]; exact noCode_dct hD2)
        refine ⟨ds.length + 1 - (i + 1), by omega, i + 1, ks ++ [ik], qs ++ [rd], us ++ [y], rs₂, rfl, hlt, wk.frame _ _ _ W2 fun b hb o e => hs₅.extBut b o (hfp b hb).1 e, F7.weaken (lookup_behind hn), ?_, by simp [hks], IsL.append (iD2.mono (hid_same hs₅ hDH)) (.one (iy.mono (hid_same hs₅ hDH))), hdr' ▸ hl2, by rw [← hq1]; simp, by rw [← hq2]; simp, by simp; omega⟩
        rw [List.zip_append hks]
        exact hd₅
    · obtain ⟨v, rfl, q⟩ := q
      exact q _

theorem not_modules_of {w : World} {h : Heap} (b : Base w h) : ((h.objs.size : Addr) == sysModules) = false := by
  obtain ⟨ps, e, _⟩ := b.t30
  have := Heap.lt_size e
  rw [beq_eq_false_iff_ne]
  intro q
  have q : @Eq Nat h.objs.size 1 := q
  dsimp only [PySem.Addr] at *
  omega
theorem comp_coreD {w : World} {k : Nat} {env : Env} {Γ Γc : List (Str × D)} {H : List Addr} {s : Shared} {kx vx target iter : Expr} {scope : Scope} {pos pos' : Pos} {tn : List Str} {ds : List D} {rs : List (Int × D)} {A : Around} {E : Value → Shared → Prop} {Q : Value → Shared → Prop} {use : Option (Value → Sem Unit)}
    (r : Room k A) (st : St w env Γ H s) (hi : IE w k env Γ iter ds) (B : BlockOk env scope Γ Γc tn) (hb : ∀ d ∈ ds, ∀ bs, bindsI target d = some bs → ∀ p ∈ bs, p.1 ∈ tn)
    (hl : ∀ C cells, CompD w k (compEnvC scope cells C env) Γc target kx vx ds rs) (hnd : (rs.map (·.1)).Nodup) (hz : ds.length ≤ 1000000) (hs : ∀ x, foldedSetIterable iter env x = pure x)
    (hQ : ∀ D' C s', Grow s s' → s.heap.get? C = none → D' ≠ C → s'.heap.get? C ≠ none → (∃ m, s'.heap.Ns C m) → Is w (hid (C :: H) s'.heap) (.dct (rs.map (·.1)) (rs.map (·.2))) (.ref D') → compPost (model PG w) A E use Q (.ref D') C (.ok .next) s') :
    wpAny (model PG w) A (comprehension (.DictComp kx vx [⟨target, iter, [], 0⟩] scope pos) scope env pos' newDict false (eval iter env) use) Q E s := by
  obtain ⟨cl, hcl⟩ := Option.isSome_iff_exists.mp B.clo
  refine wpAny_comprehension_free rfl hs (closureFor_of hcl) B.kind (fun x hx hlx => lookup_of_mem B.names (by rw [← hlx]; exact hx)) (hi H A s _ E r st fun I fp wr gs W s₂ g wk w0 hwr hfp hgs => ?_)
  simp only [newDict, newObj]
  refine wpAny_bind (wpAny_alloc (wpAny_pure ?_))
  refine wp_compEnv ?_
  have size1 : (s₂.heap.push { cls := .type "dict", data := .dict #[] }).objs.size = s₂.heap.objs.size + 1 := Heap.size_push ..
  dsimp only
  rw [size1]
  obtain ⟨F, hst, keep, eD, hDf, hne, hfr⟩   := comp_enter (k := k) (tn := tn) (acc := { cls := .type "dict", data := .dict #[] }) st B hcl g hwr hgs rfl (Dd := s₂.heap.objs.size) (C := s₂.heap.objs.size + 1) rfl rfl rfl rfl
  generalize hh4 : pushCells ((s₂.heap.push { cls := .type "dict", data := .dict #[] }).push { cls := .type "dict", data := .dict #[] }) scope.names = h4 at F hst keep eD ⊢
  have hcells : ∀ x c, (x, c) ∈ cellsFrom (s₂.heap.objs.size + 1 + 1) scope.names [] → s₂.heap.objs.size + 1 + 1 ≤ c := fun x c hm => by
    have ok := cellsFrom_ok scope.names ((s₂.heap.push { cls := .type "dict", data := .dict #[] }).push { cls := .type "dict", data := .dict #[] }) (s₂.heap.objs.size + 1 + 1) [] ⟨fun _ _ hm => (nomatch hm), List.Pairwise.nil⟩ (by rw [Heap.size_push, size1]; exact Nat.le_refl _)
    rw [Heap.size_push, size1] at ok
    exact (ok.empty x c hm).2
  have wrLt : ∀ a ∈ wr, a < s₂.heap.objs.size := fun a ha => by obtain ⟨o, e⟩ := (hwr a ha).2; exact Heap.lt_size e
  have wrH : ∀ a ∈ wr, a ∉ H := fun a ha m => by obtain ⟨o, e⟩ := st.dom a m; rw [(hwr a ha).1] at e; cases e
  have tailGe : ∀ a ∈ s₂.heap.objs.size :: (s₂.heap.objs.size + 1) :: (cellsFrom (s₂.heap.objs.size + 1 + 1) scope.names []).map (·.2), a ∉ wr := fun a ha m => by
    have lt := wrLt a m
    rcases List.mem_cons.mp ha with e | ha
    · exact absurd lt (by rw [e]; exact Nat.lt_irrefl _)
    · rcases List.mem_cons.mp ha with e | ha
      · exact absurd lt (by rw [e]; exact Nat.not_lt.mpr (Nat.le_succ _))
      · obtain ⟨⟨x, c⟩, hm, rfl⟩ := List.mem_map.mp ha
        exact absurd lt (Nat.not_lt.mpr (Nat.le_trans (Nat.le_trans (Nat.le_succ _) (Nat.le_succ _)) (hcells x c hm)))
  have w4 : W 0 h4 := wk.frame _ _ _ w0 fun b _ o e => keep b o e
  have hdD : h4.DictOf (intKind PG w) s₂.heap.objs.size [] := by
    have x := (Heap.DictOf.new (knd := intKind PG w) s₂.heap)
    rw [← hh4]
    exact (x.push _).keep (pushCells_keeps _ _)
  have loop : codeAny (model PG w) A (.compLoop (.DictComp kx vx [⟨target, iter, [], 0⟩] scope pos) 0 (.ref I) (.ref s₂.heap.objs.size) (compEnvC scope (cellsFrom (s₂.heap.objs.size + 1 + 1) scope.names cl) (s₂.heap.objs.size + 1) env))
      (compPost (model PG w) A E use Q (.ref s₂.heap.objs.size) (s₂.heap.objs.size + 1)) { s₂ with heap := h4 } := by
    refine comp_loopD (gv := []) (H' := (s₂.heap.objs.size :: (s₂.heap.objs.size + 1) :: (cellsFrom (s₂.heap.objs.size + 1 + 1) scope.names []).map (·.2)) ++ H) (T' := s₂.heap.objs.size :: (s₂.heap.objs.size + 1) :: (cellsFrom (s₂.heap.objs.size + 1 + 1) scope.names []).map (·.2)) r ?_ ?_ ?_ ?_ wk (fun bs d hd hbd p hp => hst p.1 (hb d hd bs hbd p hp)) (hl _ _) hnd (by rw [List.append_nil]; exact F) w4 ?_ ?_ ?_ hdD hz ?_
    · intro a ha
      rcases List.mem_append.mp ha with ha | ha
      · exact ⟨List.mem_append_left _ (List.mem_append_right _ ha), tailGe a ha⟩
      · exact ⟨List.mem_append_right _ ha, fun m => wrH a m ha⟩
    · intro a ha hn
      rcases List.mem_append.mp ha with ha | ha
      · exact List.mem_append_left _ ((List.mem_append.mp ha).resolve_left hn)
      · exact List.mem_append_right _ ha
    · intro a ha; exact ⟨List.mem_append_right _ ha, tailGe a ha⟩
    · intro a ha hn; exact (List.mem_append.mp ha).resolve_left hn
    · intro a ha
      refine ⟨List.mem_append_left _ ha, fun m => ?_⟩
      obtain ⟨o, e⟩ := (hwr a ha).2
      exact wrH a ha (hfr a o e m)
    · intro b hb
      obtain ⟨o, e⟩ := wk.ex _ _ w0 b hb
      refine ⟨hne b o e, fun m => ?_, ?_⟩
      · rcases hfp b hb with h | h
        · exact wrH b h (hfr b o e m)
        · exact h.1 (hfr b o e m)
      · rcases hfp b hb with h | h
        · have n0 := (hwr b h).1
          refine ⟨?_, ?_⟩
          · rintro rfl; obtain ⟨ps, e, _⟩ := st.base.t30; rw [n0] at e; cases e
          · rintro rfl; obtain ⟨ps, e, _⟩ := st.base.t37; rw [n0] at e; cases e
        · exact h.2
    · exact ⟨List.mem_append_right _ (.head _), hDf⟩
    · intro s' us' G hD iD
      have DH : s₂.heap.objs.size ∉ H := fun m => by
        obtain ⟨o, e⟩ := (st.grow g).dom _ m
        exact absurd (Heap.lt_size e) (Nat.lt_irrefl _)
      refine hQ _ _ s' G.grow (G.new _ (.tail _ (.head _))) (Nat.ne_of_lt (Nat.lt_succ_self _)) ?_ (let ⟨m, n, _⟩ := G.st.vars; ⟨m, n⟩) (is_dct.mpr ⟨_, us', rfl, ?_, ⟨by rw [iD.length, List.length_map, List.length_map], not_modules_of (st.grow g).base⟩, iD.mono fun b o e => ?_⟩)
      · obtain ⟨m, ⟨o, es, ep, e, _⟩, _⟩ := G.st.vars
        intro q
        have e' : s'.heap.get? (s₂.heap.objs.size + 1) = some o := e
        rw [q] at e'; cases e'
      · obtain ⟨o, es, ep, e, q⟩ := hD
        refine ⟨o, es, ep, hid_get.mpr ⟨e, fun m => ?_⟩, q⟩
        rcases List.mem_cons.mp m with m | m
        · exact absurd m (Nat.ne_of_lt (Nat.lt_succ_self _))
        · exact DH m
      · obtain ⟨e1, n1⟩ := hid_get.mp e
        refine hid_get.mpr ⟨e1, fun m => n1 ?_⟩
        rcases List.mem_cons.mp m with m | m
        · rw [m]; exact List.mem_append_left _ (.tail _ (.head _))
        · exact List.mem_append_right _ m
  exact codeAny_compStart_dict loop (wk.self r w4 loop)


theorem cv_dict {w : World} {k : Nat} {env : Env} {Γ Γc : List (Str × D)} {kx vx target iter : Expr} {scope : Scope} {pos : Pos} {tn : List Str} {ds : List D} {rs : List (Int × D)}
    (hi : IE w k env Γ iter ds) (B : BlockOk env scope Γ Γc tn) (hb : ∀ d ∈ ds, ∀ bs, bindsI target d = some bs → ∀ p ∈ bs, p.1 ∈ tn)
    (hl : ∀ C cells, CompD w k (compEnvC scope cells C env) Γc target kx vx ds rs) (hnd : (rs.map (·.1)).Nodup) (hz : ds.length ≤ 1000000) (hs : ∀ x, foldedSetIterable iter env x = pure x := by intro _; rfl) : CV w k env Γ (.DictComp kx vx [⟨target, iter, [], 0⟩] scope pos) scope newDict iter (.dct (rs.map (·.1)) (rs.map (·.2))) :=
  fun H A s E Q use pos' r st hQ => comp_coreD r st hi B hb hl hnd hz hs hQ

/-- an item upon deep values -/
def IT (w : World) (k : Nat) (dO dI d : D) : Prop :=
  ∀ (A : Around) (s : Shared) (H : List Addr) (o i : Value) (Q : Value → Shared → Prop) (E : Value → Shared → Prop), Room k A → Base w s.heap → ((30 : Addr) ∈ H ∧ (37 : Addr) ∈ H) → (∀ a ∈ H, ∃ o, s.heap.get? a = some o) →
    Is w (hid H s.heap) dO o → Is w (hid H s.heap) dI i → (∀ v s', Grow s s' → Is w (hid H s'.heap) d v → Q v s') →
    (∃ T id, typeLookup (.type T) "__getitem__" = pure (some (.builtin id)) ∧ s.TypeIs o T) ∧ wpAny (model PG w) A (getItem o i) Q E s

theorem wp_subTail {w : World} {A : Around} {E : Value → Shared → Prop} {s : Shared} {value slice : Expr} {o i : Value} {T id : String} {Q : Value → Shared → Prop} (hT : s.TypeIs o T)
    (hl : typeLookup (.type T) "__getitem__" = pure (some (.builtin id))) (h : wpAny (model PG w) A (getItem o i) Q E s) :
    wpAny (model PG w) A (subscriptTail value slice o i) Q E s := by
  unfold subscriptTail
  refine wpAny_bind ?_
  rw [getitemInPython_of_ne hT.not_modules]
  refine wpAny_bind (wpAny_specialOf hT hl ?_)
  have fin : wpAny (model PG w) A (subscripted slice false o i) (fun r s₃ => wpAny (model PG w) A (letTemporaryGo value o r >>= fun _ => pure r) Q E s₃) E s := by
    have h' : wpAny (model PG w) A (getItem o i) (fun r s₃ => wpAny (model PG w) A (letTemporaryGo value o r >>= fun _ => pure r) Q E s₃) E s :=
      wpAny_mono h (fun r s₃ h₃ => wpAny_bind (wpAny_letTemporaryGo (wpAny_pure h₃))) fun _ _ x => x
    unfold subscripted
    split
    · exact wpAny_operating h'
    · rename_i hc; cases hc
    · exact wpAny_operating h'
  first
    | exact wpAny_pure (wpAny_bind fin)
    | exact wpAny_bind (wpAny_pure (wpAny_bind fin))
    | exact wpAny_bind fin

section
variable {w : World} {k : Nat} {env : Env} {Γ : List (Str × D)}
theorem ev_sub {value slice : Expr} {pos : Pos} {dO dI d : D} (ho : EV w k env Γ value dO) (hi : EV w k env Γ slice dI) (h : IT w k dO dI d) : EV w k env Γ (.Subscript value slice pos) d := by
  intro H A s Q E r st hQ
  refine Subscript_ (ho H A s _ E r st fun o s₁ g₁ i₁ => hi H A s₁ _ E r (st.grow g₁) fun i s₂ g₂ i₂ => ?_)
  have st₂ := (st.grow g₁).grow g₂
  obtain ⟨⟨T, id, hl, hT⟩, hw⟩ := h A s₂ H o i Q E r st₂.base st₂.tabs st₂.dom (i₁.grow g₂ st.tabs) i₂ fun v s' g i => hQ v s' ((g₁.trans g₂).trans g) i
  exact wp_subTail hT hl hw

theorem isTuple_seen {H : List Addr} {h : Heap} {a : Addr} {x : Array Value} (p : (hid H h).IsTuple a x) : h.IsTuple a x ∧ a ∉ H := by
  obtain ⟨o, e, r⟩ := p
  exact ⟨⟨o, (hid_get.mp e).1, r⟩, (hid_get.mp e).2⟩
theorem dictOf_seen {H : List Addr} {h : Heap} {a : Addr} {x : List (Int × Value)} (p : (hid H h).DictOf (intKind PG w) a x) : h.DictOf (intKind PG w) a x ∧ a ∉ H := by
  obtain ⟨o, es, ep, e, r⟩ := p
  exact ⟨⟨o, es, ep, (hid_get.mp e).1, r⟩, (hid_get.mp e).2⟩

theorem it_list {ds : List D} {i : Int} {j : Nat} {d : D} (hj : seqIndex? i ds.length = some j) (hd : ds[j]? = some d) (hlo : -(2 ^ 63) ≤ i) (hhi : i < 2 ^ 63) : IT w k (.lst ds) (.int i) d := by
  intro A s H o iv Q E r b t dm i₁ i₂ hQ
  obtain ⟨a, vs, rfl, hl, il⟩ := is_lst.mp i₁
  obtain ⟨tk, rfl⟩ := is_int.mp i₂
  obtain ⟨hl', ha⟩ := isList_seen hl
  obtain ⟨v, hv, iv⟩ := il.get j d hd
  refine ⟨⟨"list", _, slot_list_getitem.lookup, hl'.typeIs⟩, ?_⟩
  have hlen := il.length
  by_cases h0 : 0 ≤ i
  · have : j = i.toNat := by
      unfold seqIndex? at hj
      simp only [show ¬ i < 0 by omega, if_false] at hj
      split at hj
      · exact (Option.some.inj hj).symm
      · exact absurd hj (by simp)
    subst this
    exact wpAny_getItem_list hl' h0 hhi (by simpa using hv) (hQ v s (.refl s) iv)
  · have h0 : i < 0 := by omega
    unfold seqIndex? at hj
    simp only [h0, if_true] at hj
    split at hj
    · rename_i hc
      simp only [Bool.and_eq_true, decide_eq_true_eq] at hc
      have hj := Option.some.inj hj
      subst hj
      exact wpAny_getItem_list_neg hl' h0 (by rw [List.size_toArray, hlen]; omega) hlo (by rw [List.size_toArray, hlen]; simpa using hv) (hQ v s (.refl s) iv)
    · exact absurd hj (by simp)
theorem it_tuple {ds : List D} {i : Int} {j : Nat} {d : D} (hj : seqIndex? i ds.length = some j) (hd : ds[j]? = some d) (hlo : -(2 ^ 63) ≤ i) (hhi : i < 2 ^ 63) : IT w k (.tup ds) (.int i) d := by
  intro A s H o iv Q E r b t dm i₁ i₂ hQ
  obtain ⟨a, vs, rfl, hl, il⟩ := is_tup.mp i₁
  obtain ⟨tk, rfl⟩ := is_int.mp i₂
  obtain ⟨hl', ha⟩ := isTuple_seen hl
  obtain ⟨v, hv, iv⟩ := il.get j d hd
  have ht : IsTup s.heap a vs.toArray := hl'
  exact ⟨⟨"tuple", _, slot_tuple_getitem.lookup, ht.typeIs⟩, PyProof.Rows.getItem_tuple ht hlo hhi (by rw [List.size_toArray, il.length]; exact hj) (by simpa using hv) (hQ v s (.refl s) iv)⟩

/-- a dict's value at a key -/
def dAt (ks : List Int) (ds : List D) (i : Int) : Option D := ((ks.zip ds).find? (fun p => p.1 == i)).map (·.2)
theorem dAt_get {h : Heap} {i : Int} {d : D} : ∀ {ks : List Int} {ds : List D} {vs : List Value}, IsL w h ds vs → dAt ks ds i = some d → ∃ v, valueAt (ks.zip vs) i = some v ∧ Is w h d v
  | [], ds, vs, _, e => by simp [dAt] at e
  | q :: ks, [], vs, _, e => by simp [dAt] at e
  | q :: ks, d' :: ds, vs, il, e => by
    rw [isL_cons] at il
    obtain ⟨v, r, rfl, a, z⟩ := il
    by_cases hq : q = i
    · subst hq
      simp only [dAt, List.zip_cons_cons, List.find?_cons, beq_self_eq_true, Option.map_some, Option.some.injEq] at e
      subst e
      exact ⟨v, by simp [valueAt], a⟩
    · have hb : (q == i) = false := by simpa using hq
      simp only [dAt, List.zip_cons_cons, List.find?_cons, hb] at e
      obtain ⟨u, hu, iu⟩ := dAt_get z e
      exact ⟨u, by simpa [valueAt, List.find?_cons, hq] using hu, iu⟩
theorem it_dict {ks : List Int} {ds : List D} {i : Int} {d : D} (hd : dAt ks ds i = some d) : IT w k (.dct ks ds) (.int i) d := by
  intro A s H o iv Q E r b t dm i₁ i₂ hQ
  obtain ⟨a, vs, rfl, hm, hn, il⟩ := is_dct.mp i₁
  obtain ⟨tk, rfl⟩ := is_int.mp i₂
  obtain ⟨hm', ha⟩ := dictOf_seen hm
  obtain ⟨v, hv, iv⟩ := dAt_get il hd
  exact ⟨⟨"dict", _, slot_dict_getitem.lookup, hm'.typeIs⟩, wpAny_getItem_of (intKind_is PG w i tk) hm'.mapOf hv (hQ v _ (.toks _) iv)⟩
theorem it_str {x : Str} {i : Int} (hr : fitsSsize i = true) (hin : (Txt.charAt x i).isSome = true) : IT w k (.str x) (.int i) (.str (Txt.item x i)) := by
  intro A s H o iv Q E r b t dm i₁ i₂ hQ
  obtain ⟨u, rfl⟩ := is_str.mp i₁
  obtain ⟨tk, rfl⟩ := is_int.mp i₂
  exact ⟨⟨"str", _, F.slot_str_getitem.lookup, typeIs_str _ _ _⟩, SB.getItem hr hin (hQ _ _ (.toks _) (is_str.mpr ⟨_, rfl⟩))⟩
end

/-- a slice of a list -/
def slPick {α : Type} (ds : List α) (lo hi st : Option Int) : List α :=
  (sliceRange (sliceBounds lo hi st ds.length).1 (sliceBounds lo hi st ds.length).2.1 (sliceBounds lo hi st ds.length).2.2).filterMap (ds[·]?)

theorem IsL.pick {w : World} {h : Heap} {ds : List D} {vs : List Value} (il : IsL w h ds vs) : ∀ (js : List Nat), IsL w h (js.filterMap (ds[·]?)) (js.filterMap (vs[·]?))
  | [] => isL_nil.mpr rfl
  | j :: js => by
    have hl := il.length
    by_cases hj : j < ds.length
    · have e1 : ds[j]? = some ds[j] := List.getElem?_eq_getElem hj
      obtain ⟨v, e2, iv⟩ := il.get j _ e1
      rw [List.filterMap_cons, List.filterMap_cons]
      simp only [e1, e2]
      exact isL_cons.mpr ⟨v, _, rfl, iv, il.pick js⟩
    · have e1 : ds[j]? = none := List.getElem?_eq_none (by omega)
      have e2 : vs[j]? = none := List.getElem?_eq_none (by omega)
      rw [List.filterMap_cons, List.filterMap_cons]
      simp only [e1, e2]
      exact il.pick js

/-- a slice's part -/
def PT (w : World) (k : Nat) (env : Env) (Γ : List (Str × D)) (x : Option Expr) (i : Option Int) : Prop := match x with
  | none => i = none
  | some e => ∃ j, i = some j ∧ EV w k env Γ e (.int j)

section
variable {w : World} {k : Nat} {env : Env} {Γ : List (Str × D)}
theorem pt_none : PT w k env Γ none none := rfl
theorem pt_some {e : Expr} {j : Int} (h : EV w k env Γ e (.int j)) : PT w k env Γ (some e) (some j) := ⟨j, rfl, h⟩

theorem wp_part {x : Option Expr} {i : Option Int} (h : PT w k env Γ x i) {H : List Addr} {A : Around} {s : Shared} {Q E : Value → Shared → Prop} (r : Room k A) (st : St w env Γ H s)
    (hQ : ∀ v s', Grow s s' → IsPart v i → Q v s') : wpAny (model PG w) A (evalPart x env) Q E s := by
  cases x with
  | none => cases h; exact wpAny_pure (hQ _ _ (.refl _) .none)
  | some e =>
    obtain ⟨j, rfl, he⟩ := h
    exact he H A s Q E r st fun v s' g i => by
      obtain ⟨t, rfl⟩ := is_int.mp i
      exact hQ _ _ g (.int _ _)

theorem wp_slice {lower upper step : Option Expr} {p : Pos} {lo hi sp : Option Int} (hl : PT w k env Γ lower lo) (hu : PT w k env Γ upper hi) (hs : PT w k env Γ step sp) {H : List Addr} {A : Around} {s : Shared} {Q E : Value → Shared → Prop} (r : Room k A) (st : St w env Γ H s)
    (hQ : ∀ sl vl vu vs s', Grow s s' → s'.heap.IsSliceOf sl vl vu vs → IsPart vl lo → IsPart vu hi → IsPart vs sp → Q (.ref sl) s') : wpAny (model PG w) A (eval (.Slice lower upper step p) env) Q E s := by
  refine wpAny_Slice (wp_part hl r st fun v1 s₁ g₁ p₁ => wp_part hu r (st.grow g₁) fun v2 s₂ g₂ p₂ => wp_part hs r ((st.grow g₁).grow g₂) fun v3 s₃ g₃ p₃ => ?_)
  exact hQ _ v1 v2 v3 _ (((g₁.trans g₂).trans g₃).trans (.push _)) (Heap.IsSliceOf.new ..) p₁ p₂ p₃

theorem ev_slice_list {value : Expr} {lower upper step : Option Expr} {p pos : Pos} {ds : List D} {lo hi sp : Option Int} (hv : EV w k env Γ value (.lst ds)) (hl : PT w k env Γ lower lo) (hu : PT w k env Γ upper hi) (hs : PT w k env Γ step sp) (h0 : sp ≠ some 0) (hz : ds.length ≤ 1000000) :
    EV w k env Γ (.Subscript value (.Slice lower upper step p) pos) (.lst (slPick ds lo hi sp)) := by
  intro H A s Q E r st hQ
  refine Subscript_ (hv H A s _ E r st fun o s₁ g₁ i₁ => wp_slice hl hu hs r (st.grow g₁) fun sl vl vu vs s₂ g₂ hsl pl pu ps => ?_)
  obtain ⟨a, us, rfl, hli, il⟩ := is_lst.mp (i₁.grow g₂ st.tabs)
  obtain ⟨hl', ha⟩ := isList_seen hli
  have hlen := il.length
  refine wp_subTail hl'.typeIs slot_list_getitem.lookup (wpAny_getItem_list_slice hl' hsl pl pu ps h0 ?_ (by rw [List.size_toArray, hlen, show sizeLine = 16777216 from rfl]; omega))
  have e : slicePick us.toArray lo hi sp = ((sliceRange (sliceBounds lo hi sp ds.length).1 (sliceBounds lo hi sp ds.length).2.1 (sliceBounds lo hi sp ds.length).2.2).filterMap (us[·]?)).toArray := by
    unfold slicePick
    rw [List.size_toArray, hlen]
    congr 2
    funext j
    simp
  rw [e]
  exact hQ _ _ ((g₁.trans g₂).trans (.push _)) (new_lst ((st.grow g₁).grow g₂).dom (il.pick _))

theorem adjust_to (b n : Nat) (hb : b ≤ n) : Builtin.Slice.sliceAdjust none (some (b : Int)) 1 (n : Int) = (0, (b : Int)) := by
  unfold Builtin.Slice.sliceAdjust
  have h1 : ¬ ((1 : Int) < 0) := by omega
  have h2 : ¬ ((b : Int) < 0) := by omega
  simp only [h1, h2, if_false]
  congr 1
  omega
theorem places_to (b : Nat) : Builtin.Slice.slicePlaces 0 (b : Int) 1 = b := by
  unfold Builtin.Slice.slicePlaces
  have h1 : (1 : Int) > 0 := by omega
  simp only [h1, if_true, Int.ediv_one]
  split <;> omega
theorem pick_to {α : Type} (xs : List α) : ∀ (b : Nat), b ≤ xs.length → (List.range b).filterMap (fun (k : Nat) => xs[k]?) = xs.take b
  | 0, _ => by simp
  | b + 1, h => by
    rw [List.range_succ, List.filterMap_append, pick_to xs b (by omega), List.take_add_one]
    simp [List.getElem?_eq_getElem (show b < xs.length by omega)]

theorem ev_slice_tuple_to {value u : Expr} {p pos : Pos} {ds : List D} {b : Nat} (hv : EV w k env Γ value (.tup ds)) (hu : EV w k env Γ u (.int (b : Int))) (hb : b < ds.length) (hz : ds.length ≤ 1000000) :
    EV w k env Γ (.Subscript value (.Slice none (some u) none p) pos) (.tup (ds.take b)) := by
  intro H A s Q E r st hQ
  refine Subscript_ (hv H A s _ E r st fun o s₁ g₁ i₁ => wp_slice pt_none (pt_some hu) pt_none r (st.grow g₁) fun sl vl vu vs s₂ g₂ hsl pl pu ps => ?_)
  obtain ⟨a, us, rfl, hli, il⟩ := is_tup.mp (i₁.grow g₂ st.tabs)
  obtain ⟨hl', ha⟩ := isTuple_seen hli
  have ht : IsTup s₂.heap a us.toArray := hl'
  have hlen := il.length
  cases pl; cases ps; cases pu
  rename_i u
  refine wp_subTail ht.typeIs slot_tuple_getitem.lookup ?_
  have hfin : Q (.ref s₂.heap.objs.size) { s₂ with heap := s₂.heap.push { cls := .type "tuple", data := .seq (us.take b).toArray } } :=
    hQ _ _ ((g₁.trans g₂).trans (.push _)) (new_tup ((st.grow g₁).grow g₂).dom (il.take b))
  have hdrop : sizeOk (.seq (us.take b).toArray) := by
    show (us.take b).toArray.size ≤ sizeLine
    rw [List.size_toArray, List.length_take, show sizeLine = 16777216 from rfl]
    omega
  obtain ⟨os, hos, hcs, hds⟩ := id hsl
  have hTs : s₂.TypeIs (.ref sl) "slice" := ⟨os, hos, hcs⟩
  unfold getItem
  try with_reducible refine wpAny_holding ?_
  first | refine wpAny_bind (wpAny_pure ?_) | skip
  refine wpAny_bind (wpAny_sequenceKey ht.typeIs (by decide) ?_)
  refine wpAny_bind (wpAny_callSpecial?_slot (name := Str.ofString "__getitem__") ht.typeIs slot_tuple_getitem
    (wpAny_call_entry slot_tuple_getitem ht.typeIs entry_tuple_getitem ?_ (args_tuple_getitem _ _)))
  show wpAny _ _ (Builtin.Tuple.tupleItemsOf (.ref a) >>= _) _ _ s₂
  refine wpAny_bind (tupleItemsOf_ ht ?_)
  refine wpAny_bind (wpAny_typeOf hTs ?_)
  rw [if_pos (by decide)]
  have applied : ∀ {Q' : Int × Int × Nat → Shared → Prop} {A' : Around} {E' : Value → Shared → Prop}, Q' (0, 1, b) s₂ → wpAny (model PG w) A' (Builtin.Slice.sliceApplied (.ref sl) (pure ((us.toArray.size : Nat) : Int))) Q' E' s₂ := by
    intro Q' A' E' h
    unfold Builtin.Slice.sliceApplied Builtin.Slice.sliceFields
    refine wpAny_bind (wpAny_bind (wpAny_field hos hds (x := .none) rfl (wpAny_bind (wpAny_field hos hds (x := .int b u) rfl (wpAny_bind (wpAny_field hos hds (x := .none) rfl (wpAny_pure ?_)))))))
    refine wpAny_bind (slicePart_none ?_)
    show wpAny _ _ (if ((1 : Int) == 0) = true then _ else _) _ _ s₂
    rw [if_neg (by decide)]
    refine wpAny_bind (slicePart_none (wpAny_bind (slicePart_int (wpAny_bind (wpAny_pure ?_)))))
    show wpAny _ _ (match Builtin.Slice.sliceAdjust none (some (b : Int)) 1 ((us.toArray.size : Nat) : Int) with | (lo, hi) => pure (lo, (1 : Int), Builtin.Slice.slicePlaces lo hi 1)) _ _ s₂
    rw [adjust_to b _ (by rw [List.size_toArray, hlen]; omega)]
    show wpAny _ _ (pure ((0 : Int), (1 : Int), Builtin.Slice.slicePlaces 0 (b : Int) 1)) _ _ s₂
    rw [places_to]
    exact wpAny_pure h
  refine wpAny_bind (applied ?_)
  have hno : ¬ (((0 : Int) == 0 && (1 : Int) == 1 && b == us.toArray.size) = true) := by
    have : (b == us.toArray.size) = false := by rw [beq_eq_false_iff_ne, List.size_toArray, hlen]; omega
    rw [this]; simp
  show wpAny _ _ (if ((0 : Int) == 0 && (1 : Int) == 1 && b == us.toArray.size) = true then _ else _) _ _ s₂
  have hpick : ((List.range b).filterMap fun (k : Nat) => us.toArray[((0 : Int) + (k : Int) * 1).toNat]?).toArray = (us.take b).toArray := by
    have e : (fun (k : Nat) => us.toArray[((0 : Int) + (k : Int) * 1).toNat]?) = fun k => us[k]? := by
      funext k
      have : ((0 : Int) + (k : Int) * 1).toNat = k := by omega
      rw [this]; simp
    rw [e, pick_to us b (by omega)]
  rw [if_neg hno, hpick]
  first
    | exact wpAny_bind (m := Builtin.Tuple.tupleExact _) (wpAny_newObj_type (wpAny_pure ⟨_, rfl, wpAny_pure hfin⟩) hdrop)
    | exact wpAny_bind (m := Builtin.Tuple.tupleExact _) (wpAny_newObj_type (wpAny_bind (wpAny_pure (wpAny_pure ⟨_, rfl, wpAny_pure hfin⟩))) hdrop)
    | exact wpAny_bind (wpAny_bind (m := Builtin.Tuple.tupleExact _) (wpAny_newObj_type (wpAny_pure (wpAny_pure ⟨_, rfl, wpAny_pure hfin⟩)) hdrop))
    | exact wpAny_bind (wpAny_bind (m := Builtin.Tuple.tupleExact _) (wpAny_newObj_type (wpAny_pure ⟨_, rfl, wpAny_pure hfin⟩) hdrop))

theorem indices_from {a n : Nat} (h : a ≤ n) : Builtin.Str.strSliceIndices (some (a : Int)) none 1 n = (List.range (n - a)).map (fun k => a + k) := by
  rw [← StrLaws.strSliceIndices_plain h (Nat.le_refl n)]
  have h2 : ¬ ((n : Int) < 0) := by omega
  have e2 : max (0 : Int) (min (n : Int) (n : Int)) = n := by omega
  simp only [Builtin.Str.strSliceIndices, h2, if_false, e2, show ((1 : Int) > 0) = True from by simp, if_true]
theorem ev_slice_str_from {value l : Expr} {p pos : Pos} {x : Str} {a : Nat} (hv : EV w k env Γ value (.str x)) (hl : EV w k env Γ l (.int (a : Int))) (ha : a ≤ x.length) (hz : x.length ≤ 1000000) :
    EV w k env Γ (.Subscript value (.Slice (some l) none none p) pos) (.str ⟨(x.cps.toList.drop a).toArray⟩) := by
  intro H A s Q E r st hQ
  refine Subscript_ (hv H A s _ E r st fun o s₁ g₁ i₁ => wp_slice (pt_some hl) pt_none pt_none r (st.grow g₁) fun sl vl vu vs s₂ g₂ hsl pl pu ps => ?_)
  obtain ⟨u, rfl⟩ := is_str.mp i₁
  cases pl; cases ps; cases pu
  rename_i t
  refine wp_subTail (typeIs_str _ _ _) F.slot_str_getitem.lookup (wpAny_getItem_str_slice (l := some ((a : Int), t)) (u := none) (st := none) hsl rfl ?_)
  have hp : (slicePicked x (some ((a : Int), t)) none none) = (List.range (x.length - a)).map (fun k => a + k) := indices_from ha
  have hf : ((List.range (x.length - a)).map (fun k => a + k)).filterMap (x.cps[·]?) = x.cps.toList.drop a := by
    rw [← StrLaws.strSliceIndices_plain ha (Nat.le_refl _), StrLaws.sliced_plain x ha (Nat.le_refl _)]
    rw [List.take_of_length_le (by simp [Str.length])]
  unfold sliceMade
  rw [hp, hf]
  split
  · rename_i hc
    simp only [Bool.and_eq_true, beq_iff_eq, List.length_map, List.length_range] at hc
    have : a = 0 ∨ x.length = 0 := by omega
    have e : (⟨(x.cps.toList.drop a).toArray⟩ : Str) = x := by
      have : x.cps.toList.drop a = x.cps.toList := by
        rcases this with h | h
        · rw [h]; rfl
        · have hn : x.cps.toList = [] := by
            apply List.length_eq_zero_iff.mp; simpa [Str.length] using h
          rw [hn]; simp
      rw [this]
    exact hQ _ _ (g₁.trans g₂) (is_str.mpr ⟨_, by rw [e]⟩)
  · refine ⟨?_, hQ _ _ ((g₁.trans g₂).trans (.toks _)) (is_str.mpr ⟨_, rfl⟩)⟩
    show (x.cps.toList.drop a).toArray.size ≤ sizeLine
    rw [List.size_toArray, List.length_drop, show sizeLine = 16777216 from rfl]
    have : x.cps.toList.length = x.length := by simp [Str.length]
    omega
end

abbrev iL (ns : List Int) : List D := ns.map D.int
/-- an operator upon one deep value -/
def UO (w : World) (k : Nat) (op : UnaryOp) (d₁ d : D) : Prop :=
  ∀ (A : Around) (s : Shared) (H : List Addr) (v₁ : Value) (Q : Value → Shared → Prop) (E : Value → Shared → Prop), Room k A → Is w (hid H s.heap) d₁ v₁ → (∀ v s', Grow s s' → Is w (hid H s'.heap) d v → Q v s') → wpAny (model PG w) A (unaryOp op v₁) Q E s
/-- a deep value's truth -/
def TR (w : World) (k : Nat) (d : D) (b : Bool) : Prop :=
  ∀ (A : Around) (s : Shared) (H : List Addr) (v : Value) (Q : Bool → Shared → Prop) (E : Value → Shared → Prop), Room k A → Is w (hid H s.heap) d v → (∀ s', Grow s s' → Q b s') → wpAny (model PG w) A (truthy v) Q E s

section
variable {w : World} {k : Nat} {env : Env} {Γ : List (Str × D)} {a b : Int}
theorem ev_unary {op : UnaryOp} {e : Expr} {pos : Pos} {d₁ d : D} (he : EV w k env Γ e d₁) (ho : UO w k op d₁ d) : EV w k env Γ (.UnaryOp op e pos) d := by
  intro H A s Q E r st hQ
  exact wpAny_UnaryOp (he H A s _ E r st fun v s₁ g i => ho A s₁ H v Q E r i fun u s' g' i' => hQ u s' (g.trans g') i')
theorem uo_neg : UO w k .USub (.int a) (.int (-a)) := by
  intro A s H v Q E _ i hQ
  obtain ⟨t, rfl⟩ := is_int.mp i
  exact PyProof.Rows.neg_int (hQ _ _ (.toks _) (is_int.mpr ⟨_, rfl⟩))
theorem tr_int : TR w k (.int a) (a != 0) := by
  intro A s H v Q E _ i hQ
  obtain ⟨t, rfl⟩ := is_int.mp i
  exact PyProof.Rows.truthy_int (hQ _ (.refl _))
theorem tr_bool {c : Bool} : TR w k (.bool c) c := by
  intro A s H v Q E _ i hQ
  rw [is_bool] at i; subst i
  exact wpAny_truthy_bool (hQ _ (.refl _))
theorem tr_str {x : Str} (hz : x.length ≤ 1000000) : TR w k (.str x) ((x.length : Int) != 0) := by
  intro A s H v Q E _ i hQ
  obtain ⟨t, rfl⟩ := is_str.mp i
  exact P.truthy_str (by omega) (hQ _ (.toks _))
theorem tr_list {ds : List D} (hz : ds.length ≤ 1000000) : TR w k (.lst ds) (!ds.isEmpty) := by
  intro A s H v Q E _ i hQ
  obtain ⟨a, vs, rfl, hl, il⟩ := is_lst.mp i
  have hlen := il.length
  refine wpAny_truthy_list (isList_seen hl).1 (by rw [List.size_toArray, hlen]; omega) ?_
  have e : (!vs.toArray.isEmpty) = !ds.isEmpty := by
    cases vs <;> cases ds <;> first | rfl | (simp at hlen) | simp
  rw [e]; exact hQ _ (.toks _)
theorem tv_value {e : Expr} {d : D} {c : Bool} (he : EV w k env Γ e d) (ht : TR w k d c) (hi : isTrue e env (eval e env) = (do let v ← eval e env; standAt e.pos; holding [v] (truthy v)) := by rfl) : TV w k env Γ e c := by
  intro H A s Q E r st hQ
  exact wpAny_isTrue_value (he H A s _ E r st fun v s₁ g i => ht A s₁ H v Q E r i fun s' g' => hQ s' (g.trans g')) hi
theorem tv_or {e f : Expr} {pos : Pos} {c d : Bool} (he : TV w k env Γ e c) (hf : c = false → TV w k env Γ f d) (hd : c = true → d = true) : TV w k env Γ (.BoolOp .Or [e, f] pos) d := by
  intro H A s Q E r st hQ
  refine wpAny_isTrue_BoolOp (wpAny_allTrue_Or_cons (he H A s _ E r st fun s₁ g => ?_))
  cases c with
  | true => rw [hd rfl] at hQ; exact hQ s₁ g
  | false =>
    refine wpAny_allTrue_Or_cons (hf rfl H A s₁ _ E r (st.grow g) fun s₂ g₂ => ?_)
    cases d with
    | true => exact hQ _ (g.trans g₂)
    | false => exact wpAny_allTrue_Or_nil (hQ _ (g.trans g₂))
theorem ev_ifexp {t e f : Expr} {pos : Pos} {c : Bool} {d : D} (ht : TV w k env Γ t c) (he : EV w k env Γ (if c then e else f) d) : EV w k env Γ (.IfExp t e f pos) d := by
  intro H A s Q E r st hQ
  refine wpAny_IfExp (ht H A s _ E r st fun s₁ g => ?_)
  cases c with
  | true => exact he H A s₁ Q E r (st.grow g) fun v s' g' i => hQ v s' (g.trans g') i
  | false => exact he H A s₁ Q E r (st.grow g) fun v s' g' i => hQ v s' (g.trans g') i
theorem ev_bool {c : Bool} {n : Nat} {pos : Pos} : EV w k env Γ (.Constant (.bool c) n pos) (.bool c) :=
  fun _ _ _ _ _ _ _ hQ => wpAny_Constant_bool (hQ _ _ (.refl _) (is_bool.mpr rfl))

theorem cp_gt : CP w k .Gt (.int a) (.int b) (decide (b < a)) := by
  intro A s H v₁ v₂ Q E _ _ _ _ i₁ i₂ hQ
  obtain ⟨t, rfl⟩ := is_int.mp i₁
  obtain ⟨u, rfl⟩ := is_int.mp i₂
  exact PyProof.Rows.gt_int (hQ _ (.refl _))
theorem cp_le : CP w k .LtE (.int a) (.int b) (decide (a ≤ b)) := by
  intro A s H v₁ v₂ Q E _ _ _ _ i₁ i₂ hQ
  obtain ⟨t, rfl⟩ := is_int.mp i₁
  obtain ⟨u, rfl⟩ := is_int.mp i₂
  exact PyProof.Rows.le_int (hQ _ (.refl _))
theorem cp_ge : CP w k .GtE (.int a) (.int b) (decide (b ≤ a)) := by
  intro A s H v₁ v₂ Q E _ _ _ _ i₁ i₂ hQ
  obtain ⟨t, rfl⟩ := is_int.mp i₁
  obtain ⟨u, rfl⟩ := is_int.mp i₂
  exact PyProof.Rows.ge_int (hQ _ (.refl _))
theorem cp_ne : CP w k .NotEq (.int a) (.int b) (a != b) := by
  intro A s H v₁ v₂ Q E _ _ _ _ i₁ i₂ hQ
  obtain ⟨t, rfl⟩ := is_int.mp i₁
  obtain ⟨u, rfl⟩ := is_int.mp i₂
  exact PyProof.Rows.ne_int (hQ _ (.refl _))
theorem cp_ne_str {x y : Str} : CP w k .NotEq (.str x) (.str y) (x != y) := by
  intro A s H v₁ v₂ Q E _ _ _ _ i₁ i₂ hQ
  obtain ⟨t, rfl⟩ := is_str.mp i₁
  obtain ⟨u, rfl⟩ := is_str.mp i₂
  exact PyProof.Rows.ne_str (hQ _ (.refl _))
theorem cp_notin_str {x y : Str} : CP w k .NotIn (.str y) (.str x) (!(!(Builtin.Str.occurrences x y 0 x.length 1).isEmpty)) := by
  intro A s H v₁ v₂ Q E _ _ _ _ i₁ i₂ hQ
  obtain ⟨t, rfl⟩ := is_str.mp i₁
  obtain ⟨u, rfl⟩ := is_str.mp i₂
  exact PyProof.Rows.notIn_str (hQ _ (.refl _))
theorem valueAt_isSome {a : Int} : ∀ {ks : List Int} {vs : List Value}, ks.length = vs.length → (valueAt (ks.zip vs) a).isSome = ks.contains a
  | [], _, _ => rfl
  | q :: ks, [], hn => nomatch hn
  | q :: ks, v :: vs, hn => by
    have ih := valueAt_isSome (a := a) (ks := ks) (vs := vs) (by simpa using hn)
    by_cases hq : q = a
    · subst hq; simp [valueAt]
    · have hb : (a == q) = false := by simpa using fun h : a = q => hq h.symm
      rw [List.contains_cons, hb, Bool.false_or, ← ih]
      simp [valueAt, hq]
theorem cp_in_dict {ks : List Int} {ds : List D} (hl : ks.length = ds.length) : CP w k .In (.int a) (.dct ks ds) (ks.contains a) := by
  intro A s H v₁ v₂ Q E _ _ _ _ i₁ i₂ hQ
  obtain ⟨t, rfl⟩ := is_int.mp i₁
  obtain ⟨c, vs, rfl, hm, ⟨hn, hsm⟩, il⟩ := is_dct.mp i₂
  refine wpAny_in_of (intKind_is PG w a t) hsm (dictOf_seen hm).1.mapOf ?_
  rw [valueAt_isSome hn]; exact hQ _ (.toks _)

theorem reads_ints {h : Heap} : ∀ {ns : List Int} {vs : List Value}, IsL w h (iL ns) vs → ReadsAll h vs (ns.map PyData.int) []
  | [], vs, x => by rw [iL, List.map_nil, isL_nil] at x; subst x; exact .nil
  | n :: ns, vs, x => by
    rw [iL, List.map_cons, isL_cons] at x
    obtain ⟨v, r, rfl, y, z⟩ := x
    obtain ⟨t, rfl⟩ := is_int.mp y
    exact .cons (as := []) (.int _ _) (reads_ints z)
theorem reads_list {h : Heap} {ns : List Int} {v : Value} (x : Is w h (.lst (iL ns)) v) : ∃ as, Reads h v (.list (ns.map PyData.int)) as := by
  obtain ⟨c, vs, rfl, ⟨o, e, n, rfl⟩, il⟩ := is_lst.mp x
  exact ⟨_, .list e rfl rfl (reads_ints il)⟩
theorem reads_tup {h : Heap} {ns : List Int} {v : Value} (x : Is w h (.tup (iL ns)) v) : ∃ as, Reads h v (.tuple (ns.map PyData.int)) as := by
  obtain ⟨c, vs, rfl, ⟨o, e, hc, n, hd⟩, il⟩ := is_tup.mp x
  exact ⟨_, .tuple e hc hd (reads_ints il)⟩
theorem ints_shape : ∀ (ns : List Int), PyData.canLayAll0 (ns.map PyData.int) = true ∧ PyData.depthAll (ns.map PyData.int) = 0
  | [] => ⟨rfl, rfl⟩
  | n :: ns => by
    obtain ⟨h1, h2⟩ := ints_shape ns
    simp only [List.map_cons, PyData.canLayAll0, PyData.canLay0, h1, PyData.depthAll, PyData.depth, h2]
    exact ⟨rfl, rfl⟩
theorem shaped_list (ns : List Int) : SeqAt.shaped (.list (ns.map PyData.int)) = true := by
  simp only [SeqAt.shaped, PyData.canLay0, (ints_shape ns).1, PyData.depth, (ints_shape ns).2]; rfl
theorem shaped_tup (ns : List Int) : SeqAt.shaped (.tuple (ns.map PyData.int)) = true := by
  simp only [SeqAt.shaped, PyData.canLay0, (ints_shape ns).1, PyData.depth, (ints_shape ns).2]; rfl
theorem eqv_ints : ∀ (ns ms : List Int), PyData.eqvAll (ns.map PyData.int) (ms.map PyData.int) = (ns == ms)
  | [], [] => rfl
  | [], _ :: _ => rfl
  | _ :: _, [] => rfl
  | n :: ns, m :: ms => by
    simp only [List.map_cons, PyData.eqvAll, PyData.eqv, eqv_ints ns ms]
    rfl
theorem cp_eq_ints {ns ms : List Int} (hk : 4 ≤ k) : CP w k .Eq (.lst (iL ns)) (.lst (iL ms)) (ns == ms) := by
  intro A s H v₁ v₂ Q E r _ _ _ i₁ i₂ hQ
  obtain ⟨_, r₁⟩ := reads_list i₁.seen
  obtain ⟨_, r₂⟩ := reads_list i₂.seen
  refine eq_dataH r₁ r₂ (shaped_list _) (shaped_list _) (by have := r.2.2; omega) ?_
  rw [PyData.eqv, eqv_ints]; exact hQ _ (.refl _)
theorem cp_ne_ints {ns ms : List Int} (hk : 4 ≤ k) : CP w k .NotEq (.lst (iL ns)) (.lst (iL ms)) (!(ns == ms)) := by
  intro A s H v₁ v₂ Q E r _ _ _ i₁ i₂ hQ
  obtain ⟨_, r₁⟩ := reads_list i₁.seen
  obtain ⟨_, r₂⟩ := reads_list i₂.seen
  refine ne_dataH r₁ r₂ (shaped_list _) (shaped_list _) (by have := r.2.2; omega) ?_
  rw [PyData.eqv, eqv_ints]; exact hQ _ (.refl _)
theorem cp_ne_tints {ns ms : List Int} (hk : 4 ≤ k) : CP w k .NotEq (.tup (iL ns)) (.tup (iL ms)) (!(ns == ms)) := by
  intro A s H v₁ v₂ Q E r _ _ _ i₁ i₂ hQ
  obtain ⟨_, r₁⟩ := reads_tup i₁.seen
  obtain ⟨_, r₂⟩ := reads_tup i₂.seen
  refine ne_dataH r₁ r₂ (shaped_tup _) (shaped_tup _) (by have := r.2.2; omega) ?_
  rw [PyData.eqv, eqv_ints]; exact hQ _ (.refl _)
theorem cp_eq_len {ds es : List D} (h : ds.length ≠ es.length) : CP w k .Eq (.lst ds) (.lst es) false := by
  intro A s H v₁ v₂ Q E r _ _ _ i₁ i₂ hQ
  obtain ⟨a, vs, rfl, hl, il⟩ := is_lst.mp i₁
  obtain ⟨b, us, rfl, hm, im⟩ := is_lst.mp i₂
  exact SeqAt.eq_list_lengthsAt (isList_seen hl).1 (isList_seen hm).1 (by rw [List.size_toArray, List.size_toArray, il.length, im.length]; simpa using h) (by have := r.2.2; omega) (hQ _ (.refl _))
theorem keq_same {A : Around} {s : Shared} {kb : List (Int × Value)} : ∀ {ks : List Int} {ns : List Int} {vs us : List Value}, IsL w s.heap (iL ns) vs → IsL w s.heap (iL ns) us → (∀ p ∈ ks.zip us, valueAt kb p.1 = some p.2) → KeqHits A s kb (ks.zip vs) true
  | [], _, _, _, _, _, _ => .nil
  | q :: ks, [], vs, us, x, _, _ => by rw [iL, List.map_nil, isL_nil] at x; subst x; exact .nil
  | q :: ks, n :: ns, vs, us, x, y, hv => by
    rw [iL, List.map_cons, isL_cons] at x y
    obtain ⟨v, r, rfl, x1, x2⟩ := x
    obtain ⟨u, r', rfl, y1, y2⟩ := y
    obtain ⟨t, rfl⟩ := is_int.mp x1
    obtain ⟨t', rfl⟩ := is_int.mp y1
    have := KeqHits.hit (hv (q, _) (by rw [List.zip_cons_cons]; exact .head _)) (SeqAt.EqAt.int_int (A := A) (s := s) n t n t') (keq_same x2 y2 fun p hp => hv p (by rw [List.zip_cons_cons]; exact .tail _ hp))
    rw [beq_self_eq_true] at this
    exact this
theorem valueAt_mem {kvs : List (Int × Value)} (hn : (kvs.map (·.1)).Nodup) : ∀ p ∈ kvs, valueAt kvs p.1 = some p.2 := by
  induction kvs with
  | nil => intro p hp; cases hp
  | cons q r ih =>
    intro p hp
    rw [List.map_cons, List.nodup_cons] at hn
    rcases List.mem_cons.mp hp with rfl | hp
    · simp [valueAt]
    · have hne : ¬ q.1 = p.1 := fun e => hn.1 (e ▸ List.mem_map.mpr ⟨p, hp, rfl⟩)
      have := ih hn.2 p hp
      simpa [valueAt, List.find?_cons, hne] using this
theorem cp_ne_dict {ks ns : List Int} : CP w k .NotEq (.dct ks (iL ns)) (.dct ks (iL ns)) false := by
  intro A s H v₁ v₂ Q E r _ _ _ i₁ i₂ hQ
  obtain ⟨a, vs, rfl, hl, ⟨n1, m1⟩, il⟩ := is_dct.mp i₁
  obtain ⟨b, us, rfl, hm, ⟨n2, m2⟩, im⟩ := is_dct.mp i₂
  obtain ⟨o, es, ep, ho, q1, q2, q3, q4, hnd⟩ := id hm
  refine keq_ne m1 m2 (dictOf_seen hl).1 (dictOf_seen hm).1 (by have := r.2.2; omega) (fun _ => keq_same il.seen im.seen (valueAt_mem hnd)) ?_
  rw [List.length_zip, List.length_zip, ← n1, ← n2]
  simpa using hQ _ (.refl _)

theorem bo_add_str {x y : Str} (hz : x.length + y.length ≤ 1000000) : BO w k .Add (.str x) (.str y) (.str (x ++ y)) := by
  intro A s H v₁ v₂ Q E _ _ _ _ i₁ i₂ hQ
  obtain ⟨t, rfl⟩ := is_str.mp i₁
  obtain ⟨u, rfl⟩ := is_str.mp i₂
  exact PyProof.Rows.add_str (fun _ _ => hQ _ _ (.toks _) (is_str.mpr ⟨_, rfl⟩)) (by rw [show sizeLine = 16777216 from rfl]; omega)
theorem bo_add_list {ds es : List D} (hz : ds.length + es.length ≤ 1000000) : BO w k .Add (.lst ds) (.lst es) (.lst (ds ++ es)) := by
  intro A s H v₁ v₂ Q E r _ _ dom i₁ i₂ hQ
  obtain ⟨a, vs, rfl, hl, il⟩ := is_lst.mp i₁
  obtain ⟨b, us, rfl, hm, im⟩ := is_lst.mp i₂
  obtain ⟨⟨cls, dd, data, sl⟩, ho, hc, n, hd⟩ := (isList_seen hl).1
  obtain ⟨⟨cls2, dd2, data2, sl2⟩, ho2, hc2, n2, hd2⟩ := (isList_seen hm).1
  simp only at hc hd hc2 hd2
  subst hc hd hc2 hd2
  have e : vs.toArray ++ us.toArray = (vs ++ us).toArray := by simp
  refine concat_meets ⟨_, ho, rfl⟩ ⟨_, ho2, rfl⟩ noFill_list_add seq_list_add PySem.F.slot_list_add PySem.F.entry_list_add (PySem.F.args_list_add_2 _ _) (list_addW a b vs.toArray us.toArray n n2 dd dd2 sl sl2 (by rw [List.size_toArray, List.size_toArray, il.length, im.length, show sizeLine = 16777216 from rfl]; omega)) ⟨ho, ho2, ?_⟩
  rw [e]
  exact hQ _ _ (.push _) (new_lst dom (il.append im))
theorem isL_rep {h : Heap} {ds : List D} {vs : List Value} (il : IsL w h ds vs) : ∀ n, IsL w h (List.replicate n ds).flatten (List.replicate n vs).flatten
  | 0 => isL_nil.mpr rfl
  | n + 1 => by rw [List.replicate_succ, List.replicate_succ, List.flatten_cons, List.flatten_cons]; exact il.append (isL_rep il n)
theorem wp_mul_list {A : Around} {s : Shared} {H : List Addr} {ds : List D} {v₁ v₂ : Value} {Q E : Value → Shared → Prop} (h0 : 0 ≤ a) (hz : ds.length * a.toNat ≤ 1000000) (hz2 : a ≤ 1000000) (i₁ : Is w (hid H s.heap) (.lst ds) v₁) (i₂ : Is w (hid H s.heap) (.int a) v₂)
    (h : ∀ vs : List Value, IsL w (hid H s.heap) (List.replicate a.toNat ds).flatten vs → Q (.ref s.heap.objs.size) { s with heap := s.heap.push { cls := .type "list", data := .seq vs.toArray } }) : wpAny (model PG w) A (binaryOp .Mult v₁ v₂) Q E s := by
  obtain ⟨l, vs, rfl, hl, il⟩ := is_lst.mp i₁
  obtain ⟨t, rfl⟩ := is_int.mp i₂
  obtain ⟨⟨cls, dd, data, sl⟩, ho, hc, n, hd⟩ := (isList_seen hl).1
  simp only at hc hd
  subst hc hd
  have hsz : vs.toArray.size * a.toNat ≤ 1000000 := by rw [List.size_toArray, il.length]; exact hz
  refine wpAny_binaryOp_repeat_ref (T := "list") (U := "int") (by decide) ⟨_, ho, rfl⟩ (fun s' => typeIs_int s' a t) noFill_list_mul PySem.F.fills_int_mul PySem.F.slot_int_rmul repeat_list PySem.F.slot_int_index.lookup
    (call_meets PySem.F.slot_int_rmul (typeIs_int s a t) PySem.F.entry_int_rmul (PySem.F.args_int_rmul_2 _ _) (lm_int_rmul_list_any a t l vs.toArray n dd sl)
      ⟨ho, rfl, ⟨_, ho, rfl⟩, call_meets PySem.F.slot_list_mul ⟨_, ho, rfl⟩ PySem.F.entry_list_mul (PySem.F.args_list_mul_2 _ _)
        (lm_list_mul_any l vs.toArray n dd sl a t (by simp [Builtin.List.listFitsIndex]; omega) (by omega) (by simp [Builtin.List.listTooLong, sizeLine]; simp at hsz; omega))
        ⟨ho, ?_⟩⟩)
  rw [listMul_foldl_if]
  exact h _ (isL_rep il _)
theorem bo_mul_list {ds : List D} (h0 : 0 ≤ a) (hz : ds.length * a.toNat ≤ 1000000) (hz2 : a ≤ 1000000) : BO w k .Mult (.lst ds) (.int a) (.lst (List.replicate a.toNat ds).flatten) :=
  fun A s H v₁ v₂ Q E r _ _ dom i₁ i₂ hQ => wp_mul_list h0 hz hz2 i₁ i₂ fun vs il => hQ _ _ (.push _) (new_lst dom il)
end

abbrev sL (xs : List Str) : List D := xs.map D.str
/-- a deep value's type, no names of its own -/
def TY (w : World) (d : D) (T : String) : Prop :=
  ∀ (s : Shared) (H : List Addr) (v : Value), Is w (hid H s.heap) d v → s.TypeIs v T ∧ ∀ a, v = .ref a → ∃ ob, s.heap.get? a = some ob ∧ ob.dict = none
section
variable {w : World} {k : Nat} {env : Env} {Γ : List (Str × D)} {a b : Int}
theorem ty_int : TY w (.int a) "int" := fun s H v i => by
  obtain ⟨t, rfl⟩ := is_int.mp i
  exact ⟨typeIs_int _ _ _, fun _ e => nomatch e⟩
theorem ty_str {x : Str} : TY w (.str x) "str" := fun s H v i => by
  obtain ⟨t, rfl⟩ := is_str.mp i
  exact ⟨typeIs_str _ _ _, fun _ e => nomatch e⟩
theorem ty_list {ds : List D} : TY w (.lst ds) "list" := fun s H v i => by
  obtain ⟨c, vs, rfl, hl, _⟩ := is_lst.mp i
  refine ⟨(isList_seen hl).1.typeIs, fun a e => ?_⟩
  cases e
  obtain ⟨o, e, n, rfl⟩ := ls_seen hl
  exact ⟨_, e, rfl⟩
theorem ev_meth0 {o : Expr} {name : Str} {apos pos : Pos} {T id : String} {dO d : D} (ho : EV w k env Γ o dO) (hT : TY w dO T) (pa : PlainAttrs T) (slot : Slot T name id) (hty : typeOf (.builtin id) = pure (.type "method_descriptor"))
    (hc : CL w k (.builtin id) [dO] d) (hbase : attributeBase o name env (eval o env) = eval o env := by rfl) (hline : (apos.endLine == pos.line) = true := by rfl) :
    EV w k env Γ (.Call (.Attribute o name apos) [] [] pos) d := by
  intro H A s Q E r st hQ
  refine wpAny_Call_method hbase rfl hline pa slot hty (ho H A s _ E r st fun v s₁ g₁ i₁ => ?_)
  obtain ⟨h1, h2⟩ := hT s₁ H v i₁
  have st₁ := st.grow g₁
  exact ⟨h1, h2, callWith_method0 (hc A s₁ H [v] Q E r st₁.base st.tabs st₁.dom (.one i₁) fun u s'' g' i' => hQ u s'' (g₁.trans g') i')⟩
theorem ev_meth {o : Expr} {name : Str} {apos pos : Pos} {e : Expr} {rest : List Expr} {T id : String} {dO d : D} {ds : List D} (ho : EV w k env Γ o dO) (hT : TY w dO T) (pa : PlainAttrs T) (slot : Slot T name id) (hty : typeOf (.builtin id) = pure (.type "method_descriptor"))
    (ha : ES w k env Γ (e :: rest) ds) (hc : CL w k (.builtin id) (dO :: ds) d)
    (hbase : attributeBase o name env (eval o env) = eval o env := by rfl)
    (hfew : ((backTo pos (starEach (e :: rest) env)).all (fun x => !x.1) && (backToKw pos (keywordEach [] env)).all (fun x => x.1.isSome) && decide ((e :: rest).length + ([] : List Keyword).length + (if ([] : List Keyword).isEmpty then 0 else 1) < 30)) = true := by rfl)
    (hline : (apos.endLine == pos.line) = true := by rfl)
    (h3 : starEach (e :: rest) env = (false, eval e env) :: starEach rest env := by rfl) (h4 : (backTo pos (starEach rest env)).any (·.1) = false := by rfl) :
    EV w k env Γ (.Call (.Attribute o name apos) (e :: rest) [] pos) d := by
  intro H A s Q E r st hQ
  refine wpAny_Call_method hbase hfew hline pa slot hty (ho H A s _ E r st fun v s₁ g₁ i₁ => ?_)
  obtain ⟨h1, h2⟩ := hT s₁ H v i₁
  have st₁ := st.grow g₁
  refine ⟨h1, h2, callWith_method1 (ha H pos A s₁ _ E r st₁ fun vs s' g i => ?_) h3 h4⟩
  exact hc A s' H _ Q E r (st₁.grow g).base st.tabs (st₁.grow g).dom (isL_cons.mpr ⟨v, vs, rfl, i₁.grow g st.tabs, i⟩) fun u s'' g' i' => hQ u s'' ((g₁.trans g).trans g') i'

theorem ints_are {h : Heap} : ∀ {ns : List Int} {vs : List Value}, IsL w h (iL ns) vs → IntsAre vs ns
  | [], vs, x => by rw [iL, List.map_nil, isL_nil] at x; subst x; exact .nil
  | n :: ns, vs, x => by
    rw [iL, List.map_cons, isL_cons] at x
    obtain ⟨v, r, rfl, y, z⟩ := x
    obtain ⟨t, rfl⟩ := is_int.mp y
    exact .cons _ _ (ints_are z)
theorem int_items {h : Heap} {ns : List Int} {vs : List Value} (x : IsL w h (iL ns) vs) : ∃ xs : Array (Int × Tok), vs.toArray = intItems xs ∧ xs.toList.map (·.1) = ns := by
  obtain ⟨xs, e⟩ := (ints_are x).allInts.items
  refine ⟨xs, e, ?_⟩
  rw [← nums_intItems, ← e, show vs.toArray.toList = vs from rfl, (ints_are x).numsOf]
theorem is_ints {h : Heap} : ∀ {ns : List Int} {vs : List Value}, IntsAre vs ns → IsL w h (iL ns) vs
  | _, _, .nil => isL_nil.mpr rfl
  | _, _, .cons n t r => isL_cons.mpr ⟨_, _, rfl, is_int.mpr ⟨_, rfl⟩, is_ints r⟩
theorem isL_one {h : Heap} {d : D} {vs : List Value} (x : IsL w h [d] vs) : ∃ v, vs = [v] ∧ Is w h d v := by
  obtain ⟨v, r, rfl, y, z⟩ := isL_cons.mp x
  rw [isL_nil] at z; subst z
  exact ⟨v, rfl, y⟩
theorem isL_two {h : Heap} {d e : D} {vs : List Value} (x : IsL w h [d, e] vs) : ∃ v u, vs = [v, u] ∧ Is w h d v ∧ Is w h e u := by
  obtain ⟨v, r, rfl, y, z⟩ := isL_cons.mp x
  obtain ⟨u, rfl, z'⟩ := isL_one z
  exact ⟨v, u, rfl, y, z'⟩

theorem cl_len_list {ds : List D} (hz : ds.length ≤ 1000000) : CL w k (.builtin "len") [.lst ds] (.int ds.length) := by
  intro A s H vs Q E r bs tb dm i0 hQ
  obtain ⟨v, rfl, i⟩ := isL_one i0
  obtain ⟨c, us, rfl, hl, il⟩ := is_lst.mp i
  refine Calls.call_len_list (isList_seen hl).1 (by rw [List.size_toArray, il.length]; omega) ?_
  rw [List.size_toArray, il.length]
  exact hQ _ _ (.toks _) (is_int.mpr ⟨_, rfl⟩)
theorem cl_len_str {x : Str} (hz : x.length ≤ 1000000) : CL w k (.builtin "len") [.str x] (.int x.length) := by
  intro A s H vs Q E r bs tb dm i0 hQ
  obtain ⟨v, rfl, i⟩ := isL_one i0
  obtain ⟨t, rfl⟩ := is_str.mp i
  exact PyProof.Rows.len_str (by omega) (hQ _ _ (.toks _) (is_int.mpr ⟨_, rfl⟩))
theorem cl_sum {ns : List Int} : CL w k (.builtin "sum") [.lst (iL ns)] (.int ns.sum) := by
  intro A s H vs Q E r bs tb dm i0 hQ
  obtain ⟨v, rfl, i⟩ := isL_one i0
  obtain ⟨c, us, rfl, hl, il⟩ := is_lst.mp i
  obtain ⟨xs, e, hx⟩ := int_items il
  refine sum_intListG r.1 (e ▸ (isList_seen hl).1) fun h' tk t' hk => ?_
  rw [preSum_eq, List.take_of_length_le (by simp), hx]
  exact hQ _ _ (.of_keeps hk) (is_int.mpr ⟨_, rfl⟩)
theorem cl_max {ns : List Int} {m : Int} (hm : m ∈ ns) (hle : ∀ x ∈ ns, x ≤ m) : CL w k (.builtin "max") [.lst (iL ns)] (.int m) := by
  intro A s H vs Q E r bs tb dm i0 hQ
  obtain ⟨v, rfl, i⟩ := isL_one i0
  obtain ⟨c, us, rfl, hl, il⟩ := is_lst.mp i
  obtain ⟨xs, e, hx⟩ := int_items il
  have hlen : xs.size = ns.length := by rw [← hx, List.length_map, Array.length_toList]
  have h0 : 0 < xs.size := by rw [hlen]; exact List.length_pos_of_mem hm
  refine max_intList r.1 (e ▸ (isList_seen hl).1) h0 fun v h' tk hv hk => ?_
  obtain ⟨t, rfl⟩ := intItems_at hv
  obtain ⟨h1, h2⟩ := argBest_gt (numAt xs) (xs.size - 1)
  refine hQ _ _ (.of_keeps hk) (is_int.mpr ⟨t, ?_⟩)
  congr 1
  apply Int.le_antisymm
  · rw [numAt_eq, hx]; exact hle _ (getD_mem (by omega))
  · obtain ⟨j, hj, rfl⟩ := mem_getD hm
    rw [← hx, ← numAt_eq]; exact h2 j (by omega)
theorem cl_min {ns : List Int} {m : Int} (hm : m ∈ ns) (hle : ∀ x ∈ ns, m ≤ x) : CL w k (.builtin "min") [.lst (iL ns)] (.int m) := by
  intro A s H vs Q E r bs tb dm i0 hQ
  obtain ⟨v, rfl, i⟩ := isL_one i0
  obtain ⟨c, us, rfl, hl, il⟩ := is_lst.mp i
  obtain ⟨xs, e, hx⟩ := int_items il
  have hlen : xs.size = ns.length := by rw [← hx, List.length_map, Array.length_toList]
  have h0 : 0 < xs.size := by rw [hlen]; exact List.length_pos_of_mem hm
  refine min_intList r.1 (e ▸ (isList_seen hl).1) h0 fun v h' tk hv hk => ?_
  obtain ⟨t, rfl⟩ := intItems_at hv
  obtain ⟨h1, h2⟩ := argBest_lt (numAt xs) (xs.size - 1)
  refine hQ _ _ (.of_keeps hk) (is_int.mpr ⟨t, ?_⟩)
  congr 1
  apply Int.le_antisymm
  · obtain ⟨j, hj, rfl⟩ := mem_getD hm
    rw [← hx, ← numAt_eq]; exact h2 j (by omega)
  · rw [numAt_eq, hx]; exact hle _ (getD_mem (by omega))
theorem sorted_unique : ∀ {xs ys : List Int}, xs.Perm ys → xs.Pairwise (· ≤ ·) → ys.Pairwise (· ≤ ·) → xs = ys := by
  intro xs
  induction xs with
  | nil => intro ys p _ _; exact (List.nil_perm.mp p).symm
  | cons x xs ih =>
    intro ys p h1 h2
    cases ys with
    | nil => exact absurd p (by simp)
    | cons y ys =>
      have e : x = y := by
        have m1 : x ∈ y :: ys := p.subset (.head _)
        have m2 : y ∈ x :: xs := p.symm.subset (.head _)
        apply Int.le_antisymm
        · rcases List.mem_cons.mp m2 with e | m2
          · exact Int.le_of_eq e.symm
          · exact List.rel_of_pairwise_cons h1 m2
        · rcases List.mem_cons.mp m1 with e | m1
          · exact Int.le_of_eq e.symm
          · exact List.rel_of_pairwise_cons h2 m1
      subst e
      rw [ih ((List.perm_cons x).mp p) (List.pairwise_cons.mp h1).2 (List.pairwise_cons.mp h2).2]
theorem cl_sorted {ns ms : List Int} (hp : ms.Perm ns) (ho : ms.Pairwise (· ≤ ·)) (h64 : ns.length < 64) : CL w k (.builtin "sorted") [.lst (iL ns)] (.lst (iL ms)) := by
  intro A s H vs Q E r bs tb dm i0 hQ
  obtain ⟨v, rfl, i⟩ := isL_one i0
  obtain ⟨c, us, rfl, hl, il⟩ := is_lst.mp i
  have hlen : us.length = ns.length := by rw [il.length, List.length_map]
  refine sorted_ints (isList_seen hl).1 (ints_are il) (by omega) fun out ns' a1 a2 a3 => ?_
  have e : ns' = ms := sorted_unique (a2.trans hp.symm) a3 ho
  subst e
  obtain ⟨ep, hat⟩ := sortedAll_at s.heap us out
  refine hQ _ _ (.keepsAt fun b o e => sortedAll_old e) (is_lst.mpr ⟨_, out.toList, rfl, ⟨_, hid_get.mpr ⟨hat, fun m => ?_⟩, ep, by simp⟩, is_ints a1⟩)
  obtain ⟨o, e⟩ := dm _ m
  exact absurd (Heap.lt_size e) (Nat.not_lt.mpr (Nat.le_succ _))
theorem cl_divmod (hb : b ≠ 0) (hp : Builtin.divisionGoesByPylong a b = false) : CL w k (.builtin "divmod") [.int a, .int b] (.tup (iL [a.fdiv b, a.fmod b])) := by
  intro A s H vs Q E r bs tb dm i0 hQ
  obtain ⟨v, u, rfl, i, j⟩ := isL_two i0
  obtain ⟨t, rfl⟩ := is_int.mp i
  obtain ⟨t', rfl⟩ := is_int.mp j
  refine divmod_int hb (hQ _ _ (.of_keeps fun _ _ e => Heap.get?_push_of_some _ e) ?_) (.inl hp)
  exact new_tup (vs := [.int (a.fdiv b) s.toks, .int (a.fmod b) (s.toks + 1)]) dm (isL_cons.mpr ⟨_, _, rfl, is_int.mpr ⟨_, rfl⟩, .one (is_int.mpr ⟨_, rfl⟩)⟩)
theorem cl_int {x : Str} {n : Int} (hn : PySem.intText? x = some n) (hl : x.length ≤ 640) : CL w k (.type "int") [.str x] (.int n) := by
  intro A s H vs Q E r bs tb dm i0 hQ
  obtain ⟨v, rfl, i⟩ := isL_one i0
  obtain ⟨t, rfl⟩ := is_str.mp i
  exact KIN.call_text hn hl (hQ _ _ (.toks _) (is_int.mpr ⟨_, rfl⟩))
theorem str_values {h : Heap} : ∀ {xs : List Str} {vs : List Value}, IsL w h (sL xs) vs → ∃ l : List (Str × Tok), vs = strValues l ∧ l.map (·.1) = xs
  | [], vs, x => by rw [sL, List.map_nil, isL_nil] at x; subst x; exact ⟨[], rfl, rfl⟩
  | y :: xs, vs, x => by
    rw [sL, List.map_cons, isL_cons] at x
    obtain ⟨v, r, rfl, y1, z⟩ := x
    obtain ⟨t, rfl⟩ := is_str.mp y1
    obtain ⟨l, rfl, rfl⟩ := str_values z
    exact ⟨(y, t) :: l, rfl, rfl⟩
theorem cl_join {x : Str} {xs : List Str} (hok : JoinOk x xs = true) : CL w k (.builtin "str.join") [.str x, .lst (sL xs)] (.str (Txt.join x xs)) := by
  intro A s H vs Q E r bs tb dm i0 hQ
  obtain ⟨v, u, rfl, i, j⟩ := isL_two i0
  obtain ⟨t, rfl⟩ := is_str.mp i
  obtain ⟨c, us, rfl, hl, il⟩ := is_lst.mp j
  obtain ⟨l, rfl, hx⟩ := str_values il
  exact SC.join (isList_seen hl).1 hx hok fun t' k => hQ _ _ (.toks _) (is_str.mpr ⟨_, rfl⟩)
theorem cl_count {ns : List Int} : CL w k (.builtin "list.count") [.lst (iL ns), .int a] (.int (ns.count a)) := by
  intro A s H vs Q E r bs tb dm i0 hQ
  obtain ⟨v, u, rfl, i, j⟩ := isL_two i0
  obtain ⟨c, us, rfl, hl, il⟩ := is_lst.mp i
  obtain ⟨t, rfl⟩ := is_int.mp j
  exact count_list_ints (isList_seen hl).1 (ints_are il) (hQ _ _ (.toks _) (is_int.mpr ⟨_, rfl⟩))
theorem cl_bits : CL w k (.builtin "int.bit_length") [.int a] (.int (Builtin.Int.intBits a)) := by
  intro A s H vs Q E r bs tb dm i0 hQ
  obtain ⟨v, rfl, i⟩ := isL_one i0
  obtain ⟨t, rfl⟩ := is_int.mp i
  exact call_int_bit_length (hQ _ _ (.toks _) (is_int.mpr ⟨_, rfl⟩))
end

def PlainIter (h : Heap) (I : Addr) : Prop := ∃ o n vs, h.get? I = some o ∧ o.cls = .type n ∧ o.data = .fields vs ∧ (["enumerate", "zip", "dict_itemiterator", "dict_reverseitemiterator", "odict_iterator", "itertools.zip_longest", "itertools.pairwise"] : List String).contains n = false
/-- a walk of the library over flat values -/
theorem wlk_flat {w : World} {I : Addr} {fp wr : List Addr} {n : Nat} {P : Nat → Value → Prop} {S : Nat → Heap → Prop} {ds : List D} (W : ∀ A : Around, A.handled = none → Walks PG w A I fp wr n P S) (hn : n = ds.length)
    (hP : ∀ i v d, ds[i]? = some d → P i v → ∀ h, Is w h d v) (hex : ∀ i h, S i h → ∀ b ∈ fp, ∃ o, h.get? b = some o) (hI : ∀ i h, S i h → PlainIter h I ∧ NoCode h I) (hwr : ∀ b ∈ wr, b = I := by intro b hb; exact List.mem_singleton.mp hb) : Wlk w I fp wr [] ds S where
  noCode := fun i h S b hb => by rw [hwr b hb]; exact (hI i h S).2
  sub := (W { callerA with handled := none } rfl).sub
  ex := hex
  frame := (W { callerA with handled := none } rfl).frame
  item := fun {k i d A s H t Q E} r b tb dom wr' gs hd _ st hQ => by
    refine (W A r.1).item i s _ E (by rw [hn]; exact (List.getElem?_eq_some_iff.mp hd).1) st fun v h' tk hp st' hk => ⟨v, rfl, fun E' => ?_⟩
    obtain ⟨⟨o, n', vs, e, c, dt, hno⟩, _⟩ := hI _ _ st'
    exact wp_letGo_other e c dt hno (hQ v h' tk hk (fun b hb => hex _ _ st' b ((W A r.1).sub b hb)) st' (hP i v d hd hp _))
  done := fun {k A s Q E} r b st hQ => (W A r.1).done s Q E (by rw [hn]; exact st) hQ
  self := fun {k i A s Q E} r st hQ => (W A r.1).self i s Q E st hQ

theorem new_at {w : World} {env : Env} {Γ : List (Str × D)} {H : List Addr} {s s₁ : Shared} (st : St w env Γ H s) (g : Grow s s₁) {a : Addr} (ha : s₁.heap.get? a = none) : s.heap.get? a = none := by
  have st₁ := st.grow g
  cases q : s.heap.get? a with
  | none => rfl
  | some o =>
    exfalso
    by_cases h1 : a = 30
    · subst h1; obtain ⟨ps, e, _⟩ := st₁.base.t30; rw [ha] at e; cases e
    · by_cases h2 : a = 37
      · subst h2; obtain ⟨ps, e, _⟩ := st₁.base.t37; rw [ha] at e; cases e
      · have := g.keep _ o h1 h2 q; rw [ha] at this; cases this
theorem get_size {h : Heap} : h.get? h.objs.size = none := by
  cases q : h.get? h.objs.size with
  | none => rfl
  | some o => exact absurd (Heap.lt_size q) (Nat.lt_irrefl _)

/-- an iterator is made behind the state s₁ -/
theorem ie_made {w : World} {env : Env} {Γ : List (Str × D)} {H : List Addr} {s s₁ : Shared} {o : Obj} {fp : List Addr} {ds : List D} {S : Nat → Heap → Prop} {tk : Nat} {Q : Value → Shared → Prop} (st : St w env Γ H s) (g : Grow s s₁) (wk : Wlk w s₁.heap.objs.size fp [s₁.heap.objs.size] [] ds S)
    (w0 : S 0 (s₁.heap.push o)) (ho : o.isFreed = false) (hfp : ∀ b ∈ fp, b = s₁.heap.objs.size ∨ b ∉ H)
    (hQ : ∀ I fp wr gs W s', Grow s s' → Wlk w I fp wr gs ds W → W 0 s'.heap → (∀ b ∈ wr, s.heap.get? b = none ∧ ∃ o, s'.heap.get? b = some o) → (∀ b ∈ fp, b ∈ wr ∨ (b ∉ H ∧ b ≠ 30 ∧ b ≠ 37)) → (∀ p ∈ gs, Is w (hid (wr ++ H) s'.heap) p.1 p.2) → Q (.ref I) s') :
    Q (.ref s₁.heap.objs.size) { s₁ with heap := s₁.heap.push o, toks := tk } := by
  refine hQ _ _ _ _ _ _ (g.trans (.of_keeps fun _ _ e => Heap.get?_push_of_some _ e)) wk w0 (fun b hb => ?_) (fun b hb => ?_) (fun p hp => nomatch hp)
  · rw [List.mem_singleton] at hb; rw [hb]; exact ⟨new_at st g get_size, _, Heap.get?_push_size _ ho⟩
  · rcases hfp b hb with e | e
    · rw [e]; exact .inl (.head _)
    · exact .inr ⟨e, fun q => e (q ▸ st.tabs.1), fun q => e (q ▸ st.tabs.2)⟩

/-- the whole numbers from a on, n of them -/
def rng (a : Int) (n : Nat) : List Int := (List.range n).map (fun i : Nat => a + (i : Int))
theorem wlk_range {w : World} {I : Addr} {a : Int} {n : Nat} : Wlk w I [I] [I] [] (iL (rng a n)) (fun i h => IsRangeIter h I (a + (i : Nat) * 1) ((n : Int) - (i : Nat)) 1) := by
  refine wlk_flat (fun A hh => Walks.range hh I a 1 n) (by simp [rng]) (fun i v d hd ht h => ?_)
    (fun i h st b hb => by rw [List.mem_singleton] at hb; rw [hb]; exact ⟨_, st⟩) fun i h st => ⟨⟨_, _, _, st, rfl, rfl, by decide⟩, noCode_of st fun vs hv q t => by cases hv; simp [rawInt]⟩
  · obtain ⟨t, ht⟩ := ht
    have : d = .int (a + i) := by
      simp only [rng, List.map_map, List.getElem?_map] at hd
      by_cases hi : i < n
      · rw [List.getElem?_range hi] at hd; simpa using hd.symm
      · rw [List.getElem?_eq_none (by simpa using hi)] at hd; cases hd
    subst this
    rw [ht]; exact is_int.mpr ⟨t, by rw [Int.mul_one]⟩

section
variable {w : World} {k : Nat} {env : Env} {Γ : List (Str × D)} {x : Str} {p pos : Pos}
theorem rangeSize_nat {a b : Int} {n : Nat} (h : n = (b - a).toNat) : Builtin.Range.rangeSize a b 1 = (n : Int) := by
  rw [rangeSize_one]; split <;> omega
theorem ie_range1 {e : Expr} {b : Int} (hc : Callee w x (.type "range")) (hk : env.kindOf x = some .globalImplicit) (hd' : (x == (Str.ofString "__debug__")) = false) (he : EV w k env Γ e (.int b)) (hb : -1000000 ≤ b ∧ b ≤ 1000000) (hst : starEach [e] env = (false, eval e env) :: starEach [] env := by rfl) :
    IE w k env Γ (.Call (.Name x p) [e] [] pos) (iL (rng 0 b.toNat)) := by
  intro H A s Q E r st hQ
  refine wp_callee r st hc hk hd' (es_cons he es_nil hst) (fun vs s₁ g i0 => ?_) hst rfl
  obtain ⟨v, rfl, i⟩ := isL_one i0
  obtain ⟨t, rfl⟩ := is_int.mp i
  refine call_range_1 (wpAny_pyIter_range (IsRange.new ..) (small_one (by omega) (by omega) (by omega) (by omega)) ?_)
  have g' : Grow s { s₁ with heap := s₁.heap.push { cls := .type "range", data := .fields #[.int 0 s₁.toks, .int b t, .int 1 (s₁.toks + 1)] }, toks := s₁.toks + 1 + 1 } := g.trans (.of_keeps fun _ _ e => Heap.get?_push_of_some _ e)
  refine ie_made (s₁ := { s₁ with heap := s₁.heap.push { cls := .type "range", data := .fields #[.int 0 s₁.toks, .int b t, .int 1 (s₁.toks + 1)] }, toks := s₁.toks + 1 + 1 }) st g' (wlk_range (a := 0) (n := b.toNat)) ?_ rfl (fun b hb => .inl (by rw [List.mem_singleton] at hb; exact hb)) hQ
  rw [rangeSize_nat (n := b.toNat) (by omega)]
  have : ((0 : Int) + ((0 : Nat) : Int) * 1) = 0 := by omega
  have e2 : ((b.toNat : Int) - ((0 : Nat) : Int)) = (b.toNat : Int) := by omega
  rw [this, e2]
  exact Heap.get?_push_size _ rfl
theorem ie_range2 {e f : Expr} {a b : Int} (hc : Callee w x (.type "range")) (hk : env.kindOf x = some .globalImplicit) (hd' : (x == (Str.ofString "__debug__")) = false) (he : EV w k env Γ e (.int a)) (hf : EV w k env Γ f (.int b)) (ha : -1000000 ≤ a ∧ a ≤ 1000000) (hb : -1000000 ≤ b ∧ b ≤ 1000000)
    (hst : starEach [e, f] env = (false, eval e env) :: starEach [f] env := by rfl) (hst' : starEach [f] env = (false, eval f env) :: starEach [] env := by rfl) (hpl : (backTo pos (starEach [f] env)).any (·.1) = false := by rfl) :
    IE w k env Γ (.Call (.Name x p) [e, f] [] pos) (iL (rng a (b - a).toNat)) := by
  intro H A s Q E r st hQ
  refine wp_callee r st hc hk hd' (es_cons he (es_cons hf es_nil hst') hst) (fun vs s₁ g i0 => ?_) hst hpl
  obtain ⟨v, u, rfl, i, j⟩ := isL_two i0
  obtain ⟨t, rfl⟩ := is_int.mp i
  obtain ⟨t', rfl⟩ := is_int.mp j
  refine call_range_2 (wpAny_pyIter_range (IsRange.new ..) (small_one (by omega) (by omega) (by omega) (by omega)) ?_)
  have g' : Grow s { s₁ with heap := s₁.heap.push { cls := .type "range", data := .fields #[.int a t, .int b t', .int 1 s₁.toks] }, toks := s₁.toks + 1 } := g.trans (.of_keeps fun _ _ e => Heap.get?_push_of_some _ e)
  refine ie_made (s₁ := { s₁ with heap := s₁.heap.push { cls := .type "range", data := .fields #[.int a t, .int b t', .int 1 s₁.toks] }, toks := s₁.toks + 1 }) st g' (wlk_range (a := a) (n := (b - a).toNat)) ?_ rfl (fun b hb => .inl (by rw [List.mem_singleton] at hb; exact hb)) hQ
  rw [rangeSize_nat (n := (b - a).toNat) rfl]
  have : (a + ((0 : Nat) : Int) * 1) = a := by omega
  have e2 : (((b - a).toNat : Int) - ((0 : Nat) : Int)) = ((b - a).toNat : Int) := by omega
  rw [this, e2]
  exact Heap.get?_push_size _ rfl
end

section
variable {w : World} {k : Nat} {env : Env} {Γ : List (Str × D)} {x : Str} {p pos : Pos}
theorem zip_get {ks : List Int} {vs : List Value} {i : Nat} {q : Int} {v : Value} (h : (ks.zip vs)[i]? = some (q, v)) : ks[i]? = some q ∧ vs[i]? = some v := by
  rw [List.getElem?_zip_eq_some] at h; exact h
theorem ie_keys {e : Expr} {ks : List Int} {ds : List D} (he : EV w k env Γ e (.dct ks ds)) : IE w k env Γ e (iL ks) := by
  intro H A s Q E r st hQ
  refine he H A s _ E r st fun v s₁ g i => ?_
  obtain ⟨d, vs, rfl, hm, ⟨hn, hsm⟩, il⟩ := is_dct.mp i
  obtain ⟨hm', hdH⟩ := dictOf_seen hm
  obtain ⟨ep, hat⟩ := hm'.dictAt
  have hne : d ≠ s₁.heap.objs.size := Nat.ne_of_lt hat.lt_size
  refine wpAny_pyIter_dict hsm hat (ie_made (tk := s₁.toks) st g (wlk_flat (fun A' hh => Walks.dictKeys (knd := intKind PG w) hh _ d hne (ks.zip vs) ep) (by rw [List.length_zip, List.length_map]; omega) (fun i v d' hd hP h => ?_) (fun i h S b hb => ?_) fun i h S => ?_) ⟨⟨_, Heap.get?_push_size _ rfl, rfl, rfl⟩, hat.push _⟩ rfl (fun b hb => ?_) hQ)
  · obtain ⟨q, u, hq, hk⟩ := hP
    obtain ⟨hq1, _⟩ := zip_get hq
    rw [List.getElem?_map, hq1] at hd
    cases hd
    obtain ⟨t, rfl⟩ := Value.isInt_shape hk
    exact is_int.mpr ⟨t, rfl⟩
  · obtain ⟨⟨o, e, _⟩, ⟨o', es, e', _⟩⟩ := S
    rcases List.mem_cons.mp hb with rfl | hb
    · exact ⟨o, e⟩
    · rw [List.mem_singleton] at hb; rw [hb]; exact ⟨o', e'⟩
  · obtain ⟨⟨o, e, c, dt⟩, _⟩ := S
    exact ⟨⟨o, _, _, e, c, dt, by decide⟩, noCode_of e fun vs hv q t => by rw [dt] at hv; cases hv; simp [rawInt]⟩
  · rcases List.mem_cons.mp hb with rfl | hb
    · exact .inl rfl
    · rw [List.mem_singleton] at hb; rw [hb]; exact .inr hdH
theorem ie_str {e : Expr} {x : Str} (he : EV w k env Γ e (.str x)) : IE w k env Γ e (x.cps.toList.map fun c => .str ⟨#[c]⟩) := by
  intro H A s Q E r st hQ
  refine he H A s _ E r st fun v s₁ g i => ?_
  obtain ⟨t, rfl⟩ := is_str.mp i
  have fin : ∀ (n : String) (S : Nat → Heap → Prop), (["enumerate", "zip", "dict_itemiterator", "dict_reverseitemiterator", "odict_iterator", "itertools.zip_longest", "itertools.pairwise"] : List String).contains n = false → (∀ A' : Around, A'.handled = none → Walks PG w A' s₁.heap.objs.size [s₁.heap.objs.size] [s₁.heap.objs.size] x.cps.size (SignAt x) (fun i h => h.IsStrIter s₁.heap.objs.size n x t i)) → ∀ o : Obj, o.isFreed = false → (s₁.heap.push o).IsStrIter s₁.heap.objs.size n x t 0 → Q (.ref s₁.heap.objs.size) { s₁ with heap := s₁.heap.push o } := by
    intro n S hno W o ho w0
    refine ie_made (tk := s₁.toks) st g (wlk_flat W (by simp) (fun i v d hd hP h => ?_) (fun i h S b hb => ?_) fun i h S => ?_) w0 ho (fun b hb => .inl (by rw [List.mem_singleton] at hb; exact hb)) hQ
    · obtain ⟨c, u, hc, rfl⟩ := hP
      rw [List.getElem?_map, Array.getElem?_toList, hc] at hd
      cases hd
      exact is_str.mpr ⟨u, rfl⟩
    · obtain ⟨o, e, _⟩ := S
      rw [List.mem_singleton] at hb; rw [hb]; exact ⟨o, e⟩
    · obtain ⟨o, e, c, dt⟩ := S
      exact ⟨⟨o, _, _, e, c, dt, hno⟩, noCode_of e fun vs hv q t => by rw [dt] at hv; cases hv; simp [rawInt]⟩
  cases ha : x.cps.all (· < 128)
  · exact wpAny_pyIter_wide ha (fin "str_iterator" (fun _ _ => True) (by decide) (fun A' hA => Walks.strWide hA _ x t) _ rfl ⟨_, Heap.get?_push_size _ rfl, rfl, rfl⟩)
  · exact wpAny_pyIter_ascii ha (fin "str_ascii_iterator" (fun _ _ => True) (by decide) (fun A' hA => Walks.strAscii hA _ x t) _ rfl ⟨_, Heap.get?_push_size _ rfl, rfl, rfl⟩)
theorem isL_flat {h h' : Heap} {ns : List Int} {vs : List Value} (x : IsL w h (iL ns) vs) : IsL w h' (iL ns) vs := is_ints (ints_are x)
theorem ty_dict {ks : List Int} {ds : List D} : TY w (.dct ks ds) "dict" := fun s H v i => by
  obtain ⟨c, vs, rfl, hl, _⟩ := is_dct.mp i
  refine ⟨(dictOf_seen hl).1.typeIs, fun a e => ?_⟩
  cases e
  obtain ⟨o, es, ep, e, ⟨h1, h2, h3⟩, _⟩ := (dictOf_seen hl).1
  first | exact ⟨o, e, h2⟩ | exact ⟨o, e, h3⟩
theorem ie_values {o : Expr} {apos : Pos} {ks ns : List Int} (ho : EV w k env Γ o (.dct ks (iL ns)))
    (hbase : attributeBase o (Str.ofString "values") env (eval o env) = eval o env := by rfl) (hline : (apos.endLine == pos.line) = true := by rfl) : IE w k env Γ (.Call (.Attribute o (Str.ofString "values") apos) [] [] pos) (iL ns) := by
  intro H A s Q E r st hQ
  refine wpAny_Call_method hbase rfl hline PySem.F.plainAttrs_dict PySem.F.slot_dict_values PySem.F.type_dict_values (ho H A s _ E r st fun v s₁ g i => ?_)
  obtain ⟨h1, h2⟩ := ty_dict s₁ H v i
  refine ⟨h1, h2, callWith_method0 ?_⟩
  obtain ⟨d, vs, rfl, hm, ⟨hn, hsm⟩, il⟩ := is_dct.mp i
  obtain ⟨hm', hdH⟩ := dictOf_seen hm
  refine call_meetsIn PySem.F.slot_dict_values hm'.typeIs PySem.F.entry_dict_values (PySem.F.args_dict_values_1 _) (meets_dict_values (intKind PG w) d hsm) ⟨⟨_, hm'⟩, ?_⟩
  obtain ⟨ep, hat0⟩ := hm'.dictAt
  have g' := g.trans (Grow.push (s := s₁) { cls := .type "dict_values", data := .fields #[.ref d] })
  have hat := hat0.push { cls := .type "dict_values", data := .fields #[.ref d] }
  have hne : d ≠ (s₁.heap.push { cls := .type "dict_values", data := .fields #[.ref d] }).objs.size := Nat.ne_of_lt hat.lt_size
  refine wpAny_pyIter_values (s := { s₁ with heap := s₁.heap.push { cls := .type "dict_values", data := .fields #[.ref d] } }) ⟨_, Heap.get?_push_size _ rfl, rfl, rfl⟩ hat (ie_made (s₁ := { s₁ with heap := s₁.heap.push { cls := .type "dict_values", data := .fields #[.ref d] } }) (tk := s₁.toks) st g' (wlk_flat (fun A' hh => Walks.dictValues (knd := intKind PG w) hh _ d hne (ks.zip vs) ep) (by rw [List.length_zip, ← il.length]; omega) (fun i v d' hd hP h => ?_) (fun i h S b hb => ?_) fun i h S => ?_) ⟨⟨_, Heap.get?_push_size _ rfl, rfl, rfl⟩, hat.push _⟩ rfl (fun b hb => ?_) hQ)
  · obtain ⟨q, hq⟩ := hP
    obtain ⟨_, hq2⟩ := zip_get hq
    obtain ⟨u, hu, iu⟩ := (isL_flat (h' := h) il).get i d' hd
    rw [hq2] at hu; cases hu; exact iu
  · obtain ⟨⟨o, e, _⟩, ⟨o', es, e', _⟩⟩ := S
    rcases List.mem_cons.mp hb with rfl | hb
    · exact ⟨o, e⟩
    · rw [List.mem_singleton] at hb; rw [hb]; exact ⟨o', e'⟩
  · obtain ⟨⟨o, e, c, dt⟩, _⟩ := S
    exact ⟨⟨o, _, _, e, c, dt, by decide⟩, noCode_of e fun vs hv q t => by rw [dt] at hv; cases hv; simp [rawInt]⟩
  · rcases List.mem_cons.mp hb with rfl | hb
    · exact .inl rfl
    · rw [List.mem_singleton] at hb; rw [hb]; exact .inr hdH
end

theorem bindsI_own_tuple {t : Expr} {ds : List D} (h : bindsI t (.own ds) ≠ none) : ∃ es n p, t = .Tuple es n p := by
  cases t <;> first | exact ⟨_, _, _, rfl⟩ | exact absurd rfl h
theorem isTup_new {w : World} {H : List Addr} {h : Heap} {T : Addr} {ds : List D} {vs : List Value} (ht : h.get? T = some { cls := .type "tuple", data := .seq vs.toArray }) (hT : T ∉ H) (i : IsL w (hid H h) ds vs) : Is w (hid H h) (.own ds) (.ref T) :=
  is_own.mpr (is_tup.mpr ⟨T, vs, rfl, ⟨_, hid_get.mpr ⟨ht, hT⟩, rfl, _, rfl⟩, i⟩)

theorem pairs_vals {w : World} {es : List DictEntry} {kvs : List (Int × Value)} (h : Pairs (intKind PG w) es kvs) : kvs.map (·.2) = es.map (·.val) := by
  induction h with
  | nil => rfl
  | cons _ h _ ih => rw [List.map_cons, List.map_cons, ih, h]
theorem entry_itemiter_iter : entryFor table "dict_itemiterator.__iter__" = some Builtin.«dict_keyiterator.__iter__» :=
  entryFor_alias (id' := "dict_keyiterator.__iter__") (by kernel_rfl) (by first | rfl | decide +kernel | (unfold String.splitOn; simp +decide [String.splitOnAux])) (by decide +kernel) (by kernel_rfl)
/-- a dict's pairs -/
def pairs (ks : List Int) (ds : List D) : List D := (ks.zip ds).map fun p => .own [.int p.1, p.2]
theorem wlk_items {w : World} {I d : Addr} (hne : d ≠ I) {ks : List Int} {ds : List D} {vs : List Value} {ep : Nat} (hl : ks.length = vs.length) (hl2 : vs.length = ds.length) :
    Wlk w I [I, d] [I] [(.dct ks ds, .ref d)] (pairs ks ds) (fun i h => (∃ ok ov, IsItemIter h I d i (ks.zip vs).length ep ok ov) ∧ h.DictAt (intKind PG w) d (ks.zip vs) ep) where
  sub := fun b hb => by rw [List.mem_singleton] at hb; rw [hb]; exact .head _
  ex := fun i h W b hb => by
    obtain ⟨⟨ok, ov, e⟩, ⟨o', es, e', _⟩⟩ := W
    rcases List.mem_cons.mp hb with rfl | hb
    · exact ⟨_, e⟩
    · rw [List.mem_singleton] at hb; rw [hb]; exact ⟨o', e'⟩
  noCode := fun i h W b hb => by
    rw [List.mem_singleton] at hb; rw [hb]
    obtain ⟨⟨ok, ov, e⟩, _⟩ := W
    exact noCode_of e fun vs hv q t => by cases hv; simp
  frame := fun i h h' W hk => by
    obtain ⟨⟨ok, ov, e⟩, x⟩ := W
    exact ⟨⟨ok, ov, hk I (.head _) _ e⟩, x.at' fun o e => hk d (.tail _ (.head _)) o e⟩
  item := fun {k i dd A s H t Q E} r b tb dom wr gs hd hbt W hQ => by
    obtain ⟨⟨ok, ov, he⟩, hm⟩ := W
    obtain ⟨q, dv, hz, rfl⟩ : ∃ q dv, (ks.zip ds)[i]? = some (q, dv) ∧ dd = .own [.int q, dv] := by
      simp only [pairs, List.getElem?_map, Option.map_eq_some_iff] at hd
      obtain ⟨⟨q, dv⟩, h1, rfl⟩ := hd
      exact ⟨q, dv, h1, rfl⟩
    rw [List.getElem?_zip_eq_some] at hz
    obtain ⟨h1, h2⟩ := hz
    simp only at h1 h2
    have gs1 := gs _ (.head _)
    simp only at gs1
    obtain ⟨a, vs', ea, hmm, ⟨n1, _⟩, il⟩ := is_dct.mp gs1
    cases ea
    have ev : vs' = vs := by
      obtain ⟨o, es, ep1, e1, _, c1, _, p1, _⟩ := (dictOf_seen hmm).1
      obtain ⟨o', es', e2, _, c2, _, p2, _⟩ := hm
      rw [e1] at e2; cases e2
      rw [c1] at c2; cases c2
      have h3 := (pairs_vals p1).trans (pairs_vals p2).symm
      rw [List.map_snd_zip (by omega), List.map_snd_zip (by omega)] at h3
      exact h3
    subst ev
    obtain ⟨v, hv, iv⟩ := il.get i dv h2
    have hx : (ks.zip vs')[i]? = some (q, v) := by rw [List.getElem?_zip_eq_some]; exact ⟨h1, hv⟩
    obtain ⟨es, n, p, rfl⟩ := bindsI_own_tuple hbt
    refine wpAny_pyNext_items_item he hm hx fun key h' hkey ho hT hsz hk => ⟨_, rfl, fun E' => ?_⟩
    have IT : I ≠ s.heap.objs.size := Nat.ne_of_lt (Heap.lt_size he)
    refine wpAny_letOwnedTupleGo_items ho fun h'' he' hs => ?_
    have kp : ∀ b o, b ≠ I → s.heap.get? b = some o → h''.get? b = some o := fun b o hb e => hs.extBut b o hb (hk b o hb e)
    refine hQ _ h'' s.toks (fun b o hb e => kp b o (fun q => hb (by rw [q]; exact .head _)) e) (fun b hb => by rw [List.mem_singleton] at hb; rw [hb]; exact ⟨_, he'⟩) ⟨⟨_, _, he'⟩, hm.at' fun o e => kp d o hne e⟩ ?_
    refine isTup_new (vs := [key, v]) (hs.extBut _ _ IT.symm hT) (new_ref dom) (isL_cons.mpr ⟨key, _, rfl, ?_, .one (iv.mono fun b o e => ?_)⟩)
    · obtain ⟨tk, rfl⟩ := Value.isInt_shape hkey
      exact is_int.mpr ⟨tk, rfl⟩
    · obtain ⟨e1, n1⟩ := hid_get.mp e
      exact hid_get.mpr ⟨kp b o (fun q => n1 (q ▸ wr I (.head _))) e1, n1⟩
  done := fun {k A s Q E} r b W hQ => by
    obtain ⟨⟨ok, ov, he⟩, hm⟩ := W
    have e : (pairs ks ds).length = (ks.zip vs).length := by simp only [pairs, List.length_map, List.length_zip, hl2]
    rw [e] at he
    exact wpAny_pyNext_items_end r.1 he hm (by simp) fun h' hx => hQ h' s.toks fun b o hb e => hx b o (fun h => hb (by rw [h]; exact .head _)) e
  self := fun {k i A s Q E} r W hQ => by
    obtain ⟨⟨ok, ov, he⟩, hm⟩ := W
    have hT : s.TypeIs (.ref I) "dict_itemiterator" := ⟨_, he, rfl⟩
    refine wpAny_pyIter_slot hT F.slot_dict_itemiterator_iter (wpAny_call_entry F.slot_dict_itemiterator_iter hT entry_itemiter_iter ?_ (F.args_dict_itemiterator_iter_1 _))
    show wpAny _ _ (ret (.ref I)) _ _ s
    exact wpAny_pure ⟨_, rfl, "dict_itemiterator", _, hT, F.slot_dict_itemiterator_next.lookup, hQ⟩
/-- an iterator is made behind the state s₁, over things that are seen -/
theorem ie_made2 {w : World} {env : Env} {Γ : List (Str × D)} {H : List Addr} {s s₁ s₂ : Shared} {I : Addr} {fp wr : List Addr} {gs : List (D × Value)} {ds : List D} {S : Nat → Heap → Prop} {Q : Value → Shared → Prop} (st : St w env Γ H s) (g : Grow s s₁) (g₂ : Grow s₁ s₂) (wk : Wlk w I fp wr gs ds S)
    (w0 : S 0 s₂.heap) (hwr : ∀ b ∈ wr, s₁.heap.get? b = none ∧ ∃ o, s₂.heap.get? b = some o) (hfp : ∀ b ∈ fp, b ∈ wr ∨ b ∉ H) (hgs : ∀ p ∈ gs, Is w (hid H s₁.heap) p.1 p.2)
    (hQ : ∀ I fp wr gs W s', Grow s s' → Wlk w I fp wr gs ds W → W 0 s'.heap → (∀ b ∈ wr, s.heap.get? b = none ∧ ∃ o, s'.heap.get? b = some o) → (∀ b ∈ fp, b ∈ wr ∨ (b ∉ H ∧ b ≠ 30 ∧ b ≠ 37)) → (∀ p ∈ gs, Is w (hid (wr ++ H) s'.heap) p.1 p.2) → Q (.ref I) s') :
    Q (.ref I) s₂ := by
  refine hQ _ _ _ _ _ _ (g.trans g₂) wk w0 (fun b hb => ⟨new_at st g (hwr b hb).1, (hwr b hb).2⟩) (fun b hb => (hfp b hb).elim .inl fun e => .inr ⟨e, fun q => e (q ▸ st.tabs.1), fun q => e (q ▸ st.tabs.2)⟩) (fun p hp => (hgs p hp).mono fun b o e => ?_)
  obtain ⟨e1, n1⟩ := hid_get.mp e
  refine hid_get.mpr ⟨g₂.keep b o (fun q => n1 (q ▸ st.tabs.1)) (fun q => n1 (q ▸ st.tabs.2)) e1, fun m => ?_⟩
  rcases List.mem_append.mp m with m | m
  · have h0 := (hwr b m).1
    rw [e1] at h0; cases h0
  · exact n1 m
section
variable {w : World} {k : Nat} {env : Env} {Γ : List (Str × D)} {x : Str} {p pos : Pos}
theorem ie_items {o : Expr} {apos : Pos} {ks : List Int} {ds : List D} (ho : EV w k env Γ o (.dct ks ds))
    (hbase : attributeBase o (Str.ofString "items") env (eval o env) = eval o env := by rfl) (hline : (apos.endLine == pos.line) = true := by rfl) : IE w k env Γ (.Call (.Attribute o (Str.ofString "items") apos) [] [] pos) (pairs ks ds) := by
  intro H A s Q E r st hQ
  refine wpAny_Call_method hbase rfl hline PySem.F.plainAttrs_dict PySem.F.slot_dict_items PySem.F.type_dict_items (ho H A s _ E r st fun v s₁ g i => ?_)
  obtain ⟨h1, h2⟩ := ty_dict s₁ H v i
  refine ⟨h1, h2, callWith_method0 ?_⟩
  obtain ⟨d, vs, rfl, hm, ⟨hn, hsm⟩, il⟩ := is_dct.mp i
  obtain ⟨hm', hdH⟩ := dictOf_seen hm
  refine call_meetsIn PySem.F.slot_dict_items hm'.typeIs PySem.F.entry_dict_items (PySem.F.args_dict_items_1 _) (meets_dict_items (intKind PG w) d hsm) ⟨⟨_, hm'⟩, ?_⟩
  obtain ⟨ep, hat0⟩ := hm'.dictAt
  have hat := hat0.push { cls := .type "dict_items", data := .fields #[.ref d] }
  have hsz : (s₁.heap.push { cls := .type "dict_items", data := .fields #[.ref d] }).objs.size = s₁.heap.objs.size + 1 := Heap.size_push ..
  have hne : d ≠ (s₁.heap.push { cls := .type "dict_items", data := .fields #[.ref d] }).objs.size := Nat.ne_of_lt hat.lt_size
  refine wpAny_pyIter_items (s := { s₁ with heap := s₁.heap.push { cls := .type "dict_items", data := .fields #[.ref d] } }) ⟨_, Heap.get?_push_size _ rfl, rfl, rfl⟩ hat ?_
  refine ie_made2 st g (.of_keeps (tk := s₁.toks) fun b o e => Heap.get?_push_of_some _ (Heap.get?_push_of_some _ e)) (wlk_items hne hn il.length) ⟨⟨_, _, Heap.get?_push_size _ rfl⟩, hat.push _⟩ (fun b hb => ?_) (fun b hb => ?_) (fun p hp => by rw [List.mem_singleton] at hp; rw [hp]; exact i) hQ
  · rw [List.mem_singleton] at hb; rw [hb]
    refine ⟨?_, _, Heap.get?_push_size _ rfl⟩
    cases q : s₁.heap.get? (s₁.heap.push { cls := .type "dict_items", data := .fields #[.ref d] }).objs.size with
    | none => rfl
    | some o => exact absurd (Heap.lt_size q) (by rw [hsz]; exact Nat.not_lt.mpr (Nat.le_succ _))
  · rcases List.mem_cons.mp hb with rfl | hb
    · exact .inl (.head _)
    · rw [List.mem_singleton] at hb; rw [hb]; exact .inr hdH

/-- numbered from a on -/
def nums (ds : List D) : List D := (List.range ds.length).zip ds |>.map fun p => .own [.int p.1, p.2]
theorem wlk_enum {w : World} {e it l : Addr} (hei : e ≠ it) (hle : l ≠ e) (hli : l ≠ it) {ds : List D} {vs : List Value} (hlen : vs.length = ds.length) :
    Wlk w e [e, it, l] [e, it] [(.lst ds, .ref l)] (nums ds) (fun i h => (∃ old, IsEnum h e it i old) ∧ h.IsListIter it l i ∧ h.IsList l (List.toArray vs)) where
  sub := fun b hb => by
    rcases List.mem_cons.mp hb with rfl | hb
    · exact .head _
    · rw [List.mem_singleton] at hb; rw [hb]; exact .tail _ (.head _)
  ex := fun i h W b hb => by
    obtain ⟨⟨old, h1⟩, ⟨o2, h2, _⟩, ⟨o3, h3, _⟩⟩ := W
    rcases List.mem_cons.mp hb with rfl | hb
    · exact ⟨_, h1⟩
    · rcases List.mem_cons.mp hb with rfl | hb
      · exact ⟨_, h2⟩
      · rw [List.mem_singleton] at hb; rw [hb]; exact ⟨_, h3⟩
  noCode := fun i h W b hb => by
    obtain ⟨⟨old, h1⟩, ⟨o2, h2, _, d2⟩, _⟩ := W
    rcases List.mem_cons.mp hb with rfl | hb
    · exact noCode_of h1 fun vs hv q t => by cases hv; simp
    · rw [List.mem_singleton] at hb; rw [hb]
      exact noCode_of h2 fun vs hv q t => by rw [d2] at hv; cases hv; simp
  frame := fun i h h' W hk => by
    obtain ⟨⟨old, h1⟩, h2, h3⟩ := W
    exact ⟨⟨old, hk e (.head _) _ h1⟩, h2.at fun o x => hk it (.tail _ (.head _)) o x, h3.at fun o x => hk l (.tail _ (.tail _ (.head _))) o x⟩
  item := fun {k i dd A s H t Q E} r b tb dom wr gs hd hbt W hQ => by
    obtain ⟨⟨old, he⟩, hit, hl⟩ := W
    obtain ⟨dv, h2, rfl⟩ : ∃ dv, ds[i]? = some dv ∧ dd = .own [.int i, dv] := by
      simp only [nums, List.getElem?_map, Option.map_eq_some_iff] at hd
      obtain ⟨⟨q, dv⟩, h1, rfl⟩ := hd
      rw [List.getElem?_zip_eq_some] at h1
      have hlt : i < ds.length := (List.getElem?_eq_some_iff.mp h1.2).1
      rw [List.getElem?_range hlt] at h1
      have := h1.1
      simp only [Option.some.injEq] at this
      subst this
      exact ⟨dv, h1.2, rfl⟩
    have gs1 := gs _ (.head _)
    simp only at gs1
    obtain ⟨a, vs', ea, hl2, il⟩ := is_lst.mp gs1
    cases ea
    have ev : vs' = vs := by
      have := isList_unique (isList_seen hl2).1 hl
      simpa using congrArg Array.toList this
    subst ev
    obtain ⟨v, hv, iv⟩ := il.get i dv h2
    obtain ⟨es, n, p, rfl⟩ := bindsI_own_tuple hbt
    refine wpAny_pyNext_enum_item he hit hl (x := v) (by simpa using hv) hei fun h' ho hit' hT hsz hk => ⟨_, rfl, fun E' => ?_⟩
    have IT : e ≠ s.heap.objs.size := Nat.ne_of_lt (Heap.lt_size he)
    refine wpAny_letOwnedTupleGo_enum ho fun h'' he' hs => ?_
    have kp : ∀ b o, b ≠ e → b ≠ it → s.heap.get? b = some o → h''.get? b = some o := fun b o hb hb2 x => hs.extBut b o hb (hk b o hb hb2 x)
    have hit2 : h''.IsListIter it l (i + 1) := hit'.at fun o x => (hs.2 it hei.symm).trans x
    refine hQ _ h'' (s.toks + 1) (fun b o hb x => kp b o (fun q => hb (by rw [q]; exact .head _)) (fun q => hb (by rw [q]; exact .tail _ (.head _))) x) (fun b hb => ?_) ⟨⟨_, by simpa using he'⟩, hit2, hl.at fun o x => kp l o hle hli x⟩ ?_
    · rcases List.mem_cons.mp hb with rfl | hb
      · exact ⟨_, he'⟩
      · rw [List.mem_singleton] at hb; rw [hb]; obtain ⟨o, x, _⟩ := hit2; exact ⟨o, x⟩
    · refine isTup_new (vs := [.int i s.toks, v]) (hs.extBut _ _ IT.symm hT) (new_ref dom) (isL_cons.mpr ⟨_, _, rfl, is_int.mpr ⟨_, rfl⟩, .one (iv.mono fun b o x => ?_)⟩)
      obtain ⟨e1, n1⟩ := hid_get.mp x
      exact hid_get.mpr ⟨kp b o (fun q => n1 (q ▸ wr e (.head _))) (fun q => n1 (q ▸ wr it (.tail _ (.head _)))) e1, n1⟩
  done := fun {k A s Q E} r b W hQ => by
    obtain ⟨⟨old, he⟩, hit, hl⟩ := W
    have e1 : (nums ds).length = ds.length := by simp [nums]
    refine wpAny_pyNext_enum_end r.1 he hit hl (by simp [e1, hlen]) fun h' hx => hQ h' s.toks fun b o hb y => hx b o (fun q => hb (by rw [q]; exact .tail _ (.head _))) y
  self := fun {k i A s Q E} r W hQ => by
    obtain ⟨⟨old, he⟩, _, _⟩ := W
    exact wpAny_pyIter_enum he hQ

theorem wlk_rev {w : World} {I ax : Addr} (hne : ax ≠ I) {ds : List D} {vs : List Value} (hlen : vs.length = ds.length) :
    Wlk w I [I, ax] [I] [(.lst ds, .ref ax)] ds.reverse (fun i h => i ≤ vs.toArray.size ∧ h.IsRevIter I ax ((vs.toArray.size : Int) - 1 - (i : Int)) ∧ h.IsList ax (List.toArray vs)) where
  sub := fun b hb => by rw [List.mem_singleton] at hb; rw [hb]; exact .head _
  ex := fun i h W b hb => by
    obtain ⟨_, ⟨o, e, _⟩, ⟨o', e', _⟩⟩ := W
    rcases List.mem_cons.mp hb with rfl | hb
    · exact ⟨o, e⟩
    · rw [List.mem_singleton] at hb; rw [hb]; exact ⟨o', e'⟩
  noCode := fun i h W b hb => by
    rw [List.mem_singleton] at hb; rw [hb]
    obtain ⟨_, ⟨o, e, _, d⟩, _⟩ := W
    exact noCode_of e fun vs hv q t => by rw [d] at hv; cases hv; simp [rawInt]
  frame := fun i h h' W hk => ⟨W.1, W.2.1.at fun o e => hk I (.head _) o e, W.2.2.at fun o e => hk ax (.tail _ (.head _)) o e⟩
  item := fun {k i d A s H t Q E} r b tb dom wr gs hd _ W hQ => by
    have gs1 := gs _ (.head _)
    simp only at gs1
    obtain ⟨a, vs', ea, hl2, il⟩ := is_lst.mp gs1
    cases ea
    have ev : vs' = vs := by
      have := isList_unique (isList_seen hl2).1 W.2.2
      simpa using congrArg Array.toList this
    subst ev
    have hlt : i < ds.length := by
      have := (List.getElem?_eq_some_iff.mp hd).1
      simpa using this
    rw [List.getElem?_reverse hlt] at hd
    obtain ⟨v, hv, iv⟩ := il.get _ d hd
    refine (Walks.listRev r.1 I ax hne vs'.toArray).item i s _ E (by simpa [hlen] using hlt) W fun v' h' tk hp st' hk => ⟨v', rfl, fun E' => ?_⟩
    have ev : v' = v := by
      simp only [List.size_toArray, hlen, List.getElem?_toArray] at hp
      rw [show ds.length - 1 - i = ds.length - 1 - i from rfl] at hp
      rw [hv] at hp; exact (Option.some.inj hp).symm
    subst ev
    have hit := st'.2.1
    obtain ⟨o, e, c, dt⟩ := hit
    refine wp_letGo_other e c dt (by decide) ?_
    refine hQ v' h' tk hk (fun b hb => by rw [List.mem_singleton] at hb; rw [hb]; exact ⟨o, e⟩) st' (iv.mono fun b o x => ?_)
    obtain ⟨e1, n1⟩ := hid_get.mp x
    exact hid_get.mpr ⟨hk b o (fun m => n1 (wr b m)) e1, n1⟩
  done := fun {k A s Q E} r b W hQ => by
    rw [List.length_reverse, ← hlen] at W
    have := (Walks.listRev (prog := PG) (w := w) r.1 I ax hne vs.toArray).done s Q E
    simp only [List.size_toArray] at this W
    exact this W hQ
  self := fun {k i A s Q E} r W hQ => wpAny_pyIter_revIter W.2.1 hQ

theorem ie_enum {e : Expr} {ds : List D} (hc : Callee w x (.type "enumerate")) (hk : env.kindOf x = some .globalImplicit) (hd' : (x == (Str.ofString "__debug__")) = false) (he : EV w k env Γ e (.lst ds)) (hst : starEach [e] env = (false, eval e env) :: starEach [] env := by rfl) :
    IE w k env Γ (.Call (.Name x p) [e] [] pos) (nums ds) := by
  intro H A s Q E r st hQ
  refine wp_callee r st hc hk hd' (es_cons he es_nil hst) (fun vs s₁ g i0 => ?_) hst rfl
  obtain ⟨v, rfl, i⟩ := isL_one i0
  obtain ⟨l, us, rfl, hl, il⟩ := is_lst.mp i
  obtain ⟨hl', hlH⟩ := isList_seen hl
  refine call_enumerate_list hl' fun h' he' hit hsz hk' => wpAny_pyIter_enum he' ?_
  have lt : l < s₁.heap.objs.size := by obtain ⟨o, e, _⟩ := hl'; exact Heap.lt_size e
  refine ie_made2 st g (.of_keeps (tk := s₁.toks) hk') (wlk_enum (Nat.succ_ne_self _) (Nat.ne_of_lt (Nat.lt_succ_of_lt lt)) (Nat.ne_of_lt lt) il.length) ⟨⟨_, he'⟩, hit, hl'.at fun o e => hk' l o e⟩ (fun b hb => ?_) (fun b hb => ?_) (fun p hp => by rw [List.mem_singleton] at hp; rw [hp]; exact i) hQ
  · rcases List.mem_cons.mp hb with rfl | hb
    · refine ⟨?_, _, he'⟩
      cases q : s₁.heap.get? (s₁.heap.objs.size + 1) with
      | none => rfl
      | some o => exact absurd (Heap.lt_size q) (Nat.not_lt.mpr (Nat.le_succ _))
    · rw [List.mem_singleton] at hb; rw [hb]
      obtain ⟨o, e, _⟩ := hit
      exact ⟨get_size, o, e⟩
  · rcases List.mem_cons.mp hb with rfl | hb
    · exact .inl (.head _)
    · rcases List.mem_cons.mp hb with rfl | hb
      · exact .inl (.tail _ (.head _))
      · rw [List.mem_singleton] at hb; rw [hb]; exact .inr hlH
theorem ie_rev {e : Expr} {ds : List D} (hc : Callee w x (.type "reversed")) (hk : env.kindOf x = some .globalImplicit) (hd' : (x == (Str.ofString "__debug__")) = false) (he : EV w k env Γ e (.lst ds)) (hst : starEach [e] env = (false, eval e env) :: starEach [] env := by rfl) :
    IE w k env Γ (.Call (.Name x p) [e] [] pos) ds.reverse := by
  intro H A s Q E r st hQ
  refine wp_callee r st hc hk hd' (es_cons he es_nil hst) (fun vs s₁ g i0 => ?_) hst rfl
  obtain ⟨v, rfl, i⟩ := isL_one i0
  obtain ⟨l, us, rfl, hl, il⟩ := is_lst.mp i
  obtain ⟨hl', hlH⟩ := isList_seen hl
  refine call_reversed_list hl' ?_
  have hit : (s₁.heap.push (revObj l ((us.toArray.size : Int) - 1))).IsRevIter s₁.heap.objs.size l ((us.toArray.size : Int) - 1) := ⟨_, Heap.get?_push_size _ rfl, rfl, rfl⟩
  refine wpAny_pyIter_revIter hit ?_
  have lt : l < s₁.heap.objs.size := by obtain ⟨o, e, _⟩ := hl'; exact Heap.lt_size e
  refine ie_made2 st g (.push _) (wlk_rev (Nat.ne_of_lt lt) il.length) ⟨Nat.zero_le _, ?_, hl'.push _⟩ (fun b hb => ?_) (fun b hb => ?_) (fun p hp => by rw [List.mem_singleton] at hp; rw [hp]; exact i) hQ
  · simpa using hit
  · rw [List.mem_singleton] at hb; rw [hb]; exact ⟨get_size, _, Heap.get?_push_size _ rfl⟩
  · rcases List.mem_cons.mp hb with rfl | hb
    · exact .inl (.head _)
    · rw [List.mem_singleton] at hb; rw [hb]; exact .inr hlH
end

section
variable {w : World} {k : Nat} {env : Env} {Γ : List (Str × D)} {O : Option (Str × D)} {own S H : List Addr} {pn : List (Addr × Obj)} {gv : List (D × Value)} {s₀ s s₁ : Shared} {x : Str} {d d' : D}

/-- more is hidden -/
theorem St.hide {X : List Addr} (st : St w env Γ H s) (g : Grow s s₁) (hx : ∀ a ∈ X, s.heap.get? a = none ∧ ∃ o, s₁.heap.get? a = some o) : St w env Γ (X ++ H) s₁ := by
  have st' := st.grow g
  refine ⟨st'.ok, st'.base, ⟨List.mem_append_right _ st'.tabs.1, List.mem_append_right _ st'.tabs.2⟩, fun a ha => (List.mem_append.mp ha).elim (fun m => (hx a m).2) (st'.dom a), ⟨st'.loc.1, st'.loc.2.1, List.mem_append_right _ st'.loc.2.2⟩, fun x c hc => ⟨(st'.cel x c hc).1, (st'.cel x c hc).2.1, List.mem_append_right _ (st'.cel x c hc).2.2⟩, ?_⟩
  obtain ⟨m, ⟨o, es, ep, e, r⟩, vr⟩ := st.vars
  refine ⟨m, ⟨o, es, ep, g.keep _ o st.loc.1 st.loc.2.1 e, r⟩, fun x d hx' => ?_⟩
  obtain ⟨h1, v, hv, iv⟩ := vr x d hx'
  refine ⟨h1, v, held_other hv (fun _ => rfl) (fun c hc _ u hu => ?_), iv.mono fun b o e => ?_⟩
  · obtain ⟨oc, ec, rc⟩ := hu
    have := st.cel x c (mem_of_lookup hc)
    exact ⟨oc, g.keep c oc this.1 this.2.1 ec, rc⟩
  · obtain ⟨e1, n1⟩ := hid_get.mp (hid_grow g st.tabs b o e)
    refine hid_get.mpr ⟨e1, fun m => ?_⟩
    rcases List.mem_append.mp m with m | m
    · have := (hx b m).1; rw [(hid_get.mp e).1] at this; cases this
    · exact n1 m

theorem ev_dict1 {ke ve : Expr} {pos : Pos} {q : Int} (hk : EV w k env Γ ke (.int q)) (hv : EV w k env Γ ve d) : EV w k env Γ (.Dict [some ke] [ve] pos) (.dct [q] [d]) := by
  intro H A s Q E r st hQ
  refine wpAny_Dict_walk (knd := intKind PG w) rfl rfl (by simp) (by simp) ?_
  have hnone : s.heap.get? s.heap.objs.size = none := get_size
  have st0 := st.hide (X := [s.heap.objs.size]) (Grow.push (s := s) { cls := .type "dict", data := .dict #[] }) fun a ha => by
    rw [List.mem_singleton] at ha; rw [ha]; exact ⟨hnone, _, Heap.get?_push_size _ rfl⟩
  have hD := Heap.DictOf.new (knd := intKind PG w) s.heap
  have DH : s.heap.objs.size ∉ H := new_ref st.dom
  refine pairTrees_cons_walk (hk _ A _ _ E r st0 fun v1 s₁ g₁ i₁ => hv _ A s₁ _ E r (st0.grow g₁) fun v2 s₂ g₂ i₂ => pairTrees_nil_walk ?_)
  obtain ⟨t, rfl⟩ := is_int.mp i₁
  have g3 := g₁.trans g₂
  have D30 : s.heap.objs.size ≠ 30 ∧ s.heap.objs.size ≠ 37 := ⟨fun q => DH (q ▸ st.tabs.1), fun q => DH (q ▸ st.tabs.2)⟩
  refine ⟨[(q, v2)], ⟨intKind_is PG w q t, rfl, trivial⟩, ?_, fun h' hm' hs' => hQ _ _ (((Grow.push _).trans g3).turn hs' hnone st.base (noCode_of (g3.keep _ _ D30.1 D30.2 (Heap.get?_push_size _ rfl)) fun vs hv => by cases hv)) (is_dct.mpr ⟨_, [v2], rfl, ?_, ⟨rfl, not_modules_of st.base⟩, .one ((i₂.mono (hid_same hs' (List.mem_append_left _ (.head _)))).hid_mono fun a h => List.mem_append_right _ h)⟩)⟩
  · obtain ⟨o, es, ep, e, r⟩ := hD
    exact ⟨o, es, ep, g3.keep _ o D30.1 D30.2 e, r⟩
  · obtain ⟨o, es, ep, e, r⟩ := hm'
    refine ⟨o, es, ep, hid_get.mpr ⟨e, DH⟩, ?_⟩
    simpa [merged, stored] using r

theorem Grow.none (g : Grow s₀ s) (b : Base w s.heap) {a : Addr} (h : s.heap.get? a = none) : s₀.heap.get? a = none := by
  cases q : s₀.heap.get? a with
  | none => rfl
  | some o =>
    by_cases e1 : a = 30
    · subst e1; obtain ⟨ps, e, _⟩ := b.t30; rw [h] at e; cases e
    · by_cases e2 : a = 37
      · subst e2; obtain ⟨ps, e, _⟩ := b.t37; rw [h] at e; cases e
      · rw [g.keep a o e1 e2 q] at h; cases h

theorem OwnIs.ex {h : Heap} {a : Addr} (x : OwnIs w H h d a) : ∃ o, h.get? a = some o := by
  cases d with
  | lst ds => obtain ⟨vs, ⟨o, e, _⟩, _⟩ := x; exact ⟨o, e⟩
  | dct ks ds => obtain ⟨vs, ⟨o, _, _, e, _⟩, _⟩ := x; exact ⟨o, e⟩
  | _ => exact x.elim

/-- a new object becomes the frame's own -/
theorem Fm.own_new (F : Fm w env Γ none [] S pn gv s₀ s) (g : Grow s s₁) {a : Addr} (hn : s.heap.get? a = none) (ow : OwnIs w ([a] ++ (frameAddrs env ++ S)) s₁.heap d a) (hx : Stores env none x) (hΓ : Γ.lookup x = none) {A : Around} {Q : Unit → Shared → Prop} {E : Value → Shared → Prop}
    (h : ∀ s', Fm w env Γ (some (x, d)) [a] S pn gv s₀ s' → Q () s') : wpAny (model PG w) A (storeName env x (.ref a)) Q E s₁ := by
  obtain ⟨oa, ea⟩ := ow.ex
  have H0 : a ∉ frameAddrs env ++ S := fun m => by
    obtain ⟨o, e⟩ := F.st.dom a m; rw [hn] at e; cases e
  have n0 : s₀.heap.get? a = none := F.grow.none F.st.base hn
  have n30 : a ≠ 30 ∧ a ≠ 37 := by
    refine ⟨?_, ?_⟩
    · rintro rfl; obtain ⟨ps, e, _⟩ := F.st.base.t30; rw [hn] at e; cases e
    · rintro rfl; obtain ⟨ps, e, _⟩ := F.st.base.t37; rw [hn] at e; cases e
  have F1 := F.hide (X := [a]) g fun b hb => by rw [List.mem_singleton] at hb; rw [hb]; exact ⟨hn, oa, ea⟩
  have F2 := F1.repin (pn' := [(a, oa)]) fun p hp => by
    rw [List.mem_singleton] at hp; rw [hp]; exact ⟨ea, fun m => H0 (List.mem_append_left _ m), n30⟩
  have mem : ∀ b, b ∈ [] ++ (frameAddrs env ++ ([a] ++ S)) ↔ b ∈ [a] ++ (frameAddrs env ++ S) := fun b => by
    simp only [List.mem_append, List.not_mem_nil, false_or, List.mem_singleton]
    constructor
    · rintro (h | h | h)
      · exact .inr (.inl h)
      · exact .inl h
      · exact .inr (.inr h)
    · rintro (h | h | h)
      · exact .inr (.inl h)
      · exact .inl h
      · exact .inr (.inr h)
  refine F2.store hx.1 hx.2.1 hx.2.2 (d := .raw (.ref a) []) (is_raw.mpr ⟨rfl, fun _ e => nomatch e⟩) fun s' F3 up => h s' ?_
  have ea' : s'.heap.get? a = some oa := (F3.pin (a, oa) (.head _)).1
  obtain ⟨m, n, vr⟩ := F3.st.vars
  refine ⟨F3.base0, F3.grow, ⟨F3.st.ok, F3.st.base, ⟨(mem _).mp F3.st.tabs.1, (mem _).mp F3.st.tabs.2⟩, fun b hb => F3.st.dom b ((mem b).mpr hb), ⟨F3.st.loc.1, F3.st.loc.2.1, (mem _).mp F3.st.loc.2.2⟩, fun y c hc => ⟨(F3.st.cel y c hc).1, (F3.st.cel y c hc).2.1, (mem _).mp (F3.st.cel y c hc).2.2⟩, m, n, fun y dy hy => ?_⟩, fun b hb => ?_, F3.apart, F3.cells, ?_, fun p hp => ?_, fun p hp => ?_⟩
  · have hne : y ≠ x := fun e => by rw [e, hΓ] at hy; cases hy
    obtain ⟨h1, v, hv, iv⟩ := vr y dy (by rw [List.lookup_cons, beq_eq_false_iff_ne.mpr hne]; exact hy)
    exact ⟨h1, v, hv, iv.hid_mono fun b hb => (mem b).mpr hb⟩
  · rcases List.mem_cons.mp hb with e | hb
    · rw [e]; exact n0
    · exact F3.new b hb
  · refine ⟨hx.2.1, a, rfl, H0, ⟨m, n, ?_⟩, ?_⟩
    · obtain ⟨h1, v, hv, iv⟩ := vr x _ (by rw [List.lookup_cons, beq_self_eq_true])
      rw [(is_raw.mp iv).1] at hv; exact hv
    · refine own_is_mono (fun b o e => ?_) (fun o e => ?_) ow
      · obtain ⟨e1, n1⟩ := hid_get.mp e
        obtain ⟨e2, n2⟩ := hid_get.mp (up b o (hid_get.mpr ⟨e1, fun m => n1 ((mem b).mp m)⟩))
        exact hid_get.mpr ⟨e2, n1⟩
      · rw [ea] at e; cases e; exact ea'
  · have q := F3.pin p (.tail _ hp)
    refine ⟨q.1, fun m => ?_, q.2.2⟩
    rcases List.mem_cons.mp m with e | m
    · have := (F.pin p hp).1; rw [e, hn] at this; cases this
    · exact q.2.1 m
  · exact (F3.ghost p hp).hid_mono fun b hb => (mem b).mpr hb

/-- the frame's own object has turned -/
theorem Fm.own_set {a : Addr} (F : Fm w env Γ (some (x, d)) [a] S pn gv s₀ s) {h' : Heap} {tk : Nat} (hs : Heap.SameBut a s.heap h') (ow : OwnIs w ([a] ++ (frameAddrs env ++ S)) h' d' a) : Fm w env Γ (some (x, d')) [a] S pn gv s₀ { s with heap := h', toks := tk } := by
  have ow0 := F.owned
  unfold Owned at ow0
  obtain ⟨hdbg, a', e, hna, ⟨m, n, hv⟩, _⟩ := ow0
  cases e
  have aH : a ∈ [a] ++ (frameAddrs env ++ S) := .head _
  have al : env.locals ≠ a := fun e => hna (List.mem_append_left _ (e ▸ mem_frame_local))
  have ac : ∀ y c, env.cells.lookup y = some c → c ≠ a := fun y c hc e => hna (List.mem_append_left _ (e ▸ mem_frame_cell (mem_of_lookup hc)))
  have held : ∀ {m : Str → Option Value} {y : Str} {v : Value}, Held env m s.heap y v → Held env m h' y v := fun {m y v} hv => held_other hv (fun _ => rfl) fun c hc _ q hq => hq.sameBut hs (ac y c hc)
  refine F.turned (tk := tk) (.head _) hs ow.ex ?_ (fun y c hc => ?_) ⟨hdbg, a, rfl, hna, ⟨m, n.sameBut hs al, held hv⟩, ow⟩
  · obtain ⟨m, n, vr⟩ := F.st.vars
    refine ⟨m, n.sameBut hs al, fun y dy hy => ?_⟩
    obtain ⟨h1, v, hv, iv⟩ := vr y dy hy
    exact ⟨h1, v, held hv, iv.mono (hid_same hs aH)⟩
  · obtain ⟨v, hc'⟩ := F.cells y c hc
    exact ⟨v, hc'.sameBut hs fun e => hna (List.mem_append_left _ (e ▸ mem_frame_cell hc))⟩

/-- what was the frame's own is now as any other value -/
theorem Fm.freeze (F : Fm w env Γ (some (x, d)) own S pn gv s₀ s) : Fm w env ((x, d) :: Γ) none [] S pn gv s₀ s :=
  ⟨F.base0, F.grow, F.full, fun a ha => F.new a (List.mem_append_right _ ha), F.apart, F.cells, rfl, fun p hp => ⟨(F.pin p hp).1, fun m => (F.pin p hp).2.1 (List.mem_append_right _ m), (F.pin p hp).2.2⟩, fun p hp => (F.ghost p hp).hid_mono fun a h => List.mem_append_right _ h⟩
theorem exs_freeze {sts : List Stmt} {out : Out} (h : EXS w k env ((x, d) :: Γ) none sts out) : EXS w k env Γ (some (x, d)) sts out :=
  fun A own S pn gv s₀ s Q E r F hQ => h A [] S pn gv s₀ s Q E r F.freeze hQ

theorem Fm.own_one (F : Fm w env Γ (some (x, d)) own S pn gv s₀ s) : ∃ a, own = [a] := by
  have ow := F.owned
  unfold Owned at ow
  obtain ⟨_, a, e, _⟩ := ow
  exact ⟨a, e⟩
/-- the frame's own name is read -/
theorem wp_own {a : Addr} {p : Pos} (F : Fm w env Γ (some (x, d)) [a] S pn gv s₀ s) {A : Around} {Q : Value → Shared → Prop} {E : Value → Shared → Prop} (h : OwnIs w ([a] ++ (frameAddrs env ++ S)) s.heap d a → Q (.ref a) s) : wpAny (model PG w) A (eval (.Name x p) env) Q E s := by
  have ow := F.owned
  unfold Owned at ow
  obtain ⟨hdbg, a', e, hna, ⟨m, n, hv⟩, hi⟩ := ow
  cases e
  refine wpAny_Name ?_ hdbg
  rcases hv with ⟨hk, hm⟩ | ⟨hk | hk, hn, c, hc, hcell⟩
  · exact wpAny_loadName_local F.st.ok.kind hk n hm (h hi)
  · exact wpAny_loadName_cell F.st.ok.kind hk hc hcell (h hi)
  · exact wpAny_loadName_free F.st.ok.kind hk hc hcell (h hi) hn
end

section
variable {w : World} {k : Nat} {env : Env} {Γ : List (Str × D)} {O : Option (Str × D)} {x : Str} {d d' : D} {p ap pos spos : Pos}

/-- an empty dict becomes the frame's own -/
theorem ex_own_dict0 (hx : Stores env none x) (hΓ : Γ.lookup x = none) (hs : swapsWith (.Dict [] [] pos) (some (.Name x p)) spos.line env = pure false := by rfl) :
    EX w k env Γ none (.Assign [.Name x p] (.Dict [] [] pos) spos) (.next Γ (some (x, .dct [] []))) := by
  intro A own S pn gv s₀ s Q E r F hQ
  cases (show own = [] from F.owned)
  refine wpAny_Assign_Name (wpAny_Dict_empty ?_) hs
  exact F.own_new (d := .dct [] []) (.push _) get_size ⟨[], Heap.DictOf.new s.heap, ⟨rfl, not_modules_of F.st.base⟩, isL_nil.mpr rfl⟩ hx hΓ fun s' F' => hQ _ s' F'
theorem ex_own_list0 (hx : Stores env none x) (hΓ : Γ.lookup x = none) (hs : swapsWith (.List [] pos) (some (.Name x p)) spos.line env = pure false := by rfl) :
    EX w k env Γ none (.Assign [.Name x p] (.List [] pos) spos) (.next Γ (some (x, .lst []))) := by
  intro A own S pn gv s₀ s Q E r F hQ
  cases (show own = [] from F.owned)
  refine wpAny_Assign_Name (wpAny_List_spliced (spliced_none ⟨by simp, ?_⟩)) hs
  exact F.own_new (d := .lst []) (.push _) get_size ⟨[], ⟨_, Heap.get?_push_size _ rfl, 0, rfl⟩, isL_nil.mpr rfl⟩ hx hΓ fun s' F' => hQ _ s' F'

/-- a method of the own list, as a statement -/
theorem ex_own_meth {name : Str} {id : String} {args : List Expr} {ds ds' : List D} (slot : Slot "list" name id) (hty : typeOf (.builtin id) = pure (.type "method_descriptor"))
    (hw : ∀ (A : Around) (a : Addr) (S : List Addr) (pn : List (Addr × Obj)) (gv : List (D × Value)) (s₀ s : Shared) (Q : Value → Shared → Prop) (E : Value → Shared → Prop), Room k A → Fm w env Γ (some (x, .lst ds)) [a] S pn gv s₀ s →
      (∀ s', Fm w env Γ (some (x, .lst ds')) [a] S pn gv s₀ s' → Q .none s') → wpAny (model PG w) A (callWith pos (.builtin id) [.ref a] (backTo pos (starEach args env)) []) Q E s)
    (hbase : attributeBase (.Name x p) name env (eval (.Name x p) env) = eval (.Name x p) env := by rfl)
    (hfew : ((backTo pos (starEach args env)).all (fun x => !x.1) && (backToKw pos (keywordEach [] env)).all (fun x => x.1.isSome) && decide (args.length + ([] : List Keyword).length + (if ([] : List Keyword).isEmpty then 0 else 1) < 30)) = true := by rfl)
    (hline : (ap.endLine == pos.line) = true := by rfl) (hi : interactive env = false := by rfl) (hs : swapsWith (.Call (.Attribute (.Name x p) name ap) args [] pos) none spos.line env = pure false := by rfl) :
    EX w k env Γ (some (x, .lst ds)) (.Expr (.Call (.Attribute (.Name x p) name ap) args [] pos) spos) (.next Γ (some (x, .lst ds'))) := by
  intro A own S pn gv s₀ s Q E r F hQ
  obtain ⟨a, rfl⟩ := F.own_one
  refine wpAny_Expr (wpAny_Call_method hbase hfew hline PySem.F.plainAttrs_list slot hty (wp_own F fun ow => ?_)) hi hs
  obtain ⟨vs, hl, il⟩ := ow
  refine ⟨hl.isList.typeIs, fun a' e => ?_, hw A a S pn gv s₀ s _ E r F fun s' F' => hQ [a] s' F'⟩
  cases e
  obtain ⟨o, e, n, rfl⟩ := hl
  exact ⟨_, e, rfl⟩
theorem ex_own_append {e : Expr} {ds : List D} (he : EV w k env Γ e d) (hz : ds.length ≤ 1000000)
    (hbase : attributeBase (.Name x p) (Str.ofString "append") env (eval (.Name x p) env) = eval (.Name x p) env := by rfl)
    (hst : starEach [e] env = (false, eval e env) :: starEach [] env := by rfl)
    (hline : (ap.endLine == pos.line) = true := by rfl) (hi : interactive env = false := by rfl) (hs : swapsWith (.Call (.Attribute (.Name x p) (Str.ofString "append") ap) [e] [] pos) none spos.line env = pure false := by rfl) :
    EX w k env Γ (some (x, .lst ds)) (.Expr (.Call (.Attribute (.Name x p) (Str.ofString "append") ap) [e] [] pos) spos) (.next Γ (some (x, .lst (ds ++ [d])))) := by
  refine ex_own_meth PySem.F.slot_list_append PySem.F.type_list_append (fun A a S pn gv s₀ s Q E r F hQ => ?_) hbase (by rw [hst]; rfl) hline hi hs
  refine callWith_method1 (spliced_more (he _ A s _ E r F.st fun v s₁ g₁ i₁ => spliced_none ?_) hst) hst rfl
  have F1 := F.grew g₁
  have ow := F1.owned
  obtain ⟨_, a', e, _, _, ⟨us, hl, il⟩⟩ := ow
  cases e
  refine wp_append hl (by rw [il.length]; exact hz) fun h' hl' hs' => hQ _ (F1.own_set (tk := s₁.toks) hs' ⟨us ++ [v], hl', ?_⟩)
  exact (il.append (.one i₁)).mono (hid_same hs' (.head _))
theorem wp_insert {A : Around} {s : Shared} {a : Addr} {us : List Value} {v : Value} {i : Int} {u : Tok} {Q E : Value → Shared → Prop} (hl : Ls s.heap a us.toArray) (hz : us.length ≤ 1000000) (h0 : 0 ≤ i) (hj : i ≤ us.length)
    (h : ∀ h', Ls h' a (us.take i.toNat ++ v :: us.drop i.toNat).toArray → Heap.SameBut a s.heap h' → Q .none { s with heap := h' }) : wpAny (model PG w) A (call (.builtin "list.insert") [.ref a, .int i u, v]) Q E s := by
  obtain ⟨o, ho, n, rfl⟩ := hl
  have h1 : ¬(!Builtin.List.listFitsIndex i) = true := by
    rw [fitsIndex_of h0 (by omega)]; exact Bool.false_ne_true
  have h2 : us.toArray.size ≤ sizeLine := by rw [List.size_toArray, show sizeLine = 16777216 from rfl]; omega
  have e : (if i < 0 then (i + (us.toArray.size : Int)).toNat else min i.toNat us.toArray.size) = i.toNat := by
    rw [if_neg (by omega), List.size_toArray]; omega
  refine call_meets PySem.F.slot_list_insert ⟨_, ho, rfl⟩ PySem.F.entry_list_insert (PySem.F.args_list_insert_3 _ _ _) (PySem.AutoSeq1.list_insert_list_int_val_1 a us.toArray n i u v h1 h2) ⟨ho, h _ ⟨_, get?_update_seq ho _, ?_⟩ (Heap.SameBut.update s.heap a _)⟩
  rw [e, kl_ins_eq]
  exact ⟨_, rfl⟩
theorem ex_own_insert {e f : Expr} {ds : List D} {j : Nat} (he : EV w k env (full Γ (some (x, .lst ds))) e (.int (j : Int))) (hf : EV w k env Γ f d) (hj : j ≤ ds.length) (hz : ds.length ≤ 1000000)
    (hbase : attributeBase (.Name x p) (Str.ofString "insert") env (eval (.Name x p) env) = eval (.Name x p) env := by rfl)
    (hst : starEach [e, f] env = (false, eval e env) :: starEach [f] env := by rfl) (hst2 : starEach [f] env = (false, eval f env) :: starEach [] env := by rfl)
    (hline : (ap.endLine == pos.line) = true := by rfl) (hi : interactive env = false := by rfl) (hs : swapsWith (.Call (.Attribute (.Name x p) (Str.ofString "insert") ap) [e, f] [] pos) none spos.line env = pure false := by rfl) :
    EX w k env Γ (some (x, .lst ds)) (.Expr (.Call (.Attribute (.Name x p) (Str.ofString "insert") ap) [e, f] [] pos) spos) (.next Γ (some (x, .lst (ds.take j ++ d :: ds.drop j)))) := by
  refine ex_own_meth PySem.F.slot_list_insert PySem.F.type_list_insert (fun A a S pn gv s₀ s Q E r F hQ => ?_) hbase (by rw [hst, hst2]; rfl) hline hi hs
  refine callWith_method1 (spliced_more (he _ A s _ E r F.full fun v s₁ g₁ i₁ => ?_) hst) hst (by rw [hst2]; rfl)
  have F1 := F.grew g₁
  refine spliced_more (hf _ A s₁ _ E r F1.st fun v₂ s₂ g₂ i₂ => spliced_none ?_) hst2
  have F2 := F1.grew g₂
  obtain ⟨t, rfl⟩ := is_int.mp i₁
  obtain ⟨_, a', e, _, _, ⟨us, hl, il⟩⟩ := F2.owned
  cases e
  have hlen := il.length
  refine wp_insert hl (by omega) (by omega) (by omega) fun h' hl' hs' => hQ _ (F2.own_set (tk := s₂.toks) hs' ⟨_, hl', ?_⟩)
  rw [Int.toNat_natCast]
  exact ((il.take j).append (isL_cons.mpr ⟨v₂, _, rfl, i₂, il.drop j⟩)).mono (hid_same hs' (.head _))
theorem ex_own_reverse {ds : List D} (hz : ds.length ≤ 1000000)
    (hbase : attributeBase (.Name x p) (Str.ofString "reverse") env (eval (.Name x p) env) = eval (.Name x p) env := by rfl)
    (hline : (ap.endLine == pos.line) = true := by rfl) (hi : interactive env = false := by rfl) (hs : swapsWith (.Call (.Attribute (.Name x p) (Str.ofString "reverse") ap) [] [] pos) none spos.line env = pure false := by rfl) :
    EX w k env Γ (some (x, .lst ds)) (.Expr (.Call (.Attribute (.Name x p) (Str.ofString "reverse") ap) [] [] pos) spos) (.next Γ (some (x, .lst ds.reverse))) := by
  refine ex_own_meth PySem.F.slot_list_reverse PySem.F.type_list_reverse (fun A a S pn gv s₀ s Q E r F hQ => callWith_method0 ?_) hbase rfl hline hi hs
  obtain ⟨_, a', e, _, _, ⟨us, hl, il⟩⟩ := F.owned
  cases e
  obtain ⟨o, ho, n, rfl⟩ := hl
  refine call_meets PySem.F.slot_list_reverse ⟨_, ho, rfl⟩ PySem.F.entry_list_reverse (PySem.F.args_list_reverse_1 _) (PySem.AutoSeq1.list_reverse_list_0 a us.toArray n (by rw [List.size_toArray, il.length, show sizeLine = 16777216 from rfl]; omega)) ⟨ho, ?_⟩
  refine hQ _ (F.own_set (tk := s.toks) (Heap.SameBut.update s.heap a _) ⟨us.reverse, ⟨_, get?_update_seq ho _, _, by simp; rfl⟩, ?_⟩)
  exact il.reverse.mono (hid_same (Heap.SameBut.update s.heap a _) (.head _))
end

section
variable {w : World} {k : Nat} {env : Env} {Γ : List (Str × D)} {O : Option (Str × D)} {x y : Str} {d d' : D} {p p' ap pos spos : Pos} {H : List Addr} {s s₁ : Shared}

theorem isL_push {ds : List D} {vs : List Value} (o : Obj) (il : IsL w (hid H s.heap) ds vs) : IsL w (hid ([s.heap.objs.size] ++ H) (s.heap.push o)) ds vs := il.mono fun b o' e => by
  obtain ⟨e1, n1⟩ := hid_get.mp e
  refine hid_get.mpr ⟨Heap.get?_push_of_some _ e1, fun m => ?_⟩
  rcases List.mem_cons.mp m with m | m
  · exact absurd (Heap.lt_size e1) (by rw [m]; exact Nat.lt_irrefl _)
  · exact n1 m

/-- an expression that makes a new object -/
def FV (w : World) (k : Nat) (env : Env) (Γ : List (Str × D)) (e : Expr) (d : D) : Prop :=
  ∀ (H : List Addr) (A : Around) (s : Shared) (Q : Value → Shared → Prop) (E : Value → Shared → Prop), Room k A → St w env Γ H s →
    (∀ a s', Grow s s' → s.heap.get? a = none → OwnIs w ([a] ++ H) s'.heap d a → Q (.ref a) s') → wpAny (model PG w) A (eval e env) Q E s
theorem ex_own {e : Expr} (he : FV w k env Γ e d) (hx : Stores env none x) (hΓ : Γ.lookup x = none) (hs : swapsWith e (some (.Name x p)) spos.line env = pure false := by rfl) :
    EX w k env Γ none (.Assign [.Name x p] e spos) (.next Γ (some (x, d))) := by
  intro A own S pn gv s₀ s Q E r F hQ
  cases (show own = [] from F.owned)
  refine wpAny_Assign_Name (he _ A s _ E r F.st fun a s' g hn ow => F.own_new g hn ow hx hΓ fun s'' F' => hQ _ s'' F') hs
theorem fv_mul {l r : Expr} {a : Int} {ds : List D} (hl : EV w k env Γ l (.lst ds)) (hr : EV w k env Γ r (.int a)) (h0 : 0 ≤ a) (hz : ds.length * a.toNat ≤ 1000000) (hz2 : a ≤ 1000000) : FV w k env Γ (.BinOp l .Mult r pos) (.lst (List.replicate a.toNat ds).flatten) := by
  intro H A s Q E rm st hQ
  refine wpAny_BinOp (hl H A s _ E rm st fun v₁ s₁ g₁ i₁ => hr H A s₁ _ E rm (st.grow g₁) fun v₂ s₂ g₂ i₂ => wp_mul_list h0 hz hz2 (i₁.grow g₂ st.tabs) i₂ fun vs il => ?_)
  have g := g₁.trans g₂
  exact hQ _ _ (g.trans (.push _)) (new_at st g get_size) ⟨vs, ⟨_, Heap.get?_push_size _ rfl, 0, rfl⟩, isL_push _ il⟩
theorem strs_are {h : Heap} : ∀ (l : List (Str × Tok)), IsL w h (sL (l.map (·.1))) (strValues l)
  | [] => isL_nil.mpr rfl
  | (y, t) :: l => isL_cons.mpr ⟨_, _, rfl, is_str.mpr ⟨t, rfl⟩, strs_are l⟩
theorem fv_split {o e : Expr} {X Y : Str} (ho : EV w k env Γ o (.str X)) (he : EV w k env Γ e (.str Y)) (hy : (Y.length == 0) = false) (hz : X.length ≤ 1000000) (hz2 : (Builtin.Str.partsBetween X (Builtin.Str.occurrences X Y 0 X.length (X.length + 1)) Y.length).length ≤ 1000000)
    (hbase : attributeBase o (Str.ofString "split") env (eval o env) = eval o env := by rfl)
    (hst : starEach [e] env = (false, eval e env) :: starEach [] env := by rfl) (hline : (ap.endLine == pos.line) = true := by rfl) : FV w k env Γ (.Call (.Attribute o (Str.ofString "split") ap) [e] [] pos) (.lst (sL (Txt.split X Y))) := by
  intro H A s Q E r st hQ
  refine wpAny_Call_method hbase (by rw [hst]; rfl) hline PySem.F.plainAttrs_str PySem.F.slot_str_split PySem.F.type_str_split (ho H A s _ E r st fun v s₁ g₁ i₁ => ?_)
  obtain ⟨h1, h2⟩ := ty_str s₁ H v i₁
  refine ⟨h1, h2, callWith_method1 (spliced_more (he H A s₁ _ E r (st.grow g₁) fun v₂ s₂ g₂ i₂ => spliced_none ?_) hst) hst rfl⟩
  obtain ⟨t, rfl⟩ := is_str.mp i₁
  obtain ⟨u, rfl⟩ := is_str.mp i₂
  have g := g₁.trans g₂
  have new : s.heap.get? s₂.heap.objs.size = none := new_at st g get_size
  have fin : ∀ (l : List (Str × Tok)) (s' : Shared), (∃ o tk, o.isFreed = false ∧ s' = { s₂ with heap := s₂.heap.push o, toks := tk } ∧ ∃ n, o = seqObj "list" (strValues l).toArray n) → l.map (·.1) = Txt.split X Y → Q (.ref s₂.heap.objs.size) s' := by
    rintro l s' ⟨o, tk, hf, rfl, n, rfl⟩ hl
    refine hQ _ _ (g.trans (.of_keeps fun _ _ e => Heap.get?_push_of_some _ e)) new ⟨strValues l, ⟨_, Heap.get?_push_size _ rfl, n, rfl⟩, hl ▸ strs_are l⟩
  have hsz : X.length ≤ sizeLine := by rw [show sizeLine = 16777216 from rfl]; omega
  have hsz2 : (Builtin.Str.partsBetween X (Builtin.Str.occurrences X Y 0 X.length (X.length + 1)) Y.length).length ≤ sizeLine := by rw [show sizeLine = 16777216 from rfl]; omega
  show wpAny _ A (call (.builtin "str.split") [.str X t, .str Y u]) Q E s₂
  cases h1 : (decide (X.length < Y.length) || decide (Builtin.Str.strKind X < Builtin.Str.strKind Y))
  · cases hf : (Builtin.Str.occurrences X Y 0 X.length (X.length + 1)).isEmpty
    · refine call_meets PySem.F.slot_str_split (typeIs_str _ _ _) PySem.F.entry_str_split (PySem.F.args_str_split_2 _ _) (meets_str_split_sep X Y t u h1 hy hf hsz hsz2) ?_
      show wants Q E _ { s₂ with toks := _, heap := s₂.heap.push { cls := .type "list", data := .seq (strsFrom s₂.toks (Builtin.Str.partsBetween X (Builtin.Str.occurrences X Y 0 X.length (X.length + 1)) Y.length)).toArray } }
      rw [strsFrom_eq]
      exact fin (numbered s₂.toks _) _ ⟨_, _, rfl, rfl, 0, rfl⟩ ((numbered_texts _ _).trans ((if_neg (ne_true_of_eq_false h1)).trans (if_neg (ne_true_of_eq_false hf))).symm)
    · exact call_meets PySem.F.slot_str_split (typeIs_str _ _ _) PySem.F.entry_str_split (PySem.F.args_str_split_2 _ _) (meets_str_split_not_found X Y t u h1 hy hf)
        (fin [(X, t)] _ ⟨_, _, rfl, rfl, 0, rfl⟩ ((if_neg (ne_true_of_eq_false h1)).trans (if_pos hf)).symm)
  · exact call_meets PySem.F.slot_str_split (typeIs_str _ _ _) PySem.F.entry_str_split (PySem.F.args_str_split_2 _ _) (meets_str_split_cannot_occur X Y t u h1)
      (fin [(X, t)] _ ⟨_, _, rfl, rfl, 0, rfl⟩ (if_pos h1).symm)

/-- an item of the own list is stored -/
theorem ex_own_setitem {i e : Expr} {ds : List D} {j : Nat} (he : EV w k env Γ e d) (hi : EV w k env (full Γ (some (x, .lst ds))) i (.int (j : Int))) (hj : j < ds.length) (hz : ds.length ≤ 1000000)
    (hs : swapsWith e (some (.Subscript (.Name x p) i ap)) spos.line env = pure false := by rfl) : EX w k env Γ (some (x, .lst ds)) (.Assign [.Subscript (.Name x p) i ap] e spos) (.next Γ (some (x, .lst (ds.set j d)))) := by
  intro A own S pn gv s₀ s Q E r F hQ
  obtain ⟨a, rfl⟩ := F.own_one
  refine wpAny_Assign_Subscript (he _ A s _ E r F.st fun v s₁ g₁ i₁ => wp_own (F.grew g₁) fun _ => hi _ A s₁ _ E r (F.grew g₁).full fun v₂ s₂ g₂ i₂ => ?_) hs
  have F2 := (F.grew g₁).grew g₂
  obtain ⟨t, rfl⟩ := is_int.mp i₂
  obtain ⟨_, a', e, _, _, ⟨us, ⟨o, ho, n, rfl⟩, il⟩⟩ := F2.owned
  cases e
  have hlen := il.length
  refine ki_setAt ho (by omega) (by omega) (by rw [List.size_toArray]; omega) (hQ [a] _ (F2.own_set (tk := s₂.toks) (Heap.SameBut.update s₂.heap a _) ⟨us.set j v, ⟨_, get?_update_seq ho _, _, by simp; rfl⟩, ?_⟩))
  refine IsL.mono (hid_same (Heap.SameBut.update s₂.heap a _) (.head _)) ?_
  have hset : ∀ {ds : List D} {vs : List Value} {j : Nat}, IsL w (hid ([a] ++ (frameAddrs env ++ S)) s₂.heap) ds vs → IsL w (hid ([a] ++ (frameAddrs env ++ S)) s₂.heap) (ds.set j d) (vs.set j v) := by
    intro ds
    induction ds with
    | nil => intro vs j x; rw [isL_nil] at x; subst x; exact isL_nil.mpr rfl
    | cons d0 ds ih =>
      intro vs j x
      obtain ⟨v0, r, rfl, a0, z⟩ := isL_cons.mp x
      cases j with
      | zero => exact isL_cons.mpr ⟨v, r, rfl, i₁.grow g₂ F.st.tabs, z⟩
      | succ j => exact isL_cons.mpr ⟨v0, _, rfl, a0, ih z⟩
  exact hset il
/-- the own list's first item goes -/
theorem ex_own_del0 {i : Expr} {ds : List D} (hi : EV w k env (full Γ (some (x, .lst (d :: ds)))) i (.int 0)) (hz : ds.length ≤ 100000) : EX w k env Γ (some (x, .lst (d :: ds))) (.Delete [.Subscript (.Name x p) i ap] spos) (.next Γ (some (x, .lst ds))) := by
  intro A own S pn gv s₀ s Q E r F hQ
  obtain ⟨a, rfl⟩ := F.own_one
  refine wpAny_Delete (wpAny_deleteEach_cons (wpAny_delete_Subscript (wp_own F fun _ => hi _ A s _ E r F.full fun v₁ s₁ g₁ i₁ => ?_)))
  have F1 := F.grew g₁
  obtain ⟨t, rfl⟩ := is_int.mp i₁
  obtain ⟨_, a', e, _, _, ⟨us, ⟨o, ho, n, rfl⟩, il⟩⟩ := F1.owned
  cases e
  obtain ⟨v0, us, rfl, _, il'⟩ := isL_cons.mp il
  have hlen := il'.length
  refine P.delItem_list (n := n) (k := 0) ho (by decide) (by simp [seqIndex?]) (wpAny_deleteEach_nil (hQ [a] _ (F1.own_set (tk := s₁.toks) (Heap.SameBut.update s₁.heap a _) ⟨us, ⟨_, get?_update_seq ho _, _, by simp; rfl⟩, il'.mono (hid_same (Heap.SameBut.update s₁.heap a _) (.head _))⟩))) (by rw [List.size_toArray, List.length_cons, show sizeLine = 16777216 from rfl]; omega)
end

/-- a dict's keys and values behind a store -/
def dKeys (ks : List Int) (q : Int) : List Int := if ks.contains q then ks else ks ++ [q]
def dVals {α : Type} (ks : List Int) (ds : List α) (q : Int) (d : α) : List α := if ks.contains q then (ks.zip ds).map (fun p => if p.1 = q then d else p.2) else ds ++ [d]
theorem any_key {vs : List Value} {q : Int} : ∀ {ks : List Int} {vs : List Value}, ks.length = vs.length → (ks.zip vs).any (fun kv => decide (kv.1 = q)) = ks.contains q
  | [], _, _ => rfl
  | k :: ks, [], h => nomatch h
  | k :: ks, v :: vs, h => by
    rw [List.zip_cons_cons, List.any_cons, List.contains_cons, any_key (vs := vs) (by simpa using h)]
    congr 1
    by_cases e : k = q
    · subst e; simp
    · have : ¬ q = k := fun h => e h.symm
      simp [e, this]
theorem stored_is {w : World} {h : Heap} {ks : List Int} {ds : List D} {vs : List Value} {q : Int} {d : D} {v : Value} (hl : ks.length = vs.length) (il : IsL w h ds vs) (iv : Is w h d v) :
    ∃ us, stored (ks.zip vs) q v = (dKeys ks q).zip us ∧ (dKeys ks q).length = us.length ∧ IsL w h (dVals ks ds q d) us := by
  unfold stored dKeys dVals
  rw [any_key (vs := vs) hl]
  cases hc : ks.contains q with
  | false =>
    refine ⟨vs ++ [v], ?_, by simp [hl], il.append (.one iv)⟩
    simp only [Bool.false_eq_true, if_false]
    rw [List.zip_append hl]; rfl
  | true =>
    simp only [if_true]
    clear hc
    refine ⟨(ks.zip vs).map (fun p => if p.1 = q then v else p.2), ?_, by simp [hl], ?_⟩
    · clear il
      induction ks generalizing vs with
      | nil => rfl
      | cons k ks ih =>
        cases vs with
        | nil => cases hl
        | cons u vs =>
          simp only [List.zip_cons_cons, List.map_cons]
          rw [ih (by simpa using hl)]
          congr 1
          by_cases e : k = q <;> simp [e]
    · induction ks generalizing vs ds with
      | nil => exact isL_nil.mpr rfl
      | cons k ks ih =>
        cases vs with
        | nil => cases hl
        | cons u vs =>
          cases ds with
          | nil => rw [isL_nil] at il; cases il
          | cons d0 ds =>
            obtain ⟨_, _, e, a, z⟩ := isL_cons.mp il
            cases e
            simp only [List.zip_cons_cons, List.map_cons]
            refine isL_cons.mpr ⟨_, _, rfl, ?_, ih (by simpa using hl) z⟩
            by_cases e : k = q
            · simp only [e, if_true]; exact iv
            · simp only [e, if_false]; exact a

section
variable {w : World} {k : Nat} {env : Env} {Γ : List (Str × D)} {O : Option (Str × D)} {x y : Str} {d d' : D} {p p' ap pos spos : Pos} {H own S : List Addr} {s s₁ s₀ : Shared} {pn : List (Addr × Obj)} {gv : List (D × Value)}
theorem own_store {a : Addr} {ks : List Int} {ds : List D} {q : Int} {t : Tok} {v : Value} (F : Fm w env Γ (some (x, .dct ks ds)) [a] S pn gv s₀ s) (iv : Is w (hid ([a] ++ (frameAddrs env ++ S)) s.heap) d v) (hz : ks.length ≤ 1000000) {A : Around} {Q : Unit → Shared → Prop} {E : Value → Shared → Prop}
    (hQ : ∀ s', Fm w env Γ (some (x, .dct (dKeys ks q) (dVals ks ds q d))) [a] S pn gv s₀ s' → Q () s') : wpAny (model PG w) A (setItem (.ref a) (.int q t) v) Q E s := by
  obtain ⟨_, a', e, _, _, ⟨vs, hm, ⟨hl, hsm⟩, il⟩⟩ := F.owned
  cases e
  obtain ⟨us, e1, e2, iu⟩ := stored_is (q := q) hl il iv
  refine wpAny_setItem_pairs (knd := intKind PG w) (intKind_is PG w q t) hm (fun h' hm' hs' => hQ _ (F.own_set hs' ⟨us, ?_, ⟨e2, hsm⟩, iu.mono (hid_same hs' (.head _))⟩)) (by rw [List.length_zip, show sizeLine = 16777216 from rfl]; omega)
  rw [← e1]; exact hm'
theorem ex_own_dset {e : Expr} {yp : Pos} {ks : List Int} {ds : List D} {q : Int} (he : EV w k env Γ e d) (hi : Γ.lookup y = some (.int q)) (hz : ks.length ≤ 1000000)
    (hs : swapsWith e (some (.Subscript (.Name x p) (.Name y yp) ap)) spos.line env = pure false := by rfl) : EX w k env Γ (some (x, .dct ks ds)) (.Assign [.Subscript (.Name x p) (.Name y yp) ap] e spos) (.next Γ (some (x, .dct (dKeys ks q) (dVals ks ds q d)))) := by
  intro A own S pn gv s₀ s Q E r F hQ
  obtain ⟨a, rfl⟩ := F.own_one
  refine wpAny_Assign_Subscript (he _ A s _ E r F.st fun v s₁ g₁ i₁ => wp_own (F.grew g₁) fun _ => ev_name hi _ A s₁ _ E r (F.grew g₁).st fun v₂ s₂ g₂ i₂ => ?_) hs
  obtain ⟨t, rfl⟩ := is_int.mp i₂
  exact own_store ((F.grew g₁).grew g₂) (i₁.grow g₂ F.st.tabs) hz fun s' F' => hQ [a] s' F'
theorem ex_own_dadd {e : Expr} {yp : Pos} {ks : List Int} {ds : List D} {q u v : Int} (he : EV w k env Γ e (.int v)) (hi : Γ.lookup y = some (.int q)) (hu : dAt ks ds q = some (.int u)) (hz : ks.length ≤ 1000000) :
    EX w k env Γ (some (x, .dct ks ds)) (.AugAssign (.Subscript (.Name x p) (.Name y yp) ap) .Add e spos) (.next Γ (some (x, .dct (dKeys ks q) (dVals ks ds q (.int (u + v)))))) := by
  intro A own S pn gv s₀ s Q E r F hQ
  obtain ⟨a, rfl⟩ := F.own_one
  rw [exec_AugAssign_Subscript]
  refine wpAny_bind (wpAny_standAt (wpAny_bind (wp_own F fun ow => wpAny_bind (wpAny_holding (ev_name hi _ A s _ E r F.st fun v₁ s₁ g₁ i₁ => wpAny_bind (wpAny_holding (wpAny_bind (wpAny_standAt (wpAny_bind ?_)))))))))
  obtain ⟨t, rfl⟩ := is_int.mp i₁
  have F1 := F.grew g₁
  obtain ⟨_, a', e, _, _, ⟨vs, hm, ⟨hl, hsm⟩, il⟩⟩ := F1.owned
  cases e
  obtain ⟨v', hv', iv'⟩ := dAt_get il hu
  refine wpAny_getItem_of (intKind_is PG w q t) hm.mapOf hv' ?_
  obtain ⟨t2, rfl⟩ := is_int.mp iv'
  have g2 : Grow s₁ { s₁ with toks := s₁.toks + 1 } := .toks _
  refine wpAny_bind (wpAny_holding (he _ A _ _ E r (F1.grew g2).st fun v₃ s₃ g₃ i₃ => ?_))
  obtain ⟨t3, rfl⟩ := is_int.mp i₃
  have F3 := (F1.grew g2).grew g₃
  refine wpAny_bind (wpAny_standAt (wpAny_operating (iadd_int ?_)))
  have F4 := F3.grew (Grow.toks (s := s₃) (s₃.toks + 1))
  refine wpAny_bind (wpAny_standAt (wpAny_bind (wpAny_holding (own_store F4 (is_int.mpr ⟨_, rfl⟩) hz fun s' F' => wpAny_bind (wpAny_release (wpAny_pure (hQ [a] s' F')))))))

theorem ex_aug {e : Expr} {u v : Int} {op : Operator} {z : Int} (hu : Γ.lookup x = some (.int u)) (he : EV w k env (Mine.full Γ O) e (.int v)) (hx : Stores env O x)
    (ho : ∀ {A : Around} {s : Shared} {t t' : Tok} {Q : Value → Shared → Prop} {E : Value → Shared → Prop}, (Q (.int z s.toks) { s with toks := s.toks + 1 }) → wpAny (model PG w) A (inplaceOp op (.int u t) (.int v t')) Q E s) :
    EX w k env Γ O (.AugAssign (.Name x p) op e spos) (.next ((x, .int z) :: Γ) O) := by
  intro A own S pn gv s₀ s Q E r F hQ
  refine wpAny_AugAssign_Name ?_
  obtain ⟨m, n, vr⟩ := F.st.vars
  obtain ⟨hdbg, v0, hv, hi⟩ := vr x _ hu
  have go : wpAny (model PG w) A (eval e env) (fun v s₂ => wpAny (model PG w) A (inplaceOp op v0 v) (fun r s₃ => wpAny (model PG w) A (storeName env x r) (fun _ => Q .next) E s₃) E s₂) E s := by
    refine he _ A s _ E r F.full fun v₁ s₁ g₁ i₁ => ?_
    obtain ⟨t, rfl⟩ := is_int.mp hi
    obtain ⟨t', rfl⟩ := is_int.mp i₁
    exact ho (((F.grew g₁).grew (.toks _)).store hx.1 hx.2.1 hx.2.2 (is_int.mpr ⟨_, rfl⟩) fun s' F' _ => hQ own s' F')
  rcases hv with ⟨hk, hm⟩ | ⟨hk | hk, hn, c, hc, hcell⟩
  · exact wpAny_loadName_local F.st.ok.kind hk n hm go
  · exact wpAny_loadName_cell F.st.ok.kind hk hc hcell go
  · exact wpAny_loadName_free F.st.ok.kind hk hc hcell go hn
theorem ex_add {e : Expr} {u v : Int} (hu : Γ.lookup x = some (.int u)) (he : EV w k env (Mine.full Γ O) e (.int v)) (hx : Stores env O x) : EX w k env Γ O (.AugAssign (.Name x p) .Add e spos) (.next ((x, .int (u + v)) :: Γ) O) :=
  ex_aug hu he hx fun h => iadd_int h

theorem ex_assert {t : Expr} {msg : Option Expr} (ht : TV w k env (Mine.full Γ O) t true) : EX w k env Γ O (.Assert t msg spos) (.next Γ O) := by
  intro A own S pn gv s₀ s Q E r F hQ
  exact wpAny_Assert_holds (ht _ A s _ E r F.full fun s' g => ⟨rfl, hQ own s' (F.grew g)⟩)
/-- names are bound to a tuple's items -/
theorem ex_unpack {es : List Expr} {n : Nat} {tp : Pos} {e : Expr} {bs : List (Str × D)} (he : EV w k env Γ e d) (hb : binds (.Tuple es n tp) d = some bs) (hok : ∀ q ∈ bs, Stores env O q.1)
    (hs : swapsWithSole [.Tuple es n tp] e spos.line env = pure false := by rfl) (hw : swappedStores [.Tuple es n tp] e env = pure none := by rfl) : EX w k env Γ O (.Assign [.Tuple es n tp] e spos) (.next (bs ++ Γ) O) := by
  intro A own S pn gv s₀ s Q E r F hQ
  exact Assign_Tuple (he _ A s _ E r F.st fun v s₁ g₁ i₁ => wp_assign sto_fm r.1 hb hok (F.grew g₁) i₁ fun s' F' => hQ own s' F') hs hw

/-- a global that holds an int or a text; a builtin's own value -/
theorem ev_gint {i : Int} {t : Tok} (hn : nsIn (KF w.params) mainGlobals x = some (some (.int i t))) (hk : env.kindOf x = some .globalImplicit) (hd' : (x == (Str.ofString "__debug__")) = false) : EV w k env Γ (.Name x p) (.int i) :=
  fun H A s Q E r st hQ => wp_global st hn hk hd' (hQ _ s (.refl s) (is_int.mpr ⟨_, rfl⟩))
theorem ev_gstr {i : Str} {t : Tok} (hn : nsIn (KF w.params) mainGlobals x = some (some (.str i t))) (hk : env.kindOf x = some .globalImplicit) (hd' : (x == (Str.ofString "__debug__")) = false) : EV w k env Γ (.Name x p) (.str i) :=
  fun H A s Q E r st hQ => wp_global st hn hk hd' (hQ _ s (.refl s) (is_str.mpr ⟨_, rfl⟩))
theorem ev_bi {v : Value} (hn : nsIn (KF w.params) mainGlobals x = some none) (hb : bootBuiltins x = some v) (hnm : x ≠ Str.ofString "__name__") (hk : env.kindOf x = some .globalImplicit) (hd' : (x == (Str.ofString "__debug__")) = false) : EV w k env Γ (.Name x p) (.raw v []) :=
  fun H A s Q E r st hQ => wp_builtin st hn hb hnm hk hd' (hQ _ s (.refl s) (is_raw.mpr ⟨rfl, fun _ e => nomatch e⟩))
theorem cl_isinst_int {a : Int} {T : String} (hne : (Value.type "int" == Value.type T) = false) (hty : typeOf (.type T) = pure (.type "type")) (hsub : isSubtype (.type "int") (.type T) = pure false) : CL w k (.builtin "isinstance") [.int a, .raw (.type T) []] (.bool false) := by
  intro A s H vs Q E r bs tb dm i0 hQ
  obtain ⟨v, u, rfl, i, j⟩ := isL_two i0
  obtain ⟨t, rfl⟩ := is_int.mp i
  obtain ⟨rfl, _⟩ := is_raw.mp j
  refine call_isinstance_of ?_ (fun e => nomatch e)
  obtain ⟨h, g, dd, tt, os⟩ := s
  exact isinstance_nested_false_int hne hty hsub (hQ _ _ (.toks _) (is_bool.mpr rfl))

theorem isL_four {h : Heap} {a b c d : D} {vs : List Value} (x : IsL w h [a, b, c, d] vs) : ∃ v₁ v₂ v₃ v₄, vs = [v₁, v₂, v₃, v₄] ∧ Is w h a v₁ ∧ Is w h b v₂ ∧ Is w h c v₃ ∧ Is w h d v₄ := by
  obtain ⟨v, r, rfl, y, z⟩ := isL_cons.mp x
  obtain ⟨v2, r, rfl, y2, z⟩ := isL_cons.mp z
  obtain ⟨v3, v4, rfl, y3, y4⟩ := isL_two z
  exact ⟨_, _, _, _, rfl, y, y2, y3, y4⟩
theorem cl_startswith {X Y : Str} : CL w k (.builtin "str.startswith") [.str X, .str Y] (.bool (Txt.startswith X Y)) := by
  intro A s H vs Q E r bs tb dm i0 hQ
  obtain ⟨v, u, rfl, i, j⟩ := isL_two i0
  obtain ⟨t, rfl⟩ := is_str.mp i
  obtain ⟨t', rfl⟩ := is_str.mp j
  exact SC.startswith (hQ _ _ (.refl _) (is_bool.mpr rfl))
theorem cl_endswith {X Y : Str} : CL w k (.builtin "str.endswith") [.str X, .str Y] (.bool (Txt.endswith X Y)) := by
  intro A s H vs Q E r bs tb dm i0 hQ
  obtain ⟨v, u, rfl, i, j⟩ := isL_two i0
  obtain ⟨t, rfl⟩ := is_str.mp i
  obtain ⟨t', rfl⟩ := is_str.mp j
  exact SC.endswith (hQ _ _ (.refl _) (is_bool.mpr rfl))
def find4 (x y : Str) (i j : Int) : Int := match Builtin.Str.occurrences x y (fromIndex x.length i) (min (fromIndex x.length j) x.length) 1 with | k :: _ => (k : Int) | [] => -1
theorem gives_find4 (x y : Str) (i j : Int) (t u v v' : Tok) : Gives (Builtin.«str.find» ⟨[.str x t, .str y u, .int i v, .int j v'], []⟩) (.int (find4 x y i j)) := by
  show Gives (match Builtin.Str.occurrences x y (fromIndex x.length i) (min (fromIndex x.length j) x.length) 1 with | k :: _ => retInt k | [] => (do rule "str.find.not-found"; retInt (-1))) _
  unfold find4
  cases Builtin.Str.occurrences x y (fromIndex x.length i) (min (fromIndex x.length j) x.length) 1 with
  | nil => exact .rule (.of_eq rfl)
  | cons k _ => exact .of_eq rfl
theorem args_find4 (a b c d : Value) : argsOk "str.find" ⟨[a, b, c, d], []⟩ := by unfold argsOk; kernel_rfl
theorem cl_find4 {X Y : Str} {i j : Int} : CL w k (.builtin "str.find") [.str X, .str Y, .int i, .int j] (.int (find4 X Y i j)) := by
  intro A s H vs Q E r bs tb dm i0 hQ
  obtain ⟨v₁, v₂, v₃, v₄, rfl, i1, i2, i3, i4⟩ := isL_four i0
  obtain ⟨t1, rfl⟩ := is_str.mp i1
  obtain ⟨t2, rfl⟩ := is_str.mp i2
  obtain ⟨t3, rfl⟩ := is_int.mp i3
  obtain ⟨t4, rfl⟩ := is_int.mp i4
  exact call_gives PySem.F.slot_str_find (typeIs_str _ _ _) PySem.F.entry_str_find (args_find4 _ _ _ _) (gives_find4 X Y i j t1 t2 t3 t4) (hQ _ _ (.toks _) (is_int.mpr ⟨_, rfl⟩))
end

section
variable {w : World} {k : Nat} {env : Env} {Γ Γ' : List (Str × D)} {O O' : Option (Str × D)} {x y : Str} {d d' : D}
theorem cl_fn2C {w : World} {k : Nat} {fd : FuncData} {f : Addr} {body : List Stmt} {names : List Str} {ds : List D} {d : D} {Γ : List (Str × D)}
    (hK : (KF w.params).lookup f = some (fnObj fd)) (hΓ : (names.zip ds).reverse = Γ) (hb : fd.body = .stmts body) (hclo : fd.closure = []) (hgl : fd.globals = mainGlobals) (hbt : fd.builtins = builtinsNs)
    (hcd : codeIn (KF w.params) fd.code fd.qualname = true) (hbind : ∀ vals : List Value, vals.length = ds.length → bindArgs fd ⟨vals, []⟩ = pure (names.zip vals)) (hp : ParamsOk fd.scope names = true)
    (hbody : ∀ L, EXS w k (callEnvC fd L f) Γ none body (.ret d)) : CLC w (k + 1) (.ref f) ds d := by
  subst hΓ
  exact cl_fnC hK rfl hb hclo hgl hbt hcd hbind hp hbody
theorem cl_fn2 {w : World} {k : Nat} {fd : FuncData} {f : Addr} {body : List Stmt} {names : List Str} {ds : List D} {d : D} {Γ : List (Str × D)}
    (hK : (KF w.params).lookup f = some (fnObj fd)) (hΓ : (names.zip ds).reverse = Γ) (hb : fd.body = .stmts body) (hclo : fd.closure = []) (hgl : fd.globals = mainGlobals) (hbt : fd.builtins = builtinsNs)
    (hcd : codeIn (KF w.params) fd.code fd.qualname = true) (hbind : ∀ vals : List Value, vals.length = ds.length → bindArgs fd ⟨vals, []⟩ = pure (names.zip vals)) (hp : ParamsOk fd.scope names = true)
    (hbody : ∀ L, EXS w k (callEnvC fd L f) Γ none body (.ret d)) : CL w (k + 1) (.ref f) ds d := (cl_fn2C hK hΓ hb hclo hgl hbt hcd hbind hp hbody).cl
theorem lk_hd : ((x, d) :: Γ).lookup x = some d := by simp [List.lookup_cons]
theorem lk_tl (hb : (x == y) = false) (h : Γ.lookup x = some d) : ((y, d') :: Γ).lookup x = some d := by rw [List.lookup_cons, hb]; exact h
theorem out_weaken {sts : List Stmt} (h : EXS w k env Γ O sts (.next Γ' O')) {Γ₂ : List (Str × D)} (hs : ∀ p ∈ Γ₂, Γ'.lookup p.1 = some p.2) : EXS w k env Γ O sts (.next Γ₂ O') := by
  intro A own S pn gv s₀ s Q E r F hQ
  refine h A own S pn gv s₀ s Q E r F fun own' s' F' => hQ own' s' ⟨F'.base0, F'.grow, ⟨F'.st.ok, F'.st.base, F'.st.tabs, F'.st.dom, F'.st.loc, F'.st.cel, ?_⟩, F'.new, F'.apart, F'.cells, F'.owned, F'.pin, F'.ghost⟩
  obtain ⟨m, n, vr⟩ := F'.st.vars
  exact ⟨m, n, fun x d hx => vr x d (hs (x, d) (mem_of_lookup hx))⟩
theorem all_nil {P : Str × D → Prop} : ∀ p ∈ ([] : List (Str × D)), P p := fun _ h => nomatch h
theorem all_cons {P : Str × D → Prop} {q : Str × D} {r : List (Str × D)} (h : P q) (h2 : ∀ p ∈ r, P p) : ∀ p ∈ q :: r, P p := fun p hp => (List.mem_cons.mp hp).elim (fun e => e ▸ h) (h2 p)
theorem allS_nil {P : Str → Prop} : ∀ p ∈ ([] : List Str), P p := fun _ h => nomatch h
theorem allS_cons {P : Str → Prop} {q : Str} {r : List Str} (h : P q) (h2 : ∀ p ∈ r, P p) : ∀ p ∈ q :: r, P p := fun p hp => (List.mem_cons.mp hp).elim (fun e => e ▸ h) (h2 p)
/-- a loop whose names are a function of its state -/
theorem for_fold {target : Expr} {body : List Stmt} {σ : Type} (I : σ → Prop) (Γf : σ → List (Str × D)) (Of : σ → Option (Str × D)) {α : Type} (dv : α → D) (step : σ → α → σ)
    (h : ∀ s a, I s → I (step s a) ∧ ∃ bs, bindsI target (dv a) = some bs ∧ (∀ p ∈ bs, Stores env (Of s) p.1) ∧ EXS w k env (bs ++ Γf s) (Of s) body (.next (Γf (step s a)) (Of (step s a)))) :
    ∀ (l : List α) (s : σ), I s → LoopF w k env target body (l.map dv) (Γf s) (Of s) (.next (Γf (l.foldl step s)) (Of (l.foldl step s)))
  | [], s, _ => .nil _ _
  | a :: l, s, i => by
    obtain ⟨i', bs, h1, h2, h3⟩ := h s a i
    exact .turn h1 h2 h3 (for_fold I Γf Of dv step h l _ i')
theorem local_stores (h : env.kindOf x = some .local) (hd : (x == (Str.ofString "__debug__")) = false) (hO : ∀ d, O ≠ some (x, d)) : Stores env O x := ⟨.inl h, hd, hO⟩
theorem cell_stores (h : env.kindOf x = some .cell) (hc : (env.cells.lookup x).isSome = true) (h2 : (x == (Str.ofString "__classdict__")) = false) (hd : (x == (Str.ofString "__debug__")) = false) (hO : ∀ d, O ≠ some (x, d)) : Stores env O x := ⟨.inr ⟨h, hc, h2⟩, hd, hO⟩
theorem not_none : ∀ d, (none : Option (Str × D)) ≠ some (x, d) := fun _ h => nomatch h
theorem not_other (h : (y == x) = false) : ∀ d, (some (y, d') : Option (Str × D)) ≠ some (x, d) := fun d e => by
  cases e; rw [beq_self_eq_true] at h; cases h
end

section
variable {w : World} {k : Nat} {env : Env} {Γ : List (Str × D)} {x : Str} {p ap pos xp : Pos}
theorem f77 (w : World) : (KF w.params).lookup 77 = some (fnObj (methAt 0 "TupleComp.__init__" 76)) := by kernel_rfl
theorem f84 (w : World) : (KF w.params).lookup 84 = some (fnObj (methAt 1 "TupleComp.compare" 83)) := by kernel_rfl
abbrev csl : Str := Str.ofString "comp_select_list"
theorem ord_inst {h : Heap} {a d : Addr} {es : List DictEntry} {n : Nat} (h1 : h.get? a = some ⟨.ref 87, some d, .plain, #[]⟩) (h2 : h.get? d = some (dictOf es n)) : InstAt h a ⟨.ref 87, some d, .plain, #[]⟩ 87 (some (dictOf es n)) := ⟨h1, rfl, rfl, h2⟩
theorem ord_facts (w : World) : plainGet (KF w.params) 87 csl = true ∧ plainGet (KF w.params) 87 "compare" = true ∧ hasDictIn (KF w.params) 87 = true ∧ findIn (KF w.params) (.ref 87) csl = some none ∧ findIn (KF w.params) (.ref 87) "compare" = some (some (.ref 84)) ∧
    typeIn (KF w.params) (.ref 84) = some (.type "function") ∧ keepIn (KF w.params) (.ref 84) = true ∧ keepIn (KF w.params) (.ref 87) = true := by
  refine ⟨?_, ?_, ?_, ?_, ?_, ?_, ?_, ?_⟩ <;> kernel_rfl
/-- the keys of an order -/
theorem ev_ordlist {ds : List D} (hx : Γ.lookup x = some (.ord (.lst ds)))
    (he : eval (.Attribute (.Name x xp) csl pos) env = (do
      let o ← eval (.Name x xp) env
      standAt pos.atName
      let r ← holding [o] (getAttr o csl true)
      letTemporaryGo (.Name x xp) o r
      pure r) := by with_unfolding_all rfl) : EV w k env Γ (.Attribute (.Name x xp) csl pos) (.lst ds) := by
  intro H A s Q E r st hQ
  refine Attribute_Name_ (ev_name hx H A s _ E r st fun v s₁ g i => ?_) he
  obtain ⟨a, d, es, n, y, rfl, h1, h2, ⟨h3, _⟩, iy⟩ := is_ord.mp i
  obtain ⟨f1, _, f3, f4, _⟩ := ord_facts w
  have g1 := (hid_get.mp h1).1
  have g2 := (hid_get.mp h2).1
  obtain ⟨ay, vs, rfl, _⟩ := is_lst.mp iy
  refine get_value (st.grow g).base.kin (ord_inst g1 g2) (plainGet_of f1).1 (findObj_own f3 f4 rfl h3) rfl ?_
  exact hQ _ _ (g.trans (.toks _)) iy
/-- a comparison by an order -/
theorem ev_ordcall {l : D} {e f : Expr} {ds : List D} {d : D} {pl : Sem Bool} (hx : Γ.lookup x = some (.ord l)) (ha : ES w k env Γ [e, f] ds) (hc : CL w k (.ref 84) (.ord l :: ds) d)
    (hst : starEach [e, f] env = (false, eval e env) :: starEach [f] env := by rfl) (hpl : (backTo pos (starEach [f] env)).any (·.1) = false := by rfl)
    (he : eval (.Call (.Attribute (.Name x xp) (Str.ofString "compare") ap) [e, f] [] pos) env = (do
      let ov ← eval (.Name x xp) env
      standAt ap.atName
      let (f', first) ← holding [ov] (getMethod ov (Str.ofString "compare") pl)
      callWith pos f' first (backTo pos (starEach [e, f] env)) []) := by rfl) : EV w k env Γ (.Call (.Attribute (.Name x xp) (Str.ofString "compare") ap) [e, f] [] pos) d := by
  intro H A s Q E r st hQ
  refine MethodCall_ (pl := pl) (ev_name hx H A s _ E r st fun v s₁ g i => ?_) he
  have i0 := i
  obtain ⟨a, d, es, n, y, rfl, h1, h2, ⟨_, h4⟩, iy⟩ := is_ord.mp i
  obtain ⟨_, f2, _, _, f5, f6, f7, _⟩ := ord_facts w
  have st₁ := st.grow g
  refine method_fn st₁.base.kin (ord_inst (hid_get.mp h1).1 (hid_get.mp h2).1) (plainGet_of f2).1 (plainGet_of f2).2 f5 f6 (by show (lookIn _ (dictOf es n)).map _ = _; rw [lookIn_dict, h4]; rfl) ?_
  refine callWith_K st₁.base.kin f7 (ha H pos A s₁ _ E r st₁ fun vs s₂ g₂ i₂ => ⟨(st₁.grow g₂).base.kin, ?_⟩) hst hpl
  exact hc A s₂ H _ Q E r (st₁.grow g₂).base st.tabs (st₁.grow g₂).dom (isL_cons.mpr ⟨_, vs, rfl, i0.grow g₂ st.tabs, i₂⟩) fun u s' g' i' => hQ u s' ((g.trans g₂).trans g') i'

theorem init_facts (w : World) : makesIn (KF w.params) 87 = true ∧ findIn (KF w.params) (.ref 87) "__init__" = some (some (.ref 77)) ∧ typeIn (KF w.params) (.ref 77) = some (.type "function") ∧
    findIn (KF w.params) (.ref 87) "__setattr__" = some (some (.builtin "object.__setattr__")) ∧ plainOver (KF w.params) 87 = true ∧ takerIn (KF w.params) 87 csl = some none ∧ nsIn (KF w.params) mainGlobals "TupleComp" = some (some (.ref 87)) ∧ codeIn (KF w.params) (methAt 0 "TupleComp.__init__" 76).code (methAt 0 "TupleComp.__init__" 76).qualname = true := by
  refine ⟨?_, ?_, ?_, ?_, ?_, ?_, ?_, ?_⟩ <;> kernel_rfl
theorem init_bind (u v : Value) : bindArgs (methAt 0 "TupleComp.__init__" 76) ⟨[u, v], []⟩ = pure [(Str.ofString "self", u), (csl, v)] := rfl
theorem wp_make {A : Around} {s : Shared} {H : List Addr} {v : Value} {ds : List D} {Q E : Value → Shared → Prop} (r : Room (k + 1) A) (base : Base w s.heap) (tabs : (30 : Addr) ∈ H ∧ (37 : Addr) ∈ H) (dom : ∀ a ∈ H, ∃ o, s.heap.get? a = some o) (i : Is w (hid H s.heap) (.lst ds) v)
    (hQ : ∀ u s', Grow s s' → Is w (hid H s'.heap) (.ord (.lst ds)) u → Q u s') : wpAny (model PG w) A (call (.ref 87) [v]) Q E s := by
  obtain ⟨h, g, d, t, os⟩ := s
  obtain ⟨f1, f2, f3, f4, f5, f6, _, f8⟩ := init_facts w
  have X := base.kin
  refine wpAny_call (make_core (makes_of X f1) (looks_findIn X f2) (fun self => bind_fn X self f3) (.inl rfl) ?_)
  have k2 : ∀ b o, h.get? b = some o → ((h.push emptyDict).push (instObj 87 h.objs.size)).get? b = some o := fun b o e => Heap.get?_push_of_some _ (Heap.get?_push_of_some _ e)
  have ex : ((h.push emptyDict).push (instObj 87 h.objs.size)).get? (h.objs.size + 1) = some (instObj 87 h.objs.size) := by
    have := Heap.get?_push_size (h.push emptyDict) (o := instObj 87 h.objs.size) rfl
    rwa [Heap.size_push] at this
  have ed : ((h.push emptyDict).push (instObj 87 h.objs.size)).get? h.objs.size = some emptyDict := Heap.get?_push_of_some _ (Heap.get?_push_size _ rfl)
  have sz : ((h.push emptyDict).push (instObj 87 h.objs.size)).objs.size = h.objs.size + 2 := by rw [Heap.size_push, Heap.size_push]
  generalize hh2 : (h.push emptyDict).push (instObj 87 h.objs.size) = h2 at k2 ex ed sz ⊢
  have g2 : Grow ⟨h, g, d, t, os⟩ ⟨h2, g, d, t, os⟩ := .keepsAt k2
  have base2 := base.grow g2
  have hw : (Code.builtin "type.__call__" ⟨[.ref 87, v], []⟩).weight = 1 := by kernel_rfl
  refine codeAny_call_cells (fd := methAt 0 "TupleComp.__init__" 76) (by show A.depth + (Code.builtin "type.__call__" ⟨[.ref 87, v], []⟩).weight < recursionLimit; rw [hw]; have := r.2.1; omega) (base2.kin 77 _ (f77 w)) rfl base2.lim (codeRec_of base2.kin f8) rfl (init_bind _ v) rfl (fun x hx => .inl ?_) (fun s₁ C => ?_) rfl rfl rfl
  · rcases List.mem_cons.mp hx with e | hx
    · rw [e]; kernel_rfl
    · rw [List.mem_singleton] at hx; rw [hx]; kernel_rfl
  · obtain ⟨h3, t3, rfl⟩ := C.toInCall.same
    have ns := C.toInCall.ns
    have keep := C.toInCall.keep
    have hL : (callEnvC (methAt 0 "TupleComp.__init__" 76) h2.objs.size 77).locals = h2.objs.size := rfl
    have kx : bindL (callEnvC (methAt 0 "TupleComp.__init__" 76) h2.objs.size 77).kindOf [(Str.ofString "self", .ref (h.objs.size + 1)), (csl, v)] (fun _ => none) (Str.ofString "self") = some (.ref (h.objs.size + 1)) := by kernel_rfl
    have kv : bindL (callEnvC (methAt 0 "TupleComp.__init__" 76) h2.objs.size 77).kindOf [(Str.ofString "self", .ref (h.objs.size + 1)), (csl, v)] (fun _ => none) csl = some v := by kernel_rfl
    have e1 : (callEnvC (methAt 0 "TupleComp.__init__" 76) h2.objs.size 77).kindOf (Str.ofString "self") = some .local := by kernel_rfl
    have e2 : (callEnvC (methAt 0 "TupleComp.__init__" 76) h2.objs.size 77).kindOf csl = some .local := by kernel_rfl
    have e3 : (callEnvC (methAt 0 "TupleComp.__init__" 76) h2.objs.size 77).scope.kind = .function := rfl
    generalize callEnvC (methAt 0 "TupleComp.__init__" 76) h2.objs.size 77 = env at *
    dsimp only at ns keep
    refine wpAny_execs_cons (plainObj_wpAny_Assign_Attribute (wpAny_Name (wpAny_loadName_local e3 e2 ns kv (wpAny_Name (wpAny_loadName_local e3 e1 ns kx ?_) (by kernel_rfl))) (by kernel_rfl)) rfl)
    have F : Fr h env.locals h3 _ := ⟨ns, fun b o e => keep b o (k2 b o e), by rw [hL, sz]; omega⟩
    have none1 : h.get? (h.objs.size + 1) = none := by
      cases q : h.get? (h.objs.size + 1) with
      | none => rfl
      | some o => exact absurd (Heap.lt_size q) (Nat.not_lt.mpr (Nat.le_succ _))
    have N : News h env.locals h3 [(h.objs.size + 1, instObj 87 h.objs.size), (h.objs.size, dictOf [] 0)] := fun p hp => by
      rcases List.mem_cons.mp hp with rfl | hp
      · exact ⟨keep _ _ ex, by rw [hL, sz]; exact Nat.ne_of_lt (Nat.lt_succ_self _), none1⟩
      · rw [List.mem_singleton] at hp; subst hp
        exact ⟨keep _ _ ed, by rw [hL, sz]; exact Nat.ne_of_lt (Nat.lt_succ_of_lt (Nat.lt_succ_self _)), get_size⟩
    refine set_dict (es' := [⟨PyData.keyHash w.params csl, .str csl (t3 + 1), v⟩]) (n' := 1) (news' := [(h.objs.size + 1, instObj 87 h.objs.size), (h.objs.size, dictOf [⟨PyData.keyHash w.params csl, .str csl (t3 + 1), v⟩] 1)]) F X N ⟨keep _ _ ex, rfl, rfl, keep _ _ ed⟩ rfl f4 f5 f6 (ord_facts w).2.2.1 rfl rfl (.tail (Nat.succ_ne_self _) (.head fun p hp => nomatch hp)) (by simp) fun h4 F4 N4 => wpAny_execs_nil ⟨rfl, ?_⟩
    have n1 := (N4 _ (.head _)).1
    have n2 := (N4 _ (.tail _ (.head _))).1
    have D1 : h.objs.size + 1 ∉ H := fun m => by obtain ⟨o, e⟩ := dom _ m; rw [show (⟨h, g, d, t, os⟩ : Shared).heap = h from rfl, none1] at e; cases e
    have D2 : h.objs.size ∉ H := new_ref dom
    have g4 : Grow ⟨h, g, d, t, os⟩ ⟨h4, g, d, t3 + 2, os⟩ := .of_keeps (s := ⟨h, g, d, t, os⟩) F4.keep
    refine hQ _ _ g4 (is_ord.mpr ⟨_, _, _, _, v, rfl, hid_get.mpr ⟨n1, D1⟩, hid_get.mpr ⟨n2, D2⟩, ⟨by kernel_rfl, by kernel_rfl⟩, i.grow g4 tabs⟩)
/-- an order is made -/
theorem ev_make {e : Expr} {ds : List D} (he : EV w (k + 1) env Γ e (.lst ds)) (hk : env.kindOf (Str.ofString "TupleComp") = some .globalImplicit)
    (hst : starEach [e] env = (false, eval e env) :: starEach [] env := by rfl) : EV w (k + 1) env Γ (.Call (.Name (Str.ofString "TupleComp") p) [e] [] pos) (.ord (.lst ds)) := by
  intro H A s Q E r st hQ
  refine Call_Name rfl (wp_global st (init_facts w).2.2.2.2.2.2.1 hk (by kernel_rfl) ?_)
  refine callWith_K (first := []) st.base.kin (ord_facts w).2.2.2.2.2.2.2 (spliced_more (he H A s _ E r st fun v s₁ g i => spliced_none ⟨(st.grow g).base.kin, ?_⟩) hst) hst rfl
  have st₁ := st.grow g
  exact wp_make r st₁.base st.tabs st₁.dom i fun u s' g' i' => hQ u s' (g.trans g') i'
end

local macro_rules | `(tactic| walk_at "lk") => `(tactic| first | (with_reducible exact lk_hd) | ((with_reducible refine' lk_tl ?n ?r); (case n => kernel_rfl); (case r => walk_at "lk")))
local macro_rules | `(tactic| walk_at "op") => `(tactic| first
  | with_reducible exact bo_add | with_reducible exact bo_sub | with_reducible exact bo_xor | ((with_reducible refine' bo_mod ?_); decide) | ((with_reducible refine' bo_shr ?_); omega) | ((with_reducible refine' bo_mul ?_); exact IntMulOk.of_left (intBits_le_64 (by omega) (by omega))) | with_reducible assumption)
local macro_rules | `(tactic| walk_at "cmp") => `(tactic| first
  | with_reducible exact cp_lt | with_reducible exact cp_gt | with_reducible exact cp_le | with_reducible exact cp_ge | with_reducible exact cp_eq | with_reducible exact cp_ne | with_reducible exact cp_ne_str | with_reducible exact cp_notin_str | ((with_reducible refine' cp_in_dict ?_); first | assumption | simp) | with_reducible assumption)
local macro_rules | `(tactic| walk_at "e") => `(tactic| first
  | with_reducible exact ev_int | with_reducible exact ev_str | with_reducible exact ev_bool
  | ((with_reducible refine' ev_name ?h); (case h => walk_at "lk"))
  | ((with_reducible refine' ev_binop ?a ?b ?c); (case a => walk_at "e"); (case b => walk_at "e"); (case c => walk_at "op"))
  | ((with_reducible refine' ev_cmp ?a ?b ?c ?m); (case a => walk_at "e"); (case b => walk_at "e"); (case c => walk_at "cmp"); (case m => with_unfolding_all rfl))
  | ((with_reducible refine' ev_unary ?a ?b); (case a => walk_at "e"); (case b => with_reducible exact uo_neg))
  | ((with_reducible refine' ev_list ?a ?b); (case a => walk_at "es"); (case b => simp))
  | ((with_reducible refine' ev_tuple ?a ?b); (case a => walk_at "es"); (case b => simp))
  | ((with_reducible refine' ev_dict1 ?a ?b); (case a => walk_at "e"); (case b => walk_at "e"))
  | with_reducible assumption)
local macro_rules | `(tactic| walk_at "es") => `(tactic| first
  | with_reducible exact es_nil
  | ((with_reducible refine' es_cons ?a ?b ?c); (case a => walk_at "e"); (case b => walk_at "es"); (case c => rfl)))
local macro_rules | `(tactic| walk_at "tr") => `(tactic| first
  | with_reducible exact tr_int | with_reducible exact tr_bool | ((with_reducible refine' tr_str ?_); assumption) | ((with_reducible refine' tr_list ?_); assumption))
local macro_rules | `(tactic| walk_at "t") => `(tactic| first
  | ((with_reducible refine' tv_cmp ?a ?b ?c ?m); (case a => walk_at "e"); (case b => walk_at "e"); (case c => walk_at "cmp"); (case m => with_unfolding_all rfl))
  | ((with_reducible refine' tv_value ?a ?b ?c); (case a => walk_at "e"); (case b => walk_at "tr"); (case c => rfl))
  | with_reducible assumption)
local macro_rules | `(tactic| walk_at "sto") => `(tactic| (refine' local_stores ?k ?d ?o; (case k => kernel_rfl); (case d => kernel_rfl); (case o => first | with_reducible exact not_none | (refine not_other ?q; kernel_rfl))))
local macro_rules | `(tactic| walk_at "stoc") => `(tactic| (refine' cell_stores ?k ?c ?e ?d ?o; (case k => kernel_rfl); (case c => kernel_rfl); (case e => kernel_rfl); (case d => kernel_rfl); (case o => first | with_reducible exact not_none | (refine not_other ?q; kernel_rfl))))
local macro_rules | `(tactic| walk_at "stos") => `(tactic| first
  | exact all_nil
  | (refine all_cons ?a ?b; (case a => walk_at "sto"); (case b => walk_at "stos")))
local macro_rules | `(tactic| walk_at "weak") => `(tactic| first
  | exact all_nil
  | (refine all_cons ?a ?b; (case a => walk_at "lk"); (case b => walk_at "weak")))
local macro_rules | `(tactic| walk_at "bind") => `(tactic| (intro vals h; revert h; first
  | (rcases vals with _ | ⟨a, _ | ⟨b, r⟩⟩ <;> intro h <;> first | (exfalso; simp only [List.length_cons, List.length_nil] at h; omega) | rfl)
  | (rcases vals with _ | ⟨a, _ | ⟨b, _ | ⟨c, r⟩⟩⟩ <;> intro h <;> first | (exfalso; simp only [List.length_cons, List.length_nil] at h; omega) | rfl)
  | (rcases vals with _ | ⟨a, _ | ⟨b, _ | ⟨c, _ | ⟨d, r⟩⟩⟩⟩ <;> intro h <;> first | (exfalso; simp only [List.length_cons, List.length_nil] at h; omega) | rfl)))
local macro_rules | `(tactic| walk_at "blk") => `(tactic| (refine ⟨rfl, by decide +kernel, by kernel_rfl, ?_, ?_⟩ <;> (repeat' (first | exact all_nil | exact allS_nil | refine all_cons ?_ ?_ | refine allS_cons ?_ ?_)) <;> dsimp only <;> first
  | exact ⟨by walk_at "lk", by decide +kernel, .inl (by kernel_rfl), by kernel_rfl⟩
  | exact ⟨.inl (by decide +kernel), by kernel_rfl, by kernel_rfl⟩
  | exact ⟨.inr (by decide +kernel), by kernel_rfl, by kernel_rfl⟩))
theorem f112 (w : World) : (KF w.params).lookup 112 = some (fnObj (fnAt 15 "cpy313.pstats" 285 111)) := by kernel_rfl
theorem cl_count_calls {w : World} {k : Nat} {ks ns : List Int} : CL w (k + 1) (.ref 112) [.dct ks (iL ns)] (.int ns.sum) := by
  refine cl_fn2 (names := ["callers"]) (Γ := [(Str.ofString "callers", .dct ks (iL ns))]) (f112 w) rfl rfl rfl rfl (by kernel_rfl) (by kernel_rfl) (by walk_at "bind") (by kernel_rfl) fun L => ?_
  refine exs_cons (ex_assign (by walk_at "e") (by walk_at "sto")) ?_
  refine exs_cons (ex_for (ie_values (by walk_at "e")) (for_fold (σ := Int) (fun _ => True) (fun n => [(Str.ofString "nc", .int n), (Str.ofString "callers", .dct ks (iL ns))]) (fun _ => none) D.int (fun n a => n + a) (fun s a _ => ⟨trivial, _, rfl, by walk_at "stos", ?_⟩) ns 0 trivial)) ?_
  · dsimp only [List.cons_append, List.nil_append]
    refine out_weaken (exs_cons (ex_add (by walk_at "lk") (by dsimp only [full]; walk_at "e") (by walk_at "sto")) exs_nil) (by walk_at "weak")
  · have e : ns.foldl (fun n a => n + a) 0 = ns.sum := by
      rw [List.sum_eq_foldl]
    rw [e]
    exact exs_ret (ex_return (by dsimp only [full]; walk_at "e"))

def vStr : Value → Bool | .str _ _ => true | _ => false
def vInt : Value → Bool | .int _ _ => true | _ => false
def vBool : Value → Bool | .bool _ => true | _ => false
def chkCode (K : Frag) (c P : Addr) : Bool := match K.lookup c with
  | some ⟨cls, _, .fields vs, _⟩ => cls == .type "code" && vs[11]? == some (.ref P) && vStr (vs.getD 18 .none) && vInt (vs.getD 7 .none) && vBool (vs.getD 9 .none) && vInt (vs.getD 10 .none) && c != P
  | _ => false
theorem vStr_is {v : Value} (h : vStr v = true) : ∃ x t, v = .str x t := by cases v <;> first | exact ⟨_, _, rfl⟩ | cases h
theorem vInt_is {v : Value} (h : vInt v = true) : ∃ x t, v = .int x t := by cases v <;> first | exact ⟨_, _, rfl⟩ | cases h
theorem vBool_is {v : Value} (h : vBool v = true) : ∃ x, v = .bool x := by cases v <;> first | exact ⟨_, rfl⟩ | cases h
theorem codeHd_of {K : Frag} {h : Heap} {c P : Addr} (X : K.In h) (e : chkCode K c P = true) : CodeHd h c P := by
  unfold chkCode at e
  split at e
  · rename_i cls d vs sl hl
    simp only [Bool.and_eq_true, beq_iff_eq, bne_iff_ne] at e
    obtain ⟨⟨⟨⟨⟨⟨e1, e2⟩, e3⟩, e4⟩, e5⟩, e6⟩, e7⟩ := e
    obtain ⟨x1, t1, h1⟩ := vStr_is e3
    obtain ⟨x2, t2, h2⟩ := vInt_is e4
    obtain ⟨x3, h3⟩ := vBool_is e5
    obtain ⟨x4, t4, h4⟩ := vInt_is e6
    have e2' : vs.getD 11 .none = .ref P := by
      rw [Array.getD_eq_getD_getElem?, e2]; rfl
    exact ⟨_, vs, x1, t1, x2, t2, x3, x4, t4, X c _ hl, e1, rfl, e2, e2', h1, h2, h3, h4, e7⟩
  · cases e
theorem noCode_tab {h : Heap} {P : Addr} {ps : Array Value} (e : h.get? P = some (tabObj ps)) (t : TriplesOk ps.toList) : NoCode h P := by
  refine noCode_of e fun vs hv q tk h1 => ?_
  cases hv
  rw [← Array.getElem?_toList] at h1
  generalize ps.toList = l at *
  match l, t, h1 with
  | .int _ _ :: .int _ _ :: _ :: _, _, h1 => simp at h1

/-- which code table goes with which def -/
def TabOf (P c : Addr) : Prop := (P = 30 ∧ c = 34) ∨ (P = 37 ∧ c = 41)
theorem wp_def {w : World} {P c : Addr} (hP : TabOf P c) {A : Around} {s : Shared} {env : Env} {name : Str} {params : Arguments} {body : List Stmt} {scope : Scope} {clos : List (Str × Addr)} {fl : Nat} {Q E : Value → Shared → Prop} (base : Base w s.heap) (hcl : closureFor scope env = pure clos) (hge : env.globals = mainGlobals) (hcode : env.code = .ref c)
    (hQ : ∀ f s' c' ctv doc pm, Grow s s' → s.heap.get? f = none → s'.heap.get? f = some (fnMade name (tabKey P).2 params body scope clos doc pm c' ctv) → s'.heap.CodeRec (.ref c') (tabKey P).2 → Q (.ref f) s') :
    wpAny (model PG w) A (makeFunction name (tabKey P).2 params (.stmts body) scope env [] [] [] (innerPos (tabKey P).1) fl) Q E s := by
  obtain ⟨mg, n, g, _⟩ := base.gl
  have P4 : (4 : Addr) ≠ P ∧ mainGlobals ≠ P := by rcases hP with ⟨rfl, _⟩ | ⟨rfl, _⟩ <;> exact ⟨by decide, by decide⟩
  have T : TabAt P s.heap := by rcases hP with ⟨rfl, _⟩ | ⟨rfl, _⟩ <;> first | exact base.t30 | exact base.t37
  have C : CodeHd s.heap c P := by
    rcases hP with ⟨rfl, rfl⟩ | ⟨rfl, rfl⟩
    · exact codeHd_of base.kin (by kernel_rfl)
    · exact codeHd_of base.kin (by kernel_rfl)
  have Pt : P = 30 ∨ P = 37 := by rcases hP with ⟨rfl, _⟩ | ⟨rfl, _⟩ <;> first | exact .inl rfl | exact .inr rfl
  obtain ⟨ob, b1, b2, b3, b4⟩ := base.bm
  have hb : s.heap.BuiltinsAt mg P := ⟨4, ob, g _ _ (by kernel_rfl), by decide, by decide, P4.1, b1, b2, b3, b4⟩
  obtain ⟨ps, e, ht, hc⟩ := T
  cases hf : codeAmong (innerPos (tabKey P).1) ps.toList with
  | some cv =>
    have hrec := hc cv hf
    obtain ⟨c', _, _, _, rfl, _⟩ := id hrec
    refine makeFunction_hit hcl hge n hcode C e ht hf hb fun ctv doc h' tk hk hsz => ?_
    have k2 : ∀ b o, s.heap.get? b = some o → (h'.push (fnMade name (tabKey P).2 params body scope clos doc ((mg "__name__").getD .none) c' ctv)).get? b = some o := fun b o e => Heap.get?_push_of_some _ (hk b o e)
    refine hQ _ _ c' ctv doc _ (.of_keeps k2) ?_ (Heap.get?_push_size _ rfl) (hrec.keeps k2)
    cases q : s.heap.get? h'.objs.size with
    | none => rfl
    | some o => exact absurd (Heap.lt_size (hk _ _ q)) (Nat.lt_irrefl _)
  | none =>
    refine makeFunction_K hcl hge n hcode C e ht hf P4.2 hb fun c' ctv doc h' tk hx hge' hlt hrec htb => ?_
    have hP' : h'.get? P = some (tabObj (ps ++ #[rawInt (innerPos (tabKey P).1).line, rawInt (innerPos (tabKey P).1).col, .ref c'])) := htb
    have hlt0 : s.heap.objs.size ≤ h'.objs.size := Nat.le_trans hge' (Nat.le_of_lt hlt)
    refine hQ _ _ c' ctv doc _ ⟨⟨_, _, rfl⟩, fun b o e1 e2 e => Heap.get?_push_of_some _ (hx b o (fun q => Pt.elim (fun p => e1 (q.trans p)) fun p => e2 (q.trans p)) e), fun b hb' tb => ?_⟩ ?_ (Heap.get?_push_size _ rfl) (hrec.push _)
    · refine TabAt.keep (h := h') ?_ fun b o e => Heap.get?_push_of_some _ e
      by_cases q : b = P
      · subst q
        refine ⟨_, hP', ?_, fun v hv => ?_⟩
        · rw [Array.toList_append]; exact TriplesOk_snoc _ _ _ _ ht
        · rw [Array.toList_append] at hv
          rw [codeAmong_snoc ps.toList ht hf] at hv
          cases hv; exact hrec
      · exact tb.but (P := fun x => x = P) q (fun x hx => by rw [hx]; exact noCode_tab e ht) fun b o hb e => hx b o hb e
    · cases q : s.heap.get? h'.objs.size with
      | none => rfl
      | some o => exact absurd (Heap.lt_size q) (Nat.not_lt.mpr hlt0)

/-- what a def within a def has around it: its cells hold these deep values -/
def CapsOk (w : World) (H : List Addr) (s : Shared) (cl : List (Str × Addr)) (Γc : List (Str × D)) : Prop :=
  (∀ x c, (x, c) ∈ cl → c ∈ H ∧ c ≠ 30 ∧ c ≠ 37 ∧ NoCode s.heap c) ∧ ∀ x d, Γc.lookup x = some d → (x == (Str.ofString "__classdict__")) = false ∧ (x == (Str.ofString "__debug__")) = false ∧ ∃ c v, cl.lookup x = some c ∧ s.heap.IsCell c (some v) ∧ Is w (hid H s.heap) d v
/-- a code record stands -/
def CodeAt (pc : Addr × Obj) (qual : Str) : Prop := pc.1 ≠ 30 ∧ pc.1 ≠ 37 ∧ ∃ vs t, pc.2.data = .fields vs ∧ vs[1]? = some (.str qual t)
/-- a call of a def within a def -/
def CLO (w : World) (k : Nat) (f : Addr) (pc : Addr × Obj) (cl : List (Str × Addr)) (Γc : List (Str × D)) (ds : List D) (d : D) : Prop :=
  ∀ (A : Around) (s : Shared) (H : List Addr) (vs : List Value) (Q : Value → Shared → Prop) (E : Value → Shared → Prop), Room k A → Base w s.heap → ((30 : Addr) ∈ H ∧ (37 : Addr) ∈ H) → (∀ a ∈ H, ∃ o, s.heap.get? a = some o) → s.heap.get? pc.1 = some pc.2 → CapsOk w H s cl Γc →
    IsL w (hid H s.heap) ds vs → (∀ v s', Grow s s' → Is w (hid H s'.heap) d v → Q v s') → wpAny (model PG w) A (call (.ref f) vs) Q E s
section
variable {w : World} {k : Nat} {env : Env} {Γ Γc : List (Str × D)} {O : Option (Str × D)} {x y : Str} {d d' d₁ d₂ : D} {p pos : Pos} {H own S : List Addr} {s s₁ s₀ : Shared} {pn : List (Addr × Obj)} {gv : List (D × Value)} {cl : List (Str × Addr)} {f : Addr} {pc : Addr × Obj} {qual : Str}

/-- a def within a def -/
theorem wp_exs_def {P c : Addr} (hP : TabOf P c) {A : Around} {Q : Flow → Shared → Prop} {E : Value → Shared → Prop} {name : Str} {params : Arguments} {body : List Stmt} {scope : Scope} {rest : List Stmt} (F : Fm w env Γ O own S pn gv s₀ s) (hcode : env.code = .ref c) (hcl : clOf env scope.names [] = some cl) (hq : qualnameIn env name name = (tabKey P).2)
    (hd0 : params.defaults = []) (hk0 : params.kw_defaults = []) (ha : annTrees params none env = []) (hx : Stores env O name)
    (h : ∀ f s' pc ctv doc pm, CodeAt pc (tabKey P).2 → Fm w env ((name, .raw (.ref f) [(f, fnMade name (tabKey P).2 params body scope cl doc pm pc.1 ctv)]) :: Γ) O own S (pc :: pn) gv s₀ s' → wpAny (model PG w) A (execs rest env) Q E s') :
    wpAny (model PG w) A (execs (.FunctionDef name params body [] none [] scope none name (innerPos (tabKey P).1) :: rest) env) Q E s := by
  refine wpAny_execs_cons (nestDef_K hd0 hk0 ha ?_)
  rw [hq]
  refine wp_def hP F.st.base (closureFor_of hcl) F.st.ok.glob hcode fun f s' c' ctv doc pm g hn hf hc => ?_
  have hcc := hc
  obtain ⟨c1, oc, vs, t, e, hoc, hdat, hv⟩ := hc
  cases e
  have F' := F.grew g
  have nt : ∀ b, TabAt b s'.heap → c' ≠ b := fun b tb e => by
    obtain ⟨ps, e1, e2, _⟩ := tb
    exact noCode_tab e1 e2 _ (e ▸ hcc)
  have n30 := nt 30 F'.st.base.t30
  have n37 := nt 37 F'.st.base.t37
  have F2 := F'.repin (pn' := [(c', oc)]) fun p hp => by
    rw [List.mem_singleton] at hp; rw [hp]
    exact ⟨hoc, fun m => F'.noCode m _ hcc, n30, n37⟩
  have fH : f ∉ own ++ (frameAddrs env ++ S) := fun m => by
    obtain ⟨o, e⟩ := F.st.dom f m; rw [hn] at e; cases e
  refine F2.store hx.1 hx.2.1 hx.2.2 (d := .raw (.ref f) [(f, fnMade name (tabKey P).2 params body scope cl doc pm c' ctv)]) (is_raw.mpr ⟨rfl, fun p hp => by rw [List.mem_singleton] at hp; rw [hp]; exact hid_get.mpr ⟨hf, fH⟩⟩) fun s'' F3 _ => h f s'' (c', oc) ctv doc pm ⟨n30, n37, vs, t, hdat, hv⟩ F3

/-- an expression beside a code record -/
def EVz (w : World) (k : Nat) (env : Env) (Γ : List (Str × D)) (pc : Addr × Obj) (e : Expr) (d : D) : Prop :=
  ∀ (H : List Addr) (A : Around) (s : Shared) (Q : Value → Shared → Prop) (E : Value → Shared → Prop), Room k A → St w env Γ H s → s.heap.get? pc.1 = some pc.2 →
    (∀ v s', Grow s s' → Is w (hid H s'.heap) d v → Q v s') → wpAny (model PG w) A (eval e env) Q E s
theorem evz_of {e : Expr} (h : EV w k env Γ e d) : EVz w k env Γ pc e d := fun H A s Q E r st _ hQ => h H A s Q E r st hQ
theorem CodeAt.grow (z : CodeAt pc qual) (g : Grow s s₁) (h : s.heap.get? pc.1 = some pc.2) : s₁.heap.get? pc.1 = some pc.2 := g.keep _ _ z.1 z.2.1 h
theorem evz_binop (z : CodeAt pc qual) {l r : Expr} {op : Operator} (hl : EVz w k env Γ pc l d₁) (hr : EVz w k env Γ pc r d₂) (ho : BO w k op d₁ d₂ d) : EVz w k env Γ pc (.BinOp l op r pos) d := by
  intro H A s Q E rm st hz hQ
  refine wpAny_BinOp (hl H A s _ E rm st hz fun v₁ s₁ g₁ i₁ => hr H A s₁ _ E rm (st.grow g₁) (z.grow g₁ hz) fun v₂ s₂ g₂ i₂ => ?_)
  exact ho A s₂ H v₁ v₂ Q E rm ((st.grow g₁).grow g₂).base st.tabs ((st.grow g₁).grow g₂).dom (i₁.grow g₂ st.tabs) i₂ fun v s' g i => hQ v s' ((g₁.trans g₂).trans g) i

theorem St.caps (st : St w env Γ H s) (hc : ∀ y dy, Γc.lookup y = some dy → Γ.lookup y = some dy ∧ (env.kindOf y = some .cell ∨ env.kindOf y = some .free) ∧ env.cells.lookup y = cl.lookup y) (hcl : ∀ q ∈ cl, q ∈ env.cells ∧ (Γc.lookup q.1).isSome = true ∧ cl.lookup q.1 = some q.2) : CapsOk w H s cl Γc := by
  obtain ⟨m, n, vr⟩ := st.vars
  refine ⟨fun x c hm => ?_, fun x d hx => ?_⟩
  · obtain ⟨h1, h2, h3⟩ := hcl _ hm
    have := st.cel x c h1
    refine ⟨this.2.2, this.1, this.2.1, ?_⟩
    obtain ⟨d, hd⟩ := Option.isSome_iff_exists.mp h2
    obtain ⟨g1, g2, g3⟩ := hc x d hd
    obtain ⟨_, v, hv, _⟩ := vr x d g1
    rcases hv with ⟨hk, _⟩ | ⟨_, hn, c', hcc, hcell⟩
    · rcases g2 with g2 | g2 <;> (rw [hk] at g2; cases g2)
    · rw [g3, h3] at hcc
      cases hcc
      exact noCode_cell hcell
  · obtain ⟨h1, h2, h3⟩ := hc x d hx
    obtain ⟨hdbg, v, hv, iv⟩ := vr x d h1
    rcases hv with ⟨hk, _⟩ | ⟨_, hn, c, hcc, hcell⟩
    · rcases h2 with h2 | h2 <;> (rw [hk] at h2; cases h2)
    · exact ⟨hn, hdbg, c, v, h3 ▸ hcc, hcell, iv⟩

/-- a call of a def within a def, by its name -/
theorem evz_call (z : CodeAt pc qual) {e : Expr} {es : List Expr} {ds : List D} {obj : Obj} {fd : FuncData} (hx : Γ.lookup x = some (.raw (.ref f) [(f, obj)])) (hobj : obj.data = .func fd) (ha : ES w k env Γ (e :: es) ds) (hc : CLO w k f pc cl Γc ds d)
    (hcap : ∀ y dy, Γc.lookup y = some dy → Γ.lookup y = some dy ∧ (env.kindOf y = some .cell ∨ env.kindOf y = some .free) ∧ env.cells.lookup y = cl.lookup y) (hcl : ∀ q ∈ cl, q ∈ env.cells ∧ (Γc.lookup q.1).isSome = true ∧ cl.lookup q.1 = some q.2)
    (hst : starEach (e :: es) env = (false, eval e env) :: starEach es env := by rfl) (hpl : (backTo pos (starEach es env)).any (·.1) = false := by rfl) : EVz w k env Γ pc (.Call (.Name x p) (e :: es) [] pos) d := by
  intro H A s Q E r st hz hQ
  refine Call_Name rfl (ev_name hx H A s _ E r st fun v s₁ g i => ?_)
  obtain ⟨rfl, hf⟩ := is_raw.mp i
  have hf1 := (hid_get.mp (hf _ (.head _))).1
  simp only at hf1
  have st₁ := st.grow g
  have f30 : f ≠ 30 ∧ f ≠ 37 := by
    have nf : ∀ b, TabAt b s₁.heap → f ≠ b := fun b tb e => by
      obtain ⟨ps, e1, _⟩ := tb
      rw [e, e1] at hf1
      cases hf1
      cases hobj
    exact ⟨nf 30 st₁.base.t30, nf 37 st₁.base.t37⟩
  refine callWith_F (first := []) ⟨obj.cls, obj.dict, fd, obj.slots, by rw [hf1, ← hobj]⟩ (ha H pos A s₁ _ E r st₁ fun vs s₂ g₂ i₂ => ⟨⟨obj.cls, obj.dict, fd, obj.slots, by rw [← hobj]; exact g₂.keep _ _ f30.1 f30.2 hf1⟩, ?_⟩) hst hpl
  have st₂ := st₁.grow g₂
  exact hc A s₂ H vs Q E r st₂.base st.tabs st₂.dom (z.grow (g.trans g₂) hz) (st₂.caps hcap hcl) i₂ fun v s' g' i' => hQ v s' ((g.trans g₂).trans g') i'

/-- a def within a def is entered -/
theorem clo_enter {A : Around} {vs : List Value} {ds : List D} {names : List Str} {Q : Value → Shared → Prop} {E : Value → Shared → Prop} {name : Str} {params : Arguments} {body : List Stmt} {scope : Scope} {doc pm ctv : Value} (z : CodeAt pc qual) (r : Room (k + 1) A) (base : Base w s.heap) (tabs : (30 : Addr) ∈ H ∧ (37 : Addr) ∈ H) (dom : ∀ a ∈ H, ∃ o, s.heap.get? a = some o) (hz : s.heap.get? pc.1 = some pc.2) (caps : CapsOk w H s cl Γc)
    (hf : s.heap.get? f = some (fnMade name qual params body scope cl doc pm pc.1 ctv)) (hbind : bindArgs (fnX name qual params body scope cl .none .none doc pm none (.ref pc.1) ctv) ⟨vs, []⟩ = pure (names.zip vs)) (il : IsL w (hid H s.heap) ds vs)
    (hcell : ∀ x ∈ scope.names, x.2 ≠ .cell) (hloc : ∀ x ∈ names, scope.names.lookup x = some .local ∧ (x == (Str.ofString "__debug__")) = false) (hfree : ∀ x d, Γc.lookup x = some d → scope.names.lookup x = some .free) (hco : scope.isCoroutine = false) (hgen : scope.isGenerator = false) (hk : scope.kind = .function)
    (h : ∀ A' L s₁, Room k A' → L = s.heap.objs.size → Cm w (envX qual scope L f (.ref pc.1) cl) ([L] ++ H) [L] [pc] [] s ((names.zip ds).reverse ++ Γc) s₁ → ∀ E', wpAny (model PG w) A' (execs body (envX qual scope L f (.ref pc.1) cl)) (fun fl s' => Q (match fl with | .ret v => v | _ => .none) s') E' s₁) :
    wpAny (model PG w) A (call (.ref f) vs) Q E s := by
  obtain ⟨z1, z2, cvs, ct, z3, z4⟩ := z
  have memOf : ∀ x (v : Value), (x, v) ∈ names.zip vs → x ∈ names := fun x v h => (List.of_mem_zip h).1
  refine wpAny_call (codeAny_call_def (fd := fnX name qual params body scope cl .none .none doc pm none (.ref pc.1) ctv) (by have := r.2.1; omega) hf rfl base.lim ⟨pc.1, pc.2, cvs, ct, rfl, hz, z3, z4⟩ rfl (.of_eq hbind) hcell (fun x hx => (hloc x.1 (memOf x.1 x.2 hx)).1) (fun h₁ ns keep => ?_) hco hgen hk)
  have g : Grow s { s with heap := h₁, toks := s.toks + (names.zip vs).length } := .of_keeps keep
  have Lne : s.heap.objs.size ≠ 30 ∧ s.heap.objs.size ≠ 37 := by
    have := new_ref dom
    exact ⟨fun e => this (e ▸ tabs.1), fun e => this (e ▸ tabs.2)⟩
  refine h (A.deeper (envX qual scope s.heap.objs.size f (.ref pc.1) cl)) _ _ ⟨r.1, ?_, ?_⟩ rfl ⟨base, g, ⟨⟨hk, rfl, rfl⟩, base.grow g, ⟨.tail _ tabs.1, .tail _ tabs.2⟩, fun a ha => ?_, ⟨Lne.1, Lne.2, .head _⟩, fun x c hc => ?_, _, ns, fun x d' hx => ?_⟩, fun a ha => ?_, fun a ha => ?_, .head _, ⟨fun hm => ?_, fun x c hc hcT => ?_⟩, fun x c hc hcT => ?_, fun p hp => ?_, fun p hp => nomatch hp⟩ _
  · show A.depth + 1 + k < recursionLimit
    have := r.2.1; omega
  · show A.units + 3 + 16 * k < cLine
    have := r.2.2; omega
  · rcases List.mem_cons.mp ha with rfl | ha
    · obtain ⟨o, _, _, e, _⟩ := ns; exact ⟨o, e⟩
    · obtain ⟨o, e⟩ := dom a ha; exact ⟨o, keep a o e⟩
  · have := caps.1 x c hc; exact ⟨this.2.1, this.2.2.1, .tail _ this.1⟩
  · have up : ∀ b o, (hid H s.heap).get? b = some o → (hid ([s.heap.objs.size] ++ H) h₁).get? b = some o := fun b o e => by
      obtain ⟨e1, n1⟩ := hid_get.mp e
      refine hid_get.mpr ⟨keep b o e1, fun m => ?_⟩
      rcases List.mem_cons.mp m with m | m
      · exact absurd (Heap.lt_size e1) (by rw [m]; exact Nat.lt_irrefl _)
      · exact n1 m
    rw [List.lookup_append] at hx
    cases q : (names.zip ds).reverse.lookup x with
    | some d₂ =>
      rw [q] at hx
      simp only [Option.some_or, Option.some.injEq] at hx
      subst hx
      have hxn : x ∈ names := (List.of_mem_zip (List.mem_reverse.mp (mem_of_lookup q))).1
      obtain ⟨u, hu, iu⟩ := lookup_zip il q
      exact ⟨(hloc x hxn).2, u, .inl ⟨(hloc x hxn).1, hu⟩, iu.mono up⟩
    | none =>
      rw [q] at hx
      simp only [Option.none_or] at hx
      obtain ⟨h1, h2, c, v, hc, ⟨o, eo, ro⟩, iv⟩ := caps.2 x d' hx
      exact ⟨h2, v, .inr ⟨.inr (hfree x d' hx), h1, c, hc, ⟨o, keep c o eo, ro⟩⟩, iv.mono up⟩
  · rw [List.mem_singleton] at ha; rw [ha]; exact get_size
  · rw [List.mem_singleton] at ha; rw [ha]; exact .head _
  · obtain ⟨⟨x, c⟩, hm, e⟩ := List.mem_map.mp hm
    have e : c = s.heap.objs.size := e
    exact new_ref dom (e ▸ (caps.1 x c hm).1)
  · rw [List.mem_singleton] at hcT
    exact absurd (caps.1 x c hc).1 (hcT ▸ new_ref dom)
  · rw [List.mem_singleton] at hcT
    exact absurd (caps.1 x c hc).1 (hcT ▸ new_ref dom)
  · rw [List.mem_singleton] at hp
    subst hp
    refine ⟨keep _ _ hz, fun m => ?_, z1, z2⟩
    rcases List.mem_cons.mp m with e | m
    · have e : p.1 = s.heap.objs.size := e
      exact absurd (Heap.lt_size hz) (by rw [e]; exact Nat.lt_irrefl _)
    · obtain ⟨⟨x, c⟩, hm, e⟩ := List.mem_map.mp m
      simp only at e
      exact (caps.1 x c hm).2.2.2 _ ⟨c, p.2, cvs, ct, rfl, e ▸ hz, z3, z4⟩
end

def innerBody (i : Nat) : List Stmt := match innerDef i with | some (.FunctionDef _ _ b _ _ _ _ _ _ _) => b | _ => []
def innerParams (i : Nat) : Arguments := match innerDef i with | some (.FunctionDef _ a _ _ _ _ _ _ _ _) => a | _ => { posonlyargs := [], args := [], vararg := none, kwonlyargs := [], kw_defaults := [], kwarg := none, defaults := [] }
def innerScope (i : Nat) : Scope := match innerDef i with | some (.FunctionDef _ _ _ _ _ _ s _ _ _) => s | _ => ⟨.function, [], false, false, []⟩
section
variable {w : World} {k : Nat} {env : Env} {Γ Γc : List (Str × D)} {x : Str} {d : D} {p pos : Pos} {H T : List Addr} {s s₀ : Shared} {pn : List (Addr × Obj)} {gv : List (D × Value)}
theorem cm_assign {A : Around} {Q : Flow → Shared → Prop} {E : Value → Shared → Prop} {e : Expr} (he : EV w k env Γ e d) (hx : CStores env T x) (C : Cm w env H T pn gv s₀ Γ s) (r : Room k A) (hs : swapsWith e (some (.Name x p)) pos.line env = pure false)
    (h : ∀ s', Cm w env H T pn gv s₀ ((x, d) :: Γ) s' → Q .next s') : wpAny (model PG w) A (exec (.Assign [.Name x p] e pos) env) Q E s :=
  wpAny_Assign_Name (he _ A s _ E r C.st fun v s₁ g i => sto_cm.store hx (C.grew g) i fun s' C' _ => h s' C') hs
theorem cm_if {A : Around} {Q : Flow → Shared → Prop} {E : Value → Shared → Prop} {t : Expr} {b : Bool} {body orelse : List Stmt} (ht : TV w k env Γ t b) (C : Cm w env H T pn gv s₀ Γ s) (r : Room k A)
    (h : ∀ s', Cm w env H T pn gv s₀ Γ s' → wpAny (model PG w) A (execs (if b then body else orelse) env) Q E s') : wpAny (model PG w) A (exec (.If t body orelse pos) env) Q E s := by
  refine wpAny_If (ht _ A s _ E r C.st fun s₁ g => ?_)
  have := h s₁ (C.grew g)
  cases b <;> exact this
end

/-- digits of n bits each, the least first -/
def vl (n : Nat) : List Int → Int
  | [] => 0
  | d :: r => d + 2 ^ n * vl n r
theorem vl_append (n : Nat) : ∀ (xs ys : List Int), vl n (xs ++ ys) = vl n xs + 2 ^ (n * xs.length) * vl n ys
  | [], ys => by simp [vl]
  | d :: r, ys => by
    rw [List.cons_append, vl, vl_append n r ys, vl, List.length_cons, Nat.mul_succ, Int.mul_add, Int.pow_add, Int.mul_comm (2 ^ (n * r.length)) (2 ^ n), Int.mul_assoc, Int.add_assoc]
theorem vl_bounds {n : Nat} : ∀ {ns : List Int}, (∀ d ∈ ns, 0 ≤ d ∧ d < 2 ^ n) → 0 ≤ vl n ns ∧ vl n ns < 2 ^ (n * ns.length)
  | [], _ => by simp [vl]
  | d :: r, h => by
    obtain ⟨h1, h2⟩ := vl_bounds (n := n) (ns := r) fun x hx => h x (.tail _ hx)
    obtain ⟨h3, h4⟩ := h d (.head _)
    have hp : (0 : Int) ≤ 2 ^ n := Int.pow_nonneg (by decide)
    rw [vl, List.length_cons, Nat.mul_succ, Int.pow_add]
    generalize (2 : Int) ^ (n * r.length) = B at *
    generalize (2 : Int) ^ n = A at *
    have h5 : A * vl n r ≤ A * (B - 1) := Int.mul_le_mul_of_nonneg_left (by omega) hp
    have h6 : 0 ≤ A * vl n r := Int.mul_nonneg hp h1
    rw [Int.mul_sub, Int.mul_one] at h5
    rw [Int.mul_comm B A]
    omega

abbrev dObj (cl : List (Str × Addr)) (doc pm : Value) (c : Addr) (ctv : Value) : Obj := fnMade (Str.ofString "inner") (Str.ofString "_digits2int.<locals>.inner") (innerParams 5) (innerBody 5) (innerScope 5) cl doc pm c ctv
abbrev dCl (c1 c2 c3 : Addr) : List (Str × Addr) := [(Str.ofString "n", c1), (Str.ofString "inner", c2), (Str.ofString "digits", c3)]
abbrev dCap (ns : List Int) (n : Nat) (f : Addr) (obj : Obj) : List (Str × D) := [(Str.ofString "digits", .lst (iL ns)), (Str.ofString "n", .int n), (Str.ofString "inner", .raw (.ref f) [(f, obj)])]

theorem lookup3 {a b c k : Str} {x y z d : D} (h : [(a, x), (b, y), (c, z)].lookup k = some d) : (k = a ∧ d = x) ∨ (k = b ∧ d = y) ∨ (k = c ∧ d = z) := by
  simp only [List.lookup_cons, List.lookup_nil] at h
  split at h
  · rename_i e; cases h; exact .inl ⟨beq_iff_eq.mp e, rfl⟩
  · split at h
    · rename_i e; cases h; exact .inr (.inl ⟨beq_iff_eq.mp e, rfl⟩)
    · split at h
      · rename_i e; cases h; exact .inr (.inr ⟨beq_iff_eq.mp e, rfl⟩)
      · cases h
theorem seqIndex_nat {j n : Nat} (h : j < n) : seqIndex? (j : Int) n = some j := by
  unfold seqIndex?
  have h1 : ¬ ((j : Int) < 0) := by omega
  simp only [h1, if_false, Int.toNat_natCast]
  rw [if_pos (by simp; omega)]
theorem slice_one {ns : List Int} {L : Nat} (h : L < ns.length) : (ns.drop L).take 1 = [ns[L]] := by
  rw [List.drop_eq_getElem_cons h]; rfl
theorem slice_two {ns : List Int} {L m R : Nat} (h1 : L ≤ m) (h2 : m ≤ R) : (ns.drop L).take (R - L) = (ns.drop L).take (m - L) ++ (ns.drop m).take (R - m) := by
  have e : ns.drop m = (ns.drop L).drop (m - L) := by rw [List.drop_drop]; congr 1; omega
  rw [e, show R - L = (m - L) + (R - m) by omega, List.take_add]
theorem inner5_facts : (∀ x ∈ (innerScope 5).names, x.2 ≠ .cell) ∧ (∀ x ∈ [Str.ofString "L", Str.ofString "R"], (innerScope 5).names.lookup x = some .local ∧ (x == (Str.ofString "__debug__")) = false) ∧ (innerScope 5).names.lookup (Str.ofString "digits") = some .free ∧ (innerScope 5).names.lookup (Str.ofString "n") = some .free ∧ (innerScope 5).names.lookup (Str.ofString "inner") = some .free := by
  refine ⟨by decide +kernel, ?_, by kernel_rfl, by kernel_rfl, by kernel_rfl⟩
  intro x hx
  rcases List.mem_cons.mp hx with rfl | hx
  · exact ⟨by kernel_rfl, by kernel_rfl⟩
  · rw [List.mem_singleton] at hx; subst hx; exact ⟨by kernel_rfl, by kernel_rfl⟩
/-- one turn of the inner def: the depth below it is given -/
theorem clo_d2i_turn {w : World} {ns : List Int} {n : Nat} (hns : ∀ d ∈ ns, 0 ≤ d ∧ d < 2 ^ n) (hlen : n * ns.length ≤ 60) (hn : n ≤ 60) (hsz : ns.length ≤ 1000) {f : Addr} {pc : Addr × Obj} {c1 c2 c3 : Addr} {doc pm ctv : Value} (z : CodeAt pc (Str.ofString "_digits2int.<locals>.inner"))
    {k L R : Nat} (hLR : L < R) (hR : R ≤ ns.length) (ih : ∀ L' R', L' < R' → R' ≤ ns.length → R' - L' ≤ (R - L + 1) / 2 → L + 1 < R → CLO w k f pc (dCl c1 c2 c3) (dCap ns n f (dObj (dCl c1 c2 c3) doc pm pc.1 ctv)) [.int L', .int R'] (.int (vl n ((ns.drop L').take (R' - L'))))) :
    CLO w (k + 1) f pc (dCl c1 c2 c3) (dCap ns n f (dObj (dCl c1 c2 c3) doc pm pc.1 ctv)) [.int L, .int R] (.int (vl n ((ns.drop L).take (R - L)))) := by
  intro A s H vs Q E r base tabs dom hz caps il hQ
  have hf : s.heap.get? f = some (dObj (dCl c1 c2 c3) doc pm pc.1 ctv) := by
    obtain ⟨_, _, c, v, _, _, iv⟩ := caps.2 (Str.ofString "inner") (.raw (.ref f) [(f, dObj (dCl c1 c2 c3) doc pm pc.1 ctv)]) (by walk_at "lk")
    exact (hid_get.mp ((is_raw.mp iv).2 _ (.head _))).1
  obtain ⟨v1, v2, rfl, _, _⟩ := isL_two il
  obtain ⟨i1, i2, i3, i4, i5⟩ := inner5_facts
  refine clo_enter (names := [Str.ofString "L", Str.ofString "R"]) z r base tabs dom hz caps hf rfl il i1 i2 (fun x d hx => by rcases lookup3 hx with ⟨rfl, rfl⟩ | ⟨rfl, rfl⟩ | ⟨rfl, rfl⟩ <;> assumption) rfl rfl rfl fun A' La s₁ r' hLa C E' => ?_
  have C : Cm w (envX (Str.ofString "_digits2int.<locals>.inner") (innerScope 5) La f (.ref pc.1) (dCl c1 c2 c3)) ([La] ++ H) [La] [pc] [] s ((Str.ofString "R", .int R) :: (Str.ofString "L", .int L) :: dCap ns n f (dObj (dCl c1 c2 c3) doc pm pc.1 ctv)) s₁ := C
  have fin : ∀ v s', Grow s s' → Is w (hid ([La] ++ H) s'.heap) (.int (vl n ((ns.drop L).take (R - L)))) v → Q v s' := fun v s' g i => hQ v s' g (i.hid_mono fun a h => .tail _ h)
  clear hQ
  refine wpAny_execs_cons (cm_if (by walk_at "t") C r' fun s₂ C => ?_)
  by_cases hb : L + 1 = R
  · rw [if_pos (by rw [beq_iff_eq]; omega)]
    refine wpAny_execs_cons (wpAny_Return_some ((ev_sub (by walk_at "e") (by walk_at "e") (it_list (j := L) (d := .int ns[L]) (seqIndex_nat (by simp; omega)) (by simp [List.getElem?_eq_getElem (show L < ns.length by omega)]) (by omega) (by omega))) _ A' s₂ _ _ r' C.st fun v s₃ g₃ i₃ => fin v s₃ (C.grow.trans g₃) ?_))
    rw [show R - L = 1 by omega, slice_one (by omega)]
    simpa [vl] using i₃
  · rw [if_neg (by rw [beq_iff_eq]; omega)]
    refine wpAny_execs_nil ?_
    have hm : ((L : Int) + (R : Int)).fdiv ((2 : Int) ^ (1 : Int).toNat) = (((L + R) / 2 : Nat) : Int) := by
      rw [show ((2 : Int) ^ (1 : Int).toNat) = 2 from rfl, Int.fdiv_eq_ediv_of_nonneg _ (by decide)]; omega
    generalize hmid : (L + R) / 2 = m at hm
    have m1 : L < m := by omega
    have m2 : m < R := by omega
    have hs : ((m : Int) - (L : Int)) * (n : Int) = (((m - L) * n : Nat) : Int) := by
      rw [Int.natCast_mul, Int.natCast_sub (by omega)]
    have nl : (m - L) * n ≤ 60 := by
      have : (m - L) * n ≤ ns.length * n := Nat.mul_le_mul_right _ (by omega)
      rw [Nat.mul_comm n] at hlen; omega
    refine wpAny_execs_cons (cm_assign (d := .int m) (by rw [← hm]; walk_at "e") ⟨.inl (by kernel_rfl), by kernel_rfl⟩ C r' rfl fun s₃ C => ?_)
    refine wpAny_execs_cons (cm_assign (d := .int ((m - L) * n : Nat)) (by rw [← hs]; walk_at "e") ⟨.inl (by kernel_rfl), by kernel_rfl⟩ C r' rfl fun s₄ C => ?_)
    have bnd : ∀ L' R', R' ≤ ns.length → 0 ≤ vl n ((ns.drop L').take (R' - L')) ∧ vl n ((ns.drop L').take (R' - L')) < 2 ^ (n * (R' - L')) ∧ (R' - L') ≤ ns.length := fun L' R' h => by
      have := vl_bounds (n := n) (ns := (ns.drop L').take (R' - L')) fun d hd => hns d (List.mem_of_mem_drop (List.mem_of_mem_take hd))
      refine ⟨this.1, Int.lt_of_lt_of_le this.2 ?_, by omega⟩
      exact_mod_cast Nat.pow_le_pow_right (by decide) (Nat.mul_le_mul_left n (List.length_take_le _ _))
    obtain ⟨b1, b2, b3⟩ := bnd m R hR
    have b4 : vl n ((ns.drop m).take (R - m)) < 2 ^ 60 := Int.lt_of_lt_of_le b2 (by exact_mod_cast Nat.pow_le_pow_right (by decide) (Nat.le_trans (Nat.mul_le_mul_left n b3) hlen))
    have hcap : ∀ y dy, (dCap ns n f (dObj (dCl c1 c2 c3) doc pm pc.1 ctv)).lookup y = some dy → ((Str.ofString "shift", .int ((m - L) * n : Nat)) :: (Str.ofString "mid", .int m) :: (Str.ofString "R", .int R) :: (Str.ofString "L", .int L) :: dCap ns n f (dObj (dCl c1 c2 c3) doc pm pc.1 ctv)).lookup y = some dy ∧
        ((envX (Str.ofString "_digits2int.<locals>.inner") (innerScope 5) La f (.ref pc.1) (dCl c1 c2 c3)).kindOf y = some .cell ∨ (envX (Str.ofString "_digits2int.<locals>.inner") (innerScope 5) La f (.ref pc.1) (dCl c1 c2 c3)).kindOf y = some .free) ∧ (dCl c1 c2 c3).lookup y = (dCl c1 c2 c3).lookup y := fun y dy hy => by
      rcases lookup3 hy with ⟨rfl, rfl⟩ | ⟨rfl, rfl⟩ | ⟨rfl, rfl⟩
      · exact ⟨by walk_at "lk", .inr i3, rfl⟩
      · exact ⟨by walk_at "lk", .inr i4, rfl⟩
      · exact ⟨by walk_at "lk", .inr i5, rfl⟩
    have hcl : ∀ q ∈ dCl c1 c2 c3, q ∈ dCl c1 c2 c3 ∧ ((dCap ns n f (dObj (dCl c1 c2 c3) doc pm pc.1 ctv)).lookup q.1).isSome = true ∧ (dCl c1 c2 c3).lookup q.1 = some q.2 := fun q hq => by
      refine ⟨hq, ?_⟩
      simp only [dCl, List.mem_cons, List.not_mem_nil, or_false] at hq
      rcases hq with rfl | rfl | rfl
      · exact ⟨by kernel_rfl, by kernel_rfl⟩
      · exact ⟨by kernel_rfl, by kernel_rfl⟩
      · exact ⟨by kernel_rfl, by kernel_rfl⟩
    have hz4 : s₄.heap.get? pc.1 = some pc.2 := (C.pin pc (.head _)).1
    refine wpAny_execs_cons (wpAny_Return_some ((evz_binop z (evz_binop z (evz_call z (by walk_at "lk") rfl (by walk_at "es") (ih m R m2 hR (by omega) (by omega)) hcap hcl) (evz_of (by walk_at "e")) (bo_shl (by omega) (by omega) (by omega))) (evz_call z (by walk_at "lk") rfl (by walk_at "es") (ih L m m1 (by omega) (by omega) (by omega)) hcap hcl) bo_add) _ A' s₄ _ _ r' C.st hz4 fun v s₅ g₅ i₅ => fin v s₅ (C.grow.trans g₅) ?_))
    rw [slice_two (m := m) (by omega) (by omega), vl_append]
    have e1 : ((ns.drop L).take (m - L)).length = m - L := by rw [List.length_take, List.length_drop]; omega
    rw [e1]
    rw [Int.toNat_natCast] at i₅
    rw [Int.add_comm, Int.mul_comm (2 ^ (n * (m - L))), Nat.mul_comm n]
    exact i₅
theorem clo_d2i {w : World} {ns : List Int} {n : Nat} (hns : ∀ d ∈ ns, 0 ≤ d ∧ d < 2 ^ n) (hlen : n * ns.length ≤ 60) (hn : n ≤ 60) (hsz : ns.length ≤ 1000) {f : Addr} {pc : Addr × Obj} {c1 c2 c3 : Addr} {doc pm ctv : Value} (z : CodeAt pc (Str.ofString "_digits2int.<locals>.inner")) :
    ∀ (k L R : Nat), L < R → R ≤ ns.length → R - L ≤ 2 ^ k → CLO w (k + 1) f pc (dCl c1 c2 c3) (dCap ns n f (dObj (dCl c1 c2 c3) doc pm pc.1 ctv)) [.int L, .int R] (.int (vl n ((ns.drop L).take (R - L))))
  | 0, L, R, h1, h2, h3 => clo_d2i_turn hns hlen hn hsz z h1 h2 fun L' R' _ _ _ h => by simp at h3; omega
  | k + 1, L, R, h1, h2, h3 => clo_d2i_turn hns hlen hn hsz z h1 h2 fun L' R' a b c _ => clo_d2i hns hlen hn hsz z k L' R' a b (by rw [Nat.pow_succ] at h3; omega)

theorem CL.le {w : World} {k k' : Nat} {f : Value} {ds : List D} {d : D} (h : CL w k f ds d) (hk : k ≤ k') : CL w k' f ds d := fun A s H vs Q E r => h A s H vs Q E (r.le hk)
theorem CLO.le {w : World} {k k' : Nat} {f : Addr} {pc : Addr × Obj} {cl : List (Str × Addr)} {Γc : List (Str × D)} {ds : List D} {d : D} (h : CLO w k f pc cl Γc ds d) (hk : k ≤ k') : CLO w k' f pc cl Γc ds d := fun A s H vs Q E r => h A s H vs Q E (r.le hk)
theorem f42 (w : World) : (KF w.params).lookup 42 = some (fnObj (fnAt 5 "cpy313._pylong" 187 41)) := by kernel_rfl
theorem callee_len (w : World) : Callee w (Str.ofString "len") (.builtin "len") := .bi "len" (by kernel_rfl) (by decide +kernel) (by decide +kernel)
theorem cl_digits2int {w : World} {k : Nat} {ns : List Int} {n : Nat} (hns : ∀ d ∈ ns, 0 ≤ d ∧ d < 2 ^ n) (hlen : n * ns.length ≤ 60) (hn : n ≤ 60) (hsz : ns.length ≤ 64) : CL w (k + 8) (.ref 42) [.lst (iL ns), .int n] (.int (vl n ns)) := by
  refine cl_fn2 (k := k + 7) (names := ["digits", "n"]) (Γ := [(Str.ofString "n", .int n), (Str.ofString "digits", .lst (iL ns))]) (f42 w) rfl rfl rfl rfl (by kernel_rfl) (by kernel_rfl) (by walk_at "bind") (by kernel_rfl) fun L => ?_
  intro A own S pn gv s₀ s Q E r F hQ
  have hcl : clOf (callEnvC (fnAt 5 "cpy313._pylong" 187 41) L 42) (innerScope 5).names [] = some (dCl (L + 2) (L + 3) (L + 1)) := by kernel_rfl
  refine wp_exs_def (P := 37) (c := 41) (.inr ⟨rfl, rfl⟩) (params := innerParams 5) (body := innerBody 5) (scope := innerScope 5) F rfl hcl (by kernel_rfl) rfl rfl rfl (by walk_at "stoc") fun f s₁ pc ctv doc pm z F => ?_
  have St1 := F.st
  refine wpAny_execs_cons (wpAny_Return_some (wpAny_IfExp ((tv_value (by walk_at "e") (tr_list (by simp; omega)) rfl : TV w (k + 7) _ _ _ _) _ A s₁ _ E r St1 fun s₂ g₂ => ?_)))
  have St2 := St1.grow g₂
  have fin : ∀ v s', Grow s₂ s' → Is w (hid (own ++ (frameAddrs (callEnvC (fnAt 5 "cpy313._pylong" 187 41) L 42) ++ S)) s'.heap) (.int (vl n ns)) v → Q (.ret v) s' := fun v s' g i => hQ v s' (F.grow.trans (g₂.trans g)) (i.hid_mono fun a h => List.mem_append_right _ (List.mem_append_right _ h))
  cases ns with
  | nil =>
    rw [if_neg (by simp)]
    exact (ev_int (w := w) (k := k + 7)) _ A s₂ _ E r St2 fun v s' g i => fin v s' g i
  | cons d0 ns =>
    rw [if_pos (by simp)]
    have hcap : ∀ y dy, (dCap (d0 :: ns) n f (dObj (dCl (L + 2) (L + 3) (L + 1)) doc pm pc.1 ctv)).lookup y = some dy → ((Str.ofString "inner", .raw (.ref f) [(f, dObj (dCl (L + 2) (L + 3) (L + 1)) doc pm pc.1 ctv)]) :: [(Str.ofString "n", .int n), (Str.ofString "digits", .lst (iL (d0 :: ns)))]).lookup y = some dy ∧
        ((callEnvC (fnAt 5 "cpy313._pylong" 187 41) L 42).kindOf y = some .cell ∨ (callEnvC (fnAt 5 "cpy313._pylong" 187 41) L 42).kindOf y = some .free) ∧ (callEnvC (fnAt 5 "cpy313._pylong" 187 41) L 42).cells.lookup y = (dCl (L + 2) (L + 3) (L + 1)).lookup y := fun y dy hy => by
      rcases lookup3 hy with ⟨rfl, rfl⟩ | ⟨rfl, rfl⟩ | ⟨rfl, rfl⟩
      · exact ⟨by walk_at "lk", .inl (by kernel_rfl), by kernel_rfl⟩
      · exact ⟨by walk_at "lk", .inl (by kernel_rfl), by kernel_rfl⟩
      · exact ⟨by walk_at "lk", .inl (by kernel_rfl), by kernel_rfl⟩
    have hcl2 : ∀ q ∈ dCl (L + 2) (L + 3) (L + 1), q ∈ (callEnvC (fnAt 5 "cpy313._pylong" 187 41) L 42).cells ∧ ((dCap (d0 :: ns) n f (dObj (dCl (L + 2) (L + 3) (L + 1)) doc pm pc.1 ctv)).lookup q.1).isSome = true ∧ (dCl (L + 2) (L + 3) (L + 1)).lookup q.1 = some q.2 := fun q hq => by
      have hc : (callEnvC (fnAt 5 "cpy313._pylong" 187 41) L 42).cells = [(Str.ofString "inner", L + 3), (Str.ofString "n", L + 2), (Str.ofString "digits", L + 1)] := by kernel_rfl
      rw [hc]
      simp only [dCl, List.mem_cons, List.not_mem_nil, or_false] at hq
      rcases hq with rfl | rfl | rfl
      · exact ⟨.tail _ (.head _), by kernel_rfl, by kernel_rfl⟩
      · exact ⟨.head _, by kernel_rfl, by kernel_rfl⟩
      · exact ⟨.tail _ (.tail _ (.head _)), by kernel_rfl, by kernel_rfl⟩
    have hl0 : (d0 :: ns).length ≤ 2 ^ 6 := by simpa using hsz
    have c0 := (clo_d2i (w := w) hns hlen hn (by omega) (f := f) (pc := pc) (c1 := L + 2) (c2 := L + 3) (c3 := L + 1) (doc := doc) (pm := pm) (ctv := ctv) z 6 0 (d0 :: ns).length (by simp) (Nat.le_refl _) (by simpa using hl0)).le (show 6 + 1 ≤ k + 7 by omega)
    have ez : vl n (((d0 :: ns).drop 0).take ((d0 :: ns).length - 0)) = vl n (d0 :: ns) := by rw [List.drop_zero, Nat.sub_zero, List.take_length]
    rw [ez] at c0
    have hz2 : s₂.heap.get? pc.1 = some pc.2 := g₂.keep _ _ z.1 z.2.1 (F.pin pc (.head _)).1
    refine (evz_call z (by walk_at "lk") rfl (es_cons ev_int (es_cons (ev_call (callee_len w) (by kernel_rfl) (by kernel_rfl) (by walk_at "es") (by have := cl_len_list (w := w) (k := k + 7) (ds := iL (d0 :: ns)) (by simp at hsz ⊢; omega); rw [List.length_map] at this; exact this)) es_nil)) c0 hcap hcl2) _ A s₂ _ E r St2 hz2 fun v s' g i => fin v s' g i

theorem xor_low (x s : Nat) : Builtin.bitXor (x : Int) (((x / 2 ^ s : Nat) : Int) * 2 ^ s) = ((x % 2 ^ s : Nat) : Int) := by
  have e : ((x / 2 ^ s : Nat) : Int) * 2 ^ s = ((x / 2 ^ s * 2 ^ s : Nat) : Int) := by push_cast; rfl
  rw [e]
  have tb : ∀ i, (x / 2 ^ s * 2 ^ s).testBit i = (decide (s ≤ i) && x.testBit i) := fun i => by
    rw [← Nat.shiftLeft_eq, Nat.testBit_shiftLeft, ← Nat.shiftRight_eq_div_pow, Nat.testBit_shiftRight]
    by_cases h : s ≤ i
    · simp [h]
    · simp [h]
  have h1 : x &&& (x / 2 ^ s * 2 ^ s) = x / 2 ^ s * 2 ^ s := by
    apply Nat.eq_of_testBit_eq; intro i
    rw [Nat.testBit_and, tb]; cases x.testBit i <;> simp
  have h2 : x ||| (x / 2 ^ s * 2 ^ s) = x := by
    apply Nat.eq_of_testBit_eq; intro i
    rw [Nat.testBit_or, tb]; cases x.testBit i <;> simp
  generalize hy : x / 2 ^ s * 2 ^ s = y at *
  have h3 : x = y + x % 2 ^ s := by
    have := Nat.div_add_mod x (2 ^ s)
    rw [Nat.mul_comm, hy] at this; omega
  have a1 : Builtin.bitAnd (x : Int) (y : Int) = ((x &&& y : Nat) : Int) := by simp [Builtin.bitAnd]
  have a2 : Builtin.bitOr (x : Int) (y : Int) = ((x ||| y : Nat) : Int) := by
    unfold Builtin.bitOr
    have n1 : Builtin.bitNot (x : Int) = -(x : Int) - 1 := rfl
    have n2 : Builtin.bitNot (y : Int) = -(y : Int) - 1 := rfl
    rw [n1, n2]
    unfold Builtin.bitAnd
    have d1 : decide (0 ≤ -(x : Int) - 1) = false := decide_eq_false (by omega)
    have d2 : decide (0 ≤ -(y : Int) - 1) = false := decide_eq_false (by omega)
    rw [d1, d2]
    show Builtin.bitNot (Builtin.bitNot _) = _
    have nn : ∀ i : Int, Builtin.bitNot (Builtin.bitNot i) = i := fun i => by show -(-i - 1) - 1 = i; omega
    rw [nn]
    have t1 : (Builtin.bitNot (-(x : Int) - 1)).toNat = x := by show (-(-(x : Int) - 1) - 1).toNat = x; omega
    have t2 : (Builtin.bitNot (-(y : Int) - 1)).toNat = y := by show (-(-(y : Int) - 1) - 1).toNat = y; omega
    rw [t1, t2]
  unfold Builtin.bitXor
  rw [a1, a2, h1, h2]
  omega

/-- the digits of x, n bits each, m of them, the least first -/
def dgs (n : Nat) : Nat → Nat → List Int
  | 0, _ => []
  | m + 1, x => ((x % 2 ^ n : Nat) : Int) :: dgs n m (x / 2 ^ n)
theorem dgs_length (n : Nat) : ∀ (m x : Nat), (dgs n m x).length = m
  | 0, _ => rfl
  | m + 1, x => by rw [dgs, List.length_cons, dgs_length]
theorem dgs_split (n : Nat) : ∀ (p q x : Nat), dgs n (p + q) x = dgs n p (x % 2 ^ (p * n)) ++ dgs n q (x / 2 ^ (p * n))
  | 0, q, x => by simp [dgs]
  | p + 1, q, x => by
    rw [Nat.succ_add, dgs, dgs, dgs_split n p q, List.cons_append, Nat.succ_mul, Nat.pow_add]
    have e1 : x % (2 ^ (p * n) * 2 ^ n) % 2 ^ n = x % 2 ^ n := Nat.mod_mod_of_dvd _ ⟨2 ^ (p * n), by rw [Nat.mul_comm]⟩
    have e2 : x % (2 ^ (p * n) * 2 ^ n) / 2 ^ n = x / 2 ^ n % 2 ^ (p * n) := by rw [Nat.mul_comm, Nat.mod_mul_right_div_self]
    have e3 : x / 2 ^ n / 2 ^ (p * n) = x / (2 ^ (p * n) * 2 ^ n) := by rw [Nat.div_div_eq_div_mul, Nat.mul_comm]
    rw [e1, e2, e3]

/-- a list of ints at an address -/
def LsI (w : World) (h : Heap) (a : Addr) (xs : List Int) : Prop := ∃ us, Ls h a (List.toArray us) ∧ IsL w h (iL xs) us
/-- the state grows, but that the list at a turns -/
def GB (w : World) (a : Addr) (xs : List Int) (s s' : Shared) : Prop := ∃ h₁, Heap.SameBut a s.heap h₁ ∧ LsI w h₁ a xs ∧ Grow { s with heap := h₁ } s'
section
variable {w : World} {a : Addr} {xs ys : List Int} {s s₁ s₂ : Shared}
theorem LsI.noCode {h : Heap} (x : LsI w h a xs) : NoCode h a := let ⟨_, l, _⟩ := x; noCode_ls l
theorem LsI.grow (x : LsI w s.heap a xs) (g : Grow s s₁) (h1 : a ≠ 30) (h2 : a ≠ 37) : LsI w s₁.heap a xs := by
  obtain ⟨us, ⟨o, e, r⟩, il⟩ := x
  exact ⟨us, ⟨o, g.keep a o h1 h2 e, r⟩, isL_flat il⟩
theorem GB.of_grow (x : LsI w s.heap a xs) (g : Grow s s₁) : GB w a xs s s₁ := ⟨s.heap, Heap.SameBut.refl _ _, x, g⟩
theorem GB.ls (x : GB w a xs s s₁) (h1 : a ≠ 30) (h2 : a ≠ 37) : LsI w s₁.heap a xs := let ⟨_, _, l, g⟩ := x; LsI.grow (s := { s with heap := _ }) l g h1 h2
theorem GB.keep (x : GB w a xs s s₁) {b : Addr} {o : Obj} (h1 : b ≠ 30) (h2 : b ≠ 37) (h3 : b ≠ a) (e : s.heap.get? b = some o) : s₁.heap.get? b = some o := by
  obtain ⟨h₁, b1, _, g⟩ := x
  exact g.keep b o h1 h2 ((b1.2 b h3).trans e)
theorem tab_same {b : Addr} {h h' : Heap} (x : TabAt b h) (hs : Heap.SameBut a h h') (hb : b ≠ a) (nc : NoCode h a) : TabAt b h' :=
  x.but (P := fun c => c = a) hb (fun c hc => by rw [hc]; exact nc) fun c o hc e => (hs.2 c hc).trans e
theorem GB.trans (l0 : LsI w s.heap a zs) (x : GB w a xs s s₁) (y : GB w a ys s₁ s₂) (a30 : a ≠ 30) (a37 : a ≠ 37) : GB w a ys s s₂ := by
  have ls1 := x.ls a30 a37
  obtain ⟨h₁, b1, l1, g1⟩ := x
  obtain ⟨h₂, b2, ⟨us, ⟨o₂, e₂, n, ho⟩, il⟩, g2⟩ := y
  obtain ⟨_, ⟨o0, e0, _⟩, _⟩ := l0
  have hget : (s.heap.update a fun _ => o₂).get? a = some o₂ := Heap.get?_update_self (fun _ => o₂) e0 (by rw [ho]; rfl)
  have hsame := Heap.SameBut.update s.heap a fun _ => o₂
  have nc : NoCode (s.heap.update a fun _ => o₂) a := noCode_ls ⟨o₂, hget, n, ho⟩
  refine ⟨s.heap.update a fun _ => o₂, hsame, ⟨us, ⟨o₂, hget, n, ho⟩, isL_flat il⟩, ?_, fun b o h1 h2 e => ?_, fun b hb tb => ?_⟩
  · obtain ⟨h3, t3, rfl⟩ := g1.same
    obtain ⟨h4, t4, rfl⟩ := g2.same
    exact ⟨h4, t4, rfl⟩
  · by_cases q : b = a
    · subst q
      rw [show ({ s with heap := s.heap.update b fun _ => o₂ } : Shared).heap = s.heap.update b fun _ => o₂ from rfl, hget] at e
      cases e
      exact g2.keep b o₂ h1 h2 e₂
    · have e1 : s.heap.get? b = some o := (hsame.2 b q).symm.trans e
      exact g2.keep b o h1 h2 ((b2.2 b q).trans (g1.keep b o h1 h2 ((b1.2 b q).trans e1)))
  · have q : b ≠ a := fun q => hb.elim (fun p => a30 (q ▸ p)) fun p => a37 (q ▸ p)
    have t1 : TabAt b h₁ := tb.but (P := fun c => c = a) q (fun c hc => by rw [hc]; exact nc) fun c o hc e => (b1.2 c hc).trans ((hsame.2 c hc).symm.trans e)
    exact g2.tab b hb (tab_same (g1.tab b hb t1) b2 q ls1.noCode)
/-- an item of the list is stored -/
theorem GB.set {us : List Value} {n : Nat} {v : Value} {j : Nat} (e0 : s.heap.get? a = some (seqObj "list" us.toArray n)) (g : Grow s s₁) (a30 : a ≠ 30) (a37 : a ≠ 37) (il : IsL w s.heap (iL ys) (us.set j v)) :
    GB w a ys s { s₁ with heap := s₁.heap.update a (Obj.mapSeq (·.setIfInBounds j v)) } := by
  have e1 := g.keep a _ a30 a37 e0
  have q0 := get?_update_seq e0 (·.setIfInBounds j v)
  have q1 := get?_update_seq e1 (·.setIfInBounds j v)
  have s0 := Heap.SameBut.update s.heap a (Obj.mapSeq (·.setIfInBounds j v))
  have s1 := Heap.SameBut.update s₁.heap a (Obj.mapSeq (·.setIfInBounds j v))
  refine ⟨s.heap.update a (Obj.mapSeq (·.setIfInBounds j v)), s0, ⟨us.set j v, ⟨_, q0, _, by simp; rfl⟩, isL_flat il⟩, ?_, fun b o h1 h2 e => ?_, fun b hb tb => ?_⟩
  · obtain ⟨h3, t3, rfl⟩ := g.same
    exact ⟨_, t3, rfl⟩
  · by_cases q : b = a
    · subst q
      rw [show ({ s with heap := s.heap.update b (Obj.mapSeq (·.setIfInBounds j v)) } : Shared).heap.get? b = _ from q0] at e
      cases e
      exact q1
    · exact (s1.2 b q).trans (g.keep b o h1 h2 ((s0.2 b q).symm.trans e))
  · have q : b ≠ a := fun q => hb.elim (fun p => a30 (q ▸ p)) fun p => a37 (q ▸ p)
    have nc0 : NoCode (s.heap.update a (Obj.mapSeq (·.setIfInBounds j v))) a := noCode_of q0 fun vs hv => by cases hv
    have t0 : TabAt b s.heap := tb.but (P := fun c => c = a) q (fun c hc => by rw [hc]; exact nc0) fun c o hc e => (s0.2 c hc).symm.trans e
    exact tab_same (g.tab b hb t0) s1 q (noCode_of e1 fun vs hv => by cases hv)
end
section
variable {w : World} {env : Env} {Γ : List (Str × D)} {H : List Addr} {a : Addr} {xs : List Int} {s s₁ s₀ : Shared}
/-- the frame stands when a hidden list has turned -/
theorem St.gb (st : St w env Γ H s) (x : GB w a xs s s₁) (ha : a ∈ H) (al : a ≠ env.locals) (ac : ∀ q ∈ env.cells, q.2 ≠ a) (b0 : Base w s₀.heap) (g0 : Grow s₀ s) (hn : s₀.heap.get? a = none) (nc : NoCode s.heap a) : St w env Γ H s₁ := by
  obtain ⟨h₁, b1, l1, g1⟩ := x
  have g : Grow s₀ { s with heap := h₁ } := g0.turn (tk := s.toks) b1 hn b0 nc
  refine St.grow (s := { s with heap := h₁ }) ⟨st.ok, b0.grow g, st.tabs, fun b hb => ?_, st.loc, st.cel, ?_⟩ g1
  · by_cases q : b = a
    · subst q; obtain ⟨_, ⟨o, e, _⟩, _⟩ := l1; exact ⟨o, e⟩
    · obtain ⟨o, e⟩ := st.dom b hb; exact ⟨o, (b1.2 b q).trans e⟩
  · obtain ⟨m, n, vr⟩ := st.vars
    refine ⟨m, n.sameBut b1 al.symm, fun y dy hy => ?_⟩
    obtain ⟨h1, v, hv, iv⟩ := vr y dy hy
    exact ⟨h1, v, held_other hv (fun _ => rfl) fun c hc _ q hq => hq.sameBut b1 (ac _ (mem_of_lookup hc)), iv.mono (hid_same b1 ha)⟩
end

/-- a call of the def that lays digits into a list -/
def CLI (w : World) (k : Nat) (f : Addr) (pc : Addr × Obj) (cl : List (Str × Addr)) (Γc : List (Str × D)) (a : Addr) (x L R : Nat) (xs ys : List Int) : Prop :=
  ∀ (A : Around) (s₀ s : Shared) (H : List Addr) (vs : List Value) (Q : Value → Shared → Prop) (E : Value → Shared → Prop), Room k A → Base w s₀.heap → Grow s₀ s → s₀.heap.get? a = none → ((30 : Addr) ∈ H ∧ (37 : Addr) ∈ H) → (∀ a ∈ H, ∃ o, s.heap.get? a = some o) → s.heap.get? pc.1 = some pc.2 → CapsOk w H s cl Γc → a ∈ H → (∀ q ∈ cl, q.2 ≠ a) → LsI w s.heap a xs →
    IsL w (hid H s.heap) [.int x, .int L, .int R] vs → (∀ s', GB w a ys s s' → Q .none s') → wpAny (model PG w) A (call (.ref f) vs) Q E s
abbrev eObj (cl : List (Str × Addr)) (doc pm : Value) (c : Addr) (ctv : Value) : Obj := fnMade (Str.ofString "inner") (Str.ofString "_int2digits.<locals>.inner") (innerParams 4) (innerBody 4) (innerScope 4) cl doc pm c ctv
abbrev eCl (c1 c2 c3 : Addr) : List (Str × Addr) := [(Str.ofString "n", c1), (Str.ofString "inner", c2), (Str.ofString "a_digits", c3)]
abbrev eCap (a : Addr) (n : Nat) (f : Addr) (obj : Obj) : List (Str × D) := [(Str.ofString "a_digits", .raw (.ref a) []), (Str.ofString "n", .int n), (Str.ofString "inner", .raw (.ref f) [(f, obj)])]
theorem inner4_facts : (∀ x ∈ (innerScope 4).names, x.2 ≠ .cell) ∧ (∀ x ∈ [Str.ofString "x", Str.ofString "L", Str.ofString "R"], (innerScope 4).names.lookup x = some .local ∧ (x == (Str.ofString "__debug__")) = false) ∧ (innerScope 4).names.lookup (Str.ofString "a_digits") = some .free ∧ (innerScope 4).names.lookup (Str.ofString "n") = some .free ∧ (innerScope 4).names.lookup (Str.ofString "inner") = some .free := by
  refine ⟨by decide +kernel, ?_, by kernel_rfl, by kernel_rfl, by kernel_rfl⟩
  intro x hx
  simp only [List.mem_cons, List.not_mem_nil, or_false] at hx
  rcases hx with rfl | rfl | rfl
  · exact ⟨by kernel_rfl, by kernel_rfl⟩
  · exact ⟨by kernel_rfl, by kernel_rfl⟩
  · exact ⟨by kernel_rfl, by kernel_rfl⟩
section
variable {w : World} {k : Nat} {env : Env} {Γ Γc : List (Str × D)} {x : Str} {p pos spos : Pos} {H : List Addr} {s s₀ s₁ : Shared} {cl : List (Str × Addr)} {f a : Addr} {pc : Addr × Obj} {qual : Str}
/-- the laying def's call, as a statement -/
theorem st_inner (z : CodeAt pc qual) {A : Around} {Q : Flow → Shared → Prop} {E : Value → Shared → Prop} {e : Expr} {es : List Expr} {xv L R : Nat} {xs ys : List Int} {obj : Obj} {fd : FuncData} (st : St w env Γ H s) (r : Room k A) (b0 : Base w s₀.heap) (g0 : Grow s₀ s) (hn : s₀.heap.get? a = none) (hz : s.heap.get? pc.1 = some pc.2) (haH : a ∈ H) (hac : ∀ q ∈ cl, q.2 ≠ a) (hl : LsI w s.heap a xs)
    (hx : Γ.lookup x = some (.raw (.ref f) [(f, obj)])) (hobj : obj.data = .func fd) (ha : ∀ (s₁ : Shared) (Q : List Value → Shared → Prop) (E : Value → Shared → Prop), Grow s s₁ → (∀ vs s₂, Grow s₁ s₂ → IsL w (hid H s₂.heap) [.int xv, .int L, .int R] vs → Q vs s₂) → wpAny (model PG w) A (spliced (backTo pos (starEach (e :: es) env))) Q E s₁) (hc : CLI w k f pc cl Γc a xv L R xs ys)
    (hcap : ∀ y dy, Γc.lookup y = some dy → Γ.lookup y = some dy ∧ (env.kindOf y = some .cell ∨ env.kindOf y = some .free) ∧ env.cells.lookup y = cl.lookup y) (hcl : ∀ q ∈ cl, q ∈ env.cells ∧ (Γc.lookup q.1).isSome = true ∧ cl.lookup q.1 = some q.2)
    (h : ∀ s', GB w a ys s s' → Q .next s')
    (hst : starEach (e :: es) env = (false, eval e env) :: starEach es env := by rfl) (hpl : (backTo pos (starEach es env)).any (·.1) = false := by rfl) (hi : interactive env = false := by rfl) (hs : swapsWith (.Call (.Name x p) (e :: es) [] pos) none spos.line env = pure false := by rfl) :
    wpAny (model PG w) A (exec (.Expr (.Call (.Name x p) (e :: es) [] pos) spos) env) Q E s := by
  have n30 : a ≠ 30 ∧ a ≠ 37 := by
    refine ⟨?_, ?_⟩
    · rintro rfl; obtain ⟨ps, e, _⟩ := b0.t30; rw [hn] at e; cases e
    · rintro rfl; obtain ⟨ps, e, _⟩ := b0.t37; rw [hn] at e; cases e
  refine wpAny_Expr (Call_Name rfl (ev_name hx H A s _ E r st fun v s₁ g i => ?_)) hi hs
  obtain ⟨rfl, hf⟩ := is_raw.mp i
  have hf1 := (hid_get.mp (hf _ (.head _))).1
  simp only at hf1
  have st₁ := st.grow g
  have f30 : f ≠ 30 ∧ f ≠ 37 := by
    have nf : ∀ b, TabAt b s₁.heap → f ≠ b := fun b tb e => by
      obtain ⟨ps, e1, _⟩ := tb
      rw [e, e1] at hf1
      cases hf1
      cases hobj
    exact ⟨nf 30 st₁.base.t30, nf 37 st₁.base.t37⟩
  refine callWith_F (first := []) ⟨obj.cls, obj.dict, fd, obj.slots, by rw [hf1, ← hobj]⟩ (ha s₁ _ E g fun vs s₂ g₂ i₂ => ⟨⟨obj.cls, obj.dict, fd, obj.slots, by rw [← hobj]; exact g₂.keep _ _ f30.1 f30.2 hf1⟩, ?_⟩) hst hpl
  have st₂ := st₁.grow g₂
  have g12 := g.trans g₂
  refine hc A s₀ s₂ H vs _ E r b0 (g0.trans g12) hn st.tabs st₂.dom (z.grow g12 hz) (st₂.caps hcap hcl) haH hac (hl.grow g12 n30.1 n30.2) i₂ fun s' gb => h s' ?_
  exact GB.trans hl (GB.of_grow hl g12) gb n30.1 n30.2
end

/-- one turn of the def that lays digits -/
theorem cli_turn {w : World} {n : Nat} {a f : Addr} {pc : Addr × Obj} {c1 c2 c3 : Addr} {doc pm ctv : Value} (hn1 : n ≤ 60) (z : CodeAt pc (Str.ofString "_int2digits.<locals>.inner"))
    {k L R x : Nat} {xs : List Int} (hLR : L < R) (hR : R ≤ xs.length) (hsz : xs.length ≤ 1000) (hx : x < 2 ^ (n * (R - L))) (hb : n * (R - L) ≤ 60)
    (ih : ∀ L' R' x' xs', L' < R' → R' ≤ xs'.length → xs'.length ≤ 1000 → R' - L' ≤ (R - L + 1) / 2 → L + 1 < R → x' < 2 ^ (n * (R' - L')) → n * (R' - L') ≤ 60 → CLI w k f pc (eCl c1 c2 c3) (eCap a n f (eObj (eCl c1 c2 c3) doc pm pc.1 ctv)) a x' L' R' xs' (xs'.take L' ++ dgs n (R' - L') x' ++ xs'.drop R')) :
    CLI w (k + 1) f pc (eCl c1 c2 c3) (eCap a n f (eObj (eCl c1 c2 c3) doc pm pc.1 ctv)) a x L R xs (xs.take L ++ dgs n (R - L) x ++ xs.drop R) := by
  intro A s₀ s H vs Q E r b0 g0 hn tabs dom hz caps haH hac hl il hQ
  have base := b0.grow g0
  have n30 : a ≠ 30 ∧ a ≠ 37 := by
    refine ⟨?_, ?_⟩
    · rintro rfl; obtain ⟨ps, e, _⟩ := b0.t30; rw [hn] at e; cases e
    · rintro rfl; obtain ⟨ps, e, _⟩ := b0.t37; rw [hn] at e; cases e
  have hf : s.heap.get? f = some (eObj (eCl c1 c2 c3) doc pm pc.1 ctv) := by
    obtain ⟨_, _, c, v, _, _, iv⟩ := caps.2 (Str.ofString "inner") (.raw (.ref f) [(f, eObj (eCl c1 c2 c3) doc pm pc.1 ctv)]) (by walk_at "lk")
    exact (hid_get.mp ((is_raw.mp iv).2 _ (.head _))).1
  have hvs : ∃ v1 v2 v3, vs = [v1, v2, v3] := by
    have := il.length
    match vs, this with
    | [v1, v2, v3], _ => exact ⟨v1, v2, v3, rfl⟩
  obtain ⟨v1, v2, v3, rfl⟩ := hvs
  obtain ⟨i1, i2, i3, i4, i5⟩ := inner4_facts
  refine clo_enter (names := [Str.ofString "x", Str.ofString "L", Str.ofString "R"]) z r base tabs dom hz caps hf rfl il i1 i2 (fun x d hx => by rcases lookup3 hx with ⟨rfl, rfl⟩ | ⟨rfl, rfl⟩ | ⟨rfl, rfl⟩ <;> assumption) rfl rfl rfl fun A' La s₁ r' hLa C E' => ?_
  have C : Cm w (envX (Str.ofString "_int2digits.<locals>.inner") (innerScope 4) La f (.ref pc.1) (eCl c1 c2 c3)) ([La] ++ H) [La] [pc] [] s ((Str.ofString "R", .int R) :: (Str.ofString "L", .int L) :: (Str.ofString "x", .int x) :: eCap a n f (eObj (eCl c1 c2 c3) doc pm pc.1 ctv)) s₁ := C
  refine wpAny_execs_cons (cm_if (by walk_at "t") C r' fun s₂ C => ?_)
  by_cases hb1 : L + 1 = R
  · rw [if_pos (by rw [beq_iff_eq]; omega)]
    obtain ⟨us, ⟨o, ho, m, rfl⟩, iu⟩ := hl
    have hlen : us.length = xs.length := by rw [iu.length, List.length_map]
    refine wpAny_execs_cons (wpAny_Assign_Subscript ((by walk_at "e" : EV w k _ _ _ _) _ A' s₂ _ _ r' C.st fun u s₃ g₃ j₃ => (by walk_at "e" : EV w k _ _ _ _) _ A' s₃ _ _ r' (C.st.grow g₃) fun ov s₄ g₄ j₄ => (by walk_at "e" : EV w k _ _ _ _) _ A' s₄ _ _ r' ((C.st.grow g₃).grow g₄) fun iv s₅ g₅ j₅ => ?_) rfl)
    obtain ⟨t, rfl⟩ := is_int.mp j₃
    obtain ⟨rfl, _⟩ := is_raw.mp j₄
    obtain ⟨t5, rfl⟩ := is_int.mp j₅
    have g := C.grow.trans ((g₃.trans g₄).trans g₅)
    refine ki_setAt (g.keep a _ n30.1 n30.2 ho) (by omega) (by omega) (by rw [List.size_toArray]; omega) (wpAny_execs_cons (wpAny_Return_none (hQ _ ?_)))
    refine GB.set (j := L) ho g n30.1 n30.2 ?_
    rw [show R - L = 1 by omega]
    have e1 : dgs n 1 x = [(x : Int)] := by
      rw [show R - L = 1 by omega, Nat.mul_one] at hx
      simp [dgs, Nat.mod_eq_of_lt hx]
    have e2 : xs.take L ++ [(x : Int)] ++ xs.drop R = xs.set L x := by
      rw [List.set_eq_take_append_cons_drop, if_pos (by omega), ← hb1]; simp
    rw [e1, e2, iL, List.map_set]
    have hset : ∀ {ds : List D} {vs : List Value} {j : Nat}, IsL w s.heap ds vs → IsL w s.heap (ds.set j (.int x)) (vs.set j (.int x t)) := by
      intro ds
      induction ds with
      | nil => intro vs j x; rw [isL_nil] at x; subst x; exact isL_nil.mpr rfl
      | cons d0 ds ihd =>
        intro vs j x
        obtain ⟨v0, r0, rfl, a0, z0⟩ := isL_cons.mp x
        cases j with
        | zero => exact isL_cons.mpr ⟨_, r0, rfl, is_int.mpr ⟨_, rfl⟩, z0⟩
        | succ j => exact isL_cons.mpr ⟨v0, _, rfl, a0, ihd z0⟩
    exact hset iu
  · rw [if_neg (by rw [beq_iff_eq]; omega)]
    refine wpAny_execs_nil ?_
    have hm : ((L : Int) + (R : Int)).fdiv ((2 : Int) ^ (1 : Int).toNat) = (((L + R) / 2 : Nat) : Int) := by
      rw [show ((2 : Int) ^ (1 : Int).toNat) = 2 from rfl, Int.fdiv_eq_ediv_of_nonneg _ (by decide)]; omega
    generalize hmid : (L + R) / 2 = m at hm
    have m1 : L < m := by omega
    have m2 : m < R := by omega
    have hs : ((m : Int) - (L : Int)) * (n : Int) = (((m - L) * n : Nat) : Int) := by
      rw [Int.natCast_mul, Int.natCast_sub (by omega)]
    have nl : (m - L) * n ≤ 60 := by
      have : (m - L) * n ≤ (R - L) * n := Nat.mul_le_mul_right _ (by omega)
      rw [Nat.mul_comm n] at hb; omega
    generalize hsh : (m - L) * n = sh at hs nl
    have hu : (x : Int).fdiv ((2 : Int) ^ ((sh : Nat) : Int).toNat) = ((x / 2 ^ sh : Nat) : Int) := by
      rw [Int.toNat_natCast, Int.fdiv_eq_ediv_of_nonneg _ (Int.pow_nonneg (by decide))]; push_cast; rfl
    have hlow : Builtin.bitXor (x : Int) (((x / 2 ^ sh : Nat) : Int) * 2 ^ ((sh : Nat) : Int).toNat) = ((x % 2 ^ sh : Nat) : Int) := by
      rw [Int.toNat_natCast]; exact xor_low x sh
    have hx60 : x < 2 ^ 60 := Nat.lt_of_lt_of_le hx (Nat.pow_le_pow_right (by decide) hb)
    have hub : x / 2 ^ sh < 2 ^ 60 := Nat.lt_of_le_of_lt (Nat.div_le_self _ _) hx60
    have hna : ((x / 2 ^ sh : Nat) : Int).natAbs < 2 ^ 64 := by rw [Int.natAbs_natCast]; exact Nat.lt_of_lt_of_le hub (by decide)
    refine wpAny_execs_cons (cm_assign (d := .int m) (by rw [← hm]; walk_at "e") ⟨.inl (by kernel_rfl), by kernel_rfl⟩ C r' rfl fun s₃ C => ?_)
    refine wpAny_execs_cons (cm_assign (d := .int sh) (by rw [← hs]; walk_at "e") ⟨.inl (by kernel_rfl), by kernel_rfl⟩ C r' rfl fun s₄ C => ?_)
    refine wpAny_execs_cons (cm_assign (d := .int (x / 2 ^ sh : Nat)) (by rw [← hu]; walk_at "e") ⟨.inl (by kernel_rfl), by kernel_rfl⟩ C r' rfl fun s₅ C => ?_)
    refine wpAny_execs_cons (cm_assign (d := .int (x % 2 ^ sh : Nat)) (by rw [← hlow]; exact ev_binop (by walk_at "e") (ev_binop (by walk_at "e") (by walk_at "e") (bo_shl (by omega) (by omega) hna)) bo_xor) ⟨.inl (by kernel_rfl), by kernel_rfl⟩ C r' rfl fun s₆ C => ?_)
    have hcap : ∀ y dy, (eCap a n f (eObj (eCl c1 c2 c3) doc pm pc.1 ctv)).lookup y = some dy → ((Str.ofString "lower", .int (x % 2 ^ sh : Nat)) :: (Str.ofString "upper", .int (x / 2 ^ sh : Nat)) :: (Str.ofString "shift", .int sh) :: (Str.ofString "mid", .int m) :: (Str.ofString "R", .int R) :: (Str.ofString "L", .int L) :: (Str.ofString "x", .int x) :: eCap a n f (eObj (eCl c1 c2 c3) doc pm pc.1 ctv)).lookup y = some dy ∧
        ((envX (Str.ofString "_int2digits.<locals>.inner") (innerScope 4) La f (.ref pc.1) (eCl c1 c2 c3)).kindOf y = some .cell ∨ (envX (Str.ofString "_int2digits.<locals>.inner") (innerScope 4) La f (.ref pc.1) (eCl c1 c2 c3)).kindOf y = some .free) ∧ (eCl c1 c2 c3).lookup y = (eCl c1 c2 c3).lookup y := fun y dy hy => by
      rcases lookup3 hy with ⟨rfl, rfl⟩ | ⟨rfl, rfl⟩ | ⟨rfl, rfl⟩
      · exact ⟨by walk_at "lk", .inr i3, rfl⟩
      · exact ⟨by walk_at "lk", .inr i4, rfl⟩
      · exact ⟨by walk_at "lk", .inr i5, rfl⟩
    have hcl : ∀ q ∈ eCl c1 c2 c3, q ∈ eCl c1 c2 c3 ∧ ((eCap a n f (eObj (eCl c1 c2 c3) doc pm pc.1 ctv)).lookup q.1).isSome = true ∧ (eCl c1 c2 c3).lookup q.1 = some q.2 := fun q hq => by
      refine ⟨hq, ?_⟩
      simp only [eCl, List.mem_cons, List.not_mem_nil, or_false] at hq
      rcases hq with rfl | rfl | rfl
      · exact ⟨by kernel_rfl, by kernel_rfl⟩
      · exact ⟨by kernel_rfl, by kernel_rfl⟩
      · exact ⟨by kernel_rfl, by kernel_rfl⟩
    have hz6 : s₆.heap.get? pc.1 = some pc.2 := (C.pin pc (.head _)).1
    have gs6 := C.grow
    have l6 := hl.grow gs6 n30.1 n30.2
    have haL : a ≠ La := fun e => by
      obtain ⟨us, ⟨o, ho, _⟩, _⟩ := hl
      exact absurd (Heap.lt_size ho) (by rw [e, hLa]; exact Nat.lt_irrefl _)
    have haH' : a ∈ [La] ++ H := .tail _ haH
    have hy1 : x % 2 ^ sh < 2 ^ (n * (m - L)) := by rw [Nat.mul_comm n, hsh]; exact Nat.mod_lt _ (Nat.two_pow_pos _)
    have hy2 : x / 2 ^ sh < 2 ^ (n * (R - m)) := by
      rw [Nat.div_lt_iff_lt_mul (Nat.two_pow_pos _), ← Nat.pow_add, ← hsh, Nat.mul_comm (m - L), ← Nat.mul_add, show R - m + (m - L) = R - L by omega]; exact hx
    have hb2 : n * (R - m) ≤ 60 := Nat.le_trans (Nat.mul_le_mul_left n (by omega)) hb
    have c1' := ih L m (x % 2 ^ sh) xs m1 (by omega) hsz (by omega) (by omega) hy1 (by rw [Nat.mul_comm n, hsh]; exact nl)
    refine wpAny_execs_cons (st_inner z C.st r' b0 (g0.trans gs6) hn hz6 haH' hac l6 (by walk_at "lk") rfl (fun sx Q E g h => (by walk_at "es" : ES w k _ _ _ _) _ _ A' sx Q E r' (C.st.grow g) h) c1' hcap hcl (fun s₇ gb => ?_))
    have st7 := C.st.gb gb haH' haL hac b0 (g0.trans gs6) hn l6.noCode
    have l7 := gb.ls n30.1 n30.2
    have pcne : pc.1 ≠ a := fun e => by
      obtain ⟨_, _, cvs, ct, z3, z4⟩ := z
      have hcr : s.heap.CodeRec (.ref pc.1) (Str.ofString "_int2digits.<locals>.inner") := ⟨pc.1, pc.2, cvs, ct, rfl, hz, z3, z4⟩
      rw [e] at hcr
      exact hl.noCode _ hcr
    have hz7 := gb.keep z.1 z.2.1 pcne hz6
    have gb7 := GB.trans hl (GB.of_grow hl gs6) gb n30.1 n30.2
    have g07 : ∃ s₀', Base w s₀'.heap ∧ Grow s₀' s₇ ∧ s₀'.heap.get? a = none := by
      obtain ⟨h₁, b1, l1, g1⟩ := gb
      exact ⟨s₀, b0, ((g0.trans gs6).turn (tk := s₆.toks) b1 hn b0 l6.noCode).trans g1, hn⟩
    obtain ⟨s₀', b0', g0', hn'⟩ := g07
    have lx : (xs.take L ++ dgs n (m - L) (x % 2 ^ sh) ++ xs.drop m).length = xs.length := by
      rw [List.length_append, List.length_append, dgs_length, List.length_take, List.length_drop]; omega
    have c2' := ih m R (x / 2 ^ sh) _ m2 (by rw [lx]; exact hR) (by rw [lx]; exact hsz) (by omega) (by omega) hy2 hb2
    refine wpAny_execs_cons (st_inner z st7 r' b0' g0' hn' hz7 haH' hac l7 (by walk_at "lk") rfl (fun sx Q E g h => (by walk_at "es" : ES w k _ _ _ _) _ _ A' sx Q E r' (st7.grow g) h) c2' hcap hcl (fun s₈ gb8 => wpAny_execs_nil (hQ s₈ ?_)))
    have := GB.trans hl gb7 gb8 n30.1 n30.2
    have e3 : (xs.take L ++ dgs n (m - L) (x % 2 ^ sh) ++ xs.drop m).take m ++ dgs n (R - m) (x / 2 ^ sh) ++ (xs.take L ++ dgs n (m - L) (x % 2 ^ sh) ++ xs.drop m).drop R = xs.take L ++ dgs n (R - L) x ++ xs.drop R := by
      have l1 : (xs.take L ++ dgs n (m - L) (x % 2 ^ sh)).length = m := by rw [List.length_append, dgs_length, List.length_take]; omega
      rw [List.take_append_of_le_length (by omega), List.take_of_length_le (by omega), List.drop_append, List.drop_of_length_le (by omega), List.nil_append, l1, List.drop_drop, show m + (R - m) = R by omega, show R - L = (m - L) + (R - m) by omega, dgs_split, hsh]
      simp only [List.append_assoc]
    rw [e3] at this
    exact this
theorem cli_i2d {w : World} {n : Nat} {a f : Addr} {pc : Addr × Obj} {c1 c2 c3 : Addr} {doc pm ctv : Value} (hn1 : n ≤ 60) (z : CodeAt pc (Str.ofString "_int2digits.<locals>.inner")) :
    ∀ (k L R x : Nat) (xs : List Int), L < R → R ≤ xs.length → xs.length ≤ 1000 → x < 2 ^ (n * (R - L)) → n * (R - L) ≤ 60 → R - L ≤ 2 ^ k → CLI w (k + 1) f pc (eCl c1 c2 c3) (eCap a n f (eObj (eCl c1 c2 c3) doc pm pc.1 ctv)) a x L R xs (xs.take L ++ dgs n (R - L) x ++ xs.drop R)
  | 0, L, R, x, xs, h1, h2, h3, h4, h5, h6 => cli_turn hn1 z h1 h2 h3 h4 h5 fun L' R' _ _ _ _ _ _ h => by simp at h6; omega
  | k + 1, L, R, x, xs, h1, h2, h3, h4, h5, h6 => cli_turn hn1 z h1 h2 h3 h4 h5 fun L' R' x' xs' a b c d _ e g => cli_i2d hn1 z k L' R' x' xs' a b c e g (by rw [Nat.pow_succ] at h6; omega)

theorem f35 (w : World) : (KF w.params).lookup 35 = some (fnObj (fnAt 4 "cpy313._pylong" 187 34)) := by kernel_rfl
theorem rep_ints (m : Nat) (i : Int) : (List.replicate m [D.int i]).flatten = iL (List.replicate m i) := by
  induction m with
  | zero => rfl
  | succ m ih => rw [List.replicate_succ, List.flatten_cons, ih, List.replicate_succ]; rfl
theorem Fm.rawOwn {w : World} {env : Env} {Γ : List (Str × D)} {x : Str} {d : D} {a : Addr} {S : List Addr} {pn : List (Addr × Obj)} {gv : List (D × Value)} {s₀ s : Shared} (F : Fm w env Γ (some (x, d)) [a] S pn gv s₀ s) : St w env ((x, .raw (.ref a) []) :: Γ) ([a] ++ (frameAddrs env ++ S)) s := by
  have st := F.st
  obtain ⟨m, n, vr⟩ := st.vars
  refine ⟨st.ok, st.base, st.tabs, st.dom, st.loc, st.cel, m, n, fun y dy hy => ?_⟩
  rw [List.lookup_cons] at hy
  cases hb : y == x with
  | false => rw [hb] at hy; exact vr y dy hy
  | true =>
    rw [hb] at hy
    cases hy
    rw [beq_iff_eq.mp hb]
    have ow := F.owned
    unfold Owned at ow
    obtain ⟨hdb, a', h1, _, ⟨m', n', hv⟩, _⟩ := ow
    cases h1
    have em := ns_unique n n'; subst em
    exact ⟨hdb, _, hv, is_raw.mpr ⟨rfl, fun _ h => nomatch h⟩⟩
theorem cl_int2digits {w : World} {k a n m : Nat} (hn : 1 ≤ n) (hn1 : n ≤ 60) (hm : (Builtin.Int.intBits (a : Int) + n - 1) / n = m) (hm1 : m ≤ 64) (hnm : n * m ≤ 60) (ha : a < 2 ^ (n * m)) : CL w (k + 8) (.ref 35) [.int a, .int n] (.lst (iL (dgs n m a))) := by
  refine cl_fn2 (k := k + 7) (names := ["a", "n"]) (Γ := [(Str.ofString "n", .int n), (Str.ofString "a", .int a)]) (f35 w) rfl rfl rfl rfl (by kernel_rfl) (by kernel_rfl) (by walk_at "bind") (by kernel_rfl) fun L => ?_
  intro A own S pn gv s₀ s Q E r F hQ
  have hq : ((Builtin.Int.intBits (a : Int) : Int) + (n : Int) - 1).fdiv (n : Int) = (m : Int) := by
    rw [Int.fdiv_eq_ediv_of_nonneg _ (by omega), ← hm]
    have : (Builtin.Int.intBits (a : Int) : Int) + (n : Int) - 1 = ((Builtin.Int.intBits (a : Int) + n - 1 : Nat) : Int) := by omega
    rw [this]; norm_cast
  have hrep : (List.replicate (m : Int).toNat [D.int 0]).flatten = iL (List.replicate m 0) := by rw [Int.toNat_natCast, rep_ints]
  refine wpAny_execs_cons (ex_own (d := .lst (iL (List.replicate m 0))) (by
    rw [← hrep, ← hq]
    exact fv_mul (by walk_at "e") (ev_binop (ev_binop (ev_binop (ev_meth0 (by walk_at "e") ty_int PySem.F.plainAttrs_int PySem.F.slot_int_bit_length PySem.F.type_int_bit_length cl_bits rfl rfl) (by walk_at "e") bo_add) (by walk_at "e") bo_sub) (by walk_at "e") (bo_fdiv (by omega) (PyProof.noPylong_small (by omega)))) (by rw [hq]; omega) (by rw [hq]; simp; omega) (by rw [hq]; omega)) (by walk_at "stoc") (by kernel_rfl) rfl A own S pn gv s₀ s _ E r F fun own s₁ F => ?_)
  obtain ⟨b, rfl⟩ := F.own_one
  have hcl : clOf (callEnvC (fnAt 4 "cpy313._pylong" 187 34) L 35) (innerScope 4).names [] = some (eCl (L + 1) (L + 3) (L + 2)) := by kernel_rfl
  refine wp_exs_def (P := 30) (c := 34) (.inl ⟨rfl, rfl⟩) (params := innerParams 4) (body := innerBody 4) (scope := innerScope 4) F rfl hcl (by kernel_rfl) rfl rfl rfl (by walk_at "stoc") fun f s₂ pc ctv doc pm z F => ?_
  have ret : ∀ s', Fm w (callEnvC (fnAt 4 "cpy313._pylong" 187 34) L 35) ((Str.ofString "inner", .raw (.ref f) [(f, eObj (eCl (L + 1) (L + 3) (L + 2)) doc pm pc.1 ctv)]) :: [(Str.ofString "n", .int n), (Str.ofString "a", .int a)]) (some (Str.ofString "a_digits", .lst (iL (dgs n m a)))) [b] S (pc :: pn) gv s₀ s' → ∀ p q, wpAny (model PG w) A (execs [.Return (some (.Name (Str.ofString "a_digits") p)) q] (callEnvC (fnAt 4 "cpy313._pylong" 187 34) L 35)) Q E s' := fun s' F' p q =>
    exs_ret (ex_return (ev_name lk_hd)) A [b] S (pc :: pn) gv s₀ s' Q E r F' hQ
  refine wpAny_execs_cons (wpAny_If ((tv_value (by walk_at "e") tr_int rfl : TV w (k + 7) _ _ _ _) _ A s₂ _ E r F.st fun s₃ g₃ => ?_))
  have F3 := F.grew g₃
  by_cases h0 : a = 0
  · subst h0
    rw [if_neg (by simp)]
    have hm0 : m = 0 := by
      rw [← hm, show Builtin.Int.intBits ((0 : Nat) : Int) = 0 from rfl]
      exact Nat.div_eq_of_lt (by omega)
    subst hm0
    exact wpAny_execs_nil (ret s₃ F3 _ _)
  · rw [if_pos (by simp; omega)]
    have hm0 : 0 < m := by
      rcases Nat.eq_zero_or_pos m with h | h
      · subst h; rw [Nat.mul_zero, Nat.pow_zero] at ha; omega
      · exact h
    obtain ⟨_, b', eb, hbn, _, ow⟩ := F3.owned
    cases eb
    have hl : LsI w s₃.heap b (List.replicate m 0) := by
      obtain ⟨vs, l, il⟩ := ow; exact ⟨vs, l, isL_flat il⟩
    have hcells : (callEnvC (fnAt 4 "cpy313._pylong" 187 34) L 35).cells = [(Str.ofString "inner", L + 3), (Str.ofString "a_digits", L + 2), (Str.ofString "n", L + 1)] := by kernel_rfl
    have hac : ∀ q ∈ eCl (L + 1) (L + 3) (L + 2), q.2 ≠ b := fun q hq e => by
      refine hbn (List.mem_append_left _ (List.mem_cons_of_mem _ ?_))
      rw [hcells, ← e]
      simp only [eCl, List.mem_cons, List.not_mem_nil, or_false] at hq
      rcases hq with rfl | rfl | rfl <;> simp
    have hcap : ∀ y dy, (eCap b n f (eObj (eCl (L + 1) (L + 3) (L + 2)) doc pm pc.1 ctv)).lookup y = some dy → ((Str.ofString "a_digits", .raw (.ref b) []) :: (Str.ofString "inner", .raw (.ref f) [(f, eObj (eCl (L + 1) (L + 3) (L + 2)) doc pm pc.1 ctv)]) :: [(Str.ofString "n", .int n), (Str.ofString "a", .int a)]).lookup y = some dy ∧
        ((callEnvC (fnAt 4 "cpy313._pylong" 187 34) L 35).kindOf y = some .cell ∨ (callEnvC (fnAt 4 "cpy313._pylong" 187 34) L 35).kindOf y = some .free) ∧ (callEnvC (fnAt 4 "cpy313._pylong" 187 34) L 35).cells.lookup y = (eCl (L + 1) (L + 3) (L + 2)).lookup y := fun y dy hy => by
      rcases lookup3 hy with ⟨rfl, rfl⟩ | ⟨rfl, rfl⟩ | ⟨rfl, rfl⟩
      · exact ⟨by walk_at "lk", .inl (by kernel_rfl), by kernel_rfl⟩
      · exact ⟨by walk_at "lk", .inl (by kernel_rfl), by kernel_rfl⟩
      · exact ⟨by walk_at "lk", .inl (by kernel_rfl), by kernel_rfl⟩
    have hcl2 : ∀ q ∈ eCl (L + 1) (L + 3) (L + 2), q ∈ (callEnvC (fnAt 4 "cpy313._pylong" 187 34) L 35).cells ∧ ((eCap b n f (eObj (eCl (L + 1) (L + 3) (L + 2)) doc pm pc.1 ctv)).lookup q.1).isSome = true ∧ (eCl (L + 1) (L + 3) (L + 2)).lookup q.1 = some q.2 := fun q hq => by
      rw [hcells]
      simp only [eCl, List.mem_cons, List.not_mem_nil, or_false] at hq
      rcases hq with rfl | rfl | rfl
      · exact ⟨.tail _ (.tail _ (.head _)), by kernel_rfl, by kernel_rfl⟩
      · exact ⟨.head _, by kernel_rfl, by kernel_rfl⟩
      · exact ⟨.tail _ (.head _), by kernel_rfl, by kernel_rfl⟩
    have c0 : CLI w (6 + 1) f pc (eCl (L + 1) (L + 3) (L + 2)) (eCap b n f (eObj (eCl (L + 1) (L + 3) (L + 2)) doc pm pc.1 ctv)) b a 0 m (List.replicate m 0) _ := cli_i2d hn1 z 6 0 m a (List.replicate m 0) hm0 (by simp) (by simp; omega) (by simpa using ha) (by simpa using hnm) (by simpa using hm1)
    have e0 : (List.replicate m (0 : Int)).take 0 ++ dgs n (m - 0) a ++ (List.replicate m (0 : Int)).drop m = dgs n m a := by simp
    rw [e0] at c0
    have base3 := F3.st.base
    refine wpAny_execs_cons (st_inner (H := [b] ++ (frameAddrs (callEnvC (fnAt 4 "cpy313._pylong" 187 34) L 35) ++ S)) z F3.rawOwn (r.le (show 6 + 1 ≤ k + 7 by omega)) F3.base0 F3.grow (F3.new b (.head _)) (F3.pin pc (.head _)).1 (.head _) hac hl (by walk_at "lk") rfl (fun sx Q E g h => ?_) c0 hcap hcl2 (fun s₅ gb => wpAny_execs_nil ?_))
    · refine ((es_cons (by walk_at "e") (es_cons ev_int (es_cons (ev_call (callee_len w) (by kernel_rfl) (by kernel_rfl) (es_cons (ev_name lk_hd) es_nil) (by have := cl_len_list (w := w) (k := k + 7) (ds := iL (List.replicate m 0)) (by simp; omega); rw [List.length_map, List.length_replicate] at this; exact this)) es_nil))) : ES w (k + 7) (callEnvC (fnAt 4 "cpy313._pylong" 187 34) L 35) ((Str.ofString "a_digits", .lst (iL (List.replicate m 0))) :: (Str.ofString "inner", .raw (.ref f) [(f, eObj (eCl (L + 1) (L + 3) (L + 2)) doc pm pc.1 ctv)]) :: [(Str.ofString "n", .int n), (Str.ofString "a", .int a)]) _ _) _ _ A sx Q E r (F3.grew g).full fun vs s₂ g₂ i₂ => h vs s₂ g₂ ?_
      exact (isL_flat (ns := [(a : Int), 0, (m : Int)]) i₂)
    · obtain ⟨h₁, b1, ⟨us, l1, i1⟩, g1⟩ := gb
      exact ret s₅ ((F3.own_set (d' := .lst (iL (dgs n m a))) (tk := s₃.toks) b1 ⟨us, l1, isL_flat i1⟩).grew g1) _ _

section
variable {w : World} {k : Nat} {env : Env} {Γ Γ' : List (Str × D)} {O O' : Option (Str × D)} {x y : Str} {d d' : D}
/-- a loop whose names are a function of its state; I sees what is still to come -/
theorem for_rest {target : Expr} {body : List Stmt} {σ α : Type} (I : List α → σ → Prop) (Γf : σ → List (Str × D)) (Of : σ → Option (Str × D)) (dv : α → D) (step : σ → α → σ)
    (h : ∀ s a r, I (a :: r) s → I r (step s a) ∧ ∃ bs, bindsI target (dv a) = some bs ∧ (∀ p ∈ bs, Stores env (Of s) p.1) ∧ EXS w k env (bs ++ Γf s) (Of s) body (.next (Γf (step s a)) (Of (step s a)))) :
    ∀ (l : List α) (s : σ), I l s → LoopF w k env target body (l.map dv) (Γf s) (Of s) (.next (Γf (l.foldl step s)) (Of (l.foldl step s)))
  | [], s, _ => .nil _ _
  | a :: l, s, i => by
    obtain ⟨i', bs, h1, h2, h3⟩ := h s a l i
    exact .turn h1 h2 h3 (for_rest I Γf Of dv step h l _ i')
/-- a list comprehension that filters and maps -/
theorem comp_map {target elt : Expr} {ifs : List Expr} {α : Type} (dv fv : α → D) (kp : α → Bool) : ∀ (l : List α),
    (∀ a ∈ l, ∃ bs, bindsI target (dv a) = some bs ∧ (∀ p ∈ bs, Γ.lookup p.1 = none) ∧ TVs w k env (bs ++ Γ) ifs (kp a) ∧ (kp a = true → EV w k env (bs ++ Γ) elt (fv a))) →
    CompL w k env Γ target ifs elt (l.map dv) ((l.filter kp).map fv)
  | [], _ => .nil
  | a :: l, h => by
    obtain ⟨bs, h1, h2, h3, h4⟩ := h a (.head _)
    have ih := comp_map dv fv kp l fun b hb => h b (.tail _ hb)
    cases hk : kp a with
    | true =>
      rw [hk] at h3
      rw [List.filter_cons_of_pos hk]
      exact .keep h1 h2 h3 (h4 hk) ih
    | false =>
      rw [hk] at h3
      rw [List.filter_cons_of_neg (by rw [hk]; exact Bool.false_ne_true)]
      exact .skip h1 h2 h3 ih
theorem comp_all {target elt : Expr} {α : Type} (dv fv : α → D) (l : List α)
    (h : ∀ a ∈ l, ∃ bs, bindsI target (dv a) = some bs ∧ (∀ p ∈ bs, Γ.lookup p.1 = none) ∧ EV w k env (bs ++ Γ) elt (fv a)) :
    CompL w k env Γ target [] elt (l.map dv) (l.map fv) := by
  have := comp_map (w := w) (k := k) (env := env) (Γ := Γ) (target := target) (elt := elt) (ifs := []) dv fv (fun _ => true) l fun a ha => by
    obtain ⟨bs, h1, h2, h3⟩ := h a ha
    exact ⟨bs, h1, h2, rfl, fun _ => h3⟩
  rwa [List.filter_eq_self.mpr (fun _ _ => rfl)] at this
end
theorem pairs_ints : ∀ (ks ns : List Int), pairs ks (iL ns) = (ks.zip ns).map fun p => .own [.int p.1, .int p.2]
  | [], _ => rfl
  | _ :: _, [] => rfl
  | q :: ks, v :: ns => by
    have := pairs_ints ks ns
    simp only [pairs, iL, List.map_cons, List.zip_cons_cons] at this ⊢
    rw [this]
theorem zipset_ints (q v : Int) : ∀ (ks ns : List Int), (ks.zip (iL ns)).map (fun p => if p.1 = q then D.int v else p.2) = iL ((ks.zip ns).map fun p => if p.1 = q then v else p.2)
  | [], _ => rfl
  | _ :: _, [] => rfl
  | k :: ks, n :: ns => by
    have ih := zipset_ints q v ks ns
    simp only [iL, List.map_cons, List.zip_cons_cons] at ih ⊢
    rw [ih]
    by_cases e : k = q <;> simp [e]
theorem dVals_ints (ks ns : List Int) (q v : Int) : dVals ks (iL ns) q (.int v) = iL (dVals ks ns q v) := by
  unfold dVals
  split
  · exact zipset_ints q v ks ns
  · simp [iL]
theorem dVals_length {α : Type} (ks : List Int) (ns : List α) (q : Int) (v : α) (h : ks.length = ns.length) : (dKeys ks q).length = (dVals ks ns q v).length ∧ (dKeys ks q).length ≤ ks.length + 1 := by
  unfold dKeys dVals
  split
  · simp [h]
  · simp [h]
/-- a dict of ints: a key's value set; a key's value added to -/
abbrev Dc := List Int × List Int
def dPut (s : Dc) (p : Int × Int) : Dc := (dKeys s.1 p.1, dVals s.1 s.2 p.1 p.2)
def dGet (s : Dc) (q : Int) : Int := (((s.1.zip s.2).find? (fun p => p.1 == q)).map (·.2)).getD 0
def dAdd (s : Dc) (p : Int × Int) : Dc := if s.1.contains p.1 then dPut s (p.1, dGet s p.1 + p.2) else dPut s p
/-- what add_callers makes -/
def adC (t s : Dc) : Dc := (s.1.zip s.2).foldl dAdd ((t.1.zip t.2).foldl dPut ([], []))
abbrev dcD (s : Dc) : D := .dct s.1 (iL s.2)
theorem dAt_ints {q : Int} : ∀ {ks ns : List Int}, ks.length = ns.length → ks.contains q = true → dAt ks (iL ns) q = some (.int (dGet (ks, ns) q))
  | [], _, _, h => by simp at h
  | k :: ks, [], h, _ => nomatch h
  | k :: ks, n :: ns, hl, h => by
    simp only [dAt, dGet, iL, List.map_cons, List.zip_cons_cons, List.find?_cons]
    by_cases e : k = q
    · simp [e]
    · have hb : (k == q) = false := by simpa using e
      rw [hb]
      have hc : ks.contains q = true := by
        rw [List.contains_cons] at h
        have hb2 : (q == k) = false := by simpa using fun h : q = k => e h.symm
        simpa [hb2] using h
      have := dAt_ints (ks := ks) (ns := ns) (by simpa using hl) hc
      simpa only [dAt, dGet, iL] using this
theorem f105 (w : World) : (KF w.params).lookup 105 = some (fnObj (fnAt 14 "cpy313.pstats" 285 104)) := by kernel_rfl
theorem callee_isinst (w : World) : Callee w (Str.ofString "isinstance") (.builtin "isinstance") := .bi "isinstance" (by kernel_rfl) (by decide +kernel) (by decide +kernel)
def DcOk (n : Nat) (s : Dc) : Prop := s.1.length = s.2.length ∧ s.1.length ≤ n
theorem dPut_ok {n : Nat} {s : Dc} (h : DcOk n s) (p : Int × Int) : DcOk (n + 1) (dPut s p) := by
  obtain ⟨h1, h2⟩ := dVals_length s.1 s.2 p.1 p.2 h.1
  exact ⟨h1, by show (dKeys s.1 p.1).length ≤ n + 1; have := h.2; omega⟩
theorem dAdd_ok {n : Nat} {s : Dc} (h : DcOk n s) (p : Int × Int) : DcOk (n + 1) (dAdd s p) := by
  unfold dAdd; split <;> exact dPut_ok h _
theorem cl_add_callers {w : World} {k : Nat} {t s : Dc} (ht : DcOk 1000 t) (hs : DcOk 1000 s) : CL w (k + 1) (.ref 105) [dcD t, dcD s] (dcD (adC t s)) := by
  refine cl_fn2 (names := ["target", "source"]) (Γ := [(Str.ofString "source", dcD s), (Str.ofString "target", dcD t)]) (f105 w) rfl rfl rfl rfl (by kernel_rfl) (by kernel_rfl) (by walk_at "bind") (by kernel_rfl) fun L => ?_
  refine exs_cons (ex_own_dict0 (by walk_at "sto") rfl rfl) ?_
  have hz1 : (t.1.zip t.2).length ≤ 1000 := by rw [List.length_zip]; have := ht.2; omega
  have hz2 : (s.1.zip s.2).length ≤ 1000 := by rw [List.length_zip]; have := hs.2; omega
  have okT : ∀ (l : List (Int × Int)) (n : Nat) (u : Dc), DcOk n u → DcOk (n + l.length) (l.foldl dPut u) := fun l => by
    induction l with
    | nil => intro n u h; exact h
    | cons p l ih => intro n u h; have := ih (n + 1) _ (dPut_ok h p); rw [List.length_cons]; rw [show n + (l.length + 1) = n + 1 + l.length by omega]; exact this
  have ok1 := okT (t.1.zip t.2) 0 ([], []) ⟨rfl, Nat.le_refl _⟩
  refine exs_cons (ex_for (ds := (t.1.zip t.2).map fun p => .own [.int p.1, .int p.2]) (by rw [← pairs_ints]; exact ie_items (by walk_at "e")) (for_rest (σ := Dc) (α := Int × Int) (fun l u => DcOk (2000 - l.length) u ∧ l.length ≤ 2000) (fun _ => [(Str.ofString "source", dcD s), (Str.ofString "target", dcD t)]) (fun u => some (Str.ofString "new_callers", dcD u)) (fun p => .own [.int p.1, .int p.2]) dPut (fun u p l hu => ⟨⟨?_, ?_⟩, [(Str.ofString "caller", .int p.2), (Str.ofString "func", .int p.1)], rfl, by walk_at "stos", ?_⟩) (t.1.zip t.2) ([], []) ⟨⟨rfl, Nat.zero_le _⟩, by omega⟩)) ?_
  · have := dPut_ok hu.1 p
    have h2 := hu.2
    rw [List.length_cons] at this h2
    rwa [show 2000 - (l.length + 1) + 1 = 2000 - l.length by omega] at this
  · have h2 := hu.2; rw [List.length_cons] at h2; omega
  · have e : (dcD (dPut u p) : D) = .dct (dKeys u.1 p.1) (dVals u.1 (iL u.2) p.1 (.int p.2)) := by rw [dVals_ints]; rfl
    rw [e]
    dsimp only [List.cons_append, List.nil_append]
    refine out_weaken (exs_cons (ex_own_dset (d := .int p.2) (q := p.1) (by walk_at "e") (by walk_at "lk") ?_ rfl) exs_nil) (by walk_at "weak")
    have := hu.1.2; omega
  refine exs_cons (ex_for (ds := (s.1.zip s.2).map fun p => .own [.int p.1, .int p.2]) (by rw [← pairs_ints]; exact ie_items (by walk_at "e")) (for_rest (σ := Dc) (α := Int × Int) (fun l u => DcOk (4000 - l.length) u ∧ l.length ≤ 2000) (fun _ => [(Str.ofString "source", dcD s), (Str.ofString "target", dcD t)]) (fun u => some (Str.ofString "new_callers", dcD u)) (fun p => .own [.int p.1, .int p.2]) dAdd (fun u p l hu => ⟨⟨?_, ?_⟩, [(Str.ofString "caller", .int p.2), (Str.ofString "func", .int p.1)], rfl, by walk_at "stos", ?_⟩) (s.1.zip s.2) _ ⟨⟨ok1.1, ?_⟩, by omega⟩)) ?_
  · have := dAdd_ok hu.1 p
    have h2 := hu.2
    rw [List.length_cons] at this h2
    rwa [show 4000 - (l.length + 1) + 1 = 4000 - l.length by omega] at this
  · have h2 := hu.2; rw [List.length_cons] at h2; omega
  · have hsz : u.1.length ≤ 1000000 := by have := hu.1.2; omega
    dsimp only [List.cons_append, List.nil_append]
    refine out_weaken (Γ' := [(Str.ofString "caller", .int p.2), (Str.ofString "func", .int p.1), (Str.ofString "source", dcD s), (Str.ofString "target", dcD t)]) (exs_cons (ex_if (b := u.1.contains p.1) (by dsimp only [full]; refine tv_cmp (by walk_at "e") (by walk_at "e") (cp_in_dict (by rw [List.length_map]; exact hu.1.1))) ?_) exs_nil) (by walk_at "weak")
    have e1 : ∀ z, (dcD (dPut u (p.1, z)) : D) = .dct (dKeys u.1 p.1) (dVals u.1 (iL u.2) p.1 (.int z)) := fun z => by rw [dVals_ints]; rfl
    cases hc : u.1.contains p.1 with
    | true =>
      have e2 : dAdd u p = dPut u (p.1, dGet u p.1 + p.2) := by unfold dAdd; rw [if_pos hc]
      rw [e2, e1]
      exact exs_cons (ex_if (b := false) (by dsimp only [full]; exact tv_value (ev_call (callee_isinst w) (by kernel_rfl) (by kernel_rfl) (es_cons (by walk_at "e") (es_cons (ev_bi (v := .type "tuple") (by kernel_rfl) (by decide +kernel) (by decide +kernel) (by kernel_rfl) (by kernel_rfl)) es_nil)) (cl_isinst_int (by decide +kernel) (by rfl) (by rw [isSubtype_type]; kernel_rfl))) tr_bool rfl) (exs_cons (ex_own_dadd (by walk_at "e") (by walk_at "lk") (dAt_ints hu.1.1 hc) hsz) exs_nil)) exs_nil
    | false =>
      have e2 : dAdd u p = dPut u (p.1, p.2) := by unfold dAdd; rw [if_neg (by rw [hc]; exact Bool.false_ne_true)]
      rw [e2, e1]
      exact exs_cons (ex_own_dset (d := .int p.2) (q := p.1) (by walk_at "e") (by walk_at "lk") hsz rfl) exs_nil
  · have := ok1.2; omega
  show EXS w k _ [(Str.ofString "source", dcD s), (Str.ofString "target", dcD t)] (some (Str.ofString "new_callers", dcD (adC t s))) _ (.ret (dcD (adC t s)))
  exact exs_ret (ex_return (ev_name lk_hd))

/-- an entry of a profile -/
structure Row where
  c : Int
  n : Int
  t : Int
  u : Int
  m : Dc
abbrev Row.l (r : Row) : List D := [.int r.c, .int r.n, .int r.t, .int r.u, dcD r.m]
abbrev Row.d (r : Row) : D := .tup r.l
/-- what add_func_stats makes: target, source -/
def Row.add (t s : Row) : Row := ⟨s.c + t.c, s.n + t.n, s.t + t.t, s.u + t.u, adC t.m s.m⟩
theorem f98 (w : World) : (KF w.params).lookup 98 = some (fnObj (fnAt 13 "cpy313.pstats" 285 97)) := by kernel_rfl
theorem callee_adc (w : World) : Callee w (Str.ofString "add_callers") (.ref 105) := .fn 105 _ _ (by kernel_rfl) (f105 w) rfl
theorem cl_add_stats {w : World} {k : Nat} {t s : Row} (ht : DcOk 1000 t.m) (hs : DcOk 1000 s.m) : CL w (k + 2) (.ref 98) [t.d, s.d] (t.add s).d := by
  refine cl_fn2 (names := ["target", "source"]) (Γ := [(Str.ofString "source", s.d), (Str.ofString "target", t.d)]) (f98 w) rfl rfl rfl rfl (by kernel_rfl) (by kernel_rfl) (by walk_at "bind") (by kernel_rfl) fun L => ?_
  refine exs_cons (ex_unpack (d := s.d) (bs := [(Str.ofString "callers", dcD s.m), (Str.ofString "ct", .int s.u), (Str.ofString "tt", .int s.t), (Str.ofString "nc", .int s.n), (Str.ofString "cc", .int s.c)]) (by walk_at "e") rfl (by walk_at "stos") rfl rfl) ?_
  dsimp only [List.cons_append, List.nil_append]
  refine exs_cons (ex_unpack (d := t.d) (bs := [(Str.ofString "t_callers", dcD t.m), (Str.ofString "t_ct", .int t.u), (Str.ofString "t_tt", .int t.t), (Str.ofString "t_nc", .int t.n), (Str.ofString "t_cc", .int t.c)]) (by walk_at "e") rfl (by walk_at "stos") rfl rfl) ?_
  dsimp only [List.cons_append, List.nil_append]
  refine exs_ret (ex_return ?_)
  dsimp only [full, Row.d, Row.l, Row.add]
  exact ev_tuple (es_cons (by walk_at "e") (es_cons (by walk_at "e") (es_cons (by walk_at "e") (es_cons (by walk_at "e") (es_cons (ev_call (callee_adc w) (by kernel_rfl) (by kernel_rfl) (by walk_at "es") (cl_add_callers ht hs)) es_nil)))))

/-- an order by two keys, the second either way -/
def cmp2 (way a0 a1 b0 b1 : Int) : Int := if a0 < b0 then -1 else if b0 < a0 then 1 else if a1 < b1 then -way else if b1 < a1 then way else 0
abbrev keysD (way : Int) : List D := [.tup [.int 0, .int 1], .tup [.int 1, .int way]]
def cmpBody : List Stmt := match (methAt 1 "TupleComp.compare" 83).body with
  | .stmts (.For _ _ b _ _ :: _) => b
  | _ => []
def cmpOut (Γ : List (Str × D)) (dir a b : Int) : Out := if a < b then .ret (.int (-dir)) else if b < a then .ret (.int dir) else .next ((Str.ofString "r", .int b) :: (Str.ofString "l", .int a) :: Γ) none
theorem cmp_turn {w : World} {k : Nat} {L : Addr} {j : Nat} {dir a b : Int} {da db : List D} {Γr : List (Str × D)} (ha : da[j]? = some (.int a)) (hb : db[j]? = some (.int b)) (hj : j < 100)
    (hl : Γr.lookup (Str.ofString "left") = some (.tup da)) (hr : Γr.lookup (Str.ofString "right") = some (.tup db)) :
    EXS w k (callEnvC (methAt 1 "TupleComp.compare" 83) L 84) ((Str.ofString "direction", .int dir) :: (Str.ofString "index", .int j) :: Γr) none cmpBody (cmpOut ((Str.ofString "direction", .int dir) :: (Str.ofString "index", .int j) :: Γr) dir a b) := by
  have sa : seqIndex? (j : Int) da.length = some j := seqIndex_nat (List.getElem?_eq_some_iff.mp ha).1
  have sb : seqIndex? (j : Int) db.length = some j := seqIndex_nat (List.getElem?_eq_some_iff.mp hb).1
  refine exs_cons (ex_assign (d := .int a) (ev_sub (ev_name (lk_tl (by kernel_rfl) (lk_tl (by kernel_rfl) hl))) (by walk_at "e") (it_tuple sa ha (by omega) (by omega))) (by walk_at "sto") rfl) ?_
  refine exs_cons (ex_assign (d := .int b) (ev_sub (ev_name (lk_tl (by kernel_rfl) (lk_tl (by kernel_rfl) (lk_tl (by kernel_rfl) hr)))) (by walk_at "e") (it_tuple sb hb (by omega) (by omega))) (by walk_at "sto") rfl) ?_
  unfold cmpOut
  by_cases h1 : a < b
  · rw [if_pos h1]
    refine exs_ret (ex_if (b := true) (by dsimp only [full]; rw [show true = decide (a < b) from (decide_eq_true h1).symm]; walk_at "t") ?_)
    exact exs_ret (ex_return (by dsimp only [full]; walk_at "e"))
  · rw [if_neg h1]
    refine exs_cons (ex_if (b := false) (by dsimp only [full]; rw [show false = decide (a < b) from (decide_eq_false h1).symm]; walk_at "t") exs_nil) ?_
    by_cases h2 : b < a
    · rw [if_pos h2]
      refine exs_ret (ex_if (b := true) (by dsimp only [full]; rw [show true = decide (b < a) from (decide_eq_true h2).symm]; walk_at "t") ?_)
      exact exs_ret (ex_return (by dsimp only [full]; walk_at "e"))
    · rw [if_neg h2]
      exact exs_cons (ex_if (b := false) (by dsimp only [full]; rw [show false = decide (b < a) from (decide_eq_false h2).symm]; walk_at "t") exs_nil) exs_nil
theorem cl_compare {w : World} {k : Nat} {way a0 a1 b0 b1 : Int} {ra rb : List D} : CL w (k + 1) (.ref 84) [.ord (.lst (keysD way)), .tup (.int a0 :: .int a1 :: ra), .tup (.int b0 :: .int b1 :: rb)] (.int (cmp2 way a0 a1 b0 b1)) := by
  refine cl_fn2 (names := ["self", "left", "right"]) (Γ := [(Str.ofString "right", .tup (.int b0 :: .int b1 :: rb)), (Str.ofString "left", .tup (.int a0 :: .int a1 :: ra)), (Str.ofString "self", .ord (.lst (keysD way)))]) (f84 w) rfl rfl rfl rfl (by kernel_rfl) (by kernel_rfl) (by walk_at "bind") (by kernel_rfl) fun L => ?_
  have t0 := cmp_turn (w := w) (k := k) (L := L) (j := 0) (dir := 1) (a := a0) (b := b0) (da := .int a0 :: .int a1 :: ra) (db := .int b0 :: .int b1 :: rb) (Γr := [(Str.ofString "right", .tup (.int b0 :: .int b1 :: rb)), (Str.ofString "left", .tup (.int a0 :: .int a1 :: ra)), (Str.ofString "self", .ord (.lst (keysD way)))]) rfl rfl (by decide) (by walk_at "lk") (by walk_at "lk")
  unfold cmpOut at t0
  unfold cmp2
  by_cases h1 : a0 < b0
  · rw [if_pos h1] at t0 ⊢
    exact exs_ret (ex_for (out := .ret (.int (-1))) (ie_list (ev_ordlist (by walk_at "lk") rfl)) (.ret (bs := [(Str.ofString "direction", .int 1), (Str.ofString "index", .int 0)]) rfl (by walk_at "stos") t0) (fun _ => rfl))
  · rw [if_neg h1] at t0 ⊢
    by_cases h2 : b0 < a0
    · rw [if_pos h2] at t0 ⊢
      exact exs_ret (ex_for (out := .ret (.int 1)) (ie_list (ev_ordlist (by walk_at "lk") rfl)) (.ret (bs := [(Str.ofString "direction", .int 1), (Str.ofString "index", .int 0)]) rfl (by walk_at "stos") t0) (fun _ => rfl))
    · rw [if_neg h2] at t0 ⊢
      have t1 := cmp_turn (w := w) (k := k) (L := L) (j := 1) (dir := way) (a := a1) (b := b1) (da := .int a0 :: .int a1 :: ra) (db := .int b0 :: .int b1 :: rb) (Γr := (Str.ofString "r", .int b0) :: (Str.ofString "l", .int a0) :: (Str.ofString "direction", .int 1) :: (Str.ofString "index", .int 0) :: [(Str.ofString "right", .tup (.int b0 :: .int b1 :: rb)), (Str.ofString "left", .tup (.int a0 :: .int a1 :: ra)), (Str.ofString "self", .ord (.lst (keysD way)))]) rfl rfl (by decide) (by walk_at "lk") (by walk_at "lk")
      unfold cmpOut at t1
      by_cases h3 : a1 < b1
      · rw [if_pos h3] at t1 ⊢
        exact exs_ret (ex_for (out := .ret (.int (-way))) (ie_list (ev_ordlist (by walk_at "lk") rfl)) (.turn (bs := [(Str.ofString "direction", .int 1), (Str.ofString "index", .int 0)]) rfl (by walk_at "stos") t0 (.ret (bs := [(Str.ofString "direction", .int way), (Str.ofString "index", .int 1)]) rfl (by walk_at "stos") t1)) (fun _ => rfl))
      · rw [if_neg h3] at t1 ⊢
        by_cases h4 : b1 < a1
        · rw [if_pos h4] at t1 ⊢
          exact exs_ret (ex_for (out := .ret (.int way)) (ie_list (ev_ordlist (by walk_at "lk") rfl)) (.turn (bs := [(Str.ofString "direction", .int 1), (Str.ofString "index", .int 0)]) rfl (by walk_at "stos") t0 (.ret (bs := [(Str.ofString "direction", .int way), (Str.ofString "index", .int 1)]) rfl (by walk_at "stos") t1)) (fun _ => rfl))
        · rw [if_neg h4] at t1 ⊢
          exact exs_cons (ex_for (ie_list (ev_ordlist (by walk_at "lk") rfl)) (.turn (bs := [(Str.ofString "direction", .int 1), (Str.ofString "index", .int 0)]) rfl (by walk_at "stos") t0 (.turn (bs := [(Str.ofString "direction", .int way), (Str.ofString "index", .int 1)]) rfl (by walk_at "stos") t1 (.nil _ _))) (fun _ => rfl)) (exs_ret (ex_return (by dsimp only [full]; walk_at "e")))

/-- a target's names -/
def tnames : Expr → List Str
  | .Name x _ => [x]
  | .Tuple es _ _ => (namesOf es).getD []
  | _ => []
theorem binds_names {t : Expr} {d : D} {bs : List (Str × D)} (h : bindsI t d = some bs) : ∀ q ∈ bs, q.1 ∈ tnames t := by
  have h := bindsI_seen h
  intro q hq
  cases t <;> try (cases h; done)
  · cases h; rw [List.mem_singleton] at hq; subst hq; exact .head _
  · cases hd : d.seen <;> rw [hd] at h <;> try (cases h; done)
    simp only [binds] at h
    split at h
    · rename_i xs hx
      split at h
      · cases h
        have := (List.of_mem_zip (List.mem_reverse.mp hq)).1
        simpa [tnames, hx] using this
      · cases h
    · cases h
/-- a tuple that begins with two ints -/
abbrev dR {α : Type} (f g : α → Int) (rst : α → List D) (r : α) : D := .tup (.int (f r) :: .int (g r) :: rst r)
section
variable {α : Type} (f g : α → Int)
def lessIn (way : Int) (r a : α) : Bool := decide (cmp2 way (f a) (g a) (f r) (g r) < 0)
def ins (way : Int) (laid : List α) (r : α) : List α := laid.take (laid.filter (lessIn f g way r)).length ++ r :: laid.drop (laid.filter (lessIn f g way r)).length
def inOrder (way : Int) (rows : List α) : List α := rows.foldl (ins f g way) []
theorem ins_length (way : Int) (laid : List α) (r : α) : (ins f g way laid r).length = laid.length + 1 := by
  unfold ins
  have := List.length_filter_le (lessIn f g way r) laid
  rw [List.length_append, List.length_cons, List.length_take, List.length_drop]; omega
theorem ins_mem (way : Int) (laid : List α) (r : α) : ∀ a, a ∈ ins f g way laid r ↔ a = r ∨ a ∈ laid := fun a => by
  unfold ins
  rw [List.mem_append, List.mem_cons]
  conv => rhs; rw [← List.take_append_drop (laid.filter (lessIn f g way r)).length laid, List.mem_append]
  constructor
  · rintro (h | h | h)
    · exact .inr (.inl h)
    · exact .inl h
    · exact .inr (.inr h)
  · rintro (h | h | h)
    · exact .inr (.inl h)
    · exact .inl h
    · exact .inr (.inr h)
theorem inOrder_props (way : Int) (rows : List α) : (inOrder f g way rows).length = rows.length ∧ ∀ a ∈ inOrder f g way rows, a ∈ rows := by
  have key : ∀ (l acc : List α), (l.foldl (ins f g way) acc).length = acc.length + l.length ∧ ∀ a ∈ l.foldl (ins f g way) acc, a ∈ acc ∨ a ∈ l := fun l => by
    induction l with
    | nil => intro acc; exact ⟨rfl, fun a h => .inl h⟩
    | cons r l ih =>
      intro acc
      obtain ⟨h1, h2⟩ := ih (ins f g way acc r)
      refine ⟨by rw [List.foldl_cons, h1, ins_length, List.length_cons]; omega, fun a ha => ?_⟩
      rcases h2 a ha with h | h
      · rcases (ins_mem f g way acc r a).mp h with rfl | h
        · exact .inr (.head _)
        · exact .inl h
      · exact .inr (.tail _ h)
  obtain ⟨h1, h2⟩ := key rows []
  exact ⟨by rw [inOrder, h1]; simp, fun a ha => (h2 a ha).resolve_left (fun h => nomatch h)⟩
end
theorem f122 (w : World) : (KF w.params).lookup 122 = some (fnObj (fnAt 18 "law_pe0208_01" 367 121)) := by kernel_rfl
theorem cl_in_order {w : World} {k : Nat} {way : Int} {α : Type} (f g : α → Int) (rst : α → List D) {rows : List α} (hz : rows.length ≤ 100) : CL w (k + 3) (.ref 122) [.lst (rows.map (dR f g rst)), .lst (keysD way)] (.lst ((inOrder f g way rows).map (dR f g rst))) := by
  refine cl_fn2 (names := ["rows", "keys"]) (Γ := [(Str.ofString "keys", .lst (keysD way)), (Str.ofString "rows", .lst (rows.map (dR f g rst)))]) (f122 w) rfl rfl rfl rfl (by kernel_rfl) (by kernel_rfl) (by walk_at "bind") (by kernel_rfl) fun L => ?_
  refine exs_cons (ex_assign (d := .ord (.lst (keysD way))) (ev_make (by walk_at "e") (by kernel_rfl) rfl) (by walk_at "stoc") rfl) ?_
  refine exs_cons (ex_own_list0 (by walk_at "sto") rfl rfl) ?_
  refine exs_cons (ex_for (ie_list (by walk_at "e")) (for_rest (σ := List α) (α := α) (fun l u => u.length + l.length ≤ 100) (fun _ => [(Str.ofString "order", .ord (.lst (keysD way))), (Str.ofString "keys", .lst (keysD way)), (Str.ofString "rows", .lst (rows.map (dR f g rst)))]) (fun u => some (Str.ofString "laid", .lst (u.map (dR f g rst)))) (dR f g rst) (ins f g way) (fun u r l hu => ⟨?_, [(Str.ofString "row", dR f g rst r)], rfl, all_cons (by walk_at "stoc") all_nil, ?_⟩) rows [] (by simpa using hz)) (fun _ => rfl)) ?_
  · rw [ins_length]; rw [List.length_cons] at hu; omega
  · dsimp only [List.cons_append, List.nil_append]
    have hf := List.length_filter_le (lessIn f g way r) u
    rw [List.length_cons] at hu
    have e : (ins f g way u r).map (dR f g rst) = (u.map (dR f g rst)).take (u.filter (lessIn f g way r)).length ++ dR f g rst r :: (u.map (dR f g rst)).drop (u.filter (lessIn f g way r)).length := by
      unfold ins; rw [List.map_append, List.map_cons, List.map_take, List.map_drop]
    rw [e]
    refine out_weaken (Γ' := [(Str.ofString "row", dR f g rst r), (Str.ofString "order", .ord (.lst (keysD way))), (Str.ofString "keys", .lst (keysD way)), (Str.ofString "rows", .lst (rows.map (dR f g rst)))]) (exs_cons ?ins exs_nil) (by walk_at "weak")
    with_reducible refine' ex_own_insert ?he ?hf ?hj ?hz ?a1 ?a2 ?a3 ?a4 ?a5 ?a6
    case hf => walk_at "e"
    case hj => rw [List.length_map]; exact hf
    case hz => rw [List.length_map]; omega
    case a1 => rfl
    case a2 => rfl
    case a3 => rfl
    case a4 => rfl
    case a5 => rfl
    case a6 => rfl
    dsimp only [full]
    have hlen := cl_len_list (w := w) (k := k + 2) (ds := (u.filter (lessIn f g way r)).map (dR f g rst)) (by rw [List.length_map]; omega)
    rw [List.length_map] at hlen
    with_reducible refine' ev_call (callee_len w) ?k1 ?k2 (es_cons ?e es_nil ?s1) hlen ?s2 ?s3
    case k1 => kernel_rfl
    case k2 => kernel_rfl
    case s1 => rfl
    case s2 => rfl
    case s3 => rfl
    · refine ev_cv (cv_list (Γc := [(Str.ofString "order", .ord (.lst (keysD way))), (Str.ofString "row", dR f g rst r)]) (tn := [Str.ofString "above"]) (ie_list (by walk_at "e")) (by walk_at "blk") (fun d _ bs h p hp => binds_names h p hp) (fun C cells => comp_map (dR f g rst) (dR f g rst) (lessIn f g way r) u fun a ha => ⟨_, rfl, all_cons (by kernel_rfl) all_nil, ?_, fun _ => ev_name lk_hd⟩) (by rw [List.length_map]; omega) (fun _ => rfl)) rfl
      dsimp only [List.cons_append, List.nil_append]
      exact tv_cmp (ev_ordcall (by walk_at "lk") (by walk_at "es") (cl_compare (way := way) (a0 := f a) (a1 := g a) (b0 := f r) (b1 := g r) (ra := rst a) (rb := rst r)) rfl rfl rfl) (by walk_at "e") cp_lt (by with_unfolding_all rfl)
  · show EXS w (k + 2) _ _ (some (Str.ofString "laid", .lst ((inOrder f g way rows).map (dR f g rst)))) _ (.ret _)
    exact exs_ret (ex_return (ev_name lk_hd))

theorem compD_all {w : World} {k : Nat} {env : Env} {Γ : List (Str × D)} {target kx vx : Expr} {α : Type} (dv : α → D) (kf : α → Int) (vf : α → D) : ∀ (l : List α),
    (∀ a ∈ l, ∃ bs, bindsI target (dv a) = some bs ∧ (∀ p ∈ bs, Γ.lookup p.1 = none) ∧ EV w k env (bs ++ Γ) kx (.int (kf a)) ∧ EV w k env (bs ++ Γ) vx (vf a)) →
    CompD w k env Γ target kx vx (l.map dv) (l.map fun a => (kf a, vf a))
  | [], _ => .nil
  | a :: l, h => by
    obtain ⟨bs, h1, h2, h3, h4⟩ := h a (.head _)
    exact .keep h1 h2 h3 h4 (compD_all dv kf vf l fun b hb => h b (.tail _ hb))
theorem dKeys_nodup {ks : List Int} (h : ks.Nodup) (q : Int) : (dKeys ks q).Nodup := by
  unfold dKeys
  split
  · exact h
  · rename_i hc
    rw [List.nodup_append]
    refine ⟨h, by simp, fun a ha b hb => ?_⟩
    rw [List.mem_singleton] at hb
    subst hb
    rintro rfl
    exact hc (List.contains_iff_mem.mpr ha)
theorem adC_props {n m : Nat} {t s : Dc} (ht : DcOk n t) (hs : DcOk m s) : DcOk (n + m) (adC t s) ∧ (adC t s).1.Nodup := by
  have p1 : ∀ (l : List (Int × Int)) (a : Nat) (u : Dc), DcOk a u → u.1.Nodup → DcOk (a + l.length) (l.foldl dPut u) ∧ (l.foldl dPut u).1.Nodup := fun l => by
    induction l with
    | nil => intro a u h h2; exact ⟨h, h2⟩
    | cons p l ih => intro a u h h2; have := ih (a + 1) _ (dPut_ok h p) (dKeys_nodup h2 p.1); rw [List.length_cons, show a + (l.length + 1) = a + 1 + l.length by omega]; exact this
  have p2 : ∀ (l : List (Int × Int)) (a : Nat) (u : Dc), DcOk a u → u.1.Nodup → DcOk (a + l.length) (l.foldl dAdd u) ∧ (l.foldl dAdd u).1.Nodup := fun l => by
    induction l with
    | nil => intro a u h h2; exact ⟨h, h2⟩
    | cons p l ih =>
      intro a u h h2
      have nd : (dAdd u p).1.Nodup := by unfold dAdd; split <;> exact dKeys_nodup h2 p.1
      have := ih (a + 1) _ (dAdd_ok h p) nd
      rw [List.length_cons, show a + (l.length + 1) = a + 1 + l.length by omega]; exact this
  obtain ⟨a1, a2⟩ := p1 (t.1.zip t.2) 0 ([], []) ⟨rfl, Nat.le_refl _⟩ List.nodup_nil
  obtain ⟨b1, b2⟩ := p2 (s.1.zip s.2) _ _ a1 a2
  refine ⟨⟨b1.1, Nat.le_trans b1.2 ?_⟩, b2⟩
  rw [List.length_zip, List.length_zip]
  have := ht.2; have := hs.2; omega
theorem callee_range (w : World) : Callee w (Str.ofString "range") (.type "range") := .ty "range" (by kernel_rfl) (by decide +kernel) (by decide +kernel)
theorem f117 (w : World) : (KF w.params).lookup 117 = some (fnObj (fnAt 17 "law_pe0208_01" 367 116)) := by kernel_rfl
def tab0 : Dc := ([0, 1, 2, 3, 4], [0, 0, 0, 0, 0])
def tabM (ms : List Int) : Dc := ms.foldl (fun u p => adC u ([p], [1])) tab0
theorem cl_table {w : World} {k : Nat} {ms : List Int} (hz : ms.length ≤ 50) : CL w (k + 2) (.ref 117) [.lst (iL ms)] (dcD (tabM ms)) := by
  refine cl_fn2 (names := ["message"]) (Γ := [(Str.ofString "message", .lst (iL ms))]) (f117 w) rfl rfl rfl rfl (by kernel_rfl) (by kernel_rfl) (by walk_at "bind") (by kernel_rfl) fun L => ?_
  refine exs_cons (ex_cv (d := dcD tab0) (cv_dict (Γc := []) (tn := [Str.ofString "place"]) (rs := [(0, .int 0), (1, .int 0), (2, .int 0), (3, .int 0), (4, .int 0)]) (ie_range1 (b := 5) (callee_range w) (by kernel_rfl) (by kernel_rfl) (by walk_at "e") (by omega) rfl) (by walk_at "blk") (fun d _ bs h p hp => binds_names h p hp) (fun C cells => compD_all (α := Int) D.int (fun a => a) (fun _ => .int 0) (rng 0 5) fun a _ => ⟨[(Str.ofString "place", .int a)], rfl, all_cons rfl all_nil, ev_name lk_hd, ev_int⟩) (by decide) (by decide) (fun _ => rfl)) (by walk_at "sto") (fun _ => rfl) rfl) ?_
  refine exs_cons (ex_for (ie_list (by walk_at "e")) (for_rest (σ := Dc) (α := Int) (fun l u => DcOk (60 - l.length) u ∧ l.length ≤ 50) (fun u => [(Str.ofString "table", dcD u), (Str.ofString "message", .lst (iL ms))]) (fun _ => none) D.int (fun u p => adC u ([p], [1])) (fun u p l hu => ⟨⟨?_, ?_⟩, [(Str.ofString "place", .int p)], rfl, by walk_at "stos", ?_⟩) ms tab0 ⟨⟨rfl, by show 5 ≤ 60 - ms.length; omega⟩, hz⟩) (fun _ => rfl)) ?_
  · have := (adC_props hu.1 (m := 1) (s := ([p], [1])) ⟨rfl, Nat.le_refl _⟩).1
    have h2 := hu.2
    rw [List.length_cons] at this h2
    rwa [show 60 - (l.length + 1) + 1 = 60 - l.length by omega] at this
  · have h2 := hu.2; rw [List.length_cons] at h2; omega
  · dsimp only [List.cons_append, List.nil_append]
    have ok : DcOk 1000 u := ⟨hu.1.1, by have := hu.1.2; omega⟩
    exact out_weaken (exs_cons (ex_assign (ev_call (callee_adc w) (by kernel_rfl) (by kernel_rfl) (es_cons (by walk_at "e") (es_cons (ev_dict1 (q := p) (d := .int 1) (by walk_at "e") (by walk_at "e")) es_nil)) (cl_add_callers ok (s := ([p], [1])) ⟨rfl, by simp⟩)) (by walk_at "sto") rfl) exs_nil) (by walk_at "weak")
  · show EXS w (k + 1) _ [(Str.ofString "table", dcD (tabM ms)), (Str.ofString "message", .lst (iL ms))] none _ (.ret _)
    exact exs_ret (ex_return (by dsimp only [full]; walk_at "e"))

/-- a row with one more step to each of its signs -/
def Row.grown (both : Row) : Row := both.add ⟨0, 0, both.c, 0, (both.m.1, both.m.1.map fun _ => 1)⟩
def grow1 (way : Int) (rows : List Row) : List Row := match inOrder Row.c Row.n way rows with
  | a :: b :: rest => rest ++ [(a.add b).grown]
  | l => l
def growL (way : Int) : Nat → List Row → List Row
  | 0, rows => rows
  | n + 1, rows => growL way n (grow1 way rows)
abbrev rowD (r : Row) : D := dR Row.c Row.n (fun r => [.int r.t, .int r.u, dcD r.m]) r
theorem rowD_eq (r : Row) : r.d = rowD r := rfl
def RowOk (n : Nat) (r : Row) : Prop := DcOk n r.m
def row0 (c : List Int) (p : Nat) : Row := ⟨c.getD p 0, 2 ^ p, 0, 0, ([(p : Int)], [0])⟩
theorem f127 (w : World) : (KF w.params).lookup 127 = some (fnObj (fnAt 19 "law_pe0208_01" 367 126)) := by kernel_rfl
theorem callee_stats (w : World) : Callee w (Str.ofString "add_func_stats") (.ref 98) := .fn 98 _ _ (by kernel_rfl) (f98 w) rfl
theorem callee_order (w : World) : Callee w (Str.ofString "_law_in_order") (.ref 122) := .fn 122 _ _ (by kernel_rfl) (f122 w) rfl
theorem grow1_ok {way : Int} {rows : List Row} {n N : Nat} (hl : rows.length = n + 2) (h : ∀ r ∈ rows, RowOk N r) : (grow1 way rows).length = n + 1 ∧ ∀ r ∈ grow1 way rows, RowOk (4 * N) r := by
  obtain ⟨p1, p2⟩ := inOrder_props Row.c Row.n way rows
  unfold grow1
  rw [hl] at p1
  match hq : inOrder Row.c Row.n way rows, p1 with
  | a :: b :: rest, p1 =>
    rw [hq] at p2
    refine ⟨by simp at p1 ⊢; omega, fun r hr => ?_⟩
    have ha := h a (p2 a (.head _))
    have hb := h b (p2 b (.tail _ (.head _)))
    rcases List.mem_append.mp hr with hr | hr
    · have := h r (p2 r (.tail _ (.tail _ hr))); exact ⟨this.1, by have := this.2; omega⟩
    · rw [List.mem_singleton] at hr; subst hr
      have hm : DcOk (N + N) (a.add b).m := (adC_props ha hb).1
      have hs : DcOk (N + N) ((a.add b).m.1, (a.add b).m.1.map fun _ => (1 : Int)) := ⟨by simp, hm.2⟩
      have := (adC_props hm hs).1
      exact ⟨this.1, Nat.le_trans this.2 (by omega)⟩
def grTest : Expr := match (fnAt 19 "law_pe0208_01" 367 126).body with
  | .stmts (_ :: .While t _ _ _ :: _) => t
  | _ => .List [] ⟨0, 0, 0, 0⟩
def grBody : List Stmt := match (fnAt 19 "law_pe0208_01" 367 126).body with
  | .stmts (_ :: .While _ b _ _ :: _) => b
  | _ => []
abbrev grG (way : Int) (t : D) (rows : List Row) : List (Str × D) := [(Str.ofString "rows", .lst (rows.map rowD)), (Str.ofString "way", .int way), (Str.ofString "table", t)]
theorem gr_test {w : World} {k : Nat} {L : Addr} {way : Int} {t : D} {rows : List Row} (hz : rows.length ≤ 100) : TV w k (callEnvC (fnAt 19 "law_pe0208_01" 367 126) L 127) (grG way t rows) grTest (decide (rows.length > 1)) := by
  have h : decide (1 < (((rows.map rowD).length : Nat) : Int)) = decide (rows.length > 1) := by rw [List.length_map]; exact decide_eq_decide.mpr (by omega)
  rw [← h]
  exact tv_cmp (ev_call (callee_len w) (by kernel_rfl) (by kernel_rfl) (by walk_at "es") (cl_len_list (by rw [List.length_map]; omega))) (by walk_at "e") cp_gt
theorem pick2 {α : Type} {a b : α} : ∀ {l : List α}, l.length ≤ 3 → slPick (a :: b :: l) (some 2) none none = l
  | [], _ => rfl
  | [x], _ => by
    show (sliceRange (sliceBounds (some 2) none none 3).1 (sliceBounds (some 2) none none 3).2.1 (sliceBounds (some 2) none none 3).2.2).filterMap _ = _
    rw [show sliceRange (sliceBounds (some 2) none none 3).1 (sliceBounds (some 2) none none 3).2.1 (sliceBounds (some 2) none none 3).2.2 = [2] by decide]
    rfl
  | [x, y], _ => by
    show (sliceRange (sliceBounds (some 2) none none 4).1 (sliceBounds (some 2) none none 4).2.1 (sliceBounds (some 2) none none 4).2.2).filterMap _ = _
    rw [show sliceRange (sliceBounds (some 2) none none 4).1 (sliceBounds (some 2) none none 4).2.1 (sliceBounds (some 2) none none 4).2.2 = [2, 3] by decide]
    rfl
  | [x, y, z], _ => by
    show (sliceRange (sliceBounds (some 2) none none 5).1 (sliceBounds (some 2) none none 5).2.1 (sliceBounds (some 2) none none 5).2.2).filterMap _ = _
    rw [show sliceRange (sliceBounds (some 2) none none 5).1 (sliceBounds (some 2) none none 5).2.1 (sliceBounds (some 2) none none 5).2.2 = [2, 3, 4] by decide]
    rfl
  | _ :: _ :: _ :: _ :: _, h => by simp at h
theorem gr_turn {w : World} {k : Nat} {L : Addr} {way : Int} {t : D} {rows : List Row} {N n : Nat} (hl : rows.length = n + 2) (hn : n ≤ 3) (hN : 2 * N ≤ 1000) (hr : ∀ r ∈ rows, RowOk N r) :
    EXS w (k + 4) (callEnvC (fnAt 19 "law_pe0208_01" 367 126) L 127) (grG way t rows) none grBody (.next (grG way t (grow1 way rows)) none) := by
  obtain ⟨p1, p2⟩ := inOrder_props Row.c Row.n way rows
  unfold grow1
  rw [hl] at p1
  match hq : inOrder Row.c Row.n way rows, p1 with
  | a :: b :: rest, p1 =>
    rw [hq] at p2
    have hrl : rest.length ≤ 3 := by simp at p1; omega
    have ha : DcOk N a.m := hr a (p2 a (.head _))
    have hb : DcOk N b.m := hr b (p2 b (.tail _ (.head _)))
    have hm : DcOk (N + N) (a.add b).m ∧ (a.add b).m.1.Nodup := adC_props ha hb
    have hs : DcOk (N + N) ((a.add b).m.1, (a.add b).m.1.map fun _ => (1 : Int)) := ⟨by simp, hm.1.2⟩
    have w1 {s : Dc} {N M : Nat} (h : DcOk N s) (hM : N ≤ M) : DcOk M s := ⟨h.1, Nat.le_trans h.2 hM⟩
    have hord := cl_in_order (w := w) (k := k) (way := way) Row.c Row.n (fun r => [.int r.t, .int r.u, dcD r.m]) (rows := rows) (by omega)
    rw [hq] at hord
    refine exs_cons (ex_assign (d := .lst ((a :: b :: rest).map rowD)) (ev_call (callee_order w) (by kernel_rfl) (by kernel_rfl) (by walk_at "es") (CL.le hord (by omega))) (by walk_at "sto") rfl) ?_
    refine exs_cons (ex_assign (d := (a.add b).d) (ev_call (callee_stats w) (by kernel_rfl) (by kernel_rfl) (es_cons (ev_sub (by walk_at "e") (ev_int (i := 0)) (it_list (ds := (a :: b :: rest).map rowD) (j := 0) (d := rowD a) (seqIndex_nat (j := 0) (by rw [List.length_map]; exact Nat.succ_pos _)) rfl (by decide) (by decide))) (es_cons (ev_sub (by walk_at "e") (ev_int (i := 1)) (it_list (ds := (a :: b :: rest).map rowD) (j := 1) (d := rowD b) (seqIndex_nat (j := 1) (by rw [List.length_map]; exact Nat.succ_lt_succ (Nat.succ_pos _))) rfl (by decide) (by decide))) es_nil)) (CL.le (cl_add_stats (k := k) (t := a) (s := b) (w1 ha (by omega)) (w1 hb (by omega))) (by omega))) (by walk_at "sto") rfl) ?_
    refine exs_cons (ex_assign (d := (Row.mk 0 0 (a.add b).c 0 ((a.add b).m.1, (a.add b).m.1.map fun _ => 1)).d) (ev_tuple (es_cons (ev_int (i := 0)) (es_cons (ev_int (i := 0)) (es_cons (ev_sub (by walk_at "e") (by walk_at "e") (it_tuple (ds := (a.add b).l) (j := 0) rfl rfl (by decide) (by decide))) (es_cons (ev_int (i := 0)) (es_cons (ev_cv ?cv rfl) es_nil)))))) (by walk_at "sto") rfl) ?_
    case cv =>
      have e : dcD ((a.add b).m.1, (a.add b).m.1.map fun _ => (1 : Int)) = .dct (((a.add b).m.1.map fun i => (i, D.int 1)).map (·.1)) (((a.add b).m.1.map fun i => (i, D.int 1)).map (·.2)) := by
        rw [List.map_map, List.map_map, show ((fun (x : Int × D) => x.1) ∘ fun i => (i, D.int 1)) = id from rfl, List.map_id]
        show D.dct _ _ = _
        rw [show iL (List.map (fun _ => (1 : Int)) (a.add b).m.1) = List.map (fun _ => D.int 1) (a.add b).m.1 from List.map_map]
        rfl
      dsimp only [dcD] at e ⊢
      rw [e]
      refine cv_dict (Γc := []) (tn := [Str.ofString "place"]) (ds := iL (a.add b).m.1) (ie_keys (ds := iL (a.add b).m.2) (ev_sub (by walk_at "e") (by walk_at "e") (it_tuple (ds := (a.add b).l) (j := 4) rfl rfl (by decide) (by decide)))) (by walk_at "blk") (fun d _ bs h p hp => binds_names h p hp) (fun C cells => ?c1) ?nd ?ln (fun _ => rfl)
      case c1 => exact compD_all (fun (i : Int) => D.int i) (fun i => i) (fun _ => D.int 1) (a.add b).m.1 fun p hp => ⟨[(Str.ofString "place", .int p)], rfl, all_cons rfl all_nil, by dsimp only [List.cons_append, List.nil_append]; walk_at "e", by walk_at "e"⟩
      case nd => rw [List.map_map]; exact (List.map_id _).symm ▸ hm.2
      case ln => rw [List.length_map]; exact Nat.le_trans hm.1.2 (by omega)
    dsimp only [full, List.cons_append, List.nil_append]
    refine out_weaken (Γ' := [(Str.ofString "rows", .lst ((rest ++ [(a.add b).grown]).map rowD)), (Str.ofString "step", (Row.mk 0 0 (a.add b).c 0 ((a.add b).m.1, (a.add b).m.1.map fun _ => 1)).d), (Str.ofString "both", (a.add b).d), (Str.ofString "rows", .lst ((a :: b :: rest).map rowD)), (Str.ofString "rows", .lst (rows.map rowD)), (Str.ofString "way", .int way), (Str.ofString "table", t)]) (exs_cons (ex_assign (by
      rw [List.map_append, ← pick2 (a := rowD a) (b := rowD b) (l := rest.map rowD) (by rw [List.length_map]; exact hrl)]
      exact ev_binop (ev_slice_list (ds := (a :: b :: rest).map rowD) (by walk_at "e") (pt_some (by walk_at "e")) pt_none pt_none (by decide) (by simp; omega)) (ev_list (es_cons (ev_call (callee_stats w) (by kernel_rfl) (by kernel_rfl) (by walk_at "es") (CL.le (cl_add_stats (k := k) (t := a.add b) (s := Row.mk 0 0 (a.add b).c 0 ((a.add b).m.1, (a.add b).m.1.map fun _ => 1)) (w1 hm.1 (by omega)) (w1 hs (by omega))) (by omega))) es_nil) (by simp)) (bo_add_list (by rw [show List.map rowD (a :: b :: rest) = rowD a :: rowD b :: rest.map rowD from rfl, pick2 (by rw [List.length_map]; exact hrl)]; simp; omega))) (by walk_at "sto") rfl) exs_nil) (by walk_at "weak")
theorem growL_length {way : Int} : ∀ (n N : Nat) (rows : List Row), rows.length = n + 1 → (∀ r ∈ rows, RowOk N r) → (growL way n rows).length = 1
  | 0, _, _, hl, _ => hl
  | n + 1, N, rows, hl, hr => growL_length n (4 * N) _ (grow1_ok hl hr).1 (grow1_ok hl hr).2
theorem gr_loop {w : World} {k : Nat} {L : Addr} {way : Int} {t : D} : ∀ (n N : Nat) (rows : List Row), rows.length = n + 1 → n ≤ 4 → N * 4 ^ n ≤ 1000 → (∀ r ∈ rows, RowOk N r) →
    LoopW w (k + 4) (callEnvC (fnAt 19 "law_pe0208_01" 367 126) L 127) grTest grBody (grG way t rows) none (.next (grG way t (growL way n rows)) none)
  | 0, _, rows, hl, _, _, _ => .stop (by dsimp only [full]; have := gr_test (w := w) (k := k + 4) (L := L) (way := way) (t := t) (rows := rows) (by omega); rwa [decide_eq_false (by omega)] at this)
  | n + 1, N, rows, hl, hn, hN, hr => by
    have hN' : N * 4 * 4 ^ n ≤ 1000 := by rw [Nat.pow_succ] at hN; rwa [Nat.mul_assoc, Nat.mul_comm 4]
    have h4 : 4 * N ≤ 1000 := Nat.le_trans (by have := Nat.le_mul_of_pos_right (N * 4) (Nat.pow_pos (n := n) (show 0 < 4 by decide)); omega) hN'
    obtain ⟨g1, g2⟩ := grow1_ok (way := way) hl hr
    exact .turn (by dsimp only [full]; have := gr_test (w := w) (k := k + 4) (L := L) (way := way) (t := t) (rows := rows) (by omega); rwa [decide_eq_true (by omega)] at this) (gr_turn hl (by omega) (by omega) hr)
      (gr_loop n (4 * N) (grow1 way rows) g1 (by omega) (by rwa [Nat.mul_comm 4 N]) g2)
theorem cl_grown {w : World} {k : Nat} {way : Int} {c : List Int} (hc : c.length = 5) : CL w (k + 5) (.ref 127) [dcD ([0, 1, 2, 3, 4], c), .int way] ((growL way 4 ((List.range 5).map (row0 c))).headD (row0 c 0)).d := by
  refine cl_fn2 (names := ["table", "way"]) (Γ := [(Str.ofString "way", .int way), (Str.ofString "table", dcD ([0, 1, 2, 3, 4], c))]) (f127 w) rfl rfl rfl rfl (by kernel_rfl) (by kernel_rfl) (by walk_at "bind") (by kernel_rfl) fun L => ?_
  refine exs_cons (ex_cv (d := .lst (((List.range 5).map (row0 c)).map rowD)) (cv_list (Γc := [(Str.ofString "table", dcD ([0, 1, 2, 3, 4], c))]) (tn := [Str.ofString "place"]) (ie_range1 (b := 5) (callee_range w) (by kernel_rfl) (by kernel_rfl) (by walk_at "e") (by omega) rfl) (by walk_at "blk") (fun d _ bs h p hp => binds_names h p hp) (fun C cells => ?c1) (by decide) (fun _ => rfl)) (by walk_at "sto") (fun _ => rfl) rfl) ?_
  case c1 =>
    have hr : iL (rng 0 (5 : Int).toNat) = (List.range 5).map fun (i : Nat) => D.int (i : Int) := by rfl
    rw [hr, List.map_map]
    refine comp_all (fun (i : Nat) => D.int (i : Int)) _ (List.range 5) fun p hp => ⟨[(Str.ofString "place", .int p)], rfl, all_cons rfl all_nil, ?_⟩
    rw [List.mem_range] at hp
    dsimp only [List.cons_append, List.nil_append, Function.comp]
    have hget : dAt [0, 1, 2, 3, 4] (iL c) (p : Int) = some (.int (c.getD p 0)) := by
      match c, hc with
      | [c0, c1, c2, c3, c4], _ =>
        match p, hp with
        | 0, _ => rfl
        | 1, _ => rfl
        | 2, _ => rfl
        | 3, _ => rfl
        | 4, _ => rfl
    have hpow : ((2 : Int) ^ ((p : Nat) : Int).toNat) = 2 ^ p := by rw [Int.toNat_natCast]
    exact ev_tuple (es_cons (ev_sub (by walk_at "e") (by walk_at "e") (it_dict hget)) (es_cons (by rw [show (row0 c p).n = (2 : Int) ^ ((p : Nat) : Int).toNat from hpow.symm]; exact ev_binop (by walk_at "e") (by walk_at "e") (bo_pow (by omega) (by omega) (by decide))) (es_cons (ev_int (i := 0)) (es_cons (ev_int (i := 0)) (es_cons (ev_dict1 (q := p) (d := .int 0) (by walk_at "e") (by walk_at "e")) es_nil)))))
  have g := gr_loop (w := w) (k := k) (L := L) (way := way) (t := dcD ([0, 1, 2, 3, 4], c)) 4 1 ((List.range 5).map (row0 c)) rfl (by decide) (by decide) fun r hr => by
    obtain ⟨p, _, rfl⟩ := List.mem_map.mp hr
    exact ⟨rfl, Nat.le_refl _⟩
  refine exs_cons (ex_while g) (exs_ret (ex_return ?_))
  have hl : (growL way 4 ((List.range 5).map (row0 c))).length = 1 := growL_length 4 1 _ rfl (fun r hr => by
    obtain ⟨p, _, rfl⟩ := List.mem_map.mp hr
    exact ⟨rfl, Nat.le_refl _⟩)
  match hq : growL way 4 ((List.range 5).map (row0 c)), hl with
  | [r], _ => exact ev_sub (by dsimp only [full]; walk_at "e") (by walk_at "e") (it_list (j := 0) rfl rfl (by decide) (by decide))

theorem f21 (w : World) : (KF w.params).lookup 21 = some (fnObj (fnAt 2 "cpy313._pylong" 187 20)) := by kernel_rfl
theorem f49 (w : World) : (KF w.params).lookup 49 = some (fnObj (fnAt 6 "cpy313._pylong" 187 48)) := by kernel_rfl
theorem f56 (w : World) : (KF w.params).lookup 56 = some (fnObj (fnAt 7 "cpy313._pylong" 187 55)) := by kernel_rfl
theorem callee_div (w : World) : Callee w (Str.ofString "_div2n1n") (.ref 21) := .fn 21 _ _ (by kernel_rfl) (f21 w) rfl
theorem callee_i2d (w : World) : Callee w (Str.ofString "_int2digits") (.ref 35) := .fn 35 _ _ (by kernel_rfl) (f35 w) rfl
theorem callee_d2i (w : World) : Callee w (Str.ofString "_digits2int") (.ref 42) := .fn 42 _ _ (by kernel_rfl) (f42 w) rfl
theorem callee_dmp (w : World) : Callee w (Str.ofString "_divmod_pos") (.ref 49) := .fn 49 _ _ (by kernel_rfl) (f49 w) rfl
theorem callee_idm (w : World) : Callee w (Str.ofString "int_divmod") (.ref 56) := .fn 56 _ _ (by kernel_rfl) (f56 w) rfl
theorem callee_divmod (w : World) : Callee w (Str.ofString "divmod") (.builtin "divmod") := .bi "divmod" (by kernel_rfl) (by decide +kernel) (by decide +kernel)
theorem callee_rev (w : World) : Callee w (Str.ofString "reversed") (.type "reversed") := .ty "reversed" (by kernel_rfl) (by decide +kernel) (by decide +kernel)
theorem cl_div {w : World} {k : Nat} {a b : Int} {n : Nat} (hb : b ≠ 0) (hb2 : b.natAbs < 1000) (ha : a.natAbs < 2 ^ 60) (hn : n ≤ 100) : CL w (k + 1) (.ref 21) [.int a, .int b, .int n] (.tup (iL [a.fdiv b, a.fmod b])) := by
  refine cl_fn2 (names := ["a", "b", "n"]) (Γ := [(Str.ofString "n", .int n), (Str.ofString "b", .int b), (Str.ofString "a", .int a)]) (f21 w) rfl rfl rfl rfl (by kernel_rfl) (by kernel_rfl) (by walk_at "bind") (by kernel_rfl) fun L => ?_
  have h64 : Builtin.Int.intBits a ≤ 64 := intBits_le_64 (by omega) (by omega)
  refine exs_ret (ex_if (b := true) ?_ (exs_ret (ex_return (ev_call (callee_divmod w) (by kernel_rfl) (by kernel_rfl) (by dsimp only [full]; walk_at "es") (cl_divmod hb (PyProof.noPylong_small (by omega)))))))
  dsimp only [full]
  rw [show true = decide ((Builtin.Int.intBits a : Int) - (n : Int) ≤ 4000) from (decide_eq_true (by omega)).symm]
  exact tv_cmp (ev_binop (ev_meth0 (by walk_at "e") ty_int PySem.F.plainAttrs_int PySem.F.slot_int_bit_length PySem.F.type_int_bit_length cl_bits rfl rfl) (by walk_at "e") bo_sub) (ev_gint (t := 189) (by kernel_rfl) (by kernel_rfl) (by kernel_rfl)) cp_le
/-- a step of the long division -/
def dmS (b n : Int) (s : List Int × Int) (d : Int) : List Int × Int := (s.1 ++ [(s.2 * 2 ^ n.toNat + d).fdiv b], (s.2 * 2 ^ n.toNat + d).fmod b)
def dmR (a b n m : Nat) : List Int × Int := (dgs n m a).reverse.foldl (dmS b n) ([], 0)
def dmOk (a b n m : Nat) : Bool := Builtin.Int.intBits (b : Int) == n && (Builtin.Int.intBits (a : Int) + n - 1) / n == m && decide (1 ≤ n) && decide (n ≤ 5) && decide (m ≤ 12) && decide (n * m ≤ 60) && decide (a < 2 ^ (n * m)) && decide (0 < b) && decide (b ≤ 16) && (dmR a b n m).1.all (fun d => decide (0 ≤ d) && decide (d < 2 ^ n)) && decide (n * (dmR a b n m).1.length ≤ 60)
theorem dmS_length (b n : Int) : ∀ (l : List Int) (s : List Int × Int), (l.foldl (dmS b n) s).1.length = s.1.length + l.length
  | [], s => rfl
  | d :: l, s => by rw [List.foldl_cons, dmS_length b n l, List.length_cons]; simp [dmS]; omega
theorem dgs_bound (n : Nat) : ∀ (m x : Nat), ∀ d ∈ dgs n m x, 0 ≤ d ∧ d < 2 ^ n
  | 0, _, d, h => nomatch h
  | m + 1, x, d, h => by
    rcases List.mem_cons.mp h with rfl | h
    · exact ⟨by omega, by have := Nat.mod_lt x (Nat.two_pow_pos n); exact_mod_cast this⟩
    · exact dgs_bound n m _ d h
theorem cl_divmod_pos {w : World} {k a b n m : Nat} (ok : dmOk a b n m = true) : CL w (k + 9) (.ref 49) [.int a, .int b] (.tup (iL [vl n (dmR a b n m).1.reverse, (dmR a b n m).2])) := by
  unfold dmOk at ok
  simp only [Bool.and_eq_true, beq_iff_eq, decide_eq_true_eq, List.all_eq_true] at ok
  obtain ⟨⟨⟨⟨⟨⟨⟨⟨⟨⟨h1, h2⟩, h3⟩, h4⟩, h5⟩, h6⟩, h7⟩, h8⟩, h9⟩, h10⟩, h11⟩ := ok
  have hn2 : (2 : Int) ^ n ≤ 32 := by
    have : 2 ^ n ≤ 2 ^ 5 := Nat.pow_le_pow_right (by decide) h4
    exact_mod_cast this
  refine cl_fn2 (k := k + 8) (names := ["a", "b"]) (Γ := [(Str.ofString "b", .int b), (Str.ofString "a", .int a)]) (f49 w) rfl rfl rfl rfl (by kernel_rfl) (by kernel_rfl) (by walk_at "bind") (by kernel_rfl) fun L => ?_
  refine exs_cons (ex_assign (d := .int n) (by rw [← h1]; exact ev_meth0 (by walk_at "e") ty_int PySem.F.plainAttrs_int PySem.F.slot_int_bit_length PySem.F.type_int_bit_length cl_bits rfl rfl) (by walk_at "sto") rfl) ?_
  refine exs_cons (ex_assign (d := .lst (iL (dgs n m a))) (ev_call (callee_i2d w) (by kernel_rfl) (by kernel_rfl) (by walk_at "es") (cl_int2digits h3 (by omega) h2 (by omega) h6 h7)) (by walk_at "sto") rfl) ?_
  refine exs_cons (ex_assign (d := .int 0) (by walk_at "e") (by walk_at "sto") rfl) ?_
  refine exs_cons (ex_own_list0 (by walk_at "sto") rfl rfl) ?_
  refine exs_cons (ex_for (ie_rev (callee_rev w) (by kernel_rfl) (by kernel_rfl) (by walk_at "e")) (by
    rw [← List.map_reverse]
    refine for_rest (σ := List Int × Int) (α := Int) (fun l u => 0 ≤ u.2 ∧ u.2 < b ∧ u.1.length + l.length ≤ 100 ∧ ∀ d ∈ l, 0 ≤ d ∧ d < 2 ^ n) (fun u => [(Str.ofString "r", .int u.2), (Str.ofString "a_digits", .lst (iL (dgs n m a))), (Str.ofString "n", .int n), (Str.ofString "b", .int b), (Str.ofString "a", .int a)]) (fun u => some (Str.ofString "q_digits", .lst (iL u.1))) (fun (d : Int) => D.int d) (dmS b n) (fun u d l hu => ?_) (dgs n m a).reverse ([], 0) ⟨by decide, by show (0 : Int) < (b : Int); omega, by simp [dgs_length]; omega, fun d hd => dgs_bound n m a d (List.mem_reverse.mp hd)⟩
    obtain ⟨r0, r1, rl, hd⟩ := hu
    obtain ⟨d0, d1⟩ := hd d (.head _)
    rw [List.length_cons] at rl
    have hb0 : (0 : Int) < b := by omega
    refine ⟨⟨Int.fmod_nonneg_of_pos _ hb0, Int.fmod_lt_of_pos _ hb0, by simp [dmS]; omega, fun d hd' => hd d (.tail _ hd')⟩, [(Str.ofString "a_digit", .int d)], rfl, all_cons (by walk_at "sto") all_nil, ?_⟩
    dsimp only [List.cons_append, List.nil_append]
    have hx1 : 0 ≤ u.2 * 2 ^ n := Int.mul_nonneg r0 (by have := Nat.two_pow_pos n; exact_mod_cast Nat.le_of_lt this)
    have hx2 : u.2 * 2 ^ n ≤ 16 * 32 := Int.mul_le_mul (by omega) hn2 (by have := Nat.two_pow_pos n; exact_mod_cast Nat.le_of_lt this) (by omega)
    have hx : (u.2 * 2 ^ (n : Int).toNat + d).natAbs < 2 ^ 60 := by rw [Int.toNat_natCast]; omega
    refine exs_cons (ex_unpack (d := .tup (iL [(u.2 * 2 ^ (n : Int).toNat + d).fdiv b, (u.2 * 2 ^ (n : Int).toNat + d).fmod b])) (bs := [(Str.ofString "r", .int ((u.2 * 2 ^ (n : Int).toNat + d).fmod b)), (Str.ofString "q_digit", .int ((u.2 * 2 ^ (n : Int).toNat + d).fdiv b))]) (ev_call (callee_div w) (by kernel_rfl) (by kernel_rfl) (es_cons (ev_binop (ev_binop (by walk_at "e") (by walk_at "e") (bo_shl (by omega) (by omega) (by omega))) (by walk_at "e") bo_add) (by walk_at "es")) (CL.le (cl_div (k := 0) (by omega) (by omega) hx (by omega)) (by omega))) rfl (by walk_at "stos") rfl rfl) ?_
    dsimp only [List.cons_append, List.nil_append]
    refine out_weaken (Γ' := [(Str.ofString "r", .int ((u.2 * 2 ^ (n : Int).toNat + d).fmod b)), (Str.ofString "q_digit", .int ((u.2 * 2 ^ (n : Int).toNat + d).fdiv b)), (Str.ofString "a_digit", .int d), (Str.ofString "r", .int u.2), (Str.ofString "a_digits", .lst (iL (dgs n m a))), (Str.ofString "n", .int n), (Str.ofString "b", .int b), (Str.ofString "a", .int a)]) ?_ (by dsimp only [dmS]; walk_at "weak")
    have e : iL (dmS b n u d).1 = iL u.1 ++ [.int ((u.2 * 2 ^ (n : Int).toNat + d).fdiv b)] := by unfold dmS; exact List.map_append
    rw [e]
    exact exs_cons (ex_own_append (by walk_at "e") (by rw [List.length_map]; omega)) exs_nil) (fun _ => rfl)) ?_
  refine exs_cons (ex_own_reverse (by rw [List.length_map]; have := dmS_length b n (dgs n m a).reverse ([], 0); rw [this]; simp [dgs_length]; omega)) (exs_freeze ?_)
  rw [← List.map_reverse, show (dgs n m a).reverse.foldl (dmS b n) ([], 0) = dmR a b n m from rfl]
  refine exs_cons (ex_assign (d := .int (vl n (dmR a b n m).1.reverse)) (ev_call (callee_d2i w) (by kernel_rfl) (by kernel_rfl) (by walk_at "es") (cl_digits2int (ns := (dmR a b n m).1.reverse) (fun d hd => h10 d (List.mem_reverse.mp hd)) (by rw [List.length_reverse]; exact h11) (by omega) (by rw [List.length_reverse]; have := dmS_length b n (dgs n m a).reverse ([], 0); unfold dmR; rw [this]; simp [dgs_length]; omega))) (by walk_at "sto") rfl) ?_
  exact exs_ret (ex_return (by dsimp only [full]; exact ev_tuple (es_cons (by walk_at "e") (es_cons (ev_name (lk_tl (by kernel_rfl) (lk_tl (by kernel_rfl) lk_hd))) es_nil))))
theorem cl_int_divmod {w : World} {k a b n m : Nat} (ok : dmOk a b n m = true) : CL w (k + 10) (.ref 56) [.int a, .int b] (.tup (iL [vl n (dmR a b n m).1.reverse, (dmR a b n m).2])) := by
  have hb : 0 < b := by
    unfold dmOk at ok
    simp only [Bool.and_eq_true, decide_eq_true_eq] at ok
    omega
  refine cl_fn2 (k := k + 9) (names := ["a", "b"]) (Γ := [(Str.ofString "b", .int b), (Str.ofString "a", .int a)]) (f56 w) rfl rfl rfl rfl (by kernel_rfl) (by kernel_rfl) (by walk_at "bind") (by kernel_rfl) fun L => ?_
  refine exs_ret (ex_if (b := false) ?t1 (exs_ret (ex_if (b := false) ?t2 (exs_ret (ex_if (b := false) ?t3 (exs_ret (ex_return (ev_call (callee_dmp w) (by kernel_rfl) (by kernel_rfl) (by dsimp only [full]; walk_at "es") (cl_divmod_pos ok)))))))))
  case t1 => dsimp only [full]; rw [show false = ((b : Int) == 0) from (beq_eq_false_iff_ne.mpr (by omega)).symm]; walk_at "t"
  case t2 => dsimp only [full]; rw [show false = decide ((b : Int) < 0) from (decide_eq_false (by omega)).symm]; walk_at "t"
  case t3 => dsimp only [full]; rw [show false = decide ((a : Int) < 0) from (decide_eq_false (by omega)).symm]; walk_at "t"

section
variable {w : World} {k : Nat} {env : Env} {Γ : List (Str × D)} {O : Option (Str × D)}
/-- two names at one go, the last stored first -/
theorem ex_swap2 {es : List Expr} {n : Nat} {tp spos : Pos} {e : Expr} {x y : Str} {d₁ d₂ : D} (he : EV w k env Γ e (.tup [d₁, d₂])) (hx : Stores env O x) (hy : Stores env O y)
    (hs : swapsWithSole [.Tuple es n tp] e spos.line env = pure false) (hw : swappedStores [.Tuple es n tp] e env = pure (some [x, y])) : EX w k env Γ O (.Assign [.Tuple es n tp] e spos) (.next ((x, d₁) :: (y, d₂) :: Γ) O) := by
  intro A own S pn gv s₀ s Q E r F hQ
  refine Assign_Tuple_swapped (he _ A s _ E r F.st fun v s₁ g₁ i₁ => ?_) hs hw
  obtain ⟨a, vs, rfl, ht, il⟩ := is_tup.mp i₁
  obtain ⟨u₁, u₂, rfl, j₁, j₂⟩ := isL_two il
  have ht' : s₁.heap.IsTuple a [u₁, u₂].toArray := by obtain ⟨o, e, r⟩ := ht; exact ⟨o, (hid_get.mp e).1, r⟩
  have un : ∀ {Q' : List Value → Shared → Prop}, (∀ h', Heap.ExtBut s₁.heap.objs.size s₁.heap h' → Q' [u₁, u₂] { s₁ with heap := h' }) → wpAny (model PG w) A (unpackItems (.ref a) 2 none) Q' E s₁ := fun h => unpackItems_tuple (items := [u₁, u₂].toArray) r.1 ht' h
  refine un fun h' hk => ?_
  have g : Grow s₁ { s₁ with heap := h' } := .keepsAt fun b o e => hk b o (Nat.ne_of_lt (Heap.lt_size e)) e
  have F2 := (F.grew g₁).grew g
  have hrev : ([x, y].reverse.map fun n => bindName env n) = [bindName env y, bindName env x] := rfl
  rw [hrev, show [u₁, u₂].reverse = [u₂, u₁] from rfl]
  refine wpAny_assignInOrder_more (wpAny_bindName (F2.store hy.1 hy.2.1 hy.2.2 (j₂.grow g (F.grew g₁).st.tabs) fun s₂ F3 m => ?_))
  refine wpAny_assignInOrder_more (wpAny_bindName (F3.store hx.1 hx.2.1 hx.2.2 ((j₁.grow g (F.grew g₁).st.tabs).mono m) fun s₃ F4 _ => ?_))
  exact wpAny_assignInOrder_none (hQ own s₃ F4)
end
theorem occ_empty {x : Str} {lo hi : Nat} (h : lo ≤ hi) (hx : hi ≤ x.length) : ∃ i r, Builtin.Str.occurrences x ⟨#[]⟩ lo hi 1 = i :: r := by
  have key := PySem.StrLaws.occ_none x ⟨#[]⟩ hi (List.range' lo (hi + 1 - lo)) lo (fun i hi => (List.mem_range'_1.mp hi).1)
  have e := PySem.StrLaws.occ_eq x ⟨#[]⟩ lo hi 1
  cases hq : Builtin.Str.occurrences x ⟨#[]⟩ lo hi 1 with
  | cons i r => exact ⟨i, r, rfl⟩
  | nil =>
    rw [hq] at e
    have h0 : (forIn (List.range' lo (hi + 1 - lo)) ((#[] : Array Nat), lo) (PySem.StrLaws.occBody x ⟨#[]⟩ hi 1)).run.fst = #[] := Array.toList_eq_nil_iff.mp e.symm
    exact absurd ⟨h, by unfold Builtin.Str.subAt; simp [Str.length]; omega⟩ (key.mp h0 lo (List.mem_range'_1.mpr ⟨Nat.le_refl _, by omega⟩))
theorem find_empty {x : Str} {a : Nat} (h : a ≤ x.length) : 0 ≤ find4 x ⟨#[]⟩ (a : Int) (x.length : Int) := by
  have e1 : fromIndex x.length (a : Int) = a := by unfold fromIndex; omega
  have e2 : min (fromIndex x.length (x.length : Int)) x.length = x.length := by unfold fromIndex; omega
  unfold find4
  rw [e1, e2]
  obtain ⟨i, r, q⟩ := occ_empty (x := x) h (Nat.le_refl _)
  rw [q]
  exact Int.natCast_nonneg i
def dots : Str := Str.ofString "..."
def elOk (W want : Str) : Bool := !(Builtin.Str.occurrences want dots 0 want.length 1).isEmpty && decide ((Builtin.Str.partsBetween want (Builtin.Str.occurrences want dots 0 want.length (want.length + 1)) dots.length).length ≤ 1000) && decide (Txt.split want dots = [W, ⟨#[]⟩]) && (W.length != 0) && decide (want.length ≤ 1000) && decide (W.length ≤ 1000)
theorem f63 (w : World) : (KF w.params).lookup 63 = some (fnObj (fnAt 10 "cpy313.doctest" 269 62)) := by kernel_rfl
theorem cl_ellipsis {w : World} {k : Nat} {W want got : Str} (ok : elOk W want = true) (hg : got.length ≤ 1000) : CL w (k + 1) (.ref 63) [.str want, .str got] (.bool (Txt.startswith got W)) := by
  unfold elOk at ok
  simp only [Bool.and_eq_true, decide_eq_true_eq, bne_iff_ne, ne_eq] at ok
  obtain ⟨⟨⟨⟨⟨h1, h2⟩, h3⟩, h4⟩, h5⟩, h6⟩ := ok
  refine cl_fn2 (names := ["want", "got"]) (Γ := [(Str.ofString "got", .str got), (Str.ofString "want", .str want)]) (f63 w) rfl rfl rfl rfl (by kernel_rfl) (by kernel_rfl) (by walk_at "bind") (by kernel_rfl) fun L => ?_
  refine exs_cons (ex_if (b := false) ?t1 exs_nil) ?_
  case t1 =>
    dsimp only [full]
    rw [show false = (!(!(Builtin.Str.occurrences want dots 0 want.length 1).isEmpty)) by rw [h1]; rfl]
    exact tv_cmp (ev_gstr (t := 271) (by kernel_rfl) (by kernel_rfl) (by kernel_rfl)) (by walk_at "e") cp_notin_str
  refine exs_cons (ex_own (d := .lst (sL (Txt.split want dots))) (fv_split (by walk_at "e") (ev_gstr (t := 271) (by kernel_rfl) (by kernel_rfl) (by kernel_rfl)) (by decide) (by omega) (by omega)) (by walk_at "sto") rfl) ?_
  rw [h3]
  refine exs_cons (ex_assert ?t2) ?_
  case t2 =>
    dsimp only [full]
    rw [show true = decide ((2 : Int) ≤ (((sL [W, ⟨#[]⟩]).length : Nat) : Int)) from rfl]
    exact tv_cmp (ev_call (callee_len w) (by kernel_rfl) (by kernel_rfl) (by walk_at "es") (cl_len_list (ds := sL [W, ⟨#[]⟩]) (by show 2 ≤ 1000000; decide))) (by walk_at "e") cp_ge
  refine exs_cons (ex_swap2 (x := Str.ofString "startpos") (y := Str.ofString "endpos") (d₁ := .int 0) (d₂ := .int got.length) (ev_tuple (es_cons (by walk_at "e") (es_cons (ev_call (callee_len w) (by kernel_rfl) (by kernel_rfl) (by walk_at "es") (cl_len_str (by omega))) es_nil))) (by walk_at "sto") (by walk_at "sto") rfl rfl) ?_
  refine exs_cons (ex_assign_flat (d := .str W) (ev_sub (by dsimp only [full]; walk_at "e") (by walk_at "e") (it_list (j := 0) rfl rfl (by decide) (by decide))) rfl (by walk_at "sto") rfl) ?_
  have tw : ∀ {Γ' : List (Str × D)} {env : Env} {p : Pos}, Γ'.lookup (Str.ofString "w") = some (.str W) → TV w k env Γ' (.Name (Str.ofString "w") p) true := fun h => by
    rw [show true = ((W.length : Int) != 0) from (bne_iff_ne.mpr (by omega)).symm]
    exact tv_value (ev_name h) (tr_str (by omega)) rfl
  cases hsw : Txt.startswith got W with
  | false =>
    refine exs_ret (ex_if (b := true) (tw (by dsimp only [full]; walk_at "lk")) (exs_ret (ex_if (b := false) ?t4 (exs_ret (ex_return (by walk_at "e"))))))
    rw [← hsw]
    exact tv_value (ev_meth (by dsimp only [full]; walk_at "e") ty_str PySem.F.plainAttrs_str PySem.F.slot_str_startswith PySem.F.type_str_startswith (by dsimp only [full]; walk_at "es") cl_startswith rfl rfl) tr_bool rfl
  | true =>
    have hle : W.length ≤ got.length := by
      unfold Txt.startswith at hsw
      simp only [Bool.and_eq_true, decide_eq_true_eq] at hsw
      omega
    refine exs_cons (ex_if (b := true) (tw (by dsimp only [full]; walk_at "lk")) (exs_cons (ex_if (b := true) ?t5 (exs_cons (ex_assign (d := .int W.length) (ev_call (callee_len w) (by kernel_rfl) (by kernel_rfl) (by walk_at "es") (cl_len_str (by omega))) (by walk_at "sto") rfl) (exs_cons (ex_own_del0 (by walk_at "e") (by decide)) exs_nil))) exs_nil)) ?_
    case t5 =>
      rw [← hsw]
      exact tv_value (ev_meth (by dsimp only [full]; walk_at "e") ty_str PySem.F.plainAttrs_str PySem.F.slot_str_startswith PySem.F.type_str_startswith (by dsimp only [full]; walk_at "es") cl_startswith rfl rfl) tr_bool rfl
    refine exs_cons (ex_assign_flat (d := .str ⟨#[]⟩) (ev_sub (by dsimp only [full]; walk_at "e") (by walk_at "e") (it_list (j := 0) rfl rfl (by decide) (by decide))) rfl (by walk_at "sto") rfl) ?_
    refine exs_cons (ex_if (b := false) (by dsimp only [full]; exact tv_value (by walk_at "e") (tr_str (x := ⟨#[]⟩) (by decide)) rfl) exs_nil) ?_
    refine exs_cons (ex_if (b := false) (by dsimp only [full]; rw [show false = decide ((got.length : Int) < (W.length : Int)) from (decide_eq_false (by omega)).symm]; exact tv_cmp (by walk_at "e") (by walk_at "e") cp_gt) exs_nil) ?_
    refine exs_freeze ?_
    refine exs_cons (ex_for (ie_list (ds := sL [⟨#[]⟩]) (ev_name lk_hd)) (.turn (d := .str ⟨#[]⟩) (bs := [(Str.ofString "w", .str ⟨#[]⟩)]) rfl (by walk_at "stos") ?body (.nil [] none)) (fun _ => rfl)) ?rest
    case rest => exact exs_ret (ex_return ev_bool)
    dsimp only [List.cons_append, List.nil_append]
    exact out_weaken (exs_cons (ex_assign (d := .int (find4 got ⟨#[]⟩ (W.length : Int) (got.length : Int))) (ev_meth (by walk_at "e") ty_str PySem.F.plainAttrs_str PySem.F.slot_str_find PySem.F.type_str_find (by walk_at "es") cl_find4 rfl rfl) (by walk_at "sto") rfl) (exs_cons (ex_if (b := false) (by dsimp only [full]; rw [show false = decide (find4 got ⟨#[]⟩ (W.length : Int) (got.length : Int) < 0) from (decide_eq_false (by have := find_empty hle; omega)).symm]; exact tv_cmp (by walk_at "e") (by walk_at "e") cp_lt) exs_nil) (exs_cons (ex_add lk_hd (ev_call (callee_len w) (by kernel_rfl) (by kernel_rfl) (by dsimp only [full]; walk_at "es") (cl_len_str (by decide))) (by walk_at "sto")) exs_nil))) (fun p h => nomatch h)

theorem slPick_map {α β : Type} (f : α → β) (l : List α) (lo hi sp : Option Int) : slPick (l.map f) lo hi sp = (slPick l lo hi sp).map f := by
  unfold slPick
  rw [List.length_map, List.map_filterMap]
  congr 1
  funext j
  rw [List.getElem?_map]
theorem slPick_iL (l : List Int) (lo hi sp : Option Int) : iL (slPick l lo hi sp) = slPick (iL l) lo hi sp := (slPick_map D.int l lo hi sp).symm
theorem f132 (w : World) : (KF w.params).lookup 132 = some (fnObj (fnAt 20 "law_pe0208_01" 367 131)) := by kernel_rfl
/-- a word's bits, and the word -/
def wdD (d q : Nat) : List Int := slPick (slPick (dgs 1 (d + 1) (2 ^ d + q)) none (some (-1)) none) none none (some (-1))
def s01 : Str := Str.ofString "01"
def wd (d q : Nat) : Str := Txt.join ⟨#[]⟩ ((wdD d q).map (Txt.item s01))
def nB (b : Nat) : Nat := Builtin.Int.intBits (b : Int)
def mB (a b : Nat) : Nat := (Builtin.Int.intBits (a : Int) + nB b - 1) / nB b
def wsOk1 (u d : Nat) : Bool := decide (d ≤ 4) && decide (u ≤ 16) && dmOk u (16 / 2 ^ d) (nB (16 / 2 ^ d)) (mB u (16 / 2 ^ d)) && decide (vl (nB (16 / 2 ^ d)) (dmR u (16 / 2 ^ d) (nB (16 / 2 ^ d)) (mB u (16 / 2 ^ d))).1.reverse = ((u / (16 / 2 ^ d) : Nat) : Int)) && decide ((dmR u (16 / 2 ^ d) (nB (16 / 2 ^ d)) (mB u (16 / 2 ^ d))).2 = 0) &&
  decide (Builtin.Int.intBits ((2 ^ d + u / (16 / 2 ^ d) : Nat) : Int) = d + 1) && decide (2 ^ d + u / (16 / 2 ^ d) < 2 ^ (d + 1)) && (wdD d (u / (16 / 2 ^ d))).all (fun b => fitsSsize b && (Txt.charAt s01 b).isSome) && JoinOk ⟨#[]⟩ ((wdD d (u / (16 / 2 ^ d))).map (Txt.item s01)) && decide ((wdD d (u / (16 / 2 ^ d))).length ≤ 100) && decide ((slPick (dgs 1 (d + 1) (2 ^ d + u / (16 / 2 ^ d))) none (some (-1)) none).length ≤ 100)
def wS (s : List Str × Nat) (p : Nat × Nat) : List Str × Nat := (s.1.set p.2 (wd p.1 (s.2 / (16 / 2 ^ p.1))), s.2 + 16 / 2 ^ p.1)
def wsOk : List (Nat × Nat) → Nat → Bool
  | [], _ => true
  | p :: l, u => decide (p.2 < 5) && wsOk1 u p.1 && wsOk l (u + 16 / 2 ^ p.1)
abbrev pf (p : Nat × Nat) : Int := p.1
abbrev pg (p : Nat × Nat) : Int := p.2
def wRows (c : List Nat) : List (Nat × Nat) := (List.range 5).map fun k => (c.getD k 0, k)
def wEnd (c : List Nat) (way : Int) : List Str × Nat := (inOrder pf pg way (wRows c)).foldl wS (List.replicate 5 ⟨#[]⟩, 0)
theorem sh16 : ∀ {d : Nat}, d ≤ 4 → (16 : Int).fdiv (2 ^ (d : Int).toNat) = ((16 / 2 ^ d : Nat) : Int)
  | 0, _ => rfl
  | 1, _ => rfl
  | 2, _ => rfl
  | 3, _ => rfl
  | 4, _ => rfl
  | n + 5, h => by omega
theorem ev_sh16 {w : World} {k : Nat} {env : Env} {Γ : List (Str × D)} {l r : Expr} {pos : Pos} {d : Nat} (hd : d ≤ 4) (hl : EV w k env Γ l (.int 16)) (hr : EV w k env Γ r (.int (d : Int))) : EV w k env Γ (.BinOp l .RShift r pos) (.int ((16 / 2 ^ d : Nat) : Int)) := by
  rw [← sh16 hd]; exact ev_binop hl hr (bo_shr (by omega))
set_option maxHeartbeats 2000000 in
theorem cl_words {w : World} {k : Nat} {way : Int} {dc : Dc} {c : List Nat} (hdc : ∀ q : Nat, q < 5 → dAt dc.1 (iL dc.2) (q : Int) = some (.int ((c.getD q 0 : Nat) : Int))) (ok : wsOk (inOrder pf pg way (wRows c)) 0 = true) (hu : (wEnd c way).2 = 16) :
    CL w (k + 12) (.ref 132) [dcD dc, .int way] (.lst (sL (wEnd c way).1)) := by
  refine cl_fn2 (k := k + 11) (names := ["depths", "way"]) (Γ := [(Str.ofString "way", .int way), (Str.ofString "depths", dcD dc)]) (f132 w) rfl rfl rfl rfl (by kernel_rfl) (by kernel_rfl) (by walk_at "bind") (by kernel_rfl) fun L => ?_
  have hrep : (List.replicate (5 : Int).toNat [D.str ⟨#[]⟩]).flatten = sL (List.replicate 5 ⟨#[]⟩) := rfl
  refine exs_cons (ex_own (d := .lst (List.replicate (5 : Int).toNat [D.str ⟨#[]⟩]).flatten) (fv_mul (ev_list (es_cons (by exact ev_str) es_nil) (by decide)) (by walk_at "e") (by decide) (by decide) (by decide)) (by walk_at "sto") rfl) ?_
  rw [hrep]
  refine exs_cons (ex_assign (d := .int ((0 : Nat) : Int)) (ev_int (i := 0)) (by walk_at "sto") rfl) ?_
  have hord := cl_in_order (w := w) (k := k) (way := way) pf pg (fun _ => []) (rows := wRows c) (by unfold wRows; rw [List.length_map, List.length_range]; decide)
  refine exs_cons (ex_for (ie_list (ev_call (callee_order w) (by kernel_rfl) (by kernel_rfl) (es_cons (ev_cv (cv_list (Γc := [(Str.ofString "depths", dcD dc)]) (tn := [Str.ofString "k"]) (rs := (wRows c).map (dR pf pg fun _ => [])) (ie_range1 (b := 5) (callee_range w) (by kernel_rfl) (by kernel_rfl) (by walk_at "e") (by omega) rfl) (by walk_at "blk") (fun d _ bs h p hp => binds_names h p hp) (fun C cells => ?c1) (by decide) (fun _ => rfl)) rfl) (by walk_at "es")) (CL.le hord (by omega)))) (by
    refine for_rest (σ := List Str × Nat) (α := Nat × Nat) (fun l s => wsOk l s.2 = true ∧ s.1.length = 5) (fun s => [(Str.ofString "used", .int s.2), (Str.ofString "way", .int way), (Str.ofString "depths", dcD dc)]) (fun s => some (Str.ofString "words", .lst (sL s.1))) (dR pf pg fun _ => []) wS (fun s p l hs => ?_) (inOrder pf pg way (wRows c)) (List.replicate 5 ⟨#[]⟩, 0) ⟨ok, rfl⟩
    obtain ⟨hok, hlen⟩ := hs
    unfold wsOk at hok
    simp only [Bool.and_eq_true, decide_eq_true_eq] at hok
    obtain ⟨⟨hp5, h1⟩, hr⟩ := hok
    refine ⟨⟨hr, by unfold wS; rw [List.length_set]; exact hlen⟩, [(Str.ofString "place", .int p.2), (Str.ofString "depth", .int p.1)], rfl, by walk_at "stos", ?_⟩
    unfold wsOk1 at h1
    simp only [Bool.and_eq_true, decide_eq_true_eq] at h1
    obtain ⟨⟨⟨⟨⟨⟨⟨⟨⟨⟨a1, a2⟩, a3⟩, a4⟩, a5⟩, a6⟩, a7⟩, a8⟩, a9⟩, a10⟩, a11⟩ := h1
    dsimp only [List.cons_append, List.nil_append]
    have hd := cl_int_divmod (w := w) (k := k) a3
    rw [a4, a5] at hd
    refine out_weaken (Γ' := [(Str.ofString "used", .int ((s.2 : Int) + ((16 / 2 ^ p.1 : Nat) : Int))), (Str.ofString "rest", .int 0), (Str.ofString "number", .int ((s.2 / (16 / 2 ^ p.1) : Nat) : Int)), (Str.ofString "place", .int p.2), (Str.ofString "depth", .int p.1), (Str.ofString "used", .int s.2), (Str.ofString "way", .int way), (Str.ofString "depths", dcD dc)]) ?_ (by dsimp only [wS]; rw [Int.natCast_add]; walk_at "weak")
    refine exs_cons (ex_unpack (d := .tup (iL [((s.2 / (16 / 2 ^ p.1) : Nat) : Int), 0])) (bs := [(Str.ofString "rest", .int 0), (Str.ofString "number", .int ((s.2 / (16 / 2 ^ p.1) : Nat) : Int))]) (ev_call (callee_idm w) (by kernel_rfl) (by kernel_rfl) (es_cons (by walk_at "e") (es_cons (ev_sh16 a1 (by walk_at "e") (by walk_at "e")) es_nil)) (CL.le hd (by omega))) rfl (by walk_at "stos") rfl rfl) ?_
    dsimp only [List.cons_append, List.nil_append]
    refine exs_cons (ex_if (b := false) (by dsimp only [full]; rw [show false = ((0 : Int) != 0) from rfl]; walk_at "t") exs_nil) ?_
    have hset : (sL s.1).set p.2 (.str (wd p.1 (s.2 / (16 / 2 ^ p.1)))) = sL (wS s p).1 := by unfold wS; exact List.map_set.symm
    rw [← hset]
    refine exs_cons (ex_own_setitem (j := p.2) ?he (by dsimp only [full]; walk_at "e") (by rw [List.length_map]; omega) (by rw [List.length_map]; omega)) (exs_cons (ex_add (by walk_at "lk") (by dsimp only [full]; exact ev_sh16 a1 (by walk_at "e") (by walk_at "e")) (by walk_at "sto")) exs_nil)
    refine ev_meth (T := "str") (dO := .str ⟨#[]⟩) (ds := [.lst (sL ((wdD p.1 (s.2 / (16 / 2 ^ p.1))).map (Txt.item s01)))]) (by exact ev_str) ty_str PySem.F.plainAttrs_str PySem.F.slot_str_join PySem.F.type_str_join (es_cons (ev_cv (cv_list (Γc := []) (tn := [Str.ofString "bit"]) (ds := iL (wdD p.1 (s.2 / (16 / 2 ^ p.1)))) (ie_list ?sl) (by walk_at "blk") (fun d _ bs h p hp => binds_names h p hp) (fun C cells => ?c2) ?ln (fun _ => rfl)) rfl) es_nil) (cl_join a9) rfl rfl
    case c2 =>
      rw [show sL ((wdD p.1 (s.2 / (16 / 2 ^ p.1))).map (Txt.item s01)) = (wdD p.1 (s.2 / (16 / 2 ^ p.1))).map fun b => .str (Txt.item s01 b) from List.map_map]
      refine comp_all (fun (i : Int) => D.int i) _ (wdD p.1 (s.2 / (16 / 2 ^ p.1))) fun b hb => ⟨[(Str.ofString "bit", .int b)], rfl, all_cons rfl all_nil, ?_⟩
      have := List.all_eq_true.mp a8 b hb
      simp only [Bool.and_eq_true] at this
      dsimp only [List.cons_append, List.nil_append]
      exact ev_sub (by exact ev_str) (by walk_at "e") (it_str this.1 this.2)
    case ln => rw [List.length_map]; omega
    case sl =>
      have e : ((2 ^ p.1 + s.2 / (16 / 2 ^ p.1) : Nat) : Int) = (2 : Int) ^ ((p.1 : Nat) : Int).toNat + ((s.2 / (16 / 2 ^ p.1) : Nat) : Int) := by rw [Int.toNat_natCast, Int.natCast_add, Int.natCast_pow]; rfl
      have hi := cl_int2digits (w := w) (k := k) (a := 2 ^ p.1 + s.2 / (16 / 2 ^ p.1)) (n := 1) (m := p.1 + 1) (by decide) (by decide) (by rw [a6]; omega) (by omega) (by omega) (by rw [Nat.one_mul]; exact a7)
      rw [e] at hi
      unfold wdD at a10 ⊢
      rw [slPick_iL, slPick_iL]
      exact ev_slice_list (ev_slice_list (ev_call (callee_i2d w) (by kernel_rfl) (by kernel_rfl) (es_cons (ev_binop (ev_binop (by walk_at "e") (by walk_at "e") (bo_pow (by omega) (by omega) (by decide))) (by walk_at "e") bo_add) (es_cons (ev_int (i := 1)) es_nil)) (CL.le hi (by omega))) pt_none (pt_some (by walk_at "e")) pt_none (by decide) (by rw [List.length_map, dgs_length]; omega)) pt_none pt_none (pt_some (by walk_at "e")) (by decide) (by rw [← slPick_iL, List.length_map]; omega)) (fun _ => rfl)) ?last
  case last =>
    show EXS w (k + 11) _ [(Str.ofString "used", .int (wEnd c way).2), (Str.ofString "way", .int way), (Str.ofString "depths", dcD dc)] (some (Str.ofString "words", .lst (sL (wEnd c way).1))) _ (.ret _)
    refine exs_freeze (exs_ret (ex_return (ev_ifexp (c := true) ?_ (by dsimp only [full]; exact ev_name lk_hd))))
    dsimp only [full]
    rw [show true = (((wEnd c way).2 : Int) == 16) by rw [hu]; rfl]
    walk_at "t"
  case c1 =>
    have hr : iL (rng 0 (5 : Int).toNat) = (List.range 5).map fun (i : Nat) => D.int (i : Int) := by rfl
    have hr2 : (wRows c).map (dR pf pg fun _ => []) = (List.range 5).map fun (q : Nat) => D.tup [.int ((c.getD q 0 : Nat) : Int), .int (q : Int)] := by unfold wRows; rw [List.map_map]; rfl
    rw [hr, hr2]
    refine comp_all (fun (i : Nat) => D.int (i : Int)) _ (List.range 5) fun q hq => ⟨[(Str.ofString "k", .int q)], rfl, all_cons rfl all_nil, ?_⟩
    dsimp only [List.cons_append, List.nil_append]
    exact ev_tuple (es_cons (ev_sub (by walk_at "e") (by walk_at "e") (it_dict (hdc q (List.mem_range.mp hq)))) (by walk_at "es"))

abbrev rD (row : List Nat) : D := .lst (row.map fun (d : Nat) => D.int (d : Int))
def mx (l : List Nat) : Nat := l.foldr max 1
def lastOf (row : List Nat) : List Nat := slPick row (some (-1)) none none
def nx (row : List Nat) : List (List Nat) := (List.range (5 - mx (lastOf row))).map fun i => row ++ [mx (lastOf row) + i]
def rowsN : Nat → List (List Nat)
  | 0 => [[]]
  | n + 1 => (rowsN n).flatMap nx
def fit (row : List Nat) : Bool := decide ((row.map fun (d : Nat) => ((16 / 2 ^ d : Nat) : Int)).sum ≤ 16)
def dot (hv : List Int) (row : List Nat) : Int := ((List.range 5).map fun (q : Nat) => hv.getD q 0 * ((row.getD q 0 : Nat) : Int)).sum
def scores (hv : List Int) : List Int := ((rowsN 5).filter fit).map (dot hv)
def cts (ms : List Int) : List Int := (List.range 5).map fun (q : Nat) => ((ms.count (q : Int) : Nat) : Int)
def hvy (sl : List Int) : List Int := slPick sl none none (some (-1))
theorem mx_mem : ∀ (l : List Nat), ((mx l : Nat) : Int) ∈ ((1 : Int) :: l.map fun (d : Nat) => (d : Int))
  | [] => .head _
  | a :: l => by
    have ih := mx_mem l
    show ((max a (mx l) : Nat) : Int) ∈ _
    by_cases h : a ≤ mx l
    · rw [Nat.max_eq_right h]
      rcases List.mem_cons.mp ih with e | ih
      · rw [e]; exact .head _
      · exact .tail _ (.tail _ ih)
    · rw [Nat.max_eq_left (by omega)]; exact .tail _ (.head _)
theorem mx_le : ∀ (l : List Nat), ∀ x ∈ ((1 : Int) :: l.map fun (d : Nat) => (d : Int)), x ≤ ((mx l : Nat) : Int)
  | [], x, h => by rcases List.mem_cons.mp h with rfl | h; · exact Int.le_refl _
                   · cases h
  | a :: l, x, h => by
    have ih := mx_le l
    show x ≤ ((max a (mx l) : Nat) : Int)
    rcases List.mem_cons.mp h with rfl | h
    · have := ih 1 (.head _); omega
    · rcases List.mem_cons.mp h with rfl | h
      · show ((a : Nat) : Int) ≤ _; omega
      · have := ih x (.tail _ h); omega
theorem mx_small : ∀ (l : List Nat), (∀ d ∈ l, d ≤ 4) → mx l ≤ 4
  | [], _ => by decide
  | a :: l, h => by
    have := mx_small l fun d hd => h d (.tail _ hd)
    have := h a (.head _)
    show max a (mx l) ≤ 4
    omega
theorem rows_ok : ∀ j < 6, (rowsN j).length ≤ 100 ∧ ∀ r ∈ rowsN j, r.length ≤ 10 ∧ (lastOf r).length ≤ 10 ∧ mx (lastOf r) ≤ 4 := by decide +kernel
theorem rows_five : ∀ r ∈ rowsN 5, r.length = 5 ∧ ∀ d ∈ r, d ≤ 4 := by decide +kernel
theorem f137 (w : World) : (KF w.params).lookup 137 = some (fnObj (fnAt 21 "law_pe0208_01" 367 136)) := by kernel_rfl
theorem callee_sum (w : World) : Callee w (Str.ofString "sum") (.builtin "sum") := .bi "sum" (by kernel_rfl) (by decide +kernel) (by decide +kernel)
theorem callee_sorted (w : World) : Callee w (Str.ofString "sorted") (.builtin "sorted") := .bi "sorted" (by kernel_rfl) (by decide +kernel) (by decide +kernel)
theorem callee_max (w : World) : Callee w (Str.ofString "max") (.builtin "max") := .bi "max" (by kernel_rfl) (by decide +kernel) (by decide +kernel)
theorem callee_min (w : World) : Callee w (Str.ofString "min") (.builtin "min") := .bi "min" (by kernel_rfl) (by decide +kernel) (by decide +kernel)
theorem comp2_rows {w : World} {k : Nat} {env : Env} {target iter' target' elt : Expr}
    (h : ∀ row : List Nat, row.length ≤ 10 → (lastOf row).length ≤ 10 → mx (lastOf row) ≤ 4 → ∃ bs, bindsI target (rD row) = some bs ∧ IE w k env (bs ++ []) iter' ((List.range (5 - mx (lastOf row))).map fun (i : Nat) => D.int (((mx (lastOf row) : Nat) : Int) + (i : Int))) ∧
      CompL w k env (bs ++ []) target' [] elt ((List.range (5 - mx (lastOf row))).map fun (i : Nat) => D.int (((mx (lastOf row) : Nat) : Int) + (i : Int))) ((nx row).map rD)) :
    ∀ (rows : List (List Nat)), (∀ r ∈ rows, r.length ≤ 10 ∧ (lastOf r).length ≤ 10 ∧ mx (lastOf r) ≤ 4) → CompL2 w k env [] target [] iter' target' [] elt (rows.map rD) ((rows.flatMap nx).map rD)
  | [], _ => .nil
  | row :: rows, hr => by
    obtain ⟨h1, h2, h3⟩ := hr row (.head _)
    obtain ⟨bs, b1, b2, b3⟩ := h row h1 h2 h3
    rw [List.flatMap_cons, List.map_append]
    exact .turn b1 (fun _ _ => rfl) rfl b2 (by rw [List.length_map, List.length_range]; omega) b3 (comp2_rows h rows fun r hr' => hr r (.tail _ hr'))
set_option maxHeartbeats 2000000 in
theorem cl_least {w : World} {k : Nat} {ms sl : List Int} {m : Int} (hp : sl.Perm (cts ms)) (ho : sl.Pairwise (· ≤ ·)) (h5 : (hvy sl).length = 5) (hb : ∀ x ∈ hvy sl, 0 ≤ x ∧ x ≤ 100) (hm : m ∈ scores (hvy sl)) (hle : ∀ x ∈ scores (hvy sl), m ≤ x) (hz : ms.length ≤ 100) :
    CL w (k + 1) (.ref 137) [.lst (iL ms)] (.int m) := by
  refine cl_fn2 (names := ["message"]) (Γ := [(Str.ofString "message", .lst (iL ms))]) (f137 w) rfl rfl rfl rfl (by kernel_rfl) (by kernel_rfl) (by walk_at "bind") (by kernel_rfl) fun L => ?_
  have hr : iL (rng 0 (5 : Int).toNat) = (List.range 5).map fun (i : Nat) => D.int (i : Int) := by rfl
  refine exs_cons (ex_assign (d := .lst (iL (hvy sl))) (by
    unfold hvy
    rw [slPick_iL]
    refine ev_slice_list (ev_call (callee_sorted w) (by kernel_rfl) (by kernel_rfl) (es_cons (ev_cv (cv_list (Γc := [(Str.ofString "message", .lst (iL ms))]) (tn := [Str.ofString "place"]) (rs := iL (cts ms)) (ie_range1 (b := 5) (callee_range w) (by kernel_rfl) (by kernel_rfl) (by walk_at "e") (by omega) rfl) (by walk_at "blk") (fun d _ bs h p hp => binds_names h p hp) (fun C cells => ?c1) (by decide) (fun _ => rfl)) rfl) es_nil) (cl_sorted hp ho (by unfold cts; rw [List.length_map, List.length_range]; decide))) pt_none pt_none (pt_some (by walk_at "e")) (by decide) (by rw [List.length_map, hp.length_eq]; unfold cts; rw [List.length_map, List.length_range]; decide)
    rw [hr, show iL (cts ms) = (List.range 5).map fun (q : Nat) => D.int ((ms.count (q : Int) : Nat) : Int) from List.map_map]
    refine comp_all (fun (i : Nat) => D.int (i : Int)) _ (List.range 5) fun q hq => ⟨[(Str.ofString "place", .int q)], rfl, all_cons rfl all_nil, ?_⟩
    dsimp only [List.cons_append, List.nil_append]
    exact ev_meth (by walk_at "e") ty_list PySem.F.plainAttrs_list PySem.F.slot_list_count PySem.F.type_list_count (by walk_at "es") cl_count rfl rfl) (by walk_at "stoc") rfl) ?_
  refine exs_cons (ex_assign (d := .lst ((rowsN 0).map rD)) (ev_list (es_cons (ev_list es_nil (by decide)) es_nil) (by decide)) (by walk_at "sto") rfl) ?_
  refine exs_cons (ex_for (ie_range1 (b := 5) (callee_range w) (by kernel_rfl) (by kernel_rfl) (by walk_at "e") (by omega) rfl) (by
    rw [hr]
    refine for_rest (σ := List (List Nat)) (α := Nat) (fun l s => ∃ j, j + l.length = 5 ∧ s = rowsN j) (fun s => [(Str.ofString "rows", .lst (s.map rD)), (Str.ofString "heavy", .lst (iL (hvy sl))), (Str.ofString "message", .lst (iL ms))]) (fun s => none) (fun (i : Nat) => D.int (i : Int)) (fun s _ => s.flatMap nx) (fun s i l hs => ?_) (List.range 5) (rowsN 0) ⟨0, rfl, rfl⟩
    obtain ⟨j, hj, rfl⟩ := hs
    rw [List.length_cons] at hj
    refine ⟨⟨j + 1, by omega, rfl⟩, [(Str.ofString "k", .int i)], rfl, by walk_at "stos", ?_⟩
    dsimp only [List.cons_append, List.nil_append]
    obtain ⟨r1, r2⟩ := rows_ok j (by omega)
    refine out_weaken (Γ' := [(Str.ofString "rows", .lst (((rowsN j).flatMap nx).map rD)), (Str.ofString "k", .int i), (Str.ofString "rows", .lst ((rowsN j).map rD)), (Str.ofString "heavy", .lst (iL (hvy sl))), (Str.ofString "message", .lst (iL ms))]) (exs_cons (ex_cv (cv_list2 (Γc := []) (tn := [Str.ofString "row", Str.ofString "depth"]) (ie_list (by walk_at "e")) (by walk_at "blk") (fun d _ bs h p hp => by have := binds_names h p hp; exact List.mem_append_left [Str.ofString "depth"] this) (fun d bs h p hp => by have := binds_names h p hp; exact List.mem_append_right [Str.ofString "row"] this) (fun C cells => comp2_rows (fun row w1 w2 w3 => ⟨[(Str.ofString "row", rD row)], rfl, ?ie, ?el⟩) (rowsN j) r2) (by rw [List.length_map]; omega) (fun _ => rfl) (fun _ _ => rfl)) (by walk_at "sto") (fun _ => rfl) rfl) exs_nil) (by walk_at "weak")
    case ie =>
      dsimp only [List.cons_append, List.nil_append]
      have e : (List.range (5 - mx (lastOf row))).map (fun (i : Nat) => D.int (((mx (lastOf row) : Nat) : Int) + (i : Int))) = iL (rng ((mx (lastOf row) : Nat) : Int) ((5 : Int) - ((mx (lastOf row) : Nat) : Int)).toNat) := by
        rw [show ((5 : Int) - ((mx (lastOf row) : Nat) : Int)).toNat = 5 - mx (lastOf row) by omega]
        exact List.map_map.symm
      rw [e]
      refine ie_range2 (callee_range w) (by kernel_rfl) (by kernel_rfl) (ev_call (callee_max w) (by kernel_rfl) (by kernel_rfl) (es_cons ?mxe es_nil) (cl_max (mx_mem (lastOf row)) (mx_le (lastOf row)))) (by walk_at "e") (by omega) (by omega)
      have e2 : iL ((1 : Int) :: (lastOf row).map fun (d : Nat) => (d : Int)) = [D.int 1] ++ slPick (row.map fun (d : Nat) => D.int (d : Int)) (some (-1)) none none := by
        rw [slPick_map]
        show D.int 1 :: List.map D.int _ = D.int 1 :: _
        rw [List.map_map]; rfl
      rw [e2]
      exact ev_binop (ev_list (es_cons (ev_int (i := 1)) es_nil) (by decide)) (ev_slice_list (by walk_at "e") (pt_some (by walk_at "e")) pt_none pt_none (by decide) (by rw [List.length_map]; omega)) (bo_add_list (by rw [slPick_map, List.length_map]; show 1 + (lastOf row).length ≤ 1000000; omega))
    case el =>
      dsimp only [List.cons_append, List.nil_append]
      rw [show (nx row).map rD = (List.range (5 - mx (lastOf row))).map fun (i : Nat) => rD (row ++ [mx (lastOf row) + i]) from List.map_map]
      refine comp_all (fun (i : Nat) => D.int (((mx (lastOf row) : Nat) : Int) + (i : Int))) _ (List.range (5 - mx (lastOf row))) fun i hi => ⟨[(Str.ofString "depth", .int (((mx (lastOf row) : Nat) : Int) + (i : Int)))], rfl, all_cons (by kernel_rfl) all_nil, ?_⟩
      dsimp only [List.cons_append, List.nil_append]
      have e3 : rD (row ++ [mx (lastOf row) + i]) = .lst ((row.map fun (d : Nat) => D.int (d : Int)) ++ [.int (((mx (lastOf row) : Nat) : Int) + (i : Int))]) := by
        show D.lst _ = _
        rw [List.map_append]; rfl
      rw [e3]
      exact ev_binop (by walk_at "e") (ev_list (es_cons (by walk_at "e") es_nil) (by show 1 ≤ 1000000; decide)) (bo_add_list (by rw [List.length_map]; show row.length + 1 ≤ 1000000; omega))) (fun _ => rfl)) ?last
  case last =>
    show EXS w k _ [(Str.ofString "rows", .lst ((rowsN 5).map rD)), (Str.ofString "heavy", .lst (iL (hvy sl))), (Str.ofString "message", .lst (iL ms))] none _ (.ret _)
    have hz5 : (rowsN 5).length ≤ 100 := (rows_ok 5 (by decide)).1
    refine exs_cons (ex_cv (cv_list (Γc := []) (tn := [Str.ofString "row"]) (rs := ((rowsN 5).filter fit).map rD) (ie_list (by walk_at "e")) (by walk_at "blk") (fun d _ bs h p hp => binds_names h p hp) (fun C cells => comp_map rD rD fit (rowsN 5) fun row hrow => ⟨[(Str.ofString "row", rD row)], rfl, all_cons rfl all_nil, ?fit, fun _ => by dsimp only [List.cons_append, List.nil_append]; walk_at "e"⟩) (by rw [List.length_map]; omega) (fun _ => rfl)) (by walk_at "sto") (fun _ => rfl) rfl) ?_
    case fit =>
      dsimp only [List.cons_append, List.nil_append]
      refine tv_cmp (ev_call (callee_sum w) (by kernel_rfl) (by kernel_rfl) (es_cons (ev_cv (cv_list (Γc := []) (tn := [Str.ofString "depth"]) (rs := iL (row.map fun (d : Nat) => ((16 / 2 ^ d : Nat) : Int))) (ie_list (by walk_at "e")) (by walk_at "blk") (fun d _ bs h p hp => binds_names h p hp) (fun C cells => ?c3) (by rw [List.length_map, (rows_five row hrow).1]; decide) (fun _ => rfl)) rfl) es_nil) cl_sum) (by walk_at "e") cp_le
      rw [show iL (row.map fun (d : Nat) => ((16 / 2 ^ d : Nat) : Int)) = row.map fun (d : Nat) => D.int ((16 / 2 ^ d : Nat) : Int) from List.map_map]
      refine comp_all (fun (d : Nat) => D.int (d : Int)) _ row fun d hd => ⟨[(Str.ofString "depth", .int d)], rfl, all_cons rfl all_nil, ?_⟩
      dsimp only [List.cons_append, List.nil_append]
      exact ev_sh16 ((rows_five row hrow).2 d hd) (by walk_at "e") (by walk_at "e")
    refine exs_ret (ex_return (ev_call (callee_min w) (by kernel_rfl) (by kernel_rfl) (es_cons (ev_cv (cv_listK (Γc := [(Str.ofString "heavy", .lst (iL (hvy sl)))]) (tn := [Str.ofString "row"]) (ds := ((rowsN 5).filter fit).map rD) (rs := iL (scores (hvy sl))) (ie_list (by dsimp only [full]; walk_at "e")) (by dsimp only [full]; walk_at "blk") (fun d _ bs h p hp => binds_names h p hp) (fun C cells hc => ?c4) (by rw [List.length_map]; have := List.length_filter_le fit (rowsN 5); omega) (fun _ => rfl)) rfl) es_nil) (cl_min hm hle)))
    obtain ⟨n, cl, hcl, rfl⟩ := hc
    have hc : some cl = some [(Str.ofString "heavy", L + 2)] := hcl.symm.trans (by kernel_rfl)
    cases hc
    rw [show iL (scores (hvy sl)) = ((rowsN 5).filter fit).map fun row => D.int (dot (hvy sl) row) from List.map_map]
    refine comp_all rD _ ((rowsN 5).filter fit) fun row hrow => ⟨[(Str.ofString "row", rD row)], rfl, all_cons (by kernel_rfl) all_nil, ?_⟩
    obtain ⟨g1, g2⟩ := rows_five row (List.mem_filter.mp hrow).1
    dsimp only [List.cons_append, List.nil_append]
    refine ev_call (callee_sum w) (by kernel_rfl) (by kernel_rfl) (es_cons (ev_cv (cv_list (Γc := [(Str.ofString "heavy", .lst (iL (hvy sl))), (Str.ofString "row", rD row)]) (tn := [Str.ofString "k"]) (rs := iL ((List.range 5).map fun (q : Nat) => (hvy sl).getD q 0 * ((row.getD q 0 : Nat) : Int))) (ie_range1 (b := 5) (callee_range w) (by kernel_rfl) (by kernel_rfl) (by walk_at "e") (by omega) rfl) (by walk_at "blk") (fun d _ bs h p hp => binds_names h p hp) (fun C' cells' => ?c5) (by decide) (fun _ => rfl)) rfl) es_nil) cl_sum
    rw [hr, show iL ((List.range 5).map fun (q : Nat) => (hvy sl).getD q 0 * ((row.getD q 0 : Nat) : Int)) = (List.range 5).map fun (q : Nat) => D.int ((hvy sl).getD q 0 * ((row.getD q 0 : Nat) : Int)) from List.map_map]
    refine comp_all (fun (i : Nat) => D.int (i : Int)) _ (List.range 5) fun q hq => ⟨[(Str.ofString "k", .int q)], rfl, all_cons (by kernel_rfl) all_nil, ?_⟩
    have hq := List.mem_range.mp hq
    have e1 : (iL (hvy sl))[q]? = some (.int ((hvy sl).getD q 0)) := by
      rw [List.getElem?_map, List.getD_eq_getElem?_getD, List.getElem?_eq_getElem (by omega)]; rfl
    have e2 : (row.map fun (d : Nat) => D.int (d : Int))[q]? = some (.int ((row.getD q 0 : Nat) : Int)) := by
      rw [List.getElem?_map, List.getD_eq_getElem?_getD, List.getElem?_eq_getElem (by omega)]; rfl
    have b1 : 0 ≤ (hvy sl).getD q 0 ∧ (hvy sl).getD q 0 ≤ 100 := by
      rw [List.getD_eq_getElem?_getD, List.getElem?_eq_getElem (by omega)]; exact hb _ (List.getElem_mem _)
    dsimp only [List.cons_append, List.nil_append]
    exact ev_binop (ev_sub (by walk_at "e") (by walk_at "e") (it_list (seqIndex_nat (by rw [List.length_map]; omega)) e1 (by omega) (by omega))) (ev_sub (by walk_at "e") (by walk_at "e") (it_list (seqIndex_nat (by rw [List.length_map]; omega)) e2 (by omega) (by omega))) (bo_mul (IntMulOk.of_left (intBits_le_64 (by omega) (by omega))))

abbrev stl (l : List Nat) : Str := ⟨l.toArray⟩
abbrev wAt (ws : List Str) (q : Nat) : Str := ws.getD q ⟨#[]⟩
def jl (ws : List Str) (ms : List Nat) : List Nat := (ms.map fun q => (wAt ws q).cps.toList).flatten
def pfx (a b : Str) : Bool := a.cps.toList.isPrefixOf b.cps.toList
theorem sw_iff {l : List Nat} {y : Str} : Txt.startswith (stl l) y = true ↔ y.cps.toList <+: l := by
  unfold Txt.startswith
  rw [StrLaws.subAt_eq]
  simp only [Bool.and_eq_true, decide_eq_true_eq, beq_iff_eq, List.drop_zero]
  have hy : y.length = y.cps.toList.length := by simp [Str.length]
  have hl : (stl l).length = l.length := by simp [Str.length]
  rw [hy, hl]
  constructor
  · rintro ⟨h1, h2⟩
    rw [← h2]; exact List.take_prefix _ _
  · intro h
    exact ⟨by have := h.length_le; omega, (List.prefix_iff_eq_take.mp h).symm⟩
structure CodeOk (ws : List Str) : Prop where
  five : ws.length = 5
  el : ∀ q : Nat, q < 5 → elOk (wAt ws q) (wAt ws q ++ dots) = true
  free : ∀ q : Nat, q < 5 → ∀ m : Nat, m < 5 → q ≠ m → pfx (wAt ws q) (wAt ws m) = false
theorem CodeOk.ne {ws : List Str} (h : CodeOk ws) {q : Nat} (hq : q < 5) : (wAt ws q).cps.toList ≠ [] := fun e => by
  have := h.el q hq
  unfold elOk at this
  simp only [Bool.and_eq_true, bne_iff_ne] at this
  exact this.1.1.2 (by show (wAt ws q).cps.size = 0; rw [← Array.length_toList, e]; rfl)
theorem CodeOk.len {ws : List Str} (h : CodeOk ws) {q : Nat} (hq : q < 5) : (wAt ws q).length + dots.length ≤ 1000 := by
  have := h.el q hq
  unfold elOk at this
  simp only [Bool.and_eq_true, decide_eq_true_eq] at this
  have h5 := this.1.2
  have : (wAt ws q ++ dots).length = (wAt ws q).length + dots.length := by show (_ ++ _ : Array Nat).size = _; exact Array.size_append
  omega
theorem reads {ws : List Str} (h : CodeOk ws) {m : Nat} (hm : m < 5) (r : List Nat) : ∀ q : Nat, q < 5 → Txt.startswith (stl ((wAt ws m).cps.toList ++ r)) (wAt ws q) = (q == m) := fun q hq => by
  by_cases e : q = m
  · subst e; rw [beq_self_eq_true]; exact sw_iff.mpr (List.prefix_append _ _)
  · rw [beq_eq_false_iff_ne.mpr e]
    cases hs : Txt.startswith (stl ((wAt ws m).cps.toList ++ r)) (wAt ws q) with
    | false => rfl
    | true =>
      exfalso
      have h1 := sw_iff.mp hs
      have h2 : (wAt ws m).cps.toList <+: (wAt ws m).cps.toList ++ r := List.prefix_append _ _
      rcases List.prefix_or_prefix_of_prefix h1 h2 with h3 | h3
      · have := h.free q hq m hm e
        unfold pfx at this
        rw [List.isPrefixOf_iff_prefix.mpr h3] at this; cases this
      · have := h.free m hm q hq (Ne.symm e)
        unfold pfx at this
        rw [List.isPrefixOf_iff_prefix.mpr h3] at this; cases this
theorem only : ∀ {m : Nat}, m < 5 → (List.range 5).filter (fun q => q == m) = [m]
  | 0, _ => rfl
  | 1, _ => rfl
  | 2, _ => rfl
  | 3, _ => rfl
  | 4, _ => rfl
  | n + 5, h => by omega
theorem f142 (w : World) : (KF w.params).lookup 142 = some (fnObj (fnAt 22 "law_pe0208_01" 367 141)) := by kernel_rfl
theorem callee_el (w : World) : Callee w (Str.ofString "_ellipsis_match") (.ref 63) := .fn 63 _ _ (by kernel_rfl) (f63 w) rfl
def rdTest : Expr := match (fnAt 22 "law_pe0208_01" 367 141).body with
  | .stmts (_ :: _ :: .While t _ _ _ :: _) => t
  | _ => .List [] ⟨0, 0, 0, 0⟩
def rdBody : List Stmt := match (fnAt 22 "law_pe0208_01" 367 141).body with
  | .stmts (_ :: _ :: .While _ b _ _ :: _) => b
  | _ => []
abbrev rdG (wr : Str) (ws : List Str) (l : List Nat) : List (Str × D) := [(Str.ofString "left", .str (stl l)), (Str.ofString "words", .lst (sL ws)), (Str.ofString "written", .str wr)]
abbrev rdO (sg : List Nat) : Option (Str × D) := some (Str.ofString "signs", .lst (sg.map fun (q : Nat) => D.int (q : Int)))
theorem rd_test {w : World} {k : Nat} {L : Addr} {wr : Str} {ws : List Str} {l sg : List Nat} {b : Bool} (hb : (stl l != ⟨#[]⟩) = b) : TV w k (callEnvC (fnAt 22 "law_pe0208_01" 367 141) L 142) (full (rdG wr ws l) (rdO sg)) rdTest b := by
  rw [← hb]
  dsimp only [full]
  exact tv_cmp (by walk_at "e") (by exact ev_str) cp_ne_str
set_option maxHeartbeats 2000000 in
theorem rd_turn {w : World} {k : Nat} {L : Addr} {wr : Str} {ws : List Str} (C : CodeOk ws) {m : Nat} (hm : m < 5) {r sg : List Nat} (hl : ((wAt ws m).cps.toList ++ r).length ≤ 1000) (hs : sg.length ≤ 100) :
    EXS w (k + 1) (callEnvC (fnAt 22 "law_pe0208_01" 367 141) L 142) (rdG wr ws ((wAt ws m).cps.toList ++ r)) (rdO sg) rdBody (.next (rdG wr ws r) (rdO (sg ++ [m]))) := by
  have hit : ∀ q : Nat, q < 5 → (sL ws)[q]? = some (.str (wAt ws q)) := fun q hq => by
    have := C.five
    rw [List.getElem?_map, show wAt ws q = ws.getD q ⟨#[]⟩ from rfl, List.getD_eq_getElem?_getD, List.getElem?_eq_getElem (by omega)]; rfl
  refine out_weaken (Γ' := [(Str.ofString "left", .str (stl r)), (Str.ofString "fits", .lst [.int m]), (Str.ofString "left", .str (stl ((wAt ws m).cps.toList ++ r))), (Str.ofString "words", .lst (sL ws)), (Str.ofString "written", .str wr)]) ?_ (by walk_at "weak")
  refine exs_cons (ex_cv (d := .lst [.int m]) ?cv (by walk_at "sto") (fun _ => rfl) rfl) ?_
  case cv =>
    rw [show D.lst [D.int (m : Int)] = .lst (((List.range 5).filter fun q => q == m).map fun (i : Nat) => D.int (i : Int)) by rw [only hm]; rfl]
    refine cv_list (Γc := [(Str.ofString "words", .lst (sL ws)), (Str.ofString "left", .str (stl ((wAt ws m).cps.toList ++ r)))]) (tn := [Str.ofString "place"]) (ie_range1 (b := 5) (callee_range w) (by kernel_rfl) (by kernel_rfl) (by walk_at "e") (by omega) rfl) (by walk_at "blk") (fun d _ bs h p hp => binds_names h p hp) (fun C' cells => comp_map (fun (i : Nat) => D.int (i : Int)) (fun (i : Nat) => D.int (i : Int)) (fun q => q == m) (List.range 5) fun q hq => ⟨[(Str.ofString "place", .int q)], rfl, all_cons rfl all_nil, ?_, fun _ => by dsimp only [List.cons_append, List.nil_append]; walk_at "e"⟩) (by decide) (fun _ => rfl)
    have hq := List.mem_range.mp hq
    dsimp only [List.cons_append, List.nil_append]
    rw [← reads C hm r q hq]
    exact tv_value (ev_call (callee_el w) (by kernel_rfl) (by kernel_rfl) (es_cons (ev_binop (ev_sub (by walk_at "e") (by walk_at "e") (it_list (seqIndex_nat (by rw [List.length_map, C.five]; omega)) (hit q hq) (by omega) (by omega))) (by exact ev_str (x := dots)) (bo_add_str (by have := C.len hq; omega))) (by walk_at "es")) (cl_ellipsis (k := k) (C.el q hq) (by show (List.toArray _).size ≤ 1000; rw [List.size_toArray]; exact hl))) tr_bool rfl
  refine exs_cons (ex_if (b := false) ?t exs_nil) ?_
  case t =>
    dsimp only [full]
    rw [show false = ((([D.int m].length : Nat) : Int) != 1) from rfl]
    exact tv_cmp (ev_call (callee_len w) (by kernel_rfl) (by kernel_rfl) (by walk_at "es") (cl_len_list (by show 1 ≤ 1000000; decide))) (by walk_at "e") cp_ne
  have e : (sg ++ [m]).map (fun (q : Nat) => D.int (q : Int)) = sg.map (fun (q : Nat) => D.int (q : Int)) ++ [.int m] := List.map_append
  dsimp only [rdO]
  rw [e]
  refine exs_cons (ex_own_append (ev_sub (by walk_at "e") (by walk_at "e") (it_list (j := 0) rfl rfl (by decide) (by decide))) (by rw [List.length_map]; omega)) ?_
  refine exs_cons (ex_assign (d := .str (stl r)) ?sl (by walk_at "stoc") rfl) exs_nil
  have hd : (⟨((stl ((wAt ws m).cps.toList ++ r)).cps.toList.drop (wAt ws m).length).toArray⟩ : Str) = stl r := by
    show stl _ = stl r
    congr 1
    show List.drop _ ((wAt ws m).cps.toList ++ r) = r
    rw [show (wAt ws m).length = (wAt ws m).cps.toList.length by simp [Str.length], List.drop_left]
  rw [← hd]
  have hsz : (stl ((wAt ws m).cps.toList ++ r)).length = (wAt ws m).length + r.length := by simp [Str.length]
  have hl2 : (wAt ws m).length + r.length ≤ 1000 := by rw [List.length_append] at hl; simpa [Str.length] using hl
  exact ev_slice_str_from (by walk_at "e") (ev_call (callee_len w) (by kernel_rfl) (by kernel_rfl) (es_cons (ev_sub (by walk_at "e") (ev_sub (by walk_at "e") (by walk_at "e") (it_list (j := 0) rfl rfl (by decide) (by decide))) (it_list (seqIndex_nat (by rw [List.length_map, C.five]; omega)) (hit m hm) (by omega) (by omega))) es_nil) (cl_len_str (by omega))) (by omega) (by omega)
theorem rd_loop {w : World} {k : Nat} {L : Addr} {wr : Str} {ws : List Str} (C : CodeOk ws) : ∀ (ms sg : List Nat), (∀ m ∈ ms, m < 5) → (jl ws ms).length ≤ 1000 → sg.length + ms.length ≤ 100 →
    LoopW w (k + 1) (callEnvC (fnAt 22 "law_pe0208_01" 367 141) L 142) rdTest rdBody (rdG wr ws (jl ws ms)) (rdO sg) (.next (rdG wr ws []) (rdO (sg ++ ms)))
  | [], sg, _, _, _ => by rw [List.append_nil]; exact .stop (rd_test (by show (stl [] != ⟨#[]⟩) = false; decide))
  | m :: ms, sg, h, hl, hs => by
    have hm := h m (.head _)
    have e : jl ws (m :: ms) = (wAt ws m).cps.toList ++ jl ws ms := rfl
    rw [e] at hl ⊢
    rw [List.length_cons] at hs
    rw [List.append_cons]
    refine .turn (rd_test (bne_iff_ne.mpr fun e => ?_)) (rd_turn C hm hl (by omega)) (rd_loop C ms (sg ++ [m]) (fun q hq => h q (.tail _ hq)) (by rw [List.length_append] at hl; omega) (by rw [List.length_append, List.length_singleton]; omega))
    have : (wAt ws m).cps.toList ++ jl ws ms = [] := congrArg (fun (x : Str) => x.cps.toList) e
    exact C.ne hm (List.append_eq_nil_iff.mp this).1
theorem cl_read {w : World} {k : Nat} {ws : List Str} (C : CodeOk ws) {ms : List Nat} (h : ∀ m ∈ ms, m < 5) (hl : (jl ws ms).length ≤ 1000) (hs : ms.length ≤ 100) : CL w (k + 2) (.ref 142) [.str (stl (jl ws ms)), .lst (sL ws)] (.lst (ms.map fun (q : Nat) => D.int (q : Int))) := by
  refine cl_fn2 (k := k + 1) (names := ["written", "words"]) (Γ := [(Str.ofString "words", .lst (sL ws)), (Str.ofString "written", .str (stl (jl ws ms)))]) (f142 w) rfl rfl rfl rfl (by kernel_rfl) (by kernel_rfl) (by walk_at "bind") (by kernel_rfl) fun L => ?_
  refine exs_cons (ex_own_list0 (by walk_at "sto") rfl rfl) ?_
  refine exs_cons (ex_assign (d := .str (stl (jl ws ms))) (by walk_at "e") (by walk_at "stoc") rfl) ?_
  have lp := rd_loop (w := w) (k := k) (L := L) (wr := stl (jl ws ms)) C ms [] h hl (by simpa using hs)
  exact exs_cons (ex_while lp) (exs_ret (ex_return (ev_name lk_hd)))

noncomputable section
def ins1 (a : Int) : List Int → List Int
  | [] => [a]
  | b :: l => if a ≤ b then a :: b :: l else b :: ins1 a l
def isort : List Int → List Int
  | [] => []
  | a :: l => ins1 a (isort l)
theorem ins1_perm (a : Int) : ∀ l, (ins1 a l).Perm (a :: l)
  | [] => .refl _
  | b :: l => by
    unfold ins1
    split
    · exact .refl _
    · exact ((ins1_perm a l).cons b).trans (.swap a b l)
theorem isort_perm : ∀ l, (isort l).Perm l
  | [] => .refl _
  | a :: l => (ins1_perm a _).trans ((isort_perm l).cons a)
theorem ins1_sorted (a : Int) : ∀ l : List Int, l.Pairwise (· ≤ ·) → (ins1 a l).Pairwise (· ≤ ·)
  | [], _ => List.pairwise_singleton _ _
  | b :: l, h => by
    have h' := List.pairwise_cons.mp h
    unfold ins1
    split
    · rename_i hab
      refine List.pairwise_cons.mpr ⟨fun x hx => ?_, h⟩
      rcases List.mem_cons.mp hx with rfl | hx
      · exact hab
      · exact Int.le_trans hab (h'.1 x hx)
    · rename_i hab
      refine List.pairwise_cons.mpr ⟨fun x hx => ?_, ins1_sorted a l h'.2⟩
      rcases List.mem_cons.mp ((ins1_perm a l).mem_iff.mp hx) with rfl | hx
      · omega
      · exact h'.1 x hx
theorem isort_sorted : ∀ l : List Int, (isort l).Pairwise (· ≤ ·)
  | [] => .nil
  | a :: l => ins1_sorted a _ (isort_sorted l)
def fairL : List (List Nat) := [[1, 2, 3, 4, 4], [1, 2, 4, 4, 4], [1, 3, 3, 3, 3], [1, 3, 3, 3, 4], [1, 3, 3, 4, 4], [1, 3, 4, 4, 4], [1, 4, 4, 4, 4], [2, 2, 2, 3, 3], [2, 2, 2, 3, 4], [2, 2, 2, 4, 4], [2, 2, 3, 3, 3], [2, 2, 3, 3, 4], [2, 2, 3, 4, 4], [2, 2, 4, 4, 4], [2, 3, 3, 3, 3], [2, 3, 3, 3, 4], [2, 3, 3, 4, 4], [2, 3, 4, 4, 4], [2, 4, 4, 4, 4], [3, 3, 3, 3, 3], [3, 3, 3, 3, 4], [3, 3, 3, 4, 4], [3, 3, 4, 4, 4], [3, 4, 4, 4, 4], [4, 4, 4, 4, 4]]
theorem fair_eq : (rowsN 5).filter fit = fairL := by decide +kernel
def grownR (w1 : Int) (c : List Int) : Row := (growL w1 4 ((List.range 5).map (row0 c))).headD (row0 c 0)
def depN (r : Row) : List Nat := (List.range 5).map fun (q : Nat) => (dGet r.m (q : Int)).toNat
theorem hvy_rev {a b c d e : Int} : hvy [a, b, c, d, e] = [e, d, c, b, a] := by
  unfold hvy
  show (sliceRange (sliceBounds none none (some (-1)) 5).1 (sliceBounds none none (some (-1)) 5).2.1 (sliceBounds none none (some (-1)) 5).2.2).filterMap _ = _
  rw [show sliceRange (sliceBounds none none (some (-1)) 5).1 (sliceBounds none none (some (-1)) 5).2.1 (sliceBounds none none (some (-1)) 5).2.2 = [4, 3, 2, 1, 0] by decide]
  rfl
def three : List (List Nat) := [[1, 2, 3, 4, 4], [1, 3, 3, 3, 3], [2, 2, 2, 3, 3]]
def least3 : List Int → Int
  | [a, b, c, d, e] => min (e + 2 * d + 3 * c + 4 * b + 4 * a) (min (e + 3 * d + 3 * c + 3 * b + 3 * a) (2 * e + 2 * d + 2 * c + 3 * b + 3 * a))
  | _ => 0
theorem dom_all : (fairL.all fun r => three.any fun b => (List.range 5).all fun q => decide (b.getD q 0 ≤ r.getD q 0)) = true := by decide +kernel
theorem dot5 (a b c d e : Int) (r : List Nat) : dot [a, b, c, d, e] r = a * ((r.getD 0 0 : Nat) : Int) + b * ((r.getD 1 0 : Nat) : Int) + c * ((r.getD 2 0 : Nat) : Int) + d * ((r.getD 3 0 : Nat) : Int) + e * ((r.getD 4 0 : Nat) : Int) := by
  show a * _ + (b * _ + (c * _ + (d * _ + (e * _ + 0)))) = _
  simp only [Int.add_zero, Int.add_assoc]
theorem least3_props {s : List Int} (hl : s.length = 5) (h0 : ∀ x ∈ s, 0 ≤ x) : least3 s ∈ scores (hvy s) ∧ ∀ x ∈ scores (hvy s), least3 s ≤ x := by
  match s, hl with
  | [a, b, c, d, e], _ =>
    have ha := h0 a (by simp)
    have hb := h0 b (by simp)
    have hc := h0 c (by simp)
    have hd := h0 d (by simp)
    have he := h0 e (by simp)
    rw [hvy_rev]
    unfold scores
    rw [fair_eq]
    have d1 : dot [e, d, c, b, a] [1, 2, 3, 4, 4] = e + 2 * d + 3 * c + 4 * b + 4 * a := by rw [dot5]; simp; omega
    have d2 : dot [e, d, c, b, a] [1, 3, 3, 3, 3] = e + 3 * d + 3 * c + 3 * b + 3 * a := by rw [dot5]; simp; omega
    have d3 : dot [e, d, c, b, a] [2, 2, 2, 3, 3] = 2 * e + 2 * d + 2 * c + 3 * b + 3 * a := by rw [dot5]; simp; omega
    have le : ∀ r ∈ three, least3 [a, b, c, d, e] ≤ dot [e, d, c, b, a] r := fun r hr => by
      unfold three at hr
      simp only [List.mem_cons, List.not_mem_nil, or_false] at hr
      unfold least3
      rcases hr with rfl | rfl | rfl
      · rw [d1]; exact Int.min_le_left _ _
      · rw [d2]; exact Int.le_trans (Int.min_le_right _ _) (Int.min_le_left _ _)
      · rw [d3]; exact Int.le_trans (Int.min_le_right _ _) (Int.min_le_right _ _)
    refine ⟨?_, fun x hx => ?_⟩
    · have : least3 [a, b, c, d, e] ∈ three.map (dot [e, d, c, b, a]) := by
        show least3 _ ∈ [dot _ _, dot _ _, dot _ _]
        rw [d1, d2, d3]
        unfold least3
        simp only [List.mem_cons, List.not_mem_nil, or_false]
        omega
      obtain ⟨r, hr, e⟩ := List.mem_map.mp this
      refine List.mem_map.mpr ⟨r, ?_, e⟩
      unfold three at hr
      simp only [List.mem_cons, List.not_mem_nil, or_false] at hr
      rcases hr with rfl | rfl | rfl <;> decide +kernel
    · obtain ⟨r, hr, rfl⟩ := List.mem_map.mp hx
      have hq := List.all_eq_true.mp dom_all r hr
      obtain ⟨b', hb', hq⟩ := List.any_eq_true.mp hq
      have hq := fun q (h : q < 5) => of_decide_eq_true (List.all_eq_true.mp hq q (List.mem_range.mpr h))
      refine Int.le_trans (le b' hb') ?_
      rw [dot5, dot5]
      have m : ∀ (x : Int) (q : Nat), 0 ≤ x → q < 5 → x * ((b'.getD q 0 : Nat) : Int) ≤ x * ((r.getD q 0 : Nat) : Int) := fun x q hx h => Int.mul_le_mul_of_nonneg_left (Int.ofNat_le.mpr (hq q h)) hx
      have := m e 0 he (by decide)
      have := m d 1 hd (by decide)
      have := m c 2 hc (by decide)
      have := m b 3 hb (by decide)
      have := m a 4 ha (by decide)
      omega
section
variable {α : Type}
/-- the same, its number reckoned first -/
def fN (k : Nat → α) (n : Nat) : α := @Nat.rec (fun _ => α) (k 0) (fun m _ => k m.succ) n
theorem fN_eq (k : Nat → α) (n : Nat) : fN k n = k n := by cases n <;> rfl
def fI (k : Int → α) (i : Int) : α := @Int.rec (fun _ => α) (fN fun n => k (.ofNat n)) (fN fun n => k (.negSucc n)) i
theorem fI_eq (k : Int → α) (i : Int) : fI k i = k i := match i with
  | .ofNat n => fN_eq (fun n => k (.ofNat n)) n
  | .negSucc n => fN_eq (fun n => k (.negSucc n)) n
def fL {β : Type} (f : (β → α) → β → α) (k : List β → α) (l : List β) : α := @List.rec β (fun _ => (List β → α) → α) (fun k => k []) (fun a _ ih k => f (fun a => ih fun l => k (a :: l)) a) l k
theorem fL_eq {β : Type} {f : (β → α) → β → α} (hf : ∀ k b, f k b = k b) : ∀ (l : List β) (k : List β → α), fL f k l = k l
  | [], _ => rfl
  | a :: l, k => by
    show f (fun a => fL f (fun l => k (a :: l)) l) a = _
    rw [hf, fL_eq hf l]
def fK {β : Type} (k : β → α) (b : β) : α := k b
theorem fK_eq {β : Type} (k : β → α) (b : β) : fK k b = k b := rfl
def fR (k : Row → α) (r : Row) : α := fI (fun c => fI (fun n => fI (fun t => fI (fun u => fL fI (fun a => fL fI (fun b => k ⟨c, n, t, u, (a, b)⟩) r.m.2) r.m.1) r.u) r.t) r.n) r.c
theorem fR_eq (k : Row → α) (r : Row) : fR k r = k r := by
  unfold fR
  simp only [fI_eq, fL_eq fI_eq]
/-- a < b -/
def ltF (a b : Int) : Bool := @Int.rec (fun _ => Bool) (fun x => @Int.rec (fun _ => Bool) (fun y => Nat.ble x.succ y) (fun _ => false) b) (fun _ => decide (a < b)) a
theorem ltF_eq (a b : Int) : ltF a b = decide (a < b) := by
  match a, b with
  | .ofNat x, .ofNat y =>
    show Nat.ble x.succ y = _
    rw [Bool.eq_iff_iff, Nat.ble_eq, decide_eq_true_eq]; exact Int.ofNat_lt.symm
  | .ofNat x, .negSucc y => exact (decide_eq_false (Int.not_lt.mpr (Int.le_trans (Int.le_of_lt (Int.negSucc_lt_zero y)) (Int.natCast_nonneg x)))).symm
  | .negSucc x, _ => rfl
def lessF (way : Int) (r a : Row) : Bool := cond (ltF a.c r.c) true (cond (ltF r.c a.c) false (cond (ltF a.n r.n) (ltF 0 way) (cond (ltF r.n a.n) (ltF way 0) false)))
theorem lessF_eq (way : Int) (r a : Row) : lessIn Row.c Row.n way r a = lessF way r a := by
  unfold lessIn lessF cmp2
  simp only [ltF_eq]
  by_cases h1 : a.c < r.c
  · simp [h1]
  · by_cases h2 : r.c < a.c
    · simp [h1, h2]
    · by_cases h3 : a.n < r.n
      · simp [h1, h2, h3]
      · by_cases h4 : r.n < a.n
        · simp [h1, h2, h3, h4]
        · simp [h1, h2, h3, h4]
def fC (way : Int) (r : Row) (laid : List Row) : Nat := @List.rec Row (fun _ => Nat) 0 (fun a _ n => cond (lessF way r a) (Nat.succ n) n) laid
theorem fC_eq (way : Int) (r : Row) : ∀ laid : List Row, (laid.filter (lessIn Row.c Row.n way r)).length = fC way r laid
  | [] => rfl
  | a :: laid => by
    show _ = cond (lessF way r a) (Nat.succ (fC way r laid)) (fC way r laid)
    rw [List.filter_cons, lessF_eq, ← fC_eq way r laid]
    cases lessF way r a <;> rfl
def apF {β : Type} (k : List β → α) (l : List β) (x : β) : α := @List.rec β (fun _ => (List β → α) → α) (fun k => k [x]) (fun a _ ih k => ih fun l => k (a :: l)) l k
theorem apF_eq {β : Type} (x : β) : ∀ (l : List β) (k : List β → α), apF k l x = k (l ++ [x])
  | [], _ => rfl
  | a :: l, k => apF_eq x l fun l => k (a :: l)
def iF {β : Type} (k : List β → α) (r : β) (l : List β) (p : Nat) : α := @List.rec β (fun _ => (List β → α) → Nat → α) (fun k _ => k [r]) (fun a l ih k p => @Nat.rec (fun _ => α) (k (r :: a :: l)) (fun p _ => ih (fun l => k (a :: l)) p) p) l k p
theorem iF_eq {β : Type} (r : β) : ∀ (l : List β) (p : Nat) (k : List β → α), iF k r l p = k (l.take p ++ r :: l.drop p)
  | [], p, k => by rw [List.take_nil, List.drop_nil]; rfl
  | a :: l, 0, k => rfl
  | a :: l, p + 1, k => iF_eq r l p fun l => k (a :: l)
def zF (ks vs : List Int) : List (Int × Int) := @List.rec Int (fun _ => List Int → List (Int × Int)) (fun _ => []) (fun a _ ih vs => @List.rec Int (fun _ => List (Int × Int)) [] (fun b vs _ => (a, b) :: ih vs) vs) ks vs
theorem zF_eq : ∀ ks vs : List Int, zF ks vs = ks.zip vs
  | [], _ => rfl
  | _ :: _, [] => rfl
  | a :: ks, b :: vs => congrArg ((a, b) :: ·) (zF_eq ks vs)
def mF {β γ : Type} (g : β → γ) (l : List β) : List γ := @List.rec β (fun _ => List γ) [] (fun a _ ih => g a :: ih) l
theorem mF_eq {β γ : Type} (g : β → γ) : ∀ l : List β, mF g l = l.map g
  | [] => rfl
  | a :: l => congrArg (g a :: ·) (mF_eq g l)
def fO (way : Int) (k : List Row → α) (rows : List Row) (laid : List Row) : α := @List.rec Row (fun _ => List Row → α) k (fun r _ ih laid => iF ih r laid (fC way r laid)) rows laid
theorem fO_eq (way : Int) (k : List Row → α) : ∀ (rows laid : List Row), fO way k rows laid = k (rows.foldl (ins Row.c Row.n way) laid)
  | [], _ => rfl
  | r :: rows, laid => by
    show iF (fO way k rows) r laid (fC way r laid) = _
    rw [iF_eq, fO_eq way k rows, ← fC_eq]; rfl
def eqF (a b : Int) : Bool := @Int.rec (fun _ => Bool) (fun x => @Int.rec (fun _ => Bool) (fun y => Nat.beq x y) (fun _ => false) b) (fun _ => decide (a = b)) a
theorem eqF_eq (a b : Int) : eqF a b = decide (a = b) := by
  match a, b with
  | .ofNat x, .ofNat y =>
    show Nat.beq x y = _
    rw [Bool.eq_iff_iff, decide_eq_true_eq]
    exact ⟨fun h => congrArg Int.ofNat (Nat.eq_of_beq_eq_true h), fun h => (Int.ofNat.inj h) ▸ Nat.beq_refl x⟩
  | .ofNat x, .negSucc y => exact (decide_eq_false (fun h => nomatch h)).symm
  | .negSucc x, _ => rfl
def inF (q : Int) (ks : List Int) : Bool := @List.rec Int (fun _ => Bool) false (fun k _ ih => cond (eqF q k) true ih) ks
theorem inF_eq (q : Int) : ∀ ks : List Int, inF q ks = ks.contains q
  | [] => rfl
  | k :: ks => by
    show cond (eqF q k) true (inF q ks) = _
    rw [List.contains_cons, eqF_eq, inF_eq q ks]
    cases h : decide (q = k) <;> simp_all
def gtF (q : Int) (l : List (Int × Int)) : Int := @List.rec (Int × Int) (fun _ => Int) 0 (fun p _ ih => cond (eqF p.1 q) p.2 ih) l
theorem gtF_eq (q : Int) : ∀ l : List (Int × Int), gtF q l = ((l.find? (fun p => p.1 == q)).map (·.2)).getD 0
  | [] => rfl
  | p :: l => by
    show cond (eqF p.1 q) p.2 (gtF q l) = _
    rw [List.find?_cons, eqF_eq, gtF_eq q l, show (p.1 == q) = decide (p.1 = q) from rfl]
    cases decide (p.1 = q) <;> rfl
def fP (k : Dc → α) (s : Dc) (p : Int × Int) : α := cond (inF p.1 s.1) (fL fI (fun l => k (s.1, l)) (mF (fun r => cond (eqF r.1 p.1) p.2 r.2) (zF s.1 s.2))) (apF (fun a => apF (fun b => k (a, b)) s.2 p.2) s.1 p.1)
theorem fP_eq (k : Dc → α) (s : Dc) (p : Int × Int) : fP k s p = k (dPut s p) := by
  unfold fP dPut dKeys dVals
  simp only [fL_eq fI_eq, mF_eq, zF_eq, apF_eq, inF_eq, eqF_eq]
  cases s.1.contains p.1 <;> simp [Bool.cond_eq_ite]
def fA (k : Dc → α) (s : Dc) (p : Int × Int) : α := fI (fun v => fP k s (p.1, v)) (cond (inF p.1 s.1) (gtF p.1 (zF s.1 s.2) + p.2) p.2)
theorem fA_eq (k : Dc → α) (s : Dc) (p : Int × Int) : fA k s p = k (dAdd s p) := by
  unfold fA dAdd dGet
  rw [fI_eq, fP_eq, inF_eq, gtF_eq, zF_eq]
  cases s.1.contains p.1 <;> rfl
def fF (f : (Dc → α) → Dc → Int × Int → α) (k : Dc → α) (l : List (Int × Int)) (s : Dc) : α := @List.rec (Int × Int) (fun _ => Dc → α) k (fun p _ ih s => f ih s p) l s
theorem fF_eq {f : (Dc → α) → Dc → Int × Int → α} {g : Dc → Int × Int → Dc} (hf : ∀ k s p, f k s p = k (g s p)) (k : Dc → α) : ∀ (l : List (Int × Int)) (s : Dc), fF f k l s = k (l.foldl g s)
  | [], _ => rfl
  | p :: l, s => by
    show f (fF f k l) s p = _
    rw [hf, fF_eq hf k l]; rfl
def fM (k : Dc → α) (t s : Dc) : α := fF fP (fF fA k (zF s.1 s.2)) (zF t.1 t.2) ([], [])
theorem fM_eq (k : Dc → α) (t s : Dc) : fM k t s = k (adC t s) := by
  unfold fM adC
  rw [fF_eq fP_eq, fF_eq fA_eq, zF_eq, zF_eq]
def fW (k : Row → α) (a b : Row) : α := fI (fun c => fI (fun n => fI (fun t => fI (fun u => fM (fun m => fM (fun m' => k ⟨c, n, t, u, m'⟩) m (m.1, mF (fun _ => 1) m.1)) a.m b.m) (0 + (b.u + a.u))) ((b.c + a.c) + (b.t + a.t))) (0 + (b.n + a.n))) (0 + (b.c + a.c))
theorem fW_eq (k : Row → α) (a b : Row) : fW k a b = k (a.add b).grown := by
  unfold fW
  simp only [fI_eq, fM_eq, mF_eq]; rfl
def fG (way : Int) (k : List Row → α) (rows : List Row) : α := fO way (fun l => match l with
  | a :: b :: rest => fW (fun x => apF k rest x) a b
  | l => k l) rows []
theorem fG_eq (way : Int) (k : List Row → α) (rows : List Row) : fG way k rows = k (grow1 way rows) := by
  unfold fG grow1 inOrder
  rw [fO_eq]
  generalize rows.foldl (ins Row.c Row.n way) [] = l
  match l with
  | [] | [_] => rfl
  | a :: b :: rest => exact (fW_eq _ _ _).trans (apF_eq _ _ _)
def fi1 (k : List Int → α) (a : Int) (l : List Int) : α := @List.rec Int (fun _ => (List Int → α) → α) (fun k => k [a]) (fun b l ih k => cond (ltF b a) (ih fun l => k (b :: l)) (k (a :: b :: l))) l k
theorem fi1_eq (a : Int) : ∀ (l : List Int) (k : List Int → α), fi1 k a l = k (ins1 a l)
  | [], _ => rfl
  | b :: l, k => by
    show cond (ltF b a) (fi1 (fun l => k (b :: l)) a l) (k (a :: b :: l)) = _
    rw [fi1_eq a l, ltF_eq]
    by_cases h : a ≤ b
    · rw [decide_eq_false (by omega), show ins1 a (b :: l) = a :: b :: l from if_pos h]; rfl
    · rw [decide_eq_true (by omega), show ins1 a (b :: l) = b :: ins1 a l from if_neg h]; rfl
def fS (k : List Int → α) (l : List Int) : α := @List.rec Int (fun _ => (List Int → α) → α) (fun k => k []) (fun a _ ih k => ih fun l => fi1 k a l) l k
theorem fS_eq : ∀ (l : List Int) (k : List Int → α), fS k l = k (isort l)
  | [], _ => rfl
  | a :: l, k => by
    show fS (fun l => fi1 k a l) l = _
    rw [fS_eq l, fi1_eq]; rfl
end
def kr (d : List Nat) : Bool := (d.all fun x => Nat.ble 1 x && Nat.ble x 4) && Nat.beq (d.foldr (fun x s => Nat.add (Nat.shiftRight 16 x) s) 0) 16
def dpF (r : Row) : List Nat := (List.range 5).map fun (q : Nat) => (gtF (q : Int) (zF r.m.1 r.m.2)).toNat
theorem dpF_eq (r : Row) : dpF r = depN r := by
  unfold dpF depN dGet
  simp only [gtF_eq, zF_eq]
def tst (c : List Int) (r : Row) : Bool := r.c == 8 && r.n == 31 && r.u == 0 && r.m.1.length == r.m.2.length && fS (fun s => fI (fun x => r.t == x && decide (x ≤ 32)) (least3 s)) c && fL fN (fun d => kr d && dot c d == r.t) (dpF r)
def chkF (w1 : Int) (c : List Int) : Bool := fL fI (fun c => fL fR (fG w1 (fG w1 (fG w1 (fG w1 fun l => tst c (l.headD (row0 c 0)))))) ((List.range 5).map (row0 c))) c
theorem chkF_eq (w1 : Int) (c : List Int) : chkF w1 c = tst c (grownR w1 c) := by
  unfold chkF grownR
  rw [fL_eq fI_eq, fL_eq fR_eq, fG_eq, fG_eq, fG_eq, fG_eq]; rfl
def leastOf (c : List Int) : Int := least3 (isort c)
theorem tst_facts {c : List Int} {r : Row} (h : tst c r = true) : r.c = 8 ∧ r.n = 31 ∧ r.u = 0 ∧ r.m.1.length = r.m.2.length ∧ (r.t = leastOf c ∧ leastOf c ≤ 32) ∧ kr (depN r) = true ∧ dot c (depN r) = leastOf c := by
  unfold tst at h
  rw [fS_eq, fI_eq, fL_eq fN_eq, dpF_eq] at h
  simp only [Bool.and_eq_true, beq_iff_eq, decide_eq_true_eq] at h
  obtain ⟨⟨⟨⟨⟨h1, h2⟩, h3⟩, h4⟩, h5, h6⟩, h7, h8⟩ := h
  exact ⟨h1, h2, h3, h4, ⟨h5, h6⟩, h7, h8.trans h5⟩
theorem key_in {s : Dc} {q : Int} (h : dGet s q ≠ 0) : s.1.contains q = true := by
  unfold dGet at h
  cases e : (s.1.zip s.2).find? (fun p => p.1 == q) with
  | none => rw [e] at h; exact absurd rfl h
  | some p =>
    have h1 := List.mem_of_find?_eq_some e
    have h2 := List.find?_some e
    rw [List.contains_iff_mem, ← beq_iff_eq.mp h2]
    exact (List.of_mem_zip h1).1
/-- the sign's depth stands in the last entry -/
theorem kr_at {d : List Nat} (h : kr d = true) : ∀ x ∈ d, 1 ≤ x ∧ x < 5 := fun x hx => by
  unfold kr at h
  have := List.all_eq_true.mp (Bool.and_eq_true_iff.mp h).1 x hx
  obtain ⟨h1, h2⟩ := Bool.and_eq_true_iff.mp this
  exact ⟨Nat.le_of_ble_eq_true h1, Nat.lt_succ_of_le (Nat.le_of_ble_eq_true h2)⟩
end

noncomputable section
def goodL : List (List Nat) := [[48], [49], [48, 48], [48, 49], [49, 48], [49, 49], [48, 48, 48], [48, 48, 49], [48, 49, 48], [48, 49, 49], [49, 48, 48], [49, 48, 49], [49, 49, 48], [49, 49, 49], [48, 48, 48, 48], [48, 48, 48, 49], [48, 48, 49, 48], [48, 48, 49, 49], [48, 49, 48, 48], [48, 49, 48, 49], [48, 49, 49, 48], [48, 49, 49, 49], [49, 48, 48, 48], [49, 48, 48, 49], [49, 48, 49, 48], [49, 48, 49, 49], [49, 49, 48, 48], [49, 49, 48, 49], [49, 49, 49, 48], [49, 49, 49, 49]]
theorem good_el : ∀ l ∈ goodL, elOk (stl l) (stl l ++ dots) = true := by decide +kernel
theorem ws_all : ∀ u < 16, ∀ d < 5, 0 < d → u % (16 / 2 ^ d) = 0 → wsOk1 u d = true := by decide +kernel
def wsB : List (Nat × Nat) → Nat → Bool
  | [], _ => true
  | p :: l, u => decide (p.2 < 5) && decide (p.1 < 5) && decide (0 < p.1) && decide (u < 16) && decide (u % (16 / 2 ^ p.1) = 0) && wsB l (u + 16 / 2 ^ p.1)
theorem wsB_ok : ∀ (l : List (Nat × Nat)) (u : Nat), wsB l u = true → wsOk l u = true
  | [], _, _ => rfl
  | p :: l, u, h => by
    unfold wsB at h
    simp only [Bool.and_eq_true, decide_eq_true_eq] at h
    obtain ⟨⟨⟨⟨⟨h1, h2⟩, h3⟩, h4⟩, h5⟩, h6⟩ := h
    unfold wsOk
    rw [ws_all u h4 p.1 h2 h3 h5, wsB_ok l _ h6, decide_eq_true h1]; rfl
def codeB (ws : List Str) : Bool := ws.length == 5 && (List.range 5).all (fun q => goodL.contains (wAt ws q).cps.toList) && (List.range 5).all fun q => (List.range 5).all fun m => q == m || !(pfx (wAt ws q) (wAt ws m))
def restB (cN : List Nat) (o : List (Nat × Nat)) (e : List Str × Nat) : Bool := wsB o 0 && e.2 == 16 && codeB e.1 &&
  (List.range 5).all fun q => (wAt e.1 q).cps.toList.length == cN.getD q 0 && (wAt e.1 q).cps.toList.all fun c => c == 48 || c == 49
section
variable {α : Type}
def fT (k : Str → α) (x : Str) : α := fL fN (fun l => k ⟨⟨l⟩⟩) x.cps.toList
theorem fT_eq (k : Str → α) (x : Str) : fT k x = k x := fL_eq fN_eq _ _
def fQ (k : Nat × Nat → α) (p : Nat × Nat) : α := fN (fun a => fN (fun b => k (a, b)) p.2) p.1
theorem fQ_eq (k : Nat × Nat → α) (p : Nat × Nat) : fQ k p = k p := (fN_eq _ _).trans (fN_eq _ _)
def fV (k : List Str × Nat → α) (ps : List (Nat × Nat)) (s : List Str × Nat) : α := @List.rec (Nat × Nat) (fun _ => List Str × Nat → α) k (fun p _ ih s => fN (fun d => fN (fun q => fN (fun u => fT (fun x => fL fK (fun l => ih (l, u)) (s.1.set p.2 x)) (wd d q)) (s.2 + 16 / 2 ^ d)) (s.2 / (16 / 2 ^ d))) p.1) ps s
theorem fV_eq (k : List Str × Nat → α) : ∀ (ps : List (Nat × Nat)) (s : List Str × Nat), fV k ps s = k (ps.foldl wS s)
  | [], _ => rfl
  | p :: ps, s => by
    have e : fV k (p :: ps) s = fN (fun d => fN (fun q => fN (fun u => fT (fun x => fL fK (fun l => fV k ps (l, u)) (s.1.set p.2 x)) (wd d q)) (s.2 + 16 / 2 ^ d)) (s.2 / (16 / 2 ^ d))) p.1 := rfl
    rw [e, fN_eq, fN_eq, fN_eq, fT_eq, fL_eq fK_eq]
    exact fV_eq k ps (wS s p)
end
def chkB (w2 : Int) (cN : List Nat) : Bool := fL fQ (fun o => fV (restB cN o) o (List.replicate 5 ⟨#[]⟩, 0)) (inOrder pf pg w2 (wRows cN))
theorem chkB_eq (w2 : Int) (cN : List Nat) : chkB w2 cN = restB cN (inOrder pf pg w2 (wRows cN)) (wEnd cN w2) := by
  unfold chkB wEnd
  rw [fL_eq fQ_eq, fV_eq]
def krB (a b : Nat) : Bool := (List.range 5).all fun c => (List.range 5).all fun d => (List.range 5).all fun e => cond (kr [a, b, c, d, e]) (chkB 1 [a, b, c, d, e] && chkB (-1) [a, b, c, d, e]) true
theorem krB_all : ((List.range 5).all fun a => (List.range 5).all fun b => krB a b) = true := by decide +kernel
theorem chkB_kr {d : List Nat} (h : kr d = true) (hl : d.length = 5) {w2 : Int} (hw : w2 = 1 ∨ w2 = -1) : chkB w2 d = true := by
  match d, hl with
  | [a, b, c, d, e], _ =>
    have hs := kr_at h
    have m : ∀ x ∈ [a, b, c, d, e], x ∈ List.range 5 := fun x hx => List.mem_range.mpr (hs x hx).2
    have := krB_all
    unfold krB at this
    simp only [List.all_eq_true] at this
    have := this a (m a (by simp)) b (m b (by simp)) c (m c (by simp)) d (m d (by simp)) e (m e (by simp))
    rw [h, cond_true, Bool.and_eq_true] at this
    rcases hw with rfl | rfl
    · exact this.1
    · exact this.2
theorem codeB_ok {ws : List Str} (h : codeB ws = true) : CodeOk ws := by
  unfold codeB at h
  simp only [Bool.and_eq_true, beq_iff_eq, List.all_eq_true, List.mem_range, Bool.or_eq_true, Bool.not_eq_true', List.contains_iff_mem] at h
  obtain ⟨⟨h1, h2⟩, h3⟩ := h
  exact ⟨h1, fun q hq => good_el _ (h2 q hq), fun q hq m hm hne => (h3 q hq m hm).resolve_left hne⟩
/-- the value of bits -/
def bitOk (bs : List Int) : Prop := ∀ b ∈ bs, b = 0 ∨ b = 1
theorem vl_sum (bs : List Int) (hb : bitOk bs) : ∀ n : Nat, n ≤ bs.length → vl 1 (bs.take n) = (((List.range n).filter fun k => bs.getD k 0 == 1).map fun (k : Nat) => (2 : Int) ^ k).sum
  | 0, _ => rfl
  | n + 1, h => by
    have ih := vl_sum bs hb n (by omega)
    rw [List.range_succ, List.filter_append, List.map_append, List.sum_append, ← ih, List.take_add_one, List.getElem?_eq_getElem (by omega), vl_append, List.length_take, Nat.min_eq_left (by omega), Nat.one_mul]
    have hq : bs[n]? = some bs[n] := List.getElem?_eq_getElem (by omega)
    rcases hb _ (List.getElem_mem (show n < bs.length by omega)) with e | e
    · simp [List.filter_cons, hq, e, vl]
    · simp [List.filter_cons, hq, e, vl]
theorem vl_range (bs : List Int) (hb : bitOk bs) : 0 ≤ vl 1 bs ∧ vl 1 bs < 2 ^ bs.length := by
  have := vl_bounds (n := 1) (ns := bs) fun d hd => by rcases hb d hd with e | e <;> subst e <;> decide
  simpa using this
theorem dgs_vl : ∀ (bs : List Int), bitOk bs → dgs 1 bs.length (vl 1 bs).toNat = bs
  | [], _ => rfl
  | d :: r, hb => by
    have ih := dgs_vl r fun b h => hb b (.tail _ h)
    have h0 := (vl_range r fun b h => hb b (.tail _ h)).1
    have hd := hb d (.head _)
    have hv : vl 1 (d :: r) = d + 2 * vl 1 r := rfl
    rw [List.length_cons, dgs, hv]
    have e1 : (((d + 2 * vl 1 r).toNat % 2 ^ 1 : Nat) : Int) = d := by rcases hd with e | e <;> subst e <;> omega
    have e2 : (d + 2 * vl 1 r).toNat / 2 ^ 1 = (vl 1 r).toNat := by rcases hd with e | e <;> subst e <;> omega
    rw [e1, e2, ih]
theorem vl_top (bs : List Int) (hb : bitOk bs) : Builtin.Int.intBits (((vl 1 (bs ++ [1])).toNat : Nat) : Int) = bs.length + 1 := by
  obtain ⟨h0, h1⟩ := vl_range bs hb
  have hv : vl 1 (bs ++ [1]) = vl 1 bs + 2 ^ bs.length := by rw [vl_append]; simp [vl]
  rw [hv]
  have hp : (2 : Int) ^ bs.length = ((2 ^ bs.length : Nat) : Int) := by push_cast; rfl
  have hp2 : 2 ^ (bs.length + 1) = 2 ^ bs.length + 2 ^ bs.length := by rw [Nat.pow_succ]; omega
  rw [hp] at h1 ⊢
  have a1 : Builtin.Int.intBits (((vl 1 bs + ((2 ^ bs.length : Nat) : Int)).toNat : Nat) : Int) ≤ bs.length + 1 := PySem.intBits_le_iff.mpr (by omega)
  have a2 : ¬ Builtin.Int.intBits (((vl 1 bs + ((2 ^ bs.length : Nat) : Int)).toNat : Nat) : Int) ≤ bs.length := fun h => by
    have := PySem.intBits_le_iff.mp h
    omega
  omega
end

abbrev mD (mN : List Nat) : List Int := mN.map fun (q : Nat) => (q : Int)
def upd (c : List Int) (p : Nat) : List Int := c.set p (c.getD p 0 + 1)
theorem adC_upd : ∀ {c : List Int} {p : Nat}, c.length = 5 → p < 5 → adC ([0, 1, 2, 3, 4], c) ([(p : Int)], [1]) = ([0, 1, 2, 3, 4], upd c p)
  | [c0, c1, c2, c3, c4], 0, _, _ => rfl
  | [c0, c1, c2, c3, c4], 1, _, _ => rfl
  | [c0, c1, c2, c3, c4], 2, _, _ => rfl
  | [c0, c1, c2, c3, c4], 3, _, _ => rfl
  | [c0, c1, c2, c3, c4], 4, _, _ => rfl
  | [c0, c1, c2, c3, c4], n + 5, _, h => by omega
theorem tab_fold : ∀ (mN : List Nat) (c : List Int), (∀ m ∈ mN, m < 5) → c.length = 5 → (mD mN).foldl (fun u p => adC u ([p], [1])) ([0, 1, 2, 3, 4], c) = ([0, 1, 2, 3, 4], mN.foldl upd c)
  | [], _, _, _ => rfl
  | m :: mN, c, h, hc => by
    show (mD mN).foldl _ (adC ([0, 1, 2, 3, 4], c) ([(m : Int)], [1])) = _
    rw [adC_upd hc (h m (.head _)), tab_fold mN (upd c m) (fun q hq => h q (.tail _ hq)) (by unfold upd; rw [List.length_set]; exact hc)]
    rfl
def cnt (mN : List Nat) (q : Nat) : Int := (((mD mN).count (q : Int) : Nat) : Int)
theorem cnt_cons (m : Nat) (mN : List Nat) (q : Nat) : cnt (m :: mN) q = cnt mN q + if m = q then 1 else 0 := by
  unfold cnt
  rw [show mD (m :: mN) = (m : Int) :: mD mN from rfl, List.count_cons]
  by_cases h : m = q
  · subst h; simp
  · have h2 : ¬ (m : Int) = (q : Int) := by omega
    simp [h, h2]
theorem upd_fold : ∀ (mN : List Nat) (c : List Int), (∀ m ∈ mN, m < 5) → c.length = 5 → mN.foldl upd c = (List.range 5).map fun q => c.getD q 0 + cnt mN q
  | [], [c0, c1, c2, c3, c4], _, _ => by simp [List.range, List.range.loop, cnt]
  | m :: mN, [c0, c1, c2, c3, c4], h, _ => by
    rw [List.foldl_cons, upd_fold mN _ (fun q hq => h q (.tail _ hq)) (by unfold upd; rw [List.length_set]; rfl)]
    have hm := h m (.head _)
    simp only [cnt_cons]
    match m, hm with
    | 0, _ => simp [List.range, List.range.loop, upd]; omega
    | 1, _ => simp [List.range, List.range.loop, upd]; omega
    | 2, _ => simp [List.range, List.range.loop, upd]; omega
    | 3, _ => simp [List.range, List.range.loop, upd]; omega
    | 4, _ => simp [List.range, List.range.loop, upd]; omega
theorem tab_eq {mN : List Nat} (h : ∀ m ∈ mN, m < 5) : tabM (mD mN) = ([0, 1, 2, 3, 4], cts (mD mN)) := by
  unfold tabM tab0
  rw [tab_fold mN _ h rfl, upd_fold mN _ h rfl]
  congr 1
  unfold cts
  simp [List.range, List.range.loop, cnt]
theorem cts_eq (mN : List Nat) : cts (mD mN) = [cnt mN 0, cnt mN 1, cnt mN 2, cnt mN 3, cnt mN 4] := by unfold cts cnt; simp [List.range, List.range.loop]
theorem cnt_sum (g : Nat → Int) : ∀ (mN : List Nat), (∀ m ∈ mN, m < 5) → cnt mN 0 * g 0 + cnt mN 1 * g 1 + cnt mN 2 * g 2 + cnt mN 3 * g 3 + cnt mN 4 * g 4 = (mN.map g).sum
  | [], _ => by simp [cnt]
  | m :: mN, h => by
    have ih := cnt_sum g mN fun q hq => h q (.tail _ hq)
    have hm := h m (.head _)
    rw [List.map_cons, List.sum_cons, ← ih]
    simp only [cnt_cons, Int.add_mul]
    match m, hm with
    | 0, _ => simp; omega
    | 1, _ => simp; omega
    | 2, _ => simp; omega
    | 3, _ => simp; omega
    | 4, _ => simp; omega
theorem ones_sum : ∀ (l : List Nat), (l.map fun _ => (1 : Int)).sum = l.length
  | [] => rfl
  | a :: l => by rw [List.map_cons, List.sum_cons, ones_sum l, List.length_cons]; omega
theorem cnt_all {mN : List Nat} (h : ∀ m ∈ mN, m < 5) : cnt mN 0 + cnt mN 1 + cnt mN 2 + cnt mN 3 + cnt mN 4 = mN.length := by
  have := cnt_sum (fun _ => 1) mN h
  rw [ones_sum] at this
  omega
theorem hvy_props {sl : List Int} (h : sl.length = 5) : (hvy sl).length = 5 ∧ ∀ x ∈ hvy sl, x ∈ sl := by
  match sl, h with
  | [a, b, c, d, e], _ =>
    rw [hvy_rev]
    refine ⟨rfl, fun x hx => ?_⟩
    simp only [List.mem_cons, List.not_mem_nil, or_false] at hx ⊢
    rcases hx with h | h | h | h | h <;> simp [h]

theorem rng_zero (m : Nat) : iL (rng 0 m) = (List.range m).map fun (i : Nat) => D.int (i : Int) := by
  unfold rng
  rw [show iL ((List.range m).map fun i : Nat => (0 : Int) + (i : Int)) = (List.range m).map (D.int ∘ fun i : Nat => (0 : Int) + (i : Int)) from List.map_map]
  congr 1
  funext i
  show D.int (0 + (i : Int)) = _
  rw [Int.zero_add]
theorem glue_nil (l : List Str) : ∀ a : Array Nat, (l.foldl (fun acc p => acc ++ (⟨#[]⟩ : Str).cps ++ p.cps) a).toList = a.toList ++ (l.map fun p => p.cps.toList).flatten := by
  induction l with
  | nil => intro a; simp
  | cons p l ih => intro a; rw [List.foldl_cons, ih]; simp
theorem join_jl (ws : List Str) (ms : List Nat) : Txt.join ⟨#[]⟩ (ms.map (wAt ws)) = stl (jl ws ms) := by
  unfold Txt.join Builtin.Str.glued
  have e : (((ms.map (wAt ws)).drop 1).foldl (fun acc p => acc ++ (⟨#[]⟩ : Str).cps ++ p.cps) ((ms.map (wAt ws)).headD Str.empty).cps).toList = jl ws ms := by
    rw [glue_nil]
    unfold jl
    cases ms with
    | nil => rfl
    | cons m ms => simp [Function.comp_def]
  rw [← e]
theorem sumlen (l : List Str) : ∀ n : Nat, l.foldl (fun acc p => acc + p.length + (⟨#[]⟩ : Str).length) n = n + (l.map fun p => p.cps.toList).flatten.length := by
  induction l with
  | nil => intro n; simp
  | cons p l ih => intro n; rw [List.foldl_cons, ih]; simp [Str.length]; omega
theorem join_ok {ws : List Str} {ms : List Nat} (h : (jl ws ms).length ≤ 1000) : JoinOk ⟨#[]⟩ (ms.map (wAt ws)) = true := by
  unfold JoinOk
  rw [List.foldl_toArray, sumlen]
  have e : ((ms.map (wAt ws)).map fun p => p.cps.toList).flatten = jl ws ms := by unfold jl; rw [List.map_map]; rfl
  rw [e]
  have : Builtin.Str.tooLong (0 + (jl ws ms).length) = false := by
    unfold Builtin.Str.tooLong
    rw [show sizeLine = 16777216 from rfl]
    exact decide_eq_false (by omega)
  rw [this]; rfl
theorem binds_names2 {t : Expr} {x y : Str} {d : D} {bs : List (Str × D)} (h : bindsI t d = some bs) (ht : tnames t = [y, x] := by rfl) : ∀ p ∈ bs, p.1 ∈ [x, y] := fun p hp => by
  have := binds_names h p hp
  rw [ht] at this
  simp only [List.mem_cons, List.not_mem_nil, or_false] at this ⊢
  exact this.symm
theorem tv_eq {w : World} {k : Nat} {env : Env} {Γ : List (Str × D)} {e : Expr} {b c : Bool} (h : TV w k env Γ e b) (hb : b = c) : TV w k env Γ e c := hb ▸ h
structure LawF (mN : List Nat) (w1 w2 : Int) (n : Nat) (r : Row) (ws : List Str) : Prop where
  len : mN.length = 8
  lt : ∀ m ∈ mN, m < 5
  sum : (cts (mD mN)).sum = 8
  mem : (n : Int) ∈ scores (hvy (isort (cts (mD mN))))
  min : ∀ x ∈ scores (hvy (isort (cts (mD mN)))), (n : Int) ≤ x
  h5 : (hvy (isort (cts (mD mN)))).length = 5
  hb : ∀ x ∈ hvy (isort (cts (mD mN))), 0 ≤ x ∧ x ≤ 100
  rr : grownR w1 (cts (mD mN)) = r
  rc : r.c = 8
  rn : r.n = 31
  rt : r.t = n
  ru : r.u = 0
  dep : ∃ cN, (∀ q : Nat, q < 5 → dAt r.m.1 (iL r.m.2) (q : Int) = some (.int ((cN.getD q 0 : Nat) : Int))) ∧ wsOk (inOrder pf pg w2 (wRows cN)) 0 = true ∧ (wEnd cN w2).2 = 16 ∧ (wEnd cN w2).1 = ws
  code : CodeOk ws
  jlen : (jl ws mN).length = n
  chars : ∀ c ∈ jl ws mN, c = 48 ∨ c = 49
  n32 : n ≤ 32
theorem ints_isL {w : World} {h : Heap} : ∀ {vs : List Value} {xs : List Int}, IntsAre vs xs → IsL w h (iL xs) vs
  | [], [], _ => isL_nil.mpr rfl
  | _ :: vs, _ :: xs, .cons _ _ r => isL_cons.mpr ⟨_, _, rfl, is_int.mpr ⟨_, rfl⟩, ints_isL r⟩
/-- the caller's list, sliced -/
theorem ev_slice_raw {w : World} {k : Nat} {env : Env} {Γ : List (Str × D)} {value : Expr} {lower upper step : Option Expr} {p pos : Pos} {l : Addr} {o : Obj} {vs₀ : List Value} {n : Nat} {sc : List Int} {lo hi sp : Option Int} (hc : o.cls = .type "list") (hdt : o.data = .seq vs₀.toArray n) (hi0 : IntsAre vs₀ sc)
    (hv : EV w k env Γ value (.raw (.ref l) [(l, o)])) (hl : PT w k env Γ lower lo) (hu : PT w k env Γ upper hi) (hs : PT w k env Γ step sp) (h0 : sp ≠ some 0) (hz : sc.length ≤ 1000000) :
    EV w k env Γ (.Subscript value (.Slice lower upper step p) pos) (.lst (slPick (iL sc) lo hi sp)) := by
  intro H A s Q E r st hQ
  refine Subscript_ (hv H A s _ E r st fun ov s₁ g₁ i₁ => wp_slice hl hu hs r (st.grow g₁) fun sl vl vu vs s₂ g₂ hsl pl pu ps => ?_)
  obtain ⟨rfl, hp⟩ := is_raw.mp (i₁.grow g₂ st.tabs)
  have hl' : s₂.heap.IsList l vs₀.toArray := ⟨o, (hid_get.mp (hp (l, o) (.head _))).1, hc, n, hdt⟩
  have il : IsL w (hid H s₂.heap) (iL sc) vs₀ := ints_isL hi0
  have hlen := il.length
  refine wp_subTail hl'.typeIs slot_list_getitem.lookup (wpAny_getItem_list_slice hl' hsl pl pu ps h0 ?_ (by rw [List.size_toArray, hlen, List.length_map, show sizeLine = 16777216 from rfl]; omega))
  have e : slicePick vs₀.toArray lo hi sp = ((sliceRange (sliceBounds lo hi sp (iL sc).length).1 (sliceBounds lo hi sp (iL sc).length).2.1 (sliceBounds lo hi sp (iL sc).length).2.2).filterMap (vs₀[·]?)).toArray := by
    unfold slicePick
    rw [List.size_toArray, hlen]
    congr 2
    funext j
    simp
  rw [e]
  exact hQ _ _ ((g₁.trans g₂).trans (.push _)) (new_lst ((st.grow g₁).grow g₂).dom (il.pick _))
def owns : List Int := [0, 5, 10, 1, 6, 2, 0, 3]
def draw1 (sc : List Int) (p : Nat × Int) : Int := p.2 + (slPick sc (some (p.1 : Int)) (some 24) (some 8)).sum
def drawsOf (sc : List Int) : List Int := ((List.range 8).zip owns).map (draw1 sc)
def bitsOf (l : List Nat) : List Int := l.map (fun (c : Nat) => (c : Int) - 48) ++ [1]
theorem f147 (w : World) : (KF w.params).lookup 147 = some (fnObj (fnAt 23 "law_pe0208_01" 367 146)) := by kernel_rfl
theorem callee_table (w : World) : Callee w (Str.ofString "_law_table") (.ref 117) := .fn 117 _ _ (by kernel_rfl) (f117 w) rfl
theorem callee_grown (w : World) : Callee w (Str.ofString "_law_grown") (.ref 127) := .fn 127 _ _ (by kernel_rfl) (f127 w) rfl
theorem callee_words (w : World) : Callee w (Str.ofString "_law_words") (.ref 132) := .fn 132 _ _ (by kernel_rfl) (f132 w) rfl
theorem callee_least (w : World) : Callee w (Str.ofString "_law_least") (.ref 137) := .fn 137 _ _ (by kernel_rfl) (f137 w) rfl
theorem callee_read (w : World) : Callee w (Str.ofString "_law_read") (.ref 142) := .fn 142 _ _ (by kernel_rfl) (f142 w) rfl
theorem callee_counts (w : World) : Callee w (Str.ofString "count_calls") (.ref 112) := .fn 112 _ _ (by kernel_rfl) (f112 w) rfl
theorem callee_enum (w : World) : Callee w (Str.ofString "enumerate") (.type "enumerate") := .ty "enumerate" (by kernel_rfl) (by decide +kernel) (by decide +kernel)
theorem callee_int (w : World) : Callee w (Str.ofString "int") (.type "int") := .ty "int" (by kernel_rfl) (by decide +kernel) (by decide +kernel)
set_option maxHeartbeats 800000 in
theorem cl_law {w : World} {k : Nat} {l : Addr} {o : Obj} {vs₀ : List Value} {n₀ : Nat} {sc : List Int} {mN : List Nat} {w1 w2 : Int} {n : Nat} {r : Row} {ws : List Str} (hc : o.cls = .type "list") (hdt : o.data = .seq vs₀.toArray n₀) (hi0 : IntsAre vs₀ sc) (hz : sc.length ≤ 100) (F : LawF mN w1 w2 n r ws) (hmN : mD mN = (drawsOf sc).map fun d => d.fmod 5)
    (hw1 : w1 = 1 - 2 * (drawsOf sc).sum.fmod 2) (hw2 : w2 = 1 - 2 * ((drawsOf sc).sum.fdiv 2).fmod 2) : CLC w (k + 14) (.ref 147) [.raw (.ref l) [(l, o)]] (.bool true) := by
  refine cl_fn2C (k := k + 13) (names := ["script"]) (Γ := [(Str.ofString "script", .raw (.ref l) [(l, o)])]) (f147 w) rfl rfl rfl rfl (by kernel_rfl) (by kernel_rfl) (by walk_at "bind") (by kernel_rfl) fun L => ?_
  refine exs_cons (ex_cv (d := .lst (iL (drawsOf sc))) (cv_list (Γc := [(Str.ofString "script", .raw (.ref l) [(l, o)])]) (tn := [Str.ofString "own", Str.ofString "k"]) (ie_enum (ds := [.int 0, .int 5, .int 10, .int 1, .int 6, .int 2, .int 0, .int 3]) (callee_enum w) (by kernel_rfl) (by kernel_rfl) (by walk_at "e")) (by walk_at "blk") (fun d _ bs h p hp => ?b1) (fun C cells => ?c1) (by decide) (fun _ => rfl)) (by walk_at "sto") (fun _ => rfl) rfl) ?_
  case b1 => exact binds_names2 h rfl p hp
  case c1 =>
    rw [show nums [.int 0, .int 5, .int 10, .int 1, .int 6, .int 2, .int 0, .int 3] = ((List.range 8).zip owns).map fun p => D.own [.int ((p.1 : Nat) : Int), .int p.2] from rfl, show iL (drawsOf sc) = ((List.range 8).zip owns).map fun p => D.int (draw1 sc p) from List.map_map]
    refine comp_all (fun (p : Nat × Int) => D.own [.int ((p.1 : Nat) : Int), .int p.2]) _ ((List.range 8).zip owns) fun p hp => ⟨[(Str.ofString "own", .int p.2), (Str.ofString "k", .int p.1)], rfl, all_cons rfl (all_cons rfl all_nil), ?_⟩
    have hp8 : p.1 < 8 := List.mem_range.mp (List.of_mem_zip hp).1
    dsimp only [List.cons_append, List.nil_append, draw1]
    refine ev_binop (by walk_at "e") (ev_call (callee_sum w) (by kernel_rfl) (by kernel_rfl) (es_cons (d := .lst (iL (slPick sc (some (p.1 : Int)) (some 24) (some 8)))) ?sl es_nil) cl_sum) bo_add
    rw [slPick_iL]
    exact ev_slice_raw hc hdt hi0 (by walk_at "e") (pt_some (by walk_at "e")) (pt_some (by walk_at "e")) (pt_some (by walk_at "e")) (by decide) (by omega)
  refine exs_cons (ex_assign (d := .lst (iL (mD mN))) (ev_cv (cv_list (Γc := []) (tn := [Str.ofString "draw"]) (ie_list (by walk_at "e")) (by walk_at "blk") (fun d _ bs h p hp => binds_names h p hp) (fun C cells => ?c2) (by rw [List.length_map]; unfold drawsOf; rw [List.length_map]; decide) (fun _ => rfl)) rfl) (by walk_at "stoc") rfl) ?_
  case c2 =>
    rw [hmN, show iL ((drawsOf sc).map fun d => d.fmod 5) = (drawsOf sc).map fun d => D.int (d.fmod 5) from List.map_map]
    refine comp_all D.int _ (drawsOf sc) fun d hd => ⟨[(Str.ofString "draw", .int d)], rfl, all_cons rfl all_nil, ?_⟩
    dsimp only [List.cons_append, List.nil_append]
    walk_at "e"
  have hml : (mD mN).length = 8 := by rw [List.length_map]; exact F.len
  refine exs_cons (ex_assign (d := dcD ([0, 1, 2, 3, 4], cts (mD mN))) (ev_call (callee_table w) (by kernel_rfl) (by kernel_rfl) (by walk_at "es") (by rw [← tab_eq F.lt]; exact CL.le (cl_table (k := k) (by omega)) (by omega))) (by walk_at "sto") rfl) ?_
  have hr5 : iL (rng 0 (5 : Int).toNat) = (List.range 5).map fun (i : Nat) => D.int (i : Int) := rng_zero 5
  refine exs_cons (ex_if (b := false) ?t1 exs_nil) ?_
  case t1 =>
    dsimp only [full]
    refine tv_or (c := false) (tv_cmp (by walk_at "e") (ev_cv ?cv1 rfl) cp_ne_dict) (fun _ => ?t2) (fun h => h)
    case cv1 =>
      have e : D.dct [0, 1, 2, 3, 4] (iL (cts (mD mN))) = .dct (((List.range 5).map fun (q : Nat) => ((q : Int), D.int (((mD mN).count (q : Int) : Nat) : Int))).map (·.1)) (((List.range 5).map fun (q : Nat) => ((q : Int), D.int (((mD mN).count (q : Int) : Nat) : Int))).map (·.2)) := rfl
      rw [e]
      refine cv_dict (Γc := [(Str.ofString "message", .lst (iL (mD mN)))]) (tn := [Str.ofString "k"]) (ie_range1 (b := 5) (callee_range w) (by kernel_rfl) (by kernel_rfl) (by walk_at "e") (by omega) rfl) (by walk_at "blk") (fun d _ bs h p hp => binds_names h p hp) (fun C cells => ?c3) (by rw [List.map_map]; show ((List.range 5).map fun (q : Nat) => (q : Int)).Nodup; decide) (by decide) (fun _ => rfl)
      rw [hr5]
      refine compD_all (fun (i : Nat) => D.int (i : Int)) (fun i => (i : Int)) (fun (q : Nat) => D.int (((mD mN).count (q : Int) : Nat) : Int)) (List.range 5) fun q hq => ⟨[(Str.ofString "k", .int q)], rfl, all_cons rfl all_nil, by dsimp only [List.cons_append, List.nil_append]; walk_at "e", ?_⟩
      dsimp only [List.cons_append, List.nil_append]
      exact ev_meth (by walk_at "e") ty_list PySem.F.plainAttrs_list PySem.F.slot_list_count PySem.F.type_list_count (by walk_at "es") cl_count rfl rfl
    case t2 =>
      exact tv_eq (tv_cmp (ev_call (callee_counts w) (by kernel_rfl) (by kernel_rfl) (by walk_at "es") (CL.le (cl_count_calls (k := k) (ks := [0, 1, 2, 3, 4]) (ns := cts (mD mN))) (by omega))) (by walk_at "e") cp_ne) (by rw [F.sum]; rfl)
  refine exs_cons (ex_assign (d := .int n) (ev_call (callee_least w) (by kernel_rfl) (by kernel_rfl) (by walk_at "es") (CL.le (cl_least (k := k) (isort_perm (cts (mD mN))) (isort_sorted _) F.h5 F.hb F.mem F.min (by omega)) (by omega))) (by walk_at "sto") rfl) ?_
  have hgr := cl_grown (w := w) (k := k) (way := w1) (c := cts (mD mN)) rfl
  rw [show (growL w1 4 ((List.range 5).map (row0 (cts (mD mN))))).headD (row0 (cts (mD mN)) 0) = r from F.rr] at hgr
  have hmul : ∀ x : Int, IntMulOk 2 x := fun x => IntMulOk.of_left (intBits_le_64 (by decide) (by decide))
  refine exs_cons (ex_assign (d := r.d) (ev_call (callee_grown w) (by kernel_rfl) (by kernel_rfl) (es_cons (d := dcD ([0, 1, 2, 3, 4], cts (mD mN))) (by walk_at "e") (es_cons (d := .int w1) (by rw [hw1]; exact ev_binop (by walk_at "e") (ev_binop (by walk_at "e") (ev_binop (ev_call (callee_sum w) (by kernel_rfl) (by kernel_rfl) (by walk_at "es") cl_sum) (by walk_at "e") (bo_mod (by decide))) (bo_mul (hmul _))) bo_sub) es_nil)) (CL.le hgr (by omega))) (by walk_at "sto") rfl) ?_
  refine exs_cons (ex_if (b := false) ?t3 exs_nil) ?_
  case t3 =>
    dsimp only [full]
    refine tv_eq (b := !([r.c, r.n, r.t, r.u] == [8, 31, (n : Int), 0])) ?_ (by rw [F.rc, F.rn, F.rt, F.ru]; simp)
    exact tv_cmp (ev_slice_tuple_to (ds := r.l) (b := 4) (by walk_at "e") (ev_int (i := 4)) (by show 4 < 5; decide) (by show 5 ≤ 1000000; decide)) (by exact ev_tuple (es_cons (ev_int (i := 8)) (es_cons (ev_int (i := 31)) (es_cons (by walk_at "e") (es_cons (ev_int (i := 0)) es_nil))))) (cp_ne_tints (k := k + 13) (ns := [r.c, r.n, r.t, r.u]) (ms := [8, 31, (n : Int), 0]) (by omega))
  obtain ⟨cN, d1, d2, d3, d4⟩ := F.dep
  refine exs_cons (ex_assign (d := .lst (sL ws)) (ev_call (callee_words w) (by kernel_rfl) (by kernel_rfl) (es_cons (d := dcD r.m) (ev_sub (by walk_at "e") (by walk_at "e") (it_tuple (ds := r.l) (j := 4) rfl rfl (by decide) (by decide))) (es_cons (d := .int w2) (by rw [hw2]; exact ev_binop (by walk_at "e") (ev_binop (by walk_at "e") (ev_binop (ev_binop (ev_call (callee_sum w) (by kernel_rfl) (by kernel_rfl) (by walk_at "es") cl_sum) (by walk_at "e") (bo_fdiv (by decide) (PyProof.noPylong_small (by decide)))) (by walk_at "e") (bo_mod (by decide))) (bo_mul (hmul _))) bo_sub) es_nil)) (by rw [← d4]; exact CL.le (cl_words (k := k) d1 d2 d3) (by omega))) (by walk_at "stoc") rfl) ?_
  refine exs_cons (ex_if (b := false) (by dsimp only [full]; exact tv_cmp (by walk_at "e") (ev_list es_nil (by decide)) (cp_eq_len (by rw [List.length_map, F.code.five]; decide))) exs_nil) ?_
  have hl32 : (jl ws mN).length ≤ 1000 := by have := F.jlen; have := F.n32; omega
  have hit : ∀ q : Nat, q < 5 → (sL ws)[q]? = some (.str (wAt ws q)) := fun q hq => by
    have := F.code.five
    rw [List.getElem?_map, show wAt ws q = ws.getD q ⟨#[]⟩ from rfl, List.getD_eq_getElem?_getD, List.getElem?_eq_getElem (by omega)]; rfl
  have hmd : iL (mD mN) = mN.map fun (q : Nat) => D.int (q : Int) := List.map_map
  refine exs_cons (ex_assign (d := .str (stl (jl ws mN))) (ev_meth (T := "str") (dO := .str ⟨#[]⟩) (ds := [.lst (sL (mN.map (wAt ws)))]) (by exact ev_str) ty_str PySem.F.plainAttrs_str PySem.F.slot_str_join PySem.F.type_str_join (es_cons (ev_cv (cv_list (Γc := [(Str.ofString "words", .lst (sL ws))]) (tn := [Str.ofString "place"]) (ds := iL (mD mN)) (ie_list (by walk_at "e")) (by walk_at "blk") (fun d _ bs h p hp => binds_names h p hp) (fun C cells => ?c4) (by rw [List.length_map]; omega) (fun _ => rfl)) rfl) es_nil) (by rw [← join_jl]; exact cl_join (join_ok hl32)) rfl rfl) (by walk_at "sto") rfl) ?_
  case c4 =>
    rw [hmd, show sL (mN.map (wAt ws)) = mN.map fun q => D.str (wAt ws q) from List.map_map]
    refine comp_all (fun (i : Nat) => D.int (i : Int)) _ mN fun q hq => ⟨[(Str.ofString "place", .int q)], rfl, all_cons rfl all_nil, ?_⟩
    have hq := F.lt q hq
    dsimp only [List.cons_append, List.nil_append]
    exact ev_sub (by walk_at "e") (by walk_at "e") (it_list (seqIndex_nat (by rw [List.length_map, F.code.five]; exact hq)) (hit q hq) (by omega) (by omega))
  have hbits : iL (bitsOf (jl ws mN)) = ((jl ws mN).map fun (c : Nat) => D.int ((c : Int) - 48)) ++ [.int 1] := by
    unfold bitsOf; rw [show iL ((jl ws mN).map (fun (c : Nat) => (c : Int) - 48) ++ [1]) = iL ((jl ws mN).map fun (c : Nat) => (c : Int) - 48) ++ [.int 1] from List.map_append, show iL ((jl ws mN).map fun (c : Nat) => (c : Int) - 48) = (jl ws mN).map fun (c : Nat) => D.int ((c : Int) - 48) from List.map_map]
  have hblen : (bitsOf (jl ws mN)).length = n + 1 := by unfold bitsOf; rw [List.length_append, List.length_map, F.jlen]; rfl
  have hbl : bitOk ((jl ws mN).map fun (c : Nat) => (c : Int) - 48) := fun b hb => by
    obtain ⟨c, hc, rfl⟩ := List.mem_map.mp hb
    rcases F.chars c hc with e | e <;> subst e
    · exact .inl rfl
    · exact .inr rfl
  have hbok : bitOk (bitsOf (jl ws mN)) := fun b hb => by
    rcases List.mem_append.mp hb with h | h
    · exact hbl b h
    · rw [List.mem_singleton] at h; exact .inr h
  refine exs_cons (ex_assign (d := .lst (iL (bitsOf (jl ws mN)))) (by
    rw [hbits]
    refine ev_binop (ev_cv (cv_list (Γc := []) (tn := [Str.ofString "sign"]) (ds := (jl ws mN).map fun c => .str ⟨#[c]⟩) (ie_str (x := stl (jl ws mN)) (by walk_at "e")) (by walk_at "blk") (fun d _ bs h p hp => binds_names h p hp) (fun C cells => ?c5) (by rw [List.length_map]; omega) (fun _ => rfl)) rfl) (by walk_at "e") (bo_add_list (by rw [List.length_map]; show _ + 1 ≤ 1000000; omega))
    refine comp_all (fun (c : Nat) => D.str ⟨#[c]⟩) _ (jl ws mN) fun c hc => ⟨[(Str.ofString "sign", .str ⟨#[c]⟩)], rfl, all_cons rfl all_nil, ?_⟩
    dsimp only [List.cons_append, List.nil_append]
    rcases F.chars c hc with e | e <;> subst e
    · exact ev_call (callee_int w) (by kernel_rfl) (by kernel_rfl) (by walk_at "es") (cl_int (n := 0) (by decide +kernel) (by decide))
    · exact ev_call (callee_int w) (by kernel_rfl) (by kernel_rfl) (by walk_at "es") (cl_int (n := 1) (by decide +kernel) (by decide))) (by walk_at "stoc") rfl) ?_
  obtain ⟨v0, v1⟩ := vl_range _ hbok
  have hnum : vl 1 (bitsOf (jl ws mN)) = (((vl 1 (bitsOf (jl ws mN))).toNat : Nat) : Int) := (Int.toNat_of_nonneg v0).symm
  have hN32 := F.n32
  have hb2 : ∀ d ∈ bitsOf (jl ws mN), (0 : Int) ≤ d ∧ d < 2 ^ 1 := fun d hd => by rcases hbok d hd with e | e <;> subst e <;> decide
  generalize hbs : bitsOf (jl ws mN) = bs at *
  refine exs_cons (ex_assign (d := .int (((vl 1 bs).toNat : Nat) : Int)) (by rw [← hnum]; exact ev_call (callee_d2i w) (by kernel_rfl) (by kernel_rfl) (es_cons (d := .lst (iL bs)) (by walk_at "e") (es_cons (ev_int (i := 1)) es_nil)) (CL.le (cl_digits2int (k := k) (n := 1) hb2 (by omega) (by decide) (by omega)) (by omega))) (by walk_at "sto") rfl) ?_
  refine exs_cons (ex_if (b := false) ?t4 exs_nil) ?_
  case t4 =>
    dsimp only [full]
    have hlen : (stl (jl ws mN)).length = n := by show (List.toArray _).size = n; rw [List.size_toArray]; exact F.jlen
    refine tv_or (c := false) (tv_eq (tv_cmp (ev_call (callee_len w) (by kernel_rfl) (by kernel_rfl) (by walk_at "es") (cl_len_str (x := stl (jl ws mN)) (by omega))) (by walk_at "e") cp_ne) (by rw [hlen]; simp)) (fun _ => ?t5) (fun h => h)
    refine tv_eq (tv_cmp (by walk_at "e") (ev_call (callee_sum w) (by kernel_rfl) (by kernel_rfl) (es_cons (d := .lst (iL (((List.range (n + 1)).filter fun k => bs.getD k 0 == 1).map fun (k : Nat) => (2 : Int) ^ k))) (ev_cv (cv_list (Γc := [(Str.ofString "bits", .lst (iL bs))]) (tn := [Str.ofString "k"]) (ie_range1 (b := (n : Int) + 1) (callee_range w) (by kernel_rfl) (by kernel_rfl) (by walk_at "e") (by omega) rfl) (by walk_at "blk") (fun d _ bs h p hp => binds_names h p hp) (fun C cells => ?c6) (by rw [List.length_map]; unfold rng; rw [List.length_map, List.length_range]; omega) (fun _ => rfl)) rfl) es_nil) cl_sum) cp_ne) ?eq
    case eq =>
      have := vl_sum bs hbok (n + 1) (by omega)
      rw [List.take_of_length_le (by omega)] at this
      rw [← this, ← hnum]; simp
    case c6 =>
      rw [show ((n : Int) + 1).toNat = n + 1 by omega, rng_zero, show iL (((List.range (n + 1)).filter fun k => bs.getD k 0 == 1).map fun (k : Nat) => (2 : Int) ^ k) = ((List.range (n + 1)).filter fun k => bs.getD k 0 == 1).map fun (k : Nat) => D.int ((2 : Int) ^ k) from List.map_map]
      refine comp_map (fun (i : Nat) => D.int (i : Int)) _ (fun k => bs.getD k 0 == 1) (List.range (n + 1)) fun q hq => ⟨[(Str.ofString "k", .int q)], rfl, all_cons rfl all_nil, ?_, fun _ => ?_⟩
      · have hq := List.mem_range.mp hq
        have e1 : (iL bs)[q]? = some (.int (bs.getD q 0)) := by
          rw [List.getElem?_map, List.getD_eq_getElem?_getD, List.getElem?_eq_getElem (by omega)]; rfl
        dsimp only [List.cons_append, List.nil_append]
        exact tv_cmp (ev_sub (by walk_at "e") (by walk_at "e") (it_list (seqIndex_nat (by rw [List.length_map]; omega)) e1 (by omega) (by omega))) (by walk_at "e") cp_eq
      · have hq := List.mem_range.mp hq
        dsimp only [List.cons_append, List.nil_append]
        rw [show ((2 : Int) ^ q) = (2 : Int) ^ ((q : Nat) : Int).toNat by rw [Int.toNat_natCast]]
        exact ev_binop (by walk_at "e") (by walk_at "e") (bo_pow (by omega) (by omega) (by decide))
  refine exs_cons (ex_if (b := false) ?t6 exs_nil) ?_
  case t6 =>
    dsimp only [full]
    have htop : Builtin.Int.intBits (((vl 1 bs).toNat : Nat) : Int) = n + 1 := by
      rw [← hbs]; have := vl_top _ hbl; unfold bitsOf; rw [this, List.length_map, F.jlen]
    have hva : (vl 1 bs).toNat < 2 ^ (1 * (n + 1)) := by
      rw [Nat.one_mul]
      rw [hblen] at v1
      have hp : (2 : Int) ^ (n + 1) = ((2 ^ (n + 1) : Nat) : Int) := by push_cast; rfl
      rw [hp] at v1
      omega
    have hd := cl_int2digits (w := w) (k := k) (a := (vl 1 bs).toNat) (n := 1) (m := n + 1) (by decide) (by decide) (by rw [htop]; omega) (by omega) (by omega) hva
    rw [← hblen, dgs_vl bs hbok] at hd
    exact tv_eq (tv_cmp (ev_call (callee_i2d w) (by kernel_rfl) (by kernel_rfl) (es_cons (by walk_at "e") (es_cons (ev_int (i := 1)) es_nil)) (CL.le hd (by omega))) (by walk_at "e") (cp_ne_ints (k := k + 13) (by omega))) (by simp)
  refine exs_ret (ex_return ?_)
  dsimp only [full]
  have hrd := cl_read (w := w) (k := k) F.code (ms := mN) F.lt hl32 (by have := F.len; omega)
  rw [← hmd] at hrd
  rw [show D.bool true = .bool (mD mN == mD mN) by rw [beq_self_eq_true]]
  exact ev_cmp (ev_call (callee_read w) (by kernel_rfl) (by kernel_rfl) (by walk_at "es") (CL.le hrd (by omega))) (by walk_at "e") (cp_eq_ints (k := k + 13) (by omega))

noncomputable section
def tabA (w1 : Int) (a b : Nat) : Bool := (List.range (9 - a - b)).all fun c => (List.range (9 - a - b - c)).all fun d => chkF w1 [((a : Nat) : Int), ((b : Nat) : Int), ((c : Nat) : Int), ((d : Nat) : Int), ((8 - a - b - c - d : Nat) : Int)]
def tabsB (a b : Nat) : Bool := tabA 1 a b && tabA (-1) a b
theorem tst_of {w1 : Int} (hw : w1 = 1 ∨ w1 = -1) {mN : List Nat} (hl : mN.length = 8) (h : ∀ m ∈ mN, m < 5) (hT : ∀ a b, a + b < 9 → tabsB a b = true) : tst (cts (mD mN)) (grownR w1 (cts (mD mN))) = true := by
  have hs := cnt_all h
  rw [hl] at hs
  rw [← chkF_eq, cts_eq]
  obtain ⟨a, ha⟩ : ∃ a : Nat, cnt mN 0 = a := ⟨_, rfl⟩
  obtain ⟨b, hb⟩ : ∃ a : Nat, cnt mN 1 = a := ⟨_, rfl⟩
  obtain ⟨c, hc⟩ : ∃ a : Nat, cnt mN 2 = a := ⟨_, rfl⟩
  obtain ⟨d, hd⟩ : ∃ a : Nat, cnt mN 3 = a := ⟨_, rfl⟩
  obtain ⟨e, he⟩ : ∃ a : Nat, cnt mN 4 = a := ⟨_, rfl⟩
  rw [ha, hb, hc, hd, he] at hs ⊢
  have ee : e = 8 - a - b - c - d := by omega
  subst ee
  have t := hT a b (by omega)
  unfold tabsB tabA at t
  rw [Bool.and_eq_true, List.all_eq_true, List.all_eq_true] at t
  rcases hw with rfl | rfl
  · exact List.all_eq_true.mp (t.1 c (List.mem_range.mpr (by omega))) d (List.mem_range.mpr (by omega))
  · exact List.all_eq_true.mp (t.2 c (List.mem_range.mpr (by omega))) d (List.mem_range.mpr (by omega))
theorem getD5 {α : Type} {f : Nat → α} {z : α} {q : Nat} (hq : q < 5) : ((List.range 5).map f).getD q z = f q := by
  rw [List.getD_eq_getElem?_getD, List.getElem?_map, List.getElem?_range hq]; rfl
theorem dot_eq {mN : List Nat} (h : ∀ m ∈ mN, m < 5) (row : List Nat) : dot (cts (mD mN)) row = (mN.map fun m => ((row.getD m 0 : Nat) : Int)).sum := by
  rw [← cnt_sum (fun m => ((row.getD m 0 : Nat) : Int)) mN h, cts_eq]
  unfold dot
  simp [List.range, List.range.loop]
  omega
theorem jl_len (ws : List Str) (g : Nat → Nat) : ∀ (mN : List Nat), (∀ m ∈ mN, (wAt ws m).cps.toList.length = g m) → ((jl ws mN).length : Int) = (mN.map fun m => ((g m : Nat) : Int)).sum
  | [], _ => rfl
  | m :: mN, h => by
    have ih := jl_len ws g mN fun q hq => h q (.tail _ hq)
    rw [show jl ws (m :: mN) = (wAt ws m).cps.toList ++ jl ws mN from rfl, List.length_append, List.map_cons, List.sum_cons, ← ih, h m (.head _)]
    omega
theorem jl_chars {ws : List Str} : ∀ {mN : List Nat}, (∀ m ∈ mN, ∀ c ∈ (wAt ws m).cps.toList, c = 48 ∨ c = 49) → ∀ c ∈ jl ws mN, c = 48 ∨ c = 49 := fun {mN} h c hc => by
  unfold jl at hc
  obtain ⟨l, hl, hcl⟩ := List.mem_flatten.mp hc
  obtain ⟨m, hm, rfl⟩ := List.mem_map.mp hl
  exact h m hm c hcl
theorem lawF {w1 w2 : Int} (hw2 : w2 = 1 ∨ w2 = -1) {mN : List Nat} (hl : mN.length = 8) (h : ∀ m ∈ mN, m < 5) (hA : tst (cts (mD mN)) (grownR w1 (cts (mD mN))) = true) : ∃ n r ws, LawF mN w1 w2 n r ws := by
  obtain ⟨a1, a2, a4, a7, ⟨a3, a9⟩, a5, a8⟩ := tst_facts hA
  have hB := chkB_kr a5 (by unfold depN; rw [List.length_map]; rfl) hw2
  rw [chkB_eq] at hB
  unfold restB at hB
  simp only [Bool.and_eq_true, beq_iff_eq, List.all_eq_true, List.mem_range, Bool.or_eq_true] at hB
  obtain ⟨⟨⟨b1, b2⟩, b3⟩, b4⟩ := hB
  have hj := jl_len (wEnd (depN (grownR w1 (cts (mD mN)))) w2).1 (fun q => (depN (grownR w1 (cts (mD mN)))).getD q 0) mN fun m hm => (b4 m (h m hm)).1
  rw [← dot_eq h, a8] at hj
  have hlen5 : (isort (cts (mD mN))).length = 5 := by rw [(isort_perm _).length_eq]; rfl
  obtain ⟨v1, v2⟩ := hvy_props hlen5
  have a6 : ∀ q : Nat, q < 5 → (grownR w1 (cts (mD mN))).m.1.contains (q : Int) = true ∧ 0 ≤ dGet (grownR w1 (cts (mD mN))).m (q : Int) := fun q hq => by
    have := (kr_at a5 _ (List.mem_map.mpr ⟨q, List.mem_range.mpr hq, rfl⟩)).1
    exact ⟨key_in fun e => (by rw [e] at this; cases this), by omega⟩
  have hb : ∀ x ∈ isort (cts (mD mN)), 0 ≤ x ∧ x ≤ 8 := fun x hx => by
    have hx := (isort_perm _).mem_iff.mp hx
    unfold cts at hx
    obtain ⟨q, _, rfl⟩ := List.mem_map.mp hx
    have : (mD mN).count (q : Int) ≤ (mD mN).length := List.count_le_length
    rw [List.length_map, hl] at this
    omega
  obtain ⟨l1, l2⟩ := least3_props hlen5 fun x hx => (hb x hx).1
  refine ⟨(jl (wEnd (depN (grownR w1 (cts (mD mN)))) w2).1 mN).length, grownR w1 (cts (mD mN)), (wEnd (depN (grownR w1 (cts (mD mN)))) w2).1, ⟨hl, h, ?_, by rw [hj]; exact l1, by rw [hj]; exact l2, v1, fun x hx => ?_, rfl, a1, a2, by rw [hj]; exact a3, a4, ⟨depN (grownR w1 (cts (mD mN))), fun q hq => ?_, wsB_ok _ _ b1, b2, rfl⟩, codeB_ok b3, rfl, jl_chars fun m hm => (b4 m (h m hm)).2, ?_⟩⟩
  · have hs := cnt_all h
    rw [hl] at hs
    rw [cts_eq]
    simp only [List.sum_cons, List.sum_nil]
    omega
  · have := hb x (v2 x hx)
    omega
  · obtain ⟨c1, c2⟩ := a6 q hq
    rw [dAt_ints a7 c1]
    unfold depN
    rw [getD5 hq, Int.toNat_of_nonneg c2]
  · omega
end

theorem tab_0 : ∀ b < 9, tabsB 0 b = true
  | 0, _ => by decide +kernel
  | 1, _ => by decide +kernel
  | 2, _ => by decide +kernel
  | 3, _ => by decide +kernel
  | 4, _ => by decide +kernel
  | 5, _ => by decide +kernel
  | 6, _ => by decide +kernel
  | 7, _ => by decide +kernel
  | 8, _ => by decide +kernel
  | b + 9, h => by omega
theorem tab_1 : ∀ b < 8, tabsB 1 b = true
  | 0, _ => by decide +kernel
  | 1, _ => by decide +kernel
  | 2, _ => by decide +kernel
  | 3, _ => by decide +kernel
  | 4, _ => by decide +kernel
  | 5, _ => by decide +kernel
  | 6, _ => by decide +kernel
  | 7, _ => by decide +kernel
  | b + 8, h => by omega
theorem tab_2 : ∀ b < 7, tabsB 2 b = true
  | 0, _ => by decide +kernel
  | 1, _ => by decide +kernel
  | 2, _ => by decide +kernel
  | 3, _ => by decide +kernel
  | 4, _ => by decide +kernel
  | 5, _ => by decide +kernel
  | 6, _ => by decide +kernel
  | b + 7, h => by omega
theorem tab_3 : ∀ b < 6, tabsB 3 b = true
  | 0, _ => by decide +kernel
  | 1, _ => by decide +kernel
  | 2, _ => by decide +kernel
  | 3, _ => by decide +kernel
  | 4, _ => by decide +kernel
  | 5, _ => by decide +kernel
  | b + 6, h => by omega
theorem tab_4 : ∀ b < 5, tabsB 4 b = true
  | 0, _ => by decide +kernel
  | 1, _ => by decide +kernel
  | 2, _ => by decide +kernel
  | 3, _ => by decide +kernel
  | 4, _ => by decide +kernel
  | b + 5, h => by omega
theorem tab_5 : ∀ b < 4, tabsB 5 b = true
  | 0, _ => by decide +kernel
  | 1, _ => by decide +kernel
  | 2, _ => by decide +kernel
  | 3, _ => by decide +kernel
  | b + 4, h => by omega
theorem tab_6 : ∀ b < 3, tabsB 6 b = true
  | 0, _ => by decide +kernel
  | 1, _ => by decide +kernel
  | 2, _ => by decide +kernel
  | b + 3, h => by omega
theorem tab_7 : ∀ b < 2, tabsB 7 b = true
  | 0, _ => by decide +kernel
  | 1, _ => by decide +kernel
  | b + 2, h => by omega
theorem tab_8 : ∀ b < 1, tabsB 8 b = true
  | 0, _ => by decide +kernel
  | b + 1, h => by omega
theorem tab_all : ∀ a b, a + b < 9 → tabsB a b = true
  | 0, b, h => tab_0 b (by omega)
  | 1, b, h => tab_1 b (by omega)
  | 2, b, h => tab_2 b (by omega)
  | 3, b, h => tab_3 b (by omega)
  | 4, b, h => tab_4 b (by omega)
  | 5, b, h => tab_5 b (by omega)
  | 6, b, h => tab_6 b (by omega)
  | 7, b, h => tab_7 b (by omega)
  | 8, b, h => tab_8 b (by omega)
  | a + 9, b, h => by omega

theorem all_lawF {w1 w2 : Int} (hw1 : w1 = 1 ∨ w1 = -1) (hw2 : w2 = 1 ∨ w2 = -1) {mN : List Nat} (hl : mN.length = 8) (h : ∀ m ∈ mN, m < 5) : ∃ n r ws, LawF mN w1 w2 n r ws := lawF hw2 hl h (tst_of hw1 hl h tab_all)
theorem the_law {w : World} {k : Nat} {l : Addr} {o : Obj} {vs₀ : List Value} {n₀ : Nat} {sc : List Int} (hc : o.cls = .type "list") (hdt : o.data = .seq vs₀.toArray n₀) (hi0 : IntsAre vs₀ sc) (hz : sc.length ≤ 100) : CLC w (k + 14) (.ref 147) [.raw (.ref l) [(l, o)]] (.bool true) := by
  have hdl : (drawsOf sc).length = 8 := by unfold drawsOf; rw [List.length_map]; rfl
  have hm : ∀ d ∈ drawsOf sc, 0 ≤ d.fmod 5 ∧ d.fmod 5 < 5 := fun d _ => ⟨Int.fmod_nonneg_of_pos d (by decide), Int.fmod_lt_of_pos d (by decide)⟩
  have hmN : mD ((drawsOf sc).map fun d => (d.fmod 5).toNat) = (drawsOf sc).map fun d => d.fmod 5 := by
    rw [show mD ((drawsOf sc).map fun d => (d.fmod 5).toNat) = (drawsOf sc).map fun d => (((d.fmod 5).toNat : Nat) : Int) from List.map_map]
    exact List.map_congr_left fun d hd => Int.toNat_of_nonneg (hm d hd).1
  have way : ∀ x : Int, 1 - 2 * x.fmod 2 = 1 ∨ 1 - 2 * x.fmod 2 = -1 := fun x => by
    have h1 := Int.fmod_nonneg_of_pos x (b := 2) (by decide)
    have h2 := Int.fmod_lt_of_pos x (b := 2) (by decide)
    omega
  obtain ⟨n, r, ws, F⟩ := all_lawF (way (drawsOf sc).sum) (way ((drawsOf sc).sum.fdiv 2)) (mN := (drawsOf sc).map fun d => (d.fmod 5).toNat) (by rw [List.length_map]; exact hdl) fun m hm' => by
    obtain ⟨d, hd, rfl⟩ := List.mem_map.mp hm'
    have := hm d hd
    omega
  exact cl_law hc hdt hi0 hz F hmN rfl rfl

open PySem PySem.W PySem.W.X PySem.Calls PySem.Spec PyProof.Rows
set_option maxHeartbeats 8000000
theorem tab_empty {b : Addr} {h : Heap} (e : h.get? b = some (tabObj #[])) : TabAt b h := ⟨#[], e, by unfold TriplesOk; trivial, fun v h => by cases h⟩
/-- the text without its four rows of names -/
def kView : Program := { PG with main := { PG.main with body := (PG.main.body.drop 1).take 7 ++ ((PG.main.body.drop 9).take 2 ++ ((PG.main.body.drop 12).take 4 ++ PG.main.body.drop 17)) } }
theorem head_runs : LeftO PG kView [] (fun s => xlAt kView [] s && recOk (RowW.records (OpenRow.toRowW (OpenLaw.row PySem.Challenge.rw_pe0208_01))) s) (Hook.obs (kmHook KF asF asF_eq [30, 37])) (Hook.val (kmHook KF asF asF_eq [30, 37])) 1812 := fun w => by
  delta openEnds fencedOpening topFrom
  rw [Fast.te14082659384304107361, Fast.te4187177175401517315, Fast.te10274390034422433532, Fast.te14289696077712309145, Fast.te1435165496053646825, Fast.te14364793385576792824, Fast.te8920871248978507458]
  kernel_rfl
theorem the_end (hlaw : ∀ {w : World} {k : Nat} {l : Addr} {o : Obj} {vs₀ : List Value} {n₀ : Nat} {sc : List Int}, o.cls = .type "list" → o.data = .seq vs₀.toArray n₀ → IntsAre vs₀ sc → sc.length ≤ 100 → CLC w (k + 14) (.ref 147) [.raw (.ref l) [(l, o)]] (.bool true)) : PySem.Challenge.rw_pe0208_01.Holds := by
  w_on
  o_law
  refine holds_open (q := kView) (loose := []) (Xt := fun s => xlAt kView [] s && recOk (RowW.records (OpenRow.toRowW (OpenLaw.row PySem.Challenge.rw_pe0208_01))) s) (XP := XL kView []) (Yf := Hook.obs (kmHook KF asF asF_eq [30, 37])) (Ya := Hook.val (kmHook KF asF asF_eq [30, 37])) (YP := Hook.says (kmHook KF asF asF_eq [30, 37])) (N := 1812)
    head_runs (Hook.of (kmHook KF asF asF_eq [30, 37])) (Hook.keeps (kmHook KF asF asF_eq [30, 37])) (fun s e => xl_of s (Bool.and_eq_true_iff.mp e).1) XL.keeps (by rfl) (by rfl) (by rfl) (fun s e => recFacts_of (Bool.and_eq_true_iff.mp e).2) (by rfl) (by first | assumption | decide +kernel) (by decide +kernel) ⟨rfl, rfl, rfl, rfl, rfl, by decide +kernel⟩ ?hw ?hc
  case hw => w_witness2
  intro w s₀ s₁ mg mb G Y fa o pm cd doc dV kV ho hd hcd hD hmg hg args vals as hpre hlay hrd hwl hlo
  have KX := km_in_of Y
  have TB0 := km_tabs_of Y
  refine Ground.open G ?_
  intro T B D TE TW
  have hfa : fa = 147 := by
    have := mg_of KX (Top.g T) (n := Str.ofString "law") (v := .ref 147) (by kernel_rfl)
    rw [hmg] at this
    cases this; rfl
  subst hfa
  have base : Base w s₁.heap := by
    refine ⟨KX, ⟨mg, T.g, fun n v e => mg_of KX T.g e, fun n e => mg_none_of KX T.g e⟩, ⟨mb, T.b, fun n hn => T.builtins n hn⟩, T.nolimit, tab_empty (TB0 30 (by simp)), tab_empty (TB0 37 (by simp)), ?_⟩
    obtain ⟨bm, ob, h1, h2, h3, h4, h5, h6⟩ := T.bmain
    have := mg_of KX (Top.g T) (n := Str.ofString "__builtins__") (v := .ref 4) (by kernel_rfl)
    rw [show mg (Str.ofString "__builtins__") = some (.ref bm) from h1] at this
    cases this
    exact ⟨ob, h3, h4, h5, by first | exact h6 | exact h6.1⟩
  clear hd hcd hD B D TE TW
  wrow_args hpre hlay hrd hwl hlo
  first | refine callC_kw (enter_call ?_) | refine enter_call ?_
  rename s₁.heap.IsList _ _ => hL
  rename IntsAre _ _ => hI
  rename ¬ _ < _ => hlen
  obtain ⟨o2, e2, hcls, n₀, hdat⟩ := hL
  have ne : ∀ P : Addr, P = 30 ∨ P = 37 → s₁.heap.get? P ≠ some o2 := fun P hP e => by
    have : s₁.heap.get? P = some (tabObj #[]) := by rcases hP with rfl | rfl <;> exact TB0 _ (by simp)
    rw [e] at this
    cases this
    cases hcls
  refine codeAny_mono (hlaw (w := w) (k := 0) (o := o2) hcls hdat hI (by omega) callerA s₁ [30, 37] _ (fun v s' => Grow s₁ s' ∧ v = .bool true) (fun _ _ => False) ⟨rfl, by decide, by decide⟩ base ⟨by simp, by simp⟩ (fun a ha => ?_) (isL_cons.mpr ⟨_, _, rfl, is_raw.mpr ⟨rfl, fun p hp => ?_⟩, isL_nil.mpr rfl⟩) (fun v s' g i => ⟨g, is_bool.mp i⟩)) fun r s' hr => ?_
  · have : a = 30 ∨ a = 37 := by simpa using ha
    exact ⟨_, TB0 a (by rcases this with rfl | rfl <;> simp)⟩
  · rw [List.mem_singleton] at hp
    subst hp
    refine hid_get.mpr ⟨e2, fun hm => ?_⟩
    exact ne _ (by simpa using hm) e2
  · have h30 : CodeHd s₁.heap 34 30 := codeHd_of_K (c := 34) (P := 30) KX (by kernel_rfl)
    have h37 : CodeHd s₁.heap 41 37 := codeHd_of_K (c := 41) (P := 37) KX (by kernel_rfl)
    match r, hr with
    | .ok (.ret v), ⟨g, hv⟩ =>
      subst hv
      have tabs : ∀ b o, b = 30 ∨ b = 37 → s₁.heap.get? b = some o → isCodeTable s₁.heap b ∧ o = tabObj #[] ∧ ∃ ps, s'.heap.get? b = some (tabObj ps) := fun b o hb e => by
        have e0 : s₁.heap.get? b = some (tabObj #[]) := by rcases hb with rfl | rfl <;> exact TB0 _ (by simp)
        rw [e0] at e
        cases e
        obtain ⟨ps, e3, _⟩ := g.tab b hb (tab_empty e0)
        refine ⟨?_, rfl, ps, e3⟩
        rcases hb with rfl | rfl
        · exact (h30.tab e0).isCodeTable
        · exact (h37.tab e0).isCodeTable
      obtain ⟨h', tk, rfl⟩ := g.same
      refine ⟨.inl ⟨_, _, [], rfl, fun _ => rfl, ReadsW.bool true, ?_, fun _ => ⟨List.nodup_nil, fun _ hm => nomatch hm⟩⟩, ⟨fun b o e => ?_, fun b o e => ?_⟩, rfl, ?_⟩
      · first | rfl | wrow_post
      · by_cases hb : b = 30 ∨ b = 37
        · obtain ⟨ht, rfl, ps, hP⟩ := tabs b o hb e
          exact .inr (.inl ⟨ht, rfl, #[], ps, rfl, by rw [Array.empty_append]; exact hP⟩)
        · exact .inl (g.keep b o (fun q => hb (.inl q)) (fun q => hb (.inr q)) e)
      · by_cases hb : b = 30 ∨ b = 37
        · obtain ⟨_, _, ps, hP⟩ := tabs b o hb e
          exact ⟨_, hP⟩
        · exact ⟨o, g.keep b o (fun q => hb (.inl q)) (fun q => hb (.inr q)) e⟩
      · first | exact AllBare.empty | exact .of_eq rfl | exact .of_eq (by assumption)

end Mine
end
open PySem PySem.W PySem.Calls PySem.Spec PyProof.Rows
theorem PySem.Challenge.cw_pe0208_01_holds : PySem.Challenge.rw_pe0208_01.Holds :=
  Mine.the_end fun hc hd hi hz => Mine.the_law hc hd hi hz
