import PyProof.Rows.All
import Wide.All
import OpenK.AllK
import Wide.FinOn
import PySem.Challenge.RW_rs0093_01
set_option Elab.async false
set_option genSizeOf false
set_option genInjectivity false

section -- Head
open PySem PySem.W PyProof.Rows
set_option Elab.async false
set_option maxRecDepth 100000
set_option maxHeartbeats 8000000
namespace Mine
/-! four objects of the heap behind the top: the names, the table of signs, the class and its names -/
noncomputable section
def eI (P : Params) (x : Str) (k v u : Nat) : DictEntry := ⟨PyData.keyHash P x, .str x k, .int (Int.ofNat v) u⟩
def eV (P : Params) (x : Str) (k : Nat) (v : Value) : DictEntry := ⟨PyData.keyHash P x, .str x k, v⟩
def ni0 : List Str := [Str.ofString "LPAR", Str.ofString "RPAR", Str.ofString "LSQB", Str.ofString "RSQB", Str.ofString "COLON", Str.ofString "COMMA", Str.ofString "SEMI", Str.ofString "PLUS"]
def ni1 : List Str := [Str.ofString "MINUS", Str.ofString "STAR", Str.ofString "SLASH", Str.ofString "VBAR", Str.ofString "AMPER", Str.ofString "LESS", Str.ofString "GREATER", Str.ofString "EQUAL"]
def ni2 : List Str := [Str.ofString "DOT", Str.ofString "PERCENT", Str.ofString "LBRACE", Str.ofString "RBRACE", Str.ofString "EQEQUAL", Str.ofString "NOTEQUAL", Str.ofString "LESSEQUAL", Str.ofString "GREATEREQUAL"]
def ni3 : List Str := [Str.ofString "TILDE", Str.ofString "CIRCUMFLEX", Str.ofString "LEFTSHIFT", Str.ofString "RIGHTSHIFT", Str.ofString "DOUBLESTAR", Str.ofString "PLUSEQUAL", Str.ofString "MINEQUAL", Str.ofString "STAREQUAL"]
def ni4 : List Str := [Str.ofString "SLASHEQUAL", Str.ofString "PERCENTEQUAL", Str.ofString "AMPEREQUAL", Str.ofString "VBAREQUAL", Str.ofString "CIRCUMFLEXEQUAL", Str.ofString "LEFTSHIFTEQUAL", Str.ofString "RIGHTSHIFTEQUAL", Str.ofString "DOUBLESTAREQUAL"]
def ni5 : List Str := [Str.ofString "DOUBLESLASH", Str.ofString "DOUBLESLASHEQUAL", Str.ofString "AT", Str.ofString "ATEQUAL", Str.ofString "RARROW", Str.ofString "ELLIPSIS", Str.ofString "COLONEQUAL", Str.ofString "EXCLAMATION"]
def nt0 : List (Str × Nat) := [(Str.ofString "!", 54), (Str.ofString "!=", 28), (Str.ofString "%", 24), (Str.ofString "%=", 40), (Str.ofString "&", 19), (Str.ofString "&=", 41), (Str.ofString "(", 7), (Str.ofString ")", 8)]
def nt1 : List (Str × Nat) := [(Str.ofString "*", 16), (Str.ofString "**", 35), (Str.ofString "**=", 46), (Str.ofString "*=", 38), (Str.ofString "+", 14), (Str.ofString "+=", 36), (Str.ofString ",", 12), (Str.ofString "-", 15)]
def nt2 : List (Str × Nat) := [(Str.ofString "-=", 37), (Str.ofString "->", 51), (Str.ofString ".", 23), (Str.ofString "...", 52), (Str.ofString "/", 17), (Str.ofString "//", 47), (Str.ofString "//=", 48), (Str.ofString "/=", 39)]
def nt3 : List (Str × Nat) := [(Str.ofString ":", 11), (Str.ofString ":=", 53), (Str.ofString ";", 13), (Str.ofString "<", 20), (Str.ofString "<<", 33), (Str.ofString "<<=", 44), (Str.ofString "<=", 29), (Str.ofString "=", 22)]
def nt4 : List (Str × Nat) := [(Str.ofString "==", 27), (Str.ofString ">", 21), (Str.ofString ">=", 30), (Str.ofString ">>", 34), (Str.ofString ">>=", 45), (Str.ofString "@", 49), (Str.ofString "@=", 50), (Str.ofString "[", 9)]
def nt5 : List (Str × Nat) := [(Str.ofString "]", 10), (Str.ofString "^", 32), (Str.ofString "^=", 43), (Str.ofString "{", 25), (Str.ofString "|", 18), (Str.ofString "|=", 42), (Str.ofString "}", 26), (Str.ofString "~", 31)]
def hI (P : Params) : List DictEntry := ((ni0 ++ (ni1 ++ (ni2 ++ (ni3 ++ (ni4 ++ ni5))))).zipIdx 7).map fun p => eI P p.1 (214 + 2 * p.2) p.2 (213 + 2 * p.2)
def hT (P : Params) : List DictEntry := ((nt0 ++ (nt1 ++ (nt2 ++ (nt3 ++ (nt4 ++ nt5))))).zip ((List.range 35).map (fun i => 325 + 2 * i) ++ (List.range 13).map (fun i => 394 + i))).map fun p => eI P p.1.1 p.2 p.1.2 (213 + 2 * p.1.2)
def h0 (P : Params) : List DictEntry := [eV P (Str.ofString "__name__") 165 (.str (Str.ofString "law_rs0093_01") 443), eV P (Str.ofString "__doc__") 166 .none, eV P (Str.ofString "__package__") 167 .none, eV P (Str.ofString "__loader__") 168 (.builtin "__main__.__loader__#opaque"), eV P (Str.ofString "__spec__") 169 .none, eV P (Str.ofString "__annotations__") 170 (.ref 6), eV P (Str.ofString "__builtins__") 171 (.ref 4)]
def h1 (P : Params) : List DictEntry := [eV P (Str.ofString "__file__") 173 (.str (Str.ofString "/claim/cut.py") 172), eV P (Str.ofString "__cached__") 174 .none, eV P (Str.ofString "StatisticsError") 206 (.ref 24), eV P (Str.ofString "median_low") 214 (.ref 34), eV P (Str.ofString "median_high") 222 (.ref 41), eI P (Str.ofString "ENDMARKER") 226 0 225]
def h2 (P : Params) : List DictEntry := [eI P (Str.ofString "NT_OFFSET") 324 256 323, eV P (Str.ofString "EXACT_TOKEN_TYPES") 421 (.ref 42), eV P (Str.ofString "ISTERMINAL") 428 (.ref 51), eV P (Str.ofString "ISNONTERMINAL") 435 (.ref 58), eV P (Str.ofString "ISEOF") 442 (.ref 65), eV P (Str.ofString "_law_pairs") 450 (.ref 70)]
def h3 (P : Params) : List DictEntry := [eV P (Str.ofString "_law_middle") 461 (.ref 77), eV P (Str.ofString "_law_keeps") 472 (.ref 84), eV P (Str.ofString "_law_nearest") 478 (.ref 89), eV P (Str.ofString "_law_levels") 484 (.ref 94), eV P (Str.ofString "law") 490 (.ref 99)]
def o3 (P : Params) : Obj := { cls := .type "dict", data := .dict (h0 P ++ (h1 P ++ (hI P ++ (h2 P ++ h3 P)))).toArray 72 }
def o42 (P : Params) : Obj := { cls := .type "dict", data := .dict (hT P).toArray 48 }
def o23 (P : Params) : Obj := { cls := .type "dict", data := .dict #[eV P (Str.ofString "__module__") 196 (.str (Str.ofString "cpy313.statistics") 187), eI P (Str.ofString "__firstlineno__") 200 2 199, eV P (Str.ofString "__static_attributes__") 201 (.ref 22), eV P (Str.ofString "__weakref__") 203 (.ref 25), eV P (Str.ofString "__doc__") 204 .none] 3 }
def o24 : Obj := { cls := .type "type", data := .cls { name := Str.ofString "StatisticsError", bases := [.type "ValueError"], mro := [.ref 24, .type "ValueError", .type "Exception", .type "BaseException", .type "object"], ns := 23, qualname := Str.ofString "StatisticsError" }, slots := #[some (.ref 15), none, some (.str (Str.ofString "StatisticsError") 189), some (.str (Str.ofString "StatisticsError") 197), some (.builtin "ValueError.__new__"), some (.bool true)] }
def KK (P : Params) : Frag := [(3, o3 P), (23, o23 P), (24, o24), (42, o42 P)]
end
local macro_rules | `(tactic| k_head) => `(tactic| o_head (kHook KK [3, 23, 24, 42] (fun _ => by kernel_rfl)))
def theDef (i : Nat) : Stmt := PySem.Challenge.pw_rs0093_01.main.body.getD i (.Pass ⟨0, 0, 0, 0⟩)
/-- the program, its statements by number -/
def pW : Program := { PySem.Challenge.pw_rs0093_01 with main := { PySem.Challenge.pw_rs0093_01.main with body := [theDef 0, theDef 1, theDef 2, theDef 3, theDef 4, theDef 5, theDef 6, theDef 7, theDef 8, theDef 9, theDef 10, theDef 11, theDef 12, theDef 13, theDef 14, theDef 15, theDef 16, theDef 17, theDef 18, theDef 19, theDef 20, theDef 21, theDef 22, theDef 23, theDef 24, theDef 25, theDef 26, theDef 27, theDef 28, theDef 29, theDef 30, theDef 31, theDef 32, theDef 33, theDef 34, theDef 35, theDef 36, theDef 37, theDef 38, theDef 39, theDef 40, theDef 41, theDef 42, theDef 43, theDef 44, theDef 45, theDef 46, theDef 47, theDef 48, theDef 49, theDef 50, theDef 51, theDef 52, theDef 53, theDef 54, theDef 55, theDef 56, theDef 57, theDef 58, theDef 59, theDef 60, theDef 61, theDef 62, theDef 63, theDef 64, theDef 65] } }
def rW : OpenLaw := { prog := pW, name := Str.ofString "law", about := [Str.ofString "median_low"], foot := 6, most := some 63, bound := none, writes := false }
theorem rW_eq : rW = PySem.Challenge.rw_rs0093_01 := by kernel_rfl
open_top hd for rW
end Mine
end

section -- Base
open PySem PySem.W PyProof.Rows PySem.Spec PySem.Calls
set_option Elab.async false
set_option maxRecDepth 100000
namespace Mine

/-- a datum, or a value as it stands -/
inductive Dd where
  | py (d : PyData)
  | raw (v : Value)

/-- v reads as the datum, none of its lists among X -/
def Rd (X : Addr → Prop) (h : Heap) (v : Value) : Dd → Prop
  | .py d => ∃ as, Reads h v d as ∧ ∀ a ∈ as, ¬ X a
  | .raw u => v = u
def RdAll (X : Addr → Prop) (h : Heap) (vs : List Value) (ds : List PyData) : Prop := ∃ as, ReadsAll h vs ds as ∧ ∀ a ∈ as, ¬ X a

abbrev Ext (h h' : Heap) : Prop := ∀ b o, h.get? b = some o → h'.get? b = some o

/-- what a change must leave: all outside X, and the tuples -/
def Leaves (X : Addr → Prop) (h h' : Heap) : Prop := ∀ b o, h.get? b = some o → (¬ X b ∨ (o.cls = .type "tuple" ∧ ∃ vs n, o.data = .seq vs n)) → h'.get? b = some o

mutual
theorem reads_leaves {X : Addr → Prop} {h h' : Heap} (hk : Leaves X h h') : ∀ {v : Value} {d : PyData} {as : List Addr}, Reads h v d as → (∀ a ∈ as, ¬ X a) → Reads h' v d as
  | _, _, _, .none, _ => .none
  | _, _, _, .bool b, _ => .bool b
  | _, _, _, .int i t, _ => .int i t
  | _, _, _, .str x t, _ => .str x t
  | _, _, _, .list h1 h2 h3 h4, ha => .list (hk _ _ h1 (.inl (ha _ (.head _)))) h2 h3 (readsAll_leaves hk h4 fun a hm => ha a (.tail _ hm))
  | _, _, _, .tuple h1 h2 h3 h4, ha => .tuple (hk _ _ h1 (.inr ⟨h2, _, _, h3⟩)) h2 h3 (readsAll_leaves hk h4 ha)
  | _, _, _, .dict h1 h2 h3 h4 h5, ha => .dict (hk _ _ h1 (.inl (ha _ (.head _)))) h2 h3 (readsAll_leaves hk h4 fun a hm => ha a (.tail _ (List.mem_append_left _ hm)))
      (readsAll_leaves hk h5 fun a hm => ha a (.tail _ (List.mem_append_right _ hm)))
theorem readsAll_leaves {X : Addr → Prop} {h h' : Heap} (hk : Leaves X h h') : ∀ {vs : List Value} {ds : List PyData} {as : List Addr}, ReadsAll h vs ds as → (∀ a ∈ as, ¬ X a) → ReadsAll h' vs ds as
  | _, _, _, .nil, _ => .nil
  | _, _, _, .cons h1 h2, ha => .cons (reads_leaves hk h1 fun a hm => ha a (List.mem_append_left _ hm)) (readsAll_leaves hk h2 fun a hm => ha a (List.mem_append_right _ hm))
end
mutual
theorem reads_some {h : Heap} : ∀ {v : Value} {d : PyData} {as : List Addr}, Reads h v d as → ∀ a ∈ as, ∃ o, h.get? a = some o
  | _, _, _, .none, _, hm => nomatch hm
  | _, _, _, .bool b, _, hm => nomatch hm
  | _, _, _, .int i t, _, hm => nomatch hm
  | _, _, _, .str x t, _, hm => nomatch hm
  | _, _, _, .list h1 h2 h3 h4, a, hm => by
    rcases List.mem_cons.mp hm with rfl | hm
    · exact ⟨_, h1⟩
    · exact readsAll_some h4 a hm
  | _, _, _, .tuple h1 h2 h3 h4, a, hm => readsAll_some h4 a hm
  | _, _, _, .dict h1 h2 h3 h4 h5, a, hm => by
    rcases List.mem_cons.mp hm with rfl | hm
    · exact ⟨_, h1⟩
    · rcases List.mem_append.mp hm with hm | hm
      · exact readsAll_some h4 a hm
      · exact readsAll_some h5 a hm
theorem readsAll_some {h : Heap} : ∀ {vs : List Value} {ds : List PyData} {as : List Addr}, ReadsAll h vs ds as → ∀ a ∈ as, ∃ o, h.get? a = some o
  | _, _, _, .nil, _, hm => nomatch hm
  | _, _, _, .cons h1 h2, a, hm => by
    rcases List.mem_append.mp hm with hm | hm
    · exact reads_some h1 a hm
    · exact readsAll_some h2 a hm
end

section
variable {X Y : Addr → Prop} {h h' : Heap} {v : Value} {d : Dd} {vs ws : List Value} {ds es : List PyData}
theorem Rd.leaves (r : Rd X h v d) (hk : Leaves X h h') : Rd X h' v d := by
  cases d with
  | py d => obtain ⟨as, r, ha⟩ := r; exact ⟨as, reads_leaves hk r ha, ha⟩
  | raw u => exact r
theorem RdAll.leaves (r : RdAll X h vs ds) (hk : Leaves X h h') : RdAll X h' vs ds := by
  obtain ⟨as, r, ha⟩ := r; exact ⟨as, readsAll_leaves hk r ha, ha⟩
theorem Leaves.of_ext (hk : Ext h h') : Leaves X h h' := fun b o e _ => hk b o e
theorem Rd.ext (r : Rd X h v d) (hk : Ext h h') : Rd X h' v d := r.leaves (.of_ext hk)
theorem RdAll.ext (r : RdAll X h vs ds) (hk : Ext h h') : RdAll X h' vs ds := r.leaves (.of_ext hk)
/-- fewer to avoid, or more that are not there -/
theorem Rd.avoid (r : Rd X h v d) (hY : ∀ a, Y a → X a ∨ h.get? a = none) : Rd Y h v d := by
  cases d with
  | py d =>
    obtain ⟨as, r, ha⟩ := r
    refine ⟨as, r, fun a hm hy => ?_⟩
    rcases hY a hy with hx | hn
    · exact ha a hm hx
    · obtain ⟨o, ho⟩ := reads_some r a hm; rw [hn] at ho; cases ho
  | raw u => exact r
theorem RdAll.avoid (r : RdAll X h vs ds) (hY : ∀ a, Y a → X a ∨ h.get? a = none) : RdAll Y h vs ds := by
  obtain ⟨as, r, ha⟩ := r
  refine ⟨as, r, fun a hm hy => ?_⟩
  rcases hY a hy with hx | hn
  · exact ha a hm hx
  · obtain ⟨o, ho⟩ := readsAll_some r a hm; rw [hn] at ho; cases ho
theorem RdAll.nil : RdAll X h [] [] := ⟨[], .nil, fun _ hm => nomatch hm⟩
theorem RdAll.cons {d : PyData} (r : Rd X h v (.py d)) (q : RdAll X h vs ds) : RdAll X h (v :: vs) (d :: ds) := by
  obtain ⟨as, r, ha⟩ := r
  obtain ⟨bs, q, hb⟩ := q
  exact ⟨_, .cons r q, fun a hm => (List.mem_append.mp hm).elim (ha a) (hb a)⟩
theorem RdAll.uncons {d : PyData} (r : RdAll X h vs (d :: ds)) : ∃ v us, vs = v :: us ∧ Rd X h v (.py d) ∧ RdAll X h us ds := by
  obtain ⟨as, r, ha⟩ := r
  cases r with
  | cons r q => exact ⟨_, _, rfl, ⟨_, r, fun a hm => ha a (List.mem_append_left _ hm)⟩, ⟨_, q, fun a hm => ha a (List.mem_append_right _ hm)⟩⟩
theorem RdAll.unnil (r : RdAll X h vs []) : vs = [] := by
  obtain ⟨as, r, ha⟩ := r
  cases r; rfl
theorem RdAll.length (r : RdAll X h vs ds) : vs.length = ds.length := by
  induction ds generalizing vs with
  | nil => rw [r.unnil]; rfl
  | cons d ds ih => obtain ⟨v, us, rfl, _, q⟩ := r.uncons; rw [List.length_cons, List.length_cons, ih q]
theorem RdAll.append (r : RdAll X h vs ds) (q : RdAll X h ws es) : RdAll X h (vs ++ ws) (ds ++ es) := by
  induction ds generalizing vs with
  | nil => rw [r.unnil]; exact q
  | cons d ds ih => obtain ⟨v, us, rfl, r1, r2⟩ := r.uncons; exact .cons r1 (ih r2)
theorem RdAll.get (r : RdAll X h vs ds) {i : Nat} {v : Value} (hv : vs[i]? = some v) : ∃ d, ds[i]? = some d ∧ Rd X h v (.py d) := by
  induction ds generalizing vs i with
  | nil => rw [r.unnil] at hv; cases hv
  | cons d ds ih =>
    obtain ⟨u, us, rfl, r1, r2⟩ := r.uncons
    cases i with
    | zero => cases hv; exact ⟨d, rfl, r1⟩
    | succ i => exact ih r2 hv
theorem RdAll.get' (r : RdAll X h vs ds) {i : Nat} {d : PyData} (hd : ds[i]? = some d) : ∃ v, vs[i]? = some v ∧ Rd X h v (.py d) := by
  induction ds generalizing vs i with
  | nil => cases hd
  | cons e ds ih =>
    obtain ⟨u, us, rfl, r1, r2⟩ := r.uncons
    cases i with
    | zero => cases hd; exact ⟨u, rfl, r1⟩
    | succ i => exact ih r2 hd
theorem RdAll.take (r : RdAll X h vs ds) (n : Nat) : RdAll X h (vs.take n) (ds.take n) := by
  induction ds generalizing vs n with
  | nil => rw [r.unnil]; simpa using RdAll.nil
  | cons d ds ih =>
    obtain ⟨u, us, rfl, r1, r2⟩ := r.uncons
    cases n with
    | zero => exact .nil
    | succ n => exact .cons r1 (ih r2 n)
theorem RdAll.drop (r : RdAll X h vs ds) (n : Nat) : RdAll X h (vs.drop n) (ds.drop n) := by
  induction ds generalizing vs n with
  | nil => rw [r.unnil]; simpa using RdAll.nil
  | cons d ds ih =>
    obtain ⟨u, us, rfl, r1, r2⟩ := r.uncons
    cases n with
    | zero => exact .cons r1 r2
    | succ n => exact ih r2 n
theorem Rd.int {i : Int} {t : Tok} : Rd X h (.int i t) (.py (.int i)) := ⟨[], .int i t, fun _ hm => nomatch hm⟩
theorem Rd.str {x : Str} {t : Tok} : Rd X h (.str x t) (.py (.str x)) := ⟨[], .str x t, fun _ hm => nomatch hm⟩
theorem Rd.bool {b : Bool} : Rd X h (.bool b) (.py (.bool b)) := ⟨[], .bool b, fun _ hm => nomatch hm⟩
theorem Rd.none : Rd X h .none (.py .none) := ⟨[], .none, fun _ hm => nomatch hm⟩
theorem Rd.int_inv {i : Int} (r : Rd X h v (.py (.int i))) : ∃ t, v = .int i t := by
  obtain ⟨as, r, _⟩ := r; cases r; exact ⟨_, rfl⟩
theorem Rd.str_inv {x : Str} (r : Rd X h v (.py (.str x))) : ∃ t, v = .str x t := by
  obtain ⟨as, r, _⟩ := r; cases r; exact ⟨_, rfl⟩
theorem Rd.bool_inv {b : Bool} (r : Rd X h v (.py (.bool b))) : v = .bool b := by
  obtain ⟨as, r, _⟩ := r; cases r; rfl
theorem Rd.list_inv (r : Rd X h v (.py (.list ds))) : ∃ a vs, v = .ref a ∧ ¬ X a ∧ h.IsList a vs.toArray ∧ RdAll X h vs ds := by
  obtain ⟨as, r, ha⟩ := r
  cases r with
  | list h1 h2 h3 h4 => exact ⟨_, _, rfl, ha _ (.head _), ⟨_, h1, h2, _, by simpa using h3⟩, ⟨_, h4, fun a hm => ha a (.tail _ hm)⟩⟩
theorem Rd.tuple_inv (r : Rd X h v (.py (.tuple ds))) : ∃ a vs, v = .ref a ∧ h.IsTuple a vs.toArray ∧ RdAll X h vs ds := by
  obtain ⟨as, r, ha⟩ := r
  cases r with
  | tuple h1 h2 h3 h4 => exact ⟨_, _, rfl, ⟨_, h1, h2, _, by simpa using h3⟩, ⟨_, h4, ha⟩⟩
theorem Rd.list {a : Addr} {its : Array Value} (hl : h.IsList a its) (hx : ¬ X a) (r : RdAll X h its.toList ds) : Rd X h (.ref a) (.py (.list ds)) := by
  obtain ⟨o, ho, hc, n, hd⟩ := hl
  obtain ⟨as, r, ha⟩ := r
  exact ⟨_, .list ho hc hd r, fun b hm => by
    rcases List.mem_cons.mp hm with rfl | hm
    · exact hx
    · exact ha b hm⟩
theorem Rd.tuple {a : Addr} {its : Array Value} (hl : h.IsTuple a its) (r : RdAll X h its.toList ds) : Rd X h (.ref a) (.py (.tuple ds)) := by
  obtain ⟨o, ho, hc, n, hd⟩ := hl
  obtain ⟨as, r, ha⟩ := r
  exact ⟨_, .tuple ho hc hd r, ha⟩
end

/-- an environment but for its scope -/
structure ER where
  L : Addr
  cells : List (Str × Addr)
  qual : Str
  func : Option Addr
  code : Value
  frame : Option Addr
abbrev En (sc : Scope) (r : ER) : Env :=
  { scope := sc, locals := r.L, globals := mainGlobals, cells := r.cells, qual := r.qual, func := r.func, code := r.code, frame := r.frame, builtins := builtinsNs }

/-- the frame's names: its locals m, its cells cm -/
structure Fs (r : ER) (h : Heap) (m cm : Str → Option Value) : Prop where
  ns : h.Ns r.L m
  cell : ∀ n c, r.cells.lookup n = some c → h.IsCell c (cm n)
  apart : ∀ x y c, r.cells.lookup x = some c → r.cells.lookup y = some c → x = y

def vl (sc : Scope) (r : ER) (m cm : Str → Option Value) (x : Str) : Option Value := match sc.names.lookup x with
  | some .local => m x
  | some .cell | some .free => if (r.cells.lookup x).isSome then cm x else none
  | _ => none

abbrev Rho := List (Str × Dd)
inductive All2 (X : Addr → Prop) (h : Heap) : List Value → List Dd → Prop
  | nil : All2 X h [] []
  | cons {v : Value} {d : Dd} {vs : List Value} {ds : List Dd} : Rd X h v d → All2 X h vs ds → All2 X h (v :: vs) (d :: ds)
theorem All2.ext {X : Addr → Prop} {h h' : Heap} (hk : Ext h h') : ∀ {vs : List Value} {ds : List Dd}, All2 X h vs ds → All2 X h' vs ds
  | _, _, .nil => .nil
  | _, _, .cons a b => .cons (a.ext hk) (b.ext hk)
theorem All2.py {X : Addr → Prop} {h : Heap} : ∀ {ds : List PyData} {vs : List Value}, All2 X h vs (ds.map .py) → RdAll X h vs ds
  | [], _, .nil => .nil
  | _ :: _, _, .cons h1 h2 => .cons h1 (All2.py h2)
theorem RdAll.all2 {X : Addr → Prop} {h : Heap} : ∀ {ds : List PyData} {vs : List Value}, RdAll X h vs ds → All2 X h vs (ds.map .py)
  | [], _, r => by rw [r.unnil]; exact .nil
  | _ :: _, _, r => by obtain ⟨v, us, rfl, r1, r2⟩ := r.uncons; exact .cons r1 r2.all2
/-- what is to be avoided is there -/
def Xok (X : Addr → Prop) (h : Heap) : Prop := ∀ a, X a → ∃ o, h.get? a = some o
theorem Xok.ext {X : Addr → Prop} {h h' : Heap} (x : Xok X h) (hk : Ext h h') : Xok X h' := fun a ha => let ⟨o, e⟩ := x a ha; ⟨o, hk a o e⟩
theorem Xok.new {X : Addr → Prop} {h : Heap} (x : Xok X h) : ¬ X h.objs.size := fun ha => let ⟨_, e⟩ := x _ ha; Nat.lt_irrefl _ (Heap.lt_size e)
theorem Xok.none {X : Addr → Prop} {h : Heap} (x : Xok X h) {a : Addr} (ha : h.get? a = .none) : ¬ X a := fun hx => by obtain ⟨o, e⟩ := x _ hx; rw [ha] at e; cases e
def Sees (sc : Scope) (r : ER) (X : Addr → Prop) (h : Heap) (ρ : Rho) : Prop :=
  Xok X h ∧ (∀ x, sc.names.lookup x = some .cell → (r.cells.lookup x).isSome = true) ∧ ∃ m cm, Fs r h m cm ∧ ∀ x d, ρ.lookup x = some d → ∃ v, vl sc r m cm x = some v ∧ Rd X h v d

theorem Fs.ext {r : ER} {h h' : Heap} {m cm : Str → Option Value} (F : Fs r h m cm) (hk : Ext h h') : Fs r h' m cm :=
  ⟨F.ns.keeps hk, fun n c hc => (F.cell n c hc).keeps hk, F.apart⟩
theorem Sees.ext {sc : Scope} {r : ER} {X : Addr → Prop} {h h' : Heap} {ρ : Rho} (S : Sees sc r X h ρ) (hk : Ext h h') : Sees sc r X h' ρ :=
  let ⟨hX, hC, m, cm, F, H⟩ := S; ⟨hX.ext hk, hC, m, cm, F.ext hk, fun x d e => let ⟨v, h1, h2⟩ := H x d e; ⟨v, h1, h2.ext hk⟩⟩
theorem Keeps.ext {s s' : Shared} (k : Keeps s s') : Ext s.heap s'.heap := by obtain ⟨h', tk, rfl, hk⟩ := k; exact hk
theorem Keeps.refl (s : Shared) : Keeps s s := ⟨s.heap, s.toks, rfl, fun _ _ e => e⟩
theorem Keeps.trans {s s' s'' : Shared} (k : Keeps s s') (q : Keeps s' s'') : Keeps s s'' := by
  obtain ⟨h', tk, rfl, hk⟩ := k
  obtain ⟨h'', tk', rfl, hk'⟩ := q
  exact ⟨h'', tk', rfl, fun b o e => hk' b o (hk b o e)⟩
theorem Keeps.tok {s : Shared} (t : Nat) : Keeps s { s with toks := t } := ⟨s.heap, t, rfl, fun _ _ e => e⟩
theorem Keeps.mk' {s : Shared} {h' : Heap} {tk : Nat} (hk : Ext s.heap h') : Keeps s { s with heap := h', toks := tk } := ⟨h', tk, rfl, hk⟩
theorem Keeps.hp {s : Shared} {h' : Heap} (hk : Ext s.heap h') : Keeps s { s with heap := h' } := ⟨h', s.toks, rfl, hk⟩
theorem Keeps.push {s : Shared} {o : Obj} : Keeps s { s with heap := s.heap.push o } := ⟨_, _, rfl, fun _ _ e => Heap.get?_push_of_some _ e⟩

end Mine
end

section -- Ev
open PySem PySem.W PyProof.Rows PySem.Spec PySem.Calls
set_option Elab.async false
set_option maxRecDepth 100000
set_option linter.unusedVariables false
namespace Mine

/-- the setting: the program, the world, the heap behind the top with its names -/
structure Cx where
  prog : Program
  w : World
  h : Heap
  mg : Str → Option Value
  mb : Str → Option Value
structure Cx.Ok (c : Cx) : Prop where
  g : c.h.Ns mainGlobals c.mg
  b : c.h.Ns builtinsNs c.mb
  nolimit : c.h.NoLimit

structure Room (n : Nat) (A : Around) : Prop where
  hh : A.handled = none
  depth : A.depth + n < recursionLimit
  units : A.units + 100 + 10 * n < cLine

abbrev no : Value → Shared → Prop := fun _ _ => False
/-- the expression gives the datum -/
def Ev (c : Cx) (A : Around) (sc : Scope) (ρ : Rho) (e : PySem.Expr) (d : Dd) : Prop :=
  ∀ (r : ER) (X : Addr → Prop) (s : Shared), Ext c.h s.heap → Sees sc r X s.heap ρ →
    wpAny (model c.prog c.w) A (eval e (En sc r)) (fun v s' => Keeps s s' ∧ Rd X s'.heap v d) no s
/-- the test comes out as b -/
def Tr (c : Cx) (A : Around) (sc : Scope) (ρ : Rho) (e : PySem.Expr) (b : Bool) : Prop :=
  ∀ (r : ER) (X : Addr → Prop) (s : Shared), Ext c.h s.heap → Sees sc r X s.heap ρ →
    wpAny (model c.prog c.w) A (isTrue e (En sc r) (eval e (En sc r))) (fun v s' => Keeps s s' ∧ v = b) no s
/-- the expressions, one after the other -/
def EvA (c : Cx) (A : Around) (sc : Scope) (ρ : Rho) (es : List PySem.Expr) (ds : List Dd) : Prop :=
  ∀ (r : ER) (X : Addr → Prop) (s : Shared) (pos : Pos), Ext c.h s.heap → Sees sc r X s.heap ρ →
    wpAny (model c.prog c.w) A (spliced (backTo pos (starEach es (En sc r)))) (fun vs s' => Keeps s s' ∧ All2 X s'.heap vs ds) no s

/-- a step on values: from operands that read so to a result that reads so -/
def Gv (c : Cx) (A : Around) (ds : List Dd) (t : List Value → Sem Value) (d : Dd) : Prop :=
  ∀ (X : Addr → Prop) (s : Shared) (vs : List Value), Ext c.h s.heap → Xok X s.heap → All2 X s.heap vs ds →
    wpAny (model c.prog c.w) A (t vs) (fun v s' => Keeps s s' ∧ Rd X s'.heap v d) no s

section
variable {c : Cx} {A : Around} {sc : Scope} {ρ : Rho} {pos : Pos}

theorem wp_weak {α : Type} {M : Model} {A : Around} {t : Sem α} {Q Q' : α → Shared → Prop} {E : Value → Shared → Prop} {s : Shared}
    (h : wpAny M A t Q no s) (hQ : ∀ a s', Q a s' → Q' a s') : wpAny M A t Q' E s := wpAny_mono h hQ fun _ _ f => f.elim

theorem Ev.var {x : Str} {d : Dd} (hx : ρ.lookup x = some d) (hk : sc.kind = .function := by rfl) (hd : (x == ("__debug__" : Str)) = false := by decide)
    (hc : (x == ("__classdict__" : Str)) = false := by decide) : Ev c A sc ρ (.Name x pos) d := by
  intro r X s hT S
  obtain ⟨_, _, m, cm, F, H⟩ := S
  obtain ⟨v, hv, hr⟩ := H x d hx
  refine wpAny_Name ?_ hd
  unfold vl at hv
  cases hl : sc.names.lookup x with
  | none => rw [hl] at hv; cases hv
  | some k =>
    rw [hl] at hv
    cases k with
    | «local» => exact wpAny_loadName_local (env := En sc r) hk hl F.ns hv ⟨Keeps.refl s, hr⟩
    | cell =>
      dsimp only at hv
      split at hv
      · rename_i hs
        obtain ⟨a, ha⟩ := Option.isSome_iff_exists.mp hs
        exact wpAny_loadName_cell (env := En sc r) hk hl ha (hv ▸ F.cell x a ha) ⟨Keeps.refl s, hr⟩
      · cases hv
    | free =>
      dsimp only at hv
      split at hv
      · rename_i hs
        obtain ⟨a, ha⟩ := Option.isSome_iff_exists.mp hs
        exact wpAny_loadName_free (env := En sc r) hk hl ha (hv ▸ F.cell x a ha) ⟨Keeps.refl s, hr⟩ hc
      · cases hv
    | _ => cases hv
theorem Ev.glob {x : Str} {v : Value} (O : c.Ok) (hv : c.mg x = some v) (hx : sc.names.lookup x = some .globalImplicit := by rfl) (hk : sc.kind = .function := by rfl)
    (hd : (x == ("__debug__" : Str)) = false := by decide) : Ev c A sc ρ (.Name x pos) (.raw v) := fun r X s hT _ =>
  Name_function_global (env := En sc r) hk hx (loadGlobal_global (env := En sc r) (O.g.keeps hT) hv ⟨Keeps.refl s, rfl⟩) hd
theorem Ev.globInt {x : Str} {i : Int} {t : Tok} (O : c.Ok) (hv : c.mg x = some (.int i t)) (hx : sc.names.lookup x = some .globalImplicit := by rfl) (hk : sc.kind = .function := by rfl)
    (hd : (x == ("__debug__" : Str)) = false := by decide) : Ev c A sc ρ (.Name x pos) (.py (.int i)) := fun r X s hT _ =>
  Name_function_global (env := En sc r) hk hx (loadGlobal_global (env := En sc r) (O.g.keeps hT) hv ⟨Keeps.refl s, Rd.int⟩) hd
theorem Ev.built {x : Str} {v : Value} (O : c.Ok) (hm : c.mg x = none) (hb : c.mb x = some v) (hx : sc.names.lookup x = some .globalImplicit := by rfl) (hk : sc.kind = .function := by rfl)
    (hd : (x == ("__debug__" : Str)) = false := by decide) : Ev c A sc ρ (.Name x pos) (.raw v) := fun r X s hT _ =>
  Name_function_global (env := En sc r) hk hx (loadGlobal_builtin (env := En sc r) (O.g.keeps hT) hm (O.b.keeps hT) hb ⟨Keeps.refl s, rfl⟩) hd
theorem Ev.intc {i : Int} {k : Nat} : Ev c A sc ρ (.Constant (.int i) k pos) (.py (.int i)) := fun _ _ _ _ _ => wpAny_Constant_int ⟨Keeps.tok _, Rd.int⟩
theorem Ev.strc {x : Str} {k : Nat} : Ev c A sc ρ (.Constant (.str x) k pos) (.py (.str x)) := fun _ _ _ _ _ => Constant_str ⟨Keeps.tok _, Rd.str⟩
theorem Ev.nonec {k : Nat} : Ev c A sc ρ (.Constant .none k pos) (.py .none) := fun _ _ s _ _ => wpAny_pure ⟨Keeps.refl s, Rd.none⟩
theorem Ev.boolc {b : Bool} {k : Nat} : Ev c A sc ρ (.Constant (.bool b) k pos) (.py (.bool b)) := fun _ _ s _ _ => wpAny_pure ⟨Keeps.refl s, Rd.bool⟩

theorem Ev.bin {l r : PySem.Expr} {op : Operator} {d₁ d₂ d : Dd} (h₁ : Ev c A sc ρ l d₁) (h₂ : Ev c A sc ρ r d₂)
    (h : Gv c A [d₁, d₂] (fun vs => binaryOp op (vs.getD 0 .none) (vs.getD 1 .none)) d) : Ev c A sc ρ (.BinOp l op r pos) d := by
  intro r X s hT S
  refine wpAny_BinOp (wp_weak (h₁ r X s hT S) fun a s₁ ⟨k₁, r₁⟩ => ?_)
  have e₁ := Keeps.ext k₁
  refine wp_weak (h₂ r X s₁ (fun b o e => e₁ b o (hT b o e)) (S.ext e₁)) fun b s₂ ⟨k₂, r₂⟩ => ?_
  have e₂ := Keeps.ext k₂
  refine wp_weak (h X s₂ [a, b] (fun b o e => e₂ b o (e₁ b o (hT b o e))) ((S.ext e₁).ext e₂).1 (.cons (r₁.ext e₂) (.cons r₂ .nil))) fun v s₃ ⟨k₃, r₃⟩ => ⟨Keeps.trans k₁ (Keeps.trans k₂ k₃), r₃⟩
theorem Ev.cmp {l r : PySem.Expr} {op : CmpOp} {d₁ d₂ d : Dd} (h₁ : Ev c A sc ρ l d₁) (h₂ : Ev c A sc ρ r d₂)
    (h : Gv c A [d₁, d₂] (fun vs => compareOp op (vs.getD 0 .none) (vs.getD 1 .none)) d) (hm : behindInMarks op r = false := by with_unfolding_all rfl) : Ev c A sc ρ (.Compare l [op] [r] pos) d := by
  intro r X s hT S
  refine wpAny_Compare1 (wp_weak (h₁ r X s hT S) fun a s₁ ⟨k₁, r₁⟩ => ?_) hm
  have e₁ := Keeps.ext k₁
  refine wp_weak (h₂ r X s₁ (fun b o e => e₁ b o (hT b o e)) (S.ext e₁)) fun b s₂ ⟨k₂, r₂⟩ => ?_
  have e₂ := Keeps.ext k₂
  refine wp_weak (h X s₂ [a, b] (fun b o e => e₂ b o (e₁ b o (hT b o e))) ((S.ext e₁).ext e₂).1 (.cons (r₁.ext e₂) (.cons r₂ .nil))) fun v s₃ ⟨k₃, r₃⟩ => ⟨Keeps.trans k₁ (Keeps.trans k₂ k₃), r₃⟩
theorem Tr.cmp {l r : PySem.Expr} {op : CmpOp} {d₁ d₂ : Dd} {b : Bool} (h₁ : Ev c A sc ρ l d₁) (h₂ : Ev c A sc ρ r d₂)
    (h : Gv c A [d₁, d₂] (fun vs => compareOp op (vs.getD 0 .none) (vs.getD 1 .none)) (.py (.bool b))) (hm : behindInMarks op r = false := by with_unfolding_all rfl) : Tr c A sc ρ (.Compare l [op] [r] pos) b := by
  intro r X s hT S
  refine wpAny_isTrue_Compare1 (wp_weak (h₁ r X s hT S) fun a s₁ ⟨k₁, r₁⟩ => ?_) hm
  have e₁ := Keeps.ext k₁
  refine wp_weak (h₂ r X s₁ (fun b o e => e₁ b o (hT b o e)) (S.ext e₁)) fun b s₂ ⟨k₂, r₂⟩ => ?_
  have e₂ := Keeps.ext k₂
  refine wp_weak (h X s₂ [a, b] (fun b o e => e₂ b o (e₁ b o (hT b o e))) ((S.ext e₁).ext e₂).1 (.cons (r₁.ext e₂) (.cons r₂ .nil))) fun v s₃ ⟨k₃, r₃⟩ => ?_
  cases r₃.bool_inv
  exact wpAny_truthy_bool ⟨Keeps.trans k₁ (Keeps.trans k₂ k₃), rfl⟩
theorem Tr.not {x : PySem.Expr} {b : Bool} (h : Tr c A sc ρ x b) : Tr c A sc ρ (.UnaryOp .Not x pos) (!b) := fun r X s hT S =>
  isTrue_not (wp_weak (h r X s hT S) fun _ _ ⟨k, e⟩ => ⟨k, by rw [e]⟩)
theorem Tr.and {x y : PySem.Expr} {a b : Bool} (h₁ : Tr c A sc ρ x a) (h₂ : a = true → Tr c A sc ρ y b) : Tr c A sc ρ (.BoolOp .And [x, y] pos) (a && b) := fun r X s hT S =>
  isTrue_and (wp_weak (h₁ r X s hT S) fun v s₁ ⟨k₁, e₁⟩ => by
    subst e₁
    cases v with
    | false => exact ⟨k₁, rfl⟩
    | true =>
      have x₁ := Keeps.ext k₁
      exact isTrue_and (wp_weak (h₂ rfl r X s₁ (fun b o e => x₁ b o (hT b o e)) (S.ext x₁)) fun v s₂ ⟨k₂, e₂⟩ => by
        subst e₂
        cases v with
        | false => exact ⟨Keeps.trans k₁ k₂, rfl⟩
        | true => exact isTrue_and_nil ⟨Keeps.trans k₁ k₂, rfl⟩))
theorem Tr.or {x y : PySem.Expr} {a b : Bool} (h₁ : Tr c A sc ρ x a) (h₂ : a = false → Tr c A sc ρ y b) : Tr c A sc ρ (.BoolOp .Or [x, y] pos) (a || b) := fun r X s hT S =>
  isTrue_or (wp_weak (h₁ r X s hT S) fun v s₁ ⟨k₁, e₁⟩ => by
    subst e₁
    cases v with
    | true => exact ⟨k₁, rfl⟩
    | false =>
      have x₁ := Keeps.ext k₁
      exact isTrue_or (wp_weak (h₂ rfl r X s₁ (fun b o e => x₁ b o (hT b o e)) (S.ext x₁)) fun v s₂ ⟨k₂, e₂⟩ => by
        subst e₂
        cases v with
        | true => exact ⟨Keeps.trans k₁ k₂, rfl⟩
        | false => exact isTrue_or_nil ⟨Keeps.trans k₁ k₂, rfl⟩))
/-- a test that is a plain int -/
theorem Tr.int {e : PySem.Expr} {i : Int} (h : Ev c A sc ρ e (.py (.int i)))
    (he : ∀ env whole, isTrue e env whole = (do let v ← whole; standAt e.pos; holding [v] (truthy v)) := by intro _ _; rfl) : Tr c A sc ρ e (i != 0) := fun r X s hT S =>
  isTrue_plain (wp_weak (h r X s hT S) fun v s₁ ⟨k₁, r₁⟩ => by
    obtain ⟨t, rfl⟩ := r₁.int_inv
    exact truthy_int ⟨k₁, rfl⟩) (he _ _)
theorem Tr.bool {e : PySem.Expr} {b : Bool} (h : Ev c A sc ρ e (.py (.bool b)))
    (he : ∀ env whole, isTrue e env whole = (do let v ← whole; standAt e.pos; holding [v] (truthy v)) := by intro _ _; rfl) : Tr c A sc ρ e b := fun r X s hT S =>
  isTrue_plain (wp_weak (h r X s hT S) fun v s₁ ⟨k₁, r₁⟩ => by
    cases r₁.bool_inv
    exact wpAny_truthy_bool ⟨k₁, rfl⟩) (he _ _)
theorem Ev.ife {test body orelse : PySem.Expr} {b : Bool} {d : Dd} (h₀ : Tr c A sc ρ test b) (h₁ : b = true → Ev c A sc ρ body d) (h₂ : b = false → Ev c A sc ρ orelse d) :
    Ev c A sc ρ (.IfExp test body orelse pos) d := fun r X s hT S =>
  IfExp_ (wp_weak (h₀ r X s hT S) fun v s₁ ⟨k₁, e₁⟩ => by
    subst e₁
    have x₁ := Keeps.ext k₁
    cases v with
    | true => exact wp_weak (h₁ rfl r X s₁ (fun b o e => x₁ b o (hT b o e)) (S.ext x₁)) fun v s₂ ⟨k₂, r₂⟩ => ⟨Keeps.trans k₁ k₂, r₂⟩
    | false => exact wp_weak (h₂ rfl r X s₁ (fun b o e => x₁ b o (hT b o e)) (S.ext x₁)) fun v s₂ ⟨k₂, r₂⟩ => ⟨Keeps.trans k₁ k₂, r₂⟩)

theorem EvA.nil : EvA c A sc ρ [] [] := fun r X s pos _ _ => args_nil ⟨Keeps.refl s, .nil⟩
theorem EvA.cons {e : PySem.Expr} {es : List PySem.Expr} {d : Dd} {ds : List Dd} (h : Ev c A sc ρ e d) (hs : EvA c A sc ρ es ds)
    (he : ∀ env, starEach (e :: es) env = (false, eval e env) :: starEach es env := by intro _; rfl) : EvA c A sc ρ (e :: es) (d :: ds) := fun r X s pos hT S =>
  args_cons (wp_weak (h r X s hT S) fun v s₁ ⟨k₁, r₁⟩ => by
    have x₁ := Keeps.ext k₁
    exact wp_weak (hs r X s₁ pos (fun b o e => x₁ b o (hT b o e)) (S.ext x₁)) fun vs s₂ ⟨k₂, r₂⟩ => ⟨Keeps.trans k₁ k₂, .cons (r₁.ext (Keeps.ext k₂)) r₂⟩) (he _)

theorem new_rd {X : Addr → Prop} {s : Shared} {vs : List Value} {ds : List PyData} (hx : Xok X s.heap) (r : RdAll X s.heap vs ds) :
    Rd X (s.heap.push { cls := .type "list", data := .seq vs.toArray }) (.ref s.heap.objs.size) (.py (.list ds)) :=
  Rd.list (its := vs.toArray) ⟨_, Heap.get?_push_size _ rfl, rfl, _, rfl⟩ hx.new (by simpa using r.ext fun b o e => Heap.get?_push_of_some _ e)
end
end Mine
end

section -- Ops
open PySem PySem.W PyProof.Rows PySem.Spec PySem.Calls
set_option Elab.async false
set_option maxRecDepth 100000
set_option linter.unusedVariables false
namespace Mine
section
variable {c : Cx} {A : Around} {sc : Scope} {ρ : Rho} {pos : Pos}

theorem Gv.two {d₁ d₂ d : Dd} {t : Value → Value → Sem Value} (h : ∀ (X : Addr → Prop) (s : Shared) (v₁ v₂ : Value), Ext c.h s.heap → Xok X s.heap → Rd X s.heap v₁ d₁ → Rd X s.heap v₂ d₂ →
    wpAny (model c.prog c.w) A (t v₁ v₂) (fun v s' => Keeps s s' ∧ Rd X s'.heap v d) no s) : Gv c A [d₁, d₂] (fun vs => t (vs.getD 0 .none) (vs.getD 1 .none)) d := by
  intro X s vs hT hX h2
  cases h2 with
  | cons r₁ q => cases q with
    | cons r₂ q => cases q with
      | nil => exact h X s _ _ hT hX r₁ r₂
theorem Gv.one {d₁ d : Dd} {t : Value → Sem Value} (h : ∀ (X : Addr → Prop) (s : Shared) (v₁ : Value), Ext c.h s.heap → Xok X s.heap → Rd X s.heap v₁ d₁ →
    wpAny (model c.prog c.w) A (t v₁) (fun v s' => Keeps s s' ∧ Rd X s'.heap v d) no s) : Gv c A [d₁] (fun vs => t (vs.getD 0 .none)) d := by
  intro X s vs hT hX h2
  cases h2 with
  | cons r₁ q => cases q with
    | nil => exact h X s _ hT hX r₁

abbrev dI (i : Int) : Dd := .py (.int i)
abbrev dB (b : Bool) : Dd := .py (.bool b)
abbrev dS (x : Str) : Dd := .py (.str x)
abbrev dL (l : List PyData) : Dd := .py (.list l)

theorem op_add {a b : Int} : Gv c A [dI a, dI b] (fun vs => binaryOp .Add (vs.getD 0 .none) (vs.getD 1 .none)) (dI (a + b)) := .two fun X s v₁ v₂ hT hX r₁ r₂ => by
  obtain ⟨t, rfl⟩ := r₁.int_inv; obtain ⟨u, rfl⟩ := r₂.int_inv
  exact wpAny_add_int ⟨Keeps.tok _, Rd.int⟩
theorem op_sub {a b : Int} : Gv c A [dI a, dI b] (fun vs => binaryOp .Sub (vs.getD 0 .none) (vs.getD 1 .none)) (dI (a - b)) := .two fun X s v₁ v₂ hT hX r₁ r₂ => by
  obtain ⟨t, rfl⟩ := r₁.int_inv; obtain ⟨u, rfl⟩ := r₂.int_inv
  exact sub_int' ⟨Keeps.tok _, Rd.int⟩
theorem op_mod {a b : Int} (hb : b ≠ 0) : Gv c A [dI a, dI b] (fun vs => binaryOp .Mod (vs.getD 0 .none) (vs.getD 1 .none)) (dI (a.fmod b)) := .two fun X s v₁ v₂ hT hX r₁ r₂ => by
  obtain ⟨t, rfl⟩ := r₁.int_inv; obtain ⟨u, rfl⟩ := r₂.int_inv
  exact mod_int' hb ⟨Keeps.tok _, Rd.int⟩
theorem op_fdiv {a b : Int} (hb : b ≠ 0) (hp : Builtin.divisionGoesByPylong a b = false) : Gv c A [dI a, dI b] (fun vs => binaryOp .FloorDiv (vs.getD 0 .none) (vs.getD 1 .none)) (dI (a.fdiv b)) := .two fun X s v₁ v₂ hT hX r₁ r₂ => by
  obtain ⟨t, rfl⟩ := r₁.int_inv; obtain ⟨u, rfl⟩ := r₂.int_inv
  exact floordiv_int hb ⟨Keeps.tok _, Rd.int⟩ (.inl hp)
theorem op_shr {a b : Int} (hb : 0 ≤ b) : Gv c A [dI a, dI b] (fun vs => binaryOp .RShift (vs.getD 0 .none) (vs.getD 1 .none)) (dI (a.fdiv (2 ^ b.toNat))) := .two fun X s v₁ v₂ hT hX r₁ r₂ => by
  obtain ⟨t, rfl⟩ := r₁.int_inv; obtain ⟨u, rfl⟩ := r₂.int_inv
  exact rshift_int hb ⟨Keeps.tok _, Rd.int⟩
theorem op_and {a b : Int} : Gv c A [dI a, dI b] (fun vs => binaryOp .BitAnd (vs.getD 0 .none) (vs.getD 1 .none)) (dI (Builtin.bitAnd a b)) := .two fun X s v₁ v₂ hT hX r₁ r₂ => by
  obtain ⟨t, rfl⟩ := r₁.int_inv; obtain ⟨u, rfl⟩ := r₂.int_inv
  exact and_int ⟨Keeps.tok _, Rd.int⟩
theorem op_iadd {a b : Int} : Gv c A [dI a, dI b] (fun vs => inplaceOp .Add (vs.getD 0 .none) (vs.getD 1 .none)) (dI (a + b)) := .two fun X s v₁ v₂ hT hX r₁ r₂ => by
  obtain ⟨t, rfl⟩ := r₁.int_inv; obtain ⟨u, rfl⟩ := r₂.int_inv
  exact wpAny_iadd_int ⟨Keeps.tok _, Rd.int⟩
theorem op_iand {a b : Int} : Gv c A [dI a, dI b] (fun vs => inplaceOp .BitAnd (vs.getD 0 .none) (vs.getD 1 .none)) (dI (Builtin.bitAnd a b)) := .two fun X s v₁ v₂ hT hX r₁ r₂ => by
  obtain ⟨t, rfl⟩ := r₁.int_inv; obtain ⟨u, rfl⟩ := r₂.int_inv
  exact iand_int ⟨Keeps.tok _, Rd.int⟩
theorem op_ior {a b : Int} : Gv c A [dI a, dI b] (fun vs => inplaceOp .BitOr (vs.getD 0 .none) (vs.getD 1 .none)) (dI (Builtin.bitOr a b)) := .two fun X s v₁ v₂ hT hX r₁ r₂ => by
  obtain ⟨t, rfl⟩ := r₁.int_inv; obtain ⟨u, rfl⟩ := r₂.int_inv
  exact ior_int ⟨Keeps.tok _, Rd.int⟩
theorem op_sadd {x y : Str} (hn : x.length + y.length ≤ sizeLine) : Gv c A [dS x, dS y] (fun vs => binaryOp .Add (vs.getD 0 .none) (vs.getD 1 .none)) (dS (x ++ y)) := .two fun X s v₁ v₂ hT hX r₁ r₂ => by
  obtain ⟨t, rfl⟩ := r₁.str_inv; obtain ⟨u, rfl⟩ := r₂.str_inv
  exact PyProof.Rows.add_str (fun t' tk => ⟨Keeps.tok _, Rd.str⟩) hn
theorem op_ladd {xs ys : List PyData} (hn : xs.length + ys.length ≤ sizeLine) : Gv c A [dL xs, dL ys] (fun vs => binaryOp .Add (vs.getD 0 .none) (vs.getD 1 .none)) (dL (xs ++ ys)) := .two fun X s v₁ v₂ hT hX r₁ r₂ => by
  obtain ⟨a, vs, rfl, _, hl, ra⟩ := r₁.list_inv; obtain ⟨b, ws, rfl, _, hb, rb⟩ := r₂.list_inv
  have hsz : vs.length + ws.length ≤ sizeLine := by rw [ra.length, rb.length]; exact hn
  obtain ⟨⟨cls, dd, data, sl⟩, ho, hc, n, hd⟩ := id hl
  obtain ⟨⟨cls2, dd2, data2, sl2⟩, ho2, hc2, n2, hd2⟩ := id hb
  simp only at hc hd hc2 hd2
  subst hc hd hc2 hd2
  refine concat_meets ⟨_, ho, rfl⟩ ⟨_, ho2, rfl⟩ noFill_list_add seq_list_add PySem.F.slot_list_add PySem.F.entry_list_add (PySem.F.args_list_add_2 _ _) (list_addW a b vs.toArray ws.toArray n n2 dd dd2 sl sl2 (by simpa using hsz)) ⟨ho, ho2, ?_⟩
  rw [show vs.toArray ++ ws.toArray = (vs ++ ws).toArray from by simp]
  exact ⟨Keeps.push, new_rd hX (ra.append rb)⟩

theorem cm_lt {a b : Int} : Gv c A [dI a, dI b] (fun vs => compareOp .Lt (vs.getD 0 .none) (vs.getD 1 .none)) (dB (decide (a < b))) := .two fun X s v₁ v₂ hT hX r₁ r₂ => by
  obtain ⟨t, rfl⟩ := r₁.int_inv; obtain ⟨u, rfl⟩ := r₂.int_inv
  exact PyProof.Rows.lt_int ⟨Keeps.refl _, Rd.bool⟩
theorem cm_le {a b : Int} : Gv c A [dI a, dI b] (fun vs => compareOp .LtE (vs.getD 0 .none) (vs.getD 1 .none)) (dB (decide (a ≤ b))) := .two fun X s v₁ v₂ hT hX r₁ r₂ => by
  obtain ⟨t, rfl⟩ := r₁.int_inv; obtain ⟨u, rfl⟩ := r₂.int_inv
  exact PyProof.Rows.le_int ⟨Keeps.refl _, Rd.bool⟩
theorem cm_gt {a b : Int} : Gv c A [dI a, dI b] (fun vs => compareOp .Gt (vs.getD 0 .none) (vs.getD 1 .none)) (dB (decide (b < a))) := .two fun X s v₁ v₂ hT hX r₁ r₂ => by
  obtain ⟨t, rfl⟩ := r₁.int_inv; obtain ⟨u, rfl⟩ := r₂.int_inv
  exact PyProof.Rows.gt_int ⟨Keeps.refl _, Rd.bool⟩
theorem cm_ge {a b : Int} : Gv c A [dI a, dI b] (fun vs => compareOp .GtE (vs.getD 0 .none) (vs.getD 1 .none)) (dB (decide (b ≤ a))) := .two fun X s v₁ v₂ hT hX r₁ r₂ => by
  obtain ⟨t, rfl⟩ := r₁.int_inv; obtain ⟨u, rfl⟩ := r₂.int_inv
  exact PyProof.Rows.ge_int ⟨Keeps.refl _, Rd.bool⟩
theorem cm_eq {n : Nat} {a b : PyData} (hA : Room n A) (ha : SeqAt.shaped a = true) (hb : SeqAt.shaped b = true) : Gv c A [.py a, .py b] (fun vs => compareOp .Eq (vs.getD 0 .none) (vs.getD 1 .none)) (dB (PyData.eqv a b)) := .two fun X s v₁ v₂ hT hX r₁ r₂ => by
  obtain ⟨as, q₁, _⟩ := r₁; obtain ⟨bs, q₂, _⟩ := r₂
  exact eq_dataH q₁ q₂ ha hb (by have := hA.units; omega) ⟨Keeps.refl _, Rd.bool⟩
theorem cm_ne {n : Nat} {a b : PyData} (hA : Room n A) (ha : SeqAt.shaped a = true) (hb : SeqAt.shaped b = true) : Gv c A [.py a, .py b] (fun vs => compareOp .NotEq (vs.getD 0 .none) (vs.getD 1 .none)) (dB (!PyData.eqv a b)) := .two fun X s v₁ v₂ hT hX r₁ r₂ => by
  obtain ⟨as, q₁, _⟩ := r₁; obtain ⟨bs, q₂, _⟩ := r₂
  exact ne_dataH q₁ q₂ ha hb (by have := hA.units; omega) ⟨Keeps.refl _, Rd.bool⟩
theorem eqv_int (a b : Int) : PyData.eqv (.int a) (.int b) = decide (a = b) := by
  unfold PyData.eqv
  by_cases h : a = b <;> simp [h]
theorem shaped_int (a : Int) : SeqAt.shaped (.int a) = true := by rfl
theorem cm_eqi {n : Nat} {a b : Int} (hA : Room n A) : Gv c A [dI a, dI b] (fun vs => compareOp .Eq (vs.getD 0 .none) (vs.getD 1 .none)) (dB (decide (a = b))) := by
  rw [← eqv_int]; exact cm_eq hA rfl rfl
theorem cm_nei {n : Nat} {a b : Int} (hA : Room n A) : Gv c A [dI a, dI b] (fun vs => compareOp .NotEq (vs.getD 0 .none) (vs.getD 1 .none)) (dB (!decide (a = b))) := by
  rw [← eqv_int]; exact cm_ne hA rfl rfl
theorem canLay_ints : ∀ l : List Int, PyData.canLayAll0 (l.map .int) = true ∧ PyData.depthAll (l.map .int) ≤ 1
  | [] => ⟨rfl, by simp [PyData.depthAll]⟩
  | a :: l => by
    have := canLay_ints l
    simp only [List.map_cons, PyData.canLayAll0, PyData.depthAll, PyData.canLay0, PyData.depth, this.1, Bool.and_self, true_and]
    omega
theorem any_ints (a : Int) : ∀ l : List Int, ((l.map PyData.int).any fun y => PyData.eqv y (.int a)) = decide (a ∈ l)
  | [] => by simp
  | b :: l => by
    rw [List.map_cons, List.any_cons, any_ints a l, eqv_int]
    by_cases h : b = a <;> by_cases h' : a ∈ l <;> simp [h, h']
    · exact fun e => h e.symm
theorem cm_nin {n : Nat} {a : Int} {l : List Int} (hA : Room n A) : Gv c A [dI a, dL (l.map .int)] (fun vs => compareOp .NotIn (vs.getD 0 .none) (vs.getD 1 .none)) (dB (!decide (a ∈ l))) := .two fun X s v₁ v₂ hT hX r₁ r₂ => by
  obtain ⟨as, q₁, _⟩ := r₁; obtain ⟨bs, q₂, _⟩ := r₂
  have h1 := (canLay_ints l).2
  have h2 := hA.units
  refine SeqAt.notIn_list_reads q₂ q₁ (canLay_ints l).1 rfl ?_ ?_
  · have := Nat.min_le_left (PyData.depthAll (l.map .int)) (PyData.int a).depth; omega
  · rw [any_ints]; exact ⟨Keeps.refl _, Rd.bool⟩
theorem cm_intup {n : Nat} {a : Int} {l : List Int} (hA : Room n A) : Gv c A [dI a, .py (.tuple (l.map .int))] (fun vs => compareOp .In (vs.getD 0 .none) (vs.getD 1 .none)) (dB (decide (a ∈ l))) := .two fun X s v₁ v₂ hT hX r₁ r₂ => by
  obtain ⟨as, q₁, _⟩ := r₁; obtain ⟨bs, q₂, _⟩ := r₂
  have h1 := (canLay_ints l).2
  have h2 := hA.units
  refine SeqAt.in_tuple_reads q₂ q₁ (canLay_ints l).1 rfl ?_ ?_
  · have := Nat.min_le_left (PyData.depthAll (l.map .int)) (PyData.int a).depth; omega
  · rw [any_ints]; exact ⟨Keeps.refl _, Rd.bool⟩

/-! displays -/
theorem Ev.list {es : List PySem.Expr} {ds : List PyData} (h : EvA c A sc ρ es (ds.map .py)) (hn : ds.length ≤ sizeLine := by first | decide | (rw [sizeLine_eq]; simp)) : Ev c A sc ρ (.List es pos) (dL ds) := fun r X s hT S =>
  List_ (wp_weak (h r X s pos hT S) fun vs s₁ ⟨k₁, r₁⟩ =>
    wpAny_newList ⟨Keeps.trans k₁ Keeps.push, new_rd (S.ext (Keeps.ext k₁)).1 r₁.py⟩ (by rw [r₁.py.length]; exact hn))
theorem Ev.tup {es : List PySem.Expr} {ds : List PyData} {k : Nat} (h : EvA c A sc ρ es (ds.map .py)) (hn : ds.length ≤ sizeLine := by first | decide | (rw [sizeLine_eq]; simp)) : Ev c A sc ρ (.Tuple es k pos) (.py (.tuple ds)) := fun r X s hT S =>
  Tuple_ (wp_weak (h r X s pos hT S) fun vs s₁ ⟨k₁, r₁⟩ =>
    wpAny_newTuple ⟨Keeps.trans k₁ Keeps.push, Rd.tuple (its := vs.toArray) ⟨_, Heap.get?_push_size _ rfl, rfl, _, rfl⟩ (by simpa using r₁.py.ext fun b o e => Heap.get?_push_of_some _ e)⟩ (by rw [r₁.py.length]; exact hn))

/-! items -/
theorem Ev.sub {value slice : PySem.Expr} {d₁ d₂ d : Dd} (h₁ : Ev c A sc ρ value d₁) (h₂ : Ev c A sc ρ slice d₂)
    (h : Gv c A [d₁, d₂] (fun vs => subscriptTail value slice (vs.getD 0 .none) (vs.getD 1 .none)) d) : Ev c A sc ρ (.Subscript value slice pos) d := by
  intro r X s hT S
  refine Subscript_ (wp_weak (h₁ r X s hT S) fun a s₁ ⟨k₁, r₁⟩ => ?_)
  have e₁ := Keeps.ext k₁
  refine wp_weak (h₂ r X s₁ (fun b o e => e₁ b o (hT b o e)) (S.ext e₁)) fun b s₂ ⟨k₂, r₂⟩ => ?_
  have e₂ := Keeps.ext k₂
  refine wp_weak (h X s₂ [a, b] (fun b o e => e₂ b o (e₁ b o (hT b o e))) ((S.ext e₁).ext e₂).1 (.cons (r₁.ext e₂) (.cons r₂ .nil))) fun v s₃ ⟨k₃, r₃⟩ => ⟨Keeps.trans k₁ (Keeps.trans k₂ k₃), r₃⟩
theorem seqIndex_in {k : Int} {n : Nat} (h0 : 0 ≤ k) (hn : k.toNat < n) : seqIndex? k n = some k.toNat := by
  unfold seqIndex?
  have h1 : ¬ k < 0 := by omega
  simp only [h1, if_false]
  have h2 : (decide (0 ≤ k) && decide (k < n)) = true := by simp only [Bool.and_eq_true, decide_eq_true_eq]; omega
  rw [if_pos h2]
abbrev notSlice (slice : PySem.Expr) : Prop := ∀ o i, subscripted slice false o i = operate [o, i] (getItem o i)
theorem it_list {value slice : PySem.Expr} {ds : List PyData} {k : Int} {d : PyData} (h0 : 0 ≤ k) (hd : ds[k.toNat]? = some d) (hk : k < 2 ^ 63) (hs : notSlice slice) :
    Gv c A [dL ds, dI k] (fun vs => subscriptTail value slice (vs.getD 0 .none) (vs.getD 1 .none)) (.py d) := .two fun X s v₁ v₂ hT hX r₁ r₂ => by
  obtain ⟨a, vs, rfl, _, hl, ra⟩ := r₁.list_inv; obtain ⟨u, rfl⟩ := r₂.int_inv
  obtain ⟨v, hv, rv⟩ := ra.get' hd
  exact tail_any hl.typeIs slot_list_getitem.lookup (wpAny_getItem_list hl h0 hk (by simpa using hv) ⟨Keeps.refl _, rv⟩) (hs _ _)
theorem it_tup {value slice : PySem.Expr} {ds : List PyData} {k : Int} {d : PyData} (h0 : 0 ≤ k) (hd : ds[k.toNat]? = some d) (hk : k < 2 ^ 63) (hs : notSlice slice) :
    Gv c A [.py (.tuple ds), dI k] (fun vs => subscriptTail value slice (vs.getD 0 .none) (vs.getD 1 .none)) (.py d) := .two fun X s v₁ v₂ hT hX r₁ r₂ => by
  obtain ⟨a, vs, rfl, hl, ra⟩ := r₁.tuple_inv; obtain ⟨u, rfl⟩ := r₂.int_inv
  obtain ⟨v, hv, rv⟩ := ra.get' hd
  have hlt : k.toNat < vs.length := by
    rcases Nat.lt_or_ge k.toNat vs.length with h | h
    · exact h
    · rw [List.getElem?_eq_none h] at hv; cases hv
  have ht : IsTup s.heap a vs.toArray := hl
  refine tail_any ht.typeIs slot_tuple_getitem.lookup (getItem_tuple (j := k.toNat) ht (by omega) hk ?_ (by simpa using hv) ⟨Keeps.refl _, rv⟩) (hs _ _)
  exact seqIndex_in h0 (by simpa using hlt)
theorem it_str {value slice : PySem.Expr} {x : Str} {k : Int} {ch : Nat} (h0 : 0 ≤ k) (hd : x.cps[k.toNat]? = some ch) (hk : k < 2 ^ 63) (hs : notSlice slice) :
    Gv c A [dS x, dI k] (fun vs => subscriptTail value slice (vs.getD 0 .none) (vs.getD 1 .none)) (dS ⟨#[ch]⟩) := .two fun X s v₁ v₂ hT hX r₁ r₂ => by
  obtain ⟨t, rfl⟩ := r₁.str_inv; obtain ⟨u, rfl⟩ := r₂.int_inv
  have hlt : k.toNat < x.length := by
    show k.toNat < x.cps.size
    rcases Nat.lt_or_ge k.toNat x.cps.size with h | h
    · exact h
    · rw [Array.getElem?_eq_none h] at hd; cases hd
  have hr : (decide (k < -(2 ^ 63 : Int)) || decide (k ≥ 2 ^ 63)) = false := by simp only [Bool.or_eq_false_iff, decide_eq_false_iff_not]; omega
  exact tail_any (typeIs_str s x t) F.slot_str_getitem.lookup (PyProof.Rows.getItem_str hr (by rw [seqIndex_in h0 hlt]; exact hd) ⟨Keeps.tok _, Rd.str⟩) (hs _ _)

/-! slices -/
/-- a part of a slice: absent, or an int -/
inductive Part (c : Cx) (A : Around) (sc : Scope) (ρ : Rho) : Option PySem.Expr → Option Int → Prop
  | none : Part c A sc ρ none none
  | some {e : PySem.Expr} {i : Int} : Ev c A sc ρ e (dI i) → Part c A sc ρ (some e) (some i)
theorem Part.run {x : Option PySem.Expr} {i : Option Int} (h : Part c A sc ρ x i) (r : ER) (X : Addr → Prop) (s : Shared) (hT : Ext c.h s.heap) (S : Sees sc r X s.heap ρ) :
    wpAny (model c.prog c.w) A (evalPart x (En sc r)) (fun v s' => Keeps s s' ∧ IsPart v i) no s := by
  cases h with
  | none => exact wpAny_pure ⟨Keeps.refl s, .none⟩
  | some h => exact wp_weak (h r X s hT S) fun v s₁ ⟨k₁, r₁⟩ => ⟨k₁, by obtain ⟨t, rfl⟩ := r₁.int_inv; exact .int _ _⟩
theorem slice_type {value : PySem.Expr} {lo hi : Option PySem.Expr} {p : Pos} {env : Env} {s : Shared} {Q : Value → Shared → Prop} {T id : String} {E : Value → Shared → Prop}
    (hl : typeLookup (.type T) "__getitem__" = pure (some (.builtin id)))
    (h : wpAny (model c.prog c.w) A (eval value env) (fun o s₁ => wpAny (model c.prog c.w) A (eval (.Slice lo hi none p) env) (fun i s₂ => s₂.TypeIs o T ∧ wpAny (model c.prog c.w) A (getItem o i) Q E s₂) E s₁) E s) :
    wpAny (model c.prog c.w) A (eval (.Subscript value (.Slice lo hi none p) pos) env) Q E s :=
  Subscript_ (wpAny_mono h (fun o s₁ h₁ => wpAny_mono h₁ (fun i s₂ h₂ => tail_any (ops := [i, o]) h₂.1 hl h₂.2 rfl) fun _ _ x => x) fun _ _ x => x)
theorem Ev.slice {value : PySem.Expr} {lo hi : Option PySem.Expr} {i j : Option Int} {p : Pos} {ds : List PyData} (h : Ev c A sc ρ value (dL ds)) (h₁ : Part c A sc ρ lo i) (h₂ : Part c A sc ρ hi j) (hn : ds.length ≤ sizeLine) :
    Ev c A sc ρ (.Subscript value (.Slice lo hi none p) pos) (dL ((ds.drop (i.elim 0 (clipAt ds.length))).take (j.elim ds.length (clipAt ds.length) - i.elim 0 (clipAt ds.length)))) := by
  intro r X s hT S
  refine slice_type slot_list_getitem.lookup (wp_weak (h r X s hT S) fun a s₁ ⟨k₁, r₁⟩ => ?_)
  have e₁ := Keeps.ext k₁
  refine wpAny_Slice (wp_weak (h₁.run r X s₁ (fun b o e => e₁ b o (hT b o e)) (S.ext e₁)) fun b s₂ ⟨k₂, p₂⟩ => ?_)
  have e₂ := Keeps.ext k₂
  refine wp_weak (h₂.run r X s₂ (fun b o e => e₂ b o (e₁ b o (hT b o e))) ((S.ext e₁).ext e₂)) fun b' s₃ ⟨k₃, p₃⟩ => ?_
  have e₃ := Keeps.ext k₃
  rw [evalPart_none]
  refine wpAny_pure ?_
  have r₃ := ((r₁.ext e₂).ext e₃).ext (h' := s₃.heap.push { cls := .type "slice", data := .fields #[b, b', .none] }) fun b o e => Heap.get?_push_of_some _ e
  obtain ⟨l, vs, rfl, _, hl, ra⟩ := r₃.list_inv
  refine ⟨hl.typeIs, wpAny_getItem_list_slice (lo := i) (hi := j) (st := none) hl ⟨_, Heap.get?_push_size _ rfl, rfl, rfl⟩ p₂ p₃ .none (by intro h; cases h) ?_ (by rw [List.size_toArray, ra.length]; exact hn)⟩
  have S' : Sees sc r X (s₃.heap.push { cls := .type "slice", data := .fields #[b, b', .none] }) ρ := (((S.ext e₁).ext e₂).ext e₃).ext fun b o e => Heap.get?_push_of_some _ e
  refine ⟨Keeps.trans k₁ (Keeps.trans k₂ (Keeps.trans k₃ (Keeps.trans Keeps.push Keeps.push))), ?_⟩
  rw [slicePick_plain]
  simp only [List.size_toArray, ra.length]
  exact new_rd (s := { s₃ with heap := s₃.heap.push { cls := .type "slice", data := .fields #[b, b', .none] } }) S'.1 (by simpa using (ra.drop _).take _)
end
end Mine
end

section -- Calls1
open PySem PySem.W PyProof.Rows PySem.Spec PySem.Calls
set_option Elab.async false
set_option maxRecDepth 100000
set_option linter.unusedVariables false
namespace Mine

/-! the least, the greatest, the sorted list -/
def mnI : List Int → Int
  | [] => 0
  | a :: l => l.foldl min a
def mxI : List Int → Int
  | [] => 0
  | a :: l => l.foldl max a
theorem fold_min_spec : ∀ (l : List Int) (a : Int), (l.foldl min a ∈ a :: l) ∧ ∀ b ∈ a :: l, l.foldl min a ≤ b
  | [], a => by simp
  | c :: l, a => by
    have ⟨h1, h2⟩ := fold_min_spec l (min a c)
    rw [List.foldl_cons]
    constructor
    · rcases List.mem_cons.mp h1 with e | h
      · rw [e]; rcases Int.min_def a c ▸ (by split <;> simp : (if a ≤ c then a else c) = a ∨ (if a ≤ c then a else c) = c) with e | e <;> rw [e] <;> simp
      · simp [h]
    · intro b hb
      have h3 := h2 (min a c) (.head _)
      rcases List.mem_cons.mp hb with rfl | hb
      · omega
      · rcases List.mem_cons.mp hb with rfl | hb
        · omega
        · exact h2 b (.tail _ hb)
theorem fold_max_spec : ∀ (l : List Int) (a : Int), (l.foldl max a ∈ a :: l) ∧ ∀ b ∈ a :: l, b ≤ l.foldl max a
  | [], a => by simp
  | c :: l, a => by
    have ⟨h1, h2⟩ := fold_max_spec l (max a c)
    rw [List.foldl_cons]
    constructor
    · rcases List.mem_cons.mp h1 with e | h
      · rw [e]; rcases Int.max_def a c ▸ (by split <;> simp : (if a ≤ c then c else a) = a ∨ (if a ≤ c then c else a) = c) with e | e <;> rw [e] <;> simp
      · simp [h]
    · intro b hb
      have h3 := h2 (max a c) (.head _)
      rcases List.mem_cons.mp hb with rfl | hb
      · omega
      · rcases List.mem_cons.mp hb with rfl | hb
        · omega
        · exact h2 b (.tail _ hb)
theorem mnI_spec {l : List Int} (h : l ≠ []) : mnI l ∈ l ∧ ∀ b ∈ l, mnI l ≤ b := by
  cases l with
  | nil => exact absurd rfl h
  | cons a l => exact fold_min_spec l a
theorem mxI_spec {l : List Int} (h : l ≠ []) : mxI l ∈ l ∧ ∀ b ∈ l, b ≤ mxI l := by
  cases l with
  | nil => exact absurd rfl h
  | cons a l => exact fold_max_spec l a
theorem mnI_eq {l : List Int} {M : Int} (h1 : M ∈ l) (h2 : ∀ b ∈ l, M ≤ b) : M = mnI l := by
  have h : l ≠ [] := fun e => by rw [e] at h1; cases h1
  have ⟨a, b⟩ := mnI_spec h
  have := h2 _ a; have := b _ h1; omega
theorem mxI_eq {l : List Int} {M : Int} (h1 : M ∈ l) (h2 : ∀ b ∈ l, b ≤ M) : M = mxI l := by
  have h : l ≠ [] := fun e => by rw [e] at h1; cases h1
  have ⟨a, b⟩ := mxI_spec h
  have := h2 _ a; have := b _ h1; omega
def srt (l : List Int) : List Int := l.mergeSort (fun a b => decide (a ≤ b))
theorem srt_perm (l : List Int) : (srt l).Perm l := List.mergeSort_perm l _
theorem srt_sorted (l : List Int) : (srt l).Pairwise (· ≤ ·) := by
  have := List.pairwise_mergeSort (le := fun a b : Int => decide (a ≤ b)) (by intro a b c; simp only [decide_eq_true_eq]; omega) (by intro a b; simp only [Bool.or_eq_true, decide_eq_true_eq]; omega) l
  exact this.imp (by intro a b h; simpa using h)
theorem sorted_unique : ∀ {l m : List Int}, l.Perm m → l.Pairwise (· ≤ ·) → m.Pairwise (· ≤ ·) → l = m := by
  intro l
  induction l with
  | nil => intro m p _ _; exact (List.nil_perm.mp p).symm ▸ rfl
  | cons a l ih =>
    intro m p hl hm
    cases m with
    | nil => exact absurd (List.perm_nil.mp p) (by simp)
    | cons b m =>
      have ha : a ∈ b :: m := p.subset (.head _)
      have hb : b ∈ a :: l := p.symm.subset (.head _)
      obtain ⟨h1, h2⟩ := List.pairwise_cons.mp hl
      obtain ⟨h3, h4⟩ := List.pairwise_cons.mp hm
      have e : a = b := by
        rcases List.mem_cons.mp ha with e | ha
        · exact e
        · rcases List.mem_cons.mp hb with e | hb
          · exact e.symm
          · have := h1 b hb; have := h3 a ha; omega
      subst e
      rw [ih (List.Perm.cons_inv p) h2 h4]
theorem srt_eq {l m : List Int} (p : m.Perm l) (h : m.Pairwise (· ≤ ·)) : m = srt l := sorted_unique (p.trans (srt_perm l).symm) h (srt_sorted l)
theorem srt_length (l : List Int) : (srt l).length = l.length := (srt_perm l).length_eq

section
variable {c : Cx} {A : Around} {sc : Scope} {ρ : Rho} {pos : Pos}

theorem RdAll.ints {X : Addr → Prop} {h : Heap} : ∀ {ns : List Int} {vs : List Value}, RdAll X h vs (ns.map .int) → IntsAre vs ns
  | [], _, r => by rw [r.unnil]; exact .nil
  | n :: ns, _, r => by
    obtain ⟨v, us, rfl, r1, r2⟩ := r.uncons
    obtain ⟨t, rfl⟩ := r1.int_inv
    exact .cons _ _ r2.ints
theorem IntsAre.rd {X : Addr → Prop} {h : Heap} : ∀ {ns : List Int} {vs : List Value}, IntsAre vs ns → RdAll X h vs (ns.map .int)
  | _, _, .nil => .nil
  | _, _, .cons _ _ q => .cons Rd.int (IntsAre.rd q)

theorem Ev.callB {x : Str} {p : Pos} {id : String} {e : PySem.Expr} {es : List PySem.Expr} {ds : List Dd} {d : Dd} (hf : Ev c A sc ρ (.Name x p) (.raw (.builtin id))) (ha : EvA c A sc ρ (e :: es) ds)
    (h : Gv c A ds (fun vs => call (.builtin id) vs) d) (he : ∀ env, starEach (e :: es) env = (false, eval e env) :: starEach es env := by intro _; rfl)
    (hp : ∀ env pos, (backTo pos (starEach es env)).any (·.1) = false := by intro _ _; rfl) : Ev c A sc ρ (.Call (.Name x p) (e :: es) [] pos) d := fun r X s hT S =>
  Call_ (wp_weak (hf r X s hT S) fun f s₁ ⟨k₁, r₁⟩ => by
    cases r₁
    have x₁ := Keeps.ext k₁
    refine callWith_builtin1 (wp_weak (ha r X s₁ _ (fun b o e => x₁ b o (hT b o e)) (S.ext x₁)) fun vs s₂ ⟨k₂, r₂⟩ => ?_) (he _) (hp _ _)
    have x₂ := Keeps.ext k₂
    exact wp_weak (h X s₂ vs (fun b o e => x₂ b o (x₁ b o (hT b o e))) ((S.ext x₁).ext x₂).1 r₂) fun v s₃ ⟨k₃, r₃⟩ => ⟨Keeps.trans k₁ (Keeps.trans k₂ k₃), r₃⟩)
theorem Ev.callT {x : Str} {p : Pos} {T : String} {e : PySem.Expr} {es : List PySem.Expr} {ds : List Dd} {d : Dd} (hf : Ev c A sc ρ (.Name x p) (.raw (.type T))) (ha : EvA c A sc ρ (e :: es) ds)
    (h : Gv c A ds (fun vs => call (.type T) vs) d) (he : ∀ env, starEach (e :: es) env = (false, eval e env) :: starEach es env := by intro _; rfl)
    (hp : ∀ env pos, (backTo pos (starEach es env)).any (·.1) = false := by intro _ _; rfl) : Ev c A sc ρ (.Call (.Name x p) (e :: es) [] pos) d := fun r X s hT S =>
  Call_ (wp_weak (hf r X s hT S) fun f s₁ ⟨k₁, r₁⟩ => by
    cases r₁
    have x₁ := Keeps.ext k₁
    refine PyProof.Rows.callWith_type1 (wp_weak (ha r X s₁ _ (fun b o e => x₁ b o (hT b o e)) (S.ext x₁)) fun vs s₂ ⟨k₂, r₂⟩ => ?_) (he _) (hp _ _)
    have x₂ := Keeps.ext k₂
    exact wp_weak (h X s₂ vs (fun b o e => x₂ b o (x₁ b o (hT b o e))) ((S.ext x₁).ext x₂).1 r₂) fun v s₃ ⟨k₃, r₃⟩ => ⟨Keeps.trans k₁ (Keeps.trans k₂ k₃), r₃⟩)
/-- a def of the text: what it gives -/
def Fn (c : Cx) (n : Nat) (f : Addr) (ds : List Dd) (d : Dd) : Prop := ∀ A, Room n A → Gv c A ds (fun vs => call (.ref f) vs) d
theorem Ev.callF {n : Nat} {x : Str} {p : Pos} {f : Addr} {o : Obj} {fd : FuncData} {e : PySem.Expr} {es : List PySem.Expr} {ds : List Dd} {d : Dd} (hA : Room n A) (hf : Ev c A sc ρ (.Name x p) (.raw (.ref f)))
    (ho : c.h.get? f = some o) (hd : o.data = .func fd) (ha : EvA c A sc ρ (e :: es) ds) (h : Fn c n f ds d)
    (he : ∀ env, starEach (e :: es) env = (false, eval e env) :: starEach es env := by intro _; rfl) : Ev c A sc ρ (.Call (.Name x p) (e :: es) [] pos) d := fun r X s hT S =>
  Call_ (wp_weak (hf r X s hT S) fun f s₁ ⟨k₁, r₁⟩ => by
    cases r₁
    have x₁ := Keeps.ext k₁
    refine callWith_def (o := o) hd (wp_weak (ha r X s₁ _ (fun b o e => x₁ b o (hT b o e)) (S.ext x₁)) fun vs s₂ ⟨k₂, r₂⟩ => ?_) (he _)
    have x₂ := Keeps.ext k₂
    exact ⟨x₂ _ _ (x₁ _ _ (hT _ _ ho)), wp_weak (h A hA X s₂ vs (fun b o e => x₂ b o (x₁ b o (hT b o e))) ((S.ext x₁).ext x₂).1 r₂) fun v s₃ ⟨k₃, r₃⟩ => ⟨Keeps.trans k₁ (Keeps.trans k₂ k₃), r₃⟩⟩)

theorem Gv.one' {d₁ d : Dd} {t : List Value → Sem Value} (h : ∀ (X : Addr → Prop) (s : Shared) (v₁ : Value), Ext c.h s.heap → Xok X s.heap → Rd X s.heap v₁ d₁ →
    wpAny (model c.prog c.w) A (t [v₁]) (fun v s' => Keeps s s' ∧ Rd X s'.heap v d) no s) : Gv c A [d₁] t d := by
  intro X s vs hT hX h2
  cases h2 with
  | cons r₁ q => cases q with
    | nil => exact h X s _ hT hX r₁
theorem Gv.two' {d₁ d₂ d : Dd} {t : List Value → Sem Value} (h : ∀ (X : Addr → Prop) (s : Shared) (v₁ v₂ : Value), Ext c.h s.heap → Xok X s.heap → Rd X s.heap v₁ d₁ → Rd X s.heap v₂ d₂ →
    wpAny (model c.prog c.w) A (t [v₁, v₂]) (fun v s' => Keeps s s' ∧ Rd X s'.heap v d) no s) : Gv c A [d₁, d₂] t d := by
  intro X s vs hT hX h2
  cases h2 with
  | cons r₁ q => cases q with
    | cons r₂ q => cases q with
      | nil => exact h X s _ _ hT hX r₁ r₂

theorem bi_len {ds : List PyData} (hn : ds.length ≤ sizeLine) : Gv c A [dL ds] (fun vs => call (.builtin "len") vs) (dI ds.length) := .one' fun X s v hT hX r => by
  obtain ⟨a, vs, rfl, _, hl, ra⟩ := r.list_inv
  have e := ra.length
  have : sizeLine = 16777216 := sizeLine_eq
  refine Calls.call_len_list hl (by simp; omega) ⟨Keeps.tok _, ?_⟩
  rw [show (vs.toArray.size : Int) = ds.length from by simp [e]]; exact Rd.int
theorem bi_lenS {x : Str} (hn : x.length ≤ sizeLine) : Gv c A [dS x] (fun vs => call (.builtin "len") vs) (dI x.length) := .one' fun X s v hT hX r => by
  obtain ⟨t, rfl⟩ := r.str_inv
  have : sizeLine = 16777216 := sizeLine_eq
  exact PyProof.Rows.len_str (by omega) ⟨Keeps.tok _, Rd.int⟩
theorem bi_abs {a : Int} : Gv c A [dI a] (fun vs => call (.builtin "abs") vs) (dI (if a < 0 then -a else a)) := .one' fun X s v hT hX r => by
  obtain ⟨t, rfl⟩ := r.int_inv
  exact call_abs_int fun u tk => ⟨Keeps.tok _, Rd.int⟩
theorem bi_min {ns : List Int} (hh : A.handled = none) (hne : ns ≠ []) : Gv c A [dL (ns.map .int)] (fun vs => call (.builtin "min") vs) (dI (mnI ns)) := .one' fun X s v hT hX r => by
  obtain ⟨a, vs, rfl, _, hl, ra⟩ := r.list_inv
  have hi := ra.ints
  obtain ⟨xs, e⟩ := hi.allInts.items
  have hns : ns = xs.toList.map (·.1) := by rw [← hi.numsOf, ← nums_intItems, ← e]
  have hsz : 0 < xs.size := by
    rcases Nat.eq_zero_or_pos xs.size with h | h
    · exact absurd (by rw [hns, Array.size_eq_zero_iff.mp h]; rfl) hne
    · exact h
  rw [e] at hl
  refine min_intList hh hl hsz fun v h' tk hv hk => ⟨Keeps.mk' hk, ?_⟩
  obtain ⟨t, rfl⟩ := intItems_at hv
  obtain ⟨h1, h2⟩ := argBest_lt (numAt xs) (xs.size - 1)
  rw [← mnI_eq (l := ns) (M := numAt xs (argBest (fun i j => decide (numAt xs i < numAt xs j)) (xs.size - 1))) ?_ ?_]
  · exact Rd.int
  · rw [hns, numAt_eq]; exact getD_mem (by rw [List.length_map, Array.length_toList]; omega)
  · intro a ha
    rw [hns] at ha
    obtain ⟨j, hj, rfl⟩ := mem_getD ha
    rw [List.length_map, Array.length_toList] at hj
    rw [← numAt_eq]; exact h2 j (by omega)
theorem bi_max {ns : List Int} (hh : A.handled = none) (hne : ns ≠ []) : Gv c A [dL (ns.map .int)] (fun vs => call (.builtin "max") vs) (dI (mxI ns)) := .one' fun X s v hT hX r => by
  obtain ⟨a, vs, rfl, _, hl, ra⟩ := r.list_inv
  have hi := ra.ints
  obtain ⟨xs, e⟩ := hi.allInts.items
  have hns : ns = xs.toList.map (·.1) := by rw [← hi.numsOf, ← nums_intItems, ← e]
  have hsz : 0 < xs.size := by
    rcases Nat.eq_zero_or_pos xs.size with h | h
    · exact absurd (by rw [hns, Array.size_eq_zero_iff.mp h]; rfl) hne
    · exact h
  rw [e] at hl
  refine max_intList hh hl hsz fun v h' tk hv hk => ⟨Keeps.mk' hk, ?_⟩
  obtain ⟨t, rfl⟩ := intItems_at hv
  obtain ⟨h1, h2⟩ := argBest_gt (numAt xs) (xs.size - 1)
  rw [← mxI_eq (l := ns) (M := numAt xs (argBest (fun i j => decide (numAt xs i > numAt xs j)) (xs.size - 1))) ?_ ?_]
  · exact Rd.int
  · rw [hns, numAt_eq]; exact getD_mem (by rw [List.length_map, Array.length_toList]; omega)
  · intro a ha
    rw [hns] at ha
    obtain ⟨j, hj, rfl⟩ := mem_getD ha
    rw [List.length_map, Array.length_toList] at hj
    rw [← numAt_eq]; exact h2 j (by omega)
theorem bi_max2 {a b : Int} (hh : A.handled = none) : Gv c A [dI a, dI b] (fun vs => call (.builtin "max") vs) (dI (max a b)) := .two' fun X s v₁ v₂ hT hX r₁ r₂ => by
  obtain ⟨t, rfl⟩ := r₁.int_inv; obtain ⟨u, rfl⟩ := r₂.int_inv
  refine max_two_ints hh fun h' tk hk => ⟨Keeps.mk' hk, ?_⟩
  by_cases h : b > a
  · rw [if_pos h, show max a b = b by omega]; exact Rd.int
  · rw [if_neg h, show max a b = a by omega]; exact Rd.int
theorem bi_sum {ns : List Int} (hh : A.handled = none) : Gv c A [dL (ns.map .int)] (fun vs => call (.builtin "sum") vs) (dI ns.sum) := .one' fun X s v hT hX r => by
  obtain ⟨a, vs, rfl, _, hl, ra⟩ := r.list_inv
  have hi := ra.ints
  obtain ⟨xs, e⟩ := hi.allInts.items
  have hns : ns = xs.toList.map (·.1) := by rw [← hi.numsOf, ← nums_intItems, ← e]
  rw [e] at hl
  refine sum_intListG hh hl fun h' tk t' hk => ⟨Keeps.mk' hk, ?_⟩
  rw [preSum_eq, List.take_of_length_le (by simp), ← hns]
  exact Rd.int
theorem bi_sorted {ns : List Int} (hn : ns.length < 64) : Gv c A [dL (ns.map .int)] (fun vs => call (.builtin "sorted") vs) (dL ((srt ns).map .int)) := .one' fun X s v hT hX r => by
  obtain ⟨a, vs, rfl, _, hl, ra⟩ := r.list_inv
  have hi := ra.ints
  have hv : vs.length < 64 := by have := ra.length; rw [List.length_map] at this; omega
  refine PyProof.Rows.sorted_ints (vs := vs) hl hi hv fun out ns' a1 a2 a3 => ?_
  obtain ⟨e, he⟩ := sortedAll_at s.heap vs out
  refine ⟨Keeps.hp fun _ _ => sortedAll_old, Rd.list (its := out) ⟨_, he, rfl, _, rfl⟩ (hX.none ?_) ?_⟩
  · cases q : s.heap.get? (s.heap.objs.size + 1) with
    | none => rfl
    | some o => exact absurd (Heap.lt_size q) (Nat.not_lt.mpr (Nat.le_succ _))
  · rw [← srt_eq a2 a3]; exact IntsAre.rd a1
end
end Mine
end

section -- Comp1
open PySem PySem.W PyProof.Rows PySem.Spec PySem.Calls
set_option Elab.async false
set_option maxRecDepth 100000
set_option linter.unusedVariables false
namespace Mine
section
variable {c : Cx} {A : Around} {sc : Scope} {ρ : Rho} {pos : Pos}

def ownedIters : List String := ["enumerate", "zip", "dict_itemiterator", "dict_reverseitemiterator", "odict_iterator", "itertools.zip_longest", "itertools.pairwise"]
/-- a plain iterator object -/
def Itr (o : Obj) : Prop := ∃ T vs, o.cls = .type T ∧ o.data = .fields vs ∧ ownedIters.contains T = false
/-- the iterator I walks over ds -/
def Wk (c : Cx) (A : Around) (X : Addr → Prop) (h : Heap) (I : Addr) (ds : List PyData) : Prop :=
  ∃ fp P St, Walks c.prog c.w A I fp [I] ds.length P St ∧ St 0 h ∧ (∀ b ∈ fp, b < h.objs.size) ∧ (∀ i v, i < ds.length → P i v → ∃ d, ds[i]? = some d ∧ Rd X h v (.py d)) ∧
    (∀ i h', St i h' → ∃ o, h'.get? I = some o ∧ Itr o) ∧ (∀ b ∈ fp, b = I ∨ (¬ X b ∧ ∃ o, h.get? b = some o) ∨ ∃ o vs n, h.get? b = some o ∧ o.cls = .type "tuple" ∧ o.data = .seq vs n)
def Src (c : Cx) (A : Around) (sc : Scope) (ρ : Rho) (iter : PySem.Expr) (ds : List PyData) : Prop :=
  ∀ (r : ER) (X : Addr → Prop) (s : Shared), Ext c.h s.heap → Sees sc r X s.heap ρ →
    wpAny (model c.prog c.w) A (eval iter (En sc r)) (fun xv s₁ => wpAny (model c.prog c.w) A (pyIter xv) (fun it s₂ => ∃ I, it = .ref I ∧ Keeps s s₂ ∧ s.heap.get? I = none ∧ Wk c A X s₂.heap I ds) no s₁) no s

theorem get_new (h : Heap) : h.get? h.objs.size = none := by
  cases q : h.get? h.objs.size with
  | none => rfl
  | some o => exact absurd (Heap.lt_size q) (Nat.lt_irrefl _)
theorem get_new_ext {h h' : Heap} (hk : Ext h h') : h.get? h'.objs.size = none := by
  cases q : h.get? h'.objs.size with
  | none => rfl
  | some o => exact absurd (Heap.lt_size (hk _ _ q)) (Nat.lt_irrefl _)

theorem Src.list {iter : PySem.Expr} {ds : List PyData} (hh : A.handled = none) (h : Ev c A sc ρ iter (dL ds)) : Src c A sc ρ iter ds := fun r X s hT S =>
  wp_weak (h r X s hT S) fun xv s₁ ⟨k₁, r₁⟩ => by
    obtain ⟨a, vs, rfl, hxa, hl, ra⟩ := r₁.list_inv
    have hlt : a < s₁.heap.objs.size := by obtain ⟨_, e, _⟩ := hl; exact Heap.lt_size e
    refine wpAny_pyIter_list hl ⟨_, rfl, Keeps.trans k₁ Keeps.push, get_new_ext (Keeps.ext k₁), [s₁.heap.objs.size, a], (fun i v => vs.toArray[i]? = some v), (fun i h => h.IsListIter s₁.heap.objs.size a i ∧ h.IsList a vs.toArray), ?_, ?_, ?_, ?_, ?_, ?_⟩
    · have := Walks.list (prog := c.prog) (w := c.w) (A := A) hh s₁.heap.objs.size a (Nat.ne_of_lt hlt) vs.toArray
      have hsz : vs.toArray.size = ds.length := by rw [List.size_toArray]; exact ra.length
      rw [hsz] at this
      exact this
    · exact ⟨⟨_, Heap.get?_push_size _ rfl, rfl, rfl⟩, hl.push _⟩
    · intro b hb
      show b < (s₁.heap.push _).objs.size
      rw [Heap.size_push]
      rcases List.mem_cons.mp hb with rfl | hb
      · exact Nat.lt_succ_self _
      · rw [List.mem_singleton.mp hb]; exact Nat.lt_succ_of_lt hlt
    · intro i v _ hv
      obtain ⟨d, h1, h2⟩ := ra.get (by simpa using hv)
      exact ⟨d, h1, h2.ext fun b o e => Heap.get?_push_of_some _ e⟩
    · intro i h' st
      obtain ⟨o, ho, hc, hd⟩ := st.1
      exact ⟨o, ho, _, _, hc, hd, by decide⟩
    · intro b hb
      rcases List.mem_cons.mp hb with rfl | hb
      · exact .inl rfl
      · rw [List.mem_singleton.mp hb]; exact .inr (.inl ⟨hxa, let ⟨o, ho, _⟩ := hl; ⟨o, Heap.get?_push_of_some _ ho⟩⟩)
theorem Src.tup {iter : PySem.Expr} {ds : List PyData} (hh : A.handled = none) (h : Ev c A sc ρ iter (.py (.tuple ds))) : Src c A sc ρ iter ds := fun r X s hT S =>
  wp_weak (h r X s hT S) fun xv s₁ ⟨k₁, r₁⟩ => by
    obtain ⟨a, vs, rfl, hl, ra⟩ := r₁.tuple_inv
    have hlt : a < s₁.heap.objs.size := by obtain ⟨_, e, _⟩ := hl; exact Heap.lt_size e
    refine PySem.wpAny_pyIter_tuple hl ⟨_, rfl, Keeps.trans k₁ Keeps.push, get_new_ext (Keeps.ext k₁), [s₁.heap.objs.size, a], (fun i v => vs.toArray[i]? = some v), (fun i h => h.IsTupleIter s₁.heap.objs.size a i ∧ h.IsTuple a vs.toArray), ?_, ?_, ?_, ?_, ?_, ?_⟩
    · have := Walks.tuple (prog := c.prog) (w := c.w) (A := A) hh s₁.heap.objs.size a (Nat.ne_of_lt hlt) vs.toArray
      have hsz : vs.toArray.size = ds.length := by rw [List.size_toArray]; exact ra.length
      rw [hsz] at this
      exact this
    · exact ⟨⟨_, Heap.get?_push_size _ rfl, rfl, rfl⟩, hl.push _⟩
    · intro b hb
      show b < (s₁.heap.push _).objs.size
      rw [Heap.size_push]
      rcases List.mem_cons.mp hb with rfl | hb
      · exact Nat.lt_succ_self _
      · rw [List.mem_singleton.mp hb]; exact Nat.lt_succ_of_lt hlt
    · intro i v _ hv
      obtain ⟨d, h1, h2⟩ := ra.get (by simpa using hv)
      exact ⟨d, h1, h2.ext fun b o e => Heap.get?_push_of_some _ e⟩
    · intro i h' st
      obtain ⟨o, ho, hc, hd⟩ := st.1
      exact ⟨o, ho, _, _, hc, hd, by decide⟩
    · intro b hb
      rcases List.mem_cons.mp hb with rfl | hb
      · exact .inl rfl
      · rw [List.mem_singleton.mp hb]
        obtain ⟨o, ho, hc, n, hd⟩ := hl
        exact .inr (.inr ⟨o, _, n, Heap.get?_push_of_some _ ho, hc, hd⟩)

theorem wk_range {X : Addr → Prop} {h : Heap} {I : Addr} {n : Nat} (hh : A.handled = none) (hit : IsRangeIter h I 0 n 1) : Wk c A X h I ((List.range n).map fun (i : Nat) => PyData.int i) := by
  refine ⟨[I], (fun i v => ∃ t, v = .int (0 + (i : Nat) * 1) t), (fun i h => IsRangeIter h I (0 + (i : Nat) * 1) ((n : Int) - (i : Nat)) 1), ?_, ?_, ?_, ?_, ?_, ?_⟩
  · have hsz : ((List.range n).map fun (i : Nat) => PyData.int i).length = n := by simp
    rw [hsz]
    exact Walks.range hh I 0 1 n
  · simpa using hit
  · intro b hb
    rw [List.mem_singleton.mp hb]; exact Heap.lt_size hit
  · rintro i v hi ⟨t', rfl⟩
    rw [List.length_map, List.length_range] at hi
    refine ⟨.int i, by simp [hi], ?_⟩
    rw [show (0 + (i : Int) * 1) = i by omega]; exact Rd.int
  · intro i h' st
    exact ⟨_, st, _, _, rfl, rfl, by decide⟩
  · intro b hb
    exact .inl (List.mem_singleton.mp hb)
theorem Src.range {x : Str} {p : Pos} {e : PySem.Expr} {n : Nat} (hh : A.handled = none) (hf : Ev c A sc ρ (.Name x p) (.raw (.type "range"))) (ha : Ev c A sc ρ e (dI n)) (hn : n ≤ 4096)
    (he : ∀ env, starEach [e] env = (false, eval e env) :: starEach [] env := by intro _; rfl) :
    Src c A sc ρ (.Call (.Name x p) [e] [] pos) ((List.range n).map fun (i : Nat) => PyData.int i) := fun r X s hT S =>
  Call_ (wp_weak (hf r X s hT S) fun f s₁ ⟨k₁, r₁⟩ => by
    cases r₁
    have x₁ := Keeps.ext k₁
    refine PyProof.Rows.callWith_type1 (args_cons (wp_weak (ha r X s₁ (fun b o e => x₁ b o (hT b o e)) (S.ext x₁)) fun v s₂ ⟨k₂, r₂⟩ => args_nil ?_) (he _)) (he _) rfl
    obtain ⟨t, rfl⟩ := r₂.int_inv
    refine call_range_1 ?_
    refine wpAny_pyIter_range (IsRange.new _ 0 n 1 _ _ _) (small_one (by omega) (by omega) (by omega) (by omega)) ?_
    have hz : Builtin.Range.rangeSize 0 n 1 = n := by rw [rangeSize_one]; split <;> omega
    rw [hz]
    have k : Keeps s { s₂ with heap := s₂.heap.push { cls := .type "range", data := .fields #[.int 0 s₂.toks, .int n t, .int 1 (s₂.toks + 1)] }, toks := s₂.toks + 1 + 1 } :=
      Keeps.trans k₁ (Keeps.trans k₂ (Keeps.mk' fun _ _ e => Heap.get?_push_of_some _ e))
    exact ⟨_, rfl, Keeps.trans k Keeps.push, get_new_ext (Keeps.ext k), wk_range hh (Heap.get?_push_size _ rfl)⟩)

/-! the closure of a comprehension -/
theorem closure_go {env : Env} (f : Str × NameKind → List (Str × Addr) → Sem (ForInStep (List (Str × Addr))))
    (hf : ∀ n k cs, f (n, k) cs = if k == .free then (do let a ← cellOf env n; pure (.yield ((n, a) :: cs))) else pure (.yield cs)) :
    ∀ (names : List (Str × NameKind)) (cs : List (Str × Addr)), (∀ n, (n, NameKind.free) ∈ names → ∃ a, env.cells.lookup n = some a) → (∀ n a, cs.lookup n = some a → env.cells.lookup n = some a) →
      ∃ cl, forIn names cs f = pure cl ∧ (∀ n a, cl.lookup n = some a → env.cells.lookup n = some a) ∧ (∀ n, (n, NameKind.free) ∈ names ∨ (cs.lookup n).isSome = true → (cl.lookup n).isSome = true)
  | [], cs, _, hc => ⟨cs, rfl, hc, fun n h => h.elim (fun h => nomatch h) id⟩
  | (n, k) :: names, cs, hn, hc => by
    rw [List.forIn_cons, hf]
    by_cases hk : k = .free
    · subst hk
      obtain ⟨a, ha⟩ := hn n (.head _)
      have e : cellOf env n = pure a := by unfold cellOf; rw [ha]
      rw [e]
      simp only [beq_self_eq_true, if_true, pure_bind]
      obtain ⟨cl, h1, h2, h3⟩ := closure_go f hf names ((n, a) :: cs) (fun m hm => hn m (.tail _ hm)) (fun m b hb => by
        rw [List.lookup_cons] at hb
        cases hq : m == n with
        | true => rw [hq] at hb; cases hb; rw [eq_of_beq hq]; exact ha
        | false => rw [hq] at hb; exact hc m b hb)
      refine ⟨cl, h1, h2, fun m hm => h3 m ?_⟩
      rcases hm with hm | hm
      · rcases List.mem_cons.mp hm with e | hm
        · cases e; right; simp
        · exact .inl hm
      · right
        rw [List.lookup_cons]
        cases m == n with
        | true => rfl
        | false => exact hm
    · have hb : (k == NameKind.free) = false := by simpa using hk
      rw [hb]
      simp only [Bool.false_eq_true, if_false, pure_bind]
      obtain ⟨cl, h1, h2, h3⟩ := closure_go f hf names cs (fun m hm => hn m (.tail _ hm)) hc
      refine ⟨cl, h1, h2, fun m hm => h3 m ?_⟩
      rcases hm with hm | hm
      · rcases List.mem_cons.mp hm with e | hm
        · cases e; exact absurd rfl hk
        · exact .inl hm
      · exact .inr hm
theorem closure_is {scope : Scope} {env : Env} (hn : ∀ n, (n, NameKind.free) ∈ scope.names → ∃ a, env.cells.lookup n = some a) :
    ∃ cl, closureFor scope env = pure cl ∧ (∀ n a, cl.lookup n = some a → env.cells.lookup n = some a) ∧ (∀ n, (n, NameKind.free) ∈ scope.names → (cl.lookup n).isSome = true) := by
  unfold closureFor
  obtain ⟨cl, h1, h2, h3⟩ := closure_go (env := env) (fun x cs => do
      match x with
      | (name, kind) =>
        if kind == .free then do
          let a ← cellOf env name
          pure (ForInStep.yield ((name, a) :: cs))
        else pure (ForInStep.yield cs)) (fun _ _ _ => rfl) scope.names [] hn (fun _ _ h => nomatch h)
  refine ⟨cl, ?_, h2, fun n h => h3 n (.inl h)⟩
  exact congrArg (fun m : Sem (List (Str × Addr)) => m >>= fun x => pure x) h1
end
end Mine
end

section -- Asg
open PySem PySem.W PyProof.Rows PySem.Spec PySem.Calls
set_option Elab.async false
set_option maxRecDepth 100000
set_option linter.unusedVariables false
namespace Mine
/-- what a step may change -/
def Chg (W : Addr → Prop) (s s' : Shared) : Prop := ∃ h' tk, s' = { s with heap := h', toks := tk } ∧ ∀ b o, s.heap.get? b = some o → ¬ W b → h'.get? b = some o
theorem Chg.get {W : Addr → Prop} {s s' : Shared} (x : Chg W s s') : ∀ b o, s.heap.get? b = some o → ¬ W b → s'.heap.get? b = some o := by obtain ⟨_, _, rfl, h⟩ := x; exact h
theorem Chg.refl {W : Addr → Prop} (s : Shared) : Chg W s s := ⟨_, _, rfl, fun _ _ e _ => e⟩
theorem Chg.trans {W W' : Addr → Prop} {s s' s'' : Shared} (x : Chg W s s') (y : Chg W' s' s'') (hW : ∀ b o, s.heap.get? b = some o → W' b → W b) : Chg W s s'' := by
  obtain ⟨h', tk, rfl, p⟩ := x
  obtain ⟨h'', tk', rfl, q⟩ := y
  exact ⟨h'', tk', rfl, fun b o e hn => q b o (p b o e hn) fun hw => hn (hW b o e hw)⟩
theorem Chg.of_keeps {W : Addr → Prop} {s s' : Shared} (x : Keeps s s') : Chg W s s' := by obtain ⟨h', tk, rfl, p⟩ := x; exact ⟨h', tk, rfl, fun b o e _ => p b o e⟩
/-- the frame's own places that a store into xs writes -/
def Wr (r : ER) (xs : List Str) (a : Addr) : Prop := a = r.L ∨ ∃ x ∈ xs, r.cells.lookup x = some a

theorem Leaves.trans {X : Addr → Prop} {h h' h'' : Heap} (x : Leaves X h h') (y : Leaves X h' h'') : Leaves X h h'' := fun b o e hb => y b o (x b o e hb) hb
theorem ns_cell_ne {h : Heap} {L a : Addr} {m : Str → Option Value} {v : Option Value} (hn : h.Ns L m) (hc : h.IsCell a v) : a ≠ L := by
  rintro rfl
  obtain ⟨o, es, ep, ho, hd, _⟩ := hn
  obtain ⟨o', ho', hd'⟩ := hc
  rw [ho] at ho'; cases ho'; rw [hd] at hd'; cases hd'

section
variable {c : Cx} {A : Around} {sc : Scope} {ρ : Rho} {pos : Pos} {E : Value → Shared → Prop}

theorem store_loc {x : Str} (hx : sc.names.lookup x = some .local) (hk : sc.kind = .function) {r : ER} {X : Addr → Prop} {s : Shared} {v : Value} {d : Dd} {Q : Unit → Shared → Prop}
    (S : Sees sc r X s.heap ρ) (hX : ∀ a, Wr r [] a → X a) (hv : Rd X s.heap v d) (h : ∀ s', Sees sc r X s'.heap ((x, d) :: ρ) → Chg (Wr r []) s s' → Leaves X s.heap s'.heap → Q () s') :
    wpAny (model c.prog c.w) A (storeName (En sc r) x v) Q E s := by
  obtain ⟨hXo, hC, m, cm, F, H⟩ := S
  have hL : X r.L := hX _ (.inl rfl)
  refine wpAny_storeName_local (env := En sc r) hx F.ns (fun h' hn' hs' => ?_) (by simp [hk])
  have hle : Leaves X s.heap h' := fun b o e hb => by
    by_cases hbL : b = r.L
    · subst hbL
      rcases hb with hb | ⟨_, vs, n, hd⟩
      · exact absurd hL hb
      · obtain ⟨o', _, _, ho', hd', _⟩ := F.ns
        rw [e] at ho'; cases ho'; rw [hd] at hd'; cases hd'
    · exact (hs'.2 b hbL).trans e
  refine h _ ⟨fun a ha => ?_, hC, _, cm, ⟨hn', fun n a ha => (F.cell n a ha).sameBut hs' (ns_cell_ne F.ns (F.cell n a ha)), F.apart⟩, fun y e hy => ?_⟩ ⟨h', _, rfl, fun b o e hb => hs'.extBut b o (fun q => hb (.inl q)) e⟩ hle
  · by_cases haL : a = r.L
    · subst haL; obtain ⟨o', _, _, ho', _⟩ := hn'; exact ⟨_, ho'⟩
    · obtain ⟨o, ho⟩ := hXo a ha; exact ⟨o, (hs'.2 a haL).trans ho⟩
  · rw [List.lookup_cons] at hy
    cases hq : y == x with
    | true =>
      rw [hq] at hy; cases hy
      have e := eq_of_beq hq; subst e
      exact ⟨v, by unfold vl; rw [hx]; simp, hv.leaves hle⟩
    | false =>
      rw [hq] at hy
      obtain ⟨u, h1, h2⟩ := H y e hy
      have hne : y ≠ x := by simpa using hq
      refine ⟨u, ?_, h2.leaves hle⟩
      unfold vl at h1 ⊢
      cases hl : sc.names.lookup y with
      | none => rw [hl] at h1; cases h1
      | some k => rw [hl] at h1; cases k <;> simp_all
theorem store_cell {x : Str} (hx : sc.names.lookup x = some .cell) (hk : sc.kind = .function) {r : ER} {X : Addr → Prop} {s : Shared} {v : Value} {d : Dd} {Q : Unit → Shared → Prop}
    (S : Sees sc r X s.heap ρ) (hX : ∀ a, Wr r [x] a → X a) (hv : Rd X s.heap v d) (h : ∀ s', Sees sc r X s'.heap ((x, d) :: ρ) → Chg (Wr r [x]) s s' → Leaves X s.heap s'.heap → Q () s') :
    wpAny (model c.prog c.w) A (storeName (En sc r) x v) Q E s := by
  obtain ⟨hXo, hC, m, cm, F, H⟩ := S
  obtain ⟨a, ha⟩ := Option.isSome_iff_exists.mp (hC x hx)
  have hXa : X a := hX _ (.inr ⟨x, by simp, ha⟩)
  refine wpAny_storeName_cell (env := En sc r) hk hx ha (F.cell x a ha) fun h' hc' hs' => ?_
  have hne := ns_cell_ne F.ns (F.cell x a ha)
  have hle : Leaves X s.heap h' := fun b o e hb => by
    by_cases hba : b = a
    · subst hba
      rcases hb with hb | ⟨_, vs, n, hd⟩
      · exact absurd hXa hb
      · obtain ⟨o', ho', hd'⟩ := F.cell x b ha
        rw [e] at ho'; cases ho'; rw [hd] at hd'; cases hd'
    · exact (hs'.2 b hba).trans e
  refine h _ ⟨fun b hb => ?_, hC, m, (fun y => if y = x then some v else cm y), ⟨F.ns.sameBut hs' (Ne.symm hne), fun n b hb => ?_, F.apart⟩, fun y e hy => ?_⟩ ⟨h', _, rfl, fun b o e hb => hs'.extBut b o (fun q => hb (.inr ⟨x, by simp, q ▸ ha⟩)) e⟩ hle
  · by_cases hba : b = a
    · subst hba; obtain ⟨o', ho', _⟩ := hc'; exact ⟨_, ho'⟩
    · obtain ⟨o, ho⟩ := hXo b hb; exact ⟨o, (hs'.2 b hba).trans ho⟩
  · by_cases hnx : n = x
    · subst hnx
      rw [ha] at hb; cases hb
      simpa using hc'
    · rw [if_neg hnx]
      exact (F.cell n b hb).sameBut hs' fun e => hnx (F.apart n x b hb (e ▸ ha))
  · rw [List.lookup_cons] at hy
    cases hq : y == x with
    | true =>
      rw [hq] at hy; cases hy
      have e := eq_of_beq hq; subst e
      exact ⟨v, by unfold vl; rw [hx, ha]; simp, hv.leaves hle⟩
    | false =>
      rw [hq] at hy
      obtain ⟨u, h1, h2⟩ := H y e hy
      have hne : y ≠ x := by simpa using hq
      refine ⟨u, ?_, h2.leaves hle⟩
      unfold vl at h1 ⊢
      cases hl : sc.names.lookup y with
      | none => rw [hl] at h1; cases h1
      | some k => rw [hl] at h1; cases k <;> simp_all

/-- names one after the other, all of the frame's own locals -/
def tgNames : List (Str × Pos) → List PySem.Expr := List.map fun x => .Name x.1 x.2
inductive Tg (sc : Scope) : PySem.Expr → PyData → List Str → Rho → Prop
  | loc {x : Str} {p : Pos} {d : PyData} : sc.names.lookup x = some .local → Tg sc (.Name x p) d [] [(x, .py d)]
  | cell {x : Str} {p : Pos} {d : PyData} : sc.names.lookup x = some .cell → Tg sc (.Name x p) d [x] [(x, .py d)]
  | tup {xs : List (Str × Pos)} {k : Nat} {p : Pos} {ds : List PyData} : (∀ x ∈ xs, sc.names.lookup x.1 = some .local) → xs.length = ds.length →
      Tg sc (.Tuple (tgNames xs) k p) (.tuple ds) [] ((xs.zip ds).map fun q => (q.1.1, Dd.py q.2)).reverse

theorem assignEach_names (xs : List (Str × Pos)) (env : Env) : assignEach (tgNames xs) env = xs.map fun x => (false, assign (.Name x.1 x.2) env) := by
  induction xs with
  | nil => rfl
  | cons x xs ih =>
    show (false, assign (.Name x.1 x.2) env) :: assignEach (tgNames xs) env = _
    rw [ih]; rfl
theorem assign_in_order (hk : sc.kind = .function) {r : ER} {X : Addr → Prop} (hX : ∀ a, Wr r [] a → X a) :
    ∀ (xs : List (Str × Pos)) (ds : List PyData) (vs : List Value) (ρ : Rho) (s : Shared) (Q : Unit → Shared → Prop), (∀ x ∈ xs, sc.names.lookup x.1 = some .local) → xs.length = ds.length → RdAll X s.heap vs ds → Sees sc r X s.heap ρ →
      (∀ s', Sees sc r X s'.heap (((xs.zip ds).map fun q => (q.1.1, Dd.py q.2)).reverse ++ ρ) → Chg (Wr r []) s s' → Leaves X s.heap s'.heap → Q () s') →
      wpAny (model c.prog c.w) A (assignInOrder (xs.map fun x => assign (.Name x.1 x.2) (En sc r)) vs) Q E s
  | [], ds, vs, ρ, s, Q, _, hl, hr, S, h => by
    cases ds with
    | nil => rw [hr.unnil]; exact wpAny_pure (h s S (Chg.refl s) fun _ _ e _ => e)
    | cons => cases hl
  | x :: xs, [], vs, ρ, s, Q, _, hl, hr, S, h => by cases hl
  | x :: xs, d :: ds, vs, ρ, s, Q, hx, hl, hr, S, h => by
    obtain ⟨v, us, rfl, r1, r2⟩ := hr.uncons
    refine wpAny_bind (m := holding us (assign (.Name x.1 x.2) (En sc r) v)) (wpAny_holding (wpAny_assign_Name ?_))
    refine store_loc (hx x (.head _)) hk S hX r1 fun s₁ S₁ g₁ l₁ => ?_
    refine assign_in_order hk hX xs ds us _ s₁ Q (fun y hy => hx y (.tail _ hy)) (by simpa using hl) (r2.leaves l₁) S₁ fun s₂ S₂ g₂ l₂ => h s₂ (by simpa using S₂) (g₁.trans g₂ fun _ _ _ hw => hw) (l₁.trans l₂)
theorem asg {tgt : PySem.Expr} {d : PyData} {xs : List Str} {bs : Rho} (T : Tg sc tgt d xs bs) (hk : sc.kind = .function) (hh : A.handled = none) {r : ER} {X : Addr → Prop} {s : Shared} {v : Value} {Q : Unit → Shared → Prop}
    (S : Sees sc r X s.heap ρ) (hX : ∀ a, Wr r xs a → X a) (hv : Rd X s.heap v (.py d)) (h : ∀ s', Sees sc r X s'.heap (bs ++ ρ) → Chg (Wr r xs) s s' → Leaves X s.heap s'.heap → Q () s') :
    wpAny (model c.prog c.w) A (assign tgt (En sc r) v) Q E s := by
  cases T with
  | loc hx => exact wpAny_assign_Name (store_loc hx hk S hX hv h)
  | cell hx => exact wpAny_assign_Name (store_cell hx hk S hX hv h)
  | @tup xs k p ds hx hl =>
    obtain ⟨a, vs, rfl, ht, ra⟩ := hv.tuple_inv
    have hlen : (assignEach (tgNames xs) (En sc r)).length = vs.toArray.size := by
      rw [assignEach_names, List.length_map, List.size_toArray, ra.length, hl]
    have hst : (assignEach (tgNames xs) (En sc r)).findIdx? (·.1) = none := by
      rw [assignEach_names, List.findIdx?_eq_none_iff]
      intro x hm
      obtain ⟨y, _, rfl⟩ := List.mem_map.mp hm
      rfl
    refine wpAny_assign_Tuple hh ht hlen hst fun h' he => ?_
    have hk' : Ext s.heap h' := fun b o e => he b o (Nat.ne_of_lt (Heap.lt_size e)) e
    rw [assignEach_names, List.map_map]
    refine assign_in_order hk hX xs ds vs.toArray.toList ρ { s with heap := h' } Q hx hl (by simpa using ra.ext hk') (S.ext hk') fun s' S' g l => h s' S' (Chg.trans (Chg.of_keeps (Keeps.hp hk')) g fun _ _ _ hw => hw) ((Leaves.of_ext hk').trans l)
end
end Mine
end

section -- Comp2
open PySem PySem.W PyProof.Rows PySem.Spec PySem.Calls
set_option Elab.async false
set_option maxRecDepth 100000
set_option linter.unusedVariables false
namespace Mine
/-- an object that is no frame, no cell, no tuple -/
def Loose (o : Obj) : Prop := (∀ es ep, o.data ≠ .dict es ep) ∧ (∀ v, o.data ≠ .cell v) ∧ ¬ (o.cls = .type "tuple" ∧ ∃ vs n, o.data = .seq vs n)
theorem Itr.loose {o : Obj} (h : Itr o) : Loose o := by
  obtain ⟨T, vs, h1, h2, _⟩ := h
  refine ⟨?_, ?_, ?_⟩
  · intro es ep e; rw [h2] at e; cases e
  · intro v e; rw [h2] at e; cases e
  · rintro ⟨_, us, n, e⟩; rw [h2] at e; cases e
theorem isList_loose {h : Heap} {a : Addr} {its : Array Value} (hl : h.IsList a its) : ∃ o, h.get? a = some o ∧ Loose o := by
  obtain ⟨o, ho, hc, n, hd⟩ := hl
  refine ⟨o, ho, ?_, ?_, ?_⟩
  · intro es ep e; rw [hd] at e; cases e
  · intro v e; rw [hd] at e; cases e
  · rintro ⟨e, _⟩; rw [hc] at e; exact absurd e (by decide)
theorem leaves_one {X : Addr → Prop} {h h' : Heap} {a : Addr} (hk : ∀ b o, b ≠ a → h.get? b = some o → h'.get? b = some o) (hX : X a) (hl : ∃ o, h.get? a = some o ∧ Loose o) : Leaves X h h' := fun b o e hb => by
  by_cases hba : b = a
  · subst hba
    obtain ⟨o', ho', hl⟩ := hl
    rw [e] at ho'; cases ho'
    rcases hb with hb | hb
    · exact absurd hX hb
    · exact absurd hb hl.2.2
  · exact hk b o hba e
theorem Sees.one {sc : Scope} {r : ER} {X : Addr → Prop} {h h' : Heap} {ρ : Rho} (S : Sees sc r X h ρ) {a : Addr} (hk : ∀ b o, b ≠ a → h.get? b = some o → h'.get? b = some o) (hX : X a) (hl : ∃ o, h.get? a = some o ∧ Loose o) (hn : ∃ o, h'.get? a = some o) : Sees sc r X h' ρ := by
  have hle := leaves_one hk hX hl
  obtain ⟨hXo, hC, m, cm, F, H⟩ := S
  obtain ⟨o, ho, hlo⟩ := hl
  refine ⟨fun b hb => ?_, hC, m, cm, ⟨?_, fun n b hb => ?_, F.apart⟩, fun x d e => let ⟨v, h1, h2⟩ := H x d e; ⟨v, h1, h2.leaves hle⟩⟩
  · by_cases hba : b = a
    · subst hba; exact hn
    · obtain ⟨o', e⟩ := hXo b hb; exact ⟨o', hk b o' hba e⟩
  · obtain ⟨o', es, ep, ho', hd, q⟩ := F.ns
    refine ⟨o', es, ep, hk _ _ (fun e => ?_) ho', hd, q⟩
    rw [e, ho] at ho'; cases ho'; exact hlo.1 _ _ hd
  · obtain ⟨o', ho', hd⟩ := F.cell n b hb
    refine ⟨o', hk _ _ (fun e => ?_) ho', hd⟩
    rw [e, ho] at ho'; cases ho'; exact hlo.2.1 _ hd

def rel (sc scope : Scope) : Scope :=
  { scope with names := scope.names.map fun (n, k) => if (k == .free && sc.kind == .function && sc.names.lookup n == some .cell) then (n, .cell) else (n, k) }
def vis (scope : Scope) (ρ : Rho) : Rho := ρ.filter fun p => scope.names.lookup p.1 == some .free

section
variable {c : Cx} {A : Around} {sc : Scope} {ρ : Rho} {pos : Pos} {E : Value → Shared → Prop}

theorem letGo_noop {tgt : PySem.Expr} {I : Addr} {v : Value} {s : Shared} {M : Model} {Q : Unit → Shared → Prop} (hI : ∃ o, s.heap.get? I = some o ∧ Itr o) (h : Q () s) : wpAny M A (letOwnedTupleGo tgt (.ref I) v) Q E s := by
  obtain ⟨o, ho, T, vs, h1, h2, h3⟩ := hI
  have key : ∀ a : Addr, wpAny M A (do
      let o ← load I
      match o.cls, o.data with
      | .type n, .fields vs =>
        if ownedIters.contains n && vs[0]? == some (rawInt a) then
          rule "for.unpacks-the-owned-tuple"
          updateField I 0 .none
      | _, _ => pure ()) Q E s := by
    intro a
    refine wpAny_bind (wpAny_load ho ?_)
    rw [h1, h2]
    dsimp only
    rw [h3]
    exact wpAny_pure h
  cases tgt
  case Tuple => cases v <;> first | exact wpAny_pure h | exact key _
  case List => cases v <;> first | exact wpAny_pure h | exact key _
  all_goals exact wpAny_pure h

/-- the tests of a comprehension -/
inductive Ts (c : Cx) (A : Around) (sc : Scope) (ρ : Rho) : List PySem.Expr → Bool → Prop
  | nil : Ts c A sc ρ [] true
  | one {t : PySem.Expr} {b : Bool} : Tr c A sc ρ t b → Ts c A sc ρ [t] b
theorem Ts.run {ifs : List PySem.Expr} {b : Bool} (h : Ts c A sc ρ ifs b) (r : ER) (X : Addr → Prop) (s : Shared) (hT : Ext c.h s.heap) (S : Sees sc r X s.heap ρ) :
    wpAny (model c.prog c.w) A (forIn ifs true fun t q => if q = true then do let ok ← isTrue t (En sc r) (eval t (En sc r)); pure (ForInStep.yield ok) else pure (ForInStep.yield q)) (fun v s' => Keeps s s' ∧ v = b) E s := by
  cases h with
  | nil => exact wpAny_tests_nil ⟨Keeps.refl s, rfl⟩
  | one h => exact wpAny_tests_one (wp_weak (h r X s hT S) fun _ _ x => x)

theorem noted_ok {α : Type} {M : Model} {env : Env} {m : Sem α} {Q : α → Shared → Prop} {E : Value → Shared → Prop} {s : Shared} (h : wpAny M A m Q no s) : wpAny M A m Q E s := wp_weak h fun _ _ x => x

/-- frames whose slots may turn -/
def Kz (Z : Addr → Prop) (h h' : Heap) : Prop := ∀ b o, h.get? b = some o → (¬ Z b → h'.get? b = some o) ∧ (Z b → ∃ sl, h'.get? b = some { o with slots := sl })
def KeepsZ (Z : Addr → Prop) (s s' : Shared) : Prop := ∃ h' tk, s' = { s with heap := h', toks := tk } ∧ Kz Z s.heap h'
def DictAt (h : Heap) (a : Addr) : Prop := ∃ o es n, h.get? a = some o ∧ o.data = .dict es n
def Zok (c : Cx) (Z : Addr → Prop) (X : Addr → Prop) (h : Heap) : Prop := ∀ a, Z a → X a ∧ DictAt h a ∧ c.h.get? a = none
theorem Kz.ext {Z : Addr → Prop} {h h' : Heap} (k : Ext h h') : Kz Z h h' := fun b o e => ⟨fun _ => k b o e, fun _ => ⟨o.slots, k b o e⟩⟩
theorem Kz.trans {Z : Addr → Prop} {h h' h'' : Heap} (x : Kz Z h h') (y : Kz Z h' h'') : Kz Z h h'' := fun b o e => ⟨fun hn => (y b o ((x b o e).1 hn)).1 hn, fun hz => by
  obtain ⟨sl, e'⟩ := (x b o e).2 hz
  obtain ⟨sl', e''⟩ := (y b _ e').2 hz
  exact ⟨sl', e''⟩⟩
theorem DictAt.kz {Z : Addr → Prop} {h h' : Heap} {a : Addr} (x : DictAt h a) (k : Kz Z h h') : DictAt h' a := by
  obtain ⟨o, es, n, ho, hd⟩ := x
  by_cases hz : Z a
  · obtain ⟨sl, e⟩ := (k a o ho).2 hz; exact ⟨_, es, n, e, hd⟩
  · exact ⟨o, es, n, (k a o ho).1 hz, hd⟩
theorem Zok.kz {c : Cx} {Z X : Addr → Prop} {h h' : Heap} (x : Zok c Z X h) (k : Kz Z h h') : Zok c Z X h' := fun a ha => ⟨(x a ha).1, (x a ha).2.1.kz k, (x a ha).2.2⟩
theorem Zok.leaves {c : Cx} {Z X : Addr → Prop} {h h' : Heap} (x : Zok c Z X h) (k : Kz Z h h') : Leaves X h h' := fun b o e hb => by
  by_cases hz : Z b
  · rcases hb with hb | ⟨_, vs, n, hd⟩
    · exact absurd (x b hz).1 hb
    · obtain ⟨o', es, n', ho', hd'⟩ := (x b hz).2.1
      rw [e] at ho'; cases ho'; rw [hd] at hd'; cases hd'
  · exact (k b o e).1 hz
theorem Zok.list {c : Cx} {Z X : Addr → Prop} {h h' : Heap} (x : Zok c Z X h) (k : Kz Z h h') {a : Addr} {its : Array Value} (hl : h.IsList a its) : h'.IsList a its := by
  obtain ⟨o, ho, hc, n, hd⟩ := hl
  refine ⟨o, (k a o ho).1 fun hz => ?_, hc, n, hd⟩
  obtain ⟨o', es, n', ho', hd'⟩ := (x a hz).2.1
  rw [ho] at ho'; cases ho'; rw [hd] at hd'; cases hd'
theorem Zok.top {c : Cx} {Z X : Addr → Prop} {h h' : Heap} (x : Zok c Z X h) (k : Kz Z h h') (hT : Ext c.h h) : Ext c.h h' := fun b o e => (k b o (hT b o e)).1 fun hz => by
  rw [(x b hz).2.2] at e; cases e
theorem Sees.kz {c : Cx} {sc : Scope} {r : ER} {Z X : Addr → Prop} {h h' : Heap} {ρ : Rho} (S : Sees sc r X h ρ) (x : Zok c Z X h) (k : Kz Z h h') : Sees sc r X h' ρ := by
  have hle := x.leaves k
  obtain ⟨hXo, hC, m, cm, F, H⟩ := S
  refine ⟨fun a ha => ?_, hC, m, cm, ⟨?_, fun n a ha => ?_, F.apart⟩, fun y d e => let ⟨v, h1, h2⟩ := H y d e; ⟨v, h1, h2.leaves hle⟩⟩
  · obtain ⟨o, e⟩ := hXo a ha
    by_cases hz : Z a
    · obtain ⟨sl, e'⟩ := (k a o e).2 hz; exact ⟨_, e'⟩
    · exact ⟨o, (k a o e).1 hz⟩
  · obtain ⟨o, es, ep, ho, hd, q⟩ := F.ns
    by_cases hz : Z r.L
    · obtain ⟨sl, e'⟩ := (k _ o ho).2 hz; exact ⟨_, es, ep, e', hd, q⟩
    · exact ⟨o, es, ep, (k _ o ho).1 hz, hd, q⟩
  · obtain ⟨o, ho, hd⟩ := F.cell n a ha
    by_cases hz : Z a
    · obtain ⟨sl, e'⟩ := (k a o ho).2 hz; exact ⟨_, e', hd⟩
    · exact ⟨o, (k a o ho).1 hz, hd⟩
/-- as Ev, where the slots of frames may turn -/
def EvZ (c : Cx) (A : Around) (sc : Scope) (ρ : Rho) (Z : Addr → Prop) (e : PySem.Expr) (d : Dd) : Prop :=
  ∀ (r : ER) (X : Addr → Prop) (s : Shared), Ext c.h s.heap → Sees sc r X s.heap ρ → Zok c Z X s.heap →
    wpAny (model c.prog c.w) A (eval e (En sc r)) (fun v s' => KeepsZ Z s s' ∧ Rd X s'.heap v d) no s
theorem Ev.z {Z : Addr → Prop} {e : PySem.Expr} {d : Dd} (h : Ev c A sc ρ e d) : EvZ c A sc ρ Z e d := fun r X s hT S _ =>
  wp_weak (h r X s hT S) fun v s' ⟨k, hr⟩ => ⟨by obtain ⟨h', tk, rfl, k⟩ := k; exact ⟨h', tk, rfl, Kz.ext k⟩, hr⟩

/-- one walk of a comprehension over its source -/
theorem comp_loop {α : Type} {elt tgt iter : PySem.Expr} {ifs : List PySem.Expr} {scope scC : Scope} {rC : ER} {I D : Addr} {X : Addr → Prop} {s : Shared} {R : Result → Shared → Prop} {ρf : Rho} {xs : List Str} {Z : Addr → Prop}
    (L : List α) (g : α → PyData) (pz : α → Bool) (f : α → PyData) (bs : α → Rho) (hh : A.handled = none) (hkC : scC.kind = .function)
    (hT : Ext c.h s.heap) (S : Sees scC rC X s.heap ρf) (hXI : X I) (hXD : X D) (hXW : ∀ a, Wr rC xs a → X a) (hDW : ¬ Wr rC xs D) (hDI : D ≠ I) (hIW : ¬ Wr rC xs I)
    (hD : s.heap.IsList D #[]) {fp : List Addr} {P : Nat → Value → Prop} {St : Nat → Heap → Prop} (W : Walks c.prog c.w A I fp [I] (L.map g).length P St) (hst : St 0 s.heap) (hfD : D ∉ fp) (hfW : ∀ b ∈ fp, ¬ Wr rC xs b) (hfZ : ∀ b ∈ fp, ¬ Z b) (hZ : Zok c Z X s.heap) (hZn : ∀ a, Z a → a ≠ I ∧ a ≠ D ∧ ¬ Wr rC xs a)
    (hP : ∀ i v, i < (L.map g).length → P i v → ∃ d, (L.map g)[i]? = some d ∧ Rd X s.heap v (.py d)) (hItr : ∀ i h', St i h' → ∃ o, h'.get? I = some o ∧ Itr o)
    (htop : ∀ b o, c.h.get? b = some o → b ≠ I ∧ b ≠ D ∧ ¬ Wr rC xs b)
    (htg : ∀ a ∈ L, Tg scC tgt (g a) xs (bs a)) (hdis : ∀ a ∈ L, ∀ x d, ρf.lookup x = some d → (bs a ++ ρf).lookup x = some d) (hte : ∀ a ∈ L, Ts c A scC (bs a ++ ρf) ifs (pz a)) (hel : ∀ a ∈ L, pz a = true → EvZ c A scC (bs a ++ ρf) Z elt (.py (f a))) (hlen : L.length ≤ sizeLine)
    (hR : ∀ h' tk ys, (∀ b o, s.heap.get? b = some o → b ≠ I → b ≠ D → ¬ Wr rC xs b → (¬ Z b → h'.get? b = some o) ∧ (Z b → ∃ sl, h'.get? b = some { o with slots := sl })) → h'.IsList D ys → RdAll X h' ys.toList ((L.filter pz).map f) → (∃ m, h'.Ns rC.L m) → R (.ok .next) { s with heap := h', toks := tk }) :
    codeAny (model c.prog c.w) A (.compLoop (.ListComp elt [⟨tgt, iter, ifs, 0⟩] scope pos) 0 (.ref I) (.ref D) (En scC rC)) R s := by
  refine codeAny_loop rfl (fun k s' => ∃ h' tk ys i, s' = { s with heap := h', toks := tk } ∧ i ≤ L.length ∧ k = L.length + 1 - i ∧ St i h' ∧
      (∀ b o, s.heap.get? b = some o → b ≠ I → b ≠ D → ¬ Wr rC xs b → (¬ Z b → h'.get? b = some o) ∧ (Z b → ∃ sl, h'.get? b = some { o with slots := sl })) ∧ h'.IsList D ys ∧ RdAll X h' ys.toList (((L.take i).filter pz).map f) ∧ Sees scC rC X h' ρf ∧ Leaves X s.heap h' ∧ Zok c Z X h') (fun k s' hI => ?_) (L.length + 1)
    ⟨s.heap, s.toks, #[], 0, rfl, Nat.zero_le _, rfl, hst, fun _ o e _ _ _ => ⟨fun _ => e, fun _ => ⟨o.slots, e⟩⟩, hD, by simpa using RdAll.nil, S, fun _ _ e _ => e, hZ⟩
  obtain ⟨h', tk, ys, i, rfl, hi, rfl, hsti, hkeep, hys, hry, Si, hLe, hZi⟩ := hI
  have e0 : (Code.compLoop (.ListComp elt [⟨tgt, iter, ifs, 0⟩] scope pos) 0 (.ref I) (.ref D) (En scC rC)).isFrame = false := rfl
  show wpAny _ A ((compTurn (.ListComp elt [⟨tgt, iter, ifs, 0⟩] scope pos) 0 (.ref I) (.ref D) (En scC rC)).onRaise (fun x => do noteFrame x (En scC rC); theTreesLotGoes x)) _ _ _
  refine wpAny_noted (noted_ok (env := En scC rC) ?_)
  rw [compTurn_list]
  refine wpAny_bind (wpAny_standAt (wpAny_bind ?_))
  have hlm : (L.map g).length = L.length := List.length_map ..
  by_cases hlt : i < L.length
  · -- an item
    refine W.item i _ _ _ (by rw [hlm]; exact hlt) hsti fun v h₁ tk₁ hPv hst₁ hk₁ => ?_
    obtain ⟨d, hd, rd⟩ := hP i v (by rw [hlm]; exact hlt) hPv
    obtain ⟨a, ha, rfl⟩ : ∃ a, L[i]? = some a ∧ d = g a := by
      rw [List.getElem?_map] at hd
      cases q : L[i]? with
      | none => rw [q] at hd; cases hd
      | some a => rw [q] at hd; cases hd; exact ⟨a, rfl, rfl⟩
    have haL : a ∈ L := List.mem_of_getElem? ha
    have k1 : ∀ b o, b ≠ I → h'.get? b = some o → h₁.get? b = some o := fun b o hb e => hk₁ b o (by simpa using hb) e
    have hI0 : ∃ o, h'.get? I = some o ∧ Loose o := let ⟨o, e, q⟩ := hItr i h' hsti; ⟨o, e, q.loose⟩
    have hI1 : ∃ o, h₁.get? I = some o ∧ Itr o := hItr (i + 1) h₁ hst₁
    have S1 : Sees scC rC X h₁ ρf := Si.one k1 hXI hI0 (let ⟨o, e, _⟩ := hI1; ⟨o, e⟩)
    have L1 : Leaves X h' h₁ := leaves_one k1 hXI hI0
    dsimp only
    refine wpAny_bind (letGo_noop hI1 ?_)
    have rv : Rd X h₁ v (.py (g a)) := (rd.leaves hLe).leaves L1
    refine wpAny_bind (asg (htg a haL) hkC hh (s := { s with heap := h₁, toks := tk₁ }) S1 hXW rv fun s₂ S₂ g₂ l₂ => ?_)
    obtain ⟨h₂, tk₂, rfl, k2⟩ := g₂
    dsimp only at S₂ k2 l₂
    have S2f : Sees scC rC X h₂ ρf := by
      obtain ⟨x1, x2, m, cm, F, H⟩ := S₂
      exact ⟨x1, x2, m, cm, F, fun x d e => H x d (hdis a haL x d e)⟩
    have hT2 : Ext c.h h₂ := fun b o e => by
      obtain ⟨n1, n2, n3⟩ := htop b o e
      exact k2 b o (k1 b o n1 ((hkeep b o (hT b o e) n1 n2 n3).1 fun hz => by rw [(hZ b hz).2.2] at e; cases e)) n3
    have keep2 : ∀ b o, s.heap.get? b = some o → b ≠ I → b ≠ D → ¬ Wr rC xs b → (¬ Z b → h₂.get? b = some o) ∧ (Z b → ∃ sl, h₂.get? b = some { o with slots := sl }) := fun b o e n1 n2 n3 =>
      ⟨fun hz => k2 b o (k1 b o n1 ((hkeep b o e n1 n2 n3).1 hz)) n3, fun hz => let ⟨sl, q⟩ := (hkeep b o e n1 n2 n3).2 hz; ⟨sl, k2 b _ (k1 b _ n1 q) n3⟩⟩
    have Z2 : Zok c Z X h₂ := fun a ha => by
      obtain ⟨z1, ⟨o, es, n, ho, hd⟩, z3⟩ := hZi a ha
      obtain ⟨n1, n2, n3⟩ := hZn a ha
      exact ⟨z1, ⟨o, es, n, k2 a o (k1 a o n1 ho) n3, hd⟩, z3⟩
    have st2 : St (i + 1) h₂ := W.frame _ _ _ hst₁ fun b hb o e => k2 b o e (hfW b hb)
    have hys2 : h₂.IsList D ys := by
      obtain ⟨o, ho, q⟩ := hys
      exact ⟨o, k2 D o (k1 D o hDI ho) hDW, q⟩
    have L2 : Leaves X h' h₂ := L1.trans l₂
    refine wpAny_bind (wpAny_mono ((hte a haL).run rC X { s with heap := h₂, toks := tk₂ } hT2 S₂) (fun ok s₃ h₃ => ?_) fun _ _ x => x)
    obtain ⟨⟨h₃, tk₃, rfl, k3⟩, rfl⟩ := h₃
    dsimp only at k3
    have htake : (L.take (i + 1)).filter pz = (L.take i).filter pz ++ (if pz a then [a] else []) := by
      rw [List.take_add_one, ha, List.filter_append]
      simp [List.filter_cons]
    cases hpa : pz a with
    | false =>
      simp only [Bool.false_eq_true, if_false]
      refine wpAny_pure ⟨rfl, L.length + 1 - (i + 1), by omega, h₃, tk₃, ys, i + 1, rfl, by omega, rfl, W.frame _ _ _ st2 fun b _ o e => k3 b o e, fun b o e n1 n2 n3 => ⟨fun hz => k3 b o ((keep2 b o e n1 n2 n3).1 hz), fun hz => let ⟨sl, q⟩ := (keep2 b o e n1 n2 n3).2 hz; ⟨sl, k3 b _ q⟩⟩, ?_, ?_, S2f.ext k3, (hLe.trans L2).trans (Leaves.of_ext k3), Z2.kz (Kz.ext k3)⟩
      · obtain ⟨o, ho, q⟩ := hys2; exact ⟨o, k3 D o ho, q⟩
      · rw [htake, hpa]; simpa using (hry.leaves L2).ext k3
    | true =>
      simp only [if_true]
      have hT3 : Ext c.h h₃ := fun b o e => k3 b o (hT2 b o e)
      refine wpAny_bind (wpAny_bind (wpAny_mono (hel a haL hpa rC X { s with heap := h₃, toks := tk₃ } hT3 (S₂.ext k3) (Z2.kz (Kz.ext k3))) (fun y s₄ h₄ => ?_) fun _ _ f => f.elim))
      obtain ⟨⟨h₄, tk₄, rfl, k4⟩, r4⟩ := h₄
      dsimp only at k4 r4
      have Z3 : Zok c Z X h₃ := Z2.kz (Kz.ext k3)
      have hys3 : h₃.IsList D ys := by obtain ⟨o, ho, q⟩ := hys2; exact ⟨o, k3 D o ho, q⟩
      have hys4 : h₄.IsList D ys := Z3.list k4 hys3
      have hry4 : RdAll X h₄ ys.toList (((L.take i).filter pz).map f) := ((hry.leaves L2).ext k3).leaves (Z3.leaves k4)
      have hsz : ys.size ≤ sizeLine := by
        have e1 := hry4.length
        have e2 : ((L.take i).filter pz).length ≤ (L.take i).length := List.length_filter_le _ _
        have e3 : (L.take i).length ≤ L.length := by rw [List.length_take]; omega
        rw [List.length_map] at e1
        have e4 : ys.toList.length = ys.size := by simp
        omega
      refine wpAny_bind (wpAny_list_append (s := { s with heap := h₄, toks := tk₄ }) (x := y) hys4 (fun h₅ hl₅ hs₅ => ?_) hsz)
      have k5 : ∀ b o, b ≠ D → h₄.get? b = some o → h₅.get? b = some o := fun b o hb e => hs₅.extBut b o hb e
      have L5 : Leaves X h₄ h₅ := leaves_one k5 hXD (isList_loose hys4)
      have S4 : Sees scC rC X h₄ ρf := (S2f.ext k3).kz Z3 k4
      have Z4 : Zok c Z X h₄ := Z3.kz k4
      refine wpAny_pure (wpAny_pure ⟨rfl, L.length + 1 - (i + 1), by omega, h₅, tk₄, ys.push y, i + 1, rfl, by omega, rfl, W.frame _ _ _ st2 fun b hb o e => k5 b o (fun q => hfD (q ▸ hb)) ((k4 b o (k3 b o e)).1 (hfZ b hb)),
        fun b o e n1 n2 n3 => ⟨fun hz => k5 b o n2 ((k4 b o (k3 b o ((keep2 b o e n1 n2 n3).1 hz))).1 hz), fun hz => by
          obtain ⟨sl, q⟩ := (keep2 b o e n1 n2 n3).2 hz
          obtain ⟨sl', q'⟩ := (k4 b _ (k3 b _ q)).2 hz
          exact ⟨sl', k5 b _ n2 q'⟩⟩, hl₅, ?_, S4.one k5 hXD (isList_loose hys4) (let ⟨o, ho, _⟩ := hl₅; ⟨o, ho⟩),
        (((hLe.trans L2).trans (Leaves.of_ext k3)).trans (Z3.leaves k4)).trans L5, fun a ha => by
          obtain ⟨z1, ⟨o, es, n, ho, hd⟩, z3⟩ := Z4 a ha
          exact ⟨z1, ⟨o, es, n, k5 a o (hZn a ha).2.1 ho, hd⟩, z3⟩⟩)
      rw [htake, hpa]
      simpa using (hry4.append (.cons r4 .nil)).leaves L5
  · -- the end
    have hie : i = L.length := by omega
    subst hie
    refine W.done _ _ _ (by rw [hlm]; exact hsti) fun h₁ tk₁ hk₁ => ?_
    have k1 : ∀ b o, b ≠ I → h'.get? b = some o → h₁.get? b = some o := fun b o hb e => hk₁ b o (by simpa using hb) e
    have hI0 : ∃ o, h'.get? I = some o ∧ Loose o := let ⟨o, e, q⟩ := hItr _ h' hsti; ⟨o, e, q.loose⟩
    have L1 : Leaves X h' h₁ := leaves_one k1 hXI hI0
    refine wpAny_pure (hR h₁ tk₁ ys (fun b o e n1 n2 n3 => ⟨fun hz => k1 b o n1 ((hkeep b o e n1 n2 n3).1 hz), fun hz => let ⟨sl, q⟩ := (hkeep b o e n1 n2 n3).2 hz; ⟨sl, k1 b _ n1 q⟩⟩) ?_ ?_ ?_)
    · obtain ⟨o, ho, q⟩ := hys; exact ⟨o, k1 D o hDI ho, q⟩
    · rw [List.take_length] at hry; exact hry.leaves L1
    · obtain ⟨_, _, m, _, F, _⟩ := Si
      obtain ⟨o', es, ep, ho', q⟩ := F.ns
      exact ⟨m, o', es, ep, k1 _ _ (fun e => hIW (e ▸ .inl rfl)) ho', q⟩
end
end Mine
end

section -- Comp3
open PySem PySem.W PyProof.Rows PySem.Spec PySem.Calls
set_option Elab.async false
set_option maxRecDepth 100000
set_option linter.unusedVariables false
namespace Mine
section
variable {c : Cx} {A : Around} {sc : Scope} {ρ : Rho} {pos : Pos} {E : Value → Shared → Prop}

mutual
theorem reads_data {h : Heap} : ∀ {v : Value} {d : PyData} {as : List Addr}, Reads h v d as → ∀ a ∈ as, ∃ o, h.get? a = some o ∧ ∀ vs, o.data ≠ .fields vs
  | _, _, _, .none, _, hm => nomatch hm
  | _, _, _, .bool b, _, hm => nomatch hm
  | _, _, _, .int i t, _, hm => nomatch hm
  | _, _, _, .str x t, _, hm => nomatch hm
  | _, _, _, .list h1 h2 h3 h4, a, hm => by
    rcases List.mem_cons.mp hm with rfl | hm
    · exact ⟨_, h1, fun vs e => by rw [h3] at e; cases e⟩
    · exact readsAll_data h4 a hm
  | _, _, _, .tuple h1 h2 h3 h4, a, hm => readsAll_data h4 a hm
  | _, _, _, .dict h1 h2 h3 h4 h5, a, hm => by
    rcases List.mem_cons.mp hm with rfl | hm
    · exact ⟨_, h1, fun vs e => by rw [h3] at e; cases e⟩
    · rcases List.mem_append.mp hm with hm | hm
      · exact readsAll_data h4 a hm
      · exact readsAll_data h5 a hm
theorem readsAll_data {h : Heap} : ∀ {vs : List Value} {ds : List PyData} {as : List Addr}, ReadsAll h vs ds as → ∀ a ∈ as, ∃ o, h.get? a = some o ∧ ∀ vs, o.data ≠ .fields vs
  | _, _, _, .nil, _, hm => nomatch hm
  | _, _, _, .cons h1 h2, a, hm => by
    rcases List.mem_append.mp hm with hm | hm
    · exact reads_data h1 a hm
    · exact readsAll_data h2 a hm
end
theorem vis_lookup {scope : Scope} {y : Str} {d : Dd} : ∀ {ρ : Rho}, (vis scope ρ).lookup y = some d → ρ.lookup y = some d ∧ scope.names.lookup y = some .free
  | [], h => nomatch h
  | (x, e) :: ρ, h => by
    unfold vis at h
    rw [List.filter_cons] at h
    cases q : scope.names.lookup x == some NameKind.free with
    | true =>
      simp only [q, if_true] at h
      rw [List.lookup_cons] at h ⊢
      cases hy : y == x with
      | true => rw [hy] at h; cases h; exact ⟨rfl, by rw [eq_of_beq hy]; exact eq_of_beq q⟩
      | false => rw [hy] at h; exact vis_lookup h
    | false =>
      simp only [q, Bool.false_eq_true, if_false] at h
      have ⟨h1, h2⟩ := vis_lookup h
      rw [List.lookup_cons]
      cases hy : y == x with
      | true => rw [eq_of_beq hy] at h2; rw [h2] at q; simp at q
      | false => exact ⟨h1, h2⟩
theorem rel_lookup {scope : Scope} {y : Str} : ∀ {names : List (Str × NameKind)}, 
    (names.map fun (n, k) => if (k == NameKind.free && sc.kind == .function && sc.names.lookup n == some .cell) then (n, NameKind.cell) else (n, k)).lookup y =
      (names.lookup y).map fun k => if (k == NameKind.free && sc.kind == .function && sc.names.lookup y == some .cell) then NameKind.cell else k
  | [] => rfl
  | (n, k) :: names => by
    rw [List.map_cons]
    have ih := @rel_lookup scope y names
    by_cases hc : (k == NameKind.free && sc.kind == .function && sc.names.lookup n == some .cell) = true
    · simp only [hc, if_true]
      rw [List.lookup_cons, List.lookup_cons]
      cases hy : y == n with
      | true => rw [eq_of_beq hy]; simp only [Option.map_some, hc, if_true]
      | false => exact ih
    · have hc' : (k == NameKind.free && sc.kind == .function && sc.names.lookup n == some .cell) = false := by simpa using hc
      simp only [hc', Bool.false_eq_true, if_false]
      rw [List.lookup_cons, List.lookup_cons]
      cases hy : y == n with
      | true => rw [eq_of_beq hy]; simp only [Option.map_some, hc', Bool.false_eq_true, if_false]
      | false => exact ih

/-- what a comprehension's scope must be beside the names at hand; xs: its own cells -/
structure CompOk (sc scope : Scope) (ρ : Rho) (xs : List Str) : Prop where
  kind : scope.kind = .function
  pkind : sc.kind = .function
  free : ∀ y, (y, NameKind.free) ∈ scope.names → (ρ.lookup y).isSome = true ∧ (sc.names.lookup y = some .cell ∨ sc.names.lookup y = some .free)
  loc : ∀ x ∈ scope.names, x.2 = .local → scope.names.lookup x.1 = some .local
  own : xs = [] ∨ ∃ x, xs = [x]
  cells : ∀ n cl, cellsFrom n scope.names cl = (xs.map fun x => (x, n)) ++ cl
  push : ∀ h, pushCells h scope.names = xs.foldl (fun h _ => h.push { cls := .type "cell", data := .cell none }) h
  ownCell : ∀ y ∈ xs, scope.names.lookup y = some .cell
  cellIn : ∀ y, scope.names.lookup y = some .cell → y ∈ xs

theorem newEnv_comp {M : Model} {scope : Scope} {r : ER} {cl : List (Str × Addr)} {s : Shared} {Q : Env → Shared → Prop}
    (h : Q { scope := scope, locals := s.heap.objs.size, globals := mainGlobals, cells := cellsFrom (s.heap.objs.size + 1) scope.names cl, qual := r.qual, func := none, code := r.code, frame := r.frame, builtins := builtinsNs }
      { s with heap := pushCells (s.heap.push { cls := .type "dict", data := .dict #[] }) scope.names }) :
    wpAny M A (newFunctionEnv scope mainGlobals cl [] r.qual none .none (some (En sc r))) Q E s := by
  simp only [newFunctionEnv, Option.isSome_some, if_true]
  refine wpAny_bind (wpAny_alloc ?_)
  refine wpAny_bind (wpAny_layCells _ (fun name kind cells => by cases hkc : kind == NameKind.cell <;> simp) _ _ _ _ ?_)
  rw [show ({ s with heap := s.heap.push { cls := .type "dict", data := .dict #[] } } : Shared).heap.objs.size = s.heap.objs.size + 1 from Heap.size_push ..]
  exact wpAny_bind (wpAny_pure (wpAny_pure h))

theorem comp_run {α : Type} {elt tgt iter : PySem.Expr} {ifs : List PySem.Expr} {scope : Scope} {r : ER} {I : Addr} {X : Addr → Prop} {s s₂ : Shared} {RR : Value → Addr → Result → Shared → Prop} {xs : List Str} {cl : List (Str × Addr)} {Z : Addr → Prop}
    (L : List α) (g : α → PyData) (pz : α → Bool) (f : α → PyData) (bs : α → Rho) (hh : A.handled = none) (O : CompOk sc scope ρ xs)
    (hT : Ext c.h s.heap) (S : Sees sc r X s₂.heap ρ) (hks : Ext s.heap s₂.heap) (hI : s.heap.get? I = none) (hWk : Wk c A X s₂.heap I (L.map g))
    (hcl1 : ∀ n a, cl.lookup n = some a → r.cells.lookup n = some a) (hcl2 : ∀ n, (n, NameKind.free) ∈ scope.names → (cl.lookup n).isSome = true)
    (htg : ∀ a ∈ L, Tg (rel sc scope) tgt (g a) xs (bs a)) (hdis : ∀ a ∈ L, ∀ x, ((bs a).lookup x).isSome = true → scope.names.lookup x ≠ some .free)
    (hte : ∀ a ∈ L, Ts c A (rel sc scope) (bs a ++ vis scope ρ) ifs (pz a)) (hel : ∀ a ∈ L, pz a = true → EvZ c A (rel sc scope) (bs a ++ vis scope ρ) Z elt (.py (f a))) (hlen : L.length ≤ sizeLine) (hZ : Zok c Z X s₂.heap)
    (hRR : ∀ D C h' tk, s₂.heap.get? D = none → s₂.heap.get? C = none → D ≠ C → (∃ m, h'.Ns C m) → (∀ b o, s₂.heap.get? b = some o → b ≠ I → (¬ Z b → h'.get? b = some o) ∧ (Z b → ∃ sl, h'.get? b = some { o with slots := sl })) →
      Rd (fun a => X a ∨ a = C) h' (.ref D) (dL ((L.filter pz).map f)) → RR (.ref D) C (.ok .next) { s₂ with heap := h', toks := tk }) :
    wpAny (model c.prog c.w) A (newList []) (fun acc s₃ => wpAny (model c.prog c.w) A (newFunctionEnv scope mainGlobals cl [] r.qual none .none (some (En sc r))) (fun cenv s₄ =>
      codeAny (model c.prog c.w) A (.compStart (.ListComp elt [⟨tgt, iter, ifs, 0⟩] scope pos) 0 (.ref I) acc { cenv with scope := relabel scope (En sc r) }) (RR acc cenv.locals) s₄) E s₃) E s₂ := by
  refine wpAny_newList (newEnv_comp ?_)
  dsimp only
  obtain ⟨fp, P, St, W, hst, hfp, hP, hItr, hfpX⟩ := hWk
  rw [O.push, O.cells]
  -- names for the new places
  generalize hD : s₂.heap.objs.size = D
  have hDn : s₂.heap.get? D = none := hD ▸ get_new _
  have hI2 : ∃ o, s₂.heap.get? I = some o := let ⟨o, e, _⟩ := hItr 0 _ hst; ⟨o, e⟩
  have hIlt : I < D := by obtain ⟨o, e⟩ := hI2; exact hD ▸ Heap.lt_size e
  have hsz3 : (s₂.heap.push { cls := .type "list", data := .seq ([] : List Value).toArray }).objs.size = D + 1 := by rw [Heap.size_push, hD]
  rw [hsz3]
  -- the heap with the frame, and with the cell
  generalize hH : xs.foldl (fun h _ => h.push { cls := .type "cell", data := .cell none }) ((s₂.heap.push { cls := .type "list", data := .seq ([] : List Value).toArray }).push { cls := .type "dict", data := .dict #[] }) = H
  have hk3 : Ext s₂.heap H := by
    intro b o e
    have e1 := Heap.get?_push_of_some { cls := .type "dict", data := .dict #[] } (Heap.get?_push_of_some { cls := .type "list", data := .seq ([] : List Value).toArray } e)
    rw [← hH]
    rcases O.own with rfl | ⟨x, rfl⟩
    · exact e1
    · exact Heap.get?_push_of_some _ e1
  have hDl : H.IsList D #[] := by
    have e1 : ((s₂.heap.push { cls := .type "list", data := .seq ([] : List Value).toArray }).push { cls := .type "dict", data := .dict #[] }).get? D = some { cls := .type "list", data := .seq ([] : List Value).toArray } :=
      Heap.get?_push_of_some _ (hD ▸ Heap.get?_push_size _ rfl)
    rw [← hH]
    rcases O.own with rfl | ⟨x, rfl⟩
    · exact ⟨_, e1, rfl, _, rfl⟩
    · exact ⟨_, Heap.get?_push_of_some _ e1, rfl, _, rfl⟩
  have hCn : H.Ns (D + 1) fun _ => none := by
    have e1 : ((s₂.heap.push { cls := .type "list", data := .seq ([] : List Value).toArray }).push { cls := .type "dict", data := .dict #[] }).Ns (D + 1) fun _ => none := by
      rw [← hsz3]; exact Heap.Ns.new _ (.type "dict")
    rw [← hH]
    rcases O.own with rfl | ⟨x, rfl⟩
    · exact e1
    · exact e1.push _
  have hcell : ∀ x ∈ xs, H.IsCell (D + 1 + 1) none := by
    intro x hx
    rw [← hH]
    rcases O.own with rfl | ⟨y, rfl⟩
    · cases hx
    · have : ((s₂.heap.push { cls := .type "list", data := .seq ([] : List Value).toArray }).push { cls := .type "dict", data := .dict #[] }).objs.size = D + 1 + 1 := by rw [Heap.size_push, hsz3]
      exact ⟨_, this ▸ Heap.get?_push_size _ rfl, rfl⟩
  have fresh2 : ∀ a, D ≤ a → s₂.heap.get? a = none := fun a ha => by
    cases q : s₂.heap.get? a with
    | none => rfl
    | some o => exact absurd (hD ▸ Heap.lt_size q) (Nat.not_lt.mpr ha)
  let rC : ER := ⟨D + 1, (xs.map fun x => (x, D + 1 + 1)) ++ cl, r.qual, none, r.code, r.frame⟩
  obtain ⟨hXo, hCo, m₀, cm₀, F₀, H₀⟩ := S
  -- where a cell of the new frame lies
  have hlk : ∀ n a, rC.cells.lookup n = some a → (n ∈ xs ∧ a = D + 1 + 1) ∨ (n ∉ xs ∧ r.cells.lookup n = some a) := by
    intro n a hn
    show _
    rcases O.own with e | ⟨x, e⟩
    · right
      have : rC.cells = cl := by show (xs.map _) ++ cl = cl; rw [e]; rfl
      rw [this] at hn
      exact ⟨by rw [e]; simp, hcl1 n a hn⟩
    · have : rC.cells = (x, D + 1 + 1) :: cl := by show (xs.map _) ++ cl = _; rw [e]; rfl
      rw [this, List.lookup_cons] at hn
      cases hq : n == x with
      | true => rw [hq] at hn; cases hn; left; exact ⟨by rw [e, eq_of_beq hq]; simp, rfl⟩
      | false =>
        rw [hq] at hn
        right
        exact ⟨by rw [e]; simpa using hq, hcl1 n a hn⟩
  have hlk2 : ∀ n, n ∈ xs ∨ (cl.lookup n).isSome = true → (rC.cells.lookup n).isSome = true := by
    intro n hn
    rcases O.own with e | ⟨x, e⟩
    · have : rC.cells = cl := by show (xs.map _) ++ cl = cl; rw [e]; rfl
      rw [this]
      rcases hn with hn | hn
      · rw [e] at hn; cases hn
      · exact hn
    · have : rC.cells = (x, D + 1 + 1) :: cl := by show (xs.map _) ++ cl = _; rw [e]; rfl
      rw [this, List.lookup_cons]
      cases hq : n == x with
      | true => rfl
      | false =>
        rcases hn with hn | hn
        · rw [e] at hn; simp at hn; rw [hn] at hq; simp at hq
        · exact hn
  have hWr : ∀ a, Wr rC xs a → a = D + 1 ∨ (a = D + 1 + 1 ∧ ∃ x, x ∈ xs) := by
    rintro a (rfl | ⟨x, hx, hc⟩)
    · exact .inl rfl
    · rcases hlk x a hc with ⟨_, e⟩ | ⟨hn, _⟩
      · exact .inr ⟨e, x, hx⟩
      · exact absurd hx hn
  have hWlt : ∀ a, a ≤ D → ¬ Wr rC xs a := fun a ha hw => by
    rcases hWr a hw with e | ⟨e, _⟩ <;> (have e' : (a : Nat) = _ := e; omega)
  let Xc : Addr → Prop := fun a => X a ∨ a = I ∨ a = D ∨ Wr rC xs a
  have hXc : ∀ a, Xc a → X a ∨ a = I ∨ D ≤ a := by
    rintro a (h | h | h | h)
    · exact .inl h
    · exact .inr (.inl h)
    · exact .inr (.inr (Nat.le_of_eq h.symm))
    · rcases hWr a h with e | ⟨e, _⟩ <;> first | exact .inr (.inr (e ▸ Nat.le_succ D)) | exact .inr (.inr (e ▸ Nat.le_succ_of_le (Nat.le_succ D)))
  have hIi : ∃ o, s₂.heap.get? I = some o ∧ Itr o := hItr 0 _ hst
  have av : ∀ {v : Value} {d : Dd}, Rd X s₂.heap v d → Rd Xc H v d := by
    intro v d hr
    cases d with
    | raw u => exact hr
    | py pd =>
      obtain ⟨as, q, ha⟩ := hr
      refine Rd.ext ⟨as, q, fun a hm hx => ?_⟩ hk3
      rcases hXc a hx with h | h | h
      · exact ha a hm h
      · obtain ⟨o, ho, hd⟩ := reads_data q a hm
        obtain ⟨o', ho', T, vs, _, hd', _⟩ := hIi
        rw [h, ho'] at ho; cases ho; exact hd vs hd'
      · obtain ⟨o, ho⟩ := reads_some q a hm; rw [fresh2 a h] at ho; cases ho
  have cellOld : ∀ n a, r.cells.lookup n = some a → a < D := fun n a hn => by
    obtain ⟨o, ho, _⟩ := F₀.cell n a hn; exact hD ▸ Heap.lt_size ho
  have SC : Sees (rel sc scope) rC Xc H (vis scope ρ) := by
    refine ⟨?_, ?_, (fun _ => none), (fun n => if n ∈ xs then none else cm₀ n), ⟨hCn, ?_, ?_⟩, ?_⟩
    · rintro a (h | h | h | h)
      · obtain ⟨o, e⟩ := hXo a h; exact ⟨o, hk3 _ _ e⟩
      · obtain ⟨o, e⟩ := hI2; exact ⟨o, hk3 _ _ (h ▸ e)⟩
      · obtain ⟨o, e, _⟩ := hDl; exact ⟨o, h ▸ e⟩
      · rcases hWr a h with e | ⟨e, x, hx⟩
        · obtain ⟨o, _, _, ho, _⟩ := hCn; exact ⟨o, e ▸ ho⟩
        · obtain ⟨o, ho, _⟩ := hcell x hx; exact ⟨o, e ▸ ho⟩
    · intro y hy
      apply hlk2
      have hy' : (scope.names.lookup y).map (fun k => if (k == NameKind.free && sc.kind == .function && sc.names.lookup y == some .cell) then NameKind.cell else k) = some .cell := by
        rw [← rel_lookup (scope := scope)]; exact hy
      cases q : scope.names.lookup y with
      | none => rw [q] at hy'; cases hy'
      | some k =>
        rw [q] at hy'
        simp only [Option.map_some, Option.some.injEq] at hy'
        by_cases hk : k = .cell
        · exact .inl (O.cellIn y (hk ▸ q))
        · by_cases hk' : k = .free
          · exact .inr (hcl2 y (hk' ▸ mem_of_lookup q))
          · have : (k == NameKind.free) = false := by simpa using hk'
            rw [this] at hy'
            simp only [Bool.false_and, Bool.false_eq_true, if_false] at hy'
            exact absurd hy' hk
    · intro n a hn
      rcases hlk n a hn with ⟨hx, e⟩ | ⟨hx, hn'⟩
      · simp only [hx, if_true]; rw [e]; exact hcell n hx
      · simp only [hx, if_false]; exact (F₀.cell n a hn').keeps hk3
    · intro x y a hx hy
      rcases hlk x a hx with ⟨h1, e1⟩ | ⟨h1, e1⟩ <;> rcases hlk y a hy with ⟨h2, e2⟩ | ⟨h2, e2⟩
      · rcases O.own with e | ⟨z, e⟩
        · rw [e] at h1; cases h1
        · rw [e] at h1 h2; simp at h1 h2; rw [h1, h2]
      · exact absurd (cellOld y a e2) (by rw [e1]; exact Nat.not_lt.mpr (Nat.le_succ_of_le (Nat.le_succ D)))
      · exact absurd (cellOld x a e1) (by rw [e2]; exact Nat.not_lt.mpr (Nat.le_succ_of_le (Nat.le_succ D)))
      · exact F₀.apart x y a e1 e2
    · intro y d hy
      obtain ⟨hy1, hy2⟩ := vis_lookup hy
      obtain ⟨v, hv, hr⟩ := H₀ y d hy1
      have hyx : y ∉ xs := fun hm => by
        rw [O.ownCell y hm] at hy2; cases hy2
      refine ⟨v, ?_, av hr⟩
      have hyc := hlk2 y (.inr (hcl2 y (mem_of_lookup hy2)))
      have hk2 := (O.free y (mem_of_lookup hy2)).2
      have hv' : cm₀ y = some v := by
        unfold vl at hv
        rcases hk2 with e | e <;> rw [e] at hv <;> dsimp only at hv <;> split at hv <;> first | exact hv | cases hv
      unfold vl
      have hrl : (rel sc scope).names.lookup y = some (if (NameKind.free == NameKind.free && sc.kind == .function && sc.names.lookup y == some .cell) then NameKind.cell else NameKind.free) := by
        show List.lookup y (scope.names.map _) = _
        rw [rel_lookup (scope := scope), hy2]; rfl
      rw [hrl]
      by_cases hq : (NameKind.free == NameKind.free && sc.kind == .function && sc.names.lookup y == some .cell) = true
      · rw [if_pos hq]; dsimp only; rw [if_pos hyc]; simp only [hyx, if_false]; exact hv'
      · rw [if_neg hq]; dsimp only; rw [if_pos hyc]; simp only [hyx, if_false]; exact hv'
  have hkI : ∀ b o, c.h.get? b = some o → b ≠ I := fun b o e q => by
    have := hT b o e; rw [q, hI] at this; cases this
  have hlt : ∀ b o, c.h.get? b = some o → b < D := fun b o e => hD ▸ Heap.lt_size (hks _ _ (hT b o e))
  have ZH : Zok c Z Xc H := fun a ha => ⟨.inl (hZ a ha).1, let ⟨o, es, n, ho, hd⟩ := (hZ a ha).2.1; ⟨o, es, n, hk3 _ _ ho, hd⟩, (hZ a ha).2.2⟩
  have ZI : ∀ a, Z a → a ≠ I := fun a ha e => by
    obtain ⟨o, es, n, ho, hd⟩ := (hZ a ha).2.1
    obtain ⟨o', ho', T, vs, _, hd', _⟩ := hIi
    rw [e, ho'] at ho; cases ho; rw [hd] at hd'; cases hd'
  have ZD : ∀ a, Z a → a < D := fun a ha => by
    obtain ⟨o, es, n, ho, hd⟩ := (hZ a ha).2.1
    exact hD ▸ Heap.lt_size ho
  have fpZ : ∀ b ∈ fp, ¬ Z b := fun b hb hz => by
    rcases hfpX b hb with e | ⟨e, _⟩ | ⟨o, vs, n, ho, _, hd⟩
    · exact ZI b hz e
    · exact e (hZ b hz).1
    · obtain ⟨o', es, n', ho', hd'⟩ := (hZ b hz).2.1
      rw [ho] at ho'; cases ho'; rw [hd] at hd'; cases hd'
  -- the walk
  have loop : codeAny (model c.prog c.w) A (.compLoop (.ListComp elt [⟨tgt, iter, ifs, 0⟩] scope pos) 0 (.ref I) (.ref D) (En (rel sc scope) rC)) (RR (.ref D) (D + 1)) { s₂ with heap := H } := by
    refine comp_loop (xs := xs) (ρf := vis scope ρ) (X := Xc) L g pz f bs hh O.kind (fun b o e => hk3 b o (hks b o (hT b o e))) SC (.inr (.inl rfl)) (.inr (.inr (.inl rfl))) (fun a ha => .inr (.inr (.inr ha))) (hWlt D (Nat.le_refl _)) (Nat.ne_of_gt hIlt)
      (hWlt I (Nat.le_of_lt hIlt)) hDl W (W.frame _ _ _ hst fun b _ o e => hk3 b o e) (fun hm => Nat.lt_irrefl _ (hD ▸ hfp D hm)) (fun b hb => hWlt b (Nat.le_of_lt (hD ▸ hfp b hb))) fpZ ZH (fun a ha => ⟨ZI a ha, Nat.ne_of_lt (ZD a ha), hWlt a (Nat.le_of_lt (ZD a ha))⟩)
      (fun i v hi hp => let ⟨d, h1, h2⟩ := hP i v hi hp; ⟨d, h1, av h2⟩) hItr (fun b o e => ⟨hkI b o e, Nat.ne_of_lt (hlt b o e), hWlt b (Nat.le_of_lt (hlt b o e))⟩)
      htg (fun a ha x d hx => ?_) hte hel hlen fun h' tk ys hk' hl' hr' hm' => ?_
    · rw [List.lookup_append]
      cases q : (bs a).lookup x with
      | none => exact hx
      | some e => exact absurd (vis_lookup hx).2 (hdis a ha x (by rw [q]; rfl))
    · refine hRR D (D + 1) h' tk hDn (fresh2 _ (Nat.le_succ _)) (Nat.ne_of_lt (Nat.lt_succ_self _)) hm' (fun b o e hb => ?_) ?_
      · have hbD : b < D := hD ▸ Heap.lt_size e
        exact hk' b o (hk3 b o e) hb (Nat.ne_of_lt hbD) (hWlt b (Nat.le_of_lt hbD))
      · refine Rd.list hl' ?_ (hr'.avoid fun a ha => ?_)
        · rintro (h | h)
          · exact hXo.none hDn h
          · exact absurd h (Nat.ne_of_lt (Nat.lt_succ_self _))
        · rcases ha with h | h
          · exact .inl (.inl h)
          · exact .inl (.inr (.inr (.inr (h ▸ .inl rfl))))
  exact codeAny_compStart_list loop (W.self 0 _ _ _ (W.frame _ _ _ hst fun b _ o e => hk3 b o e) loop)

theorem comp_cells {scope : Scope} {xs : List Str} {r : ER} {X : Addr → Prop} {h : Heap} (O : CompOk sc scope ρ xs) (S : Sees sc r X h ρ) : ∀ n, (n, NameKind.free) ∈ scope.names → ∃ a, (En sc r).cells.lookup n = some a := by
  intro n hn
  obtain ⟨h1, h2⟩ := O.free n hn
  obtain ⟨d, hd⟩ := Option.isSome_iff_exists.mp h1
  obtain ⟨_, _, m, cm, F, H⟩ := S
  obtain ⟨v, hv, _⟩ := H n d hd
  unfold vl at hv
  have : (r.cells.lookup n).isSome = true := by
    rcases h2 with e | e <;> rw [e] at hv <;> dsimp only at hv <;> split at hv <;> first | assumption | cases hv
  exact Option.isSome_iff_exists.mp this

theorem EvZ.comp {α : Type} {Z : Addr → Prop} {elt tgt iter : PySem.Expr} {ifs : List PySem.Expr} {scope : Scope} {xs : List Str} (L : List α) (g : α → PyData) (pz : α → Bool) (f : α → PyData) (bs : α → Rho) (hh : A.handled = none) (O : CompOk sc scope ρ xs)
    (hsrc : Src c A sc ρ iter (L.map g)) (htg : ∀ a ∈ L, Tg (rel sc scope) tgt (g a) xs (bs a)) (hdis : ∀ a ∈ L, ∀ x, ((bs a).lookup x).isSome = true → scope.names.lookup x ≠ some .free)
    (hte : ∀ a ∈ L, Ts c A (rel sc scope) (bs a ++ vis scope ρ) ifs (pz a)) (hel : ∀ a ∈ L, pz a = true → EvZ c A (rel sc scope) (bs a ++ vis scope ρ) Z elt (.py (f a))) (hlen : L.length ≤ sizeLine)
    (hs : ∀ env x, foldedSetIterable iter env x = pure x := by intro _ _; rfl) : EvZ c A sc ρ Z (.ListComp elt [⟨tgt, iter, ifs, 0⟩] scope pos) (dL ((L.filter pz).map f)) := by
  intro r X s hT S hZ
  rw [eval_ListComp]
  obtain ⟨cl, hcl, hcl1, hcl2⟩ := closure_is (scope := scope) (env := En sc r) (comp_cells O S)
  refine wpAny_comprehension_free (use := none) rfl (hs _) hcl O.kind O.loc (wpAny_mono (hsrc r X s hT S) (fun xv s₁ h₁ => wpAny_mono h₁ (fun it s₂ h₂ => ?_) fun _ _ e => e.elim) fun _ _ e => e.elim)
  obtain ⟨I, rfl, k₂, hI, hWk⟩ := h₂
  have x₂ := Keeps.ext k₂
  refine comp_run (s := s) (s₂ := s₂) (RR := fun acc C => compPost (model c.prog c.w) A no none (fun v s' => KeepsZ Z s s' ∧ Rd X s'.heap v (dL ((L.filter pz).map f))) acc C) L g pz f bs hh O hT (S.ext x₂) x₂ hI hWk hcl1 hcl2 htg hdis hte hel hlen (hZ.kz (Kz.ext x₂)) ?_
  intro D C h' tk hD hC hDC ⟨m, hm⟩ hk' hr
  refine ⟨m, hm, fun h'' hs'' => ⟨?_ , ?_⟩⟩
  · obtain ⟨h₂, tk₂, rfl, _⟩ := k₂
    refine ⟨h'', tk, rfl, fun b o e => ?_⟩
    have n1 : b ≠ C := fun q => by have := x₂ b o e; rw [q, hC] at this; cases this
    have n2 : b ≠ I := fun q => by rw [q, hI] at e; cases e
    have kk := hk' b o (x₂ b o e) n2
    exact ⟨fun hz => hs''.extBut b o n1 (kk.1 hz), fun hz => let ⟨sl, q⟩ := kk.2 hz; ⟨sl, hs''.extBut b _ n1 q⟩⟩
  · refine (hr.leaves (h' := h'') (fun b o e hb => ?_)).avoid fun a ha => .inl (.inl ha)
    by_cases hbC : b = C
    · subst hbC
      rcases hb with hb | ⟨_, vs, n, hd⟩
      · exact absurd (.inr rfl) hb
      · obtain ⟨o', _, _, ho', hd', _⟩ := hm
        rw [e] at ho'; cases ho'; rw [hd] at hd'; cases hd'
    · exact hs''.extBut b o hbC e

theorem Ev.comp {α : Type} {elt tgt iter : PySem.Expr} {ifs : List PySem.Expr} {scope : Scope} {xs : List Str} (L : List α) (g : α → PyData) (pz : α → Bool) (f : α → PyData) (bs : α → Rho) (hh : A.handled = none) (O : CompOk sc scope ρ xs)
    (hsrc : Src c A sc ρ iter (L.map g)) (htg : ∀ a ∈ L, Tg (rel sc scope) tgt (g a) xs (bs a)) (hdis : ∀ a ∈ L, ∀ x, ((bs a).lookup x).isSome = true → scope.names.lookup x ≠ some .free)
    (hte : ∀ a ∈ L, Ts c A (rel sc scope) (bs a ++ vis scope ρ) ifs (pz a)) (hel : ∀ a ∈ L, pz a = true → Ev c A (rel sc scope) (bs a ++ vis scope ρ) elt (.py (f a))) (hlen : L.length ≤ sizeLine)
    (hs : ∀ env x, foldedSetIterable iter env x = pure x := by intro _ _; rfl) : Ev c A sc ρ (.ListComp elt [⟨tgt, iter, ifs, 0⟩] scope pos) (dL ((L.filter pz).map f)) := fun r X s hT S =>
  wp_weak (EvZ.comp (Z := fun _ => False) (pos := pos) L g pz f bs hh O hsrc htg hdis hte (fun a ha hp => (hel a ha hp).z) hlen hs r X s hT S fun _ h => h.elim) fun v s' ⟨k, hr⟩ =>
    ⟨by obtain ⟨h', tk, rfl, k⟩ := k; exact ⟨h', tk, rfl, fun b o e => (k b o e).1 id⟩, hr⟩
end
end Mine
end

section -- Stm
open PySem PySem.W PyProof.Rows PySem.Spec PySem.Calls
set_option Elab.async false
set_option maxRecDepth 100000
set_option linter.unusedVariables false
namespace Mine
/-- what an own list holds: data, or values as they stand -/
inductive Ct where
  | data (ds : List PyData)
  | vals (vs : List Value)
abbrev Own := List (Addr × Ct)
def OwnAt (X : Addr → Prop) (h : Heap) (a : Addr) : Ct → Prop
  | .data ds => ∃ vs : List Value, h.PlainList a vs.toArray ∧ RdAll X h vs ds
  | .vals vs => h.PlainList a vs.toArray
/-- the places that the frame may change -/
def mu (r : ER) (own : Own) (a : Addr) : Prop := a = r.L ∨ (∃ n, r.cells.lookup n = some a) ∨ ∃ ct, (a, ct) ∈ own
def Xs (X₀ : Addr → Prop) (r : ER) (own : Own) (a : Addr) : Prop := X₀ a ∨ mu r own a

structure St (c : Cx) (b : Shared) (Mx : Addr → Prop) (sc : Scope) (r : ER) (X₀ : Addr → Prop) (own : Own) (ρ : Rho) (s : Shared) : Prop where
  chg : Chg Mx b s
  top : Ext c.h s.heap
  x0 : ∀ a, X₀ a → ¬ mu r own a
  mutb : ∀ a, mu r own a → (Mx a ∨ b.heap.get? a = none) ∧ c.h.get? a = none
  sees : Sees sc r (Xs X₀ r own) s.heap ρ
  owned : ∀ a ct, (a, ct) ∈ own → OwnAt (Xs X₀ r own) s.heap a ct
  nodup : (own.map (·.1)).Nodup

theorem OwnAt.leaves {X : Addr → Prop} {h h' : Heap} {a : Addr} {ct : Ct} (x : OwnAt X h a ct) (hl : Leaves X h h') (ha : ∀ o, h.get? a = some o → h'.get? a = some o) : OwnAt X h' a ct := by
  cases ct with
  | data ds => obtain ⟨vs, h1, h2⟩ := x; exact ⟨vs, h1.at ha, h2.leaves hl⟩
  | vals vs => exact Heap.PlainList.at x ha
theorem OwnAt.list {X : Addr → Prop} {h : Heap} {a : Addr} {ct : Ct} (x : OwnAt X h a ct) : ∃ its, h.IsList a its := by
  cases ct with
  | data ds => obtain ⟨vs, h1, _⟩ := x; exact ⟨_, h1.isList⟩
  | vals vs => exact ⟨_, Heap.PlainList.isList x⟩
theorem OwnAt.avoid {X Y : Addr → Prop} {h : Heap} {a : Addr} {ct : Ct} (x : OwnAt X h a ct) (hY : ∀ a, Y a → X a ∨ h.get? a = none) : OwnAt Y h a ct := by
  cases ct with
  | data ds => obtain ⟨vs, h1, h2⟩ := x; exact ⟨vs, h1, h2.avoid hY⟩
  | vals vs => exact x

section
variable {c : Cx} {A : Around} {b : Shared} {Mx : Addr → Prop} {sc : Scope} {r : ER} {X₀ : Addr → Prop} {own : Own} {ρ : Rho} {s s' : Shared} {pos : Pos} {E : Value → Shared → Prop}

theorem St.keeps (T : St c b Mx sc r X₀ own ρ s) (k : Keeps s s') : St c b Mx sc r X₀ own ρ s' where
  chg := T.chg.trans (Chg.of_keeps (W := fun _ => False) k) fun _ _ _ h => h.elim
  top := fun a o e => Keeps.ext k a o (T.top a o e)
  x0 := T.x0
  mutb := T.mutb
  sees := T.sees.ext (Keeps.ext k)
  owned := fun a ct h => (T.owned a ct h).leaves (.of_ext (Keeps.ext k)) fun o e => Keeps.ext k a o e
  nodup := T.nodup
/-- the frame's own object alone -/
abbrev Zr (r : ER) : Addr → Prop := fun a => a = r.L
theorem St.zok (T : St c b Mx sc r X₀ own ρ s) : Zok c (Zr r) (Xs X₀ r own) s.heap := fun a ha => by
  subst ha
  refine ⟨.inr (.inl rfl), ?_, (T.mutb _ (.inl rfl)).2⟩
  obtain ⟨_, _, m, cm, F, _⟩ := T.sees
  obtain ⟨o, es, n, ho, hd, _⟩ := F.ns
  exact ⟨o, es, n, ho, hd⟩
theorem St.keepsZ (T : St c b Mx sc r X₀ own ρ s) (k : KeepsZ (Zr r) s s') : St c b Mx sc r X₀ own ρ s' := by
  have hz := T.zok
  obtain ⟨h', tk, rfl, k⟩ := k
  exact {
    chg := T.chg.trans (show Chg (Zr r) s { s with heap := h', toks := tk } from ⟨h', tk, rfl, fun a o e hn => (k a o e).1 hn⟩) fun a o e hw => by
      subst hw
      rcases (T.mutb _ (.inl rfl)).1 with h | h
      · exact h
      · rw [h] at e; cases e
    top := hz.top k T.top
    x0 := T.x0
    mutb := T.mutb
    sees := T.sees.kz hz k
    owned := fun a ct h => by
      refine (T.owned a ct h).leaves (hz.leaves k) fun o e => (k a o e).1 fun hza => ?_
      obtain ⟨its, o', ho', hc, n, hd⟩ := (T.owned a ct h).list
      obtain ⟨o₂, es, n₂, h₂, hd₂⟩ := (hz a hza).2.1
      rw [ho'] at h₂; cases h₂; rw [hd] at hd₂; cases hd₂
    nodup := T.nodup }
theorem Sees.weak {sc : Scope} {r : ER} {X : Addr → Prop} {h : Heap} {ρ ρ' : Rho} (S : Sees sc r X h ρ) (hs : ∀ x d, ρ'.lookup x = some d → ρ.lookup x = some d) : Sees sc r X h ρ' :=
  let ⟨h1, h2, m, cm, F, H⟩ := S; ⟨h1, h2, m, cm, F, fun x d e => H x d (hs x d e)⟩
theorem St.weak {ρ' : Rho} (T : St c b Mx sc r X₀ own ρ s) (hs : ∀ x d, ρ'.lookup x = some d → ρ.lookup x = some d) : St c b Mx sc r X₀ own ρ' s :=
  { T with sees := T.sees.weak hs }
/-- entry by entry -/
theorem sub_nil {ρ : Rho} : ∀ x d, List.lookup x ([] : Rho) = some d → ρ.lookup x = some d := fun _ _ h => nomatch h
theorem sub_cons {ρ ρ' : Rho} {y : Str} {e : Dd} (h : ρ.lookup y = some e) (hs : ∀ x d, List.lookup x ρ' = some d → ρ.lookup x = some d) : ∀ x d, List.lookup x ((y, e) :: ρ') = some d → ρ.lookup x = some d := by
  intro x d hx
  rw [List.lookup_cons] at hx
  cases q : x == y with
  | true => rw [q] at hx; cases hx; rw [eq_of_beq q]; exact h
  | false => rw [q] at hx; exact hs x d hx

/-- a change of one of the frame's own places that is no list of its own: what a store leaves -/
theorem St.stored (T : St c b Mx sc r X₀ own ρ s) {xs : List Str} {ρ' : Rho} (S : Sees sc r (Xs X₀ r own) s'.heap ρ') (g : Chg (Wr r xs) s s') (l : Leaves (Xs X₀ r own) s.heap s'.heap) : St c b Mx sc r X₀ own ρ' s' where
  chg := T.chg.trans g fun a o e hw => by
    have hm : mu r own a := by
      rcases hw with h | ⟨x, _, h⟩
      · exact .inl h
      · exact .inr (.inl ⟨x, h⟩)
    rcases (T.mutb a hm).1 with h | h
    · exact h
    · rw [h] at e; cases e
  top := fun a o e => g.get a o (T.top a o e) fun hw => by
    have hm : mu r own a := by
      rcases hw with h | ⟨x, _, h⟩
      · exact .inl h
      · exact .inr (.inl ⟨x, h⟩)
    rw [(T.mutb a hm).2] at e; cases e
  x0 := T.x0
  mutb := T.mutb
  sees := S
  owned := fun a ct h => (T.owned a ct h).leaves l fun o e => g.get a o e fun hw => by
    obtain ⟨its, hl⟩ := (T.owned a ct h).list
    obtain ⟨o', ho', hc, n, hd⟩ := hl
    obtain ⟨_, _, m, cm, F, _⟩ := T.sees
    rcases hw with h | ⟨x, _, h⟩
    · obtain ⟨o₂, _, _, h₂, hd₂, _⟩ := F.ns
      rw [← h, ho'] at h₂; cases h₂; rw [hd] at hd₂; cases hd₂
    · obtain ⟨o₂, h₂, hd₂⟩ := F.cell x a h
      rw [ho'] at h₂; cases h₂; rw [hd] at hd₂; cases hd₂
  nodup := T.nodup

def Own1 (sc : Scope) (x : Str) : Prop := sc.names.lookup x = some .local ∨ sc.names.lookup x = some .cell
theorem St.store (T : St c b Mx sc r X₀ own ρ s) {x : Str} (hx : Own1 sc x) (hk : sc.kind = .function) {v : Value} {d : Dd} (hv : Rd (Xs X₀ r own) s.heap v d) {Q : Unit → Shared → Prop}
    (h : ∀ s', St c b Mx sc r X₀ own ((x, d) :: ρ) s' → Q () s') : wpAny (model c.prog c.w) A (storeName (En sc r) x v) Q E s := by
  rcases hx with hx | hx
  · exact store_loc hx hk T.sees (fun a ha => .inr (by rcases ha with ha | ⟨_, h, _⟩; exact .inl ha; cases h)) hv fun s' S g l => h s' (T.stored S g l)
  · exact store_cell hx hk T.sees (fun a ha => .inr (by rcases ha with ha | ⟨y, _, h⟩; exact .inl ha; exact .inr (.inl ⟨y, h⟩))) hv fun s' S g l => h s' (T.stored S g l)

theorem execs_next {st : Stmt} {rest : List Stmt} {env : Env} {M : Model} {Q : Flow → Shared → Prop} (h : wpAny M A (exec st env) (fun f s' => match f with | .next => wpAny M A (execs rest env) Q E s' | f => Q f s') E s) :
    wpAny M A (execs (st :: rest) env) Q E s := by
  refine wpAny_execs_cons (wpAny_mono h (fun f s' hf => ?_) fun _ _ x => x)
  cases f <;> exact hf

theorem s_assign {x : Str} {p : Pos} {e : PySem.Expr} {d : Dd} {rest : List Stmt} {Q : Flow → Shared → Prop} (T : St c b Mx sc r X₀ own ρ s) (he : Ev c A sc ρ e d) (hx : Own1 sc x) (hk : sc.kind = .function)
    (hs : swapsWith e (some (.Name x p)) pos.line (En sc r) = pure false)
    (h : ∀ s', St c b Mx sc r X₀ own ((x, d) :: ρ) s' → wpAny (model c.prog c.w) A (execs rest (En sc r)) Q E s') : wpAny (model c.prog c.w) A (execs (.Assign [.Name x p] e pos :: rest) (En sc r)) Q E s :=
  execs_next (wpAny_Assign_Name (wp_weak (he r _ s T.top T.sees) fun v s₁ ⟨k₁, r₁⟩ => (T.keeps k₁).store hx hk r₁ fun s' T' => h s' T') hs)
theorem s_assignZ {x : Str} {p : Pos} {e : PySem.Expr} {d : Dd} {rest : List Stmt} {Q : Flow → Shared → Prop} (T : St c b Mx sc r X₀ own ρ s) (he : EvZ c A sc ρ (Zr r) e d) (hx : Own1 sc x) (hk : sc.kind = .function)
    (hs : swapsWith e (some (.Name x p)) pos.line (En sc r) = pure false)
    (h : ∀ s', St c b Mx sc r X₀ own ((x, d) :: ρ) s' → wpAny (model c.prog c.w) A (execs rest (En sc r)) Q E s') : wpAny (model c.prog c.w) A (execs (.Assign [.Name x p] e pos :: rest) (En sc r)) Q E s :=
  execs_next (wpAny_Assign_Name (wp_weak (he r _ s T.top T.sees T.zok) fun v s₁ ⟨k₁, r₁⟩ => (T.keepsZ k₁).store hx hk r₁ fun s' T' => h s' T') hs)
theorem s_aug {x : Str} {p : Pos} {op : Operator} {e : PySem.Expr} {d₁ d₂ d : Dd} {rest : List Stmt} {Q : Flow → Shared → Prop} (T : St c b Mx sc r X₀ own ρ s) (hd : ρ.lookup x = some d₁) (he : Ev c A sc ρ e d₂)
    (hg : Gv c A [d₁, d₂] (fun vs => inplaceOp op (vs.getD 0 .none) (vs.getD 1 .none)) d) (hx : Own1 sc x) (hk : sc.kind = .function) (hdb : (x == ("__debug__" : Str)) = false := by decide)
    (hcd : (x == ("__classdict__" : Str)) = false := by decide)
    (h : ∀ s', St c b Mx sc r X₀ own ((x, d) :: ρ) s' → wpAny (model c.prog c.w) A (execs rest (En sc r)) Q E s') : wpAny (model c.prog c.w) A (execs (.AugAssign (.Name x p) op e pos :: rest) (En sc r)) Q E s := by
  refine execs_next (wpAny_AugAssign_Name ?_)
  have hl : wpAny (model c.prog c.w) A (loadName (En sc r) x) (fun v s' => Keeps s s' ∧ Rd (Xs X₀ r own) s'.heap v d₁) no s := by
    obtain ⟨_, hC, m, cm, F, H⟩ := T.sees
    obtain ⟨v, hv, hr⟩ := H x d₁ hd
    rcases hx with hx | hx
    · have : m x = some v := by unfold vl at hv; rw [hx] at hv; exact hv
      exact wpAny_loadName_local (env := En sc r) hk hx F.ns this ⟨Keeps.refl s, hr⟩
    · obtain ⟨a, ha⟩ := Option.isSome_iff_exists.mp (hC x hx)
      have : cm x = some v := by unfold vl at hv; rw [hx] at hv; dsimp only at hv; rw [ha] at hv; exact hv
      exact wpAny_loadName_cell (env := En sc r) hk hx ha (this ▸ F.cell x a ha) ⟨Keeps.refl s, hr⟩
  refine wp_weak hl fun v s₁ ⟨k₁, r₁⟩ => ?_
  have T₁ := T.keeps k₁
  refine wp_weak (he r _ s₁ T₁.top T₁.sees) fun u s₂ ⟨k₂, r₂⟩ => ?_
  have T₂ := T₁.keeps k₂
  refine wp_weak (hg _ s₂ [v, u] T₂.top T₂.sees.1 (.cons (r₁.ext (Keeps.ext k₂)) (.cons r₂ .nil))) fun w s₃ ⟨k₃, r₃⟩ => ?_
  exact (T₂.keeps k₃).store hx hk r₃ fun s' T' => h s' T'
theorem s_return {e : PySem.Expr} {d : Dd} {rest : List Stmt} {Q : Flow → Shared → Prop} (T : St c b Mx sc r X₀ own ρ s) (he : Ev c A sc ρ e d)
    (h : ∀ v s', St c b Mx sc r X₀ own ρ s' → Rd (Xs X₀ r own) s'.heap v d → Q (.ret v) s') : wpAny (model c.prog c.w) A (execs (.Return (some e) pos :: rest) (En sc r)) Q E s :=
  execs_next (wpAny_Return_some (wp_weak (he r _ s T.top T.sees) fun v s₁ ⟨k₁, r₁⟩ => h v s₁ (T.keeps k₁) r₁))
theorem s_if {test : PySem.Expr} {body orelse rest : List Stmt} {t : Bool} {Q : Flow → Shared → Prop} (T : St c b Mx sc r X₀ own ρ s) (ht : Tr c A sc ρ test t)
    (h1 : t = true → ∀ s', St c b Mx sc r X₀ own ρ s' → wpAny (model c.prog c.w) A (execs body (En sc r)) (fun f s' => match f with | .next => wpAny (model c.prog c.w) A (execs rest (En sc r)) Q E s' | f => Q f s') E s')
    (h2 : t = false → ∀ s', St c b Mx sc r X₀ own ρ s' → wpAny (model c.prog c.w) A (execs orelse (En sc r)) (fun f s' => match f with | .next => wpAny (model c.prog c.w) A (execs rest (En sc r)) Q E s' | f => Q f s') E s') :
    wpAny (model c.prog c.w) A (execs (.If test body orelse pos :: rest) (En sc r)) Q E s :=
  execs_next (wpAny_If (wp_weak (ht r _ s T.top T.sees) fun v s₁ ⟨k₁, e₁⟩ => by
    subst e₁
    cases v with
    | true => exact h1 rfl s₁ (T.keeps k₁)
    | false => exact h2 rfl s₁ (T.keeps k₁)))

/-- a list of the frame's own -/
theorem s_own {x : Str} {p p' : Pos} {rest : List Stmt} {Q : Flow → Shared → Prop} (T : St c b Mx sc r X₀ own ρ s) (hx : Own1 sc x) (hk : sc.kind = .function)
    (h : ∀ a s', St c b Mx sc r X₀ ((a, .data []) :: own) ((x, .raw (.ref a)) :: ρ) s' → wpAny (model c.prog c.w) A (execs rest (En sc r)) Q E s') :
    wpAny (model c.prog c.w) A (execs (.Assign [.Name x p] (.List [] p') pos :: rest) (En sc r)) Q E s := by
  refine execs_next (wpAny_Assign_Name (List_ (args_nil (wpAny_newList ?_))) rfl)
  have k : Keeps s { s with heap := s.heap.push { cls := .type "list", data := .seq ([] : List Value).toArray } } := Keeps.push
  have hn : s.heap.get? s.heap.objs.size = none := get_new _
  have hnm : ¬ mu r own s.heap.objs.size := fun hm => by
    obtain ⟨o, e⟩ := T.sees.1 _ (.inr hm); rw [hn] at e; cases e
  have T' : St c b Mx sc r X₀ ((s.heap.objs.size, .data []) :: own) ρ { s with heap := s.heap.push { cls := .type "list", data := .seq ([] : List Value).toArray } } := by
    have T₁ := T.keeps k
    have hY : ∀ a, Xs X₀ r ((s.heap.objs.size, .data []) :: own) a → Xs X₀ r own a ∨ s.heap.get? a = none := by
      rintro a (h | h | h | ⟨ct, h⟩)
      · exact .inl (.inl h)
      · exact .inl (.inr (.inl h))
      · exact .inl (.inr (.inr (.inl h)))
      · rcases List.mem_cons.mp h with e | h
        · cases e; exact .inr hn
        · exact .inl (.inr (.inr (.inr ⟨ct, h⟩)))
    refine ⟨T₁.chg, T₁.top, ?_, ?_, ?_, ?_, ?_⟩
    · rintro a h (h' | h' | ⟨ct, h'⟩)
      · exact T.x0 a h (.inl h')
      · exact T.x0 a h (.inr (.inl h'))
      · rcases List.mem_cons.mp h' with e | h'
        · cases e; obtain ⟨o, e⟩ := T.sees.1 _ (.inl h); rw [hn] at e; cases e
        · exact T.x0 a h (.inr (.inr ⟨ct, h'⟩))
    · rintro a (h | h | ⟨ct, h⟩)
      · exact T.mutb a (.inl h)
      · exact T.mutb a (.inr (.inl h))
      · rcases List.mem_cons.mp h with e | h
        · cases e
          constructor
          · by_cases hM : Mx s.heap.objs.size
            · exact .inl hM
            · right
              cases q : b.heap.get? s.heap.objs.size with
              | none => rfl
              | some o => have := T.chg.get _ o q hM; rw [hn] at this; cases this
          · cases q : c.h.get? s.heap.objs.size with
            | none => rfl
            | some o => have := T.top _ o q; rw [hn] at this; cases this
        · exact T.mutb a (.inr (.inr ⟨ct, h⟩))
    · obtain ⟨hXo, hC, m, cm, F, H⟩ := T.sees
      refine ⟨?_, hC, m, cm, F.ext (Keeps.ext k), fun x d e => let ⟨v, h1, h2⟩ := H x d e; ⟨v, h1, (h2.avoid hY).ext (Keeps.ext k)⟩⟩
      rintro a ha
      rcases hY a ha with h | h
      · obtain ⟨o, e⟩ := hXo a h; exact ⟨o, Keeps.ext k a o e⟩
      · rcases ha with h' | h' | h' | ⟨ct, h'⟩
        · obtain ⟨o, e⟩ := hXo a (.inl h'); rw [h] at e; cases e
        · obtain ⟨o, e⟩ := hXo a (.inr (.inl h')); rw [h] at e; cases e
        · obtain ⟨o, e⟩ := hXo a (.inr (.inr (.inl h'))); rw [h] at e; cases e
        · rcases List.mem_cons.mp h' with e | h'
          · cases e; exact ⟨_, Heap.get?_push_size _ rfl⟩
          · obtain ⟨o, e⟩ := hXo a (.inr (.inr (.inr ⟨ct, h'⟩))); rw [h] at e; cases e
    · intro a ct h
      rcases List.mem_cons.mp h with e | h
      · cases e; exact ⟨[], ⟨_, Heap.get?_push_size _ rfl⟩, .nil⟩
      · exact ((T.owned a ct h).avoid hY).leaves (.of_ext (Keeps.ext k)) fun o e => Keeps.ext k a o e
    · refine List.nodup_cons.mpr ⟨fun hm => ?_, T.nodup⟩
      obtain ⟨⟨a, ct⟩, hm, e⟩ := List.mem_map.mp hm
      have e' : a = s.heap.objs.size := e
      exact hnm (.inr (.inr ⟨ct, e' ▸ hm⟩))
  exact T'.store hx hk (d := .raw _) rfl fun s' T'' => h _ s' T''
end
end Mine
end

section -- Stm2
open PySem PySem.W PyProof.Rows PySem.Spec PySem.Calls
set_option Elab.async false
set_option maxRecDepth 100000
set_option linter.unusedVariables false
namespace Mine
section
variable {c : Cx} {A : Around} {b : Shared} {Mx : Addr → Prop} {sc : Scope} {r : ER} {X₀ : Addr → Prop} {own : Own} {ρ : Rho} {s s' : Shared} {pos : Pos} {E : Value → Shared → Prop}

theorem own_mid {pre post : Own} {a a' : Addr} {ct ct' : Ct} (hn : ((pre ++ (a, ct) :: post).map (·.1)).Nodup) (h : (a', ct') ∈ pre ++ (a, ct) :: post) : (a' = a ∧ ct' = ct) ∨ (a' ≠ a ∧ ((a', ct') ∈ pre ∨ (a', ct') ∈ post)) := by
  rw [List.map_append, List.map_cons, List.nodup_append] at hn
  obtain ⟨h1, h2, h3⟩ := hn
  rw [List.nodup_cons] at h2
  rcases List.mem_append.mp h with h | h
  · refine .inr ⟨fun e => ?_, .inl h⟩
    exact h3 a' (List.mem_map.mpr ⟨_, h, rfl⟩) a (List.mem_cons_self ..) e
  · rcases List.mem_cons.mp h with e | h
    · cases e; exact .inl ⟨rfl, rfl⟩
    · refine .inr ⟨fun e => ?_, .inr h⟩
      exact h2.1 (List.mem_map.mpr ⟨_, h, e⟩)
theorem mu_mid {pre post : Own} {a : Addr} {ct ct' : Ct} : mu r (pre ++ (a, ct') :: post) = mu r (pre ++ (a, ct) :: post) := by
  funext x
  refine propext ⟨?_, ?_⟩ <;>
  · rintro (h | h | ⟨k, h⟩)
    · exact .inl h
    · exact .inr (.inl h)
    · rcases List.mem_append.mp h with h | h
      · exact .inr (.inr ⟨k, List.mem_append_left _ h⟩)
      · rcases List.mem_cons.mp h with e | h
        · cases e; exact .inr (.inr ⟨_, List.mem_append_right _ (.head _)⟩)
        · exact .inr (.inr ⟨k, List.mem_append_right _ (.tail _ h)⟩)
theorem Xs_mid {pre post : Own} {a : Addr} {ct ct' : Ct} : Xs X₀ r (pre ++ (a, ct') :: post) = Xs X₀ r (pre ++ (a, ct) :: post) := by
  funext x; unfold Xs; rw [mu_mid]

/-- one more item in an own list -/
theorem St.append {pre post : Own} {a : Addr} {ds : List PyData} (T : St c b Mx sc r X₀ (pre ++ (a, .data ds) :: post) ρ s) {v : Value} {d : PyData} (hv : Rd (Xs X₀ r (pre ++ (a, .data ds) :: post)) s.heap v (.py d)) (hn : ds.length ≤ sizeLine)
    {Q : Value → Shared → Prop} (h : ∀ s', St c b Mx sc r X₀ (pre ++ (a, .data (ds ++ [d])) :: post) ρ s' → Q .none s') : wpAny (model c.prog c.w) A (call (.builtin "list.append") [.ref a, v]) Q E s := by
  have hm : (a, Ct.data ds) ∈ pre ++ (a, .data ds) :: post := List.mem_append_right _ (.head _)
  obtain ⟨vs, hl, hr⟩ := T.owned a _ hm
  refine wpAny_list_append_plain hl (fun h' hl' hs' => h _ ?_) (by rw [List.size_toArray, hr.length]; exact hn)
  have hXa : Xs X₀ r (pre ++ (a, .data ds) :: post) a := .inr (.inr (.inr ⟨_, hm⟩))
  have k : ∀ b o, b ≠ a → s.heap.get? b = some o → h'.get? b = some o := fun b o hb e => hs'.extBut b o hb e
  have hlo := isList_loose hl.isList
  have hle := leaves_one k hXa hlo
  have hmu : mu r (pre ++ (a, .data ds) :: post) a := .inr (.inr ⟨_, hm⟩)
  refine ⟨?_, ?_, fun x h hm => T.x0 x h (by rw [mu_mid (ct := .data ds)] at hm; exact hm), ?_, ?_, ?_, ?_⟩
  · refine T.chg.trans (W' := fun x => x = a) ⟨h', s.toks, rfl, fun b o e hb => k b o hb e⟩ ?_
    rintro x o e rfl
    rcases (T.mutb x hmu).1 with h | h
    · exact h
    · rw [h] at e; cases e
  · intro x o e
    refine k x o (fun q => ?_) (T.top x o e)
    rw [q, (T.mutb a hmu).2] at e; cases e
  · intro x hx
    rw [mu_mid (ct := .data ds)] at hx
    exact T.mutb x hx
  · rw [Xs_mid (ct := .data ds)]
    exact T.sees.one k hXa hlo (let ⟨n, e⟩ := hl'; ⟨_, e⟩)
  · intro x ct hx
    rw [Xs_mid (ct := .data ds)]
    have hn' : ((pre ++ (a, Ct.data (ds ++ [d])) :: post).map (·.1)).Nodup := by have := T.nodup; simpa using this
    rcases own_mid hn' hx with ⟨rfl, rfl⟩ | ⟨hne, hx⟩
    · refine ⟨vs ++ [v], by simpa using hl', ?_⟩
      exact (hr.append (.cons hv .nil)).leaves hle
    · have hx' : (x, ct) ∈ pre ++ (a, .data ds) :: post := by
        rcases hx with h | h
        · exact List.mem_append_left _ h
        · exact List.mem_append_right _ (.tail _ h)
      exact (T.owned x ct hx').leaves hle fun o e => k x o hne e
  · have := T.nodup; simpa using this

theorem s_append {pre post : Own} {a : Addr} {ds : List PyData} {o e : PySem.Expr} {ap p1 : Pos} {d : PyData} {rest : List Stmt} {Q : Flow → Shared → Prop} (T : St c b Mx sc r X₀ (pre ++ (a, .data ds) :: post) ρ s)
    (ho : Ev c A sc ρ o (.raw (.ref a))) (he : Ev c A sc ρ e (.py d)) (hn : ds.length ≤ sizeLine)
    (h : ∀ s', St c b Mx sc r X₀ (pre ++ (a, .data (ds ++ [d])) :: post) ρ s' → wpAny (model c.prog c.w) A (execs rest (En sc r)) Q E s')
    (pl : Sem Bool)
    (hm : eval (.Call (.Attribute o "append" ap) [e] [] p1) (En sc r) = (do
      let ov ← eval o (En sc r)
      standAt ap.atName
      let (f, first) ← holding [ov] (getMethod ov "append" pl)
      callWith p1 f first (backTo p1 (starEach [e] (En sc r))) []))
    (hst : ∀ env, starEach [e] env = (false, eval e env) :: starEach [] env := by intro _; rfl)
    (hi : interactive (En sc r) = false := by rfl) :
    wpAny (model c.prog c.w) A (execs (.Expr (.Call (.Attribute o "append" ap) [e] [] p1) pos :: rest) (En sc r)) Q E s := by
  refine execs_next (wpAny_Expr (MethodCall_ (pl := pl) (wp_weak (ho r _ s T.top T.sees) fun ov s₁ ⟨k₁, r₁⟩ => ?_) hm) hi rfl)
  cases r₁
  have T₁ := T.keeps k₁
  have hmm : (a, Ct.data ds) ∈ pre ++ (a, .data ds) :: post := List.mem_append_right _ (.head _)
  obtain ⟨vs, ⟨n, hl⟩, _⟩ := T₁.owned a _ hmm
  refine getMethod_list_append hl rfl rfl ?_
  dsimp only
  refine callWith_method1 (args_cons (wp_weak (he r _ s₁ T₁.top T₁.sees) fun v s₂ ⟨k₂, r₂⟩ => args_nil ?_) (hst _)) (hst _) rfl
  exact (T₁.keeps k₂).append r₂ hn fun s' T' => h s' T'

/-- an own list that is changed no more -/
theorem St.freeze {pre post : Own} {a : Addr} {ds : List PyData} {x : Str} (T : St c b Mx sc r X₀ (pre ++ (a, .data ds) :: post) ρ s) (hx : ρ.lookup x = some (.raw (.ref a))) : St c b Mx sc r X₀ (pre ++ post) ((x, dL ds) :: ρ) s := by
  have hm : (a, Ct.data ds) ∈ pre ++ (a, .data ds) :: post := List.mem_append_right _ (.head _)
  obtain ⟨vs, hl, hr⟩ := T.owned a _ hm
  have sub : ∀ x, mu r (pre ++ post) x → mu r (pre ++ (a, .data ds) :: post) x := by
    rintro x (h | h | ⟨k, h⟩)
    · exact .inl h
    · exact .inr (.inl h)
    · rcases List.mem_append.mp h with h | h
      · exact .inr (.inr ⟨k, List.mem_append_left _ h⟩)
      · exact .inr (.inr ⟨k, List.mem_append_right _ (.tail _ h)⟩)
  have subX : ∀ x, Xs X₀ r (pre ++ post) x → Xs X₀ r (pre ++ (a, .data ds) :: post) x := by
    rintro x (h | h)
    · exact .inl h
    · exact .inr (sub x h)
  have hna : ¬ Xs X₀ r (pre ++ post) a := by
    rintro (h | h | ⟨n, h⟩ | ⟨k, h⟩)
    · exact T.x0 _ h (.inr (.inr ⟨_, hm⟩))
    · obtain ⟨_, _, m, cm, F, _⟩ := T.sees
      obtain ⟨o₂, _, _, h₂, hd₂, _⟩ := F.ns
      obtain ⟨n, e⟩ := hl
      rw [← h, e] at h₂; cases h₂; cases hd₂
    · obtain ⟨_, _, m, cm, F, _⟩ := T.sees
      obtain ⟨o₂, h₂, hd₂⟩ := F.cell n a h
      obtain ⟨n, e⟩ := hl
      rw [e] at h₂; cases h₂; cases hd₂
    · have hk : (a, k) ∈ pre ++ (a, .data ds) :: post := by
        rcases List.mem_append.mp h with h | h
        · exact List.mem_append_left _ h
        · exact List.mem_append_right _ (.tail _ h)
      have hn := T.nodup
      rw [List.map_append, List.map_cons, List.nodup_append] at hn
      obtain ⟨h1, h2, h3⟩ := hn
      rw [List.nodup_cons] at h2
      rcases List.mem_append.mp h with h | h
      · exact h3 a (List.mem_map.mpr ⟨_, h, rfl⟩) a (List.mem_cons_self ..) rfl
      · exact h2.1 (List.mem_map.mpr ⟨_, h, rfl⟩)
  have av : ∀ x, Xs X₀ r (pre ++ post) x → Xs X₀ r (pre ++ (a, .data ds) :: post) x ∨ s.heap.get? x = none := fun x h => .inl (subX x h)
  refine ⟨T.chg, T.top, fun x h hm => T.x0 x h (sub x hm), fun x h => T.mutb x (sub x h), ?_, ?_, ?_⟩
  · obtain ⟨h1, h2, m, cm, F, H⟩ := T.sees
    refine ⟨fun x h => h1 x (subX x h), h2, m, cm, F, fun y d e => ?_⟩
    rw [List.lookup_cons] at e
    cases q : y == x with
    | true =>
      rw [q] at e; cases e
      obtain ⟨v, hv, hr'⟩ := H x _ hx
      cases hr'
      rw [eq_of_beq q]
      exact ⟨_, hv, Rd.list hl.isList hna (by simpa using hr.avoid av)⟩
    | false =>
      rw [q] at e
      obtain ⟨v, hv, hr'⟩ := H y d e
      exact ⟨v, hv, hr'.avoid av⟩
  · intro x ct h
    have hk : (x, ct) ∈ pre ++ (a, .data ds) :: post := by
      rcases List.mem_append.mp h with h | h
      · exact List.mem_append_left _ h
      · exact List.mem_append_right _ (.tail _ h)
    exact (T.owned x ct hk).avoid av
  · have := T.nodup
    rw [List.map_append, List.map_cons] at this
    rw [List.map_append]
    exact this.sublist (List.Sublist.append_left (List.sublist_cons_self _ _) _)

/-- begin anew: what stands now is the base -/
theorem St.rebase (T : St c b Mx sc r X₀ own ρ s) : St c s (mu r own) sc r X₀ own ρ s where
  chg := Chg.refl s
  top := T.top
  x0 := T.x0
  mutb := fun a h => ⟨.inl h, (T.mutb a h).2⟩
  sees := T.sees
  owned := T.owned
  nodup := T.nodup
theorem St.join {own' : Own} {ρ' : Rho} (T : St c b Mx sc r X₀ own ρ s) (U : St c s (mu r own) sc r X₀ own' ρ' s') : St c b Mx sc r X₀ own' ρ' s' where
  chg := T.chg.trans U.chg fun a o e hm => by
    rcases (T.mutb a hm).1 with h | h
    · exact h
    · rw [h] at e; cases e
  top := U.top
  x0 := U.x0
  mutb := fun a h => by
    refine ⟨?_, (U.mutb a h).2⟩
    rcases (U.mutb a h).1 with h' | h'
    · exact (T.mutb a h').1
    · by_cases hM : Mx a
      · exact .inl hM
      · right
        cases q : b.heap.get? a with
        | none => rfl
        | some o => have := T.chg.get a o q hM; rw [h'] at this; cases this
  sees := U.sees
  owned := U.owned
  nodup := U.nodup
end
end Mine
end

section -- Loop
open PySem PySem.W PyProof.Rows PySem.Spec PySem.Calls
set_option Elab.async false
set_option maxRecDepth 100000
set_option linter.unusedVariables false
namespace Mine
section
variable {c : Cx} {A : Around} {b : Shared} {Mx : Addr → Prop} {sc : Scope} {r : ER} {X₀ : Addr → Prop} {own : Own} {ρ : Rho} {s s' : Shared} {pos : Pos} {E : Value → Shared → Prop}

theorem St.muNot (T : St c b Mx sc r X₀ own ρ s) {a : Addr} {o : Obj} (ho : s.heap.get? a = some o) (hd : (∃ vs, o.data = .fields vs) ∨ (o.cls = .type "tuple" ∧ ∃ vs n, o.data = .seq vs n)) : ¬ mu r own a := by
  obtain ⟨_, _, m, cm, F, _⟩ := T.sees
  rintro (h | ⟨n, h⟩ | ⟨ct, h⟩)
  · obtain ⟨o₂, _, _, h₂, hd₂, _⟩ := F.ns
    rw [← h, ho] at h₂; cases h₂
    rcases hd with ⟨vs, e⟩ | ⟨_, vs, n, e⟩ <;> rw [hd₂] at e <;> cases e
  · obtain ⟨o₂, h₂, hd₂⟩ := F.cell n a h
    rw [ho] at h₂; cases h₂
    rcases hd with ⟨vs, e⟩ | ⟨_, vs, n, e⟩ <;> rw [hd₂] at e <;> cases e
  · obtain ⟨its, o₂, h₂, hc, n, hd₂⟩ := (T.owned a ct h).list
    rw [ho] at h₂; cases h₂
    rcases hd with ⟨vs, e⟩ | ⟨e, _⟩
    · rw [hd₂] at e; cases e
    · rw [hc] at e; exact absurd e (by decide)

/-- a change of a place that is avoided and not the frame's own -/
theorem St.at {I : Addr} (T : St c b Mx sc r X₀ own ρ s) (hX : X₀ I) (hM : Mx I) (hc : c.h.get? I = none) {h' : Heap} {tk : Nat} (k : ∀ b o, b ≠ I → s.heap.get? b = some o → h'.get? b = some o)
    (hl : ∃ o, s.heap.get? I = some o ∧ Loose o) (hn : ∃ o, h'.get? I = some o) : St c b Mx sc r X₀ own ρ { s with heap := h', toks := tk } where
  chg := T.chg.trans (W' := fun x => x = I) ⟨h', tk, rfl, fun b o e hb => k b o hb e⟩ (by rintro x o e rfl; exact hM)
  top := fun x o e => k x o (fun q => by rw [q, hc] at e; cases e) (T.top x o e)
  x0 := T.x0
  mutb := T.mutb
  sees := T.sees.one k (.inl hX) hl hn
  owned := fun a ct h => (T.owned a ct h).leaves (leaves_one k (.inl hX) hl) fun o e => k a o (fun q => T.x0 I hX (.inr (.inr ⟨ct, q ▸ h⟩))) e
  nodup := T.nodup

theorem s_for {α : Type} {tgt iter : PySem.Expr} {body rest : List Stmt} {xs : List Str} {Q : Flow → Shared → Prop} (L : List α) (g : α → PyData) (bs : α → Rho) (Inv : List α → Own → Rho → Prop) (RetD : Dd → Prop)
    (T : St c b Mx sc r X₀ own ρ s) (hh : A.handled = none) (hk : sc.kind = .function) (hsrc : Src c A sc ρ iter (L.map g)) (htg : ∀ a ∈ L, Tg sc tgt (g a) xs (bs a)) (h0 : Inv [] own ρ)
    (turn : ∀ pre a post own' ρ' X₁ b' M' s', L = pre ++ a :: post → Inv pre own' ρ' → St c b' M' sc r X₁ own' (bs a ++ ρ') s' →
      wpAny (model c.prog c.w) A (execs body (En sc r)) (fun f s'' => match f with
        | .next | .cont => ∃ own'' ρ'', Inv (pre ++ [a]) own'' ρ'' ∧ St c b' M' sc r X₁ own'' ρ'' s''
        | .brk => False
        | .ret v => ∃ own'' ρ'' d, RetD d ∧ St c b' M' sc r X₁ own'' ρ'' s'' ∧ Rd (Xs X₁ r own'') s''.heap v d) no s')
    (hend : ∀ own' ρ' s', Inv L own' ρ' → St c b Mx sc r X₀ own' ρ' s' → wpAny (model c.prog c.w) A (execs rest (En sc r)) Q E s')
    (hret : ∀ own' ρ' d v s', RetD d → St c b Mx sc r X₀ own' ρ' s' → Rd (Xs X₀ r own') s'.heap v d → Q (.ret v) s')
    (hs : ∀ env x, foldedSetIterable iter env x = pure x := by intro _ _; rfl) :
    wpAny (model c.prog c.w) A (execs (.For tgt iter body [] pos :: rest) (En sc r)) Q E s := by
  refine execs_next (wpAny_For (wpAny_mono (hsrc r (Xs X₀ r own) s T.top T.sees) (fun xv s₁ h₁ => wpAny_mono h₁ (fun it s₂ h₂ => ?_) fun _ _ f => f.elim) fun _ _ f => f.elim) (hs _))
  obtain ⟨I, rfl, k₂, hI, fp, P, Sw, W, hst, hfp, hP, hItr, hfx⟩ := h₂
  have x₂ := Keeps.ext k₂
  have T₂ := T.keeps k₂
  have hlm : (L.map g).length = L.length := List.length_map ..
  have hIo : ∃ o, s₂.heap.get? I = some o ∧ Itr o := hItr 0 _ hst
  have hImu : ¬ mu r own I := by obtain ⟨o, ho, T', vs, _, hd, _⟩ := hIo; exact T₂.muNot ho (.inl ⟨vs, hd⟩)
  have hIc : c.h.get? I = none := by
    cases q : c.h.get? I with
    | none => rfl
    | some o => have := T.top I o q; rw [hI] at this; cases this
  -- the state with the iterator to be avoided
  have hY : ∀ a, Xs (fun a => X₀ a ∨ a = I) r own a → Xs X₀ r own a ∨ s.heap.get? a = none := by
    rintro a ((h | h) | h)
    · exact .inl (.inl h)
    · exact .inr (h ▸ hI)
    · exact .inl (.inr h)
  have U₀ : St c s₂ (fun a => mu r own a ∨ a = I) sc r (fun a => X₀ a ∨ a = I) own ρ s₂ := by
    refine ⟨Chg.refl s₂, T₂.top, ?_, fun a h => ⟨.inl (.inl h), (T.mutb a h).2⟩, ?_, ?_, T.nodup⟩
    · rintro a (h | rfl)
      · exact T.x0 a h
      · exact hImu
    · obtain ⟨h1, h2, m, cm, F, H⟩ := T.sees
      refine ⟨?_, h2, m, cm, F.ext x₂, fun x d e => let ⟨v, hv, hr⟩ := H x d e; ⟨v, hv, (hr.avoid hY).ext x₂⟩⟩
      rintro a ((h | h) | h)
      · obtain ⟨o, e⟩ := h1 a (.inl h); exact ⟨o, x₂ _ _ e⟩
      · obtain ⟨o, e, _⟩ := hIo; exact ⟨o, h ▸ e⟩
      · obtain ⟨o, e⟩ := h1 a (.inr h); exact ⟨o, x₂ _ _ e⟩
    · exact fun a ct h => ((T.owned a ct h).avoid hY).leaves (.of_ext x₂) fun o e => x₂ a o e
  -- what the walk holds is not the frame's own
  have hfpmu : ∀ own' ρ' s', St c s₂ (fun a => mu r own a ∨ a = I) sc r (fun a => X₀ a ∨ a = I) own' ρ' s' → ∀ a ∈ fp, ¬ mu r own' a := by
    intro own' ρ' s' U a ha hm
    have hnI : a ≠ I := fun e => U.x0 I (.inr rfl) (e ▸ hm)
    rcases (U.mutb a hm).1 with (h | h) | h
    · rcases hfx a ha with e | e | ⟨o, vs, n, ho, hc, hd⟩
      · exact hnI e
      · exact e.1 (.inr h)
      · exact T₂.muNot ho (.inr ⟨hc, vs, n, hd⟩) h
    · exact hnI h
    · rcases hfx a ha with e | ⟨_, o, ho⟩ | ⟨o, vs, n, ho, hc, hd⟩
      · exact hnI e
      · rw [h] at ho; cases ho
      · rw [h] at ho; cases ho
  -- an item as it reads later
  have item : ∀ own' ρ' s', St c s₂ (fun a => mu r own a ∨ a = I) sc r (fun a => X₀ a ∨ a = I) own' ρ' s' → ∀ v d, Rd (Xs X₀ r own) s₂.heap v (.py d) → Rd (Xs (fun a => X₀ a ∨ a = I) r own') s'.heap v (.py d) := by
    intro own' ρ' s' U v d hr
    obtain ⟨as, q, ha⟩ := hr
    have haI : I ∉ as := fun hm => by
      obtain ⟨o, ho, hd⟩ := reads_data q I hm
      obtain ⟨o', ho', T', vs, _, hd', _⟩ := hIo
      rw [ho'] at ho; cases ho; exact hd vs hd'
    have hl : Leaves (fun a => Xs X₀ r own a ∨ a = I) s₂.heap s'.heap := fun a o e hb => by
      refine U.chg.get a o e ?_
      rintro (h | h)
      · rcases hb with hb | hb
        · exact hb (.inl (.inr h))
        · exact T₂.muNot e (.inr hb) h
      · rcases hb with hb | ⟨_, vs, n, hd⟩
        · exact hb (.inr h)
        · obtain ⟨o', ho', T', vs', _, hd', _⟩ := hIo
          rw [h, ho'] at e; cases e; rw [hd'] at hd; cases hd
    refine ⟨as, reads_leaves hl q fun a hm => by rintro (h | h); exact ha a hm h; exact haI (h ▸ hm), fun a hm => ?_⟩
    rintro ((h | h) | h)
    · exact ha a hm (.inl h)
    · exact haI (h ▸ hm)
    · rcases (U.mutb a h).1 with (h | h) | h
      · exact ha a hm (.inr h)
      · exact haI (h ▸ hm)
      · obtain ⟨o, ho⟩ := reads_some q a hm; rw [h] at ho; cases ho
  -- back to the outer base
  have back : ∀ own' ρ' s', St c s₂ (fun a => mu r own a ∨ a = I) sc r (fun a => X₀ a ∨ a = I) own' ρ' s' → ∀ h' tk, (∀ b o, b ≠ I → s'.heap.get? b = some o → h'.get? b = some o) → (∃ o, s'.heap.get? I = some o ∧ Loose o) →
      St c b Mx sc r X₀ own' ρ' { s' with heap := h', toks := tk } := by
    intro own' ρ' s' U h' tk kk hlo
    have hle : Leaves (Xs (fun a => X₀ a ∨ a = I) r own') s'.heap h' := leaves_one kk (.inl (.inr rfl)) hlo
    have hYY : ∀ a, Xs X₀ r own' a → Xs (fun a => X₀ a ∨ a = I) r own' a := by
      rintro a (h | h)
      · exact .inl (.inl h)
      · exact .inr h
    have nI : ∀ a, Xs X₀ r own' a → a ≠ I := by
      rintro a (h | h) rfl
      · obtain ⟨o, e⟩ := T.sees.1 a (.inl h); rw [hI] at e; cases e
      · exact U.x0 a (.inr rfl) h
    refine ⟨?_, ?_, fun a h => U.x0 a (.inl h), fun a h => ⟨?_, (U.mutb a h).2⟩, ?_, ?_, U.nodup⟩
    · refine (T₂.chg.trans U.chg ?_).trans (W' := fun x => x = I) ⟨h', tk, rfl, fun b o e hb => kk b o hb e⟩ ?_
      · rintro a o e (hm | rfl)
        · rcases (T₂.mutb a hm).1 with h | h
          · exact h
          · rw [h] at e; cases e
        · by_cases hM : Mx a
          · exact hM
          · have := T.chg.get a o e hM; rw [hI] at this; cases this
      · rintro a o e rfl
        by_cases hM : Mx a
        · exact hM
        · have := T.chg.get a o e hM; rw [hI] at this; cases this
    · exact fun x o e => kk x o (fun q => by rw [q, hIc] at e; cases e) (U.top x o e)
    · rcases (U.mutb a h).1 with (h' | h') | h'
      · exact (T₂.mutb a h').1
      · exact absurd h' (nI a (.inr h))
      · by_cases hM : Mx a
        · exact .inl hM
        · right
          cases q : b.heap.get? a with
          | none => rfl
          | some o => have := T₂.chg.get a o q hM; rw [h'] at this; cases this
    · obtain ⟨h1, h2, m, cm, F, H⟩ := U.sees
      refine ⟨fun a h => ?_, h2, m, cm, ?_, fun x d e => let ⟨v, hv, hr⟩ := H x d e; ⟨v, hv, (hr.leaves hle).avoid fun a h => .inl (hYY a h)⟩⟩
      · obtain ⟨o, e⟩ := h1 a (hYY a h); exact ⟨o, kk a o (nI a h) e⟩
      · refine ⟨F.ns.at' fun o e => kk _ o (nI _ (.inr (.inl rfl))) e, fun n a ha => ?_, F.apart⟩
        obtain ⟨o, ho, hd⟩ := F.cell n a ha
        exact ⟨o, kk a o (nI a (.inr (.inr (.inl ⟨n, ha⟩)))) ho, hd⟩
    · exact fun a ct h => ((U.owned a ct h).leaves hle fun o e => kk a o (nI a (.inr (.inr (.inr ⟨ct, h⟩)))) e).avoid fun a h => .inl (hYY a h)
  -- the loop
  refine codeAny_forLoop_any (fun k s' => ∃ i own' ρ', i ≤ L.length ∧ k = L.length + 1 - i ∧ Inv (L.take i) own' ρ' ∧ St c s₂ (fun a => mu r own a ∨ a = I) sc r (fun a => X₀ a ∨ a = I) own' ρ' s' ∧ Sw i s'.heap) ?_ (L.length + 1)
    ⟨0, own, ρ, Nat.zero_le _, rfl, by simpa using h0, U₀, hst⟩
  rintro k s' ⟨i, own', ρ', hi, rfl, hinv, U, hsw⟩
  have hI0 : ∃ o, s'.heap.get? I = some o ∧ Loose o := let ⟨o, e, q⟩ := hItr i _ hsw; ⟨o, e, q.loose⟩
  by_cases hlt : i < L.length
  · refine W.item i _ _ _ (by rw [hlm]; exact hlt) hsw fun v h₁ tk₁ hPv hst₁ hk₁ => ?_
    obtain ⟨d, hd, rd⟩ := hP i v (by rw [hlm]; exact hlt) hPv
    obtain ⟨a, ha, rfl⟩ : ∃ a, L[i]? = some a ∧ d = g a := by
      rw [List.getElem?_map] at hd
      cases q : L[i]? with
      | none => rw [q] at hd; cases hd
      | some a => rw [q] at hd; cases hd; exact ⟨a, rfl, rfl⟩
    have haL : a ∈ L := List.mem_of_getElem? ha
    have k1 : ∀ b o, b ≠ I → s'.heap.get? b = some o → h₁.get? b = some o := fun b o hb e => hk₁ b o (by simpa using hb) e
    have hI1 : ∃ o, h₁.get? I = some o ∧ Itr o := hItr (i + 1) h₁ hst₁
    have U1 : St c s₂ (fun a => mu r own a ∨ a = I) sc r (fun a => X₀ a ∨ a = I) own' ρ' { s' with heap := h₁, toks := tk₁ } := U.at (.inr rfl) (.inr rfl) hIc k1 hI0 (let ⟨o, e, _⟩ := hI1; ⟨o, e⟩)
    refine letGo_noop hI1 ?_
    have rv := item own' ρ' _ U1 v (g a) rd
    refine asg (htg a haL) hk hh (s := { s' with heap := h₁, toks := tk₁ }) U1.sees (fun x hx => .inr ?_) rv fun s₃ S₃ g₃ l₃ => ?_
    · rcases hx with h | ⟨y, _, h⟩
      · exact .inl h
      · exact .inr (.inl ⟨y, h⟩)
    have U3 := U1.stored S₃ g₃ l₃
    have hsplit : L = L.take i ++ a :: L.drop (i + 1) := by
      have e1 : L[i] = a := by rw [List.getElem?_eq_getElem hlt] at ha; exact Option.some.inj ha
      have e2 := List.drop_eq_getElem_cons hlt
      rw [e1] at e2
      rw [← e2, List.take_append_drop]
    have htk : L.take (i + 1) = L.take i ++ [a] := by rw [List.take_add_one, ha]; rfl
    have sw3 : Sw (i + 1) s₃.heap := W.frame _ _ _ hst₁ fun x hx o e => g₃.get x o e fun hw => hfpmu _ _ _ U1 x hx (by
      rcases hw with h | ⟨y, _, h⟩
      · exact .inl h
      · exact .inr (.inl ⟨y, h⟩))
    refine wpAny_mono (turn _ a _ own' ρ' _ s₃ _ s₃ hsplit hinv U3.rebase) (fun f s₄ h₄ => ?_) fun _ _ f => f.elim
    cases f with
    | next =>
      obtain ⟨own'', ρ'', hv, U4⟩ := h₄
      exact ⟨L.length + 1 - (i + 1), by omega, i + 1, own'', ρ'', hlt, rfl, htk ▸ hv, U3.join U4, W.frame _ _ _ sw3 fun x hx o e => U4.chg.get x o e (hfpmu _ _ _ U3 x hx)⟩
    | cont =>
      obtain ⟨own'', ρ'', hv, U4⟩ := h₄
      exact ⟨L.length + 1 - (i + 1), by omega, i + 1, own'', ρ'', hlt, rfl, htk ▸ hv, U3.join U4, W.frame _ _ _ sw3 fun x hx o e => U4.chg.get x o e (hfpmu _ _ _ U3 x hx)⟩
    | brk => exact h₄.elim
    | ret v =>
      obtain ⟨own'', ρ'', d, hd, U4, hr⟩ := h₄
      have sw4 := W.frame _ _ _ sw3 fun x hx o e => U4.chg.get x o e (hfpmu _ _ _ U3 x hx)
      have hI4 : ∃ o, s₄.heap.get? I = some o ∧ Loose o := let ⟨o, e, q⟩ := hItr _ _ sw4; ⟨o, e, q.loose⟩
      have B := back own'' ρ'' s₄ (U3.join U4) s₄.heap s₄.toks (fun _ _ _ e => e) hI4
      exact hret own'' ρ'' d v _ hd B (hr.avoid fun a h => .inl (by
        rcases h with h | h
        · exact .inl (.inl h)
        · exact .inr h))
  · have hie : i = L.length := by omega
    subst hie
    refine W.done _ _ _ (by rw [hlm]; exact hsw) fun h₁ tk₁ hk₁ => wpAny_execs_nil ?_
    rw [List.take_length] at hinv
    exact hend own' ρ' _ hinv (back own' ρ' s' U h₁ tk₁ (fun b o hb e => hk₁ b o (by simpa using hb) e) hI0)
end
end Mine
end

section -- Fun
open PySem PySem.W PyProof.Rows PySem.Spec PySem.Calls
set_option Elab.async false
set_option maxRecDepth 100000
set_option linter.unusedVariables false
namespace Mine
theorem cellsFrom_lookup {x : Str} : ∀ (names : List (Str × NameKind)) (n : Nat) (acc : List (Str × Addr)), (x, NameKind.cell) ∈ names ∨ (acc.lookup x).isSome = true → ((cellsFrom n names acc).lookup x).isSome = true
  | [], n, acc, h => h.elim (fun h => nomatch h) id
  | (y, k) :: names, n, acc, h => by
    unfold cellsFrom
    by_cases hk : k = .cell
    · subst hk
      simp only [beq_self_eq_true, if_true]
      refine cellsFrom_lookup names _ _ ?_
      rcases h with h | h
      · rcases List.mem_cons.mp h with e | h
        · cases e; right; simp
        · exact .inl h
      · right
        rw [List.lookup_cons]
        cases x == y with
        | true => rfl
        | false => exact h
    · have hb : (k == NameKind.cell) = false := by simpa using hk
      rw [hb]
      simp only [Bool.false_eq_true, if_false]
      refine cellsFrom_lookup names _ _ ?_
      rcases h with h | h
      · rcases List.mem_cons.mp h with e | h
        · cases e; exact absurd rfl hk
        · exact .inl h
      · exact .inr h
theorem bindL_notin {kindOf : Str → Option NameKind} {x : Str} : ∀ (binds : List (Str × Value)) (m : Str → Option Value), x ∉ binds.map (·.1) → bindL kindOf binds m x = m x
  | [], m, _ => rfl
  | (y, v) :: r, m, h => by
    unfold bindL
    rw [bindL_notin r _ (fun hm => h (List.mem_cons_of_mem _ hm))]
    have hne : x ≠ y := fun e => h (e ▸ List.mem_cons_self ..)
    split
    · simp [hne]
    · rfl
theorem bindC_notin {kindOf : Str → Option NameKind} {x : Str} : ∀ (binds : List (Str × Value)) (m : Str → Option Value), x ∉ binds.map (·.1) → bindC kindOf binds m x = m x
  | [], m, _ => rfl
  | (y, v) :: r, m, h => by
    unfold bindC
    rw [bindC_notin r _ (fun hm => h (List.mem_cons_of_mem _ hm))]
    have hne : x ≠ y := fun e => h (e ▸ List.mem_cons_self ..)
    split
    · rfl
    · simp [hne]
theorem bindL_in {kindOf : Str → Option NameKind} {x : Str} {v : Value} : ∀ (binds : List (Str × Value)) (m : Str → Option Value), (binds.map (·.1)).Nodup → (x, v) ∈ binds → kindOf x = some .local → bindL kindOf binds m x = some v
  | (y, u) :: r, m, hn, h, hk => by
    unfold bindL
    rw [List.map_cons, List.nodup_cons] at hn
    rcases List.mem_cons.mp h with e | h
    · cases e
      rw [if_pos hk, bindL_notin r _ hn.1]; simp
    · exact bindL_in r _ hn.2 h hk
theorem bindC_in {kindOf : Str → Option NameKind} {x : Str} {v : Value} : ∀ (binds : List (Str × Value)) (m : Str → Option Value), (binds.map (·.1)).Nodup → (x, v) ∈ binds → kindOf x = some .cell → bindC kindOf binds m x = some v
  | (y, u) :: r, m, hn, h, hk => by
    unfold bindC
    rw [List.map_cons, List.nodup_cons] at hn
    rcases List.mem_cons.mp h with e | h
    · cases e
      rw [if_neg (by rw [hk]; decide), bindC_notin r _ hn.1]; simp
    · exact bindC_in r _ hn.2 h hk
theorem zip_lookup {X : Addr → Prop} {h : Heap} : ∀ {xs : List Str} {vs : List Value} {ds : List Dd}, All2 X h vs ds → ∀ x d, (xs.zip ds).lookup x = some d → ∃ v, (x, v) ∈ xs.zip vs ∧ Rd X h v d
  | [], _, _, _, _, _, e => nomatch e
  | y :: xs, _, _, .nil, _, _, e => nomatch e
  | y :: xs, _, _, .cons r q, x, d, e => by
    rw [List.zip_cons_cons, List.lookup_cons] at e
    cases hq : x == y with
    | true => rw [hq] at e; cases e; rw [eq_of_beq hq]; exact ⟨_, List.mem_cons_self .., r⟩
    | false => rw [hq] at e; obtain ⟨v, h1, h2⟩ := zip_lookup q x d e; exact ⟨v, List.mem_cons_of_mem _ h1, h2⟩
theorem All2.length {X : Addr → Prop} {h : Heap} : ∀ {vs : List Value} {ds : List Dd}, All2 X h vs ds → vs.length = ds.length
  | _, _, .nil => rfl
  | _, _, .cons _ q => by rw [List.length_cons, List.length_cons, q.length]

theorem Room.deeper {n : Nat} {A : Around} (h : Room (n + 1) A) (env : Env) : Room n (A.deeper env) := by
  obtain ⟨h1, h2, h3⟩ := h
  refine ⟨h1, ?_, ?_⟩
  · show A.depth + 1 + n < _; omega
  · show A.units + 3 + 100 + 10 * n < _; omega
theorem Room.less {n m : Nat} {A : Around} (h : Room n A) (hm : m ≤ n) : Room m A := by
  obtain ⟨h1, h2, h3⟩ := h
  exact ⟨h1, by omega, by omega⟩

/-- what a def's block gives, from its arguments -/
def Body (c : Cx) (n : Nat) (sc : Scope) (body : List Stmt) (ρ : Rho) (d : Dd) : Prop :=
  ∀ (A : Around) (r : ER) (X₀ : Addr → Prop) (b s : Shared), Room n A → St c b (fun _ => False) sc r X₀ [] ρ s →
    wpAny (model c.prog c.w) A (execs body (En sc r)) (fun f s' => ∃ v own ρ', f = .ret v ∧ St c b (fun _ => False) sc r X₀ own ρ' s' ∧ Rd X₀ s'.heap v d) no s

/-- the def f of the text -/
structure DefAt (c : Cx) (f : Addr) (name : Str) (params : List Str) (body : List Stmt) (sc : Scope) : Prop where
  at_ : ∃ o ps pm cd doc, c.h.get? f = some o ∧ o.data = .func (docDef name ps body sc pm cd doc) ∧ c.h.CodeRec cd name ∧
    ∀ vs, vs.length = params.length → bindArgs (docDef name ps body sc pm cd doc) ⟨vs, []⟩ = pure (params.zip vs)
  kind : sc.kind = .function
  co : sc.isCoroutine = false
  gen : sc.isGenerator = false
  kinds : ∀ x ∈ params, sc.names.lookup x = some .local ∨ sc.names.lookup x = some .cell
  nodup : params.Nodup

section
variable {c : Cx} {A : Around}
theorem zip_fst : ∀ {xs : List Str} {vs : List Value}, vs.length = xs.length → (xs.zip vs).map (·.1) = xs
  | [], [], _ => rfl
  | x :: xs, v :: vs, h => by rw [List.zip_cons_cons, List.map_cons, zip_fst (by simpa using h)]
  | [], _ :: _, h => nomatch h
  | _ :: _, [], h => nomatch h

/-- the frame that a call makes -/
def frER (s : Shared) (f : Addr) (name : Str) (sc : Scope) (cd : Value) : ER := ⟨s.heap.objs.size, cellsFrom (s.heap.objs.size + 1) sc.names [], name ++ ".<locals>.", some f, cd, some s.heap.objs.size⟩
theorem call_at {n : Nat} {f : Addr} {name : Str} {params : List Str} {body : List Stmt} {sc : Scope} (O : c.Ok) (D : DefAt c f name params body sc) {ds : List Dd} (hlen : params.length = ds.length) {X : Addr → Prop} {s : Shared} {vs : List Value}
    (hA : Room (n + 1) A) (hT : Ext c.h s.heap) (hX : Xok X s.heap) (ha : All2 X s.heap vs ds) {R : Result → Shared → Prop}
    (h : ∀ cd s', Room n (A.deeper (En sc (frER s f name sc cd))) → St c s (fun _ => False) sc (frER s f name sc cd) X [] (params.zip ds) s' →
      wpAny (model c.prog c.w) (A.deeper (En sc (frER s f name sc cd))) (execs body (En sc (frER s f name sc cd))) (fun f s' => R (.ok (.ret (match f with | .ret v => v | _ => .none))) s')
        (fun e s' => wpAny (model c.prog c.w) (A.deeper (En sc (frER s f name sc cd))) (leaving (En sc (frER s f name sc cd)) e) (fun _ s'' => R (.error e) s'') (fun e' s'' => R (.error e') s'') s') s') :
    codeAny (model c.prog c.w) A (.call (.ref f) ⟨vs, []⟩) R s := by
  obtain ⟨o, ps, pm, cd, doc, ho, hd, hcd, hb⟩ := D.at_
  have hvl : vs.length = params.length := ha.length.trans hlen.symm
  have hzf := zip_fst hvl
  refine codeAny_call_cells (body := body) (binds := params.zip vs) (by have := hA.depth; omega) (hT _ _ ho) hd (O.nolimit.keeps hT) (hcd.keeps hT) rfl (hb vs hvl) rfl ?_ ?_ D.co D.gen D.kind
  · intro x hx
    have hm : x.1 ∈ params := by rw [← hzf]; exact List.mem_map.mpr ⟨x, hx, rfl⟩
    rcases D.kinds x.1 hm with e | e
    · exact .inl e
    · exact .inr ⟨e, cellsFrom_lookup _ _ _ (.inl (mem_of_lookup e))⟩
  · intro s₁ hI
    let r : ER := frER s f name sc cd
    refine h cd s₁ (hA.deeper _) ?_
    have hI' : InCallC s s.heap.objs.size (bindL (fun x => sc.names.lookup x) (params.zip vs) fun _ => none) (cellsFrom (s.heap.objs.size + 1) sc.names []) (bindC (fun x => sc.names.lookup x) (params.zip vs) fun _ => none) s₁ := hI
    have keep := hI'.toInCall.keep
    have hfresh : ∀ a, mu r [] a → s.heap.get? a = none := by
      rintro a (rfl | ⟨y, hy⟩ | ⟨ct, h⟩)
      · exact get_new _
      · have := hI'.above y a (mem_of_lookup hy)
        cases q : s.heap.get? a with
        | none => rfl
        | some o => exact absurd (Heap.lt_size q) (Nat.not_lt.mpr (Nat.le_of_lt this))
      · cases h
    refine ⟨?_, fun b o e => keep b o (hT b o e), ?_, ?_, ⟨?_, ?_, _, _, ⟨hI'.toInCall.ns, hI'.cell, ?_⟩, ?_⟩, fun a ct h => (nomatch h), .nil⟩
    · obtain ⟨h', tk, e⟩ := hI'.toInCall.same
      exact ⟨h', tk, e, fun b o e' _ => by have := keep b o e'; rw [e] at this; exact this⟩
    · intro a h hm
      obtain ⟨o, e⟩ := hX a h; rw [hfresh a hm] at e; cases e
    · intro a hm
      refine ⟨.inr (hfresh a hm), ?_⟩
      cases q : c.h.get? a with
      | none => rfl
      | some o => have := hT a o q; rw [hfresh a hm] at this; cases this
    · rintro a (h | h)
      · obtain ⟨o, e⟩ := hX a h; exact ⟨o, keep _ _ e⟩
      · rcases h with rfl | ⟨y, hy⟩ | ⟨ct, h⟩
        · obtain ⟨o, _, _, ho, _⟩ := hI'.toInCall.ns; exact ⟨o, ho⟩
        · obtain ⟨o, ho, _⟩ := hI'.cell y a hy; exact ⟨o, ho⟩
        · cases h
    · intro x hx; exact cellsFrom_lookup _ _ _ (.inl (mem_of_lookup hx))
    · intro x y a hx hy; exact name_of_addr hI'.apart (mem_of_lookup hx) (mem_of_lookup hy)
    · intro x d hx
      obtain ⟨v, hv, hr⟩ := zip_lookup ha x d hx
      have hm : x ∈ params := by rw [← hzf]; exact List.mem_map.mpr ⟨_, hv, rfl⟩
      refine ⟨v, ?_, (hr.avoid ?_).ext keep⟩
      · unfold vl
        rcases D.kinds x hm with e | e
        · rw [e]; exact bindL_in _ _ (by rw [hzf]; exact D.nodup) hv e
        · rw [e]
          dsimp only
          rw [if_pos (show (List.lookup x (frER s f name sc cd).cells).isSome = true from cellsFrom_lookup _ _ _ (.inl (mem_of_lookup e)))]
          exact bindC_in _ _ (by rw [hzf]; exact D.nodup) hv e
      · rintro a (h | h)
        · exact .inl h
        · exact .inr (hfresh a h)

theorem call_in {n : Nat} {f : Addr} {name : Str} {params : List Str} {body : List Stmt} {sc : Scope} (O : c.Ok) (D : DefAt c f name params body sc) {ds : List Dd} (hlen : params.length = ds.length) {X : Addr → Prop} {s : Shared} {vs : List Value}
    (hA : Room (n + 1) A) (hT : Ext c.h s.heap) (hX : Xok X s.heap) (ha : All2 X s.heap vs ds) {R : Result → Shared → Prop}
    (h : ∀ A' r s', Room n A' → St c s (fun _ => False) sc r X [] (params.zip ds) s' →
      wpAny (model c.prog c.w) A' (execs body (En sc r)) (fun f s' => R (.ok (.ret (match f with | .ret v => v | _ => .none))) s')
        (fun e s' => wpAny (model c.prog c.w) A' (leaving (En sc r) e) (fun _ s'' => R (.error e) s'') (fun e' s'' => R (.error e') s'') s') s') :
    codeAny (model c.prog c.w) A (.call (.ref f) ⟨vs, []⟩) R s :=
  call_at O D hlen hA hT hX ha fun cd s' hA' T => h _ _ s' hA' T

theorem Body.fn {n : Nat} {f : Addr} {name : Str} {params : List Str} {body : List Stmt} {sc : Scope} (O : c.Ok) (D : DefAt c f name params body sc) {ds : List Dd} {d : Dd} (hlen : params.length = ds.length)
    (h : Body c n sc body (params.zip ds) d) : Fn c (n + 1) f ds d := by
  intro A hA X s vs hT hX ha
  refine wpAny_call (call_in O D hlen hA hT hX ha fun A' r s' hA' T => wpAny_mono (h A' r X s s' hA' T) (fun fl s'' hf => ?_) fun _ _ f => f.elim)
  obtain ⟨v, own, ρ', rfl, T', hr⟩ := hf
  refine ⟨?_, hr⟩
  obtain ⟨h', tk, rfl, k⟩ := T'.chg
  exact ⟨h', tk, rfl, fun b o e => k b o e (fun h => h)⟩
end
end Mine
end

section -- Stm3
open PySem PySem.W PyProof.Rows PySem.Spec PySem.Calls
set_option Elab.async false
set_option maxRecDepth 100000
set_option linter.unusedVariables false
namespace Mine
/-- a comprehension: what it gives -/
inductive Cmp (c : Cx) (A : Around) (sc : Scope) (ρ : Rho) : PySem.Expr → List PyData → Prop
  | mk {α : Type} {elt tgt iter : PySem.Expr} {ifs : List PySem.Expr} {scope : Scope} {xs : List Str} {pos : Pos} (L : List α) (g : α → PyData) (pz : α → Bool) (f : α → PyData) (bs : α → Rho) (O : CompOk sc scope ρ xs)
    (hsrc : Src c A sc ρ iter (L.map g)) (htg : ∀ a ∈ L, Tg (rel sc scope) tgt (g a) xs (bs a)) (hdis : ∀ a ∈ L, ∀ x, ((bs a).lookup x).isSome = true → scope.names.lookup x ≠ some .free)
    (hte : ∀ a ∈ L, Ts c A (rel sc scope) (bs a ++ vis scope ρ) ifs (pz a)) (hel : ∀ a ∈ L, pz a = true → Ev c A (rel sc scope) (bs a ++ vis scope ρ) elt (.py (f a))) (hlen : L.length ≤ sizeLine)
    (hs : ∀ env x, foldedSetIterable iter env x = pure x) : Cmp c A sc ρ (.ListComp elt [⟨tgt, iter, ifs, 0⟩] scope pos) ((L.filter pz).map f)
section
variable {c : Cx} {A : Around} {b : Shared} {Mx : Addr → Prop} {sc : Scope} {r : ER} {X₀ : Addr → Prop} {own : Own} {ρ : Rho} {s s' : Shared} {pos : Pos} {E : Value → Shared → Prop}

theorem Cmp.ev {e : PySem.Expr} {ds : List PyData} (h : Cmp c A sc ρ e ds) (hh : A.handled = none) : Ev c A sc ρ e (dL ds) := by
  cases h with
  | mk L g pz f bs O hsrc htg hdis hte hel hlen hs => exact Ev.comp L g pz f bs hh O hsrc htg hdis hte hel hlen hs

theorem s_comp {x : Str} {p : Pos} {e : PySem.Expr} {ds : List PyData} {rest : List Stmt} {Q : Flow → Shared → Prop} (T : St c b Mx sc r X₀ own ρ s) (hh : A.handled = none) (he : Cmp c A sc ρ e ds) (hx : sc.names.lookup x = some .local) (hk : sc.kind = .function)
    (hsw : swapsWith e (some (.Name x p)) pos.line (En sc r) = pure true)
    (h : ∀ s', St c b Mx sc r X₀ own ((x, dL ds) :: ρ) s' → wpAny (model c.prog c.w) A (execs rest (En sc r)) Q E s') : wpAny (model c.prog c.w) A (execs (.Assign [.Name x p] e pos :: rest) (En sc r)) Q E s := by
  cases he with
  | @mk α elt tgt iter ifs scope xs pos' L g pz f bs O hsrc htg hdis hte hel hlen hs =>
  refine execs_next ?_
  rw [exec_Assign_Name_used _ _ _ _ hsw]
  refine wpAny_bind (wpAny_standAt (wpAny_bind ?_))
  show wpAny _ A (do let _ ← comprehension (.ListComp elt [⟨tgt, iter, ifs, 0⟩] scope pos') scope (En sc r) _ (newList []) false (eval iter (En sc r)) (some (assign (.Name x p) (En sc r)))) _ _ s
  obtain ⟨cl, hcl, hcl1, hcl2⟩ := closure_is (scope := scope) (env := En sc r) (comp_cells O T.sees)
  refine wpAny_bind (wpAny_mono (wpAny_comprehension_free (use := some (assign (.Name x p) (En sc r))) (Q := fun _ s' => wpAny (model c.prog c.w) A (execs rest (En sc r)) Q E s') rfl (hs _) hcl O.kind O.loc
    (wpAny_mono (hsrc r (Xs X₀ r own) s T.top T.sees) (fun xv s₁ h₁ => wpAny_mono h₁ (fun it s₂ h₂ => ?_) fun _ _ e => e.elim) fun _ _ e => e.elim)) (fun _ s' hq => wpAny_pure (wpAny_pure hq)) fun _ _ e => e)
  obtain ⟨I, rfl, k₂, hI, hWk⟩ := h₂
  have x₂ := Keeps.ext k₂
  refine comp_run (s := s) (s₂ := s₂) (RR := fun acc C => compPost (model c.prog c.w) A E (some (assign (.Name x p) (En sc r))) (fun _ s' => wpAny (model c.prog c.w) A (execs rest (En sc r)) Q E s') acc C) L g pz f bs hh O T.top (T.sees.ext x₂) x₂ hI hWk hcl1 hcl2 htg hdis hte (Z := fun _ => False) (fun a ha hp => (hel a ha hp).z) hlen (fun _ h => h.elim) ?_
  intro D C h' tk hD hC hDC ⟨m, hm⟩ hk'' hr
  have hk' : ∀ b o, s₂.heap.get? b = some o → b ≠ I → h'.get? b = some o := fun b o e n => (hk'' b o e n).1 id
  show wpAny _ A (assign (.Name x p) (En sc r) (.ref D)) _ _ _
  have k' : Keeps s { s₂ with heap := h', toks := tk } := by
    obtain ⟨h₂, tk₂, rfl, _⟩ := k₂
    exact ⟨h', tk, rfl, fun b o e => hk' b o (x₂ b o e) fun q => by rw [q, hI] at e; cases e⟩
  have x' : Ext s.heap h' := Keeps.ext k'
  have hCs : s.heap.get? C = none := by
    cases q : s.heap.get? C with
    | none => rfl
    | some o => have := x₂ C o q; rw [hC] at this; cases this
  have hCX : ¬ Xs X₀ r own C := fun h => by obtain ⟨o, e⟩ := T.sees.1 C h; rw [hCs] at e; cases e
  have hCd : ∀ o, h'.get? C = some o → ¬ (o.cls = .type "tuple" ∧ ∃ vs n, o.data = .seq vs n) := by
    rintro o e ⟨_, vs, n, hd⟩
    obtain ⟨o', _, _, ho', hd', _⟩ := hm
    rw [e] at ho'; cases ho'; rw [hd] at hd'; cases hd'
  -- with the new frame to be avoided
  have hY : ∀ a, (Xs X₀ r own a ∨ a = C) → Xs X₀ r own a ∨ s.heap.get? a = none := by
    rintro a (h | h)
    · exact .inl h
    · exact .inr (h ▸ hCs)
  have S1 : Sees sc r (fun a => Xs X₀ r own a ∨ a = C) h' ρ := by
    obtain ⟨h1, h2, m', cm, F, H⟩ := T.sees
    refine ⟨?_, h2, m', cm, F.ext x', fun y d e => let ⟨v, hv, hr⟩ := H y d e; ⟨v, hv, (hr.avoid hY).ext x'⟩⟩
    rintro a (h | h)
    · obtain ⟨o, e⟩ := h1 a h; exact ⟨o, x' _ _ e⟩
    · obtain ⟨o', _, _, ho', _⟩ := hm; exact ⟨o', h ▸ ho'⟩
  refine wpAny_assign_Name (store_loc (s := { s₂ with heap := h', toks := tk }) hx hk S1 (fun a ha => .inl (.inr (by rcases ha with ha | ⟨_, h, _⟩; exact .inl ha; cases h))) hr fun s₃ S₃ g₃ l₃ => ?_)
  have hLC : r.L ≠ C := fun e => hCX (.inr (.inl e.symm))
  have hCw : ¬ Wr r [] C := by
    rintro (e | ⟨_, h, _⟩)
    · exact hLC e.symm
    · cases h
  obtain ⟨h₃, tk₃, rfl, kk₃⟩ := g₃
  dsimp only at S₃ l₃ kk₃
  have hm3 : h₃.Ns C m := by
    obtain ⟨o', es, ep, ho', q⟩ := hm; exact ⟨o', es, ep, kk₃ C o' ho' hCw, q⟩
  refine ⟨m, hm3, fun h₄ hs₄ => h _ ?_⟩
  have hs4 : ∀ b o, b ≠ C → h₃.get? b = some o → h₄.get? b = some o := fun b o hb e => hs₄.extBut b o hb e
  have l4 : Leaves (fun a => Xs X₀ r own a ∨ a = C) h₃ h₄ := fun b o e hb => by
    by_cases hbC : b = C
    · subst hbC
      rcases hb with hb | ⟨_, vs, n, hd⟩
      · exact absurd (.inr rfl) hb
      · obtain ⟨o', _, _, ho', hd', _⟩ := hm3
        rw [e] at ho'; cases ho'; rw [hd] at hd'; cases hd'
    · exact hs4 b o hbC e
  have nC : ∀ a, Xs X₀ r own a → a ≠ C := fun a h e => hCX (e ▸ h)
  refine ⟨?_, ?_, T.x0, T.mutb, ?_, ?_, T.nodup⟩
  · obtain ⟨h₂, tk₂, rfl, _⟩ := k₂
    obtain ⟨hb, tb, e1, kb⟩ := T.chg
    refine ⟨h₄, tk₃, by rw [e1], fun a o e hn => ?_⟩
    have es : s.heap.get? a = some o := by rw [e1]; exact kb a o e hn
    refine hs4 a o (fun q => by rw [q, hCs] at es; cases es) (kk₃ a o (x' a o es) ?_)
    rintro (q | ⟨_, h, _⟩)
    · rcases (T.mutb a (.inl q)).1 with h | h
      · exact hn h
      · rw [h] at e; cases e
    · cases h
  · intro a o e
    have es := T.top a o e
    refine hs4 a o (fun q => by rw [q, hCs] at es; cases es) (kk₃ a o (x' a o es) ?_)
    rintro (q | ⟨_, h, _⟩)
    · rw [(T.mutb a (.inl q)).2] at e; cases e
    · cases h
  · obtain ⟨h1, h2, m', cm, F, H⟩ := S₃
    refine ⟨fun a h => ?_, h2, m', cm, ⟨?_, fun n a ha => ?_, F.apart⟩, fun y d e => let ⟨v, hv, hr⟩ := H y d e; ⟨v, hv, (hr.leaves l4).avoid fun a h => .inl (.inl h)⟩⟩
    · obtain ⟨o, e⟩ := h1 a (.inl h); exact ⟨o, hs4 a o (nC a h) e⟩
    · obtain ⟨o', es, ep, ho', q⟩ := F.ns; exact ⟨o', es, ep, hs4 _ _ hLC ho', q⟩
    · obtain ⟨o', ho', q⟩ := F.cell n a ha; exact ⟨o', hs4 _ _ (nC a (.inr (.inr (.inl ⟨n, ha⟩)))) ho', q⟩
  · intro a ct hm'
    have e1 := ((T.owned a ct hm').avoid hY).leaves (.of_ext x') fun o e => x' a o e
    have hmu : mu r own a := .inr (.inr ⟨ct, hm'⟩)
    have e2 := e1.leaves l₃ fun o e => kk₃ a o e (by
      rintro (q | ⟨_, h, _⟩)
      · obtain ⟨its, o₂, h₂', hc, n, hd⟩ := (T.owned a ct hm').list
        obtain ⟨_, _, m', cm, F, _⟩ := T.sees
        obtain ⟨o₃, _, _, h₃', hd₃, _⟩ := F.ns
        rw [← q, h₂'] at h₃'; cases h₃'; rw [hd] at hd₃; cases hd₃
      · cases h)
    exact (e2.leaves l4 fun o e => hs4 a o (nC a (.inr hmu)) e).avoid fun a h => .inl (.inl h)

theorem s_while {test : PySem.Expr} {body rest : List Stmt} {Q : Flow → Shared → Prop} (Inv : Nat → Own → Rho → Prop) (T : St c b Mx sc r X₀ own ρ s) (n : Nat) (h0 : Inv n own ρ)
    (turn : ∀ k own' ρ' s', Inv k own' ρ' → St c b Mx sc r X₀ own' ρ' s' → ∃ t, Tr c A sc ρ' test t ∧ (t = true → ∀ s'', St c b Mx sc r X₀ own' ρ' s'' → wpAny (model c.prog c.w) A (execs body (En sc r)) (fun f s₃ => f = .next ∧
      ∃ m own'' ρ'', m < k ∧ Inv m own'' ρ'' ∧ St c b Mx sc r X₀ own'' ρ'' s₃) no s'') ∧ (t = false → ∀ s'', St c b Mx sc r X₀ own' ρ' s'' → wpAny (model c.prog c.w) A (execs rest (En sc r)) Q E s'')) :
    wpAny (model c.prog c.w) A (execs (.While test body [] pos :: rest) (En sc r)) Q E s := by
  refine execs_next (wpAny_While (codeAny_whileLoop (fun k s' => ∃ own' ρ', Inv k own' ρ' ∧ St c b Mx sc r X₀ own' ρ' s') ?_ n ⟨own, ρ, h0, T⟩))
  rintro k s' ⟨own', ρ', hi, U⟩
  obtain ⟨t, ht, h1, h2⟩ := turn k own' ρ' s' hi U
  refine wpAny_mono (ht r _ s' U.top U.sees) (fun v s₁ h₁ => ?_) fun _ _ f => f.elim
  obtain ⟨k₁, rfl⟩ := h₁
  cases v with
  | true =>
    simp only [if_true]
    refine wpAny_mono (h1 rfl s₁ (U.keeps k₁)) (fun f s₂ h₂ => ?_) fun _ _ f => f.elim
    obtain ⟨rfl, m, own'', ρ'', hm, hi', U'⟩ := h₂
    exact ⟨m, hm, own'', ρ'', hi', U'⟩
  | false =>
    simp only [Bool.false_eq_true, if_false]
    exact wpAny_execs_nil (h2 rfl s₁ (U.keeps k₁))
end
end Mine
end

section -- Prog
open PySem PySem.W PyProof.Rows PySem.Spec PySem.Calls
set_option Elab.async false
set_option maxRecDepth 100000
set_option linter.unusedVariables false
namespace Mine
def bodyOf : Stmt → List Stmt
  | .FunctionDef _ _ body _ _ _ _ _ _ _ => body
  | _ => []
def scopeOf : Stmt → Scope
  | .FunctionDef _ _ _ _ _ _ sc _ _ _ => sc
  | _ => ⟨.module, [], false, false, []⟩
def nameOf : Stmt → Str
  | .FunctionDef n _ _ _ _ _ _ _ _ _ => n
  | _ => ""
def paramsOf : Stmt → Arguments
  | .FunctionDef _ a _ _ _ _ _ _ _ _ => a
  | _ => ⟨[], [], none, [], [], none, []⟩
noncomputable abbrev bKeeps : List Stmt := bodyOf (theDef 62)
noncomputable abbrev sKeeps : Scope := scopeOf (theDef 62)

end Mine
end

section -- WKeeps
open PySem PySem.W PyProof.Rows PySem.Spec PySem.Calls
set_option Elab.async false
set_option maxRecDepth 100000
set_option linter.unusedVariables false
namespace Mine
abbrev bd (x : String) (d : Dd) : Str × Dd := (Str.ofString x, d)
/-- a comparison as drawn: the one name, the sign's number, the other name -/
structure Dr where
  a : Nat
  k : Nat
  b : Nat
def sgn : Nat → Str
  | 0 => "<="
  | 1 => ">="
  | _ => "=="
def Dr.py (t : Dr) : PyData := .tuple [.int t.a, .str (sgn t.k), .int t.b]
def keeps1 (row : List Int) (t : Dr) : Bool := !(((t.k != 1) && decide (row.getD t.b 0 < row.getD t.a 0)) || ((t.k != 0) && decide (row.getD t.a 0 < row.getD t.b 0)))
def keepsF (row : List Int) (cs : List Dr) : Bool := cs.all (keeps1 row)

theorem sgn_ne1 {k : Nat} (h : k < 3) : (!PyData.eqv (.str (sgn k)) (.str ">=")) = (k != 1) := by
  rcases (by omega : k = 0 ∨ k = 1 ∨ k = 2) with rfl | rfl | rfl <;> decide +kernel
theorem sgn_ne0 {k : Nat} (h : k < 3) : (!PyData.eqv (.str (sgn k)) (.str "<=")) = (k != 0) := by
  rcases (by omega : k = 0 ∨ k = 1 ∨ k = 2) with rfl | rfl | rfl <;> decide +kernel
theorem sgn_shaped {k : Nat} (h : k < 3) : SeqAt.shaped (.str (sgn k)) = true := by
  rcases (by omega : k = 0 ∨ k = 1 ∨ k = 2) with rfl | rfl | rfl <;> decide +kernel
variable {c : Cx}
theorem getD_map_int {row : List Int} {k : Nat} (h : k < row.length) : (row.map PyData.int)[((k : Nat) : Int).toNat]? = some (.int (row.getD k 0)) := by
  simp [h]
theorem body_keeps {n : Nat} {row : List Int} {cs : List Dr} (hk : ∀ t ∈ cs, t.k < 3 ∧ t.a < row.length ∧ t.b < row.length) (hr : row.length < 100) :
    Body c n sKeeps bKeeps [bd "row" (dL (row.map .int)), bd "comparisons" (dL (cs.map Dr.py))] (dB (keepsF row cs)) := by
  intro A r X₀ b s hA T
  refine s_for (xs := []) cs Dr.py (fun t => [bd "second" (dI t.b), bd "sign" (dS (sgn t.k)), bd "first" (dI t.a)])
    (fun pre own ρ => own = [] ∧ ρ = [bd "row" (dL (row.map .int)), bd "comparisons" (dL (cs.map Dr.py))] ∧ ∀ t ∈ pre, keeps1 row t = true)
    (fun d => d = dB false ∧ keepsF row cs = false) T hA.hh rfl (Src.list hA.hh (Ev.var rfl)) (fun a _ => Tg.tup (xs := [("first", _), ("sign", _), ("second", _)]) ?_ rfl) ⟨rfl, rfl, fun _ h => nomatch h⟩ ?_ ?_ ?_
  · intro x hx
    simp only [List.mem_cons, List.not_mem_nil, or_false] at hx
    rcases hx with rfl | rfl | rfl <;> rfl
  · rintro pre t post own' ρ' X₁ b' M' s' hsp ⟨rfl, rfl, hpre⟩ U
    have ht : t ∈ cs := by rw [hsp]; simp
    obtain ⟨h1, h2, h3⟩ := hk t ht
    refine s_if (t := !keeps1 row t) U ?_ ?_ ?_
    · unfold keeps1
      rw [Bool.not_not, ← sgn_ne1 h1, ← sgn_ne0 h1]
      refine Tr.or (Tr.and (Tr.cmp (Ev.var rfl) Ev.strc (cm_ne hA (sgn_shaped h1) (by decide +kernel))) fun _ => Tr.cmp (Ev.sub (Ev.var rfl) (Ev.var rfl) (it_list (by omega) (getD_map_int h2) (by omega) (fun _ _ => rfl))) (Ev.sub (Ev.var rfl) (Ev.var rfl) (it_list (by omega) (getD_map_int h3) (by omega) (fun _ _ => rfl))) cm_gt) fun _ =>
        Tr.and (Tr.cmp (Ev.var rfl) Ev.strc (cm_ne hA (sgn_shaped h1) (by decide +kernel))) fun _ => Tr.cmp (Ev.sub (Ev.var rfl) (Ev.var rfl) (it_list (by omega) (getD_map_int h2) (by omega) (fun _ _ => rfl))) (Ev.sub (Ev.var rfl) (Ev.var rfl) (it_list (by omega) (getD_map_int h3) (by omega) (fun _ _ => rfl))) cm_lt
    · intro hf s₁ U₁
      refine s_return U₁ Ev.boolc fun v s₂ U₂ hr => ⟨_, _, _, ⟨rfl, ?_⟩, U₂, hr⟩
      unfold keepsF
      rw [List.all_eq_false]
      exact ⟨t, ht, by simpa using hf⟩
    · intro hf s₁ U₁
      refine wpAny_execs_nil (wpAny_execs_nil ⟨_, _, ⟨rfl, rfl, ?_⟩, U₁.weak (sub_cons rfl (sub_cons rfl sub_nil))⟩)
      intro u hu
      rcases List.mem_append.mp hu with hu | hu
      · exact hpre u hu
      · rw [List.mem_singleton.mp hu]; simpa using hf
  · rintro own' ρ' s' ⟨rfl, rfl, hall⟩ U
    refine s_return U Ev.boolc fun v s₂ U₂ hr => ⟨v, _, _, rfl, U₂, ?_⟩
    have : keepsF row cs = true := List.all_eq_true.mpr hall
    rw [this]
    exact hr.avoid fun a h => .inl (.inl h)
  · rintro own' ρ' d v s' ⟨rfl, hd⟩ U hr
    refine ⟨v, _, _, rfl, U, ?_⟩
    rw [hd]
    exact hr.avoid fun a h => .inl (.inl h)
end Mine
end

section -- Gl
open PySem PySem.W PyProof.Rows PySem.Spec PySem.Calls
set_option Elab.async false
set_option maxRecDepth 100000
set_option linter.unusedVariables false
namespace Mine
/-- a built-in name that the text does not bind -/
def Bi (c : Cx) (x : Str) (v : Value) : Prop := c.mg x = none ∧ c.mb x = some v
/-- a def of the text under its name -/
structure FnIs (c : Cx) (f : Addr) (i : Nat) (params : List Str) : Prop where
  bound : c.mg (nameOf (theDef i)) = some (.ref f)
  d : DefAt c f (nameOf (theDef i)) params (bodyOf (theDef i)) (scopeOf (theDef i))
structure Gl (c : Cx) where
  ok : c.Ok
  len : Bi c "len" (.builtin "len")
  max : Bi c "max" (.builtin "max")
  min : Bi c "min" (.builtin "min")
  sum : Bi c "sum" (.builtin "sum")
  abs : Bi c "abs" (.builtin "abs")
  sorted : Bi c "sorted" (.builtin "sorted")
  iter : Bi c "iter" (.builtin "iter")
  isinstance : Bi c "isinstance" (.builtin "isinstance")
  range : Bi c "range" (.type "range")
  str : Bi c "str" (.type "str")
  int : Bi c "int" (.type "int")
  tk : Str → Tok
  endmarker : c.mg "ENDMARKER" = some (.int 0 (tk "ENDMARKER"))
  semi : c.mg "SEMI" = some (.int 13 (tk "SEMI"))
  eqeq : c.mg "EQEQUAL" = some (.int 27 (tk "EQEQUAL"))
  lesseq : c.mg "LESSEQUAL" = some (.int 29 (tk "LESSEQUAL"))
  greq : c.mg "GREATEREQUAL" = some (.int 30 (tk "GREATEREQUAL"))
  nt : c.mg "NT_OFFSET" = some (.int 256 (tk "NT_OFFSET"))
  aLow : Addr
  low : FnIs c aLow 2 ["data"]
  aHigh : Addr
  high : FnIs c aHigh 3 ["data"]
  aTerm : Addr
  term : FnIs c aTerm 56 ["x"]
  aNon : Addr
  non : FnIs c aNon 57 ["x"]
  aEof : Addr
  eof : FnIs c aEof 58 ["x"]
  aPairs : Addr
  pairs : FnIs c aPairs 60 ["line"]
  aMiddle : Addr
  middle : FnIs c aMiddle 61 ["some", "way"]
  aKeeps : Addr
  keeps : FnIs c aKeeps 62 ["row", "comparisons"]
  aNear : Addr
  near : FnIs c aNear 63 ["heights", "drawn"]
  aLev : Addr
  lev : FnIs c aLev 64 ["heights", "uppers", "level"]

section
variable {c : Cx} {A : Around} {sc : Scope} {ρ : Rho} {pos : Pos}
theorem Ev.bi {x : Str} {v : Value} (G : Gl c) (h : Bi c x v) (hx : sc.names.lookup x = some .globalImplicit := by rfl) (hk : sc.kind = .function := by rfl) (hd : (x == ("__debug__" : Str)) = false := by decide) : Ev c A sc ρ (.Name x pos) (.raw v) :=
  Ev.built G.ok h.1 h.2 hx hk hd
theorem Ev.fn {f : Addr} {i n : Nat} {x : Str} {p : Pos} {params : List Str} {e : PySem.Expr} {es : List PySem.Expr} {ds : List Dd} {d : Dd} (G : Gl c) (F : FnIs c f i params) (hx0 : x = nameOf (theDef i)) (hA : Room n A) (ha : EvA c A sc ρ (e :: es) ds) (h : Fn c n f ds d)
    (hx : sc.names.lookup x = some .globalImplicit := by rfl) (hk : sc.kind = .function := by rfl) (hd : (x == ("__debug__" : Str)) = false := by decide)
    (he : ∀ env, starEach (e :: es) env = (false, eval e env) :: starEach es env := by intro _; rfl) : Ev c A sc ρ (.Call (.Name x p) (e :: es) [] pos) d := by
  obtain ⟨o, ps, pm, cd, doc, ho, hdat, _⟩ := F.d.at_
  exact Ev.callF hA (Ev.glob G.ok (by rw [hx0]; exact F.bound) hx hk hd) ho hdat ha h he

/-! the three looks of token -/
theorem fn_term (G : Gl c) {n : Nat} {x : Int} : Fn c (n + 1) G.aTerm [dI x] (dB (decide (x < 256))) :=
  Body.fn G.ok G.term.d rfl fun A r X₀ b s hA T => s_return T (Ev.cmp (Ev.var rfl) (Ev.globInt G.ok G.nt) cm_lt) fun v s' T' hr => ⟨v, _, _, rfl, T', hr.avoid fun a h => .inl (.inl h)⟩
theorem fn_non (G : Gl c) {n : Nat} {x : Int} : Fn c (n + 1) G.aNon [dI x] (dB (decide (256 ≤ x))) :=
  Body.fn G.ok G.non.d rfl fun A r X₀ b s hA T => s_return T (Ev.cmp (Ev.var rfl) (Ev.globInt G.ok G.nt) cm_ge) fun v s' T' hr => ⟨v, _, _, rfl, T', hr.avoid fun a h => .inl (.inl h)⟩
theorem fn_eof (G : Gl c) {n : Nat} {x : Int} : Fn c (n + 1) G.aEof [dI x] (dB (decide (x = 0))) :=
  Body.fn G.ok G.eof.d rfl fun A r X₀ b s hA T => s_return T (Ev.cmp (Ev.var rfl) (Ev.globInt G.ok G.endmarker) (cm_eqi hA)) fun v s' T' hr => ⟨v, _, _, rfl, T', hr.avoid fun a h => .inl (.inl h)⟩

/-! median_low -/
def medLow (ns : List Int) : Int := if ns.length % 2 = 1 then (srt ns).getD (ns.length / 2) 0 else (srt ns).getD (ns.length / 2 - 1) 0
def medHigh (ns : List Int) : Int := (srt ns).getD (ns.length / 2) 0
theorem noPy (a : Int) (b : Int) (hb : b.natAbs < 1073741824) : Builtin.divisionGoesByPylong a b = false := PyProof.noPylong_small hb
theorem fn_low (G : Gl c) {n : Nat} {ns : List Int} (hne : ns ≠ []) (hn : ns.length < 64) : Fn c (n + 1) G.aLow [dL (ns.map .int)] (dI (medLow ns)) := by
  refine Body.fn G.ok G.low.d rfl fun A r X₀ b s hA T => ?_
  have hl : (srt ns).length = ns.length := srt_length ns
  have hpos : 0 < ns.length := List.length_pos_iff.mpr hne
  have h24 : sizeLine = 16777216 := sizeLine_eq
  refine s_assign T (Ev.callB (Ev.bi G G.sorted) (.cons (Ev.var rfl) .nil) (bi_sorted hn)) (.inl rfl) rfl rfl fun s₁ T₁ => ?_
  refine s_assign T₁ (Ev.callB (Ev.bi G G.len) (.cons (Ev.var rfl) .nil) (bi_len (by simp; omega))) (.inl rfl) rfl rfl fun s₂ T₂ => ?_
  have e1 : (((srt ns).map PyData.int).length : Int) = ns.length := by rw [List.length_map, hl]
  rw [e1] at T₂
  refine s_if (t := false) T₂ ?_ (by intro h; cases h) fun _ s₃ T₃ => wpAny_execs_nil ?_
  · have : decide ((ns.length : Int) = 0) = false := by simp; exact hne
    rw [← this]
    exact Tr.cmp (Ev.var rfl) Ev.intc (cm_eqi hA)
  refine s_if (t := decide (ns.length % 2 = 1)) T₃ ?_ (fun h s₄ T₄ => ?_) (fun h s₄ T₄ => ?_)
  · have : decide (((ns.length : Int).fmod 2) = 1) = decide (ns.length % 2 = 1) := by
      congr 1
      rw [Int.fmod_eq_emod_of_nonneg _ (by omega)]
      apply propext
      omega
    rw [← this]
    exact Tr.cmp (Ev.bin (Ev.var rfl) Ev.intc (op_mod (by decide))) Ev.intc (cm_eqi hA)
  · have h' : ns.length % 2 = 1 := by simpa using h
    have e2 : (ns.length : Int).fdiv 2 = ((ns.length / 2 : Nat) : Int) := by rw [Int.fdiv_eq_ediv_of_nonneg _ (by omega)]; omega
    refine s_return T₄ (Ev.sub (Ev.var rfl) (Ev.bin (Ev.var rfl) Ev.intc (op_fdiv (by decide) (noPy _ 2 (by decide)))) (it_list (d := .int (medLow ns)) (by rw [e2]; omega) ?_ (by rw [e2]; omega) (fun _ _ => rfl))) fun v s' T' hr => ⟨v, _, _, rfl, T', hr.avoid fun a h => .inl (.inl h)⟩
    rw [e2, getD_map_int (by omega)]
    unfold medLow; rw [if_pos h']
  · have h' : ¬ ns.length % 2 = 1 := by simpa using h
    have e2 : (ns.length : Int).fdiv 2 - 1 = ((ns.length / 2 - 1 : Nat) : Int) := by rw [Int.fdiv_eq_ediv_of_nonneg _ (by omega)]; omega
    refine s_return T₄ (Ev.sub (Ev.var rfl) (Ev.bin (Ev.bin (Ev.var rfl) Ev.intc (op_fdiv (by decide) (noPy _ 2 (by decide)))) Ev.intc op_sub) (it_list (d := .int (medLow ns)) (by rw [e2]; omega) ?_ (by rw [e2]; omega) (fun _ _ => rfl))) fun v s' T' hr => ⟨v, _, _, rfl, T', hr.avoid fun a h => .inl (.inl h)⟩
    rw [e2, getD_map_int (by omega)]
    unfold medLow; rw [if_neg h']
end
end Mine
end

section -- Kit
open PySem PySem.W PyProof.Rows PySem.Spec PySem.Calls
set_option Elab.async false
set_option maxRecDepth 100000
set_option linter.unusedVariables false
namespace Mine
def compB (sc scope : Scope) (ρ : Rho) (xs : List Str) : Bool :=
  (scope.names.all fun p => p.2 != .free || ((ρ.lookup p.1).isSome && (sc.names.lookup p.1 == some .cell || sc.names.lookup p.1 == some .free))) &&
  (scope.names.all fun p => p.2 != .local || scope.names.lookup p.1 == some .local) &&
  (scope.names.all fun p => p.2 != .cell || xs.contains p.1) && (xs.all fun y => scope.names.lookup y == some .cell)
theorem CompOk.of {sc scope : Scope} {ρ : Rho} {xs : List Str} (own : xs = [] ∨ ∃ x, xs = [x]) (hk : scope.kind = .function) (hp : sc.kind = .function) (cells : ∀ n cl, cellsFrom n scope.names cl = (xs.map fun x => (x, n)) ++ cl)
    (push : ∀ h, pushCells h scope.names = xs.foldl (fun h _ => h.push { cls := .type "cell", data := .cell none }) h) (hb : compB sc scope ρ xs = true) : CompOk sc scope ρ xs := by
  unfold compB at hb
  simp only [Bool.and_eq_true] at hb
  obtain ⟨⟨⟨h1, h2⟩, h3⟩, h4⟩ := hb
  refine ⟨hk, hp, ?_, ?_, own, cells, push, ?_, ?_⟩
  · intro y hy
    have := List.all_eq_true.mp h1 _ hy
    simp only [bne_self_eq_false, Bool.false_or, Bool.and_eq_true, Bool.or_eq_true, beq_iff_eq] at this
    exact this
  · intro x hx hl
    have := List.all_eq_true.mp h2 _ hx
    rw [hl] at this
    simpa using this
  · intro y hy
    simpa using List.all_eq_true.mp h4 _ hy
  · intro y hy
    have := List.all_eq_true.mp h3 _ (mem_of_lookup hy)
    simpa using this
section
variable {c : Cx} {A : Around} {sc : Scope} {ρ : Rho} {pos : Pos}
/-- a comprehension with one plain name -/
theorem Cmp.nm {α : Type} {elt iter : PySem.Expr} {ifs : List PySem.Expr} {scope : Scope} {x : Str} {p : Pos} (L : List α) (g : α → PyData) (pz : α → Bool) (f : α → PyData)
    (hb : compB sc scope ρ [] = true) (hsrc : Src c A sc ρ iter (L.map g)) 
    (hte : ∀ a ∈ L, Ts c A (rel sc scope) ((x, .py (g a)) :: vis scope ρ) ifs (pz a)) (hel : ∀ a ∈ L, pz a = true → Ev c A (rel sc scope) ((x, .py (g a)) :: vis scope ρ) elt (.py (f a))) (hlen : L.length ≤ sizeLine)
    (hx : (rel sc scope).names.lookup x = some .local := by rfl) (hf : scope.names.lookup x ≠ some .free := by decide) (hk : scope.kind = .function := by rfl) (hp : sc.kind = .function := by rfl)
    (cells : ∀ n cl, cellsFrom n scope.names cl = cl := by intro _ _; rfl) (push : ∀ h, pushCells h scope.names = h := by intro _; rfl)
    (hs : ∀ env x, foldedSetIterable iter env x = pure x := by intro _ _; rfl) : Cmp c A sc ρ (.ListComp elt [⟨.Name x p, iter, ifs, 0⟩] scope pos) ((L.filter pz).map f) :=
  Cmp.mk (xs := []) L g pz f (fun a => [(x, .py (g a))]) (CompOk.of (.inl rfl) hk hp cells push hb) hsrc (fun a _ => .loc hx) (fun a _ y hy => by
    rw [List.lookup_cons] at hy
    cases q : y == x with
    | true => rw [eq_of_beq q]; exact hf
    | false => rw [q] at hy; cases hy) hte hel hlen hs
/-- a comprehension with one name that an inner one holds -/
theorem Cmp.nmc {α : Type} {elt iter : PySem.Expr} {ifs : List PySem.Expr} {scope : Scope} {x : Str} {p : Pos} (L : List α) (g : α → PyData) (pz : α → Bool) (f : α → PyData)
    (hb : compB sc scope ρ [x] = true) (hsrc : Src c A sc ρ iter (L.map g)) 
    (hte : ∀ a ∈ L, Ts c A (rel sc scope) ((x, .py (g a)) :: vis scope ρ) ifs (pz a)) (hel : ∀ a ∈ L, pz a = true → Ev c A (rel sc scope) ((x, .py (g a)) :: vis scope ρ) elt (.py (f a))) (hlen : L.length ≤ sizeLine)
    (hx : (rel sc scope).names.lookup x = some .cell := by rfl) (hf : scope.names.lookup x ≠ some .free := by decide) (hk : scope.kind = .function := by rfl) (hp : sc.kind = .function := by rfl)
    (cells : ∀ n cl, cellsFrom n scope.names cl = (x, n) :: cl := by intro _ _; rfl) (push : ∀ h, pushCells h scope.names = h.push { cls := .type "cell", data := .cell none } := by intro _; rfl)
    (hs : ∀ env x, foldedSetIterable iter env x = pure x := by intro _ _; rfl) : Cmp c A sc ρ (.ListComp elt [⟨.Name x p, iter, ifs, 0⟩] scope pos) ((L.filter pz).map f) :=
  Cmp.mk (xs := [x]) L g pz f (fun a => [(x, .py (g a))]) (CompOk.of (.inr ⟨x, rfl⟩) hk hp cells push hb) hsrc (fun a _ => .cell hx) (fun a _ y hy => by
    rw [List.lookup_cons] at hy
    cases q : y == x with
    | true => rw [eq_of_beq q]; exact hf
    | false => rw [q] at hy; cases hy) hte hel hlen hs

/-! bits -/
def bit (u i : Nat) : Bool := u.testBit i
theorem bit_fin : ∀ u : Fin 16, ∀ i : Fin 4, Builtin.bitAnd ((u.val : Int).fdiv (2 ^ i.val)) 1 = if u.val.testBit i.val then 1 else 0 := by decide +kernel
theorem bit_is {u i : Nat} (hu : u < 16) (hi : i < 4) : Builtin.bitAnd ((u : Int).fdiv (2 ^ ((i : Int).toNat))) 1 = if bit u i then 1 else 0 := bit_fin ⟨u, hu⟩ ⟨i, hi⟩
theorem and_fin : ∀ u v : Fin 16, Builtin.bitAnd (u.val : Int) (v.val : Int) = ((u.val &&& v.val : Nat) : Int) := by decide +kernel
theorem or_fin : ∀ u v : Fin 16, Builtin.bitOr (u.val : Int) (v.val : Int) = ((u.val ||| v.val : Nat) : Int) := by decide +kernel
theorem and_is {u v : Nat} (hu : u < 16) (hv : v < 16) : Builtin.bitAnd (u : Int) (v : Int) = ((u &&& v : Nat) : Int) := and_fin ⟨u, hu⟩ ⟨v, hv⟩
theorem or_is {u v : Nat} (hu : u < 16) (hv : v < 16) : Builtin.bitOr (u : Int) (v : Int) = ((u ||| v : Nat) : Int) := or_fin ⟨u, hu⟩ ⟨v, hv⟩
theorem and_lt {u v : Nat} (hu : u < 16) : u &&& v < 16 := Nat.lt_of_le_of_lt Nat.and_le_left hu
theorem or_lt {u v : Nat} (hu : u < 16) (hv : v < 16) : u ||| v < 16 := Nat.or_lt_two_pow (n := 4) hu hv
/-- u >> i & 1 -/
theorem Ev.bit {x y : PySem.Expr} {k : Nat} {q1 q2 : Pos} {u i : Nat} (hu : u < 16) (hi : i < 4) (h1 : Ev c A sc ρ x (dI u)) (h2 : Ev c A sc ρ y (dI i)) :
    Ev c A sc ρ (.BinOp (.BinOp x .RShift y q1) .BitAnd (.Constant (.int 1) k q2) pos) (dI (if bit u i then 1 else 0)) := by
  rw [← bit_is hu hi]
  exact Ev.bin (Ev.bin h1 h2 (op_shr (by omega))) Ev.intc op_and
theorem Tr.bit {x y : PySem.Expr} {k : Nat} {q1 q2 : Pos} {u i : Nat} (hu : u < 16) (hi : i < 4) (h1 : Ev c A sc ρ x (dI u)) (h2 : Ev c A sc ρ y (dI i)) :
    Tr c A sc ρ (.BinOp (.BinOp x .RShift y q1) .BitAnd (.Constant (.int 1) k q2) pos) (bit u i) := by
  have := Tr.int (Ev.bit (pos := pos) (k := k) (q1 := q1) (q2 := q2) hu hi h1 h2)
  cases hb : Mine.bit u i with
  | true => rw [hb] at this; exact this
  | false => rw [hb] at this; exact this
/-- range(n), n written or reckoned -/
theorem Src.rng {n : Nat} {p : Pos} {e : PySem.Expr} (G : Gl c) (hh : A.handled = none) (ha : Ev c A sc ρ e (dI n)) (hn : n ≤ 4096) (hx : sc.names.lookup (Str.ofString "range") = some .globalImplicit := by rfl) (hk : sc.kind = .function := by rfl)
    (he : ∀ env, starEach [e] env = (false, eval e env) :: starEach [] env := by intro _; rfl) :
    Src c A sc ρ (.Call (.Name (Str.ofString "range") p) [e] [] pos) ((List.range n).map fun (i : Nat) => PyData.int i) := Src.range hh (Ev.bi G G.range hx hk) ha hn he
theorem Ev.len {n : Nat} {p : Pos} {e : PySem.Expr} {ds : List PyData} (G : Gl c) (h : Ev c A sc ρ e (dL ds)) (hn : ds.length = n) (hb : n ≤ 4096) (hx : sc.names.lookup (Str.ofString "len") = some .globalImplicit := by rfl) (hk : sc.kind = .function := by rfl)
    (he : ∀ env, starEach [e] env = (false, eval e env) :: starEach [] env := by intro _; rfl) : Ev c A sc ρ (.Call (.Name (Str.ofString "len") p) [e] [] pos) (dI n) := by
  have h24 : sizeLine = 16777216 := sizeLine_eq
  subst hn
  exact Ev.callB (Ev.bi G G.len hx hk) (.cons h .nil he) (bi_len (by omega)) he
theorem Ev.maxL {p : Pos} {e : PySem.Expr} {ds : List PyData} {ns : List Int} (G : Gl c) (hh : A.handled = none) (h : Ev c A sc ρ e (dL ds)) (hd : ds = ns.map .int) (hne : ns ≠ []) (hx : sc.names.lookup (Str.ofString "max") = some .globalImplicit := by rfl) (hk : sc.kind = .function := by rfl)
    (he : ∀ env, starEach [e] env = (false, eval e env) :: starEach [] env := by intro _; rfl) : Ev c A sc ρ (.Call (.Name (Str.ofString "max") p) [e] [] pos) (dI (mxI ns)) := by
  subst hd
  exact Ev.callB (Ev.bi G G.max hx hk) (.cons h .nil he) (bi_max hh hne) he
theorem Ev.minL {p : Pos} {e : PySem.Expr} {ds : List PyData} {ns : List Int} (G : Gl c) (hh : A.handled = none) (h : Ev c A sc ρ e (dL ds)) (hd : ds = ns.map .int) (hne : ns ≠ []) (hx : sc.names.lookup (Str.ofString "min") = some .globalImplicit := by rfl) (hk : sc.kind = .function := by rfl)
    (he : ∀ env, starEach [e] env = (false, eval e env) :: starEach [] env := by intro _; rfl) : Ev c A sc ρ (.Call (.Name (Str.ofString "min") p) [e] [] pos) (dI (mnI ns)) := by
  subst hd
  exact Ev.callB (Ev.bi G G.min hx hk) (.cons h .nil he) (bi_min hh hne) he
theorem Ev.sumL {p : Pos} {e : PySem.Expr} {ds : List PyData} {ns : List Int} (G : Gl c) (hh : A.handled = none) (h : Ev c A sc ρ e (dL ds)) (hd : ds = ns.map .int) (hx : sc.names.lookup (Str.ofString "sum") = some .globalImplicit := by rfl) (hk : sc.kind = .function := by rfl)
    (he : ∀ env, starEach [e] env = (false, eval e env) :: starEach [] env := by intro _; rfl) : Ev c A sc ρ (.Call (.Name (Str.ofString "sum") p) [e] [] pos) (dI ns.sum) := by
  subst hd
  exact Ev.callB (Ev.bi G G.sum hx hk) (.cons h .nil he) (bi_sum hh) he
theorem Ev.at {value slice : PySem.Expr} {ds : List PyData} {d : PyData} {i : Nat} (h1 : Ev c A sc ρ value (dL ds)) (h2 : Ev c A sc ρ slice (dI i)) (hd : ds[i]? = some d) (hi : i ≤ 4096) (hs : notSlice slice := by intro _ _; rfl) : Ev c A sc ρ (.Subscript value slice pos) (.py d) :=
  Ev.sub h1 h2 (it_list (by omega) (by simpa using hd) (by omega) hs)
theorem Ev.atT {value slice : PySem.Expr} {ds : List PyData} {d : PyData} {i : Nat} (h1 : Ev c A sc ρ value (.py (.tuple ds))) (h2 : Ev c A sc ρ slice (dI i)) (hd : ds[i]? = some d) (hi : i ≤ 4096) (hs : notSlice slice := by intro _ _; rfl) : Ev c A sc ρ (.Subscript value slice pos) (.py d) :=
  Ev.sub h1 h2 (it_tup (by omega) (by simpa using hd) (by omega) hs)
theorem Cmp.cast {e : PySem.Expr} {ds ds' : List PyData} (h : Cmp c A sc ρ e ds) (he : ds = ds') : Cmp c A sc ρ e ds' := he ▸ h
theorem Cmp.evAs {e : PySem.Expr} {ds ds' : List PyData} (h : Cmp c A sc ρ e ds) (hh : A.handled = none) (he : ds = ds') : Ev c A sc ρ e (dL ds') := he ▸ h.ev hh
theorem Ev.as {e : PySem.Expr} {d d' : Dd} (h : Ev c A sc ρ e d) (he : d = d') : Ev c A sc ρ e d' := he ▸ h
theorem Tr.as {e : PySem.Expr} {t t' : Bool} (h : Tr c A sc ρ e t) (he : t = t') : Tr c A sc ρ e t' := he ▸ h
end
end Mine
end

section -- Exc1
open PySem PySem.W PyProof.Rows PySem.Spec PySem.Calls
open Builtin Builtin.Str Builtin.BaseException Builtin.Exceptions
set_option Elab.async false
set_option maxRecDepth 100000
set_option linter.unusedVariables false
namespace Mine
/-- the class of the refusal: an own class under ValueError, with no words of its own -/
abbrev vErr : List Value := [.type "ValueError", .type "Exception", .type "BaseException", .type "object"]
def ClsAt (h : Heap) (C : Addr) : Prop := ∃ nm q N bs hdct sn sub ab col dd k0 k1 k2 k3 k5 mN,
  h.get? C = some (excClassObj nm q C N bs vErr hdct sn sub ab col dd k0 k1 k2 k3 k5 "ValueError.__new__") ∧ h.Ns N mN ∧ mN "__str__" = none ∧ mN "__init__" = none
theorem ClsAt.ext {h h' : Heap} {C : Addr} (x : ClsAt h C) (k : Ext h h') : ClsAt h' C := by
  obtain ⟨nm, q, N, bs, hdct, sn, sub, ab, col, dd, k0, k1, k2, k3, k5, mN, hC, hN, hs⟩ := x
  exact ⟨nm, q, N, bs, hdct, sn, sub, ab, col, dd, k0, k1, k2, k3, k5, mN, k _ _ hC, hN.keeps k, hs⟩
def OwnExc (h : Heap) (e C t : Addr) : Prop := ∃ o vs, h.get? e = some o ∧ o.cls = .ref C ∧ o.data = .fields vs ∧ vs[0]? = some (.ref t)
section
variable {prog : Program} {w : World} {A : Around} {E : Value → Shared → Prop} {s : Shared} {e C t : Addr}
theorem own_args {M : Model} {items : List Value} {Q : Value × List Value → Shared → Prop} (x : OwnExc s.heap e C t) (ht : s.heap.TupAt t items) (hq : Q (.ref t, items) s) :
    wpAny M A (bexcArgs (.ref e)) Q E s := by
  obtain ⟨o, vs, ho, _, hd, h0⟩ := x
  obtain ⟨ot, k, hto, _, htd⟩ := ht
  unfold bexcArgs
  refine wpAny_bind (wpAny_field ho hd h0 (wpAny_bind (wpAny_seqItems hto htd ?_)))
  have : items.toArray.toList = items := by simp
  show wpAny M A (pure (Value.ref t, items.toArray.toList)) Q E s
  rw [this]; exact wpAny_pure hq
theorem own_entry {m : Str} {tk : Tok} {Q : Fin → Shared → Prop} (x : OwnExc s.heap e C t) (ht : s.heap.TupAt t [.str m tk]) (hq : Q (.done (.ret (.str m tk))) s) :
    wpAny (model prog w) A (Builtin.«BaseException.__str__» ⟨[.ref e], []⟩) Q E s := by
  unfold Builtin.«BaseException.__str__»
  repeat (first | with_reducible refine own_args x ht ?_ | wp_step)
  exact hq
theorem own_check {M : Model} {Q : Unit → Shared → Prop} (K : ClsAt s.heap C) (x : OwnExc s.heap e C t) (hq : Q () s) : wpAny M A (checkBuiltinCall "BaseException.__str__" ⟨[.ref e], []⟩) Q E s := by
  obtain ⟨nm, q, N, bs, hdct, sn, sub, ab, col, dd, k0, k1, k2, k3, k5, mN, hC, hN, hs, _⟩ := K
  obtain ⟨o, vs, hx, hc, hd, h0⟩ := x
  obtain ⟨h, g, d, tk, os⟩ := s
  have hk : builtinKind "BaseException.__str__" = some .slot := by decide +kernel
  have hsplit : splitId "BaseException.__str__" = some ("BaseException", "__str__") := by decide +kernel
  have hcB : (Value.ref C :: vErr).contains (.type "BaseException") = true := by rw [List.contains_cons]; simp [vErr]
  have ha := F.args_bexc_str (.ref e)
  simp only [checkBuiltinCall, hk, hsplit]
  refine wpAny_bind ?_
  · unfold isInstance
    repeat (first | (with_reducible refine wpAny_loadPart_at hx ?_; rw [hc]) | (with_reducible refine wpAny_isSubtype_exc hC ?_; rw [hcB]) | wp_step)
    exact hq
theorem own_call {m : Str} {tk : Tok} {Q : Value → Shared → Prop} (K : ClsAt s.heap C) (x : OwnExc s.heap e C t) (ht : s.heap.TupAt t [.str m tk]) (hq : Q (.str m tk) s) :
    wpAny (model prog w) A (call (.builtin "BaseException.__str__") [.ref e]) Q E s :=
  wpAny_call (codeAny_call_builtin F.excStr_ValueError.str.plain F.entry_bexc_str (own_check K x (own_entry x ht hq)))
theorem own_special {m : Str} {tk : Tok} {Q : Option Value → Shared → Prop} (K : ClsAt s.heap C) (x : OwnExc s.heap e C t) (ht : s.heap.TupAt t [.str m tk]) (hq : Q (some (.str m tk)) s) :
    wpAny (model prog w) A (callSpecial? (.ref e) "__str__") Q E s := by
  have K' := K
  have x' := x
  obtain ⟨nm, q, N, bs, hdct, sn, sub, ab, col, dd, k0, k1, k2, k3, k5, mN, hC, hN, hs, _⟩ := K
  obtain ⟨o, vs, hx, hc, hd, h0⟩ := x
  simp only [callSpecial?]
  refine wpAny_bind ?_
  unfold specialOf
  have ht' : wpAny (model prog w) A (typeOf (.ref e)) (fun v s' => v = .ref C ∧ s' = s) E s := by
    obtain ⟨h, g, d, tk, os⟩ := s
    repeat (first | (with_reducible refine wpAny_loadPart_at hx ?_; rw [hc]) | wp_step)
    exact ⟨rfl, rfl⟩
  refine wpAny_bind (wpAny_mono ht' (fun v s' h' => ?_) fun _ _ y => y)
  obtain ⟨rfl, rfl⟩ := h'
  obtain ⟨h, g, d, tk', os⟩ := s'
  refine wpAny_typeLookup_exc (B := "ValueError") hC hN F.excBase_ValueError.mroIs F.excStr_ValueError.str.lookup ?_
  rw [hs]
  dsimp only
  simp only [F.excStr_ValueError.str.bind]
  exact wpAny_holding (wpAny_bind (wpAny_pure (wpAny_bind (wpAny_mono (own_call K' x' ht hq) (fun v s' h' => wpAny_pure h') fun _ _ h' => h'))))
theorem own_strOf {m : Str} {tk : Tok} {Q : Value → Shared → Prop} (hu : A.units < cLine) (K : ClsAt s.heap C) (x : OwnExc s.heap e C t) (ht : s.heap.TupAt t [.str m tk]) (hq : Q (.str m tk) s) :
    wpAny (model prog w) A (Builtin.Str.strOf (.ref e)) Q E s := by
  unfold Builtin.Str.strOf
  repeat (first | with_reducible refine wpAny_cRoomFor hu ?_ | with_reducible refine own_special K x ht ?_ | wp_step)
  exact hq
theorem own_str {m : Str} {tk : Tok} {Q : Value → Shared → Prop} (hu : A.units + 2 < cLine) (K : ClsAt s.heap C) (x : OwnExc s.heap e C t) (ht : s.heap.TupAt t [.str m tk]) (h : Q (.str m tk) s) :
    wpAny (model prog w) A (call (.type "str") [.ref e]) Q E s :=
  callType_new F.called_str (by decide) (F.typeCall_str_1 _) (F.newCall_str_1 _) (fun obj => F.args_object_init_2 obj _) F.entry_str_new
    (meets_str_new (S := fun A' R s' => A'.units + 1 < cLine ∧ ClsAt s'.heap C ∧ OwnExc s'.heap e C t ∧ s'.heap.TupAt t [.str m tk] ∧ R (.ok (.ret (.str m tk))) s')
      fun _ _ A' _ _ hq => own_strOf (A := A'.in1) hq.1 hq.2.1 hq.2.2.1 hq.2.2.2.1 hq.2.2.2.2)
    ⟨(show A.units + 1 + 1 < cLine from hu), K, x, ht, typeIs_str _ _ _, h⟩
end
end Mine
end

section -- Exc2
open PySem PySem.W PyProof.Rows PySem.Spec PySem.Calls
set_option Elab.async false
set_option maxRecDepth 100000
set_option linter.unusedVariables false
namespace Mine
/-- all but one place stays -/
def But (I : Addr) (h h' : Heap) : Prop := ∀ b o, b ≠ I → h.get? b = some o → h'.get? b = some o
theorem But.trans {I : Addr} {h h' h'' : Heap} (x : But I h h') (y : But I h' h'') : But I h h'' := fun b o n e => y b o n (x b o n e)
theorem But.of_ext {I : Addr} {h h' : Heap} (x : Ext h h') : But I h h' := fun b o _ e => x b o e
def FieldsAt (h : Heap) (I : Addr) : Prop := ∃ o vs, h.get? I = some o ∧ o.data = .fields vs
theorem Rd.but {X : Addr → Prop} {h h' : Heap} {v : Value} {d : Dd} {I : Addr} (r : Rd X h v d) (hk : But I h h') (hI : FieldsAt h I) : Rd X h' v d := by
  cases d with
  | raw u => exact r
  | py pd =>
    obtain ⟨as, q, ha⟩ := r
    have hn : I ∉ as := fun hm => by
      obtain ⟨o, ho, hd⟩ := reads_data q I hm
      obtain ⟨o', vs, ho', hd'⟩ := hI
      rw [ho] at ho'; cases ho'; exact hd vs hd'
    have r' : Rd (fun a => X a ∨ a = I) h v (.py pd) := ⟨as, q, fun a hm hx => hx.elim (ha a hm) fun e => hn (e ▸ hm)⟩
    refine (r'.leaves (h' := h') fun b o e hb => ?_).avoid fun a hx => .inl (.inl hx)
    by_cases hbI : b = I
    · subst hbI
      rcases hb with hb | ⟨_, vs, n, hd⟩
      · exact absurd (.inr rfl) hb
      · obtain ⟨o', vs', ho', hd'⟩ := hI
        rw [e] at ho'; cases ho'; rw [hd] at hd'; cases hd'
    · exact hk b o hbI e
theorem RdAll.but {X : Addr → Prop} {h h' : Heap} {I : Addr} : ∀ {vs : List Value} {ds : List PyData}, RdAll X h vs ds → But I h h' → FieldsAt h I → RdAll X h' vs ds
  | vs, [], r, _, _ => by rw [r.unnil]; exact RdAll.nil
  | vs, d :: ds, r, hk, hI => by
    obtain ⟨v, us, rfl, r1, r2⟩ := r.uncons
    exact RdAll.cons (r1.but hk hI) (r2.but hk hI)
section
variable {c : Cx} {A : Around} {b : Shared} {Mx : Addr → Prop} {sc : Scope} {r : ER} {X₀ : Addr → Prop} {own : Own} {ρ : Rho} {s s' : Shared} {pos : Pos} {E : Value → Shared → Prop}
theorem St.but (T : St c b Mx sc r X₀ own ρ s) {I : Addr} {h' : Heap} {tk : Nat} (hk : But I s.heap h') (hI : FieldsAt s.heap I) (hX : ¬ X₀ I) (hc : c.h.get? I = none) :
    St c b (fun a => Mx a ∨ a = I) sc r X₀ own ρ { s with heap := h', toks := tk } := by
  have hmu : ∀ a, mu r own a → a ≠ I := by
    intro a hm e
    subst e
    obtain ⟨o, vs, ho, hd⟩ := hI
    obtain ⟨_, _, m, cm, F, _⟩ := T.sees
    rcases hm with h | ⟨n, h⟩ | ⟨ct, h⟩
    · obtain ⟨o₂, _, _, h₂, hd₂, _⟩ := F.ns
      rw [← h, ho] at h₂; cases h₂; rw [hd] at hd₂; cases hd₂
    · obtain ⟨o₂, h₂, hd₂⟩ := F.cell n a h
      rw [ho] at h₂; cases h₂; rw [hd] at hd₂; cases hd₂
    · obtain ⟨its, o₂, h₂, _, n, hd₂⟩ := (T.owned a ct h).list
      rw [ho] at h₂; cases h₂; rw [hd] at hd₂; cases hd₂
  have hXs : ∀ a, Xs X₀ r own a → a ≠ I := fun a hx e => hx.elim (fun h => hX (e ▸ h)) fun h => hmu a h e
  exact {
    chg := by
      obtain ⟨h₁, tk₁, e, k⟩ := T.chg
      refine ⟨h', tk, by rw [e], fun a o e' hn => hk a o (fun q => hn (.inr q)) ?_⟩
      rw [e]; exact k a o e' fun q => hn (.inl q)
    top := fun a o e => hk a o (fun q => by rw [q, hc] at e; cases e) (T.top a o e)
    x0 := T.x0
    mutb := fun a hm => ⟨(T.mutb a hm).1.imp .inl id, (T.mutb a hm).2⟩
    sees := by
      obtain ⟨hXo, hC, m, cm, F, H⟩ := T.sees
      refine ⟨fun a ha => ?_, hC, m, cm, ⟨?_, fun n a ha => ?_, F.apart⟩, fun x d e => let ⟨v, h1, h2⟩ := H x d e; ⟨v, h1, h2.but hk hI⟩⟩
      · obtain ⟨o, e⟩ := hXo a ha; exact ⟨o, hk a o (hXs a ha) e⟩
      · obtain ⟨o, es, ep, ho, q⟩ := F.ns
        exact ⟨o, es, ep, hk _ o (hmu _ (.inl rfl)) ho, q⟩
      · obtain ⟨o, ho, hd⟩ := F.cell n a ha
        exact ⟨o, hk _ o (hmu _ (.inr (.inl ⟨n, ha⟩))) ho, hd⟩
    owned := fun a ct h => by
      have hne := hmu a (.inr (.inr ⟨ct, h⟩))
      have x := T.owned a ct h
      cases ct with
      | data ds => obtain ⟨vs, h1, h2⟩ := x; exact ⟨vs, h1.at (fun o e => hk a o hne e), h2.but hk hI⟩
      | vals vs => exact Heap.PlainList.at x (fun o e => hk a o hne e)
    nodup := T.nodup }

theorem iter_list {a : Addr} {vs : List Value} {Q : Value → Shared → Prop} (hl : s.heap.IsList a vs.toArray)
    (h : Q (.ref s.heap.objs.size) { s with heap := s.heap.push { cls := .type "list_iterator", data := .fields #[.ref a, .int 0 0] } }) : wpAny (model c.prog c.w) A (call (.builtin "iter") [.ref a]) Q E s := by
  refine call_function_entry (by decide +kernel) (by decide +kernel) kdk_entry_iter (kdk_args_iter _) ?_
  unfold Builtin.«iter»
  refine wpAny_bind (m := someArgs "iter" 1 2 _) (wpAny_of_eq (a := [Value.ref a]) (by first | rfl | kernel_rfl!) ?_)
  show wpAny _ _ (pyIter (.ref a) >>= _) _ _ _
  exact wpAny_bind (wpAny_pyIter_list hl (wpAny_pure ⟨_, rfl, h⟩))

theorem sorted_iter {I a : Addr} {vs : List Value} {ns : List Int} {Q : Value → Shared → Prop} (hh : A.handled = none) (hit : s.heap.IsListIter I a 0) (hl : s.heap.IsList a vs.toArray) (hI : IntsAre vs ns) (h64 : vs.length < 64) (hab : ∃ b o, I < b ∧ s.heap.get? b = some o)
    (h : ∀ D h' tk (out : Array Value) (ns' : List Int), But I s.heap h' → s.heap.get? D = none → h'.IsList D out → IntsAre out.toList ns' → ns'.Perm ns → ns'.Pairwise (· ≤ ·) → Q (.ref D) { s with heap := h', toks := tk }) :
    wpAny (model c.prog c.w) A (call (.builtin "sorted") [.ref I]) Q E s := by
  have hne : a ≠ I := fun e => by
    obtain ⟨o, ho, hc, hd⟩ := hit
    obtain ⟨o', ho', hc', n, hd'⟩ := hl
    rw [e, ho] at ho'; cases ho'; rw [hd] at hd'; cases hd'
  have hlt : I < s.heap.objs.size := by obtain ⟨o, ho, _⟩ := hit; exact Heap.lt_size ho
  have hlta : a < s.heap.objs.size := by obtain ⟨o, ho, _⟩ := hl; exact Heap.lt_size ho
  have h24 : sizeLine = 16777216 := sizeLine_eq
  refine Calls.call_function_entry kind_sorted plain_sorted entry_sorted (args_sorted1 _) ?_
  unfold Builtin.«sorted»
  refine wpAny_bind (m := checkCount "sorted" 1 1 _) (wpAny_pure ?_)
  refine wpAny_bind (wpAny_collect_iter (A := A.in1) (T := "list_iterator") (.inr (.inr (.inl rfl))) (Walks.list (prog := c.prog) (w := c.w) (A := A.in1.in1) hh I a hne vs.toArray).toS (fun i s st => st.1.typeIs) ⟨hit, hl⟩ (fun b hb => ?_) (.head _) (fun s' acc hm hacc => ?_) (by rw [List.size_toArray]; omega))
  · rcases List.mem_cons.mp hb with rfl | hb
    · exact hlt
    · rw [List.mem_singleton.mp hb]; exact hlta
  have hv : acc.toList = vs := by
    have hs : acc.size = vs.length := by rw [hacc.1, List.size_toArray]
    apply List.ext_getElem?
    intro i
    rw [Array.getElem?_toList]
    cases q : acc[i]? with
    | some v => have := hacc.2 i v q; simpa using this.symm
    | none =>
      have : acc.size ≤ i := by simpa using q
      rw [List.getElem?_eq_none (by omega)]
  have hs' : s' = { s with heap := s'.heap, toks := s'.toks } := by
    obtain ⟨h', g', d', tk', os'⟩ := s'
    obtain ⟨_, m2, m3, m4, _⟩ := hm
    dsimp only at m2 m3 m4
    subst m2 m3 m4
    rfl
  have hb : But I s.heap s'.heap := fun b o n e => hm.heap b o (by simpa using n) e
  rw [hv]
  refine wpAny_bind (wpAny_newList ?_ (by omega))
  have hoL : (s'.heap.push (seqObj "list" vs.toArray 0)).get? s'.heap.objs.size = some (seqObj "list" vs.toArray 0) := Heap.get?_push_size _ rfl
  refine wpAny_bind (wpAny_holding (wpAny_call_entry slot_list_sort ⟨_, hoL, rfl⟩ entry_list_sort (list_sort_tree hoL hI h64 fun out ns' a1 a2 a3 => ⟨_, rfl, ?_⟩) (args_list_sort _)))
  refine wpAny_pure ⟨_, rfl, ?_⟩
  obtain ⟨e, he⟩ := sortedHeap_at (out := out) hoL
  have key := h s'.heap.objs.size (sortedHeap (s'.heap.push (seqObj "list" vs.toArray 0)) s'.heap.objs.size vs out) s'.toks out ns' (fun b o n e => ?_) ?_ ⟨_, he, rfl, _, rfl⟩ a1 a2 a3
  · rw [hs']; exact key
  · have e' := hb b o n e
    have hlt' := Heap.lt_size e'
    rw [sortedHeap_old (Nat.ne_of_lt hlt') (by rw [size_push']; exact Nat.lt_succ_of_lt hlt')]
    exact Heap.get?_push_of_some _ e'
  · cases q : s.heap.get? s'.heap.objs.size with
    | none => rfl
    | some o =>
      by_cases hqI : s'.heap.objs.size = I
      · obtain ⟨b, ob, hIb, hob⟩ := hab
        have := Heap.lt_size (hb b ob (Nat.ne_of_gt hIb) hob)
        rw [hqI] at this
        exact absurd hIb (Nat.not_lt.mpr (Nat.le_of_lt this))
      · exact absurd (Heap.lt_size (hb _ o hqI q)) (Nat.lt_irrefl _)
end
end Mine
end

section -- Exc3
open PySem PySem.W PyProof.Rows PySem.Spec PySem.Calls
set_option Elab.async false
set_option maxRecDepth 100000
set_option linter.unusedVariables false
namespace Mine
abbrev refusal : Str := "no median for empty data"
/-- the class of the refusal, under its name -/
structure Cls (c : Cx) (C : Addr) : Prop where
  bound : c.mg "StatisticsError" = some (.ref C)
  at_ : ClsAt c.h C
/-- a refusal has left a call -/
def Refused (c : Cx) (C : Addr) (outer : List Env) (g : Heap) (s : Shared) (e : Value) (s' : Shared) : Prop :=
  ∃ ea t u h' tk, e = .ref ea ∧ s' = { s with heap := h', toks := tk } ∧ RaisedS c.h g outer ea (.ref C) t [.str refusal u] [] h' ∧ g.UpToSlots h'
section
variable {c : Cx} {A : Around} {b : Shared} {Mx : Addr → Prop} {sc : Scope} {r : ER} {X₀ : Addr → Prop} {own : Own} {ρ : Rho} {s s' : Shared} {pos np cpos kp : Pos} {E : Value → Shared → Prop} {C : Addr}
theorem s_raise {k : Nat} {rest : List Stmt} {Q : Flow → Shared → Prop} (O : c.Ok) (K : Cls c C) (T : St c b Mx sc r X₀ own ρ s) (hh : A.handled = none) (hx : sc.names.lookup ("StatisticsError" : Str) = some .globalImplicit) (hk : sc.kind = .function)
    (h : ∀ h' e s₂ u, Keeps s s₂ → Heap.MadeExcOf s₂.heap h' e (.ref C) [.str refusal u] → E (.ref e) { s₂ with heap := h' }) :
    wpAny (model c.prog c.w) A (execs (.Raise (some (.Call (.Name "StatisticsError" np) [.Constant (.str refusal) k kp] [] cpos)) none pos :: rest) (En sc r)) Q E s := by
  obtain ⟨nm, q, N, bs, hdct, sn, sub, ab, col, dd, k0, k1, k2, k3, k5, mN, hC, hN, hs, hni⟩ := K.at_
  refine execs_next (wpAny_Raise_call_sub (C := C) (nm := nm) (q := q) (N := N) (bs := bs) (bm := vErr) (hdct := hdct) (sn := sn) (sub := sub) (ab := ab) (col := col) (dd := dd) (k0 := k0) (k1 := k1) (k2 := k2) (k3 := k3) (k5 := k5)
    F.excBase_ValueError (mN := mN) hh rfl hni (wp_weak (Ev.glob (A := A) (ρ := ρ) O K.bound hx hk (by decide) r _ s T.top T.sees) fun f s₁ ⟨k₁, r₁⟩ => ?_))
  cases r₁
  refine ⟨rfl, ?_⟩
  have T₁ := T.keeps k₁
  refine Calls.evalArgs_plain (wp_weak ((EvA.cons Ev.strc EvA.nil : EvA c A sc ρ [.Constant (.str refusal) k kp] [dS refusal]) r _ s₁ cpos T₁.top T₁.sees) fun vs s₂ ⟨k₂, r₂⟩ => ?_)
  cases r₂ with
  | cons q₁ q₂ => cases q₂ with
    | nil =>
      obtain ⟨u, rfl⟩ := q₁.str_inv
      have T₂ := T₁.keeps k₂
      exact ⟨rfl, by rw [sizeLine_eq]; simp, T₂.top _ _ hC, hN.keeps T₂.top, fun h' e hm => h h' e s₂ u (Keeps.trans k₁ k₂) hm⟩

/-- a refusal leaves the frame that made it -/
theorem refused_leaves {M : Model} {Q : Unit → Shared → Prop} {name : Str} {f : Addr} {cd : Value} {outer : List Env} {g : Heap} {e : Addr} {h' : Heap} {s₂ : Shared} {u : Tok}
    (K : Below A c.h outer g) (hg : ∀ b o, g.get? b = some o → s.heap.get? b = some o ∧ ¬ Mx b) (hsz : g.objs.size ≤ s.heap.objs.size) (hcl : cellsFrom (s.heap.objs.size + 1) sc.names [] = []) (hk : sc.kind = .function)
    (T : St c s Mx sc (frER s f name sc cd) X₀ own ρ s₂) (hm : Heap.MadeExcOf s₂.heap h' e (.ref C) [.str refusal u])
    (hQ : ∀ s', Refused c C outer g s (.ref e) s' → Q () s') :
    wpAny M (A.deeper (En sc (frER s f name sc cd))) (leaving (En sc (frER s f name sc cd)) (.ref e)) Q E { s₂ with heap := h' } := by
  have he : En sc (frER s f name sc cd) = envOf name sc s.heap.objs.size f cd := by unfold En frER envOf; rw [hcl]
  rw [he]
  obtain ⟨_, _, m, cm, F, _⟩ := T.sees
  have Fr' : Fr g s.heap.objs.size s₂.heap m := ⟨F.ns, fun b o e' => T.chg.get b o (hg b o e').1 (hg b o e').2, hsz⟩
  refine leave_raiseS (s' := { s₂ with heap := h' }) K hm Fr' (News.nil) (fun h₃ t R _ hu => hQ _ ?_) hk
  obtain ⟨h₁, tk, e₁, _⟩ := T.chg
  exact ⟨e, t, u, h₃, tk, rfl, by rw [e₁], R, hu⟩

theorem low_raises (G : Gl c) (K : Cls c C) {n : Nat} (hA : Room (n + 1) A) {outer : List Env} (B : Below A c.h outer s.heap) {X : Addr → Prop} {v : Value} (hT : Ext c.h s.heap) (hX : Xok X s.heap) (hr : Rd X s.heap v (dL [])) :
    wpAny (model c.prog c.w) A (call (.ref G.aLow) [v]) (fun _ _ => False) (Refused c C outer s.heap s) s := by
  refine wpAny_call (call_at G.ok G.low.d (ds := [dL []]) rfl hA hT hX (.cons hr .nil) fun cd s₀ hA' T => ?_)
  refine s_assign T (Ev.callB (Ev.bi G G.sorted) (.cons (Ev.var rfl) .nil) (bi_sorted (ns := []) (by decide))) (.inl rfl) rfl rfl fun s₁ T₁ => ?_
  refine s_assign T₁ (Ev.callB (Ev.bi G G.len) (.cons (Ev.var rfl) .nil) (bi_len (by simp [srt, sizeLine_eq]))) (.inl rfl) rfl rfl fun s₂ T₂ => ?_
  have e1 : (((srt []).map PyData.int).length : Int) = 0 := by rw [List.length_map, srt_length]; rfl
  rw [e1] at T₂
  refine s_if (t := true) T₂ (Tr.cmp (b := decide ((0:Int) = 0)) (Ev.var rfl) Ev.intc (cm_eqi hA')) (fun _ s₃ T₃ => ?_) (by intro h; cases h)
  refine s_raise G.ok K T₃ hA'.hh rfl rfl fun h' e s₄ u k hm => ?_
  exact refused_leaves (Mx := fun _ => False) B (fun b o e => ⟨e, id⟩) (Nat.le_refl _) rfl rfl (T₃.keeps k) hm fun s' hq => hq

/-- median_high over an iterator: its first statement -/
theorem high_start (G : Gl c) {I a : Addr} {vs : List Value} {ns : List Int} {p p' pp : Pos} {rest : List Stmt} {Q : Flow → Shared → Prop} (hh : A.handled = none)
    (T : St c b Mx (scopeOf (theDef 3)) r X₀ [] ρ s) (hd : ρ.lookup ("data" : Str) = some (.raw (.ref I)))
    (hit : s.heap.IsListIter I a 0) (hl : s.heap.IsList a vs.toArray) (hI : IntsAre vs ns) (h64 : vs.length < 64) (hX : ¬ X₀ I) (hc : c.h.get? I = none) (hab : I < r.L)
    (h : ∀ s', St c b (fun a => Mx a ∨ a = I) (scopeOf (theDef 3)) r X₀ [] (("data", dL ((srt ns).map .int)) :: ρ) s' → wpAny (model c.prog c.w) A (execs rest (En (scopeOf (theDef 3)) r)) Q E s') :
    wpAny (model c.prog c.w) A (execs (.Assign [.Name "data" p] (.Call (.Name "sorted" p') [.Name "data" pp] [] cpos) pos :: rest) (En (scopeOf (theDef 3)) r)) Q E s := by
  refine execs_next (wpAny_Assign_Name (Call_ (wp_weak (Ev.bi (A := A) (ρ := ρ) G G.sorted rfl rfl (by decide) r _ s T.top T.sees) fun f s₁ ⟨k₁, r₁⟩ => ?_)) rfl)
  cases r₁
  have T₁ := T.keeps k₁
  refine callWith_builtin1 (wp_weak ((EvA.cons (Ev.var hd) EvA.nil : EvA c A (scopeOf (theDef 3)) ρ [.Name "data" pp] [.raw (.ref I)]) r _ s₁ _ T₁.top T₁.sees) fun us s₂ ⟨k₂, r₂⟩ => ?_) rfl rfl
  have T₂ := T₁.keeps k₂
  have x₂ : Ext s.heap s₂.heap := fun b o e => Keeps.ext k₂ b o (Keeps.ext k₁ b o e)
  cases r₂ with
  | cons q₁ q₂ => cases q₂ with
    | nil =>
      cases q₁
      have hab' : ∃ b o, I < b ∧ s₂.heap.get? b = some o := by
        obtain ⟨_, _, m, cm, F, _⟩ := T₂.sees
        obtain ⟨o, _, _, ho, _⟩ := F.ns
        exact ⟨_, o, hab, ho⟩
      have hit₂ : s₂.heap.IsListIter I a 0 := hit.at fun o e => x₂ _ _ e
      refine sorted_iter (ns := ns) hh hit₂ (hl.at fun o e => x₂ _ _ e) hI h64 hab' fun D h' tk out ns' hb hD hlo a1 a2 a3 => ?_
      have hf : FieldsAt s₂.heap I := by obtain ⟨o, ho, _, hd⟩ := hit₂; exact ⟨o, _, ho, hd⟩
      refine (T₂.but (tk := tk) hb hf hX hc).store (.inl rfl) rfl (Rd.list hlo (fun hx => ?_) (srt_eq a2 a3 ▸ IntsAre.rd a1)) fun s' T' => h s' T'
      obtain ⟨o, e⟩ := T₂.sees.1 D hx
      rw [hD] at e; cases e

theorem high_it (G : Gl c) {n : Nat} (hA : Room (n + 1) A) {X : Addr → Prop} {I a : Addr} {vs : List Value} {ns : List Int} (hT : Ext c.h s.heap) (hX : Xok X s.heap) (hit : s.heap.IsListIter I a 0) (hl : s.heap.IsList a vs.toArray)
    (hI : IntsAre vs ns) (h64 : ns.length < 64) (hne : ns ≠ []) (hXI : ¬ X I) (hc : c.h.get? I = none) :
    wpAny (model c.prog c.w) A (call (.ref G.aHigh) [.ref I]) (fun v s' => Chg (fun a => a = I) s s' ∧ Rd X s'.heap v (dI (medHigh ns))) no s := by
  have hvn : vs.length = ns.length := hI.length
  have hlt : I < s.heap.objs.size := by obtain ⟨o, ho, _⟩ := hit; exact Heap.lt_size ho
  refine wpAny_call (call_at G.ok G.high.d (ds := [.raw (.ref I)]) rfl hA hT hX (.cons rfl .nil) fun cd s₀ hA' T => ?_)
  have x₀ : Ext s.heap s₀.heap := fun b o e => T.chg.get b o e id
  refine high_start G hA'.hh T rfl (hit.at fun o e => x₀ _ _ e) (hl.at fun o e => x₀ _ _ e) hI (by omega) hXI hc hlt fun s₁ T₁ => ?_
  have hl' : (srt ns).length = ns.length := srt_length ns
  have hpos : 0 < ns.length := List.length_pos_iff.mpr hne
  have h24 : sizeLine = 16777216 := sizeLine_eq
  refine s_assign T₁ (Ev.callB (Ev.bi G G.len) (.cons (Ev.var rfl) .nil) (bi_len (by simp; omega))) (.inl rfl) rfl rfl fun s₂ T₂ => ?_
  have e1 : (((srt ns).map PyData.int).length : Int) = ns.length := by rw [List.length_map, hl']
  rw [e1] at T₂
  refine s_if (t := false) T₂ ?_ (by intro h; cases h) fun _ s₃ T₃ => wpAny_execs_nil ?_
  · have : decide ((ns.length : Int) = 0) = false := by simp; exact hne
    rw [← this]
    exact Tr.cmp (Ev.var rfl) Ev.intc (cm_eqi hA')
  have e2 : (ns.length : Int).fdiv 2 = ((ns.length / 2 : Nat) : Int) := by rw [Int.fdiv_eq_ediv_of_nonneg _ (by omega)]; omega
  refine s_return T₃ (Ev.sub (Ev.var rfl) (Ev.bin (Ev.var rfl) Ev.intc (op_fdiv (by decide) (noPy _ 2 (by decide)))) (it_list (d := .int (medHigh ns)) (by rw [e2]; omega) ?_ (by rw [e2]; omega) (fun _ _ => rfl))) fun v s' T' hr => ⟨?_, hr.avoid fun a h => .inl (.inl h)⟩
  · rw [e2, getD_map_int (by omega)]
    unfold medHigh; rfl
  · obtain ⟨h', tk, e, k⟩ := T'.chg
    exact ⟨h', tk, e, fun b o e' hn => k b o e' fun q => q.elim id hn⟩

theorem high_raises (G : Gl c) (K : Cls c C) {n : Nat} (hA : Room (n + 1) A) {outer : List Env} {g : Heap} {X : Addr → Prop} {I a : Addr} (B : Below A c.h outer g) (hT : Ext c.h s.heap) (hX : Xok X s.heap) (hit : s.heap.IsListIter I a 0) (hl : s.heap.IsList a #[])
    (hXI : ¬ X I) (hc : c.h.get? I = none) (hg : ∀ b o, g.get? b = some o → s.heap.get? b = some o ∧ b ≠ I) (hsz : g.objs.size ≤ s.heap.objs.size) :
    wpAny (model c.prog c.w) A (call (.ref G.aHigh) [.ref I]) (fun _ _ => False) (Refused c C outer g s) s := by
  have hlt : I < s.heap.objs.size := by obtain ⟨o, ho, _⟩ := hit; exact Heap.lt_size ho
  refine wpAny_call (call_at G.ok G.high.d (ds := [.raw (.ref I)]) rfl hA hT hX (.cons rfl .nil) fun cd s₀ hA' T => ?_)
  have x₀ : Ext s.heap s₀.heap := fun b o e => T.chg.get b o e id
  refine high_start (vs := []) (ns := []) G hA'.hh T rfl (hit.at fun o e => x₀ _ _ e) (hl.at fun o e => x₀ _ _ e) .nil (by decide) hXI hc hlt fun s₁ T₁ => ?_
  refine s_assign T₁ (Ev.callB (Ev.bi G G.len) (.cons (Ev.var rfl) .nil) (bi_len (by simp [srt, sizeLine_eq]))) (.inl rfl) rfl rfl fun s₂ T₂ => ?_
  have e1 : (((srt []).map PyData.int).length : Int) = 0 := by rw [List.length_map, srt_length]; rfl
  rw [e1] at T₂
  refine s_if (t := true) T₂ (Tr.cmp (b := decide ((0:Int) = 0)) (Ev.var rfl) Ev.intc (cm_eqi hA')) (fun _ s₃ T₃ => ?_) (by intro h; cases h)
  refine s_raise G.ok K T₃ hA'.hh rfl rfl fun h' e s₄ u k hm => ?_
  exact refused_leaves B (fun b o e => ⟨(hg b o e).1, fun q => q.elim id (hg b o e).2⟩) hsz rfl rfl (T₃.keeps k) hm fun s' hq => hq
end
end Mine
end

section -- Exc4
open PySem PySem.W PyProof.Rows PySem.Spec PySem.Calls
set_option Elab.async false
set_option maxRecDepth 100000
set_option linter.unusedVariables false
namespace Mine
theorem shaped_ints (ns : List Int) : SeqAt.shaped (.list (ns.map .int)) = true := by
  have h := canLay_ints ns
  unfold SeqAt.shaped
  rw [Bool.and_eq_true]
  refine ⟨?_, decide_eq_true ?_⟩
  · show PyData.canLayAll0 _ = true
    exact h.1
  · simp only [PyData.depth]; have := h.2; omega
theorem eqv_self {d : PyData} (h : SeqAt.shaped d = true) : PyData.eqv d d = true := PySem.SeqAt.eqv_refl d (SeqAt.canLay_of_shaped h)
section
variable {c : Cx} {A : Around} {b : Shared} {Mx : Addr → Prop} {sc : Scope} {r : ER} {X₀ : Addr → Prop} {own : Own} {ρ : Rho} {s s' : Shared} {pos np cpos kp : Pos} {E : Value → Shared → Prop} {C : Addr}
theorem Ev.on {e : PySem.Expr} {d : Dd} (T : St c b Mx sc r X₀ own ρ s) (h : Ev c A sc ρ e d) : wpAny (model c.prog c.w) A (eval e (En sc r)) (fun v s' => Keeps s s' ∧ Rd (Xs X₀ r own) s'.heap v d) no s := h r _ s T.top T.sees
theorem Tr.on {e : PySem.Expr} {d : Bool} (T : St c b Mx sc r X₀ own ρ s) (h : Tr c A sc ρ e d) : wpAny (model c.prog c.w) A (isTrue e (En sc r) (eval e (En sc r))) (fun v s' => Keeps s s' ∧ v = d) no s := h r _ s T.top T.sees
theorem St.forget {Mx' : Addr → Prop} (T : St c b Mx' sc r X₀ own ρ s) (h : ∀ a, Mx' a → Mx a ∨ b.heap.get? a = none) : St c b Mx sc r X₀ own ρ s where
  chg := by
    obtain ⟨h', tk, e, k⟩ := T.chg
    exact ⟨h', tk, e, fun a o e' hn => k a o e' fun q => (h a q).elim hn fun z => by rw [z] at e'; cases e'⟩
  top := T.top
  x0 := T.x0
  mutb := fun a hm => ⟨(T.mutb a hm).1.elim (h a) .inr, (T.mutb a hm).2⟩
  sees := T.sees
  owned := T.owned
  nodup := T.nodup
theorem s_try {body : List Stmt} {h₀ : ExceptHandler} {hs : List ExceptHandler} {rest : List Stmt} {Q : Flow → Shared → Prop}
    (h : wpAny (model c.prog c.w) A (execs body (En sc r)) (fun f s₁ => match f with | .next => wpAny (model c.prog c.w) A (execs rest (En sc r)) Q E s₁ | f => Q f s₁)
      (fun e s₁ => wpAny (model c.prog c.w) A (noteFrame e (En sc r)) (fun _ s₂ => wpAny (model c.prog c.w) A (setFlight e none) (fun _ s₃ => wpAny (model c.prog c.w) A (handleBy e (En sc r) (h₀ :: hs)) (fun f s' => match f with | .next => wpAny (model c.prog c.w) A (execs rest (En sc r)) Q E s' | f => Q f s') E s₃) E s₂) E s₁) s) :
    wpAny (model c.prog c.w) A (execs (.Try body (h₀ :: hs) [] [] pos :: rest) (En sc r)) Q E s := by
  refine execs_next (wpAny_Try_except (wpAny_mono h (fun f s₁ h₁ => ?_) fun _ _ x => x))
  cases f with
  | next => exact wpAny_execs_nil h₁
  | _ => exact h₁

def midF (w : Int) (ns : List Int) : Int := if w = 1 then medHigh ns else medLow ns
theorem slice_all (ds : List PyData) : (ds.drop (Option.elim (none : Option Int) 0 (clipAt ds.length))).take (Option.elim (none : Option Int) ds.length (clipAt ds.length) - Option.elim (none : Option Int) 0 (clipAt ds.length)) = ds := by
  simp
/-- the whole middle, of some numbers -/
theorem body_middle (G : Gl c) {n : Nat} {ns : List Int} (hne : ns ≠ []) (h64 : ns.length < 64) {w : Int} :
    Body c (n + 1) (scopeOf (theDef 61)) (bodyOf (theDef 61)) [("some", dL (ns.map .int)), ("way", dI w)] (dI (midF w ns)) := by
  intro A r X₀ b s hA T
  have h24 : sizeLine = 16777216 := sizeLine_eq
  refine s_assign (d := dL (ns.map .int)) T ((Ev.slice (Ev.var rfl) .none .none (by simp; omega)).as (by rw [slice_all])) (.inl rfl) rfl rfl fun s₁ T₁ => ?_
  refine s_try ?_
  have fin : ∀ s₂, St c b (fun _ => False) (scopeOf (theDef 61)) r X₀ [] (("middle", dI (midF w ns)) :: ("kept", dL (ns.map .int)) :: [("some", dL (ns.map .int)), ("way", dI w)]) s₂ →
      wpAny (model c.prog c.w) A (execs ((bodyOf (theDef 61)).drop 2) (En (scopeOf (theDef 61)) r)) (fun f s' => ∃ v own ρ', f = .ret v ∧ St c b (fun _ => False) (scopeOf (theDef 61)) r X₀ own ρ' s' ∧ Rd X₀ s'.heap v (dI (midF w ns))) no s₂ := fun s₂ T₂ => by
    refine s_return T₂ (Ev.ife (b := true) ?_ (fun _ => Ev.var rfl) (by intro h; cases h)) fun v s' T' hr => ⟨v, _, _, rfl, T', hr.avoid fun a h => .inl (.inl h)⟩
    rw [← eqv_self (shaped_ints ns)]
    exact Tr.cmp (Ev.var rfl) (Ev.var rfl) (cm_eq hA (shaped_ints ns) (shaped_ints ns))
  by_cases hw : w = 1
  · -- over the iterator
    have em : midF w ns = medHigh ns := by unfold midF; rw [if_pos hw]
    refine execs_next (wpAny_Assign_Name (IfExp_ (wp_weak (Tr.on T₁ (Tr.cmp (b := decide (w = 1)) (Ev.var rfl) Ev.intc (cm_eqi hA))) fun v s₂ ⟨k₂, e₂⟩ => ?_)) rfl)
    subst e₂
    rw [decide_eq_true hw]
    have T₂ := T₁.keeps k₂
    obtain ⟨o, ps, pm, cd, doc, ho, hdat, _⟩ := G.high.d.at_
    refine Call_ (wp_weak (Ev.on T₂ (Ev.glob G.ok G.high.bound)) fun f s₃ ⟨k₃, r₃⟩ => ?_)
    cases r₃
    have T₃ := T₂.keeps k₃
    refine callWith_def (o := o) hdat (args_cons (Call_ (wp_weak (Ev.on T₃ (Ev.bi G G.iter)) fun f s₄ ⟨k₄, r₄⟩ => ?_)) rfl) rfl
    cases r₄
    have T₄ := T₃.keeps k₄
    refine callWith_builtin1 (args_cons (wp_weak (Ev.on T₄ (Ev.var (d := dL (ns.map .int)) rfl)) fun v s₅ ⟨k₅, r₅⟩ => args_nil ?_) rfl) rfl rfl
    have T₅ := T₄.keeps k₅
    obtain ⟨a, vs, rfl, hxa, hl, ra⟩ := r₅.list_inv
    refine iter_list hl ?_
    have kp : Keeps s₅ { s₅ with heap := s₅.heap.push { cls := .type "list_iterator", data := .fields #[.ref a, .int 0 0] } } := Keeps.push
    have T₆ := T₅.keeps kp
    have hIn : s₅.heap.get? s₅.heap.objs.size = none := get_new _
    have hcI : c.h.get? s₅.heap.objs.size = none := by
      cases q : c.h.get? s₅.heap.objs.size with
      | none => rfl
      | some o => have := T₅.top _ _ q; rw [hIn] at this; cases this
    have hXI : ¬ Xs X₀ r [] s₅.heap.objs.size := fun h => by obtain ⟨o, e⟩ := T₅.sees.1 _ h; rw [hIn] at e; cases e
    have hbI : b.heap.get? s₅.heap.objs.size = none := by
      cases q : b.heap.get? s₅.heap.objs.size with
      | none => rfl
      | some o => have := T₅.chg.get _ _ q id; rw [hIn] at this; cases this
    have hit : (s₅.heap.push { cls := .type "list_iterator", data := .fields #[.ref a, .int 0 0] }).IsListIter s₅.heap.objs.size a 0 := ⟨_, Heap.get?_push_size _ rfl, rfl, rfl⟩
    refine args_nil ⟨T₆.top _ _ ho, ?_⟩
    refine wpAny_mono (high_it G hA T₆.top T₆.sees.1 hit (hl.push _) ra.ints h64 hne hXI hcI) (fun v s₇ ⟨g, r₇⟩ => ?_) fun _ _ f => f.elim
    obtain ⟨h', tk, rfl, k⟩ := g
    have T₇ := (T₆.but (I := s₅.heap.objs.size) (h' := h') (tk := tk) (fun b o n e => k b o e n) ⟨_, _, Heap.get?_push_size _ rfl, rfl⟩ (fun h => hXI (.inl h)) hcI).forget (Mx := fun _ => False) fun a ha => ha.elim .inl fun e => .inr (e ▸ hbI)
    refine T₇.store (.inl rfl) rfl r₇ fun s₈ T₈ => ?_
    rw [← em] at T₈
    exact wpAny_execs_nil (fin s₈ T₈)
  · have em : midF w ns = medLow ns := by unfold midF; rw [if_neg hw]
    refine s_assign (d := dI (midF w ns)) T₁ (Ev.ife (b := decide (w = 1)) (Tr.cmp (Ev.var rfl) Ev.intc (cm_eqi hA)) (fun h => absurd (of_decide_eq_true h) hw) fun _ => ?_) (.inl rfl) rfl rfl fun s₂ T₂ => wpAny_execs_nil (fin s₂ T₂)
    rw [em]
    exact Ev.fn G G.low rfl hA (.cons (Ev.var rfl) .nil) (fn_low G hne h64)
end
end Mine
end

section -- Exc5
open PySem PySem.W PyProof.Rows PySem.Spec PySem.Calls
set_option Elab.async false
set_option maxRecDepth 100000
set_option linter.unusedVariables false
namespace Mine
/-- the text as it was read, for the catching of a refusal -/
structure Deep (c : Cx) (C : Addr) where
  KF : Frag
  p : Program
  loose : List Str
  mean : ExcName → Option Value
  XB : KF.In c.h
  TB : Top p loose mean c.mg c.mb c.h
  ex : nsIn KF mainGlobals "StatisticsError" = some (some (.ref C))
  q : ktsIn KF C "BaseException" = true
section
variable {c : Cx} {A : Around} {s : Shared} {C : Addr}
/-- the frame around: that of the caller -/
structure Caller (c : Cx) (A : Around) (lw : Env) (Lw : Addr) (h : Heap) : Prop where
  stack : A.frames = some [lw]
  frame : lw.frame = some Lw
  kind : lw.scope.kind = .function
  at_ : DictAt h Lw
  new : c.h.get? Lw = none
theorem Caller.below {lw : Env} {Lw : Addr} {h : Heap} (x : Caller c A lw Lw h) (hT : Ext c.h h) : Below A c.h [lw] h := by
  obtain ⟨o, es, n, ho, hd⟩ := x.at_
  exact ⟨x.stack, hT, by rw [x.kind]; decide, ⟨Lw, o, x.frame, x.new, ho, fun vs q => by rw [hd] at q; cases q⟩, trivial⟩
theorem Caller.deep {lw : Env} {Lw : Addr} {g : Heap} (x : Caller c A lw Lw g) (hT : Ext c.h g) {env : Env} {L : Addr} (hf : env.frame = some L) (hk : env.scope.kind = .function) (hL : DictAt g L) (hn : c.h.get? L = none) : Below (A.deeper env) c.h [env, lw] g := by
  obtain ⟨o, es, n, ho, hd⟩ := hL
  exact ⟨Around.frames_deeper x.stack, hT, by rw [hk]; decide, ⟨L, o, hf, hn, ho, fun vs q => by rw [hd] at q; cases q⟩, (x.below hT).frames⟩

/-- what the handler does with the refusal -/
theorem middle_caught (G : Gl c) (K : Cls c C) (D : Deep c C) {n : Nat} {lw : Env} {Lw : Addr} {cd : Value} {Gh h' : Heap} {m : Str → Option Value} {ea t : Addr} {u : Tok} {tk : Nat} {s₂ : Shared} {pos np p₁ p₂ p₃ p₄ : Pos} {Q : Flow → Shared → Prop} {E : Value → Shared → Prop}
    (hA : Room (n + 2) A) (W : Caller c A lw Lw s.heap) (hT : Ext c.h s.heap) (F : Fr s.heap s.heap.objs.size Gh m)
    (R : RaisedS c.h Gh [envOf (nameOf (theDef 61)) (scopeOf (theDef 61)) s.heap.objs.size G.aMiddle cd, lw] ea (.ref C) t [.str refusal u] [] h') (hsm : Gh.UpToSlots h') (hs₂ : ∃ h₂ tk₂, s₂ = { s with heap := h₂, toks := tk₂ })
    (hQ : ∀ s', KeepsZ (fun a => a = Lw) s s' → Q (.ret (.str refusal u)) s') :
    wpAny (model c.prog c.w) (A.deeper (envOf (nameOf (theDef 61)) (scopeOf (theDef 61)) s.heap.objs.size G.aMiddle cd)) (noteFrame (.ref ea) (envOf (nameOf (theDef 61)) (scopeOf (theDef 61)) s.heap.objs.size G.aMiddle cd))
      (fun _ s₃ => wpAny (model c.prog c.w) (A.deeper (envOf (nameOf (theDef 61)) (scopeOf (theDef 61)) s.heap.objs.size G.aMiddle cd)) (setFlight (.ref ea) none) (fun _ s₄ =>
        wpAny (model c.prog c.w) (A.deeper (envOf (nameOf (theDef 61)) (scopeOf (theDef 61)) s.heap.objs.size G.aMiddle cd)) (handleBy (.ref ea) (envOf (nameOf (theDef 61)) (scopeOf (theDef 61)) s.heap.objs.size G.aMiddle cd)
          [.ExceptHandler (some (.Name "StatisticsError" np)) (some "error") [.Return (some (.Call (.Name "str" p₁) [.Name "error" p₂] [] p₃)) p₄] pos]) Q E s₄) E s₃) E { s₂ with heap := h', toks := tk } := by
  have hfs : [lw].filterMap (·.frame) = [Lw] := by rw [List.filterMap_cons, W.frame]; rfl
  have hDict : KtsDicts ([lw].filterMap (·.frame)) s.heap := by
    rw [hfs]; intro b hb; rw [List.mem_singleton.mp hb]; exact W.at_
  refine caught_SOB (s' := { s₂ with heap := h', toks := tk }) (g := s.heap) (g₀ := s.heap) (KF := D.KF) (p := D.p) (loose := D.loose) (mean := D.mean) (mg := c.mg) (mb := c.mb) R F (W.below hT) hsm D.XB D.TB hDict KtsTurn.refl D.ex D.q ?_
  intro h₅ g' news₂ tk₅ Tn F₅ N₅ Got₅ _ B₅ _ _ _
  have top₅ : Ext c.h h₅ := fun b o e => F₅.keep b o (B₅.stays b o e)
  have own : OwnExc h₅ ea C t ∧ h₅.TupAt t [.str refusal u] := by
    obtain ⟨oe, ot, ws, nt, h1, h2, hc, hd, h0, htc, htd⟩ := Got₅
    exact ⟨⟨oe, ws, N₅.get h1, hc, hd, h0⟩, ⟨ot, nt, N₅.get h2, htc, htd⟩⟩
  obtain ⟨h₂, tk₂, rfl⟩ := hs₂
  refine execs_next (wpAny_Return_some (Call_ (Name_function_global rfl rfl (loadGlobal_builtin (G.ok.g.keeps top₅) G.str.1 (G.ok.b.keeps top₅) G.str.2 ?_) (by decide))))
  refine PyProof.Rows.callWith_type1 (args_cons (ld F₅ (v := .ref ea) (if_pos rfl) (args_nil ?_)) rfl) rfl rfl
  refine own_str (by have := hA.units; show A.units + 3 + 2 < cLine; omega) (K.at_.ext top₅) own.1 own.2 ?_
  refine name_goes_keeps F₅ N₅ fun h₆ v₆ F₆ _ => hQ _ ⟨h₆, _, rfl, fun b o e => ?_⟩
  rw [hfs] at Tn
  refine ⟨fun hn => F₆.keep b o (Tn.other b o e (by simpa using hn)), fun hz => ?_⟩
  obtain ⟨sl, q⟩ := Tn.frame b o e (by simpa using hz)
  exact ⟨sl, F₆.keep b _ q⟩

theorem middle_empty (G : Gl c) (K : Cls c C) (D : Deep c C) {n : Nat} {lw : Env} {Lw : Addr} {X : Addr → Prop} {v₁ v₂ : Value} {w : Int} (hA : Room (n + 2) A) (W : Caller c A lw Lw s.heap) (hT : Ext c.h s.heap) (hX : Xok X s.heap)
    (r₁ : Rd X s.heap v₁ (dL [])) (r₂ : Rd X s.heap v₂ (dI w)) :
    wpAny (model c.prog c.w) A (call (.ref G.aMiddle) [v₁, v₂]) (fun v s' => KeepsZ (fun a => a = Lw) s s' ∧ Rd X s'.heap v (dS refusal)) no s := by
  have h24 : sizeLine = 16777216 := sizeLine_eq
  refine wpAny_call (call_at (n := n + 1) G.ok G.middle.d (ds := [dL [], dI w]) rfl hA hT hX (.cons r₁ (.cons r₂ .nil)) fun cd s₀ hA' T => ?_)
  refine s_assign (d := dL []) T ((Ev.slice (Ev.var rfl) .none .none (by simp)).as rfl) (.inl rfl) rfl rfl fun s₁ T₁ => ?_
  refine s_try ?_
  have he : En (scopeOf (theDef 61)) (frER s G.aMiddle (nameOf (theDef 61)) (scopeOf (theDef 61)) cd) = envOf (nameOf (theDef 61)) (scopeOf (theDef 61)) s.heap.objs.size G.aMiddle cd := rfl
  have hLn : c.h.get? s.heap.objs.size = none := (T₁.mutb _ (.inl rfl)).2
  have hWn : ∀ {g : Heap}, Ext s.heap g → Caller c A lw Lw g := fun k => ⟨W.stack, W.frame, W.kind, let ⟨o, es, n, ho, hd⟩ := W.at_; ⟨o, es, n, k _ _ ho, hd⟩, W.new⟩
  refine execs_next (wpAny_Assign_Name (IfExp_ (wp_weak (Tr.on T₁ (Tr.cmp (b := decide (w = 1)) (Ev.var rfl) Ev.intc (cm_eqi hA'))) fun v s₂ ⟨k₂, e₂⟩ => ?_)) rfl)
  subst e₂
  have T₂ := T₁.keeps k₂
  by_cases hw : w = 1
  · rw [decide_eq_true hw]
    obtain ⟨o, ps, pm, cd', doc, ho, hdat, _⟩ := G.high.d.at_
    refine Call_ (wp_weak (Ev.on T₂ (Ev.glob G.ok G.high.bound)) fun f s₃ ⟨k₃, r₃⟩ => ?_)
    cases r₃
    have T₃ := T₂.keeps k₃
    refine callWith_def (o := o) hdat (args_cons (Call_ (wp_weak (Ev.on T₃ (Ev.bi G G.iter)) fun f s₄ ⟨k₄, r₄⟩ => ?_)) rfl) rfl
    cases r₄
    have T₄ := T₃.keeps k₄
    refine callWith_builtin1 (args_cons (wp_weak (Ev.on T₄ (Ev.var (d := dL []) rfl)) fun v s₅ ⟨k₅, r₅⟩ => args_nil ?_) rfl) rfl rfl
    have T₅ := T₄.keeps k₅
    obtain ⟨a, vs, rfl, hxa, hl, ra⟩ := r₅.list_inv
    have hvs : vs = [] := ra.unnil
    subst hvs
    refine iter_list hl ?_
    have kp : Keeps s₅ { s₅ with heap := s₅.heap.push { cls := .type "list_iterator", data := .fields #[.ref a, .int 0 0] } } := Keeps.push
    have T₆ := T₅.keeps kp
    have hIn : s₅.heap.get? s₅.heap.objs.size = none := get_new _
    have hcI : c.h.get? s₅.heap.objs.size = none := by
      cases q : c.h.get? s₅.heap.objs.size with
      | none => rfl
      | some o => have := T₅.top _ _ q; rw [hIn] at this; cases this
    have hXI : ¬ Xs X (frER s G.aMiddle (nameOf (theDef 61)) (scopeOf (theDef 61)) cd) [] s₅.heap.objs.size := fun h => by obtain ⟨o, e⟩ := T₅.sees.1 _ h; rw [hIn] at e; cases e
    have hit : (s₅.heap.push { cls := .type "list_iterator", data := .fields #[.ref a, .int 0 0] }).IsListIter s₅.heap.objs.size a 0 := ⟨_, Heap.get?_push_size _ rfl, rfl, rfl⟩
    have hbI : s.heap.get? s₅.heap.objs.size = none := by
      cases q : s.heap.get? s₅.heap.objs.size with
      | none => rfl
      | some o => have := T₅.chg.get _ _ q id; rw [hIn] at this; cases this
    -- the heap without the iterator
    generalize hI : s₅.heap.objs.size = I at *
    generalize hH : s₅.heap.push { cls := .type "list_iterator", data := .fields #[.ref a, .int 0 0] } = H at *
    have hgH : ∀ {b : Addr} {o : Obj}, b ≠ I → H.get? b = some o → (hideAll H [I]).get? b = some o := fun n e => hideAll_get _ e (by simpa using n)
    have hsg : Ext s.heap (hideAll H [I]) := fun b o e => hgH (fun q => by rw [q, hbI] at e; cases e) (T₆.chg.get b o e id)
    have hcg : Ext c.h (hideAll H [I]) := fun b o e => hgH (fun q => by rw [q, hcI] at e; cases e) (T₆.top b o e)
    obtain ⟨_, _, m, cm, F, _⟩ := id T₆.sees
    have hns : (hideAll H [I]).Ns s.heap.objs.size m := by
      obtain ⟨o, es, ep, ho, hd, q⟩ := F.ns
      refine ⟨o, es, ep, hgH (fun q => ?_) ho, hd, q⟩
      obtain ⟨o', ho', _, hd'⟩ := hit
      rw [show (frER s G.aMiddle (nameOf (theDef 61)) (scopeOf (theDef 61)) cd).L = s.heap.objs.size from rfl, q, ho'] at ho
      cases ho; rw [hd] at hd'; cases hd'
    refine args_nil ⟨T₆.top _ _ ho, ?_⟩
    have B := (hWn hsg).deep hcg (env := En (scopeOf (theDef 61)) (frER s G.aMiddle (nameOf (theDef 61)) (scopeOf (theDef 61)) cd)) rfl rfl (let ⟨o, es, n, ho, hd, _⟩ := hns; ⟨o, es, n, ho, hd⟩) hLn
    refine wpAny_mono (high_raises (n := n) G K hA' B T₆.top T₆.sees.1 hit (hH ▸ hl.push _) hXI hcI (fun b o e => ⟨of_hideAll _ e, fun q => by rw [q, hideAll_none _ (.head _)] at e; cases e⟩) (Nat.le_of_eq (hideAll_size _ _))) (fun _ _ f => f.elim) fun e s₇ hR => ?_
    obtain ⟨ea, t, u, h', tk, rfl, rfl, R, hsm⟩ := hR
    rw [he] at R ⊢
    obtain ⟨h₆, tk₆, e₆, _⟩ := T₆.chg
    refine middle_caught (A := A) (s := s) (n := n) G K D hA W hT ⟨hns, hsg, Nat.le_refl _⟩ R hsm ⟨h₆, tk₆, e₆⟩ fun s' kz => ⟨kz, Rd.str⟩
  · rw [decide_eq_false hw]
    obtain ⟨o, ps, pm, cd', doc, ho, hdat, _⟩ := G.low.d.at_
    refine Call_ (wp_weak (Ev.on T₂ (Ev.glob G.ok G.low.bound)) fun f s₃ ⟨k₃, r₃⟩ => ?_)
    cases r₃
    have T₃ := T₂.keeps k₃
    refine callWith_def (o := o) hdat (args_cons (wp_weak (Ev.on T₃ (Ev.var (d := dL []) rfl)) fun v s₄ ⟨k₄, r₄⟩ => args_nil ?_) rfl) rfl
    have T₄ := T₃.keeps k₄
    obtain ⟨_, _, m, cm, F, _⟩ := id T₄.sees
    have hsg : Ext s.heap s₄.heap := fun b o e => T₄.chg.get b o e id
    have B := (hWn hsg).deep T₄.top (env := En (scopeOf (theDef 61)) (frER s G.aMiddle (nameOf (theDef 61)) (scopeOf (theDef 61)) cd)) rfl rfl (let ⟨o, es, n, ho, hd, _⟩ := F.ns; ⟨o, es, n, ho, hd⟩) hLn
    refine ⟨T₄.top _ _ ho, ?_⟩
    refine wpAny_mono (low_raises (n := n) G K hA' B T₄.top T₄.sees.1 r₄) (fun _ _ f => f.elim) fun e s₇ hR => ?_
    obtain ⟨ea, t, u, h', tk, rfl, rfl, R, hsm⟩ := hR
    rw [he] at R ⊢
    obtain ⟨h₆, tk₆, e₆, _⟩ := T₄.chg
    refine middle_caught (A := A) (s := s) (n := n) G K D hA W hT ⟨F.ns, hsg, Nat.le_refl _⟩ R hsm ⟨h₆, tk₆, e₆⟩ fun s' kz => ⟨kz, Rd.str⟩

def midPy (w : Int) (ns : List Int) : PyData := if ns = [] then .str refusal else .int (midF w ns)
/-- a middle, asked for from a comprehension of the caller -/
theorem evz_middle (G : Gl c) (K : Cls c C) (D : Deep c C) {n : Nat} {lw : Env} {Lw : Addr} {sc : Scope} {ρ : Rho} {e₁ e₂ : PySem.Expr} {p pos : Pos} {ns : List Int} {w : Int} (hA : Room (n + 2) A) (hst : A.frames = some [lw]) (hfr : lw.frame = some Lw) (hkd : lw.scope.kind = .function)
    (h64 : ns.length < 64) (h₁ : Ev c A sc ρ e₁ (dL (ns.map .int))) (h₂ : Ev c A sc ρ e₂ (dI w)) (hx : sc.names.lookup ("_law_middle" : Str) = some .globalImplicit := by rfl) (hk : sc.kind = .function := by rfl)
    (he : ∀ env, starEach [e₁, e₂] env = [(false, eval e₁ env), (false, eval e₂ env)] := by intro _; rfl) (he' : ∀ env, starEach [e₂] env = [(false, eval e₂ env)] := by intro _; rfl) :
    EvZ c A sc ρ (fun a => a = Lw) (.Call (.Name "_law_middle" p) [e₁, e₂] [] pos) (.py (midPy w ns)) := by
  by_cases hne : ns = []
  · subst hne
    intro r X s hT S hZ
    obtain ⟨o, ps, pm, cd, doc, ho, hdat, _⟩ := G.middle.d.at_
    refine Call_ (wp_weak (Ev.glob (A := A) (ρ := ρ) G.ok G.middle.bound hx hk (by decide) r X s hT S) fun f s₁ ⟨k₁, r₁⟩ => ?_)
    cases r₁
    have x₁ := Keeps.ext k₁
    refine callWith_def (o := o) hdat (wp_weak ((EvA.cons h₁ (EvA.cons h₂ EvA.nil he') fun env => by rw [he, he']) r X s₁ _ (fun b o e => x₁ b o (hT b o e)) (S.ext x₁)) fun vs s₂ ⟨k₂, r₂⟩ => ?_) (by rw [he, he'])
    have x₂ := Keeps.ext k₂
    have hT₂ : Ext c.h s₂.heap := fun b o e => x₂ b o (x₁ b o (hT b o e))
    have hZ₂ := (hZ.kz (Kz.ext x₁)).kz (Kz.ext x₂)
    cases r₂ with
    | cons q₁ q => cases q with
      | cons q₂ q => cases q with
        | nil =>
          refine ⟨hT₂ _ _ ho, wp_weak (middle_empty (n := n) G K D hA ⟨hst, hfr, hkd, (hZ₂ Lw rfl).2.1, (hZ₂ Lw rfl).2.2⟩ hT₂ ((S.ext x₁).ext x₂).1 q₁ q₂) fun v s₃ ⟨k₃, r₃⟩ => ⟨?_, r₃⟩⟩
          obtain ⟨h₁', t₁, rfl, _⟩ := k₁
          obtain ⟨h₂', t₂, rfl, _⟩ := k₂
          obtain ⟨h₃', t₃, rfl, k₃⟩ := k₃
          exact ⟨h₃', t₃, rfl, (Kz.ext x₁).trans ((Kz.ext x₂).trans k₃)⟩
  · unfold midPy
    rw [if_neg hne]
    obtain ⟨o, ps, pm, cd, doc, ho, hdat, _⟩ := G.middle.d.at_
    exact (Ev.callF hA (Ev.glob G.ok G.middle.bound hx hk (by decide)) ho hdat (EvA.cons h₁ (EvA.cons h₂ EvA.nil he') fun env => by rw [he, he']) (Body.fn G.ok G.middle.d rfl (body_middle (n := n) G hne h64)) (fun env => by rw [he, he'])).z
end
end Mine
end

section -- Txt
open PySem PySem.W PyProof.Rows PySem.Spec PySem.Calls
set_option Elab.async false
set_option maxRecDepth 100000
set_option linter.unusedVariables false
namespace Mine
section
variable {c : Cx} {A : Around} {sc : Scope} {ρ : Rho} {pos : Pos}
theorem part_val {v : Value} {i : Option Int} (h : IsPart v i) : ∃ l : Option (Int × Tok), v = partValue l ∧ l.map (·.1) = i := by
  cases h with
  | none => exact ⟨none, rfl, rfl⟩
  | int i t => exact ⟨some (i, t), rfl, rfl⟩
theorem Ev.sliceS {value : PySem.Expr} {lo hi : Option PySem.Expr} {i j : Option Int} {p : Pos} {x : Str} (h : Ev c A sc ρ value (dS x)) (h₁ : Part c A sc ρ lo i) (h₂ : Part c A sc ρ hi j) (hn : x.length ≤ sizeLine) :
    Ev c A sc ρ (.Subscript value (.Slice lo hi none p) pos) (dS (Txt.slice x i j)) := by
  intro r X s hT S
  refine slice_type F.slot_str_getitem.lookup (wp_weak (h r X s hT S) fun a s₁ ⟨k₁, r₁⟩ => ?_)
  have e₁ := Keeps.ext k₁
  refine wpAny_Slice (wp_weak (h₁.run r X s₁ (fun b o e => e₁ b o (hT b o e)) (S.ext e₁)) fun b s₂ ⟨k₂, p₂⟩ => ?_)
  have e₂ := Keeps.ext k₂
  refine wp_weak (h₂.run r X s₂ (fun b o e => e₂ b o (e₁ b o (hT b o e))) ((S.ext e₁).ext e₂)) fun b' s₃ ⟨k₃, p₃⟩ => ?_
  rw [evalPart_none]
  refine wpAny_pure ?_
  obtain ⟨t, rfl⟩ := r₁.str_inv
  obtain ⟨l, rfl, rfl⟩ := part_val p₂
  obtain ⟨u, rfl, rfl⟩ := part_val p₃
  refine ⟨typeIs_str _ _ _, wpAny_getItem_str_slice (l := l) (u := u) (st := none) ⟨_, Heap.get?_push_size _ rfl, rfl, rfl⟩ rfl ?_⟩
  exact post_val_or_str ⟨Nat.le_trans (Txt.slice_le x _ _) hn, fun t' k => ⟨Keeps.trans k₁ (Keeps.trans k₂ (Keeps.trans k₃ (Keeps.trans Keeps.push (Keeps.tok _)))), Rd.str⟩⟩

/-! the table of the operators -/
theorem cm_inD {d : Addr} {D : List (PyData × PyData)} {x : Str} (T : StrTab c.prog c.w c.h d D) : Gv c A [dS x, .raw (.ref d)] (fun vs => compareOp .In (vs.getD 0 .none) (vs.getD 1 .none)) (dB (PySem.Spec.lookup (.str x) D).isSome) := .two fun X s v₁ v₂ hT hX r₁ r₂ => by
  obtain ⟨t, rfl⟩ := r₁.str_inv
  cases r₂
  exact in_strTab (T.keep hT) ⟨Keeps.tok _, Rd.bool⟩
theorem it_D {value slice : PySem.Expr} {d : Addr} {D : List (PyData × PyData)} {x : Str} {i : Int} (T : StrTab c.prog c.w c.h d D) (hl : PySem.Spec.lookup (.str x) D = some (.int i)) (hs : notSlice slice) (hg : ∀ o r, letTemporaryGo value o r = pure ()) :
    Gv c A [.raw (.ref d), dS x] (fun vs => subscriptTail value slice (vs.getD 0 .none) (vs.getD 1 .none)) (dI i) := .two fun X s v₁ v₂ hT hX r₁ r₂ => by
  obtain ⟨t, rfl⟩ := r₂.str_inv
  cases r₁
  exact item_strTab (T.keep hT) hl (fun v hv => ⟨Keeps.tok _, by obtain ⟨u, rfl⟩ := hv.int_inv; exact Rd.int⟩) (hs _ _) (hg _)

/-! two methods of text -/
theorem Ev.index {o e : PySem.Expr} {ap p1 : Pos} {x y : Str} {i : Nat} {rest : List Nat} (ho : Ev c A sc ρ o (dS x)) (he : Ev c A sc ρ e (dS y)) (hi : Builtin.Str.occurrences x y 0 x.length 1 = i :: rest)
    (pl : ER → Sem Bool) (hm : ∀ r, eval (.Call (.Attribute o "index" ap) [e] [] p1) (En sc r) = (do
      let ov ← eval o (En sc r)
      standAt ap.atName
      let (f, first) ← holding [ov] (getMethod ov "index" (pl r))
      callWith p1 f first (backTo p1 (starEach [e] (En sc r))) []))
    (hst : ∀ env, starEach [e] env = (false, eval e env) :: starEach [] env := by intro _; rfl) : Ev c A sc ρ (.Call (.Attribute o "index" ap) [e] [] p1) (dI i) := fun r X s hT S => by
  refine MethodCall_ (pl := pl r) (wp_weak (ho r X s hT S) fun ov s₁ ⟨k₁, r₁⟩ => ?_) (hm r)
  obtain ⟨t, rfl⟩ := r₁.str_inv
  have x₁ := Keeps.ext k₁
  refine GM.index ?_
  dsimp only
  refine callWith_method1 (args_cons (wp_weak (he r X s₁ (fun b o e => x₁ b o (hT b o e)) (S.ext x₁)) fun v s₂ ⟨k₂, r₂⟩ => args_nil ?_) (hst _)) (hst _) rfl
  obtain ⟨u, rfl⟩ := r₂.str_inv
  exact SC.index hi ⟨Keeps.trans k₁ (Keeps.trans k₂ (Keeps.tok _)), Rd.int⟩
theorem RdAll.strs {X : Addr → Prop} {h : Heap} : ∀ {ns : List Str} {vs : List Value}, RdAll X h vs (ns.map .str) → CarriedAll vs (ns.map .str)
  | [], _, r => by rw [r.unnil]; exact .nil
  | n :: ns, _, r => by
    obtain ⟨v, us, rfl, r1, r2⟩ := r.uncons
    obtain ⟨t, rfl⟩ := r1.str_inv
    exact .cons (.str _ _) r2.strs
theorem Ev.join {o e : PySem.Expr} {ap p1 : Pos} {x : Str} {l : List Str} (B : Nat) (ho : Ev c A sc ρ o (dS x)) (he : Ev c A sc ρ e (dL (l.map .str))) (hB : ∀ a ∈ l, a.length ≤ B) (hn : l.length ≤ 1048576) (hs : B + x.length ≤ 16)
    (pl : ER → Sem Bool) (hm : ∀ r, eval (.Call (.Attribute o "join" ap) [e] [] p1) (En sc r) = (do
      let ov ← eval o (En sc r)
      standAt ap.atName
      let (f, first) ← holding [ov] (getMethod ov "join" (pl r))
      callWith p1 f first (backTo p1 (starEach [e] (En sc r))) []))
    (hst : ∀ env, starEach [e] env = (false, eval e env) :: starEach [] env := by intro _; rfl) : Ev c A sc ρ (.Call (.Attribute o "join" ap) [e] [] p1) (dS (Txt.join x l)) := fun r X s hT S => by
  refine MethodCall_ (pl := pl r) (wp_weak (ho r X s hT S) fun ov s₁ ⟨k₁, r₁⟩ => ?_) (hm r)
  obtain ⟨t, rfl⟩ := r₁.str_inv
  have x₁ := Keeps.ext k₁
  refine GM.join ?_
  dsimp only
  refine callWith_method1 (args_cons (wp_weak (he r X s₁ (fun b o e => x₁ b o (hT b o e)) (S.ext x₁)) fun v s₂ ⟨k₂, r₂⟩ => args_nil ?_) (hst _)) (hst _) rfl
  obtain ⟨a, vs, rfl, _, hl, ra⟩ := r₂.list_inv
  refine join_madeW (l := l) (g := id) B hl (by simpa using ra.strs) hB hn hs fun t' k => ?_
  rw [List.map_id]
  exact ⟨Keeps.trans k₁ (Keeps.trans k₂ (Keeps.tok _)), Rd.str⟩

/-! isinstance of int -/
theorem bi_isint {n : Int} : Gv c A [dI n, .raw (.type "int")] (fun vs => call (.builtin "isinstance") vs) (dB true) := .two' fun X s v₁ v₂ hT hX r₁ r₂ => by
  obtain ⟨t, rfl⟩ := r₁.int_inv
  cases r₂
  exact IsiPair.int_int ⟨Keeps.refl _, Rd.bool⟩
theorem bi_isintS {x : Str} : Gv c A [dS x, .raw (.type "int")] (fun vs => call (.builtin "isinstance") vs) (dB false) := .two' fun X s v₁ v₂ hT hX r₁ r₂ => by
  obtain ⟨t, rfl⟩ := r₁.str_inv
  cases r₂
  exact IsiPair.str_int ⟨Keeps.tok _, Rd.bool⟩

/-- a list of one text, twice -/
theorem Ev.twice {x : Str} {k k2 : Nat} {p1 p2 p3 : Pos} : Ev c A sc ρ (.BinOp (.List [.Constant (.str x) k p1] p2) .Mult (.Constant (.int 2) k2 p3) pos) (dL [.str x, .str x]) := fun r X s hT S => by
  refine wpAny_BinOp (List_ (args_cons (wp_weak ((Ev.strc : Ev c A sc ρ (.Constant (.str x) k p1) (dS x)) r X s hT S) fun v s₁ ⟨k₁, r₁⟩ => args_nil ?_) rfl))
  obtain ⟨t, rfl⟩ := r₁.str_inv
  refine wpAny_newList ?_
  refine wp_weak ((Ev.intc : Ev c A sc ρ (.Constant (.int 2) k2 p3) (dI 2)) r X _ ?_ ?_) fun u s₂ ⟨k₂, r₂⟩ => ?_
  · intro b o e; exact Heap.get?_push_of_some _ (Keeps.ext k₁ b o (hT b o e))
  · exact (S.ext (Keeps.ext k₁)).ext fun b o e => Heap.get?_push_of_some _ e
  obtain ⟨u, rfl⟩ := r₂.int_inv
  have hl : s₂.heap.get? s₁.heap.objs.size = some { cls := .type "list", dict := none, data := .seq [Value.str x t].toArray 0, slots := #[] } := Keeps.ext k₂ _ _ (Heap.get?_push_size _ rfl)
  refine wpAny_binaryOp_repeat_ref (T := "list") (U := "int") (by decide) ⟨_, hl, rfl⟩ (fun s' => typeIs_int s' 2 u) noFill_list_mul F.fills_int_mul F.slot_int_rmul repeat_list F.slot_int_index.lookup
    (call_meets F.slot_int_rmul (typeIs_int s₂ 2 u) F.entry_int_rmul (F.args_int_rmul_2 _ _) (int___rmul___int_list 2 u _ _ 0)
      ⟨hl, rfl, ⟨_, hl, rfl⟩, call_meets F.slot_list_mul ⟨_, hl, rfl⟩ F.entry_list_mul (F.args_list_mul_2 _ _)
        (AutoListH.list___mul___list_int_3 _ [Value.str x t].toArray 0 2 u (by decide) (show ¬ (1 * Int.toNat 2 > (2 ^ 63 - 1) / 8) by decide) (show ¬ Builtin.List.listTooLong (1 * Int.toNat 2) = true by decide +kernel))
        ⟨hl, ?_⟩⟩)
  refine ⟨Keeps.trans k₁ (Keeps.trans Keeps.push (Keeps.trans k₂ Keeps.push)), ?_⟩
  have S₂ : Sees sc r X s₂.heap ρ := ((S.ext (Keeps.ext k₁)).ext (h' := s₁.heap.push _) fun b o e => Heap.get?_push_of_some _ e).ext (Keeps.ext k₂)
  exact Rd.list (its := #[.str x t, .str x t]) ⟨_, Heap.get?_push_size _ rfl, rfl, _, rfl⟩ (fun hx => by obtain ⟨o, e⟩ := S₂.1 _ hx; rw [get_new] at e; cases e) (.cons Rd.str (.cons Rd.str .nil))
end
end Mine
end

section -- WPairs
open PySem PySem.W PyProof.Rows PySem.Spec PySem.Calls
set_option Elab.async false
set_option maxRecDepth 100000
set_option linter.unusedVariables false
namespace Mine
/-- the table of the operators, under its name -/
structure Tab (c : Cx) (D : List (PyData × PyData)) where
  a : Addr
  bound : c.mg "EXACT_TOKEN_TYPES" = some (.ref a)
  tab : StrTab c.prog c.w c.h a D
def whileBody : Stmt → List Stmt
  | .While _ b _ _ => b
  | _ => []
def inT (D : List (PyData × PyData)) (x : Str) : Bool := (PySem.Spec.lookup (.str x) D).isSome
/-- one look at the line, at place p: the next place and the symbol -/
structure TokAt (D : List (PyData × PyData)) (x : Str) (p q : Nat) (y : Int) : Prop where
  lt : p < x.length
  small : x.length ≤ 4096
  k : ∃ k : Nat, k = (if inT D (Txt.slice x (some p) (some ((p : Int) + (3 : Nat)))) then 3 else if inT D (Txt.slice x (some p) (some ((p : Int) + (2 : Nat)))) then 2 else 1) ∧ q = p + k ∧
    (PySem.Spec.lookup (.str (Txt.slice x (some p) (some ((p : Int) + k)))) D = some (.int y) ∨
      PySem.Spec.lookup (.str (Txt.slice x (some p) (some ((p : Int) + k)))) D = none ∧ ∃ i rest, Builtin.Str.occurrences "abcd" (Txt.slice x (some p) (some ((p : Int) + k))) 0 (Str.length "abcd") 1 = i :: rest ∧ y = 256 + (i : Nat))
section
variable {c : Cx} {A : Around} {D : List (PyData × PyData)}
abbrev RP (a : Addr) (x : Str) (p : Nat) : Rho := [bd "place" (dI p), bd "symbols" (.raw (.ref a)), bd "line" (dS x)]
theorem pair_turn (G : Gl c) (W : Tab c D) {n : Nat} {r : ER} {X₀ : Addr → Prop} {b s : Shared} {Mx : Addr → Prop} {a : Addr} {x : Str} {p q : Nat} {y : Int} {ys : List Int} (hA : Room n A) (K : TokAt D x p q y) (hys : ys.length ≤ 4096)
    (T : St c b Mx (scopeOf (theDef 60)) r X₀ [(a, .data (ys.map .int))] (RP a x p) s) {Q : Flow → Shared → Prop}
    (h : ∀ s', St c b Mx (scopeOf (theDef 60)) r X₀ [(a, .data ((ys ++ [y]).map .int))] (RP a x q) s' → Q .next s') :
    wpAny (model c.prog c.w) A (execs (whileBody ((bodyOf (theDef 60)).getD 2 (.Pass ⟨0, 0, 0, 0⟩))) (En (scopeOf (theDef 60)) r)) Q no s := by
  have h24 : sizeLine = 16777216 := sizeLine_eq
  obtain ⟨hlt, hsm, k, hk, rfl, hsym⟩ := K
  have hp2 : (p : Int) < 2 ^ 62 := by omega
  have hx : x.length ≤ sizeLine := by omega
  -- the size of the piece
  refine s_assign (d := dI k) T ?_ (.inl rfl) rfl rfl fun s₁ T₁ => ?_
  · let pz : Nat → Bool := fun k => inT D (Txt.slice x (some p) (some ((p : Int) + (k : Nat))))
    have e : mxI (([1] : List Int) ++ (([2, 3] : List Nat).filter pz).map fun (k : Nat) => (k : Int)) = k := by
      rw [hk]
      simp only [List.filter_cons, List.filter_nil]
      show mxI _ = ((if pz 3 = true then 3 else if pz 2 = true then 2 else 1 : Nat) : Int)
      cases pz 3 <;> cases pz 2 <;> rfl
    rw [← e]
    refine Ev.maxL G hA.hh (Ev.bin (Ev.list (ds := [.int 1]) (.cons Ev.intc .nil)) (Cmp.ev (Cmp.nm ([2, 3] : List Nat) (fun k => .int k) pz (fun k => .int k) rfl (Src.tup hA.hh (Ev.tup (.cons Ev.intc (.cons Ev.intc .nil)))) (fun k hk => .one ?_) (fun k hk _ => Ev.var rfl) (by rw [h24]; decide)) hA.hh) (op_ladd ?_)) ?_ (by simp)
    · exact Tr.cmp (Ev.sliceS (Ev.var rfl) (.some (Ev.var rfl)) (.some (Ev.bin (Ev.var rfl) (Ev.var rfl) op_add)) hx) (Ev.glob G.ok W.bound) (cm_inD W.tab)
    · simp only [List.length_map, List.length_cons, List.length_nil]; have := List.length_filter_le pz [2, 3]; simp at this; omega
    · simp
  refine s_assign (d := dS (Txt.slice x (some p) (some ((p : Int) + k)))) T₁ (Ev.sliceS (Ev.var rfl) (.some (Ev.var rfl)) (.some (Ev.bin (Ev.var rfl) (Ev.var rfl) op_add)) hx) (.inl rfl) rfl rfl fun s₂ T₂ => ?_
  have fin : ∀ p1 p2 p3 s₃, St c b Mx (scopeOf (theDef 60)) r X₀ [(a, .data ((ys ++ [y]).map .int))] (bd "piece" (dS (Txt.slice x (some p) (some ((p : Int) + k)))) :: bd "size" (dI k) :: RP a x p) s₃ →
      wpAny (model c.prog c.w) A (execs [.AugAssign (.Name "place" p1) .Add (.Name "size" p2) p3] (En (scopeOf (theDef 60)) r)) Q no s₃ := fun p1 p2 p3 s₃ T₃ => by
    refine s_aug T₃ rfl (Ev.var rfl) (op_iadd (a := p) (b := k)) (.inr rfl) rfl (by decide) (by decide) fun s₄ T₄ => wpAny_execs_nil (h s₄ ?_)
    have : ((p : Int) + (k : Int)) = ((p + k : Nat) : Int) := by omega
    rw [this] at T₄
    exact T₄.weak (sub_cons rfl (sub_cons rfl (sub_cons rfl sub_nil)))
  have hT : ∀ bb p1 p2 p3, (PySem.Spec.lookup (.str (Txt.slice x (some p) (some ((p : Int) + k)))) D).isSome = bb → Tr c A (scopeOf (theDef 60)) (bd "piece" (dS (Txt.slice x (some p) (some ((p : Int) + k)))) :: bd "size" (dI k) :: RP a x p) (.Compare (.Name "piece" p1) [.In] [.Name "EXACT_TOKEN_TYPES" p2] p3) bb := fun bb p1 p2 p3 hbb => hbb ▸ Tr.cmp (Ev.var rfl) (Ev.glob G.ok W.bound) (cm_inD W.tab)
  rcases hsym with hl | ⟨hl, i, rest, ho, rfl⟩
  · refine s_if (t := true) T₂ (hT true _ _ _ (by rw [hl]; rfl)) (fun _ s₃ T₃ => ?_) (by intro h; cases h)
    refine s_append (pre := []) (post := []) T₃ (d := .int y) (Ev.var rfl) (Ev.sub (Ev.glob G.ok W.bound) (Ev.var rfl) (it_D W.tab hl (fun _ _ => rfl) (fun _ _ => rfl))) (by simp; omega) (fun s₄ T₄ => wpAny_execs_nil (fin _ _ _ s₄ ?_)) _ rfl
    simpa using T₄
  · refine s_if (t := false) T₂ (hT false _ _ _ (by rw [hl]; rfl)) (by intro h; cases h) (fun _ s₃ T₃ => ?_)
    refine s_append (pre := []) (post := []) T₃ (d := .int (256 + (i : Nat))) (Ev.var rfl) (Ev.bin (Ev.globInt G.ok G.nt) (Ev.index Ev.strc (Ev.var rfl) ho (fun _ => _) fun _ => rfl) op_add) (by simp; omega) (fun s₄ T₄ => wpAny_execs_nil (fin _ _ _ s₄ ?_)) _ rfl
    simpa using T₄
end
end Mine
end

section -- WPairs2
open PySem PySem.W PyProof.Rows PySem.Spec PySem.Calls
set_option Elab.async false
set_option maxRecDepth 100000
set_option linter.unusedVariables false
namespace Mine
inductive Lex (D : List (PyData × PyData)) (x : Str) : Nat → List Int → Prop
  | done : Lex D x x.length []
  | step {p q : Nat} {y : Int} {ys : List Int} : TokAt D x p q y → Lex D x q ys → Lex D x p (y :: ys)
/-- pairs told, names since the last end, kind -/
abbrev PSt := List (Int × Int) × List Int × Int
def stepP (t : PSt) (y : Int) : PSt :=
  if 256 ≤ y then (t.1, t.2.1 ++ [y - 256], t.2.2)
  else if y = 13 ∨ y = 0 then
    (t.1 ++ (if t.2.2 ∈ ([29, 27] : List Int) then [(t.2.1.getD 0 0, t.2.1.getD 1 0)] else []) ++ (if t.2.2 ∈ ([30, 27] : List Int) then [(t.2.1.getD 1 0, t.2.1.getD 0 0)] else []), [], t.2.2)
  else (t.1, t.2.1, y)
def foldP (l : List Int) : PSt := l.foldl stepP ([], [], 0)
def okP (pre : List Int) (y : Int) : Prop := ((y = 13 ∨ y = 0) → (foldP pre).2.1.length = 2) ∧ (foldP pre).1.length ≤ 100 ∧ (foldP pre).2.1.length ≤ 100
noncomputable def splits (P : List Int → Int → Prop) : List Int → List Int → Prop
  | _, [] => True
  | pre, a :: post => P pre a ∧ splits P (pre ++ [a]) post
theorem splits_at {P : List Int → Int → Prop} : ∀ (l pre₀ pre : List Int) (a : Int) (post : List Int), splits P pre₀ l → l = pre ++ a :: post → P (pre₀ ++ pre) a
  | _, pre₀, [], a, post, h, e => by subst e; simpa using h.1
  | _, pre₀, b :: pre, a, post, h, e => by
    subst e
    have := splits_at _ (pre₀ ++ [b]) pre a post h.2 rfl
    simpa using this
abbrev pp (q : Int × Int) : PyData := .tuple [.int q.1, .int q.2]
section
variable {c : Cx} {A : Around} {D : List (PyData × PyData)} {pos : Pos}
theorem Lex.place {x : Str} {p : Nat} {ys : List Int} (h : Lex D x p ys) : (ys = [] ∧ p = x.length) ∨ (∃ y ys' q, ys = y :: ys' ∧ TokAt D x p q y ∧ Lex D x q ys') := by
  cases h with
  | done => exact .inl ⟨rfl, rfl⟩
  | step k h => exact .inr ⟨_, _, _, rfl, k, h⟩
abbrev RQ (aN aP : Addr) (k : Int) (l : List Int) : Rho := [bd "names" (.raw (.ref aN)), bd "pairs" (.raw (.ref aP)), bd "kind" (dI k), bd "symbols" (dL (l.map .int))]
theorem if_pair {n : Nat} {b s : Shared} {Mx : Addr → Prop} {r : ER} {X₀ : Addr → Prop} {ρ : Rho} {aP : Addr} {P : List (Int × Int)} {k u v n0 n1 m0 m1 : Int} {i j : Nat} {q0 q1 q2 q3 q4 q5 q6 q7 q8 q9 qa qb qc qd qe qf : Pos} {k0 k1 k2 k3 : Nat} {x y : Str} {rest : List Stmt} {Q : Flow → Shared → Prop} {E : Value → Shared → Prop}
    (hA : Room n A) (hk : ρ.lookup (Str.ofString "kind") = some (dI k)) (hn : ρ.lookup (Str.ofString "names") = some (dL [.int n0, .int n1])) (hp : ρ.lookup (Str.ofString "pairs") = some (.raw (.ref aP))) (T : St c b Mx (scopeOf (theDef 60)) r X₀ [(aP, .data (P.map pp))] ρ s)
    (h1 : Ev c A (scopeOf (theDef 60)) ρ (.Name x q0) (dI u)) (h2 : Ev c A (scopeOf (theDef 60)) ρ (.Name y q1) (dI v)) (hi : ([n0, n1] : List Int)[i]? = some m0) (hj : ([n0, n1] : List Int)[j]? = some m1) (hP : P.length ≤ 200)
    (h : ∀ s', St c b Mx (scopeOf (theDef 60)) r X₀ [(aP, .data ((P ++ if k ∈ [u, v] then [(m0, m1)] else []).map pp))] ρ s' → wpAny (model c.prog c.w) A (execs rest (En (scopeOf (theDef 60)) r)) Q E s') (pl : Sem Bool)
    (hm : eval (.Call (.Attribute (.Name "pairs" q5) "append" q6) [.Tuple [.Subscript (.Name "names" q7) (.Constant (.int i) k1 q8) q9, .Subscript (.Name "names" qa) (.Constant (.int j) k2 qb) qc] k3 qd] [] qe) (En (scopeOf (theDef 60)) r) = (do
      let ov ← eval (.Name "pairs" q5) (En (scopeOf (theDef 60)) r)
      standAt q6.atName
      let (f, first) ← holding [ov] (getMethod ov "append" pl)
      callWith qe f first (backTo qe (starEach [.Tuple [.Subscript (.Name "names" q7) (.Constant (.int i) k1 q8) q9, .Subscript (.Name "names" qa) (.Constant (.int j) k2 qb) qc] k3 qd] (En (scopeOf (theDef 60)) r))) [])) :
    wpAny (model c.prog c.w) A (execs (.If (.Compare (.Name "kind" q2) [.In] [.Tuple [.Name x q0, .Name y q1] k0 q3] q4)
      [.Expr (.Call (.Attribute (.Name "pairs" q5) "append" q6) [.Tuple [.Subscript (.Name "names" q7) (.Constant (.int i) k1 q8) q9, .Subscript (.Name "names" qa) (.Constant (.int j) k2 qb) qc] k3 qd] [] qe) qf] [] pos :: rest) (En (scopeOf (theDef 60)) r)) Q E s := by
  have h24 : sizeLine = 16777216 := sizeLine_eq
  have gi : ∀ {i : Nat} {m : Int}, ([n0, n1] : List Int)[i]? = some m → i < 2 := fun {i m} e => by
    rcases Nat.lt_or_ge i 2 with h | h
    · exact h
    · rw [List.getElem?_eq_none (by simpa using h)] at e; cases e
  have gd : ∀ {i : Nat} {m : Int}, ([n0, n1] : List Int)[i]? = some m → ([.int n0, .int n1] : List PyData)[i]? = some (.int m) := fun {i m} e => by
    have : ([.int n0, .int n1] : List PyData) = ([n0, n1] : List Int).map .int := rfl
    rw [this, List.getElem?_map, e]; rfl
  refine s_if (t := decide (k ∈ [u, v])) T (Tr.cmp (Ev.var hk) (Ev.tup (ds := [.int u, .int v]) (.cons h1 (.cons h2 .nil))) (cm_intup (l := [u, v]) hA)) (fun ht s₁ T₁ => ?_) (fun ht s₁ T₁ => ?_)
  · have ht' : k ∈ [u, v] := by simpa using ht
    refine s_append (pre := []) (post := []) T₁ (d := pp (m0, m1)) (Ev.var hp) (Ev.tup (ds := [.int m0, .int m1]) (.cons (Ev.at (Ev.var hn) Ev.intc (gd hi) (by have := gi hi; omega)) (.cons (Ev.at (Ev.var hn) Ev.intc (gd hj) (by have := gi hj; omega)) .nil))) (by simp; omega) (fun s₂ T₂ => wpAny_execs_nil (h s₂ ?_)) pl hm
    rw [if_pos ht', List.map_append]
    exact T₂
  · have ht' : ¬ k ∈ [u, v] := by simpa using ht
    refine wpAny_execs_nil (h s₁ ?_)
    rw [if_neg ht', List.append_nil]
    exact T₁
theorem fn_pairs (G : Gl c) (W : Tab c D) {n : Nat} {x : Str} {ys : List Int} (hlex : Lex D x 0 ys) (hx : x.length ≤ 4096) (hys : ys.length ≤ 1000) (hok : splits okP [] (ys ++ [0])) :
    Fn c (n + 2) G.aPairs [dS x] (dL ((foldP (ys ++ [0])).1.map pp)) := by
  refine Body.fn (n := n + 1) G.ok G.pairs.d rfl fun A r X₀ b s hA T => ?_
  have h24 : sizeLine = 16777216 := sizeLine_eq
  refine s_own T (.inl rfl) rfl fun a s₁ T₁ => ?_
  refine s_assign T₁ Ev.intc (.inr rfl) rfl rfl fun s₂ T₂ => ?_
  refine s_while (fun k own ρ => ∃ p done rest, Lex D x p rest ∧ done ++ rest = ys ∧ k = rest.length ∧ own = [(a, .data (done.map .int))] ∧ ρ = RP a x p) (T₂.weak (ρ' := RP a x 0) (sub_cons rfl (sub_cons rfl (sub_cons rfl sub_nil)))) ys.length ⟨0, [], ys, hlex, rfl, rfl, rfl, rfl⟩ ?_
  rintro k own ρ s₃ ⟨p, done, rest, hl, he, rfl, rfl, rfl⟩ U
  refine ⟨decide ((p : Int) < (x.length : Int)), Tr.cmp (Ev.var rfl) (Ev.callB (Ev.bi G G.len) (.cons (Ev.var rfl) .nil) (bi_lenS (by omega))) cm_lt, fun ht s₄ U₄ => ?_, fun ht s₄ U₄ => ?_⟩
  · rcases hl.place with ⟨rfl, rfl⟩ | ⟨y, ys', q, rfl, K, hl'⟩
    · simp at ht
    · refine pair_turn G W hA K (by have := congrArg List.length he; simp at this; omega) U₄ fun s₅ U₅ => ⟨rfl, ys'.length, _, _, by simp, ⟨q, done ++ [y], ys', hl', by rw [← he]; simp, rfl, rfl, rfl⟩, U₅⟩
  · have hr : rest = [] := by
      rcases hl.place with ⟨rfl, _⟩ | ⟨y, ys', q, rfl, K, _⟩
      · rfl
      · have := K.lt; simp at ht; omega
    subst hr
    rw [List.append_nil] at he
    subst he
    have F := St.freeze (pre := []) (post := []) (x := "symbols") U₄ rfl
    refine s_own F (.inl rfl) rfl fun aP s₅ T₅ => ?_
    refine s_own T₅ (.inl rfl) rfl fun aN s₆ T₆ => ?_
    refine s_assign T₆ (Ev.globInt G.ok G.endmarker) (.inl rfl) rfl rfl fun s₇ T₇ => ?_
    refine s_for (xs := []) (done ++ [0]) (fun y => .int y) (fun y => [bd "symbol" (dI y)])
      (fun pre own ρ => ∃ aN aP, own = [(aN, .data ((foldP pre).2.1.map .int)), (aP, .data ((foldP pre).1.map pp))] ∧ ρ = RQ aN aP (foldP pre).2.2 done) (fun _ => False)
      (T₇.weak (ρ' := RQ aN aP 0 done) (sub_cons rfl (sub_cons rfl (sub_cons rfl (sub_cons rfl sub_nil))))) hA.hh rfl ?_ (fun y _ => .loc rfl) ⟨aN, aP, rfl, rfl⟩ ?_ ?_ (fun own' ρ' d v s' hd => hd.elim)
    · rw [List.map_append]
      exact Src.list hA.hh (Ev.bin (Ev.var rfl) (Ev.list (ds := [.int 0]) (.cons (Ev.globInt G.ok G.endmarker) .nil)) (op_ladd (by simp; omega)))
    · rintro pre y post own ρ X₁ b' M' s₈ hL ⟨aN, aP, rfl, rfl⟩ V
      have ok : okP pre y := by simpa using splits_at _ [] pre y post hok hL
      have hst : foldP (pre ++ [y]) = stepP (foldP pre) y := by unfold foldP; rw [List.foldl_append]; rfl
      rw [hst]
      unfold okP at ok
      generalize foldP pre = t at V ok ⊢
      obtain ⟨P, N, k⟩ := t
      obtain ⟨ok1, ok2, ok3⟩ := ok
      dsimp only at ok1 ok2 ok3
      dsimp only at V ⊢
      refine s_if (t := decide (256 ≤ y)) V (Tr.bool (Ev.fn G G.non rfl hA (.cons (Ev.var rfl) .nil) (fn_non G))) (fun h s₉ V₉ => ?_) (fun h s₉ V₉ => ?_)
      · have h' : 256 ≤ y := by simpa using h
        refine s_append (pre := []) (post := [(aP, .data (P.map pp))]) V₉ (d := .int (y - 256)) (Ev.var rfl) (Ev.bin (Ev.var rfl) (Ev.globInt G.ok G.nt) op_sub) (by simp; omega) (fun s' V' => wpAny_execs_nil (wpAny_execs_nil ⟨_, _, ⟨aN, aP, rfl, rfl⟩, ?_⟩)) _ rfl
        unfold stepP
        rw [if_pos h']
        simp only [List.map_append]
        exact V'.weak (sub_cons rfl (sub_cons rfl (sub_cons rfl (sub_cons rfl sub_nil))))
      · have h' : ¬ 256 ≤ y := by simpa using h
        refine s_if (t := decide (y = 13) || decide (y = 0)) V₉ (Tr.or (Tr.cmp (Ev.var rfl) (Ev.globInt G.ok G.semi) (cm_eqi hA)) fun _ => Tr.bool (Ev.fn G G.eof rfl hA (.cons (Ev.var rfl) .nil) (fn_eof G))) (fun h2 u V₁₀ => ?_) (fun h2 u V₁₀ => ?_)
        · have h2' : y = 13 ∨ y = 0 := by simpa using h2
          have hN := ok1 h2'
          obtain ⟨n0, n1, rfl⟩ : ∃ n0 n1, N = [n0, n1] := by
            match N, hN with
            | [n0, n1], _ => exact ⟨n0, n1, rfl⟩
          have V₁₁ := St.freeze (pre := []) (post := [(aP, .data (P.map pp))]) (x := "names") V₁₀ rfl
          refine if_pair hA rfl rfl rfl V₁₁ (Ev.globInt G.ok G.lesseq) (Ev.globInt G.ok G.eqeq) (i := 0) (j := 1) rfl rfl (by omega) (fun s₁₂ V₁₂ => ?_) _ rfl
          refine if_pair hA rfl rfl rfl V₁₂ (Ev.globInt G.ok G.greq) (Ev.globInt G.ok G.eqeq) (i := 1) (j := 0) rfl rfl (by rw [List.length_append]; split <;> simp <;> omega) (fun s₁₃ V₁₃ => ?_) _ rfl
          refine s_own V₁₃ (.inl rfl) rfl fun aM s₁₄ V₁₄ => wpAny_execs_nil (wpAny_execs_nil (wpAny_execs_nil ⟨_, _, ⟨aM, aP, rfl, rfl⟩, ?_⟩))
          unfold stepP
          rw [if_neg h', if_pos h2']
          exact V₁₄.weak (sub_cons rfl (sub_cons rfl (sub_cons rfl (sub_cons rfl sub_nil))))
        · have h2' : ¬ (y = 13 ∨ y = 0) := by simpa using h2
          refine s_assign V₁₀ (Ev.var rfl) (.inl rfl) rfl rfl fun s' V' => wpAny_execs_nil (wpAny_execs_nil (wpAny_execs_nil ⟨_, _, ⟨aN, aP, rfl, rfl⟩, ?_⟩))
          unfold stepP
          rw [if_neg h', if_neg h2']
          exact V'.weak (sub_cons rfl (sub_cons rfl (sub_cons rfl (sub_cons rfl sub_nil))))
    · rintro own ρ s₈ ⟨aN, aP, rfl, rfl⟩ V
      have V' := St.freeze (pre := [(aN, _)]) (post := []) (x := "pairs") V rfl
      exact s_return V' (Ev.var rfl) fun v s' V₂ hr => ⟨v, _, _, rfl, V₂, hr.avoid fun a h => .inl (.inl h)⟩
end
end Mine
end

section -- Slice
open PySem PySem.W PyProof.Rows PySem.Spec PySem.Calls
set_option Elab.async false
set_option maxRecDepth 100000
set_option linter.unusedVariables false
namespace Mine
theorem pick_run (l : List Nat) (p : Nat) : ∀ q, (List.range q).filterMap (fun j => l.toArray[p + j]?) = (l.drop p).take q
  | 0 => by simp
  | q + 1 => by
    rw [List.range_succ, List.filterMap_append, pick_run l p q, List.take_add_one]
    congr 1
    simp only [List.filterMap_cons, List.filterMap_nil, List.getElem?_drop, List.getElem?_toArray]
    cases l[p + q]? <;> rfl
theorem indices_run (p k n : Nat) (hp : p ≤ n) : Builtin.Str.strSliceIndices (some (p : Int)) (some ((p : Int) + (k : Nat))) 1 n = (List.range (min k (n - p))).map (fun j => p + j) := by
  unfold Builtin.Str.strSliceIndices sliceRange
  have h1 : (1 : Int) > 0 := by decide
  simp only [h1, if_true]
  have e1 : ¬ (p : Int) < 0 := by omega
  have e2 : ¬ (p : Int) + (k : Nat) < 0 := by omega
  simp only [e1, e2, if_false]
  have e3 : max (0 : Int) (min (p : Int) (n : Int)) = p := by omega
  have e4 : max (0 : Int) (min ((p : Int) + (k : Nat)) (n : Int)) = ((p + min k (n - p) : Nat) : Int) := by omega
  rw [e3, e4]
  have e5 : (if (p : Int) < ((p + min k (n - p) : Nat) : Int) then (((p + min k (n - p) : Nat) : Int) - p + 1 - 1) / 1 else 0 : Int).toNat = min k (n - p) := by
    split <;> omega
  rw [e5]
  apply List.map_congr_left
  intro j _
  omega
theorem slice_run {x : Str} {l : List Nat} (hx : x.cps = l.toArray) (p k : Nat) (hp : p ≤ l.length) : Txt.slice x (some (p : Int)) (some ((p : Int) + (k : Nat))) = ⟨((l.drop p).take k).toArray⟩ := by
  obtain ⟨a⟩ := x
  dsimp only at hx
  subst hx
  have hn : (Str.mk l.toArray).length = l.length := by show l.toArray.size = _; simp
  have ht : (l.drop p).take (min k (l.length - p)) = (l.drop p).take k := by
    have : (l.drop p).length = l.length - p := List.length_drop
    rw [← this, ← List.take_take, List.take_length]
  have key : ((Builtin.Str.strSliceIndices (some (p : Int)) (some ((p : Int) + (k : Nat))) 1 l.length).filterMap ((Str.mk l.toArray).cps[·]?)) = (l.drop p).take k := by
    rw [indices_run p k _ hp, List.filterMap_map]
    rw [← ht, ← pick_run]
    rfl
  unfold Txt.slice
  rw [hn, key]
  split
  · rename_i h
    rw [indices_run p k _ hp] at h
    simp only [beq_self_eq_true, Bool.true_and, List.length_map, List.length_range, beq_iff_eq] at h
    have hp0 : l = [] ∨ p = 0 := by
      rcases Nat.eq_zero_or_pos l.length with h0 | h0
      · exact .inl (List.length_eq_zero_iff.mp h0)
      · right; omega
    rcases hp0 with rfl | rfl
    · simp
    · congr 1
      rw [List.drop_zero, List.take_of_length_le (by omega)]
  · rfl
end Mine
end

section -- Line
open PySem PySem.W PyProof.Rows PySem.Spec PySem.Calls
set_option Elab.async false
set_option maxRecDepth 100000
set_option linter.unusedVariables false
namespace Mine
def nmc (i : Nat) : Nat := 97 + i
def opc : Nat → Nat
  | 0 => 60
  | 1 => 62
  | _ => 61
def sy : Nat → Int
  | 0 => 29
  | 1 => 30
  | _ => 27
def Dr.txt (d : Dr) : Str := ⟨#[nmc d.a, opc d.k, 61, nmc d.b]⟩
def lineOf (d e f : Dr) : Str := ⟨#[nmc d.a, opc d.k, 61, nmc d.b, 59, nmc e.a, opc e.k, 61, nmc e.b, 59, nmc f.a, opc f.k, 61, nmc f.b]⟩
def symsOf (d e f : Dr) : List Int := [256 + (d.a : Nat), sy d.k, 256 + (d.b : Nat), 13, 256 + (e.a : Nat), sy e.k, 256 + (e.b : Nat), 13, 256 + (f.a : Nat), sy f.k, 256 + (f.b : Nat)]
def Dr.ok (d : Dr) : Prop := d.a < 4 ∧ d.k < 3 ∧ d.b < 4
def lk (D : List (PyData × PyData)) (l : List Nat) : Option PyData := PySem.Spec.lookup (.str ⟨l.toArray⟩) D
def isI (o : Option PyData) (y : Int) : Bool := match o with
  | some (.int z) => z == y
  | _ => false
theorem isI_eq {o : Option PyData} {y : Int} (h : isI o y = true) : o = some (.int y) := by
  unfold isI at h
  split at h
  · rw [eq_of_beq h]
  · cases h
def tabOk (D : List (PyData × PyData)) : Bool := (List.range 4).all fun i => (List.range 4).all fun j => (List.range 3).all fun k =>
  (lk D [nmc i]).isNone && (lk D [nmc i, opc k]).isNone && (lk D [nmc i, opc k, 61]).isNone && isI (lk D [opc k, 61]) (sy k) && (lk D [opc k, 61, nmc j]).isNone &&
  (lk D [nmc j, 59]).isNone && (lk D [nmc j, 59, nmc i]).isNone && isI (lk D [59]) 13 && (lk D [59, nmc i]).isNone && (lk D [59, nmc i, opc k]).isNone
structure TabOk (D : List (PyData × PyData)) (i j k : Nat) : Prop where
  n1 : lk D [nmc i] = none
  n2 : lk D [nmc i, opc k] = none
  n3 : lk D [nmc i, opc k, 61] = none
  o2 : lk D [opc k, 61] = some (.int (sy k))
  o3 : lk D [opc k, 61, nmc j] = none
  e2 : lk D [nmc j, 59] = none
  e3 : lk D [nmc j, 59, nmc i] = none
  s1 : lk D [59] = some (.int 13)
  s2 : lk D [59, nmc i] = none
  s3 : lk D [59, nmc i, opc k] = none
theorem tabOk_at {D : List (PyData × PyData)} (h : tabOk D = true) {i j k : Nat} (hi : i < 4) (hj : j < 4) (hk : k < 3) : TabOk D i j k := by
  have := List.all_eq_true.mp (List.all_eq_true.mp (List.all_eq_true.mp h i (by simpa using hi)) j (by simpa using hj)) k (by simpa using hk)
  simp only [Bool.and_eq_true, Option.isNone_iff_eq_none] at this
  obtain ⟨⟨⟨⟨⟨⟨⟨⟨⟨h1, h2⟩, h3⟩, h4⟩, h5⟩, h6⟩, h7⟩, h8⟩, h9⟩, h10⟩ := this
  exact ⟨h1, h2, h3, isI_eq h4, h5, h6, h7, isI_eq h8, h9, h10⟩
theorem index_is : ∀ i : Fin 4, Builtin.Str.occurrences "abcd" ⟨#[nmc i.val]⟩ 0 (Str.length "abcd") 1 = [i.val] := by decide +kernel
def lineL (d e f : Dr) : List Nat := [nmc d.a, opc d.k, 61, nmc d.b, 59, nmc e.a, opc e.k, 61, nmc e.b, 59, nmc f.a, opc f.k, 61, nmc f.b]
section
variable {D : List (PyData × PyData)} {x : Str} {p : Nat} {l rest : List Nat}
theorem rest_slice (hl : x.cps = l.toArray) (hp : p < l.length) (hr : l.drop p = rest) (k : Nat) : PySem.Spec.lookup (.str (Txt.slice x (some (p : Int)) (some ((p : Int) + (k : Nat))))) D = lk D (rest.take k) := by
  rw [slice_run hl p k (Nat.le_of_lt hp), hr]; rfl
theorem len_of (hl : x.cps = l.toArray) : x.length = l.length := by
  obtain ⟨a⟩ := x
  dsimp only at hl
  subst hl
  show l.toArray.size = _
  simp
theorem tok_name {i : Nat} (hl : x.cps = l.toArray) (hp : p < l.length) (hsm : l.length ≤ 4096) (hr : l.drop p = nmc i :: rest) (hi : i < 4) (h1 : lk D [nmc i] = none) (h2 : lk D ((nmc i :: rest).take 2) = none) (h3 : lk D ((nmc i :: rest).take 3) = none) : TokAt D x p (p + 1) (256 + (i : Nat)) := by
  refine ⟨by rw [len_of hl]; exact hp, by rw [len_of hl]; exact hsm, 1, ?_, rfl, .inr ⟨?_, i, [], ?_, rfl⟩⟩
  · unfold inT
    rw [rest_slice hl hp hr 2, rest_slice hl hp hr 3, h2, h3]; rfl
  · rw [rest_slice hl hp hr 1]; exact h1
  · rw [slice_run hl p 1 (Nat.le_of_lt hp), hr]; exact index_is ⟨i, hi⟩
theorem tok_op {y : Int} (hl : x.cps = l.toArray) (hp : p < l.length) (hsm : l.length ≤ 4096) (hr : l.drop p = rest) (h2 : lk D (rest.take 2) = some (.int y)) (h3 : lk D (rest.take 3) = none) : TokAt D x p (p + 2) y := by
  refine ⟨by rw [len_of hl]; exact hp, by rw [len_of hl]; exact hsm, 2, ?_, rfl, .inl ?_⟩
  · unfold inT
    rw [rest_slice hl hp hr 2, rest_slice hl hp hr 3, h2, h3]; rfl
  · rw [rest_slice hl hp hr 2]; exact h2
theorem tok_semi {y : Int} (hl : x.cps = l.toArray) (hp : p < l.length) (hsm : l.length ≤ 4096) (hr : l.drop p = rest) (h1 : lk D (rest.take 1) = some (.int y)) (h2 : lk D (rest.take 2) = none) (h3 : lk D (rest.take 3) = none) : TokAt D x p (p + 1) y := by
  refine ⟨by rw [len_of hl]; exact hp, by rw [len_of hl]; exact hsm, 1, ?_, rfl, .inl ?_⟩
  · unfold inT
    rw [rest_slice hl hp hr 2, rest_slice hl hp hr 3, h2, h3]; rfl
  · rw [rest_slice hl hp hr 1]; exact h1
end
theorem lex_line {D : List (PyData × PyData)} (hD : tabOk D = true) {d e f : Dr} (hd : d.ok) (he : e.ok) (hf : f.ok) : Lex D (lineOf d e f) 0 (symsOf d e f) := by
  obtain ⟨d1, d2, d3⟩ := hd
  obtain ⟨e1, e2, e3⟩ := he
  obtain ⟨f1, f2, f3⟩ := hf
  have td := tabOk_at hD d1 d3 d2
  have te := tabOk_at hD e1 e3 e2
  have tf := tabOk_at hD f1 f3 f2
  have tde := tabOk_at hD e1 d3 d2
  have tef := tabOk_at hD f1 e3 e2
  have tdb := tabOk_at hD d3 d3 d2
  have teb := tabOk_at hD e3 e3 d2
  have tfb := tabOk_at hD f3 f3 d2
  have tse := tabOk_at hD e1 d3 e2
  have tsf := tabOk_at hD f1 d3 f2
  refine .step (q := 1) (tok_name (l := lineL d e f) rfl (by show 0 < 14; decide) (by show 14 ≤ 4096; decide) rfl d1 td.n1 td.n2 td.n3) ?_
  refine .step (q := 3) (tok_op (l := lineL d e f) rfl (by show 1 < 14; decide) (by show 14 ≤ 4096; decide) rfl td.o2 td.o3) ?_
  refine .step (q := 4) (tok_name (l := lineL d e f) rfl (by show 3 < 14; decide) (by show 14 ≤ 4096; decide) rfl d3 tdb.n1 td.e2 tde.e3) ?_
  refine .step (q := 5) (tok_semi (l := lineL d e f) rfl (by show 4 < 14; decide) (by show 14 ≤ 4096; decide) rfl td.s1 te.s2 te.s3) ?_
  refine .step (q := 6) (tok_name (l := lineL d e f) rfl (by show 5 < 14; decide) (by show 14 ≤ 4096; decide) rfl e1 te.n1 te.n2 te.n3) ?_
  refine .step (q := 8) (tok_op (l := lineL d e f) rfl (by show 6 < 14; decide) (by show 14 ≤ 4096; decide) rfl te.o2 te.o3) ?_
  refine .step (q := 9) (tok_name (l := lineL d e f) rfl (by show 8 < 14; decide) (by show 14 ≤ 4096; decide) rfl e3 teb.n1 te.e2 tef.e3) ?_
  refine .step (q := 10) (tok_semi (l := lineL d e f) rfl (by show 9 < 14; decide) (by show 14 ≤ 4096; decide) rfl td.s1 tf.s2 tf.s3) ?_
  refine .step (q := 11) (tok_name (l := lineL d e f) rfl (by show 10 < 14; decide) (by show 14 ≤ 4096; decide) rfl f1 tf.n1 tf.n2 tf.n3) ?_
  refine .step (q := 13) (tok_op (l := lineL d e f) rfl (by show 11 < 14; decide) (by show 14 ≤ 4096; decide) rfl tf.o2 tf.o3) ?_
  refine .step (q := 14) (tok_name (l := lineL d e f) rfl (by show 13 < 14; decide) (by show 14 ≤ 4096; decide) rfl f3 tfb.n1 tfb.n1 tfb.n1) ?_
  exact .done
end Mine
end

section -- Line2
open PySem PySem.W PyProof.Rows PySem.Spec PySem.Calls
set_option Elab.async false
set_option maxRecDepth 100000
set_option linter.unusedVariables false
namespace Mine
/-- what a comparison tells: the lower name first -/
def prs (d : Dr) : List (Nat × Nat) := (if d.k != 1 then [(d.a, d.b)] else []) ++ (if d.k != 0 then [(d.b, d.a)] else [])
def prI (q : Nat × Nat) : Int × Int := ((q.1 : Int), (q.2 : Int))
def piece (d : Dr) (e : Int) : List Int := [256 + (d.a : Nat), sy d.k, 256 + (d.b : Nat), e]
theorem sy_facts {k : Nat} (h : k < 3) : ¬ 256 ≤ sy k ∧ ¬ (sy k = 13 ∨ sy k = 0) ∧ (sy k ∈ ([29, 27] : List Int) ↔ k ≠ 1) ∧ (sy k ∈ ([30, 27] : List Int) ↔ k ≠ 0) := by
  rcases (by omega : k = 0 ∨ k = 1 ∨ k = 2) with rfl | rfl | rfl <;> decide
theorem step_name (P : List (Int × Int)) (N : List Int) (k : Int) (i : Nat) : stepP (P, N, k) (256 + (i : Nat)) = (P, N ++ [(i : Int)], k) := by
  unfold stepP
  rw [if_pos (by omega)]
  have : (256 + (i : Int) - 256) = i := by omega
  rw [this]
theorem step_sy (P : List (Int × Int)) (N : List Int) (k : Int) {j : Nat} (h : j < 3) : stepP (P, N, k) (sy j) = (P, N, sy j) := by
  obtain ⟨h1, h2, _⟩ := sy_facts h
  unfold stepP
  rw [if_neg h1, if_neg h2]
theorem step_end (P : List (Int × Int)) (a b : Nat) {j : Nat} (h : j < 3) {e : Int} (he : e = 13 ∨ e = 0) : stepP (P, [(a : Int), (b : Int)], sy j) e = (P ++ (prs ⟨a, j, b⟩).map prI, [], sy j) := by
  obtain ⟨_, _, h3, h4⟩ := sy_facts h
  unfold stepP
  rw [if_neg (by rcases he with rfl | rfl <;> decide), if_pos he]
  simp only [h3, h4]
  unfold prs prI
  by_cases e1 : j = 1 <;> by_cases e0 : j = 0 <;> simp [e1, e0] <;> omega
theorem piece_fold (P : List (Int × Int)) (k : Int) {d : Dr} (hd : d.ok) {e : Int} (he : e = 13 ∨ e = 0) : (piece d e).foldl stepP (P, [], k) = (P ++ (prs d).map prI, [], sy d.k) := by
  unfold piece
  simp only [List.foldl_cons, List.foldl_nil, step_name, step_sy _ _ _ hd.2.1, List.nil_append, List.cons_append]
  exact step_end P d.a d.b hd.2.1 he
theorem foldP_app (l m : List Int) : foldP (l ++ m) = m.foldl stepP (foldP l) := by unfold foldP; rw [List.foldl_append]
theorem prs_len (d : Dr) : ((prs d).map prI).length ≤ 2 := by
  unfold prs
  rw [List.length_map, List.length_append]
  split <;> split <;> simp
theorem piece_split (pre : List Int) (P : List (Int × Int)) (k : Int) (hpre : foldP pre = (P, [], k)) (hP : P.length ≤ 50) {d : Dr} (hd : d.ok) {e : Int} (he : e = 13 ∨ e = 0) {rest : List Int} (hr : splits okP (pre ++ piece d e) rest) : splits okP pre (piece d e ++ rest) := by
  have h1 : foldP (pre ++ [256 + (d.a : Int)]) = (P, [(d.a : Int)], k) := by rw [foldP_app, hpre]; simp only [List.foldl_cons, List.foldl_nil, step_name]; rfl
  have h2 : foldP (pre ++ [256 + (d.a : Int)] ++ [sy d.k]) = (P, [(d.a : Int)], sy d.k) := by rw [foldP_app, h1]; simp only [List.foldl_cons, List.foldl_nil, step_sy _ _ _ hd.2.1]
  have h3 : foldP (pre ++ [256 + (d.a : Int)] ++ [sy d.k] ++ [256 + (d.b : Int)]) = (P, [(d.a : Int), (d.b : Int)], sy d.k) := by rw [foldP_app, h2]; simp only [List.foldl_cons, List.foldl_nil, step_name]; rfl
  have hs := (sy_facts hd.2.1).2.1
  refine ⟨?_, ?_, ?_, ?_, ?_⟩
  · unfold okP; rw [hpre]; exact ⟨fun h => by omega, by show P.length ≤ 100; omega, by simp⟩
  · unfold okP; rw [h1]; exact ⟨fun h => absurd h hs, by show P.length ≤ 100; omega, by simp⟩
  · unfold okP; rw [h2]; exact ⟨fun h => by omega, by show P.length ≤ 100; omega, by simp⟩
  · unfold okP; rw [h3]; exact ⟨fun h => rfl, by show P.length ≤ 100; omega, by simp⟩
  · have : pre ++ [256 + (d.a : Int)] ++ [sy d.k] ++ [256 + (d.b : Int)] ++ [e] = pre ++ piece d e := by unfold piece; simp
    rw [this]
    exact hr
theorem syms_pieces (d e f : Dr) : symsOf d e f ++ [0] = piece d 13 ++ (piece e 13 ++ (piece f 0 ++ [])) := by rfl
theorem syms_split {d e f : Dr} (hd : d.ok) (he : e.ok) (hf : f.ok) : splits okP [] (symsOf d e f ++ [0]) := by
  have l1 := prs_len d
  have l2 := prs_len e
  have l3 := prs_len f
  have f1 : foldP (piece d 13) = ([] ++ (prs d).map prI, [], sy d.k) := piece_fold [] 0 hd (.inl rfl)
  have f2 : foldP (piece d 13 ++ piece e 13) = (([] ++ (prs d).map prI) ++ (prs e).map prI, [], sy e.k) := by rw [foldP_app, f1]; exact piece_fold _ _ he (.inl rfl)
  rw [syms_pieces]
  refine piece_split [] [] 0 rfl (by decide) hd (.inl rfl) ?_
  refine piece_split _ _ _ f1 (by simp only [List.nil_append]; omega) he (.inl rfl) ?_
  exact piece_split _ _ _ f2 (by rw [List.length_append]; simp only [List.nil_append]; omega) hf (.inr rfl) trivial
theorem syms_fold {d e f : Dr} (hd : d.ok) (he : e.ok) (hf : f.ok) : (foldP (symsOf d e f ++ [0])).1 = (prs d ++ prs e ++ prs f).map prI := by
  have f1 : foldP (piece d 13) = ([] ++ (prs d).map prI, [], sy d.k) := piece_fold [] 0 hd (.inl rfl)
  have f2 : foldP (piece d 13 ++ piece e 13) = (([] ++ (prs d).map prI) ++ (prs e).map prI, [], sy e.k) := by rw [foldP_app, f1]; exact piece_fold _ _ he (.inl rfl)
  rw [syms_pieces, List.append_nil, ← List.append_assoc, foldP_app, f2, piece_fold _ _ hf (.inr rfl)]
  simp
def prPy (q : Nat × Nat) : PyData := .tuple [.int q.1, .int q.2]
theorem fn_pairs3 {c : Cx} {D : List (PyData × PyData)} (G : Gl c) (W : Tab c D) (hD : tabOk D = true) {n : Nat} {d e f : Dr} (hd : d.ok) (he : e.ok) (hf : f.ok) :
    Fn c (n + 2) G.aPairs [dS (lineOf d e f)] (dL ((prs d ++ prs e ++ prs f).map prPy)) := by
  have h := fn_pairs (n := n) G W (lex_line hD hd he hf) (by show 14 ≤ 4096; decide) (by show 11 ≤ 1000; decide) (syms_split hd he hf)
  rw [syms_fold hd he hf, List.map_map] at h
  exact h
end Mine
end

section -- Told
open PySem PySem.W PyProof.Rows PySem.Spec PySem.Calls
set_option Elab.async false
set_option maxRecDepth 100000
set_option linter.unusedVariables false
namespace Mine
section
variable {c : Cx} {A : Around} {b : Shared} {Mx : Addr → Prop} {sc : Scope} {r : ER} {X₀ : Addr → Prop} {own : Own} {ρ : Rho} {s s' : Shared} {pos : Pos} {E : Value → Shared → Prop}
/-- a new list becomes the frame's own -/
theorem St.newOwn (T : St c b Mx sc r X₀ own ρ s) {vs : List Value} {ct : Ct} (hct : ∀ X h, h.PlainList s.heap.objs.size vs.toArray → OwnAt X h s.heap.objs.size ct) :
    St c b Mx sc r X₀ ((s.heap.objs.size, ct) :: own) ρ { s with heap := s.heap.push { cls := .type "list", data := .seq vs.toArray } } := by
  have k : Keeps s { s with heap := s.heap.push { cls := .type "list", data := .seq vs.toArray } } := Keeps.push
  have hn : s.heap.get? s.heap.objs.size = none := get_new _
  have hnm : ¬ mu r own s.heap.objs.size := fun h => by obtain ⟨o, e⟩ := T.sees.1 _ (.inr h); rw [hn] at e; cases e
  have T₁ := T.keeps k
  have hY : ∀ a, Xs X₀ r ((s.heap.objs.size, ct) :: own) a → Xs X₀ r own a ∨ s.heap.get? a = none := by
    rintro a (h | h | h | ⟨ct', h⟩)
    · exact .inl (.inl h)
    · exact .inl (.inr (.inl h))
    · exact .inl (.inr (.inr (.inl h)))
    · rcases List.mem_cons.mp h with e | h
      · cases e; exact .inr hn
      · exact .inl (.inr (.inr (.inr ⟨ct', h⟩)))
  refine ⟨T₁.chg, T₁.top, ?_, ?_, ?_, ?_, ?_⟩
  · rintro a h (h' | h' | ⟨ct', h'⟩)
    · exact T.x0 a h (.inl h')
    · exact T.x0 a h (.inr (.inl h'))
    · rcases List.mem_cons.mp h' with e | h'
      · cases e; obtain ⟨o, e⟩ := T.sees.1 _ (.inl h); rw [hn] at e; cases e
      · exact T.x0 a h (.inr (.inr ⟨ct', h'⟩))
  · rintro a (h | h | ⟨ct', h⟩)
    · exact T.mutb a (.inl h)
    · exact T.mutb a (.inr (.inl h))
    · rcases List.mem_cons.mp h with e | h
      · cases e
        constructor
        · by_cases hM : Mx s.heap.objs.size
          · exact .inl hM
          · right
            cases q : b.heap.get? s.heap.objs.size with
            | none => rfl
            | some o => have := T.chg.get _ o q hM; rw [hn] at this; cases this
        · cases q : c.h.get? s.heap.objs.size with
          | none => rfl
          | some o => have := T.top _ o q; rw [hn] at this; cases this
      · exact T.mutb a (.inr (.inr ⟨ct', h⟩))
  · obtain ⟨hXo, hC, m, cm, F, H⟩ := T.sees
    refine ⟨?_, hC, m, cm, F.ext (Keeps.ext k), fun x d e => let ⟨v, h1, h2⟩ := H x d e; ⟨v, h1, (h2.avoid hY).ext (Keeps.ext k)⟩⟩
    rintro a ha
    rcases hY a ha with h | h
    · obtain ⟨o, e⟩ := hXo a h; exact ⟨o, Keeps.ext k a o e⟩
    · rcases ha with h' | h' | h' | ⟨ct', h'⟩
      · obtain ⟨o, e⟩ := hXo a (.inl h'); rw [h] at e; cases e
      · obtain ⟨o, e⟩ := hXo a (.inr (.inl h')); rw [h] at e; cases e
      · obtain ⟨o, e⟩ := hXo a (.inr (.inr (.inl h'))); rw [h] at e; cases e
      · rcases List.mem_cons.mp h' with e | h'
        · cases e; exact ⟨_, Heap.get?_push_size _ rfl⟩
        · obtain ⟨o, e⟩ := hXo a (.inr (.inr (.inr ⟨ct', h'⟩))); rw [h] at e; cases e
  · intro a ct' h
    rcases List.mem_cons.mp h with e | h
    · cases e; exact hct _ _ ⟨_, Heap.get?_push_size _ rfl⟩
    · exact ((T.owned a ct' h).avoid hY).leaves (.of_ext (Keeps.ext k)) fun o e => Keeps.ext k a o e
  · refine List.nodup_cons.mpr ⟨fun hm => ?_, T.nodup⟩
    obtain ⟨⟨a, ct'⟩, hm, e⟩ := List.mem_map.mp hm
    have e' : a = s.heap.objs.size := e
    exact hnm (.inr (.inr ⟨ct', e' ▸ hm⟩))

/-- an own list is let go -/
theorem St.disown {pre post : Own} {a : Addr} {ct : Ct} (T : St c b Mx sc r X₀ (pre ++ (a, ct) :: post) ρ s) :
    St c b Mx sc r X₀ (pre ++ post) ρ s ∧ ¬ Xs X₀ r (pre ++ post) a ∧ (∀ x, Xs X₀ r (pre ++ post) x → Xs X₀ r (pre ++ (a, ct) :: post) x) := by
  have hm : (a, ct) ∈ pre ++ (a, ct) :: post := List.mem_append_right _ (.head _)
  obtain ⟨its, o₁, ho₁, _, n₁, hd₁⟩ := (T.owned a _ hm).list
  have sub : ∀ x, mu r (pre ++ post) x → mu r (pre ++ (a, ct) :: post) x := by
    rintro x (h | h | ⟨k, h⟩)
    · exact .inl h
    · exact .inr (.inl h)
    · rcases List.mem_append.mp h with h | h
      · exact .inr (.inr ⟨k, List.mem_append_left _ h⟩)
      · exact .inr (.inr ⟨k, List.mem_append_right _ (.tail _ h)⟩)
  have subX : ∀ x, Xs X₀ r (pre ++ post) x → Xs X₀ r (pre ++ (a, ct) :: post) x := by
    rintro x (h | h)
    · exact .inl h
    · exact .inr (sub x h)
  have hna : ¬ Xs X₀ r (pre ++ post) a := by
    rintro (h | h | ⟨n, h⟩ | ⟨k, h⟩)
    · exact T.x0 _ h (.inr (.inr ⟨_, hm⟩))
    · obtain ⟨_, _, m, cm, F, _⟩ := T.sees
      obtain ⟨o₂, _, _, h₂, hd₂, _⟩ := F.ns
      rw [← h, ho₁] at h₂; cases h₂; rw [hd₁] at hd₂; cases hd₂
    · obtain ⟨_, _, m, cm, F, _⟩ := T.sees
      obtain ⟨o₂, h₂, hd₂⟩ := F.cell n a h
      rw [ho₁] at h₂; cases h₂; rw [hd₁] at hd₂; cases hd₂
    · have hk : (a, k) ∈ pre ++ (a, ct) :: post := by
        rcases List.mem_append.mp h with h | h
        · exact List.mem_append_left _ h
        · exact List.mem_append_right _ (.tail _ h)
      have hn := T.nodup
      rw [List.map_append, List.map_cons, List.nodup_append] at hn
      obtain ⟨h1, h2, h3⟩ := hn
      rw [List.nodup_cons] at h2
      rcases List.mem_append.mp h with h | h
      · exact h3 a (List.mem_map.mpr ⟨_, h, rfl⟩) a (List.mem_cons_self ..) rfl
      · exact h2.1 (List.mem_map.mpr ⟨_, h, rfl⟩)
  have av : ∀ x, Xs X₀ r (pre ++ post) x → Xs X₀ r (pre ++ (a, ct) :: post) x ∨ s.heap.get? x = none := fun x h => .inl (subX x h)
  refine ⟨⟨T.chg, T.top, fun x h hm => T.x0 x h (sub x hm), fun x h => T.mutb x (sub x h), ?_, ?_, ?_⟩, hna, subX⟩
  · obtain ⟨h1, h2, m, cm, F, H⟩ := T.sees
    exact ⟨fun x h => h1 x (subX x h), h2, m, cm, F, fun y d e => let ⟨v, hv, hr⟩ := H y d e; ⟨v, hv, hr.avoid av⟩⟩
  · intro a' ct' h
    refine (T.owned a' ct' ?_).avoid av
    rcases List.mem_append.mp h with h | h
    · exact List.mem_append_left _ h
    · exact List.mem_append_right _ (.tail _ h)
  · have hn := T.nodup
    rw [List.map_append, List.map_cons, List.nodup_append] at hn
    rw [List.map_append, List.nodup_append]
    exact ⟨hn.1, (List.nodup_cons.mp hn.2.1).2, fun x hx y hy => hn.2.2 x hx y (List.mem_cons_of_mem _ hy)⟩

/-- two rows under one name: read as data from now on -/
theorem St.freeze2 {aT a0 a1 : Addr} {d0 d1 : List PyData} {x : Str} (T : St c b Mx sc r X₀ [(aT, .vals [.ref a0, .ref a1]), (a1, .data d1), (a0, .data d0)] ρ s) (hx : ρ.lookup x = some (.raw (.ref aT))) :
    St c b Mx sc r X₀ [] ((x, dL [.list d0, .list d1]) :: ρ) s := by
  have hT := T.owned aT _ (.head _)
  obtain ⟨v1, p1, q1⟩ := T.owned a1 _ (.tail _ (.head _))
  obtain ⟨v0, p0, q0⟩ := T.owned a0 _ (.tail _ (.tail _ (.head _)))
  obtain ⟨T₁, n1, s1⟩ := St.disown (pre := []) T
  obtain ⟨T₂, n2, s2⟩ := St.disown (pre := []) T₁
  obtain ⟨T₃, n3, s3⟩ := St.disown (pre := []) T₂
  have f0 : Rd (Xs X₀ r []) s.heap (.ref a0) (dL d0) := Rd.list p0.isList n3 (by simpa using q0.avoid fun a h => .inl (s1 _ (s2 _ (s3 _ h))))
  have f1 : Rd (Xs X₀ r []) s.heap (.ref a1) (dL d1) := Rd.list p1.isList (fun h => n2 (s3 _ h)) (by simpa using q1.avoid fun a h => .inl (s1 _ (s2 _ (s3 _ h))))
  have fT : Rd (Xs X₀ r []) s.heap (.ref aT) (dL [.list d0, .list d1]) := Rd.list (Heap.PlainList.isList hT) (fun h => n1 (s2 _ (s3 _ h))) (.cons f0 (.cons f1 .nil))
  refine { T₃ with sees := ?_ }
  obtain ⟨h1, h2, m, cm, F, H⟩ := T₃.sees
  refine ⟨h1, h2, m, cm, F, fun y d e => ?_⟩
  rw [List.lookup_cons] at e
  cases q : y == x with
  | true =>
    rw [q] at e; cases e
    obtain ⟨v, hv, hr⟩ := H x _ hx
    cases hr
    exact ⟨_, (eq_of_beq q) ▸ hv, fT⟩
  | false => rw [q] at e; exact H y d e

/-- a list of two own lists -/
theorem s_told {x : Str} {p p' p1 p2 : Pos} {rest : List Stmt} {Q : Flow → Shared → Prop} (T : St c b Mx sc r X₀ [] ρ s) (hx : Own1 sc x) (hk : sc.kind = .function)
    (h : ∀ aT a0 a1 s', St c b Mx sc r X₀ [(aT, .vals [.ref a0, .ref a1]), (a1, .data []), (a0, .data [])] ((x, .raw (.ref aT)) :: ρ) s' → wpAny (model c.prog c.w) A (execs rest (En sc r)) Q E s') :
    wpAny (model c.prog c.w) A (execs (.Assign [.Name x p] (.List [.List [] p1, .List [] p2] p') pos :: rest) (En sc r)) Q E s := by
  refine execs_next (wpAny_Assign_Name (List_ (args_cons (List_ (args_nil (wpAny_newList ?_))) rfl)) rfl)
  have T₁ := T.newOwn (vs := []) (ct := .data []) fun X h hl => ⟨[], hl, .nil⟩
  refine args_cons (List_ (args_nil (wpAny_newList ?_))) rfl
  have T₂ := T₁.newOwn (vs := []) (ct := .data []) fun X h hl => ⟨[], hl, .nil⟩
  refine args_nil (wpAny_newList ?_)
  have T₃ := T₂.newOwn (vs := [.ref s.heap.objs.size, .ref (s.heap.push { cls := .type "list", data := .seq ([] : List Value).toArray }).objs.size]) (ct := .vals _) fun X h hl => hl
  exact T₃.store hx hk (d := .raw _) rfl fun s' T' => h _ _ _ s' T'
/-- an item of an own list of values -/
theorem St.item {pre post : Own} {aT : Addr} {vs : List Value} {i : Nat} {k : Nat} {x : Str} {p1 p2 p3 : Pos} {v : Value} (T : St c b Mx sc r X₀ (pre ++ (aT, .vals vs) :: post) ρ s) (hx : ρ.lookup x = some (.raw (.ref aT))) (hv : vs[i]? = some v) (hi : i < 100)
    (hk : sc.kind = .function := by rfl) (hd : (x == ("__debug__" : Str)) = false := by decide) (hc : (x == ("__classdict__" : Str)) = false := by decide) :
    wpAny (model c.prog c.w) A (eval (.Subscript (.Name x p1) (.Constant (.int i) k p2) p3) (En sc r)) (fun u s' => Keeps s s' ∧ u = v) no s := by
  refine Subscript_ (wp_weak (Ev.on T (Ev.var hx hk hd hc)) fun a s₁ ⟨k₁, r₁⟩ => ?_)
  cases r₁
  have T₁ := T.keeps k₁
  refine wp_weak (Ev.on T₁ (Ev.intc : Ev c A sc ρ (.Constant (.int i) k p2) (dI i))) fun u s₂ ⟨k₂, r₂⟩ => ?_
  obtain ⟨t, rfl⟩ := r₂.int_inv
  have T₂ := T₁.keeps k₂
  have hl : s₂.heap.PlainList aT vs.toArray := T₂.owned aT _ (List.mem_append_right _ (.head _))
  exact tail_any hl.isList.typeIs slot_list_getitem.lookup (wpAny_getItem_list hl.isList (by omega) (by omega) (by simpa using hv) ⟨Keeps.trans k₁ k₂, rfl⟩) rfl
/-- append to an own list that is come by otherwise -/
theorem s_appendX {pre post : Own} {a : Addr} {ds : List PyData} {o e : PySem.Expr} {ap p1 : Pos} {d : PyData} {rest : List Stmt} {Q : Flow → Shared → Prop} (T : St c b Mx sc r X₀ (pre ++ (a, .data ds) :: post) ρ s)
    (ho : wpAny (model c.prog c.w) A (eval o (En sc r)) (fun u s' => Keeps s s' ∧ u = .ref a) no s) (he : Ev c A sc ρ e (.py d)) (hn : ds.length ≤ sizeLine)
    (h : ∀ s', St c b Mx sc r X₀ (pre ++ (a, .data (ds ++ [d])) :: post) ρ s' → wpAny (model c.prog c.w) A (execs rest (En sc r)) Q E s')
    (pl : Sem Bool)
    (hm : eval (.Call (.Attribute o "append" ap) [e] [] p1) (En sc r) = (do
      let ov ← eval o (En sc r)
      standAt ap.atName
      let (f, first) ← holding [ov] (getMethod ov "append" pl)
      callWith p1 f first (backTo p1 (starEach [e] (En sc r))) []))
    (hst : ∀ env, starEach [e] env = (false, eval e env) :: starEach [] env := by intro _; rfl)
    (hi : interactive (En sc r) = false := by rfl) :
    wpAny (model c.prog c.w) A (execs (.Expr (.Call (.Attribute o "append" ap) [e] [] p1) pos :: rest) (En sc r)) Q E s := by
  refine execs_next (wpAny_Expr (MethodCall_ (pl := pl) (wp_weak ho fun ov s₁ ⟨k₁, r₁⟩ => ?_) hm) hi rfl)
  subst r₁
  have T₁ := T.keeps k₁
  have hmm : (a, Ct.data ds) ∈ pre ++ (a, .data ds) :: post := List.mem_append_right _ (.head _)
  obtain ⟨vs, ⟨n, hl⟩, _⟩ := T₁.owned a _ hmm
  refine getMethod_list_append hl rfl rfl ?_
  dsimp only
  refine callWith_method1 (args_cons (wp_weak (he r _ s₁ T₁.top T₁.sees) fun v s₂ ⟨k₂, r₂⟩ => args_nil ?_) (hst _)) (hst _) rfl
  exact (T₁.keeps k₂).append r₂ hn fun s' T' => h s' T'
end
end Mine
end

section -- WLev
open PySem PySem.W PyProof.Rows PySem.Spec PySem.Calls
set_option Elab.async false
set_option maxRecDepth 100000
set_option linter.unusedVariables false
namespace Mine
variable {c : Cx}
def sgF (t x : Int) : Int := (if t ≤ x then 1 else 0) - (if x < t then 1 else 0)
def gainF (hs : List Int) (t : Int) (u : Nat) : Int := (((List.range 4).filter (bit u)).map fun i => sgF t (hs.getD i 0)).sum
def levStep (hs : List Int) (us : List Nat) (t : Int) (p : Nat × Nat) (k : Nat) : Nat × Nat :=
  if gainF hs t (us.getD k 0) = mxI (us.map (gainF hs t)) then (p.1 &&& us.getD k 0, p.2 ||| us.getD k 0) else p
def levF (hs : List Int) (us : List Nat) (t : Int) : Nat × Nat := (List.range us.length).foldl (levStep hs us t) (15, 0)
def bitsPy (u : Nat) : PyData := .list ((List.range 4).map fun i => .bool (bit u i))
theorem levStep_lt {hs : List Int} {us : List Nat} {t : Int} {p : Nat × Nat} {k : Nat} (hu : ∀ u ∈ us, u < 16) (hk : k < us.length) (hp : p.1 < 16 ∧ p.2 < 16) : (levStep hs us t p k).1 < 16 ∧ (levStep hs us t p k).2 < 16 := by
  unfold levStep
  have hku : us.getD k 0 < 16 := by simp [hk]; exact hu _ (List.getElem_mem _)
  split
  · exact ⟨and_lt hp.1, or_lt hp.2 hku⟩
  · exact hp
theorem filter_true {α : Type} (l : List α) : l.filter (fun _ => true) = l := by simp

theorem fn_lev (G : Gl c) {n : Nat} {hs : List Int} {us : List Nat} {t : Int} (h4 : hs.length = 4) (hu : ∀ u ∈ us, u < 16) (hne : us ≠ []) (hl : us.length ≤ 16) :
    Fn c (n + 2) G.aLev [dL (hs.map .int), dL (us.map fun (u : Nat) => .int u), dI t] (dL [bitsPy (levF hs us t).1, bitsPy (levF hs us t).2]) := by
  refine Body.fn G.ok G.lev.d rfl fun A r X₀ b s hA T => ?_
  have h24 : sizeLine = 16777216 := sizeLine_eq
  have hA1 : Room (n + 1) A := hA
  -- steps
  refine s_comp T hA.hh (Cmp.nm hs (fun x => .int x) (fun _ => true) (fun x => .int (x - t + 256)) rfl (Src.list hA.hh (Ev.var rfl)) (fun _ _ => .nil)
    (fun x _ _ => Ev.bin (Ev.bin (Ev.var rfl) (Ev.var rfl) op_sub) (Ev.globInt G.ok G.nt) op_add) (by omega)) rfl rfl rfl fun s₁ T₁ => ?_
  rw [filter_true] at T₁
  -- signs
  refine s_assign T₁ (Cmp.ev (Cmp.nm hs (fun x => .int (x - t + 256)) (fun _ => true) (fun x => .int (sgF t x)) rfl (Src.list hA.hh (Ev.var rfl)) (fun _ _ => .nil)
    (fun x _ _ => ?_) (by omega)) hA.hh) (.inr rfl) rfl rfl fun s₂ T₂ => ?_
  · refine Ev.bin (d₁ := dI (if t ≤ x then 1 else 0)) (d₂ := dI (if x < t then 1 else 0)) (Ev.ife (Tr.bool (Ev.fn G G.non rfl hA1 (.cons (Ev.var rfl) .nil) (fn_non G))) ?_ ?_) (Ev.ife (Tr.bool (Ev.fn G G.term rfl hA1 (.cons (Ev.var rfl) .nil) (fn_term G))) ?_ ?_) op_sub
    · intro h; simp only [decide_eq_true_eq] at h; rw [if_pos (by omega)]; exact Ev.intc
    · intro h; simp only [decide_eq_false_iff_not] at h; rw [if_neg (by omega)]; exact Ev.intc
    · intro h; simp only [decide_eq_true_eq] at h; rw [if_pos (by omega)]; exact Ev.intc
    · intro h; simp only [decide_eq_false_iff_not] at h; rw [if_neg (by omega)]; exact Ev.intc
  rw [filter_true] at T₂
  -- gains
  refine s_comp T₂ hA.hh (Cmp.nmc us (fun u => .int u) (fun _ => true) (fun u => .int (gainF hs t u)) rfl (Src.list hA.hh (Ev.var rfl)) (fun _ _ => .nil)
    (fun u hm _ => ?_) (by omega)) rfl rfl rfl fun s₃ T₃ => ?_
  · have e : gainF hs t u = (((List.range 4).filter (bit u)).map fun i => sgF t (hs.getD i 0)).sum := rfl
    rw [e]
    refine Ev.callB (Ev.bi G G.sum) (.cons (Cmp.ev (Cmp.nm (List.range 4) (fun i => .int i) (bit u) (fun i => .int (sgF t (hs.getD i 0))) rfl (Src.rng G hA.hh Ev.intc (by decide)) (fun i hi => .one (Tr.bit (hu u hm) (by simpa using hi) (Ev.var rfl) (Ev.var rfl)))
      (fun i hi _ => ?_) (by decide)) hA.hh) .nil) ?_
    · have hi' : i < 4 := by simpa using hi
      refine Ev.sub (Ev.var rfl) (Ev.var rfl) (it_list (by omega) ?_ (by omega) (fun _ _ => rfl))
      simp [h4, hi']
    · have := bi_sum (c := c) (A := A) (ns := ((List.range 4).filter (bit u)).map fun i => sgF t (hs.getD i 0)) hA.hh
      rw [List.map_map] at this
      exact this
  rw [filter_true] at T₃
  -- most
  have hgne : us.map (gainF hs t) ≠ [] := by simpa using hne
  refine s_assign T₃ (d := dI (mxI (us.map (gainF hs t)))) (Ev.callB (Ev.bi G G.max) (.cons (Ev.var rfl) .nil) ?_) (.inl rfl) rfl rfl fun s₄ T₄ => ?_
  · have := bi_max (c := c) (A := A) (ns := us.map (gainF hs t)) hA.hh hgne
    rw [List.map_map] at this
    exact this
  refine s_assign T₄ Ev.intc (.inr rfl) rfl rfl fun s₅ T₅ => ?_
  refine s_assign T₅ Ev.intc (.inr rfl) rfl rfl fun s₆ T₆ => ?_
  -- the loop
  let R : Nat × Nat → Rho := fun p => [bd "shared" (dI p.1), bd "joined" (dI p.2), bd "most" (dI (mxI (us.map (gainF hs t)))), bd "gains" (dL (us.map fun u => .int (gainF hs t u))), bd "uppers" (dL (us.map fun (u : Nat) => .int u))]
  refine s_for (xs := []) (List.range us.length) (fun i => .int i) (fun i => [bd "k" (dI i)])
    (fun pre own ρ => own = [] ∧ ρ = R (pre.foldl (levStep hs us t) (15, 0)) ∧ (pre.foldl (levStep hs us t) (15, 0)).1 < 16 ∧ (pre.foldl (levStep hs us t) (15, 0)).2 < 16) (fun _ => False)
    (T₆.weak (ρ' := R (15, 0)) (sub_cons rfl (sub_cons rfl (sub_cons rfl (sub_cons rfl (sub_cons rfl sub_nil)))))) hA.hh rfl
    (Src.rng G hA.hh (n := us.length) ?_ (by omega)) (fun a _ => Tg.loc rfl) ⟨rfl, rfl, by show (15 : Nat) < 16; decide, by show (0 : Nat) < 16; decide⟩ ?_ ?_ (fun _ _ _ _ _ h => h.elim)
  · exact Ev.len G (Ev.var rfl) (by simp) (by omega)
  · rintro pre k post own' ρ' X₁ b' M' s' hsp ⟨rfl, rfl, hb1, hb2⟩ U
    have hk : k < us.length := by
      have : k ∈ List.range us.length := by rw [hsp]; simp
      simpa using this
    generalize hp : pre.foldl (levStep hs us t) (15, 0) = p at U hb1 hb2
    have hku : us.getD k 0 < 16 := by simp [hk]; exact hu _ (List.getElem_mem _)
    have hfold : (pre ++ [k]).foldl (levStep hs us t) (15, 0) = levStep hs us t p k := by rw [List.foldl_append, hp]; rfl
    have hlt := levStep_lt (hs := hs) (t := t) (p := p) hu hk ⟨hb1, hb2⟩
    have eg : (us.map fun u => PyData.int (gainF hs t u))[((k : Nat) : Int).toNat]? = some (.int (gainF hs t (us.getD k 0))) := by simp [hk]
    have eu : (us.map fun (u : Nat) => PyData.int u)[((k : Nat) : Int).toNat]? = some (.int (us.getD k 0 : Nat)) := by simp [hk]
    refine s_if U (Tr.cmp (Ev.sub (Ev.var rfl) (Ev.var rfl) (it_list (by omega) eg (by omega) (fun _ _ => rfl))) (Ev.var rfl) (cm_eqi hA)) (fun h s₁ U₁ => ?_) (fun h s₁ U₁ => ?_)
    · have hc : gainF hs t (us.getD k 0) = mxI (us.map (gainF hs t)) := by simpa using h
      have es : levStep hs us t p k = (p.1 &&& us.getD k 0, p.2 ||| us.getD k 0) := by unfold levStep; rw [if_pos hc]
      refine s_aug U₁ (d := dI (p.1 &&& us.getD k 0 : Nat)) rfl (Ev.sub (Ev.var rfl) (Ev.var rfl) (it_list (by omega) eu (by omega) (fun _ _ => rfl))) (by rw [← and_is hb1 hku]; exact op_iand) (.inr rfl) rfl (h := fun s₂ U₂ => ?_)
      refine s_aug U₂ (d := dI (p.2 ||| us.getD k 0 : Nat)) rfl (Ev.sub (Ev.var rfl) (Ev.var rfl) (it_list (by omega) eu (by omega) (fun _ _ => rfl))) (by rw [← or_is hb2 hku]; exact op_ior) (.inr rfl) rfl (h := fun s₃ U₃ => ?_)
      refine wpAny_execs_nil (wpAny_execs_nil ⟨[], _, ⟨rfl, rfl, ?_⟩, ?_⟩)
      · rw [hfold]; exact hlt
      · rw [hfold, es]
        exact U₃.weak (sub_cons rfl (sub_cons rfl (sub_cons rfl (sub_cons rfl (sub_cons rfl sub_nil)))))
    · have hc : ¬ gainF hs t (us.getD k 0) = mxI (us.map (gainF hs t)) := by simpa using h
      have es : levStep hs us t p k = p := by unfold levStep; rw [if_neg hc]
      refine wpAny_execs_nil (wpAny_execs_nil ⟨[], _, ⟨rfl, rfl, ?_⟩, ?_⟩)
      · rw [hfold]; exact hlt
      · rw [hfold, es]
        exact U₁.weak (sub_cons rfl (sub_cons rfl (sub_cons rfl (sub_cons rfl (sub_cons rfl sub_nil)))))
  · rintro own' ρ' s' ⟨rfl, rfl, hb1, hb2⟩ U
    have e : (List.range us.length).foldl (levStep hs us t) (15, 0) = levF hs us t := rfl
    rw [e] at U hb1 hb2
    refine s_return U (Ev.list (ds := [bitsPy (levF hs us t).1, bitsPy (levF hs us t).2]) (.cons (d := .py (bitsPy (levF hs us t).1))
      (Cmp.evAs (Cmp.nm (List.range 4) (fun i => .int i) (fun _ => true) (fun i => .bool (bit (levF hs us t).1 i)) rfl (Src.rng G hA.hh Ev.intc (by decide)) (fun _ _ => .nil)
        (fun i hi _ => (Ev.cmp (Ev.bit hb1 (by simpa using hi) (Ev.var rfl) (Ev.var rfl)) Ev.intc (cm_eqi hA)).as (by cases bit (levF hs us t).1 i <;> rfl)) (by decide)) hA.hh (by rw [filter_true]))
      (.cons (d := .py (bitsPy (levF hs us t).2)) (Cmp.evAs (Cmp.nm (List.range 4) (fun i => .int i) (fun _ => true) (fun i => .bool (bit (levF hs us t).2 i)) rfl (Src.rng G hA.hh Ev.intc (by decide)) (fun _ _ => .nil)
        (fun i hi _ => (Ev.cmp (Ev.bit hb2 (by simpa using hi) (Ev.var rfl) (Ev.var rfl)) Ev.intc (cm_eqi hA)).as (by cases bit (levF hs us t).2 i <;> rfl)) (by decide)) hA.hh (by rw [filter_true])) .nil)))
      fun v s' T' hr => ⟨v, _, _, rfl, T', hr.avoid fun a h => .inl (.inl h)⟩
end Mine
end

section -- WNear
open PySem PySem.W PyProof.Rows PySem.Spec PySem.Calls
set_option Elab.async false
set_option maxRecDepth 100000
set_option linter.unusedVariables false
namespace Mine
variable {c : Cx}
def absI (a : Int) : Int := if a < 0 then -a else a
def valsF (hs : List Int) : List Int := ((List.range 4).filter fun k => !decide (hs.getD k 0 ∈ hs.take k)).map fun k => hs.getD k 0
def costF (hs : List Int) (x : Int) : Int := (hs.map fun y => absI (x - y)).sum
def boundF (hs : List Int) : Int := mnI ((valsF hs).map (costF hs))
def nearF (drs : List Dr) (i : Nat) : List Dr := drs.filter fun d => decide (max d.a d.b = i)
abbrev Row := Int × List Int
def Row.py (r : Row) : PyData := .tuple [.int r.1, .list (r.2.map .int)]
def okRow (hs : List Int) (drs : List Dr) (i : Nat) (r : Row) (x : Int) : Bool := decide (r.1 + absI (x - hs.getD i 0) ≤ boundF hs) && keepsF (r.2 ++ [x]) (nearF drs i)
def grow1 (hs : List Int) (drs : List Dr) (i : Nat) (r : Row) (xs : List Int) : List Row := (xs.filter (okRow hs drs i r)).map fun x => (r.1 + absI (x - hs.getD i 0), r.2 ++ [x])
def grow (hs : List Int) (drs : List Dr) (rows : List Row) (i : Nat) : List Row := rows.flatMap fun r => grow1 hs drs i r (valsF hs)
def rowsF (hs : List Int) (drs : List Dr) : List Row := (List.range 4).foldl (grow hs drs) [(0, [])]
def leastF (hs : List Int) (drs : List Dr) : Int := mnI ((rowsF hs drs).map (·.1))
def bestF (hs : List Int) (drs : List Dr) : List (List Int) := ((rowsF hs drs).filter fun r => decide (r.1 = leastF hs drs)).map (·.2)
def colMin (best : List (List Int)) (i : Nat) : Int := mnI (best.map fun r => r.getD i 0)
def colMax (best : List (List Int)) (i : Nat) : Int := mxI (best.map fun r => r.getD i 0)
def nearPy (hs : List Int) (drs : List Dr) : PyData :=
  .list [.list ((List.range 4).map fun i => .int (colMin (bestF hs drs) i)), .list ((List.range 4).map fun i => .int (colMax (bestF hs drs) i))]

theorem valsF_len (hs : List Int) : (valsF hs).length ≤ 4 := by
  unfold valsF
  rw [List.length_map]
  exact Nat.le_trans (List.length_filter_le _ _) (by simp)
theorem valsF_ne (hs : List Int) : valsF hs ≠ [] := by
  unfold valsF
  intro h
  rw [List.map_eq_nil_iff, List.filter_eq_nil_iff] at h
  have := h 0 (by simp)
  simp at this
theorem grow1_len (hs : List Int) (drs : List Dr) (i : Nat) (r : Row) (xs : List Int) : (grow1 hs drs i r xs).length ≤ xs.length := by
  unfold grow1; rw [List.length_map]; exact List.length_filter_le _ _
theorem grow_len (hs : List Int) (drs : List Dr) (i : Nat) : ∀ rows : List Row, (grow hs drs rows i).length ≤ 4 * rows.length
  | [] => by simp [grow]
  | r :: rows => by
    have h1 := grow_len hs drs i rows
    have h2 := grow1_len hs drs i r (valsF hs)
    have h3 := valsF_len hs
    unfold grow at h1 ⊢
    rw [List.flatMap_cons, List.length_append, List.length_cons]
    omega
/-- the rows behind i turns: their number, their lengths -/
theorem rows_inv (hs : List Int) (drs : List Dr) : ∀ i, ((List.range i).foldl (grow hs drs) [(0, [])]).length ≤ 4 ^ i ∧ ∀ r ∈ (List.range i).foldl (grow hs drs) [(0, [])], r.2.length = i
  | 0 => by simp
  | i + 1 => by
    obtain ⟨h1, h2⟩ := rows_inv hs drs i
    rw [List.range_succ, List.foldl_append]
    simp only [List.foldl_cons, List.foldl_nil]
    refine ⟨?_, ?_⟩
    · have := grow_len hs drs i ((List.range i).foldl (grow hs drs) [(0, [])])
      rw [Nat.pow_succ]; omega
    · intro r hr
      unfold grow at hr
      obtain ⟨q, hq, hr⟩ := List.mem_flatMap.mp hr
      unfold grow1 at hr
      obtain ⟨x, _, rfl⟩ := List.mem_map.mp hr
      simp [h2 q hq]

theorem map_getD {l : List Int} {i : Nat} (h : i < l.length) : (l.map PyData.int)[i]? = some (.int (l.getD i 0)) := by simp [h]
theorem range_split {n i : Nat} {pre post : List Nat} (h : List.range n = pre ++ i :: post) : pre = List.range i ∧ i < n := by
  have hl : pre.length < n := by
    have := congrArg List.length h
    simp at this; omega
  have h1 : (List.range n)[pre.length]? = some i := by rw [h]; simp
  have h2 : i = pre.length := by
    rw [List.getElem?_range hl] at h1; exact (Option.some.inj h1).symm
  have h3 : pre = (List.range n).take pre.length := by rw [h]; simp
  rw [List.take_range, Nat.min_eq_left (Nat.le_of_lt hl)] at h3
  exact ⟨h2 ▸ h3, h2 ▸ hl⟩
theorem fn_keeps (G : Gl c) {n : Nat} {row : List Int} {cs : List Dr} (hk : ∀ t ∈ cs, t.k < 3 ∧ t.a < row.length ∧ t.b < row.length) (hr : row.length < 100) : Fn c (n + 1) G.aKeeps [dL (row.map .int), dL (cs.map Dr.py)] (dB (keepsF row cs)) :=
  Body.fn G.ok G.keeps.d rfl (body_keeps hk hr)

set_option maxHeartbeats 1000000 in
theorem near_end (G : Gl c) {n : Nat} {A : Around} {b : Shared} {r : ER} {X₀ : Addr → Prop} {s : Shared} {ρ : Rho} {RW : List Row} (hA : Room (n + 1) A) (hr256 : RW.length ≤ 256) (hr4 : ∀ q ∈ RW, q.2.length = 4) (hne : RW ≠ [])
    (U : St c b (fun _ => False) (scopeOf (theDef 63)) r X₀ [] (bd "rows" (dL (RW.map Row.py)) :: ρ) s) {least : Int} {best : List (List Int)} (hl : least = mnI (RW.map (·.1))) (hb : best = (RW.filter fun q => decide (q.1 = least)).map (·.2)) :
    wpAny (model c.prog c.w) A (execs ((bodyOf (theDef 63)).drop 4) (En (scopeOf (theDef 63)) r)) (fun f s' => ∃ v own ρ', f = .ret v ∧ St c b (fun _ => False) (scopeOf (theDef 63)) r X₀ own ρ' s' ∧
      Rd X₀ s'.heap v (dL [.list ((List.range 4).map fun i => .int (colMin best i)), .list ((List.range 4).map fun i => .int (colMax best i))])) no s := by
  have h24 : sizeLine = 16777216 := sizeLine_eq
  have lt4 : ∀ {k : Nat}, k ∈ List.range 4 → k < 4 := fun h => by simpa using h
  have hmne : RW.map (·.1) ≠ [] := by simpa using hne
  have tg2 : ∀ {sc' : Scope} {p1 p2 p3 : Pos} {k : Nat} (q : Row), sc'.names.lookup (Str.ofString "way") = some .local → sc'.names.lookup (Str.ofString "row") = some .local →
      Tg sc' (.Tuple [.Name (Str.ofString "way") p1, .Name (Str.ofString "row") p2] k p3) (Row.py q) [] [bd "row" (dL (q.2.map .int)), bd "way" (dI q.1)] := by
    intro sc' p1 p2 p3 k q h1 h2
    refine Tg.tup (xs := [(Str.ofString "way", p1), (Str.ofString "row", p2)]) (ds := [.int q.1, .list (q.2.map .int)]) (fun x hx => ?_) rfl
    simp only [List.mem_cons, List.not_mem_nil, or_false] at hx
    rcases hx with rfl | rfl
    · exact h1
    · exact h2
  have dis2 : ∀ {scope : Scope} (q : Row), scope.names.lookup (Str.ofString "way") ≠ some .free → scope.names.lookup (Str.ofString "row") ≠ some .free →
      ∀ x, (([bd "row" (dL (q.2.map .int)), bd "way" (dI q.1)] : Rho).lookup x).isSome = true → scope.names.lookup x ≠ some .free := by
    intro scope q h1 h2 x hx
    simp only [List.lookup_cons] at hx
    cases e1 : x == Str.ofString "row" with
    | true => rw [eq_of_beq e1]; exact h2
    | false =>
      rw [e1] at hx
      cases e2 : x == Str.ofString "way" with
      | true => rw [eq_of_beq e2]; exact h1
      | false => rw [e2] at hx; simp at hx
  -- least
  refine s_assign U (d := dI least) ((Ev.minL G hA.hh (Cmp.evAs (Cmp.mk (xs := []) RW Row.py (fun _ => true) (fun q => .int q.1) (fun q => [bd "row" (dL (q.2.map .int)), bd "way" (dI q.1)])
    (CompOk.of (.inl rfl) rfl rfl (fun _ _ => rfl) (fun _ => rfl) rfl) (Src.list hA.hh (Ev.var rfl)) (fun q _ => tg2 q rfl rfl) (fun q _ => dis2 q (by decide) (by decide)) (fun _ _ => .nil) (fun q _ _ => Ev.var rfl) (by omega) (fun _ _ => rfl)) hA.hh (by rw [filter_true]))
    (ns := RW.map (·.1)) (by rw [List.map_map]; rfl) hmne).as (by rw [hl])) (.inr rfl) rfl rfl fun s₁ U₁ => ?_
  -- best
  refine s_assign U₁ (d := dL (best.map fun r => .list (r.map .int))) (Cmp.evAs (Cmp.mk (xs := []) RW Row.py (fun q => decide (q.1 = least)) (fun q => .list (q.2.map .int)) (fun q => [bd "row" (dL (q.2.map .int)), bd "way" (dI q.1)])
    (CompOk.of (.inl rfl) rfl rfl (fun _ _ => rfl) (fun _ => rfl) rfl) (Src.list hA.hh (Ev.var rfl)) (fun q _ => tg2 q rfl rfl) (fun q _ => dis2 q (by decide) (by decide)) (fun q _ => .one (Tr.cmp (Ev.var rfl) (Ev.var rfl) (cm_eqi hA))) (fun q _ _ => Ev.var rfl) (by omega) (fun _ _ => rfl)) hA.hh
    (by rw [hb, List.map_map]; rfl)) (.inr rfl) rfl rfl fun s₂ U₂ => ?_
  have hb256 : best.length ≤ 256 := by
    rw [hb, List.length_map]; exact Nat.le_trans (List.length_filter_le _ _) hr256
  have hbne : best ≠ [] := by
    rw [hb]
    intro h
    rw [List.map_eq_nil_iff, List.filter_eq_nil_iff] at h
    obtain ⟨q, hq, e⟩ := List.mem_map.mp (mnI_spec hmne).1
    exact h q hq (by simp only [decide_eq_true_eq]; rw [hl]; exact e)
  have hbl : ∀ r ∈ best, r.length = 4 := by
    intro r hr
    rw [hb] at hr
    obtain ⟨q, hq, rfl⟩ := List.mem_map.mp hr
    exact hr4 q (List.mem_filter.mp hq).1
  refine s_return U₂ (Ev.list (ds := [.list ((List.range 4).map fun i => .int (colMin best i)), .list ((List.range 4).map fun i => .int (colMax best i))]) (.cons (d := dL _)
    (Cmp.evAs (Cmp.nmc (List.range 4) (fun i => .int i) (fun _ => true) (fun i => .int (colMin best i)) rfl (Src.rng G hA.hh Ev.intc (by decide)) (fun _ _ => .nil)
      (fun i hi _ => Ev.minL G hA.hh (Cmp.evAs (Cmp.nm best (fun r => .list (r.map .int)) (fun _ => true) (fun r => .int (r.getD i 0)) rfl (Src.list hA.hh (Ev.var rfl)) (fun _ _ => .nil)
        (fun r hr _ => Ev.at (Ev.var rfl) (Ev.var rfl) (map_getD (by rw [hbl r hr]; exact lt4 hi)) (Nat.le_of_lt (Nat.lt_trans (lt4 hi) (by decide)))) (by omega)) hA.hh (by rw [filter_true])) (ns := best.map fun r => r.getD i 0) (by rw [List.map_map]; rfl) (by simpa using hbne)) (by decide)) hA.hh (by rw [filter_true]))
    (.cons (d := dL _)
    (Cmp.evAs (Cmp.nmc (List.range 4) (fun i => .int i) (fun _ => true) (fun i => .int (colMax best i)) rfl (Src.rng G hA.hh Ev.intc (by decide)) (fun _ _ => .nil)
      (fun i hi _ => Ev.maxL G hA.hh (Cmp.evAs (Cmp.nm best (fun r => .list (r.map .int)) (fun _ => true) (fun r => .int (r.getD i 0)) rfl (Src.list hA.hh (Ev.var rfl)) (fun _ _ => .nil)
        (fun r hr _ => Ev.at (Ev.var rfl) (Ev.var rfl) (map_getD (by rw [hbl r hr]; exact lt4 hi)) (Nat.le_of_lt (Nat.lt_trans (lt4 hi) (by decide)))) (by omega)) hA.hh (by rw [filter_true])) (ns := best.map fun r => r.getD i 0) (by rw [List.map_map]; rfl) (by simpa using hbne)) (by decide)) hA.hh (by rw [filter_true])) .nil))) fun v s' T' hr => ⟨v, _, _, rfl, T', hr.avoid fun a h => .inl (.inl h)⟩

set_option maxHeartbeats 1000000 in
theorem fn_near (G : Gl c) {n : Nat} {hs : List Int} {drs : List Dr} (h4 : hs.length = 4) (hd : ∀ d ∈ drs, d.k < 3 ∧ d.a < 4 ∧ d.b < 4) (hdl : drs.length ≤ 4) (hne : rowsF hs drs ≠ []) :
    Fn c (n + 2) G.aNear [dL (hs.map .int), dL (drs.map Dr.py)] (.py (nearPy hs drs)) := by
  refine Body.fn G.ok G.near.d rfl fun A r X₀ b s hA T => ?_
  have h24 : sizeLine = 16777216 := sizeLine_eq
  have hv4 := valsF_len hs
  have hsk : ∀ k, k < 4 → (hs.map PyData.int)[k]? = some (.int (hs.getD k 0)) := fun k hk => by simp [h4, hk]
  have lt4 : ∀ {k : Nat}, k ∈ List.range 4 → k < 4 := fun h => by simpa using h
  -- values
  refine s_comp T hA.hh (Cmp.nm (List.range 4) (fun k => .int k) (fun k => !decide (hs.getD k 0 ∈ hs.take k)) (fun k => .int (hs.getD k 0)) rfl (Src.rng G hA.hh Ev.intc (by decide))
    (fun k hk => .one ?_) (fun k hk _ => Ev.at (Ev.var rfl) (Ev.var rfl) (hsk k (lt4 hk)) (Nat.le_of_lt (Nat.lt_trans (lt4 hk) (by decide)))) (by decide)) rfl rfl rfl fun s₁ T₁ => ?_
  · have hk' : k < 4 := lt4 hk
    refine Tr.cmp (Ev.at (Ev.var rfl) (Ev.var rfl) (hsk k hk') (by omega)) ?_ (cm_nin (l := hs.take k) hA)
    refine (Ev.slice (Ev.var rfl) .none (.some (Ev.var rfl)) (by simp; omega)).as ?_
    simp only [Option.elim, List.length_map, clipAt_nat, h4]
    rw [Nat.min_eq_left (by omega)]
    simp [List.map_take]
  have ev : ((List.range 4).filter fun k => !decide (hs.getD k 0 ∈ hs.take k)).map (fun k => PyData.int (hs.getD k 0)) = (valsF hs).map .int := by unfold valsF; rw [List.map_map]; rfl
  rw [ev] at T₁
  -- bound
  refine s_assign T₁ (d := dI (boundF hs)) (Ev.minL G hA.hh (Cmp.evAs (Cmp.nmc (valsF hs) (fun x => .int x) (fun _ => true) (fun x => .int (costF hs x)) rfl (Src.list hA.hh (Ev.var rfl)) (fun _ _ => .nil)
    (fun x _ _ => Ev.sumL (ns := hs.map fun y => absI (x - y)) G hA.hh (Cmp.evAs (Cmp.nm hs (fun y => .int y) (fun _ => true) (fun y => .int (absI (x - y))) rfl (Src.list hA.hh (Ev.var rfl)) (fun _ _ => .nil)
      (fun y _ _ => Ev.callB (Ev.bi G G.abs) (.cons (Ev.bin (Ev.var rfl) (Ev.var rfl) op_sub) .nil) bi_abs) (by omega)) hA.hh (by rw [filter_true])) (by rw [List.map_map]; rfl)) (by omega)) hA.hh (by rw [filter_true]))
    (ns := (valsF hs).map (costF hs)) (by rw [List.map_map]; rfl) (by simpa using valsF_ne hs)) (.inl rfl) rfl rfl fun s₂ T₂ => ?_
  -- rows
  refine s_assign T₂ (d := dL (([(0, [])] : List Row).map Row.py)) (Ev.list (ds := ([(0, [])] : List Row).map Row.py) (.cons (Ev.tup (ds := [.int 0, .list []]) (.cons Ev.intc (.cons (Ev.list (ds := []) .nil) .nil))) .nil)) (.inl rfl) rfl rfl fun s₃ T₃ => ?_
  let R : List Row → Rho := fun rows => [bd "rows" (dL (rows.map Row.py)), bd "bound" (dI (boundF hs)), bd "values" (dL ((valsF hs).map .int)), bd "heights" (dL (hs.map .int)), bd "drawn" (dL (drs.map Dr.py))]
  refine s_for (xs := [Str.ofString "i"]) (List.range 4) (fun i => .int i) (fun i => [bd "i" (dI i)])
    (fun pre own ρ => own = [] ∧ ρ = R (pre.foldl (grow hs drs) [(0, [])])) (fun _ => False)
    (T₃.weak (ρ' := R [(0, [])]) (sub_cons rfl (sub_cons rfl (sub_cons rfl (sub_cons rfl (sub_cons rfl sub_nil)))))) hA.hh rfl
    (Src.rng G hA.hh Ev.intc (by decide)) (fun a _ => Tg.cell rfl) ⟨rfl, rfl⟩ ?_ ?_ (fun _ _ _ _ _ h => h.elim)
  · rintro pre i post own' ρ' X₁ b' M' s' hsp ⟨rfl, rfl⟩ U
    obtain ⟨rfl, hi4⟩ := range_split hsp
    have hinv := rows_inv hs drs i
    generalize hrows : (List.range i).foldl (grow hs drs) [(0, [])] = rows at U hinv
    have hfold : (List.range i ++ [i]).foldl (grow hs drs) [(0, [])] = grow hs drs rows i := by rw [List.foldl_append, hrows]; rfl
    have hrl : rows.length ≤ 256 := by
      have := hinv.1
      rcases (by omega : i = 0 ∨ i = 1 ∨ i = 2 ∨ i = 3) with rfl | rfl | rfl | rfl <;> simp at this <;> omega
    have hgl : ∀ pre2 : List Row, pre2.length ≤ rows.length → (pre2.flatMap fun q => grow1 hs drs i q (valsF hs)).length ≤ 1024 := fun pre2 h => by
      have := grow_len hs drs i pre2
      unfold grow at this
      omega
    have hnk : ∀ t ∈ nearF drs i, t.k < 3 ∧ t.a ≤ i ∧ t.b ≤ i := fun t ht => by
      unfold nearF at ht
      rw [List.mem_filter] at ht
      have h1 := hd t ht.1
      have h2 : max t.a t.b = i := by simpa using ht.2
      exact ⟨h1.1, by omega, by omega⟩
    -- near
    refine s_comp U hA.hh (Cmp.nm drs Dr.py (fun d => decide (max d.a d.b = i)) Dr.py rfl (Src.list hA.hh (Ev.var rfl)) (fun d hm => .one ?_) (fun d _ _ => Ev.var rfl) (by omega)) rfl rfl rfl fun s₁ U₁ => ?_
    · refine (Tr.cmp (Ev.callB (Ev.bi G G.max) (.cons (Ev.atT (Ev.var rfl) (i := 0) Ev.intc rfl (by decide)) (.cons (Ev.atT (Ev.var rfl) (i := 2) Ev.intc rfl (by decide)) .nil)) (bi_max2 hA.hh)) (Ev.var rfl) (cm_eqi hA)).as ?_
      congr 1
      apply propext
      omega
    refine s_own U₁ (.inl rfl) rfl fun a s₂ U₂ => ?_
    let R1 : Rho := [bd "longer" (.raw (.ref a)), bd "near" (dL ((nearF drs i).map Dr.py)), bd "i" (dI i), bd "rows" (dL (rows.map Row.py)), bd "bound" (dI (boundF hs)), bd "values" (dL ((valsF hs).map .int)), bd "heights" (dL (hs.map .int)), bd "drawn" (dL (drs.map Dr.py))]
    refine s_for (xs := []) rows Row.py (fun q => [bd "row" (dL (q.2.map .int)), bd "way" (dI q.1)])
      (fun pre2 own ρ => own = [(a, .data ((pre2.flatMap fun q => grow1 hs drs i q (valsF hs)).map Row.py))] ∧ ρ = R1) (fun _ => False)
      (U₂.weak (ρ' := R1) (sub_cons rfl (sub_cons rfl (sub_cons rfl (sub_cons rfl (sub_cons rfl (sub_cons rfl (sub_cons rfl (sub_cons rfl sub_nil))))))))) hA.hh rfl (Src.list hA.hh (Ev.var rfl))
      (fun q _ => Tg.tup (xs := [(Str.ofString "way", _), (Str.ofString "row", _)]) (by intro x hx; simp only [List.mem_cons, List.not_mem_nil, or_false] at hx; rcases hx with rfl | rfl <;> rfl) rfl) ⟨rfl, rfl⟩ ?_ ?_ (fun _ _ _ _ _ h => h.elim)
    · rintro pre2 q post2 own' ρ' X₂ b₂ M₂ s₃ hsp2 ⟨rfl, rfl⟩ V
      have hq : q ∈ rows := by rw [hsp2]; simp
      have hql := hinv.2 q hq
      have hp2 : pre2.length ≤ rows.length := by rw [hsp2]; simp
      have hpl := hgl pre2 hp2
      let R2 : Rho := [bd "row" (dL (q.2.map .int)), bd "way" (dI q.1)] ++ R1
      refine s_for (xs := []) (valsF hs) (fun x => .int x) (fun x => [bd "x" (dI x)])
        (fun pre3 own ρ => own = [(a, .data (((pre2.flatMap fun q => grow1 hs drs i q (valsF hs)) ++ grow1 hs drs i q pre3).map Row.py))] ∧ ρ = R2) (fun _ => False)
        V hA.hh rfl (Src.list hA.hh (Ev.var rfl)) (fun x _ => Tg.loc rfl) ⟨by simp [grow1], rfl⟩ ?_ ?_ (fun _ _ _ _ _ h => h.elim)
      · rintro pre3 x post3 own' ρ' X₃ b₃ M₃ s₄ hsp3 ⟨rfl, rfl⟩ Wt
        have hx3 : pre3.length ≤ 4 := by
          have := congrArg List.length hsp3
          simp at this; omega
        have hg3 := grow1_len hs drs i q pre3
        have hstep : grow1 hs drs i q (pre3 ++ [x]) = grow1 hs drs i q pre3 ++ (if okRow hs drs i q x then [(q.1 + absI (x - hs.getD i 0), q.2 ++ [x])] else []) := by
          unfold grow1
          rw [List.filter_append, List.map_append]
          congr 1
          cases h : okRow hs drs i q x <;> simp [h]
        -- more
        refine s_assign Wt (d := dI (q.1 + absI (x - hs.getD i 0))) (Ev.bin (Ev.var rfl) (Ev.callB (Ev.bi G G.abs) (.cons (Ev.bin (Ev.var rfl) (Ev.at (Ev.var rfl) (Ev.var rfl) (hsk i hi4) (by omega)) op_sub) .nil) bi_abs) op_add) (.inl rfl) rfl rfl fun s₅ W₅ => ?_
        have erow : (q.2.map PyData.int) ++ [PyData.int x] = (q.2 ++ [x]).map .int := by simp
        have evrow : ∀ {sc' : Scope} {ρ' : Rho} {e1 : PySem.Expr} {y : Str} {p1 p2 p3 : Pos}, Ev c A sc' ρ' e1 (dL (q.2.map .int)) → Ev c A sc' ρ' (.Name y p3) (dI x) → Ev c A sc' ρ' (.BinOp e1 .Add (.List [.Name y p3] p1) p2) (dL ((q.2 ++ [x]).map .int)) := by
          intro sc' ρ' e1 y p1 p2 p3 h1 h2
          rw [← erow]
          exact Ev.bin h1 (Ev.list (ds := [.int x]) (.cons h2 .nil)) (op_ladd (by simp; omega))
        refine s_if (t := okRow hs drs i q x) W₅ ?_ (fun h s₆ W₆ => ?_) (fun h s₆ W₆ => ?_)
        · unfold okRow
          refine Tr.and (Tr.cmp (Ev.var rfl) (Ev.var rfl) cm_le) fun _ => Tr.bool (Ev.fn G G.keeps rfl hA (.cons (evrow (Ev.var rfl) (Ev.var rfl)) (.cons (Ev.var rfl) .nil)) (fn_keeps G ?_ ?_))
          · intro t ht
            have := hnk t ht
            simp; omega
          · simp; omega
        · refine s_append (pre := []) (post := []) W₆ (d := Row.py (q.1 + absI (x - hs.getD i 0), q.2 ++ [x])) (Ev.var rfl) (Ev.tup (ds := [.int (q.1 + absI (x - hs.getD i 0)), .list ((q.2 ++ [x]).map .int)]) (.cons (Ev.var rfl) (.cons (evrow (Ev.var rfl) (Ev.var rfl)) .nil))) (by rw [List.length_map, List.length_append]; omega) (fun s₇ W₇ => ?_) _ rfl
          refine wpAny_execs_nil (wpAny_execs_nil ⟨_, R2, ⟨rfl, rfl⟩, ?_⟩)
          rw [hstep, if_pos h, ← List.append_assoc, List.map_append]
          exact W₇.weak ((sub_cons rfl (sub_cons rfl (sub_cons rfl (sub_cons rfl (sub_cons rfl (sub_cons rfl (sub_cons rfl (sub_cons rfl (sub_cons rfl (sub_cons rfl sub_nil)))))))))))
        · refine wpAny_execs_nil (wpAny_execs_nil ⟨_, R2, ⟨rfl, rfl⟩, ?_⟩)
          rw [hstep, if_neg (by simpa using h), List.append_nil]
          exact W₆.weak ((sub_cons rfl (sub_cons rfl (sub_cons rfl (sub_cons rfl (sub_cons rfl (sub_cons rfl (sub_cons rfl (sub_cons rfl (sub_cons rfl (sub_cons rfl sub_nil)))))))))))
      · rintro own' ρ' s₄ ⟨rfl, rfl⟩ Wt
        refine wpAny_execs_nil ⟨_, R1, ⟨rfl, rfl⟩, ?_⟩
        rw [List.flatMap_append, List.flatMap_cons, List.flatMap_nil, List.append_nil]
        exact Wt.weak ((sub_cons rfl (sub_cons rfl (sub_cons rfl (sub_cons rfl (sub_cons rfl (sub_cons rfl (sub_cons rfl (sub_cons rfl sub_nil)))))))))
    · rintro own' ρ' s₃ ⟨rfl, rfl⟩ V
      refine s_assign V (Ev.var rfl) (.inl rfl) rfl rfl fun s₄ V₄ => wpAny_execs_nil ?_
      refine ⟨[], _, ⟨rfl, rfl⟩, ?_⟩
      rw [hfold]
      have V₅ := V₄.freeze (pre := []) (post := []) (x := Str.ofString "rows") rfl
      exact V₅.weak (sub_cons rfl (sub_cons rfl (sub_cons rfl (sub_cons rfl (sub_cons rfl sub_nil)))))
  · rintro own' ρ' s' ⟨rfl, rfl⟩ U
    have er : (List.range 4).foldl (grow hs drs) [(0, [])] = rowsF hs drs := rfl
    rw [er] at U
    have hri := rows_inv hs drs 4
    rw [er] at hri
    exact near_end G hA hri.1 hri.2 hne U rfl rfl
end Mine
end

section -- WLaw
open PySem PySem.W PyProof.Rows PySem.Spec PySem.Calls
set_option Elab.async false
set_option maxRecDepth 100000
set_option linter.unusedVariables false
namespace Mine
def hsF (sc : List Int) : List Int := sc.take 4 ++ ([3, 0, 2, 1] : List Int).drop (sc.take 4).length
def xsF (sc : List Int) : List Int := (sc.drop 4).take 3 ++ ([0, 13, 2] : List Int).drop ((sc.drop 4).take 3).length
def drF (x : Int) : Dr := ⟨(x.fmod 4).toNat, ((x.fdiv 12).fmod 3).toNat, ((x.fmod 4 + 1 + (x.fdiv 4).fmod 3).fmod 4).toNat⟩
def drsF (sc : List Int) : List Dr := (xsF sc).map drF
def psF (ds : List Dr) : List (Nat × Nat) := ds.flatMap prs
def upB (ps : List (Nat × Nat)) (u : Nat) : Bool := ps.all fun q => !(bit u q.1 && !bit u q.2)
def upsF (ps : List (Nat × Nat)) : List Nat := (List.range 16).filter (upB ps)
def partF (hs : List Int) (ch : Nat) : List Int := ((List.range 4).filter (bit ch)).map fun i => hs.getD i 0
theorem hsF_len (sc : List Int) : (hsF sc).length = 4 := by
  unfold hsF
  simp only [List.length_append, List.length_take, List.length_drop, List.length_cons, List.length_nil]
  omega
theorem xsF_len (sc : List Int) : (xsF sc).length = 3 := by
  unfold xsF
  simp only [List.length_append, List.length_take, List.length_drop, List.length_cons, List.length_nil]
  omega
theorem fmod_nat (a : Int) {m : Nat} (hm : 0 < m) : ((a.fmod m).toNat : Int) = a.fmod m ∧ (a.fmod m).toNat < m := by
  have h1 := Int.fmod_nonneg_of_pos a (by omega : (0 : Int) < m)
  have h2 := Int.fmod_lt_of_pos a (by omega : (0 : Int) < m)
  omega
theorem drF_ok (x : Int) : (drF x).ok := by
  refine ⟨?_, ?_, ?_⟩
  · exact (fmod_nat x (m := 4) (by decide)).2
  · exact (fmod_nat (x.fdiv 12) (m := 3) (by decide)).2
  · exact (fmod_nat (x.fmod 4 + 1 + (x.fdiv 4).fmod 3) (m := 4) (by decide)).2
theorem sgn_at {k : Nat} (h : k < 3) : ([.str "<=", .str ">=", .str "=="] : List PyData)[k]? = some (.str (sgn k)) := by
  rcases (by omega : k = 0 ∨ k = 1 ∨ k = 2) with rfl | rfl | rfl <;> rfl
theorem slice_take (sc : List Int) : ((sc.map PyData.int).drop (Option.elim (none : Option Int) 0 (clipAt (sc.map PyData.int).length))).take (Option.elim (some (4 : Int)) (sc.map PyData.int).length (clipAt (sc.map PyData.int).length) - Option.elim (none : Option Int) 0 (clipAt (sc.map PyData.int).length)) = (sc.take 4).map .int := by
  simp only [Option.elim, List.drop_zero, Nat.sub_zero, List.length_map]
  rw [← List.map_take]
  congr 1
  unfold clipAt
  rcases Nat.lt_or_ge sc.length 4 with h | h
  · rw [List.take_of_length_le (by omega), List.take_of_length_le (by omega)]
  · congr 1; omega
theorem slice_mid (sc : List Int) : ((sc.map PyData.int).drop (Option.elim (some (4 : Int)) 0 (clipAt (sc.map PyData.int).length))).take (Option.elim (some (7 : Int)) (sc.map PyData.int).length (clipAt (sc.map PyData.int).length) - Option.elim (some (4 : Int)) 0 (clipAt (sc.map PyData.int).length)) = ((sc.drop 4).take 3).map .int := by
  simp only [Option.elim, List.length_map]
  rw [← List.map_drop, ← List.map_take]
  congr 1
  unfold clipAt
  rcases Nat.lt_or_ge sc.length 7 with h | h
  · have e : (max (0 : Int) (min (if (7 : Int) < 0 then 7 + (sc.length : Int) else 7) (sc.length : Int))).toNat = sc.length := by simp; omega
    rcases Nat.lt_or_ge sc.length 4 with h4 | h4
    · rw [List.drop_of_length_le (by omega : sc.length ≤ 4), List.drop_of_length_le (by simp; omega)]; simp
    · have e4 : (max (0 : Int) (min (if (4 : Int) < 0 then 4 + (sc.length : Int) else 4) (sc.length : Int))).toNat = 4 := by simp; omega
      rw [e, e4, List.take_of_length_le (by simp), List.take_of_length_le (by simp; omega)]
  · have e : (max (0 : Int) (min (if (7 : Int) < 0 then 7 + (sc.length : Int) else 7) (sc.length : Int))).toNat = 7 := by simp; omega
    have e4 : (max (0 : Int) (min (if (4 : Int) < 0 then 4 + (sc.length : Int) else 4) (sc.length : Int))).toNat = 4 := by simp; omega
    rw [e, e4]
theorem slice_from (ds : List PyData) (k : Nat) (hk : k ≤ ds.length) : (ds.drop (Option.elim (some (k : Int)) 0 (clipAt ds.length))).take (Option.elim (none : Option Int) ds.length (clipAt ds.length) - Option.elim (some (k : Int)) 0 (clipAt ds.length)) = ds.drop k := by
  simp only [Option.elim]
  have e : clipAt ds.length (k : Int) = k := by unfold clipAt; have : ¬ ((k : Int) < 0) := by omega
                                                simp only [this, if_false]; omega
  rw [e, List.take_of_length_le (by simp)]
end Mine
end

section -- WLaw2
open PySem PySem.W PyProof.Rows PySem.Spec PySem.Calls
set_option Elab.async false
set_option maxRecDepth 100000
set_option linter.unusedVariables false
namespace Mine
section
variable {c : Cx} {A : Around} {D : List (PyData × PyData)}
noncomputable abbrev sLaw : Scope := scopeOf (theDef 65)
abbrev RL1 (sc : List Int) : Rho := [bd "heights" (dL ((hsF sc).map .int)), bd "script" (dL (sc.map .int))]
/-- heights -/
theorem law1 (G : Gl c) {n : Nat} {sc : List Int} (hsc : sc.length ≤ 63) {r : ER} {X₀ : Addr → Prop} {b s : Shared} (hA : Room n A) (T : St c b (fun _ => False) sLaw r X₀ [] [bd "script" (dL (sc.map .int))] s) {Q : Flow → Shared → Prop} {E : Value → Shared → Prop}
    (h : ∀ s', St c b (fun _ => False) sLaw r X₀ [] (RL1 sc) s' → wpAny (model c.prog c.w) A (execs ((bodyOf (theDef 65)).drop 1) (En sLaw r)) Q E s') : wpAny (model c.prog c.w) A (execs (bodyOf (theDef 65)) (En sLaw r)) Q E s := by
  have h24 : sizeLine = 16777216 := sizeLine_eq
  have hl4 : (sc.take 4).length ≤ 4 := by simp; omega
  refine s_assign (d := dL ((hsF sc).map .int)) T ?_ (.inr rfl) rfl rfl fun s₁ T₁ => h s₁ T₁
  unfold hsF
  rw [List.map_append, List.map_drop]
  refine Ev.bin ((Ev.slice (Ev.var rfl) .none (.some Ev.intc) (by simp; omega)).as (by rw [slice_take])) ?_ (op_ladd (by simp; omega))
  exact (Ev.slice (Ev.list (ds := ([3, 0, 2, 1] : List Int).map .int) (.cons Ev.intc (.cons Ev.intc (.cons Ev.intc (.cons Ev.intc .nil))))) (.some (Ev.len (n := (sc.take 4).length) G ((Ev.slice (Ev.var rfl) .none (.some Ev.intc) (by simp; omega)).as (by rw [slice_take])) (by simp) (by omega))) .none (by rw [h24]; decide)).as (by rw [slice_from _ _ (by simpa using hl4)])

theorem dr_py (x : Int) : (drF x).py = .tuple [.int (x.fmod 4), .str (sgn ((x.fdiv 12).fmod 3).toNat), .int ((x.fmod 4 + 1 + (x.fdiv 4).fmod 3).fmod 4)] := by
  unfold drF Dr.py
  have h1 := (fmod_nat x (m := 4) (by decide)).1
  have h2 := (fmod_nat (x.fmod 4 + 1 + (x.fdiv 4).fmod 3) (m := 4) (by decide)).1
  dsimp only
  rw [show ((x.fmod 4).toNat : Int) = x.fmod 4 from h1, show (((x.fmod 4 + 1 + (x.fdiv 4).fmod 3).fmod 4).toNat : Int) = _ from h2]
  rfl
abbrev RL2 (sc : List Int) : Rho := bd "drawn" (dL ((drsF sc).map Dr.py)) :: RL1 sc
/-- drawn -/
theorem law2 (G : Gl c) {n : Nat} {sc : List Int} (hsc : sc.length ≤ 63) {r : ER} {X₀ : Addr → Prop} {b s : Shared} (hA : Room n A) (T : St c b (fun _ => False) sLaw r X₀ [] (RL1 sc) s) {Q : Flow → Shared → Prop} {E : Value → Shared → Prop}
    (h : ∀ s', St c b (fun _ => False) sLaw r X₀ [] (RL2 sc) s' → wpAny (model c.prog c.w) A (execs ((bodyOf (theDef 65)).drop 3) (En sLaw r)) Q E s') : wpAny (model c.prog c.w) A (execs ((bodyOf (theDef 65)).drop 1) (En sLaw r)) Q E s := by
  have h24 : sizeLine = 16777216 := sizeLine_eq
  have hl3 : ((sc.drop 4).take 3).length ≤ 3 := by simp; omega
  refine s_own T (.inl rfl) rfl fun a s₁ T₁ => ?_
  refine s_for (xs := []) (xsF sc) (fun x => .int x) (fun x => [bd "x" (dI x)]) (fun pre own ρ => own = [(a, .data (pre.map fun x => (drF x).py))] ∧ ρ = bd "drawn" (.raw (.ref a)) :: RL1 sc) (fun _ => False)
    T₁ hA.hh rfl ?_ (fun x _ => .loc rfl) ⟨rfl, rfl⟩ ?_ ?_ (fun own' ρ' d v s' hd => hd.elim)
  · unfold xsF
    rw [List.map_append, List.map_drop]
    refine Src.list hA.hh (Ev.bin ((Ev.slice (Ev.var rfl) (.some Ev.intc) (.some Ev.intc) (by simp; omega)).as (by rw [slice_mid])) ?_ (op_ladd (by simp; omega)))
    exact (Ev.slice (Ev.list (ds := ([0, 13, 2] : List Int).map .int) (.cons Ev.intc (.cons Ev.intc (.cons Ev.intc .nil)))) (.some (Ev.len (n := ((sc.drop 4).take 3).length) G ((Ev.slice (Ev.var rfl) (.some Ev.intc) (.some Ev.intc) (by simp; omega)).as (by rw [slice_mid])) (by simp) (by omega))) .none (by rw [h24]; decide)).as (by rw [slice_from _ _ (by simpa using hl3)])
  · rintro pre x post own ρ X₁ b' M' s₂ hL ⟨rfl, rfl⟩ U
    have hpl : pre.length ≤ 3 := by have := congrArg List.length hL; rw [xsF_len] at this; simp at this; omega
    refine s_append (pre := []) (post := []) U (d := (drF x).py) (Ev.var rfl) ?_ (by rw [List.length_map]; omega) (fun s₃ U₃ => wpAny_execs_nil ⟨_, _, ⟨rfl, rfl⟩, ?_⟩) _ rfl
    · rw [dr_py]
      have hk := (fmod_nat (x.fdiv 12) (m := 3) (by decide)).1
      refine Ev.tup (ds := [.int (x.fmod 4), .str (sgn ((x.fdiv 12).fmod 3).toNat), .int ((x.fmod 4 + 1 + (x.fdiv 4).fmod 3).fmod 4)]) (.cons (Ev.bin (Ev.var rfl) Ev.intc (op_mod (by decide))) (.cons ?_ (.cons ?_ .nil)))
      · refine Ev.sub (Ev.list (ds := [.str "<=", .str ">=", .str "=="]) (.cons Ev.strc (.cons Ev.strc (.cons Ev.strc .nil)))) (Ev.bin (Ev.bin (Ev.var rfl) Ev.intc (op_fdiv (by decide) (noPy _ 12 (by decide)))) Ev.intc (op_mod (by decide))) (it_list (Int.fmod_nonneg_of_pos _ (by decide)) (sgn_at (fmod_nat (x.fdiv 12) (m := 3) (by decide)).2) ?_ (fun _ _ => rfl))
        have := Int.fmod_lt_of_pos (x.fdiv 12) (show (0 : Int) < 3 by decide)
        omega
      · exact Ev.bin (Ev.bin (Ev.bin (Ev.bin (Ev.var rfl) Ev.intc (op_mod (by decide))) Ev.intc op_add) (Ev.bin (Ev.bin (Ev.var rfl) Ev.intc (op_fdiv (by decide) (noPy _ 4 (by decide)))) Ev.intc (op_mod (by decide))) op_add) Ev.intc (op_mod (by decide))
    · rw [List.map_append]
      exact U₃.weak (sub_cons rfl (sub_cons rfl (sub_cons rfl sub_nil)))
  · rintro own ρ s₂ ⟨rfl, rfl⟩ U
    have U' := St.freeze (pre := []) (post := []) (x := "drawn") U rfl
    refine h s₂ (U'.weak (ρ' := RL2 sc) ?_)
    refine sub_cons ?_ (sub_cons rfl (sub_cons rfl sub_nil))
    unfold drsF
    rw [List.map_map]
    rfl
end
end Mine
end

section -- WLaw3
open PySem PySem.W PyProof.Rows PySem.Spec PySem.Calls
set_option Elab.async false
set_option maxRecDepth 100000
set_option linter.unusedVariables false
namespace Mine
theorem dis_of {scope : Scope} : ∀ {l : Rho}, (l.all fun p => scope.names.lookup p.1 != some .free) = true → ∀ x, (l.lookup x).isSome = true → scope.names.lookup x ≠ some .free
  | [], _, x, h => by simp at h
  | (y, d) :: l, ha, x, h => by
    rw [List.all_cons, Bool.and_eq_true] at ha
    rw [List.lookup_cons] at h
    cases q : x == y with
    | true => rw [eq_of_beq q]; simpa using ha.1
    | false => rw [q] at h; exact dis_of ha.2 x h
theorem abcd_at {i : Nat} (h : i < 4) : (Str.ofString "abcd").cps[((i : Nat) : Int).toNat]? = some (nmc i) := by
  rcases (by omega : i = 0 ∨ i = 1 ∨ i = 2 ∨ i = 3) with rfl | rfl | rfl | rfl <;> decide +kernel
theorem txt_is {d : Dr} (h : d.ok) : ((⟨#[nmc d.a]⟩ : Str) ++ sgn d.k) ++ (⟨#[nmc d.b]⟩ : Str) = d.txt := by
  obtain ⟨a, k, b⟩ := d
  obtain ⟨_, hk, _⟩ := h
  dsimp only at hk
  rcases (by omega : k = 0 ∨ k = 1 ∨ k = 2) with rfl | rfl | rfl <;> rfl
theorem sgn_len (k : Nat) : (sgn k).length ≤ 2 := by
  unfold sgn; split <;> decide
theorem join_is (d e f : Dr) : Txt.join (Str.ofString ";") [d.txt, e.txt, f.txt] = lineOf d e f := rfl
section
variable {c : Cx} {A : Around} {D : List (PyData × PyData)}
abbrev RL3 (sc : List Int) : Rho := bd "pairs" (dL ((psF (drsF sc)).map prPy)) :: RL2 sc
theorem drs3 (sc : List Int) : ∃ d e f, drsF sc = [d, e, f] ∧ d.ok ∧ e.ok ∧ f.ok := by
  have h := xsF_len sc
  unfold drsF
  match hx : xsF sc, h with
  | [x, y, z], _ => exact ⟨drF x, drF y, drF z, rfl, drF_ok x, drF_ok y, drF_ok z⟩
/-- pairs -/
theorem law3 (G : Gl c) (W : Tab c D) (hD : tabOk D = true) {n : Nat} {sc : List Int} {r : ER} {X₀ : Addr → Prop} {b s : Shared} (hA : Room (n + 2) A) (T : St c b (fun _ => False) sLaw r X₀ [] (RL2 sc) s) {Q : Flow → Shared → Prop} {E : Value → Shared → Prop}
    (h : ∀ s', St c b (fun _ => False) sLaw r X₀ [] (RL3 sc) s' → wpAny (model c.prog c.w) A (execs ((bodyOf (theDef 65)).drop 4) (En sLaw r)) Q E s') : wpAny (model c.prog c.w) A (execs ((bodyOf (theDef 65)).drop 3) (En sLaw r)) Q E s := by
  have h24 : sizeLine = 16777216 := sizeLine_eq
  obtain ⟨d, e, f, hdr, hd, he, hf⟩ := drs3 sc
  refine s_assign (d := dL ((psF (drsF sc)).map prPy)) T ?_ (.inr rfl) rfl rfl fun s₁ T₁ => h s₁ T₁
  have hp : psF (drsF sc) = prs d ++ prs e ++ prs f := by rw [hdr]; simp [psF]
  rw [hp]
  refine Ev.fn G G.pairs rfl hA (.cons ?_ .nil) (fn_pairs3 G W hD hd he hf)
  have hall : ∀ t ∈ drsF sc, t.ok := by rw [hdr]; intro t ht; simp at ht; rcases ht with rfl | rfl | rfl <;> assumption
  rw [← join_is]
  refine Ev.join (l := [d.txt, e.txt, f.txt]) 4 Ev.strc ?_ (by intro a ha; simp at ha; rcases ha with rfl | rfl | rfl <;> exact Nat.le_refl _) (by simp) (by decide) (fun _ => _) fun _ => rfl
  refine Cmp.evAs (Cmp.mk (xs := []) (drsF sc) Dr.py (fun _ => true) (fun t => .str t.txt) (fun t => [bd "second" (dI t.b), bd "sign" (dS (sgn t.k)), bd "first" (dI t.a)])
    (CompOk.of (.inl rfl) rfl rfl (fun _ _ => rfl) (fun _ => rfl) rfl) (Src.list hA.hh (Ev.var rfl)) (fun t _ => Tg.tup (xs := [("first", _), ("sign", _), ("second", _)]) ?_ rfl) (fun t _ => dis_of rfl) (fun _ _ => .nil) (fun t ht _ => ?_) (by rw [hdr, h24]; simp) (fun _ _ => rfl)) hA.hh ?_
  · intro x hx
    simp only [List.mem_cons, List.not_mem_nil, or_false] at hx
    rcases hx with rfl | rfl | rfl <;> rfl
  · have ok := hall t ht
    rw [← txt_is ok]
    have h1 := ok.1
    have h2 := ok.2.2
    have h3 := sgn_len t.k
    refine Ev.bin (Ev.bin (Ev.sub Ev.strc (Ev.var rfl) (it_str (by omega) (abcd_at h1) (by omega) (fun _ _ => rfl))) (Ev.var rfl) (op_sadd ?_)) (Ev.sub Ev.strc (Ev.var rfl) (it_str (by omega) (abcd_at h2) (by omega) (fun _ _ => rfl))) (op_sadd ?_)
    · show 1 + (sgn t.k).length ≤ _; omega
    · rw [Str.length_append]; show 1 + (sgn t.k).length + 1 ≤ _; omega
  · rw [filter_true, hdr]; rfl
end
end Mine
end

section -- WLaw4
open PySem PySem.W PyProof.Rows PySem.Spec PySem.Calls
set_option Elab.async false
set_option maxRecDepth 100000
set_option linter.unusedVariables false
namespace Mine
theorem prs_lt {d : Dr} (h : d.ok) : ∀ q ∈ prs d, q.1 < 4 ∧ q.2 < 4 := by
  intro q hq
  unfold prs at hq
  rcases List.mem_append.mp hq with hq | hq <;> (split at hq <;> simp at hq) <;> subst hq <;> exact ⟨by first | exact h.1 | exact h.2.2, by first | exact h.2.2 | exact h.1⟩
theorem psF_lt (sc : List Int) : ∀ q ∈ psF (drsF sc), q.1 < 4 ∧ q.2 < 4 := by
  intro q hq
  unfold psF drsF at hq
  obtain ⟨d, hd, hq⟩ := List.mem_flatMap.mp hq
  obtain ⟨x, _, rfl⟩ := List.mem_map.mp hd
  exact prs_lt (drF_ok x) q hq
theorem prs_length (d : Dr) : (prs d).length ≤ 2 := by have := prs_len d; simpa using this
theorem psF_length (sc : List Int) : (psF (drsF sc)).length ≤ 6 := by
  obtain ⟨d, e, f, hdr, _⟩ := drs3 sc
  rw [hdr]
  have h1 := prs_length d
  have h2 := prs_length e
  have h3 := prs_length f
  simp only [psF, List.flatMap_cons, List.flatMap_nil, List.length_append, List.length_nil]
  omega
def badB (u : Nat) (q : Nat × Nat) : Bool := bit u q.1 && !bit u q.2
theorem bad_is (u : Nat) (q : Nat × Nat) : decide ((if bit u q.2 then (1 : Int) else 0) < (if bit u q.1 then 1 else 0)) = badB u q := by
  unfold badB
  cases bit u q.1 <;> cases bit u q.2 <;> decide
theorem up_is (ps : List (Nat × Nat)) (u : Nat) : PyData.eqv (.list ((ps.filter (badB u)).map fun _ => .int 1)) (.list []) = upB ps u := by
  unfold upB
  induction ps with
  | nil => rfl
  | cons q ps ih =>
    rw [List.filter_cons, List.all_cons, ← ih]
    show _ = (!badB u q && _)
    cases hb : badB u q with
    | true => simp only [if_true, List.map_cons, Bool.not_true, Bool.false_and]; rfl
    | false => simp only [Bool.false_eq_true, if_false, Bool.not_false, Bool.true_and]
section
variable {c : Cx} {A : Around} {D : List (PyData × PyData)}
abbrev RL4 (sc : List Int) : Rho := bd "uppers" (dL ((upsF (psF (drsF sc))).map fun (u : Nat) => .int u)) :: RL3 sc
/-- uppers -/
theorem law4 (G : Gl c) {n : Nat} {sc : List Int} {r : ER} {X₀ : Addr → Prop} {b s : Shared} (hA : Room n A) (T : St c b (fun _ => False) sLaw r X₀ [] (RL3 sc) s) {Q : Flow → Shared → Prop} {E : Value → Shared → Prop}
    (h : ∀ s', St c b (fun _ => False) sLaw r X₀ [] (RL4 sc) s' → wpAny (model c.prog c.w) A (execs ((bodyOf (theDef 65)).drop 5) (En sLaw r)) Q E s') : wpAny (model c.prog c.w) A (execs ((bodyOf (theDef 65)).drop 4) (En sLaw r)) Q E s := by
  have h24 : sizeLine = 16777216 := sizeLine_eq
  have hp := psF_lt sc
  have hpl := psF_length sc
  refine s_assign (d := dL ((upsF (psF (drsF sc))).map fun (u : Nat) => .int u)) T ?_ (.inr rfl) rfl rfl fun s₁ T₁ => h s₁ T₁
  unfold RL3
  generalize psF (drsF sc) = ps at hp hpl ⊢
  refine Cmp.evAs (Cmp.nmc (List.range 16) (fun u => .int u) (upB ps) (fun u => .int u) rfl (Src.rng G hA.hh Ev.intc (by decide)) (fun u hu => .one ?_) (fun u _ _ => Ev.var rfl) (by rw [h24]; decide)) hA.hh rfl
  have hu' : u < 16 := by simpa using hu
  rw [← up_is]
  refine Tr.cmp (Cmp.ev (Cmp.mk (xs := []) ps prPy (badB u) (fun _ => .int 1) (fun q => [bd "high" (dI q.2), bd "low" (dI q.1)])
    (CompOk.of (.inl rfl) rfl rfl (fun _ _ => rfl) (fun _ => rfl) rfl) (Src.list hA.hh (Ev.var rfl)) (fun q _ => Tg.tup (xs := [("low", _), ("high", _)]) ?_ rfl) (fun t _ => dis_of rfl) (fun q hq => .one ?_) (fun _ _ _ => Ev.intc) (by omega) (fun _ _ => rfl)) hA.hh) (Ev.list (ds := []) .nil) (cm_eq hA ?_ rfl)
  · intro x hx
    simp only [List.mem_cons, List.not_mem_nil, or_false] at hx
    rcases hx with rfl | rfl <;> rfl
  · rw [← bad_is]
    exact Tr.cmp (Ev.bit hu' (hp q hq).1 (Ev.var rfl) (Ev.var rfl)) (Ev.bit hu' (hp q hq).2 (Ev.var rfl) (Ev.var rfl)) cm_gt
  · have := shaped_ints ((ps.filter (badB u)).map fun _ => 1)
    rwa [List.map_map] at this
end
end Mine
end

section -- WLaw5
open PySem PySem.W PyProof.Rows PySem.Spec PySem.Calls
set_option Elab.async false
set_option maxRecDepth 100000
set_option linter.unusedVariables false
namespace Mine
theorem partF_len (hs : List Int) (ch : Nat) : (partF hs ch).length < 64 := by
  unfold partF
  rw [List.length_map]
  have := List.length_filter_le (bit ch) (List.range 4)
  simp at this
  omega
section
variable {c : Cx} {A : Around} {D : List (PyData × PyData)}
abbrev partPy (hs : List Int) (ch : Nat) : PyData := .list ((partF hs ch).map .int)
abbrev RL5 (sc : List Int) : Rho := bd "parts" (dL ((List.range 16).map (partPy (hsF sc)))) :: RL4 sc
abbrev RL7 (sc : List Int) : Rho := bd "highs" (dL ((List.range 16).map fun ch => midPy 1 (partF (hsF sc) ch))) :: bd "lows" (dL ((List.range 16).map fun ch => midPy 0 (partF (hsF sc) ch))) :: RL5 sc
/-- parts -/
theorem law5 (G : Gl c) {n : Nat} {sc : List Int} {r : ER} {X₀ : Addr → Prop} {b s : Shared} (hA : Room n A) (T : St c b (fun _ => False) sLaw r X₀ [] (RL4 sc) s) {Q : Flow → Shared → Prop} {E : Value → Shared → Prop}
    (h : ∀ s', St c b (fun _ => False) sLaw r X₀ [] (RL5 sc) s' → wpAny (model c.prog c.w) A (execs ((bodyOf (theDef 65)).drop 6) (En sLaw r)) Q E s') : wpAny (model c.prog c.w) A (execs ((bodyOf (theDef 65)).drop 5) (En sLaw r)) Q E s := by
  have h24 : sizeLine = 16777216 := sizeLine_eq
  have h4 := hsF_len sc
  refine s_comp T hA.hh (Cmp.cast (ds' := (List.range 16).map (partPy (hsF sc))) (Cmp.nmc (List.range 16) (fun u => .int u) (fun _ => true) (partPy (hsF sc)) rfl (Src.rng G hA.hh Ev.intc (by decide)) (fun _ _ => .nil) (fun ch hc _ => ?_) (by rw [h24]; decide)) (by rw [filter_true])) rfl rfl rfl fun s₁ T₁ => h s₁ T₁
  have hc' : ch < 16 := by simpa using hc
  unfold partPy partF
  rw [List.map_map]
  refine Cmp.ev (Cmp.nm (List.range 4) (fun i => .int i) (bit ch) (fun i => .int ((hsF sc).getD i 0)) rfl (Src.rng G hA.hh Ev.intc (by decide)) (fun i hi => .one (Tr.bit hc' (by simpa using hi) (Ev.var rfl) (Ev.var rfl))) (fun i hi _ => ?_) (by rw [h24]; decide)) hA.hh
  have hi' : i < 4 := by simpa using hi
  refine Ev.at (Ev.var rfl) (Ev.var rfl) ?_ (by omega)
  simp [h4, hi']
/-- lows, highs -/
theorem evz_lows (G : Gl c) {C : Addr} (K : Cls c C) (P : Deep c C) {n : Nat} {hs : List Int} {ρ : Rho} {r : ER} (hA : Room (n + 2) A) (hst : A.frames = some [En sLaw r]) (hfr : r.frame = some r.L) {w : Int} {scope : Scope} {p p1 p2 p3 p4 p5 p6 : Pos} {k : Nat}
    (hρ : ρ.lookup (Str.ofString "parts") = some (dL ((List.range 16).map (partPy hs)))) (hsc : scope = ⟨.function, [(Str.ofString ".0", .local), (Str.ofString "some", .local), (Str.ofString "_law_middle", .globalImplicit)], false, false, scope.5⟩) :
    EvZ c A sLaw ρ (Zr r) (.ListComp (.Call (.Name "_law_middle" p) [.Name "some" p1, .Constant (.int w) k p2] [] p3) [⟨.Name "some" p4, .Name "parts" p5, [], 0⟩] scope p6) (dL ((List.range 16).map fun ch => midPy w (partF hs ch))) := by
  have h24 : sizeLine = 16777216 := sizeLine_eq
  have key := EvZ.comp (c := c) (A := A) (sc := sLaw) (ρ := ρ) (Z := Zr r) (pos := p6) (scope := scope) (xs := []) (elt := .Call (.Name "_law_middle" p) [.Name "some" p1, .Constant (.int w) k p2] [] p3) (tgt := .Name "some" p4) (iter := .Name "parts" p5) (ifs := [])
    (List.range 16) (partPy hs) (fun _ => true) (fun ch => midPy w (partF hs ch)) (fun ch => [bd "some" (.py (partPy hs ch))]) hA.hh ?_ (Src.list hA.hh (Ev.var hρ)) ?_ ?_ (fun _ _ => .nil) ?_ (by rw [h24]; decide) (fun _ _ => rfl)
  · rw [filter_true] at key
    exact key
  · rw [hsc]; exact CompOk.of (.inl rfl) rfl rfl (fun _ _ => rfl) (fun _ => rfl) rfl
  · intro ch _; rw [hsc]; exact .loc rfl
  · intro ch _; rw [hsc]; exact dis_of rfl
  · intro ch _ _
    rw [hsc]
    exact evz_middle (n := n) G K P hA hst hfr rfl (partF_len hs ch) (Ev.var rfl) Ev.intc
theorem law6 (G : Gl c) {C : Addr} (K : Cls c C) (P : Deep c C) {n : Nat} {sc : List Int} {r : ER} {X₀ : Addr → Prop} {b s : Shared} (hA : Room (n + 2) A) (hst : A.frames = some [En sLaw r]) (hfr : r.frame = some r.L) (T : St c b (fun _ => False) sLaw r X₀ [] (RL5 sc) s) {Q : Flow → Shared → Prop} {E : Value → Shared → Prop}
    (h : ∀ s', St c b (fun _ => False) sLaw r X₀ [] (RL7 sc) s' → wpAny (model c.prog c.w) A (execs ((bodyOf (theDef 65)).drop 8) (En sLaw r)) Q E s') : wpAny (model c.prog c.w) A (execs ((bodyOf (theDef 65)).drop 6) (En sLaw r)) Q E s := by
  refine s_assignZ T (evz_lows (n := n) G K P (hs := hsF sc) hA hst hfr rfl rfl) (.inr rfl) rfl rfl fun s₁ T₁ => ?_
  exact s_assignZ T₁ (evz_lows (n := n) G K P (hs := hsF sc) hA hst hfr rfl rfl) (.inr rfl) rfl rfl fun s₂ T₂ => h s₂ T₂
end
end Mine
end

section -- WLaw6
open PySem PySem.W PyProof.Rows PySem.Spec PySem.Calls
set_option Elab.async false
set_option maxRecDepth 100000
set_option linter.unusedVariables false
namespace Mine
def isS : PyData → Bool
  | .str _ => true
  | _ => false
theorem empty_fin : ∀ ch : Fin 16, ((List.range 4).filter (bit ch.val) == []) = decide (ch.val = 0) := by decide +kernel
theorem part_empty {hs : List Int} {ch : Nat} (h : ch < 16) : partF hs ch = [] ↔ ch = 0 := by
  have := empty_fin ⟨ch, h⟩
  unfold partF
  rw [List.map_eq_nil_iff]
  dsimp only at this
  rw [← List.isEmpty_iff]
  constructor
  · intro e
    have e' : (List.range 4).filter (bit ch) = [] := List.isEmpty_iff.mp e
    rw [e'] at this
    simpa using this.symm
  · intro e
    subst e
    decide
theorem isS_mid {hs : List Int} {w : Int} {ch : Nat} (h : ch < 16) : isS (midPy w (partF hs ch)) = decide (ch = 0) := by
  unfold midPy
  by_cases e : ch = 0
  · rw [if_pos ((part_empty h).mpr e), decide_eq_true e]; rfl
  · rw [if_neg (fun q => e ((part_empty h).mp q)), decide_eq_false e]; rfl
theorem strs_of {hs : List Int} {w : Int} : (((List.range 16).map fun ch => midPy w (partF hs ch)).filter isS) = [.str refusal] := by
  rw [List.filter_map]
  have : (List.range 16).filter (isS ∘ fun ch => midPy w (partF hs ch)) = (List.range 16).filter fun ch => decide (ch = 0) := List.filter_congr fun ch hc => isS_mid (by simpa using hc)
  rw [this]
  have e : ((List.range 16).filter fun ch => decide (ch = 0)) = [0] := by decide
  rw [e]
  show [midPy w (partF hs 0)] = _
  unfold midPy
  rw [if_pos ((part_empty (by decide)).mpr rfl)]
theorem mid_kind (w : Int) (ns : List Int) : (∃ i, midPy w ns = .int i) ∨ (∃ x, midPy w ns = .str x) := by
  unfold midPy
  split
  · exact .inr ⟨_, rfl⟩
  · exact .inl ⟨_, rfl⟩
section
variable {c : Cx} {A : Around} {D : List (PyData × PyData)}
/-- the two refusals -/
theorem law7 (G : Gl c) {n : Nat} {sc : List Int} {r : ER} {X₀ : Addr → Prop} {b s : Shared} (hA : Room n A) (T : St c b (fun _ => False) sLaw r X₀ [] (RL7 sc) s) {Q : Flow → Shared → Prop} {E : Value → Shared → Prop}
    (h : ∀ s', St c b (fun _ => False) sLaw r X₀ [] (RL7 sc) s' → wpAny (model c.prog c.w) A (execs ((bodyOf (theDef 65)).drop 9) (En sLaw r)) Q E s') : wpAny (model c.prog c.w) A (execs ((bodyOf (theDef 65)).drop 8) (En sLaw r)) Q E s := by
  have h24 : sizeLine = 16777216 := sizeLine_eq
  refine s_if (t := false) T ?_ (by intro h; cases h) (fun _ s₁ T₁ => wpAny_execs_nil (h s₁ T₁))
  let L : List PyData := ((List.range 16).map fun ch => midPy 0 (partF (hsF sc) ch)) ++ ((List.range 16).map fun ch => midPy 1 (partF (hsF sc) ch))
  have hL : ∀ d ∈ L, (∃ i, d = .int i) ∨ (∃ x, d = .str x) := by
    intro d hd
    rcases List.mem_append.mp hd with hd | hd <;> (obtain ⟨ch, _, rfl⟩ := List.mem_map.mp hd; exact mid_kind _ _)
  have e : (!PyData.eqv (.list [.str refusal, .str refusal]) (.list [.str refusal, .str refusal])) = false := by decide +kernel
  rw [← e]
  refine Tr.cmp ?_ Ev.twice (cm_ne hA (by decide +kernel) (by decide +kernel))
  refine Cmp.evAs (Cmp.nm L id isS id rfl (Src.list hA.hh ((Ev.bin (Ev.var rfl) (Ev.var rfl) (op_ladd (by simp; omega))).as (by rw [List.map_id]))) (fun d hd => .one ?_) (fun d _ _ => Ev.var rfl) (by simp [L]; omega)) hA.hh ?_
  · rcases hL d hd with ⟨i, rfl⟩ | ⟨x, rfl⟩
    · exact Tr.not (b := true) (Tr.bool (Ev.callB (Ev.bi G G.isinstance) (.cons (Ev.var rfl) (.cons (Ev.bi G G.int) .nil)) bi_isint))
    · exact Tr.not (b := false) (Tr.bool (Ev.callB (Ev.bi G G.isinstance) (.cons (Ev.var rfl) (.cons (Ev.bi G G.int) .nil)) bi_isintS))
  · rw [List.map_id, List.filter_append, strs_of, strs_of]; rfl
end
end Mine
end

section -- WLaw7
open PySem PySem.W PyProof.Rows PySem.Spec PySem.Calls
set_option Elab.async false
set_option maxRecDepth 100000
set_option linter.unusedVariables false
namespace Mine
def firstF (us : List Nat) (i : Nat) : List Nat := us.filter fun u => bit u i
def secondF (us : List Nat) (i : Nat) : List Nat := us.filter fun u => !bit u i
def cutF (hs : List Int) (w : Int) (u v : Nat) : Int := midF w (partF hs (u &&& (15 - v)))
def told0 (hs : List Int) (us : List Nat) (i : Nat) : Int := mxI ((firstF us i).map fun u => mnI ((secondF us i).map fun v => cutF hs 0 u v))
def told1 (hs : List Int) (us : List Nat) (i : Nat) : Int := mnI ((secondF us i).map fun v => mxI ((firstF us i).map fun u => cutF hs 1 u v))
theorem upsF_lt {ps : List (Nat × Nat)} : ∀ u ∈ upsF ps, u < 16 := by
  intro u hu
  have := (List.mem_filter.mp hu).1
  simpa using this
theorem bit15 : ∀ i : Fin 4, bit 15 i.val = true := by decide +kernel
theorem bit0 (i : Nat) : bit 0 i = false := by unfold bit; simp
theorem ups_15 {ps : List (Nat × Nat)} (hp : ∀ q ∈ ps, q.1 < 4 ∧ q.2 < 4) : 15 ∈ upsF ps := by
  unfold upsF
  rw [List.mem_filter]
  refine ⟨by decide, ?_⟩
  unfold upB
  rw [List.all_eq_true]
  intro q hq
  rw [bit15 ⟨q.2, (hp q hq).2⟩]
  simp
theorem ups_0 (ps : List (Nat × Nat)) : 0 ∈ upsF ps := by
  unfold upsF
  rw [List.mem_filter]
  refine ⟨by decide, ?_⟩
  unfold upB
  rw [List.all_eq_true]
  intro q hq
  rw [bit0]
  simp
theorem first_ne {ps : List (Nat × Nat)} (hp : ∀ q ∈ ps, q.1 < 4 ∧ q.2 < 4) {i : Nat} (hi : i < 4) : firstF (upsF ps) i ≠ [] := by
  intro e
  have : 15 ∈ firstF (upsF ps) i := List.mem_filter.mpr ⟨ups_15 hp, bit15 ⟨i, hi⟩⟩
  rw [e] at this; cases this
theorem second_ne (ps : List (Nat × Nat)) (i : Nat) : secondF (upsF ps) i ≠ [] := by
  intro e
  have : 0 ∈ secondF (upsF ps) i := List.mem_filter.mpr ⟨ups_0 ps, by rw [bit0]; rfl⟩
  rw [e] at this; cases this
theorem cut_fin : ∀ u v : Fin 16, ∀ i : Fin 4, bit u.val i.val = true → bit v.val i.val = false → (u.val &&& (15 - v.val)) ≠ 0 := by decide +kernel
theorem mid_at {hs : List Int} {w : Int} {u v i : Nat} (hu : u < 16) (hv : v < 16) (hi : i < 4) (h1 : bit u i = true) (h2 : bit v i = false) :
    ((List.range 16).map fun ch => midPy w (partF hs ch))[u &&& (15 - v)]? = some (.int (cutF hs w u v)) := by
  have hlt : u &&& (15 - v) < 16 := and_lt hu
  have hne := cut_fin ⟨u, hu⟩ ⟨v, hv⟩ ⟨i, hi⟩ h1 h2
  dsimp only at hne
  rw [List.getElem?_map, List.getElem?_range hlt]
  show some (midPy w (partF hs (u &&& (15 - v)))) = _
  unfold midPy cutF
  rw [if_neg fun e => hne ((part_empty hlt).mp e)]
section
variable {c : Cx} {A : Around} {sc : Scope} {ρ : Rho} {pos : Pos}
/-- lows[u & 15 - v] -/
theorem Ev.cut {x y z : PySem.Expr} {q1 q2 q3 : Pos} {k : Nat} {hs : List Int} {w : Int} {u v i : Nat} (hx : Ev c A sc ρ x (dL ((List.range 16).map fun ch => midPy w (partF hs ch)))) (hy : Ev c A sc ρ y (dI u)) (hz : Ev c A sc ρ z (dI v)) (hu : u < 16) (hv : v < 16) (hi : i < 4) (h1 : Mine.bit u i = true) (h2 : Mine.bit v i = false) :
    Ev c A sc ρ (.Subscript x (.BinOp y .BitAnd (.BinOp (.Constant (.int 15) k q1) .Sub z q2) q3) pos) (dI (cutF hs w u v)) := by
  refine Ev.at hx ((Ev.bin hy (Ev.bin Ev.intc hz op_sub) op_and).as ?_) (mid_at hu hv hi h1 h2) (by have : u &&& (15 - v) < 16 := and_lt hu; omega)
  have : ((15 : Int) - v) = ((15 - v : Nat) : Int) := by omega
  rw [this, and_is hu (by omega)]
end
end Mine
end

section -- WLaw8
open PySem PySem.W PyProof.Rows PySem.Spec PySem.Calls
set_option Elab.async false
set_option maxRecDepth 100000
set_option linter.unusedVariables false
namespace Mine
section
variable {c : Cx} {A : Around}
abbrev usF (sc : List Int) : List Nat := upsF (psF (drsF sc))
abbrev RL8 (sc : List Int) : Rho := bd "told" (dL [.list ((List.range 4).map fun i => .int (told0 (hsF sc) (usF sc) i)), .list ((List.range 4).map fun i => .int (told1 (hsF sc) (usF sc) i))]) :: RL7 sc
/-- told -/
theorem law8 (G : Gl c) {n : Nat} {sc : List Int} {r : ER} {X₀ : Addr → Prop} {b s : Shared} (hA : Room n A) (T : St c b (fun _ => False) sLaw r X₀ [] (RL7 sc) s) {Q : Flow → Shared → Prop} {E : Value → Shared → Prop}
    (h : ∀ s', St c b (fun _ => False) sLaw r X₀ [] (RL8 sc) s' → wpAny (model c.prog c.w) A (execs ((bodyOf (theDef 65)).drop 11) (En sLaw r)) Q E s') : wpAny (model c.prog c.w) A (execs ((bodyOf (theDef 65)).drop 9) (En sLaw r)) Q E s := by
  have h24 : sizeLine = 16777216 := sizeLine_eq
  have hp := psF_lt sc
  have hul : (usF sc).length ≤ 16 := Nat.le_trans (List.length_filter_le _ _) (by simp)
  have hu16 : ∀ u ∈ usF sc, u < 16 := upsF_lt
  have hf := @first_ne (psF (drsF sc)) hp
  have hs2 := second_ne (psF (drsF sc))
  change ∀ {i : Nat}, i < 4 → firstF (usF sc) i ≠ [] at hf
  change ∀ (i : Nat), secondF (usF sc) i ≠ [] at hs2
  refine s_told T (.inr rfl) rfl fun aT a0 a1 s₁ T₁ => ?_
  have wk : ∀ {s' : Shared} {own : Own} {Y : Addr → Prop} {b' : Shared} {M' : Addr → Prop} {d1 d2 d3 : Dd}, St c b' M' sLaw r Y own (bd "second_sets" d1 :: bd "first_sets" d2 :: bd "i" d3 :: bd "told" (.raw (.ref aT)) :: RL7 sc) s' → St c b' M' sLaw r Y own (bd "told" (.raw (.ref aT)) :: RL7 sc) s' := fun U =>
    U.weak (sub_cons rfl (sub_cons rfl (sub_cons rfl (sub_cons rfl (sub_cons rfl (sub_cons rfl (sub_cons rfl (sub_cons rfl (sub_cons rfl sub_nil)))))))))
  refine s_for (xs := ["i"]) (List.range 4) (fun i => .int i) (fun i => [bd "i" (dI i)])
    (fun pre own ρ => own = [(aT, .vals [.ref a0, .ref a1]), (a1, .data (pre.map fun i => .int (told1 (hsF sc) (usF sc) i))), (a0, .data (pre.map fun i => .int (told0 (hsF sc) (usF sc) i)))] ∧ ρ = bd "told" (.raw (.ref aT)) :: RL7 sc) (fun _ => False)
    T₁ hA.hh rfl (Src.rng G hA.hh Ev.intc (by decide)) (fun i _ => .cell rfl) ⟨rfl, rfl⟩ ?_ ?_ (fun own' ρ' d v s' hd => hd.elim)
  · rintro pre i post own ρ X₁ b' M' s₂ hL ⟨rfl, rfl⟩ U
    have hi : i < 4 := by
      have : i ∈ List.range 4 := by rw [hL]; simp
      simpa using this
    have hpl : pre.length ≤ 4 := by have := congrArg List.length hL; simp at this; omega
    have hb1 : ∀ u ∈ firstF (usF sc) i, u < 16 ∧ bit u i = true := fun u hu => ⟨hu16 u (List.mem_filter.mp hu).1, (List.mem_filter.mp hu).2⟩
    have hb2 : ∀ v ∈ secondF (usF sc) i, v < 16 ∧ bit v i = false := fun v hv => ⟨hu16 v (List.mem_filter.mp hv).1, by simpa using (List.mem_filter.mp hv).2⟩
    have hl1 : (firstF (usF sc) i).length ≤ 16 := Nat.le_trans (List.length_filter_le _ _) hul
    have hl2 : (secondF (usF sc) i).length ≤ 16 := Nat.le_trans (List.length_filter_le _ _) hul
    refine s_assign (d := dL ((firstF (usF sc) i).map fun (u : Nat) => .int u)) U (Cmp.evAs (Cmp.nm (usF sc) (fun (u : Nat) => .int u) (fun u => bit u i) (fun (u : Nat) => .int u) rfl (Src.list hA.hh (Ev.var rfl)) (fun u hu => .one (Tr.bit (hu16 u hu) hi (Ev.var rfl) (Ev.var rfl))) (fun u _ _ => Ev.var rfl) (by omega)) hA.hh rfl) (.inr rfl) rfl rfl fun s₃ U₃ => ?_
    refine s_assign (d := dL ((secondF (usF sc) i).map fun (u : Nat) => .int u)) U₃ (Cmp.evAs (Cmp.nm (usF sc) (fun (u : Nat) => .int u) (fun u => !bit u i) (fun (u : Nat) => .int u) rfl (Src.list hA.hh (Ev.var rfl)) (fun u hu => .one (Tr.not (Tr.bit (hu16 u hu) hi (Ev.var rfl) (Ev.var rfl)))) (fun u _ _ => Ev.var rfl) (by omega)) hA.hh rfl) (.inr rfl) rfl rfl fun s₄ U₄ => ?_
    refine s_appendX (pre := [(aT, .vals [.ref a0, .ref a1]), (a1, .data (pre.map fun i => .int (told1 (hsF sc) (usF sc) i)))]) (post := []) (d := .int (told0 (hsF sc) (usF sc) i)) U₄ (St.item (pre := []) (i := 0) U₄ rfl rfl (by decide)) ?_ (by simp; omega) (fun s₅ U₅ => ?_) _ rfl
    · refine Ev.maxL (ns := (firstF (usF sc) i).map fun u => mnI ((secondF (usF sc) i).map fun v => cutF (hsF sc) 0 u v)) G hA.hh (Cmp.ev (Cmp.nmc (firstF (usF sc) i) (fun (u : Nat) => .int u) (fun _ => true) (fun u => .int (mnI ((secondF (usF sc) i).map fun v => cutF (hsF sc) 0 u v))) rfl (Src.list hA.hh (Ev.var rfl)) (fun _ _ => .nil) (fun u hu _ => ?_) (by omega)) hA.hh) (by rw [filter_true, List.map_map]; rfl) (by simpa using hf hi)
      refine Ev.minL (ns := (secondF (usF sc) i).map fun v => cutF (hsF sc) 0 u v) G hA.hh (Cmp.ev (Cmp.nm (secondF (usF sc) i) (fun (u : Nat) => .int u) (fun _ => true) (fun v => .int (cutF (hsF sc) 0 u v)) rfl (Src.list hA.hh (Ev.var rfl)) (fun _ _ => .nil) (fun v hv _ => ?_) (by omega)) hA.hh) (by rw [filter_true, List.map_map]; rfl) (by simpa using hs2 i)
      exact Ev.cut (Ev.var rfl) (Ev.var rfl) (Ev.var rfl) (hb1 u hu).1 (hb2 v hv).1 hi (hb1 u hu).2 (hb2 v hv).2
    refine s_appendX (pre := [(aT, .vals [.ref a0, .ref a1])]) (d := .int (told1 (hsF sc) (usF sc) i)) U₅ (St.item (pre := []) (i := 1) U₅ rfl rfl (by decide)) ?_ (by simp; omega) (fun s₆ U₆ => wpAny_execs_nil ⟨_, _, ⟨rfl, rfl⟩, ?_⟩) _ rfl
    · refine Ev.minL (ns := (secondF (usF sc) i).map fun v => mxI ((firstF (usF sc) i).map fun u => cutF (hsF sc) 1 u v)) G hA.hh (Cmp.ev (Cmp.nmc (secondF (usF sc) i) (fun (u : Nat) => .int u) (fun _ => true) (fun v => .int (mxI ((firstF (usF sc) i).map fun u => cutF (hsF sc) 1 u v))) rfl (Src.list hA.hh (Ev.var rfl)) (fun _ _ => .nil) (fun v hv _ => ?_) (by omega)) hA.hh) (by rw [filter_true, List.map_map]; rfl) (by simpa using hs2 i)
      refine Ev.maxL (ns := (firstF (usF sc) i).map fun u => cutF (hsF sc) 1 u v) G hA.hh (Cmp.ev (Cmp.nm (firstF (usF sc) i) (fun (u : Nat) => .int u) (fun _ => true) (fun u => .int (cutF (hsF sc) 1 u v)) rfl (Src.list hA.hh (Ev.var rfl)) (fun _ _ => .nil) (fun u hu _ => ?_) (by omega)) hA.hh) (by rw [filter_true, List.map_map]; rfl) (by simpa using hf hi)
      exact Ev.cut (Ev.var rfl) (Ev.var rfl) (Ev.var rfl) (hb1 u hu).1 (hb2 v hv).1 hi (hb1 u hu).2 (hb2 v hv).2
    · rw [List.map_append, List.map_append]
      exact wk U₆
  · rintro own ρ s₂ ⟨rfl, rfl⟩ U
    refine h s₂ ((St.freeze2 (x := "told") U rfl).weak ?_)
    exact sub_cons rfl (sub_cons rfl (sub_cons rfl (sub_cons rfl (sub_cons rfl (sub_cons rfl (sub_cons rfl (sub_cons rfl (sub_cons rfl sub_nil))))))))
end
end Mine
end

section -- WLaw9
open PySem PySem.W PyProof.Rows PySem.Spec PySem.Calls
set_option Elab.async false
set_option maxRecDepth 100000
set_option linter.unusedVariables false
namespace Mine
def row0 (sc : List Int) : List Int := (List.range 4).map (told0 (hsF sc) (usF sc))
def row1 (sc : List Int) : List Int := (List.range 4).map (told1 (hsF sc) (usF sc))
/-- what the plain law must say -/
structure PlainLaw (sc : List Int) : Prop where
  rows : rowsF (hsF sc) (drsF sc) ≠ []
  near : nearPy (hsF sc) (drsF sc) = .list [.list ((row0 sc).map .int), .list ((row1 sc).map .int)]
  lev : ∀ t ∈ hsF sc, bitsPy (levF (hsF sc) (usF sc) t).1 = .list ((row0 sc).map fun x => .bool (decide (t ≤ x))) ∧ bitsPy (levF (hsF sc) (usF sc) t).2 = .list ((row1 sc).map fun x => .bool (decide (t ≤ x)))
theorem told_rows (sc : List Int) : ([.list ((List.range 4).map fun i => .int (told0 (hsF sc) (usF sc) i)), .list ((List.range 4).map fun i => .int (told1 (hsF sc) (usF sc) i))] : List PyData) = [.list ((row0 sc).map .int), .list ((row1 sc).map .int)] := by
  unfold row0 row1
  rw [List.map_map, List.map_map]; rfl
theorem shaped_rows (a b : List Int) : SeqAt.shaped (.list [.list (a.map .int), .list (b.map .int)]) = true := by
  have ha := canLay_ints a
  have hb := canLay_ints b
  unfold SeqAt.shaped
  rw [Bool.and_eq_true]
  refine ⟨?_, decide_eq_true ?_⟩
  · show (PyData.canLayAll0 (a.map .int) && (PyData.canLayAll0 (b.map .int) && true)) = true
    rw [ha.1, hb.1]; rfl
  · simp only [PyData.depth, PyData.depthAll]; omega
theorem canLay_levs (f : Int → Nat × Nat) : ∀ l : List Int, PyData.canLayAll0 (l.map fun t => .list [bitsPy (f t).1, bitsPy (f t).2]) = true ∧ PyData.depthAll (l.map fun t => .list [bitsPy (f t).1, bitsPy (f t).2]) ≤ 10
  | [] => ⟨rfl, by simp [PyData.depthAll]⟩
  | t :: l => by
    have ih := canLay_levs f l
    have h1 : ∀ u, PyData.canLay0 (bitsPy u) = true := fun u => rfl
    have h2 : ∀ u, PyData.depth (bitsPy u) ≤ 3 := fun u => by
      show PyData.depth (.list [.bool (bit u 0), .bool (bit u 1), .bool (bit u 2), .bool (bit u 3)]) ≤ 3
      simp [PyData.depth, PyData.depthAll]
    have a1 := h2 (f t).1
    have a2 := h2 (f t).2
    rw [List.map_cons]
    constructor
    · show (PyData.canLay0 (.list [bitsPy (f t).1, bitsPy (f t).2]) && _) = true
      rw [ih.1]
      rfl
    · simp only [PyData.depth, PyData.depthAll]
      have := ih.2
      omega
theorem shaped_levs (f : Int → Nat × Nat) (l : List Int) : SeqAt.shaped (.list (l.map fun t => .list [bitsPy (f t).1, bitsPy (f t).2])) = true := by
  have h := canLay_levs f l
  unfold SeqAt.shaped
  rw [Bool.and_eq_true]
  exact ⟨h.1, decide_eq_true (by simp only [PyData.depth]; omega)⟩
section
variable {c : Cx} {A : Around}
/-- the end of the law -/
theorem law9 (G : Gl c) {n : Nat} {sc : List Int} (P : PlainLaw sc) {r : ER} {X₀ : Addr → Prop} {b s : Shared} (hA : Room (n + 2) A) (T : St c b (fun _ => False) sLaw r X₀ [] (RL8 sc) s) {Q : Flow → Shared → Prop} {E : Value → Shared → Prop}
    (h : ∀ s', St c b (fun _ => False) sLaw r X₀ [] (RL8 sc) s' → Q (.ret (.bool true)) s') : wpAny (model c.prog c.w) A (execs ((bodyOf (theDef 65)).drop 11) (En sLaw r)) Q E s := by
  have h24 : sizeLine = 16777216 := sizeLine_eq
  have h4 := hsF_len sc
  have hul : (usF sc).length ≤ 16 := Nat.le_trans (List.length_filter_le _ _) (by simp)
  have hune : usF sc ≠ [] := fun e => by have := ups_0 (psF (drsF sc)); rw [show upsF (psF (drsF sc)) = [] from e] at this; cases this
  have hdr : ∀ d ∈ drsF sc, d.k < 3 ∧ d.a < 4 ∧ d.b < 4 := fun d hd => by
    obtain ⟨x, _, rfl⟩ := List.mem_map.mp hd
    exact ⟨(drF_ok x).2.1, (drF_ok x).1, (drF_ok x).2.2⟩
  have hdl : (drsF sc).length ≤ 4 := by unfold drsF; rw [List.length_map, xsF_len]; decide
  have et := told_rows sc
  refine s_if (t := false) T ?_ (by intro h; cases h) (fun _ s₁ T₁ => wpAny_execs_nil ?_)
  · have e : (!PyData.eqv (.list [.list ((row0 sc).map .int), .list ((row1 sc).map .int)]) (.list [.list ((row0 sc).map .int), .list ((row1 sc).map .int)])) = false := by rw [eqv_self (shaped_rows _ _)]; rfl
    rw [← e]
    refine Tr.cmp ((Ev.var rfl).as (by rw [et])) ((Ev.fn G G.near rfl hA (.cons (Ev.var rfl) (.cons (Ev.var rfl) .nil)) (fn_near G h4 hdr hdl P.rows)).as (by rw [P.near])) (cm_ne hA (shaped_rows _ _) (shaped_rows _ _))
  · refine s_return (d := dB true) T₁ ?_ fun v s' T' hr => by rw [hr.bool_inv]; exact h s' T'
    have sh := shaped_levs (levF (hsF sc) (usF sc)) (hsF sc)
    rw [← eqv_self sh]
    refine Ev.cmp (Cmp.evAs (Cmp.nm (hsF sc) (fun t => .int t) (fun _ => true) (fun t => .list [bitsPy (levF (hsF sc) (usF sc) t).1, bitsPy (levF (hsF sc) (usF sc) t).2]) rfl (Src.list hA.hh (Ev.var rfl)) (fun _ _ => .nil)
      (fun t _ _ => Ev.fn G G.lev rfl hA (.cons (Ev.var rfl) (.cons (Ev.var rfl) (.cons (Ev.var rfl) .nil))) (fn_lev G h4 (fun u hu => upsF_lt u hu) hune hul)) (by omega)) hA.hh (by rw [filter_true])) ?_ (cm_eq hA sh sh)
    refine Cmp.evAs (Cmp.nmc (hsF sc) (fun t => .int t) (fun _ => true) (fun t => .list [.list ((row0 sc).map fun x => .bool (decide (t ≤ x))), .list ((row1 sc).map fun x => .bool (decide (t ≤ x)))]) rfl (Src.list hA.hh (Ev.var rfl)) (fun _ _ => .nil) (fun t _ _ => ?_) (by omega)) hA.hh ?_
    · refine Cmp.evAs (Cmp.nm [row0 sc, row1 sc] (fun q => .list (q.map .int)) (fun _ => true) (fun q => .list (q.map fun x => .bool (decide (t ≤ x)))) rfl (Src.list hA.hh ((Ev.var rfl).as (by rw [et]; rfl))) (fun _ _ => .nil) (fun q hq _ => ?_) (by rw [h24]; simp)) hA.hh (by rw [filter_true]; rfl)
      refine Cmp.evAs (Cmp.nm q (fun x => .int x) (fun _ => true) (fun x => .bool (decide (t ≤ x))) rfl (Src.list hA.hh (Ev.var rfl)) (fun _ _ => .nil) (fun x _ _ => Ev.cmp (Ev.var rfl) (Ev.var rfl) cm_ge) ?_) hA.hh (by rw [filter_true])
      have : q.length = 4 := by simp only [List.mem_cons, List.not_mem_nil, or_false] at hq; rcases hq with rfl | rfl <;> simp [row0, row1]
      omega
    · rw [filter_true]
      exact (List.map_congr_left fun t ht => by rw [(P.lev t ht).1, (P.lev t ht).2])
end
end Mine
end

section -- LawCall
open PySem PySem.W PyProof.Rows PySem.Spec PySem.Calls
set_option Elab.async false
set_option maxRecDepth 100000
set_option linter.unusedVariables false
namespace Mine
theorem law_call {c : Cx} {A : Around} {D : List (PyData × PyData)} {C fa : Addr} (G : Gl c) (W : Tab c D) (hD : tabOk D = true) (K : Cls c C) (P : Deep c C) (F : DefAt c fa (nameOf (theDef 65)) ["script"] (bodyOf (theDef 65)) sLaw) {sc : List Int} (hsc : sc.length ≤ 63) (PL : PlainLaw sc)
    (hA : Room 6 A) (hfr : A.frames = some []) {X : Addr → Prop} {s : Shared} {v : Value} (hT : Ext c.h s.heap) (hX : Xok X s.heap) (hv : Rd X s.heap v (dL (sc.map .int))) :
    wpAny (model c.prog c.w) A (call (.ref fa) [v]) (fun u s' => Keeps s s' ∧ u = .bool true) no s := by
  refine wpAny_call (call_at (n := 5) G.ok F (ds := [dL (sc.map .int)]) rfl hA hT hX (.cons hv .nil) fun cd s₀ hA' T => ?_)
  have hst : (A.deeper (En sLaw (frER s fa (nameOf (theDef 65)) sLaw cd))).frames = some [En sLaw (frER s fa (nameOf (theDef 65)) sLaw cd)] := Around.frames_deeper hfr
  refine law1 G hsc hA' T fun s₁ T₁ => ?_
  refine law2 G hsc hA' T₁ fun s₂ T₂ => ?_
  refine law3 (n := 3) G W hD hA' T₂ fun s₃ T₃ => ?_
  refine law4 G hA' T₃ fun s₄ T₄ => ?_
  refine law5 G hA' T₄ fun s₅ T₅ => ?_
  refine law6 (n := 3) G K P hA' hst rfl T₅ fun s₆ T₆ => ?_
  refine law7 G hA' T₆ fun s₇ T₇ => ?_
  refine law8 G hA' T₇ fun s₈ T₈ => ?_
  refine law9 (n := 3) G PL hA' T₈ fun s₉ T₉ => ⟨?_, rfl⟩
  obtain ⟨h', tk, rfl, k⟩ := T₉.chg
  exact ⟨h', tk, rfl, fun b o e => k b o e id⟩
end Mine
end

section -- Gnd
open PySem PySem.W PyProof.Rows PySem.Spec PySem.Calls
set_option Elab.async false
set_option maxRecDepth 100000
set_option linter.unusedVariables false
namespace Mine
def addrOf (K : Frag) (x : Str) : Addr := match nsIn K mainGlobals x with
  | some (some (.ref a)) => a
  | _ => 0
def rowsAt (K : Frag) (a : Addr) : List (Str × PyData) := match K.lookup a with
  | some ⟨_, _, .dict es _, _⟩ => es.toList.filterMap fun e => match e.key, e.val with
    | .str x _, .int i _ => some (x, .int i)
    | _, _ => none
  | _ => []
noncomputable abbrev KH (w : World) : Frag := KK w.params
noncomputable def aT (w : World) : Addr := addrOf (KH w) "EXACT_TOKEN_TYPES"
noncomputable def rowsT (w : World) : List (Str × PyData) := rowsAt (KH w) (aT w)
theorem ns_T (w : World) : nsIn (KH w) mainGlobals "EXACT_TOKEN_TYPES" = some (some (.ref (aT w))) := by kernel_rfl
noncomputable def aC (w : World) : Addr := addrOf (KH w) "StatisticsError"
theorem ns_C (w : World) : nsIn (KH w) mainGlobals "StatisticsError" = some (some (.ref (aC w))) := by kernel_rfl
theorem kts_C (w : World) : ktsIn (KH w) (aC w) "BaseException" = true := by kernel_rfl
theorem look_T (w : World) : KTD.tabLook KTD.flatLooks (fun b => (KH w).lookup b) (aT w) (rowsT w) = true := by kernel_rfl
theorem ok_T (w : World) : tabOk ((rowsT w).map fun p => (PyData.str p.1, p.2)) = true := by kernel_rfl
theorem nodup_T (w : World) : ((rowsT w).map (·.1)).Nodup := of_decide_eq_true (by kernel_rfl)
theorem hash_T (prog : Program) (w : World) : KTD.hashesOf (fun b => (KH w).lookup b) (aT w) = (rowsT w).map fun p => (PySem.strKind prog w).hash p.1 := by kernel_rfl
end Mine
end

section -- Gnd2
open PySem PySem.W PyProof.Rows PySem.Spec PySem.Calls
set_option Elab.async false
set_option maxRecDepth 100000
set_option linter.unusedVariables false
namespace Mine
theorem aC_is (w : World) : aC w = 24 := by kernel_rfl
theorem o24_at (w : World) : (KH w).lookup 24 = some o24 := by kernel_rfl
theorem o24_is : o24 = excClassObj "StatisticsError" "StatisticsError" 24 23 [.type "ValueError"] vErr true [] [] false none none (some (.ref 15)) none (some (.str "StatisticsError" 189)) (some (.str "StatisticsError" 197)) (some (.bool true)) "ValueError.__new__" := by kernel_rfl
theorem ns23 (w : World) : (nsOkIn (KH w) 23 && (nsIn (KH w) 23 "__str__" == some none && nsIn (KH w) 23 "__init__" == some none)) = true := by kernel_rfl
theorem clsAt_of {w : World} {h : Heap} (X : (KH w).In h) : ClsAt h (aC w) := by
  have q := ns23 w
  rw [Bool.and_eq_true, Bool.and_eq_true, beq_iff_eq, beq_iff_eq] at q
  rw [aC_is]
  exact ⟨_, _, _, _, _, _, _, _, _, _, _, _, _, _, _, _, (X _ _ (o24_at w)).trans (congrArg some o24_is), .of_isNs (isNs_of_in X q.1), nsMap_none_of_in X q.1 q.2.1, nsMap_none_of_in X q.1 q.2.2⟩
section
variable {w : World} {h : Heap} {mg mb : Str → Option Value} {mean : ExcName → Option Value} {prog : Program}
noncomputable abbrev lo39 : List Str := looseW Mine.hd.view_39 [Str.ofString "EXACT_TOKEN_TYPES"]
abbrev cx (prog : Program) (w : World) (h : Heap) (mg mb : Str → Option Value) : Cx := ⟨prog, w, h, mg, mb⟩
theorem tab_of' (KX : (KH w).In h) (T : Top Mine.hd.view_39 lo39 mean mg mb h) : Nonempty (Tab (cx prog w h mg mb) ((rowsT w).map fun p => (PyData.str p.1, p.2))) :=
  ⟨⟨aT w, mg_of KX T.g (ns_T w), kt_tab_in prog w KX (look_T w) (nodup_T w) (hash_T prog w)⟩⟩
theorem cls_of (KX : (KH w).In h) (T : Top Mine.hd.view_39 lo39 mean mg mb h) : Cls (cx prog w h mg mb) (aC w) := ⟨mg_of KX T.g (ns_C w), clsAt_of KX⟩
noncomputable def deep_of (KX : (KH w).In h) (T : Top Mine.hd.view_39 lo39 mean mg mb h) : Deep (cx prog w h mg mb) (aC w) := ⟨KH w, Mine.hd.view_39, lo39, mean, KX, T, ns_C w, kts_C w⟩
theorem bi_of (T : Top Mine.hd.view_39 lo39 mean mg mb h) {x : Str} {v : Value} (hb : bootBuiltins x = some v) (h1 : x ∉ startupNames) (h2 : x ∉ lo39) (h3 : x ∉ (recsOf Mine.hd.view_39).map (·.name)) (h4 : x ∉ (litsOf Mine.hd.view_39).map (·.1)) (h5 : x ∉ (clssOf Mine.hd.view_39 lo39).map (·.name)) (hn : x ≠ "__name__") :
    Bi (cx prog w h mg mb) x v := ⟨T.free x h1 h2 h3 h4 h5, (T.builtins x hn).trans hb⟩
/-- the built-ins that the text reads, their names bound nowhere at its top -/
def bNames : List (Str × Value) := [("len", .builtin "len"), ("max", .builtin "max"), ("min", .builtin "min"), ("sum", .builtin "sum"), ("abs", .builtin "abs"), ("sorted", .builtin "sorted"), ("iter", .builtin "iter"), ("isinstance", .builtin "isinstance"), ("range", .type "range"), ("str", .type "str"), ("int", .type "int")]
noncomputable def freeB (x : Str) : Bool := decide (x ∉ startupNames) && (decide (x ∉ lo39) && (decide (x ∉ (recsOf Mine.hd.view_39).map (·.name)) && (decide (x ∉ (litsOf Mine.hd.view_39).map (·.1)) && (decide (x ∉ (clssOf Mine.hd.view_39 lo39).map (·.name)) && decide (x ≠ "__name__")))))
theorem free_all : (bNames.all fun p => freeB p.1) = true := by k_qdec
theorem boot_all : ∀ p ∈ bNames, bootBuiltins p.1 = some p.2 := by decide +kernel
theorem bi_at (T : Top Mine.hd.view_39 lo39 mean mg mb h) (k : Nat) {x : Str} {v : Value} (hk : bNames[k]? = some (x, v)) : Bi (cx prog w h mg mb) x v := by
  have hm := List.mem_of_getElem? hk
  have hf := List.all_eq_true.mp free_all _ hm
  simp only [freeB, Bool.and_eq_true, decide_eq_true_eq] at hf
  exact bi_of T (boot_all _ hm) hf.1 hf.2.1 hf.2.2.1 hf.2.2.2.1 hf.2.2.2.2.1 hf.2.2.2.2.2
theorem fn_of (T : Top Mine.hd.view_39 lo39 mean mg mb h) (k i : Nat) {params : List Str} (hk : (recsOf Mine.hd.view_39)[k]? = some ⟨nameOf (theDef i), paramsOf (theDef i), bodyOf (theDef i), scopeOf (theDef i), (theDef i).pos⟩)
    (hb : ∀ pm cd doc vs, vs.length = params.length → bindArgs (docDef (nameOf (theDef i)) (paramsOf (theDef i)) (bodyOf (theDef i)) (scopeOf (theDef i)) pm cd doc) ⟨vs, []⟩ = pure (params.zip vs))
    (h1 : (scopeOf (theDef i)).kind = .function) (h2 : (scopeOf (theDef i)).isCoroutine = false) (h3 : (scopeOf (theDef i)).isGenerator = false) (h4 : ∀ x ∈ params, (scopeOf (theDef i)).names.lookup x = some .local ∨ (scopeOf (theDef i)).names.lookup x = some .cell) (h5 : params.Nodup) :
    ∃ a, FnIs (cx prog w h mg mb) a i params := by
  obtain ⟨a, o, pm, code, doc, e1, e2, e3, e4⟩ := T.fn _ (List.mem_of_getElem? hk)
  exact ⟨a, e1, ⟨o, paramsOf (theDef i), pm, code, doc, e2, e3, e4, hb pm code doc⟩, h1, h2, h3, h4, h5⟩
theorem int_of (T : Top Mine.hd.view_39 lo39 mean mg mb h) {x : Str} {i : Int} (hv : valOf Mine.hd.view_39 x = some (.int i)) : mg x = some (.int i (match mg x with | some (.int _ t) => t | _ => 0)) := by
  obtain ⟨v, hm, hr⟩ := T.const x _ hv
  cases hr {} with
  | int _ t => rw [hm]
end
end Mine
end

section -- Gnd3
open PySem PySem.W PyProof.Rows PySem.Spec PySem.Calls
set_option Elab.async false
set_option maxRecDepth 100000
set_option linter.unusedVariables false
namespace Mine
theorem len1 {vs : List Value} (h : vs.length = 1) : ∃ a, vs = [a] := List.length_eq_one_iff.mp h
theorem len2 {vs : List Value} (h : vs.length = 2) : ∃ a b, vs = [a, b] := by
  cases vs with
  | nil => cases h
  | cons a vs =>
    obtain ⟨b, rfl⟩ := len1 (Nat.succ.inj h)
    exact ⟨a, b, rfl⟩
theorem len3 {vs : List Value} (h : vs.length = 3) : ∃ a b c, vs = [a, b, c] := by
  cases vs with
  | nil => cases h
  | cons a vs =>
    obtain ⟨b, c, rfl⟩ := len2 (Nat.succ.inj h)
    exact ⟨a, b, c, rfl⟩
section
variable {w : World} {h : Heap} {mg mb : Str → Option Value} {mean : ExcName → Option Value} {prog : Program}
theorem f_low (T : Top Mine.hd.view_39 lo39 mean mg mb h) : ∃ a, FnIs (cx prog w h mg mb) a 2 ["data"] := fn_of T 0 2 rfl (fun pm cd doc vs hl => by obtain ⟨a, rfl⟩ := len1 hl; rfl) rfl rfl rfl (by intro x hx; simp only [List.mem_cons, List.not_mem_nil, or_false] at hx; subst hx; first | exact .inl rfl | exact .inr rfl) (by decide)
theorem f_high (T : Top Mine.hd.view_39 lo39 mean mg mb h) : ∃ a, FnIs (cx prog w h mg mb) a 3 ["data"] := fn_of T 1 3 rfl (fun pm cd doc vs hl => by obtain ⟨a, rfl⟩ := len1 hl; rfl) rfl rfl rfl (by intro x hx; simp only [List.mem_cons, List.not_mem_nil, or_false] at hx; subst hx; first | exact .inl rfl | exact .inr rfl) (by decide)
theorem f_term (T : Top Mine.hd.view_39 lo39 mean mg mb h) : ∃ a, FnIs (cx prog w h mg mb) a 56 ["x"] := fn_of T 2 56 rfl (fun pm cd doc vs hl => by obtain ⟨a, rfl⟩ := len1 hl; rfl) rfl rfl rfl (by intro x hx; simp only [List.mem_cons, List.not_mem_nil, or_false] at hx; subst hx; first | exact .inl rfl | exact .inr rfl) (by decide)
theorem f_non (T : Top Mine.hd.view_39 lo39 mean mg mb h) : ∃ a, FnIs (cx prog w h mg mb) a 57 ["x"] := fn_of T 3 57 rfl (fun pm cd doc vs hl => by obtain ⟨a, rfl⟩ := len1 hl; rfl) rfl rfl rfl (by intro x hx; simp only [List.mem_cons, List.not_mem_nil, or_false] at hx; subst hx; first | exact .inl rfl | exact .inr rfl) (by decide)
theorem f_eof (T : Top Mine.hd.view_39 lo39 mean mg mb h) : ∃ a, FnIs (cx prog w h mg mb) a 58 ["x"] := fn_of T 4 58 rfl (fun pm cd doc vs hl => by obtain ⟨a, rfl⟩ := len1 hl; rfl) rfl rfl rfl (by intro x hx; simp only [List.mem_cons, List.not_mem_nil, or_false] at hx; subst hx; first | exact .inl rfl | exact .inr rfl) (by decide)
theorem f_pairs (T : Top Mine.hd.view_39 lo39 mean mg mb h) : ∃ a, FnIs (cx prog w h mg mb) a 60 ["line"] := fn_of T 5 60 rfl (fun pm cd doc vs hl => by obtain ⟨a, rfl⟩ := len1 hl; rfl) rfl rfl rfl (by intro x hx; simp only [List.mem_cons, List.not_mem_nil, or_false] at hx; subst hx; first | exact .inl rfl | exact .inr rfl) (by decide)
theorem f_middle (T : Top Mine.hd.view_39 lo39 mean mg mb h) : ∃ a, FnIs (cx prog w h mg mb) a 61 ["some", "way"] := fn_of T 6 61 rfl (fun pm cd doc vs hl => by obtain ⟨a, b, rfl⟩ := len2 hl; rfl) rfl rfl rfl (by intro x hx; simp only [List.mem_cons, List.not_mem_nil, or_false] at hx; rcases hx with rfl | rfl <;> first | exact .inl rfl | exact .inr rfl) (by decide)
theorem f_keeps (T : Top Mine.hd.view_39 lo39 mean mg mb h) : ∃ a, FnIs (cx prog w h mg mb) a 62 ["row", "comparisons"] := fn_of T 7 62 rfl (fun pm cd doc vs hl => by obtain ⟨a, b, rfl⟩ := len2 hl; rfl) rfl rfl rfl (by intro x hx; simp only [List.mem_cons, List.not_mem_nil, or_false] at hx; rcases hx with rfl | rfl <;> first | exact .inl rfl | exact .inr rfl) (by decide)
theorem f_near (T : Top Mine.hd.view_39 lo39 mean mg mb h) : ∃ a, FnIs (cx prog w h mg mb) a 63 ["heights", "drawn"] := fn_of T 8 63 rfl (fun pm cd doc vs hl => by obtain ⟨a, b, rfl⟩ := len2 hl; rfl) rfl rfl rfl (by intro x hx; simp only [List.mem_cons, List.not_mem_nil, or_false] at hx; rcases hx with rfl | rfl <;> first | exact .inl rfl | exact .inr rfl) (by decide)
theorem f_lev (T : Top Mine.hd.view_39 lo39 mean mg mb h) : ∃ a, FnIs (cx prog w h mg mb) a 64 ["heights", "uppers", "level"] := fn_of T 9 64 rfl (fun pm cd doc vs hl => by obtain ⟨a, b, c, rfl⟩ := len3 hl; rfl) rfl rfl rfl (by intro x hx; simp only [List.mem_cons, List.not_mem_nil, or_false] at hx; rcases hx with rfl | rfl | rfl <;> first | exact .inl rfl | exact .inr rfl) (by decide)
theorem f_law (T : Top Mine.hd.view_39 lo39 mean mg mb h) : ∃ a, FnIs (cx prog w h mg mb) a 65 ["script"] := fn_of T 10 65 rfl (fun pm cd doc vs hl => by obtain ⟨a, rfl⟩ := len1 hl; rfl) rfl rfl rfl (by intro x hx; simp only [List.mem_cons, List.not_mem_nil, or_false] at hx; subst hx; first | exact .inl rfl | exact .inr rfl) (by decide)
theorem gl_of (T : Top Mine.hd.view_39 lo39 mean mg mb h) : Nonempty (Gl (cx prog w h mg mb)) := by
  obtain ⟨alow, flow⟩ := f_low (prog := prog) (w := w) T
  obtain ⟨ahigh, fhigh⟩ := f_high (prog := prog) (w := w) T
  obtain ⟨aterm, fterm⟩ := f_term (prog := prog) (w := w) T
  obtain ⟨anon, fnon⟩ := f_non (prog := prog) (w := w) T
  obtain ⟨aeof, feof⟩ := f_eof (prog := prog) (w := w) T
  obtain ⟨apairs, fpairs⟩ := f_pairs (prog := prog) (w := w) T
  obtain ⟨amiddle, fmiddle⟩ := f_middle (prog := prog) (w := w) T
  obtain ⟨akeeps, fkeeps⟩ := f_keeps (prog := prog) (w := w) T
  obtain ⟨anear, fnear⟩ := f_near (prog := prog) (w := w) T
  obtain ⟨alev, flev⟩ := f_lev (prog := prog) (w := w) T
  exact ⟨{
    ok := ⟨T.g, T.b, T.nolimit⟩
    len := bi_at T 0 rfl
    max := bi_at T 1 rfl
    min := bi_at T 2 rfl
    sum := bi_at T 3 rfl
    abs := bi_at T 4 rfl
    sorted := bi_at T 5 rfl
    iter := bi_at T 6 rfl
    isinstance := bi_at T 7 rfl
    range := bi_at T 8 rfl
    str := bi_at T 9 rfl
    int := bi_at T 10 rfl
    tk := fun x => match mg x with | some (.int _ t) => t | _ => 0
    endmarker := int_of T (by kernel_rfl)
    semi := int_of T (by kernel_rfl)
    eqeq := int_of T (by kernel_rfl)
    lesseq := int_of T (by kernel_rfl)
    greq := int_of T (by kernel_rfl)
    nt := int_of T (by kernel_rfl)
    aLow := alow
    low := flow
    aHigh := ahigh
    high := fhigh
    aTerm := aterm
    term := fterm
    aNon := anon
    non := fnon
    aEof := aeof
    eof := feof
    aPairs := apairs
    pairs := fpairs
    aMiddle := amiddle
    middle := fmiddle
    aKeeps := akeeps
    keeps := fkeeps
    aNear := anear
    near := fnear
    aLev := alev
    lev := flev
  }⟩
end
end Mine
end

section -- End
open PySem PySem.W PyProof.Rows PySem.Spec PySem.Calls
set_option Elab.async false
set_option maxRecDepth 100000
set_option linter.unusedVariables false
namespace Mine
theorem holds_of (PL : ∀ sc : List Int, sc.length ≤ 63 → PlainLaw sc) : PySem.Challenge.rw_rs0093_01.Holds := by
  rw [← rW_eq]
  refine Mine.hd ?_
  intro w s₀ s₁ mg mb G Y fa o pm cd doc dV kV ho hd hcd hD hmg hg args vals as hpre hlay hrd hwl hlo
  have KX := kIn_of Y
  clear hd hcd
  refine Ground.open G ?_
  intro T B D TE TW
  clear hD
  wrow_args hpre hlay hrd hwl hlo
  rename_i sc _ _ _ _ _ _ _ a vs as' hl ra _ _ hI _ hlen _
  obtain ⟨Gl⟩ := gl_of (prog := rW.row.prog) (w := w) T
  obtain ⟨W⟩ := tab_of' (prog := rW.row.prog) KX T
  obtain ⟨fa', F⟩ := f_law (prog := rW.row.prog) (w := w) T
  have hfa : fa' = fa := by
    have h1 : mg (Str.ofString "law") = some (.ref fa') := F.bound
    have h2 : mg (Str.ofString "law") = some (.ref fa) := hmg
    rw [h1] at h2; cases h2; rfl
  subst hfa
  have hsc : sc.length ≤ 63 := by omega
  have key := law_call (A := callerA) (X := fun _ => False) (s := s₁) (v := .ref a) Gl W (ok_T w) (cls_of KX T) (deep_of KX T) F.d hsc (PL sc hsc) ⟨rfl, by decide +kernel, by decide +kernel⟩ rfl (fun _ _ e => e) (fun _ h => h.elim) (Rd.list hl id (by simpa using IntsAre.rd hI))
  refine wpAny_mono key (fun v s' hk => ?_) fun _ _ f => f.elim
  obtain ⟨⟨h', tk, rfl, k⟩, rfl⟩ := hk
  refine GoodW.toG ⟨.inl ⟨_, _, _, rfl, fun _ => rfl, .bool true, ?_, unshared_nil⟩, k, rfl, hg⟩
  first | kernel_rfl | with_unfolding_all rfl
end Mine
end

section -- P1
set_option Elab.async false
set_option linter.unusedVariables false
namespace Mine
/-- how many lie below -/
def cnt (t : Int) (l : List Int) : Nat := (l.filter fun x => decide (x < t)).length
theorem sum_sg (t : Int) : ∀ l : List Int, (l.map (sgF t)).sum = (l.length : Int) - 2 * (cnt t l : Int)
  | [] => rfl
  | x :: l => by
    rw [List.map_cons, List.sum_cons, sum_sg t l]
    unfold cnt sgF
    rw [List.filter_cons]
    by_cases h : x < t
    · have h' : ¬ t ≤ x := by omega
      simp only [h, h', decide_true, if_true, if_false, List.length_cons]
      omega
    · have h' : t ≤ x := by omega
      simp only [h, h', decide_false, if_true, if_false, List.length_cons, Bool.false_eq_true]
      omega
theorem sum_perm {l m : List Int} (h : l.Perm m) : l.sum = m.sum := by
  induction h with
  | nil => rfl
  | cons x _ ih => simp [ih]
  | swap x y l => simp only [List.sum_cons]; omega
  | trans _ _ ih1 ih2 => rw [ih1, ih2]
theorem cnt_perm {t : Int} {l m : List Int} (h : l.Perm m) : cnt t l = cnt t m := (h.filter _).length_eq
/-- in a rising list the item at place k is not below t just when at most k are below -/
theorem rise_at {t : Int} : ∀ {l : List Int}, l.Pairwise (· ≤ ·) → ∀ k, k < l.length → (t ≤ l.getD k 0 ↔ cnt t l ≤ k)
  | [], _, k, hk => absurd hk (Nat.not_lt_zero _)
  | x :: l, hp, k, hk => by
    rw [List.pairwise_cons] at hp
    have all0 : t ≤ x → cnt t l = 0 := fun h => by
      unfold cnt
      rw [List.length_eq_zero_iff, List.filter_eq_nil_iff]
      intro y hy
      have := hp.1 y hy
      simp; omega
    unfold cnt
    rw [List.filter_cons]
    by_cases h : x < t
    · simp only [h, decide_true, if_true, List.length_cons]
      cases k with
      | zero => simp only [List.getD_cons_zero]; omega
      | succ k =>
        rw [List.getD_cons_succ, rise_at hp.2 k (by simpa using hk)]
        unfold cnt; omega
    · have h' : t ≤ x := by omega
      have e := all0 h'
      unfold cnt at e
      simp only [h, decide_false, Bool.false_eq_true, if_false, e]
      refine ⟨fun _ => Nat.zero_le _, fun _ => ?_⟩
      cases k with
      | zero => simpa using h'
      | succ k =>
        have hk' : k < l.length := by simpa using hk
        rw [List.getD_cons_succ, List.getD_eq_getElem?_getD, List.getElem?_eq_getElem hk', Option.getD_some]
        have := hp.1 _ (List.getElem_mem hk')
        omega
theorem low_ge {t : Int} {S : List Int} (hne : S ≠ []) : t ≤ medLow S ↔ 0 < (S.map (sgF t)).sum := by
  have hpos : 0 < S.length := List.length_pos_iff.mpr hne
  have hl := srt_length S
  rw [sum_sg, ← cnt_perm (srt_perm S)]
  unfold medLow
  split
  · rw [rise_at (srt_sorted S) _ (by omega)]; omega
  · rw [rise_at (srt_sorted S) _ (by omega)]; omega
theorem high_ge {t : Int} {S : List Int} (hne : S ≠ []) : t ≤ medHigh S ↔ 0 ≤ (S.map (sgF t)).sum := by
  have hpos : 0 < S.length := List.length_pos_iff.mpr hne
  have hl := srt_length S
  rw [sum_sg, ← cnt_perm (srt_perm S)]
  unfold medHigh
  rw [rise_at (srt_sorted S) _ (by omega)]
  omega
theorem mem_getD {l : List Int} {k : Nat} (h : k < l.length) : l.getD k 0 ∈ l := by
  rw [List.getD_eq_getElem?_getD, List.getElem?_eq_getElem h, Option.getD_some]
  exact List.getElem_mem h
theorem low_mem {S : List Int} (hne : S ≠ []) : medLow S ∈ S := by
  have hpos : 0 < S.length := List.length_pos_iff.mpr hne
  have hl := srt_length S
  refine (srt_perm S).subset ?_
  unfold medLow
  split <;> exact mem_getD (by omega)
theorem high_mem {S : List Int} (hne : S ≠ []) : medHigh S ∈ S := by
  have hpos : 0 < S.length := List.length_pos_iff.mpr hne
  have hl := srt_length S
  refine (srt_perm S).subset ?_
  unfold medHigh
  exact mem_getD (by omega)
end Mine
end

section -- P2
set_option Elab.async false
set_option linter.unusedVariables false
namespace Mine
theorem bit_and (u v i : Nat) : bit (u &&& v) i = (bit u i && bit v i) := by unfold bit; exact Nat.testBit_and ..
theorem bit_or (u v i : Nat) : bit (u ||| v) i = (bit u i || bit v i) := by unfold bit; exact Nat.testBit_or ..
theorem bit_not_fin : ∀ v : Fin 16, ∀ i : Fin 4, bit (15 - v.val) i.val = !bit v.val i.val := by decide +kernel
theorem bit_not {v i : Nat} (hv : v < 16) (hi : i < 4) : bit (15 - v) i = !bit v i := bit_not_fin ⟨v, hv⟩ ⟨i, hi⟩
/-- one place's part in a gain -/
def gt (hs : List Int) (t : Int) (u i : Nat) : Int := if bit u i then sgF t (hs.getD i 0) else 0
theorem gain4 (hs : List Int) (t : Int) (u : Nat) : gainF hs t u = gt hs t u 0 + gt hs t u 1 + gt hs t u 2 + gt hs t u 3 := by
  unfold gainF gt
  have : List.range 4 = [0, 1, 2, 3] := rfl
  rw [this]
  simp only [List.filter_cons, List.filter_nil]
  cases bit u 0 <;> cases bit u 1 <;> cases bit u 2 <;> cases bit u 3 <;> simp <;> omega
theorem gain_mod (hs : List Int) (t : Int) (u v : Nat) : gainF hs t (u &&& v) + gainF hs t (u ||| v) = gainF hs t u + gainF hs t v := by
  have key : ∀ i, gt hs t (u &&& v) i + gt hs t (u ||| v) i = gt hs t u i + gt hs t v i := by
    intro i
    unfold gt
    rw [bit_and, bit_or]
    cases bit u i <;> cases bit v i <;> simp
  rw [gain4, gain4, gain4, gain4]
  have := key 0; have := key 1; have := key 2; have := key 3
  omega
theorem gain_cut (hs : List Int) (t : Int) {u v : Nat} (hv : v < 16) : gainF hs t (u &&& (15 - v)) = gainF hs t u - gainF hs t (u &&& v) := by
  have key : ∀ i, i < 4 → gt hs t (u &&& (15 - v)) i = gt hs t u i - gt hs t (u &&& v) i := by
    intro i hi
    unfold gt
    rw [bit_and, bit_and, bit_not hv hi]
    cases bit u i <;> cases bit v i <;> simp
  rw [gain4, gain4, gain4]
  have := key 0 (by decide); have := key 1 (by decide); have := key 2 (by decide); have := key 3 (by decide)
  omega
/-- a family of sets, closed under both -/
structure Lat (us : List Nat) : Prop where
  lt : ∀ u ∈ us, u < 16
  and : ∀ u ∈ us, ∀ v ∈ us, u &&& v ∈ us
  or : ∀ u ∈ us, ∀ v ∈ us, u ||| v ∈ us
  full : 15 ∈ us
  none_ : 0 ∈ us
theorem upB_iff {ps : List (Nat × Nat)} {u : Nat} : upB ps u = true ↔ ∀ q ∈ ps, bit u q.1 = true → bit u q.2 = true := by
  unfold upB
  rw [List.all_eq_true]
  constructor
  · intro h q hq hb
    have := h q hq
    rw [hb] at this
    simpa using this
  · intro h q hq
    cases hb : bit u q.1 with
    | false => rfl
    | true => rw [h q hq hb]; rfl
theorem ups_iff {ps : List (Nat × Nat)} {u : Nat} : u ∈ upsF ps ↔ u < 16 ∧ ∀ q ∈ ps, bit u q.1 = true → bit u q.2 = true := by
  unfold upsF
  rw [List.mem_filter, upB_iff]
  simp
theorem lat_ups {ps : List (Nat × Nat)} (hp : ∀ q ∈ ps, q.1 < 4 ∧ q.2 < 4) : Lat (upsF ps) where
  lt := upsF_lt
  and := by
    intro u hu v hv
    rw [ups_iff] at hu hv ⊢
    refine ⟨and_lt hu.1, fun q hq => ?_⟩
    rw [bit_and, bit_and, Bool.and_eq_true, Bool.and_eq_true]
    exact fun h => ⟨hu.2 q hq h.1, hv.2 q hq h.2⟩
  or := by
    intro u hu v hv
    rw [ups_iff] at hu hv ⊢
    refine ⟨or_lt hu.1 hv.1, fun q hq => ?_⟩
    rw [bit_or, bit_or, Bool.or_eq_true, Bool.or_eq_true]
    exact fun h => h.imp (hu.2 q hq) (hv.2 q hq)
  full := ups_15 hp
  none_ := ups_0 ps
section
variable {hs : List Int} {us : List Nat} {t : Int}
def mostF (hs : List Int) (us : List Nat) (t : Int) : Int := mxI (us.map (gainF hs t))
/-- a set of the greatest gain -/
def Big (hs : List Int) (us : List Nat) (t : Int) (u : Nat) : Prop := u ∈ us ∧ gainF hs t u = mostF hs us t
theorem gain_le (L : Lat us) {u : Nat} (hu : u ∈ us) : gainF hs t u ≤ mostF hs us t := by
  have hne : us.map (gainF hs t) ≠ [] := by intro e; rw [List.map_eq_nil_iff] at e; rw [e] at hu; cases hu
  exact (mxI_spec hne).2 _ (List.mem_map.mpr ⟨u, hu, rfl⟩)
theorem big_some (L : Lat us) : ∃ u, Big hs us t u := by
  have hne : us.map (gainF hs t) ≠ [] := by intro e; rw [List.map_eq_nil_iff] at e; have := L.full; rw [e] at this; cases this
  obtain ⟨u, hu, e⟩ := List.mem_map.mp (mxI_spec hne).1
  exact ⟨u, hu, e⟩
theorem big_and (L : Lat us) {u v : Nat} (hu : Big hs us t u) (hv : Big hs us t v) : Big hs us t (u &&& v) := by
  have h1 := gain_mod hs t u v
  have h2 := gain_le (hs := hs) (t := t) L (L.and u hu.1 v hv.1)
  have h3 := gain_le (hs := hs) (t := t) L (L.or u hu.1 v hv.1)
  have h4 := hu.2
  have h5 := hv.2
  exact ⟨L.and u hu.1 v hv.1, by omega⟩
theorem big_or (L : Lat us) {u v : Nat} (hu : Big hs us t u) (hv : Big hs us t v) : Big hs us t (u ||| v) := by
  have h1 := gain_mod hs t u v
  have h2 := gain_le (hs := hs) (t := t) L (L.and u hu.1 v hv.1)
  have h3 := gain_le (hs := hs) (t := t) L (L.or u hu.1 v hv.1)
  have h4 := hu.2
  have h5 := hv.2
  exact ⟨L.or u hu.1 v hv.1, by omega⟩
theorem part_ne {u v i : Nat} (hu : u < 16) (hv : v < 16) (hi : i < 4) (h1 : bit u i = true) (h2 : bit v i = false) : partF hs (u &&& (15 - v)) ≠ [] := fun e => by
  have := cut_fin ⟨u, hu⟩ ⟨v, hv⟩ ⟨i, hi⟩ h1 h2
  exact this ((part_empty (and_lt hu)).mp e)
theorem part_sum (u : Nat) : ((partF hs u).map (sgF t)).sum = gainF hs t u := by
  unfold partF gainF
  rw [List.map_map]; rfl
theorem cut0_ge {u v i : Nat} (hu : u < 16) (hv : v < 16) (hi : i < 4) (h1 : bit u i = true) (h2 : bit v i = false) : t ≤ cutF hs 0 u v ↔ 0 < gainF hs t u - gainF hs t (u &&& v) := by
  have hne := part_ne (hs := hs) hu hv hi h1 h2
  show t ≤ medLow _ ↔ _
  rw [low_ge hne, part_sum, gain_cut hs t hv]
theorem cut1_ge {u v i : Nat} (hu : u < 16) (hv : v < 16) (hi : i < 4) (h1 : bit u i = true) (h2 : bit v i = false) : t ≤ cutF hs 1 u v ↔ 0 ≤ gainF hs t u - gainF hs t (u &&& v) := by
  have hne := part_ne (hs := hs) hu hv hi h1 h2
  show t ≤ medHigh _ ↔ _
  rw [high_ge hne, part_sum, gain_cut hs t hv]
theorem mx_ge {l : List Int} (h : l ≠ []) : t ≤ mxI l ↔ ∃ x ∈ l, t ≤ x := by
  have ⟨a, b⟩ := mxI_spec h
  exact ⟨fun h => ⟨_, a, h⟩, fun ⟨x, hx, h⟩ => Int.le_trans h (b x hx)⟩
theorem mn_ge {l : List Int} (h : l ≠ []) : t ≤ mnI l ↔ ∀ x ∈ l, t ≤ x := by
  have ⟨a, b⟩ := mnI_spec h
  exact ⟨fun h x hx => Int.le_trans h (b x hx), fun h => h _ a⟩
theorem in_first {u i : Nat} : u ∈ firstF us i ↔ u ∈ us ∧ bit u i = true := by unfold firstF; rw [List.mem_filter]
theorem in_second {u i : Nat} : u ∈ secondF us i ↔ u ∈ us ∧ bit u i = false := by unfold secondF; rw [List.mem_filter]; simp
theorem lat_first (L : Lat us) {i : Nat} (hi : i < 4) : firstF us i ≠ [] := fun e => by
  have : 15 ∈ firstF us i := in_first.mpr ⟨L.full, bit15 ⟨i, hi⟩⟩
  rw [e] at this; cases this
theorem lat_second (L : Lat us) (i : Nat) : secondF us i ≠ [] := fun e => by
  have : 0 ∈ secondF us i := in_second.mpr ⟨L.none_, bit0 i⟩
  rw [e] at this; cases this
theorem told0_ge (L : Lat us) {i : Nat} (hi : i < 4) : t ≤ told0 hs us i ↔ ∀ u, Big hs us t u → bit u i = true := by
  unfold told0
  rw [mx_ge (by simpa using lat_first L hi)]
  constructor
  · rintro ⟨x, hx, hge⟩ v hv
    obtain ⟨u, hu, rfl⟩ := List.mem_map.mp hx
    rw [mn_ge (by simpa using lat_second L i)] at hge
    obtain ⟨hu1, hu2⟩ := in_first.mp hu
    cases hb : bit v i with
    | true => rfl
    | false =>
      have := hge _ (List.mem_map.mpr ⟨v, in_second.mpr ⟨hv.1, hb⟩, rfl⟩)
      rw [cut0_ge (L.lt u hu1) (L.lt v hv.1) hi hu2 hb] at this
      have h1 := gain_mod hs t u v
      have h2 := gain_le (hs := hs) (t := t) L (L.or u hu1 v hv.1)
      have h3 := hv.2
      omega
  · intro hall
    obtain ⟨u, hu⟩ := big_some (hs := hs) (t := t) L
    refine ⟨_, List.mem_map.mpr ⟨u, in_first.mpr ⟨hu.1, hall u hu⟩, rfl⟩, ?_⟩
    rw [mn_ge (by simpa using lat_second L i)]
    intro x hx
    obtain ⟨v, hv, rfl⟩ := List.mem_map.mp hx
    obtain ⟨hv1, hv2⟩ := in_second.mp hv
    rw [cut0_ge (L.lt u hu.1) (L.lt v hv1) hi (hall u hu) hv2]
    have hm := L.and u hu.1 v hv1
    have h1 := gain_le (hs := hs) (t := t) L hm
    have h2 := hu.2
    have h3 : gainF hs t (u &&& v) ≠ mostF hs us t := fun e => by
      have := hall _ ⟨hm, e⟩
      rw [bit_and, hv2, Bool.and_false] at this; cases this
    omega
theorem told1_ge (L : Lat us) {i : Nat} (hi : i < 4) : t ≤ told1 hs us i ↔ ∃ u, Big hs us t u ∧ bit u i = true := by
  unfold told1
  rw [mn_ge (by simpa using lat_second L i)]
  constructor
  · intro hall
    obtain ⟨v, hv⟩ := big_some (hs := hs) (t := t) L
    cases hb : bit v i with
    | true => exact ⟨v, hv, hb⟩
    | false =>
      have := hall _ (List.mem_map.mpr ⟨v, in_second.mpr ⟨hv.1, hb⟩, rfl⟩)
      rw [mx_ge (by simpa using lat_first L hi)] at this
      obtain ⟨x, hx, hge⟩ := this
      obtain ⟨u, hu, rfl⟩ := List.mem_map.mp hx
      obtain ⟨hu1, hu2⟩ := in_first.mp hu
      rw [cut1_ge (L.lt u hu1) (L.lt v hv.1) hi hu2 hb] at hge
      have h1 := gain_mod hs t u v
      have h2 := gain_le (hs := hs) (t := t) L (L.or u hu1 v hv.1)
      have h3 := hv.2
      exact ⟨u ||| v, ⟨L.or u hu1 v hv.1, by omega⟩, by rw [bit_or, hu2]; rfl⟩
  · rintro ⟨u, hu, hb⟩ x hx
    obtain ⟨v, hv, rfl⟩ := List.mem_map.mp hx
    obtain ⟨hv1, hv2⟩ := in_second.mp hv
    rw [mx_ge (by simpa using lat_first L hi)]
    refine ⟨_, List.mem_map.mpr ⟨u, in_first.mpr ⟨hu.1, hb⟩, rfl⟩, ?_⟩
    rw [cut1_ge (L.lt u hu.1) (L.lt v hv1) hi hb hv2]
    have h1 := gain_le (hs := hs) (t := t) L (L.and u hu.1 v hv1)
    have h2 := hu.2
    omega
end
end Mine
end

section -- P3
set_option Elab.async false
open PySem PySem.Spec
set_option linter.unusedVariables false
namespace Mine
section
variable {hs : List Int} {us : List Nat} {t : Int}
theorem lev_fold (i : Nat) (hi : i < 4) : ∀ (ks : List Nat) (p : Nat × Nat),
    bit (ks.foldl (levStep hs us t) p).1 i = (bit p.1 i && ks.all fun k => !decide (gainF hs t (us.getD k 0) = mostF hs us t) || bit (us.getD k 0) i) ∧
    bit (ks.foldl (levStep hs us t) p).2 i = (bit p.2 i || ks.any fun k => decide (gainF hs t (us.getD k 0) = mostF hs us t) && bit (us.getD k 0) i)
  | [], p => by simp
  | k :: ks, p => by
    have ih := lev_fold i hi ks (levStep hs us t p k)
    rw [List.foldl_cons, ih.1, ih.2]
    unfold levStep
    by_cases h : gainF hs t (us.getD k 0) = mxI (us.map (gainF hs t))
    · have h' : gainF hs t (us.getD k 0) = mostF hs us t := h
      rw [if_pos h]
      simp only [List.all_cons, List.any_cons, h', decide_true, Bool.not_true, Bool.false_or, Bool.true_and, bit_and, bit_or, Bool.and_assoc, Bool.or_assoc, and_self]
    · have h' : ¬ gainF hs t (us.getD k 0) = mostF hs us t := h
      rw [if_neg h]
      simp only [List.all_cons, List.any_cons, h', decide_false, Bool.not_false, Bool.true_or, Bool.true_and, Bool.false_and, Bool.false_or, and_self]
theorem getD_us {u : Nat} (hu : u ∈ us) : ∃ k, k < us.length ∧ us.getD k 0 = u := by
  obtain ⟨k, hk, e⟩ := List.getElem_of_mem hu
  exact ⟨k, hk, by rw [List.getD_eq_getElem?_getD, List.getElem?_eq_getElem hk, Option.getD_some]; exact e⟩
theorem us_getD {k : Nat} (hk : k < us.length) : us.getD k 0 ∈ us := by
  rw [List.getD_eq_getElem?_getD, List.getElem?_eq_getElem hk, Option.getD_some]; exact List.getElem_mem hk
theorem lev1 {i : Nat} (hi : i < 4) : bit (levF hs us t).1 i = true ↔ ∀ u, Big hs us t u → bit u i = true := by
  unfold levF
  rw [(lev_fold i hi _ _).1, bit15 ⟨i, hi⟩, Bool.true_and, List.all_eq_true]
  constructor
  · rintro h u ⟨hu, hg⟩
    obtain ⟨k, hk, rfl⟩ := getD_us hu
    have := h k (by simpa using hk)
    rw [decide_eq_true hg] at this
    simpa using this
  · intro h k hk
    have hk' : k < us.length := by simpa using hk
    by_cases hg : gainF hs t (us.getD k 0) = mostF hs us t
    · rw [decide_eq_true hg, h _ ⟨us_getD hk', hg⟩]; rfl
    · rw [decide_eq_false hg]; rfl
theorem lev2 {i : Nat} (hi : i < 4) : bit (levF hs us t).2 i = true ↔ ∃ u, Big hs us t u ∧ bit u i = true := by
  unfold levF
  rw [(lev_fold i hi _ _).2, bit0, Bool.false_or, List.any_eq_true]
  constructor
  · rintro ⟨k, hk, h⟩
    have hk' : k < us.length := by simpa using hk
    rw [Bool.and_eq_true, decide_eq_true_eq] at h
    exact ⟨_, ⟨us_getD hk', h.1⟩, h.2⟩
  · rintro ⟨u, ⟨hu, hg⟩, hb⟩
    obtain ⟨k, hk, rfl⟩ := getD_us hu
    exact ⟨k, by simpa using hk, by rw [decide_eq_true hg, hb]; rfl⟩
theorem bits_row0 (L : Lat us) : bitsPy (levF hs us t).1 = .list (((List.range 4).map (told0 hs us)).map fun x => .bool (decide (t ≤ x))) := by
  unfold bitsPy
  rw [List.map_map]
  congr 1
  apply List.map_congr_left
  intro i hi
  have hi' : i < 4 := by simpa using hi
  show PyData.bool _ = PyData.bool _
  congr 1
  have h1 := lev1 (hs := hs) (us := us) (t := t) hi'
  have h2 := told0_ge (hs := hs) (t := t) L hi'
  rw [Bool.eq_iff_iff, decide_eq_true_eq, h1, h2]
theorem bits_row1 (L : Lat us) : bitsPy (levF hs us t).2 = .list (((List.range 4).map (told1 hs us)).map fun x => .bool (decide (t ≤ x))) := by
  unfold bitsPy
  rw [List.map_map]
  congr 1
  apply List.map_congr_left
  intro i hi
  have hi' : i < 4 := by simpa using hi
  show PyData.bool _ = PyData.bool _
  congr 1
  have h1 := lev2 (hs := hs) (us := us) (t := t) hi'
  have h2 := told1_ge (hs := hs) (t := t) L hi'
  rw [Bool.eq_iff_iff, decide_eq_true_eq, h1, h2]
end
end Mine
end

section -- P4
set_option Elab.async false
set_option linter.unusedVariables false
namespace Mine
/-- sums over the levels -/
noncomputable def sumN (f : Nat → Int) : Nat → Int
  | 0 => 0
  | n + 1 => sumN f n + f n
theorem sumN_le {f g : Nat → Int} : ∀ n, (∀ k, k < n → f k ≤ g k) → sumN f n ≤ sumN g n
  | 0, _ => Int.le_refl _
  | n + 1, h => by
    have h1 := sumN_le n fun k hk => h k (Nat.lt_succ_of_lt hk)
    have h2 := h n (Nat.lt_succ_self n)
    show sumN f n + f n ≤ sumN g n + g n
    omega
theorem sumN_tight {f g : Nat → Int} : ∀ n, (∀ k, k < n → f k ≤ g k) → sumN g n ≤ sumN f n → ∀ k, k < n → f k = g k
  | 0, _, _, k, hk => absurd hk (Nat.not_lt_zero _)
  | n + 1, h, e, k, hk => by
    have h0 := fun k hk => h k (Nat.lt_succ_of_lt hk)
    have h1 := sumN_le n h0
    have h2 := h n (Nat.lt_succ_self n)
    have e' : sumN g n + g n ≤ sumN f n + f n := e
    rcases Nat.lt_succ_iff_lt_or_eq.mp hk with hk | rfl
    · exact sumN_tight n h0 (by omega) k hk
    · omega
theorem sumN_add (f g : Nat → Int) : ∀ n, sumN (fun k => f k + g k) n = sumN f n + sumN g n
  | 0 => rfl
  | n + 1 => by
    have := sumN_add f g n
    show sumN (fun k => f k + g k) n + (f n + g n) = (sumN f n + f n) + (sumN g n + g n)
    omega
theorem sumN_sub (f g : Nat → Int) : ∀ n, sumN (fun k => f k - g k) n = sumN f n - sumN g n
  | 0 => rfl
  | n + 1 => by
    have := sumN_sub f g n
    show sumN (fun k => f k - g k) n + (f n - g n) = (sumN f n + f n) - (sumN g n + g n)
    omega
/-- one place's distance, level by level -/
def lvl (lo x y : Int) (k : Nat) : Int := (if lo + 1 + k ≤ y then 1 else 0) - (if lo + 1 + k ≤ x then sgF (lo + 1 + k) y else 0)
def ind (lo x : Int) (k : Nat) : Int := if lo + 1 + k ≤ x then 1 else 0
theorem ind_sum {lo x : Int} (h : lo ≤ x) : ∀ n : Nat, sumN (ind lo x) n = if x ≤ lo + n then x - lo else n
  | 0 => by
    show (0 : Int) = _
    split <;> omega
  | n + 1 => by
    show sumN (ind lo x) n + ind lo x n = _
    rw [ind_sum h n]
    unfold ind
    by_cases h1 : x ≤ lo + n
    · rw [if_pos h1, if_neg (by omega), if_pos (by omega)]; omega
    · rw [if_neg h1, if_pos (by omega)]
      split <;> omega
theorem sg_up {t y : Int} (h : t ≤ y) : sgF t y = 1 := by unfold sgF; rw [if_pos h, if_neg (Int.not_lt.mpr h)]; rfl
theorem sg_dn {t y : Int} (h : ¬ t ≤ y) : sgF t y = -1 := by unfold sgF; rw [if_neg h, if_pos (Int.not_le.mp h)]; rfl
theorem lvl_ge {lo x y : Int} (h : y ≤ x) : lvl lo x y = fun k => ind lo x k - ind lo y k := by
  funext k
  unfold lvl ind
  by_cases h1 : lo + 1 + k ≤ y
  · rw [if_pos h1, if_pos (Int.le_trans h1 h), if_pos (Int.le_trans h1 h), sg_up h1]
  · rw [if_neg h1, sg_dn h1]
    by_cases h2 : lo + 1 + k ≤ x
    · rw [if_pos h2, if_pos h2]; rfl
    · rw [if_neg h2, if_neg h2]
theorem lvl_le {lo x y : Int} (h : x ≤ y) : lvl lo x y = fun k => ind lo y k - ind lo x k := by
  funext k
  unfold lvl ind
  by_cases h2 : lo + 1 + k ≤ x
  · rw [if_pos (Int.le_trans h2 h), if_pos h2, if_pos h2, sg_up (Int.le_trans h2 h)]
  · rw [if_neg h2, if_neg h2]
theorem dist_lvl {lo x y : Int} {n : Nat} (hx : lo ≤ x) (hy : lo ≤ y) (kx : x ≤ lo + n) (ky : y ≤ lo + n) : sumN (lvl lo x y) n = absI (x - y) := by
  unfold absI
  rcases Int.le_total y x with h | h
  · rw [lvl_ge h, sumN_sub, ind_sum hx, ind_sum hy, if_pos kx, if_pos ky, if_neg (by omega)]; omega
  · rw [lvl_le h, sumN_sub, ind_sum hx, ind_sum hy, if_pos kx, if_pos ky]
    split <;> omega
/-- the cost of a row, its gain at a level -/
def rowCost (hs r : List Int) : Int := absI (r.getD 0 0 - hs.getD 0 0) + absI (r.getD 1 0 - hs.getD 1 0) + absI (r.getD 2 0 - hs.getD 2 0) + absI (r.getD 3 0 - hs.getD 3 0)
def gi (hs r : List Int) (t : Int) (i : Nat) : Int := if t ≤ r.getD i 0 then sgF t (hs.getD i 0) else 0
def gr (hs r : List Int) (t : Int) : Int := gi hs r t 0 + gi hs r t 1 + gi hs r t 2 + gi hs r t 3
def ci (hs : List Int) (t : Int) (i : Nat) : Int := if t ≤ hs.getD i 0 then 1 else 0
def cr (hs : List Int) (t : Int) : Int := ci hs t 0 + ci hs t 1 + ci hs t 2 + ci hs t 3
/-- a row that lies within the levels -/
def Within (lo : Int) (n : Nat) (r : List Int) : Prop := ∀ i, i < 4 → lo < r.getD i 0 ∧ r.getD i 0 ≤ lo + n
theorem cost_lvl {lo : Int} {n : Nat} {hs r : List Int} (hh : Within lo n hs) (hr : Within lo n r) : rowCost hs r = sumN (fun k => cr hs (lo + 1 + k) - gr hs r (lo + 1 + k)) n := by
  have one : ∀ i, i < 4 → absI (r.getD i 0 - hs.getD i 0) = sumN (lvl lo (r.getD i 0) (hs.getD i 0)) n := by
    intro i hi
    have h1 := hh i hi
    have h2 := hr i hi
    exact (dist_lvl (Int.le_of_lt h2.1) (Int.le_of_lt h1.1) h2.2 h1.2).symm
  unfold rowCost
  rw [one 0 (by decide), one 1 (by decide), one 2 (by decide), one 3 (by decide), ← sumN_add, ← sumN_add, ← sumN_add]
  congr 1
  funext k
  unfold lvl cr gr ci gi
  omega
/-- rows that keep the pairs -/
def Feas (ps : List (Nat × Nat)) (r : List Int) : Prop := ∀ q ∈ ps, r.getD q.1 0 ≤ r.getD q.2 0
theorem mask_fin : ∀ a b c d : Bool, ∃ u : Fin 16, bit u.val 0 = a ∧ bit u.val 1 = b ∧ bit u.val 2 = c ∧ bit u.val 3 = d := by decide +kernel
theorem mask (p : Nat → Bool) : ∃ u, u < 16 ∧ ∀ i, i < 4 → bit u i = p i := by
  obtain ⟨u, h0, h1, h2, h3⟩ := mask_fin (p 0) (p 1) (p 2) (p 3)
  refine ⟨u.val, u.isLt, fun i hi => ?_⟩
  rcases (by omega : i = 0 ∨ i = 1 ∨ i = 2 ∨ i = 3) with rfl | rfl | rfl | rfl <;> assumption
theorem gr_gain {hs r : List Int} {t : Int} {u : Nat} (h : ∀ i, i < 4 → bit u i = decide (t ≤ r.getD i 0)) : gr hs r t = gainF hs t u := by
  have one : ∀ i, i < 4 → gi hs r t i = gt hs t u i := by
    intro i hi
    unfold gi gt
    rw [h i hi]
    by_cases h : t ≤ r.getD i 0 <;> simp
  rw [gain4]
  unfold gr
  rw [one 0 (by decide), one 1 (by decide), one 2 (by decide), one 3 (by decide)]
section
variable {hs : List Int} {ps : List (Nat × Nat)} {t : Int}
theorem mask_up (hp : ∀ q ∈ ps, q.1 < 4 ∧ q.2 < 4) {r : List Int} (hf : Feas ps r) {u : Nat} (hu : u < 16) (h : ∀ i, i < 4 → bit u i = decide (t ≤ r.getD i 0)) : u ∈ upsF ps := by
  rw [ups_iff]
  refine ⟨hu, fun q hq hb => ?_⟩
  have ⟨h1, h2⟩ := hp q hq
  rw [h _ h1, decide_eq_true_eq] at hb
  rw [h _ h2, decide_eq_true_eq]
  exact Int.le_trans hb (hf q hq)
theorem gr_le (hp : ∀ q ∈ ps, q.1 < 4 ∧ q.2 < 4) {r : List Int} (hf : Feas ps r) : gr hs r t ≤ mostF hs (upsF ps) t := by
  obtain ⟨u, hu, h⟩ := mask fun i => decide (t ≤ r.getD i 0)
  rw [gr_gain h]
  exact gain_le (lat_ups hp) (mask_up hp hf hu h)
theorem gr_big (hp : ∀ q ∈ ps, q.1 < 4 ∧ q.2 < 4) {r : List Int} (hf : Feas ps r) (he : gr hs r t = mostF hs (upsF ps) t) : ∃ u, Big hs (upsF ps) t u ∧ ∀ i, i < 4 → bit u i = decide (t ≤ r.getD i 0) := by
  obtain ⟨u, hu, h⟩ := mask fun i => decide (t ≤ r.getD i 0)
  rw [gr_gain h] at he
  exact ⟨u, ⟨mask_up hp hf hu h, he⟩, h⟩
end
section
variable {hs : List Int} {us : List Nat} {t : Int}
theorem big_least (L : Lat us) : ∃ m, Big hs us t m ∧ ∀ v, Big hs us t v → ∀ i, bit m i = true → bit v i = true := by
  have go : ∀ n u, u ≤ n → Big hs us t u → ∃ m, Big hs us t m ∧ ∀ v, Big hs us t v → ∀ i, bit m i = true → bit v i = true := by
    intro n
    induction n with
    | zero =>
      intro u hu hb
      obtain rfl : u = 0 := by omega
      exact ⟨0, hb, fun v _ i h => by rw [bit0] at h; cases h⟩
    | succ n ih =>
      intro u hu hb
      by_cases h : ∀ v, Big hs us t v → u &&& v = u
      · refine ⟨u, hb, fun v hv i hi => ?_⟩
        rw [← h v hv, bit_and, Bool.and_eq_true] at hi
        exact hi.2
      · obtain ⟨v, hv⟩ := Classical.not_forall.mp h
        obtain ⟨hv, hne⟩ := Classical.not_imp.mp hv
        have : u &&& v ≤ u := Nat.and_le_left
        exact ih (u &&& v) (by omega) (big_and L hb hv)
  obtain ⟨u, hu⟩ := big_some (hs := hs) (t := t) L
  exact go u u (Nat.le_refl _) hu
theorem big_greatest (L : Lat us) : ∃ m, Big hs us t m ∧ ∀ v, Big hs us t v → ∀ i, bit v i = true → bit m i = true := by
  have go : ∀ n u, 16 ≤ u + n → Big hs us t u → ∃ m, Big hs us t m ∧ ∀ v, Big hs us t v → ∀ i, bit v i = true → bit m i = true := by
    intro n
    induction n with
    | zero => intro u hu hb; have := L.lt u hb.1; omega
    | succ n ih =>
      intro u hu hb
      by_cases h : ∀ v, Big hs us t v → u ||| v = u
      · refine ⟨u, hb, fun v hv i hi => ?_⟩
        rw [← h v hv, bit_or, hi, Bool.or_true]
      · obtain ⟨v, hv⟩ := Classical.not_forall.mp h
        obtain ⟨hv, hne⟩ := Classical.not_imp.mp hv
        have : u ≤ u ||| v := Nat.left_le_or
        exact ih (u ||| v) (by omega) (big_or L hb hv)
  obtain ⟨u, hu⟩ := big_some (hs := hs) (t := t) L
  exact go 16 u (by omega) hu
def tRow0 (hs : List Int) (us : List Nat) : List Int := (List.range 4).map (told0 hs us)
def tRow1 (hs : List Int) (us : List Nat) : List Int := (List.range 4).map (told1 hs us)
theorem tRow0_at {i : Nat} (hi : i < 4) : (tRow0 hs us).getD i 0 = told0 hs us i := by
  unfold tRow0
  rw [List.getD_eq_getElem?_getD, List.getElem?_map, List.getElem?_range hi]; rfl
theorem tRow1_at {i : Nat} (hi : i < 4) : (tRow1 hs us).getD i 0 = told1 hs us i := by
  unfold tRow1
  rw [List.getD_eq_getElem?_getD, List.getElem?_map, List.getElem?_range hi]; rfl
theorem gr_told0 (L : Lat us) : gr hs (tRow0 hs us) t = mostF hs us t := by
  obtain ⟨m, hm, hl⟩ := big_least (hs := hs) (t := t) L
  rw [← hm.2]
  refine gr_gain fun i hi => ?_
  rw [tRow0_at hi, Bool.eq_iff_iff, decide_eq_true_eq, told0_ge L hi]
  exact ⟨fun h u hu => hl u hu i h, fun h => h m hm⟩
theorem gr_told1 (L : Lat us) : gr hs (tRow1 hs us) t = mostF hs us t := by
  obtain ⟨m, hm, hl⟩ := big_greatest (hs := hs) (t := t) L
  rw [← hm.2]
  refine gr_gain fun i hi => ?_
  rw [tRow1_at hi, Bool.eq_iff_iff, decide_eq_true_eq, told1_ge L hi]
  exact ⟨fun h => ⟨m, hm, h⟩, fun ⟨u, hu, h⟩ => hl u hu i h⟩
end
section
variable {hs : List Int} {ps : List (Nat × Nat)}
theorem feas0 (hp : ∀ q ∈ ps, q.1 < 4 ∧ q.2 < 4) : Feas ps (tRow0 hs (upsF ps)) := by
  intro q hq
  have ⟨h1, h2⟩ := hp q hq
  have L := lat_ups hp
  rw [tRow0_at h1, tRow0_at h2, told0_ge L h2]
  intro u hu
  have := (told0_ge (hs := hs) (t := told0 hs (upsF ps) q.1) L h1).mp (Int.le_refl _) u hu
  exact (ups_iff.mp hu.1).2 q hq this
theorem feas1 (hp : ∀ q ∈ ps, q.1 < 4 ∧ q.2 < 4) : Feas ps (tRow1 hs (upsF ps)) := by
  intro q hq
  have ⟨h1, h2⟩ := hp q hq
  have L := lat_ups hp
  rw [tRow1_at h1, tRow1_at h2, told1_ge L h2]
  obtain ⟨u, hu, hb⟩ := (told1_ge (hs := hs) (t := told1 hs (upsF ps) q.1) L h1).mp (Int.le_refl _)
  exact ⟨u, hu, (ups_iff.mp hu.1).2 q hq hb⟩
theorem cost_ge {lo : Int} {n : Nat} {r w : List Int} (hp : ∀ q ∈ ps, q.1 < 4 ∧ q.2 < 4) (hh : Within lo n hs) (hr : Within lo n r) (hw : Within lo n w) (hf : Feas ps r) (hb : ∀ t, gr hs w t = mostF hs (upsF ps) t) : rowCost hs w ≤ rowCost hs r := by
  rw [cost_lvl hh hr, cost_lvl hh hw]
  refine sumN_le n fun k _ => ?_
  have := gr_le (hs := hs) (t := lo + 1 + k) hp hf
  rw [hb]
  omega
theorem cost_eq {lo : Int} {n : Nat} {r w : List Int} (hp : ∀ q ∈ ps, q.1 < 4 ∧ q.2 < 4) (hh : Within lo n hs) (hr : Within lo n r) (hw : Within lo n w) (hf : Feas ps r) (hb : ∀ t, gr hs w t = mostF hs (upsF ps) t) (he : rowCost hs r ≤ rowCost hs w) {t : Int} (h1 : lo < t) (h2 : t ≤ lo + n) : gr hs r t = mostF hs (upsF ps) t := by
  rw [cost_lvl hh hr, cost_lvl hh hw] at he
  have := sumN_tight n (f := fun k => cr hs (lo + 1 + k) - gr hs w (lo + 1 + k)) (g := fun k => cr hs (lo + 1 + k) - gr hs r (lo + 1 + k)) (fun k _ => by
    have := gr_le (hs := hs) (t := lo + 1 + k) hp hf
    show cr hs (lo + 1 + k) - gr hs w (lo + 1 + k) ≤ cr hs (lo + 1 + k) - gr hs r (lo + 1 + k)
    rw [hb]
    omega) he (t - lo - 1).toNat (by omega)
  have e : lo + 1 + ((t - lo - 1).toNat : Int) = t := by omega
  simp only [e, hb] at this
  omega
theorem between {lo : Int} {n : Nat} {r w : List Int} (hp : ∀ q ∈ ps, q.1 < 4 ∧ q.2 < 4) (hh : Within lo n hs) (hr : Within lo n r) (hw : Within lo n w) (hf : Feas ps r) (hb : ∀ t, gr hs w t = mostF hs (upsF ps) t) (he : rowCost hs r ≤ rowCost hs w) (ht : Within lo n (tRow0 hs (upsF ps))) {i : Nat} (hi : i < 4) : told0 hs (upsF ps) i ≤ r.getD i 0 ∧ r.getD i 0 ≤ told1 hs (upsF ps) i := by
  have L := lat_ups hp
  constructor
  · have h := ht i hi
    rw [tRow0_at hi] at h
    obtain ⟨u, hu, hbit⟩ := gr_big hp hf (cost_eq hp hh hr hw hf hb he h.1 h.2)
    have := (told0_ge (hs := hs) (t := told0 hs (upsF ps) i) L hi).mp (Int.le_refl _) u hu
    rw [hbit i hi, decide_eq_true_eq] at this
    exact this
  · have h := hr i hi
    obtain ⟨u, hu, hbit⟩ := gr_big hp hf (cost_eq hp hh hr hw hf hb he h.1 h.2)
    rw [told1_ge L hi]
    exact ⟨u, hu, by rw [hbit i hi]; simp⟩
end
end Mine
end

section -- P5
set_option Elab.async false
open PySem PySem.Spec
set_option linter.unusedVariables false
namespace Mine
theorem getD_left {l m : List Int} {k : Nat} (h : k < l.length) : (l ++ m).getD k 0 = l.getD k 0 := by
  rw [List.getD_eq_getElem?_getD, List.getElem?_append_left h, ← List.getD_eq_getElem?_getD]
/-- the cost of the head of a row -/
def pcost (hs q : List Int) : Int := ((List.range q.length).map fun j => absI (q.getD j 0 - hs.getD j 0)).sum
theorem pcost_snoc (hs q : List Int) (x : Int) : pcost hs (q ++ [x]) = pcost hs q + absI (x - hs.getD q.length 0) := by
  unfold pcost
  have e : (List.range q.length).map (fun j => absI ((q ++ [x]).getD j 0 - hs.getD j 0)) = (List.range q.length).map fun j => absI (q.getD j 0 - hs.getD j 0) := by
    apply List.map_congr_left
    intro j hj
    rw [getD_left (by simpa using hj)]
  have e2 : (q ++ [x]).getD q.length 0 = x := by simp
  rw [List.length_append, List.length_singleton, List.range_succ, List.map_append, e, List.map_singleton, e2, List.sum_append]
  simp
theorem absI_nonneg (a : Int) : 0 ≤ absI a := by unfold absI; split <;> omega
theorem costF_nonneg (hs : List Int) (x : Int) : 0 ≤ costF hs x := by
  unfold costF
  induction hs with
  | nil => simp
  | cons y hs ih =>
    rw [List.map_cons, List.sum_cons]
    have := absI_nonneg (x - y)
    omega
theorem bound_mem (hs : List Int) : ∃ x ∈ valsF hs, boundF hs = costF hs x := by
  have hne : (valsF hs).map (costF hs) ≠ [] := by simpa using valsF_ne hs
  obtain ⟨x, hx, e⟩ := List.mem_map.mp (mnI_spec hne).1
  exact ⟨x, hx, e.symm⟩
theorem bound_nonneg (hs : List Int) : 0 ≤ boundF hs := by
  obtain ⟨x, _, e⟩ := bound_mem hs
  rw [e]; exact costF_nonneg hs x
theorem keeps_left {q : List Int} {x : Int} {d : Dr} (h : max d.a d.b < q.length) : keeps1 (q ++ [x]) d = keeps1 q d := by
  unfold keeps1
  rw [getD_left (k := d.a) (by omega), getD_left (k := d.b) (by omega)]
/-- what a row behind i turns is -/
structure RowOk (hs : List Int) (drs : List Dr) (i : Nat) (r : Row) : Prop where
  len : r.2.length = i
  vals : ∀ x ∈ r.2, x ∈ valsF hs
  cost : r.1 = pcost hs r.2
  le : r.1 ≤ boundF hs
  keep : ∀ d ∈ drs, max d.a d.b < i → keeps1 r.2 d = true
theorem rows_iff (hs : List Int) (drs : List Dr) : ∀ (i : Nat) (r : Row), r ∈ (List.range i).foldl (grow hs drs) [(0, [])] ↔ RowOk hs drs i r
  | 0, r => by
    rw [List.range_zero, List.foldl_nil, List.mem_singleton]
    constructor
    · rintro rfl
      exact ⟨rfl, fun x hx => (nomatch hx), rfl, bound_nonneg hs, fun d _ h => absurd h (Nat.not_lt_zero _)⟩
    · intro h
      obtain ⟨a, q⟩ := r
      obtain rfl : q = [] := List.length_eq_zero_iff.mp h.len
      have := h.cost
      have e : a = 0 := this
      rw [e]
  | i + 1, r => by
    rw [List.range_succ, List.foldl_append, List.foldl_cons, List.foldl_nil]
    unfold grow
    rw [List.mem_flatMap]
    constructor
    · rintro ⟨q, hq, hr⟩
      have Q := (rows_iff hs drs i q).mp hq
      unfold grow1 at hr
      obtain ⟨x, hx, rfl⟩ := List.mem_map.mp hr
      obtain ⟨hx1, hx2⟩ := List.mem_filter.mp hx
      unfold okRow at hx2
      rw [Bool.and_eq_true, decide_eq_true_eq] at hx2
      refine ⟨by simp [Q.len], ?_, ?_, hx2.1, ?_⟩
      · intro y hy
        rcases List.mem_append.mp hy with hy | hy
        · exact Q.vals y hy
        · rw [List.mem_singleton.mp hy]; exact hx1
      · show q.1 + absI (x - hs.getD i 0) = pcost hs (q.2 ++ [x])
        rw [pcost_snoc, Q.len, Q.cost]
      · intro d hd hlt
        rcases Nat.lt_succ_iff_lt_or_eq.mp hlt with h | h
        · show keeps1 (q.2 ++ [x]) d = true
          rw [keeps_left (by rw [Q.len]; exact h)]
          exact Q.keep d hd h
        · refine List.all_eq_true.mp hx2.2 d ?_
          unfold nearF
          exact List.mem_filter.mpr ⟨hd, by simpa using h⟩
    · intro h
      obtain ⟨a, w⟩ := r
      have hlen : w.length = i + 1 := h.len
      rcases List.eq_nil_or_concat w with rfl | ⟨q, x, rfl⟩
      · cases hlen
      rw [List.concat_eq_append] at *
      have hq : q.length = i := by simpa using hlen
      have hc : a = pcost hs (q ++ [x]) := h.cost
      rw [pcost_snoc, hq] at hc
      have hle : a ≤ boundF hs := h.le
      have hx : x ∈ valsF hs := h.vals x (by simp)
      refine ⟨(pcost hs q, q), (rows_iff hs drs i _).mpr ⟨hq, fun y hy => h.vals y (by simp [hy]), rfl, ?_, fun d hd hlt => ?_⟩, ?_⟩
      · show pcost hs q ≤ boundF hs
        have := absI_nonneg (x - hs.getD i 0)
        omega
      · have := h.keep d hd (Nat.lt_succ_of_lt hlt)
        rwa [keeps_left (by rw [hq]; exact hlt)] at this
      · unfold grow1
        refine List.mem_map.mpr ⟨x, List.mem_filter.mpr ⟨hx, ?_⟩, by rw [hc]⟩
        unfold okRow
        rw [Bool.and_eq_true, decide_eq_true_eq]
        refine ⟨by show pcost hs q + absI (x - hs.getD i 0) ≤ boundF hs; omega, List.all_eq_true.mpr fun d hd => ?_⟩
        unfold nearF at hd
        obtain ⟨hd1, hd2⟩ := List.mem_filter.mp hd
        have hd2 : max d.a d.b = i := by simpa using hd2
        exact h.keep d hd1 (by omega)
theorem keeps1_iff {q : List Int} {d : Dr} : keeps1 q d = true ↔ ∀ p ∈ prs d, q.getD p.1 0 ≤ q.getD p.2 0 := by
  unfold keeps1 prs
  cases h1 : d.k != 1 <;> cases h2 : d.k != 0 <;> simp
theorem keeps_feas {drs : List Dr} (hok : ∀ d ∈ drs, d.ok) {q : List Int} : (∀ d ∈ drs, max d.a d.b < 4 → keeps1 q d = true) ↔ Feas (psF drs) q := by
  unfold Feas psF
  constructor
  · intro h p hp
    obtain ⟨d, hd, hp⟩ := List.mem_flatMap.mp hp
    have ⟨h1, h2, h3⟩ := hok d hd
    exact keeps1_iff.mp (h d hd (by omega)) p hp
  · intro h d hd _
    exact keeps1_iff.mpr fun p hp => h p (List.mem_flatMap.mpr ⟨d, hd, hp⟩)
theorem mem_vals {hs : List Int} (h4 : hs.length = 4) {x : Int} : x ∈ valsF hs ↔ x ∈ hs := by
  have at_ : ∀ k, k < 4 → hs.getD k 0 ∈ valsF hs := by
    intro k
    induction k using Nat.strongRecOn with
    | ind k ih =>
      intro hk
      by_cases h : hs.getD k 0 ∈ hs.take k
      · obtain ⟨j, hj, e⟩ := List.getElem_of_mem h
        have hj' : j < k := by rw [List.length_take] at hj; omega
        have : hs.getD j 0 = hs.getD k 0 := by
          rw [← e, List.getElem_take, List.getD_eq_getElem?_getD, List.getElem?_eq_getElem (by omega), Option.getD_some]
        rw [← this]
        exact ih j hj' (by omega)
      · unfold valsF
        exact List.mem_map.mpr ⟨k, List.mem_filter.mpr ⟨by simpa using hk, by simpa using h⟩, rfl⟩
  constructor
  · intro h
    unfold valsF at h
    obtain ⟨k, hk, rfl⟩ := List.mem_map.mp h
    have : k < 4 := by simpa using (List.mem_filter.mp hk).1
    exact mem_getD (by omega)
  · intro h
    obtain ⟨j, hj, rfl⟩ := List.getElem_of_mem h
    have := at_ j (by omega)
    rwa [List.getD_eq_getElem?_getD, List.getElem?_eq_getElem hj, Option.getD_some] at this
theorem pcost_row {hs q : List Int} (h : q.length = 4) : pcost hs q = rowCost hs q := by
  unfold pcost rowCost
  rw [h]
  have : List.range 4 = [0, 1, 2, 3] := rfl
  rw [this]
  simp only [List.map_cons, List.map_nil, List.sum_cons, List.sum_nil]
  omega
theorem cost_const {hs : List Int} (h4 : hs.length = 4) (x : Int) : rowCost hs [x, x, x, x] = costF hs x := by
  match hs, h4 with
  | [a, b, c, d], _ =>
    unfold rowCost costF
    simp only [List.getD_cons_zero, List.getD_cons_succ, List.map_cons, List.map_nil, List.sum_cons, List.sum_nil]
    omega
theorem partF_mem {hs : List Int} (h4 : hs.length = 4) {u : Nat} {x : Int} (h : x ∈ partF hs u) : x ∈ hs := by
  unfold partF at h
  obtain ⟨k, hk, rfl⟩ := List.mem_map.mp h
  have : k < 4 := by simpa using (List.mem_filter.mp hk).1
  exact mem_getD (by omega)
section
variable {hs : List Int} {us : List Nat}
theorem told0_mem (h4 : hs.length = 4) (L : Lat us) {i : Nat} (hi : i < 4) : told0 hs us i ∈ hs := by
  unfold told0
  obtain ⟨u, hu, e⟩ := List.mem_map.mp (mxI_spec (l := (firstF us i).map fun u => mnI ((secondF us i).map fun v => cutF hs 0 u v)) (by simpa using lat_first L hi)).1
  rw [← e]
  obtain ⟨v, hv, e⟩ := List.mem_map.mp (mnI_spec (l := (secondF us i).map fun v => cutF hs 0 u v) (by simpa using lat_second L i)).1
  rw [← e]
  obtain ⟨hu1, hu2⟩ := in_first.mp hu
  obtain ⟨hv1, hv2⟩ := in_second.mp hv
  exact partF_mem h4 (low_mem (part_ne (L.lt u hu1) (L.lt v hv1) hi hu2 hv2))
theorem told1_mem (h4 : hs.length = 4) (L : Lat us) {i : Nat} (hi : i < 4) : told1 hs us i ∈ hs := by
  unfold told1
  obtain ⟨v, hv, e⟩ := List.mem_map.mp (mnI_spec (l := (secondF us i).map fun v => mxI ((firstF us i).map fun u => cutF hs 1 u v)) (by simpa using lat_second L i)).1
  rw [← e]
  obtain ⟨u, hu, e⟩ := List.mem_map.mp (mxI_spec (l := (firstF us i).map fun u => cutF hs 1 u v) (by simpa using lat_first L hi)).1
  rw [← e]
  obtain ⟨hu1, hu2⟩ := in_first.mp hu
  obtain ⟨hv1, hv2⟩ := in_second.mp hv
  exact partF_mem h4 (high_mem (part_ne (L.lt u hu1) (L.lt v hv1) hi hu2 hv2))
theorem tRow0_len : (tRow0 hs us).length = 4 := by simp [tRow0]
theorem tRow1_len : (tRow1 hs us).length = 4 := by simp [tRow1]
end
theorem within_of {hs : List Int} (hne : hs ≠ []) {r : List Int} (hl : r.length = 4) (h : ∀ x ∈ r, x ∈ hs) : Within (mnI hs - 1) (mxI hs - mnI hs + 1).toNat r := by
  intro i hi
  have hm := h _ (mem_getD (l := r) (k := i) (by omega))
  have h1 := (mnI_spec hne).2 _ hm
  have h2 := (mxI_spec hne).2 _ hm
  omega
/-- the plain law: the told rows are the least and the greatest of the best rows -/
theorem near_law {hs : List Int} {drs : List Dr} (h4 : hs.length = 4) (hok : ∀ d ∈ drs, d.ok) (hp : ∀ q ∈ psF drs, q.1 < 4 ∧ q.2 < 4) :
    rowsF hs drs ≠ [] ∧ (∀ i, i < 4 → colMin (bestF hs drs) i = told0 hs (upsF (psF drs)) i) ∧ ∀ i, i < 4 → colMax (bestF hs drs) i = told1 hs (upsF (psF drs)) i := by
  have L := lat_ups hp
  have hne : hs ≠ [] := fun e => by rw [e] at h4; cases h4
  have m0 : ∀ x ∈ tRow0 hs (upsF (psF drs)), x ∈ hs := fun x hx => by
    obtain ⟨i, hi, rfl⟩ := List.mem_map.mp hx
    exact told0_mem h4 L (by simpa using hi)
  have m1 : ∀ x ∈ tRow1 hs (upsF (psF drs)), x ∈ hs := fun x hx => by
    obtain ⟨i, hi, rfl⟩ := List.mem_map.mp hx
    exact told1_mem h4 L (by simpa using hi)
  have wh := within_of hne h4 fun x hx => hx
  have w0 := within_of hne tRow0_len m0
  have w1 := within_of hne tRow1_len m1
  have b0 : ∀ t, gr hs (tRow0 hs (upsF (psF drs))) t = mostF hs (upsF (psF drs)) t := fun t => gr_told0 L
  have b1 : ∀ t, gr hs (tRow1 hs (upsF (psF drs))) t = mostF hs (upsF (psF drs)) t := fun t => gr_told1 L
  have full : ∀ r : Row, r ∈ rowsF hs drs ↔ RowOk hs drs 4 r := rows_iff hs drs 4
  have le0 : ∀ q : List Int, q.length = 4 → (∀ x ∈ q, x ∈ hs) → Feas (psF drs) q → rowCost hs (tRow0 hs (upsF (psF drs))) ≤ rowCost hs q := fun q hl hm hf => cost_ge hp wh (within_of hne hl hm) w0 hf b0
  have le1 : ∀ q : List Int, q.length = 4 → (∀ x ∈ q, x ∈ hs) → Feas (psF drs) q → rowCost hs (tRow1 hs (upsF (psF drs))) ≤ rowCost hs q := fun q hl hm hf => cost_ge hp wh (within_of hne hl hm) w1 hf b1
  have e01 : rowCost hs (tRow1 hs (upsF (psF drs))) = rowCost hs (tRow0 hs (upsF (psF drs))) := Int.le_antisymm (le1 _ tRow0_len m0 (feas0 hp)) (le0 _ tRow1_len m1 (feas1 hp))
  have hbound : rowCost hs (tRow0 hs (upsF (psF drs))) ≤ boundF hs := by
    obtain ⟨x, hx, e⟩ := bound_mem hs
    rw [e, ← cost_const h4]
    refine le0 _ rfl (fun y hy => ?_) fun q hq => ?_
    · obtain rfl : y = x := by simpa using hy
      exact (mem_vals h4).mp hx
    · have at_ : ∀ k, k < 4 → ([x, x, x, x] : List Int).getD k 0 = x := fun k hk => by
        rcases (by omega : k = 0 ∨ k = 1 ∨ k = 2 ∨ k = 3) with rfl | rfl | rfl | rfl <;> rfl
      rw [at_ _ (hp q hq).1, at_ _ (hp q hq).2]
      exact Int.le_refl _
  have in0 : (rowCost hs (tRow0 hs (upsF (psF drs))), tRow0 hs (upsF (psF drs))) ∈ rowsF hs drs := (full _).mpr ⟨tRow0_len, fun x hx => (mem_vals h4).mpr (m0 x hx), (pcost_row tRow0_len).symm, hbound, (keeps_feas hok).mpr (feas0 hp)⟩
  have in1 : (rowCost hs (tRow0 hs (upsF (psF drs))), tRow1 hs (upsF (psF drs))) ∈ rowsF hs drs := (full _).mpr ⟨tRow1_len, fun x hx => (mem_vals h4).mpr (m1 x hx), by rw [pcost_row tRow1_len, e01], hbound, (keeps_feas hok).mpr (feas1 hp)⟩
  have of : ∀ r ∈ rowsF hs drs, r.2.length = 4 ∧ (∀ x ∈ r.2, x ∈ hs) ∧ Feas (psF drs) r.2 ∧ r.1 = rowCost hs r.2 := fun r hr => by
    have R := (full r).mp hr
    exact ⟨R.len, fun x hx => (mem_vals h4).mp (R.vals x hx), (keeps_feas hok).mp R.keep, by rw [R.cost, pcost_row R.len]⟩
  have hleast : rowCost hs (tRow0 hs (upsF (psF drs))) = leastF hs drs := by
    refine mnI_eq (List.mem_map.mpr ⟨_, in0, rfl⟩) fun b hb => ?_
    obtain ⟨r, hr, rfl⟩ := List.mem_map.mp hb
    obtain ⟨h1, h2, h3, h5⟩ := of r hr
    rw [h5]
    exact le0 _ h1 h2 h3
  have best : ∀ q ∈ bestF hs drs, ∀ i, i < 4 → told0 hs (upsF (psF drs)) i ≤ q.getD i 0 ∧ q.getD i 0 ≤ told1 hs (upsF (psF drs)) i := by
    intro q hq i hi
    unfold bestF at hq
    obtain ⟨r, hr, rfl⟩ := List.mem_map.mp hq
    obtain ⟨hr, he⟩ := List.mem_filter.mp hr
    obtain ⟨h1, h2, h3, h5⟩ := of r hr
    have he : r.1 = leastF hs drs := by simpa using he
    exact between hp wh (within_of hne h1 h2) w0 h3 b0 (by rw [← h5, he, hleast]; exact Int.le_refl _) w0 hi
  have bm : ∀ q, (rowCost hs (tRow0 hs (upsF (psF drs))), q) ∈ rowsF hs drs → q ∈ bestF hs drs := fun q hq => by
    unfold bestF
    exact List.mem_map.mpr ⟨_, List.mem_filter.mpr ⟨hq, by simpa using hleast⟩, rfl⟩
  refine ⟨fun e => by { rw [e] at in0; cases in0 }, fun i hi => ?_, fun i hi => ?_⟩
  · refine (mnI_eq (List.mem_map.mpr ⟨_, bm _ in0, tRow0_at hi⟩) fun b hb => ?_).symm
    obtain ⟨q, hq, rfl⟩ := List.mem_map.mp hb
    exact (best q hq i hi).1
  · refine (mxI_eq (List.mem_map.mpr ⟨_, bm _ in1, tRow1_at hi⟩) fun b hb => ?_).symm
    obtain ⟨q, hq, rfl⟩ := List.mem_map.mp hb
    exact (best q hq i hi).2
theorem plain_law (sc : List Int) : PlainLaw sc := by
  have hok : ∀ d ∈ drsF sc, d.ok := fun d hd => by
    obtain ⟨x, _, rfl⟩ := List.mem_map.mp hd
    exact drF_ok x
  have hp := psF_lt sc
  have N := near_law (hs := hsF sc) (drs := drsF sc) (hsF_len sc) hok hp
  have L : Lat (usF sc) := lat_ups hp
  have lt4 : ∀ {k : Nat}, k ∈ List.range 4 → k < 4 := fun h => by simpa using h
  have e1 : ((List.range 4).map fun i => PyData.int (colMin (bestF (hsF sc) (drsF sc)) i)) = (row0 sc).map .int := by
    unfold row0
    rw [List.map_map]
    exact List.map_congr_left fun i hi => congrArg PyData.int (N.2.1 i (lt4 hi))
  have e2 : ((List.range 4).map fun i => PyData.int (colMax (bestF (hsF sc) (drsF sc)) i)) = (row1 sc).map .int := by
    unfold row1
    rw [List.map_map]
    exact List.map_congr_left fun i hi => congrArg PyData.int (N.2.2 i (lt4 hi))
  refine ⟨N.1, ?_, fun t _ => ⟨?_, ?_⟩⟩
  · unfold nearPy
    rw [e1, e2]
  · exact bits_row0 L
  · exact bits_row1 L
end Mine
end

theorem PySem.Challenge.cw_rs0093_01_holds : PySem.Challenge.rw_rs0093_01.Holds :=
  Mine.holds_of fun sc _ => Mine.plain_law sc
